import JvmDerived
import JvmDerived.Pilot.@@N@@Statement
import JvmDerived.Pilot.@@N@@Code
set_option linter.unusedVariables false
set_option linter.unusedSimpArgs false
namespace Jvm.RoadKit
open Sem ClassFile Op Lib Jvm.Stand Jvm.Free Jvm.LawKit
section New
variable {p : Program} {l : Launch} {e : Env} {R : Room} {s : State} {m : MethodId} {args : Array Value} {below : List Frame} {meth : Method} {c : Code} {T : State} {locs : List Loc} {cells slots : Nat}
theorem retI (X : Stand p l e R s m args below meth c T locs cells slots) (hx : p.tables.exec = Jvm.exec) {pc : Nat} {Ls : Array Slot} {z : Int32} {rest : List Value} (hret : meth.sig.returnType = some .int) (hd : decode c.code pc = .ok (.ireturn, 1)) {fs : List Frame}
    (hl : ∀ (f : JFrame) (acts : List Action), f.method = m → f.locked = none → f.entered = [] → (doReturn e (T.setTop f) acts (some (.int z))).1 = T.setFrames fs) : Steps p.tables e below (T.setTop (mkF m pc Ls (.int z :: rest))) (T.setFrames fs) := by
  have hm' : T.vm.method? m = some meth := X.method'
  have hn : narrow .int (.int z) = .int z := rfl
  show Steps p.tables e below (T.setTop { method := m, pc := pc, locals := Ls, stack := _ :: rest, locked := none }) _
  jvm_step X.here [X.here.top, hx, hd, hm', hret, hn]
  first | (intro acts; rw [hl _ acts rfl rfl rfl]) | rw [hl _ _ rfl rfl rfl]
  exact Steps.refl _
end New
end Jvm.RoadKit
namespace Jvm.Pilot.@@N@@
open Jvm Jvm.ClassFile Sem Op Lib Jvm.Free Jvm.Stand Jvm.LawKit Jvm.RoadKit Bundle Jvm.Pilot.@@N@@.Jvm.D
def QP (w : Option Value) (h0 : Heap) (n0 : Nat) (v : Option Value) (h : Heap) (L : List Loc) : Prop := v = w ∧ Fr n0 L ∧ h = h0
def QL (n0 : Nat) (v : Option Value) (h : Heap) (L : List Loc) : Prop := v = some (.int (1 : Int32)) ∧ Fr n0 L
theorem own_stJ {p : Program} {l : Launch} {e : Env} {R : Room} {s : State} {m : MethodId} {args : Array Value} {below : List Frame} {meth : Method} {c : Code} {T : State} {locs : List Loc} {cells slots : Nat} {Z : State} {h : Heap} {a : Addr} {k : ClassId} {z : Int32} {vs : List Value} {dv : Value} {n0 : Nat}
    (X : Stand p l e R s m args below meth c T locs cells slots) (hx : p.tables.exec = Jvm.exec) (hZ : Z.Warmed39 s.vm) (eT : T.heap = h) (V : Arv Z h a k .long z vs dv) {j : Int32} {x : Int64} (hj : ¬ j < 0 ∧ j < z) {i : Nat} (hi : j.toNatClampNeg = i) (hl : i < vs.length) (N : Fr n0 locs) (ga : n0 ≤ a) {g : JFrame} (hg : g.method = m) {rest : List Value} (hs : g.stack = .long x :: .int j :: .ref a :: rest) (hd : decode c.code g.pc = .ok (.lastore, 1)) :
    ∃ T' h' L', Stand p l e R s m args below meth c T' L' cells slots ∧ T'.heap = h' ∧ Fr n0 L' ∧ Wr h h' a j.toNatClampNeg (.long x) ∧ Arv Z h' a k .long z (vs.set i (.long x)) dv ∧ ∀ target, Steps p.tables e below (T'.setTop { g with pc := g.pc + 1, stack := rest }) target → Steps p.tables e below (T.setTop g) target := by
  obtain ⟨cl, A, q1, S, q3, H, G⟩ := V
  obtain ⟨T', h', X', e', W, st⟩ := stJ X hx hZ eT A (inb_of S hj) hg hs hd
  exact ⟨T', h', _, X', e', Fr.snoc X' N ga, W, Arv.set A q1 S q3 H G rfl W i hi hl, st⟩
theorem own_stI {p : Program} {l : Launch} {e : Env} {R : Room} {s : State} {m : MethodId} {args : Array Value} {below : List Frame} {meth : Method} {c : Code} {T : State} {locs : List Loc} {cells slots : Nat} {Z : State} {h : Heap} {a : Addr} {k : ClassId} {z : Int32} {vs : List Value} {dv : Value} {n0 : Nat}
    (X : Stand p l e R s m args below meth c T locs cells slots) (hx : p.tables.exec = Jvm.exec) (hZ : Z.Warmed39 s.vm) (eT : T.heap = h) (V : Arv Z h a k .int z vs dv) {j : Int32} {x : Int32} (hj : ¬ j < 0 ∧ j < z) {i : Nat} (hi : j.toNatClampNeg = i) (hl : i < vs.length) (N : Fr n0 locs) (ga : n0 ≤ a) {g : JFrame} (hg : g.method = m) {rest : List Value} (hs : g.stack = .int x :: .int j :: .ref a :: rest) (hd : decode c.code g.pc = .ok (.iastore, 1)) :
    ∃ T' h' L', Stand p l e R s m args below meth c T' L' cells slots ∧ T'.heap = h' ∧ Fr n0 L' ∧ Wr h h' a j.toNatClampNeg (.int x) ∧ Arv Z h' a k .int z (vs.set i (.int x)) dv ∧ ∀ target, Steps p.tables e below (T'.setTop { g with pc := g.pc + 1, stack := rest }) target → Steps p.tables e below (T.setTop g) target := by
  obtain ⟨cl, A, q1, S, q3, H, G⟩ := V
  obtain ⟨T', h', X', e', W, st⟩ := stI X hx hZ eT A (inb_of S hj) hg hs hd
  exact ⟨T', h', _, X', e', Fr.snoc X' N ga, W, Arv.set A q1 S q3 H G rfl W i hi hl, st⟩
theorem own_stB {p : Program} {l : Launch} {e : Env} {R : Room} {s : State} {m : MethodId} {args : Array Value} {below : List Frame} {meth : Method} {c : Code} {T : State} {locs : List Loc} {cells slots : Nat} {Z : State} {h : Heap} {a : Addr} {k : ClassId} {z : Int32} {vs : List Value} {dv : Value} {n0 : Nat}
    (X : Stand p l e R s m args below meth c T locs cells slots) (hx : p.tables.exec = Jvm.exec) (hZ : Z.Warmed39 s.vm) (eT : T.heap = h) (V : Arv Z h a k .byte z vs dv) {j : Int32} {x : Int32} (hj : ¬ j < 0 ∧ j < z) {i : Nat} (hi : j.toNatClampNeg = i) (hl : i < vs.length) (N : Fr n0 locs) (ga : n0 ≤ a) {g : JFrame} (hg : g.method = m) {rest : List Value} (hs : g.stack = .int x :: .int j :: .ref a :: rest) (hd : decode c.code g.pc = .ok (.bastore, 1)) :
    ∃ T' h' L', Stand p l e R s m args below meth c T' L' cells slots ∧ T'.heap = h' ∧ Fr n0 L' ∧ Wr h h' a j.toNatClampNeg (.int (nar .byte x)) ∧ Arv Z h' a k .byte z (vs.set i (.int (nar .byte x))) dv ∧ ∀ target, Steps p.tables e below (T'.setTop { g with pc := g.pc + 1, stack := rest }) target → Steps p.tables e below (T.setTop g) target := by
  obtain ⟨cl, A, q1, S, q3, H, G⟩ := V
  obtain ⟨T', h', X', e', W, st⟩ := stB X hx hZ eT A (inb_of S hj) hg hs hd
  exact ⟨T', h', _, X', e', Fr.snoc X' N ga, W, Arv.set A q1 S q3 H G (fits_nar_byte _) W i hi hl, st⟩
theorem own_stC {p : Program} {l : Launch} {e : Env} {R : Room} {s : State} {m : MethodId} {args : Array Value} {below : List Frame} {meth : Method} {c : Code} {T : State} {locs : List Loc} {cells slots : Nat} {Z : State} {h : Heap} {a : Addr} {k : ClassId} {z : Int32} {vs : List Value} {dv : Value} {n0 : Nat}
    (X : Stand p l e R s m args below meth c T locs cells slots) (hx : p.tables.exec = Jvm.exec) (hZ : Z.Warmed39 s.vm) (eT : T.heap = h) (V : Arv Z h a k .char z vs dv) {j : Int32} {x : Int32} (hj : ¬ j < 0 ∧ j < z) {i : Nat} (hi : j.toNatClampNeg = i) (hl : i < vs.length) (N : Fr n0 locs) (ga : n0 ≤ a) {g : JFrame} (hg : g.method = m) {rest : List Value} (hs : g.stack = .int x :: .int j :: .ref a :: rest) (hd : decode c.code g.pc = .ok (.castore, 1)) :
    ∃ T' h' L', Stand p l e R s m args below meth c T' L' cells slots ∧ T'.heap = h' ∧ Fr n0 L' ∧ Wr h h' a j.toNatClampNeg (.int (nar .char x)) ∧ Arv Z h' a k .char z (vs.set i (.int (nar .char x))) dv ∧ ∀ target, Steps p.tables e below (T'.setTop { g with pc := g.pc + 1, stack := rest }) target → Steps p.tables e below (T.setTop g) target := by
  obtain ⟨cl, A, q1, S, q3, H, G⟩ := V
  obtain ⟨T', h', X', e', W, st⟩ := stC X hx hZ eT A (inb_of S hj) hg hs hd
  exact ⟨T', h', _, X', e', Fr.snoc X' N ga, W, Arv.set A q1 S q3 H G (fits_nar_char _) W i hi hl, st⟩
theorem own_ldJ {p : Program} {l : Launch} {e : Env} {R : Room} {s : State} {m : MethodId} {args : Array Value} {below : List Frame} {meth : Method} {c : Code} {T : State} {locs : List Loc} {cells slots : Nat} {Z : State} {h : Heap} {a : Addr} {k : ClassId} {z : Int32} {vs : List Value} {dv : Value} {w : Int64}
    (X : Stand p l e R s m args below meth c T locs cells slots) (hx : p.tables.exec = Jvm.exec) (hZ : Z.Warmed39 s.vm) (eT : T.heap = h) (V : Arv Z h a k .long z vs dv) {j : Int32} (hj : ¬ j < 0 ∧ j < z) (hv : vs.getD j.toNatClampNeg dv = .long w) {g : JFrame} (hg : g.method = m) {rest : List Value} (hs : g.stack = .int j :: .ref a :: rest) (hd : decode c.code g.pc = .ok (.laload, 1)) {target : State} (hr : Steps p.tables e below (T.setTop { g with pc := g.pc + 1, stack := .long w :: rest }) target) : Steps p.tables e below (T.setTop g) target := by
  obtain ⟨cl, A, q1, S, q3, H, G⟩ := V
  have hin := inb_of S hj
  exact X.laload hx (j := j) (v := .long w) (by rw [eT]; exact A.1) (State.isArrayOf_alike hZ.alike A.2.1) A.2.2 hin (H.at hin hv) (g := g) hg hs hd _ hr
theorem own_ldI {p : Program} {l : Launch} {e : Env} {R : Room} {s : State} {m : MethodId} {args : Array Value} {below : List Frame} {meth : Method} {c : Code} {T : State} {locs : List Loc} {cells slots : Nat} {Z : State} {h : Heap} {a : Addr} {k : ClassId} {z : Int32} {vs : List Value} {dv : Value} {w : Int32}
    (X : Stand p l e R s m args below meth c T locs cells slots) (hx : p.tables.exec = Jvm.exec) (hZ : Z.Warmed39 s.vm) (eT : T.heap = h) (V : Arv Z h a k .int z vs dv) {j : Int32} (hj : ¬ j < 0 ∧ j < z) (hv : vs.getD j.toNatClampNeg dv = .int w) {g : JFrame} (hg : g.method = m) {rest : List Value} (hs : g.stack = .int j :: .ref a :: rest) (hd : decode c.code g.pc = .ok (.iaload, 1)) {target : State} (hr : Steps p.tables e below (T.setTop { g with pc := g.pc + 1, stack := .int w :: rest }) target) : Steps p.tables e below (T.setTop g) target := by
  obtain ⟨cl, A, q1, S, q3, H, G⟩ := V
  have hin := inb_of S hj
  exact X.iaload hx (j := j) (v := .int w) (by rw [eT]; exact A.1) (State.isArrayOf_alike hZ.alike A.2.1) A.2.2 hin (H.at hin hv) (g := g) hg hs hd _ hr
theorem own_ldB {p : Program} {l : Launch} {e : Env} {R : Room} {s : State} {m : MethodId} {args : Array Value} {below : List Frame} {meth : Method} {c : Code} {T : State} {locs : List Loc} {cells slots : Nat} {Z : State} {h : Heap} {a : Addr} {k : ClassId} {z : Int32} {vs : List Value} {dv : Value} {w : Int32}
    (X : Stand p l e R s m args below meth c T locs cells slots) (hx : p.tables.exec = Jvm.exec) (hZ : Z.Warmed39 s.vm) (eT : T.heap = h) (V : Arv Z h a k .byte z vs dv) {j : Int32} (hj : ¬ j < 0 ∧ j < z) (hv : vs.getD j.toNatClampNeg dv = .int w) {g : JFrame} (hg : g.method = m) {rest : List Value} (hs : g.stack = .int j :: .ref a :: rest) (hd : decode c.code g.pc = .ok (.baload, 1)) {target : State} (hr : Steps p.tables e below (T.setTop { g with pc := g.pc + 1, stack := .int w :: rest }) target) : Steps p.tables e below (T.setTop g) target := by
  obtain ⟨cl, A, q1, S, q3, H, G⟩ := V
  have hin := inb_of S hj
  exact X.baloadBytes hx (j := j) (v := .int w) (by rw [eT]; exact A.1) (State.isArrayOf_alike hZ.alike A.2.1) A.2.2 hin (H.at hin hv) (g := g) hg hs hd _ hr
theorem own_ldC {p : Program} {l : Launch} {e : Env} {R : Room} {s : State} {m : MethodId} {args : Array Value} {below : List Frame} {meth : Method} {c : Code} {T : State} {locs : List Loc} {cells slots : Nat} {Z : State} {h : Heap} {a : Addr} {k : ClassId} {z : Int32} {vs : List Value} {dv : Value} {w : Int32}
    (X : Stand p l e R s m args below meth c T locs cells slots) (hx : p.tables.exec = Jvm.exec) (hZ : Z.Warmed39 s.vm) (eT : T.heap = h) (V : Arv Z h a k .char z vs dv) {j : Int32} (hj : ¬ j < 0 ∧ j < z) (hv : vs.getD j.toNatClampNeg dv = .int w) {g : JFrame} (hg : g.method = m) {rest : List Value} (hs : g.stack = .int j :: .ref a :: rest) (hd : decode c.code g.pc = .ok (.caload, 1)) {target : State} (hr : Steps p.tables e below (T.setTop { g with pc := g.pc + 1, stack := .int w :: rest }) target) : Steps p.tables e below (T.setTop g) target := by
  obtain ⟨cl, A, q1, S, q3, H, G⟩ := V
  have hin := inb_of S hj
  exact X.caload hx (j := j) (v := .int w) (by rw [eT]; exact A.1) (State.isArrayOf_alike hZ.alike A.2.1) A.2.2 hin (H.at hin hv) (g := g) hg hs hd _ hr
theorem own_len {p : Program} {l : Launch} {e : Env} {R : Room} {s : State} {m : MethodId} {args : Array Value} {below : List Frame} {meth : Method} {c : Code} {T : State} {locs : List Loc} {cells slots : Nat} {Z : State} {h : Heap} {a : Addr} {k : ClassId} {ty : FieldType} {z : Int32} {vs : List Value} {dv : Value}
    (X : Stand p l e R s m args below meth c T locs cells slots) (hx : p.tables.exec = Jvm.exec) (hZ : Z.Warmed39 s.vm) (eT : T.heap = h) (V : Arv Z h a k ty z vs dv) {g : JFrame} (hg : g.method = m) {rest : List Value} (hs : g.stack = .ref a :: rest) (hd : decode c.code g.pc = .ok (.arraylength, 1)) {target : State} (hr : Steps p.tables e below (T.setTop { g with pc := g.pc + 1, stack := .int z :: rest }) target) : Steps p.tables e below (T.setTop g) target := by
  obtain ⟨cl, A, q1, S, q3, H, G⟩ := V
  refine X.arraylength hx (by rw [eT]; exact A.1) (State.isArrayOf_alike hZ.alike A.2.1) (g := g) hg hs hd _ ?_
  rw [len_of S q3]; exact hr
abbrev sH : String := "com/example/rootline/rootline/reach/HolderSets"
abbrev sT : String := "com/example/rootline/rootline/heap/LongIntTable"
def upd {α : Type} (f : Nat → α) (j : Nat) (x : α) : Nat → α := fun i => if i = j then x else f i
def AI (Z : State) (h : Heap) (a : Addr) (f : Nat → Int32) : Prop := ∃ cl : Cell, Arr Z h a cl .int ∧ cl.slots.size = 64 ∧ ∀ j, j < 64 → cl.slots[j]? = some (.int (f j))
theorem AI.lt {Z : State} {h : Heap} {a : Addr} {f : Nat → Int32} (F : AI Z h a f) : a < h.size := by obtain ⟨c, A, -⟩ := F; exact A.lt
theorem AI.ext {Z : State} {h h' : Heap} {a : Addr} {f : Nat → Int32} (F : AI Z h a f) (E : Ext h h') : AI Z h' a f := by obtain ⟨c, A, r⟩ := F; exact ⟨c, A.ext E, r⟩
theorem AI.other {Z : State} {h h' : Heap} {a b : Addr} {f : Nat → Int32} {sl : Nat} {v : Value} (F : AI Z h b f) (W : Wr h h' a sl v) (q : b ≠ a) : AI Z h' b f := by obtain ⟨c, A, r⟩ := F; exact ⟨c, A.other W q, r⟩
theorem AI.keep {Z : State} {h h' : Heap} {a : Addr} {f : Nat → Int32} {ws : List Addr} (F : AI Z h a f) (K : Keep h h' ws) (q : a ∉ ws) : AI Z h' a f := by obtain ⟨c, A, r⟩ := F; exact ⟨c, ⟨K.2.1 a c A.1 q, A.2⟩, r⟩
theorem AI.new {Z : State} {h : Heap} {a : Addr} {k : ClassId} (A : Arr Z h a (newA k .int (64 : Int32)) .int) : AI Z h a (fun _ => (0 : Int32)) := by
  obtain ⟨c, A', -, q2, -, q4, -⟩ := Arv.new A (by decide)
  have q3 : c.slots.size = 64 := q2
  exact ⟨c, A', q3, fun j hj => by rw [q4 j (by omega)]; rfl⟩
theorem AI.ld {p : Program} {l : Launch} {e : Env} {R : Room} {s : State} {m : MethodId} {args : Array Value} {below : List Frame} {meth : Method} {c : Code} {T : State} {locs : List Loc} {cells slots : Nat} {Z : State} {h : Heap} {a : Addr} {f : Nat → Int32} (X : Stand p l e R s m args below meth c T locs cells slots) (hx : p.tables.exec = Jvm.exec) (hZ : Z.Warmed39 s.vm) (eT : T.heap = h) (F : AI Z h a f) {j : Int32} (hj : 0 ≤ j.toInt ∧ j.toInt < 64) {g : JFrame} (hg : g.method = m) {rest : List Value} (hs : g.stack = .int j :: .ref a :: rest) (hd : decode c.code g.pc = .ok (.iaload, 1)) {target : State} (hr : Steps p.tables e below (T.setTop { g with pc := g.pc + 1, stack := .int (f j.toNatClampNeg) :: rest }) target) : Steps p.tables e below (T.setTop g) target := by
  obtain ⟨cl, A, S, H⟩ := F
  have hn : j.toNatClampNeg = j.toInt.toNat := rfl
  have c0 : (0 : Int32).toInt = 0 := rfl
  have hin : ¬ (j < 0 ∨ cl.slots.size ≤ j.toNatClampNeg) := by rw [Int32.lt_iff_toInt_lt, S, hn]; omega
  exact X.iaload hx (j := j) (v := .int (f j.toNatClampNeg)) (by rw [eT]; exact A.1) (State.isArrayOf_alike hZ.alike A.2.1) A.2.2 hin (H _ (by omega)) (g := g) hg hs hd _ hr
theorem AI.st {p : Program} {l : Launch} {e : Env} {R : Room} {s : State} {m : MethodId} {args : Array Value} {below : List Frame} {meth : Method} {c : Code} {T : State} {locs : List Loc} {cells slots : Nat} {Z : State} {h : Heap} {a : Addr} {f : Nat → Int32} {n0 : Nat} (X : Stand p l e R s m args below meth c T locs cells slots) (hx : p.tables.exec = Jvm.exec) (hZ : Z.Warmed39 s.vm) (eT : T.heap = h) (F : AI Z h a f) {j : Int32} {x : Int32} (hj : 0 ≤ j.toInt ∧ j.toInt < 64) (N : Fr n0 locs) (ga : n0 ≤ a) {g : JFrame} (hg : g.method = m) {rest : List Value} (hs : g.stack = .int x :: .int j :: .ref a :: rest) (hd : decode c.code g.pc = .ok (.iastore, 1)) :
    ∃ T' h' L', Stand p l e R s m args below meth c T' L' cells slots ∧ T'.heap = h' ∧ Fr n0 L' ∧ Wr h h' a j.toNatClampNeg (.int x) ∧ AI Z h' a (upd f j.toNatClampNeg x) ∧ ∀ target, Steps p.tables e below (T'.setTop { g with pc := g.pc + 1, stack := rest }) target → Steps p.tables e below (T.setTop g) target := by
  obtain ⟨cl, A, S, H⟩ := F
  have hn : j.toNatClampNeg = j.toInt.toNat := rfl
  have c0 : (0 : Int32).toInt = 0 := rfl
  have hin : ¬ (j < 0 ∨ cl.slots.size ≤ j.toNatClampNeg) := by rw [Int32.lt_iff_toInt_lt, S, hn]; omega
  obtain ⟨T', h', X', e', W, st⟩ := stI X hx hZ eT A hin hg hs hd
  refine ⟨T', h', _, X', e', Fr.snoc X' N ga, W, ⟨_, A.same W, by rw [sz_set]; exact S, fun i hi => ?_⟩, st⟩
  show (cl.slots.setIfInBounds j.toNatClampNeg (.int x))[i]? = _
  rw [Array.getElem?_setIfInBounds]
  unfold upd
  by_cases q : j.toNatClampNeg = i
  · rw [if_pos q, if_pos (by omega), if_pos q.symm]
  · rw [if_neg q, if_neg (fun z => q z.symm)]; exact H i hi
theorem AI.len {p : Program} {l : Launch} {e : Env} {R : Room} {s : State} {m : MethodId} {args : Array Value} {below : List Frame} {meth : Method} {c : Code} {T : State} {locs : List Loc} {cells slots : Nat} {Z : State} {h : Heap} {a : Addr} {f : Nat → Int32} (X : Stand p l e R s m args below meth c T locs cells slots) (hx : p.tables.exec = Jvm.exec) (hZ : Z.Warmed39 s.vm) (eT : T.heap = h) (F : AI Z h a f) {g : JFrame} (hg : g.method = m) {rest : List Value} (hs : g.stack = .ref a :: rest) (hd : decode c.code g.pc = .ok (.arraylength, 1)) {target : State} (hr : Steps p.tables e below (T.setTop { g with pc := g.pc + 1, stack := .int (64 : Int32) :: rest }) target) : Steps p.tables e below (T.setTop g) target := by
  obtain ⟨cl, A, S, H⟩ := F
  refine X.arraylength hx (by rw [eT]; exact A.1) (State.isArrayOf_alike hZ.alike A.2.1) (g := g) hg hs hd _ ?_
  rw [S]; exact hr
def AJ (Z : State) (h : Heap) (a : Addr) (f : Nat → Int64) : Prop := ∃ cl : Cell, Arr Z h a cl .long ∧ cl.slots.size = 64 ∧ ∀ j, j < 64 → cl.slots[j]? = some (.long (f j))
theorem AJ.lt {Z : State} {h : Heap} {a : Addr} {f : Nat → Int64} (F : AJ Z h a f) : a < h.size := by obtain ⟨c, A, -⟩ := F; exact A.lt
theorem AJ.ext {Z : State} {h h' : Heap} {a : Addr} {f : Nat → Int64} (F : AJ Z h a f) (E : Ext h h') : AJ Z h' a f := by obtain ⟨c, A, r⟩ := F; exact ⟨c, A.ext E, r⟩
theorem AJ.other {Z : State} {h h' : Heap} {a b : Addr} {f : Nat → Int64} {sl : Nat} {v : Value} (F : AJ Z h b f) (W : Wr h h' a sl v) (q : b ≠ a) : AJ Z h' b f := by obtain ⟨c, A, r⟩ := F; exact ⟨c, A.other W q, r⟩
theorem AJ.keep {Z : State} {h h' : Heap} {a : Addr} {f : Nat → Int64} {ws : List Addr} (F : AJ Z h a f) (K : Keep h h' ws) (q : a ∉ ws) : AJ Z h' a f := by obtain ⟨c, A, r⟩ := F; exact ⟨c, ⟨K.2.1 a c A.1 q, A.2⟩, r⟩
theorem AJ.new {Z : State} {h : Heap} {a : Addr} {k : ClassId} (A : Arr Z h a (newA k .long (64 : Int32)) .long) : AJ Z h a (fun _ => (0 : Int64)) := by
  obtain ⟨c, A', -, q2, -, q4, -⟩ := Arv.new A (by decide)
  have q3 : c.slots.size = 64 := q2
  exact ⟨c, A', q3, fun j hj => by rw [q4 j (by omega)]; rfl⟩
theorem AJ.ld {p : Program} {l : Launch} {e : Env} {R : Room} {s : State} {m : MethodId} {args : Array Value} {below : List Frame} {meth : Method} {c : Code} {T : State} {locs : List Loc} {cells slots : Nat} {Z : State} {h : Heap} {a : Addr} {f : Nat → Int64} (X : Stand p l e R s m args below meth c T locs cells slots) (hx : p.tables.exec = Jvm.exec) (hZ : Z.Warmed39 s.vm) (eT : T.heap = h) (F : AJ Z h a f) {j : Int32} (hj : 0 ≤ j.toInt ∧ j.toInt < 64) {g : JFrame} (hg : g.method = m) {rest : List Value} (hs : g.stack = .int j :: .ref a :: rest) (hd : decode c.code g.pc = .ok (.laload, 1)) {target : State} (hr : Steps p.tables e below (T.setTop { g with pc := g.pc + 1, stack := .long (f j.toNatClampNeg) :: rest }) target) : Steps p.tables e below (T.setTop g) target := by
  obtain ⟨cl, A, S, H⟩ := F
  have hn : j.toNatClampNeg = j.toInt.toNat := rfl
  have c0 : (0 : Int32).toInt = 0 := rfl
  have hin : ¬ (j < 0 ∨ cl.slots.size ≤ j.toNatClampNeg) := by rw [Int32.lt_iff_toInt_lt, S, hn]; omega
  exact X.laload hx (j := j) (v := .long (f j.toNatClampNeg)) (by rw [eT]; exact A.1) (State.isArrayOf_alike hZ.alike A.2.1) A.2.2 hin (H _ (by omega)) (g := g) hg hs hd _ hr
theorem AJ.st {p : Program} {l : Launch} {e : Env} {R : Room} {s : State} {m : MethodId} {args : Array Value} {below : List Frame} {meth : Method} {c : Code} {T : State} {locs : List Loc} {cells slots : Nat} {Z : State} {h : Heap} {a : Addr} {f : Nat → Int64} {n0 : Nat} (X : Stand p l e R s m args below meth c T locs cells slots) (hx : p.tables.exec = Jvm.exec) (hZ : Z.Warmed39 s.vm) (eT : T.heap = h) (F : AJ Z h a f) {j : Int32} {x : Int64} (hj : 0 ≤ j.toInt ∧ j.toInt < 64) (N : Fr n0 locs) (ga : n0 ≤ a) {g : JFrame} (hg : g.method = m) {rest : List Value} (hs : g.stack = .long x :: .int j :: .ref a :: rest) (hd : decode c.code g.pc = .ok (.lastore, 1)) :
    ∃ T' h' L', Stand p l e R s m args below meth c T' L' cells slots ∧ T'.heap = h' ∧ Fr n0 L' ∧ Wr h h' a j.toNatClampNeg (.long x) ∧ AJ Z h' a (upd f j.toNatClampNeg x) ∧ ∀ target, Steps p.tables e below (T'.setTop { g with pc := g.pc + 1, stack := rest }) target → Steps p.tables e below (T.setTop g) target := by
  obtain ⟨cl, A, S, H⟩ := F
  have hn : j.toNatClampNeg = j.toInt.toNat := rfl
  have c0 : (0 : Int32).toInt = 0 := rfl
  have hin : ¬ (j < 0 ∨ cl.slots.size ≤ j.toNatClampNeg) := by rw [Int32.lt_iff_toInt_lt, S, hn]; omega
  obtain ⟨T', h', X', e', W, st⟩ := stJ X hx hZ eT A hin hg hs hd
  refine ⟨T', h', _, X', e', Fr.snoc X' N ga, W, ⟨_, A.same W, by rw [sz_set]; exact S, fun i hi => ?_⟩, st⟩
  show (cl.slots.setIfInBounds j.toNatClampNeg (.long x))[i]? = _
  rw [Array.getElem?_setIfInBounds]
  unfold upd
  by_cases q : j.toNatClampNeg = i
  · rw [if_pos q, if_pos (by omega), if_pos q.symm]
  · rw [if_neg q, if_neg (fun z => q z.symm)]; exact H i hi
theorem AJ.len {p : Program} {l : Launch} {e : Env} {R : Room} {s : State} {m : MethodId} {args : Array Value} {below : List Frame} {meth : Method} {c : Code} {T : State} {locs : List Loc} {cells slots : Nat} {Z : State} {h : Heap} {a : Addr} {f : Nat → Int64} (X : Stand p l e R s m args below meth c T locs cells slots) (hx : p.tables.exec = Jvm.exec) (hZ : Z.Warmed39 s.vm) (eT : T.heap = h) (F : AJ Z h a f) {g : JFrame} (hg : g.method = m) {rest : List Value} (hs : g.stack = .ref a :: rest) (hd : decode c.code g.pc = .ok (.arraylength, 1)) {target : State} (hr : Steps p.tables e below (T.setTop { g with pc := g.pc + 1, stack := .int (64 : Int32) :: rest }) target) : Steps p.tables e below (T.setTop g) target := by
  obtain ⟨cl, A, S, H⟩ := F
  refine X.arraylength hx (by rw [eT]; exact A.1) (State.isArrayOf_alike hZ.alike A.2.1) (g := g) hg hs hd _ ?_
  rw [S]; exact hr
def Emp (Vf : Nat → Int32) : Nat → Int32 → Prop
  | 0, i => Vf i.toNatClampNeg = (-1 : Int32)
  | k + 1, i => Vf i.toNatClampNeg = (-1 : Int32) ∨ Emp Vf k ((i + (1 : Int32)) &&& (63 : Int32))
theorem own_nxt (i : Int32) (h : 0 ≤ i.toInt ∧ i.toInt < 64) : ((i + (1 : Int32)) &&& (63 : Int32)).toInt = (i.toInt + 1) % 64 := by
  have h1 := c_mask (i + (1 : Int32)) (63 : Int32) 6 (by decide) (by decide)
  have h2 := c_iadd i (1 : Int32)
  have h3 := rng32 (i + (1 : Int32))
  have h4 : (1 : Int32).toInt = 1 := rfl
  rw [show ((2 ^ 6 : Nat) : Int) = 64 from rfl] at h1
  omega
theorem own_emp (Vf : Nat → Int32) (p1 p2 : Nat) (H : ∀ j, j < 64 → Vf j ≠ (-1 : Int32) → j = p1 ∨ j = p2) (i : Int32) (h : 0 ≤ i.toInt ∧ i.toInt < 64) : Emp Vf 2 i := by
  have n1 := own_nxt i h
  have n2 := own_nxt ((i + (1 : Int32)) &&& (63 : Int32)) (by omega)
  by_cases q0 : Vf i.toNatClampNeg = (-1 : Int32)
  · exact Or.inl q0
  · by_cases q1 : Vf ((i + (1 : Int32)) &&& (63 : Int32)).toNatClampNeg = (-1 : Int32)
    · exact Or.inr (Or.inl q1)
    · refine Or.inr (Or.inr ?_)
      show Vf ((((i + (1 : Int32)) &&& (63 : Int32)) + (1 : Int32)) &&& (63 : Int32)).toNatClampNeg = (-1 : Int32)
      apply Classical.byContradiction
      intro q2
      have e0 : i.toNatClampNeg = i.toInt.toNat := rfl
      have e1 : ((i + (1 : Int32)) &&& (63 : Int32)).toNatClampNeg = ((i + (1 : Int32)) &&& (63 : Int32)).toInt.toNat := rfl
      have e2 : ((((i + (1 : Int32)) &&& (63 : Int32)) + (1 : Int32)) &&& (63 : Int32)).toNatClampNeg = ((((i + (1 : Int32)) &&& (63 : Int32)) + (1 : Int32)) &&& (63 : Int32)).toInt.toNat := rfl
      have r0 := H _ (by omega) q0
      have r1 := H _ (by omega) q1
      have r2 := H _ (by omega) q2
      omega
def own_pair (a b : Int32) : Int64 := (a.toInt64 <<< ((32 : Int32) &&& 0x3f).toInt64) ||| b.toInt64
def own_home (k : Int64) : Int32 := ((((k * (-7046029254386353131 : Int64)).toUInt64 >>> ((32 : Int32) &&& 0x3f).toInt64.toUInt64).toInt64).toInt32) &&& (63 : Int32)
theorem own_home_in (k : Int64) : 0 ≤ (own_home k).toInt ∧ (own_home k).toInt < 64 := by
  have h1 := c_mask ((((k * (-7046029254386353131 : Int64)).toUInt64 >>> ((32 : Int32) &&& 0x3f).toInt64.toUInt64).toInt64).toInt32) (63 : Int32) 6 (by decide) (by decide)
  rw [show ((2 ^ 6 : Nat) : Int) = 64 from rfl] at h1
  unfold own_home; omega
theorem own_pair_val (a b : Int32) (ha : 0 ≤ a.toInt ∧ a.toInt ≤ 3) (hb : 0 ≤ b.toInt) : (own_pair a b).toInt = a.toInt * 4294967296 + b.toInt := by
  have h1 := c_lshl a.toInt64 (32 : Int32) 32 (by decide)
  have h2 := rng64 (a.toInt64 <<< ((32 : Int32) &&& 0x3f).toInt64)
  have h3 := rng32 b
  rw [c_i2l, show ((2 ^ 32 : Nat) : Int) = 4294967296 from rfl] at h1
  have h4 : (a.toInt64 <<< ((32 : Int32) &&& 0x3f).toInt64).toInt = a.toInt * 4294967296 := by omega
  have h5 := c_orL (a.toInt64 <<< ((32 : Int32) &&& 0x3f).toInt64) b.toInt64 32 (by decide) 4294967296 rfl (by omega) (by rw [c_i2l]; omega) (by rw [c_i2l]; omega)
  have h6 := rng64 (own_pair a b)
  rw [c_i2l, h4] at h5
  have h7 : (own_pair a b).toInt = ((a.toInt64 <<< ((32 : Int32) &&& 0x3f).toInt64) ||| b.toInt64).toInt := rfl
  omega
theorem own_pair_ne (a b a' b' : Int32) (ha : 0 ≤ a.toInt ∧ a.toInt ≤ 3) (hb : 0 ≤ b.toInt) (ha' : 0 ≤ a'.toInt ∧ a'.toInt ≤ 3) (hb' : 0 ≤ b'.toInt) (q : a.toInt ≠ a'.toInt) : own_pair a b ≠ own_pair a' b' := fun z => by
  have h1 := own_pair_val a b ha hb
  have h2 := own_pair_val a' b' ha' hb'
  have h3 := rng32 b
  have h4 := rng32 b'
  rw [z] at h1; omega
def QF (Z : State) (h0 : Heap) (n0 : Nat) (v : Option Value) (h : Heap) (L : List Loc) : Prop := ∃ (r : Addr) (Vf : Nat → Int32), v = some (.ref r) ∧ Fr n0 L ∧ Keep h0 h [] ∧ h0.size ≤ r ∧ AI Z h r Vf ∧ ∀ j, j < 64 → Vf j = (-1 : Int32)
def QFill (Z : State) (a : Addr) (x : Int32) (h0 : Heap) (n0 : Nat) (v : Option Value) (h : Heap) (L : List Loc) : Prop := v = none ∧ Fr n0 L ∧ Keep h0 h [a] ∧ ∃ Vf : Nat → Int32, AI Z h a Vf ∧ ∀ j, j < 64 → Vf j = x
def LT3 (Z : State) (h : Heap) (t ka va : Addr) (sz : Int32) (Kf : Nat → Int64) (Vf : Nat → Int32) : Prop := (t < ka ∧ ka < va) ∧ Exa Z h t "com/example/rootline/rootline/heap/LongIntTable" ∧ Fld Z h t "com/example/rootline/rootline/heap/LongIntTable" "keys" "[J" (.ref ka) ∧ Fld Z h t "com/example/rootline/rootline/heap/LongIntTable" "values" "[I" (.ref va) ∧ Fld Z h t "com/example/rootline/rootline/heap/LongIntTable" "size" "I" (.int sz) ∧ AJ Z h ka Kf ∧ AI Z h va Vf
def QT (Z : State) (t : Addr) (h0 : Heap) (n0 : Nat) (v : Option Value) (h : Heap) (L : List Loc) : Prop := v = none ∧ Fr n0 L ∧ Keep h0 h [t] ∧ ∃ (ka va : Addr) (Kf : Nat → Int64) (Vf : Nat → Int32), h0.size ≤ ka ∧ LT3 Z h t ka va (0 : Int32) Kf Vf ∧ ∀ j, j < 64 → Vf j = (-1 : Int32)
def QS (Z : State) (key : Int64) (Kf : Nat → Int64) (Vf : Nat → Int32) (h0 : Heap) (n0 : Nat) (v : Option Value) (h : Heap) (L : List Loc) : Prop := ∃ i : Int32, v = some (.int i) ∧ (0 ≤ i.toInt ∧ i.toInt < 64) ∧ (Vf i.toNatClampNeg = (-1 : Int32) ∨ Kf i.toNatClampNeg = key) ∧ Fr n0 L ∧ h = h0
def QU (Z : State) (t ka va : Addr) (key : Int64) (x sz : Int32) (Kf : Nat → Int64) (Vf : Nat → Int32) (h0 : Heap) (n0 : Nat) (v : Option Value) (h : Heap) (L : List Loc) : Prop := v = none ∧ Fr n0 L ∧ Keep h0 h [t, ka, va] ∧ ∃ p : Nat, p < 64 ∧ Vf p = (-1 : Int32) ∧ LT3 Z h t ka va (sz + (1 : Int32)) (upd Kf p key) (upd Vf p x)
def HSS (Z : State) (h : Heap) (x ra ha sa t ka va : Addr) (kr kh ks : ClassId) (cnt : Int32) (Rv Hv Sv : List Value) (sz : Int32) (Kf : Nat → Int64) (Vf : Nat → Int32) : Prop := (x < ra ∧ ra < ha ∧ ha < sa ∧ sa < t) ∧ Exa Z h x "com/example/rootline/rootline/reach/HolderSets" ∧ Fld Z h x "com/example/rootline/rootline/reach/HolderSets" "rest" "[I" (.ref ra) ∧ Fld Z h x "com/example/rootline/rootline/reach/HolderSets" "highest" "[I" (.ref ha) ∧ Fld Z h x "com/example/rootline/rootline/reach/HolderSets" "sizes" "[I" (.ref sa) ∧ Fld Z h x "com/example/rootline/rootline/reach/HolderSets" "count" "I" (.int cnt) ∧ Fld Z h x "com/example/rootline/rootline/reach/HolderSets" "withOne" "Lcom/example/rootline/rootline/heap/LongIntTable;" (.ref t) ∧ Arv Z h ra kr .int (16 : Int32) Rv (.int (0 : Int32)) ∧ Arv Z h ha kh .int (16 : Int32) Hv (.int (0 : Int32)) ∧ Arv Z h sa ks .int (16 : Int32) Sv (.int (0 : Int32)) ∧ LT3 Z h t ka va sz Kf Vf
def QH (Z : State) (x : Addr) (h0 : Heap) (n0 : Nat) (v : Option Value) (h : Heap) (L : List Loc) : Prop := v = none ∧ Fr n0 L ∧ Keep h0 h [x] ∧ ∃ (ra ha sa t ka va : Addr) (kr kh ks : ClassId) (Kf : Nat → Int64) (Vf : Nat → Int32), HSS Z h x ra ha sa t ka va kr kh ks (1 : Int32) [(.int (-1 : Int32)), (.int (0 : Int32)), (.int (0 : Int32)), (.int (0 : Int32)), (.int (0 : Int32)), (.int (0 : Int32)), (.int (0 : Int32)), (.int (0 : Int32)), (.int (0 : Int32)), (.int (0 : Int32)), (.int (0 : Int32)), (.int (0 : Int32)), (.int (0 : Int32)), (.int (0 : Int32)), (.int (0 : Int32)), (.int (0 : Int32))] [(.int (-1 : Int32)), (.int (0 : Int32)), (.int (0 : Int32)), (.int (0 : Int32)), (.int (0 : Int32)), (.int (0 : Int32)), (.int (0 : Int32)), (.int (0 : Int32)), (.int (0 : Int32)), (.int (0 : Int32)), (.int (0 : Int32)), (.int (0 : Int32)), (.int (0 : Int32)), (.int (0 : Int32)), (.int (0 : Int32)), (.int (0 : Int32))] [(.int (0 : Int32)), (.int (0 : Int32)), (.int (0 : Int32)), (.int (0 : Int32)), (.int (0 : Int32)), (.int (0 : Int32)), (.int (0 : Int32)), (.int (0 : Int32)), (.int (0 : Int32)), (.int (0 : Int32)), (.int (0 : Int32)), (.int (0 : Int32)), (.int (0 : Int32)), (.int (0 : Int32)), (.int (0 : Int32)), (.int (0 : Int32))] (0 : Int32) Kf Vf ∧ ∀ j, j < 64 → Vf j = (-1 : Int32)
def QW (Z : State) (x ra ha sa t ka va : Addr) (kr kh ks : ClassId) (cnt : Int32) (Rv Hv Sv : List Value) (sz : Int32) (Kf : Nat → Int64) (Vf : Nat → Int32) (key : Int64) (h0 : Heap) (n0 : Nat) (v : Option Value) (h : Heap) (L : List Loc) : Prop := v = some (.int cnt) ∧ Fr n0 L ∧ Keep h0 h [x, ra, ha, sa, t, ka, va] ∧ ∃ p : Nat, p < 64 ∧ Vf p = (-1 : Int32) ∧ HSS Z h x ra ha sa t ka va kr kh ks (cnt + (1 : Int32)) Rv Hv Sv (sz + (1 : Int32)) (upd Kf p key) (upd Vf p cnt)
def QR (Z : State) (n : Int32) (vs : List Value) (h0 : Heap) (n0 : Nat) (v : Option Value) (h : Heap) (L : List Loc) : Prop := ∃ (r : Addr) (k : ClassId), v = some (.ref r) ∧ Fr n0 L ∧ Keep h0 h [] ∧ h0.size ≤ r ∧ Arv Z h r k .int n vs (.int (0 : Int32))
theorem own_ofn {i : Nat} (h : i < 2147483648) : (Int32.ofNat i).toInt = i := Int32.toInt_ofNat_of_lt (by omega)
theorem own_one (i : Nat) : Int32.ofNat i + (1 : Int32) = Int32.ofNat (i + 1) := (Int32.ofNat_add i 1).symm
theorem d5_0 : decode jdk_65_method_103_code 0 = .ok (.iconst 0, 1) := by decide +kernel
theorem d5_1 : decode jdk_65_method_103_code 1 = .ok (.istore_n 2, 1) := by decide +kernel
theorem d5_2 : decode jdk_65_method_103_code 2 = .ok (.aload_n 0, 1) := by decide +kernel
theorem d5_3 : decode jdk_65_method_103_code 3 = .ok (.arraylength, 1) := by decide +kernel
theorem d5_4 : decode jdk_65_method_103_code 4 = .ok (.istore_n 3, 1) := by decide +kernel
theorem d5_5 : decode jdk_65_method_103_code 5 = .ok (.iload_n 2, 1) := by decide +kernel
theorem d5_6 : decode jdk_65_method_103_code 6 = .ok (.iload_n 3, 1) := by decide +kernel
theorem d5_7 : decode jdk_65_method_103_code 7 = .ok (.if_icmp .ge 13, 3) := by decide +kernel
theorem d5_10 : decode jdk_65_method_103_code 10 = .ok (.aload_n 0, 1) := by decide +kernel
theorem d5_11 : decode jdk_65_method_103_code 11 = .ok (.iload_n 2, 1) := by decide +kernel
theorem d5_12 : decode jdk_65_method_103_code 12 = .ok (.iload_n 1, 1) := by decide +kernel
theorem d5_13 : decode jdk_65_method_103_code 13 = .ok (.iastore, 1) := by decide +kernel
theorem d5_14 : decode jdk_65_method_103_code 14 = .ok (.iinc 2 1, 3) := by decide +kernel
theorem d5_17 : decode jdk_65_method_103_code 17 = .ok (.goto (-12), 3) := by decide +kernel
theorem d5_20 : decode jdk_65_method_103_code 20 = .ok (.return_, 1) := by decide +kernel
theorem pn_5 : plainName "java/util/Arrays" = true := by first | (simp [plainName, overriddenIn]; done) | decide +kernel
theorem ef_5 (m : MethodId) (x0 : Addr) (x1 : Int32) : entryFrame m #[(.ref x0), (.int x1)] 4 = mkF m 0 #[.val (.ref x0), .val (.int x1), .unset, .unset] [] := by first | (simp [entryFrame, mkF, argsToLocals, Value.category]; done) | rfl
theorem d4_0 : decode prog_121_method_8_code 0 = .ok (.iload_n 0, 1) := by decide +kernel
theorem d4_1 : decode prog_121_method_8_code 1 = .ok (.newarray .int, 2) := by decide +kernel
theorem d4_3 : decode prog_121_method_8_code 3 = .ok (.astore_n 1, 1) := by decide +kernel
theorem d4_4 : decode prog_121_method_8_code 4 = .ok (.aload_n 1, 1) := by decide +kernel
theorem d4_5 : decode prog_121_method_8_code 5 = .ok (.iconst (-1), 1) := by decide +kernel
theorem d4_6 : decode prog_121_method_8_code 6 = .ok (.invokestatic 53, 3) := by decide +kernel
theorem d4_9 : decode prog_121_method_8_code 9 = .ok (.aload_n 1, 1) := by decide +kernel
theorem d4_10 : decode prog_121_method_8_code 10 = .ok (.areturn, 1) := by decide +kernel
theorem pn_4 : plainName "com/example/rootline/rootline/heap/LongIntTable" = true := by first | (simp [plainName, overriddenIn]; done) | decide +kernel
theorem ef_4 (m : MethodId) (x0 : Int32) : entryFrame m #[(.int x0)] 2 = mkF m 0 #[.val (.int x0), .unset] [] := by first | (simp [entryFrame, mkF, argsToLocals, Value.category]; done) | rfl
theorem d3_0 : decode prog_121_method_1_code 0 = .ok (.aload_n 0, 1) := by decide +kernel
theorem d3_1 : decode prog_121_method_1_code 1 = .ok (.invokespecial 1, 3) := by decide +kernel
theorem d3_4 : decode prog_121_method_1_code 4 = .ok (.aload_n 0, 1) := by decide +kernel
theorem d3_5 : decode prog_121_method_1_code 5 = .ok (.bipush 64, 2) := by decide +kernel
theorem d3_7 : decode prog_121_method_1_code 7 = .ok (.newarray .long, 2) := by decide +kernel
theorem d3_9 : decode prog_121_method_1_code 9 = .ok (.putfield 7, 3) := by decide +kernel
theorem d3_12 : decode prog_121_method_1_code 12 = .ok (.aload_n 0, 1) := by decide +kernel
theorem d3_13 : decode prog_121_method_1_code 13 = .ok (.aload_n 0, 1) := by decide +kernel
theorem d3_14 : decode prog_121_method_1_code 14 = .ok (.getfield 7, 3) := by decide +kernel
theorem d3_17 : decode prog_121_method_1_code 17 = .ok (.arraylength, 1) := by decide +kernel
theorem d3_18 : decode prog_121_method_1_code 18 = .ok (.invokestatic 13, 3) := by decide +kernel
theorem d3_21 : decode prog_121_method_1_code 21 = .ok (.putfield 17, 3) := by decide +kernel
theorem d3_24 : decode prog_121_method_1_code 24 = .ok (.return_, 1) := by decide +kernel
theorem pn_3 : plainName "com/example/rootline/rootline/heap/LongIntTable" = true := by first | (simp [plainName, overriddenIn]; done) | decide +kernel
theorem ef_3 (m : MethodId) (x0 : Addr) : entryFrame m #[(.ref x0)] 1 = mkF m 0 #[.val (.ref x0)] [] := by first | (simp [entryFrame, mkF, argsToLocals, Value.category]; done) | rfl
theorem d1_0 : decode prog_179_method_1_code 0 = .ok (.aload_n 0, 1) := by decide +kernel
theorem d1_1 : decode prog_179_method_1_code 1 = .ok (.invokespecial 1, 3) := by decide +kernel
theorem d1_4 : decode prog_179_method_1_code 4 = .ok (.aload_n 0, 1) := by decide +kernel
theorem d1_5 : decode prog_179_method_1_code 5 = .ok (.bipush 16, 2) := by decide +kernel
theorem d1_7 : decode prog_179_method_1_code 7 = .ok (.newarray .int, 2) := by decide +kernel
theorem d1_9 : decode prog_179_method_1_code 9 = .ok (.putfield 7, 3) := by decide +kernel
theorem d1_12 : decode prog_179_method_1_code 12 = .ok (.aload_n 0, 1) := by decide +kernel
theorem d1_13 : decode prog_179_method_1_code 13 = .ok (.bipush 16, 2) := by decide +kernel
theorem d1_15 : decode prog_179_method_1_code 15 = .ok (.newarray .int, 2) := by decide +kernel
theorem d1_17 : decode prog_179_method_1_code 17 = .ok (.putfield 13, 3) := by decide +kernel
theorem d1_20 : decode prog_179_method_1_code 20 = .ok (.aload_n 0, 1) := by decide +kernel
theorem d1_21 : decode prog_179_method_1_code 21 = .ok (.bipush 16, 2) := by decide +kernel
theorem d1_23 : decode prog_179_method_1_code 23 = .ok (.newarray .int, 2) := by decide +kernel
theorem d1_25 : decode prog_179_method_1_code 25 = .ok (.putfield 16, 3) := by decide +kernel
theorem d1_28 : decode prog_179_method_1_code 28 = .ok (.aload_n 0, 1) := by decide +kernel
theorem d1_29 : decode prog_179_method_1_code 29 = .ok (.iconst 1, 1) := by decide +kernel
theorem d1_30 : decode prog_179_method_1_code 30 = .ok (.putfield 19, 3) := by decide +kernel
theorem d1_33 : decode prog_179_method_1_code 33 = .ok (.aload_n 0, 1) := by decide +kernel
theorem d1_34 : decode prog_179_method_1_code 34 = .ok (.new 23, 3) := by decide +kernel
theorem d1_37 : decode prog_179_method_1_code 37 = .ok (.dup, 1) := by decide +kernel
theorem d1_38 : decode prog_179_method_1_code 38 = .ok (.invokespecial 25, 3) := by decide +kernel
theorem d1_41 : decode prog_179_method_1_code 41 = .ok (.putfield 26, 3) := by decide +kernel
theorem d1_44 : decode prog_179_method_1_code 44 = .ok (.aload_n 0, 1) := by decide +kernel
theorem d1_45 : decode prog_179_method_1_code 45 = .ok (.new 23, 3) := by decide +kernel
theorem d1_48 : decode prog_179_method_1_code 48 = .ok (.dup, 1) := by decide +kernel
theorem d1_49 : decode prog_179_method_1_code 49 = .ok (.invokespecial 25, 3) := by decide +kernel
theorem d1_52 : decode prog_179_method_1_code 52 = .ok (.putfield 30, 3) := by decide +kernel
theorem d1_55 : decode prog_179_method_1_code 55 = .ok (.aload_n 0, 1) := by decide +kernel
theorem d1_56 : decode prog_179_method_1_code 56 = .ok (.bipush 16, 2) := by decide +kernel
theorem d1_58 : decode prog_179_method_1_code 58 = .ok (.newarray .int, 2) := by decide +kernel
theorem d1_60 : decode prog_179_method_1_code 60 = .ok (.putfield 33, 3) := by decide +kernel
theorem d1_63 : decode prog_179_method_1_code 63 = .ok (.aload_n 0, 1) := by decide +kernel
theorem d1_64 : decode prog_179_method_1_code 64 = .ok (.bipush 16, 2) := by decide +kernel
theorem d1_66 : decode prog_179_method_1_code 66 = .ok (.newarray .int, 2) := by decide +kernel
theorem d1_68 : decode prog_179_method_1_code 68 = .ok (.putfield 36, 3) := by decide +kernel
theorem d1_71 : decode prog_179_method_1_code 71 = .ok (.aload_n 0, 1) := by decide +kernel
theorem d1_72 : decode prog_179_method_1_code 72 = .ok (.bipush 16, 2) := by decide +kernel
theorem d1_74 : decode prog_179_method_1_code 74 = .ok (.newarray .int, 2) := by decide +kernel
theorem d1_76 : decode prog_179_method_1_code 76 = .ok (.putfield 39, 3) := by decide +kernel
theorem d1_79 : decode prog_179_method_1_code 79 = .ok (.aload_n 0, 1) := by decide +kernel
theorem d1_80 : decode prog_179_method_1_code 80 = .ok (.getfield 7, 3) := by decide +kernel
theorem d1_83 : decode prog_179_method_1_code 83 = .ok (.iconst 0, 1) := by decide +kernel
theorem d1_84 : decode prog_179_method_1_code 84 = .ok (.iconst (-1), 1) := by decide +kernel
theorem d1_85 : decode prog_179_method_1_code 85 = .ok (.iastore, 1) := by decide +kernel
theorem d1_86 : decode prog_179_method_1_code 86 = .ok (.aload_n 0, 1) := by decide +kernel
theorem d1_87 : decode prog_179_method_1_code 87 = .ok (.getfield 13, 3) := by decide +kernel
theorem d1_90 : decode prog_179_method_1_code 90 = .ok (.iconst 0, 1) := by decide +kernel
theorem d1_91 : decode prog_179_method_1_code 91 = .ok (.iconst (-1), 1) := by decide +kernel
theorem d1_92 : decode prog_179_method_1_code 92 = .ok (.iastore, 1) := by decide +kernel
theorem d1_93 : decode prog_179_method_1_code 93 = .ok (.return_, 1) := by decide +kernel
theorem pn_1 : plainName "com/example/rootline/rootline/reach/HolderSets" = true := by first | (simp [plainName, overriddenIn]; done) | decide +kernel
theorem ef_1 (m : MethodId) (x0 : Addr) : entryFrame m #[(.ref x0)] 1 = mkF m 0 #[.val (.ref x0)] [] := by first | (simp [entryFrame, mkF, argsToLocals, Value.category]; done) | rfl
theorem d7_0 : decode prog_179_method_7_code 0 = .ok (.iload_n 0, 1) := by decide +kernel
theorem d7_1 : decode prog_179_method_7_code 1 = .ok (.i2l, 1) := by decide +kernel
theorem d7_2 : decode prog_179_method_7_code 2 = .ok (.bipush 32, 2) := by decide +kernel
theorem d7_4 : decode prog_179_method_7_code 4 = .ok (.lshl, 1) := by decide +kernel
theorem d7_5 : decode prog_179_method_7_code 5 = .ok (.iload_n 1, 1) := by decide +kernel
theorem d7_6 : decode prog_179_method_7_code 6 = .ok (.i2l, 1) := by decide +kernel
theorem d7_7 : decode prog_179_method_7_code 7 = .ok (.lor, 1) := by decide +kernel
theorem d7_8 : decode prog_179_method_7_code 8 = .ok (.lreturn, 1) := by decide +kernel
theorem pn_7 : plainName "com/example/rootline/rootline/reach/HolderSets" = true := by first | (simp [plainName, overriddenIn]; done) | decide +kernel
theorem ef_7 (m : MethodId) (x0 : Int32) (x1 : Int32) : entryFrame m #[(.int x0), (.int x1)] 2 = mkF m 0 #[.val (.int x0), .val (.int x1)] [] := by first | (simp [entryFrame, mkF, argsToLocals, Value.category]; done) | rfl
theorem d10_0 : decode prog_121_method_7_code 0 = .ok (.lload_n 0, 1) := by decide +kernel
theorem d10_1 : decode prog_121_method_7_code 1 = .ok (.ldc2_w 51, 3) := by decide +kernel
theorem d10_4 : decode prog_121_method_7_code 4 = .ok (.lmul, 1) := by decide +kernel
theorem d10_5 : decode prog_121_method_7_code 5 = .ok (.bipush 32, 2) := by decide +kernel
theorem d10_7 : decode prog_121_method_7_code 7 = .ok (.lushr, 1) := by decide +kernel
theorem d10_8 : decode prog_121_method_7_code 8 = .ok (.l2i, 1) := by decide +kernel
theorem d10_9 : decode prog_121_method_7_code 9 = .ok (.iload_n 2, 1) := by decide +kernel
theorem d10_10 : decode prog_121_method_7_code 10 = .ok (.iand, 1) := by decide +kernel
theorem d10_11 : decode prog_121_method_7_code 11 = .ok (.ireturn, 1) := by decide +kernel
theorem pn_10 : plainName "com/example/rootline/rootline/heap/LongIntTable" = true := by first | (simp [plainName, overriddenIn]; done) | decide +kernel
theorem ef_10 (m : MethodId) (x0 : Int64) (x1 : Int32) : entryFrame m #[(.long x0), (.int x1)] 3 = mkF m 0 #[.val (.long x0), .second, .val (.int x1)] [] := by first | (simp [entryFrame, mkF, argsToLocals, Value.category]; done) | rfl
theorem d9_0 : decode prog_121_method_6_code 0 = .ok (.aload_n 0, 1) := by decide +kernel
theorem d9_1 : decode prog_121_method_6_code 1 = .ok (.arraylength, 1) := by decide +kernel
theorem d9_2 : decode prog_121_method_6_code 2 = .ok (.iconst 1, 1) := by decide +kernel
theorem d9_3 : decode prog_121_method_6_code 3 = .ok (.isub, 1) := by decide +kernel
theorem d9_4 : decode prog_121_method_6_code 4 = .ok (.istore 4, 2) := by decide +kernel
theorem d9_6 : decode prog_121_method_6_code 6 = .ok (.lload_n 2, 1) := by decide +kernel
theorem d9_7 : decode prog_121_method_6_code 7 = .ok (.iload 4, 2) := by decide +kernel
theorem d9_9 : decode prog_121_method_6_code 9 = .ok (.invokestatic 41, 3) := by decide +kernel
theorem d9_12 : decode prog_121_method_6_code 12 = .ok (.istore 5, 2) := by decide +kernel
theorem d9_14 : decode prog_121_method_6_code 14 = .ok (.aload_n 1, 1) := by decide +kernel
theorem d9_15 : decode prog_121_method_6_code 15 = .ok (.iload 5, 2) := by decide +kernel
theorem d9_17 : decode prog_121_method_6_code 17 = .ok (.iaload, 1) := by decide +kernel
theorem d9_18 : decode prog_121_method_6_code 18 = .ok (.iconst (-1), 1) := by decide +kernel
theorem d9_19 : decode prog_121_method_6_code 19 = .ok (.if_icmp .eq 24, 3) := by decide +kernel
theorem d9_22 : decode prog_121_method_6_code 22 = .ok (.aload_n 0, 1) := by decide +kernel
theorem d9_23 : decode prog_121_method_6_code 23 = .ok (.iload 5, 2) := by decide +kernel
theorem d9_25 : decode prog_121_method_6_code 25 = .ok (.laload, 1) := by decide +kernel
theorem d9_26 : decode prog_121_method_6_code 26 = .ok (.lload_n 2, 1) := by decide +kernel
theorem d9_27 : decode prog_121_method_6_code 27 = .ok (.lcmp, 1) := by decide +kernel
theorem d9_28 : decode prog_121_method_6_code 28 = .ok (.ifCond .eq 15, 3) := by decide +kernel
theorem d9_31 : decode prog_121_method_6_code 31 = .ok (.iload 5, 2) := by decide +kernel
theorem d9_33 : decode prog_121_method_6_code 33 = .ok (.iconst 1, 1) := by decide +kernel
theorem d9_34 : decode prog_121_method_6_code 34 = .ok (.iadd, 1) := by decide +kernel
theorem d9_35 : decode prog_121_method_6_code 35 = .ok (.iload 4, 2) := by decide +kernel
theorem d9_37 : decode prog_121_method_6_code 37 = .ok (.iand, 1) := by decide +kernel
theorem d9_38 : decode prog_121_method_6_code 38 = .ok (.istore 5, 2) := by decide +kernel
theorem d9_40 : decode prog_121_method_6_code 40 = .ok (.goto (-26), 3) := by decide +kernel
theorem d9_43 : decode prog_121_method_6_code 43 = .ok (.iload 5, 2) := by decide +kernel
theorem d9_45 : decode prog_121_method_6_code 45 = .ok (.ireturn, 1) := by decide +kernel
theorem pn_9 : plainName "com/example/rootline/rootline/heap/LongIntTable" = true := by first | (simp [plainName, overriddenIn]; done) | decide +kernel
theorem ef_9 (m : MethodId) (x0 : Addr) (x1 : Addr) (x2 : Int64) : entryFrame m #[(.ref x0), (.ref x1), (.long x2)] 6 = mkF m 0 #[.val (.ref x0), .val (.ref x1), .val (.long x2), .second, .unset, .unset] [] := by first | (simp [entryFrame, mkF, argsToLocals, Value.category]; done) | rfl
theorem d8_0 : decode prog_121_method_2_code 0 = .ok (.aload_n 0, 1) := by decide +kernel
theorem d8_1 : decode prog_121_method_2_code 1 = .ok (.getfield 17, 3) := by decide +kernel
theorem d8_4 : decode prog_121_method_2_code 4 = .ok (.aload_n 0, 1) := by decide +kernel
theorem d8_5 : decode prog_121_method_2_code 5 = .ok (.getfield 7, 3) := by decide +kernel
theorem d8_8 : decode prog_121_method_2_code 8 = .ok (.aload_n 0, 1) := by decide +kernel
theorem d8_9 : decode prog_121_method_2_code 9 = .ok (.getfield 17, 3) := by decide +kernel
theorem d8_12 : decode prog_121_method_2_code 12 = .ok (.lload_n 1, 1) := by decide +kernel
theorem d8_13 : decode prog_121_method_2_code 13 = .ok (.invokestatic 21, 3) := by decide +kernel
theorem d8_16 : decode prog_121_method_2_code 16 = .ok (.iaload, 1) := by decide +kernel
theorem d8_17 : decode prog_121_method_2_code 17 = .ok (.ireturn, 1) := by decide +kernel
theorem pn_8 : plainName "com/example/rootline/rootline/heap/LongIntTable" = true := by first | (simp [plainName, overriddenIn]; done) | decide +kernel
theorem ef_8 (m : MethodId) (x0 : Addr) (x1 : Int64) : entryFrame m #[(.ref x0), (.long x1)] 3 = mkF m 0 #[.val (.ref x0), .val (.long x1), .second] [] := by first | (simp [entryFrame, mkF, argsToLocals, Value.category]; done) | rfl
theorem d11_0 : decode prog_121_method_3_code 0 = .ok (.iload_n 3, 1) := by decide +kernel
theorem d11_1 : decode prog_121_method_3_code 1 = .ok (.ifCond .ge 17, 3) := by decide +kernel
theorem d11_4 : decode prog_121_method_3_code 4 = .ok (.new 25, 3) := by decide +kernel
theorem d11_7 : decode prog_121_method_3_code 7 = .ok (.dup, 1) := by decide +kernel
theorem d11_8 : decode prog_121_method_3_code 8 = .ok (.iload_n 3, 1) := by decide +kernel
theorem d11_14 : decode prog_121_method_3_code 14 = .ok (.invokespecial 31, 3) := by decide +kernel
theorem d11_17 : decode prog_121_method_3_code 17 = .ok (.athrow, 1) := by decide +kernel
theorem d11_18 : decode prog_121_method_3_code 18 = .ok (.aload_n 0, 1) := by decide +kernel
theorem d11_19 : decode prog_121_method_3_code 19 = .ok (.getfield 7, 3) := by decide +kernel
theorem d11_22 : decode prog_121_method_3_code 22 = .ok (.aload_n 0, 1) := by decide +kernel
theorem d11_23 : decode prog_121_method_3_code 23 = .ok (.getfield 17, 3) := by decide +kernel
theorem d11_26 : decode prog_121_method_3_code 26 = .ok (.lload_n 1, 1) := by decide +kernel
theorem d11_27 : decode prog_121_method_3_code 27 = .ok (.invokestatic 21, 3) := by decide +kernel
theorem d11_30 : decode prog_121_method_3_code 30 = .ok (.istore 4, 2) := by decide +kernel
theorem d11_32 : decode prog_121_method_3_code 32 = .ok (.aload_n 0, 1) := by decide +kernel
theorem d11_33 : decode prog_121_method_3_code 33 = .ok (.getfield 17, 3) := by decide +kernel
theorem d11_36 : decode prog_121_method_3_code 36 = .ok (.iload 4, 2) := by decide +kernel
theorem d11_38 : decode prog_121_method_3_code 38 = .ok (.iaload, 1) := by decide +kernel
theorem d11_39 : decode prog_121_method_3_code 39 = .ok (.iconst (-1), 1) := by decide +kernel
theorem d11_40 : decode prog_121_method_3_code 40 = .ok (.if_icmp .ne 47, 3) := by decide +kernel
theorem d11_43 : decode prog_121_method_3_code 43 = .ok (.iconst 2, 1) := by decide +kernel
theorem d11_44 : decode prog_121_method_3_code 44 = .ok (.aload_n 0, 1) := by decide +kernel
theorem d11_45 : decode prog_121_method_3_code 45 = .ok (.getfield 34, 3) := by decide +kernel
theorem d11_48 : decode prog_121_method_3_code 48 = .ok (.iconst 1, 1) := by decide +kernel
theorem d11_49 : decode prog_121_method_3_code 49 = .ok (.iadd, 1) := by decide +kernel
theorem d11_50 : decode prog_121_method_3_code 50 = .ok (.imul, 1) := by decide +kernel
theorem d11_51 : decode prog_121_method_3_code 51 = .ok (.aload_n 0, 1) := by decide +kernel
theorem d11_52 : decode prog_121_method_3_code 52 = .ok (.getfield 7, 3) := by decide +kernel
theorem d11_55 : decode prog_121_method_3_code 55 = .ok (.arraylength, 1) := by decide +kernel
theorem d11_56 : decode prog_121_method_3_code 56 = .ok (.if_icmp .le 21, 3) := by decide +kernel
theorem d11_59 : decode prog_121_method_3_code 59 = .ok (.aload_n 0, 1) := by decide +kernel
theorem d11_60 : decode prog_121_method_3_code 60 = .ok (.invokevirtual 38, 3) := by decide +kernel
theorem d11_63 : decode prog_121_method_3_code 63 = .ok (.aload_n 0, 1) := by decide +kernel
theorem d11_64 : decode prog_121_method_3_code 64 = .ok (.getfield 7, 3) := by decide +kernel
theorem d11_67 : decode prog_121_method_3_code 67 = .ok (.aload_n 0, 1) := by decide +kernel
theorem d11_68 : decode prog_121_method_3_code 68 = .ok (.getfield 17, 3) := by decide +kernel
theorem d11_71 : decode prog_121_method_3_code 71 = .ok (.lload_n 1, 1) := by decide +kernel
theorem d11_72 : decode prog_121_method_3_code 72 = .ok (.invokestatic 21, 3) := by decide +kernel
theorem d11_75 : decode prog_121_method_3_code 75 = .ok (.istore 4, 2) := by decide +kernel
theorem d11_77 : decode prog_121_method_3_code 77 = .ok (.aload_n 0, 1) := by decide +kernel
theorem d11_78 : decode prog_121_method_3_code 78 = .ok (.dup, 1) := by decide +kernel
theorem d11_79 : decode prog_121_method_3_code 79 = .ok (.getfield 34, 3) := by decide +kernel
theorem d11_82 : decode prog_121_method_3_code 82 = .ok (.iconst 1, 1) := by decide +kernel
theorem d11_83 : decode prog_121_method_3_code 83 = .ok (.iadd, 1) := by decide +kernel
theorem d11_84 : decode prog_121_method_3_code 84 = .ok (.putfield 34, 3) := by decide +kernel
theorem d11_87 : decode prog_121_method_3_code 87 = .ok (.aload_n 0, 1) := by decide +kernel
theorem d11_88 : decode prog_121_method_3_code 88 = .ok (.getfield 7, 3) := by decide +kernel
theorem d11_91 : decode prog_121_method_3_code 91 = .ok (.iload 4, 2) := by decide +kernel
theorem d11_93 : decode prog_121_method_3_code 93 = .ok (.lload_n 1, 1) := by decide +kernel
theorem d11_94 : decode prog_121_method_3_code 94 = .ok (.lastore, 1) := by decide +kernel
theorem d11_95 : decode prog_121_method_3_code 95 = .ok (.aload_n 0, 1) := by decide +kernel
theorem d11_96 : decode prog_121_method_3_code 96 = .ok (.getfield 17, 3) := by decide +kernel
theorem d11_99 : decode prog_121_method_3_code 99 = .ok (.iload 4, 2) := by decide +kernel
theorem d11_101 : decode prog_121_method_3_code 101 = .ok (.iload_n 3, 1) := by decide +kernel
theorem d11_102 : decode prog_121_method_3_code 102 = .ok (.iastore, 1) := by decide +kernel
theorem d11_103 : decode prog_121_method_3_code 103 = .ok (.return_, 1) := by decide +kernel
theorem pn_11 : plainName "com/example/rootline/rootline/heap/LongIntTable" = true := by first | (simp [plainName, overriddenIn]; done) | decide +kernel
theorem ef_11 (m : MethodId) (x0 : Addr) (x1 : Int64) (x2 : Int32) : entryFrame m #[(.ref x0), (.long x1), (.int x2)] 5 = mkF m 0 #[.val (.ref x0), .val (.long x1), .second, .val (.int x2), .unset] [] := by first | (simp [entryFrame, mkF, argsToLocals, Value.category]; done) | rfl
theorem d6_0 : decode prog_179_method_3_code 0 = .ok (.iload_n 2, 1) := by decide +kernel
theorem d6_1 : decode prog_179_method_3_code 1 = .ok (.aload_n 0, 1) := by decide +kernel
theorem d6_2 : decode prog_179_method_3_code 2 = .ok (.getfield 13, 3) := by decide +kernel
theorem d6_5 : decode prog_179_method_3_code 5 = .ok (.iload_n 1, 1) := by decide +kernel
theorem d6_6 : decode prog_179_method_3_code 6 = .ok (.iaload, 1) := by decide +kernel
theorem d6_7 : decode prog_179_method_3_code 7 = .ok (.if_icmp .ne 5, 3) := by decide +kernel
theorem d6_10 : decode prog_179_method_3_code 10 = .ok (.iload_n 1, 1) := by decide +kernel
theorem d6_11 : decode prog_179_method_3_code 11 = .ok (.ireturn, 1) := by decide +kernel
theorem d6_12 : decode prog_179_method_3_code 12 = .ok (.iload_n 2, 1) := by decide +kernel
theorem d6_13 : decode prog_179_method_3_code 13 = .ok (.aload_n 0, 1) := by decide +kernel
theorem d6_14 : decode prog_179_method_3_code 14 = .ok (.getfield 13, 3) := by decide +kernel
theorem d6_17 : decode prog_179_method_3_code 17 = .ok (.iload_n 1, 1) := by decide +kernel
theorem d6_18 : decode prog_179_method_3_code 18 = .ok (.iaload, 1) := by decide +kernel
theorem d6_19 : decode prog_179_method_3_code 19 = .ok (.if_icmp .ge 23, 3) := by decide +kernel
theorem d6_22 : decode prog_179_method_3_code 22 = .ok (.new 42, 3) := by decide +kernel
theorem d6_25 : decode prog_179_method_3_code 25 = .ok (.dup, 1) := by decide +kernel
theorem d6_26 : decode prog_179_method_3_code 26 = .ok (.iload_n 2, 1) := by decide +kernel
theorem d6_27 : decode prog_179_method_3_code 27 = .ok (.aload_n 0, 1) := by decide +kernel
theorem d6_28 : decode prog_179_method_3_code 28 = .ok (.getfield 13, 3) := by decide +kernel
theorem d6_31 : decode prog_179_method_3_code 31 = .ok (.iload_n 1, 1) := by decide +kernel
theorem d6_32 : decode prog_179_method_3_code 32 = .ok (.iaload, 1) := by decide +kernel
theorem d6_38 : decode prog_179_method_3_code 38 = .ok (.invokespecial 48, 3) := by decide +kernel
theorem d6_41 : decode prog_179_method_3_code 41 = .ok (.athrow, 1) := by decide +kernel
theorem d6_42 : decode prog_179_method_3_code 42 = .ok (.aload_n 0, 1) := by decide +kernel
theorem d6_43 : decode prog_179_method_3_code 43 = .ok (.getfield 26, 3) := by decide +kernel
theorem d6_46 : decode prog_179_method_3_code 46 = .ok (.iload_n 1, 1) := by decide +kernel
theorem d6_47 : decode prog_179_method_3_code 47 = .ok (.iload_n 2, 1) := by decide +kernel
theorem d6_48 : decode prog_179_method_3_code 48 = .ok (.invokestatic 51, 3) := by decide +kernel
theorem d6_51 : decode prog_179_method_3_code 51 = .ok (.invokevirtual 55, 3) := by decide +kernel
theorem d6_54 : decode prog_179_method_3_code 54 = .ok (.istore_n 3, 1) := by decide +kernel
theorem d6_55 : decode prog_179_method_3_code 55 = .ok (.iload_n 3, 1) := by decide +kernel
theorem d6_56 : decode prog_179_method_3_code 56 = .ok (.ifCond .lt 5, 3) := by decide +kernel
theorem d6_59 : decode prog_179_method_3_code 59 = .ok (.iload_n 3, 1) := by decide +kernel
theorem d6_60 : decode prog_179_method_3_code 60 = .ok (.ireturn, 1) := by decide +kernel
theorem d6_61 : decode prog_179_method_3_code 61 = .ok (.aload_n 0, 1) := by decide +kernel
theorem d6_62 : decode prog_179_method_3_code 62 = .ok (.getfield 19, 3) := by decide +kernel
theorem d6_65 : decode prog_179_method_3_code 65 = .ok (.aload_n 0, 1) := by decide +kernel
theorem d6_66 : decode prog_179_method_3_code 66 = .ok (.getfield 7, 3) := by decide +kernel
theorem d6_69 : decode prog_179_method_3_code 69 = .ok (.arraylength, 1) := by decide +kernel
theorem d6_70 : decode prog_179_method_3_code 70 = .ok (.if_icmp .ne 56, 3) := by decide +kernel
theorem d6_73 : decode prog_179_method_3_code 73 = .ok (.aload_n 0, 1) := by decide +kernel
theorem d6_74 : decode prog_179_method_3_code 74 = .ok (.getfield 19, 3) := by decide +kernel
theorem d6_82 : decode prog_179_method_3_code 82 = .ok (.invokestatic 62, 3) := by decide +kernel
theorem d6_85 : decode prog_179_method_3_code 85 = .ok (.istore 4, 2) := by decide +kernel
theorem d6_87 : decode prog_179_method_3_code 87 = .ok (.aload_n 0, 1) := by decide +kernel
theorem d6_88 : decode prog_179_method_3_code 88 = .ok (.aload_n 0, 1) := by decide +kernel
theorem d6_89 : decode prog_179_method_3_code 89 = .ok (.getfield 7, 3) := by decide +kernel
theorem d6_92 : decode prog_179_method_3_code 92 = .ok (.iload 4, 2) := by decide +kernel
theorem d6_94 : decode prog_179_method_3_code 94 = .ok (.invokestatic 68, 3) := by decide +kernel
theorem d6_97 : decode prog_179_method_3_code 97 = .ok (.putfield 7, 3) := by decide +kernel
theorem d6_100 : decode prog_179_method_3_code 100 = .ok (.aload_n 0, 1) := by decide +kernel
theorem d6_101 : decode prog_179_method_3_code 101 = .ok (.aload_n 0, 1) := by decide +kernel
theorem d6_102 : decode prog_179_method_3_code 102 = .ok (.getfield 13, 3) := by decide +kernel
theorem d6_105 : decode prog_179_method_3_code 105 = .ok (.iload 4, 2) := by decide +kernel
theorem d6_107 : decode prog_179_method_3_code 107 = .ok (.invokestatic 68, 3) := by decide +kernel
theorem d6_110 : decode prog_179_method_3_code 110 = .ok (.putfield 13, 3) := by decide +kernel
theorem d6_113 : decode prog_179_method_3_code 113 = .ok (.aload_n 0, 1) := by decide +kernel
theorem d6_114 : decode prog_179_method_3_code 114 = .ok (.aload_n 0, 1) := by decide +kernel
theorem d6_115 : decode prog_179_method_3_code 115 = .ok (.getfield 16, 3) := by decide +kernel
theorem d6_118 : decode prog_179_method_3_code 118 = .ok (.iload 4, 2) := by decide +kernel
theorem d6_120 : decode prog_179_method_3_code 120 = .ok (.invokestatic 68, 3) := by decide +kernel
theorem d6_123 : decode prog_179_method_3_code 123 = .ok (.putfield 16, 3) := by decide +kernel
theorem d6_126 : decode prog_179_method_3_code 126 = .ok (.aload_n 0, 1) := by decide +kernel
theorem d6_127 : decode prog_179_method_3_code 127 = .ok (.getfield 7, 3) := by decide +kernel
theorem d6_130 : decode prog_179_method_3_code 130 = .ok (.aload_n 0, 1) := by decide +kernel
theorem d6_131 : decode prog_179_method_3_code 131 = .ok (.getfield 19, 3) := by decide +kernel
theorem d6_134 : decode prog_179_method_3_code 134 = .ok (.iload_n 1, 1) := by decide +kernel
theorem d6_135 : decode prog_179_method_3_code 135 = .ok (.iastore, 1) := by decide +kernel
theorem d6_136 : decode prog_179_method_3_code 136 = .ok (.aload_n 0, 1) := by decide +kernel
theorem d6_137 : decode prog_179_method_3_code 137 = .ok (.getfield 13, 3) := by decide +kernel
theorem d6_140 : decode prog_179_method_3_code 140 = .ok (.aload_n 0, 1) := by decide +kernel
theorem d6_141 : decode prog_179_method_3_code 141 = .ok (.getfield 19, 3) := by decide +kernel
theorem d6_144 : decode prog_179_method_3_code 144 = .ok (.iload_n 2, 1) := by decide +kernel
theorem d6_145 : decode prog_179_method_3_code 145 = .ok (.iastore, 1) := by decide +kernel
theorem d6_146 : decode prog_179_method_3_code 146 = .ok (.aload_n 0, 1) := by decide +kernel
theorem d6_147 : decode prog_179_method_3_code 147 = .ok (.getfield 16, 3) := by decide +kernel
theorem d6_150 : decode prog_179_method_3_code 150 = .ok (.aload_n 0, 1) := by decide +kernel
theorem d6_151 : decode prog_179_method_3_code 151 = .ok (.getfield 19, 3) := by decide +kernel
theorem d6_154 : decode prog_179_method_3_code 154 = .ok (.aload_n 0, 1) := by decide +kernel
theorem d6_155 : decode prog_179_method_3_code 155 = .ok (.getfield 16, 3) := by decide +kernel
theorem d6_158 : decode prog_179_method_3_code 158 = .ok (.iload_n 1, 1) := by decide +kernel
theorem d6_159 : decode prog_179_method_3_code 159 = .ok (.iaload, 1) := by decide +kernel
theorem d6_160 : decode prog_179_method_3_code 160 = .ok (.iconst 1, 1) := by decide +kernel
theorem d6_161 : decode prog_179_method_3_code 161 = .ok (.iadd, 1) := by decide +kernel
theorem d6_162 : decode prog_179_method_3_code 162 = .ok (.iastore, 1) := by decide +kernel
theorem d6_163 : decode prog_179_method_3_code 163 = .ok (.aload_n 0, 1) := by decide +kernel
theorem d6_164 : decode prog_179_method_3_code 164 = .ok (.getfield 26, 3) := by decide +kernel
theorem d6_167 : decode prog_179_method_3_code 167 = .ok (.iload_n 1, 1) := by decide +kernel
theorem d6_168 : decode prog_179_method_3_code 168 = .ok (.iload_n 2, 1) := by decide +kernel
theorem d6_169 : decode prog_179_method_3_code 169 = .ok (.invokestatic 51, 3) := by decide +kernel
theorem d6_172 : decode prog_179_method_3_code 172 = .ok (.aload_n 0, 1) := by decide +kernel
theorem d6_173 : decode prog_179_method_3_code 173 = .ok (.getfield 19, 3) := by decide +kernel
theorem d6_176 : decode prog_179_method_3_code 176 = .ok (.invokevirtual 74, 3) := by decide +kernel
theorem d6_179 : decode prog_179_method_3_code 179 = .ok (.aload_n 0, 1) := by decide +kernel
theorem d6_180 : decode prog_179_method_3_code 180 = .ok (.dup, 1) := by decide +kernel
theorem d6_181 : decode prog_179_method_3_code 181 = .ok (.getfield 19, 3) := by decide +kernel
theorem d6_184 : decode prog_179_method_3_code 184 = .ok (.dup_x1, 1) := by decide +kernel
theorem d6_185 : decode prog_179_method_3_code 185 = .ok (.iconst 1, 1) := by decide +kernel
theorem d6_186 : decode prog_179_method_3_code 186 = .ok (.iadd, 1) := by decide +kernel
theorem d6_187 : decode prog_179_method_3_code 187 = .ok (.putfield 19, 3) := by decide +kernel
theorem d6_190 : decode prog_179_method_3_code 190 = .ok (.ireturn, 1) := by decide +kernel
theorem pn_6 : plainName "com/example/rootline/rootline/reach/HolderSets" = true := by first | (simp [plainName, overriddenIn]; done) | decide +kernel
theorem ef_6 (m : MethodId) (x0 : Addr) (x1 : Int32) (x2 : Int32) : entryFrame m #[(.ref x0), (.int x1), (.int x2)] 5 = mkF m 0 #[.val (.ref x0), .val (.int x1), .val (.int x2), .unset, .unset] [] := by first | (simp [entryFrame, mkF, argsToLocals, Value.category]; done) | rfl
theorem d12_0 : decode prog_179_method_5_code 0 = .ok (.aload_n 0, 1) := by decide +kernel
theorem d12_1 : decode prog_179_method_5_code 1 = .ok (.getfield 16, 3) := by decide +kernel
theorem d12_4 : decode prog_179_method_5_code 4 = .ok (.iload_n 1, 1) := by decide +kernel
theorem d12_5 : decode prog_179_method_5_code 5 = .ok (.iaload, 1) := by decide +kernel
theorem d12_6 : decode prog_179_method_5_code 6 = .ok (.newarray .int, 2) := by decide +kernel
theorem d12_8 : decode prog_179_method_5_code 8 = .ok (.astore_n 2, 1) := by decide +kernel
theorem d12_9 : decode prog_179_method_5_code 9 = .ok (.aload_n 2, 1) := by decide +kernel
theorem d12_10 : decode prog_179_method_5_code 10 = .ok (.arraylength, 1) := by decide +kernel
theorem d12_11 : decode prog_179_method_5_code 11 = .ok (.istore_n 3, 1) := by decide +kernel
theorem d12_12 : decode prog_179_method_5_code 12 = .ok (.iload_n 1, 1) := by decide +kernel
theorem d12_13 : decode prog_179_method_5_code 13 = .ok (.istore 4, 2) := by decide +kernel
theorem d12_15 : decode prog_179_method_5_code 15 = .ok (.iload 4, 2) := by decide +kernel
theorem d12_17 : decode prog_179_method_5_code 17 = .ok (.ifCond .eq 28, 3) := by decide +kernel
theorem d12_20 : decode prog_179_method_5_code 20 = .ok (.aload_n 2, 1) := by decide +kernel
theorem d12_21 : decode prog_179_method_5_code 21 = .ok (.iinc 3 (-1), 3) := by decide +kernel
theorem d12_24 : decode prog_179_method_5_code 24 = .ok (.iload_n 3, 1) := by decide +kernel
theorem d12_25 : decode prog_179_method_5_code 25 = .ok (.aload_n 0, 1) := by decide +kernel
theorem d12_26 : decode prog_179_method_5_code 26 = .ok (.getfield 13, 3) := by decide +kernel
theorem d12_29 : decode prog_179_method_5_code 29 = .ok (.iload 4, 2) := by decide +kernel
theorem d12_31 : decode prog_179_method_5_code 31 = .ok (.iaload, 1) := by decide +kernel
theorem d12_32 : decode prog_179_method_5_code 32 = .ok (.iastore, 1) := by decide +kernel
theorem d12_33 : decode prog_179_method_5_code 33 = .ok (.aload_n 0, 1) := by decide +kernel
theorem d12_34 : decode prog_179_method_5_code 34 = .ok (.getfield 7, 3) := by decide +kernel
theorem d12_37 : decode prog_179_method_5_code 37 = .ok (.iload 4, 2) := by decide +kernel
theorem d12_39 : decode prog_179_method_5_code 39 = .ok (.iaload, 1) := by decide +kernel
theorem d12_40 : decode prog_179_method_5_code 40 = .ok (.istore 4, 2) := by decide +kernel
theorem d12_42 : decode prog_179_method_5_code 42 = .ok (.goto (-27), 3) := by decide +kernel
theorem d12_45 : decode prog_179_method_5_code 45 = .ok (.aload_n 2, 1) := by decide +kernel
theorem d12_46 : decode prog_179_method_5_code 46 = .ok (.areturn, 1) := by decide +kernel
theorem pn_12 : plainName "com/example/rootline/rootline/reach/HolderSets" = true := by first | (simp [plainName, overriddenIn]; done) | decide +kernel
theorem ef_12 (m : MethodId) (x0 : Addr) (x1 : Int32) : entryFrame m #[(.ref x0), (.int x1)] 5 = mkF m 0 #[.val (.ref x0), .val (.int x1), .unset, .unset, .unset] [] := by first | (simp [entryFrame, mkF, argsToLocals, Value.category]; done) | rfl
theorem pn_0 : plainName "com/example/rootline/rootline/reach/HolderSetsHoldersPinLaw" = true := by first | (simp [plainName, overriddenIn]; done) | decide +kernel
theorem ef_0 (m : MethodId) (x0 : Int32) (x1 : Int32) (x2 : Int32) (x3 : Int32) : entryFrame m #[(.int x0), (.int x1), (.int x2), (.int x3)] maxLocals = mkF m 0 #[.val (.int x0), .val (.int x1), .val (.int x2), .val (.int x3), .unset, .unset, .unset, .unset, .unset, .unset, .unset, .unset, .unset, .unset, .unset, .unset, .unset, .unset] [] := by first | (simp [entryFrame, mkF, argsToLocals, Value.category, maxLocals]; done) | rfl
set_option maxRecDepth 65536 in
set_option maxHeartbeats 40000000 in
theorem own_fill {p : Program} {l : Launch} {e : Env} {R : Room} {s : State} {m : MethodId} {args : Array Value} {below : List Frame} {meth : Method} {c : Code} {cells slots : Nat} {Z : State} (x0 : Addr) (x1 : Int32) (n0 : Nat) (hx : p.tables.exec = Jvm.exec) (hZ : Z.Warmed39 s.vm) (hby : c.code = jdk_65_method_103_code) (g_x0 : n0 ≤ x0) :
    ∀ (k i : Nat) (T : State) (h : Heap) (locs : List Loc) (f : Nat → Int32), i + k = 64 → Stand p l e R s m args below meth c T locs cells slots → T.heap = h → Fr n0 locs → AI Z h x0 f → (∀ j, j < i → f j = x1) →
      ∃ (T' : State) (h' : Heap) (L' : List Loc) (f' : Nat → Int32), Stand p l e R s m args below meth c T' L' cells slots ∧ T'.heap = h' ∧ Fr n0 L' ∧ Keep h h' [x0] ∧ AI Z h' x0 f' ∧ (∀ j, j < 64 → f' j = x1) ∧
        ∀ target, Steps p.tables e below (T'.setTop (mkF m 20 #[.val (.ref x0), .val (.int x1), .val (.int (64 : Int32)), .val (.int (64 : Int32))] [])) target → Steps p.tables e below (T.setTop (mkF m 5 #[.val (.ref x0), .val (.int x1), .val (.int (Int32.ofNat i)), .val (.int (64 : Int32))] [])) target := by
  intro k
  induction k with
  | zero =>
    intro i T h locs f hi X eT N F hf
    obtain rfl : i = 64 := by omega
    refine ⟨T, h, locs, f, X, eT, N, Keep.refl h [x0], F, hf, fun target kt => ?_⟩
    show Steps p.tables e below (T.setTop (mkF m 5 #[.val (.ref x0), .val (.int x1), .val (.int (64 : Int32)), .val (.int (64 : Int32))] [])) _
    refine XS.iloadN X.here hx rfl (hb hby d5_5) rfl ?_
    show Steps p.tables e below (T.setTop (mkF m 6 #[.val (.ref x0), .val (.int x1), .val (.int (64 : Int32)), .val (.int (64 : Int32))] [(.int (64 : Int32))])) _
    refine XS.iloadN X.here hx rfl (hb hby d5_6) rfl ?_
    show Steps p.tables e below (T.setTop (mkF m 7 #[.val (.ref x0), .val (.int x1), .val (.int (64 : Int32)), .val (.int (64 : Int32))] [(.int (64 : Int32)), (.int (64 : Int32))])) _
    refine XS.icmpYes X.here hx rfl (pc0 := 7) (pc' := 20) rfl (hb hby d5_7) rfl (flt (by decide : ¬ ((64 : Int32) < (64 : Int32)))).2.1 (by decide) (by decide) ?_
    exact kt
  | succ k ih =>
    intro i T h locs f hi X eT N F hf
    have hiv := own_ofn (show i < 2147483648 by omega)
    have c64 : (64 : Int32).toInt = 64 := rfl
    have hlt : (Int32.ofNat i) < (64 : Int32) := by rw [Int32.lt_iff_toInt_lt]; omega
    have hin : 0 ≤ (Int32.ofNat i).toInt ∧ (Int32.ofNat i).toInt < 64 := by omega
    have hnat : (Int32.ofNat i).toNatClampNeg = i := by show (Int32.ofNat i).toInt.toNat = i; omega
    obtain ⟨T1, h1, L1, X1, e1, N1, W1, F1, st1⟩ := AI.st X hx hZ eT F (j := (Int32.ofNat i)) (x := x1) hin N g_x0 (g := (mkF m 13 #[.val (.ref x0), .val (.int x1), .val (.int (Int32.ofNat i)), .val (.int (64 : Int32))] [(.int x1), (.int (Int32.ofNat i)), (.ref x0)])) rfl rfl (hb hby d5_13)
    rw [hnat] at F1
    obtain ⟨T2, h2, L2, f2, X2, e2, N2, K2, F2, hf2, st2⟩ := ih (i + 1) T1 h1 L1 _ (by omega) X1 e1 N1 F1 (fun j hj => if q : j = i then by unfold upd; rw [if_pos q] else by unfold upd; rw [if_neg q]; exact hf j (by omega))
    refine ⟨T2, h2, L2, f2, X2, e2, N2, (Keep.of_wr W1).trans K2 (allS (Or.inl (List.mem_of_getElem? (i := 0) rfl)) all0), F2, hf2, fun target kt => ?_⟩
    show Steps p.tables e below (T.setTop (mkF m 5 #[.val (.ref x0), .val (.int x1), .val (.int (Int32.ofNat i)), .val (.int (64 : Int32))] [])) _
    refine XS.iloadN X.here hx rfl (hb hby d5_5) rfl ?_
    show Steps p.tables e below (T.setTop (mkF m 6 #[.val (.ref x0), .val (.int x1), .val (.int (Int32.ofNat i)), .val (.int (64 : Int32))] [(.int (Int32.ofNat i))])) _
    refine XS.iloadN X.here hx rfl (hb hby d5_6) rfl ?_
    show Steps p.tables e below (T.setTop (mkF m 7 #[.val (.ref x0), .val (.int x1), .val (.int (Int32.ofNat i)), .val (.int (64 : Int32))] [(.int (64 : Int32)), (.int (Int32.ofNat i))])) _
    refine XS.icmpNo X.here hx rfl (hb hby d5_7) rfl (tlt hlt).2.1 ?_
    show Steps p.tables e below (T.setTop (mkF m 10 #[.val (.ref x0), .val (.int x1), .val (.int (Int32.ofNat i)), .val (.int (64 : Int32))] [])) _
    refine XS.aloadN X.here hx rfl (hb hby d5_10) rfl rfl ?_
    show Steps p.tables e below (T.setTop (mkF m 11 #[.val (.ref x0), .val (.int x1), .val (.int (Int32.ofNat i)), .val (.int (64 : Int32))] [(.ref x0)])) _
    refine XS.iloadN X.here hx rfl (hb hby d5_11) rfl ?_
    show Steps p.tables e below (T.setTop (mkF m 12 #[.val (.ref x0), .val (.int x1), .val (.int (Int32.ofNat i)), .val (.int (64 : Int32))] [(.int (Int32.ofNat i)), (.ref x0)])) _
    refine XS.iloadN X.here hx rfl (hb hby d5_12) rfl ?_
    show Steps p.tables e below (T.setTop (mkF m 13 #[.val (.ref x0), .val (.int x1), .val (.int (Int32.ofNat i)), .val (.int (64 : Int32))] [(.int x1), (.int (Int32.ofNat i)), (.ref x0)])) _
    refine st1 _ ?_
    show Steps p.tables e below (T1.setTop (mkF m 14 #[.val (.ref x0), .val (.int x1), .val (.int (Int32.ofNat i)), .val (.int (64 : Int32))] [])) _
    refine XS.iinc X1.here hx rfl (hb hby d5_14) rfl (l' := #[.val (.ref x0), .val (.int x1), .val (.int (Int32.ofNat i + (1 : Int32))), .val (.int (64 : Int32))]) rfl ?_
    show Steps p.tables e below (T1.setTop (mkF m 17 #[.val (.ref x0), .val (.int x1), .val (.int (Int32.ofNat i + (1 : Int32))), .val (.int (64 : Int32))] [])) _
    rw [own_one]
    show Steps p.tables e below (T1.setTop (mkF m 17 #[.val (.ref x0), .val (.int x1), .val (.int (Int32.ofNat (i + 1))), .val (.int (64 : Int32))] [])) _
    refine XS.goto X1.here hx rfl (pc0 := 17) (pc' := 5) rfl (hb hby d5_17) (by decide) (by decide) ?_
    exact st2 _ kt
set_option maxRecDepth 65536 in
set_option maxHeartbeats 40000000 in
theorem rm5 (l : Launch) (Z : State) (a0 : Array Value) (hw : ∀ d ∈ tables_1, d.before a0 Z = true) (ws : List Jvm.Cond) (x0 : Addr) (x1 : Int32) (f0 : Nat → Int32) (h0 : Heap) (n0 : Nat) (Z0 : n0 ≤ h0.size) (V_x0 : AI Z h0 x0 f0) (g_x0 : n0 ≤ x0) :
    MetFree l (⟨"java/util/Arrays", "fill", "([II)V"⟩ : MethodName) (head1 (Jvm.Cond.code (⟨"java/util/Arrays", "fill", "([II)V"⟩ : MethodName) jdk_65_method_103_code 4 none :: ws) ({ frames := 0, cells := 0, slots := 0, locals := 0 } : Room)) (fun a U => a = #[(.ref x0), (.int x1)] ∧ Z.Warmed39 U.vm ∧ U.heap = h0) (fun _ _ _ _ _ => True) (fun _ U o U' => ∃ v L, o = .returned v ∧ (QFill Z x0 x1 h0 n0 v U'.heap L) ∧ FrameEnd U o U' L ({ frames := 0, cells := 0, slots := 0, locals := 0 } : Room).cells ({ frames := 0, cells := 0, slots := 0, locals := 0 } : Room).slots) := by
  refine MetFree.of_bodySF (plainFor_of_name pn_5) hisR ?_
  intro p e s m args below meth c s₁ Bd hml0 hP hK
  obtain ⟨rfl, hZ, hh⟩ := hP
  have hx := Bd.exec
  have hby := Bd.bytes
  have hml : c.maxLocals = 4 := hml0
  have hown : s.vm.findClass "java/util/Arrays" = some m.cls := findClass_of_methodNamed Bd.named
  have hnm := (name_of_methodNamed Bd.named Bd.method).1
  have X0 : Stand p l e ({ frames := 0, cells := 0, slots := 0, locals := 0 } : Room) s m #[(.ref x0), (.int x1)] below meth c s₁ [] 0 0 := Stand.of_body Bd
  have e0 : s₁.heap = h0 := by rw [← hh, Bd.state]; rfl
  have N0 := Fr.nil n0
  have pre0 : ∀ t, Steps p.tables e below (s₁.setTop (mkF m 0 #[.val (.ref x0), .val (.int x1), .unset, .unset] [])) t → Steps p.tables e below (s₁.setTop (entryFrame m #[(.ref x0), (.int x1)] 4)) t := fun t k => castTop (ef_5 m x0 x1) k
  obtain ⟨T1, h1, L1, fl1, X1, e1, N1, K1, F1, hf1, st1⟩ := own_fill x0 x1 n0 hx hZ hby g_x0 64 0 s₁ h0 _ f0 rfl X0 e0 N0 V_x0 (fun j hj => absurd hj (Nat.not_lt_zero j))
  obtain ⟨fs, hr, hrun, hended, hW, hsame⟩ := X1.leave (v := none) (fun _ => rfl)
  refine ⟨_, _, pre0 _ ?_, hrun, hended, _, _, rfl, ?_, ⟨_, rfl⟩, hW, hsame.mono (by decide) (by decide)⟩
  · show Steps p.tables e below (s₁.setTop (mkF m 0 #[.val (.ref x0), .val (.int x1), .unset, .unset] [])) _
    refine XS.iconst X0.here hx rfl (hb hby d5_0) ?_
    refine XS.istoreN X0.here hx rfl (hb hby d5_1) rfl (l' := #[.val (.ref x0), .val (.int x1), .val (.int (0 : Int32)), .unset]) rfl ?_
    refine XS.aloadN X0.here hx rfl (hb hby d5_2) rfl rfl ?_
    show Steps p.tables e below (s₁.setTop (mkF m 3 #[.val (.ref x0), .val (.int x1), .val (.int (0 : Int32)), .unset] [(.ref x0)])) _
    refine AI.len X0 hx hZ e0 V_x0 (g := (mkF m 3 #[.val (.ref x0), .val (.int x1), .val (.int (0 : Int32)), .unset] [(.ref x0)])) rfl rfl (hb hby d5_3) ?_
    refine XS.istoreN X0.here hx rfl (hb hby d5_4) rfl (l' := #[.val (.ref x0), .val (.int x1), .val (.int (0 : Int32)), .val (.int (64 : Int32))]) rfl ?_
    show Steps p.tables e below (s₁.setTop (mkF m 5 #[.val (.ref x0), .val (.int x1), .val (.int (0 : Int32)), .val (.int (64 : Int32))] [])) _
    refine st1 _ ?_
    show Steps p.tables e below (T1.setTop (mkF m 20 #[.val (.ref x0), .val (.int x1), .val (.int (64 : Int32)), .val (.int (64 : Int32))] [])) _
    exact X1.returnOut hx Bd.returns (hb hby d5_20) hr
  · exact (by
      have eT : (T1.setFrames fs).heap = h1 := e1
      rw [eT]; exact ⟨rfl, N1, K1, fl1, F1, hf1⟩)
theorem pd___II_V : parseMethodDescriptor "([II)V" = some ⟨[(.array .int), .int], none⟩ := by decide +kernel
set_option maxRecDepth 65536 in
set_option maxHeartbeats 40000000 in
theorem rm4 (l : Launch) (Z : State) (a0 : Array Value) (hw : ∀ d ∈ tables_1, d.before a0 Z = true) (ws : List Jvm.Cond)   (h0 : Heap) (n0 : Nat) (Z0 : n0 ≤ h0.size)  :
    MetFree l (⟨"com/example/rootline/rootline/heap/LongIntTable", "free", "(I)[I"⟩ : MethodName) (head1 (Jvm.Cond.code (⟨"com/example/rootline/rootline/heap/LongIntTable", "free", "(I)[I"⟩ : MethodName) prog_121_method_8_code 2 (some (.array .int)) :: ws) ({ frames := 1, cells := 1, slots := 64, locals := 15 } : Room)) (fun a U => a = #[(.int (64 : Int32))] ∧ Z.Warmed39 U.vm ∧ U.heap = h0) (fun _ _ _ _ _ => True) (fun _ U o U' => ∃ v L, o = .returned v ∧ (QF Z h0 n0 v U'.heap L) ∧ FrameEnd U o U' L ({ frames := 1, cells := 1, slots := 64, locals := 15 } : Room).cells ({ frames := 1, cells := 1, slots := 64, locals := 15 } : Room).slots) := by
  refine MetFree.of_bodySF (plainFor_of_name pn_4) hisR ?_
  intro p e s m args below meth c s₁ Bd hml0 hP hK
  obtain ⟨rfl, hZ, hh⟩ := hP
  have hx := Bd.exec
  have hby := Bd.bytes
  have hml : c.maxLocals = 2 := hml0
  have hown : s.vm.findClass "com/example/rootline/rootline/heap/LongIntTable" = some m.cls := findClass_of_methodNamed Bd.named
  have hnm := (name_of_methodNamed Bd.named Bd.method).1
  have X0 : Stand p l e ({ frames := 1, cells := 1, slots := 64, locals := 15 } : Room) s m #[(.int (64 : Int32))] below meth c s₁ [] 0 0 := Stand.of_body Bd
  have e0 : s₁.heap = h0 := by rw [← hh, Bd.state]; rfl
  have N0 := Fr.nil n0
  have pre0 : ∀ t, Steps p.tables e below (s₁.setTop (mkF m 0 #[.val (.int (64 : Int32)), .unset] [])) t → Steps p.tables e below (s₁.setTop (entryFrame m #[(.int (64 : Int32))] 2)) t := fun t k => castTop (ef_4 m (64 : Int32)) k
  have K0 : Keep h0 h0 [] := Keep.refl h0 []
  obtain ⟨T1, h1, k1, X1, e1, E1, A1, st1⟩ := newP X0 hx hZ (hw _ (List.mem_of_getElem? (i := 11) rfl)) e0 (g := (mkF m 1 #[.val (.int (64 : Int32)), .unset] [(.int (64 : Int32))])) rfl (hb hby d4_1) rfl (by decide) (cap := 64) (by decide) (by decide) (by decide) (by decide)
  obtain ⟨r, g1⟩ : ∃ z, z = h0.size := ⟨_, rfl⟩
  rw [← g1] at A1 st1
  have V_r_1 : AI Z h1 r (fun _ => (0 : Int32)) := AI.new A1
  have g_r : n0 ≤ r := Nat.le_trans Z0 (Nat.le_of_eq g1.symm)
  have sz_r : h0.size ≤ r := Nat.le_trans K0.1 (Nat.le_of_eq g1.symm)
  have keep_2 := K0.ext E1
  have siz_2 := Nat.le_trans Z0 E1.1
  obtain ⟨_, _, ⟨T3, L3, k3, n3⟩, -, X3, ⟨Lc3, hQ3, l3, y3, z3⟩, st3⟩ := Jvm.LawKit.callS X1 hx (y := (⟨"java/util/Arrays", "fill", "([II)V"⟩ : MethodName)) hown (mvT hZ (hw _ (List.mem_of_getElem? (i := 33) rfl))) (mvT hZ (hw _ (List.mem_of_getElem? (i := 34) rfl))) (mvT hZ (hw _ (List.mem_of_getElem? (i := 35) rfl))) (mvT hZ (hw _ (List.mem_of_getElem? (i := 36) rfl))) (by decide) (backOf (W := 0) (rm5 l Z a0 hw [] r (-1 : Int32) (fun _ => (0 : Int32)) h1 n0 siz_2 V_r_1 g_r) hZ (hw _ (List.mem_of_getElem? (i := 36) rfl)) (hw _ (List.mem_of_getElem? (i := 35) rfl)) (by decide) (by decide)) (g := (mkF m 6 #[.val (.int (64 : Int32)), .val (.ref r)] [(.int (-1 : Int32)), (.ref r)])) rfl (by rw [hml]; rfl) (argsL := [(.ref r), (.int (-1 : Int32))]) (rest := []) (lenOf pd___II_V rfl) rfl (by show 2 * 0 + _ ≤ _; exact Nat.le_of_eq rfl) (hb hby d4_6) (fun _ _ => ⟨rfl, e1, (by decide : 1 + 0 ≤ _), (by decide : 64 + 0 ≤ _)⟩)
  dsimp only [Pt.U, Pt.locs, Pt.cells, Pt.slots] at X3 l3 y3 z3 st3 hQ3
  subst l3 y3 z3
  obtain ⟨rfl, N3q, K3, Vf3, F3, hf3⟩ := hQ3
  have keep_4 := keep_2.trans K3 (allS (Or.inr sz_r) (all0))
  have siz_4 := Nat.le_trans siz_2 K3.1
  have N3 := Fr.app N0 N3q
  obtain ⟨fs, hr, hrun, hended, hW, hsame⟩ := X3.leave (v := some (.ref r)) (fun h => by rw [Bd.returns] at h; cases h)
  refine ⟨_, _, pre0 _ ?_, hrun, hended, _, _, rfl, ?_, ⟨_, rfl⟩, hW, hsame.mono (by decide) (by decide)⟩
  · show Steps p.tables e below (s₁.setTop (mkF m 0 #[.val (.int (64 : Int32)), .unset] [])) _
    refine XS.iloadN X0.here hx rfl (hb hby d4_0) rfl ?_
    refine st1 _ ?_
    show Steps p.tables e below (T1.setTop (mkF m 3 #[.val (.int (64 : Int32)), .unset] [(.ref r)])) _
    refine XS.astoreN X1.here hx rfl (hb hby d4_3) rfl rfl (l' := #[.val (.int (64 : Int32)), .val (.ref r)]) rfl ?_
    show Steps p.tables e below (T1.setTop (mkF m 4 #[.val (.int (64 : Int32)), .val (.ref r)] [])) _
    refine XS.aloadN X1.here hx rfl (hb hby d4_4) rfl rfl ?_
    refine XS.iconst X1.here hx rfl (hb hby d4_5) ?_
    refine st3 _ ?_
    show Steps p.tables e below (T3.setTop (mkF m 9 #[.val (.int (64 : Int32)), .val (.ref r)] [])) _
    refine XS.aloadN X3.here hx rfl (hb hby d4_9) rfl rfl ?_
    show Steps p.tables e below (T3.setTop (mkF m 10 #[.val (.int (64 : Int32)), .val (.ref r)] [(.ref r)])) _
    exact retOut X3 hx (t := (.array .int)) (i := .areturn) Bd.returns rfl (Or.inr (Or.inr (Or.inr (Or.inr ⟨rfl, rfl, rfl⟩)))) (hb hby d4_10) hr
  · exact ⟨r, Vf3, rfl, N3, keep_4, sz_r, F3, hf3⟩
theorem pd___V : parseMethodDescriptor "()V" = some ⟨[], none⟩ := by decide +kernel
theorem pd__I__I : parseMethodDescriptor "(I)[I" = some ⟨[.int], some (.array .int)⟩ := by decide +kernel
set_option maxRecDepth 65536 in
set_option maxHeartbeats 40000000 in
theorem rm3 (l : Launch) (Z : State) (a0 : Array Value) (hw : ∀ d ∈ tables_1, d.before a0 Z = true) (ws : List Jvm.Cond) (x0 : Addr)  (h0 : Heap) (n0 : Nat) (Z0 : n0 ≤ h0.size) (E_x0 : Exa Z h0 x0 sT) (F_keys_x0 : Fld Z h0 x0 sT "keys" "[J" .null) (F_values_x0 : Fld Z h0 x0 sT "values" "[I" .null) (F_size_x0 : Fld Z h0 x0 sT "size" "I" (.int (0 : Int32))) (g_x0 : n0 ≤ x0) :
    MetFree l (⟨"com/example/rootline/rootline/heap/LongIntTable", "<init>", "()V"⟩ : MethodName) (head1 (Jvm.Cond.code (⟨"com/example/rootline/rootline/heap/LongIntTable", "<init>", "()V"⟩ : MethodName) prog_121_method_1_code 1 none :: ws) ({ frames := 2, cells := 2, slots := 128, locals := 29 } : Room)) (fun a U => a = #[(.ref x0)] ∧ Z.Warmed39 U.vm ∧ U.heap = h0) (fun _ _ _ _ _ => True) (fun _ U o U' => ∃ v L, o = .returned v ∧ (QT Z x0 h0 n0 v U'.heap L) ∧ FrameEnd U o U' L ({ frames := 2, cells := 2, slots := 128, locals := 29 } : Room).cells ({ frames := 2, cells := 2, slots := 128, locals := 29 } : Room).slots) := by
  refine MetFree.of_bodySF (plainFor_of_name pn_3) hisR ?_
  intro p e s m args below meth c s₁ Bd hml0 hP hK
  obtain ⟨rfl, hZ, hh⟩ := hP
  have hx := Bd.exec
  have hby := Bd.bytes
  have hml : c.maxLocals = 1 := hml0
  have hown : s.vm.findClass "com/example/rootline/rootline/heap/LongIntTable" = some m.cls := findClass_of_methodNamed Bd.named
  have hnm := (name_of_methodNamed Bd.named Bd.method).1
  have X0 : Stand p l e ({ frames := 2, cells := 2, slots := 128, locals := 29 } : Room) s m #[(.ref x0)] below meth c s₁ [] 0 0 := Stand.of_body Bd
  have e0 : s₁.heap = h0 := by rw [← hh, Bd.state]; rfl
  have N0 := Fr.nil n0
  have pre0 : ∀ t, Steps p.tables e below (s₁.setTop (mkF m 0 #[.val (.ref x0)] [])) t → Steps p.tables e below (s₁.setTop (entryFrame m #[(.ref x0)] 1)) t := fun t k => castTop (ef_3 m x0) k
  have K0 : Keep h0 h0 [x0] := Keep.refl h0 [x0]
  obtain ⟨T1, X1, e1, st1⟩ := initO X0 hx hZ hown (hw _ (List.mem_of_getElem? (i := 26) rfl)) (hw _ (List.mem_of_getElem? (i := 9) rfl)) (hw _ (List.mem_of_getElem? (i := 10) rfl)) e0 (g := (mkF m 1 #[.val (.ref x0)] [(.ref x0)])) rfl (by rw [hml]; rfl) rfl (hb hby d3_1) (by decide) (W := 0) (by show 2 * 0 + _ ≤ _; exact Nat.le_of_eq rfl) (by decide)
  obtain ⟨T2, h2, k2, X2, e2, E2, A2, st2⟩ := newP X1 hx hZ (hw _ (List.mem_of_getElem? (i := 27) rfl)) e1 (g := (mkF m 7 #[.val (.ref x0)] [(.int (64 : Int32)), (.ref x0)])) rfl (hb hby d3_7) rfl (by decide) (cap := 64) (by decide) (by decide) (by decide) (by decide)
  obtain ⟨ka, g2⟩ : ∃ z, z = h0.size := ⟨_, rfl⟩
  rw [← g2] at A2 st2
  have V_ka_2 : AJ Z h2 ka (fun _ => (0 : Int64)) := AJ.new A2
  have lt_x0_ka : x0 < ka := Nat.lt_of_lt_of_le E_x0.lt (Nat.le_of_eq g2.symm)
  have g_ka : n0 ≤ ka := Nat.le_trans Z0 (Nat.le_of_eq g2.symm)
  have sz_ka : h0.size ≤ ka := Nat.le_trans K0.1 (Nat.le_of_eq g2.symm)
  have keep_3 := K0.ext E2
  have E_x0_3 := E_x0.ext E2
  have F_keys_x0_3 := F_keys_x0.ext E2
  have F_values_x0_3 := F_values_x0.ext E2
  have F_size_x0_3 := F_size_x0.ext E2
  have siz_3 := Nat.le_trans Z0 E2.1
  obtain ⟨T4, h4, X4, e4, W4, st4⟩ := putF X2 hx hZ hown (host := "") (Or.inl (hw _ (List.mem_of_getElem? (i := 28) rfl))) Via.refl e2 F_keys_x0_3 E_x0_3 (Or.inl (hw _ (List.mem_of_getElem? (i := 29) rfl))) (hw _ (List.mem_of_getElem? (i := 21) rfl)) (ty := (.array .long)) (by decide) rfl rfl (g := (mkF m 9 #[.val (.ref x0)] [(.ref ka), (.ref x0)])) rfl rfl (hb hby d3_9)
  have N4 := Fr.snoc X4 N0 g_x0
  have keep_5 := keep_3.wr W4 (Or.inl (List.mem_of_getElem? (i := 0) rfl))
  have E_x0_5 := E_x0_3.wr W4
  have siz_5 := Nat.le_trans siz_3 (Keep.of_wr W4).1
  have V_ka_5 := V_ka_2.other W4 (Ne.symm (Nat.ne_of_lt lt_x0_ka))
  have F_keys_x0_4 : Fld Z h4 x0 sT "keys" "[J" (.ref ka) := F_keys_x0_3.same W4
  have F_values_x0_4 : Fld Z h4 x0 sT "values" "[I" .null := F_values_x0_3.other W4 (Or.inr (slot_ne (Or.inl (hw _ (List.mem_of_getElem? (i := 38) rfl))) (Or.inl (hw _ (List.mem_of_getElem? (i := 29) rfl))) (by decide) (t := (.array .int)) (t' := (.array .long)) (by decide) (by decide)))
  have F_size_x0_4 : Fld Z h4 x0 sT "size" "I" (.int (0 : Int32)) := F_size_x0_3.other W4 (Or.inr (slot_ne (Or.inl (hw _ (List.mem_of_getElem? (i := 75) rfl))) (Or.inl (hw _ (List.mem_of_getElem? (i := 29) rfl))) (by decide) (t := .int) (t' := (.array .long)) (by decide) (by decide)))
  obtain ⟨T6, X6, e6, st6⟩ := getF X4 hx hZ hown (host := "") (Or.inl (hw _ (List.mem_of_getElem? (i := 28) rfl))) Via.refl e4 F_keys_x0_4 (g := (mkF m 14 #[.val (.ref x0)] [(.ref x0), (.ref x0)])) rfl rfl (hb hby d3_14)
  obtain ⟨_, _, ⟨T7, L7, k7, n7⟩, -, X7, ⟨Lc7, hQ7, l7, y7, z7⟩, st7⟩ := Jvm.LawKit.callS X6 hx (y := (⟨"com/example/rootline/rootline/heap/LongIntTable", "free", "(I)[I"⟩ : MethodName)) hown (mvT hZ (hw _ (List.mem_of_getElem? (i := 30) rfl))) (mvT hZ (hw _ (List.mem_of_getElem? (i := 31) rfl))) (mvT hZ (hw _ (List.mem_of_getElem? (i := 22) rfl))) (mvT hZ (hw _ (List.mem_of_getElem? (i := 32) rfl))) (by decide) (backOf (W := 1) (rm4 l Z a0 hw []  h4 n0 siz_5) hZ (hw _ (List.mem_of_getElem? (i := 32) rfl)) (hw _ (List.mem_of_getElem? (i := 22) rfl)) (by decide) (by decide)) (g := (mkF m 18 #[.val (.ref x0)] [(.int (64 : Int32)), (.ref x0)])) rfl (by rw [hml]; rfl) (argsL := [(.int (64 : Int32))]) (rest := [(.ref x0)]) (lenOf pd__I__I rfl) rfl (by show 2 * 0 + _ ≤ _; exact Nat.le_of_eq rfl) (hb hby d3_18) (fun _ _ => ⟨rfl, e6, (by decide : 1 + 1 ≤ _), (by decide : 64 + 64 ≤ _)⟩)
  dsimp only [Pt.U, Pt.locs, Pt.cells, Pt.slots] at X7 l7 y7 z7 st7 hQ7
  subst l7 y7 z7
  obtain ⟨va, Vf, rfl, N7q, K7, sv7, F7, hf7⟩ := hQ7
  have keep_8 := keep_5.trans K7 (all0)
  have E_x0_8 := E_x0_5.keep K7
  have F_keys_x0_8 := F_keys_x0_4.keep K7 nin0
  have F_values_x0_8 := F_values_x0_4.keep K7 nin0
  have F_size_x0_8 := F_size_x0_4.keep K7 nin0
  have siz_8 := Nat.le_trans siz_5 K7.1
  have V_ka_8 := V_ka_5.keep K7 nin0
  have lt_ka_va : ka < va := Nat.lt_of_lt_of_le V_ka_5.lt sv7
  have lt_x0_va : x0 < va := Nat.lt_trans lt_x0_ka lt_ka_va
  have N7 := Fr.app N4 N7q
  obtain ⟨T9, h9, X9, e9, W9, st9⟩ := putF X7 hx hZ hown (host := "") (Or.inl (hw _ (List.mem_of_getElem? (i := 37) rfl))) Via.refl rfl F_values_x0_8 E_x0_8 (Or.inl (hw _ (List.mem_of_getElem? (i := 38) rfl))) (hw _ (List.mem_of_getElem? (i := 21) rfl)) (ty := (.array .int)) (by decide) rfl rfl (g := (mkF m 21 #[.val (.ref x0)] [(.ref va), (.ref x0)])) rfl rfl (hb hby d3_21)
  have N9 := Fr.snoc X9 N7 g_x0
  have keep_10 := keep_8.wr W9 (Or.inl (List.mem_of_getElem? (i := 0) rfl))
  have E_x0_10 := E_x0_8.wr W9
  have siz_10 := Nat.le_trans siz_8 (Keep.of_wr W9).1
  have V_ka_10 := V_ka_8.other W9 (Ne.symm (Nat.ne_of_lt lt_x0_ka))
  have V_va_10 := F7.other W9 (Ne.symm (Nat.ne_of_lt lt_x0_va))
  have F_keys_x0_9 : Fld Z h9 x0 sT "keys" "[J" (.ref ka) := F_keys_x0_8.other W9 (Or.inr (slot_ne (Or.inl (hw _ (List.mem_of_getElem? (i := 29) rfl))) (Or.inl (hw _ (List.mem_of_getElem? (i := 38) rfl))) (by decide) (t := (.array .long)) (t' := (.array .int)) (by decide) (by decide)))
  have F_values_x0_9 : Fld Z h9 x0 sT "values" "[I" (.ref va) := F_values_x0_8.same W9
  have F_size_x0_9 : Fld Z h9 x0 sT "size" "I" (.int (0 : Int32)) := F_size_x0_8.other W9 (Or.inr (slot_ne (Or.inl (hw _ (List.mem_of_getElem? (i := 75) rfl))) (Or.inl (hw _ (List.mem_of_getElem? (i := 38) rfl))) (by decide) (t := .int) (t' := (.array .int)) (by decide) (by decide)))
  obtain ⟨fs, hr, hrun, hended, hW, hsame⟩ := X9.leave (v := none) (fun _ => rfl)
  refine ⟨_, _, pre0 _ ?_, hrun, hended, _, _, rfl, ?_, ⟨_, rfl⟩, hW, hsame.mono (by decide) (by decide)⟩
  · show Steps p.tables e below (s₁.setTop (mkF m 0 #[.val (.ref x0)] [])) _
    refine XS.aloadN X0.here hx rfl (hb hby d3_0) rfl rfl ?_
    refine st1 _ ?_
    show Steps p.tables e below (T1.setTop (mkF m 4 #[.val (.ref x0)] [])) _
    refine XS.aloadN X1.here hx rfl (hb hby d3_4) rfl rfl ?_
    show Steps p.tables e below (T1.setTop (mkF m 5 #[.val (.ref x0)] [(.ref x0)])) _
    refine XS.bipush X1.here hx rfl (hb hby d3_5) ?_
    refine st2 _ ?_
    show Steps p.tables e below (T2.setTop (mkF m 9 #[.val (.ref x0)] [(.ref ka), (.ref x0)])) _
    refine st4 _ ?_
    show Steps p.tables e below (T4.setTop (mkF m 12 #[.val (.ref x0)] [])) _
    refine XS.aloadN X4.here hx rfl (hb hby d3_12) rfl rfl ?_
    show Steps p.tables e below (T4.setTop (mkF m 13 #[.val (.ref x0)] [(.ref x0)])) _
    refine XS.aloadN X4.here hx rfl (hb hby d3_13) rfl rfl ?_
    refine st6 _ ?_
    show Steps p.tables e below (T6.setTop (mkF m 17 #[.val (.ref x0)] [(.ref ka), (.ref x0)])) _
    refine AJ.len X6 hx hZ e6 V_ka_5 (g := (mkF m 17 #[.val (.ref x0)] [(.ref ka), (.ref x0)])) rfl rfl (hb hby d3_17) ?_
    refine st7 _ ?_
    show Steps p.tables e below (T7.setTop (mkF m 21 #[.val (.ref x0)] [(.ref va), (.ref x0)])) _
    refine st9 _ ?_
    show Steps p.tables e below (T9.setTop (mkF m 24 #[.val (.ref x0)] [])) _
    exact X9.returnOut hx Bd.returns (hb hby d3_24) hr
  · exact (by
      have eT : (T9.setFrames fs).heap = h9 := e9
      rw [eT]; exact ⟨rfl, N9, keep_10, ka, va, (fun _ => (0 : Int64)), Vf, sz_ka, ⟨⟨lt_x0_ka, lt_ka_va⟩, E_x0_10, F_keys_x0_9, F_values_x0_9, F_size_x0_9, V_ka_10, V_va_10⟩, hf7⟩)
set_option maxRecDepth 65536 in
set_option maxHeartbeats 40000000 in
theorem rm1 (l : Launch) (Z : State) (a0 : Array Value) (hw : ∀ d ∈ tables_1, d.before a0 Z = true) (ws : List Jvm.Cond) (x0 : Addr)  (h0 : Heap) (n0 : Nat) (Z0 : n0 ≤ h0.size) (E_x0 : Exa Z h0 x0 sH) (F_rest_x0 : Fld Z h0 x0 sH "rest" "[I" .null) (F_highest_x0 : Fld Z h0 x0 sH "highest" "[I" .null) (F_sizes_x0 : Fld Z h0 x0 sH "sizes" "[I" .null) (F_count_x0 : Fld Z h0 x0 sH "count" "I" (.int (0 : Int32))) (F_withOne_x0 : Fld Z h0 x0 sH "withOne" "Lcom/example/rootline/rootline/heap/LongIntTable;" .null) (F_unions_x0 : Fld Z h0 x0 sH "unions" "Lcom/example/rootline/rootline/heap/LongIntTable;" .null) (F_left_x0 : Fld Z h0 x0 sH "left" "[I" .null) (F_right_x0 : Fld Z h0 x0 sH "right" "[I" .null) (F_merged_x0 : Fld Z h0 x0 sH "merged" "[I" .null) (g_x0 : n0 ≤ x0) :
    MetFree l (⟨"com/example/rootline/rootline/reach/HolderSets", "<init>", "()V"⟩ : MethodName) (head1 (Jvm.Cond.code (⟨"com/example/rootline/rootline/reach/HolderSets", "<init>", "()V"⟩ : MethodName) prog_179_method_1_code 1 none :: ws) ({ frames := 3, cells := 12, slots := 358, locals := 43 } : Room)) (fun a U => a = #[(.ref x0)] ∧ Z.Warmed39 U.vm ∧ U.heap = h0) (fun _ _ _ _ _ => True) (fun _ U o U' => ∃ v L, o = .returned v ∧ (QH Z x0 h0 n0 v U'.heap L) ∧ FrameEnd U o U' L ({ frames := 3, cells := 12, slots := 358, locals := 43 } : Room).cells ({ frames := 3, cells := 12, slots := 358, locals := 43 } : Room).slots) := by
  refine MetFree.of_bodySF (plainFor_of_name pn_1) hisR ?_
  intro p e s m args below meth c s₁ Bd hml0 hP hK
  obtain ⟨rfl, hZ, hh⟩ := hP
  have hx := Bd.exec
  have hby := Bd.bytes
  have hml : c.maxLocals = 1 := hml0
  have hown : s.vm.findClass "com/example/rootline/rootline/reach/HolderSets" = some m.cls := findClass_of_methodNamed Bd.named
  have hnm := (name_of_methodNamed Bd.named Bd.method).1
  have X0 : Stand p l e ({ frames := 3, cells := 12, slots := 358, locals := 43 } : Room) s m #[(.ref x0)] below meth c s₁ [] 0 0 := Stand.of_body Bd
  have e0 : s₁.heap = h0 := by rw [← hh, Bd.state]; rfl
  have N0 := Fr.nil n0
  have pre0 : ∀ t, Steps p.tables e below (s₁.setTop (mkF m 0 #[.val (.ref x0)] [])) t → Steps p.tables e below (s₁.setTop (entryFrame m #[(.ref x0)] 1)) t := fun t k => castTop (ef_1 m x0) k
  have K0 : Keep h0 h0 [x0] := Keep.refl h0 [x0]
  obtain ⟨T1, X1, e1, st1⟩ := initO X0 hx hZ hown (hw _ (List.mem_of_getElem? (i := 8) rfl)) (hw _ (List.mem_of_getElem? (i := 9) rfl)) (hw _ (List.mem_of_getElem? (i := 10) rfl)) e0 (g := (mkF m 1 #[.val (.ref x0)] [(.ref x0)])) rfl (by rw [hml]; rfl) rfl (hb hby d1_1) (by decide) (W := 0) (by show 2 * 0 + _ ≤ _; exact Nat.le_of_eq rfl) (by decide)
  obtain ⟨T2, h2, k2, X2, e2, E2, A2, st2⟩ := newP X1 hx hZ (hw _ (List.mem_of_getElem? (i := 11) rfl)) e1 (g := (mkF m 7 #[.val (.ref x0)] [(.int (16 : Int32)), (.ref x0)])) rfl (hb hby d1_7) rfl (by decide) (cap := 16) (by decide) (by decide) (by decide) (by decide)
  obtain ⟨ra, g2⟩ : ∃ z, z = h0.size := ⟨_, rfl⟩
  rw [← g2] at A2 st2
  have V_ra_2 : Arv Z h2 ra k2 .int (16 : Int32) [(.int (0 : Int32)), (.int (0 : Int32)), (.int (0 : Int32)), (.int (0 : Int32)), (.int (0 : Int32)), (.int (0 : Int32)), (.int (0 : Int32)), (.int (0 : Int32)), (.int (0 : Int32)), (.int (0 : Int32)), (.int (0 : Int32)), (.int (0 : Int32)), (.int (0 : Int32)), (.int (0 : Int32)), (.int (0 : Int32)), (.int (0 : Int32))] (.int (0 : Int32)) := (Arv.new A2 (by decide)).pad (pad_rep [] (.int (0 : Int32)) 16)
  have lt_x0_ra : x0 < ra := Nat.lt_of_lt_of_le E_x0.lt (Nat.le_of_eq g2.symm)
  have g_ra : n0 ≤ ra := Nat.le_trans Z0 (Nat.le_of_eq g2.symm)
  have sz_ra : h0.size ≤ ra := Nat.le_trans K0.1 (Nat.le_of_eq g2.symm)
  have keep_3 := K0.ext E2
  have E_x0_3 := E_x0.ext E2
  have F_rest_x0_3 := F_rest_x0.ext E2
  have F_highest_x0_3 := F_highest_x0.ext E2
  have F_sizes_x0_3 := F_sizes_x0.ext E2
  have F_count_x0_3 := F_count_x0.ext E2
  have F_withOne_x0_3 := F_withOne_x0.ext E2
  have F_unions_x0_3 := F_unions_x0.ext E2
  have F_left_x0_3 := F_left_x0.ext E2
  have F_right_x0_3 := F_right_x0.ext E2
  have F_merged_x0_3 := F_merged_x0.ext E2
  have siz_3 := Nat.le_trans Z0 E2.1
  obtain ⟨T4, h4, X4, e4, W4, st4⟩ := putF X2 hx hZ hown (host := "") (Or.inl (hw _ (List.mem_of_getElem? (i := 12) rfl))) Via.refl e2 F_rest_x0_3 E_x0_3 (Or.inl (hw _ (List.mem_of_getElem? (i := 13) rfl))) (hw _ (List.mem_of_getElem? (i := 3) rfl)) (ty := (.array .int)) (by decide) rfl rfl (g := (mkF m 9 #[.val (.ref x0)] [(.ref ra), (.ref x0)])) rfl rfl (hb hby d1_9)
  have N4 := Fr.snoc X4 N0 g_x0
  have keep_5 := keep_3.wr W4 (Or.inl (List.mem_of_getElem? (i := 0) rfl))
  have E_x0_5 := E_x0_3.wr W4
  have siz_5 := Nat.le_trans siz_3 (Keep.of_wr W4).1
  have V_ra_5 := V_ra_2.other W4 (Ne.symm (Nat.ne_of_lt lt_x0_ra))
  have F_rest_x0_4 : Fld Z h4 x0 sH "rest" "[I" (.ref ra) := F_rest_x0_3.same W4
  have F_highest_x0_4 : Fld Z h4 x0 sH "highest" "[I" .null := F_highest_x0_3.other W4 (Or.inr (slot_ne (Or.inl (hw _ (List.mem_of_getElem? (i := 15) rfl))) (Or.inl (hw _ (List.mem_of_getElem? (i := 13) rfl))) (by decide) (t := (.array .int)) (t' := (.array .int)) (by decide) (by decide)))
  have F_sizes_x0_4 : Fld Z h4 x0 sH "sizes" "[I" .null := F_sizes_x0_3.other W4 (Or.inr (slot_ne (Or.inl (hw _ (List.mem_of_getElem? (i := 17) rfl))) (Or.inl (hw _ (List.mem_of_getElem? (i := 13) rfl))) (by decide) (t := (.array .int)) (t' := (.array .int)) (by decide) (by decide)))
  have F_count_x0_4 : Fld Z h4 x0 sH "count" "I" (.int (0 : Int32)) := F_count_x0_3.other W4 (Or.inr (slot_ne (Or.inl (hw _ (List.mem_of_getElem? (i := 19) rfl))) (Or.inl (hw _ (List.mem_of_getElem? (i := 13) rfl))) (by decide) (t := .int) (t' := (.array .int)) (by decide) (by decide)))
  have F_withOne_x0_4 : Fld Z h4 x0 sH "withOne" "Lcom/example/rootline/rootline/heap/LongIntTable;" .null := F_withOne_x0_3.other W4 (Or.inr (slot_ne (Or.inr (hw _ (List.mem_of_getElem? (i := 40) rfl))) (Or.inl (hw _ (List.mem_of_getElem? (i := 13) rfl))) (by decide) (t := (.object "com/example/rootline/rootline/heap/LongIntTable")) (t' := (.array .int)) (by decide) (by decide)))
  have F_unions_x0_4 : Fld Z h4 x0 sH "unions" "Lcom/example/rootline/rootline/heap/LongIntTable;" .null := F_unions_x0_3.other W4 (Or.inr (slot_ne (Or.inr (hw _ (List.mem_of_getElem? (i := 42) rfl))) (Or.inl (hw _ (List.mem_of_getElem? (i := 13) rfl))) (by decide) (t := (.object "com/example/rootline/rootline/heap/LongIntTable")) (t' := (.array .int)) (by decide) (by decide)))
  have F_left_x0_4 : Fld Z h4 x0 sH "left" "[I" .null := F_left_x0_3.other W4 (Or.inr (slot_ne (Or.inl (hw _ (List.mem_of_getElem? (i := 44) rfl))) (Or.inl (hw _ (List.mem_of_getElem? (i := 13) rfl))) (by decide) (t := (.array .int)) (t' := (.array .int)) (by decide) (by decide)))
  have F_right_x0_4 : Fld Z h4 x0 sH "right" "[I" .null := F_right_x0_3.other W4 (Or.inr (slot_ne (Or.inl (hw _ (List.mem_of_getElem? (i := 46) rfl))) (Or.inl (hw _ (List.mem_of_getElem? (i := 13) rfl))) (by decide) (t := (.array .int)) (t' := (.array .int)) (by decide) (by decide)))
  have F_merged_x0_4 : Fld Z h4 x0 sH "merged" "[I" .null := F_merged_x0_3.other W4 (Or.inr (slot_ne (Or.inl (hw _ (List.mem_of_getElem? (i := 48) rfl))) (Or.inl (hw _ (List.mem_of_getElem? (i := 13) rfl))) (by decide) (t := (.array .int)) (t' := (.array .int)) (by decide) (by decide)))
  obtain ⟨T6, h6, k6, X6, e6, E6, A6, st6⟩ := newP X4 hx hZ (hw _ (List.mem_of_getElem? (i := 11) rfl)) e4 (g := (mkF m 15 #[.val (.ref x0)] [(.int (16 : Int32)), (.ref x0)])) rfl (hb hby d1_15) rfl (by decide) (cap := 16) (by decide) (by decide) (by decide) (by decide)
  obtain ⟨ha, g6⟩ : ∃ z, z = h4.size := ⟨_, rfl⟩
  rw [← g6] at A6 st6
  have V_ha_6 : Arv Z h6 ha k6 .int (16 : Int32) [(.int (0 : Int32)), (.int (0 : Int32)), (.int (0 : Int32)), (.int (0 : Int32)), (.int (0 : Int32)), (.int (0 : Int32)), (.int (0 : Int32)), (.int (0 : Int32)), (.int (0 : Int32)), (.int (0 : Int32)), (.int (0 : Int32)), (.int (0 : Int32)), (.int (0 : Int32)), (.int (0 : Int32)), (.int (0 : Int32)), (.int (0 : Int32))] (.int (0 : Int32)) := (Arv.new A6 (by decide)).pad (pad_rep [] (.int (0 : Int32)) 16)
  have lt_ra_ha : ra < ha := Nat.lt_of_lt_of_le V_ra_5.lt (Nat.le_of_eq g6.symm)
  have lt_x0_ha : x0 < ha := Nat.lt_of_lt_of_le E_x0_5.lt (Nat.le_of_eq g6.symm)
  have g_ha : n0 ≤ ha := Nat.le_trans siz_5 (Nat.le_of_eq g6.symm)
  have sz_ha : h0.size ≤ ha := Nat.le_trans keep_5.1 (Nat.le_of_eq g6.symm)
  have keep_7 := keep_5.ext E6
  have E_x0_7 := E_x0_5.ext E6
  have F_rest_x0_7 := F_rest_x0_4.ext E6
  have F_highest_x0_7 := F_highest_x0_4.ext E6
  have F_sizes_x0_7 := F_sizes_x0_4.ext E6
  have F_count_x0_7 := F_count_x0_4.ext E6
  have F_withOne_x0_7 := F_withOne_x0_4.ext E6
  have F_unions_x0_7 := F_unions_x0_4.ext E6
  have F_left_x0_7 := F_left_x0_4.ext E6
  have F_right_x0_7 := F_right_x0_4.ext E6
  have F_merged_x0_7 := F_merged_x0_4.ext E6
  have siz_7 := Nat.le_trans siz_5 E6.1
  have V_ra_7 := V_ra_5.ext E6
  obtain ⟨T8, h8, X8, e8, W8, st8⟩ := putF X6 hx hZ hown (host := "") (Or.inl (hw _ (List.mem_of_getElem? (i := 14) rfl))) Via.refl e6 F_highest_x0_7 E_x0_7 (Or.inl (hw _ (List.mem_of_getElem? (i := 15) rfl))) (hw _ (List.mem_of_getElem? (i := 3) rfl)) (ty := (.array .int)) (by decide) rfl rfl (g := (mkF m 17 #[.val (.ref x0)] [(.ref ha), (.ref x0)])) rfl rfl (hb hby d1_17)
  have N8 := Fr.snoc X8 N4 g_x0
  have keep_9 := keep_7.wr W8 (Or.inl (List.mem_of_getElem? (i := 0) rfl))
  have E_x0_9 := E_x0_7.wr W8
  have siz_9 := Nat.le_trans siz_7 (Keep.of_wr W8).1
  have V_ra_9 := V_ra_7.other W8 (Ne.symm (Nat.ne_of_lt lt_x0_ra))
  have V_ha_9 := V_ha_6.other W8 (Ne.symm (Nat.ne_of_lt lt_x0_ha))
  have F_rest_x0_8 : Fld Z h8 x0 sH "rest" "[I" (.ref ra) := F_rest_x0_7.other W8 (Or.inr (slot_ne (Or.inl (hw _ (List.mem_of_getElem? (i := 13) rfl))) (Or.inl (hw _ (List.mem_of_getElem? (i := 15) rfl))) (by decide) (t := (.array .int)) (t' := (.array .int)) (by decide) (by decide)))
  have F_highest_x0_8 : Fld Z h8 x0 sH "highest" "[I" (.ref ha) := F_highest_x0_7.same W8
  have F_sizes_x0_8 : Fld Z h8 x0 sH "sizes" "[I" .null := F_sizes_x0_7.other W8 (Or.inr (slot_ne (Or.inl (hw _ (List.mem_of_getElem? (i := 17) rfl))) (Or.inl (hw _ (List.mem_of_getElem? (i := 15) rfl))) (by decide) (t := (.array .int)) (t' := (.array .int)) (by decide) (by decide)))
  have F_count_x0_8 : Fld Z h8 x0 sH "count" "I" (.int (0 : Int32)) := F_count_x0_7.other W8 (Or.inr (slot_ne (Or.inl (hw _ (List.mem_of_getElem? (i := 19) rfl))) (Or.inl (hw _ (List.mem_of_getElem? (i := 15) rfl))) (by decide) (t := .int) (t' := (.array .int)) (by decide) (by decide)))
  have F_withOne_x0_8 : Fld Z h8 x0 sH "withOne" "Lcom/example/rootline/rootline/heap/LongIntTable;" .null := F_withOne_x0_7.other W8 (Or.inr (slot_ne (Or.inr (hw _ (List.mem_of_getElem? (i := 40) rfl))) (Or.inl (hw _ (List.mem_of_getElem? (i := 15) rfl))) (by decide) (t := (.object "com/example/rootline/rootline/heap/LongIntTable")) (t' := (.array .int)) (by decide) (by decide)))
  have F_unions_x0_8 : Fld Z h8 x0 sH "unions" "Lcom/example/rootline/rootline/heap/LongIntTable;" .null := F_unions_x0_7.other W8 (Or.inr (slot_ne (Or.inr (hw _ (List.mem_of_getElem? (i := 42) rfl))) (Or.inl (hw _ (List.mem_of_getElem? (i := 15) rfl))) (by decide) (t := (.object "com/example/rootline/rootline/heap/LongIntTable")) (t' := (.array .int)) (by decide) (by decide)))
  have F_left_x0_8 : Fld Z h8 x0 sH "left" "[I" .null := F_left_x0_7.other W8 (Or.inr (slot_ne (Or.inl (hw _ (List.mem_of_getElem? (i := 44) rfl))) (Or.inl (hw _ (List.mem_of_getElem? (i := 15) rfl))) (by decide) (t := (.array .int)) (t' := (.array .int)) (by decide) (by decide)))
  have F_right_x0_8 : Fld Z h8 x0 sH "right" "[I" .null := F_right_x0_7.other W8 (Or.inr (slot_ne (Or.inl (hw _ (List.mem_of_getElem? (i := 46) rfl))) (Or.inl (hw _ (List.mem_of_getElem? (i := 15) rfl))) (by decide) (t := (.array .int)) (t' := (.array .int)) (by decide) (by decide)))
  have F_merged_x0_8 : Fld Z h8 x0 sH "merged" "[I" .null := F_merged_x0_7.other W8 (Or.inr (slot_ne (Or.inl (hw _ (List.mem_of_getElem? (i := 48) rfl))) (Or.inl (hw _ (List.mem_of_getElem? (i := 15) rfl))) (by decide) (t := (.array .int)) (t' := (.array .int)) (by decide) (by decide)))
  obtain ⟨T10, h10, k10, X10, e10, E10, A10, st10⟩ := newP X8 hx hZ (hw _ (List.mem_of_getElem? (i := 11) rfl)) e8 (g := (mkF m 23 #[.val (.ref x0)] [(.int (16 : Int32)), (.ref x0)])) rfl (hb hby d1_23) rfl (by decide) (cap := 16) (by decide) (by decide) (by decide) (by decide)
  obtain ⟨sa, g10⟩ : ∃ z, z = h8.size := ⟨_, rfl⟩
  rw [← g10] at A10 st10
  have V_sa_10 : Arv Z h10 sa k10 .int (16 : Int32) [(.int (0 : Int32)), (.int (0 : Int32)), (.int (0 : Int32)), (.int (0 : Int32)), (.int (0 : Int32)), (.int (0 : Int32)), (.int (0 : Int32)), (.int (0 : Int32)), (.int (0 : Int32)), (.int (0 : Int32)), (.int (0 : Int32)), (.int (0 : Int32)), (.int (0 : Int32)), (.int (0 : Int32)), (.int (0 : Int32)), (.int (0 : Int32))] (.int (0 : Int32)) := (Arv.new A10 (by decide)).pad (pad_rep [] (.int (0 : Int32)) 16)
  have lt_ha_sa : ha < sa := Nat.lt_of_lt_of_le V_ha_9.lt (Nat.le_of_eq g10.symm)
  have lt_ra_sa : ra < sa := Nat.lt_of_lt_of_le V_ra_9.lt (Nat.le_of_eq g10.symm)
  have lt_x0_sa : x0 < sa := Nat.lt_of_lt_of_le E_x0_9.lt (Nat.le_of_eq g10.symm)
  have g_sa : n0 ≤ sa := Nat.le_trans siz_9 (Nat.le_of_eq g10.symm)
  have sz_sa : h0.size ≤ sa := Nat.le_trans keep_9.1 (Nat.le_of_eq g10.symm)
  have keep_11 := keep_9.ext E10
  have E_x0_11 := E_x0_9.ext E10
  have F_rest_x0_11 := F_rest_x0_8.ext E10
  have F_highest_x0_11 := F_highest_x0_8.ext E10
  have F_sizes_x0_11 := F_sizes_x0_8.ext E10
  have F_count_x0_11 := F_count_x0_8.ext E10
  have F_withOne_x0_11 := F_withOne_x0_8.ext E10
  have F_unions_x0_11 := F_unions_x0_8.ext E10
  have F_left_x0_11 := F_left_x0_8.ext E10
  have F_right_x0_11 := F_right_x0_8.ext E10
  have F_merged_x0_11 := F_merged_x0_8.ext E10
  have siz_11 := Nat.le_trans siz_9 E10.1
  have V_ra_11 := V_ra_9.ext E10
  have V_ha_11 := V_ha_9.ext E10
  obtain ⟨T12, h12, X12, e12, W12, st12⟩ := putF X10 hx hZ hown (host := "") (Or.inl (hw _ (List.mem_of_getElem? (i := 16) rfl))) Via.refl e10 F_sizes_x0_11 E_x0_11 (Or.inl (hw _ (List.mem_of_getElem? (i := 17) rfl))) (hw _ (List.mem_of_getElem? (i := 3) rfl)) (ty := (.array .int)) (by decide) rfl rfl (g := (mkF m 25 #[.val (.ref x0)] [(.ref sa), (.ref x0)])) rfl rfl (hb hby d1_25)
  have N12 := Fr.snoc X12 N8 g_x0
  have keep_13 := keep_11.wr W12 (Or.inl (List.mem_of_getElem? (i := 0) rfl))
  have E_x0_13 := E_x0_11.wr W12
  have siz_13 := Nat.le_trans siz_11 (Keep.of_wr W12).1
  have V_ra_13 := V_ra_11.other W12 (Ne.symm (Nat.ne_of_lt lt_x0_ra))
  have V_ha_13 := V_ha_11.other W12 (Ne.symm (Nat.ne_of_lt lt_x0_ha))
  have V_sa_13 := V_sa_10.other W12 (Ne.symm (Nat.ne_of_lt lt_x0_sa))
  have F_rest_x0_12 : Fld Z h12 x0 sH "rest" "[I" (.ref ra) := F_rest_x0_11.other W12 (Or.inr (slot_ne (Or.inl (hw _ (List.mem_of_getElem? (i := 13) rfl))) (Or.inl (hw _ (List.mem_of_getElem? (i := 17) rfl))) (by decide) (t := (.array .int)) (t' := (.array .int)) (by decide) (by decide)))
  have F_highest_x0_12 : Fld Z h12 x0 sH "highest" "[I" (.ref ha) := F_highest_x0_11.other W12 (Or.inr (slot_ne (Or.inl (hw _ (List.mem_of_getElem? (i := 15) rfl))) (Or.inl (hw _ (List.mem_of_getElem? (i := 17) rfl))) (by decide) (t := (.array .int)) (t' := (.array .int)) (by decide) (by decide)))
  have F_sizes_x0_12 : Fld Z h12 x0 sH "sizes" "[I" (.ref sa) := F_sizes_x0_11.same W12
  have F_count_x0_12 : Fld Z h12 x0 sH "count" "I" (.int (0 : Int32)) := F_count_x0_11.other W12 (Or.inr (slot_ne (Or.inl (hw _ (List.mem_of_getElem? (i := 19) rfl))) (Or.inl (hw _ (List.mem_of_getElem? (i := 17) rfl))) (by decide) (t := .int) (t' := (.array .int)) (by decide) (by decide)))
  have F_withOne_x0_12 : Fld Z h12 x0 sH "withOne" "Lcom/example/rootline/rootline/heap/LongIntTable;" .null := F_withOne_x0_11.other W12 (Or.inr (slot_ne (Or.inr (hw _ (List.mem_of_getElem? (i := 40) rfl))) (Or.inl (hw _ (List.mem_of_getElem? (i := 17) rfl))) (by decide) (t := (.object "com/example/rootline/rootline/heap/LongIntTable")) (t' := (.array .int)) (by decide) (by decide)))
  have F_unions_x0_12 : Fld Z h12 x0 sH "unions" "Lcom/example/rootline/rootline/heap/LongIntTable;" .null := F_unions_x0_11.other W12 (Or.inr (slot_ne (Or.inr (hw _ (List.mem_of_getElem? (i := 42) rfl))) (Or.inl (hw _ (List.mem_of_getElem? (i := 17) rfl))) (by decide) (t := (.object "com/example/rootline/rootline/heap/LongIntTable")) (t' := (.array .int)) (by decide) (by decide)))
  have F_left_x0_12 : Fld Z h12 x0 sH "left" "[I" .null := F_left_x0_11.other W12 (Or.inr (slot_ne (Or.inl (hw _ (List.mem_of_getElem? (i := 44) rfl))) (Or.inl (hw _ (List.mem_of_getElem? (i := 17) rfl))) (by decide) (t := (.array .int)) (t' := (.array .int)) (by decide) (by decide)))
  have F_right_x0_12 : Fld Z h12 x0 sH "right" "[I" .null := F_right_x0_11.other W12 (Or.inr (slot_ne (Or.inl (hw _ (List.mem_of_getElem? (i := 46) rfl))) (Or.inl (hw _ (List.mem_of_getElem? (i := 17) rfl))) (by decide) (t := (.array .int)) (t' := (.array .int)) (by decide) (by decide)))
  have F_merged_x0_12 : Fld Z h12 x0 sH "merged" "[I" .null := F_merged_x0_11.other W12 (Or.inr (slot_ne (Or.inl (hw _ (List.mem_of_getElem? (i := 48) rfl))) (Or.inl (hw _ (List.mem_of_getElem? (i := 17) rfl))) (by decide) (t := (.array .int)) (t' := (.array .int)) (by decide) (by decide)))
  obtain ⟨T14, h14, X14, e14, W14, st14⟩ := putF X12 hx hZ hown (host := "") (Or.inl (hw _ (List.mem_of_getElem? (i := 18) rfl))) Via.refl e12 F_count_x0_12 E_x0_13 (Or.inl (hw _ (List.mem_of_getElem? (i := 19) rfl))) (hw _ (List.mem_of_getElem? (i := 3) rfl)) (ty := .int) (by decide) rfl rfl (g := (mkF m 30 #[.val (.ref x0)] [(.int (1 : Int32)), (.ref x0)])) rfl rfl (hb hby d1_30)
  have N14 := Fr.snoc X14 N12 g_x0
  have keep_15 := keep_13.wr W14 (Or.inl (List.mem_of_getElem? (i := 0) rfl))
  have E_x0_15 := E_x0_13.wr W14
  have siz_15 := Nat.le_trans siz_13 (Keep.of_wr W14).1
  have V_ra_15 := V_ra_13.other W14 (Ne.symm (Nat.ne_of_lt lt_x0_ra))
  have V_ha_15 := V_ha_13.other W14 (Ne.symm (Nat.ne_of_lt lt_x0_ha))
  have V_sa_15 := V_sa_13.other W14 (Ne.symm (Nat.ne_of_lt lt_x0_sa))
  have F_rest_x0_14 : Fld Z h14 x0 sH "rest" "[I" (.ref ra) := F_rest_x0_12.other W14 (Or.inr (slot_ne (Or.inl (hw _ (List.mem_of_getElem? (i := 13) rfl))) (Or.inl (hw _ (List.mem_of_getElem? (i := 19) rfl))) (by decide) (t := (.array .int)) (t' := .int) (by decide) (by decide)))
  have F_highest_x0_14 : Fld Z h14 x0 sH "highest" "[I" (.ref ha) := F_highest_x0_12.other W14 (Or.inr (slot_ne (Or.inl (hw _ (List.mem_of_getElem? (i := 15) rfl))) (Or.inl (hw _ (List.mem_of_getElem? (i := 19) rfl))) (by decide) (t := (.array .int)) (t' := .int) (by decide) (by decide)))
  have F_sizes_x0_14 : Fld Z h14 x0 sH "sizes" "[I" (.ref sa) := F_sizes_x0_12.other W14 (Or.inr (slot_ne (Or.inl (hw _ (List.mem_of_getElem? (i := 17) rfl))) (Or.inl (hw _ (List.mem_of_getElem? (i := 19) rfl))) (by decide) (t := (.array .int)) (t' := .int) (by decide) (by decide)))
  have F_count_x0_14 : Fld Z h14 x0 sH "count" "I" (.int (1 : Int32)) := F_count_x0_12.same W14
  have F_withOne_x0_14 : Fld Z h14 x0 sH "withOne" "Lcom/example/rootline/rootline/heap/LongIntTable;" .null := F_withOne_x0_12.other W14 (Or.inr (slot_ne (Or.inr (hw _ (List.mem_of_getElem? (i := 40) rfl))) (Or.inl (hw _ (List.mem_of_getElem? (i := 19) rfl))) (by decide) (t := (.object "com/example/rootline/rootline/heap/LongIntTable")) (t' := .int) (by decide) (by decide)))
  have F_unions_x0_14 : Fld Z h14 x0 sH "unions" "Lcom/example/rootline/rootline/heap/LongIntTable;" .null := F_unions_x0_12.other W14 (Or.inr (slot_ne (Or.inr (hw _ (List.mem_of_getElem? (i := 42) rfl))) (Or.inl (hw _ (List.mem_of_getElem? (i := 19) rfl))) (by decide) (t := (.object "com/example/rootline/rootline/heap/LongIntTable")) (t' := .int) (by decide) (by decide)))
  have F_left_x0_14 : Fld Z h14 x0 sH "left" "[I" .null := F_left_x0_12.other W14 (Or.inr (slot_ne (Or.inl (hw _ (List.mem_of_getElem? (i := 44) rfl))) (Or.inl (hw _ (List.mem_of_getElem? (i := 19) rfl))) (by decide) (t := (.array .int)) (t' := .int) (by decide) (by decide)))
  have F_right_x0_14 : Fld Z h14 x0 sH "right" "[I" .null := F_right_x0_12.other W14 (Or.inr (slot_ne (Or.inl (hw _ (List.mem_of_getElem? (i := 46) rfl))) (Or.inl (hw _ (List.mem_of_getElem? (i := 19) rfl))) (by decide) (t := (.array .int)) (t' := .int) (by decide) (by decide)))
  have F_merged_x0_14 : Fld Z h14 x0 sH "merged" "[I" .null := F_merged_x0_12.other W14 (Or.inr (slot_ne (Or.inl (hw _ (List.mem_of_getElem? (i := 48) rfl))) (Or.inl (hw _ (List.mem_of_getElem? (i := 19) rfl))) (by decide) (t := (.array .int)) (t' := .int) (by decide) (by decide)))
  obtain ⟨T16, h16, X16, e16, E16, A16, D16, -, st16⟩ := newO X14 hx hZ hown (hw _ (List.mem_of_getElem? (i := 20) rfl)) (hw _ (List.mem_of_getElem? (i := 21) rfl)) (hw _ (List.mem_of_getElem? (i := 22) rfl)) e14 (g := (mkF m 34 #[.val (.ref x0)] [(.ref x0)])) rfl (hb hby d1_34) (by decide) (by decide)
  obtain ⟨t, g16⟩ : ∃ z, z = h14.size := ⟨_, rfl⟩
  rw [← g16] at A16 D16 st16
  have E_t_16 : Exa Z h16 t "com/example/rootline/rootline/heap/LongIntTable" := A16
  have F_keys_t_16 : Fld Z h16 t sT "keys" "[J" .null := D16 (Or.inl (hw _ (List.mem_of_getElem? (i := 29) rfl))) (ty := (.array .long)) (by decide)
  have F_values_t_16 : Fld Z h16 t sT "values" "[I" .null := D16 (Or.inl (hw _ (List.mem_of_getElem? (i := 38) rfl))) (ty := (.array .int)) (by decide)
  have F_size_t_16 : Fld Z h16 t sT "size" "I" (.int (0 : Int32)) := D16 (Or.inl (hw _ (List.mem_of_getElem? (i := 75) rfl))) (ty := .int) (by decide)
  have lt_ha_t : ha < t := Nat.lt_of_lt_of_le V_ha_15.lt (Nat.le_of_eq g16.symm)
  have lt_ra_t : ra < t := Nat.lt_of_lt_of_le V_ra_15.lt (Nat.le_of_eq g16.symm)
  have lt_sa_t : sa < t := Nat.lt_of_lt_of_le V_sa_15.lt (Nat.le_of_eq g16.symm)
  have lt_x0_t : x0 < t := Nat.lt_of_lt_of_le E_x0_15.lt (Nat.le_of_eq g16.symm)
  have g_t : n0 ≤ t := Nat.le_trans siz_15 (Nat.le_of_eq g16.symm)
  have sz_t : h0.size ≤ t := Nat.le_trans keep_15.1 (Nat.le_of_eq g16.symm)
  have keep_17 := keep_15.ext E16
  have E_x0_17 := E_x0_15.ext E16
  have F_rest_x0_17 := F_rest_x0_14.ext E16
  have F_highest_x0_17 := F_highest_x0_14.ext E16
  have F_sizes_x0_17 := F_sizes_x0_14.ext E16
  have F_count_x0_17 := F_count_x0_14.ext E16
  have F_withOne_x0_17 := F_withOne_x0_14.ext E16
  have F_unions_x0_17 := F_unions_x0_14.ext E16
  have F_left_x0_17 := F_left_x0_14.ext E16
  have F_right_x0_17 := F_right_x0_14.ext E16
  have F_merged_x0_17 := F_merged_x0_14.ext E16
  have siz_17 := Nat.le_trans siz_15 E16.1
  have V_ra_17 := V_ra_15.ext E16
  have V_ha_17 := V_ha_15.ext E16
  have V_sa_17 := V_sa_15.ext E16
  obtain ⟨_, _, ⟨T18, L18, k18, n18⟩, -, X18, ⟨Lc18, hQ18, l18, y18, z18⟩, st18⟩ := X16.specialBack hx (y := (⟨"com/example/rootline/rootline/heap/LongIntTable", "<init>", "()V"⟩ : MethodName)) rfl hown (mvT hZ (hw _ (List.mem_of_getElem? (i := 23) rfl))) (mvT hZ (hw _ (List.mem_of_getElem? (i := 24) rfl))) (mvT hZ (hw _ (List.mem_of_getElem? (i := 25) rfl))) (by decide) (backOf (W := 2) (rm3 l Z a0 hw [] t h16 n0 siz_17 E_t_16 F_keys_t_16 F_values_t_16 F_size_t_16 g_t) hZ (hw _ (List.mem_of_getElem? (i := 25) rfl)) (hw _ (List.mem_of_getElem? (i := 22) rfl)) (by decide) (by decide)) (g := (mkF m 38 #[.val (.ref x0)] [(.ref t), (.ref t), (.ref x0)])) rfl (by rw [hml]; rfl) (Steps.refl _) (a := t) (argsL := []) (rest := [(.ref t), (.ref x0)]) (lenOf pd___V rfl) rfl (by show 2 * 0 + _ ≤ _; exact Nat.le_of_eq rfl) (hb hby d1_38) (fun _ _ => ⟨rfl, e16, (by decide : 4 + 2 ≤ _), (by decide : 51 + 128 ≤ _)⟩)
  dsimp only [Pt.U, Pt.locs, Pt.cells, Pt.slots] at X18 l18 y18 z18 st18 hQ18
  subst l18 y18 z18
  obtain ⟨rfl, N18q, K18, ka, va, Kf, Vf, sk18, ⟨⟨lt_t_ka, lt_ka_va⟩, E_tq, F_kq, F_vq, F_sq, V_kq, V_vq⟩, hVf⟩ := hQ18
  have keep_19 := keep_17.trans K18 (allS (Or.inr sz_t) (all0))
  have E_x0_19 := E_x0_17.keep K18
  have F_rest_x0_19 := F_rest_x0_17.keep K18 (ninS (Nat.ne_of_lt lt_x0_t) nin0)
  have F_highest_x0_19 := F_highest_x0_17.keep K18 (ninS (Nat.ne_of_lt lt_x0_t) nin0)
  have F_sizes_x0_19 := F_sizes_x0_17.keep K18 (ninS (Nat.ne_of_lt lt_x0_t) nin0)
  have F_count_x0_19 := F_count_x0_17.keep K18 (ninS (Nat.ne_of_lt lt_x0_t) nin0)
  have F_withOne_x0_19 := F_withOne_x0_17.keep K18 (ninS (Nat.ne_of_lt lt_x0_t) nin0)
  have F_unions_x0_19 := F_unions_x0_17.keep K18 (ninS (Nat.ne_of_lt lt_x0_t) nin0)
  have F_left_x0_19 := F_left_x0_17.keep K18 (ninS (Nat.ne_of_lt lt_x0_t) nin0)
  have F_right_x0_19 := F_right_x0_17.keep K18 (ninS (Nat.ne_of_lt lt_x0_t) nin0)
  have F_merged_x0_19 := F_merged_x0_17.keep K18 (ninS (Nat.ne_of_lt lt_x0_t) nin0)
  have siz_19 := Nat.le_trans siz_17 K18.1
  have V_ra_19 := V_ra_17.keep K18 (ninS (Nat.ne_of_lt lt_ra_t) nin0)
  have V_ha_19 := V_ha_17.keep K18 (ninS (Nat.ne_of_lt lt_ha_t) nin0)
  have V_sa_19 := V_sa_17.keep K18 (ninS (Nat.ne_of_lt lt_sa_t) nin0)
  have lt_x0_ka : x0 < ka := Nat.lt_trans lt_x0_t lt_t_ka
  have lt_x0_va : x0 < va := Nat.lt_trans lt_x0_ka lt_ka_va
  have lt_ra_ka : ra < ka := Nat.lt_trans lt_ra_t lt_t_ka
  have lt_ra_va : ra < va := Nat.lt_trans lt_ra_ka lt_ka_va
  have lt_ha_ka : ha < ka := Nat.lt_trans lt_ha_t lt_t_ka
  have lt_ha_va : ha < va := Nat.lt_trans lt_ha_ka lt_ka_va
  have lt_sa_ka : sa < ka := Nat.lt_trans lt_sa_t lt_t_ka
  have lt_sa_va : sa < va := Nat.lt_trans lt_sa_ka lt_ka_va
  have lt_t_va : t < va := Nat.lt_trans lt_t_ka lt_ka_va
  have N18 := Fr.app N14 N18q
  obtain ⟨T20, h20, X20, e20, W20, st20⟩ := putF X18 hx hZ hown (host := "") (Or.inl (hw _ (List.mem_of_getElem? (i := 39) rfl))) Via.refl rfl F_withOne_x0_19 E_x0_19 (Or.inr ⟨(hw _ (List.mem_of_getElem? (i := 40) rfl)), rfl, hnm⟩) (hw _ (List.mem_of_getElem? (i := 3) rfl)) (ty := (.object "com/example/rootline/rootline/heap/LongIntTable")) (by decide) rfl rfl (g := (mkF m 41 #[.val (.ref x0)] [(.ref t), (.ref x0)])) rfl rfl (hb hby d1_41)
  have N20 := Fr.snoc X20 N18 g_x0
  have keep_21 := keep_19.wr W20 (Or.inl (List.mem_of_getElem? (i := 0) rfl))
  have E_x0_21 := E_x0_19.wr W20
  have siz_21 := Nat.le_trans siz_19 (Keep.of_wr W20).1
  have V_ra_21 := V_ra_19.other W20 (Ne.symm (Nat.ne_of_lt lt_x0_ra))
  have V_ha_21 := V_ha_19.other W20 (Ne.symm (Nat.ne_of_lt lt_x0_ha))
  have V_sa_21 := V_sa_19.other W20 (Ne.symm (Nat.ne_of_lt lt_x0_sa))
  have E_t_21 := E_tq.wr W20
  have F_keys_t_21 := F_kq.other W20 (Or.inl (Ne.symm (Nat.ne_of_lt lt_x0_t)))
  have F_values_t_21 := F_vq.other W20 (Or.inl (Ne.symm (Nat.ne_of_lt lt_x0_t)))
  have F_size_t_21 := F_sq.other W20 (Or.inl (Ne.symm (Nat.ne_of_lt lt_x0_t)))
  have V_ka_21 := V_kq.other W20 (Ne.symm (Nat.ne_of_lt lt_x0_ka))
  have V_va_21 := V_vq.other W20 (Ne.symm (Nat.ne_of_lt lt_x0_va))
  have F_rest_x0_20 : Fld Z h20 x0 sH "rest" "[I" (.ref ra) := F_rest_x0_19.other W20 (Or.inr (slot_ne (Or.inl (hw _ (List.mem_of_getElem? (i := 13) rfl))) (Or.inr (hw _ (List.mem_of_getElem? (i := 40) rfl))) (by decide) (t := (.array .int)) (t' := (.object "com/example/rootline/rootline/heap/LongIntTable")) (by decide) (by decide)))
  have F_highest_x0_20 : Fld Z h20 x0 sH "highest" "[I" (.ref ha) := F_highest_x0_19.other W20 (Or.inr (slot_ne (Or.inl (hw _ (List.mem_of_getElem? (i := 15) rfl))) (Or.inr (hw _ (List.mem_of_getElem? (i := 40) rfl))) (by decide) (t := (.array .int)) (t' := (.object "com/example/rootline/rootline/heap/LongIntTable")) (by decide) (by decide)))
  have F_sizes_x0_20 : Fld Z h20 x0 sH "sizes" "[I" (.ref sa) := F_sizes_x0_19.other W20 (Or.inr (slot_ne (Or.inl (hw _ (List.mem_of_getElem? (i := 17) rfl))) (Or.inr (hw _ (List.mem_of_getElem? (i := 40) rfl))) (by decide) (t := (.array .int)) (t' := (.object "com/example/rootline/rootline/heap/LongIntTable")) (by decide) (by decide)))
  have F_count_x0_20 : Fld Z h20 x0 sH "count" "I" (.int (1 : Int32)) := F_count_x0_19.other W20 (Or.inr (slot_ne (Or.inl (hw _ (List.mem_of_getElem? (i := 19) rfl))) (Or.inr (hw _ (List.mem_of_getElem? (i := 40) rfl))) (by decide) (t := .int) (t' := (.object "com/example/rootline/rootline/heap/LongIntTable")) (by decide) (by decide)))
  have F_withOne_x0_20 : Fld Z h20 x0 sH "withOne" "Lcom/example/rootline/rootline/heap/LongIntTable;" (.ref t) := F_withOne_x0_19.same W20
  have F_unions_x0_20 : Fld Z h20 x0 sH "unions" "Lcom/example/rootline/rootline/heap/LongIntTable;" .null := F_unions_x0_19.other W20 (Or.inr (slot_ne (Or.inr (hw _ (List.mem_of_getElem? (i := 42) rfl))) (Or.inr (hw _ (List.mem_of_getElem? (i := 40) rfl))) (by decide) (t := (.object "com/example/rootline/rootline/heap/LongIntTable")) (t' := (.object "com/example/rootline/rootline/heap/LongIntTable")) (by decide) (by decide)))
  have F_left_x0_20 : Fld Z h20 x0 sH "left" "[I" .null := F_left_x0_19.other W20 (Or.inr (slot_ne (Or.inl (hw _ (List.mem_of_getElem? (i := 44) rfl))) (Or.inr (hw _ (List.mem_of_getElem? (i := 40) rfl))) (by decide) (t := (.array .int)) (t' := (.object "com/example/rootline/rootline/heap/LongIntTable")) (by decide) (by decide)))
  have F_right_x0_20 : Fld Z h20 x0 sH "right" "[I" .null := F_right_x0_19.other W20 (Or.inr (slot_ne (Or.inl (hw _ (List.mem_of_getElem? (i := 46) rfl))) (Or.inr (hw _ (List.mem_of_getElem? (i := 40) rfl))) (by decide) (t := (.array .int)) (t' := (.object "com/example/rootline/rootline/heap/LongIntTable")) (by decide) (by decide)))
  have F_merged_x0_20 : Fld Z h20 x0 sH "merged" "[I" .null := F_merged_x0_19.other W20 (Or.inr (slot_ne (Or.inl (hw _ (List.mem_of_getElem? (i := 48) rfl))) (Or.inr (hw _ (List.mem_of_getElem? (i := 40) rfl))) (by decide) (t := (.array .int)) (t' := (.object "com/example/rootline/rootline/heap/LongIntTable")) (by decide) (by decide)))
  obtain ⟨T22, h22, X22, e22, E22, A22, D22, -, st22⟩ := newO X20 hx hZ hown (hw _ (List.mem_of_getElem? (i := 20) rfl)) (hw _ (List.mem_of_getElem? (i := 21) rfl)) (hw _ (List.mem_of_getElem? (i := 22) rfl)) e20 (g := (mkF m 45 #[.val (.ref x0)] [(.ref x0)])) rfl (hb hby d1_45) (by decide) (by decide)
  obtain ⟨t2, g22⟩ : ∃ z, z = h20.size := ⟨_, rfl⟩
  rw [← g22] at A22 D22 st22
  have E_t2_22 : Exa Z h22 t2 "com/example/rootline/rootline/heap/LongIntTable" := A22
  have F_keys_t2_22 : Fld Z h22 t2 sT "keys" "[J" .null := D22 (Or.inl (hw _ (List.mem_of_getElem? (i := 29) rfl))) (ty := (.array .long)) (by decide)
  have F_values_t2_22 : Fld Z h22 t2 sT "values" "[I" .null := D22 (Or.inl (hw _ (List.mem_of_getElem? (i := 38) rfl))) (ty := (.array .int)) (by decide)
  have F_size_t2_22 : Fld Z h22 t2 sT "size" "I" (.int (0 : Int32)) := D22 (Or.inl (hw _ (List.mem_of_getElem? (i := 75) rfl))) (ty := .int) (by decide)
  have lt_ha_t2 : ha < t2 := Nat.lt_of_lt_of_le V_ha_21.lt (Nat.le_of_eq g22.symm)
  have lt_ka_t2 : ka < t2 := Nat.lt_of_lt_of_le V_ka_21.lt (Nat.le_of_eq g22.symm)
  have lt_ra_t2 : ra < t2 := Nat.lt_of_lt_of_le V_ra_21.lt (Nat.le_of_eq g22.symm)
  have lt_sa_t2 : sa < t2 := Nat.lt_of_lt_of_le V_sa_21.lt (Nat.le_of_eq g22.symm)
  have lt_t_t2 : t < t2 := Nat.lt_of_lt_of_le E_t_21.lt (Nat.le_of_eq g22.symm)
  have lt_va_t2 : va < t2 := Nat.lt_of_lt_of_le V_va_21.lt (Nat.le_of_eq g22.symm)
  have lt_x0_t2 : x0 < t2 := Nat.lt_of_lt_of_le E_x0_21.lt (Nat.le_of_eq g22.symm)
  have g_t2 : n0 ≤ t2 := Nat.le_trans siz_21 (Nat.le_of_eq g22.symm)
  have sz_t2 : h0.size ≤ t2 := Nat.le_trans keep_21.1 (Nat.le_of_eq g22.symm)
  have keep_23 := keep_21.ext E22
  have E_x0_23 := E_x0_21.ext E22
  have F_rest_x0_23 := F_rest_x0_20.ext E22
  have F_highest_x0_23 := F_highest_x0_20.ext E22
  have F_sizes_x0_23 := F_sizes_x0_20.ext E22
  have F_count_x0_23 := F_count_x0_20.ext E22
  have F_withOne_x0_23 := F_withOne_x0_20.ext E22
  have F_unions_x0_23 := F_unions_x0_20.ext E22
  have F_left_x0_23 := F_left_x0_20.ext E22
  have F_right_x0_23 := F_right_x0_20.ext E22
  have F_merged_x0_23 := F_merged_x0_20.ext E22
  have siz_23 := Nat.le_trans siz_21 E22.1
  have V_ra_23 := V_ra_21.ext E22
  have V_ha_23 := V_ha_21.ext E22
  have V_sa_23 := V_sa_21.ext E22
  have E_t_23 := E_t_21.ext E22
  have F_keys_t_23 := F_keys_t_21.ext E22
  have F_values_t_23 := F_values_t_21.ext E22
  have F_size_t_23 := F_size_t_21.ext E22
  have V_ka_23 := V_ka_21.ext E22
  have V_va_23 := V_va_21.ext E22
  obtain ⟨_, _, ⟨T24, L24, k24, n24⟩, -, X24, ⟨Lc24, hQ24, l24, y24, z24⟩, st24⟩ := X22.specialBack hx (y := (⟨"com/example/rootline/rootline/heap/LongIntTable", "<init>", "()V"⟩ : MethodName)) rfl hown (mvT hZ (hw _ (List.mem_of_getElem? (i := 23) rfl))) (mvT hZ (hw _ (List.mem_of_getElem? (i := 24) rfl))) (mvT hZ (hw _ (List.mem_of_getElem? (i := 25) rfl))) (by decide) (backOf (W := 2) (rm3 l Z a0 hw [] t2 h22 n0 siz_23 E_t2_22 F_keys_t2_22 F_values_t2_22 F_size_t2_22 g_t2) hZ (hw _ (List.mem_of_getElem? (i := 25) rfl)) (hw _ (List.mem_of_getElem? (i := 22) rfl)) (by decide) (by decide)) (g := (mkF m 49 #[.val (.ref x0)] [(.ref t2), (.ref t2), (.ref x0)])) rfl (by rw [hml]; rfl) (Steps.refl _) (a := t2) (argsL := []) (rest := [(.ref t2), (.ref x0)]) (lenOf pd___V rfl) rfl (by show 2 * 0 + _ ≤ _; exact Nat.le_of_eq rfl) (hb hby d1_49) (fun _ _ => ⟨rfl, e22, (by decide : 7 + 2 ≤ _), (by decide : 182 + 128 ≤ _)⟩)
  dsimp only [Pt.U, Pt.locs, Pt.cells, Pt.slots] at X24 l24 y24 z24 st24 hQ24
  subst l24 y24 z24
  obtain ⟨rfl, N24q, K24, ka2, va2, Kf2, Vf2, sk24, -, -⟩ := hQ24
  have keep_25 := keep_23.trans K24 (allS (Or.inr sz_t2) (all0))
  have E_x0_25 := E_x0_23.keep K24
  have F_rest_x0_25 := F_rest_x0_23.keep K24 (ninS (Nat.ne_of_lt lt_x0_t2) nin0)
  have F_highest_x0_25 := F_highest_x0_23.keep K24 (ninS (Nat.ne_of_lt lt_x0_t2) nin0)
  have F_sizes_x0_25 := F_sizes_x0_23.keep K24 (ninS (Nat.ne_of_lt lt_x0_t2) nin0)
  have F_count_x0_25 := F_count_x0_23.keep K24 (ninS (Nat.ne_of_lt lt_x0_t2) nin0)
  have F_withOne_x0_25 := F_withOne_x0_23.keep K24 (ninS (Nat.ne_of_lt lt_x0_t2) nin0)
  have F_unions_x0_25 := F_unions_x0_23.keep K24 (ninS (Nat.ne_of_lt lt_x0_t2) nin0)
  have F_left_x0_25 := F_left_x0_23.keep K24 (ninS (Nat.ne_of_lt lt_x0_t2) nin0)
  have F_right_x0_25 := F_right_x0_23.keep K24 (ninS (Nat.ne_of_lt lt_x0_t2) nin0)
  have F_merged_x0_25 := F_merged_x0_23.keep K24 (ninS (Nat.ne_of_lt lt_x0_t2) nin0)
  have siz_25 := Nat.le_trans siz_23 K24.1
  have V_ra_25 := V_ra_23.keep K24 (ninS (Nat.ne_of_lt lt_ra_t2) nin0)
  have V_ha_25 := V_ha_23.keep K24 (ninS (Nat.ne_of_lt lt_ha_t2) nin0)
  have V_sa_25 := V_sa_23.keep K24 (ninS (Nat.ne_of_lt lt_sa_t2) nin0)
  have E_t_25 := E_t_23.keep K24
  have F_keys_t_25 := F_keys_t_23.keep K24 (ninS (Nat.ne_of_lt lt_t_t2) nin0)
  have F_values_t_25 := F_values_t_23.keep K24 (ninS (Nat.ne_of_lt lt_t_t2) nin0)
  have F_size_t_25 := F_size_t_23.keep K24 (ninS (Nat.ne_of_lt lt_t_t2) nin0)
  have V_ka_25 := V_ka_23.keep K24 (ninS (Nat.ne_of_lt lt_ka_t2) nin0)
  have V_va_25 := V_va_23.keep K24 (ninS (Nat.ne_of_lt lt_va_t2) nin0)
  have N24 := Fr.app N20 N24q
  obtain ⟨T26, h26, X26, e26, W26, st26⟩ := putF X24 hx hZ hown (host := "") (Or.inl (hw _ (List.mem_of_getElem? (i := 41) rfl))) Via.refl rfl F_unions_x0_25 E_x0_25 (Or.inr ⟨(hw _ (List.mem_of_getElem? (i := 42) rfl)), rfl, hnm⟩) (hw _ (List.mem_of_getElem? (i := 3) rfl)) (ty := (.object "com/example/rootline/rootline/heap/LongIntTable")) (by decide) rfl rfl (g := (mkF m 52 #[.val (.ref x0)] [(.ref t2), (.ref x0)])) rfl rfl (hb hby d1_52)
  have N26 := Fr.snoc X26 N24 g_x0
  have keep_27 := keep_25.wr W26 (Or.inl (List.mem_of_getElem? (i := 0) rfl))
  have E_x0_27 := E_x0_25.wr W26
  have siz_27 := Nat.le_trans siz_25 (Keep.of_wr W26).1
  have V_ra_27 := V_ra_25.other W26 (Ne.symm (Nat.ne_of_lt lt_x0_ra))
  have V_ha_27 := V_ha_25.other W26 (Ne.symm (Nat.ne_of_lt lt_x0_ha))
  have V_sa_27 := V_sa_25.other W26 (Ne.symm (Nat.ne_of_lt lt_x0_sa))
  have E_t_27 := E_t_25.wr W26
  have F_keys_t_27 := F_keys_t_25.other W26 (Or.inl (Ne.symm (Nat.ne_of_lt lt_x0_t)))
  have F_values_t_27 := F_values_t_25.other W26 (Or.inl (Ne.symm (Nat.ne_of_lt lt_x0_t)))
  have F_size_t_27 := F_size_t_25.other W26 (Or.inl (Ne.symm (Nat.ne_of_lt lt_x0_t)))
  have V_ka_27 := V_ka_25.other W26 (Ne.symm (Nat.ne_of_lt lt_x0_ka))
  have V_va_27 := V_va_25.other W26 (Ne.symm (Nat.ne_of_lt lt_x0_va))
  have F_rest_x0_26 : Fld Z h26 x0 sH "rest" "[I" (.ref ra) := F_rest_x0_25.other W26 (Or.inr (slot_ne (Or.inl (hw _ (List.mem_of_getElem? (i := 13) rfl))) (Or.inr (hw _ (List.mem_of_getElem? (i := 42) rfl))) (by decide) (t := (.array .int)) (t' := (.object "com/example/rootline/rootline/heap/LongIntTable")) (by decide) (by decide)))
  have F_highest_x0_26 : Fld Z h26 x0 sH "highest" "[I" (.ref ha) := F_highest_x0_25.other W26 (Or.inr (slot_ne (Or.inl (hw _ (List.mem_of_getElem? (i := 15) rfl))) (Or.inr (hw _ (List.mem_of_getElem? (i := 42) rfl))) (by decide) (t := (.array .int)) (t' := (.object "com/example/rootline/rootline/heap/LongIntTable")) (by decide) (by decide)))
  have F_sizes_x0_26 : Fld Z h26 x0 sH "sizes" "[I" (.ref sa) := F_sizes_x0_25.other W26 (Or.inr (slot_ne (Or.inl (hw _ (List.mem_of_getElem? (i := 17) rfl))) (Or.inr (hw _ (List.mem_of_getElem? (i := 42) rfl))) (by decide) (t := (.array .int)) (t' := (.object "com/example/rootline/rootline/heap/LongIntTable")) (by decide) (by decide)))
  have F_count_x0_26 : Fld Z h26 x0 sH "count" "I" (.int (1 : Int32)) := F_count_x0_25.other W26 (Or.inr (slot_ne (Or.inl (hw _ (List.mem_of_getElem? (i := 19) rfl))) (Or.inr (hw _ (List.mem_of_getElem? (i := 42) rfl))) (by decide) (t := .int) (t' := (.object "com/example/rootline/rootline/heap/LongIntTable")) (by decide) (by decide)))
  have F_withOne_x0_26 : Fld Z h26 x0 sH "withOne" "Lcom/example/rootline/rootline/heap/LongIntTable;" (.ref t) := F_withOne_x0_25.other W26 (Or.inr (slot_ne (Or.inr (hw _ (List.mem_of_getElem? (i := 40) rfl))) (Or.inr (hw _ (List.mem_of_getElem? (i := 42) rfl))) (by decide) (t := (.object "com/example/rootline/rootline/heap/LongIntTable")) (t' := (.object "com/example/rootline/rootline/heap/LongIntTable")) (by decide) (by decide)))
  have F_unions_x0_26 : Fld Z h26 x0 sH "unions" "Lcom/example/rootline/rootline/heap/LongIntTable;" (.ref t2) := F_unions_x0_25.same W26
  have F_left_x0_26 : Fld Z h26 x0 sH "left" "[I" .null := F_left_x0_25.other W26 (Or.inr (slot_ne (Or.inl (hw _ (List.mem_of_getElem? (i := 44) rfl))) (Or.inr (hw _ (List.mem_of_getElem? (i := 42) rfl))) (by decide) (t := (.array .int)) (t' := (.object "com/example/rootline/rootline/heap/LongIntTable")) (by decide) (by decide)))
  have F_right_x0_26 : Fld Z h26 x0 sH "right" "[I" .null := F_right_x0_25.other W26 (Or.inr (slot_ne (Or.inl (hw _ (List.mem_of_getElem? (i := 46) rfl))) (Or.inr (hw _ (List.mem_of_getElem? (i := 42) rfl))) (by decide) (t := (.array .int)) (t' := (.object "com/example/rootline/rootline/heap/LongIntTable")) (by decide) (by decide)))
  have F_merged_x0_26 : Fld Z h26 x0 sH "merged" "[I" .null := F_merged_x0_25.other W26 (Or.inr (slot_ne (Or.inl (hw _ (List.mem_of_getElem? (i := 48) rfl))) (Or.inr (hw _ (List.mem_of_getElem? (i := 42) rfl))) (by decide) (t := (.array .int)) (t' := (.object "com/example/rootline/rootline/heap/LongIntTable")) (by decide) (by decide)))
  obtain ⟨T28, h28, k28, X28, e28, E28, A28, st28⟩ := newP X26 hx hZ (hw _ (List.mem_of_getElem? (i := 11) rfl)) e26 (g := (mkF m 58 #[.val (.ref x0)] [(.int (16 : Int32)), (.ref x0)])) rfl (hb hby d1_58) rfl (by decide) (cap := 16) (by decide) (by decide) (by decide) (by decide)
  obtain ⟨lf, g28⟩ : ∃ z, z = h26.size := ⟨_, rfl⟩
  rw [← g28] at A28 st28
  have V_lf_28 : Arv Z h28 lf k28 .int (16 : Int32) [(.int (0 : Int32)), (.int (0 : Int32)), (.int (0 : Int32)), (.int (0 : Int32)), (.int (0 : Int32)), (.int (0 : Int32)), (.int (0 : Int32)), (.int (0 : Int32)), (.int (0 : Int32)), (.int (0 : Int32)), (.int (0 : Int32)), (.int (0 : Int32)), (.int (0 : Int32)), (.int (0 : Int32)), (.int (0 : Int32)), (.int (0 : Int32))] (.int (0 : Int32)) := (Arv.new A28 (by decide)).pad (pad_rep [] (.int (0 : Int32)) 16)
  have lt_ha_lf : ha < lf := Nat.lt_of_lt_of_le V_ha_27.lt (Nat.le_of_eq g28.symm)
  have lt_ka_lf : ka < lf := Nat.lt_of_lt_of_le V_ka_27.lt (Nat.le_of_eq g28.symm)
  have lt_ra_lf : ra < lf := Nat.lt_of_lt_of_le V_ra_27.lt (Nat.le_of_eq g28.symm)
  have lt_sa_lf : sa < lf := Nat.lt_of_lt_of_le V_sa_27.lt (Nat.le_of_eq g28.symm)
  have lt_t_lf : t < lf := Nat.lt_of_lt_of_le E_t_27.lt (Nat.le_of_eq g28.symm)
  have lt_va_lf : va < lf := Nat.lt_of_lt_of_le V_va_27.lt (Nat.le_of_eq g28.symm)
  have lt_x0_lf : x0 < lf := Nat.lt_of_lt_of_le E_x0_27.lt (Nat.le_of_eq g28.symm)
  have g_lf : n0 ≤ lf := Nat.le_trans siz_27 (Nat.le_of_eq g28.symm)
  have sz_lf : h0.size ≤ lf := Nat.le_trans keep_27.1 (Nat.le_of_eq g28.symm)
  have keep_29 := keep_27.ext E28
  have E_x0_29 := E_x0_27.ext E28
  have F_rest_x0_29 := F_rest_x0_26.ext E28
  have F_highest_x0_29 := F_highest_x0_26.ext E28
  have F_sizes_x0_29 := F_sizes_x0_26.ext E28
  have F_count_x0_29 := F_count_x0_26.ext E28
  have F_withOne_x0_29 := F_withOne_x0_26.ext E28
  have F_unions_x0_29 := F_unions_x0_26.ext E28
  have F_left_x0_29 := F_left_x0_26.ext E28
  have F_right_x0_29 := F_right_x0_26.ext E28
  have F_merged_x0_29 := F_merged_x0_26.ext E28
  have siz_29 := Nat.le_trans siz_27 E28.1
  have V_ra_29 := V_ra_27.ext E28
  have V_ha_29 := V_ha_27.ext E28
  have V_sa_29 := V_sa_27.ext E28
  have E_t_29 := E_t_27.ext E28
  have F_keys_t_29 := F_keys_t_27.ext E28
  have F_values_t_29 := F_values_t_27.ext E28
  have F_size_t_29 := F_size_t_27.ext E28
  have V_ka_29 := V_ka_27.ext E28
  have V_va_29 := V_va_27.ext E28
  obtain ⟨T30, h30, X30, e30, W30, st30⟩ := putF X28 hx hZ hown (host := "") (Or.inl (hw _ (List.mem_of_getElem? (i := 43) rfl))) Via.refl e28 F_left_x0_29 E_x0_29 (Or.inl (hw _ (List.mem_of_getElem? (i := 44) rfl))) (hw _ (List.mem_of_getElem? (i := 3) rfl)) (ty := (.array .int)) (by decide) rfl rfl (g := (mkF m 60 #[.val (.ref x0)] [(.ref lf), (.ref x0)])) rfl rfl (hb hby d1_60)
  have N30 := Fr.snoc X30 N26 g_x0
  have keep_31 := keep_29.wr W30 (Or.inl (List.mem_of_getElem? (i := 0) rfl))
  have E_x0_31 := E_x0_29.wr W30
  have siz_31 := Nat.le_trans siz_29 (Keep.of_wr W30).1
  have V_ra_31 := V_ra_29.other W30 (Ne.symm (Nat.ne_of_lt lt_x0_ra))
  have V_ha_31 := V_ha_29.other W30 (Ne.symm (Nat.ne_of_lt lt_x0_ha))
  have V_sa_31 := V_sa_29.other W30 (Ne.symm (Nat.ne_of_lt lt_x0_sa))
  have E_t_31 := E_t_29.wr W30
  have F_keys_t_31 := F_keys_t_29.other W30 (Or.inl (Ne.symm (Nat.ne_of_lt lt_x0_t)))
  have F_values_t_31 := F_values_t_29.other W30 (Or.inl (Ne.symm (Nat.ne_of_lt lt_x0_t)))
  have F_size_t_31 := F_size_t_29.other W30 (Or.inl (Ne.symm (Nat.ne_of_lt lt_x0_t)))
  have V_ka_31 := V_ka_29.other W30 (Ne.symm (Nat.ne_of_lt lt_x0_ka))
  have V_va_31 := V_va_29.other W30 (Ne.symm (Nat.ne_of_lt lt_x0_va))
  have V_lf_31 := V_lf_28.other W30 (Ne.symm (Nat.ne_of_lt lt_x0_lf))
  have F_rest_x0_30 : Fld Z h30 x0 sH "rest" "[I" (.ref ra) := F_rest_x0_29.other W30 (Or.inr (slot_ne (Or.inl (hw _ (List.mem_of_getElem? (i := 13) rfl))) (Or.inl (hw _ (List.mem_of_getElem? (i := 44) rfl))) (by decide) (t := (.array .int)) (t' := (.array .int)) (by decide) (by decide)))
  have F_highest_x0_30 : Fld Z h30 x0 sH "highest" "[I" (.ref ha) := F_highest_x0_29.other W30 (Or.inr (slot_ne (Or.inl (hw _ (List.mem_of_getElem? (i := 15) rfl))) (Or.inl (hw _ (List.mem_of_getElem? (i := 44) rfl))) (by decide) (t := (.array .int)) (t' := (.array .int)) (by decide) (by decide)))
  have F_sizes_x0_30 : Fld Z h30 x0 sH "sizes" "[I" (.ref sa) := F_sizes_x0_29.other W30 (Or.inr (slot_ne (Or.inl (hw _ (List.mem_of_getElem? (i := 17) rfl))) (Or.inl (hw _ (List.mem_of_getElem? (i := 44) rfl))) (by decide) (t := (.array .int)) (t' := (.array .int)) (by decide) (by decide)))
  have F_count_x0_30 : Fld Z h30 x0 sH "count" "I" (.int (1 : Int32)) := F_count_x0_29.other W30 (Or.inr (slot_ne (Or.inl (hw _ (List.mem_of_getElem? (i := 19) rfl))) (Or.inl (hw _ (List.mem_of_getElem? (i := 44) rfl))) (by decide) (t := .int) (t' := (.array .int)) (by decide) (by decide)))
  have F_withOne_x0_30 : Fld Z h30 x0 sH "withOne" "Lcom/example/rootline/rootline/heap/LongIntTable;" (.ref t) := F_withOne_x0_29.other W30 (Or.inr (slot_ne (Or.inr (hw _ (List.mem_of_getElem? (i := 40) rfl))) (Or.inl (hw _ (List.mem_of_getElem? (i := 44) rfl))) (by decide) (t := (.object "com/example/rootline/rootline/heap/LongIntTable")) (t' := (.array .int)) (by decide) (by decide)))
  have F_unions_x0_30 : Fld Z h30 x0 sH "unions" "Lcom/example/rootline/rootline/heap/LongIntTable;" (.ref t2) := F_unions_x0_29.other W30 (Or.inr (slot_ne (Or.inr (hw _ (List.mem_of_getElem? (i := 42) rfl))) (Or.inl (hw _ (List.mem_of_getElem? (i := 44) rfl))) (by decide) (t := (.object "com/example/rootline/rootline/heap/LongIntTable")) (t' := (.array .int)) (by decide) (by decide)))
  have F_left_x0_30 : Fld Z h30 x0 sH "left" "[I" (.ref lf) := F_left_x0_29.same W30
  have F_right_x0_30 : Fld Z h30 x0 sH "right" "[I" .null := F_right_x0_29.other W30 (Or.inr (slot_ne (Or.inl (hw _ (List.mem_of_getElem? (i := 46) rfl))) (Or.inl (hw _ (List.mem_of_getElem? (i := 44) rfl))) (by decide) (t := (.array .int)) (t' := (.array .int)) (by decide) (by decide)))
  have F_merged_x0_30 : Fld Z h30 x0 sH "merged" "[I" .null := F_merged_x0_29.other W30 (Or.inr (slot_ne (Or.inl (hw _ (List.mem_of_getElem? (i := 48) rfl))) (Or.inl (hw _ (List.mem_of_getElem? (i := 44) rfl))) (by decide) (t := (.array .int)) (t' := (.array .int)) (by decide) (by decide)))
  obtain ⟨T32, h32, k32, X32, e32, E32, A32, st32⟩ := newP X30 hx hZ (hw _ (List.mem_of_getElem? (i := 11) rfl)) e30 (g := (mkF m 66 #[.val (.ref x0)] [(.int (16 : Int32)), (.ref x0)])) rfl (hb hby d1_66) rfl (by decide) (cap := 16) (by decide) (by decide) (by decide) (by decide)
  obtain ⟨rg, g32⟩ : ∃ z, z = h30.size := ⟨_, rfl⟩
  rw [← g32] at A32 st32
  have V_rg_32 : Arv Z h32 rg k32 .int (16 : Int32) [(.int (0 : Int32)), (.int (0 : Int32)), (.int (0 : Int32)), (.int (0 : Int32)), (.int (0 : Int32)), (.int (0 : Int32)), (.int (0 : Int32)), (.int (0 : Int32)), (.int (0 : Int32)), (.int (0 : Int32)), (.int (0 : Int32)), (.int (0 : Int32)), (.int (0 : Int32)), (.int (0 : Int32)), (.int (0 : Int32)), (.int (0 : Int32))] (.int (0 : Int32)) := (Arv.new A32 (by decide)).pad (pad_rep [] (.int (0 : Int32)) 16)
  have lt_ha_rg : ha < rg := Nat.lt_of_lt_of_le V_ha_31.lt (Nat.le_of_eq g32.symm)
  have lt_ka_rg : ka < rg := Nat.lt_of_lt_of_le V_ka_31.lt (Nat.le_of_eq g32.symm)
  have lt_ra_rg : ra < rg := Nat.lt_of_lt_of_le V_ra_31.lt (Nat.le_of_eq g32.symm)
  have lt_sa_rg : sa < rg := Nat.lt_of_lt_of_le V_sa_31.lt (Nat.le_of_eq g32.symm)
  have lt_t_rg : t < rg := Nat.lt_of_lt_of_le E_t_31.lt (Nat.le_of_eq g32.symm)
  have lt_va_rg : va < rg := Nat.lt_of_lt_of_le V_va_31.lt (Nat.le_of_eq g32.symm)
  have lt_x0_rg : x0 < rg := Nat.lt_of_lt_of_le E_x0_31.lt (Nat.le_of_eq g32.symm)
  have g_rg : n0 ≤ rg := Nat.le_trans siz_31 (Nat.le_of_eq g32.symm)
  have sz_rg : h0.size ≤ rg := Nat.le_trans keep_31.1 (Nat.le_of_eq g32.symm)
  have keep_33 := keep_31.ext E32
  have E_x0_33 := E_x0_31.ext E32
  have F_rest_x0_33 := F_rest_x0_30.ext E32
  have F_highest_x0_33 := F_highest_x0_30.ext E32
  have F_sizes_x0_33 := F_sizes_x0_30.ext E32
  have F_count_x0_33 := F_count_x0_30.ext E32
  have F_withOne_x0_33 := F_withOne_x0_30.ext E32
  have F_unions_x0_33 := F_unions_x0_30.ext E32
  have F_left_x0_33 := F_left_x0_30.ext E32
  have F_right_x0_33 := F_right_x0_30.ext E32
  have F_merged_x0_33 := F_merged_x0_30.ext E32
  have siz_33 := Nat.le_trans siz_31 E32.1
  have V_ra_33 := V_ra_31.ext E32
  have V_ha_33 := V_ha_31.ext E32
  have V_sa_33 := V_sa_31.ext E32
  have E_t_33 := E_t_31.ext E32
  have F_keys_t_33 := F_keys_t_31.ext E32
  have F_values_t_33 := F_values_t_31.ext E32
  have F_size_t_33 := F_size_t_31.ext E32
  have V_ka_33 := V_ka_31.ext E32
  have V_va_33 := V_va_31.ext E32
  obtain ⟨T34, h34, X34, e34, W34, st34⟩ := putF X32 hx hZ hown (host := "") (Or.inl (hw _ (List.mem_of_getElem? (i := 45) rfl))) Via.refl e32 F_right_x0_33 E_x0_33 (Or.inl (hw _ (List.mem_of_getElem? (i := 46) rfl))) (hw _ (List.mem_of_getElem? (i := 3) rfl)) (ty := (.array .int)) (by decide) rfl rfl (g := (mkF m 68 #[.val (.ref x0)] [(.ref rg), (.ref x0)])) rfl rfl (hb hby d1_68)
  have N34 := Fr.snoc X34 N30 g_x0
  have keep_35 := keep_33.wr W34 (Or.inl (List.mem_of_getElem? (i := 0) rfl))
  have E_x0_35 := E_x0_33.wr W34
  have siz_35 := Nat.le_trans siz_33 (Keep.of_wr W34).1
  have V_ra_35 := V_ra_33.other W34 (Ne.symm (Nat.ne_of_lt lt_x0_ra))
  have V_ha_35 := V_ha_33.other W34 (Ne.symm (Nat.ne_of_lt lt_x0_ha))
  have V_sa_35 := V_sa_33.other W34 (Ne.symm (Nat.ne_of_lt lt_x0_sa))
  have E_t_35 := E_t_33.wr W34
  have F_keys_t_35 := F_keys_t_33.other W34 (Or.inl (Ne.symm (Nat.ne_of_lt lt_x0_t)))
  have F_values_t_35 := F_values_t_33.other W34 (Or.inl (Ne.symm (Nat.ne_of_lt lt_x0_t)))
  have F_size_t_35 := F_size_t_33.other W34 (Or.inl (Ne.symm (Nat.ne_of_lt lt_x0_t)))
  have V_ka_35 := V_ka_33.other W34 (Ne.symm (Nat.ne_of_lt lt_x0_ka))
  have V_va_35 := V_va_33.other W34 (Ne.symm (Nat.ne_of_lt lt_x0_va))
  have V_rg_35 := V_rg_32.other W34 (Ne.symm (Nat.ne_of_lt lt_x0_rg))
  have F_rest_x0_34 : Fld Z h34 x0 sH "rest" "[I" (.ref ra) := F_rest_x0_33.other W34 (Or.inr (slot_ne (Or.inl (hw _ (List.mem_of_getElem? (i := 13) rfl))) (Or.inl (hw _ (List.mem_of_getElem? (i := 46) rfl))) (by decide) (t := (.array .int)) (t' := (.array .int)) (by decide) (by decide)))
  have F_highest_x0_34 : Fld Z h34 x0 sH "highest" "[I" (.ref ha) := F_highest_x0_33.other W34 (Or.inr (slot_ne (Or.inl (hw _ (List.mem_of_getElem? (i := 15) rfl))) (Or.inl (hw _ (List.mem_of_getElem? (i := 46) rfl))) (by decide) (t := (.array .int)) (t' := (.array .int)) (by decide) (by decide)))
  have F_sizes_x0_34 : Fld Z h34 x0 sH "sizes" "[I" (.ref sa) := F_sizes_x0_33.other W34 (Or.inr (slot_ne (Or.inl (hw _ (List.mem_of_getElem? (i := 17) rfl))) (Or.inl (hw _ (List.mem_of_getElem? (i := 46) rfl))) (by decide) (t := (.array .int)) (t' := (.array .int)) (by decide) (by decide)))
  have F_count_x0_34 : Fld Z h34 x0 sH "count" "I" (.int (1 : Int32)) := F_count_x0_33.other W34 (Or.inr (slot_ne (Or.inl (hw _ (List.mem_of_getElem? (i := 19) rfl))) (Or.inl (hw _ (List.mem_of_getElem? (i := 46) rfl))) (by decide) (t := .int) (t' := (.array .int)) (by decide) (by decide)))
  have F_withOne_x0_34 : Fld Z h34 x0 sH "withOne" "Lcom/example/rootline/rootline/heap/LongIntTable;" (.ref t) := F_withOne_x0_33.other W34 (Or.inr (slot_ne (Or.inr (hw _ (List.mem_of_getElem? (i := 40) rfl))) (Or.inl (hw _ (List.mem_of_getElem? (i := 46) rfl))) (by decide) (t := (.object "com/example/rootline/rootline/heap/LongIntTable")) (t' := (.array .int)) (by decide) (by decide)))
  have F_unions_x0_34 : Fld Z h34 x0 sH "unions" "Lcom/example/rootline/rootline/heap/LongIntTable;" (.ref t2) := F_unions_x0_33.other W34 (Or.inr (slot_ne (Or.inr (hw _ (List.mem_of_getElem? (i := 42) rfl))) (Or.inl (hw _ (List.mem_of_getElem? (i := 46) rfl))) (by decide) (t := (.object "com/example/rootline/rootline/heap/LongIntTable")) (t' := (.array .int)) (by decide) (by decide)))
  have F_left_x0_34 : Fld Z h34 x0 sH "left" "[I" (.ref lf) := F_left_x0_33.other W34 (Or.inr (slot_ne (Or.inl (hw _ (List.mem_of_getElem? (i := 44) rfl))) (Or.inl (hw _ (List.mem_of_getElem? (i := 46) rfl))) (by decide) (t := (.array .int)) (t' := (.array .int)) (by decide) (by decide)))
  have F_right_x0_34 : Fld Z h34 x0 sH "right" "[I" (.ref rg) := F_right_x0_33.same W34
  have F_merged_x0_34 : Fld Z h34 x0 sH "merged" "[I" .null := F_merged_x0_33.other W34 (Or.inr (slot_ne (Or.inl (hw _ (List.mem_of_getElem? (i := 48) rfl))) (Or.inl (hw _ (List.mem_of_getElem? (i := 46) rfl))) (by decide) (t := (.array .int)) (t' := (.array .int)) (by decide) (by decide)))
  obtain ⟨T36, h36, k36, X36, e36, E36, A36, st36⟩ := newP X34 hx hZ (hw _ (List.mem_of_getElem? (i := 11) rfl)) e34 (g := (mkF m 74 #[.val (.ref x0)] [(.int (16 : Int32)), (.ref x0)])) rfl (hb hby d1_74) rfl (by decide) (cap := 16) (by decide) (by decide) (by decide) (by decide)
  obtain ⟨mg, g36⟩ : ∃ z, z = h34.size := ⟨_, rfl⟩
  rw [← g36] at A36 st36
  have V_mg_36 : Arv Z h36 mg k36 .int (16 : Int32) [(.int (0 : Int32)), (.int (0 : Int32)), (.int (0 : Int32)), (.int (0 : Int32)), (.int (0 : Int32)), (.int (0 : Int32)), (.int (0 : Int32)), (.int (0 : Int32)), (.int (0 : Int32)), (.int (0 : Int32)), (.int (0 : Int32)), (.int (0 : Int32)), (.int (0 : Int32)), (.int (0 : Int32)), (.int (0 : Int32)), (.int (0 : Int32))] (.int (0 : Int32)) := (Arv.new A36 (by decide)).pad (pad_rep [] (.int (0 : Int32)) 16)
  have lt_ha_mg : ha < mg := Nat.lt_of_lt_of_le V_ha_35.lt (Nat.le_of_eq g36.symm)
  have lt_ka_mg : ka < mg := Nat.lt_of_lt_of_le V_ka_35.lt (Nat.le_of_eq g36.symm)
  have lt_ra_mg : ra < mg := Nat.lt_of_lt_of_le V_ra_35.lt (Nat.le_of_eq g36.symm)
  have lt_sa_mg : sa < mg := Nat.lt_of_lt_of_le V_sa_35.lt (Nat.le_of_eq g36.symm)
  have lt_t_mg : t < mg := Nat.lt_of_lt_of_le E_t_35.lt (Nat.le_of_eq g36.symm)
  have lt_va_mg : va < mg := Nat.lt_of_lt_of_le V_va_35.lt (Nat.le_of_eq g36.symm)
  have lt_x0_mg : x0 < mg := Nat.lt_of_lt_of_le E_x0_35.lt (Nat.le_of_eq g36.symm)
  have g_mg : n0 ≤ mg := Nat.le_trans siz_35 (Nat.le_of_eq g36.symm)
  have sz_mg : h0.size ≤ mg := Nat.le_trans keep_35.1 (Nat.le_of_eq g36.symm)
  have keep_37 := keep_35.ext E36
  have E_x0_37 := E_x0_35.ext E36
  have F_rest_x0_37 := F_rest_x0_34.ext E36
  have F_highest_x0_37 := F_highest_x0_34.ext E36
  have F_sizes_x0_37 := F_sizes_x0_34.ext E36
  have F_count_x0_37 := F_count_x0_34.ext E36
  have F_withOne_x0_37 := F_withOne_x0_34.ext E36
  have F_unions_x0_37 := F_unions_x0_34.ext E36
  have F_left_x0_37 := F_left_x0_34.ext E36
  have F_right_x0_37 := F_right_x0_34.ext E36
  have F_merged_x0_37 := F_merged_x0_34.ext E36
  have siz_37 := Nat.le_trans siz_35 E36.1
  have V_ra_37 := V_ra_35.ext E36
  have V_ha_37 := V_ha_35.ext E36
  have V_sa_37 := V_sa_35.ext E36
  have E_t_37 := E_t_35.ext E36
  have F_keys_t_37 := F_keys_t_35.ext E36
  have F_values_t_37 := F_values_t_35.ext E36
  have F_size_t_37 := F_size_t_35.ext E36
  have V_ka_37 := V_ka_35.ext E36
  have V_va_37 := V_va_35.ext E36
  obtain ⟨T38, h38, X38, e38, W38, st38⟩ := putF X36 hx hZ hown (host := "") (Or.inl (hw _ (List.mem_of_getElem? (i := 47) rfl))) Via.refl e36 F_merged_x0_37 E_x0_37 (Or.inl (hw _ (List.mem_of_getElem? (i := 48) rfl))) (hw _ (List.mem_of_getElem? (i := 3) rfl)) (ty := (.array .int)) (by decide) rfl rfl (g := (mkF m 76 #[.val (.ref x0)] [(.ref mg), (.ref x0)])) rfl rfl (hb hby d1_76)
  have N38 := Fr.snoc X38 N34 g_x0
  have keep_39 := keep_37.wr W38 (Or.inl (List.mem_of_getElem? (i := 0) rfl))
  have E_x0_39 := E_x0_37.wr W38
  have siz_39 := Nat.le_trans siz_37 (Keep.of_wr W38).1
  have V_ra_39 := V_ra_37.other W38 (Ne.symm (Nat.ne_of_lt lt_x0_ra))
  have V_ha_39 := V_ha_37.other W38 (Ne.symm (Nat.ne_of_lt lt_x0_ha))
  have V_sa_39 := V_sa_37.other W38 (Ne.symm (Nat.ne_of_lt lt_x0_sa))
  have E_t_39 := E_t_37.wr W38
  have F_keys_t_39 := F_keys_t_37.other W38 (Or.inl (Ne.symm (Nat.ne_of_lt lt_x0_t)))
  have F_values_t_39 := F_values_t_37.other W38 (Or.inl (Ne.symm (Nat.ne_of_lt lt_x0_t)))
  have F_size_t_39 := F_size_t_37.other W38 (Or.inl (Ne.symm (Nat.ne_of_lt lt_x0_t)))
  have V_ka_39 := V_ka_37.other W38 (Ne.symm (Nat.ne_of_lt lt_x0_ka))
  have V_va_39 := V_va_37.other W38 (Ne.symm (Nat.ne_of_lt lt_x0_va))
  have V_mg_39 := V_mg_36.other W38 (Ne.symm (Nat.ne_of_lt lt_x0_mg))
  have F_rest_x0_38 : Fld Z h38 x0 sH "rest" "[I" (.ref ra) := F_rest_x0_37.other W38 (Or.inr (slot_ne (Or.inl (hw _ (List.mem_of_getElem? (i := 13) rfl))) (Or.inl (hw _ (List.mem_of_getElem? (i := 48) rfl))) (by decide) (t := (.array .int)) (t' := (.array .int)) (by decide) (by decide)))
  have F_highest_x0_38 : Fld Z h38 x0 sH "highest" "[I" (.ref ha) := F_highest_x0_37.other W38 (Or.inr (slot_ne (Or.inl (hw _ (List.mem_of_getElem? (i := 15) rfl))) (Or.inl (hw _ (List.mem_of_getElem? (i := 48) rfl))) (by decide) (t := (.array .int)) (t' := (.array .int)) (by decide) (by decide)))
  have F_sizes_x0_38 : Fld Z h38 x0 sH "sizes" "[I" (.ref sa) := F_sizes_x0_37.other W38 (Or.inr (slot_ne (Or.inl (hw _ (List.mem_of_getElem? (i := 17) rfl))) (Or.inl (hw _ (List.mem_of_getElem? (i := 48) rfl))) (by decide) (t := (.array .int)) (t' := (.array .int)) (by decide) (by decide)))
  have F_count_x0_38 : Fld Z h38 x0 sH "count" "I" (.int (1 : Int32)) := F_count_x0_37.other W38 (Or.inr (slot_ne (Or.inl (hw _ (List.mem_of_getElem? (i := 19) rfl))) (Or.inl (hw _ (List.mem_of_getElem? (i := 48) rfl))) (by decide) (t := .int) (t' := (.array .int)) (by decide) (by decide)))
  have F_withOne_x0_38 : Fld Z h38 x0 sH "withOne" "Lcom/example/rootline/rootline/heap/LongIntTable;" (.ref t) := F_withOne_x0_37.other W38 (Or.inr (slot_ne (Or.inr (hw _ (List.mem_of_getElem? (i := 40) rfl))) (Or.inl (hw _ (List.mem_of_getElem? (i := 48) rfl))) (by decide) (t := (.object "com/example/rootline/rootline/heap/LongIntTable")) (t' := (.array .int)) (by decide) (by decide)))
  have F_unions_x0_38 : Fld Z h38 x0 sH "unions" "Lcom/example/rootline/rootline/heap/LongIntTable;" (.ref t2) := F_unions_x0_37.other W38 (Or.inr (slot_ne (Or.inr (hw _ (List.mem_of_getElem? (i := 42) rfl))) (Or.inl (hw _ (List.mem_of_getElem? (i := 48) rfl))) (by decide) (t := (.object "com/example/rootline/rootline/heap/LongIntTable")) (t' := (.array .int)) (by decide) (by decide)))
  have F_left_x0_38 : Fld Z h38 x0 sH "left" "[I" (.ref lf) := F_left_x0_37.other W38 (Or.inr (slot_ne (Or.inl (hw _ (List.mem_of_getElem? (i := 44) rfl))) (Or.inl (hw _ (List.mem_of_getElem? (i := 48) rfl))) (by decide) (t := (.array .int)) (t' := (.array .int)) (by decide) (by decide)))
  have F_right_x0_38 : Fld Z h38 x0 sH "right" "[I" (.ref rg) := F_right_x0_37.other W38 (Or.inr (slot_ne (Or.inl (hw _ (List.mem_of_getElem? (i := 46) rfl))) (Or.inl (hw _ (List.mem_of_getElem? (i := 48) rfl))) (by decide) (t := (.array .int)) (t' := (.array .int)) (by decide) (by decide)))
  have F_merged_x0_38 : Fld Z h38 x0 sH "merged" "[I" (.ref mg) := F_merged_x0_37.same W38
  obtain ⟨T40, X40, e40, st40⟩ := getF X38 hx hZ hown (host := "") (Or.inl (hw _ (List.mem_of_getElem? (i := 12) rfl))) Via.refl e38 F_rest_x0_38 (g := (mkF m 80 #[.val (.ref x0)] [(.ref x0)])) rfl rfl (hb hby d1_80)
  obtain ⟨T41, h41, L41, X41, e41, N41, W41, V41, st41⟩ := own_stI X40 hx hZ e40 V_ra_39 (j := (0 : Int32)) ⟨by decide, by decide⟩ (i := 0) rfl (Nat.le_of_ble_eq_true rfl) N38 g_ra (g := (mkF m 85 #[.val (.ref x0)] [(.int (-1 : Int32)), (.int (0 : Int32)), (.ref ra)])) rfl rfl (hb hby d1_85)
  have keep_42 := keep_39.wr W41 (Or.inr sz_ra)
  have E_x0_42 := E_x0_39.wr W41
  have F_rest_x0_42 := F_rest_x0_38.other W41 (Or.inl (Nat.ne_of_lt lt_x0_ra))
  have F_highest_x0_42 := F_highest_x0_38.other W41 (Or.inl (Nat.ne_of_lt lt_x0_ra))
  have F_sizes_x0_42 := F_sizes_x0_38.other W41 (Or.inl (Nat.ne_of_lt lt_x0_ra))
  have F_count_x0_42 := F_count_x0_38.other W41 (Or.inl (Nat.ne_of_lt lt_x0_ra))
  have F_withOne_x0_42 := F_withOne_x0_38.other W41 (Or.inl (Nat.ne_of_lt lt_x0_ra))
  have F_unions_x0_42 := F_unions_x0_38.other W41 (Or.inl (Nat.ne_of_lt lt_x0_ra))
  have F_left_x0_42 := F_left_x0_38.other W41 (Or.inl (Nat.ne_of_lt lt_x0_ra))
  have F_right_x0_42 := F_right_x0_38.other W41 (Or.inl (Nat.ne_of_lt lt_x0_ra))
  have F_merged_x0_42 := F_merged_x0_38.other W41 (Or.inl (Nat.ne_of_lt lt_x0_ra))
  have siz_42 := Nat.le_trans siz_39 (Keep.of_wr W41).1
  have V_ha_42 := V_ha_39.other W41 (Ne.symm (Nat.ne_of_lt lt_ra_ha))
  have V_sa_42 := V_sa_39.other W41 (Ne.symm (Nat.ne_of_lt lt_ra_sa))
  have E_t_42 := E_t_39.wr W41
  have F_keys_t_42 := F_keys_t_39.other W41 (Or.inl (Ne.symm (Nat.ne_of_lt lt_ra_t)))
  have F_values_t_42 := F_values_t_39.other W41 (Or.inl (Ne.symm (Nat.ne_of_lt lt_ra_t)))
  have F_size_t_42 := F_size_t_39.other W41 (Or.inl (Ne.symm (Nat.ne_of_lt lt_ra_t)))
  have V_ka_42 := V_ka_39.other W41 (Ne.symm (Nat.ne_of_lt lt_ra_ka))
  have V_va_42 := V_va_39.other W41 (Ne.symm (Nat.ne_of_lt lt_ra_va))
  have V_ra_41 : Arv Z h41 ra k2 .int (16 : Int32) [(.int (-1 : Int32)), (.int (0 : Int32)), (.int (0 : Int32)), (.int (0 : Int32)), (.int (0 : Int32)), (.int (0 : Int32)), (.int (0 : Int32)), (.int (0 : Int32)), (.int (0 : Int32)), (.int (0 : Int32)), (.int (0 : Int32)), (.int (0 : Int32)), (.int (0 : Int32)), (.int (0 : Int32)), (.int (0 : Int32)), (.int (0 : Int32))] (.int (0 : Int32)) := V41
  obtain ⟨T43, X43, e43, st43⟩ := getF X41 hx hZ hown (host := "") (Or.inl (hw _ (List.mem_of_getElem? (i := 14) rfl))) Via.refl e41 F_highest_x0_42 (g := (mkF m 87 #[.val (.ref x0)] [(.ref x0)])) rfl rfl (hb hby d1_87)
  obtain ⟨T44, h44, L44, X44, e44, N44, W44, V44, st44⟩ := own_stI X43 hx hZ e43 V_ha_42 (j := (0 : Int32)) ⟨by decide, by decide⟩ (i := 0) rfl (Nat.le_of_ble_eq_true rfl) N41 g_ha (g := (mkF m 92 #[.val (.ref x0)] [(.int (-1 : Int32)), (.int (0 : Int32)), (.ref ha)])) rfl rfl (hb hby d1_92)
  have keep_45 := keep_42.wr W44 (Or.inr sz_ha)
  have E_x0_45 := E_x0_42.wr W44
  have F_rest_x0_45 := F_rest_x0_42.other W44 (Or.inl (Nat.ne_of_lt lt_x0_ha))
  have F_highest_x0_45 := F_highest_x0_42.other W44 (Or.inl (Nat.ne_of_lt lt_x0_ha))
  have F_sizes_x0_45 := F_sizes_x0_42.other W44 (Or.inl (Nat.ne_of_lt lt_x0_ha))
  have F_count_x0_45 := F_count_x0_42.other W44 (Or.inl (Nat.ne_of_lt lt_x0_ha))
  have F_withOne_x0_45 := F_withOne_x0_42.other W44 (Or.inl (Nat.ne_of_lt lt_x0_ha))
  have F_unions_x0_45 := F_unions_x0_42.other W44 (Or.inl (Nat.ne_of_lt lt_x0_ha))
  have F_left_x0_45 := F_left_x0_42.other W44 (Or.inl (Nat.ne_of_lt lt_x0_ha))
  have F_right_x0_45 := F_right_x0_42.other W44 (Or.inl (Nat.ne_of_lt lt_x0_ha))
  have F_merged_x0_45 := F_merged_x0_42.other W44 (Or.inl (Nat.ne_of_lt lt_x0_ha))
  have siz_45 := Nat.le_trans siz_42 (Keep.of_wr W44).1
  have V_ra_45 := V_ra_41.other W44 (Nat.ne_of_lt lt_ra_ha)
  have V_sa_45 := V_sa_42.other W44 (Ne.symm (Nat.ne_of_lt lt_ha_sa))
  have E_t_45 := E_t_42.wr W44
  have F_keys_t_45 := F_keys_t_42.other W44 (Or.inl (Ne.symm (Nat.ne_of_lt lt_ha_t)))
  have F_values_t_45 := F_values_t_42.other W44 (Or.inl (Ne.symm (Nat.ne_of_lt lt_ha_t)))
  have F_size_t_45 := F_size_t_42.other W44 (Or.inl (Ne.symm (Nat.ne_of_lt lt_ha_t)))
  have V_ka_45 := V_ka_42.other W44 (Ne.symm (Nat.ne_of_lt lt_ha_ka))
  have V_va_45 := V_va_42.other W44 (Ne.symm (Nat.ne_of_lt lt_ha_va))
  have V_ha_44 : Arv Z h44 ha k6 .int (16 : Int32) [(.int (-1 : Int32)), (.int (0 : Int32)), (.int (0 : Int32)), (.int (0 : Int32)), (.int (0 : Int32)), (.int (0 : Int32)), (.int (0 : Int32)), (.int (0 : Int32)), (.int (0 : Int32)), (.int (0 : Int32)), (.int (0 : Int32)), (.int (0 : Int32)), (.int (0 : Int32)), (.int (0 : Int32)), (.int (0 : Int32)), (.int (0 : Int32))] (.int (0 : Int32)) := V44
  obtain ⟨fs, hr, hrun, hended, hW, hsame⟩ := X44.leave (v := none) (fun _ => rfl)
  refine ⟨_, _, pre0 _ ?_, hrun, hended, _, _, rfl, ?_, ⟨_, rfl⟩, hW, hsame.mono (by decide) (by decide)⟩
  · show Steps p.tables e below (s₁.setTop (mkF m 0 #[.val (.ref x0)] [])) _
    refine XS.aloadN X0.here hx rfl (hb hby d1_0) rfl rfl ?_
    refine st1 _ ?_
    show Steps p.tables e below (T1.setTop (mkF m 4 #[.val (.ref x0)] [])) _
    refine XS.aloadN X1.here hx rfl (hb hby d1_4) rfl rfl ?_
    show Steps p.tables e below (T1.setTop (mkF m 5 #[.val (.ref x0)] [(.ref x0)])) _
    refine XS.bipush X1.here hx rfl (hb hby d1_5) ?_
    refine st2 _ ?_
    show Steps p.tables e below (T2.setTop (mkF m 9 #[.val (.ref x0)] [(.ref ra), (.ref x0)])) _
    refine st4 _ ?_
    show Steps p.tables e below (T4.setTop (mkF m 12 #[.val (.ref x0)] [])) _
    refine XS.aloadN X4.here hx rfl (hb hby d1_12) rfl rfl ?_
    show Steps p.tables e below (T4.setTop (mkF m 13 #[.val (.ref x0)] [(.ref x0)])) _
    refine XS.bipush X4.here hx rfl (hb hby d1_13) ?_
    refine st6 _ ?_
    show Steps p.tables e below (T6.setTop (mkF m 17 #[.val (.ref x0)] [(.ref ha), (.ref x0)])) _
    refine st8 _ ?_
    show Steps p.tables e below (T8.setTop (mkF m 20 #[.val (.ref x0)] [])) _
    refine XS.aloadN X8.here hx rfl (hb hby d1_20) rfl rfl ?_
    show Steps p.tables e below (T8.setTop (mkF m 21 #[.val (.ref x0)] [(.ref x0)])) _
    refine XS.bipush X8.here hx rfl (hb hby d1_21) ?_
    refine st10 _ ?_
    show Steps p.tables e below (T10.setTop (mkF m 25 #[.val (.ref x0)] [(.ref sa), (.ref x0)])) _
    refine st12 _ ?_
    show Steps p.tables e below (T12.setTop (mkF m 28 #[.val (.ref x0)] [])) _
    refine XS.aloadN X12.here hx rfl (hb hby d1_28) rfl rfl ?_
    show Steps p.tables e below (T12.setTop (mkF m 29 #[.val (.ref x0)] [(.ref x0)])) _
    refine XS.iconst X12.here hx rfl (hb hby d1_29) ?_
    refine st14 _ ?_
    show Steps p.tables e below (T14.setTop (mkF m 33 #[.val (.ref x0)] [])) _
    refine XS.aloadN X14.here hx rfl (hb hby d1_33) rfl rfl ?_
    refine st16 _ ?_
    show Steps p.tables e below (T16.setTop (mkF m 37 #[.val (.ref x0)] [(.ref t), (.ref x0)])) _
    refine XS.dup X16.here hx rfl (hb hby d1_37) rfl rfl ?_
    refine st18.trans ?_
    show Steps p.tables e below (T18.setTop (mkF m 41 #[.val (.ref x0)] [(.ref t), (.ref x0)])) _
    refine st20 _ ?_
    show Steps p.tables e below (T20.setTop (mkF m 44 #[.val (.ref x0)] [])) _
    refine XS.aloadN X20.here hx rfl (hb hby d1_44) rfl rfl ?_
    show Steps p.tables e below (T20.setTop (mkF m 45 #[.val (.ref x0)] [(.ref x0)])) _
    refine st22 _ ?_
    show Steps p.tables e below (T22.setTop (mkF m 48 #[.val (.ref x0)] [(.ref t2), (.ref x0)])) _
    refine XS.dup X22.here hx rfl (hb hby d1_48) rfl rfl ?_
    refine st24.trans ?_
    show Steps p.tables e below (T24.setTop (mkF m 52 #[.val (.ref x0)] [(.ref t2), (.ref x0)])) _
    refine st26 _ ?_
    show Steps p.tables e below (T26.setTop (mkF m 55 #[.val (.ref x0)] [])) _
    refine XS.aloadN X26.here hx rfl (hb hby d1_55) rfl rfl ?_
    refine XS.bipush X26.here hx rfl (hb hby d1_56) ?_
    refine st28 _ ?_
    show Steps p.tables e below (T28.setTop (mkF m 60 #[.val (.ref x0)] [(.ref lf), (.ref x0)])) _
    refine st30 _ ?_
    show Steps p.tables e below (T30.setTop (mkF m 63 #[.val (.ref x0)] [])) _
    refine XS.aloadN X30.here hx rfl (hb hby d1_63) rfl rfl ?_
    refine XS.bipush X30.here hx rfl (hb hby d1_64) ?_
    refine st32 _ ?_
    show Steps p.tables e below (T32.setTop (mkF m 68 #[.val (.ref x0)] [(.ref rg), (.ref x0)])) _
    refine st34 _ ?_
    show Steps p.tables e below (T34.setTop (mkF m 71 #[.val (.ref x0)] [])) _
    refine XS.aloadN X34.here hx rfl (hb hby d1_71) rfl rfl ?_
    refine XS.bipush X34.here hx rfl (hb hby d1_72) ?_
    refine st36 _ ?_
    show Steps p.tables e below (T36.setTop (mkF m 76 #[.val (.ref x0)] [(.ref mg), (.ref x0)])) _
    refine st38 _ ?_
    show Steps p.tables e below (T38.setTop (mkF m 79 #[.val (.ref x0)] [])) _
    refine XS.aloadN X38.here hx rfl (hb hby d1_79) rfl rfl ?_
    refine st40 _ ?_
    show Steps p.tables e below (T40.setTop (mkF m 83 #[.val (.ref x0)] [(.ref ra)])) _
    refine XS.iconst X40.here hx rfl (hb hby d1_83) ?_
    refine XS.iconst X40.here hx rfl (hb hby d1_84) ?_
    show Steps p.tables e below (T40.setTop (mkF m 85 #[.val (.ref x0)] [(.int (-1 : Int32)), (.int (0 : Int32)), (.ref ra)])) _
    refine st41 _ ?_
    show Steps p.tables e below (T41.setTop (mkF m 86 #[.val (.ref x0)] [])) _
    refine XS.aloadN X41.here hx rfl (hb hby d1_86) rfl rfl ?_
    refine st43 _ ?_
    show Steps p.tables e below (T43.setTop (mkF m 90 #[.val (.ref x0)] [(.ref ha)])) _
    refine XS.iconst X43.here hx rfl (hb hby d1_90) ?_
    show Steps p.tables e below (T43.setTop (mkF m 91 #[.val (.ref x0)] [(.int (0 : Int32)), (.ref ha)])) _
    refine XS.iconst X43.here hx rfl (hb hby d1_91) ?_
    refine st44 _ ?_
    show Steps p.tables e below (T44.setTop (mkF m 93 #[.val (.ref x0)] [])) _
    exact X44.returnOut hx Bd.returns (hb hby d1_93) hr
  · exact (by
      have eT : (T44.setFrames fs).heap = h44 := e44
      rw [eT]; exact ⟨rfl, N44, keep_45, ra, ha, sa, t, ka, va, _, _, _, Kf, Vf, ⟨⟨lt_x0_ra, lt_ra_ha, lt_ha_sa, lt_sa_t⟩, E_x0_45, F_rest_x0_45, F_highest_x0_45, F_sizes_x0_45, F_count_x0_45, F_withOne_x0_45, V_ra_45, V_ha_44, V_sa_45, ⟨⟨lt_t_ka, lt_ka_va⟩, E_t_45, F_keys_t_45, F_values_t_45, F_size_t_45, V_ka_45, V_va_45⟩⟩, hVf⟩)
set_option maxRecDepth 65536 in
set_option maxHeartbeats 40000000 in
theorem rm7 (l : Launch) (Z : State) (a0 : Array Value) (hw : ∀ d ∈ tables_1, d.before a0 Z = true) (ws : List Jvm.Cond) (x0 : Int32) (x1 : Int32)  (h0 : Heap) (n0 : Nat) (Z0 : n0 ≤ h0.size)  :
    MetFree l (⟨"com/example/rootline/rootline/reach/HolderSets", "pair", "(II)J"⟩ : MethodName) (head1 (Jvm.Cond.code (⟨"com/example/rootline/rootline/reach/HolderSets", "pair", "(II)J"⟩ : MethodName) prog_179_method_7_code 2 (some .long) :: ws) ({ frames := 0, cells := 0, slots := 0, locals := 0 } : Room)) (fun a U => a = #[(.int x0), (.int x1)] ∧ Z.Warmed39 U.vm ∧ U.heap = h0) (fun _ _ _ _ _ => True) (fun _ U o U' => ∃ v L, o = .returned v ∧ (QP (some (.long (own_pair x0 x1))) h0 n0 v U'.heap L) ∧ FrameEnd U o U' L ({ frames := 0, cells := 0, slots := 0, locals := 0 } : Room).cells ({ frames := 0, cells := 0, slots := 0, locals := 0 } : Room).slots) := by
  refine MetFree.of_bodySF (plainFor_of_name pn_7) hisR ?_
  intro p e s m args below meth c s₁ Bd hml0 hP hK
  obtain ⟨rfl, hZ, hh⟩ := hP
  have hx := Bd.exec
  have hby := Bd.bytes
  have hml : c.maxLocals = 2 := hml0
  have hown : s.vm.findClass "com/example/rootline/rootline/reach/HolderSets" = some m.cls := findClass_of_methodNamed Bd.named
  have hnm := (name_of_methodNamed Bd.named Bd.method).1
  have X0 : Stand p l e ({ frames := 0, cells := 0, slots := 0, locals := 0 } : Room) s m #[(.int x0), (.int x1)] below meth c s₁ [] 0 0 := Stand.of_body Bd
  have e0 : s₁.heap = h0 := by rw [← hh, Bd.state]; rfl
  have N0 := Fr.nil n0
  have pre0 : ∀ t, Steps p.tables e below (s₁.setTop (mkF m 0 #[.val (.int x0), .val (.int x1)] [])) t → Steps p.tables e below (s₁.setTop (entryFrame m #[(.int x0), (.int x1)] 2)) t := fun t k => castTop (ef_7 m x0 x1) k
  obtain ⟨fs, hr, hrun, hended, hW, hsame⟩ := X0.leave (v := some (.long (own_pair x0 x1))) (fun h => by rw [Bd.returns] at h; cases h)
  refine ⟨_, _, pre0 _ ?_, hrun, hended, _, _, rfl, ?_, ⟨_, rfl⟩, hW, hsame.mono (by decide) (by decide)⟩
  · show Steps p.tables e below (s₁.setTop (mkF m 0 #[.val (.int x0), .val (.int x1)] [])) _
    refine XS.iloadN X0.here hx rfl (hb hby d7_0) rfl ?_
    refine XS.i2l X0.here hx rfl (hb hby d7_1) rfl ?_
    refine XS.bipush X0.here hx rfl (hb hby d7_2) ?_
    show Steps p.tables e below (s₁.setTop (mkF m 4 #[.val (.int x0), .val (.int x1)] [(.int (32 : Int32)), (.long (x0.toInt64))])) _
    refine XS.lshl X0.here hx rfl (hb hby d7_4) rfl ?_
    refine XS.iloadN X0.here hx rfl (hb hby d7_5) rfl ?_
    refine XS.i2l X0.here hx rfl (hb hby d7_6) rfl ?_
    refine XS.lor X0.here hx rfl (hb hby d7_7) rfl ?_
    show Steps p.tables e below (s₁.setTop (mkF m 8 #[.val (.int x0), .val (.int x1)] [(.long (((x0.toInt64) <<< ((32 : Int32) &&& 0x3f).toInt64) ||| (x1.toInt64)))])) _
    have hv : own_pair x0 x1 = (((x0.toInt64) <<< ((32 : Int32) &&& 0x3f).toInt64) ||| (x1.toInt64)) := rfl
    rw [hv] at hr
    exact X0.lreturnOut hx Bd.returns (hb hby d7_8) hr
  · exact ⟨rfl, N0, e0⟩
set_option maxRecDepth 65536 in
set_option maxHeartbeats 40000000 in
theorem rm10 (l : Launch) (Z : State) (a0 : Array Value) (hw : ∀ d ∈ tables_1, d.before a0 Z = true) (ws : List Jvm.Cond) (x0 : Int64)  (h0 : Heap) (n0 : Nat) (Z0 : n0 ≤ h0.size)  :
    MetFree l (⟨"com/example/rootline/rootline/heap/LongIntTable", "home", "(JI)I"⟩ : MethodName) (head1 (Jvm.Cond.code (⟨"com/example/rootline/rootline/heap/LongIntTable", "home", "(JI)I"⟩ : MethodName) prog_121_method_7_code 3 (some .int) :: ws) ({ frames := 0, cells := 0, slots := 0, locals := 0 } : Room)) (fun a U => a = #[(.long x0), (.int (63 : Int32))] ∧ Z.Warmed39 U.vm ∧ U.heap = h0) (fun _ _ _ _ _ => True) (fun _ U o U' => ∃ v L, o = .returned v ∧ (QP (some (.int (own_home x0))) h0 n0 v U'.heap L) ∧ FrameEnd U o U' L ({ frames := 0, cells := 0, slots := 0, locals := 0 } : Room).cells ({ frames := 0, cells := 0, slots := 0, locals := 0 } : Room).slots) := by
  refine MetFree.of_bodySF (plainFor_of_name pn_10) hisR ?_
  intro p e s m args below meth c s₁ Bd hml0 hP hK
  obtain ⟨rfl, hZ, hh⟩ := hP
  have hx := Bd.exec
  have hby := Bd.bytes
  have hml : c.maxLocals = 3 := hml0
  have hown : s.vm.findClass "com/example/rootline/rootline/heap/LongIntTable" = some m.cls := findClass_of_methodNamed Bd.named
  have hnm := (name_of_methodNamed Bd.named Bd.method).1
  have X0 : Stand p l e ({ frames := 0, cells := 0, slots := 0, locals := 0 } : Room) s m #[(.long x0), (.int (63 : Int32))] below meth c s₁ [] 0 0 := Stand.of_body Bd
  have e0 : s₁.heap = h0 := by rw [← hh, Bd.state]; rfl
  have N0 := Fr.nil n0
  have pre0 : ∀ t, Steps p.tables e below (s₁.setTop (mkF m 0 #[.val (.long x0), .second, .val (.int (63 : Int32))] [])) t → Steps p.tables e below (s₁.setTop (entryFrame m #[(.long x0), (.int (63 : Int32))] 3)) t := fun t k => castTop (ef_10 m x0 (63 : Int32)) k
  obtain ⟨fs, hr, hrun, hended, hW, hsame⟩ := X0.leave (v := some (.int (own_home x0))) (fun h => by rw [Bd.returns] at h; cases h)
  refine ⟨_, _, pre0 _ ?_, hrun, hended, _, _, rfl, ?_, ⟨_, rfl⟩, hW, hsame.mono (by decide) (by decide)⟩
  · show Steps p.tables e below (s₁.setTop (mkF m 0 #[.val (.long x0), .second, .val (.int (63 : Int32))] [])) _
    refine XS.lloadN X0.here hx rfl (hb hby d10_0) rfl ?_
    refine X0.ldc2Long hx hown (mvT hZ (hw _ (List.mem_of_getElem? (i := 68) rfl))) (g := (mkF m 1 #[.val (.long x0), .second, .val (.int (63 : Int32))] [(.long x0)])) rfl (hb hby d10_1) _ ?_
    refine XS.lmul X0.here hx rfl (hb hby d10_4) rfl ?_
    show Steps p.tables e below (s₁.setTop (mkF m 5 #[.val (.long x0), .second, .val (.int (63 : Int32))] [(.long (x0 * (-7046029254386353131 : Int64)))])) _
    refine XS.bipush X0.here hx rfl (hb hby d10_5) ?_
    refine XS.lushr X0.here hx rfl (hb hby d10_7) rfl ?_
    refine XS.l2i X0.here hx rfl (hb hby d10_8) rfl ?_
    refine XS.iloadN X0.here hx rfl (hb hby d10_9) rfl ?_
    show Steps p.tables e below (s₁.setTop (mkF m 10 #[.val (.long x0), .second, .val (.int (63 : Int32))] [(.int (63 : Int32)), (.int ((((x0 * (-7046029254386353131 : Int64)).toUInt64 >>> ((32 : Int32) &&& 0x3f).toInt64.toUInt64).toInt64).toInt32))])) _
    refine XS.iand X0.here hx rfl (hb hby d10_10) rfl ?_
    have hv : own_home x0 = (((((x0 * (-7046029254386353131 : Int64)).toUInt64 >>> ((32 : Int32) &&& 0x3f).toInt64.toUInt64).toInt64).toInt32) &&& (63 : Int32)) := rfl
    rw [hv] at hr
    exact retI X0 hx Bd.returns (hb hby d10_11) hr
  · exact ⟨rfl, N0, e0⟩
set_option maxRecDepth 65536 in
set_option maxHeartbeats 40000000 in
theorem own_slot {p : Program} {l : Launch} {e : Env} {R : Room} {s : State} {m : MethodId} {args : Array Value} {below : List Frame} {meth : Method} {c : Code} {T : State} {locs : List Loc} {cells slots : Nat} {Z : State} {h : Heap}  {x0 x1 : Addr} {x2 : Int64} {Kf : Nat → Int64} {Vf : Nat → Int32} (X : Stand p l e R s m args below meth c T locs cells slots) (hx : p.tables.exec = Jvm.exec) (hZ : Z.Warmed39 s.vm) (eT : T.heap = h) (hby : c.code = prog_121_method_6_code) (FK : AJ Z h x0 Kf) (FV : AI Z h x1 Vf) :
    ∀ (k : Nat) (i : Int32), 0 ≤ i.toInt ∧ i.toInt < 64 → Emp Vf k i → ∃ i' : Int32, (0 ≤ i'.toInt ∧ i'.toInt < 64) ∧ (Vf i'.toNatClampNeg = (-1 : Int32) ∨ Kf i'.toNatClampNeg = x2) ∧
      ∀ target, Steps p.tables e below (T.setTop (mkF m 43 #[.val (.ref x0), .val (.ref x1), .val (.long x2), .second, .val (.int (63 : Int32)), .val (.int i')] [])) target → Steps p.tables e below (T.setTop (mkF m 14 #[.val (.ref x0), .val (.ref x1), .val (.long x2), .second, .val (.int (63 : Int32)), .val (.int i)] [])) target := by
  intro k
  induction k with
  | zero =>
    intro i hi hE
    have hE : Vf i.toNatClampNeg = (-1 : Int32) := hE
    refine ⟨i, hi, Or.inl hE, fun target kt => ?_⟩
    show Steps p.tables e below (T.setTop (mkF m 14 #[.val (.ref x0), .val (.ref x1), .val (.long x2), .second, .val (.int (63 : Int32)), .val (.int i)] [])) _
    refine XS.aloadN X.here hx rfl (hb hby d9_14) rfl rfl ?_
    refine XS.iload X.here hx rfl (hb hby d9_15) rfl ?_
    refine AI.ld X hx hZ eT FV (j := i) hi (g := (mkF m 17 #[.val (.ref x0), .val (.ref x1), .val (.long x2), .second, .val (.int (63 : Int32)), .val (.int i)] [(.int i), (.ref x1)])) rfl rfl (hb hby d9_17) ?_
    show Steps p.tables e below (T.setTop (mkF m 18 #[.val (.ref x0), .val (.ref x1), .val (.long x2), .second, .val (.int (63 : Int32)), .val (.int i)] [(.int (Vf i.toNatClampNeg))])) _
    refine XS.iconst X.here hx rfl (hb hby d9_18) ?_
    refine XS.icmpYes X.here hx rfl (pc0 := 19) (pc' := 43) rfl (hb hby d9_19) rfl (teq hE).1 (by decide) (by decide) ?_
    exact kt
  | succ k ih =>
    intro i hi hE
    by_cases hv : Vf i.toNatClampNeg = (-1 : Int32)
    · refine ⟨i, hi, Or.inl hv, fun target kt => ?_⟩
      show Steps p.tables e below (T.setTop (mkF m 14 #[.val (.ref x0), .val (.ref x1), .val (.long x2), .second, .val (.int (63 : Int32)), .val (.int i)] [])) _
      refine XS.aloadN X.here hx rfl (hb hby d9_14) rfl rfl ?_
      refine XS.iload X.here hx rfl (hb hby d9_15) rfl ?_
      refine AI.ld X hx hZ eT FV (j := i) hi (g := (mkF m 17 #[.val (.ref x0), .val (.ref x1), .val (.long x2), .second, .val (.int (63 : Int32)), .val (.int i)] [(.int i), (.ref x1)])) rfl rfl (hb hby d9_17) ?_
      show Steps p.tables e below (T.setTop (mkF m 18 #[.val (.ref x0), .val (.ref x1), .val (.long x2), .second, .val (.int (63 : Int32)), .val (.int i)] [(.int (Vf i.toNatClampNeg))])) _
      refine XS.iconst X.here hx rfl (hb hby d9_18) ?_
      refine XS.icmpYes X.here hx rfl (pc0 := 19) (pc' := 43) rfl (hb hby d9_19) rfl (teq hv).1 (by decide) (by decide) ?_
      exact kt
    · by_cases hk : Kf i.toNatClampNeg = x2
      · refine ⟨i, hi, Or.inr hk, fun target kt => ?_⟩
        show Steps p.tables e below (T.setTop (mkF m 14 #[.val (.ref x0), .val (.ref x1), .val (.long x2), .second, .val (.int (63 : Int32)), .val (.int i)] [])) _
        refine XS.aloadN X.here hx rfl (hb hby d9_14) rfl rfl ?_
        refine XS.iload X.here hx rfl (hb hby d9_15) rfl ?_
        refine AI.ld X hx hZ eT FV (j := i) hi (g := (mkF m 17 #[.val (.ref x0), .val (.ref x1), .val (.long x2), .second, .val (.int (63 : Int32)), .val (.int i)] [(.int i), (.ref x1)])) rfl rfl (hb hby d9_17) ?_
        show Steps p.tables e below (T.setTop (mkF m 18 #[.val (.ref x0), .val (.ref x1), .val (.long x2), .second, .val (.int (63 : Int32)), .val (.int i)] [(.int (Vf i.toNatClampNeg))])) _
        refine XS.iconst X.here hx rfl (hb hby d9_18) ?_
        refine XS.icmpNo X.here hx rfl (hb hby d9_19) rfl (feq hv).1 ?_
        refine XS.aloadN X.here hx rfl (hb hby d9_22) rfl rfl ?_
        refine XS.iload X.here hx rfl (hb hby d9_23) rfl ?_
        show Steps p.tables e below (T.setTop (mkF m 25 #[.val (.ref x0), .val (.ref x1), .val (.long x2), .second, .val (.int (63 : Int32)), .val (.int i)] [(.int i), (.ref x0)])) _
        refine AJ.ld X hx hZ eT FK (j := i) hi (g := (mkF m 25 #[.val (.ref x0), .val (.ref x1), .val (.long x2), .second, .val (.int (63 : Int32)), .val (.int i)] [(.int i), (.ref x0)])) rfl rfl (hb hby d9_25) ?_
        refine XS.lloadN X.here hx rfl (hb hby d9_26) rfl ?_
        refine XS.lcmp X.here hx rfl (hb hby d9_27) rfl ?_
        refine XS.ifYes X.here hx rfl (pc0 := 28) (pc' := 43) rfl (hb hby d9_28) rfl ((if0 _ _).trans (teq ((lw_eq _ _).mpr hk)).1) (by decide) (by decide) ?_
        exact kt
      · have hE2 : Emp Vf k ((i + (1 : Int32)) &&& (63 : Int32)) := (show Vf i.toNatClampNeg = (-1 : Int32) ∨ Emp Vf k ((i + (1 : Int32)) &&& (63 : Int32)) from hE).resolve_left hv
        have hn := own_nxt i hi
        obtain ⟨i', hi', hr', st⟩ := ih _ (by omega) hE2
        refine ⟨i', hi', hr', fun target kt => ?_⟩
        show Steps p.tables e below (T.setTop (mkF m 14 #[.val (.ref x0), .val (.ref x1), .val (.long x2), .second, .val (.int (63 : Int32)), .val (.int i)] [])) _
        refine XS.aloadN X.here hx rfl (hb hby d9_14) rfl rfl ?_
        refine XS.iload X.here hx rfl (hb hby d9_15) rfl ?_
        refine AI.ld X hx hZ eT FV (j := i) hi (g := (mkF m 17 #[.val (.ref x0), .val (.ref x1), .val (.long x2), .second, .val (.int (63 : Int32)), .val (.int i)] [(.int i), (.ref x1)])) rfl rfl (hb hby d9_17) ?_
        show Steps p.tables e below (T.setTop (mkF m 18 #[.val (.ref x0), .val (.ref x1), .val (.long x2), .second, .val (.int (63 : Int32)), .val (.int i)] [(.int (Vf i.toNatClampNeg))])) _
        refine XS.iconst X.here hx rfl (hb hby d9_18) ?_
        refine XS.icmpNo X.here hx rfl (hb hby d9_19) rfl (feq hv).1 ?_
        refine XS.aloadN X.here hx rfl (hb hby d9_22) rfl rfl ?_
        refine XS.iload X.here hx rfl (hb hby d9_23) rfl ?_
        show Steps p.tables e below (T.setTop (mkF m 25 #[.val (.ref x0), .val (.ref x1), .val (.long x2), .second, .val (.int (63 : Int32)), .val (.int i)] [(.int i), (.ref x0)])) _
        refine AJ.ld X hx hZ eT FK (j := i) hi (g := (mkF m 25 #[.val (.ref x0), .val (.ref x1), .val (.long x2), .second, .val (.int (63 : Int32)), .val (.int i)] [(.int i), (.ref x0)])) rfl rfl (hb hby d9_25) ?_
        refine XS.lloadN X.here hx rfl (hb hby d9_26) rfl ?_
        refine XS.lcmp X.here hx rfl (hb hby d9_27) rfl ?_
        refine XS.ifNo X.here hx rfl (hb hby d9_28) rfl ((if0 _ _).trans (feq (fun q => hk ((lw_eq _ _).mp q))).1) ?_
        show Steps p.tables e below (T.setTop (mkF m 31 #[.val (.ref x0), .val (.ref x1), .val (.long x2), .second, .val (.int (63 : Int32)), .val (.int i)] [])) _
        refine XS.iload X.here hx rfl (hb hby d9_31) rfl ?_
        refine XS.iconst X.here hx rfl (hb hby d9_33) ?_
        refine XS.iadd X.here hx rfl (hb hby d9_34) rfl ?_
        refine XS.iload X.here hx rfl (hb hby d9_35) rfl ?_
        show Steps p.tables e below (T.setTop (mkF m 37 #[.val (.ref x0), .val (.ref x1), .val (.long x2), .second, .val (.int (63 : Int32)), .val (.int i)] [(.int (63 : Int32)), (.int (i + (1 : Int32)))])) _
        refine XS.iand X.here hx rfl (hb hby d9_37) rfl ?_
        refine XS.istore X.here hx rfl (hb hby d9_38) rfl (l' := #[.val (.ref x0), .val (.ref x1), .val (.long x2), .second, .val (.int (63 : Int32)), .val (.int ((i + (1 : Int32)) &&& (63 : Int32)))]) rfl ?_
        refine XS.goto X.here hx rfl (pc0 := 40) (pc' := 14) rfl (hb hby d9_40) (by decide) (by decide) ?_
        exact st _ kt
theorem pd__JI_I : parseMethodDescriptor "(JI)I" = some ⟨[.long, .int], some .int⟩ := by decide +kernel
set_option maxRecDepth 65536 in
set_option maxHeartbeats 40000000 in
theorem rm9 (l : Launch) (Z : State) (a0 : Array Value) (hw : ∀ d ∈ tables_1, d.before a0 Z = true) (ws : List Jvm.Cond) (x0 : Addr) (x1 : Addr) (x2 : Int64) (Kf : Nat → Int64) (Vf : Nat → Int32) (h0 : Heap) (n0 : Nat) (Z0 : n0 ≤ h0.size) (V_x0 : AJ Z h0 x0 Kf) (V_x1 : AI Z h0 x1 Vf) (hE : ∀ i : Int32, 0 ≤ i.toInt ∧ i.toInt < 64 → Emp Vf 2 i) :
    MetFree l (⟨"com/example/rootline/rootline/heap/LongIntTable", "slot", "([J[IJ)I"⟩ : MethodName) (head1 (Jvm.Cond.code (⟨"com/example/rootline/rootline/heap/LongIntTable", "slot", "([J[IJ)I"⟩ : MethodName) prog_121_method_6_code 6 (some .int) :: ws) ({ frames := 1, cells := 0, slots := 0, locals := 14 } : Room)) (fun a U => a = #[(.ref x0), (.ref x1), (.long x2)] ∧ Z.Warmed39 U.vm ∧ U.heap = h0) (fun _ _ _ _ _ => True) (fun _ U o U' => ∃ v L, o = .returned v ∧ (QS Z x2 Kf Vf h0 n0 v U'.heap L) ∧ FrameEnd U o U' L ({ frames := 1, cells := 0, slots := 0, locals := 14 } : Room).cells ({ frames := 1, cells := 0, slots := 0, locals := 14 } : Room).slots) := by
  refine MetFree.of_bodySF (plainFor_of_name pn_9) hisR ?_
  intro p e s m args below meth c s₁ Bd hml0 hP hK
  obtain ⟨rfl, hZ, hh⟩ := hP
  have hx := Bd.exec
  have hby := Bd.bytes
  have hml : c.maxLocals = 6 := hml0
  have hown : s.vm.findClass "com/example/rootline/rootline/heap/LongIntTable" = some m.cls := findClass_of_methodNamed Bd.named
  have hnm := (name_of_methodNamed Bd.named Bd.method).1
  have X0 : Stand p l e ({ frames := 1, cells := 0, slots := 0, locals := 14 } : Room) s m #[(.ref x0), (.ref x1), (.long x2)] below meth c s₁ [] 0 0 := Stand.of_body Bd
  have e0 : s₁.heap = h0 := by rw [← hh, Bd.state]; rfl
  have N0 := Fr.nil n0
  have pre0 : ∀ t, Steps p.tables e below (s₁.setTop (mkF m 0 #[.val (.ref x0), .val (.ref x1), .val (.long x2), .second, .unset, .unset] [])) t → Steps p.tables e below (s₁.setTop (entryFrame m #[(.ref x0), (.ref x1), (.long x2)] 6)) t := fun t k => castTop (ef_9 m x0 x1 x2) k
  obtain ⟨_, _, ⟨T1, L1, k1, n1⟩, -, X1, ⟨Lc1, hQ1, l1, y1, z1⟩, st1⟩ := Jvm.LawKit.callS X0 hx (y := (⟨"com/example/rootline/rootline/heap/LongIntTable", "home", "(JI)I"⟩ : MethodName)) hown (mvT hZ (hw _ (List.mem_of_getElem? (i := 65) rfl))) (mvT hZ (hw _ (List.mem_of_getElem? (i := 66) rfl))) (mvT hZ (hw _ (List.mem_of_getElem? (i := 22) rfl))) (mvT hZ (hw _ (List.mem_of_getElem? (i := 67) rfl))) (by decide) (backOf (W := 0) (rm10 l Z a0 hw [] x2 h0 n0 Z0) hZ (hw _ (List.mem_of_getElem? (i := 67) rfl)) (hw _ (List.mem_of_getElem? (i := 22) rfl)) (by decide) (by decide)) (g := (mkF m 9 #[.val (.ref x0), .val (.ref x1), .val (.long x2), .second, .val (.int (63 : Int32)), .unset] [(.int (63 : Int32)), (.long x2)])) rfl (by rw [hml]; rfl) (argsL := [(.long x2), (.int (63 : Int32))]) (rest := []) (lenOf pd__JI_I rfl) rfl (by show 2 * 0 + _ ≤ _; exact Nat.le_of_eq rfl) (hb hby d9_9) (fun _ _ => ⟨rfl, e0, (by decide : 0 + 0 ≤ _), (by decide : 0 + 0 ≤ _)⟩)
  dsimp only [Pt.U, Pt.locs, Pt.cells, Pt.slots] at X1 l1 y1 z1 st1 hQ1
  subst l1 y1 z1
  obtain ⟨rfl, N1q, e1⟩ := hQ1
  have N1 := Fr.app N0 N1q
  obtain ⟨iz, hiz, hsz, st2⟩ := own_slot X1 hx hZ e1 hby V_x0 V_x1 2 (own_home x2) (own_home_in x2) (hE _ (own_home_in x2))
  obtain ⟨fs, hr, hrun, hended, hW, hsame⟩ := X1.leave (v := some (.int iz)) (fun h => by rw [Bd.returns] at h; cases h)
  refine ⟨_, _, pre0 _ ?_, hrun, hended, _, _, rfl, ?_, ⟨_, rfl⟩, hW, hsame.mono (by decide) (by decide)⟩
  · show Steps p.tables e below (s₁.setTop (mkF m 0 #[.val (.ref x0), .val (.ref x1), .val (.long x2), .second, .unset, .unset] [])) _
    refine XS.aloadN X0.here hx rfl (hb hby d9_0) rfl rfl ?_
    refine AJ.len X0 hx hZ e0 V_x0 (g := (mkF m 1 #[.val (.ref x0), .val (.ref x1), .val (.long x2), .second, .unset, .unset] [(.ref x0)])) rfl rfl (hb hby d9_1) ?_
    refine XS.iconst X0.here hx rfl (hb hby d9_2) ?_
    show Steps p.tables e below (s₁.setTop (mkF m 3 #[.val (.ref x0), .val (.ref x1), .val (.long x2), .second, .unset, .unset] [(.int (1 : Int32)), (.int (64 : Int32))])) _
    refine XS.isub X0.here hx rfl (hb hby d9_3) rfl ?_
    show Steps p.tables e below (s₁.setTop (mkF m 4 #[.val (.ref x0), .val (.ref x1), .val (.long x2), .second, .unset, .unset] [(.int ((64 : Int32) - (1 : Int32)))])) _
    rw [show ((64 : Int32) - (1 : Int32)) = (63 : Int32) from by decide]
    show Steps p.tables e below (s₁.setTop (mkF m 4 #[.val (.ref x0), .val (.ref x1), .val (.long x2), .second, .unset, .unset] [(.int (63 : Int32))])) _
    refine XS.istore X0.here hx rfl (hb hby d9_4) rfl (l' := #[.val (.ref x0), .val (.ref x1), .val (.long x2), .second, .val (.int (63 : Int32)), .unset]) rfl ?_
    refine XS.lloadN X0.here hx rfl (hb hby d9_6) rfl ?_
    refine XS.iload X0.here hx rfl (hb hby d9_7) rfl ?_
    show Steps p.tables e below (s₁.setTop (mkF m 9 #[.val (.ref x0), .val (.ref x1), .val (.long x2), .second, .val (.int (63 : Int32)), .unset] [(.int (63 : Int32)), (.long x2)])) _
    refine st1 _ ?_
    show Steps p.tables e below (T1.setTop (mkF m 12 #[.val (.ref x0), .val (.ref x1), .val (.long x2), .second, .val (.int (63 : Int32)), .unset] [(.int (own_home x2))])) _
    refine XS.istore X1.here hx rfl (hb hby d9_12) rfl (l' := #[.val (.ref x0), .val (.ref x1), .val (.long x2), .second, .val (.int (63 : Int32)), .val (.int (own_home x2))]) rfl ?_
    show Steps p.tables e below (T1.setTop (mkF m 14 #[.val (.ref x0), .val (.ref x1), .val (.long x2), .second, .val (.int (63 : Int32)), .val (.int (own_home x2))] [])) _
    refine st2 _ ?_
    show Steps p.tables e below (T1.setTop (mkF m 43 #[.val (.ref x0), .val (.ref x1), .val (.long x2), .second, .val (.int (63 : Int32)), .val (.int iz)] [])) _
    refine XS.iload X1.here hx rfl (hb hby d9_43) rfl ?_
    exact retI X1 hx Bd.returns (hb hby d9_45) hr
  · exact ⟨iz, rfl, hiz, hsz, N1, e1⟩
theorem pd___J_IJ_I : parseMethodDescriptor "([J[IJ)I" = some ⟨[(.array .long), (.array .int), .long], some .int⟩ := by decide +kernel
set_option maxRecDepth 65536 in
set_option maxHeartbeats 40000000 in
theorem rm8 (l : Launch) (Z : State) (a0 : Array Value) (hw : ∀ d ∈ tables_1, d.before a0 Z = true) (ws : List Jvm.Cond) (x0 : Addr) (x1 : Int64) (ka va : Addr) (sz : Int32) (Kf : Nat → Int64) (Vf : Nat → Int32) (h0 : Heap) (n0 : Nat) (Z0 : n0 ≤ h0.size) (LT0 : LT3 Z h0 x0 ka va sz Kf Vf) (hE : ∀ i : Int32, 0 ≤ i.toInt ∧ i.toInt < 64 → Emp Vf 2 i) (hA : ∀ j, j < 64 → Vf j ≠ (-1 : Int32) → Kf j ≠ x1) :
    MetFree l (⟨"com/example/rootline/rootline/heap/LongIntTable", "get", "(J)I"⟩ : MethodName) (head1 (Jvm.Cond.code (⟨"com/example/rootline/rootline/heap/LongIntTable", "get", "(J)I"⟩ : MethodName) prog_121_method_2_code 3 (some .int) :: ws) ({ frames := 2, cells := 0, slots := 0, locals := 34 } : Room)) (fun a U => a = #[(.ref x0), (.long x1)] ∧ Z.Warmed39 U.vm ∧ U.heap = h0) (fun _ _ _ _ _ => True) (fun _ U o U' => ∃ v L, o = .returned v ∧ (QP (some (.int (-1 : Int32))) h0 n0 v U'.heap L) ∧ FrameEnd U o U' L ({ frames := 2, cells := 0, slots := 0, locals := 34 } : Room).cells ({ frames := 2, cells := 0, slots := 0, locals := 34 } : Room).slots) := by
  refine MetFree.of_bodySF (plainFor_of_name pn_8) hisR ?_
  intro p e s m args below meth c s₁ Bd hml0 hP hK
  obtain ⟨rfl, hZ, hh⟩ := hP
  have hx := Bd.exec
  have hby := Bd.bytes
  have hml : c.maxLocals = 3 := hml0
  have hown : s.vm.findClass "com/example/rootline/rootline/heap/LongIntTable" = some m.cls := findClass_of_methodNamed Bd.named
  have hnm := (name_of_methodNamed Bd.named Bd.method).1
  have X0 : Stand p l e ({ frames := 2, cells := 0, slots := 0, locals := 34 } : Room) s m #[(.ref x0), (.long x1)] below meth c s₁ [] 0 0 := Stand.of_body Bd
  have e0 : s₁.heap = h0 := by rw [← hh, Bd.state]; rfl
  have N0 := Fr.nil n0
  have pre0 : ∀ t, Steps p.tables e below (s₁.setTop (mkF m 0 #[.val (.ref x0), .val (.long x1), .second] [])) t → Steps p.tables e below (s₁.setTop (entryFrame m #[(.ref x0), (.long x1)] 3)) t := fun t k => castTop (ef_8 m x0 x1) k
  obtain ⟨⟨o1, o2⟩, E_x0, F_keys_x0, F_values_x0, F_size_x0, V_ka, V_va⟩ := LT0
  obtain ⟨T1, X1, e1, st1⟩ := getF X0 hx hZ hown (host := "") (Or.inl (hw _ (List.mem_of_getElem? (i := 37) rfl))) Via.refl e0 F_values_x0 (g := (mkF m 1 #[.val (.ref x0), .val (.long x1), .second] [(.ref x0)])) rfl rfl (hb hby d8_1)
  obtain ⟨T2, X2, e2, st2⟩ := getF X1 hx hZ hown (host := "") (Or.inl (hw _ (List.mem_of_getElem? (i := 28) rfl))) Via.refl e1 F_keys_x0 (g := (mkF m 5 #[.val (.ref x0), .val (.long x1), .second] [(.ref x0), (.ref va)])) rfl rfl (hb hby d8_5)
  obtain ⟨T3, X3, e3, st3⟩ := getF X2 hx hZ hown (host := "") (Or.inl (hw _ (List.mem_of_getElem? (i := 37) rfl))) Via.refl e2 F_values_x0 (g := (mkF m 9 #[.val (.ref x0), .val (.long x1), .second] [(.ref x0), (.ref ka), (.ref va)])) rfl rfl (hb hby d8_9)
  obtain ⟨_, _, ⟨T4, L4, k4, n4⟩, -, X4, ⟨Lc4, hQ4, l4, y4, z4⟩, st4⟩ := Jvm.LawKit.callS X3 hx (y := (⟨"com/example/rootline/rootline/heap/LongIntTable", "slot", "([J[IJ)I"⟩ : MethodName)) hown (mvT hZ (hw _ (List.mem_of_getElem? (i := 62) rfl))) (mvT hZ (hw _ (List.mem_of_getElem? (i := 63) rfl))) (mvT hZ (hw _ (List.mem_of_getElem? (i := 22) rfl))) (mvT hZ (hw _ (List.mem_of_getElem? (i := 64) rfl))) (by decide) (backOf (W := 1) (rm9 l Z a0 hw [] ka va x1 Kf Vf h0 n0 Z0 V_ka V_va hE) hZ (hw _ (List.mem_of_getElem? (i := 64) rfl)) (hw _ (List.mem_of_getElem? (i := 22) rfl)) (by decide) (by decide)) (g := (mkF m 13 #[.val (.ref x0), .val (.long x1), .second] [(.long x1), (.ref va), (.ref ka), (.ref va)])) rfl (by rw [hml]; rfl) (argsL := [(.ref ka), (.ref va), (.long x1)]) (rest := [(.ref va)]) (lenOf pd___J_IJ_I rfl) rfl (by show 2 * 0 + _ ≤ _; exact Nat.le_of_eq rfl) (hb hby d8_13) (fun _ _ => ⟨rfl, e3, (by decide : 0 + 0 ≤ _), (by decide : 0 + 0 ≤ _)⟩)
  dsimp only [Pt.U, Pt.locs, Pt.cells, Pt.slots] at X4 l4 y4 z4 st4 hQ4
  subst l4 y4 z4
  obtain ⟨iz, rfl, hiz, hsz, N4q, e4⟩ := hQ4
  have hvz : Vf iz.toNatClampNeg = (-1 : Int32) := by
    rcases hsz with q | q
    · exact q
    · exact Classical.byContradiction fun z => hA _ (show iz.toInt.toNat < 64 by omega) z q
  have N4 := Fr.app N0 N4q
  obtain ⟨fs, hr, hrun, hended, hW, hsame⟩ := X4.leave (v := some (.int (-1 : Int32))) (fun h => by rw [Bd.returns] at h; cases h)
  refine ⟨_, _, pre0 _ ?_, hrun, hended, _, _, rfl, ?_, ⟨_, rfl⟩, hW, hsame.mono (by decide) (by decide)⟩
  · show Steps p.tables e below (s₁.setTop (mkF m 0 #[.val (.ref x0), .val (.long x1), .second] [])) _
    refine XS.aloadN X0.here hx rfl (hb hby d8_0) rfl rfl ?_
    refine st1 _ ?_
    show Steps p.tables e below (T1.setTop (mkF m 4 #[.val (.ref x0), .val (.long x1), .second] [(.ref va)])) _
    refine XS.aloadN X1.here hx rfl (hb hby d8_4) rfl rfl ?_
    show Steps p.tables e below (T1.setTop (mkF m 5 #[.val (.ref x0), .val (.long x1), .second] [(.ref x0), (.ref va)])) _
    refine st2 _ ?_
    show Steps p.tables e below (T2.setTop (mkF m 8 #[.val (.ref x0), .val (.long x1), .second] [(.ref ka), (.ref va)])) _
    refine XS.aloadN X2.here hx rfl (hb hby d8_8) rfl rfl ?_
    refine st3 _ ?_
    show Steps p.tables e below (T3.setTop (mkF m 12 #[.val (.ref x0), .val (.long x1), .second] [(.ref va), (.ref ka), (.ref va)])) _
    refine XS.lloadN X3.here hx rfl (hb hby d8_12) rfl ?_
    show Steps p.tables e below (T3.setTop (mkF m 13 #[.val (.ref x0), .val (.long x1), .second] [(.long x1), (.ref va), (.ref ka), (.ref va)])) _
    refine st4 _ ?_
    show Steps p.tables e below (T4.setTop (mkF m 16 #[.val (.ref x0), .val (.long x1), .second] [(.int iz), (.ref va)])) _
    refine AI.ld X4 hx hZ e4 V_va (j := iz) hiz (g := (mkF m 16 #[.val (.ref x0), .val (.long x1), .second] [(.int iz), (.ref va)])) rfl rfl (hb hby d8_16) ?_
    rw [hvz]
    exact retI X4 hx Bd.returns (hb hby d8_17) hr
  · exact ⟨rfl, N4, e4⟩
set_option maxRecDepth 65536 in
set_option maxHeartbeats 40000000 in
theorem rm11 (l : Launch) (Z : State) (a0 : Array Value) (hw : ∀ d ∈ tables_1, d.before a0 Z = true) (ws : List Jvm.Cond) (x0 : Addr) (x1 : Int64) (x2 : Int32) (ka va : Addr) (sz : Int32) (Kf : Nat → Int64) (Vf : Nat → Int32) (h0 : Heap) (n0 : Nat) (Z0 : n0 ≤ h0.size) (LT0 : LT3 Z h0 x0 ka va sz Kf Vf) (hE : ∀ i : Int32, 0 ≤ i.toInt ∧ i.toInt < 64 → Emp Vf 2 i) (hA : ∀ j, j < 64 → Vf j ≠ (-1 : Int32) → Kf j ≠ x1) (g_x0 : n0 ≤ x0) (hx2 : ¬ (x2 < (0 : Int32))) (hsz0 : ¬ ((64 : Int32) < ((2 : Int32) * (sz + (1 : Int32))))) :
    MetFree l (⟨"com/example/rootline/rootline/heap/LongIntTable", "put", "(JI)V"⟩ : MethodName) (head1 (Jvm.Cond.code (⟨"com/example/rootline/rootline/heap/LongIntTable", "put", "(JI)V"⟩ : MethodName) prog_121_method_3_code 5 none :: ws) ({ frames := 2, cells := 0, slots := 0, locals := 34 } : Room)) (fun a U => a = #[(.ref x0), (.long x1), (.int x2)] ∧ Z.Warmed39 U.vm ∧ U.heap = h0) (fun _ _ _ _ _ => True) (fun _ U o U' => ∃ v L, o = .returned v ∧ (QU Z x0 ka va x1 x2 sz Kf Vf h0 n0 v U'.heap L) ∧ FrameEnd U o U' L ({ frames := 2, cells := 0, slots := 0, locals := 34 } : Room).cells ({ frames := 2, cells := 0, slots := 0, locals := 34 } : Room).slots) := by
  refine MetFree.of_bodySF (plainFor_of_name pn_11) hisR ?_
  intro p e s m args below meth c s₁ Bd hml0 hP hK
  obtain ⟨rfl, hZ, hh⟩ := hP
  have hx := Bd.exec
  have hby := Bd.bytes
  have hml : c.maxLocals = 5 := hml0
  have hown : s.vm.findClass "com/example/rootline/rootline/heap/LongIntTable" = some m.cls := findClass_of_methodNamed Bd.named
  have hnm := (name_of_methodNamed Bd.named Bd.method).1
  have X0 : Stand p l e ({ frames := 2, cells := 0, slots := 0, locals := 34 } : Room) s m #[(.ref x0), (.long x1), (.int x2)] below meth c s₁ [] 0 0 := Stand.of_body Bd
  have e0 : s₁.heap = h0 := by rw [← hh, Bd.state]; rfl
  have N0 := Fr.nil n0
  have pre0 : ∀ t, Steps p.tables e below (s₁.setTop (mkF m 0 #[.val (.ref x0), .val (.long x1), .second, .val (.int x2), .unset] [])) t → Steps p.tables e below (s₁.setTop (entryFrame m #[(.ref x0), (.long x1), (.int x2)] 5)) t := fun t k => castTop (ef_11 m x0 x1 x2) k
  obtain ⟨⟨o1, o2⟩, E_x0, F_keys_x0, F_values_x0, F_size_x0, V_ka, V_va⟩ := LT0
  have K0 : Keep h0 h0 [x0, ka, va] := Keep.refl h0 _
  have g_ka : n0 ≤ ka := Nat.le_of_lt (Nat.lt_of_le_of_lt g_x0 o1)
  have g_va : n0 ≤ va := Nat.le_of_lt (Nat.lt_of_le_of_lt g_ka o2)
  obtain ⟨T1, X1, e1, st1⟩ := getF X0 hx hZ hown (host := "") (Or.inl (hw _ (List.mem_of_getElem? (i := 28) rfl))) Via.refl e0 F_keys_x0 (g := (mkF m 19 #[.val (.ref x0), .val (.long x1), .second, .val (.int x2), .unset] [(.ref x0)])) rfl rfl (hb hby d11_19)
  obtain ⟨T2, X2, e2, st2⟩ := getF X1 hx hZ hown (host := "") (Or.inl (hw _ (List.mem_of_getElem? (i := 37) rfl))) Via.refl e1 F_values_x0 (g := (mkF m 23 #[.val (.ref x0), .val (.long x1), .second, .val (.int x2), .unset] [(.ref x0), (.ref ka)])) rfl rfl (hb hby d11_23)
  obtain ⟨_, _, ⟨T3, L3, k3, n3⟩, -, X3, ⟨Lc3, hQ3, l3, y3, z3⟩, st3⟩ := Jvm.LawKit.callS X2 hx (y := (⟨"com/example/rootline/rootline/heap/LongIntTable", "slot", "([J[IJ)I"⟩ : MethodName)) hown (mvT hZ (hw _ (List.mem_of_getElem? (i := 62) rfl))) (mvT hZ (hw _ (List.mem_of_getElem? (i := 63) rfl))) (mvT hZ (hw _ (List.mem_of_getElem? (i := 22) rfl))) (mvT hZ (hw _ (List.mem_of_getElem? (i := 64) rfl))) (by decide) (backOf (W := 0) (rm9 l Z a0 hw [] ka va x1 Kf Vf h0 n0 Z0 V_ka V_va hE) hZ (hw _ (List.mem_of_getElem? (i := 64) rfl)) (hw _ (List.mem_of_getElem? (i := 22) rfl)) (by decide) (by decide)) (g := (mkF m 27 #[.val (.ref x0), .val (.long x1), .second, .val (.int x2), .unset] [(.long x1), (.ref va), (.ref ka)])) rfl (by rw [hml]; rfl) (argsL := [(.ref ka), (.ref va), (.long x1)]) (rest := []) (lenOf pd___J_IJ_I rfl) rfl (by show 2 * 0 + _ ≤ _; exact Nat.le_of_eq rfl) (hb hby d11_27) (fun _ _ => ⟨rfl, e2, (by decide : 0 + 0 ≤ _), (by decide : 0 + 0 ≤ _)⟩)
  dsimp only [Pt.U, Pt.locs, Pt.cells, Pt.slots] at X3 l3 y3 z3 st3 hQ3
  subst l3 y3 z3
  obtain ⟨iz, rfl, hiz, hsz, N3q, e3⟩ := hQ3
  have hvz : Vf iz.toNatClampNeg = (-1 : Int32) := by
    rcases hsz with q | q
    · exact q
    · exact Classical.byContradiction fun z => hA _ (show iz.toInt.toNat < 64 by omega) z q
  have N3 := Fr.app N0 N3q
  obtain ⟨T4, X4, e4, st4⟩ := getF X3 hx hZ hown (host := "") (Or.inl (hw _ (List.mem_of_getElem? (i := 37) rfl))) Via.refl e3 F_values_x0 (g := (mkF m 33 #[.val (.ref x0), .val (.long x1), .second, .val (.int x2), .val (.int iz)] [(.ref x0)])) rfl rfl (hb hby d11_33)
  obtain ⟨T5, X5, e5, st5⟩ := getF X4 hx hZ hown (host := "") (Or.inl (hw _ (List.mem_of_getElem? (i := 74) rfl))) Via.refl e4 F_size_x0 (g := (mkF m 45 #[.val (.ref x0), .val (.long x1), .second, .val (.int x2), .val (.int iz)] [(.ref x0), (.int (2 : Int32))])) rfl rfl (hb hby d11_45)
  obtain ⟨T6, X6, e6, st6⟩ := getF X5 hx hZ hown (host := "") (Or.inl (hw _ (List.mem_of_getElem? (i := 28) rfl))) Via.refl e5 F_keys_x0 (g := (mkF m 52 #[.val (.ref x0), .val (.long x1), .second, .val (.int x2), .val (.int iz)] [(.ref x0), (.int ((2 : Int32) * (sz + (1 : Int32))))])) rfl rfl (hb hby d11_52)
  obtain ⟨T7, X7, e7, st7⟩ := getF X6 hx hZ hown (host := "") (Or.inl (hw _ (List.mem_of_getElem? (i := 74) rfl))) Via.refl e6 F_size_x0 (g := (mkF m 79 #[.val (.ref x0), .val (.long x1), .second, .val (.int x2), .val (.int iz)] [(.ref x0), (.ref x0)])) rfl rfl (hb hby d11_79)
  obtain ⟨T8, h8, X8, e8, W8, st8⟩ := putF X7 hx hZ hown (host := "") (Or.inl (hw _ (List.mem_of_getElem? (i := 74) rfl))) Via.refl e7 F_size_x0 E_x0 (Or.inl (hw _ (List.mem_of_getElem? (i := 75) rfl))) (hw _ (List.mem_of_getElem? (i := 21) rfl)) (ty := .int) (by decide) rfl rfl (g := (mkF m 84 #[.val (.ref x0), .val (.long x1), .second, .val (.int x2), .val (.int iz)] [(.int (sz + (1 : Int32))), (.ref x0)])) rfl rfl (hb hby d11_84)
  have N8 := Fr.snoc X8 N3 g_x0
  have keep_9 := K0.wr W8 (Or.inl (List.mem_of_getElem? (i := 0) rfl))
  have E_x0_9 := E_x0.wr W8
  have V_ka_9 := V_ka.other W8 (Ne.symm (Nat.ne_of_lt o1))
  have V_va_9 := V_va.other W8 (Ne.symm (Nat.ne_of_lt (Nat.lt_trans o1 o2)))
  have siz_9 := Nat.le_trans Z0 (Keep.of_wr W8).1
  have F_keys_x0_8 : Fld Z h8 x0 sT "keys" "[J" (.ref ka) := F_keys_x0.other W8 (Or.inr (slot_ne (Or.inl (hw _ (List.mem_of_getElem? (i := 29) rfl))) (Or.inl (hw _ (List.mem_of_getElem? (i := 75) rfl))) (by decide) (t := (.array .long)) (t' := .int) (by decide) (by decide)))
  have F_values_x0_8 : Fld Z h8 x0 sT "values" "[I" (.ref va) := F_values_x0.other W8 (Or.inr (slot_ne (Or.inl (hw _ (List.mem_of_getElem? (i := 38) rfl))) (Or.inl (hw _ (List.mem_of_getElem? (i := 75) rfl))) (by decide) (t := (.array .int)) (t' := .int) (by decide) (by decide)))
  have F_size_x0_8 : Fld Z h8 x0 sT "size" "I" (.int (sz + (1 : Int32))) := F_size_x0.same W8
  obtain ⟨T10, X10, e10, st10⟩ := getF X8 hx hZ hown (host := "") (Or.inl (hw _ (List.mem_of_getElem? (i := 28) rfl))) Via.refl e8 F_keys_x0_8 (g := (mkF m 88 #[.val (.ref x0), .val (.long x1), .second, .val (.int x2), .val (.int iz)] [(.ref x0)])) rfl rfl (hb hby d11_88)
  obtain ⟨T11, h11, L11, X11, e11, N11, W11, V11, st11⟩ := AJ.st X10 hx hZ e10 V_ka_9 (j := iz) hiz N8 g_ka (g := (mkF m 94 #[.val (.ref x0), .val (.long x1), .second, .val (.int x2), .val (.int iz)] [(.long x1), (.int iz), (.ref ka)])) rfl rfl (hb hby d11_94)
  have keep_12 := keep_9.wr W11 (Or.inl (List.mem_of_getElem? (i := 1) rfl))
  have E_x0_12 := E_x0_9.wr W11
  have F_keys_x0_12 := F_keys_x0_8.other W11 (Or.inl (Nat.ne_of_lt o1))
  have F_values_x0_12 := F_values_x0_8.other W11 (Or.inl (Nat.ne_of_lt o1))
  have F_size_x0_12 := F_size_x0_8.other W11 (Or.inl (Nat.ne_of_lt o1))
  have V_va_12 := V_va_9.other W11 (Ne.symm (Nat.ne_of_lt o2))
  have siz_12 := Nat.le_trans siz_9 (Keep.of_wr W11).1
  have V_ka_11 : AJ Z h11 ka (upd Kf iz.toNatClampNeg x1) := V11
  obtain ⟨T13, X13, e13, st13⟩ := getF X11 hx hZ hown (host := "") (Or.inl (hw _ (List.mem_of_getElem? (i := 37) rfl))) Via.refl e11 F_values_x0_12 (g := (mkF m 96 #[.val (.ref x0), .val (.long x1), .second, .val (.int x2), .val (.int iz)] [(.ref x0)])) rfl rfl (hb hby d11_96)
  obtain ⟨T14, h14, L14, X14, e14, N14, W14, V14, st14⟩ := AI.st X13 hx hZ e13 V_va_12 (j := iz) hiz N11 g_va (g := (mkF m 102 #[.val (.ref x0), .val (.long x1), .second, .val (.int x2), .val (.int iz)] [(.int x2), (.int iz), (.ref va)])) rfl rfl (hb hby d11_102)
  have keep_15 := keep_12.wr W14 (Or.inl (List.mem_of_getElem? (i := 2) rfl))
  have E_x0_15 := E_x0_12.wr W14
  have F_keys_x0_15 := F_keys_x0_12.other W14 (Or.inl (Nat.ne_of_lt (Nat.lt_trans o1 o2)))
  have F_values_x0_15 := F_values_x0_12.other W14 (Or.inl (Nat.ne_of_lt (Nat.lt_trans o1 o2)))
  have F_size_x0_15 := F_size_x0_12.other W14 (Or.inl (Nat.ne_of_lt (Nat.lt_trans o1 o2)))
  have V_ka_15 := V_ka_11.other W14 (Nat.ne_of_lt o2)
  have siz_15 := Nat.le_trans siz_12 (Keep.of_wr W14).1
  have V_va_14 : AI Z h14 va (upd Vf iz.toNatClampNeg x2) := V14
  obtain ⟨fs, hr, hrun, hended, hW, hsame⟩ := X14.leave (v := none) (fun _ => rfl)
  refine ⟨_, _, pre0 _ ?_, hrun, hended, _, _, rfl, ?_, ⟨_, rfl⟩, hW, hsame.mono (by decide) (by decide)⟩
  · show Steps p.tables e below (s₁.setTop (mkF m 0 #[.val (.ref x0), .val (.long x1), .second, .val (.int x2), .unset] [])) _
    refine XS.iloadN X0.here hx rfl (hb hby d11_0) rfl ?_
    refine XS.ifYes X0.here hx rfl (pc0 := 1) (pc' := 18) rfl (hb hby d11_1) rfl ((if0 _ _).trans (flt hx2).2.1) (by decide) (by decide) ?_
    refine XS.aloadN X0.here hx rfl (hb hby d11_18) rfl rfl ?_
    show Steps p.tables e below (s₁.setTop (mkF m 19 #[.val (.ref x0), .val (.long x1), .second, .val (.int x2), .unset] [(.ref x0)])) _
    refine st1 _ ?_
    show Steps p.tables e below (T1.setTop (mkF m 22 #[.val (.ref x0), .val (.long x1), .second, .val (.int x2), .unset] [(.ref ka)])) _
    refine XS.aloadN X1.here hx rfl (hb hby d11_22) rfl rfl ?_
    refine st2 _ ?_
    show Steps p.tables e below (T2.setTop (mkF m 26 #[.val (.ref x0), .val (.long x1), .second, .val (.int x2), .unset] [(.ref va), (.ref ka)])) _
    refine XS.lloadN X2.here hx rfl (hb hby d11_26) rfl ?_
    show Steps p.tables e below (T2.setTop (mkF m 27 #[.val (.ref x0), .val (.long x1), .second, .val (.int x2), .unset] [(.long x1), (.ref va), (.ref ka)])) _
    refine st3 _ ?_
    show Steps p.tables e below (T3.setTop (mkF m 30 #[.val (.ref x0), .val (.long x1), .second, .val (.int x2), .unset] [(.int iz)])) _
    refine XS.istore X3.here hx rfl (hb hby d11_30) rfl (l' := #[.val (.ref x0), .val (.long x1), .second, .val (.int x2), .val (.int iz)]) rfl ?_
    refine XS.aloadN X3.here hx rfl (hb hby d11_32) rfl rfl ?_
    refine st4 _ ?_
    show Steps p.tables e below (T4.setTop (mkF m 36 #[.val (.ref x0), .val (.long x1), .second, .val (.int x2), .val (.int iz)] [(.ref va)])) _
    refine XS.iload X4.here hx rfl (hb hby d11_36) rfl ?_
    refine AI.ld X4 hx hZ e4 V_va (j := iz) hiz (g := (mkF m 38 #[.val (.ref x0), .val (.long x1), .second, .val (.int x2), .val (.int iz)] [(.int iz), (.ref va)])) rfl rfl (hb hby d11_38) ?_
    refine XS.iconst X4.here hx rfl (hb hby d11_39) ?_
    refine XS.icmpNo X4.here hx rfl (hb hby d11_40) rfl (teq hvz).2 ?_
    show Steps p.tables e below (T4.setTop (mkF m 43 #[.val (.ref x0), .val (.long x1), .second, .val (.int x2), .val (.int iz)] [])) _
    refine XS.iconst X4.here hx rfl (hb hby d11_43) ?_
    refine XS.aloadN X4.here hx rfl (hb hby d11_44) rfl rfl ?_
    refine st5 _ ?_
    show Steps p.tables e below (T5.setTop (mkF m 48 #[.val (.ref x0), .val (.long x1), .second, .val (.int x2), .val (.int iz)] [(.int sz), (.int (2 : Int32))])) _
    refine XS.iconst X5.here hx rfl (hb hby d11_48) ?_
    show Steps p.tables e below (T5.setTop (mkF m 49 #[.val (.ref x0), .val (.long x1), .second, .val (.int x2), .val (.int iz)] [(.int (1 : Int32)), (.int sz), (.int (2 : Int32))])) _
    refine XS.iadd X5.here hx rfl (hb hby d11_49) rfl ?_
    refine XS.imul X5.here hx rfl (hb hby d11_50) rfl ?_
    refine XS.aloadN X5.here hx rfl (hb hby d11_51) rfl rfl ?_
    refine st6 _ ?_
    show Steps p.tables e below (T6.setTop (mkF m 55 #[.val (.ref x0), .val (.long x1), .second, .val (.int x2), .val (.int iz)] [(.ref ka), (.int ((2 : Int32) * (sz + (1 : Int32))))])) _
    refine AJ.len X6 hx hZ e6 V_ka (g := (mkF m 55 #[.val (.ref x0), .val (.long x1), .second, .val (.int x2), .val (.int iz)] [(.ref ka), (.int ((2 : Int32) * (sz + (1 : Int32))))])) rfl rfl (hb hby d11_55) ?_
    refine XS.icmpYes X6.here hx rfl (pc0 := 56) (pc' := 77) rfl (hb hby d11_56) rfl (flt hsz0).2.2.2 (by decide) (by decide) ?_
    refine XS.aloadN X6.here hx rfl (hb hby d11_77) rfl rfl ?_
    refine XS.dup X6.here hx rfl (hb hby d11_78) rfl rfl ?_
    show Steps p.tables e below (T6.setTop (mkF m 79 #[.val (.ref x0), .val (.long x1), .second, .val (.int x2), .val (.int iz)] [(.ref x0), (.ref x0)])) _
    refine st7 _ ?_
    show Steps p.tables e below (T7.setTop (mkF m 82 #[.val (.ref x0), .val (.long x1), .second, .val (.int x2), .val (.int iz)] [(.int sz), (.ref x0)])) _
    refine XS.iconst X7.here hx rfl (hb hby d11_82) ?_
    refine XS.iadd X7.here hx rfl (hb hby d11_83) rfl ?_
    refine st8 _ ?_
    show Steps p.tables e below (T8.setTop (mkF m 87 #[.val (.ref x0), .val (.long x1), .second, .val (.int x2), .val (.int iz)] [])) _
    refine XS.aloadN X8.here hx rfl (hb hby d11_87) rfl rfl ?_
    refine st10 _ ?_
    show Steps p.tables e below (T10.setTop (mkF m 91 #[.val (.ref x0), .val (.long x1), .second, .val (.int x2), .val (.int iz)] [(.ref ka)])) _
    refine XS.iload X10.here hx rfl (hb hby d11_91) rfl ?_
    refine XS.lloadN X10.here hx rfl (hb hby d11_93) rfl ?_
    show Steps p.tables e below (T10.setTop (mkF m 94 #[.val (.ref x0), .val (.long x1), .second, .val (.int x2), .val (.int iz)] [(.long x1), (.int iz), (.ref ka)])) _
    refine st11 _ ?_
    show Steps p.tables e below (T11.setTop (mkF m 95 #[.val (.ref x0), .val (.long x1), .second, .val (.int x2), .val (.int iz)] [])) _
    refine XS.aloadN X11.here hx rfl (hb hby d11_95) rfl rfl ?_
    refine st13 _ ?_
    show Steps p.tables e below (T13.setTop (mkF m 99 #[.val (.ref x0), .val (.long x1), .second, .val (.int x2), .val (.int iz)] [(.ref va)])) _
    refine XS.iload X13.here hx rfl (hb hby d11_99) rfl ?_
    show Steps p.tables e below (T13.setTop (mkF m 101 #[.val (.ref x0), .val (.long x1), .second, .val (.int x2), .val (.int iz)] [(.int iz), (.ref va)])) _
    refine XS.iloadN X13.here hx rfl (hb hby d11_101) rfl ?_
    refine st14 _ ?_
    show Steps p.tables e below (T14.setTop (mkF m 103 #[.val (.ref x0), .val (.long x1), .second, .val (.int x2), .val (.int iz)] [])) _
    exact X14.returnOut hx Bd.returns (hb hby d11_103) hr
  · exact (by
      have eT : (T14.setFrames fs).heap = h14 := e14
      rw [eT]; exact ⟨rfl, N14, keep_15, iz.toNatClampNeg, (show iz.toInt.toNat < 64 by omega), hvz, ⟨o1, o2⟩, E_x0_15, F_keys_x0_15, F_values_x0_15, F_size_x0_15, V_ka_15, V_va_14⟩)
theorem pd__II_J : parseMethodDescriptor "(II)J" = some ⟨[.int, .int], some .long⟩ := by decide +kernel
theorem pd__J_I : parseMethodDescriptor "(J)I" = some ⟨[.long], some .int⟩ := by decide +kernel
theorem pd__JI_V : parseMethodDescriptor "(JI)V" = some ⟨[.long, .int], none⟩ := by decide +kernel
set_option maxRecDepth 65536 in
set_option maxHeartbeats 40000000 in
theorem rmw_0 (l : Launch) (Z : State) (a0 : Array Value) (hw : ∀ d ∈ tables_1, d.before a0 Z = true) (ws : List Jvm.Cond) (x0 : Addr) (x2 : Int32) (ra ha sa t ka va : Addr) (kr kh ks : ClassId) (Kf : Nat → Int64) (Vf : Nat → Int32) (h0 : Heap) (n0 : Nat) (Z0 : n0 ≤ h0.size) (HS0 : HSS Z h0 x0 ra ha sa t ka va kr kh ks (1 : Int32) [(.int (-1 : Int32)), (.int (0 : Int32)), (.int (0 : Int32)), (.int (0 : Int32)), (.int (0 : Int32)), (.int (0 : Int32)), (.int (0 : Int32)), (.int (0 : Int32)), (.int (0 : Int32)), (.int (0 : Int32)), (.int (0 : Int32)), (.int (0 : Int32)), (.int (0 : Int32)), (.int (0 : Int32)), (.int (0 : Int32)), (.int (0 : Int32))] [(.int (-1 : Int32)), (.int (0 : Int32)), (.int (0 : Int32)), (.int (0 : Int32)), (.int (0 : Int32)), (.int (0 : Int32)), (.int (0 : Int32)), (.int (0 : Int32)), (.int (0 : Int32)), (.int (0 : Int32)), (.int (0 : Int32)), (.int (0 : Int32)), (.int (0 : Int32)), (.int (0 : Int32)), (.int (0 : Int32)), (.int (0 : Int32))] [(.int (0 : Int32)), (.int (0 : Int32)), (.int (0 : Int32)), (.int (0 : Int32)), (.int (0 : Int32)), (.int (0 : Int32)), (.int (0 : Int32)), (.int (0 : Int32)), (.int (0 : Int32)), (.int (0 : Int32)), (.int (0 : Int32)), (.int (0 : Int32)), (.int (0 : Int32)), (.int (0 : Int32)), (.int (0 : Int32)), (.int (0 : Int32))] (0 : Int32) Kf Vf) (g_x0 : n0 ≤ x0) (hE : ∀ i : Int32, 0 ≤ i.toInt ∧ i.toInt < 64 → Emp Vf 2 i) (hA : ∀ j, j < 64 → Vf j ≠ (-1 : Int32) → Kf j ≠ (own_pair (0 : Int32) x2)) (hne : ¬ (x2 = (-1 : Int32))) (hge : ¬ (x2 < (-1 : Int32))) :
    MetFree l (⟨"com/example/rootline/rootline/reach/HolderSets", "with", "(II)I"⟩ : MethodName) (head1 (Jvm.Cond.code (⟨"com/example/rootline/rootline/reach/HolderSets", "with", "(II)I"⟩ : MethodName) prog_179_method_3_code 5 (some .int) :: ws) ({ frames := 3, cells := 0, slots := 0, locals := 51 } : Room)) (fun a U => a = #[(.ref x0), (.int (0 : Int32)), (.int x2)] ∧ Z.Warmed39 U.vm ∧ U.heap = h0) (fun _ _ _ _ _ => True) (fun _ U o U' => ∃ v L, o = .returned v ∧ (QW Z x0 ra ha sa t ka va kr kh ks (1 : Int32) [(.int (-1 : Int32)), (.int (0 : Int32)), (.int (0 : Int32)), (.int (0 : Int32)), (.int (0 : Int32)), (.int (0 : Int32)), (.int (0 : Int32)), (.int (0 : Int32)), (.int (0 : Int32)), (.int (0 : Int32)), (.int (0 : Int32)), (.int (0 : Int32)), (.int (0 : Int32)), (.int (0 : Int32)), (.int (0 : Int32)), (.int (0 : Int32))] [(.int (-1 : Int32)), (.int x2), (.int (0 : Int32)), (.int (0 : Int32)), (.int (0 : Int32)), (.int (0 : Int32)), (.int (0 : Int32)), (.int (0 : Int32)), (.int (0 : Int32)), (.int (0 : Int32)), (.int (0 : Int32)), (.int (0 : Int32)), (.int (0 : Int32)), (.int (0 : Int32)), (.int (0 : Int32)), (.int (0 : Int32))] [(.int (0 : Int32)), (.int (1 : Int32)), (.int (0 : Int32)), (.int (0 : Int32)), (.int (0 : Int32)), (.int (0 : Int32)), (.int (0 : Int32)), (.int (0 : Int32)), (.int (0 : Int32)), (.int (0 : Int32)), (.int (0 : Int32)), (.int (0 : Int32)), (.int (0 : Int32)), (.int (0 : Int32)), (.int (0 : Int32)), (.int (0 : Int32))] (0 : Int32) Kf Vf (own_pair (0 : Int32) x2) h0 n0 v U'.heap L) ∧ FrameEnd U o U' L ({ frames := 3, cells := 0, slots := 0, locals := 51 } : Room).cells ({ frames := 3, cells := 0, slots := 0, locals := 51 } : Room).slots) := by
  refine MetFree.of_bodySF (plainFor_of_name pn_6) hisR ?_
  intro p e s m args below meth c s₁ Bd hml0 hP hK
  obtain ⟨rfl, hZ, hh⟩ := hP
  have hx := Bd.exec
  have hby := Bd.bytes
  have hml : c.maxLocals = 5 := hml0
  have hown : s.vm.findClass "com/example/rootline/rootline/reach/HolderSets" = some m.cls := findClass_of_methodNamed Bd.named
  have hnm := (name_of_methodNamed Bd.named Bd.method).1
  have X0 : Stand p l e ({ frames := 3, cells := 0, slots := 0, locals := 51 } : Room) s m #[(.ref x0), (.int (0 : Int32)), (.int x2)] below meth c s₁ [] 0 0 := Stand.of_body Bd
  have e0 : s₁.heap = h0 := by rw [← hh, Bd.state]; rfl
  have N0 := Fr.nil n0
  have pre0 : ∀ t, Steps p.tables e below (s₁.setTop (mkF m 0 #[.val (.ref x0), .val (.int (0 : Int32)), .val (.int x2), .unset, .unset] [])) t → Steps p.tables e below (s₁.setTop (entryFrame m #[(.ref x0), (.int (0 : Int32)), (.int x2)] 5)) t := fun t k => castTop (ef_6 m x0 (0 : Int32) x2) k
  obtain ⟨⟨o1, o2, o3, o4⟩, E_x0, F_rest_x0, F_highest_x0, F_sizes_x0, F_count_x0, F_withOne_x0, V_ra, V_ha, V_sa, ⟨o5, o6⟩, E_t, F_keys_t, F_values_t, F_size_t, V_ka, V_va⟩ := HS0
  have K0 : Keep h0 h0 [x0, ra, ha, sa, t, ka, va] := Keep.refl h0 _
  have g_ra : n0 ≤ ra := Nat.le_of_lt (Nat.lt_of_le_of_lt g_x0 o1)
  have g_ha : n0 ≤ ha := Nat.le_of_lt (Nat.lt_of_le_of_lt g_ra o2)
  have g_sa : n0 ≤ sa := Nat.le_of_lt (Nat.lt_of_le_of_lt g_ha o3)
  have g_t : n0 ≤ t := Nat.le_of_lt (Nat.lt_of_le_of_lt g_sa o4)
  have g_ka : n0 ≤ ka := Nat.le_of_lt (Nat.lt_of_le_of_lt g_t o5)
  have g_va : n0 ≤ va := Nat.le_of_lt (Nat.lt_of_le_of_lt g_ka o6)
  obtain ⟨T1, X1, e1, st1⟩ := getF X0 hx hZ hown (host := "") (Or.inl (hw _ (List.mem_of_getElem? (i := 14) rfl))) Via.refl e0 F_highest_x0 (g := (mkF m 2 #[.val (.ref x0), .val (.int (0 : Int32)), .val (.int x2), .unset, .unset] [(.ref x0), (.int x2)])) rfl rfl (hb hby d6_2)
  obtain ⟨T2, X2, e2, st2⟩ := getF X1 hx hZ hown (host := "") (Or.inl (hw _ (List.mem_of_getElem? (i := 14) rfl))) Via.refl e1 F_highest_x0 (g := (mkF m 14 #[.val (.ref x0), .val (.int (0 : Int32)), .val (.int x2), .unset, .unset] [(.ref x0), (.int x2)])) rfl rfl (hb hby d6_14)
  obtain ⟨T3, X3, e3, st3⟩ := getF X2 hx hZ hown (host := "") (Or.inl (hw _ (List.mem_of_getElem? (i := 39) rfl))) Via.refl e2 F_withOne_x0 (g := (mkF m 43 #[.val (.ref x0), .val (.int (0 : Int32)), .val (.int x2), .unset, .unset] [(.ref x0)])) rfl rfl (hb hby d6_43)
  obtain ⟨_, _, ⟨T4, L4, k4, n4⟩, -, X4, ⟨Lc4, hQ4, l4, y4, z4⟩, st4⟩ := Jvm.LawKit.callS X3 hx (y := (⟨"com/example/rootline/rootline/reach/HolderSets", "pair", "(II)J"⟩ : MethodName)) hown (mvT hZ (hw _ (List.mem_of_getElem? (i := 54) rfl))) (mvT hZ (hw _ (List.mem_of_getElem? (i := 55) rfl))) (mvT hZ (hw _ (List.mem_of_getElem? (i := 4) rfl))) (mvT hZ (hw _ (List.mem_of_getElem? (i := 56) rfl))) (by decide) (backOf (W := 1) (rm7 l Z a0 hw [] (0 : Int32) x2 h0 n0 Z0) hZ (hw _ (List.mem_of_getElem? (i := 56) rfl)) (hw _ (List.mem_of_getElem? (i := 4) rfl)) (by decide) (by decide)) (g := (mkF m 48 #[.val (.ref x0), .val (.int (0 : Int32)), .val (.int x2), .unset, .unset] [(.int x2), (.int (0 : Int32)), (.ref t)])) rfl (by rw [hml]; rfl) (argsL := [(.int (0 : Int32)), (.int x2)]) (rest := [(.ref t)]) (lenOf pd__II_J rfl) rfl (by show 2 * 0 + _ ≤ _; exact Nat.le_of_eq rfl) (hb hby d6_48) (fun _ _ => ⟨rfl, e3, (by decide : 0 + 0 ≤ _), (by decide : 0 + 0 ≤ _)⟩)
  dsimp only [Pt.U, Pt.locs, Pt.cells, Pt.slots] at X4 l4 y4 z4 st4 hQ4
  subst l4 y4 z4
  obtain ⟨rfl, N4q, e4⟩ := hQ4
  have N4 := Fr.app N0 N4q
  obtain ⟨cq5, kq5, q5a, q5b, q5c⟩ := isOf hZ e4 E_t
  obtain ⟨_, _, ⟨T5, L5, k5, n5⟩, -, X5, ⟨Lc5, hQ5, l5, y5, z5⟩, st5⟩ := X4.virtualBack hx (y := (⟨"com/example/rootline/rootline/heap/LongIntTable", "get", "(J)I"⟩ : MethodName)) (z := (⟨"com/example/rootline/rootline/heap/LongIntTable", "get", "(J)I"⟩ : MethodName)) hown (mvT hZ (hw _ (List.mem_of_getElem? (i := 57) rfl))) (mvT hZ (hw _ (List.mem_of_getElem? (i := 58) rfl))) (notFace_of_selects (args := #[]) (mvT hZ (hw _ (List.mem_of_getElem? (i := 60) rfl)))) (mvT hZ (hw _ (List.mem_of_getElem? (i := 60) rfl))) (mvT hZ (hw _ (List.mem_of_getElem? (i := 59) rfl))) (by decide) (backOf (W := 0) (rm8 l Z a0 hw [] t (own_pair (0 : Int32) x2) ka va (0 : Int32) Kf Vf h0 n0 Z0 ⟨⟨o5, o6⟩, E_t, F_keys_t, F_values_t, F_size_t, V_ka, V_va⟩ hE hA) hZ (hw _ (List.mem_of_getElem? (i := 61) rfl)) (hw _ (List.mem_of_getElem? (i := 22) rfl)) (by decide) (by decide)) q5a q5c (g := (mkF m 51 #[.val (.ref x0), .val (.int (0 : Int32)), .val (.int x2), .unset, .unset] [(.long (own_pair (0 : Int32) x2)), (.ref t)])) rfl (by rw [hml]; rfl) (Steps.refl _) (argsL := [(.long (own_pair (0 : Int32) x2))]) (rest := []) (lenOf pd__J_I rfl) rfl (by show 2 * 0 + _ ≤ _; exact Nat.le_of_eq rfl) (hb hby d6_51) (fun _ _ => ⟨rfl, e4, (by decide : 0 + 0 ≤ _), (by decide : 0 + 0 ≤ _)⟩)
  dsimp only [Pt.U, Pt.locs, Pt.cells, Pt.slots] at X5 l5 y5 z5 st5 hQ5
  subst l5 y5 z5
  obtain ⟨rfl, N5q, e5⟩ := hQ5
  have N5 := Fr.app N4 N5q
  obtain ⟨T6, X6, e6, st6⟩ := getF X5 hx hZ hown (host := "") (Or.inl (hw _ (List.mem_of_getElem? (i := 18) rfl))) Via.refl e5 F_count_x0 (g := (mkF m 62 #[.val (.ref x0), .val (.int (0 : Int32)), .val (.int x2), .val (.int (-1 : Int32)), .unset] [(.ref x0)])) rfl rfl (hb hby d6_62)
  obtain ⟨T7, X7, e7, st7⟩ := getF X6 hx hZ hown (host := "") (Or.inl (hw _ (List.mem_of_getElem? (i := 12) rfl))) Via.refl e6 F_rest_x0 (g := (mkF m 66 #[.val (.ref x0), .val (.int (0 : Int32)), .val (.int x2), .val (.int (-1 : Int32)), .unset] [(.ref x0), (.int (1 : Int32))])) rfl rfl (hb hby d6_66)
  obtain ⟨T8, X8, e8, st8⟩ := getF X7 hx hZ hown (host := "") (Or.inl (hw _ (List.mem_of_getElem? (i := 12) rfl))) Via.refl e7 F_rest_x0 (g := (mkF m 127 #[.val (.ref x0), .val (.int (0 : Int32)), .val (.int x2), .val (.int (-1 : Int32)), .unset] [(.ref x0)])) rfl rfl (hb hby d6_127)
  obtain ⟨T9, X9, e9, st9⟩ := getF X8 hx hZ hown (host := "") (Or.inl (hw _ (List.mem_of_getElem? (i := 18) rfl))) Via.refl e8 F_count_x0 (g := (mkF m 131 #[.val (.ref x0), .val (.int (0 : Int32)), .val (.int x2), .val (.int (-1 : Int32)), .unset] [(.ref x0), (.ref ra)])) rfl rfl (hb hby d6_131)
  obtain ⟨T10, h10, L10, X10, e10, N10, W10, V10, st10⟩ := own_stI X9 hx hZ e9 V_ra (j := (1 : Int32)) ⟨by decide, by decide⟩ (i := 1) rfl (Nat.le_of_ble_eq_true rfl) N5 g_ra (g := (mkF m 135 #[.val (.ref x0), .val (.int (0 : Int32)), .val (.int x2), .val (.int (-1 : Int32)), .unset] [(.int (0 : Int32)), (.int (1 : Int32)), (.ref ra)])) rfl rfl (hb hby d6_135)
  have keep_11 := K0.wr W10 (Or.inl (List.mem_of_getElem? (i := 1) rfl))
  have E_x0_11 := E_x0.wr W10
  have F_rest_x0_11 := F_rest_x0.other W10 (Or.inl (Nat.ne_of_lt o1))
  have F_highest_x0_11 := F_highest_x0.other W10 (Or.inl (Nat.ne_of_lt o1))
  have F_sizes_x0_11 := F_sizes_x0.other W10 (Or.inl (Nat.ne_of_lt o1))
  have F_count_x0_11 := F_count_x0.other W10 (Or.inl (Nat.ne_of_lt o1))
  have F_withOne_x0_11 := F_withOne_x0.other W10 (Or.inl (Nat.ne_of_lt o1))
  have V_ha_11 := V_ha.other W10 (Ne.symm (Nat.ne_of_lt o2))
  have V_sa_11 := V_sa.other W10 (Ne.symm (Nat.ne_of_lt (Nat.lt_trans o2 o3)))
  have E_t_11 := E_t.wr W10
  have F_keys_t_11 := F_keys_t.other W10 (Or.inl (Ne.symm (Nat.ne_of_lt (Nat.lt_trans (Nat.lt_trans o2 o3) o4))))
  have F_values_t_11 := F_values_t.other W10 (Or.inl (Ne.symm (Nat.ne_of_lt (Nat.lt_trans (Nat.lt_trans o2 o3) o4))))
  have F_size_t_11 := F_size_t.other W10 (Or.inl (Ne.symm (Nat.ne_of_lt (Nat.lt_trans (Nat.lt_trans o2 o3) o4))))
  have V_ka_11 := V_ka.other W10 (Ne.symm (Nat.ne_of_lt (Nat.lt_trans (Nat.lt_trans (Nat.lt_trans o2 o3) o4) o5)))
  have V_va_11 := V_va.other W10 (Ne.symm (Nat.ne_of_lt (Nat.lt_trans (Nat.lt_trans (Nat.lt_trans (Nat.lt_trans o2 o3) o4) o5) o6)))
  have siz_11 := Nat.le_trans Z0 (Keep.of_wr W10).1
  have V_ra_10 : Arv Z h10 ra kr .int (16 : Int32) [(.int (-1 : Int32)), (.int (0 : Int32)), (.int (0 : Int32)), (.int (0 : Int32)), (.int (0 : Int32)), (.int (0 : Int32)), (.int (0 : Int32)), (.int (0 : Int32)), (.int (0 : Int32)), (.int (0 : Int32)), (.int (0 : Int32)), (.int (0 : Int32)), (.int (0 : Int32)), (.int (0 : Int32)), (.int (0 : Int32)), (.int (0 : Int32))] (.int (0 : Int32)) := V10
  obtain ⟨T12, X12, e12, st12⟩ := getF X10 hx hZ hown (host := "") (Or.inl (hw _ (List.mem_of_getElem? (i := 14) rfl))) Via.refl e10 F_highest_x0_11 (g := (mkF m 137 #[.val (.ref x0), .val (.int (0 : Int32)), .val (.int x2), .val (.int (-1 : Int32)), .unset] [(.ref x0)])) rfl rfl (hb hby d6_137)
  obtain ⟨T13, X13, e13, st13⟩ := getF X12 hx hZ hown (host := "") (Or.inl (hw _ (List.mem_of_getElem? (i := 18) rfl))) Via.refl e12 F_count_x0_11 (g := (mkF m 141 #[.val (.ref x0), .val (.int (0 : Int32)), .val (.int x2), .val (.int (-1 : Int32)), .unset] [(.ref x0), (.ref ha)])) rfl rfl (hb hby d6_141)
  obtain ⟨T14, h14, L14, X14, e14, N14, W14, V14, st14⟩ := own_stI X13 hx hZ e13 V_ha_11 (j := (1 : Int32)) ⟨by decide, by decide⟩ (i := 1) rfl (Nat.le_of_ble_eq_true rfl) N10 g_ha (g := (mkF m 145 #[.val (.ref x0), .val (.int (0 : Int32)), .val (.int x2), .val (.int (-1 : Int32)), .unset] [(.int x2), (.int (1 : Int32)), (.ref ha)])) rfl rfl (hb hby d6_145)
  have keep_15 := keep_11.wr W14 (Or.inl (List.mem_of_getElem? (i := 2) rfl))
  have E_x0_15 := E_x0_11.wr W14
  have F_rest_x0_15 := F_rest_x0_11.other W14 (Or.inl (Nat.ne_of_lt (Nat.lt_trans o1 o2)))
  have F_highest_x0_15 := F_highest_x0_11.other W14 (Or.inl (Nat.ne_of_lt (Nat.lt_trans o1 o2)))
  have F_sizes_x0_15 := F_sizes_x0_11.other W14 (Or.inl (Nat.ne_of_lt (Nat.lt_trans o1 o2)))
  have F_count_x0_15 := F_count_x0_11.other W14 (Or.inl (Nat.ne_of_lt (Nat.lt_trans o1 o2)))
  have F_withOne_x0_15 := F_withOne_x0_11.other W14 (Or.inl (Nat.ne_of_lt (Nat.lt_trans o1 o2)))
  have V_ra_15 := V_ra_10.other W14 (Nat.ne_of_lt o2)
  have V_sa_15 := V_sa_11.other W14 (Ne.symm (Nat.ne_of_lt o3))
  have E_t_15 := E_t_11.wr W14
  have F_keys_t_15 := F_keys_t_11.other W14 (Or.inl (Ne.symm (Nat.ne_of_lt (Nat.lt_trans o3 o4))))
  have F_values_t_15 := F_values_t_11.other W14 (Or.inl (Ne.symm (Nat.ne_of_lt (Nat.lt_trans o3 o4))))
  have F_size_t_15 := F_size_t_11.other W14 (Or.inl (Ne.symm (Nat.ne_of_lt (Nat.lt_trans o3 o4))))
  have V_ka_15 := V_ka_11.other W14 (Ne.symm (Nat.ne_of_lt (Nat.lt_trans (Nat.lt_trans o3 o4) o5)))
  have V_va_15 := V_va_11.other W14 (Ne.symm (Nat.ne_of_lt (Nat.lt_trans (Nat.lt_trans (Nat.lt_trans o3 o4) o5) o6)))
  have siz_15 := Nat.le_trans siz_11 (Keep.of_wr W14).1
  have V_ha_14 : Arv Z h14 ha kh .int (16 : Int32) [(.int (-1 : Int32)), (.int x2), (.int (0 : Int32)), (.int (0 : Int32)), (.int (0 : Int32)), (.int (0 : Int32)), (.int (0 : Int32)), (.int (0 : Int32)), (.int (0 : Int32)), (.int (0 : Int32)), (.int (0 : Int32)), (.int (0 : Int32)), (.int (0 : Int32)), (.int (0 : Int32)), (.int (0 : Int32)), (.int (0 : Int32))] (.int (0 : Int32)) := V14
  obtain ⟨T16, X16, e16, st16⟩ := getF X14 hx hZ hown (host := "") (Or.inl (hw _ (List.mem_of_getElem? (i := 16) rfl))) Via.refl e14 F_sizes_x0_15 (g := (mkF m 147 #[.val (.ref x0), .val (.int (0 : Int32)), .val (.int x2), .val (.int (-1 : Int32)), .unset] [(.ref x0)])) rfl rfl (hb hby d6_147)
  obtain ⟨T17, X17, e17, st17⟩ := getF X16 hx hZ hown (host := "") (Or.inl (hw _ (List.mem_of_getElem? (i := 18) rfl))) Via.refl e16 F_count_x0_15 (g := (mkF m 151 #[.val (.ref x0), .val (.int (0 : Int32)), .val (.int x2), .val (.int (-1 : Int32)), .unset] [(.ref x0), (.ref sa)])) rfl rfl (hb hby d6_151)
  obtain ⟨T18, X18, e18, st18⟩ := getF X17 hx hZ hown (host := "") (Or.inl (hw _ (List.mem_of_getElem? (i := 16) rfl))) Via.refl e17 F_sizes_x0_15 (g := (mkF m 155 #[.val (.ref x0), .val (.int (0 : Int32)), .val (.int x2), .val (.int (-1 : Int32)), .unset] [(.ref x0), (.int (1 : Int32)), (.ref sa)])) rfl rfl (hb hby d6_155)
  obtain ⟨T19, h19, L19, X19, e19, N19, W19, V19, st19⟩ := own_stI X18 hx hZ e18 V_sa_15 (j := (1 : Int32)) ⟨by decide, by decide⟩ (i := 1) rfl (Nat.le_of_ble_eq_true rfl) N14 g_sa (g := (mkF m 162 #[.val (.ref x0), .val (.int (0 : Int32)), .val (.int x2), .val (.int (-1 : Int32)), .unset] [(.int (1 : Int32)), (.int (1 : Int32)), (.ref sa)])) rfl rfl (hb hby d6_162)
  have keep_20 := keep_15.wr W19 (Or.inl (List.mem_of_getElem? (i := 3) rfl))
  have E_x0_20 := E_x0_15.wr W19
  have F_rest_x0_20 := F_rest_x0_15.other W19 (Or.inl (Nat.ne_of_lt (Nat.lt_trans (Nat.lt_trans o1 o2) o3)))
  have F_highest_x0_20 := F_highest_x0_15.other W19 (Or.inl (Nat.ne_of_lt (Nat.lt_trans (Nat.lt_trans o1 o2) o3)))
  have F_sizes_x0_20 := F_sizes_x0_15.other W19 (Or.inl (Nat.ne_of_lt (Nat.lt_trans (Nat.lt_trans o1 o2) o3)))
  have F_count_x0_20 := F_count_x0_15.other W19 (Or.inl (Nat.ne_of_lt (Nat.lt_trans (Nat.lt_trans o1 o2) o3)))
  have F_withOne_x0_20 := F_withOne_x0_15.other W19 (Or.inl (Nat.ne_of_lt (Nat.lt_trans (Nat.lt_trans o1 o2) o3)))
  have V_ra_20 := V_ra_15.other W19 (Nat.ne_of_lt (Nat.lt_trans o2 o3))
  have V_ha_20 := V_ha_14.other W19 (Nat.ne_of_lt o3)
  have E_t_20 := E_t_15.wr W19
  have F_keys_t_20 := F_keys_t_15.other W19 (Or.inl (Ne.symm (Nat.ne_of_lt o4)))
  have F_values_t_20 := F_values_t_15.other W19 (Or.inl (Ne.symm (Nat.ne_of_lt o4)))
  have F_size_t_20 := F_size_t_15.other W19 (Or.inl (Ne.symm (Nat.ne_of_lt o4)))
  have V_ka_20 := V_ka_15.other W19 (Ne.symm (Nat.ne_of_lt (Nat.lt_trans o4 o5)))
  have V_va_20 := V_va_15.other W19 (Ne.symm (Nat.ne_of_lt (Nat.lt_trans (Nat.lt_trans o4 o5) o6)))
  have siz_20 := Nat.le_trans siz_15 (Keep.of_wr W19).1
  have V_sa_19 : Arv Z h19 sa ks .int (16 : Int32) [(.int (0 : Int32)), (.int (1 : Int32)), (.int (0 : Int32)), (.int (0 : Int32)), (.int (0 : Int32)), (.int (0 : Int32)), (.int (0 : Int32)), (.int (0 : Int32)), (.int (0 : Int32)), (.int (0 : Int32)), (.int (0 : Int32)), (.int (0 : Int32)), (.int (0 : Int32)), (.int (0 : Int32)), (.int (0 : Int32)), (.int (0 : Int32))] (.int (0 : Int32)) := V19
  obtain ⟨T21, X21, e21, st21⟩ := getF X19 hx hZ hown (host := "") (Or.inl (hw _ (List.mem_of_getElem? (i := 39) rfl))) Via.refl e19 F_withOne_x0_20 (g := (mkF m 164 #[.val (.ref x0), .val (.int (0 : Int32)), .val (.int x2), .val (.int (-1 : Int32)), .unset] [(.ref x0)])) rfl rfl (hb hby d6_164)
  obtain ⟨_, _, ⟨T22, L22, k22, n22⟩, -, X22, ⟨Lc22, hQ22, l22, y22, z22⟩, st22⟩ := Jvm.LawKit.callS X21 hx (y := (⟨"com/example/rootline/rootline/reach/HolderSets", "pair", "(II)J"⟩ : MethodName)) hown (mvT hZ (hw _ (List.mem_of_getElem? (i := 54) rfl))) (mvT hZ (hw _ (List.mem_of_getElem? (i := 55) rfl))) (mvT hZ (hw _ (List.mem_of_getElem? (i := 4) rfl))) (mvT hZ (hw _ (List.mem_of_getElem? (i := 56) rfl))) (by decide) (backOf (W := 1) (rm7 l Z a0 hw [] (0 : Int32) x2 h19 n0 siz_20) hZ (hw _ (List.mem_of_getElem? (i := 56) rfl)) (hw _ (List.mem_of_getElem? (i := 4) rfl)) (by decide) (by decide)) (g := (mkF m 169 #[.val (.ref x0), .val (.int (0 : Int32)), .val (.int x2), .val (.int (-1 : Int32)), .unset] [(.int x2), (.int (0 : Int32)), (.ref t)])) rfl (by rw [hml]; rfl) (argsL := [(.int (0 : Int32)), (.int x2)]) (rest := [(.ref t)]) (lenOf pd__II_J rfl) rfl (by show 2 * 0 + _ ≤ _; exact Nat.le_of_eq rfl) (hb hby d6_169) (fun _ _ => ⟨rfl, e21, (by decide : 0 + 0 ≤ _), (by decide : 0 + 0 ≤ _)⟩)
  dsimp only [Pt.U, Pt.locs, Pt.cells, Pt.slots] at X22 l22 y22 z22 st22 hQ22
  subst l22 y22 z22
  obtain ⟨rfl, N22q, e22⟩ := hQ22
  have N22 := Fr.app N19 N22q
  obtain ⟨T23, X23, e23, st23⟩ := getF X22 hx hZ hown (host := "") (Or.inl (hw _ (List.mem_of_getElem? (i := 18) rfl))) Via.refl e22 F_count_x0_20 (g := (mkF m 173 #[.val (.ref x0), .val (.int (0 : Int32)), .val (.int x2), .val (.int (-1 : Int32)), .unset] [(.ref x0), (.long (own_pair (0 : Int32) x2)), (.ref t)])) rfl rfl (hb hby d6_173)
  obtain ⟨cq24, kq24, q24a, q24b, q24c⟩ := isOf hZ e23 E_t_20
  obtain ⟨_, _, ⟨T24, L24, k24, n24⟩, -, X24, ⟨Lc24, hQ24, l24, y24, z24⟩, st24⟩ := X23.virtualBack hx (y := (⟨"com/example/rootline/rootline/heap/LongIntTable", "put", "(JI)V"⟩ : MethodName)) (z := (⟨"com/example/rootline/rootline/heap/LongIntTable", "put", "(JI)V"⟩ : MethodName)) hown (mvT hZ (hw _ (List.mem_of_getElem? (i := 69) rfl))) (mvT hZ (hw _ (List.mem_of_getElem? (i := 70) rfl))) (notFace_of_selects (args := #[]) (mvT hZ (hw _ (List.mem_of_getElem? (i := 72) rfl)))) (mvT hZ (hw _ (List.mem_of_getElem? (i := 72) rfl))) (mvT hZ (hw _ (List.mem_of_getElem? (i := 71) rfl))) (by decide) (backOf (W := 0) (rm11 l Z a0 hw [] t (own_pair (0 : Int32) x2) (1 : Int32) ka va (0 : Int32) Kf Vf h19 n0 siz_20 ⟨⟨o5, o6⟩, E_t_20, F_keys_t_20, F_values_t_20, F_size_t_20, V_ka_20, V_va_20⟩ hE hA g_t (by decide) (by decide)) hZ (hw _ (List.mem_of_getElem? (i := 73) rfl)) (hw _ (List.mem_of_getElem? (i := 22) rfl)) (by decide) (by decide)) q24a q24c (g := (mkF m 176 #[.val (.ref x0), .val (.int (0 : Int32)), .val (.int x2), .val (.int (-1 : Int32)), .unset] [(.int (1 : Int32)), (.long (own_pair (0 : Int32) x2)), (.ref t)])) rfl (by rw [hml]; rfl) (Steps.refl _) (argsL := [(.long (own_pair (0 : Int32) x2)), (.int (1 : Int32))]) (rest := []) (lenOf pd__JI_V rfl) rfl (by show 2 * 0 + _ ≤ _; exact Nat.le_of_eq rfl) (hb hby d6_176) (fun _ _ => ⟨rfl, e23, (by decide : 0 + 0 ≤ _), (by decide : 0 + 0 ≤ _)⟩)
  dsimp only [Pt.U, Pt.locs, Pt.cells, Pt.slots] at X24 l24 y24 z24 st24 hQ24
  subst l24 y24 z24
  obtain ⟨rfl, N24q, K24, pz, hpz, hVz, ⟨⟨-, -⟩, E_t24, F_keys_t24, F_values_t24, F_size_t24, V_ka24, V_va24⟩⟩ := hQ24
  have keep_25 := keep_20.trans K24 (allS (Or.inl (List.mem_of_getElem? (i := 4) rfl)) (allS (Or.inl (List.mem_of_getElem? (i := 5) rfl)) (allS (Or.inl (List.mem_of_getElem? (i := 6) rfl)) (all0))))
  have E_x0_25 := E_x0_20.keep K24
  have F_rest_x0_25 := F_rest_x0_20.keep K24 (ninS (Nat.ne_of_lt (Nat.lt_trans (Nat.lt_trans (Nat.lt_trans o1 o2) o3) o4)) (ninS (Nat.ne_of_lt (Nat.lt_trans (Nat.lt_trans (Nat.lt_trans (Nat.lt_trans o1 o2) o3) o4) o5)) (ninS (Nat.ne_of_lt (Nat.lt_trans (Nat.lt_trans (Nat.lt_trans (Nat.lt_trans (Nat.lt_trans o1 o2) o3) o4) o5) o6)) nin0)))
  have F_highest_x0_25 := F_highest_x0_20.keep K24 (ninS (Nat.ne_of_lt (Nat.lt_trans (Nat.lt_trans (Nat.lt_trans o1 o2) o3) o4)) (ninS (Nat.ne_of_lt (Nat.lt_trans (Nat.lt_trans (Nat.lt_trans (Nat.lt_trans o1 o2) o3) o4) o5)) (ninS (Nat.ne_of_lt (Nat.lt_trans (Nat.lt_trans (Nat.lt_trans (Nat.lt_trans (Nat.lt_trans o1 o2) o3) o4) o5) o6)) nin0)))
  have F_sizes_x0_25 := F_sizes_x0_20.keep K24 (ninS (Nat.ne_of_lt (Nat.lt_trans (Nat.lt_trans (Nat.lt_trans o1 o2) o3) o4)) (ninS (Nat.ne_of_lt (Nat.lt_trans (Nat.lt_trans (Nat.lt_trans (Nat.lt_trans o1 o2) o3) o4) o5)) (ninS (Nat.ne_of_lt (Nat.lt_trans (Nat.lt_trans (Nat.lt_trans (Nat.lt_trans (Nat.lt_trans o1 o2) o3) o4) o5) o6)) nin0)))
  have F_count_x0_25 := F_count_x0_20.keep K24 (ninS (Nat.ne_of_lt (Nat.lt_trans (Nat.lt_trans (Nat.lt_trans o1 o2) o3) o4)) (ninS (Nat.ne_of_lt (Nat.lt_trans (Nat.lt_trans (Nat.lt_trans (Nat.lt_trans o1 o2) o3) o4) o5)) (ninS (Nat.ne_of_lt (Nat.lt_trans (Nat.lt_trans (Nat.lt_trans (Nat.lt_trans (Nat.lt_trans o1 o2) o3) o4) o5) o6)) nin0)))
  have F_withOne_x0_25 := F_withOne_x0_20.keep K24 (ninS (Nat.ne_of_lt (Nat.lt_trans (Nat.lt_trans (Nat.lt_trans o1 o2) o3) o4)) (ninS (Nat.ne_of_lt (Nat.lt_trans (Nat.lt_trans (Nat.lt_trans (Nat.lt_trans o1 o2) o3) o4) o5)) (ninS (Nat.ne_of_lt (Nat.lt_trans (Nat.lt_trans (Nat.lt_trans (Nat.lt_trans (Nat.lt_trans o1 o2) o3) o4) o5) o6)) nin0)))
  have V_ra_25 := V_ra_20.keep K24 (ninS (Nat.ne_of_lt (Nat.lt_trans (Nat.lt_trans o2 o3) o4)) (ninS (Nat.ne_of_lt (Nat.lt_trans (Nat.lt_trans (Nat.lt_trans o2 o3) o4) o5)) (ninS (Nat.ne_of_lt (Nat.lt_trans (Nat.lt_trans (Nat.lt_trans (Nat.lt_trans o2 o3) o4) o5) o6)) nin0)))
  have V_ha_25 := V_ha_20.keep K24 (ninS (Nat.ne_of_lt (Nat.lt_trans o3 o4)) (ninS (Nat.ne_of_lt (Nat.lt_trans (Nat.lt_trans o3 o4) o5)) (ninS (Nat.ne_of_lt (Nat.lt_trans (Nat.lt_trans (Nat.lt_trans o3 o4) o5) o6)) nin0)))
  have V_sa_25 := V_sa_19.keep K24 (ninS (Nat.ne_of_lt o4) (ninS (Nat.ne_of_lt (Nat.lt_trans o4 o5)) (ninS (Nat.ne_of_lt (Nat.lt_trans (Nat.lt_trans o4 o5) o6)) nin0)))
  have siz_25 := Nat.le_trans siz_20 K24.1
  have N24 := Fr.app N22 N24q
  obtain ⟨T26, X26, e26, st26⟩ := getF X24 hx hZ hown (host := "") (Or.inl (hw _ (List.mem_of_getElem? (i := 18) rfl))) Via.refl rfl F_count_x0_25 (g := (mkF m 181 #[.val (.ref x0), .val (.int (0 : Int32)), .val (.int x2), .val (.int (-1 : Int32)), .unset] [(.ref x0), (.ref x0)])) rfl rfl (hb hby d6_181)
  obtain ⟨T27, h27, X27, e27, W27, st27⟩ := putF X26 hx hZ hown (host := "") (Or.inl (hw _ (List.mem_of_getElem? (i := 18) rfl))) Via.refl e26 F_count_x0_25 E_x0_25 (Or.inl (hw _ (List.mem_of_getElem? (i := 19) rfl))) (hw _ (List.mem_of_getElem? (i := 3) rfl)) (ty := .int) (by decide) rfl rfl (g := (mkF m 187 #[.val (.ref x0), .val (.int (0 : Int32)), .val (.int x2), .val (.int (-1 : Int32)), .unset] [(.int (2 : Int32)), (.ref x0), (.int (1 : Int32))])) rfl rfl (hb hby d6_187)
  have N27 := Fr.snoc X27 N24 g_x0
  have keep_28 := keep_25.wr W27 (Or.inl (List.mem_of_getElem? (i := 0) rfl))
  have E_x0_28 := E_x0_25.wr W27
  have V_ra_28 := V_ra_25.other W27 (Ne.symm (Nat.ne_of_lt o1))
  have V_ha_28 := V_ha_25.other W27 (Ne.symm (Nat.ne_of_lt (Nat.lt_trans o1 o2)))
  have V_sa_28 := V_sa_25.other W27 (Ne.symm (Nat.ne_of_lt (Nat.lt_trans (Nat.lt_trans o1 o2) o3)))
  have E_t_28 := E_t24.wr W27
  have F_keys_t_28 := F_keys_t24.other W27 (Or.inl (Ne.symm (Nat.ne_of_lt (Nat.lt_trans (Nat.lt_trans (Nat.lt_trans o1 o2) o3) o4))))
  have F_values_t_28 := F_values_t24.other W27 (Or.inl (Ne.symm (Nat.ne_of_lt (Nat.lt_trans (Nat.lt_trans (Nat.lt_trans o1 o2) o3) o4))))
  have F_size_t_28 := F_size_t24.other W27 (Or.inl (Ne.symm (Nat.ne_of_lt (Nat.lt_trans (Nat.lt_trans (Nat.lt_trans o1 o2) o3) o4))))
  have V_ka_28 := V_ka24.other W27 (Ne.symm (Nat.ne_of_lt (Nat.lt_trans (Nat.lt_trans (Nat.lt_trans (Nat.lt_trans o1 o2) o3) o4) o5)))
  have V_va_28 := V_va24.other W27 (Ne.symm (Nat.ne_of_lt (Nat.lt_trans (Nat.lt_trans (Nat.lt_trans (Nat.lt_trans (Nat.lt_trans o1 o2) o3) o4) o5) o6)))
  have siz_28 := Nat.le_trans siz_25 (Keep.of_wr W27).1
  have F_rest_x0_27 : Fld Z h27 x0 sH "rest" "[I" (.ref ra) := F_rest_x0_25.other W27 (Or.inr (slot_ne (Or.inl (hw _ (List.mem_of_getElem? (i := 13) rfl))) (Or.inl (hw _ (List.mem_of_getElem? (i := 19) rfl))) (by decide) (t := (.array .int)) (t' := .int) (by decide) (by decide)))
  have F_highest_x0_27 : Fld Z h27 x0 sH "highest" "[I" (.ref ha) := F_highest_x0_25.other W27 (Or.inr (slot_ne (Or.inl (hw _ (List.mem_of_getElem? (i := 15) rfl))) (Or.inl (hw _ (List.mem_of_getElem? (i := 19) rfl))) (by decide) (t := (.array .int)) (t' := .int) (by decide) (by decide)))
  have F_sizes_x0_27 : Fld Z h27 x0 sH "sizes" "[I" (.ref sa) := F_sizes_x0_25.other W27 (Or.inr (slot_ne (Or.inl (hw _ (List.mem_of_getElem? (i := 17) rfl))) (Or.inl (hw _ (List.mem_of_getElem? (i := 19) rfl))) (by decide) (t := (.array .int)) (t' := .int) (by decide) (by decide)))
  have F_count_x0_27 : Fld Z h27 x0 sH "count" "I" (.int (2 : Int32)) := F_count_x0_25.same W27
  have F_withOne_x0_27 : Fld Z h27 x0 sH "withOne" "Lcom/example/rootline/rootline/heap/LongIntTable;" (.ref t) := F_withOne_x0_25.other W27 (Or.inr (slot_ne (Or.inr (hw _ (List.mem_of_getElem? (i := 40) rfl))) (Or.inl (hw _ (List.mem_of_getElem? (i := 19) rfl))) (by decide) (t := (.object "com/example/rootline/rootline/heap/LongIntTable")) (t' := .int) (by decide) (by decide)))
  obtain ⟨fs, hr, hrun, hended, hW, hsame⟩ := X27.leave (v := some (.int (1 : Int32))) (fun h => by rw [Bd.returns] at h; cases h)
  refine ⟨_, _, pre0 _ ?_, hrun, hended, _, _, rfl, ?_, ⟨_, rfl⟩, hW, hsame.mono (by decide) (by decide)⟩
  · show Steps p.tables e below (s₁.setTop (mkF m 0 #[.val (.ref x0), .val (.int (0 : Int32)), .val (.int x2), .unset, .unset] [])) _
    refine XS.iloadN X0.here hx rfl (hb hby d6_0) rfl ?_
    refine XS.aloadN X0.here hx rfl (hb hby d6_1) rfl rfl ?_
    refine st1 _ ?_
    show Steps p.tables e below (T1.setTop (mkF m 5 #[.val (.ref x0), .val (.int (0 : Int32)), .val (.int x2), .unset, .unset] [(.ref ha), (.int x2)])) _
    refine XS.iloadN X1.here hx rfl (hb hby d6_5) rfl ?_
    refine own_ldI X1 hx hZ e1 V_ha (j := (0 : Int32)) (w := (-1 : Int32)) ⟨by decide, by decide⟩ rfl (g := (mkF m 6 #[.val (.ref x0), .val (.int (0 : Int32)), .val (.int x2), .unset, .unset] [(.int (0 : Int32)), (.ref ha), (.int x2)])) rfl rfl (hb hby d6_6) ?_
    refine XS.icmpYes X1.here hx rfl (pc0 := 7) (pc' := 12) rfl (hb hby d6_7) rfl (feq hne).2 (by decide) (by decide) ?_
    refine XS.iloadN X1.here hx rfl (hb hby d6_12) rfl ?_
    show Steps p.tables e below (T1.setTop (mkF m 13 #[.val (.ref x0), .val (.int (0 : Int32)), .val (.int x2), .unset, .unset] [(.int x2)])) _
    refine XS.aloadN X1.here hx rfl (hb hby d6_13) rfl rfl ?_
    refine st2 _ ?_
    show Steps p.tables e below (T2.setTop (mkF m 17 #[.val (.ref x0), .val (.int (0 : Int32)), .val (.int x2), .unset, .unset] [(.ref ha), (.int x2)])) _
    refine XS.iloadN X2.here hx rfl (hb hby d6_17) rfl ?_
    refine own_ldI X2 hx hZ e2 V_ha (j := (0 : Int32)) (w := (-1 : Int32)) ⟨by decide, by decide⟩ rfl (g := (mkF m 18 #[.val (.ref x0), .val (.int (0 : Int32)), .val (.int x2), .unset, .unset] [(.int (0 : Int32)), (.ref ha), (.int x2)])) rfl rfl (hb hby d6_18) ?_
    show Steps p.tables e below (T2.setTop (mkF m 19 #[.val (.ref x0), .val (.int (0 : Int32)), .val (.int x2), .unset, .unset] [(.int (-1 : Int32)), (.int x2)])) _
    refine XS.icmpYes X2.here hx rfl (pc0 := 19) (pc' := 42) rfl (hb hby d6_19) rfl (flt hge).2.1 (by decide) (by decide) ?_
    refine XS.aloadN X2.here hx rfl (hb hby d6_42) rfl rfl ?_
    refine st3 _ ?_
    show Steps p.tables e below (T3.setTop (mkF m 46 #[.val (.ref x0), .val (.int (0 : Int32)), .val (.int x2), .unset, .unset] [(.ref t)])) _
    refine XS.iloadN X3.here hx rfl (hb hby d6_46) rfl ?_
    show Steps p.tables e below (T3.setTop (mkF m 47 #[.val (.ref x0), .val (.int (0 : Int32)), .val (.int x2), .unset, .unset] [(.int (0 : Int32)), (.ref t)])) _
    refine XS.iloadN X3.here hx rfl (hb hby d6_47) rfl ?_
    refine st4 _ ?_
    show Steps p.tables e below (T4.setTop (mkF m 51 #[.val (.ref x0), .val (.int (0 : Int32)), .val (.int x2), .unset, .unset] [(.long (own_pair (0 : Int32) x2)), (.ref t)])) _
    refine st5.trans ?_
    show Steps p.tables e below (T5.setTop (mkF m 54 #[.val (.ref x0), .val (.int (0 : Int32)), .val (.int x2), .unset, .unset] [(.int (-1 : Int32))])) _
    refine XS.istoreN X5.here hx rfl (hb hby d6_54) rfl (l' := #[.val (.ref x0), .val (.int (0 : Int32)), .val (.int x2), .val (.int (-1 : Int32)), .unset]) rfl ?_
    show Steps p.tables e below (T5.setTop (mkF m 55 #[.val (.ref x0), .val (.int (0 : Int32)), .val (.int x2), .val (.int (-1 : Int32)), .unset] [])) _
    refine XS.iloadN X5.here hx rfl (hb hby d6_55) rfl ?_
    refine XS.ifYes X5.here hx rfl (pc0 := 56) (pc' := 61) rfl (hb hby d6_56) rfl ((if0 _ _).trans (tlt (by decide : (-1 : Int32) < (0 : Int32))).1) (by decide) (by decide) ?_
    refine XS.aloadN X5.here hx rfl (hb hby d6_61) rfl rfl ?_
    refine st6 _ ?_
    show Steps p.tables e below (T6.setTop (mkF m 65 #[.val (.ref x0), .val (.int (0 : Int32)), .val (.int x2), .val (.int (-1 : Int32)), .unset] [(.int (1 : Int32))])) _
    refine XS.aloadN X6.here hx rfl (hb hby d6_65) rfl rfl ?_
    refine st7 _ ?_
    show Steps p.tables e below (T7.setTop (mkF m 69 #[.val (.ref x0), .val (.int (0 : Int32)), .val (.int x2), .val (.int (-1 : Int32)), .unset] [(.ref ra), (.int (1 : Int32))])) _
    refine own_len X7 hx hZ e7 V_ra (g := (mkF m 69 #[.val (.ref x0), .val (.int (0 : Int32)), .val (.int x2), .val (.int (-1 : Int32)), .unset] [(.ref ra), (.int (1 : Int32))])) rfl rfl (hb hby d6_69) ?_
    refine XS.icmpYes X7.here hx rfl (pc0 := 70) (pc' := 126) rfl (hb hby d6_70) rfl (feq (by decide : ¬ ((1 : Int32) = (16 : Int32)))).2 (by decide) (by decide) ?_
    show Steps p.tables e below (T7.setTop (mkF m 126 #[.val (.ref x0), .val (.int (0 : Int32)), .val (.int x2), .val (.int (-1 : Int32)), .unset] [])) _
    refine XS.aloadN X7.here hx rfl (hb hby d6_126) rfl rfl ?_
    refine st8 _ ?_
    show Steps p.tables e below (T8.setTop (mkF m 130 #[.val (.ref x0), .val (.int (0 : Int32)), .val (.int x2), .val (.int (-1 : Int32)), .unset] [(.ref ra)])) _
    refine XS.aloadN X8.here hx rfl (hb hby d6_130) rfl rfl ?_
    refine st9 _ ?_
    show Steps p.tables e below (T9.setTop (mkF m 134 #[.val (.ref x0), .val (.int (0 : Int32)), .val (.int x2), .val (.int (-1 : Int32)), .unset] [(.int (1 : Int32)), (.ref ra)])) _
    refine XS.iloadN X9.here hx rfl (hb hby d6_134) rfl ?_
    refine st10 _ ?_
    show Steps p.tables e below (T10.setTop (mkF m 136 #[.val (.ref x0), .val (.int (0 : Int32)), .val (.int x2), .val (.int (-1 : Int32)), .unset] [])) _
    refine XS.aloadN X10.here hx rfl (hb hby d6_136) rfl rfl ?_
    refine st12 _ ?_
    show Steps p.tables e below (T12.setTop (mkF m 140 #[.val (.ref x0), .val (.int (0 : Int32)), .val (.int x2), .val (.int (-1 : Int32)), .unset] [(.ref ha)])) _
    refine XS.aloadN X12.here hx rfl (hb hby d6_140) rfl rfl ?_
    refine st13 _ ?_
    show Steps p.tables e below (T13.setTop (mkF m 144 #[.val (.ref x0), .val (.int (0 : Int32)), .val (.int x2), .val (.int (-1 : Int32)), .unset] [(.int (1 : Int32)), (.ref ha)])) _
    refine XS.iloadN X13.here hx rfl (hb hby d6_144) rfl ?_
    refine st14 _ ?_
    show Steps p.tables e below (T14.setTop (mkF m 146 #[.val (.ref x0), .val (.int (0 : Int32)), .val (.int x2), .val (.int (-1 : Int32)), .unset] [])) _
    refine XS.aloadN X14.here hx rfl (hb hby d6_146) rfl rfl ?_
    refine st16 _ ?_
    show Steps p.tables e below (T16.setTop (mkF m 150 #[.val (.ref x0), .val (.int (0 : Int32)), .val (.int x2), .val (.int (-1 : Int32)), .unset] [(.ref sa)])) _
    refine XS.aloadN X16.here hx rfl (hb hby d6_150) rfl rfl ?_
    refine st17 _ ?_
    show Steps p.tables e below (T17.setTop (mkF m 154 #[.val (.ref x0), .val (.int (0 : Int32)), .val (.int x2), .val (.int (-1 : Int32)), .unset] [(.int (1 : Int32)), (.ref sa)])) _
    refine XS.aloadN X17.here hx rfl (hb hby d6_154) rfl rfl ?_
    refine st18 _ ?_
    show Steps p.tables e below (T18.setTop (mkF m 158 #[.val (.ref x0), .val (.int (0 : Int32)), .val (.int x2), .val (.int (-1 : Int32)), .unset] [(.ref sa), (.int (1 : Int32)), (.ref sa)])) _
    refine XS.iloadN X18.here hx rfl (hb hby d6_158) rfl ?_
    refine own_ldI X18 hx hZ e18 V_sa_15 (j := (0 : Int32)) (w := (0 : Int32)) ⟨by decide, by decide⟩ rfl (g := (mkF m 159 #[.val (.ref x0), .val (.int (0 : Int32)), .val (.int x2), .val (.int (-1 : Int32)), .unset] [(.int (0 : Int32)), (.ref sa), (.int (1 : Int32)), (.ref sa)])) rfl rfl (hb hby d6_159) ?_
    show Steps p.tables e below (T18.setTop (mkF m 160 #[.val (.ref x0), .val (.int (0 : Int32)), .val (.int x2), .val (.int (-1 : Int32)), .unset] [(.int (0 : Int32)), (.int (1 : Int32)), (.ref sa)])) _
    refine XS.iconst X18.here hx rfl (hb hby d6_160) ?_
    refine XS.iadd X18.here hx rfl (hb hby d6_161) rfl ?_
    show Steps p.tables e below (T18.setTop (mkF m 162 #[.val (.ref x0), .val (.int (0 : Int32)), .val (.int x2), .val (.int (-1 : Int32)), .unset] [(.int ((0 : Int32) + (1 : Int32))), (.int (1 : Int32)), (.ref sa)])) _
    rw [show ((0 : Int32) + (1 : Int32)) = (1 : Int32) from by decide]
    show Steps p.tables e below (T18.setTop (mkF m 162 #[.val (.ref x0), .val (.int (0 : Int32)), .val (.int x2), .val (.int (-1 : Int32)), .unset] [(.int (1 : Int32)), (.int (1 : Int32)), (.ref sa)])) _
    refine st19 _ ?_
    show Steps p.tables e below (T19.setTop (mkF m 163 #[.val (.ref x0), .val (.int (0 : Int32)), .val (.int x2), .val (.int (-1 : Int32)), .unset] [])) _
    refine XS.aloadN X19.here hx rfl (hb hby d6_163) rfl rfl ?_
    show Steps p.tables e below (T19.setTop (mkF m 164 #[.val (.ref x0), .val (.int (0 : Int32)), .val (.int x2), .val (.int (-1 : Int32)), .unset] [(.ref x0)])) _
    refine st21 _ ?_
    show Steps p.tables e below (T21.setTop (mkF m 167 #[.val (.ref x0), .val (.int (0 : Int32)), .val (.int x2), .val (.int (-1 : Int32)), .unset] [(.ref t)])) _
    refine XS.iloadN X21.here hx rfl (hb hby d6_167) rfl ?_
    refine XS.iloadN X21.here hx rfl (hb hby d6_168) rfl ?_
    refine st22 _ ?_
    show Steps p.tables e below (T22.setTop (mkF m 172 #[.val (.ref x0), .val (.int (0 : Int32)), .val (.int x2), .val (.int (-1 : Int32)), .unset] [(.long (own_pair (0 : Int32) x2)), (.ref t)])) _
    refine XS.aloadN X22.here hx rfl (hb hby d6_172) rfl rfl ?_
    refine st23 _ ?_
    show Steps p.tables e below (T23.setTop (mkF m 176 #[.val (.ref x0), .val (.int (0 : Int32)), .val (.int x2), .val (.int (-1 : Int32)), .unset] [(.int (1 : Int32)), (.long (own_pair (0 : Int32) x2)), (.ref t)])) _
    refine st24.trans ?_
    show Steps p.tables e below (T24.setTop (mkF m 179 #[.val (.ref x0), .val (.int (0 : Int32)), .val (.int x2), .val (.int (-1 : Int32)), .unset] [])) _
    refine XS.aloadN X24.here hx rfl (hb hby d6_179) rfl rfl ?_
    show Steps p.tables e below (T24.setTop (mkF m 180 #[.val (.ref x0), .val (.int (0 : Int32)), .val (.int x2), .val (.int (-1 : Int32)), .unset] [(.ref x0)])) _
    refine XS.dup X24.here hx rfl (hb hby d6_180) rfl rfl ?_
    refine st26 _ ?_
    show Steps p.tables e below (T26.setTop (mkF m 184 #[.val (.ref x0), .val (.int (0 : Int32)), .val (.int x2), .val (.int (-1 : Int32)), .unset] [(.int (1 : Int32)), (.ref x0)])) _
    refine XS.dupX1 X26.here hx rfl (hb hby d6_184) rfl rfl rfl ?_
    refine XS.iconst X26.here hx rfl (hb hby d6_185) ?_
    show Steps p.tables e below (T26.setTop (mkF m 186 #[.val (.ref x0), .val (.int (0 : Int32)), .val (.int x2), .val (.int (-1 : Int32)), .unset] [(.int (1 : Int32)), (.int (1 : Int32)), (.ref x0), (.int (1 : Int32))])) _
    refine XS.iadd X26.here hx rfl (hb hby d6_186) rfl ?_
    show Steps p.tables e below (T26.setTop (mkF m 187 #[.val (.ref x0), .val (.int (0 : Int32)), .val (.int x2), .val (.int (-1 : Int32)), .unset] [(.int ((1 : Int32) + (1 : Int32))), (.ref x0), (.int (1 : Int32))])) _
    rw [show ((1 : Int32) + (1 : Int32)) = (2 : Int32) from by decide]
    show Steps p.tables e below (T26.setTop (mkF m 187 #[.val (.ref x0), .val (.int (0 : Int32)), .val (.int x2), .val (.int (-1 : Int32)), .unset] [(.int (2 : Int32)), (.ref x0), (.int (1 : Int32))])) _
    refine st27 _ ?_
    show Steps p.tables e below (T27.setTop (mkF m 190 #[.val (.ref x0), .val (.int (0 : Int32)), .val (.int x2), .val (.int (-1 : Int32)), .unset] [(.int (1 : Int32))])) _
    exact retI X27 hx Bd.returns (hb hby d6_190) hr
  · exact (by
      have eT : (T27.setFrames fs).heap = h27 := e27
      rw [eT]; exact ⟨rfl, N27, keep_28, pz, hpz, hVz, ⟨o1, o2, o3, o4⟩, E_x0_28, F_rest_x0_27, F_highest_x0_27, F_sizes_x0_27, F_count_x0_27, F_withOne_x0_27, V_ra_28, V_ha_28, V_sa_28, ⟨o5, o6⟩, E_t_28, F_keys_t_28, F_values_t_28, F_size_t_28, V_ka_28, V_va_28⟩)
set_option maxRecDepth 65536 in
set_option maxHeartbeats 40000000 in
theorem rmw_1 (l : Launch) (Z : State) (a0 : Array Value) (hw : ∀ d ∈ tables_1, d.before a0 Z = true) (ws : List Jvm.Cond) (x0 : Addr) (x2 : Int32) (ra ha sa t ka va : Addr) (kr kh ks : ClassId) (Kf : Nat → Int64) (Vf : Nat → Int32) (H1 : Int32) (h0 : Heap) (n0 : Nat) (Z0 : n0 ≤ h0.size) (HS0 : HSS Z h0 x0 ra ha sa t ka va kr kh ks (2 : Int32) [(.int (-1 : Int32)), (.int (0 : Int32)), (.int (0 : Int32)), (.int (0 : Int32)), (.int (0 : Int32)), (.int (0 : Int32)), (.int (0 : Int32)), (.int (0 : Int32)), (.int (0 : Int32)), (.int (0 : Int32)), (.int (0 : Int32)), (.int (0 : Int32)), (.int (0 : Int32)), (.int (0 : Int32)), (.int (0 : Int32)), (.int (0 : Int32))] [(.int (-1 : Int32)), (.int H1), (.int (0 : Int32)), (.int (0 : Int32)), (.int (0 : Int32)), (.int (0 : Int32)), (.int (0 : Int32)), (.int (0 : Int32)), (.int (0 : Int32)), (.int (0 : Int32)), (.int (0 : Int32)), (.int (0 : Int32)), (.int (0 : Int32)), (.int (0 : Int32)), (.int (0 : Int32)), (.int (0 : Int32))] [(.int (0 : Int32)), (.int (1 : Int32)), (.int (0 : Int32)), (.int (0 : Int32)), (.int (0 : Int32)), (.int (0 : Int32)), (.int (0 : Int32)), (.int (0 : Int32)), (.int (0 : Int32)), (.int (0 : Int32)), (.int (0 : Int32)), (.int (0 : Int32)), (.int (0 : Int32)), (.int (0 : Int32)), (.int (0 : Int32)), (.int (0 : Int32))] (1 : Int32) Kf Vf) (g_x0 : n0 ≤ x0) (hE : ∀ i : Int32, 0 ≤ i.toInt ∧ i.toInt < 64 → Emp Vf 2 i) (hA : ∀ j, j < 64 → Vf j ≠ (-1 : Int32) → Kf j ≠ (own_pair (1 : Int32) x2)) (hne : ¬ (x2 = H1)) (hge : ¬ (x2 < H1)) :
    MetFree l (⟨"com/example/rootline/rootline/reach/HolderSets", "with", "(II)I"⟩ : MethodName) (head1 (Jvm.Cond.code (⟨"com/example/rootline/rootline/reach/HolderSets", "with", "(II)I"⟩ : MethodName) prog_179_method_3_code 5 (some .int) :: ws) ({ frames := 3, cells := 0, slots := 0, locals := 51 } : Room)) (fun a U => a = #[(.ref x0), (.int (1 : Int32)), (.int x2)] ∧ Z.Warmed39 U.vm ∧ U.heap = h0) (fun _ _ _ _ _ => True) (fun _ U o U' => ∃ v L, o = .returned v ∧ (QW Z x0 ra ha sa t ka va kr kh ks (2 : Int32) [(.int (-1 : Int32)), (.int (0 : Int32)), (.int (1 : Int32)), (.int (0 : Int32)), (.int (0 : Int32)), (.int (0 : Int32)), (.int (0 : Int32)), (.int (0 : Int32)), (.int (0 : Int32)), (.int (0 : Int32)), (.int (0 : Int32)), (.int (0 : Int32)), (.int (0 : Int32)), (.int (0 : Int32)), (.int (0 : Int32)), (.int (0 : Int32))] [(.int (-1 : Int32)), (.int H1), (.int x2), (.int (0 : Int32)), (.int (0 : Int32)), (.int (0 : Int32)), (.int (0 : Int32)), (.int (0 : Int32)), (.int (0 : Int32)), (.int (0 : Int32)), (.int (0 : Int32)), (.int (0 : Int32)), (.int (0 : Int32)), (.int (0 : Int32)), (.int (0 : Int32)), (.int (0 : Int32))] [(.int (0 : Int32)), (.int (1 : Int32)), (.int (2 : Int32)), (.int (0 : Int32)), (.int (0 : Int32)), (.int (0 : Int32)), (.int (0 : Int32)), (.int (0 : Int32)), (.int (0 : Int32)), (.int (0 : Int32)), (.int (0 : Int32)), (.int (0 : Int32)), (.int (0 : Int32)), (.int (0 : Int32)), (.int (0 : Int32)), (.int (0 : Int32))] (1 : Int32) Kf Vf (own_pair (1 : Int32) x2) h0 n0 v U'.heap L) ∧ FrameEnd U o U' L ({ frames := 3, cells := 0, slots := 0, locals := 51 } : Room).cells ({ frames := 3, cells := 0, slots := 0, locals := 51 } : Room).slots) := by
  refine MetFree.of_bodySF (plainFor_of_name pn_6) hisR ?_
  intro p e s m args below meth c s₁ Bd hml0 hP hK
  obtain ⟨rfl, hZ, hh⟩ := hP
  have hx := Bd.exec
  have hby := Bd.bytes
  have hml : c.maxLocals = 5 := hml0
  have hown : s.vm.findClass "com/example/rootline/rootline/reach/HolderSets" = some m.cls := findClass_of_methodNamed Bd.named
  have hnm := (name_of_methodNamed Bd.named Bd.method).1
  have X0 : Stand p l e ({ frames := 3, cells := 0, slots := 0, locals := 51 } : Room) s m #[(.ref x0), (.int (1 : Int32)), (.int x2)] below meth c s₁ [] 0 0 := Stand.of_body Bd
  have e0 : s₁.heap = h0 := by rw [← hh, Bd.state]; rfl
  have N0 := Fr.nil n0
  have pre0 : ∀ t, Steps p.tables e below (s₁.setTop (mkF m 0 #[.val (.ref x0), .val (.int (1 : Int32)), .val (.int x2), .unset, .unset] [])) t → Steps p.tables e below (s₁.setTop (entryFrame m #[(.ref x0), (.int (1 : Int32)), (.int x2)] 5)) t := fun t k => castTop (ef_6 m x0 (1 : Int32) x2) k
  obtain ⟨⟨o1, o2, o3, o4⟩, E_x0, F_rest_x0, F_highest_x0, F_sizes_x0, F_count_x0, F_withOne_x0, V_ra, V_ha, V_sa, ⟨o5, o6⟩, E_t, F_keys_t, F_values_t, F_size_t, V_ka, V_va⟩ := HS0
  have K0 : Keep h0 h0 [x0, ra, ha, sa, t, ka, va] := Keep.refl h0 _
  have g_ra : n0 ≤ ra := Nat.le_of_lt (Nat.lt_of_le_of_lt g_x0 o1)
  have g_ha : n0 ≤ ha := Nat.le_of_lt (Nat.lt_of_le_of_lt g_ra o2)
  have g_sa : n0 ≤ sa := Nat.le_of_lt (Nat.lt_of_le_of_lt g_ha o3)
  have g_t : n0 ≤ t := Nat.le_of_lt (Nat.lt_of_le_of_lt g_sa o4)
  have g_ka : n0 ≤ ka := Nat.le_of_lt (Nat.lt_of_le_of_lt g_t o5)
  have g_va : n0 ≤ va := Nat.le_of_lt (Nat.lt_of_le_of_lt g_ka o6)
  obtain ⟨T1, X1, e1, st1⟩ := getF X0 hx hZ hown (host := "") (Or.inl (hw _ (List.mem_of_getElem? (i := 14) rfl))) Via.refl e0 F_highest_x0 (g := (mkF m 2 #[.val (.ref x0), .val (.int (1 : Int32)), .val (.int x2), .unset, .unset] [(.ref x0), (.int x2)])) rfl rfl (hb hby d6_2)
  obtain ⟨T2, X2, e2, st2⟩ := getF X1 hx hZ hown (host := "") (Or.inl (hw _ (List.mem_of_getElem? (i := 14) rfl))) Via.refl e1 F_highest_x0 (g := (mkF m 14 #[.val (.ref x0), .val (.int (1 : Int32)), .val (.int x2), .unset, .unset] [(.ref x0), (.int x2)])) rfl rfl (hb hby d6_14)
  obtain ⟨T3, X3, e3, st3⟩ := getF X2 hx hZ hown (host := "") (Or.inl (hw _ (List.mem_of_getElem? (i := 39) rfl))) Via.refl e2 F_withOne_x0 (g := (mkF m 43 #[.val (.ref x0), .val (.int (1 : Int32)), .val (.int x2), .unset, .unset] [(.ref x0)])) rfl rfl (hb hby d6_43)
  obtain ⟨_, _, ⟨T4, L4, k4, n4⟩, -, X4, ⟨Lc4, hQ4, l4, y4, z4⟩, st4⟩ := Jvm.LawKit.callS X3 hx (y := (⟨"com/example/rootline/rootline/reach/HolderSets", "pair", "(II)J"⟩ : MethodName)) hown (mvT hZ (hw _ (List.mem_of_getElem? (i := 54) rfl))) (mvT hZ (hw _ (List.mem_of_getElem? (i := 55) rfl))) (mvT hZ (hw _ (List.mem_of_getElem? (i := 4) rfl))) (mvT hZ (hw _ (List.mem_of_getElem? (i := 56) rfl))) (by decide) (backOf (W := 1) (rm7 l Z a0 hw [] (1 : Int32) x2 h0 n0 Z0) hZ (hw _ (List.mem_of_getElem? (i := 56) rfl)) (hw _ (List.mem_of_getElem? (i := 4) rfl)) (by decide) (by decide)) (g := (mkF m 48 #[.val (.ref x0), .val (.int (1 : Int32)), .val (.int x2), .unset, .unset] [(.int x2), (.int (1 : Int32)), (.ref t)])) rfl (by rw [hml]; rfl) (argsL := [(.int (1 : Int32)), (.int x2)]) (rest := [(.ref t)]) (lenOf pd__II_J rfl) rfl (by show 2 * 0 + _ ≤ _; exact Nat.le_of_eq rfl) (hb hby d6_48) (fun _ _ => ⟨rfl, e3, (by decide : 0 + 0 ≤ _), (by decide : 0 + 0 ≤ _)⟩)
  dsimp only [Pt.U, Pt.locs, Pt.cells, Pt.slots] at X4 l4 y4 z4 st4 hQ4
  subst l4 y4 z4
  obtain ⟨rfl, N4q, e4⟩ := hQ4
  have N4 := Fr.app N0 N4q
  obtain ⟨cq5, kq5, q5a, q5b, q5c⟩ := isOf hZ e4 E_t
  obtain ⟨_, _, ⟨T5, L5, k5, n5⟩, -, X5, ⟨Lc5, hQ5, l5, y5, z5⟩, st5⟩ := X4.virtualBack hx (y := (⟨"com/example/rootline/rootline/heap/LongIntTable", "get", "(J)I"⟩ : MethodName)) (z := (⟨"com/example/rootline/rootline/heap/LongIntTable", "get", "(J)I"⟩ : MethodName)) hown (mvT hZ (hw _ (List.mem_of_getElem? (i := 57) rfl))) (mvT hZ (hw _ (List.mem_of_getElem? (i := 58) rfl))) (notFace_of_selects (args := #[]) (mvT hZ (hw _ (List.mem_of_getElem? (i := 60) rfl)))) (mvT hZ (hw _ (List.mem_of_getElem? (i := 60) rfl))) (mvT hZ (hw _ (List.mem_of_getElem? (i := 59) rfl))) (by decide) (backOf (W := 0) (rm8 l Z a0 hw [] t (own_pair (1 : Int32) x2) ka va (1 : Int32) Kf Vf h0 n0 Z0 ⟨⟨o5, o6⟩, E_t, F_keys_t, F_values_t, F_size_t, V_ka, V_va⟩ hE hA) hZ (hw _ (List.mem_of_getElem? (i := 61) rfl)) (hw _ (List.mem_of_getElem? (i := 22) rfl)) (by decide) (by decide)) q5a q5c (g := (mkF m 51 #[.val (.ref x0), .val (.int (1 : Int32)), .val (.int x2), .unset, .unset] [(.long (own_pair (1 : Int32) x2)), (.ref t)])) rfl (by rw [hml]; rfl) (Steps.refl _) (argsL := [(.long (own_pair (1 : Int32) x2))]) (rest := []) (lenOf pd__J_I rfl) rfl (by show 2 * 0 + _ ≤ _; exact Nat.le_of_eq rfl) (hb hby d6_51) (fun _ _ => ⟨rfl, e4, (by decide : 0 + 0 ≤ _), (by decide : 0 + 0 ≤ _)⟩)
  dsimp only [Pt.U, Pt.locs, Pt.cells, Pt.slots] at X5 l5 y5 z5 st5 hQ5
  subst l5 y5 z5
  obtain ⟨rfl, N5q, e5⟩ := hQ5
  have N5 := Fr.app N4 N5q
  obtain ⟨T6, X6, e6, st6⟩ := getF X5 hx hZ hown (host := "") (Or.inl (hw _ (List.mem_of_getElem? (i := 18) rfl))) Via.refl e5 F_count_x0 (g := (mkF m 62 #[.val (.ref x0), .val (.int (1 : Int32)), .val (.int x2), .val (.int (-1 : Int32)), .unset] [(.ref x0)])) rfl rfl (hb hby d6_62)
  obtain ⟨T7, X7, e7, st7⟩ := getF X6 hx hZ hown (host := "") (Or.inl (hw _ (List.mem_of_getElem? (i := 12) rfl))) Via.refl e6 F_rest_x0 (g := (mkF m 66 #[.val (.ref x0), .val (.int (1 : Int32)), .val (.int x2), .val (.int (-1 : Int32)), .unset] [(.ref x0), (.int (2 : Int32))])) rfl rfl (hb hby d6_66)
  obtain ⟨T8, X8, e8, st8⟩ := getF X7 hx hZ hown (host := "") (Or.inl (hw _ (List.mem_of_getElem? (i := 12) rfl))) Via.refl e7 F_rest_x0 (g := (mkF m 127 #[.val (.ref x0), .val (.int (1 : Int32)), .val (.int x2), .val (.int (-1 : Int32)), .unset] [(.ref x0)])) rfl rfl (hb hby d6_127)
  obtain ⟨T9, X9, e9, st9⟩ := getF X8 hx hZ hown (host := "") (Or.inl (hw _ (List.mem_of_getElem? (i := 18) rfl))) Via.refl e8 F_count_x0 (g := (mkF m 131 #[.val (.ref x0), .val (.int (1 : Int32)), .val (.int x2), .val (.int (-1 : Int32)), .unset] [(.ref x0), (.ref ra)])) rfl rfl (hb hby d6_131)
  obtain ⟨T10, h10, L10, X10, e10, N10, W10, V10, st10⟩ := own_stI X9 hx hZ e9 V_ra (j := (2 : Int32)) ⟨by decide, by decide⟩ (i := 2) rfl (Nat.le_of_ble_eq_true rfl) N5 g_ra (g := (mkF m 135 #[.val (.ref x0), .val (.int (1 : Int32)), .val (.int x2), .val (.int (-1 : Int32)), .unset] [(.int (1 : Int32)), (.int (2 : Int32)), (.ref ra)])) rfl rfl (hb hby d6_135)
  have keep_11 := K0.wr W10 (Or.inl (List.mem_of_getElem? (i := 1) rfl))
  have E_x0_11 := E_x0.wr W10
  have F_rest_x0_11 := F_rest_x0.other W10 (Or.inl (Nat.ne_of_lt o1))
  have F_highest_x0_11 := F_highest_x0.other W10 (Or.inl (Nat.ne_of_lt o1))
  have F_sizes_x0_11 := F_sizes_x0.other W10 (Or.inl (Nat.ne_of_lt o1))
  have F_count_x0_11 := F_count_x0.other W10 (Or.inl (Nat.ne_of_lt o1))
  have F_withOne_x0_11 := F_withOne_x0.other W10 (Or.inl (Nat.ne_of_lt o1))
  have V_ha_11 := V_ha.other W10 (Ne.symm (Nat.ne_of_lt o2))
  have V_sa_11 := V_sa.other W10 (Ne.symm (Nat.ne_of_lt (Nat.lt_trans o2 o3)))
  have E_t_11 := E_t.wr W10
  have F_keys_t_11 := F_keys_t.other W10 (Or.inl (Ne.symm (Nat.ne_of_lt (Nat.lt_trans (Nat.lt_trans o2 o3) o4))))
  have F_values_t_11 := F_values_t.other W10 (Or.inl (Ne.symm (Nat.ne_of_lt (Nat.lt_trans (Nat.lt_trans o2 o3) o4))))
  have F_size_t_11 := F_size_t.other W10 (Or.inl (Ne.symm (Nat.ne_of_lt (Nat.lt_trans (Nat.lt_trans o2 o3) o4))))
  have V_ka_11 := V_ka.other W10 (Ne.symm (Nat.ne_of_lt (Nat.lt_trans (Nat.lt_trans (Nat.lt_trans o2 o3) o4) o5)))
  have V_va_11 := V_va.other W10 (Ne.symm (Nat.ne_of_lt (Nat.lt_trans (Nat.lt_trans (Nat.lt_trans (Nat.lt_trans o2 o3) o4) o5) o6)))
  have siz_11 := Nat.le_trans Z0 (Keep.of_wr W10).1
  have V_ra_10 : Arv Z h10 ra kr .int (16 : Int32) [(.int (-1 : Int32)), (.int (0 : Int32)), (.int (1 : Int32)), (.int (0 : Int32)), (.int (0 : Int32)), (.int (0 : Int32)), (.int (0 : Int32)), (.int (0 : Int32)), (.int (0 : Int32)), (.int (0 : Int32)), (.int (0 : Int32)), (.int (0 : Int32)), (.int (0 : Int32)), (.int (0 : Int32)), (.int (0 : Int32)), (.int (0 : Int32))] (.int (0 : Int32)) := V10
  obtain ⟨T12, X12, e12, st12⟩ := getF X10 hx hZ hown (host := "") (Or.inl (hw _ (List.mem_of_getElem? (i := 14) rfl))) Via.refl e10 F_highest_x0_11 (g := (mkF m 137 #[.val (.ref x0), .val (.int (1 : Int32)), .val (.int x2), .val (.int (-1 : Int32)), .unset] [(.ref x0)])) rfl rfl (hb hby d6_137)
  obtain ⟨T13, X13, e13, st13⟩ := getF X12 hx hZ hown (host := "") (Or.inl (hw _ (List.mem_of_getElem? (i := 18) rfl))) Via.refl e12 F_count_x0_11 (g := (mkF m 141 #[.val (.ref x0), .val (.int (1 : Int32)), .val (.int x2), .val (.int (-1 : Int32)), .unset] [(.ref x0), (.ref ha)])) rfl rfl (hb hby d6_141)
  obtain ⟨T14, h14, L14, X14, e14, N14, W14, V14, st14⟩ := own_stI X13 hx hZ e13 V_ha_11 (j := (2 : Int32)) ⟨by decide, by decide⟩ (i := 2) rfl (Nat.le_of_ble_eq_true rfl) N10 g_ha (g := (mkF m 145 #[.val (.ref x0), .val (.int (1 : Int32)), .val (.int x2), .val (.int (-1 : Int32)), .unset] [(.int x2), (.int (2 : Int32)), (.ref ha)])) rfl rfl (hb hby d6_145)
  have keep_15 := keep_11.wr W14 (Or.inl (List.mem_of_getElem? (i := 2) rfl))
  have E_x0_15 := E_x0_11.wr W14
  have F_rest_x0_15 := F_rest_x0_11.other W14 (Or.inl (Nat.ne_of_lt (Nat.lt_trans o1 o2)))
  have F_highest_x0_15 := F_highest_x0_11.other W14 (Or.inl (Nat.ne_of_lt (Nat.lt_trans o1 o2)))
  have F_sizes_x0_15 := F_sizes_x0_11.other W14 (Or.inl (Nat.ne_of_lt (Nat.lt_trans o1 o2)))
  have F_count_x0_15 := F_count_x0_11.other W14 (Or.inl (Nat.ne_of_lt (Nat.lt_trans o1 o2)))
  have F_withOne_x0_15 := F_withOne_x0_11.other W14 (Or.inl (Nat.ne_of_lt (Nat.lt_trans o1 o2)))
  have V_ra_15 := V_ra_10.other W14 (Nat.ne_of_lt o2)
  have V_sa_15 := V_sa_11.other W14 (Ne.symm (Nat.ne_of_lt o3))
  have E_t_15 := E_t_11.wr W14
  have F_keys_t_15 := F_keys_t_11.other W14 (Or.inl (Ne.symm (Nat.ne_of_lt (Nat.lt_trans o3 o4))))
  have F_values_t_15 := F_values_t_11.other W14 (Or.inl (Ne.symm (Nat.ne_of_lt (Nat.lt_trans o3 o4))))
  have F_size_t_15 := F_size_t_11.other W14 (Or.inl (Ne.symm (Nat.ne_of_lt (Nat.lt_trans o3 o4))))
  have V_ka_15 := V_ka_11.other W14 (Ne.symm (Nat.ne_of_lt (Nat.lt_trans (Nat.lt_trans o3 o4) o5)))
  have V_va_15 := V_va_11.other W14 (Ne.symm (Nat.ne_of_lt (Nat.lt_trans (Nat.lt_trans (Nat.lt_trans o3 o4) o5) o6)))
  have siz_15 := Nat.le_trans siz_11 (Keep.of_wr W14).1
  have V_ha_14 : Arv Z h14 ha kh .int (16 : Int32) [(.int (-1 : Int32)), (.int H1), (.int x2), (.int (0 : Int32)), (.int (0 : Int32)), (.int (0 : Int32)), (.int (0 : Int32)), (.int (0 : Int32)), (.int (0 : Int32)), (.int (0 : Int32)), (.int (0 : Int32)), (.int (0 : Int32)), (.int (0 : Int32)), (.int (0 : Int32)), (.int (0 : Int32)), (.int (0 : Int32))] (.int (0 : Int32)) := V14
  obtain ⟨T16, X16, e16, st16⟩ := getF X14 hx hZ hown (host := "") (Or.inl (hw _ (List.mem_of_getElem? (i := 16) rfl))) Via.refl e14 F_sizes_x0_15 (g := (mkF m 147 #[.val (.ref x0), .val (.int (1 : Int32)), .val (.int x2), .val (.int (-1 : Int32)), .unset] [(.ref x0)])) rfl rfl (hb hby d6_147)
  obtain ⟨T17, X17, e17, st17⟩ := getF X16 hx hZ hown (host := "") (Or.inl (hw _ (List.mem_of_getElem? (i := 18) rfl))) Via.refl e16 F_count_x0_15 (g := (mkF m 151 #[.val (.ref x0), .val (.int (1 : Int32)), .val (.int x2), .val (.int (-1 : Int32)), .unset] [(.ref x0), (.ref sa)])) rfl rfl (hb hby d6_151)
  obtain ⟨T18, X18, e18, st18⟩ := getF X17 hx hZ hown (host := "") (Or.inl (hw _ (List.mem_of_getElem? (i := 16) rfl))) Via.refl e17 F_sizes_x0_15 (g := (mkF m 155 #[.val (.ref x0), .val (.int (1 : Int32)), .val (.int x2), .val (.int (-1 : Int32)), .unset] [(.ref x0), (.int (2 : Int32)), (.ref sa)])) rfl rfl (hb hby d6_155)
  obtain ⟨T19, h19, L19, X19, e19, N19, W19, V19, st19⟩ := own_stI X18 hx hZ e18 V_sa_15 (j := (2 : Int32)) ⟨by decide, by decide⟩ (i := 2) rfl (Nat.le_of_ble_eq_true rfl) N14 g_sa (g := (mkF m 162 #[.val (.ref x0), .val (.int (1 : Int32)), .val (.int x2), .val (.int (-1 : Int32)), .unset] [(.int (2 : Int32)), (.int (2 : Int32)), (.ref sa)])) rfl rfl (hb hby d6_162)
  have keep_20 := keep_15.wr W19 (Or.inl (List.mem_of_getElem? (i := 3) rfl))
  have E_x0_20 := E_x0_15.wr W19
  have F_rest_x0_20 := F_rest_x0_15.other W19 (Or.inl (Nat.ne_of_lt (Nat.lt_trans (Nat.lt_trans o1 o2) o3)))
  have F_highest_x0_20 := F_highest_x0_15.other W19 (Or.inl (Nat.ne_of_lt (Nat.lt_trans (Nat.lt_trans o1 o2) o3)))
  have F_sizes_x0_20 := F_sizes_x0_15.other W19 (Or.inl (Nat.ne_of_lt (Nat.lt_trans (Nat.lt_trans o1 o2) o3)))
  have F_count_x0_20 := F_count_x0_15.other W19 (Or.inl (Nat.ne_of_lt (Nat.lt_trans (Nat.lt_trans o1 o2) o3)))
  have F_withOne_x0_20 := F_withOne_x0_15.other W19 (Or.inl (Nat.ne_of_lt (Nat.lt_trans (Nat.lt_trans o1 o2) o3)))
  have V_ra_20 := V_ra_15.other W19 (Nat.ne_of_lt (Nat.lt_trans o2 o3))
  have V_ha_20 := V_ha_14.other W19 (Nat.ne_of_lt o3)
  have E_t_20 := E_t_15.wr W19
  have F_keys_t_20 := F_keys_t_15.other W19 (Or.inl (Ne.symm (Nat.ne_of_lt o4)))
  have F_values_t_20 := F_values_t_15.other W19 (Or.inl (Ne.symm (Nat.ne_of_lt o4)))
  have F_size_t_20 := F_size_t_15.other W19 (Or.inl (Ne.symm (Nat.ne_of_lt o4)))
  have V_ka_20 := V_ka_15.other W19 (Ne.symm (Nat.ne_of_lt (Nat.lt_trans o4 o5)))
  have V_va_20 := V_va_15.other W19 (Ne.symm (Nat.ne_of_lt (Nat.lt_trans (Nat.lt_trans o4 o5) o6)))
  have siz_20 := Nat.le_trans siz_15 (Keep.of_wr W19).1
  have V_sa_19 : Arv Z h19 sa ks .int (16 : Int32) [(.int (0 : Int32)), (.int (1 : Int32)), (.int (2 : Int32)), (.int (0 : Int32)), (.int (0 : Int32)), (.int (0 : Int32)), (.int (0 : Int32)), (.int (0 : Int32)), (.int (0 : Int32)), (.int (0 : Int32)), (.int (0 : Int32)), (.int (0 : Int32)), (.int (0 : Int32)), (.int (0 : Int32)), (.int (0 : Int32)), (.int (0 : Int32))] (.int (0 : Int32)) := V19
  obtain ⟨T21, X21, e21, st21⟩ := getF X19 hx hZ hown (host := "") (Or.inl (hw _ (List.mem_of_getElem? (i := 39) rfl))) Via.refl e19 F_withOne_x0_20 (g := (mkF m 164 #[.val (.ref x0), .val (.int (1 : Int32)), .val (.int x2), .val (.int (-1 : Int32)), .unset] [(.ref x0)])) rfl rfl (hb hby d6_164)
  obtain ⟨_, _, ⟨T22, L22, k22, n22⟩, -, X22, ⟨Lc22, hQ22, l22, y22, z22⟩, st22⟩ := Jvm.LawKit.callS X21 hx (y := (⟨"com/example/rootline/rootline/reach/HolderSets", "pair", "(II)J"⟩ : MethodName)) hown (mvT hZ (hw _ (List.mem_of_getElem? (i := 54) rfl))) (mvT hZ (hw _ (List.mem_of_getElem? (i := 55) rfl))) (mvT hZ (hw _ (List.mem_of_getElem? (i := 4) rfl))) (mvT hZ (hw _ (List.mem_of_getElem? (i := 56) rfl))) (by decide) (backOf (W := 1) (rm7 l Z a0 hw [] (1 : Int32) x2 h19 n0 siz_20) hZ (hw _ (List.mem_of_getElem? (i := 56) rfl)) (hw _ (List.mem_of_getElem? (i := 4) rfl)) (by decide) (by decide)) (g := (mkF m 169 #[.val (.ref x0), .val (.int (1 : Int32)), .val (.int x2), .val (.int (-1 : Int32)), .unset] [(.int x2), (.int (1 : Int32)), (.ref t)])) rfl (by rw [hml]; rfl) (argsL := [(.int (1 : Int32)), (.int x2)]) (rest := [(.ref t)]) (lenOf pd__II_J rfl) rfl (by show 2 * 0 + _ ≤ _; exact Nat.le_of_eq rfl) (hb hby d6_169) (fun _ _ => ⟨rfl, e21, (by decide : 0 + 0 ≤ _), (by decide : 0 + 0 ≤ _)⟩)
  dsimp only [Pt.U, Pt.locs, Pt.cells, Pt.slots] at X22 l22 y22 z22 st22 hQ22
  subst l22 y22 z22
  obtain ⟨rfl, N22q, e22⟩ := hQ22
  have N22 := Fr.app N19 N22q
  obtain ⟨T23, X23, e23, st23⟩ := getF X22 hx hZ hown (host := "") (Or.inl (hw _ (List.mem_of_getElem? (i := 18) rfl))) Via.refl e22 F_count_x0_20 (g := (mkF m 173 #[.val (.ref x0), .val (.int (1 : Int32)), .val (.int x2), .val (.int (-1 : Int32)), .unset] [(.ref x0), (.long (own_pair (1 : Int32) x2)), (.ref t)])) rfl rfl (hb hby d6_173)
  obtain ⟨cq24, kq24, q24a, q24b, q24c⟩ := isOf hZ e23 E_t_20
  obtain ⟨_, _, ⟨T24, L24, k24, n24⟩, -, X24, ⟨Lc24, hQ24, l24, y24, z24⟩, st24⟩ := X23.virtualBack hx (y := (⟨"com/example/rootline/rootline/heap/LongIntTable", "put", "(JI)V"⟩ : MethodName)) (z := (⟨"com/example/rootline/rootline/heap/LongIntTable", "put", "(JI)V"⟩ : MethodName)) hown (mvT hZ (hw _ (List.mem_of_getElem? (i := 69) rfl))) (mvT hZ (hw _ (List.mem_of_getElem? (i := 70) rfl))) (notFace_of_selects (args := #[]) (mvT hZ (hw _ (List.mem_of_getElem? (i := 72) rfl)))) (mvT hZ (hw _ (List.mem_of_getElem? (i := 72) rfl))) (mvT hZ (hw _ (List.mem_of_getElem? (i := 71) rfl))) (by decide) (backOf (W := 0) (rm11 l Z a0 hw [] t (own_pair (1 : Int32) x2) (2 : Int32) ka va (1 : Int32) Kf Vf h19 n0 siz_20 ⟨⟨o5, o6⟩, E_t_20, F_keys_t_20, F_values_t_20, F_size_t_20, V_ka_20, V_va_20⟩ hE hA g_t (by decide) (by decide)) hZ (hw _ (List.mem_of_getElem? (i := 73) rfl)) (hw _ (List.mem_of_getElem? (i := 22) rfl)) (by decide) (by decide)) q24a q24c (g := (mkF m 176 #[.val (.ref x0), .val (.int (1 : Int32)), .val (.int x2), .val (.int (-1 : Int32)), .unset] [(.int (2 : Int32)), (.long (own_pair (1 : Int32) x2)), (.ref t)])) rfl (by rw [hml]; rfl) (Steps.refl _) (argsL := [(.long (own_pair (1 : Int32) x2)), (.int (2 : Int32))]) (rest := []) (lenOf pd__JI_V rfl) rfl (by show 2 * 0 + _ ≤ _; exact Nat.le_of_eq rfl) (hb hby d6_176) (fun _ _ => ⟨rfl, e23, (by decide : 0 + 0 ≤ _), (by decide : 0 + 0 ≤ _)⟩)
  dsimp only [Pt.U, Pt.locs, Pt.cells, Pt.slots] at X24 l24 y24 z24 st24 hQ24
  subst l24 y24 z24
  obtain ⟨rfl, N24q, K24, pz, hpz, hVz, ⟨⟨-, -⟩, E_t24, F_keys_t24, F_values_t24, F_size_t24, V_ka24, V_va24⟩⟩ := hQ24
  have keep_25 := keep_20.trans K24 (allS (Or.inl (List.mem_of_getElem? (i := 4) rfl)) (allS (Or.inl (List.mem_of_getElem? (i := 5) rfl)) (allS (Or.inl (List.mem_of_getElem? (i := 6) rfl)) (all0))))
  have E_x0_25 := E_x0_20.keep K24
  have F_rest_x0_25 := F_rest_x0_20.keep K24 (ninS (Nat.ne_of_lt (Nat.lt_trans (Nat.lt_trans (Nat.lt_trans o1 o2) o3) o4)) (ninS (Nat.ne_of_lt (Nat.lt_trans (Nat.lt_trans (Nat.lt_trans (Nat.lt_trans o1 o2) o3) o4) o5)) (ninS (Nat.ne_of_lt (Nat.lt_trans (Nat.lt_trans (Nat.lt_trans (Nat.lt_trans (Nat.lt_trans o1 o2) o3) o4) o5) o6)) nin0)))
  have F_highest_x0_25 := F_highest_x0_20.keep K24 (ninS (Nat.ne_of_lt (Nat.lt_trans (Nat.lt_trans (Nat.lt_trans o1 o2) o3) o4)) (ninS (Nat.ne_of_lt (Nat.lt_trans (Nat.lt_trans (Nat.lt_trans (Nat.lt_trans o1 o2) o3) o4) o5)) (ninS (Nat.ne_of_lt (Nat.lt_trans (Nat.lt_trans (Nat.lt_trans (Nat.lt_trans (Nat.lt_trans o1 o2) o3) o4) o5) o6)) nin0)))
  have F_sizes_x0_25 := F_sizes_x0_20.keep K24 (ninS (Nat.ne_of_lt (Nat.lt_trans (Nat.lt_trans (Nat.lt_trans o1 o2) o3) o4)) (ninS (Nat.ne_of_lt (Nat.lt_trans (Nat.lt_trans (Nat.lt_trans (Nat.lt_trans o1 o2) o3) o4) o5)) (ninS (Nat.ne_of_lt (Nat.lt_trans (Nat.lt_trans (Nat.lt_trans (Nat.lt_trans (Nat.lt_trans o1 o2) o3) o4) o5) o6)) nin0)))
  have F_count_x0_25 := F_count_x0_20.keep K24 (ninS (Nat.ne_of_lt (Nat.lt_trans (Nat.lt_trans (Nat.lt_trans o1 o2) o3) o4)) (ninS (Nat.ne_of_lt (Nat.lt_trans (Nat.lt_trans (Nat.lt_trans (Nat.lt_trans o1 o2) o3) o4) o5)) (ninS (Nat.ne_of_lt (Nat.lt_trans (Nat.lt_trans (Nat.lt_trans (Nat.lt_trans (Nat.lt_trans o1 o2) o3) o4) o5) o6)) nin0)))
  have F_withOne_x0_25 := F_withOne_x0_20.keep K24 (ninS (Nat.ne_of_lt (Nat.lt_trans (Nat.lt_trans (Nat.lt_trans o1 o2) o3) o4)) (ninS (Nat.ne_of_lt (Nat.lt_trans (Nat.lt_trans (Nat.lt_trans (Nat.lt_trans o1 o2) o3) o4) o5)) (ninS (Nat.ne_of_lt (Nat.lt_trans (Nat.lt_trans (Nat.lt_trans (Nat.lt_trans (Nat.lt_trans o1 o2) o3) o4) o5) o6)) nin0)))
  have V_ra_25 := V_ra_20.keep K24 (ninS (Nat.ne_of_lt (Nat.lt_trans (Nat.lt_trans o2 o3) o4)) (ninS (Nat.ne_of_lt (Nat.lt_trans (Nat.lt_trans (Nat.lt_trans o2 o3) o4) o5)) (ninS (Nat.ne_of_lt (Nat.lt_trans (Nat.lt_trans (Nat.lt_trans (Nat.lt_trans o2 o3) o4) o5) o6)) nin0)))
  have V_ha_25 := V_ha_20.keep K24 (ninS (Nat.ne_of_lt (Nat.lt_trans o3 o4)) (ninS (Nat.ne_of_lt (Nat.lt_trans (Nat.lt_trans o3 o4) o5)) (ninS (Nat.ne_of_lt (Nat.lt_trans (Nat.lt_trans (Nat.lt_trans o3 o4) o5) o6)) nin0)))
  have V_sa_25 := V_sa_19.keep K24 (ninS (Nat.ne_of_lt o4) (ninS (Nat.ne_of_lt (Nat.lt_trans o4 o5)) (ninS (Nat.ne_of_lt (Nat.lt_trans (Nat.lt_trans o4 o5) o6)) nin0)))
  have siz_25 := Nat.le_trans siz_20 K24.1
  have N24 := Fr.app N22 N24q
  obtain ⟨T26, X26, e26, st26⟩ := getF X24 hx hZ hown (host := "") (Or.inl (hw _ (List.mem_of_getElem? (i := 18) rfl))) Via.refl rfl F_count_x0_25 (g := (mkF m 181 #[.val (.ref x0), .val (.int (1 : Int32)), .val (.int x2), .val (.int (-1 : Int32)), .unset] [(.ref x0), (.ref x0)])) rfl rfl (hb hby d6_181)
  obtain ⟨T27, h27, X27, e27, W27, st27⟩ := putF X26 hx hZ hown (host := "") (Or.inl (hw _ (List.mem_of_getElem? (i := 18) rfl))) Via.refl e26 F_count_x0_25 E_x0_25 (Or.inl (hw _ (List.mem_of_getElem? (i := 19) rfl))) (hw _ (List.mem_of_getElem? (i := 3) rfl)) (ty := .int) (by decide) rfl rfl (g := (mkF m 187 #[.val (.ref x0), .val (.int (1 : Int32)), .val (.int x2), .val (.int (-1 : Int32)), .unset] [(.int (3 : Int32)), (.ref x0), (.int (2 : Int32))])) rfl rfl (hb hby d6_187)
  have N27 := Fr.snoc X27 N24 g_x0
  have keep_28 := keep_25.wr W27 (Or.inl (List.mem_of_getElem? (i := 0) rfl))
  have E_x0_28 := E_x0_25.wr W27
  have V_ra_28 := V_ra_25.other W27 (Ne.symm (Nat.ne_of_lt o1))
  have V_ha_28 := V_ha_25.other W27 (Ne.symm (Nat.ne_of_lt (Nat.lt_trans o1 o2)))
  have V_sa_28 := V_sa_25.other W27 (Ne.symm (Nat.ne_of_lt (Nat.lt_trans (Nat.lt_trans o1 o2) o3)))
  have E_t_28 := E_t24.wr W27
  have F_keys_t_28 := F_keys_t24.other W27 (Or.inl (Ne.symm (Nat.ne_of_lt (Nat.lt_trans (Nat.lt_trans (Nat.lt_trans o1 o2) o3) o4))))
  have F_values_t_28 := F_values_t24.other W27 (Or.inl (Ne.symm (Nat.ne_of_lt (Nat.lt_trans (Nat.lt_trans (Nat.lt_trans o1 o2) o3) o4))))
  have F_size_t_28 := F_size_t24.other W27 (Or.inl (Ne.symm (Nat.ne_of_lt (Nat.lt_trans (Nat.lt_trans (Nat.lt_trans o1 o2) o3) o4))))
  have V_ka_28 := V_ka24.other W27 (Ne.symm (Nat.ne_of_lt (Nat.lt_trans (Nat.lt_trans (Nat.lt_trans (Nat.lt_trans o1 o2) o3) o4) o5)))
  have V_va_28 := V_va24.other W27 (Ne.symm (Nat.ne_of_lt (Nat.lt_trans (Nat.lt_trans (Nat.lt_trans (Nat.lt_trans (Nat.lt_trans o1 o2) o3) o4) o5) o6)))
  have siz_28 := Nat.le_trans siz_25 (Keep.of_wr W27).1
  have F_rest_x0_27 : Fld Z h27 x0 sH "rest" "[I" (.ref ra) := F_rest_x0_25.other W27 (Or.inr (slot_ne (Or.inl (hw _ (List.mem_of_getElem? (i := 13) rfl))) (Or.inl (hw _ (List.mem_of_getElem? (i := 19) rfl))) (by decide) (t := (.array .int)) (t' := .int) (by decide) (by decide)))
  have F_highest_x0_27 : Fld Z h27 x0 sH "highest" "[I" (.ref ha) := F_highest_x0_25.other W27 (Or.inr (slot_ne (Or.inl (hw _ (List.mem_of_getElem? (i := 15) rfl))) (Or.inl (hw _ (List.mem_of_getElem? (i := 19) rfl))) (by decide) (t := (.array .int)) (t' := .int) (by decide) (by decide)))
  have F_sizes_x0_27 : Fld Z h27 x0 sH "sizes" "[I" (.ref sa) := F_sizes_x0_25.other W27 (Or.inr (slot_ne (Or.inl (hw _ (List.mem_of_getElem? (i := 17) rfl))) (Or.inl (hw _ (List.mem_of_getElem? (i := 19) rfl))) (by decide) (t := (.array .int)) (t' := .int) (by decide) (by decide)))
  have F_count_x0_27 : Fld Z h27 x0 sH "count" "I" (.int (3 : Int32)) := F_count_x0_25.same W27
  have F_withOne_x0_27 : Fld Z h27 x0 sH "withOne" "Lcom/example/rootline/rootline/heap/LongIntTable;" (.ref t) := F_withOne_x0_25.other W27 (Or.inr (slot_ne (Or.inr (hw _ (List.mem_of_getElem? (i := 40) rfl))) (Or.inl (hw _ (List.mem_of_getElem? (i := 19) rfl))) (by decide) (t := (.object "com/example/rootline/rootline/heap/LongIntTable")) (t' := .int) (by decide) (by decide)))
  obtain ⟨fs, hr, hrun, hended, hW, hsame⟩ := X27.leave (v := some (.int (2 : Int32))) (fun h => by rw [Bd.returns] at h; cases h)
  refine ⟨_, _, pre0 _ ?_, hrun, hended, _, _, rfl, ?_, ⟨_, rfl⟩, hW, hsame.mono (by decide) (by decide)⟩
  · show Steps p.tables e below (s₁.setTop (mkF m 0 #[.val (.ref x0), .val (.int (1 : Int32)), .val (.int x2), .unset, .unset] [])) _
    refine XS.iloadN X0.here hx rfl (hb hby d6_0) rfl ?_
    refine XS.aloadN X0.here hx rfl (hb hby d6_1) rfl rfl ?_
    refine st1 _ ?_
    show Steps p.tables e below (T1.setTop (mkF m 5 #[.val (.ref x0), .val (.int (1 : Int32)), .val (.int x2), .unset, .unset] [(.ref ha), (.int x2)])) _
    refine XS.iloadN X1.here hx rfl (hb hby d6_5) rfl ?_
    refine own_ldI X1 hx hZ e1 V_ha (j := (1 : Int32)) (w := H1) ⟨by decide, by decide⟩ rfl (g := (mkF m 6 #[.val (.ref x0), .val (.int (1 : Int32)), .val (.int x2), .unset, .unset] [(.int (1 : Int32)), (.ref ha), (.int x2)])) rfl rfl (hb hby d6_6) ?_
    refine XS.icmpYes X1.here hx rfl (pc0 := 7) (pc' := 12) rfl (hb hby d6_7) rfl (feq hne).2 (by decide) (by decide) ?_
    refine XS.iloadN X1.here hx rfl (hb hby d6_12) rfl ?_
    show Steps p.tables e below (T1.setTop (mkF m 13 #[.val (.ref x0), .val (.int (1 : Int32)), .val (.int x2), .unset, .unset] [(.int x2)])) _
    refine XS.aloadN X1.here hx rfl (hb hby d6_13) rfl rfl ?_
    refine st2 _ ?_
    show Steps p.tables e below (T2.setTop (mkF m 17 #[.val (.ref x0), .val (.int (1 : Int32)), .val (.int x2), .unset, .unset] [(.ref ha), (.int x2)])) _
    refine XS.iloadN X2.here hx rfl (hb hby d6_17) rfl ?_
    refine own_ldI X2 hx hZ e2 V_ha (j := (1 : Int32)) (w := H1) ⟨by decide, by decide⟩ rfl (g := (mkF m 18 #[.val (.ref x0), .val (.int (1 : Int32)), .val (.int x2), .unset, .unset] [(.int (1 : Int32)), (.ref ha), (.int x2)])) rfl rfl (hb hby d6_18) ?_
    show Steps p.tables e below (T2.setTop (mkF m 19 #[.val (.ref x0), .val (.int (1 : Int32)), .val (.int x2), .unset, .unset] [(.int H1), (.int x2)])) _
    refine XS.icmpYes X2.here hx rfl (pc0 := 19) (pc' := 42) rfl (hb hby d6_19) rfl (flt hge).2.1 (by decide) (by decide) ?_
    refine XS.aloadN X2.here hx rfl (hb hby d6_42) rfl rfl ?_
    refine st3 _ ?_
    show Steps p.tables e below (T3.setTop (mkF m 46 #[.val (.ref x0), .val (.int (1 : Int32)), .val (.int x2), .unset, .unset] [(.ref t)])) _
    refine XS.iloadN X3.here hx rfl (hb hby d6_46) rfl ?_
    show Steps p.tables e below (T3.setTop (mkF m 47 #[.val (.ref x0), .val (.int (1 : Int32)), .val (.int x2), .unset, .unset] [(.int (1 : Int32)), (.ref t)])) _
    refine XS.iloadN X3.here hx rfl (hb hby d6_47) rfl ?_
    refine st4 _ ?_
    show Steps p.tables e below (T4.setTop (mkF m 51 #[.val (.ref x0), .val (.int (1 : Int32)), .val (.int x2), .unset, .unset] [(.long (own_pair (1 : Int32) x2)), (.ref t)])) _
    refine st5.trans ?_
    show Steps p.tables e below (T5.setTop (mkF m 54 #[.val (.ref x0), .val (.int (1 : Int32)), .val (.int x2), .unset, .unset] [(.int (-1 : Int32))])) _
    refine XS.istoreN X5.here hx rfl (hb hby d6_54) rfl (l' := #[.val (.ref x0), .val (.int (1 : Int32)), .val (.int x2), .val (.int (-1 : Int32)), .unset]) rfl ?_
    show Steps p.tables e below (T5.setTop (mkF m 55 #[.val (.ref x0), .val (.int (1 : Int32)), .val (.int x2), .val (.int (-1 : Int32)), .unset] [])) _
    refine XS.iloadN X5.here hx rfl (hb hby d6_55) rfl ?_
    refine XS.ifYes X5.here hx rfl (pc0 := 56) (pc' := 61) rfl (hb hby d6_56) rfl ((if0 _ _).trans (tlt (by decide : (-1 : Int32) < (0 : Int32))).1) (by decide) (by decide) ?_
    refine XS.aloadN X5.here hx rfl (hb hby d6_61) rfl rfl ?_
    refine st6 _ ?_
    show Steps p.tables e below (T6.setTop (mkF m 65 #[.val (.ref x0), .val (.int (1 : Int32)), .val (.int x2), .val (.int (-1 : Int32)), .unset] [(.int (2 : Int32))])) _
    refine XS.aloadN X6.here hx rfl (hb hby d6_65) rfl rfl ?_
    refine st7 _ ?_
    show Steps p.tables e below (T7.setTop (mkF m 69 #[.val (.ref x0), .val (.int (1 : Int32)), .val (.int x2), .val (.int (-1 : Int32)), .unset] [(.ref ra), (.int (2 : Int32))])) _
    refine own_len X7 hx hZ e7 V_ra (g := (mkF m 69 #[.val (.ref x0), .val (.int (1 : Int32)), .val (.int x2), .val (.int (-1 : Int32)), .unset] [(.ref ra), (.int (2 : Int32))])) rfl rfl (hb hby d6_69) ?_
    refine XS.icmpYes X7.here hx rfl (pc0 := 70) (pc' := 126) rfl (hb hby d6_70) rfl (feq (by decide : ¬ ((2 : Int32) = (16 : Int32)))).2 (by decide) (by decide) ?_
    show Steps p.tables e below (T7.setTop (mkF m 126 #[.val (.ref x0), .val (.int (1 : Int32)), .val (.int x2), .val (.int (-1 : Int32)), .unset] [])) _
    refine XS.aloadN X7.here hx rfl (hb hby d6_126) rfl rfl ?_
    refine st8 _ ?_
    show Steps p.tables e below (T8.setTop (mkF m 130 #[.val (.ref x0), .val (.int (1 : Int32)), .val (.int x2), .val (.int (-1 : Int32)), .unset] [(.ref ra)])) _
    refine XS.aloadN X8.here hx rfl (hb hby d6_130) rfl rfl ?_
    refine st9 _ ?_
    show Steps p.tables e below (T9.setTop (mkF m 134 #[.val (.ref x0), .val (.int (1 : Int32)), .val (.int x2), .val (.int (-1 : Int32)), .unset] [(.int (2 : Int32)), (.ref ra)])) _
    refine XS.iloadN X9.here hx rfl (hb hby d6_134) rfl ?_
    refine st10 _ ?_
    show Steps p.tables e below (T10.setTop (mkF m 136 #[.val (.ref x0), .val (.int (1 : Int32)), .val (.int x2), .val (.int (-1 : Int32)), .unset] [])) _
    refine XS.aloadN X10.here hx rfl (hb hby d6_136) rfl rfl ?_
    refine st12 _ ?_
    show Steps p.tables e below (T12.setTop (mkF m 140 #[.val (.ref x0), .val (.int (1 : Int32)), .val (.int x2), .val (.int (-1 : Int32)), .unset] [(.ref ha)])) _
    refine XS.aloadN X12.here hx rfl (hb hby d6_140) rfl rfl ?_
    refine st13 _ ?_
    show Steps p.tables e below (T13.setTop (mkF m 144 #[.val (.ref x0), .val (.int (1 : Int32)), .val (.int x2), .val (.int (-1 : Int32)), .unset] [(.int (2 : Int32)), (.ref ha)])) _
    refine XS.iloadN X13.here hx rfl (hb hby d6_144) rfl ?_
    refine st14 _ ?_
    show Steps p.tables e below (T14.setTop (mkF m 146 #[.val (.ref x0), .val (.int (1 : Int32)), .val (.int x2), .val (.int (-1 : Int32)), .unset] [])) _
    refine XS.aloadN X14.here hx rfl (hb hby d6_146) rfl rfl ?_
    refine st16 _ ?_
    show Steps p.tables e below (T16.setTop (mkF m 150 #[.val (.ref x0), .val (.int (1 : Int32)), .val (.int x2), .val (.int (-1 : Int32)), .unset] [(.ref sa)])) _
    refine XS.aloadN X16.here hx rfl (hb hby d6_150) rfl rfl ?_
    refine st17 _ ?_
    show Steps p.tables e below (T17.setTop (mkF m 154 #[.val (.ref x0), .val (.int (1 : Int32)), .val (.int x2), .val (.int (-1 : Int32)), .unset] [(.int (2 : Int32)), (.ref sa)])) _
    refine XS.aloadN X17.here hx rfl (hb hby d6_154) rfl rfl ?_
    refine st18 _ ?_
    show Steps p.tables e below (T18.setTop (mkF m 158 #[.val (.ref x0), .val (.int (1 : Int32)), .val (.int x2), .val (.int (-1 : Int32)), .unset] [(.ref sa), (.int (2 : Int32)), (.ref sa)])) _
    refine XS.iloadN X18.here hx rfl (hb hby d6_158) rfl ?_
    refine own_ldI X18 hx hZ e18 V_sa_15 (j := (1 : Int32)) (w := (1 : Int32)) ⟨by decide, by decide⟩ rfl (g := (mkF m 159 #[.val (.ref x0), .val (.int (1 : Int32)), .val (.int x2), .val (.int (-1 : Int32)), .unset] [(.int (1 : Int32)), (.ref sa), (.int (2 : Int32)), (.ref sa)])) rfl rfl (hb hby d6_159) ?_
    show Steps p.tables e below (T18.setTop (mkF m 160 #[.val (.ref x0), .val (.int (1 : Int32)), .val (.int x2), .val (.int (-1 : Int32)), .unset] [(.int (1 : Int32)), (.int (2 : Int32)), (.ref sa)])) _
    refine XS.iconst X18.here hx rfl (hb hby d6_160) ?_
    refine XS.iadd X18.here hx rfl (hb hby d6_161) rfl ?_
    show Steps p.tables e below (T18.setTop (mkF m 162 #[.val (.ref x0), .val (.int (1 : Int32)), .val (.int x2), .val (.int (-1 : Int32)), .unset] [(.int ((1 : Int32) + (1 : Int32))), (.int (2 : Int32)), (.ref sa)])) _
    rw [show ((1 : Int32) + (1 : Int32)) = (2 : Int32) from by decide]
    show Steps p.tables e below (T18.setTop (mkF m 162 #[.val (.ref x0), .val (.int (1 : Int32)), .val (.int x2), .val (.int (-1 : Int32)), .unset] [(.int (2 : Int32)), (.int (2 : Int32)), (.ref sa)])) _
    refine st19 _ ?_
    show Steps p.tables e below (T19.setTop (mkF m 163 #[.val (.ref x0), .val (.int (1 : Int32)), .val (.int x2), .val (.int (-1 : Int32)), .unset] [])) _
    refine XS.aloadN X19.here hx rfl (hb hby d6_163) rfl rfl ?_
    show Steps p.tables e below (T19.setTop (mkF m 164 #[.val (.ref x0), .val (.int (1 : Int32)), .val (.int x2), .val (.int (-1 : Int32)), .unset] [(.ref x0)])) _
    refine st21 _ ?_
    show Steps p.tables e below (T21.setTop (mkF m 167 #[.val (.ref x0), .val (.int (1 : Int32)), .val (.int x2), .val (.int (-1 : Int32)), .unset] [(.ref t)])) _
    refine XS.iloadN X21.here hx rfl (hb hby d6_167) rfl ?_
    refine XS.iloadN X21.here hx rfl (hb hby d6_168) rfl ?_
    refine st22 _ ?_
    show Steps p.tables e below (T22.setTop (mkF m 172 #[.val (.ref x0), .val (.int (1 : Int32)), .val (.int x2), .val (.int (-1 : Int32)), .unset] [(.long (own_pair (1 : Int32) x2)), (.ref t)])) _
    refine XS.aloadN X22.here hx rfl (hb hby d6_172) rfl rfl ?_
    refine st23 _ ?_
    show Steps p.tables e below (T23.setTop (mkF m 176 #[.val (.ref x0), .val (.int (1 : Int32)), .val (.int x2), .val (.int (-1 : Int32)), .unset] [(.int (2 : Int32)), (.long (own_pair (1 : Int32) x2)), (.ref t)])) _
    refine st24.trans ?_
    show Steps p.tables e below (T24.setTop (mkF m 179 #[.val (.ref x0), .val (.int (1 : Int32)), .val (.int x2), .val (.int (-1 : Int32)), .unset] [])) _
    refine XS.aloadN X24.here hx rfl (hb hby d6_179) rfl rfl ?_
    show Steps p.tables e below (T24.setTop (mkF m 180 #[.val (.ref x0), .val (.int (1 : Int32)), .val (.int x2), .val (.int (-1 : Int32)), .unset] [(.ref x0)])) _
    refine XS.dup X24.here hx rfl (hb hby d6_180) rfl rfl ?_
    refine st26 _ ?_
    show Steps p.tables e below (T26.setTop (mkF m 184 #[.val (.ref x0), .val (.int (1 : Int32)), .val (.int x2), .val (.int (-1 : Int32)), .unset] [(.int (2 : Int32)), (.ref x0)])) _
    refine XS.dupX1 X26.here hx rfl (hb hby d6_184) rfl rfl rfl ?_
    refine XS.iconst X26.here hx rfl (hb hby d6_185) ?_
    show Steps p.tables e below (T26.setTop (mkF m 186 #[.val (.ref x0), .val (.int (1 : Int32)), .val (.int x2), .val (.int (-1 : Int32)), .unset] [(.int (1 : Int32)), (.int (2 : Int32)), (.ref x0), (.int (2 : Int32))])) _
    refine XS.iadd X26.here hx rfl (hb hby d6_186) rfl ?_
    show Steps p.tables e below (T26.setTop (mkF m 187 #[.val (.ref x0), .val (.int (1 : Int32)), .val (.int x2), .val (.int (-1 : Int32)), .unset] [(.int ((2 : Int32) + (1 : Int32))), (.ref x0), (.int (2 : Int32))])) _
    rw [show ((2 : Int32) + (1 : Int32)) = (3 : Int32) from by decide]
    show Steps p.tables e below (T26.setTop (mkF m 187 #[.val (.ref x0), .val (.int (1 : Int32)), .val (.int x2), .val (.int (-1 : Int32)), .unset] [(.int (3 : Int32)), (.ref x0), (.int (2 : Int32))])) _
    refine st27 _ ?_
    show Steps p.tables e below (T27.setTop (mkF m 190 #[.val (.ref x0), .val (.int (1 : Int32)), .val (.int x2), .val (.int (-1 : Int32)), .unset] [(.int (2 : Int32))])) _
    exact retI X27 hx Bd.returns (hb hby d6_190) hr
  · exact (by
      have eT : (T27.setFrames fs).heap = h27 := e27
      rw [eT]; exact ⟨rfl, N27, keep_28, pz, hpz, hVz, ⟨o1, o2, o3, o4⟩, E_x0_28, F_rest_x0_27, F_highest_x0_27, F_sizes_x0_27, F_count_x0_27, F_withOne_x0_27, V_ra_28, V_ha_28, V_sa_28, ⟨o5, o6⟩, E_t_28, F_keys_t_28, F_values_t_28, F_size_t_28, V_ka_28, V_va_28⟩)
set_option maxRecDepth 65536 in
set_option maxHeartbeats 40000000 in
theorem rmw_2 (l : Launch) (Z : State) (a0 : Array Value) (hw : ∀ d ∈ tables_1, d.before a0 Z = true) (ws : List Jvm.Cond) (x0 : Addr) (x2 : Int32) (ra ha sa t ka va : Addr) (kr kh ks : ClassId) (Kf : Nat → Int64) (Vf : Nat → Int32) (H1 : Int32) (H2 : Int32) (h0 : Heap) (n0 : Nat) (Z0 : n0 ≤ h0.size) (HS0 : HSS Z h0 x0 ra ha sa t ka va kr kh ks (3 : Int32) [(.int (-1 : Int32)), (.int (0 : Int32)), (.int (1 : Int32)), (.int (0 : Int32)), (.int (0 : Int32)), (.int (0 : Int32)), (.int (0 : Int32)), (.int (0 : Int32)), (.int (0 : Int32)), (.int (0 : Int32)), (.int (0 : Int32)), (.int (0 : Int32)), (.int (0 : Int32)), (.int (0 : Int32)), (.int (0 : Int32)), (.int (0 : Int32))] [(.int (-1 : Int32)), (.int H1), (.int H2), (.int (0 : Int32)), (.int (0 : Int32)), (.int (0 : Int32)), (.int (0 : Int32)), (.int (0 : Int32)), (.int (0 : Int32)), (.int (0 : Int32)), (.int (0 : Int32)), (.int (0 : Int32)), (.int (0 : Int32)), (.int (0 : Int32)), (.int (0 : Int32)), (.int (0 : Int32))] [(.int (0 : Int32)), (.int (1 : Int32)), (.int (2 : Int32)), (.int (0 : Int32)), (.int (0 : Int32)), (.int (0 : Int32)), (.int (0 : Int32)), (.int (0 : Int32)), (.int (0 : Int32)), (.int (0 : Int32)), (.int (0 : Int32)), (.int (0 : Int32)), (.int (0 : Int32)), (.int (0 : Int32)), (.int (0 : Int32)), (.int (0 : Int32))] (2 : Int32) Kf Vf) (g_x0 : n0 ≤ x0) (hE : ∀ i : Int32, 0 ≤ i.toInt ∧ i.toInt < 64 → Emp Vf 2 i) (hA : ∀ j, j < 64 → Vf j ≠ (-1 : Int32) → Kf j ≠ (own_pair (2 : Int32) x2)) (hne : ¬ (x2 = H2)) (hge : ¬ (x2 < H2)) :
    MetFree l (⟨"com/example/rootline/rootline/reach/HolderSets", "with", "(II)I"⟩ : MethodName) (head1 (Jvm.Cond.code (⟨"com/example/rootline/rootline/reach/HolderSets", "with", "(II)I"⟩ : MethodName) prog_179_method_3_code 5 (some .int) :: ws) ({ frames := 3, cells := 0, slots := 0, locals := 51 } : Room)) (fun a U => a = #[(.ref x0), (.int (2 : Int32)), (.int x2)] ∧ Z.Warmed39 U.vm ∧ U.heap = h0) (fun _ _ _ _ _ => True) (fun _ U o U' => ∃ v L, o = .returned v ∧ (QW Z x0 ra ha sa t ka va kr kh ks (3 : Int32) [(.int (-1 : Int32)), (.int (0 : Int32)), (.int (1 : Int32)), (.int (2 : Int32)), (.int (0 : Int32)), (.int (0 : Int32)), (.int (0 : Int32)), (.int (0 : Int32)), (.int (0 : Int32)), (.int (0 : Int32)), (.int (0 : Int32)), (.int (0 : Int32)), (.int (0 : Int32)), (.int (0 : Int32)), (.int (0 : Int32)), (.int (0 : Int32))] [(.int (-1 : Int32)), (.int H1), (.int H2), (.int x2), (.int (0 : Int32)), (.int (0 : Int32)), (.int (0 : Int32)), (.int (0 : Int32)), (.int (0 : Int32)), (.int (0 : Int32)), (.int (0 : Int32)), (.int (0 : Int32)), (.int (0 : Int32)), (.int (0 : Int32)), (.int (0 : Int32)), (.int (0 : Int32))] [(.int (0 : Int32)), (.int (1 : Int32)), (.int (2 : Int32)), (.int (3 : Int32)), (.int (0 : Int32)), (.int (0 : Int32)), (.int (0 : Int32)), (.int (0 : Int32)), (.int (0 : Int32)), (.int (0 : Int32)), (.int (0 : Int32)), (.int (0 : Int32)), (.int (0 : Int32)), (.int (0 : Int32)), (.int (0 : Int32)), (.int (0 : Int32))] (2 : Int32) Kf Vf (own_pair (2 : Int32) x2) h0 n0 v U'.heap L) ∧ FrameEnd U o U' L ({ frames := 3, cells := 0, slots := 0, locals := 51 } : Room).cells ({ frames := 3, cells := 0, slots := 0, locals := 51 } : Room).slots) := by
  refine MetFree.of_bodySF (plainFor_of_name pn_6) hisR ?_
  intro p e s m args below meth c s₁ Bd hml0 hP hK
  obtain ⟨rfl, hZ, hh⟩ := hP
  have hx := Bd.exec
  have hby := Bd.bytes
  have hml : c.maxLocals = 5 := hml0
  have hown : s.vm.findClass "com/example/rootline/rootline/reach/HolderSets" = some m.cls := findClass_of_methodNamed Bd.named
  have hnm := (name_of_methodNamed Bd.named Bd.method).1
  have X0 : Stand p l e ({ frames := 3, cells := 0, slots := 0, locals := 51 } : Room) s m #[(.ref x0), (.int (2 : Int32)), (.int x2)] below meth c s₁ [] 0 0 := Stand.of_body Bd
  have e0 : s₁.heap = h0 := by rw [← hh, Bd.state]; rfl
  have N0 := Fr.nil n0
  have pre0 : ∀ t, Steps p.tables e below (s₁.setTop (mkF m 0 #[.val (.ref x0), .val (.int (2 : Int32)), .val (.int x2), .unset, .unset] [])) t → Steps p.tables e below (s₁.setTop (entryFrame m #[(.ref x0), (.int (2 : Int32)), (.int x2)] 5)) t := fun t k => castTop (ef_6 m x0 (2 : Int32) x2) k
  obtain ⟨⟨o1, o2, o3, o4⟩, E_x0, F_rest_x0, F_highest_x0, F_sizes_x0, F_count_x0, F_withOne_x0, V_ra, V_ha, V_sa, ⟨o5, o6⟩, E_t, F_keys_t, F_values_t, F_size_t, V_ka, V_va⟩ := HS0
  have K0 : Keep h0 h0 [x0, ra, ha, sa, t, ka, va] := Keep.refl h0 _
  have g_ra : n0 ≤ ra := Nat.le_of_lt (Nat.lt_of_le_of_lt g_x0 o1)
  have g_ha : n0 ≤ ha := Nat.le_of_lt (Nat.lt_of_le_of_lt g_ra o2)
  have g_sa : n0 ≤ sa := Nat.le_of_lt (Nat.lt_of_le_of_lt g_ha o3)
  have g_t : n0 ≤ t := Nat.le_of_lt (Nat.lt_of_le_of_lt g_sa o4)
  have g_ka : n0 ≤ ka := Nat.le_of_lt (Nat.lt_of_le_of_lt g_t o5)
  have g_va : n0 ≤ va := Nat.le_of_lt (Nat.lt_of_le_of_lt g_ka o6)
  obtain ⟨T1, X1, e1, st1⟩ := getF X0 hx hZ hown (host := "") (Or.inl (hw _ (List.mem_of_getElem? (i := 14) rfl))) Via.refl e0 F_highest_x0 (g := (mkF m 2 #[.val (.ref x0), .val (.int (2 : Int32)), .val (.int x2), .unset, .unset] [(.ref x0), (.int x2)])) rfl rfl (hb hby d6_2)
  obtain ⟨T2, X2, e2, st2⟩ := getF X1 hx hZ hown (host := "") (Or.inl (hw _ (List.mem_of_getElem? (i := 14) rfl))) Via.refl e1 F_highest_x0 (g := (mkF m 14 #[.val (.ref x0), .val (.int (2 : Int32)), .val (.int x2), .unset, .unset] [(.ref x0), (.int x2)])) rfl rfl (hb hby d6_14)
  obtain ⟨T3, X3, e3, st3⟩ := getF X2 hx hZ hown (host := "") (Or.inl (hw _ (List.mem_of_getElem? (i := 39) rfl))) Via.refl e2 F_withOne_x0 (g := (mkF m 43 #[.val (.ref x0), .val (.int (2 : Int32)), .val (.int x2), .unset, .unset] [(.ref x0)])) rfl rfl (hb hby d6_43)
  obtain ⟨_, _, ⟨T4, L4, k4, n4⟩, -, X4, ⟨Lc4, hQ4, l4, y4, z4⟩, st4⟩ := Jvm.LawKit.callS X3 hx (y := (⟨"com/example/rootline/rootline/reach/HolderSets", "pair", "(II)J"⟩ : MethodName)) hown (mvT hZ (hw _ (List.mem_of_getElem? (i := 54) rfl))) (mvT hZ (hw _ (List.mem_of_getElem? (i := 55) rfl))) (mvT hZ (hw _ (List.mem_of_getElem? (i := 4) rfl))) (mvT hZ (hw _ (List.mem_of_getElem? (i := 56) rfl))) (by decide) (backOf (W := 1) (rm7 l Z a0 hw [] (2 : Int32) x2 h0 n0 Z0) hZ (hw _ (List.mem_of_getElem? (i := 56) rfl)) (hw _ (List.mem_of_getElem? (i := 4) rfl)) (by decide) (by decide)) (g := (mkF m 48 #[.val (.ref x0), .val (.int (2 : Int32)), .val (.int x2), .unset, .unset] [(.int x2), (.int (2 : Int32)), (.ref t)])) rfl (by rw [hml]; rfl) (argsL := [(.int (2 : Int32)), (.int x2)]) (rest := [(.ref t)]) (lenOf pd__II_J rfl) rfl (by show 2 * 0 + _ ≤ _; exact Nat.le_of_eq rfl) (hb hby d6_48) (fun _ _ => ⟨rfl, e3, (by decide : 0 + 0 ≤ _), (by decide : 0 + 0 ≤ _)⟩)
  dsimp only [Pt.U, Pt.locs, Pt.cells, Pt.slots] at X4 l4 y4 z4 st4 hQ4
  subst l4 y4 z4
  obtain ⟨rfl, N4q, e4⟩ := hQ4
  have N4 := Fr.app N0 N4q
  obtain ⟨cq5, kq5, q5a, q5b, q5c⟩ := isOf hZ e4 E_t
  obtain ⟨_, _, ⟨T5, L5, k5, n5⟩, -, X5, ⟨Lc5, hQ5, l5, y5, z5⟩, st5⟩ := X4.virtualBack hx (y := (⟨"com/example/rootline/rootline/heap/LongIntTable", "get", "(J)I"⟩ : MethodName)) (z := (⟨"com/example/rootline/rootline/heap/LongIntTable", "get", "(J)I"⟩ : MethodName)) hown (mvT hZ (hw _ (List.mem_of_getElem? (i := 57) rfl))) (mvT hZ (hw _ (List.mem_of_getElem? (i := 58) rfl))) (notFace_of_selects (args := #[]) (mvT hZ (hw _ (List.mem_of_getElem? (i := 60) rfl)))) (mvT hZ (hw _ (List.mem_of_getElem? (i := 60) rfl))) (mvT hZ (hw _ (List.mem_of_getElem? (i := 59) rfl))) (by decide) (backOf (W := 0) (rm8 l Z a0 hw [] t (own_pair (2 : Int32) x2) ka va (2 : Int32) Kf Vf h0 n0 Z0 ⟨⟨o5, o6⟩, E_t, F_keys_t, F_values_t, F_size_t, V_ka, V_va⟩ hE hA) hZ (hw _ (List.mem_of_getElem? (i := 61) rfl)) (hw _ (List.mem_of_getElem? (i := 22) rfl)) (by decide) (by decide)) q5a q5c (g := (mkF m 51 #[.val (.ref x0), .val (.int (2 : Int32)), .val (.int x2), .unset, .unset] [(.long (own_pair (2 : Int32) x2)), (.ref t)])) rfl (by rw [hml]; rfl) (Steps.refl _) (argsL := [(.long (own_pair (2 : Int32) x2))]) (rest := []) (lenOf pd__J_I rfl) rfl (by show 2 * 0 + _ ≤ _; exact Nat.le_of_eq rfl) (hb hby d6_51) (fun _ _ => ⟨rfl, e4, (by decide : 0 + 0 ≤ _), (by decide : 0 + 0 ≤ _)⟩)
  dsimp only [Pt.U, Pt.locs, Pt.cells, Pt.slots] at X5 l5 y5 z5 st5 hQ5
  subst l5 y5 z5
  obtain ⟨rfl, N5q, e5⟩ := hQ5
  have N5 := Fr.app N4 N5q
  obtain ⟨T6, X6, e6, st6⟩ := getF X5 hx hZ hown (host := "") (Or.inl (hw _ (List.mem_of_getElem? (i := 18) rfl))) Via.refl e5 F_count_x0 (g := (mkF m 62 #[.val (.ref x0), .val (.int (2 : Int32)), .val (.int x2), .val (.int (-1 : Int32)), .unset] [(.ref x0)])) rfl rfl (hb hby d6_62)
  obtain ⟨T7, X7, e7, st7⟩ := getF X6 hx hZ hown (host := "") (Or.inl (hw _ (List.mem_of_getElem? (i := 12) rfl))) Via.refl e6 F_rest_x0 (g := (mkF m 66 #[.val (.ref x0), .val (.int (2 : Int32)), .val (.int x2), .val (.int (-1 : Int32)), .unset] [(.ref x0), (.int (3 : Int32))])) rfl rfl (hb hby d6_66)
  obtain ⟨T8, X8, e8, st8⟩ := getF X7 hx hZ hown (host := "") (Or.inl (hw _ (List.mem_of_getElem? (i := 12) rfl))) Via.refl e7 F_rest_x0 (g := (mkF m 127 #[.val (.ref x0), .val (.int (2 : Int32)), .val (.int x2), .val (.int (-1 : Int32)), .unset] [(.ref x0)])) rfl rfl (hb hby d6_127)
  obtain ⟨T9, X9, e9, st9⟩ := getF X8 hx hZ hown (host := "") (Or.inl (hw _ (List.mem_of_getElem? (i := 18) rfl))) Via.refl e8 F_count_x0 (g := (mkF m 131 #[.val (.ref x0), .val (.int (2 : Int32)), .val (.int x2), .val (.int (-1 : Int32)), .unset] [(.ref x0), (.ref ra)])) rfl rfl (hb hby d6_131)
  obtain ⟨T10, h10, L10, X10, e10, N10, W10, V10, st10⟩ := own_stI X9 hx hZ e9 V_ra (j := (3 : Int32)) ⟨by decide, by decide⟩ (i := 3) rfl (Nat.le_of_ble_eq_true rfl) N5 g_ra (g := (mkF m 135 #[.val (.ref x0), .val (.int (2 : Int32)), .val (.int x2), .val (.int (-1 : Int32)), .unset] [(.int (2 : Int32)), (.int (3 : Int32)), (.ref ra)])) rfl rfl (hb hby d6_135)
  have keep_11 := K0.wr W10 (Or.inl (List.mem_of_getElem? (i := 1) rfl))
  have E_x0_11 := E_x0.wr W10
  have F_rest_x0_11 := F_rest_x0.other W10 (Or.inl (Nat.ne_of_lt o1))
  have F_highest_x0_11 := F_highest_x0.other W10 (Or.inl (Nat.ne_of_lt o1))
  have F_sizes_x0_11 := F_sizes_x0.other W10 (Or.inl (Nat.ne_of_lt o1))
  have F_count_x0_11 := F_count_x0.other W10 (Or.inl (Nat.ne_of_lt o1))
  have F_withOne_x0_11 := F_withOne_x0.other W10 (Or.inl (Nat.ne_of_lt o1))
  have V_ha_11 := V_ha.other W10 (Ne.symm (Nat.ne_of_lt o2))
  have V_sa_11 := V_sa.other W10 (Ne.symm (Nat.ne_of_lt (Nat.lt_trans o2 o3)))
  have E_t_11 := E_t.wr W10
  have F_keys_t_11 := F_keys_t.other W10 (Or.inl (Ne.symm (Nat.ne_of_lt (Nat.lt_trans (Nat.lt_trans o2 o3) o4))))
  have F_values_t_11 := F_values_t.other W10 (Or.inl (Ne.symm (Nat.ne_of_lt (Nat.lt_trans (Nat.lt_trans o2 o3) o4))))
  have F_size_t_11 := F_size_t.other W10 (Or.inl (Ne.symm (Nat.ne_of_lt (Nat.lt_trans (Nat.lt_trans o2 o3) o4))))
  have V_ka_11 := V_ka.other W10 (Ne.symm (Nat.ne_of_lt (Nat.lt_trans (Nat.lt_trans (Nat.lt_trans o2 o3) o4) o5)))
  have V_va_11 := V_va.other W10 (Ne.symm (Nat.ne_of_lt (Nat.lt_trans (Nat.lt_trans (Nat.lt_trans (Nat.lt_trans o2 o3) o4) o5) o6)))
  have siz_11 := Nat.le_trans Z0 (Keep.of_wr W10).1
  have V_ra_10 : Arv Z h10 ra kr .int (16 : Int32) [(.int (-1 : Int32)), (.int (0 : Int32)), (.int (1 : Int32)), (.int (2 : Int32)), (.int (0 : Int32)), (.int (0 : Int32)), (.int (0 : Int32)), (.int (0 : Int32)), (.int (0 : Int32)), (.int (0 : Int32)), (.int (0 : Int32)), (.int (0 : Int32)), (.int (0 : Int32)), (.int (0 : Int32)), (.int (0 : Int32)), (.int (0 : Int32))] (.int (0 : Int32)) := V10
  obtain ⟨T12, X12, e12, st12⟩ := getF X10 hx hZ hown (host := "") (Or.inl (hw _ (List.mem_of_getElem? (i := 14) rfl))) Via.refl e10 F_highest_x0_11 (g := (mkF m 137 #[.val (.ref x0), .val (.int (2 : Int32)), .val (.int x2), .val (.int (-1 : Int32)), .unset] [(.ref x0)])) rfl rfl (hb hby d6_137)
  obtain ⟨T13, X13, e13, st13⟩ := getF X12 hx hZ hown (host := "") (Or.inl (hw _ (List.mem_of_getElem? (i := 18) rfl))) Via.refl e12 F_count_x0_11 (g := (mkF m 141 #[.val (.ref x0), .val (.int (2 : Int32)), .val (.int x2), .val (.int (-1 : Int32)), .unset] [(.ref x0), (.ref ha)])) rfl rfl (hb hby d6_141)
  obtain ⟨T14, h14, L14, X14, e14, N14, W14, V14, st14⟩ := own_stI X13 hx hZ e13 V_ha_11 (j := (3 : Int32)) ⟨by decide, by decide⟩ (i := 3) rfl (Nat.le_of_ble_eq_true rfl) N10 g_ha (g := (mkF m 145 #[.val (.ref x0), .val (.int (2 : Int32)), .val (.int x2), .val (.int (-1 : Int32)), .unset] [(.int x2), (.int (3 : Int32)), (.ref ha)])) rfl rfl (hb hby d6_145)
  have keep_15 := keep_11.wr W14 (Or.inl (List.mem_of_getElem? (i := 2) rfl))
  have E_x0_15 := E_x0_11.wr W14
  have F_rest_x0_15 := F_rest_x0_11.other W14 (Or.inl (Nat.ne_of_lt (Nat.lt_trans o1 o2)))
  have F_highest_x0_15 := F_highest_x0_11.other W14 (Or.inl (Nat.ne_of_lt (Nat.lt_trans o1 o2)))
  have F_sizes_x0_15 := F_sizes_x0_11.other W14 (Or.inl (Nat.ne_of_lt (Nat.lt_trans o1 o2)))
  have F_count_x0_15 := F_count_x0_11.other W14 (Or.inl (Nat.ne_of_lt (Nat.lt_trans o1 o2)))
  have F_withOne_x0_15 := F_withOne_x0_11.other W14 (Or.inl (Nat.ne_of_lt (Nat.lt_trans o1 o2)))
  have V_ra_15 := V_ra_10.other W14 (Nat.ne_of_lt o2)
  have V_sa_15 := V_sa_11.other W14 (Ne.symm (Nat.ne_of_lt o3))
  have E_t_15 := E_t_11.wr W14
  have F_keys_t_15 := F_keys_t_11.other W14 (Or.inl (Ne.symm (Nat.ne_of_lt (Nat.lt_trans o3 o4))))
  have F_values_t_15 := F_values_t_11.other W14 (Or.inl (Ne.symm (Nat.ne_of_lt (Nat.lt_trans o3 o4))))
  have F_size_t_15 := F_size_t_11.other W14 (Or.inl (Ne.symm (Nat.ne_of_lt (Nat.lt_trans o3 o4))))
  have V_ka_15 := V_ka_11.other W14 (Ne.symm (Nat.ne_of_lt (Nat.lt_trans (Nat.lt_trans o3 o4) o5)))
  have V_va_15 := V_va_11.other W14 (Ne.symm (Nat.ne_of_lt (Nat.lt_trans (Nat.lt_trans (Nat.lt_trans o3 o4) o5) o6)))
  have siz_15 := Nat.le_trans siz_11 (Keep.of_wr W14).1
  have V_ha_14 : Arv Z h14 ha kh .int (16 : Int32) [(.int (-1 : Int32)), (.int H1), (.int H2), (.int x2), (.int (0 : Int32)), (.int (0 : Int32)), (.int (0 : Int32)), (.int (0 : Int32)), (.int (0 : Int32)), (.int (0 : Int32)), (.int (0 : Int32)), (.int (0 : Int32)), (.int (0 : Int32)), (.int (0 : Int32)), (.int (0 : Int32)), (.int (0 : Int32))] (.int (0 : Int32)) := V14
  obtain ⟨T16, X16, e16, st16⟩ := getF X14 hx hZ hown (host := "") (Or.inl (hw _ (List.mem_of_getElem? (i := 16) rfl))) Via.refl e14 F_sizes_x0_15 (g := (mkF m 147 #[.val (.ref x0), .val (.int (2 : Int32)), .val (.int x2), .val (.int (-1 : Int32)), .unset] [(.ref x0)])) rfl rfl (hb hby d6_147)
  obtain ⟨T17, X17, e17, st17⟩ := getF X16 hx hZ hown (host := "") (Or.inl (hw _ (List.mem_of_getElem? (i := 18) rfl))) Via.refl e16 F_count_x0_15 (g := (mkF m 151 #[.val (.ref x0), .val (.int (2 : Int32)), .val (.int x2), .val (.int (-1 : Int32)), .unset] [(.ref x0), (.ref sa)])) rfl rfl (hb hby d6_151)
  obtain ⟨T18, X18, e18, st18⟩ := getF X17 hx hZ hown (host := "") (Or.inl (hw _ (List.mem_of_getElem? (i := 16) rfl))) Via.refl e17 F_sizes_x0_15 (g := (mkF m 155 #[.val (.ref x0), .val (.int (2 : Int32)), .val (.int x2), .val (.int (-1 : Int32)), .unset] [(.ref x0), (.int (3 : Int32)), (.ref sa)])) rfl rfl (hb hby d6_155)
  obtain ⟨T19, h19, L19, X19, e19, N19, W19, V19, st19⟩ := own_stI X18 hx hZ e18 V_sa_15 (j := (3 : Int32)) ⟨by decide, by decide⟩ (i := 3) rfl (Nat.le_of_ble_eq_true rfl) N14 g_sa (g := (mkF m 162 #[.val (.ref x0), .val (.int (2 : Int32)), .val (.int x2), .val (.int (-1 : Int32)), .unset] [(.int (3 : Int32)), (.int (3 : Int32)), (.ref sa)])) rfl rfl (hb hby d6_162)
  have keep_20 := keep_15.wr W19 (Or.inl (List.mem_of_getElem? (i := 3) rfl))
  have E_x0_20 := E_x0_15.wr W19
  have F_rest_x0_20 := F_rest_x0_15.other W19 (Or.inl (Nat.ne_of_lt (Nat.lt_trans (Nat.lt_trans o1 o2) o3)))
  have F_highest_x0_20 := F_highest_x0_15.other W19 (Or.inl (Nat.ne_of_lt (Nat.lt_trans (Nat.lt_trans o1 o2) o3)))
  have F_sizes_x0_20 := F_sizes_x0_15.other W19 (Or.inl (Nat.ne_of_lt (Nat.lt_trans (Nat.lt_trans o1 o2) o3)))
  have F_count_x0_20 := F_count_x0_15.other W19 (Or.inl (Nat.ne_of_lt (Nat.lt_trans (Nat.lt_trans o1 o2) o3)))
  have F_withOne_x0_20 := F_withOne_x0_15.other W19 (Or.inl (Nat.ne_of_lt (Nat.lt_trans (Nat.lt_trans o1 o2) o3)))
  have V_ra_20 := V_ra_15.other W19 (Nat.ne_of_lt (Nat.lt_trans o2 o3))
  have V_ha_20 := V_ha_14.other W19 (Nat.ne_of_lt o3)
  have E_t_20 := E_t_15.wr W19
  have F_keys_t_20 := F_keys_t_15.other W19 (Or.inl (Ne.symm (Nat.ne_of_lt o4)))
  have F_values_t_20 := F_values_t_15.other W19 (Or.inl (Ne.symm (Nat.ne_of_lt o4)))
  have F_size_t_20 := F_size_t_15.other W19 (Or.inl (Ne.symm (Nat.ne_of_lt o4)))
  have V_ka_20 := V_ka_15.other W19 (Ne.symm (Nat.ne_of_lt (Nat.lt_trans o4 o5)))
  have V_va_20 := V_va_15.other W19 (Ne.symm (Nat.ne_of_lt (Nat.lt_trans (Nat.lt_trans o4 o5) o6)))
  have siz_20 := Nat.le_trans siz_15 (Keep.of_wr W19).1
  have V_sa_19 : Arv Z h19 sa ks .int (16 : Int32) [(.int (0 : Int32)), (.int (1 : Int32)), (.int (2 : Int32)), (.int (3 : Int32)), (.int (0 : Int32)), (.int (0 : Int32)), (.int (0 : Int32)), (.int (0 : Int32)), (.int (0 : Int32)), (.int (0 : Int32)), (.int (0 : Int32)), (.int (0 : Int32)), (.int (0 : Int32)), (.int (0 : Int32)), (.int (0 : Int32)), (.int (0 : Int32))] (.int (0 : Int32)) := V19
  obtain ⟨T21, X21, e21, st21⟩ := getF X19 hx hZ hown (host := "") (Or.inl (hw _ (List.mem_of_getElem? (i := 39) rfl))) Via.refl e19 F_withOne_x0_20 (g := (mkF m 164 #[.val (.ref x0), .val (.int (2 : Int32)), .val (.int x2), .val (.int (-1 : Int32)), .unset] [(.ref x0)])) rfl rfl (hb hby d6_164)
  obtain ⟨_, _, ⟨T22, L22, k22, n22⟩, -, X22, ⟨Lc22, hQ22, l22, y22, z22⟩, st22⟩ := Jvm.LawKit.callS X21 hx (y := (⟨"com/example/rootline/rootline/reach/HolderSets", "pair", "(II)J"⟩ : MethodName)) hown (mvT hZ (hw _ (List.mem_of_getElem? (i := 54) rfl))) (mvT hZ (hw _ (List.mem_of_getElem? (i := 55) rfl))) (mvT hZ (hw _ (List.mem_of_getElem? (i := 4) rfl))) (mvT hZ (hw _ (List.mem_of_getElem? (i := 56) rfl))) (by decide) (backOf (W := 1) (rm7 l Z a0 hw [] (2 : Int32) x2 h19 n0 siz_20) hZ (hw _ (List.mem_of_getElem? (i := 56) rfl)) (hw _ (List.mem_of_getElem? (i := 4) rfl)) (by decide) (by decide)) (g := (mkF m 169 #[.val (.ref x0), .val (.int (2 : Int32)), .val (.int x2), .val (.int (-1 : Int32)), .unset] [(.int x2), (.int (2 : Int32)), (.ref t)])) rfl (by rw [hml]; rfl) (argsL := [(.int (2 : Int32)), (.int x2)]) (rest := [(.ref t)]) (lenOf pd__II_J rfl) rfl (by show 2 * 0 + _ ≤ _; exact Nat.le_of_eq rfl) (hb hby d6_169) (fun _ _ => ⟨rfl, e21, (by decide : 0 + 0 ≤ _), (by decide : 0 + 0 ≤ _)⟩)
  dsimp only [Pt.U, Pt.locs, Pt.cells, Pt.slots] at X22 l22 y22 z22 st22 hQ22
  subst l22 y22 z22
  obtain ⟨rfl, N22q, e22⟩ := hQ22
  have N22 := Fr.app N19 N22q
  obtain ⟨T23, X23, e23, st23⟩ := getF X22 hx hZ hown (host := "") (Or.inl (hw _ (List.mem_of_getElem? (i := 18) rfl))) Via.refl e22 F_count_x0_20 (g := (mkF m 173 #[.val (.ref x0), .val (.int (2 : Int32)), .val (.int x2), .val (.int (-1 : Int32)), .unset] [(.ref x0), (.long (own_pair (2 : Int32) x2)), (.ref t)])) rfl rfl (hb hby d6_173)
  obtain ⟨cq24, kq24, q24a, q24b, q24c⟩ := isOf hZ e23 E_t_20
  obtain ⟨_, _, ⟨T24, L24, k24, n24⟩, -, X24, ⟨Lc24, hQ24, l24, y24, z24⟩, st24⟩ := X23.virtualBack hx (y := (⟨"com/example/rootline/rootline/heap/LongIntTable", "put", "(JI)V"⟩ : MethodName)) (z := (⟨"com/example/rootline/rootline/heap/LongIntTable", "put", "(JI)V"⟩ : MethodName)) hown (mvT hZ (hw _ (List.mem_of_getElem? (i := 69) rfl))) (mvT hZ (hw _ (List.mem_of_getElem? (i := 70) rfl))) (notFace_of_selects (args := #[]) (mvT hZ (hw _ (List.mem_of_getElem? (i := 72) rfl)))) (mvT hZ (hw _ (List.mem_of_getElem? (i := 72) rfl))) (mvT hZ (hw _ (List.mem_of_getElem? (i := 71) rfl))) (by decide) (backOf (W := 0) (rm11 l Z a0 hw [] t (own_pair (2 : Int32) x2) (3 : Int32) ka va (2 : Int32) Kf Vf h19 n0 siz_20 ⟨⟨o5, o6⟩, E_t_20, F_keys_t_20, F_values_t_20, F_size_t_20, V_ka_20, V_va_20⟩ hE hA g_t (by decide) (by decide)) hZ (hw _ (List.mem_of_getElem? (i := 73) rfl)) (hw _ (List.mem_of_getElem? (i := 22) rfl)) (by decide) (by decide)) q24a q24c (g := (mkF m 176 #[.val (.ref x0), .val (.int (2 : Int32)), .val (.int x2), .val (.int (-1 : Int32)), .unset] [(.int (3 : Int32)), (.long (own_pair (2 : Int32) x2)), (.ref t)])) rfl (by rw [hml]; rfl) (Steps.refl _) (argsL := [(.long (own_pair (2 : Int32) x2)), (.int (3 : Int32))]) (rest := []) (lenOf pd__JI_V rfl) rfl (by show 2 * 0 + _ ≤ _; exact Nat.le_of_eq rfl) (hb hby d6_176) (fun _ _ => ⟨rfl, e23, (by decide : 0 + 0 ≤ _), (by decide : 0 + 0 ≤ _)⟩)
  dsimp only [Pt.U, Pt.locs, Pt.cells, Pt.slots] at X24 l24 y24 z24 st24 hQ24
  subst l24 y24 z24
  obtain ⟨rfl, N24q, K24, pz, hpz, hVz, ⟨⟨-, -⟩, E_t24, F_keys_t24, F_values_t24, F_size_t24, V_ka24, V_va24⟩⟩ := hQ24
  have keep_25 := keep_20.trans K24 (allS (Or.inl (List.mem_of_getElem? (i := 4) rfl)) (allS (Or.inl (List.mem_of_getElem? (i := 5) rfl)) (allS (Or.inl (List.mem_of_getElem? (i := 6) rfl)) (all0))))
  have E_x0_25 := E_x0_20.keep K24
  have F_rest_x0_25 := F_rest_x0_20.keep K24 (ninS (Nat.ne_of_lt (Nat.lt_trans (Nat.lt_trans (Nat.lt_trans o1 o2) o3) o4)) (ninS (Nat.ne_of_lt (Nat.lt_trans (Nat.lt_trans (Nat.lt_trans (Nat.lt_trans o1 o2) o3) o4) o5)) (ninS (Nat.ne_of_lt (Nat.lt_trans (Nat.lt_trans (Nat.lt_trans (Nat.lt_trans (Nat.lt_trans o1 o2) o3) o4) o5) o6)) nin0)))
  have F_highest_x0_25 := F_highest_x0_20.keep K24 (ninS (Nat.ne_of_lt (Nat.lt_trans (Nat.lt_trans (Nat.lt_trans o1 o2) o3) o4)) (ninS (Nat.ne_of_lt (Nat.lt_trans (Nat.lt_trans (Nat.lt_trans (Nat.lt_trans o1 o2) o3) o4) o5)) (ninS (Nat.ne_of_lt (Nat.lt_trans (Nat.lt_trans (Nat.lt_trans (Nat.lt_trans (Nat.lt_trans o1 o2) o3) o4) o5) o6)) nin0)))
  have F_sizes_x0_25 := F_sizes_x0_20.keep K24 (ninS (Nat.ne_of_lt (Nat.lt_trans (Nat.lt_trans (Nat.lt_trans o1 o2) o3) o4)) (ninS (Nat.ne_of_lt (Nat.lt_trans (Nat.lt_trans (Nat.lt_trans (Nat.lt_trans o1 o2) o3) o4) o5)) (ninS (Nat.ne_of_lt (Nat.lt_trans (Nat.lt_trans (Nat.lt_trans (Nat.lt_trans (Nat.lt_trans o1 o2) o3) o4) o5) o6)) nin0)))
  have F_count_x0_25 := F_count_x0_20.keep K24 (ninS (Nat.ne_of_lt (Nat.lt_trans (Nat.lt_trans (Nat.lt_trans o1 o2) o3) o4)) (ninS (Nat.ne_of_lt (Nat.lt_trans (Nat.lt_trans (Nat.lt_trans (Nat.lt_trans o1 o2) o3) o4) o5)) (ninS (Nat.ne_of_lt (Nat.lt_trans (Nat.lt_trans (Nat.lt_trans (Nat.lt_trans (Nat.lt_trans o1 o2) o3) o4) o5) o6)) nin0)))
  have F_withOne_x0_25 := F_withOne_x0_20.keep K24 (ninS (Nat.ne_of_lt (Nat.lt_trans (Nat.lt_trans (Nat.lt_trans o1 o2) o3) o4)) (ninS (Nat.ne_of_lt (Nat.lt_trans (Nat.lt_trans (Nat.lt_trans (Nat.lt_trans o1 o2) o3) o4) o5)) (ninS (Nat.ne_of_lt (Nat.lt_trans (Nat.lt_trans (Nat.lt_trans (Nat.lt_trans (Nat.lt_trans o1 o2) o3) o4) o5) o6)) nin0)))
  have V_ra_25 := V_ra_20.keep K24 (ninS (Nat.ne_of_lt (Nat.lt_trans (Nat.lt_trans o2 o3) o4)) (ninS (Nat.ne_of_lt (Nat.lt_trans (Nat.lt_trans (Nat.lt_trans o2 o3) o4) o5)) (ninS (Nat.ne_of_lt (Nat.lt_trans (Nat.lt_trans (Nat.lt_trans (Nat.lt_trans o2 o3) o4) o5) o6)) nin0)))
  have V_ha_25 := V_ha_20.keep K24 (ninS (Nat.ne_of_lt (Nat.lt_trans o3 o4)) (ninS (Nat.ne_of_lt (Nat.lt_trans (Nat.lt_trans o3 o4) o5)) (ninS (Nat.ne_of_lt (Nat.lt_trans (Nat.lt_trans (Nat.lt_trans o3 o4) o5) o6)) nin0)))
  have V_sa_25 := V_sa_19.keep K24 (ninS (Nat.ne_of_lt o4) (ninS (Nat.ne_of_lt (Nat.lt_trans o4 o5)) (ninS (Nat.ne_of_lt (Nat.lt_trans (Nat.lt_trans o4 o5) o6)) nin0)))
  have siz_25 := Nat.le_trans siz_20 K24.1
  have N24 := Fr.app N22 N24q
  obtain ⟨T26, X26, e26, st26⟩ := getF X24 hx hZ hown (host := "") (Or.inl (hw _ (List.mem_of_getElem? (i := 18) rfl))) Via.refl rfl F_count_x0_25 (g := (mkF m 181 #[.val (.ref x0), .val (.int (2 : Int32)), .val (.int x2), .val (.int (-1 : Int32)), .unset] [(.ref x0), (.ref x0)])) rfl rfl (hb hby d6_181)
  obtain ⟨T27, h27, X27, e27, W27, st27⟩ := putF X26 hx hZ hown (host := "") (Or.inl (hw _ (List.mem_of_getElem? (i := 18) rfl))) Via.refl e26 F_count_x0_25 E_x0_25 (Or.inl (hw _ (List.mem_of_getElem? (i := 19) rfl))) (hw _ (List.mem_of_getElem? (i := 3) rfl)) (ty := .int) (by decide) rfl rfl (g := (mkF m 187 #[.val (.ref x0), .val (.int (2 : Int32)), .val (.int x2), .val (.int (-1 : Int32)), .unset] [(.int (4 : Int32)), (.ref x0), (.int (3 : Int32))])) rfl rfl (hb hby d6_187)
  have N27 := Fr.snoc X27 N24 g_x0
  have keep_28 := keep_25.wr W27 (Or.inl (List.mem_of_getElem? (i := 0) rfl))
  have E_x0_28 := E_x0_25.wr W27
  have V_ra_28 := V_ra_25.other W27 (Ne.symm (Nat.ne_of_lt o1))
  have V_ha_28 := V_ha_25.other W27 (Ne.symm (Nat.ne_of_lt (Nat.lt_trans o1 o2)))
  have V_sa_28 := V_sa_25.other W27 (Ne.symm (Nat.ne_of_lt (Nat.lt_trans (Nat.lt_trans o1 o2) o3)))
  have E_t_28 := E_t24.wr W27
  have F_keys_t_28 := F_keys_t24.other W27 (Or.inl (Ne.symm (Nat.ne_of_lt (Nat.lt_trans (Nat.lt_trans (Nat.lt_trans o1 o2) o3) o4))))
  have F_values_t_28 := F_values_t24.other W27 (Or.inl (Ne.symm (Nat.ne_of_lt (Nat.lt_trans (Nat.lt_trans (Nat.lt_trans o1 o2) o3) o4))))
  have F_size_t_28 := F_size_t24.other W27 (Or.inl (Ne.symm (Nat.ne_of_lt (Nat.lt_trans (Nat.lt_trans (Nat.lt_trans o1 o2) o3) o4))))
  have V_ka_28 := V_ka24.other W27 (Ne.symm (Nat.ne_of_lt (Nat.lt_trans (Nat.lt_trans (Nat.lt_trans (Nat.lt_trans o1 o2) o3) o4) o5)))
  have V_va_28 := V_va24.other W27 (Ne.symm (Nat.ne_of_lt (Nat.lt_trans (Nat.lt_trans (Nat.lt_trans (Nat.lt_trans (Nat.lt_trans o1 o2) o3) o4) o5) o6)))
  have siz_28 := Nat.le_trans siz_25 (Keep.of_wr W27).1
  have F_rest_x0_27 : Fld Z h27 x0 sH "rest" "[I" (.ref ra) := F_rest_x0_25.other W27 (Or.inr (slot_ne (Or.inl (hw _ (List.mem_of_getElem? (i := 13) rfl))) (Or.inl (hw _ (List.mem_of_getElem? (i := 19) rfl))) (by decide) (t := (.array .int)) (t' := .int) (by decide) (by decide)))
  have F_highest_x0_27 : Fld Z h27 x0 sH "highest" "[I" (.ref ha) := F_highest_x0_25.other W27 (Or.inr (slot_ne (Or.inl (hw _ (List.mem_of_getElem? (i := 15) rfl))) (Or.inl (hw _ (List.mem_of_getElem? (i := 19) rfl))) (by decide) (t := (.array .int)) (t' := .int) (by decide) (by decide)))
  have F_sizes_x0_27 : Fld Z h27 x0 sH "sizes" "[I" (.ref sa) := F_sizes_x0_25.other W27 (Or.inr (slot_ne (Or.inl (hw _ (List.mem_of_getElem? (i := 17) rfl))) (Or.inl (hw _ (List.mem_of_getElem? (i := 19) rfl))) (by decide) (t := (.array .int)) (t' := .int) (by decide) (by decide)))
  have F_count_x0_27 : Fld Z h27 x0 sH "count" "I" (.int (4 : Int32)) := F_count_x0_25.same W27
  have F_withOne_x0_27 : Fld Z h27 x0 sH "withOne" "Lcom/example/rootline/rootline/heap/LongIntTable;" (.ref t) := F_withOne_x0_25.other W27 (Or.inr (slot_ne (Or.inr (hw _ (List.mem_of_getElem? (i := 40) rfl))) (Or.inl (hw _ (List.mem_of_getElem? (i := 19) rfl))) (by decide) (t := (.object "com/example/rootline/rootline/heap/LongIntTable")) (t' := .int) (by decide) (by decide)))
  obtain ⟨fs, hr, hrun, hended, hW, hsame⟩ := X27.leave (v := some (.int (3 : Int32))) (fun h => by rw [Bd.returns] at h; cases h)
  refine ⟨_, _, pre0 _ ?_, hrun, hended, _, _, rfl, ?_, ⟨_, rfl⟩, hW, hsame.mono (by decide) (by decide)⟩
  · show Steps p.tables e below (s₁.setTop (mkF m 0 #[.val (.ref x0), .val (.int (2 : Int32)), .val (.int x2), .unset, .unset] [])) _
    refine XS.iloadN X0.here hx rfl (hb hby d6_0) rfl ?_
    refine XS.aloadN X0.here hx rfl (hb hby d6_1) rfl rfl ?_
    refine st1 _ ?_
    show Steps p.tables e below (T1.setTop (mkF m 5 #[.val (.ref x0), .val (.int (2 : Int32)), .val (.int x2), .unset, .unset] [(.ref ha), (.int x2)])) _
    refine XS.iloadN X1.here hx rfl (hb hby d6_5) rfl ?_
    refine own_ldI X1 hx hZ e1 V_ha (j := (2 : Int32)) (w := H2) ⟨by decide, by decide⟩ rfl (g := (mkF m 6 #[.val (.ref x0), .val (.int (2 : Int32)), .val (.int x2), .unset, .unset] [(.int (2 : Int32)), (.ref ha), (.int x2)])) rfl rfl (hb hby d6_6) ?_
    refine XS.icmpYes X1.here hx rfl (pc0 := 7) (pc' := 12) rfl (hb hby d6_7) rfl (feq hne).2 (by decide) (by decide) ?_
    refine XS.iloadN X1.here hx rfl (hb hby d6_12) rfl ?_
    show Steps p.tables e below (T1.setTop (mkF m 13 #[.val (.ref x0), .val (.int (2 : Int32)), .val (.int x2), .unset, .unset] [(.int x2)])) _
    refine XS.aloadN X1.here hx rfl (hb hby d6_13) rfl rfl ?_
    refine st2 _ ?_
    show Steps p.tables e below (T2.setTop (mkF m 17 #[.val (.ref x0), .val (.int (2 : Int32)), .val (.int x2), .unset, .unset] [(.ref ha), (.int x2)])) _
    refine XS.iloadN X2.here hx rfl (hb hby d6_17) rfl ?_
    refine own_ldI X2 hx hZ e2 V_ha (j := (2 : Int32)) (w := H2) ⟨by decide, by decide⟩ rfl (g := (mkF m 18 #[.val (.ref x0), .val (.int (2 : Int32)), .val (.int x2), .unset, .unset] [(.int (2 : Int32)), (.ref ha), (.int x2)])) rfl rfl (hb hby d6_18) ?_
    show Steps p.tables e below (T2.setTop (mkF m 19 #[.val (.ref x0), .val (.int (2 : Int32)), .val (.int x2), .unset, .unset] [(.int H2), (.int x2)])) _
    refine XS.icmpYes X2.here hx rfl (pc0 := 19) (pc' := 42) rfl (hb hby d6_19) rfl (flt hge).2.1 (by decide) (by decide) ?_
    refine XS.aloadN X2.here hx rfl (hb hby d6_42) rfl rfl ?_
    refine st3 _ ?_
    show Steps p.tables e below (T3.setTop (mkF m 46 #[.val (.ref x0), .val (.int (2 : Int32)), .val (.int x2), .unset, .unset] [(.ref t)])) _
    refine XS.iloadN X3.here hx rfl (hb hby d6_46) rfl ?_
    show Steps p.tables e below (T3.setTop (mkF m 47 #[.val (.ref x0), .val (.int (2 : Int32)), .val (.int x2), .unset, .unset] [(.int (2 : Int32)), (.ref t)])) _
    refine XS.iloadN X3.here hx rfl (hb hby d6_47) rfl ?_
    refine st4 _ ?_
    show Steps p.tables e below (T4.setTop (mkF m 51 #[.val (.ref x0), .val (.int (2 : Int32)), .val (.int x2), .unset, .unset] [(.long (own_pair (2 : Int32) x2)), (.ref t)])) _
    refine st5.trans ?_
    show Steps p.tables e below (T5.setTop (mkF m 54 #[.val (.ref x0), .val (.int (2 : Int32)), .val (.int x2), .unset, .unset] [(.int (-1 : Int32))])) _
    refine XS.istoreN X5.here hx rfl (hb hby d6_54) rfl (l' := #[.val (.ref x0), .val (.int (2 : Int32)), .val (.int x2), .val (.int (-1 : Int32)), .unset]) rfl ?_
    show Steps p.tables e below (T5.setTop (mkF m 55 #[.val (.ref x0), .val (.int (2 : Int32)), .val (.int x2), .val (.int (-1 : Int32)), .unset] [])) _
    refine XS.iloadN X5.here hx rfl (hb hby d6_55) rfl ?_
    refine XS.ifYes X5.here hx rfl (pc0 := 56) (pc' := 61) rfl (hb hby d6_56) rfl ((if0 _ _).trans (tlt (by decide : (-1 : Int32) < (0 : Int32))).1) (by decide) (by decide) ?_
    refine XS.aloadN X5.here hx rfl (hb hby d6_61) rfl rfl ?_
    refine st6 _ ?_
    show Steps p.tables e below (T6.setTop (mkF m 65 #[.val (.ref x0), .val (.int (2 : Int32)), .val (.int x2), .val (.int (-1 : Int32)), .unset] [(.int (3 : Int32))])) _
    refine XS.aloadN X6.here hx rfl (hb hby d6_65) rfl rfl ?_
    refine st7 _ ?_
    show Steps p.tables e below (T7.setTop (mkF m 69 #[.val (.ref x0), .val (.int (2 : Int32)), .val (.int x2), .val (.int (-1 : Int32)), .unset] [(.ref ra), (.int (3 : Int32))])) _
    refine own_len X7 hx hZ e7 V_ra (g := (mkF m 69 #[.val (.ref x0), .val (.int (2 : Int32)), .val (.int x2), .val (.int (-1 : Int32)), .unset] [(.ref ra), (.int (3 : Int32))])) rfl rfl (hb hby d6_69) ?_
    refine XS.icmpYes X7.here hx rfl (pc0 := 70) (pc' := 126) rfl (hb hby d6_70) rfl (feq (by decide : ¬ ((3 : Int32) = (16 : Int32)))).2 (by decide) (by decide) ?_
    show Steps p.tables e below (T7.setTop (mkF m 126 #[.val (.ref x0), .val (.int (2 : Int32)), .val (.int x2), .val (.int (-1 : Int32)), .unset] [])) _
    refine XS.aloadN X7.here hx rfl (hb hby d6_126) rfl rfl ?_
    refine st8 _ ?_
    show Steps p.tables e below (T8.setTop (mkF m 130 #[.val (.ref x0), .val (.int (2 : Int32)), .val (.int x2), .val (.int (-1 : Int32)), .unset] [(.ref ra)])) _
    refine XS.aloadN X8.here hx rfl (hb hby d6_130) rfl rfl ?_
    refine st9 _ ?_
    show Steps p.tables e below (T9.setTop (mkF m 134 #[.val (.ref x0), .val (.int (2 : Int32)), .val (.int x2), .val (.int (-1 : Int32)), .unset] [(.int (3 : Int32)), (.ref ra)])) _
    refine XS.iloadN X9.here hx rfl (hb hby d6_134) rfl ?_
    refine st10 _ ?_
    show Steps p.tables e below (T10.setTop (mkF m 136 #[.val (.ref x0), .val (.int (2 : Int32)), .val (.int x2), .val (.int (-1 : Int32)), .unset] [])) _
    refine XS.aloadN X10.here hx rfl (hb hby d6_136) rfl rfl ?_
    refine st12 _ ?_
    show Steps p.tables e below (T12.setTop (mkF m 140 #[.val (.ref x0), .val (.int (2 : Int32)), .val (.int x2), .val (.int (-1 : Int32)), .unset] [(.ref ha)])) _
    refine XS.aloadN X12.here hx rfl (hb hby d6_140) rfl rfl ?_
    refine st13 _ ?_
    show Steps p.tables e below (T13.setTop (mkF m 144 #[.val (.ref x0), .val (.int (2 : Int32)), .val (.int x2), .val (.int (-1 : Int32)), .unset] [(.int (3 : Int32)), (.ref ha)])) _
    refine XS.iloadN X13.here hx rfl (hb hby d6_144) rfl ?_
    refine st14 _ ?_
    show Steps p.tables e below (T14.setTop (mkF m 146 #[.val (.ref x0), .val (.int (2 : Int32)), .val (.int x2), .val (.int (-1 : Int32)), .unset] [])) _
    refine XS.aloadN X14.here hx rfl (hb hby d6_146) rfl rfl ?_
    refine st16 _ ?_
    show Steps p.tables e below (T16.setTop (mkF m 150 #[.val (.ref x0), .val (.int (2 : Int32)), .val (.int x2), .val (.int (-1 : Int32)), .unset] [(.ref sa)])) _
    refine XS.aloadN X16.here hx rfl (hb hby d6_150) rfl rfl ?_
    refine st17 _ ?_
    show Steps p.tables e below (T17.setTop (mkF m 154 #[.val (.ref x0), .val (.int (2 : Int32)), .val (.int x2), .val (.int (-1 : Int32)), .unset] [(.int (3 : Int32)), (.ref sa)])) _
    refine XS.aloadN X17.here hx rfl (hb hby d6_154) rfl rfl ?_
    refine st18 _ ?_
    show Steps p.tables e below (T18.setTop (mkF m 158 #[.val (.ref x0), .val (.int (2 : Int32)), .val (.int x2), .val (.int (-1 : Int32)), .unset] [(.ref sa), (.int (3 : Int32)), (.ref sa)])) _
    refine XS.iloadN X18.here hx rfl (hb hby d6_158) rfl ?_
    refine own_ldI X18 hx hZ e18 V_sa_15 (j := (2 : Int32)) (w := (2 : Int32)) ⟨by decide, by decide⟩ rfl (g := (mkF m 159 #[.val (.ref x0), .val (.int (2 : Int32)), .val (.int x2), .val (.int (-1 : Int32)), .unset] [(.int (2 : Int32)), (.ref sa), (.int (3 : Int32)), (.ref sa)])) rfl rfl (hb hby d6_159) ?_
    show Steps p.tables e below (T18.setTop (mkF m 160 #[.val (.ref x0), .val (.int (2 : Int32)), .val (.int x2), .val (.int (-1 : Int32)), .unset] [(.int (2 : Int32)), (.int (3 : Int32)), (.ref sa)])) _
    refine XS.iconst X18.here hx rfl (hb hby d6_160) ?_
    refine XS.iadd X18.here hx rfl (hb hby d6_161) rfl ?_
    show Steps p.tables e below (T18.setTop (mkF m 162 #[.val (.ref x0), .val (.int (2 : Int32)), .val (.int x2), .val (.int (-1 : Int32)), .unset] [(.int ((2 : Int32) + (1 : Int32))), (.int (3 : Int32)), (.ref sa)])) _
    rw [show ((2 : Int32) + (1 : Int32)) = (3 : Int32) from by decide]
    show Steps p.tables e below (T18.setTop (mkF m 162 #[.val (.ref x0), .val (.int (2 : Int32)), .val (.int x2), .val (.int (-1 : Int32)), .unset] [(.int (3 : Int32)), (.int (3 : Int32)), (.ref sa)])) _
    refine st19 _ ?_
    show Steps p.tables e below (T19.setTop (mkF m 163 #[.val (.ref x0), .val (.int (2 : Int32)), .val (.int x2), .val (.int (-1 : Int32)), .unset] [])) _
    refine XS.aloadN X19.here hx rfl (hb hby d6_163) rfl rfl ?_
    show Steps p.tables e below (T19.setTop (mkF m 164 #[.val (.ref x0), .val (.int (2 : Int32)), .val (.int x2), .val (.int (-1 : Int32)), .unset] [(.ref x0)])) _
    refine st21 _ ?_
    show Steps p.tables e below (T21.setTop (mkF m 167 #[.val (.ref x0), .val (.int (2 : Int32)), .val (.int x2), .val (.int (-1 : Int32)), .unset] [(.ref t)])) _
    refine XS.iloadN X21.here hx rfl (hb hby d6_167) rfl ?_
    refine XS.iloadN X21.here hx rfl (hb hby d6_168) rfl ?_
    refine st22 _ ?_
    show Steps p.tables e below (T22.setTop (mkF m 172 #[.val (.ref x0), .val (.int (2 : Int32)), .val (.int x2), .val (.int (-1 : Int32)), .unset] [(.long (own_pair (2 : Int32) x2)), (.ref t)])) _
    refine XS.aloadN X22.here hx rfl (hb hby d6_172) rfl rfl ?_
    refine st23 _ ?_
    show Steps p.tables e below (T23.setTop (mkF m 176 #[.val (.ref x0), .val (.int (2 : Int32)), .val (.int x2), .val (.int (-1 : Int32)), .unset] [(.int (3 : Int32)), (.long (own_pair (2 : Int32) x2)), (.ref t)])) _
    refine st24.trans ?_
    show Steps p.tables e below (T24.setTop (mkF m 179 #[.val (.ref x0), .val (.int (2 : Int32)), .val (.int x2), .val (.int (-1 : Int32)), .unset] [])) _
    refine XS.aloadN X24.here hx rfl (hb hby d6_179) rfl rfl ?_
    show Steps p.tables e below (T24.setTop (mkF m 180 #[.val (.ref x0), .val (.int (2 : Int32)), .val (.int x2), .val (.int (-1 : Int32)), .unset] [(.ref x0)])) _
    refine XS.dup X24.here hx rfl (hb hby d6_180) rfl rfl ?_
    refine st26 _ ?_
    show Steps p.tables e below (T26.setTop (mkF m 184 #[.val (.ref x0), .val (.int (2 : Int32)), .val (.int x2), .val (.int (-1 : Int32)), .unset] [(.int (3 : Int32)), (.ref x0)])) _
    refine XS.dupX1 X26.here hx rfl (hb hby d6_184) rfl rfl rfl ?_
    refine XS.iconst X26.here hx rfl (hb hby d6_185) ?_
    show Steps p.tables e below (T26.setTop (mkF m 186 #[.val (.ref x0), .val (.int (2 : Int32)), .val (.int x2), .val (.int (-1 : Int32)), .unset] [(.int (1 : Int32)), (.int (3 : Int32)), (.ref x0), (.int (3 : Int32))])) _
    refine XS.iadd X26.here hx rfl (hb hby d6_186) rfl ?_
    show Steps p.tables e below (T26.setTop (mkF m 187 #[.val (.ref x0), .val (.int (2 : Int32)), .val (.int x2), .val (.int (-1 : Int32)), .unset] [(.int ((3 : Int32) + (1 : Int32))), (.ref x0), (.int (3 : Int32))])) _
    rw [show ((3 : Int32) + (1 : Int32)) = (4 : Int32) from by decide]
    show Steps p.tables e below (T26.setTop (mkF m 187 #[.val (.ref x0), .val (.int (2 : Int32)), .val (.int x2), .val (.int (-1 : Int32)), .unset] [(.int (4 : Int32)), (.ref x0), (.int (3 : Int32))])) _
    refine st27 _ ?_
    show Steps p.tables e below (T27.setTop (mkF m 190 #[.val (.ref x0), .val (.int (2 : Int32)), .val (.int x2), .val (.int (-1 : Int32)), .unset] [(.int (3 : Int32))])) _
    exact retI X27 hx Bd.returns (hb hby d6_190) hr
  · exact (by
      have eT : (T27.setFrames fs).heap = h27 := e27
      rw [eT]; exact ⟨rfl, N27, keep_28, pz, hpz, hVz, ⟨o1, o2, o3, o4⟩, E_x0_28, F_rest_x0_27, F_highest_x0_27, F_sizes_x0_27, F_count_x0_27, F_withOne_x0_27, V_ra_28, V_ha_28, V_sa_28, ⟨o5, o6⟩, E_t_28, F_keys_t_28, F_values_t_28, F_size_t_28, V_ka_28, V_va_28⟩)
set_option maxRecDepth 65536 in
set_option maxHeartbeats 40000000 in
theorem rme_1 (l : Launch) (Z : State) (a0 : Array Value) (hw : ∀ d ∈ tables_1, d.before a0 Z = true) (ws : List Jvm.Cond) (x0 : Addr) (x2 : Int32) (ra ha sa t ka va : Addr) (kr kh ks : ClassId) (Kf : Nat → Int64) (Vf : Nat → Int32) (H1 : Int32) (h0 : Heap) (n0 : Nat) (Z0 : n0 ≤ h0.size) (HS0 : HSS Z h0 x0 ra ha sa t ka va kr kh ks (2 : Int32) [(.int (-1 : Int32)), (.int (0 : Int32)), (.int (0 : Int32)), (.int (0 : Int32)), (.int (0 : Int32)), (.int (0 : Int32)), (.int (0 : Int32)), (.int (0 : Int32)), (.int (0 : Int32)), (.int (0 : Int32)), (.int (0 : Int32)), (.int (0 : Int32)), (.int (0 : Int32)), (.int (0 : Int32)), (.int (0 : Int32)), (.int (0 : Int32))] [(.int (-1 : Int32)), (.int H1), (.int (0 : Int32)), (.int (0 : Int32)), (.int (0 : Int32)), (.int (0 : Int32)), (.int (0 : Int32)), (.int (0 : Int32)), (.int (0 : Int32)), (.int (0 : Int32)), (.int (0 : Int32)), (.int (0 : Int32)), (.int (0 : Int32)), (.int (0 : Int32)), (.int (0 : Int32)), (.int (0 : Int32))] [(.int (0 : Int32)), (.int (1 : Int32)), (.int (0 : Int32)), (.int (0 : Int32)), (.int (0 : Int32)), (.int (0 : Int32)), (.int (0 : Int32)), (.int (0 : Int32)), (.int (0 : Int32)), (.int (0 : Int32)), (.int (0 : Int32)), (.int (0 : Int32)), (.int (0 : Int32)), (.int (0 : Int32)), (.int (0 : Int32)), (.int (0 : Int32))] (1 : Int32) Kf Vf) (heq : x2 = H1) :
    MetFree l (⟨"com/example/rootline/rootline/reach/HolderSets", "with", "(II)I"⟩ : MethodName) (head1 (Jvm.Cond.code (⟨"com/example/rootline/rootline/reach/HolderSets", "with", "(II)I"⟩ : MethodName) prog_179_method_3_code 5 (some .int) :: ws) ({ frames := 0, cells := 0, slots := 0, locals := 0 } : Room)) (fun a U => a = #[(.ref x0), (.int (1 : Int32)), (.int x2)] ∧ Z.Warmed39 U.vm ∧ U.heap = h0) (fun _ _ _ _ _ => True) (fun _ U o U' => ∃ v L, o = .returned v ∧ (QP (some (.int (1 : Int32))) h0 n0 v U'.heap L) ∧ FrameEnd U o U' L ({ frames := 0, cells := 0, slots := 0, locals := 0 } : Room).cells ({ frames := 0, cells := 0, slots := 0, locals := 0 } : Room).slots) := by
  refine MetFree.of_bodySF (plainFor_of_name pn_6) hisR ?_
  intro p e s m args below meth c s₁ Bd hml0 hP hK
  obtain ⟨rfl, hZ, hh⟩ := hP
  have hx := Bd.exec
  have hby := Bd.bytes
  have hml : c.maxLocals = 5 := hml0
  have hown : s.vm.findClass "com/example/rootline/rootline/reach/HolderSets" = some m.cls := findClass_of_methodNamed Bd.named
  have hnm := (name_of_methodNamed Bd.named Bd.method).1
  have X0 : Stand p l e ({ frames := 0, cells := 0, slots := 0, locals := 0 } : Room) s m #[(.ref x0), (.int (1 : Int32)), (.int x2)] below meth c s₁ [] 0 0 := Stand.of_body Bd
  have e0 : s₁.heap = h0 := by rw [← hh, Bd.state]; rfl
  have N0 := Fr.nil n0
  have pre0 : ∀ t, Steps p.tables e below (s₁.setTop (mkF m 0 #[.val (.ref x0), .val (.int (1 : Int32)), .val (.int x2), .unset, .unset] [])) t → Steps p.tables e below (s₁.setTop (entryFrame m #[(.ref x0), (.int (1 : Int32)), (.int x2)] 5)) t := fun t k => castTop (ef_6 m x0 (1 : Int32) x2) k
  obtain ⟨⟨o1, o2, o3, o4⟩, E_x0, F_rest_x0, F_highest_x0, F_sizes_x0, F_count_x0, F_withOne_x0, V_ra, V_ha, V_sa, ⟨o5, o6⟩, E_t, F_keys_t, F_values_t, F_size_t, V_ka, V_va⟩ := HS0
  obtain ⟨T1, X1, e1, st1⟩ := getF X0 hx hZ hown (host := "") (Or.inl (hw _ (List.mem_of_getElem? (i := 14) rfl))) Via.refl e0 F_highest_x0 (g := (mkF m 2 #[.val (.ref x0), .val (.int (1 : Int32)), .val (.int x2), .unset, .unset] [(.ref x0), (.int x2)])) rfl rfl (hb hby d6_2)
  obtain ⟨fs, hr, hrun, hended, hW, hsame⟩ := X1.leave (v := some (.int (1 : Int32))) (fun h => by rw [Bd.returns] at h; cases h)
  refine ⟨_, _, pre0 _ ?_, hrun, hended, _, _, rfl, ?_, ⟨_, rfl⟩, hW, hsame.mono (by decide) (by decide)⟩
  · show Steps p.tables e below (s₁.setTop (mkF m 0 #[.val (.ref x0), .val (.int (1 : Int32)), .val (.int x2), .unset, .unset] [])) _
    refine XS.iloadN X0.here hx rfl (hb hby d6_0) rfl ?_
    refine XS.aloadN X0.here hx rfl (hb hby d6_1) rfl rfl ?_
    refine st1 _ ?_
    show Steps p.tables e below (T1.setTop (mkF m 5 #[.val (.ref x0), .val (.int (1 : Int32)), .val (.int x2), .unset, .unset] [(.ref ha), (.int x2)])) _
    refine XS.iloadN X1.here hx rfl (hb hby d6_5) rfl ?_
    refine own_ldI X1 hx hZ e1 V_ha (j := (1 : Int32)) (w := H1) ⟨by decide, by decide⟩ rfl (g := (mkF m 6 #[.val (.ref x0), .val (.int (1 : Int32)), .val (.int x2), .unset, .unset] [(.int (1 : Int32)), (.ref ha), (.int x2)])) rfl rfl (hb hby d6_6) ?_
    refine XS.icmpNo X1.here hx rfl (hb hby d6_7) rfl (teq heq).2 ?_
    refine XS.iloadN X1.here hx rfl (hb hby d6_10) rfl ?_
    show Steps p.tables e below (T1.setTop (mkF m 11 #[.val (.ref x0), .val (.int (1 : Int32)), .val (.int x2), .unset, .unset] [(.int (1 : Int32))])) _
    exact retI X1 hx Bd.returns (hb hby d6_11) hr
  · exact ⟨rfl, N0, e1⟩
set_option maxRecDepth 65536 in
set_option maxHeartbeats 40000000 in
theorem rme_2 (l : Launch) (Z : State) (a0 : Array Value) (hw : ∀ d ∈ tables_1, d.before a0 Z = true) (ws : List Jvm.Cond) (x0 : Addr) (x2 : Int32) (ra ha sa t ka va : Addr) (kr kh ks : ClassId) (Kf : Nat → Int64) (Vf : Nat → Int32) (H1 : Int32) (H2 : Int32) (h0 : Heap) (n0 : Nat) (Z0 : n0 ≤ h0.size) (HS0 : HSS Z h0 x0 ra ha sa t ka va kr kh ks (3 : Int32) [(.int (-1 : Int32)), (.int (0 : Int32)), (.int (1 : Int32)), (.int (0 : Int32)), (.int (0 : Int32)), (.int (0 : Int32)), (.int (0 : Int32)), (.int (0 : Int32)), (.int (0 : Int32)), (.int (0 : Int32)), (.int (0 : Int32)), (.int (0 : Int32)), (.int (0 : Int32)), (.int (0 : Int32)), (.int (0 : Int32)), (.int (0 : Int32))] [(.int (-1 : Int32)), (.int H1), (.int H2), (.int (0 : Int32)), (.int (0 : Int32)), (.int (0 : Int32)), (.int (0 : Int32)), (.int (0 : Int32)), (.int (0 : Int32)), (.int (0 : Int32)), (.int (0 : Int32)), (.int (0 : Int32)), (.int (0 : Int32)), (.int (0 : Int32)), (.int (0 : Int32)), (.int (0 : Int32))] [(.int (0 : Int32)), (.int (1 : Int32)), (.int (2 : Int32)), (.int (0 : Int32)), (.int (0 : Int32)), (.int (0 : Int32)), (.int (0 : Int32)), (.int (0 : Int32)), (.int (0 : Int32)), (.int (0 : Int32)), (.int (0 : Int32)), (.int (0 : Int32)), (.int (0 : Int32)), (.int (0 : Int32)), (.int (0 : Int32)), (.int (0 : Int32))] (2 : Int32) Kf Vf) (heq : x2 = H2) :
    MetFree l (⟨"com/example/rootline/rootline/reach/HolderSets", "with", "(II)I"⟩ : MethodName) (head1 (Jvm.Cond.code (⟨"com/example/rootline/rootline/reach/HolderSets", "with", "(II)I"⟩ : MethodName) prog_179_method_3_code 5 (some .int) :: ws) ({ frames := 0, cells := 0, slots := 0, locals := 0 } : Room)) (fun a U => a = #[(.ref x0), (.int (2 : Int32)), (.int x2)] ∧ Z.Warmed39 U.vm ∧ U.heap = h0) (fun _ _ _ _ _ => True) (fun _ U o U' => ∃ v L, o = .returned v ∧ (QP (some (.int (2 : Int32))) h0 n0 v U'.heap L) ∧ FrameEnd U o U' L ({ frames := 0, cells := 0, slots := 0, locals := 0 } : Room).cells ({ frames := 0, cells := 0, slots := 0, locals := 0 } : Room).slots) := by
  refine MetFree.of_bodySF (plainFor_of_name pn_6) hisR ?_
  intro p e s m args below meth c s₁ Bd hml0 hP hK
  obtain ⟨rfl, hZ, hh⟩ := hP
  have hx := Bd.exec
  have hby := Bd.bytes
  have hml : c.maxLocals = 5 := hml0
  have hown : s.vm.findClass "com/example/rootline/rootline/reach/HolderSets" = some m.cls := findClass_of_methodNamed Bd.named
  have hnm := (name_of_methodNamed Bd.named Bd.method).1
  have X0 : Stand p l e ({ frames := 0, cells := 0, slots := 0, locals := 0 } : Room) s m #[(.ref x0), (.int (2 : Int32)), (.int x2)] below meth c s₁ [] 0 0 := Stand.of_body Bd
  have e0 : s₁.heap = h0 := by rw [← hh, Bd.state]; rfl
  have N0 := Fr.nil n0
  have pre0 : ∀ t, Steps p.tables e below (s₁.setTop (mkF m 0 #[.val (.ref x0), .val (.int (2 : Int32)), .val (.int x2), .unset, .unset] [])) t → Steps p.tables e below (s₁.setTop (entryFrame m #[(.ref x0), (.int (2 : Int32)), (.int x2)] 5)) t := fun t k => castTop (ef_6 m x0 (2 : Int32) x2) k
  obtain ⟨⟨o1, o2, o3, o4⟩, E_x0, F_rest_x0, F_highest_x0, F_sizes_x0, F_count_x0, F_withOne_x0, V_ra, V_ha, V_sa, ⟨o5, o6⟩, E_t, F_keys_t, F_values_t, F_size_t, V_ka, V_va⟩ := HS0
  obtain ⟨T1, X1, e1, st1⟩ := getF X0 hx hZ hown (host := "") (Or.inl (hw _ (List.mem_of_getElem? (i := 14) rfl))) Via.refl e0 F_highest_x0 (g := (mkF m 2 #[.val (.ref x0), .val (.int (2 : Int32)), .val (.int x2), .unset, .unset] [(.ref x0), (.int x2)])) rfl rfl (hb hby d6_2)
  obtain ⟨fs, hr, hrun, hended, hW, hsame⟩ := X1.leave (v := some (.int (2 : Int32))) (fun h => by rw [Bd.returns] at h; cases h)
  refine ⟨_, _, pre0 _ ?_, hrun, hended, _, _, rfl, ?_, ⟨_, rfl⟩, hW, hsame.mono (by decide) (by decide)⟩
  · show Steps p.tables e below (s₁.setTop (mkF m 0 #[.val (.ref x0), .val (.int (2 : Int32)), .val (.int x2), .unset, .unset] [])) _
    refine XS.iloadN X0.here hx rfl (hb hby d6_0) rfl ?_
    refine XS.aloadN X0.here hx rfl (hb hby d6_1) rfl rfl ?_
    refine st1 _ ?_
    show Steps p.tables e below (T1.setTop (mkF m 5 #[.val (.ref x0), .val (.int (2 : Int32)), .val (.int x2), .unset, .unset] [(.ref ha), (.int x2)])) _
    refine XS.iloadN X1.here hx rfl (hb hby d6_5) rfl ?_
    refine own_ldI X1 hx hZ e1 V_ha (j := (2 : Int32)) (w := H2) ⟨by decide, by decide⟩ rfl (g := (mkF m 6 #[.val (.ref x0), .val (.int (2 : Int32)), .val (.int x2), .unset, .unset] [(.int (2 : Int32)), (.ref ha), (.int x2)])) rfl rfl (hb hby d6_6) ?_
    refine XS.icmpNo X1.here hx rfl (hb hby d6_7) rfl (teq heq).2 ?_
    refine XS.iloadN X1.here hx rfl (hb hby d6_10) rfl ?_
    show Steps p.tables e below (T1.setTop (mkF m 11 #[.val (.ref x0), .val (.int (2 : Int32)), .val (.int x2), .unset, .unset] [(.int (2 : Int32))])) _
    exact retI X1 hx Bd.returns (hb hby d6_11) hr
  · exact ⟨rfl, N0, e1⟩
set_option maxRecDepth 65536 in
set_option maxHeartbeats 40000000 in
theorem rmh_0_0 (l : Launch) (Z : State) (a0 : Array Value) (hw : ∀ d ∈ tables_1, d.before a0 Z = true) (ws : List Jvm.Cond) (x0 : Addr) (ra ha sa t ka va : Addr) (kr kh ks : ClassId) (Kf : Nat → Int64) (Vf : Nat → Int32) (h0 : Heap) (n0 : Nat) (Z0 : n0 ≤ h0.size) (HS0 : HSS Z h0 x0 ra ha sa t ka va kr kh ks (1 : Int32) [(.int (-1 : Int32)), (.int (0 : Int32)), (.int (0 : Int32)), (.int (0 : Int32)), (.int (0 : Int32)), (.int (0 : Int32)), (.int (0 : Int32)), (.int (0 : Int32)), (.int (0 : Int32)), (.int (0 : Int32)), (.int (0 : Int32)), (.int (0 : Int32)), (.int (0 : Int32)), (.int (0 : Int32)), (.int (0 : Int32)), (.int (0 : Int32))] [(.int (-1 : Int32)), (.int (0 : Int32)), (.int (0 : Int32)), (.int (0 : Int32)), (.int (0 : Int32)), (.int (0 : Int32)), (.int (0 : Int32)), (.int (0 : Int32)), (.int (0 : Int32)), (.int (0 : Int32)), (.int (0 : Int32)), (.int (0 : Int32)), (.int (0 : Int32)), (.int (0 : Int32)), (.int (0 : Int32)), (.int (0 : Int32))] [(.int (0 : Int32)), (.int (0 : Int32)), (.int (0 : Int32)), (.int (0 : Int32)), (.int (0 : Int32)), (.int (0 : Int32)), (.int (0 : Int32)), (.int (0 : Int32)), (.int (0 : Int32)), (.int (0 : Int32)), (.int (0 : Int32)), (.int (0 : Int32)), (.int (0 : Int32)), (.int (0 : Int32)), (.int (0 : Int32)), (.int (0 : Int32))] (0 : Int32) Kf Vf) :
    MetFree l (⟨"com/example/rootline/rootline/reach/HolderSets", "holders", "(I)[I"⟩ : MethodName) (head1 (Jvm.Cond.code (⟨"com/example/rootline/rootline/reach/HolderSets", "holders", "(I)[I"⟩ : MethodName) prog_179_method_5_code 5 (some (.array .int)) :: ws) ({ frames := 0, cells := 1, slots := 0, locals := 0 } : Room)) (fun a U => a = #[(.ref x0), (.int (0 : Int32))] ∧ Z.Warmed39 U.vm ∧ U.heap = h0) (fun _ _ _ _ _ => True) (fun _ U o U' => ∃ v L, o = .returned v ∧ (QR Z (0 : Int32) [] h0 n0 v U'.heap L) ∧ FrameEnd U o U' L ({ frames := 0, cells := 1, slots := 0, locals := 0 } : Room).cells ({ frames := 0, cells := 1, slots := 0, locals := 0 } : Room).slots) := by
  refine MetFree.of_bodySF (plainFor_of_name pn_12) hisR ?_
  intro p e s m args below meth c s₁ Bd hml0 hP hK
  obtain ⟨rfl, hZ, hh⟩ := hP
  have hx := Bd.exec
  have hby := Bd.bytes
  have hml : c.maxLocals = 5 := hml0
  have hown : s.vm.findClass "com/example/rootline/rootline/reach/HolderSets" = some m.cls := findClass_of_methodNamed Bd.named
  have hnm := (name_of_methodNamed Bd.named Bd.method).1
  have X0 : Stand p l e ({ frames := 0, cells := 1, slots := 0, locals := 0 } : Room) s m #[(.ref x0), (.int (0 : Int32))] below meth c s₁ [] 0 0 := Stand.of_body Bd
  have e0 : s₁.heap = h0 := by rw [← hh, Bd.state]; rfl
  have N0 := Fr.nil n0
  have pre0 : ∀ t, Steps p.tables e below (s₁.setTop (mkF m 0 #[.val (.ref x0), .val (.int (0 : Int32)), .unset, .unset, .unset] [])) t → Steps p.tables e below (s₁.setTop (entryFrame m #[(.ref x0), (.int (0 : Int32))] 5)) t := fun t k => castTop (ef_12 m x0 (0 : Int32)) k
  obtain ⟨⟨o1, o2, o3, o4⟩, E_x0, F_rest_x0, F_highest_x0, F_sizes_x0, F_count_x0, F_withOne_x0, V_ra, V_ha, V_sa, ⟨o5, o6⟩, E_t, F_keys_t, F_values_t, F_size_t, V_ka, V_va⟩ := HS0
  have K0 : Keep h0 h0 [] := Keep.refl h0 []
  obtain ⟨T1, X1, e1, st1⟩ := getF X0 hx hZ hown (host := "") (Or.inl (hw _ (List.mem_of_getElem? (i := 16) rfl))) Via.refl e0 F_sizes_x0 (g := (mkF m 1 #[.val (.ref x0), .val (.int (0 : Int32)), .unset, .unset, .unset] [(.ref x0)])) rfl rfl (hb hby d12_1)
  obtain ⟨T2, h2, k2, X2, e2, E2, A2, st2⟩ := newP X1 hx hZ (hw _ (List.mem_of_getElem? (i := 11) rfl)) e1 (g := (mkF m 6 #[.val (.ref x0), .val (.int (0 : Int32)), .unset, .unset, .unset] [(.int (0 : Int32))])) rfl (hb hby d12_6) rfl (by decide) (cap := 0) (by decide) (by decide) (by decide) (by decide)
  obtain ⟨r, g2⟩ : ∃ z, z = h0.size := ⟨_, rfl⟩
  rw [← g2] at A2 st2
  have V_r_2 : Arv Z h2 r k2 .int (0 : Int32) [] (.int (0 : Int32)) := Arv.new A2 (by decide)
  have lt_ha_r : ha < r := Nat.lt_of_lt_of_le V_ha.lt (Nat.le_of_eq g2.symm)
  have lt_ka_r : ka < r := Nat.lt_of_lt_of_le V_ka.lt (Nat.le_of_eq g2.symm)
  have lt_ra_r : ra < r := Nat.lt_of_lt_of_le V_ra.lt (Nat.le_of_eq g2.symm)
  have lt_sa_r : sa < r := Nat.lt_of_lt_of_le V_sa.lt (Nat.le_of_eq g2.symm)
  have lt_t_r : t < r := Nat.lt_of_lt_of_le E_t.lt (Nat.le_of_eq g2.symm)
  have lt_va_r : va < r := Nat.lt_of_lt_of_le V_va.lt (Nat.le_of_eq g2.symm)
  have lt_x0_r : x0 < r := Nat.lt_of_lt_of_le E_x0.lt (Nat.le_of_eq g2.symm)
  have g_r : n0 ≤ r := Nat.le_trans Z0 (Nat.le_of_eq g2.symm)
  have sz_r : h0.size ≤ r := Nat.le_trans K0.1 (Nat.le_of_eq g2.symm)
  have E_x0_3 := E_x0.ext E2
  have F_rest_x0_3 := F_rest_x0.ext E2
  have F_highest_x0_3 := F_highest_x0.ext E2
  have F_sizes_x0_3 := F_sizes_x0.ext E2
  have F_count_x0_3 := F_count_x0.ext E2
  have F_withOne_x0_3 := F_withOne_x0.ext E2
  have V_ra_3 := V_ra.ext E2
  have V_ha_3 := V_ha.ext E2
  have V_sa_3 := V_sa.ext E2
  have E_t_3 := E_t.ext E2
  have F_keys_t_3 := F_keys_t.ext E2
  have F_values_t_3 := F_values_t.ext E2
  have F_size_t_3 := F_size_t.ext E2
  have V_ka_3 := V_ka.ext E2
  have V_va_3 := V_va.ext E2
  have keep_3 := K0.ext E2
  have siz_3 := Nat.le_trans Z0 E2.1
  obtain ⟨fs, hr, hrun, hended, hW, hsame⟩ := X2.leave (v := some (.ref r)) (fun h => by rw [Bd.returns] at h; cases h)
  refine ⟨_, _, pre0 _ ?_, hrun, hended, _, _, rfl, ?_, ⟨_, rfl⟩, hW, hsame.mono (by decide) (by decide)⟩
  · show Steps p.tables e below (s₁.setTop (mkF m 0 #[.val (.ref x0), .val (.int (0 : Int32)), .unset, .unset, .unset] [])) _
    refine XS.aloadN X0.here hx rfl (hb hby d12_0) rfl rfl ?_
    refine st1 _ ?_
    show Steps p.tables e below (T1.setTop (mkF m 4 #[.val (.ref x0), .val (.int (0 : Int32)), .unset, .unset, .unset] [(.ref sa)])) _
    refine XS.iloadN X1.here hx rfl (hb hby d12_4) rfl ?_
    show Steps p.tables e below (T1.setTop (mkF m 5 #[.val (.ref x0), .val (.int (0 : Int32)), .unset, .unset, .unset] [(.int (0 : Int32)), (.ref sa)])) _
    refine own_ldI X1 hx hZ e1 V_sa (j := (0 : Int32)) (w := (0 : Int32)) ⟨by decide, by decide⟩ rfl (g := (mkF m 5 #[.val (.ref x0), .val (.int (0 : Int32)), .unset, .unset, .unset] [(.int (0 : Int32)), (.ref sa)])) rfl rfl (hb hby d12_5) ?_
    refine st2 _ ?_
    show Steps p.tables e below (T2.setTop (mkF m 8 #[.val (.ref x0), .val (.int (0 : Int32)), .unset, .unset, .unset] [(.ref r)])) _
    refine XS.astoreN X2.here hx rfl (hb hby d12_8) rfl rfl (l' := #[.val (.ref x0), .val (.int (0 : Int32)), .val (.ref r), .unset, .unset]) rfl ?_
    refine XS.aloadN X2.here hx rfl (hb hby d12_9) rfl rfl ?_
    show Steps p.tables e below (T2.setTop (mkF m 10 #[.val (.ref x0), .val (.int (0 : Int32)), .val (.ref r), .unset, .unset] [(.ref r)])) _
    refine own_len X2 hx hZ e2 V_r_2 (g := (mkF m 10 #[.val (.ref x0), .val (.int (0 : Int32)), .val (.ref r), .unset, .unset] [(.ref r)])) rfl rfl (hb hby d12_10) ?_
    refine XS.istoreN X2.here hx rfl (hb hby d12_11) rfl (l' := #[.val (.ref x0), .val (.int (0 : Int32)), .val (.ref r), .val (.int (0 : Int32)), .unset]) rfl ?_
    refine XS.iloadN X2.here hx rfl (hb hby d12_12) rfl ?_
    refine XS.istore X2.here hx rfl (hb hby d12_13) rfl (l' := #[.val (.ref x0), .val (.int (0 : Int32)), .val (.ref r), .val (.int (0 : Int32)), .val (.int (0 : Int32))]) rfl ?_
    show Steps p.tables e below (T2.setTop (mkF m 15 #[.val (.ref x0), .val (.int (0 : Int32)), .val (.ref r), .val (.int (0 : Int32)), .val (.int (0 : Int32))] [])) _
    refine XS.iload X2.here hx rfl (hb hby d12_15) rfl ?_
    refine XS.ifYes X2.here hx rfl (pc0 := 17) (pc' := 45) rfl (hb hby d12_17) rfl ((if0 _ _).trans (teq (by decide : (0 : Int32) = (0 : Int32))).1) (by decide) (by decide) ?_
    refine XS.aloadN X2.here hx rfl (hb hby d12_45) rfl rfl ?_
    exact retOut X2 hx (t := (.array .int)) (i := .areturn) Bd.returns rfl (Or.inr (Or.inr (Or.inr (Or.inr ⟨rfl, rfl, rfl⟩)))) (hb hby d12_46) hr
  · exact (by
      have eT : (T2.setFrames fs).heap = h2 := e2
      rw [eT]; exact ⟨r, _, rfl, N0, keep_3, sz_r, V_r_2⟩)
set_option maxRecDepth 65536 in
set_option maxHeartbeats 40000000 in
theorem rmh_1_0 (l : Launch) (Z : State) (a0 : Array Value) (hw : ∀ d ∈ tables_1, d.before a0 Z = true) (ws : List Jvm.Cond) (x0 : Addr) (ra ha sa t ka va : Addr) (kr kh ks : ClassId) (Kf : Nat → Int64) (Vf : Nat → Int32) (H1 : Int32) (h0 : Heap) (n0 : Nat) (Z0 : n0 ≤ h0.size) (HS0 : HSS Z h0 x0 ra ha sa t ka va kr kh ks (2 : Int32) [(.int (-1 : Int32)), (.int (0 : Int32)), (.int (0 : Int32)), (.int (0 : Int32)), (.int (0 : Int32)), (.int (0 : Int32)), (.int (0 : Int32)), (.int (0 : Int32)), (.int (0 : Int32)), (.int (0 : Int32)), (.int (0 : Int32)), (.int (0 : Int32)), (.int (0 : Int32)), (.int (0 : Int32)), (.int (0 : Int32)), (.int (0 : Int32))] [(.int (-1 : Int32)), (.int H1), (.int (0 : Int32)), (.int (0 : Int32)), (.int (0 : Int32)), (.int (0 : Int32)), (.int (0 : Int32)), (.int (0 : Int32)), (.int (0 : Int32)), (.int (0 : Int32)), (.int (0 : Int32)), (.int (0 : Int32)), (.int (0 : Int32)), (.int (0 : Int32)), (.int (0 : Int32)), (.int (0 : Int32))] [(.int (0 : Int32)), (.int (1 : Int32)), (.int (0 : Int32)), (.int (0 : Int32)), (.int (0 : Int32)), (.int (0 : Int32)), (.int (0 : Int32)), (.int (0 : Int32)), (.int (0 : Int32)), (.int (0 : Int32)), (.int (0 : Int32)), (.int (0 : Int32)), (.int (0 : Int32)), (.int (0 : Int32)), (.int (0 : Int32)), (.int (0 : Int32))] (1 : Int32) Kf Vf) :
    MetFree l (⟨"com/example/rootline/rootline/reach/HolderSets", "holders", "(I)[I"⟩ : MethodName) (head1 (Jvm.Cond.code (⟨"com/example/rootline/rootline/reach/HolderSets", "holders", "(I)[I"⟩ : MethodName) prog_179_method_5_code 5 (some (.array .int)) :: ws) ({ frames := 0, cells := 1, slots := 0, locals := 0 } : Room)) (fun a U => a = #[(.ref x0), (.int (0 : Int32))] ∧ Z.Warmed39 U.vm ∧ U.heap = h0) (fun _ _ _ _ _ => True) (fun _ U o U' => ∃ v L, o = .returned v ∧ (QR Z (0 : Int32) [] h0 n0 v U'.heap L) ∧ FrameEnd U o U' L ({ frames := 0, cells := 1, slots := 0, locals := 0 } : Room).cells ({ frames := 0, cells := 1, slots := 0, locals := 0 } : Room).slots) := by
  refine MetFree.of_bodySF (plainFor_of_name pn_12) hisR ?_
  intro p e s m args below meth c s₁ Bd hml0 hP hK
  obtain ⟨rfl, hZ, hh⟩ := hP
  have hx := Bd.exec
  have hby := Bd.bytes
  have hml : c.maxLocals = 5 := hml0
  have hown : s.vm.findClass "com/example/rootline/rootline/reach/HolderSets" = some m.cls := findClass_of_methodNamed Bd.named
  have hnm := (name_of_methodNamed Bd.named Bd.method).1
  have X0 : Stand p l e ({ frames := 0, cells := 1, slots := 0, locals := 0 } : Room) s m #[(.ref x0), (.int (0 : Int32))] below meth c s₁ [] 0 0 := Stand.of_body Bd
  have e0 : s₁.heap = h0 := by rw [← hh, Bd.state]; rfl
  have N0 := Fr.nil n0
  have pre0 : ∀ t, Steps p.tables e below (s₁.setTop (mkF m 0 #[.val (.ref x0), .val (.int (0 : Int32)), .unset, .unset, .unset] [])) t → Steps p.tables e below (s₁.setTop (entryFrame m #[(.ref x0), (.int (0 : Int32))] 5)) t := fun t k => castTop (ef_12 m x0 (0 : Int32)) k
  obtain ⟨⟨o1, o2, o3, o4⟩, E_x0, F_rest_x0, F_highest_x0, F_sizes_x0, F_count_x0, F_withOne_x0, V_ra, V_ha, V_sa, ⟨o5, o6⟩, E_t, F_keys_t, F_values_t, F_size_t, V_ka, V_va⟩ := HS0
  have K0 : Keep h0 h0 [] := Keep.refl h0 []
  obtain ⟨T1, X1, e1, st1⟩ := getF X0 hx hZ hown (host := "") (Or.inl (hw _ (List.mem_of_getElem? (i := 16) rfl))) Via.refl e0 F_sizes_x0 (g := (mkF m 1 #[.val (.ref x0), .val (.int (0 : Int32)), .unset, .unset, .unset] [(.ref x0)])) rfl rfl (hb hby d12_1)
  obtain ⟨T2, h2, k2, X2, e2, E2, A2, st2⟩ := newP X1 hx hZ (hw _ (List.mem_of_getElem? (i := 11) rfl)) e1 (g := (mkF m 6 #[.val (.ref x0), .val (.int (0 : Int32)), .unset, .unset, .unset] [(.int (0 : Int32))])) rfl (hb hby d12_6) rfl (by decide) (cap := 0) (by decide) (by decide) (by decide) (by decide)
  obtain ⟨r, g2⟩ : ∃ z, z = h0.size := ⟨_, rfl⟩
  rw [← g2] at A2 st2
  have V_r_2 : Arv Z h2 r k2 .int (0 : Int32) [] (.int (0 : Int32)) := Arv.new A2 (by decide)
  have lt_ha_r : ha < r := Nat.lt_of_lt_of_le V_ha.lt (Nat.le_of_eq g2.symm)
  have lt_ka_r : ka < r := Nat.lt_of_lt_of_le V_ka.lt (Nat.le_of_eq g2.symm)
  have lt_ra_r : ra < r := Nat.lt_of_lt_of_le V_ra.lt (Nat.le_of_eq g2.symm)
  have lt_sa_r : sa < r := Nat.lt_of_lt_of_le V_sa.lt (Nat.le_of_eq g2.symm)
  have lt_t_r : t < r := Nat.lt_of_lt_of_le E_t.lt (Nat.le_of_eq g2.symm)
  have lt_va_r : va < r := Nat.lt_of_lt_of_le V_va.lt (Nat.le_of_eq g2.symm)
  have lt_x0_r : x0 < r := Nat.lt_of_lt_of_le E_x0.lt (Nat.le_of_eq g2.symm)
  have g_r : n0 ≤ r := Nat.le_trans Z0 (Nat.le_of_eq g2.symm)
  have sz_r : h0.size ≤ r := Nat.le_trans K0.1 (Nat.le_of_eq g2.symm)
  have E_x0_3 := E_x0.ext E2
  have F_rest_x0_3 := F_rest_x0.ext E2
  have F_highest_x0_3 := F_highest_x0.ext E2
  have F_sizes_x0_3 := F_sizes_x0.ext E2
  have F_count_x0_3 := F_count_x0.ext E2
  have F_withOne_x0_3 := F_withOne_x0.ext E2
  have V_ra_3 := V_ra.ext E2
  have V_ha_3 := V_ha.ext E2
  have V_sa_3 := V_sa.ext E2
  have E_t_3 := E_t.ext E2
  have F_keys_t_3 := F_keys_t.ext E2
  have F_values_t_3 := F_values_t.ext E2
  have F_size_t_3 := F_size_t.ext E2
  have V_ka_3 := V_ka.ext E2
  have V_va_3 := V_va.ext E2
  have keep_3 := K0.ext E2
  have siz_3 := Nat.le_trans Z0 E2.1
  obtain ⟨fs, hr, hrun, hended, hW, hsame⟩ := X2.leave (v := some (.ref r)) (fun h => by rw [Bd.returns] at h; cases h)
  refine ⟨_, _, pre0 _ ?_, hrun, hended, _, _, rfl, ?_, ⟨_, rfl⟩, hW, hsame.mono (by decide) (by decide)⟩
  · show Steps p.tables e below (s₁.setTop (mkF m 0 #[.val (.ref x0), .val (.int (0 : Int32)), .unset, .unset, .unset] [])) _
    refine XS.aloadN X0.here hx rfl (hb hby d12_0) rfl rfl ?_
    refine st1 _ ?_
    show Steps p.tables e below (T1.setTop (mkF m 4 #[.val (.ref x0), .val (.int (0 : Int32)), .unset, .unset, .unset] [(.ref sa)])) _
    refine XS.iloadN X1.here hx rfl (hb hby d12_4) rfl ?_
    show Steps p.tables e below (T1.setTop (mkF m 5 #[.val (.ref x0), .val (.int (0 : Int32)), .unset, .unset, .unset] [(.int (0 : Int32)), (.ref sa)])) _
    refine own_ldI X1 hx hZ e1 V_sa (j := (0 : Int32)) (w := (0 : Int32)) ⟨by decide, by decide⟩ rfl (g := (mkF m 5 #[.val (.ref x0), .val (.int (0 : Int32)), .unset, .unset, .unset] [(.int (0 : Int32)), (.ref sa)])) rfl rfl (hb hby d12_5) ?_
    refine st2 _ ?_
    show Steps p.tables e below (T2.setTop (mkF m 8 #[.val (.ref x0), .val (.int (0 : Int32)), .unset, .unset, .unset] [(.ref r)])) _
    refine XS.astoreN X2.here hx rfl (hb hby d12_8) rfl rfl (l' := #[.val (.ref x0), .val (.int (0 : Int32)), .val (.ref r), .unset, .unset]) rfl ?_
    refine XS.aloadN X2.here hx rfl (hb hby d12_9) rfl rfl ?_
    show Steps p.tables e below (T2.setTop (mkF m 10 #[.val (.ref x0), .val (.int (0 : Int32)), .val (.ref r), .unset, .unset] [(.ref r)])) _
    refine own_len X2 hx hZ e2 V_r_2 (g := (mkF m 10 #[.val (.ref x0), .val (.int (0 : Int32)), .val (.ref r), .unset, .unset] [(.ref r)])) rfl rfl (hb hby d12_10) ?_
    refine XS.istoreN X2.here hx rfl (hb hby d12_11) rfl (l' := #[.val (.ref x0), .val (.int (0 : Int32)), .val (.ref r), .val (.int (0 : Int32)), .unset]) rfl ?_
    refine XS.iloadN X2.here hx rfl (hb hby d12_12) rfl ?_
    refine XS.istore X2.here hx rfl (hb hby d12_13) rfl (l' := #[.val (.ref x0), .val (.int (0 : Int32)), .val (.ref r), .val (.int (0 : Int32)), .val (.int (0 : Int32))]) rfl ?_
    show Steps p.tables e below (T2.setTop (mkF m 15 #[.val (.ref x0), .val (.int (0 : Int32)), .val (.ref r), .val (.int (0 : Int32)), .val (.int (0 : Int32))] [])) _
    refine XS.iload X2.here hx rfl (hb hby d12_15) rfl ?_
    refine XS.ifYes X2.here hx rfl (pc0 := 17) (pc' := 45) rfl (hb hby d12_17) rfl ((if0 _ _).trans (teq (by decide : (0 : Int32) = (0 : Int32))).1) (by decide) (by decide) ?_
    refine XS.aloadN X2.here hx rfl (hb hby d12_45) rfl rfl ?_
    exact retOut X2 hx (t := (.array .int)) (i := .areturn) Bd.returns rfl (Or.inr (Or.inr (Or.inr (Or.inr ⟨rfl, rfl, rfl⟩)))) (hb hby d12_46) hr
  · exact (by
      have eT : (T2.setFrames fs).heap = h2 := e2
      rw [eT]; exact ⟨r, _, rfl, N0, keep_3, sz_r, V_r_2⟩)
set_option maxRecDepth 65536 in
set_option maxHeartbeats 40000000 in
theorem rmh_1_1 (l : Launch) (Z : State) (a0 : Array Value) (hw : ∀ d ∈ tables_1, d.before a0 Z = true) (ws : List Jvm.Cond) (x0 : Addr) (ra ha sa t ka va : Addr) (kr kh ks : ClassId) (Kf : Nat → Int64) (Vf : Nat → Int32) (H1 : Int32) (h0 : Heap) (n0 : Nat) (Z0 : n0 ≤ h0.size) (HS0 : HSS Z h0 x0 ra ha sa t ka va kr kh ks (2 : Int32) [(.int (-1 : Int32)), (.int (0 : Int32)), (.int (0 : Int32)), (.int (0 : Int32)), (.int (0 : Int32)), (.int (0 : Int32)), (.int (0 : Int32)), (.int (0 : Int32)), (.int (0 : Int32)), (.int (0 : Int32)), (.int (0 : Int32)), (.int (0 : Int32)), (.int (0 : Int32)), (.int (0 : Int32)), (.int (0 : Int32)), (.int (0 : Int32))] [(.int (-1 : Int32)), (.int H1), (.int (0 : Int32)), (.int (0 : Int32)), (.int (0 : Int32)), (.int (0 : Int32)), (.int (0 : Int32)), (.int (0 : Int32)), (.int (0 : Int32)), (.int (0 : Int32)), (.int (0 : Int32)), (.int (0 : Int32)), (.int (0 : Int32)), (.int (0 : Int32)), (.int (0 : Int32)), (.int (0 : Int32))] [(.int (0 : Int32)), (.int (1 : Int32)), (.int (0 : Int32)), (.int (0 : Int32)), (.int (0 : Int32)), (.int (0 : Int32)), (.int (0 : Int32)), (.int (0 : Int32)), (.int (0 : Int32)), (.int (0 : Int32)), (.int (0 : Int32)), (.int (0 : Int32)), (.int (0 : Int32)), (.int (0 : Int32)), (.int (0 : Int32)), (.int (0 : Int32))] (1 : Int32) Kf Vf) :
    MetFree l (⟨"com/example/rootline/rootline/reach/HolderSets", "holders", "(I)[I"⟩ : MethodName) (head1 (Jvm.Cond.code (⟨"com/example/rootline/rootline/reach/HolderSets", "holders", "(I)[I"⟩ : MethodName) prog_179_method_5_code 5 (some (.array .int)) :: ws) ({ frames := 0, cells := 1, slots := 1, locals := 0 } : Room)) (fun a U => a = #[(.ref x0), (.int (1 : Int32))] ∧ Z.Warmed39 U.vm ∧ U.heap = h0) (fun _ _ _ _ _ => True) (fun _ U o U' => ∃ v L, o = .returned v ∧ (QR Z (1 : Int32) [(.int H1)] h0 n0 v U'.heap L) ∧ FrameEnd U o U' L ({ frames := 0, cells := 1, slots := 1, locals := 0 } : Room).cells ({ frames := 0, cells := 1, slots := 1, locals := 0 } : Room).slots) := by
  refine MetFree.of_bodySF (plainFor_of_name pn_12) hisR ?_
  intro p e s m args below meth c s₁ Bd hml0 hP hK
  obtain ⟨rfl, hZ, hh⟩ := hP
  have hx := Bd.exec
  have hby := Bd.bytes
  have hml : c.maxLocals = 5 := hml0
  have hown : s.vm.findClass "com/example/rootline/rootline/reach/HolderSets" = some m.cls := findClass_of_methodNamed Bd.named
  have hnm := (name_of_methodNamed Bd.named Bd.method).1
  have X0 : Stand p l e ({ frames := 0, cells := 1, slots := 1, locals := 0 } : Room) s m #[(.ref x0), (.int (1 : Int32))] below meth c s₁ [] 0 0 := Stand.of_body Bd
  have e0 : s₁.heap = h0 := by rw [← hh, Bd.state]; rfl
  have N0 := Fr.nil n0
  have pre0 : ∀ t, Steps p.tables e below (s₁.setTop (mkF m 0 #[.val (.ref x0), .val (.int (1 : Int32)), .unset, .unset, .unset] [])) t → Steps p.tables e below (s₁.setTop (entryFrame m #[(.ref x0), (.int (1 : Int32))] 5)) t := fun t k => castTop (ef_12 m x0 (1 : Int32)) k
  obtain ⟨⟨o1, o2, o3, o4⟩, E_x0, F_rest_x0, F_highest_x0, F_sizes_x0, F_count_x0, F_withOne_x0, V_ra, V_ha, V_sa, ⟨o5, o6⟩, E_t, F_keys_t, F_values_t, F_size_t, V_ka, V_va⟩ := HS0
  have K0 : Keep h0 h0 [] := Keep.refl h0 []
  obtain ⟨T1, X1, e1, st1⟩ := getF X0 hx hZ hown (host := "") (Or.inl (hw _ (List.mem_of_getElem? (i := 16) rfl))) Via.refl e0 F_sizes_x0 (g := (mkF m 1 #[.val (.ref x0), .val (.int (1 : Int32)), .unset, .unset, .unset] [(.ref x0)])) rfl rfl (hb hby d12_1)
  obtain ⟨T2, h2, k2, X2, e2, E2, A2, st2⟩ := newP X1 hx hZ (hw _ (List.mem_of_getElem? (i := 11) rfl)) e1 (g := (mkF m 6 #[.val (.ref x0), .val (.int (1 : Int32)), .unset, .unset, .unset] [(.int (1 : Int32))])) rfl (hb hby d12_6) rfl (by decide) (cap := 1) (by decide) (by decide) (by decide) (by decide)
  obtain ⟨r, g2⟩ : ∃ z, z = h0.size := ⟨_, rfl⟩
  rw [← g2] at A2 st2
  have V_r_2 : Arv Z h2 r k2 .int (1 : Int32) [(.int (0 : Int32))] (.int (0 : Int32)) := (Arv.new A2 (by decide)).pad (pad_rep [] (.int (0 : Int32)) 1)
  have lt_ha_r : ha < r := Nat.lt_of_lt_of_le V_ha.lt (Nat.le_of_eq g2.symm)
  have lt_ka_r : ka < r := Nat.lt_of_lt_of_le V_ka.lt (Nat.le_of_eq g2.symm)
  have lt_ra_r : ra < r := Nat.lt_of_lt_of_le V_ra.lt (Nat.le_of_eq g2.symm)
  have lt_sa_r : sa < r := Nat.lt_of_lt_of_le V_sa.lt (Nat.le_of_eq g2.symm)
  have lt_t_r : t < r := Nat.lt_of_lt_of_le E_t.lt (Nat.le_of_eq g2.symm)
  have lt_va_r : va < r := Nat.lt_of_lt_of_le V_va.lt (Nat.le_of_eq g2.symm)
  have lt_x0_r : x0 < r := Nat.lt_of_lt_of_le E_x0.lt (Nat.le_of_eq g2.symm)
  have g_r : n0 ≤ r := Nat.le_trans Z0 (Nat.le_of_eq g2.symm)
  have sz_r : h0.size ≤ r := Nat.le_trans K0.1 (Nat.le_of_eq g2.symm)
  have E_x0_3 := E_x0.ext E2
  have F_rest_x0_3 := F_rest_x0.ext E2
  have F_highest_x0_3 := F_highest_x0.ext E2
  have F_sizes_x0_3 := F_sizes_x0.ext E2
  have F_count_x0_3 := F_count_x0.ext E2
  have F_withOne_x0_3 := F_withOne_x0.ext E2
  have V_ra_3 := V_ra.ext E2
  have V_ha_3 := V_ha.ext E2
  have V_sa_3 := V_sa.ext E2
  have E_t_3 := E_t.ext E2
  have F_keys_t_3 := F_keys_t.ext E2
  have F_values_t_3 := F_values_t.ext E2
  have F_size_t_3 := F_size_t.ext E2
  have V_ka_3 := V_ka.ext E2
  have V_va_3 := V_va.ext E2
  have keep_3 := K0.ext E2
  have siz_3 := Nat.le_trans Z0 E2.1
  obtain ⟨T4, X4, e4, st4⟩ := getF X2 hx hZ hown (host := "") (Or.inl (hw _ (List.mem_of_getElem? (i := 14) rfl))) Via.refl e2 F_highest_x0_3 (g := (mkF m 26 #[.val (.ref x0), .val (.int (1 : Int32)), .val (.ref r), .val (.int (0 : Int32)), .val (.int (1 : Int32))] [(.ref x0), (.int (0 : Int32)), (.ref r)])) rfl rfl (hb hby d12_26)
  obtain ⟨T5, h5, L5, X5, e5, N5, W5, V5, st5⟩ := own_stI X4 hx hZ e4 V_r_2 (j := (0 : Int32)) ⟨by decide, by decide⟩ (i := 0) rfl (Nat.le_of_ble_eq_true rfl) N0 g_r (g := (mkF m 32 #[.val (.ref x0), .val (.int (1 : Int32)), .val (.ref r), .val (.int (0 : Int32)), .val (.int (1 : Int32))] [(.int H1), (.int (0 : Int32)), (.ref r)])) rfl rfl (hb hby d12_32)
  have E_x0_6 := E_x0_3.wr W5
  have F_rest_x0_6 := F_rest_x0_3.other W5 (Or.inl (Nat.ne_of_lt lt_x0_r))
  have F_highest_x0_6 := F_highest_x0_3.other W5 (Or.inl (Nat.ne_of_lt lt_x0_r))
  have F_sizes_x0_6 := F_sizes_x0_3.other W5 (Or.inl (Nat.ne_of_lt lt_x0_r))
  have F_count_x0_6 := F_count_x0_3.other W5 (Or.inl (Nat.ne_of_lt lt_x0_r))
  have F_withOne_x0_6 := F_withOne_x0_3.other W5 (Or.inl (Nat.ne_of_lt lt_x0_r))
  have V_ra_6 := V_ra_3.other W5 (Nat.ne_of_lt lt_ra_r)
  have V_ha_6 := V_ha_3.other W5 (Nat.ne_of_lt lt_ha_r)
  have V_sa_6 := V_sa_3.other W5 (Nat.ne_of_lt lt_sa_r)
  have E_t_6 := E_t_3.wr W5
  have F_keys_t_6 := F_keys_t_3.other W5 (Or.inl (Nat.ne_of_lt lt_t_r))
  have F_values_t_6 := F_values_t_3.other W5 (Or.inl (Nat.ne_of_lt lt_t_r))
  have F_size_t_6 := F_size_t_3.other W5 (Or.inl (Nat.ne_of_lt lt_t_r))
  have V_ka_6 := V_ka_3.other W5 (Nat.ne_of_lt lt_ka_r)
  have V_va_6 := V_va_3.other W5 (Nat.ne_of_lt lt_va_r)
  have keep_6 := keep_3.wr W5 (Or.inr sz_r)
  have siz_6 := Nat.le_trans siz_3 (Keep.of_wr W5).1
  have V_r_5 : Arv Z h5 r k2 .int (1 : Int32) [(.int H1)] (.int (0 : Int32)) := V5
  obtain ⟨T7, X7, e7, st7⟩ := getF X5 hx hZ hown (host := "") (Or.inl (hw _ (List.mem_of_getElem? (i := 12) rfl))) Via.refl e5 F_rest_x0_6 (g := (mkF m 34 #[.val (.ref x0), .val (.int (1 : Int32)), .val (.ref r), .val (.int (0 : Int32)), .val (.int (1 : Int32))] [(.ref x0)])) rfl rfl (hb hby d12_34)
  obtain ⟨fs, hr, hrun, hended, hW, hsame⟩ := X7.leave (v := some (.ref r)) (fun h => by rw [Bd.returns] at h; cases h)
  refine ⟨_, _, pre0 _ ?_, hrun, hended, _, _, rfl, ?_, ⟨_, rfl⟩, hW, hsame.mono (by decide) (by decide)⟩
  · show Steps p.tables e below (s₁.setTop (mkF m 0 #[.val (.ref x0), .val (.int (1 : Int32)), .unset, .unset, .unset] [])) _
    refine XS.aloadN X0.here hx rfl (hb hby d12_0) rfl rfl ?_
    refine st1 _ ?_
    show Steps p.tables e below (T1.setTop (mkF m 4 #[.val (.ref x0), .val (.int (1 : Int32)), .unset, .unset, .unset] [(.ref sa)])) _
    refine XS.iloadN X1.here hx rfl (hb hby d12_4) rfl ?_
    show Steps p.tables e below (T1.setTop (mkF m 5 #[.val (.ref x0), .val (.int (1 : Int32)), .unset, .unset, .unset] [(.int (1 : Int32)), (.ref sa)])) _
    refine own_ldI X1 hx hZ e1 V_sa (j := (1 : Int32)) (w := (1 : Int32)) ⟨by decide, by decide⟩ rfl (g := (mkF m 5 #[.val (.ref x0), .val (.int (1 : Int32)), .unset, .unset, .unset] [(.int (1 : Int32)), (.ref sa)])) rfl rfl (hb hby d12_5) ?_
    refine st2 _ ?_
    show Steps p.tables e below (T2.setTop (mkF m 8 #[.val (.ref x0), .val (.int (1 : Int32)), .unset, .unset, .unset] [(.ref r)])) _
    refine XS.astoreN X2.here hx rfl (hb hby d12_8) rfl rfl (l' := #[.val (.ref x0), .val (.int (1 : Int32)), .val (.ref r), .unset, .unset]) rfl ?_
    refine XS.aloadN X2.here hx rfl (hb hby d12_9) rfl rfl ?_
    show Steps p.tables e below (T2.setTop (mkF m 10 #[.val (.ref x0), .val (.int (1 : Int32)), .val (.ref r), .unset, .unset] [(.ref r)])) _
    refine own_len X2 hx hZ e2 V_r_2 (g := (mkF m 10 #[.val (.ref x0), .val (.int (1 : Int32)), .val (.ref r), .unset, .unset] [(.ref r)])) rfl rfl (hb hby d12_10) ?_
    refine XS.istoreN X2.here hx rfl (hb hby d12_11) rfl (l' := #[.val (.ref x0), .val (.int (1 : Int32)), .val (.ref r), .val (.int (1 : Int32)), .unset]) rfl ?_
    refine XS.iloadN X2.here hx rfl (hb hby d12_12) rfl ?_
    refine XS.istore X2.here hx rfl (hb hby d12_13) rfl (l' := #[.val (.ref x0), .val (.int (1 : Int32)), .val (.ref r), .val (.int (1 : Int32)), .val (.int (1 : Int32))]) rfl ?_
    show Steps p.tables e below (T2.setTop (mkF m 15 #[.val (.ref x0), .val (.int (1 : Int32)), .val (.ref r), .val (.int (1 : Int32)), .val (.int (1 : Int32))] [])) _
    refine XS.iload X2.here hx rfl (hb hby d12_15) rfl ?_
    refine XS.ifNo X2.here hx rfl (hb hby d12_17) rfl ((if0 _ _).trans (feq (by decide : ¬ ((1 : Int32) = (0 : Int32)))).1) ?_
    refine XS.aloadN X2.here hx rfl (hb hby d12_20) rfl rfl ?_
    refine XS.iinc X2.here hx rfl (hb hby d12_21) rfl (l' := #[.val (.ref x0), .val (.int (1 : Int32)), .val (.ref r), .val (.int ((1 : Int32) + (-1 : Int32))), .val (.int (1 : Int32))]) rfl ?_
    show Steps p.tables e below (T2.setTop (mkF m 24 #[.val (.ref x0), .val (.int (1 : Int32)), .val (.ref r), .val (.int ((1 : Int32) + (-1 : Int32))), .val (.int (1 : Int32))] [(.ref r)])) _
    rw [show ((1 : Int32) + (-1 : Int32)) = (0 : Int32) from by decide]
    show Steps p.tables e below (T2.setTop (mkF m 24 #[.val (.ref x0), .val (.int (1 : Int32)), .val (.ref r), .val (.int (0 : Int32)), .val (.int (1 : Int32))] [(.ref r)])) _
    refine XS.iloadN X2.here hx rfl (hb hby d12_24) rfl ?_
    refine XS.aloadN X2.here hx rfl (hb hby d12_25) rfl rfl ?_
    refine st4 _ ?_
    show Steps p.tables e below (T4.setTop (mkF m 29 #[.val (.ref x0), .val (.int (1 : Int32)), .val (.ref r), .val (.int (0 : Int32)), .val (.int (1 : Int32))] [(.ref ha), (.int (0 : Int32)), (.ref r)])) _
    refine XS.iload X4.here hx rfl (hb hby d12_29) rfl ?_
    show Steps p.tables e below (T4.setTop (mkF m 31 #[.val (.ref x0), .val (.int (1 : Int32)), .val (.ref r), .val (.int (0 : Int32)), .val (.int (1 : Int32))] [(.int (1 : Int32)), (.ref ha), (.int (0 : Int32)), (.ref r)])) _
    refine own_ldI X4 hx hZ e4 V_ha_3 (j := (1 : Int32)) (w := H1) ⟨by decide, by decide⟩ rfl (g := (mkF m 31 #[.val (.ref x0), .val (.int (1 : Int32)), .val (.ref r), .val (.int (0 : Int32)), .val (.int (1 : Int32))] [(.int (1 : Int32)), (.ref ha), (.int (0 : Int32)), (.ref r)])) rfl rfl (hb hby d12_31) ?_
    refine st5 _ ?_
    show Steps p.tables e below (T5.setTop (mkF m 33 #[.val (.ref x0), .val (.int (1 : Int32)), .val (.ref r), .val (.int (0 : Int32)), .val (.int (1 : Int32))] [])) _
    refine XS.aloadN X5.here hx rfl (hb hby d12_33) rfl rfl ?_
    refine st7 _ ?_
    show Steps p.tables e below (T7.setTop (mkF m 37 #[.val (.ref x0), .val (.int (1 : Int32)), .val (.ref r), .val (.int (0 : Int32)), .val (.int (1 : Int32))] [(.ref ra)])) _
    refine XS.iload X7.here hx rfl (hb hby d12_37) rfl ?_
    refine own_ldI X7 hx hZ e7 V_ra_6 (j := (1 : Int32)) (w := (0 : Int32)) ⟨by decide, by decide⟩ rfl (g := (mkF m 39 #[.val (.ref x0), .val (.int (1 : Int32)), .val (.ref r), .val (.int (0 : Int32)), .val (.int (1 : Int32))] [(.int (1 : Int32)), (.ref ra)])) rfl rfl (hb hby d12_39) ?_
    refine XS.istore X7.here hx rfl (hb hby d12_40) rfl (l' := #[.val (.ref x0), .val (.int (1 : Int32)), .val (.ref r), .val (.int (0 : Int32)), .val (.int (0 : Int32))]) rfl ?_
    refine XS.goto X7.here hx rfl (pc0 := 42) (pc' := 15) rfl (hb hby d12_42) (by decide) (by decide) ?_
    show Steps p.tables e below (T7.setTop (mkF m 15 #[.val (.ref x0), .val (.int (1 : Int32)), .val (.ref r), .val (.int (0 : Int32)), .val (.int (0 : Int32))] [])) _
    refine XS.iload X7.here hx rfl (hb hby d12_15) rfl ?_
    refine XS.ifYes X7.here hx rfl (pc0 := 17) (pc' := 45) rfl (hb hby d12_17) rfl ((if0 _ _).trans (teq (by decide : (0 : Int32) = (0 : Int32))).1) (by decide) (by decide) ?_
    refine XS.aloadN X7.here hx rfl (hb hby d12_45) rfl rfl ?_
    exact retOut X7 hx (t := (.array .int)) (i := .areturn) Bd.returns rfl (Or.inr (Or.inr (Or.inr (Or.inr ⟨rfl, rfl, rfl⟩)))) (hb hby d12_46) hr
  · exact (by
      have eT : (T7.setFrames fs).heap = h5 := e7
      rw [eT]; exact ⟨r, _, rfl, N5, keep_6, sz_r, V_r_5⟩)
set_option maxRecDepth 65536 in
set_option maxHeartbeats 40000000 in
theorem rmh_2_0 (l : Launch) (Z : State) (a0 : Array Value) (hw : ∀ d ∈ tables_1, d.before a0 Z = true) (ws : List Jvm.Cond) (x0 : Addr) (ra ha sa t ka va : Addr) (kr kh ks : ClassId) (Kf : Nat → Int64) (Vf : Nat → Int32) (H1 : Int32) (H2 : Int32) (h0 : Heap) (n0 : Nat) (Z0 : n0 ≤ h0.size) (HS0 : HSS Z h0 x0 ra ha sa t ka va kr kh ks (3 : Int32) [(.int (-1 : Int32)), (.int (0 : Int32)), (.int (1 : Int32)), (.int (0 : Int32)), (.int (0 : Int32)), (.int (0 : Int32)), (.int (0 : Int32)), (.int (0 : Int32)), (.int (0 : Int32)), (.int (0 : Int32)), (.int (0 : Int32)), (.int (0 : Int32)), (.int (0 : Int32)), (.int (0 : Int32)), (.int (0 : Int32)), (.int (0 : Int32))] [(.int (-1 : Int32)), (.int H1), (.int H2), (.int (0 : Int32)), (.int (0 : Int32)), (.int (0 : Int32)), (.int (0 : Int32)), (.int (0 : Int32)), (.int (0 : Int32)), (.int (0 : Int32)), (.int (0 : Int32)), (.int (0 : Int32)), (.int (0 : Int32)), (.int (0 : Int32)), (.int (0 : Int32)), (.int (0 : Int32))] [(.int (0 : Int32)), (.int (1 : Int32)), (.int (2 : Int32)), (.int (0 : Int32)), (.int (0 : Int32)), (.int (0 : Int32)), (.int (0 : Int32)), (.int (0 : Int32)), (.int (0 : Int32)), (.int (0 : Int32)), (.int (0 : Int32)), (.int (0 : Int32)), (.int (0 : Int32)), (.int (0 : Int32)), (.int (0 : Int32)), (.int (0 : Int32))] (2 : Int32) Kf Vf) :
    MetFree l (⟨"com/example/rootline/rootline/reach/HolderSets", "holders", "(I)[I"⟩ : MethodName) (head1 (Jvm.Cond.code (⟨"com/example/rootline/rootline/reach/HolderSets", "holders", "(I)[I"⟩ : MethodName) prog_179_method_5_code 5 (some (.array .int)) :: ws) ({ frames := 0, cells := 1, slots := 0, locals := 0 } : Room)) (fun a U => a = #[(.ref x0), (.int (0 : Int32))] ∧ Z.Warmed39 U.vm ∧ U.heap = h0) (fun _ _ _ _ _ => True) (fun _ U o U' => ∃ v L, o = .returned v ∧ (QR Z (0 : Int32) [] h0 n0 v U'.heap L) ∧ FrameEnd U o U' L ({ frames := 0, cells := 1, slots := 0, locals := 0 } : Room).cells ({ frames := 0, cells := 1, slots := 0, locals := 0 } : Room).slots) := by
  refine MetFree.of_bodySF (plainFor_of_name pn_12) hisR ?_
  intro p e s m args below meth c s₁ Bd hml0 hP hK
  obtain ⟨rfl, hZ, hh⟩ := hP
  have hx := Bd.exec
  have hby := Bd.bytes
  have hml : c.maxLocals = 5 := hml0
  have hown : s.vm.findClass "com/example/rootline/rootline/reach/HolderSets" = some m.cls := findClass_of_methodNamed Bd.named
  have hnm := (name_of_methodNamed Bd.named Bd.method).1
  have X0 : Stand p l e ({ frames := 0, cells := 1, slots := 0, locals := 0 } : Room) s m #[(.ref x0), (.int (0 : Int32))] below meth c s₁ [] 0 0 := Stand.of_body Bd
  have e0 : s₁.heap = h0 := by rw [← hh, Bd.state]; rfl
  have N0 := Fr.nil n0
  have pre0 : ∀ t, Steps p.tables e below (s₁.setTop (mkF m 0 #[.val (.ref x0), .val (.int (0 : Int32)), .unset, .unset, .unset] [])) t → Steps p.tables e below (s₁.setTop (entryFrame m #[(.ref x0), (.int (0 : Int32))] 5)) t := fun t k => castTop (ef_12 m x0 (0 : Int32)) k
  obtain ⟨⟨o1, o2, o3, o4⟩, E_x0, F_rest_x0, F_highest_x0, F_sizes_x0, F_count_x0, F_withOne_x0, V_ra, V_ha, V_sa, ⟨o5, o6⟩, E_t, F_keys_t, F_values_t, F_size_t, V_ka, V_va⟩ := HS0
  have K0 : Keep h0 h0 [] := Keep.refl h0 []
  obtain ⟨T1, X1, e1, st1⟩ := getF X0 hx hZ hown (host := "") (Or.inl (hw _ (List.mem_of_getElem? (i := 16) rfl))) Via.refl e0 F_sizes_x0 (g := (mkF m 1 #[.val (.ref x0), .val (.int (0 : Int32)), .unset, .unset, .unset] [(.ref x0)])) rfl rfl (hb hby d12_1)
  obtain ⟨T2, h2, k2, X2, e2, E2, A2, st2⟩ := newP X1 hx hZ (hw _ (List.mem_of_getElem? (i := 11) rfl)) e1 (g := (mkF m 6 #[.val (.ref x0), .val (.int (0 : Int32)), .unset, .unset, .unset] [(.int (0 : Int32))])) rfl (hb hby d12_6) rfl (by decide) (cap := 0) (by decide) (by decide) (by decide) (by decide)
  obtain ⟨r, g2⟩ : ∃ z, z = h0.size := ⟨_, rfl⟩
  rw [← g2] at A2 st2
  have V_r_2 : Arv Z h2 r k2 .int (0 : Int32) [] (.int (0 : Int32)) := Arv.new A2 (by decide)
  have lt_ha_r : ha < r := Nat.lt_of_lt_of_le V_ha.lt (Nat.le_of_eq g2.symm)
  have lt_ka_r : ka < r := Nat.lt_of_lt_of_le V_ka.lt (Nat.le_of_eq g2.symm)
  have lt_ra_r : ra < r := Nat.lt_of_lt_of_le V_ra.lt (Nat.le_of_eq g2.symm)
  have lt_sa_r : sa < r := Nat.lt_of_lt_of_le V_sa.lt (Nat.le_of_eq g2.symm)
  have lt_t_r : t < r := Nat.lt_of_lt_of_le E_t.lt (Nat.le_of_eq g2.symm)
  have lt_va_r : va < r := Nat.lt_of_lt_of_le V_va.lt (Nat.le_of_eq g2.symm)
  have lt_x0_r : x0 < r := Nat.lt_of_lt_of_le E_x0.lt (Nat.le_of_eq g2.symm)
  have g_r : n0 ≤ r := Nat.le_trans Z0 (Nat.le_of_eq g2.symm)
  have sz_r : h0.size ≤ r := Nat.le_trans K0.1 (Nat.le_of_eq g2.symm)
  have E_x0_3 := E_x0.ext E2
  have F_rest_x0_3 := F_rest_x0.ext E2
  have F_highest_x0_3 := F_highest_x0.ext E2
  have F_sizes_x0_3 := F_sizes_x0.ext E2
  have F_count_x0_3 := F_count_x0.ext E2
  have F_withOne_x0_3 := F_withOne_x0.ext E2
  have V_ra_3 := V_ra.ext E2
  have V_ha_3 := V_ha.ext E2
  have V_sa_3 := V_sa.ext E2
  have E_t_3 := E_t.ext E2
  have F_keys_t_3 := F_keys_t.ext E2
  have F_values_t_3 := F_values_t.ext E2
  have F_size_t_3 := F_size_t.ext E2
  have V_ka_3 := V_ka.ext E2
  have V_va_3 := V_va.ext E2
  have keep_3 := K0.ext E2
  have siz_3 := Nat.le_trans Z0 E2.1
  obtain ⟨fs, hr, hrun, hended, hW, hsame⟩ := X2.leave (v := some (.ref r)) (fun h => by rw [Bd.returns] at h; cases h)
  refine ⟨_, _, pre0 _ ?_, hrun, hended, _, _, rfl, ?_, ⟨_, rfl⟩, hW, hsame.mono (by decide) (by decide)⟩
  · show Steps p.tables e below (s₁.setTop (mkF m 0 #[.val (.ref x0), .val (.int (0 : Int32)), .unset, .unset, .unset] [])) _
    refine XS.aloadN X0.here hx rfl (hb hby d12_0) rfl rfl ?_
    refine st1 _ ?_
    show Steps p.tables e below (T1.setTop (mkF m 4 #[.val (.ref x0), .val (.int (0 : Int32)), .unset, .unset, .unset] [(.ref sa)])) _
    refine XS.iloadN X1.here hx rfl (hb hby d12_4) rfl ?_
    show Steps p.tables e below (T1.setTop (mkF m 5 #[.val (.ref x0), .val (.int (0 : Int32)), .unset, .unset, .unset] [(.int (0 : Int32)), (.ref sa)])) _
    refine own_ldI X1 hx hZ e1 V_sa (j := (0 : Int32)) (w := (0 : Int32)) ⟨by decide, by decide⟩ rfl (g := (mkF m 5 #[.val (.ref x0), .val (.int (0 : Int32)), .unset, .unset, .unset] [(.int (0 : Int32)), (.ref sa)])) rfl rfl (hb hby d12_5) ?_
    refine st2 _ ?_
    show Steps p.tables e below (T2.setTop (mkF m 8 #[.val (.ref x0), .val (.int (0 : Int32)), .unset, .unset, .unset] [(.ref r)])) _
    refine XS.astoreN X2.here hx rfl (hb hby d12_8) rfl rfl (l' := #[.val (.ref x0), .val (.int (0 : Int32)), .val (.ref r), .unset, .unset]) rfl ?_
    refine XS.aloadN X2.here hx rfl (hb hby d12_9) rfl rfl ?_
    show Steps p.tables e below (T2.setTop (mkF m 10 #[.val (.ref x0), .val (.int (0 : Int32)), .val (.ref r), .unset, .unset] [(.ref r)])) _
    refine own_len X2 hx hZ e2 V_r_2 (g := (mkF m 10 #[.val (.ref x0), .val (.int (0 : Int32)), .val (.ref r), .unset, .unset] [(.ref r)])) rfl rfl (hb hby d12_10) ?_
    refine XS.istoreN X2.here hx rfl (hb hby d12_11) rfl (l' := #[.val (.ref x0), .val (.int (0 : Int32)), .val (.ref r), .val (.int (0 : Int32)), .unset]) rfl ?_
    refine XS.iloadN X2.here hx rfl (hb hby d12_12) rfl ?_
    refine XS.istore X2.here hx rfl (hb hby d12_13) rfl (l' := #[.val (.ref x0), .val (.int (0 : Int32)), .val (.ref r), .val (.int (0 : Int32)), .val (.int (0 : Int32))]) rfl ?_
    show Steps p.tables e below (T2.setTop (mkF m 15 #[.val (.ref x0), .val (.int (0 : Int32)), .val (.ref r), .val (.int (0 : Int32)), .val (.int (0 : Int32))] [])) _
    refine XS.iload X2.here hx rfl (hb hby d12_15) rfl ?_
    refine XS.ifYes X2.here hx rfl (pc0 := 17) (pc' := 45) rfl (hb hby d12_17) rfl ((if0 _ _).trans (teq (by decide : (0 : Int32) = (0 : Int32))).1) (by decide) (by decide) ?_
    refine XS.aloadN X2.here hx rfl (hb hby d12_45) rfl rfl ?_
    exact retOut X2 hx (t := (.array .int)) (i := .areturn) Bd.returns rfl (Or.inr (Or.inr (Or.inr (Or.inr ⟨rfl, rfl, rfl⟩)))) (hb hby d12_46) hr
  · exact (by
      have eT : (T2.setFrames fs).heap = h2 := e2
      rw [eT]; exact ⟨r, _, rfl, N0, keep_3, sz_r, V_r_2⟩)
set_option maxRecDepth 65536 in
set_option maxHeartbeats 40000000 in
theorem rmh_2_1 (l : Launch) (Z : State) (a0 : Array Value) (hw : ∀ d ∈ tables_1, d.before a0 Z = true) (ws : List Jvm.Cond) (x0 : Addr) (ra ha sa t ka va : Addr) (kr kh ks : ClassId) (Kf : Nat → Int64) (Vf : Nat → Int32) (H1 : Int32) (H2 : Int32) (h0 : Heap) (n0 : Nat) (Z0 : n0 ≤ h0.size) (HS0 : HSS Z h0 x0 ra ha sa t ka va kr kh ks (3 : Int32) [(.int (-1 : Int32)), (.int (0 : Int32)), (.int (1 : Int32)), (.int (0 : Int32)), (.int (0 : Int32)), (.int (0 : Int32)), (.int (0 : Int32)), (.int (0 : Int32)), (.int (0 : Int32)), (.int (0 : Int32)), (.int (0 : Int32)), (.int (0 : Int32)), (.int (0 : Int32)), (.int (0 : Int32)), (.int (0 : Int32)), (.int (0 : Int32))] [(.int (-1 : Int32)), (.int H1), (.int H2), (.int (0 : Int32)), (.int (0 : Int32)), (.int (0 : Int32)), (.int (0 : Int32)), (.int (0 : Int32)), (.int (0 : Int32)), (.int (0 : Int32)), (.int (0 : Int32)), (.int (0 : Int32)), (.int (0 : Int32)), (.int (0 : Int32)), (.int (0 : Int32)), (.int (0 : Int32))] [(.int (0 : Int32)), (.int (1 : Int32)), (.int (2 : Int32)), (.int (0 : Int32)), (.int (0 : Int32)), (.int (0 : Int32)), (.int (0 : Int32)), (.int (0 : Int32)), (.int (0 : Int32)), (.int (0 : Int32)), (.int (0 : Int32)), (.int (0 : Int32)), (.int (0 : Int32)), (.int (0 : Int32)), (.int (0 : Int32)), (.int (0 : Int32))] (2 : Int32) Kf Vf) :
    MetFree l (⟨"com/example/rootline/rootline/reach/HolderSets", "holders", "(I)[I"⟩ : MethodName) (head1 (Jvm.Cond.code (⟨"com/example/rootline/rootline/reach/HolderSets", "holders", "(I)[I"⟩ : MethodName) prog_179_method_5_code 5 (some (.array .int)) :: ws) ({ frames := 0, cells := 1, slots := 1, locals := 0 } : Room)) (fun a U => a = #[(.ref x0), (.int (1 : Int32))] ∧ Z.Warmed39 U.vm ∧ U.heap = h0) (fun _ _ _ _ _ => True) (fun _ U o U' => ∃ v L, o = .returned v ∧ (QR Z (1 : Int32) [(.int H1)] h0 n0 v U'.heap L) ∧ FrameEnd U o U' L ({ frames := 0, cells := 1, slots := 1, locals := 0 } : Room).cells ({ frames := 0, cells := 1, slots := 1, locals := 0 } : Room).slots) := by
  refine MetFree.of_bodySF (plainFor_of_name pn_12) hisR ?_
  intro p e s m args below meth c s₁ Bd hml0 hP hK
  obtain ⟨rfl, hZ, hh⟩ := hP
  have hx := Bd.exec
  have hby := Bd.bytes
  have hml : c.maxLocals = 5 := hml0
  have hown : s.vm.findClass "com/example/rootline/rootline/reach/HolderSets" = some m.cls := findClass_of_methodNamed Bd.named
  have hnm := (name_of_methodNamed Bd.named Bd.method).1
  have X0 : Stand p l e ({ frames := 0, cells := 1, slots := 1, locals := 0 } : Room) s m #[(.ref x0), (.int (1 : Int32))] below meth c s₁ [] 0 0 := Stand.of_body Bd
  have e0 : s₁.heap = h0 := by rw [← hh, Bd.state]; rfl
  have N0 := Fr.nil n0
  have pre0 : ∀ t, Steps p.tables e below (s₁.setTop (mkF m 0 #[.val (.ref x0), .val (.int (1 : Int32)), .unset, .unset, .unset] [])) t → Steps p.tables e below (s₁.setTop (entryFrame m #[(.ref x0), (.int (1 : Int32))] 5)) t := fun t k => castTop (ef_12 m x0 (1 : Int32)) k
  obtain ⟨⟨o1, o2, o3, o4⟩, E_x0, F_rest_x0, F_highest_x0, F_sizes_x0, F_count_x0, F_withOne_x0, V_ra, V_ha, V_sa, ⟨o5, o6⟩, E_t, F_keys_t, F_values_t, F_size_t, V_ka, V_va⟩ := HS0
  have K0 : Keep h0 h0 [] := Keep.refl h0 []
  obtain ⟨T1, X1, e1, st1⟩ := getF X0 hx hZ hown (host := "") (Or.inl (hw _ (List.mem_of_getElem? (i := 16) rfl))) Via.refl e0 F_sizes_x0 (g := (mkF m 1 #[.val (.ref x0), .val (.int (1 : Int32)), .unset, .unset, .unset] [(.ref x0)])) rfl rfl (hb hby d12_1)
  obtain ⟨T2, h2, k2, X2, e2, E2, A2, st2⟩ := newP X1 hx hZ (hw _ (List.mem_of_getElem? (i := 11) rfl)) e1 (g := (mkF m 6 #[.val (.ref x0), .val (.int (1 : Int32)), .unset, .unset, .unset] [(.int (1 : Int32))])) rfl (hb hby d12_6) rfl (by decide) (cap := 1) (by decide) (by decide) (by decide) (by decide)
  obtain ⟨r, g2⟩ : ∃ z, z = h0.size := ⟨_, rfl⟩
  rw [← g2] at A2 st2
  have V_r_2 : Arv Z h2 r k2 .int (1 : Int32) [(.int (0 : Int32))] (.int (0 : Int32)) := (Arv.new A2 (by decide)).pad (pad_rep [] (.int (0 : Int32)) 1)
  have lt_ha_r : ha < r := Nat.lt_of_lt_of_le V_ha.lt (Nat.le_of_eq g2.symm)
  have lt_ka_r : ka < r := Nat.lt_of_lt_of_le V_ka.lt (Nat.le_of_eq g2.symm)
  have lt_ra_r : ra < r := Nat.lt_of_lt_of_le V_ra.lt (Nat.le_of_eq g2.symm)
  have lt_sa_r : sa < r := Nat.lt_of_lt_of_le V_sa.lt (Nat.le_of_eq g2.symm)
  have lt_t_r : t < r := Nat.lt_of_lt_of_le E_t.lt (Nat.le_of_eq g2.symm)
  have lt_va_r : va < r := Nat.lt_of_lt_of_le V_va.lt (Nat.le_of_eq g2.symm)
  have lt_x0_r : x0 < r := Nat.lt_of_lt_of_le E_x0.lt (Nat.le_of_eq g2.symm)
  have g_r : n0 ≤ r := Nat.le_trans Z0 (Nat.le_of_eq g2.symm)
  have sz_r : h0.size ≤ r := Nat.le_trans K0.1 (Nat.le_of_eq g2.symm)
  have E_x0_3 := E_x0.ext E2
  have F_rest_x0_3 := F_rest_x0.ext E2
  have F_highest_x0_3 := F_highest_x0.ext E2
  have F_sizes_x0_3 := F_sizes_x0.ext E2
  have F_count_x0_3 := F_count_x0.ext E2
  have F_withOne_x0_3 := F_withOne_x0.ext E2
  have V_ra_3 := V_ra.ext E2
  have V_ha_3 := V_ha.ext E2
  have V_sa_3 := V_sa.ext E2
  have E_t_3 := E_t.ext E2
  have F_keys_t_3 := F_keys_t.ext E2
  have F_values_t_3 := F_values_t.ext E2
  have F_size_t_3 := F_size_t.ext E2
  have V_ka_3 := V_ka.ext E2
  have V_va_3 := V_va.ext E2
  have keep_3 := K0.ext E2
  have siz_3 := Nat.le_trans Z0 E2.1
  obtain ⟨T4, X4, e4, st4⟩ := getF X2 hx hZ hown (host := "") (Or.inl (hw _ (List.mem_of_getElem? (i := 14) rfl))) Via.refl e2 F_highest_x0_3 (g := (mkF m 26 #[.val (.ref x0), .val (.int (1 : Int32)), .val (.ref r), .val (.int (0 : Int32)), .val (.int (1 : Int32))] [(.ref x0), (.int (0 : Int32)), (.ref r)])) rfl rfl (hb hby d12_26)
  obtain ⟨T5, h5, L5, X5, e5, N5, W5, V5, st5⟩ := own_stI X4 hx hZ e4 V_r_2 (j := (0 : Int32)) ⟨by decide, by decide⟩ (i := 0) rfl (Nat.le_of_ble_eq_true rfl) N0 g_r (g := (mkF m 32 #[.val (.ref x0), .val (.int (1 : Int32)), .val (.ref r), .val (.int (0 : Int32)), .val (.int (1 : Int32))] [(.int H1), (.int (0 : Int32)), (.ref r)])) rfl rfl (hb hby d12_32)
  have E_x0_6 := E_x0_3.wr W5
  have F_rest_x0_6 := F_rest_x0_3.other W5 (Or.inl (Nat.ne_of_lt lt_x0_r))
  have F_highest_x0_6 := F_highest_x0_3.other W5 (Or.inl (Nat.ne_of_lt lt_x0_r))
  have F_sizes_x0_6 := F_sizes_x0_3.other W5 (Or.inl (Nat.ne_of_lt lt_x0_r))
  have F_count_x0_6 := F_count_x0_3.other W5 (Or.inl (Nat.ne_of_lt lt_x0_r))
  have F_withOne_x0_6 := F_withOne_x0_3.other W5 (Or.inl (Nat.ne_of_lt lt_x0_r))
  have V_ra_6 := V_ra_3.other W5 (Nat.ne_of_lt lt_ra_r)
  have V_ha_6 := V_ha_3.other W5 (Nat.ne_of_lt lt_ha_r)
  have V_sa_6 := V_sa_3.other W5 (Nat.ne_of_lt lt_sa_r)
  have E_t_6 := E_t_3.wr W5
  have F_keys_t_6 := F_keys_t_3.other W5 (Or.inl (Nat.ne_of_lt lt_t_r))
  have F_values_t_6 := F_values_t_3.other W5 (Or.inl (Nat.ne_of_lt lt_t_r))
  have F_size_t_6 := F_size_t_3.other W5 (Or.inl (Nat.ne_of_lt lt_t_r))
  have V_ka_6 := V_ka_3.other W5 (Nat.ne_of_lt lt_ka_r)
  have V_va_6 := V_va_3.other W5 (Nat.ne_of_lt lt_va_r)
  have keep_6 := keep_3.wr W5 (Or.inr sz_r)
  have siz_6 := Nat.le_trans siz_3 (Keep.of_wr W5).1
  have V_r_5 : Arv Z h5 r k2 .int (1 : Int32) [(.int H1)] (.int (0 : Int32)) := V5
  obtain ⟨T7, X7, e7, st7⟩ := getF X5 hx hZ hown (host := "") (Or.inl (hw _ (List.mem_of_getElem? (i := 12) rfl))) Via.refl e5 F_rest_x0_6 (g := (mkF m 34 #[.val (.ref x0), .val (.int (1 : Int32)), .val (.ref r), .val (.int (0 : Int32)), .val (.int (1 : Int32))] [(.ref x0)])) rfl rfl (hb hby d12_34)
  obtain ⟨fs, hr, hrun, hended, hW, hsame⟩ := X7.leave (v := some (.ref r)) (fun h => by rw [Bd.returns] at h; cases h)
  refine ⟨_, _, pre0 _ ?_, hrun, hended, _, _, rfl, ?_, ⟨_, rfl⟩, hW, hsame.mono (by decide) (by decide)⟩
  · show Steps p.tables e below (s₁.setTop (mkF m 0 #[.val (.ref x0), .val (.int (1 : Int32)), .unset, .unset, .unset] [])) _
    refine XS.aloadN X0.here hx rfl (hb hby d12_0) rfl rfl ?_
    refine st1 _ ?_
    show Steps p.tables e below (T1.setTop (mkF m 4 #[.val (.ref x0), .val (.int (1 : Int32)), .unset, .unset, .unset] [(.ref sa)])) _
    refine XS.iloadN X1.here hx rfl (hb hby d12_4) rfl ?_
    show Steps p.tables e below (T1.setTop (mkF m 5 #[.val (.ref x0), .val (.int (1 : Int32)), .unset, .unset, .unset] [(.int (1 : Int32)), (.ref sa)])) _
    refine own_ldI X1 hx hZ e1 V_sa (j := (1 : Int32)) (w := (1 : Int32)) ⟨by decide, by decide⟩ rfl (g := (mkF m 5 #[.val (.ref x0), .val (.int (1 : Int32)), .unset, .unset, .unset] [(.int (1 : Int32)), (.ref sa)])) rfl rfl (hb hby d12_5) ?_
    refine st2 _ ?_
    show Steps p.tables e below (T2.setTop (mkF m 8 #[.val (.ref x0), .val (.int (1 : Int32)), .unset, .unset, .unset] [(.ref r)])) _
    refine XS.astoreN X2.here hx rfl (hb hby d12_8) rfl rfl (l' := #[.val (.ref x0), .val (.int (1 : Int32)), .val (.ref r), .unset, .unset]) rfl ?_
    refine XS.aloadN X2.here hx rfl (hb hby d12_9) rfl rfl ?_
    show Steps p.tables e below (T2.setTop (mkF m 10 #[.val (.ref x0), .val (.int (1 : Int32)), .val (.ref r), .unset, .unset] [(.ref r)])) _
    refine own_len X2 hx hZ e2 V_r_2 (g := (mkF m 10 #[.val (.ref x0), .val (.int (1 : Int32)), .val (.ref r), .unset, .unset] [(.ref r)])) rfl rfl (hb hby d12_10) ?_
    refine XS.istoreN X2.here hx rfl (hb hby d12_11) rfl (l' := #[.val (.ref x0), .val (.int (1 : Int32)), .val (.ref r), .val (.int (1 : Int32)), .unset]) rfl ?_
    refine XS.iloadN X2.here hx rfl (hb hby d12_12) rfl ?_
    refine XS.istore X2.here hx rfl (hb hby d12_13) rfl (l' := #[.val (.ref x0), .val (.int (1 : Int32)), .val (.ref r), .val (.int (1 : Int32)), .val (.int (1 : Int32))]) rfl ?_
    show Steps p.tables e below (T2.setTop (mkF m 15 #[.val (.ref x0), .val (.int (1 : Int32)), .val (.ref r), .val (.int (1 : Int32)), .val (.int (1 : Int32))] [])) _
    refine XS.iload X2.here hx rfl (hb hby d12_15) rfl ?_
    refine XS.ifNo X2.here hx rfl (hb hby d12_17) rfl ((if0 _ _).trans (feq (by decide : ¬ ((1 : Int32) = (0 : Int32)))).1) ?_
    refine XS.aloadN X2.here hx rfl (hb hby d12_20) rfl rfl ?_
    refine XS.iinc X2.here hx rfl (hb hby d12_21) rfl (l' := #[.val (.ref x0), .val (.int (1 : Int32)), .val (.ref r), .val (.int ((1 : Int32) + (-1 : Int32))), .val (.int (1 : Int32))]) rfl ?_
    show Steps p.tables e below (T2.setTop (mkF m 24 #[.val (.ref x0), .val (.int (1 : Int32)), .val (.ref r), .val (.int ((1 : Int32) + (-1 : Int32))), .val (.int (1 : Int32))] [(.ref r)])) _
    rw [show ((1 : Int32) + (-1 : Int32)) = (0 : Int32) from by decide]
    show Steps p.tables e below (T2.setTop (mkF m 24 #[.val (.ref x0), .val (.int (1 : Int32)), .val (.ref r), .val (.int (0 : Int32)), .val (.int (1 : Int32))] [(.ref r)])) _
    refine XS.iloadN X2.here hx rfl (hb hby d12_24) rfl ?_
    refine XS.aloadN X2.here hx rfl (hb hby d12_25) rfl rfl ?_
    refine st4 _ ?_
    show Steps p.tables e below (T4.setTop (mkF m 29 #[.val (.ref x0), .val (.int (1 : Int32)), .val (.ref r), .val (.int (0 : Int32)), .val (.int (1 : Int32))] [(.ref ha), (.int (0 : Int32)), (.ref r)])) _
    refine XS.iload X4.here hx rfl (hb hby d12_29) rfl ?_
    show Steps p.tables e below (T4.setTop (mkF m 31 #[.val (.ref x0), .val (.int (1 : Int32)), .val (.ref r), .val (.int (0 : Int32)), .val (.int (1 : Int32))] [(.int (1 : Int32)), (.ref ha), (.int (0 : Int32)), (.ref r)])) _
    refine own_ldI X4 hx hZ e4 V_ha_3 (j := (1 : Int32)) (w := H1) ⟨by decide, by decide⟩ rfl (g := (mkF m 31 #[.val (.ref x0), .val (.int (1 : Int32)), .val (.ref r), .val (.int (0 : Int32)), .val (.int (1 : Int32))] [(.int (1 : Int32)), (.ref ha), (.int (0 : Int32)), (.ref r)])) rfl rfl (hb hby d12_31) ?_
    refine st5 _ ?_
    show Steps p.tables e below (T5.setTop (mkF m 33 #[.val (.ref x0), .val (.int (1 : Int32)), .val (.ref r), .val (.int (0 : Int32)), .val (.int (1 : Int32))] [])) _
    refine XS.aloadN X5.here hx rfl (hb hby d12_33) rfl rfl ?_
    refine st7 _ ?_
    show Steps p.tables e below (T7.setTop (mkF m 37 #[.val (.ref x0), .val (.int (1 : Int32)), .val (.ref r), .val (.int (0 : Int32)), .val (.int (1 : Int32))] [(.ref ra)])) _
    refine XS.iload X7.here hx rfl (hb hby d12_37) rfl ?_
    refine own_ldI X7 hx hZ e7 V_ra_6 (j := (1 : Int32)) (w := (0 : Int32)) ⟨by decide, by decide⟩ rfl (g := (mkF m 39 #[.val (.ref x0), .val (.int (1 : Int32)), .val (.ref r), .val (.int (0 : Int32)), .val (.int (1 : Int32))] [(.int (1 : Int32)), (.ref ra)])) rfl rfl (hb hby d12_39) ?_
    refine XS.istore X7.here hx rfl (hb hby d12_40) rfl (l' := #[.val (.ref x0), .val (.int (1 : Int32)), .val (.ref r), .val (.int (0 : Int32)), .val (.int (0 : Int32))]) rfl ?_
    refine XS.goto X7.here hx rfl (pc0 := 42) (pc' := 15) rfl (hb hby d12_42) (by decide) (by decide) ?_
    show Steps p.tables e below (T7.setTop (mkF m 15 #[.val (.ref x0), .val (.int (1 : Int32)), .val (.ref r), .val (.int (0 : Int32)), .val (.int (0 : Int32))] [])) _
    refine XS.iload X7.here hx rfl (hb hby d12_15) rfl ?_
    refine XS.ifYes X7.here hx rfl (pc0 := 17) (pc' := 45) rfl (hb hby d12_17) rfl ((if0 _ _).trans (teq (by decide : (0 : Int32) = (0 : Int32))).1) (by decide) (by decide) ?_
    refine XS.aloadN X7.here hx rfl (hb hby d12_45) rfl rfl ?_
    exact retOut X7 hx (t := (.array .int)) (i := .areturn) Bd.returns rfl (Or.inr (Or.inr (Or.inr (Or.inr ⟨rfl, rfl, rfl⟩)))) (hb hby d12_46) hr
  · exact (by
      have eT : (T7.setFrames fs).heap = h5 := e7
      rw [eT]; exact ⟨r, _, rfl, N5, keep_6, sz_r, V_r_5⟩)
set_option maxRecDepth 65536 in
set_option maxHeartbeats 40000000 in
theorem rmh_2_2 (l : Launch) (Z : State) (a0 : Array Value) (hw : ∀ d ∈ tables_1, d.before a0 Z = true) (ws : List Jvm.Cond) (x0 : Addr) (ra ha sa t ka va : Addr) (kr kh ks : ClassId) (Kf : Nat → Int64) (Vf : Nat → Int32) (H1 : Int32) (H2 : Int32) (h0 : Heap) (n0 : Nat) (Z0 : n0 ≤ h0.size) (HS0 : HSS Z h0 x0 ra ha sa t ka va kr kh ks (3 : Int32) [(.int (-1 : Int32)), (.int (0 : Int32)), (.int (1 : Int32)), (.int (0 : Int32)), (.int (0 : Int32)), (.int (0 : Int32)), (.int (0 : Int32)), (.int (0 : Int32)), (.int (0 : Int32)), (.int (0 : Int32)), (.int (0 : Int32)), (.int (0 : Int32)), (.int (0 : Int32)), (.int (0 : Int32)), (.int (0 : Int32)), (.int (0 : Int32))] [(.int (-1 : Int32)), (.int H1), (.int H2), (.int (0 : Int32)), (.int (0 : Int32)), (.int (0 : Int32)), (.int (0 : Int32)), (.int (0 : Int32)), (.int (0 : Int32)), (.int (0 : Int32)), (.int (0 : Int32)), (.int (0 : Int32)), (.int (0 : Int32)), (.int (0 : Int32)), (.int (0 : Int32)), (.int (0 : Int32))] [(.int (0 : Int32)), (.int (1 : Int32)), (.int (2 : Int32)), (.int (0 : Int32)), (.int (0 : Int32)), (.int (0 : Int32)), (.int (0 : Int32)), (.int (0 : Int32)), (.int (0 : Int32)), (.int (0 : Int32)), (.int (0 : Int32)), (.int (0 : Int32)), (.int (0 : Int32)), (.int (0 : Int32)), (.int (0 : Int32)), (.int (0 : Int32))] (2 : Int32) Kf Vf) :
    MetFree l (⟨"com/example/rootline/rootline/reach/HolderSets", "holders", "(I)[I"⟩ : MethodName) (head1 (Jvm.Cond.code (⟨"com/example/rootline/rootline/reach/HolderSets", "holders", "(I)[I"⟩ : MethodName) prog_179_method_5_code 5 (some (.array .int)) :: ws) ({ frames := 0, cells := 1, slots := 2, locals := 0 } : Room)) (fun a U => a = #[(.ref x0), (.int (2 : Int32))] ∧ Z.Warmed39 U.vm ∧ U.heap = h0) (fun _ _ _ _ _ => True) (fun _ U o U' => ∃ v L, o = .returned v ∧ (QR Z (2 : Int32) [(.int H1), (.int H2)] h0 n0 v U'.heap L) ∧ FrameEnd U o U' L ({ frames := 0, cells := 1, slots := 2, locals := 0 } : Room).cells ({ frames := 0, cells := 1, slots := 2, locals := 0 } : Room).slots) := by
  refine MetFree.of_bodySF (plainFor_of_name pn_12) hisR ?_
  intro p e s m args below meth c s₁ Bd hml0 hP hK
  obtain ⟨rfl, hZ, hh⟩ := hP
  have hx := Bd.exec
  have hby := Bd.bytes
  have hml : c.maxLocals = 5 := hml0
  have hown : s.vm.findClass "com/example/rootline/rootline/reach/HolderSets" = some m.cls := findClass_of_methodNamed Bd.named
  have hnm := (name_of_methodNamed Bd.named Bd.method).1
  have X0 : Stand p l e ({ frames := 0, cells := 1, slots := 2, locals := 0 } : Room) s m #[(.ref x0), (.int (2 : Int32))] below meth c s₁ [] 0 0 := Stand.of_body Bd
  have e0 : s₁.heap = h0 := by rw [← hh, Bd.state]; rfl
  have N0 := Fr.nil n0
  have pre0 : ∀ t, Steps p.tables e below (s₁.setTop (mkF m 0 #[.val (.ref x0), .val (.int (2 : Int32)), .unset, .unset, .unset] [])) t → Steps p.tables e below (s₁.setTop (entryFrame m #[(.ref x0), (.int (2 : Int32))] 5)) t := fun t k => castTop (ef_12 m x0 (2 : Int32)) k
  obtain ⟨⟨o1, o2, o3, o4⟩, E_x0, F_rest_x0, F_highest_x0, F_sizes_x0, F_count_x0, F_withOne_x0, V_ra, V_ha, V_sa, ⟨o5, o6⟩, E_t, F_keys_t, F_values_t, F_size_t, V_ka, V_va⟩ := HS0
  have K0 : Keep h0 h0 [] := Keep.refl h0 []
  obtain ⟨T1, X1, e1, st1⟩ := getF X0 hx hZ hown (host := "") (Or.inl (hw _ (List.mem_of_getElem? (i := 16) rfl))) Via.refl e0 F_sizes_x0 (g := (mkF m 1 #[.val (.ref x0), .val (.int (2 : Int32)), .unset, .unset, .unset] [(.ref x0)])) rfl rfl (hb hby d12_1)
  obtain ⟨T2, h2, k2, X2, e2, E2, A2, st2⟩ := newP X1 hx hZ (hw _ (List.mem_of_getElem? (i := 11) rfl)) e1 (g := (mkF m 6 #[.val (.ref x0), .val (.int (2 : Int32)), .unset, .unset, .unset] [(.int (2 : Int32))])) rfl (hb hby d12_6) rfl (by decide) (cap := 2) (by decide) (by decide) (by decide) (by decide)
  obtain ⟨r, g2⟩ : ∃ z, z = h0.size := ⟨_, rfl⟩
  rw [← g2] at A2 st2
  have V_r_2 : Arv Z h2 r k2 .int (2 : Int32) [(.int (0 : Int32)), (.int (0 : Int32))] (.int (0 : Int32)) := (Arv.new A2 (by decide)).pad (pad_rep [] (.int (0 : Int32)) 2)
  have lt_ha_r : ha < r := Nat.lt_of_lt_of_le V_ha.lt (Nat.le_of_eq g2.symm)
  have lt_ka_r : ka < r := Nat.lt_of_lt_of_le V_ka.lt (Nat.le_of_eq g2.symm)
  have lt_ra_r : ra < r := Nat.lt_of_lt_of_le V_ra.lt (Nat.le_of_eq g2.symm)
  have lt_sa_r : sa < r := Nat.lt_of_lt_of_le V_sa.lt (Nat.le_of_eq g2.symm)
  have lt_t_r : t < r := Nat.lt_of_lt_of_le E_t.lt (Nat.le_of_eq g2.symm)
  have lt_va_r : va < r := Nat.lt_of_lt_of_le V_va.lt (Nat.le_of_eq g2.symm)
  have lt_x0_r : x0 < r := Nat.lt_of_lt_of_le E_x0.lt (Nat.le_of_eq g2.symm)
  have g_r : n0 ≤ r := Nat.le_trans Z0 (Nat.le_of_eq g2.symm)
  have sz_r : h0.size ≤ r := Nat.le_trans K0.1 (Nat.le_of_eq g2.symm)
  have E_x0_3 := E_x0.ext E2
  have F_rest_x0_3 := F_rest_x0.ext E2
  have F_highest_x0_3 := F_highest_x0.ext E2
  have F_sizes_x0_3 := F_sizes_x0.ext E2
  have F_count_x0_3 := F_count_x0.ext E2
  have F_withOne_x0_3 := F_withOne_x0.ext E2
  have V_ra_3 := V_ra.ext E2
  have V_ha_3 := V_ha.ext E2
  have V_sa_3 := V_sa.ext E2
  have E_t_3 := E_t.ext E2
  have F_keys_t_3 := F_keys_t.ext E2
  have F_values_t_3 := F_values_t.ext E2
  have F_size_t_3 := F_size_t.ext E2
  have V_ka_3 := V_ka.ext E2
  have V_va_3 := V_va.ext E2
  have keep_3 := K0.ext E2
  have siz_3 := Nat.le_trans Z0 E2.1
  obtain ⟨T4, X4, e4, st4⟩ := getF X2 hx hZ hown (host := "") (Or.inl (hw _ (List.mem_of_getElem? (i := 14) rfl))) Via.refl e2 F_highest_x0_3 (g := (mkF m 26 #[.val (.ref x0), .val (.int (2 : Int32)), .val (.ref r), .val (.int (1 : Int32)), .val (.int (2 : Int32))] [(.ref x0), (.int (1 : Int32)), (.ref r)])) rfl rfl (hb hby d12_26)
  obtain ⟨T5, h5, L5, X5, e5, N5, W5, V5, st5⟩ := own_stI X4 hx hZ e4 V_r_2 (j := (1 : Int32)) ⟨by decide, by decide⟩ (i := 1) rfl (Nat.le_of_ble_eq_true rfl) N0 g_r (g := (mkF m 32 #[.val (.ref x0), .val (.int (2 : Int32)), .val (.ref r), .val (.int (1 : Int32)), .val (.int (2 : Int32))] [(.int H2), (.int (1 : Int32)), (.ref r)])) rfl rfl (hb hby d12_32)
  have E_x0_6 := E_x0_3.wr W5
  have F_rest_x0_6 := F_rest_x0_3.other W5 (Or.inl (Nat.ne_of_lt lt_x0_r))
  have F_highest_x0_6 := F_highest_x0_3.other W5 (Or.inl (Nat.ne_of_lt lt_x0_r))
  have F_sizes_x0_6 := F_sizes_x0_3.other W5 (Or.inl (Nat.ne_of_lt lt_x0_r))
  have F_count_x0_6 := F_count_x0_3.other W5 (Or.inl (Nat.ne_of_lt lt_x0_r))
  have F_withOne_x0_6 := F_withOne_x0_3.other W5 (Or.inl (Nat.ne_of_lt lt_x0_r))
  have V_ra_6 := V_ra_3.other W5 (Nat.ne_of_lt lt_ra_r)
  have V_ha_6 := V_ha_3.other W5 (Nat.ne_of_lt lt_ha_r)
  have V_sa_6 := V_sa_3.other W5 (Nat.ne_of_lt lt_sa_r)
  have E_t_6 := E_t_3.wr W5
  have F_keys_t_6 := F_keys_t_3.other W5 (Or.inl (Nat.ne_of_lt lt_t_r))
  have F_values_t_6 := F_values_t_3.other W5 (Or.inl (Nat.ne_of_lt lt_t_r))
  have F_size_t_6 := F_size_t_3.other W5 (Or.inl (Nat.ne_of_lt lt_t_r))
  have V_ka_6 := V_ka_3.other W5 (Nat.ne_of_lt lt_ka_r)
  have V_va_6 := V_va_3.other W5 (Nat.ne_of_lt lt_va_r)
  have keep_6 := keep_3.wr W5 (Or.inr sz_r)
  have siz_6 := Nat.le_trans siz_3 (Keep.of_wr W5).1
  have V_r_5 : Arv Z h5 r k2 .int (2 : Int32) [(.int (0 : Int32)), (.int H2)] (.int (0 : Int32)) := V5
  obtain ⟨T7, X7, e7, st7⟩ := getF X5 hx hZ hown (host := "") (Or.inl (hw _ (List.mem_of_getElem? (i := 12) rfl))) Via.refl e5 F_rest_x0_6 (g := (mkF m 34 #[.val (.ref x0), .val (.int (2 : Int32)), .val (.ref r), .val (.int (1 : Int32)), .val (.int (2 : Int32))] [(.ref x0)])) rfl rfl (hb hby d12_34)
  obtain ⟨T8, X8, e8, st8⟩ := getF X7 hx hZ hown (host := "") (Or.inl (hw _ (List.mem_of_getElem? (i := 14) rfl))) Via.refl e7 F_highest_x0_6 (g := (mkF m 26 #[.val (.ref x0), .val (.int (2 : Int32)), .val (.ref r), .val (.int (0 : Int32)), .val (.int (1 : Int32))] [(.ref x0), (.int (0 : Int32)), (.ref r)])) rfl rfl (hb hby d12_26)
  obtain ⟨T9, h9, L9, X9, e9, N9, W9, V9, st9⟩ := own_stI X8 hx hZ e8 V_r_5 (j := (0 : Int32)) ⟨by decide, by decide⟩ (i := 0) rfl (Nat.le_of_ble_eq_true rfl) N5 g_r (g := (mkF m 32 #[.val (.ref x0), .val (.int (2 : Int32)), .val (.ref r), .val (.int (0 : Int32)), .val (.int (1 : Int32))] [(.int H1), (.int (0 : Int32)), (.ref r)])) rfl rfl (hb hby d12_32)
  have E_x0_10 := E_x0_6.wr W9
  have F_rest_x0_10 := F_rest_x0_6.other W9 (Or.inl (Nat.ne_of_lt lt_x0_r))
  have F_highest_x0_10 := F_highest_x0_6.other W9 (Or.inl (Nat.ne_of_lt lt_x0_r))
  have F_sizes_x0_10 := F_sizes_x0_6.other W9 (Or.inl (Nat.ne_of_lt lt_x0_r))
  have F_count_x0_10 := F_count_x0_6.other W9 (Or.inl (Nat.ne_of_lt lt_x0_r))
  have F_withOne_x0_10 := F_withOne_x0_6.other W9 (Or.inl (Nat.ne_of_lt lt_x0_r))
  have V_ra_10 := V_ra_6.other W9 (Nat.ne_of_lt lt_ra_r)
  have V_ha_10 := V_ha_6.other W9 (Nat.ne_of_lt lt_ha_r)
  have V_sa_10 := V_sa_6.other W9 (Nat.ne_of_lt lt_sa_r)
  have E_t_10 := E_t_6.wr W9
  have F_keys_t_10 := F_keys_t_6.other W9 (Or.inl (Nat.ne_of_lt lt_t_r))
  have F_values_t_10 := F_values_t_6.other W9 (Or.inl (Nat.ne_of_lt lt_t_r))
  have F_size_t_10 := F_size_t_6.other W9 (Or.inl (Nat.ne_of_lt lt_t_r))
  have V_ka_10 := V_ka_6.other W9 (Nat.ne_of_lt lt_ka_r)
  have V_va_10 := V_va_6.other W9 (Nat.ne_of_lt lt_va_r)
  have keep_10 := keep_6.wr W9 (Or.inr sz_r)
  have siz_10 := Nat.le_trans siz_6 (Keep.of_wr W9).1
  have V_r_9 : Arv Z h9 r k2 .int (2 : Int32) [(.int H1), (.int H2)] (.int (0 : Int32)) := V9
  obtain ⟨T11, X11, e11, st11⟩ := getF X9 hx hZ hown (host := "") (Or.inl (hw _ (List.mem_of_getElem? (i := 12) rfl))) Via.refl e9 F_rest_x0_10 (g := (mkF m 34 #[.val (.ref x0), .val (.int (2 : Int32)), .val (.ref r), .val (.int (0 : Int32)), .val (.int (1 : Int32))] [(.ref x0)])) rfl rfl (hb hby d12_34)
  obtain ⟨fs, hr, hrun, hended, hW, hsame⟩ := X11.leave (v := some (.ref r)) (fun h => by rw [Bd.returns] at h; cases h)
  refine ⟨_, _, pre0 _ ?_, hrun, hended, _, _, rfl, ?_, ⟨_, rfl⟩, hW, hsame.mono (by decide) (by decide)⟩
  · show Steps p.tables e below (s₁.setTop (mkF m 0 #[.val (.ref x0), .val (.int (2 : Int32)), .unset, .unset, .unset] [])) _
    refine XS.aloadN X0.here hx rfl (hb hby d12_0) rfl rfl ?_
    refine st1 _ ?_
    show Steps p.tables e below (T1.setTop (mkF m 4 #[.val (.ref x0), .val (.int (2 : Int32)), .unset, .unset, .unset] [(.ref sa)])) _
    refine XS.iloadN X1.here hx rfl (hb hby d12_4) rfl ?_
    show Steps p.tables e below (T1.setTop (mkF m 5 #[.val (.ref x0), .val (.int (2 : Int32)), .unset, .unset, .unset] [(.int (2 : Int32)), (.ref sa)])) _
    refine own_ldI X1 hx hZ e1 V_sa (j := (2 : Int32)) (w := (2 : Int32)) ⟨by decide, by decide⟩ rfl (g := (mkF m 5 #[.val (.ref x0), .val (.int (2 : Int32)), .unset, .unset, .unset] [(.int (2 : Int32)), (.ref sa)])) rfl rfl (hb hby d12_5) ?_
    refine st2 _ ?_
    show Steps p.tables e below (T2.setTop (mkF m 8 #[.val (.ref x0), .val (.int (2 : Int32)), .unset, .unset, .unset] [(.ref r)])) _
    refine XS.astoreN X2.here hx rfl (hb hby d12_8) rfl rfl (l' := #[.val (.ref x0), .val (.int (2 : Int32)), .val (.ref r), .unset, .unset]) rfl ?_
    refine XS.aloadN X2.here hx rfl (hb hby d12_9) rfl rfl ?_
    show Steps p.tables e below (T2.setTop (mkF m 10 #[.val (.ref x0), .val (.int (2 : Int32)), .val (.ref r), .unset, .unset] [(.ref r)])) _
    refine own_len X2 hx hZ e2 V_r_2 (g := (mkF m 10 #[.val (.ref x0), .val (.int (2 : Int32)), .val (.ref r), .unset, .unset] [(.ref r)])) rfl rfl (hb hby d12_10) ?_
    refine XS.istoreN X2.here hx rfl (hb hby d12_11) rfl (l' := #[.val (.ref x0), .val (.int (2 : Int32)), .val (.ref r), .val (.int (2 : Int32)), .unset]) rfl ?_
    refine XS.iloadN X2.here hx rfl (hb hby d12_12) rfl ?_
    refine XS.istore X2.here hx rfl (hb hby d12_13) rfl (l' := #[.val (.ref x0), .val (.int (2 : Int32)), .val (.ref r), .val (.int (2 : Int32)), .val (.int (2 : Int32))]) rfl ?_
    show Steps p.tables e below (T2.setTop (mkF m 15 #[.val (.ref x0), .val (.int (2 : Int32)), .val (.ref r), .val (.int (2 : Int32)), .val (.int (2 : Int32))] [])) _
    refine XS.iload X2.here hx rfl (hb hby d12_15) rfl ?_
    refine XS.ifNo X2.here hx rfl (hb hby d12_17) rfl ((if0 _ _).trans (feq (by decide : ¬ ((2 : Int32) = (0 : Int32)))).1) ?_
    refine XS.aloadN X2.here hx rfl (hb hby d12_20) rfl rfl ?_
    refine XS.iinc X2.here hx rfl (hb hby d12_21) rfl (l' := #[.val (.ref x0), .val (.int (2 : Int32)), .val (.ref r), .val (.int ((2 : Int32) + (-1 : Int32))), .val (.int (2 : Int32))]) rfl ?_
    show Steps p.tables e below (T2.setTop (mkF m 24 #[.val (.ref x0), .val (.int (2 : Int32)), .val (.ref r), .val (.int ((2 : Int32) + (-1 : Int32))), .val (.int (2 : Int32))] [(.ref r)])) _
    rw [show ((2 : Int32) + (-1 : Int32)) = (1 : Int32) from by decide]
    show Steps p.tables e below (T2.setTop (mkF m 24 #[.val (.ref x0), .val (.int (2 : Int32)), .val (.ref r), .val (.int (1 : Int32)), .val (.int (2 : Int32))] [(.ref r)])) _
    refine XS.iloadN X2.here hx rfl (hb hby d12_24) rfl ?_
    refine XS.aloadN X2.here hx rfl (hb hby d12_25) rfl rfl ?_
    refine st4 _ ?_
    show Steps p.tables e below (T4.setTop (mkF m 29 #[.val (.ref x0), .val (.int (2 : Int32)), .val (.ref r), .val (.int (1 : Int32)), .val (.int (2 : Int32))] [(.ref ha), (.int (1 : Int32)), (.ref r)])) _
    refine XS.iload X4.here hx rfl (hb hby d12_29) rfl ?_
    show Steps p.tables e below (T4.setTop (mkF m 31 #[.val (.ref x0), .val (.int (2 : Int32)), .val (.ref r), .val (.int (1 : Int32)), .val (.int (2 : Int32))] [(.int (2 : Int32)), (.ref ha), (.int (1 : Int32)), (.ref r)])) _
    refine own_ldI X4 hx hZ e4 V_ha_3 (j := (2 : Int32)) (w := H2) ⟨by decide, by decide⟩ rfl (g := (mkF m 31 #[.val (.ref x0), .val (.int (2 : Int32)), .val (.ref r), .val (.int (1 : Int32)), .val (.int (2 : Int32))] [(.int (2 : Int32)), (.ref ha), (.int (1 : Int32)), (.ref r)])) rfl rfl (hb hby d12_31) ?_
    refine st5 _ ?_
    show Steps p.tables e below (T5.setTop (mkF m 33 #[.val (.ref x0), .val (.int (2 : Int32)), .val (.ref r), .val (.int (1 : Int32)), .val (.int (2 : Int32))] [])) _
    refine XS.aloadN X5.here hx rfl (hb hby d12_33) rfl rfl ?_
    refine st7 _ ?_
    show Steps p.tables e below (T7.setTop (mkF m 37 #[.val (.ref x0), .val (.int (2 : Int32)), .val (.ref r), .val (.int (1 : Int32)), .val (.int (2 : Int32))] [(.ref ra)])) _
    refine XS.iload X7.here hx rfl (hb hby d12_37) rfl ?_
    refine own_ldI X7 hx hZ e7 V_ra_6 (j := (2 : Int32)) (w := (1 : Int32)) ⟨by decide, by decide⟩ rfl (g := (mkF m 39 #[.val (.ref x0), .val (.int (2 : Int32)), .val (.ref r), .val (.int (1 : Int32)), .val (.int (2 : Int32))] [(.int (2 : Int32)), (.ref ra)])) rfl rfl (hb hby d12_39) ?_
    refine XS.istore X7.here hx rfl (hb hby d12_40) rfl (l' := #[.val (.ref x0), .val (.int (2 : Int32)), .val (.ref r), .val (.int (1 : Int32)), .val (.int (1 : Int32))]) rfl ?_
    refine XS.goto X7.here hx rfl (pc0 := 42) (pc' := 15) rfl (hb hby d12_42) (by decide) (by decide) ?_
    show Steps p.tables e below (T7.setTop (mkF m 15 #[.val (.ref x0), .val (.int (2 : Int32)), .val (.ref r), .val (.int (1 : Int32)), .val (.int (1 : Int32))] [])) _
    refine XS.iload X7.here hx rfl (hb hby d12_15) rfl ?_
    refine XS.ifNo X7.here hx rfl (hb hby d12_17) rfl ((if0 _ _).trans (feq (by decide : ¬ ((1 : Int32) = (0 : Int32)))).1) ?_
    refine XS.aloadN X7.here hx rfl (hb hby d12_20) rfl rfl ?_
    refine XS.iinc X7.here hx rfl (hb hby d12_21) rfl (l' := #[.val (.ref x0), .val (.int (2 : Int32)), .val (.ref r), .val (.int ((1 : Int32) + (-1 : Int32))), .val (.int (1 : Int32))]) rfl ?_
    show Steps p.tables e below (T7.setTop (mkF m 24 #[.val (.ref x0), .val (.int (2 : Int32)), .val (.ref r), .val (.int ((1 : Int32) + (-1 : Int32))), .val (.int (1 : Int32))] [(.ref r)])) _
    rw [show ((1 : Int32) + (-1 : Int32)) = (0 : Int32) from by decide]
    show Steps p.tables e below (T7.setTop (mkF m 24 #[.val (.ref x0), .val (.int (2 : Int32)), .val (.ref r), .val (.int (0 : Int32)), .val (.int (1 : Int32))] [(.ref r)])) _
    refine XS.iloadN X7.here hx rfl (hb hby d12_24) rfl ?_
    refine XS.aloadN X7.here hx rfl (hb hby d12_25) rfl rfl ?_
    refine st8 _ ?_
    show Steps p.tables e below (T8.setTop (mkF m 29 #[.val (.ref x0), .val (.int (2 : Int32)), .val (.ref r), .val (.int (0 : Int32)), .val (.int (1 : Int32))] [(.ref ha), (.int (0 : Int32)), (.ref r)])) _
    refine XS.iload X8.here hx rfl (hb hby d12_29) rfl ?_
    show Steps p.tables e below (T8.setTop (mkF m 31 #[.val (.ref x0), .val (.int (2 : Int32)), .val (.ref r), .val (.int (0 : Int32)), .val (.int (1 : Int32))] [(.int (1 : Int32)), (.ref ha), (.int (0 : Int32)), (.ref r)])) _
    refine own_ldI X8 hx hZ e8 V_ha_6 (j := (1 : Int32)) (w := H1) ⟨by decide, by decide⟩ rfl (g := (mkF m 31 #[.val (.ref x0), .val (.int (2 : Int32)), .val (.ref r), .val (.int (0 : Int32)), .val (.int (1 : Int32))] [(.int (1 : Int32)), (.ref ha), (.int (0 : Int32)), (.ref r)])) rfl rfl (hb hby d12_31) ?_
    refine st9 _ ?_
    show Steps p.tables e below (T9.setTop (mkF m 33 #[.val (.ref x0), .val (.int (2 : Int32)), .val (.ref r), .val (.int (0 : Int32)), .val (.int (1 : Int32))] [])) _
    refine XS.aloadN X9.here hx rfl (hb hby d12_33) rfl rfl ?_
    refine st11 _ ?_
    show Steps p.tables e below (T11.setTop (mkF m 37 #[.val (.ref x0), .val (.int (2 : Int32)), .val (.ref r), .val (.int (0 : Int32)), .val (.int (1 : Int32))] [(.ref ra)])) _
    refine XS.iload X11.here hx rfl (hb hby d12_37) rfl ?_
    refine own_ldI X11 hx hZ e11 V_ra_10 (j := (1 : Int32)) (w := (0 : Int32)) ⟨by decide, by decide⟩ rfl (g := (mkF m 39 #[.val (.ref x0), .val (.int (2 : Int32)), .val (.ref r), .val (.int (0 : Int32)), .val (.int (1 : Int32))] [(.int (1 : Int32)), (.ref ra)])) rfl rfl (hb hby d12_39) ?_
    refine XS.istore X11.here hx rfl (hb hby d12_40) rfl (l' := #[.val (.ref x0), .val (.int (2 : Int32)), .val (.ref r), .val (.int (0 : Int32)), .val (.int (0 : Int32))]) rfl ?_
    refine XS.goto X11.here hx rfl (pc0 := 42) (pc' := 15) rfl (hb hby d12_42) (by decide) (by decide) ?_
    show Steps p.tables e below (T11.setTop (mkF m 15 #[.val (.ref x0), .val (.int (2 : Int32)), .val (.ref r), .val (.int (0 : Int32)), .val (.int (0 : Int32))] [])) _
    refine XS.iload X11.here hx rfl (hb hby d12_15) rfl ?_
    refine XS.ifYes X11.here hx rfl (pc0 := 17) (pc' := 45) rfl (hb hby d12_17) rfl ((if0 _ _).trans (teq (by decide : (0 : Int32) = (0 : Int32))).1) (by decide) (by decide) ?_
    refine XS.aloadN X11.here hx rfl (hb hby d12_45) rfl rfl ?_
    exact retOut X11 hx (t := (.array .int)) (i := .areturn) Bd.returns rfl (Or.inr (Or.inr (Or.inr (Or.inr ⟨rfl, rfl, rfl⟩)))) (hb hby d12_46) hr
  · exact (by
      have eT : (T11.setFrames fs).heap = h9 := e11
      rw [eT]; exact ⟨r, _, rfl, N9, keep_10, sz_r, V_r_9⟩)
set_option maxRecDepth 65536 in
set_option maxHeartbeats 40000000 in
theorem rmh_3_0 (l : Launch) (Z : State) (a0 : Array Value) (hw : ∀ d ∈ tables_1, d.before a0 Z = true) (ws : List Jvm.Cond) (x0 : Addr) (ra ha sa t ka va : Addr) (kr kh ks : ClassId) (Kf : Nat → Int64) (Vf : Nat → Int32) (H1 : Int32) (H2 : Int32) (H3 : Int32) (h0 : Heap) (n0 : Nat) (Z0 : n0 ≤ h0.size) (HS0 : HSS Z h0 x0 ra ha sa t ka va kr kh ks (4 : Int32) [(.int (-1 : Int32)), (.int (0 : Int32)), (.int (1 : Int32)), (.int (2 : Int32)), (.int (0 : Int32)), (.int (0 : Int32)), (.int (0 : Int32)), (.int (0 : Int32)), (.int (0 : Int32)), (.int (0 : Int32)), (.int (0 : Int32)), (.int (0 : Int32)), (.int (0 : Int32)), (.int (0 : Int32)), (.int (0 : Int32)), (.int (0 : Int32))] [(.int (-1 : Int32)), (.int H1), (.int H2), (.int H3), (.int (0 : Int32)), (.int (0 : Int32)), (.int (0 : Int32)), (.int (0 : Int32)), (.int (0 : Int32)), (.int (0 : Int32)), (.int (0 : Int32)), (.int (0 : Int32)), (.int (0 : Int32)), (.int (0 : Int32)), (.int (0 : Int32)), (.int (0 : Int32))] [(.int (0 : Int32)), (.int (1 : Int32)), (.int (2 : Int32)), (.int (3 : Int32)), (.int (0 : Int32)), (.int (0 : Int32)), (.int (0 : Int32)), (.int (0 : Int32)), (.int (0 : Int32)), (.int (0 : Int32)), (.int (0 : Int32)), (.int (0 : Int32)), (.int (0 : Int32)), (.int (0 : Int32)), (.int (0 : Int32)), (.int (0 : Int32))] (3 : Int32) Kf Vf) :
    MetFree l (⟨"com/example/rootline/rootline/reach/HolderSets", "holders", "(I)[I"⟩ : MethodName) (head1 (Jvm.Cond.code (⟨"com/example/rootline/rootline/reach/HolderSets", "holders", "(I)[I"⟩ : MethodName) prog_179_method_5_code 5 (some (.array .int)) :: ws) ({ frames := 0, cells := 1, slots := 0, locals := 0 } : Room)) (fun a U => a = #[(.ref x0), (.int (0 : Int32))] ∧ Z.Warmed39 U.vm ∧ U.heap = h0) (fun _ _ _ _ _ => True) (fun _ U o U' => ∃ v L, o = .returned v ∧ (QR Z (0 : Int32) [] h0 n0 v U'.heap L) ∧ FrameEnd U o U' L ({ frames := 0, cells := 1, slots := 0, locals := 0 } : Room).cells ({ frames := 0, cells := 1, slots := 0, locals := 0 } : Room).slots) := by
  refine MetFree.of_bodySF (plainFor_of_name pn_12) hisR ?_
  intro p e s m args below meth c s₁ Bd hml0 hP hK
  obtain ⟨rfl, hZ, hh⟩ := hP
  have hx := Bd.exec
  have hby := Bd.bytes
  have hml : c.maxLocals = 5 := hml0
  have hown : s.vm.findClass "com/example/rootline/rootline/reach/HolderSets" = some m.cls := findClass_of_methodNamed Bd.named
  have hnm := (name_of_methodNamed Bd.named Bd.method).1
  have X0 : Stand p l e ({ frames := 0, cells := 1, slots := 0, locals := 0 } : Room) s m #[(.ref x0), (.int (0 : Int32))] below meth c s₁ [] 0 0 := Stand.of_body Bd
  have e0 : s₁.heap = h0 := by rw [← hh, Bd.state]; rfl
  have N0 := Fr.nil n0
  have pre0 : ∀ t, Steps p.tables e below (s₁.setTop (mkF m 0 #[.val (.ref x0), .val (.int (0 : Int32)), .unset, .unset, .unset] [])) t → Steps p.tables e below (s₁.setTop (entryFrame m #[(.ref x0), (.int (0 : Int32))] 5)) t := fun t k => castTop (ef_12 m x0 (0 : Int32)) k
  obtain ⟨⟨o1, o2, o3, o4⟩, E_x0, F_rest_x0, F_highest_x0, F_sizes_x0, F_count_x0, F_withOne_x0, V_ra, V_ha, V_sa, ⟨o5, o6⟩, E_t, F_keys_t, F_values_t, F_size_t, V_ka, V_va⟩ := HS0
  have K0 : Keep h0 h0 [] := Keep.refl h0 []
  obtain ⟨T1, X1, e1, st1⟩ := getF X0 hx hZ hown (host := "") (Or.inl (hw _ (List.mem_of_getElem? (i := 16) rfl))) Via.refl e0 F_sizes_x0 (g := (mkF m 1 #[.val (.ref x0), .val (.int (0 : Int32)), .unset, .unset, .unset] [(.ref x0)])) rfl rfl (hb hby d12_1)
  obtain ⟨T2, h2, k2, X2, e2, E2, A2, st2⟩ := newP X1 hx hZ (hw _ (List.mem_of_getElem? (i := 11) rfl)) e1 (g := (mkF m 6 #[.val (.ref x0), .val (.int (0 : Int32)), .unset, .unset, .unset] [(.int (0 : Int32))])) rfl (hb hby d12_6) rfl (by decide) (cap := 0) (by decide) (by decide) (by decide) (by decide)
  obtain ⟨r, g2⟩ : ∃ z, z = h0.size := ⟨_, rfl⟩
  rw [← g2] at A2 st2
  have V_r_2 : Arv Z h2 r k2 .int (0 : Int32) [] (.int (0 : Int32)) := Arv.new A2 (by decide)
  have lt_ha_r : ha < r := Nat.lt_of_lt_of_le V_ha.lt (Nat.le_of_eq g2.symm)
  have lt_ka_r : ka < r := Nat.lt_of_lt_of_le V_ka.lt (Nat.le_of_eq g2.symm)
  have lt_ra_r : ra < r := Nat.lt_of_lt_of_le V_ra.lt (Nat.le_of_eq g2.symm)
  have lt_sa_r : sa < r := Nat.lt_of_lt_of_le V_sa.lt (Nat.le_of_eq g2.symm)
  have lt_t_r : t < r := Nat.lt_of_lt_of_le E_t.lt (Nat.le_of_eq g2.symm)
  have lt_va_r : va < r := Nat.lt_of_lt_of_le V_va.lt (Nat.le_of_eq g2.symm)
  have lt_x0_r : x0 < r := Nat.lt_of_lt_of_le E_x0.lt (Nat.le_of_eq g2.symm)
  have g_r : n0 ≤ r := Nat.le_trans Z0 (Nat.le_of_eq g2.symm)
  have sz_r : h0.size ≤ r := Nat.le_trans K0.1 (Nat.le_of_eq g2.symm)
  have E_x0_3 := E_x0.ext E2
  have F_rest_x0_3 := F_rest_x0.ext E2
  have F_highest_x0_3 := F_highest_x0.ext E2
  have F_sizes_x0_3 := F_sizes_x0.ext E2
  have F_count_x0_3 := F_count_x0.ext E2
  have F_withOne_x0_3 := F_withOne_x0.ext E2
  have V_ra_3 := V_ra.ext E2
  have V_ha_3 := V_ha.ext E2
  have V_sa_3 := V_sa.ext E2
  have E_t_3 := E_t.ext E2
  have F_keys_t_3 := F_keys_t.ext E2
  have F_values_t_3 := F_values_t.ext E2
  have F_size_t_3 := F_size_t.ext E2
  have V_ka_3 := V_ka.ext E2
  have V_va_3 := V_va.ext E2
  have keep_3 := K0.ext E2
  have siz_3 := Nat.le_trans Z0 E2.1
  obtain ⟨fs, hr, hrun, hended, hW, hsame⟩ := X2.leave (v := some (.ref r)) (fun h => by rw [Bd.returns] at h; cases h)
  refine ⟨_, _, pre0 _ ?_, hrun, hended, _, _, rfl, ?_, ⟨_, rfl⟩, hW, hsame.mono (by decide) (by decide)⟩
  · show Steps p.tables e below (s₁.setTop (mkF m 0 #[.val (.ref x0), .val (.int (0 : Int32)), .unset, .unset, .unset] [])) _
    refine XS.aloadN X0.here hx rfl (hb hby d12_0) rfl rfl ?_
    refine st1 _ ?_
    show Steps p.tables e below (T1.setTop (mkF m 4 #[.val (.ref x0), .val (.int (0 : Int32)), .unset, .unset, .unset] [(.ref sa)])) _
    refine XS.iloadN X1.here hx rfl (hb hby d12_4) rfl ?_
    show Steps p.tables e below (T1.setTop (mkF m 5 #[.val (.ref x0), .val (.int (0 : Int32)), .unset, .unset, .unset] [(.int (0 : Int32)), (.ref sa)])) _
    refine own_ldI X1 hx hZ e1 V_sa (j := (0 : Int32)) (w := (0 : Int32)) ⟨by decide, by decide⟩ rfl (g := (mkF m 5 #[.val (.ref x0), .val (.int (0 : Int32)), .unset, .unset, .unset] [(.int (0 : Int32)), (.ref sa)])) rfl rfl (hb hby d12_5) ?_
    refine st2 _ ?_
    show Steps p.tables e below (T2.setTop (mkF m 8 #[.val (.ref x0), .val (.int (0 : Int32)), .unset, .unset, .unset] [(.ref r)])) _
    refine XS.astoreN X2.here hx rfl (hb hby d12_8) rfl rfl (l' := #[.val (.ref x0), .val (.int (0 : Int32)), .val (.ref r), .unset, .unset]) rfl ?_
    refine XS.aloadN X2.here hx rfl (hb hby d12_9) rfl rfl ?_
    show Steps p.tables e below (T2.setTop (mkF m 10 #[.val (.ref x0), .val (.int (0 : Int32)), .val (.ref r), .unset, .unset] [(.ref r)])) _
    refine own_len X2 hx hZ e2 V_r_2 (g := (mkF m 10 #[.val (.ref x0), .val (.int (0 : Int32)), .val (.ref r), .unset, .unset] [(.ref r)])) rfl rfl (hb hby d12_10) ?_
    refine XS.istoreN X2.here hx rfl (hb hby d12_11) rfl (l' := #[.val (.ref x0), .val (.int (0 : Int32)), .val (.ref r), .val (.int (0 : Int32)), .unset]) rfl ?_
    refine XS.iloadN X2.here hx rfl (hb hby d12_12) rfl ?_
    refine XS.istore X2.here hx rfl (hb hby d12_13) rfl (l' := #[.val (.ref x0), .val (.int (0 : Int32)), .val (.ref r), .val (.int (0 : Int32)), .val (.int (0 : Int32))]) rfl ?_
    show Steps p.tables e below (T2.setTop (mkF m 15 #[.val (.ref x0), .val (.int (0 : Int32)), .val (.ref r), .val (.int (0 : Int32)), .val (.int (0 : Int32))] [])) _
    refine XS.iload X2.here hx rfl (hb hby d12_15) rfl ?_
    refine XS.ifYes X2.here hx rfl (pc0 := 17) (pc' := 45) rfl (hb hby d12_17) rfl ((if0 _ _).trans (teq (by decide : (0 : Int32) = (0 : Int32))).1) (by decide) (by decide) ?_
    refine XS.aloadN X2.here hx rfl (hb hby d12_45) rfl rfl ?_
    exact retOut X2 hx (t := (.array .int)) (i := .areturn) Bd.returns rfl (Or.inr (Or.inr (Or.inr (Or.inr ⟨rfl, rfl, rfl⟩)))) (hb hby d12_46) hr
  · exact (by
      have eT : (T2.setFrames fs).heap = h2 := e2
      rw [eT]; exact ⟨r, _, rfl, N0, keep_3, sz_r, V_r_2⟩)
set_option maxRecDepth 65536 in
set_option maxHeartbeats 40000000 in
theorem rmh_3_1 (l : Launch) (Z : State) (a0 : Array Value) (hw : ∀ d ∈ tables_1, d.before a0 Z = true) (ws : List Jvm.Cond) (x0 : Addr) (ra ha sa t ka va : Addr) (kr kh ks : ClassId) (Kf : Nat → Int64) (Vf : Nat → Int32) (H1 : Int32) (H2 : Int32) (H3 : Int32) (h0 : Heap) (n0 : Nat) (Z0 : n0 ≤ h0.size) (HS0 : HSS Z h0 x0 ra ha sa t ka va kr kh ks (4 : Int32) [(.int (-1 : Int32)), (.int (0 : Int32)), (.int (1 : Int32)), (.int (2 : Int32)), (.int (0 : Int32)), (.int (0 : Int32)), (.int (0 : Int32)), (.int (0 : Int32)), (.int (0 : Int32)), (.int (0 : Int32)), (.int (0 : Int32)), (.int (0 : Int32)), (.int (0 : Int32)), (.int (0 : Int32)), (.int (0 : Int32)), (.int (0 : Int32))] [(.int (-1 : Int32)), (.int H1), (.int H2), (.int H3), (.int (0 : Int32)), (.int (0 : Int32)), (.int (0 : Int32)), (.int (0 : Int32)), (.int (0 : Int32)), (.int (0 : Int32)), (.int (0 : Int32)), (.int (0 : Int32)), (.int (0 : Int32)), (.int (0 : Int32)), (.int (0 : Int32)), (.int (0 : Int32))] [(.int (0 : Int32)), (.int (1 : Int32)), (.int (2 : Int32)), (.int (3 : Int32)), (.int (0 : Int32)), (.int (0 : Int32)), (.int (0 : Int32)), (.int (0 : Int32)), (.int (0 : Int32)), (.int (0 : Int32)), (.int (0 : Int32)), (.int (0 : Int32)), (.int (0 : Int32)), (.int (0 : Int32)), (.int (0 : Int32)), (.int (0 : Int32))] (3 : Int32) Kf Vf) :
    MetFree l (⟨"com/example/rootline/rootline/reach/HolderSets", "holders", "(I)[I"⟩ : MethodName) (head1 (Jvm.Cond.code (⟨"com/example/rootline/rootline/reach/HolderSets", "holders", "(I)[I"⟩ : MethodName) prog_179_method_5_code 5 (some (.array .int)) :: ws) ({ frames := 0, cells := 1, slots := 1, locals := 0 } : Room)) (fun a U => a = #[(.ref x0), (.int (1 : Int32))] ∧ Z.Warmed39 U.vm ∧ U.heap = h0) (fun _ _ _ _ _ => True) (fun _ U o U' => ∃ v L, o = .returned v ∧ (QR Z (1 : Int32) [(.int H1)] h0 n0 v U'.heap L) ∧ FrameEnd U o U' L ({ frames := 0, cells := 1, slots := 1, locals := 0 } : Room).cells ({ frames := 0, cells := 1, slots := 1, locals := 0 } : Room).slots) := by
  refine MetFree.of_bodySF (plainFor_of_name pn_12) hisR ?_
  intro p e s m args below meth c s₁ Bd hml0 hP hK
  obtain ⟨rfl, hZ, hh⟩ := hP
  have hx := Bd.exec
  have hby := Bd.bytes
  have hml : c.maxLocals = 5 := hml0
  have hown : s.vm.findClass "com/example/rootline/rootline/reach/HolderSets" = some m.cls := findClass_of_methodNamed Bd.named
  have hnm := (name_of_methodNamed Bd.named Bd.method).1
  have X0 : Stand p l e ({ frames := 0, cells := 1, slots := 1, locals := 0 } : Room) s m #[(.ref x0), (.int (1 : Int32))] below meth c s₁ [] 0 0 := Stand.of_body Bd
  have e0 : s₁.heap = h0 := by rw [← hh, Bd.state]; rfl
  have N0 := Fr.nil n0
  have pre0 : ∀ t, Steps p.tables e below (s₁.setTop (mkF m 0 #[.val (.ref x0), .val (.int (1 : Int32)), .unset, .unset, .unset] [])) t → Steps p.tables e below (s₁.setTop (entryFrame m #[(.ref x0), (.int (1 : Int32))] 5)) t := fun t k => castTop (ef_12 m x0 (1 : Int32)) k
  obtain ⟨⟨o1, o2, o3, o4⟩, E_x0, F_rest_x0, F_highest_x0, F_sizes_x0, F_count_x0, F_withOne_x0, V_ra, V_ha, V_sa, ⟨o5, o6⟩, E_t, F_keys_t, F_values_t, F_size_t, V_ka, V_va⟩ := HS0
  have K0 : Keep h0 h0 [] := Keep.refl h0 []
  obtain ⟨T1, X1, e1, st1⟩ := getF X0 hx hZ hown (host := "") (Or.inl (hw _ (List.mem_of_getElem? (i := 16) rfl))) Via.refl e0 F_sizes_x0 (g := (mkF m 1 #[.val (.ref x0), .val (.int (1 : Int32)), .unset, .unset, .unset] [(.ref x0)])) rfl rfl (hb hby d12_1)
  obtain ⟨T2, h2, k2, X2, e2, E2, A2, st2⟩ := newP X1 hx hZ (hw _ (List.mem_of_getElem? (i := 11) rfl)) e1 (g := (mkF m 6 #[.val (.ref x0), .val (.int (1 : Int32)), .unset, .unset, .unset] [(.int (1 : Int32))])) rfl (hb hby d12_6) rfl (by decide) (cap := 1) (by decide) (by decide) (by decide) (by decide)
  obtain ⟨r, g2⟩ : ∃ z, z = h0.size := ⟨_, rfl⟩
  rw [← g2] at A2 st2
  have V_r_2 : Arv Z h2 r k2 .int (1 : Int32) [(.int (0 : Int32))] (.int (0 : Int32)) := (Arv.new A2 (by decide)).pad (pad_rep [] (.int (0 : Int32)) 1)
  have lt_ha_r : ha < r := Nat.lt_of_lt_of_le V_ha.lt (Nat.le_of_eq g2.symm)
  have lt_ka_r : ka < r := Nat.lt_of_lt_of_le V_ka.lt (Nat.le_of_eq g2.symm)
  have lt_ra_r : ra < r := Nat.lt_of_lt_of_le V_ra.lt (Nat.le_of_eq g2.symm)
  have lt_sa_r : sa < r := Nat.lt_of_lt_of_le V_sa.lt (Nat.le_of_eq g2.symm)
  have lt_t_r : t < r := Nat.lt_of_lt_of_le E_t.lt (Nat.le_of_eq g2.symm)
  have lt_va_r : va < r := Nat.lt_of_lt_of_le V_va.lt (Nat.le_of_eq g2.symm)
  have lt_x0_r : x0 < r := Nat.lt_of_lt_of_le E_x0.lt (Nat.le_of_eq g2.symm)
  have g_r : n0 ≤ r := Nat.le_trans Z0 (Nat.le_of_eq g2.symm)
  have sz_r : h0.size ≤ r := Nat.le_trans K0.1 (Nat.le_of_eq g2.symm)
  have E_x0_3 := E_x0.ext E2
  have F_rest_x0_3 := F_rest_x0.ext E2
  have F_highest_x0_3 := F_highest_x0.ext E2
  have F_sizes_x0_3 := F_sizes_x0.ext E2
  have F_count_x0_3 := F_count_x0.ext E2
  have F_withOne_x0_3 := F_withOne_x0.ext E2
  have V_ra_3 := V_ra.ext E2
  have V_ha_3 := V_ha.ext E2
  have V_sa_3 := V_sa.ext E2
  have E_t_3 := E_t.ext E2
  have F_keys_t_3 := F_keys_t.ext E2
  have F_values_t_3 := F_values_t.ext E2
  have F_size_t_3 := F_size_t.ext E2
  have V_ka_3 := V_ka.ext E2
  have V_va_3 := V_va.ext E2
  have keep_3 := K0.ext E2
  have siz_3 := Nat.le_trans Z0 E2.1
  obtain ⟨T4, X4, e4, st4⟩ := getF X2 hx hZ hown (host := "") (Or.inl (hw _ (List.mem_of_getElem? (i := 14) rfl))) Via.refl e2 F_highest_x0_3 (g := (mkF m 26 #[.val (.ref x0), .val (.int (1 : Int32)), .val (.ref r), .val (.int (0 : Int32)), .val (.int (1 : Int32))] [(.ref x0), (.int (0 : Int32)), (.ref r)])) rfl rfl (hb hby d12_26)
  obtain ⟨T5, h5, L5, X5, e5, N5, W5, V5, st5⟩ := own_stI X4 hx hZ e4 V_r_2 (j := (0 : Int32)) ⟨by decide, by decide⟩ (i := 0) rfl (Nat.le_of_ble_eq_true rfl) N0 g_r (g := (mkF m 32 #[.val (.ref x0), .val (.int (1 : Int32)), .val (.ref r), .val (.int (0 : Int32)), .val (.int (1 : Int32))] [(.int H1), (.int (0 : Int32)), (.ref r)])) rfl rfl (hb hby d12_32)
  have E_x0_6 := E_x0_3.wr W5
  have F_rest_x0_6 := F_rest_x0_3.other W5 (Or.inl (Nat.ne_of_lt lt_x0_r))
  have F_highest_x0_6 := F_highest_x0_3.other W5 (Or.inl (Nat.ne_of_lt lt_x0_r))
  have F_sizes_x0_6 := F_sizes_x0_3.other W5 (Or.inl (Nat.ne_of_lt lt_x0_r))
  have F_count_x0_6 := F_count_x0_3.other W5 (Or.inl (Nat.ne_of_lt lt_x0_r))
  have F_withOne_x0_6 := F_withOne_x0_3.other W5 (Or.inl (Nat.ne_of_lt lt_x0_r))
  have V_ra_6 := V_ra_3.other W5 (Nat.ne_of_lt lt_ra_r)
  have V_ha_6 := V_ha_3.other W5 (Nat.ne_of_lt lt_ha_r)
  have V_sa_6 := V_sa_3.other W5 (Nat.ne_of_lt lt_sa_r)
  have E_t_6 := E_t_3.wr W5
  have F_keys_t_6 := F_keys_t_3.other W5 (Or.inl (Nat.ne_of_lt lt_t_r))
  have F_values_t_6 := F_values_t_3.other W5 (Or.inl (Nat.ne_of_lt lt_t_r))
  have F_size_t_6 := F_size_t_3.other W5 (Or.inl (Nat.ne_of_lt lt_t_r))
  have V_ka_6 := V_ka_3.other W5 (Nat.ne_of_lt lt_ka_r)
  have V_va_6 := V_va_3.other W5 (Nat.ne_of_lt lt_va_r)
  have keep_6 := keep_3.wr W5 (Or.inr sz_r)
  have siz_6 := Nat.le_trans siz_3 (Keep.of_wr W5).1
  have V_r_5 : Arv Z h5 r k2 .int (1 : Int32) [(.int H1)] (.int (0 : Int32)) := V5
  obtain ⟨T7, X7, e7, st7⟩ := getF X5 hx hZ hown (host := "") (Or.inl (hw _ (List.mem_of_getElem? (i := 12) rfl))) Via.refl e5 F_rest_x0_6 (g := (mkF m 34 #[.val (.ref x0), .val (.int (1 : Int32)), .val (.ref r), .val (.int (0 : Int32)), .val (.int (1 : Int32))] [(.ref x0)])) rfl rfl (hb hby d12_34)
  obtain ⟨fs, hr, hrun, hended, hW, hsame⟩ := X7.leave (v := some (.ref r)) (fun h => by rw [Bd.returns] at h; cases h)
  refine ⟨_, _, pre0 _ ?_, hrun, hended, _, _, rfl, ?_, ⟨_, rfl⟩, hW, hsame.mono (by decide) (by decide)⟩
  · show Steps p.tables e below (s₁.setTop (mkF m 0 #[.val (.ref x0), .val (.int (1 : Int32)), .unset, .unset, .unset] [])) _
    refine XS.aloadN X0.here hx rfl (hb hby d12_0) rfl rfl ?_
    refine st1 _ ?_
    show Steps p.tables e below (T1.setTop (mkF m 4 #[.val (.ref x0), .val (.int (1 : Int32)), .unset, .unset, .unset] [(.ref sa)])) _
    refine XS.iloadN X1.here hx rfl (hb hby d12_4) rfl ?_
    show Steps p.tables e below (T1.setTop (mkF m 5 #[.val (.ref x0), .val (.int (1 : Int32)), .unset, .unset, .unset] [(.int (1 : Int32)), (.ref sa)])) _
    refine own_ldI X1 hx hZ e1 V_sa (j := (1 : Int32)) (w := (1 : Int32)) ⟨by decide, by decide⟩ rfl (g := (mkF m 5 #[.val (.ref x0), .val (.int (1 : Int32)), .unset, .unset, .unset] [(.int (1 : Int32)), (.ref sa)])) rfl rfl (hb hby d12_5) ?_
    refine st2 _ ?_
    show Steps p.tables e below (T2.setTop (mkF m 8 #[.val (.ref x0), .val (.int (1 : Int32)), .unset, .unset, .unset] [(.ref r)])) _
    refine XS.astoreN X2.here hx rfl (hb hby d12_8) rfl rfl (l' := #[.val (.ref x0), .val (.int (1 : Int32)), .val (.ref r), .unset, .unset]) rfl ?_
    refine XS.aloadN X2.here hx rfl (hb hby d12_9) rfl rfl ?_
    show Steps p.tables e below (T2.setTop (mkF m 10 #[.val (.ref x0), .val (.int (1 : Int32)), .val (.ref r), .unset, .unset] [(.ref r)])) _
    refine own_len X2 hx hZ e2 V_r_2 (g := (mkF m 10 #[.val (.ref x0), .val (.int (1 : Int32)), .val (.ref r), .unset, .unset] [(.ref r)])) rfl rfl (hb hby d12_10) ?_
    refine XS.istoreN X2.here hx rfl (hb hby d12_11) rfl (l' := #[.val (.ref x0), .val (.int (1 : Int32)), .val (.ref r), .val (.int (1 : Int32)), .unset]) rfl ?_
    refine XS.iloadN X2.here hx rfl (hb hby d12_12) rfl ?_
    refine XS.istore X2.here hx rfl (hb hby d12_13) rfl (l' := #[.val (.ref x0), .val (.int (1 : Int32)), .val (.ref r), .val (.int (1 : Int32)), .val (.int (1 : Int32))]) rfl ?_
    show Steps p.tables e below (T2.setTop (mkF m 15 #[.val (.ref x0), .val (.int (1 : Int32)), .val (.ref r), .val (.int (1 : Int32)), .val (.int (1 : Int32))] [])) _
    refine XS.iload X2.here hx rfl (hb hby d12_15) rfl ?_
    refine XS.ifNo X2.here hx rfl (hb hby d12_17) rfl ((if0 _ _).trans (feq (by decide : ¬ ((1 : Int32) = (0 : Int32)))).1) ?_
    refine XS.aloadN X2.here hx rfl (hb hby d12_20) rfl rfl ?_
    refine XS.iinc X2.here hx rfl (hb hby d12_21) rfl (l' := #[.val (.ref x0), .val (.int (1 : Int32)), .val (.ref r), .val (.int ((1 : Int32) + (-1 : Int32))), .val (.int (1 : Int32))]) rfl ?_
    show Steps p.tables e below (T2.setTop (mkF m 24 #[.val (.ref x0), .val (.int (1 : Int32)), .val (.ref r), .val (.int ((1 : Int32) + (-1 : Int32))), .val (.int (1 : Int32))] [(.ref r)])) _
    rw [show ((1 : Int32) + (-1 : Int32)) = (0 : Int32) from by decide]
    show Steps p.tables e below (T2.setTop (mkF m 24 #[.val (.ref x0), .val (.int (1 : Int32)), .val (.ref r), .val (.int (0 : Int32)), .val (.int (1 : Int32))] [(.ref r)])) _
    refine XS.iloadN X2.here hx rfl (hb hby d12_24) rfl ?_
    refine XS.aloadN X2.here hx rfl (hb hby d12_25) rfl rfl ?_
    refine st4 _ ?_
    show Steps p.tables e below (T4.setTop (mkF m 29 #[.val (.ref x0), .val (.int (1 : Int32)), .val (.ref r), .val (.int (0 : Int32)), .val (.int (1 : Int32))] [(.ref ha), (.int (0 : Int32)), (.ref r)])) _
    refine XS.iload X4.here hx rfl (hb hby d12_29) rfl ?_
    show Steps p.tables e below (T4.setTop (mkF m 31 #[.val (.ref x0), .val (.int (1 : Int32)), .val (.ref r), .val (.int (0 : Int32)), .val (.int (1 : Int32))] [(.int (1 : Int32)), (.ref ha), (.int (0 : Int32)), (.ref r)])) _
    refine own_ldI X4 hx hZ e4 V_ha_3 (j := (1 : Int32)) (w := H1) ⟨by decide, by decide⟩ rfl (g := (mkF m 31 #[.val (.ref x0), .val (.int (1 : Int32)), .val (.ref r), .val (.int (0 : Int32)), .val (.int (1 : Int32))] [(.int (1 : Int32)), (.ref ha), (.int (0 : Int32)), (.ref r)])) rfl rfl (hb hby d12_31) ?_
    refine st5 _ ?_
    show Steps p.tables e below (T5.setTop (mkF m 33 #[.val (.ref x0), .val (.int (1 : Int32)), .val (.ref r), .val (.int (0 : Int32)), .val (.int (1 : Int32))] [])) _
    refine XS.aloadN X5.here hx rfl (hb hby d12_33) rfl rfl ?_
    refine st7 _ ?_
    show Steps p.tables e below (T7.setTop (mkF m 37 #[.val (.ref x0), .val (.int (1 : Int32)), .val (.ref r), .val (.int (0 : Int32)), .val (.int (1 : Int32))] [(.ref ra)])) _
    refine XS.iload X7.here hx rfl (hb hby d12_37) rfl ?_
    refine own_ldI X7 hx hZ e7 V_ra_6 (j := (1 : Int32)) (w := (0 : Int32)) ⟨by decide, by decide⟩ rfl (g := (mkF m 39 #[.val (.ref x0), .val (.int (1 : Int32)), .val (.ref r), .val (.int (0 : Int32)), .val (.int (1 : Int32))] [(.int (1 : Int32)), (.ref ra)])) rfl rfl (hb hby d12_39) ?_
    refine XS.istore X7.here hx rfl (hb hby d12_40) rfl (l' := #[.val (.ref x0), .val (.int (1 : Int32)), .val (.ref r), .val (.int (0 : Int32)), .val (.int (0 : Int32))]) rfl ?_
    refine XS.goto X7.here hx rfl (pc0 := 42) (pc' := 15) rfl (hb hby d12_42) (by decide) (by decide) ?_
    show Steps p.tables e below (T7.setTop (mkF m 15 #[.val (.ref x0), .val (.int (1 : Int32)), .val (.ref r), .val (.int (0 : Int32)), .val (.int (0 : Int32))] [])) _
    refine XS.iload X7.here hx rfl (hb hby d12_15) rfl ?_
    refine XS.ifYes X7.here hx rfl (pc0 := 17) (pc' := 45) rfl (hb hby d12_17) rfl ((if0 _ _).trans (teq (by decide : (0 : Int32) = (0 : Int32))).1) (by decide) (by decide) ?_
    refine XS.aloadN X7.here hx rfl (hb hby d12_45) rfl rfl ?_
    exact retOut X7 hx (t := (.array .int)) (i := .areturn) Bd.returns rfl (Or.inr (Or.inr (Or.inr (Or.inr ⟨rfl, rfl, rfl⟩)))) (hb hby d12_46) hr
  · exact (by
      have eT : (T7.setFrames fs).heap = h5 := e7
      rw [eT]; exact ⟨r, _, rfl, N5, keep_6, sz_r, V_r_5⟩)
set_option maxRecDepth 65536 in
set_option maxHeartbeats 40000000 in
theorem rmh_3_2 (l : Launch) (Z : State) (a0 : Array Value) (hw : ∀ d ∈ tables_1, d.before a0 Z = true) (ws : List Jvm.Cond) (x0 : Addr) (ra ha sa t ka va : Addr) (kr kh ks : ClassId) (Kf : Nat → Int64) (Vf : Nat → Int32) (H1 : Int32) (H2 : Int32) (H3 : Int32) (h0 : Heap) (n0 : Nat) (Z0 : n0 ≤ h0.size) (HS0 : HSS Z h0 x0 ra ha sa t ka va kr kh ks (4 : Int32) [(.int (-1 : Int32)), (.int (0 : Int32)), (.int (1 : Int32)), (.int (2 : Int32)), (.int (0 : Int32)), (.int (0 : Int32)), (.int (0 : Int32)), (.int (0 : Int32)), (.int (0 : Int32)), (.int (0 : Int32)), (.int (0 : Int32)), (.int (0 : Int32)), (.int (0 : Int32)), (.int (0 : Int32)), (.int (0 : Int32)), (.int (0 : Int32))] [(.int (-1 : Int32)), (.int H1), (.int H2), (.int H3), (.int (0 : Int32)), (.int (0 : Int32)), (.int (0 : Int32)), (.int (0 : Int32)), (.int (0 : Int32)), (.int (0 : Int32)), (.int (0 : Int32)), (.int (0 : Int32)), (.int (0 : Int32)), (.int (0 : Int32)), (.int (0 : Int32)), (.int (0 : Int32))] [(.int (0 : Int32)), (.int (1 : Int32)), (.int (2 : Int32)), (.int (3 : Int32)), (.int (0 : Int32)), (.int (0 : Int32)), (.int (0 : Int32)), (.int (0 : Int32)), (.int (0 : Int32)), (.int (0 : Int32)), (.int (0 : Int32)), (.int (0 : Int32)), (.int (0 : Int32)), (.int (0 : Int32)), (.int (0 : Int32)), (.int (0 : Int32))] (3 : Int32) Kf Vf) :
    MetFree l (⟨"com/example/rootline/rootline/reach/HolderSets", "holders", "(I)[I"⟩ : MethodName) (head1 (Jvm.Cond.code (⟨"com/example/rootline/rootline/reach/HolderSets", "holders", "(I)[I"⟩ : MethodName) prog_179_method_5_code 5 (some (.array .int)) :: ws) ({ frames := 0, cells := 1, slots := 2, locals := 0 } : Room)) (fun a U => a = #[(.ref x0), (.int (2 : Int32))] ∧ Z.Warmed39 U.vm ∧ U.heap = h0) (fun _ _ _ _ _ => True) (fun _ U o U' => ∃ v L, o = .returned v ∧ (QR Z (2 : Int32) [(.int H1), (.int H2)] h0 n0 v U'.heap L) ∧ FrameEnd U o U' L ({ frames := 0, cells := 1, slots := 2, locals := 0 } : Room).cells ({ frames := 0, cells := 1, slots := 2, locals := 0 } : Room).slots) := by
  refine MetFree.of_bodySF (plainFor_of_name pn_12) hisR ?_
  intro p e s m args below meth c s₁ Bd hml0 hP hK
  obtain ⟨rfl, hZ, hh⟩ := hP
  have hx := Bd.exec
  have hby := Bd.bytes
  have hml : c.maxLocals = 5 := hml0
  have hown : s.vm.findClass "com/example/rootline/rootline/reach/HolderSets" = some m.cls := findClass_of_methodNamed Bd.named
  have hnm := (name_of_methodNamed Bd.named Bd.method).1
  have X0 : Stand p l e ({ frames := 0, cells := 1, slots := 2, locals := 0 } : Room) s m #[(.ref x0), (.int (2 : Int32))] below meth c s₁ [] 0 0 := Stand.of_body Bd
  have e0 : s₁.heap = h0 := by rw [← hh, Bd.state]; rfl
  have N0 := Fr.nil n0
  have pre0 : ∀ t, Steps p.tables e below (s₁.setTop (mkF m 0 #[.val (.ref x0), .val (.int (2 : Int32)), .unset, .unset, .unset] [])) t → Steps p.tables e below (s₁.setTop (entryFrame m #[(.ref x0), (.int (2 : Int32))] 5)) t := fun t k => castTop (ef_12 m x0 (2 : Int32)) k
  obtain ⟨⟨o1, o2, o3, o4⟩, E_x0, F_rest_x0, F_highest_x0, F_sizes_x0, F_count_x0, F_withOne_x0, V_ra, V_ha, V_sa, ⟨o5, o6⟩, E_t, F_keys_t, F_values_t, F_size_t, V_ka, V_va⟩ := HS0
  have K0 : Keep h0 h0 [] := Keep.refl h0 []
  obtain ⟨T1, X1, e1, st1⟩ := getF X0 hx hZ hown (host := "") (Or.inl (hw _ (List.mem_of_getElem? (i := 16) rfl))) Via.refl e0 F_sizes_x0 (g := (mkF m 1 #[.val (.ref x0), .val (.int (2 : Int32)), .unset, .unset, .unset] [(.ref x0)])) rfl rfl (hb hby d12_1)
  obtain ⟨T2, h2, k2, X2, e2, E2, A2, st2⟩ := newP X1 hx hZ (hw _ (List.mem_of_getElem? (i := 11) rfl)) e1 (g := (mkF m 6 #[.val (.ref x0), .val (.int (2 : Int32)), .unset, .unset, .unset] [(.int (2 : Int32))])) rfl (hb hby d12_6) rfl (by decide) (cap := 2) (by decide) (by decide) (by decide) (by decide)
  obtain ⟨r, g2⟩ : ∃ z, z = h0.size := ⟨_, rfl⟩
  rw [← g2] at A2 st2
  have V_r_2 : Arv Z h2 r k2 .int (2 : Int32) [(.int (0 : Int32)), (.int (0 : Int32))] (.int (0 : Int32)) := (Arv.new A2 (by decide)).pad (pad_rep [] (.int (0 : Int32)) 2)
  have lt_ha_r : ha < r := Nat.lt_of_lt_of_le V_ha.lt (Nat.le_of_eq g2.symm)
  have lt_ka_r : ka < r := Nat.lt_of_lt_of_le V_ka.lt (Nat.le_of_eq g2.symm)
  have lt_ra_r : ra < r := Nat.lt_of_lt_of_le V_ra.lt (Nat.le_of_eq g2.symm)
  have lt_sa_r : sa < r := Nat.lt_of_lt_of_le V_sa.lt (Nat.le_of_eq g2.symm)
  have lt_t_r : t < r := Nat.lt_of_lt_of_le E_t.lt (Nat.le_of_eq g2.symm)
  have lt_va_r : va < r := Nat.lt_of_lt_of_le V_va.lt (Nat.le_of_eq g2.symm)
  have lt_x0_r : x0 < r := Nat.lt_of_lt_of_le E_x0.lt (Nat.le_of_eq g2.symm)
  have g_r : n0 ≤ r := Nat.le_trans Z0 (Nat.le_of_eq g2.symm)
  have sz_r : h0.size ≤ r := Nat.le_trans K0.1 (Nat.le_of_eq g2.symm)
  have E_x0_3 := E_x0.ext E2
  have F_rest_x0_3 := F_rest_x0.ext E2
  have F_highest_x0_3 := F_highest_x0.ext E2
  have F_sizes_x0_3 := F_sizes_x0.ext E2
  have F_count_x0_3 := F_count_x0.ext E2
  have F_withOne_x0_3 := F_withOne_x0.ext E2
  have V_ra_3 := V_ra.ext E2
  have V_ha_3 := V_ha.ext E2
  have V_sa_3 := V_sa.ext E2
  have E_t_3 := E_t.ext E2
  have F_keys_t_3 := F_keys_t.ext E2
  have F_values_t_3 := F_values_t.ext E2
  have F_size_t_3 := F_size_t.ext E2
  have V_ka_3 := V_ka.ext E2
  have V_va_3 := V_va.ext E2
  have keep_3 := K0.ext E2
  have siz_3 := Nat.le_trans Z0 E2.1
  obtain ⟨T4, X4, e4, st4⟩ := getF X2 hx hZ hown (host := "") (Or.inl (hw _ (List.mem_of_getElem? (i := 14) rfl))) Via.refl e2 F_highest_x0_3 (g := (mkF m 26 #[.val (.ref x0), .val (.int (2 : Int32)), .val (.ref r), .val (.int (1 : Int32)), .val (.int (2 : Int32))] [(.ref x0), (.int (1 : Int32)), (.ref r)])) rfl rfl (hb hby d12_26)
  obtain ⟨T5, h5, L5, X5, e5, N5, W5, V5, st5⟩ := own_stI X4 hx hZ e4 V_r_2 (j := (1 : Int32)) ⟨by decide, by decide⟩ (i := 1) rfl (Nat.le_of_ble_eq_true rfl) N0 g_r (g := (mkF m 32 #[.val (.ref x0), .val (.int (2 : Int32)), .val (.ref r), .val (.int (1 : Int32)), .val (.int (2 : Int32))] [(.int H2), (.int (1 : Int32)), (.ref r)])) rfl rfl (hb hby d12_32)
  have E_x0_6 := E_x0_3.wr W5
  have F_rest_x0_6 := F_rest_x0_3.other W5 (Or.inl (Nat.ne_of_lt lt_x0_r))
  have F_highest_x0_6 := F_highest_x0_3.other W5 (Or.inl (Nat.ne_of_lt lt_x0_r))
  have F_sizes_x0_6 := F_sizes_x0_3.other W5 (Or.inl (Nat.ne_of_lt lt_x0_r))
  have F_count_x0_6 := F_count_x0_3.other W5 (Or.inl (Nat.ne_of_lt lt_x0_r))
  have F_withOne_x0_6 := F_withOne_x0_3.other W5 (Or.inl (Nat.ne_of_lt lt_x0_r))
  have V_ra_6 := V_ra_3.other W5 (Nat.ne_of_lt lt_ra_r)
  have V_ha_6 := V_ha_3.other W5 (Nat.ne_of_lt lt_ha_r)
  have V_sa_6 := V_sa_3.other W5 (Nat.ne_of_lt lt_sa_r)
  have E_t_6 := E_t_3.wr W5
  have F_keys_t_6 := F_keys_t_3.other W5 (Or.inl (Nat.ne_of_lt lt_t_r))
  have F_values_t_6 := F_values_t_3.other W5 (Or.inl (Nat.ne_of_lt lt_t_r))
  have F_size_t_6 := F_size_t_3.other W5 (Or.inl (Nat.ne_of_lt lt_t_r))
  have V_ka_6 := V_ka_3.other W5 (Nat.ne_of_lt lt_ka_r)
  have V_va_6 := V_va_3.other W5 (Nat.ne_of_lt lt_va_r)
  have keep_6 := keep_3.wr W5 (Or.inr sz_r)
  have siz_6 := Nat.le_trans siz_3 (Keep.of_wr W5).1
  have V_r_5 : Arv Z h5 r k2 .int (2 : Int32) [(.int (0 : Int32)), (.int H2)] (.int (0 : Int32)) := V5
  obtain ⟨T7, X7, e7, st7⟩ := getF X5 hx hZ hown (host := "") (Or.inl (hw _ (List.mem_of_getElem? (i := 12) rfl))) Via.refl e5 F_rest_x0_6 (g := (mkF m 34 #[.val (.ref x0), .val (.int (2 : Int32)), .val (.ref r), .val (.int (1 : Int32)), .val (.int (2 : Int32))] [(.ref x0)])) rfl rfl (hb hby d12_34)
  obtain ⟨T8, X8, e8, st8⟩ := getF X7 hx hZ hown (host := "") (Or.inl (hw _ (List.mem_of_getElem? (i := 14) rfl))) Via.refl e7 F_highest_x0_6 (g := (mkF m 26 #[.val (.ref x0), .val (.int (2 : Int32)), .val (.ref r), .val (.int (0 : Int32)), .val (.int (1 : Int32))] [(.ref x0), (.int (0 : Int32)), (.ref r)])) rfl rfl (hb hby d12_26)
  obtain ⟨T9, h9, L9, X9, e9, N9, W9, V9, st9⟩ := own_stI X8 hx hZ e8 V_r_5 (j := (0 : Int32)) ⟨by decide, by decide⟩ (i := 0) rfl (Nat.le_of_ble_eq_true rfl) N5 g_r (g := (mkF m 32 #[.val (.ref x0), .val (.int (2 : Int32)), .val (.ref r), .val (.int (0 : Int32)), .val (.int (1 : Int32))] [(.int H1), (.int (0 : Int32)), (.ref r)])) rfl rfl (hb hby d12_32)
  have E_x0_10 := E_x0_6.wr W9
  have F_rest_x0_10 := F_rest_x0_6.other W9 (Or.inl (Nat.ne_of_lt lt_x0_r))
  have F_highest_x0_10 := F_highest_x0_6.other W9 (Or.inl (Nat.ne_of_lt lt_x0_r))
  have F_sizes_x0_10 := F_sizes_x0_6.other W9 (Or.inl (Nat.ne_of_lt lt_x0_r))
  have F_count_x0_10 := F_count_x0_6.other W9 (Or.inl (Nat.ne_of_lt lt_x0_r))
  have F_withOne_x0_10 := F_withOne_x0_6.other W9 (Or.inl (Nat.ne_of_lt lt_x0_r))
  have V_ra_10 := V_ra_6.other W9 (Nat.ne_of_lt lt_ra_r)
  have V_ha_10 := V_ha_6.other W9 (Nat.ne_of_lt lt_ha_r)
  have V_sa_10 := V_sa_6.other W9 (Nat.ne_of_lt lt_sa_r)
  have E_t_10 := E_t_6.wr W9
  have F_keys_t_10 := F_keys_t_6.other W9 (Or.inl (Nat.ne_of_lt lt_t_r))
  have F_values_t_10 := F_values_t_6.other W9 (Or.inl (Nat.ne_of_lt lt_t_r))
  have F_size_t_10 := F_size_t_6.other W9 (Or.inl (Nat.ne_of_lt lt_t_r))
  have V_ka_10 := V_ka_6.other W9 (Nat.ne_of_lt lt_ka_r)
  have V_va_10 := V_va_6.other W9 (Nat.ne_of_lt lt_va_r)
  have keep_10 := keep_6.wr W9 (Or.inr sz_r)
  have siz_10 := Nat.le_trans siz_6 (Keep.of_wr W9).1
  have V_r_9 : Arv Z h9 r k2 .int (2 : Int32) [(.int H1), (.int H2)] (.int (0 : Int32)) := V9
  obtain ⟨T11, X11, e11, st11⟩ := getF X9 hx hZ hown (host := "") (Or.inl (hw _ (List.mem_of_getElem? (i := 12) rfl))) Via.refl e9 F_rest_x0_10 (g := (mkF m 34 #[.val (.ref x0), .val (.int (2 : Int32)), .val (.ref r), .val (.int (0 : Int32)), .val (.int (1 : Int32))] [(.ref x0)])) rfl rfl (hb hby d12_34)
  obtain ⟨fs, hr, hrun, hended, hW, hsame⟩ := X11.leave (v := some (.ref r)) (fun h => by rw [Bd.returns] at h; cases h)
  refine ⟨_, _, pre0 _ ?_, hrun, hended, _, _, rfl, ?_, ⟨_, rfl⟩, hW, hsame.mono (by decide) (by decide)⟩
  · show Steps p.tables e below (s₁.setTop (mkF m 0 #[.val (.ref x0), .val (.int (2 : Int32)), .unset, .unset, .unset] [])) _
    refine XS.aloadN X0.here hx rfl (hb hby d12_0) rfl rfl ?_
    refine st1 _ ?_
    show Steps p.tables e below (T1.setTop (mkF m 4 #[.val (.ref x0), .val (.int (2 : Int32)), .unset, .unset, .unset] [(.ref sa)])) _
    refine XS.iloadN X1.here hx rfl (hb hby d12_4) rfl ?_
    show Steps p.tables e below (T1.setTop (mkF m 5 #[.val (.ref x0), .val (.int (2 : Int32)), .unset, .unset, .unset] [(.int (2 : Int32)), (.ref sa)])) _
    refine own_ldI X1 hx hZ e1 V_sa (j := (2 : Int32)) (w := (2 : Int32)) ⟨by decide, by decide⟩ rfl (g := (mkF m 5 #[.val (.ref x0), .val (.int (2 : Int32)), .unset, .unset, .unset] [(.int (2 : Int32)), (.ref sa)])) rfl rfl (hb hby d12_5) ?_
    refine st2 _ ?_
    show Steps p.tables e below (T2.setTop (mkF m 8 #[.val (.ref x0), .val (.int (2 : Int32)), .unset, .unset, .unset] [(.ref r)])) _
    refine XS.astoreN X2.here hx rfl (hb hby d12_8) rfl rfl (l' := #[.val (.ref x0), .val (.int (2 : Int32)), .val (.ref r), .unset, .unset]) rfl ?_
    refine XS.aloadN X2.here hx rfl (hb hby d12_9) rfl rfl ?_
    show Steps p.tables e below (T2.setTop (mkF m 10 #[.val (.ref x0), .val (.int (2 : Int32)), .val (.ref r), .unset, .unset] [(.ref r)])) _
    refine own_len X2 hx hZ e2 V_r_2 (g := (mkF m 10 #[.val (.ref x0), .val (.int (2 : Int32)), .val (.ref r), .unset, .unset] [(.ref r)])) rfl rfl (hb hby d12_10) ?_
    refine XS.istoreN X2.here hx rfl (hb hby d12_11) rfl (l' := #[.val (.ref x0), .val (.int (2 : Int32)), .val (.ref r), .val (.int (2 : Int32)), .unset]) rfl ?_
    refine XS.iloadN X2.here hx rfl (hb hby d12_12) rfl ?_
    refine XS.istore X2.here hx rfl (hb hby d12_13) rfl (l' := #[.val (.ref x0), .val (.int (2 : Int32)), .val (.ref r), .val (.int (2 : Int32)), .val (.int (2 : Int32))]) rfl ?_
    show Steps p.tables e below (T2.setTop (mkF m 15 #[.val (.ref x0), .val (.int (2 : Int32)), .val (.ref r), .val (.int (2 : Int32)), .val (.int (2 : Int32))] [])) _
    refine XS.iload X2.here hx rfl (hb hby d12_15) rfl ?_
    refine XS.ifNo X2.here hx rfl (hb hby d12_17) rfl ((if0 _ _).trans (feq (by decide : ¬ ((2 : Int32) = (0 : Int32)))).1) ?_
    refine XS.aloadN X2.here hx rfl (hb hby d12_20) rfl rfl ?_
    refine XS.iinc X2.here hx rfl (hb hby d12_21) rfl (l' := #[.val (.ref x0), .val (.int (2 : Int32)), .val (.ref r), .val (.int ((2 : Int32) + (-1 : Int32))), .val (.int (2 : Int32))]) rfl ?_
    show Steps p.tables e below (T2.setTop (mkF m 24 #[.val (.ref x0), .val (.int (2 : Int32)), .val (.ref r), .val (.int ((2 : Int32) + (-1 : Int32))), .val (.int (2 : Int32))] [(.ref r)])) _
    rw [show ((2 : Int32) + (-1 : Int32)) = (1 : Int32) from by decide]
    show Steps p.tables e below (T2.setTop (mkF m 24 #[.val (.ref x0), .val (.int (2 : Int32)), .val (.ref r), .val (.int (1 : Int32)), .val (.int (2 : Int32))] [(.ref r)])) _
    refine XS.iloadN X2.here hx rfl (hb hby d12_24) rfl ?_
    refine XS.aloadN X2.here hx rfl (hb hby d12_25) rfl rfl ?_
    refine st4 _ ?_
    show Steps p.tables e below (T4.setTop (mkF m 29 #[.val (.ref x0), .val (.int (2 : Int32)), .val (.ref r), .val (.int (1 : Int32)), .val (.int (2 : Int32))] [(.ref ha), (.int (1 : Int32)), (.ref r)])) _
    refine XS.iload X4.here hx rfl (hb hby d12_29) rfl ?_
    show Steps p.tables e below (T4.setTop (mkF m 31 #[.val (.ref x0), .val (.int (2 : Int32)), .val (.ref r), .val (.int (1 : Int32)), .val (.int (2 : Int32))] [(.int (2 : Int32)), (.ref ha), (.int (1 : Int32)), (.ref r)])) _
    refine own_ldI X4 hx hZ e4 V_ha_3 (j := (2 : Int32)) (w := H2) ⟨by decide, by decide⟩ rfl (g := (mkF m 31 #[.val (.ref x0), .val (.int (2 : Int32)), .val (.ref r), .val (.int (1 : Int32)), .val (.int (2 : Int32))] [(.int (2 : Int32)), (.ref ha), (.int (1 : Int32)), (.ref r)])) rfl rfl (hb hby d12_31) ?_
    refine st5 _ ?_
    show Steps p.tables e below (T5.setTop (mkF m 33 #[.val (.ref x0), .val (.int (2 : Int32)), .val (.ref r), .val (.int (1 : Int32)), .val (.int (2 : Int32))] [])) _
    refine XS.aloadN X5.here hx rfl (hb hby d12_33) rfl rfl ?_
    refine st7 _ ?_
    show Steps p.tables e below (T7.setTop (mkF m 37 #[.val (.ref x0), .val (.int (2 : Int32)), .val (.ref r), .val (.int (1 : Int32)), .val (.int (2 : Int32))] [(.ref ra)])) _
    refine XS.iload X7.here hx rfl (hb hby d12_37) rfl ?_
    refine own_ldI X7 hx hZ e7 V_ra_6 (j := (2 : Int32)) (w := (1 : Int32)) ⟨by decide, by decide⟩ rfl (g := (mkF m 39 #[.val (.ref x0), .val (.int (2 : Int32)), .val (.ref r), .val (.int (1 : Int32)), .val (.int (2 : Int32))] [(.int (2 : Int32)), (.ref ra)])) rfl rfl (hb hby d12_39) ?_
    refine XS.istore X7.here hx rfl (hb hby d12_40) rfl (l' := #[.val (.ref x0), .val (.int (2 : Int32)), .val (.ref r), .val (.int (1 : Int32)), .val (.int (1 : Int32))]) rfl ?_
    refine XS.goto X7.here hx rfl (pc0 := 42) (pc' := 15) rfl (hb hby d12_42) (by decide) (by decide) ?_
    show Steps p.tables e below (T7.setTop (mkF m 15 #[.val (.ref x0), .val (.int (2 : Int32)), .val (.ref r), .val (.int (1 : Int32)), .val (.int (1 : Int32))] [])) _
    refine XS.iload X7.here hx rfl (hb hby d12_15) rfl ?_
    refine XS.ifNo X7.here hx rfl (hb hby d12_17) rfl ((if0 _ _).trans (feq (by decide : ¬ ((1 : Int32) = (0 : Int32)))).1) ?_
    refine XS.aloadN X7.here hx rfl (hb hby d12_20) rfl rfl ?_
    refine XS.iinc X7.here hx rfl (hb hby d12_21) rfl (l' := #[.val (.ref x0), .val (.int (2 : Int32)), .val (.ref r), .val (.int ((1 : Int32) + (-1 : Int32))), .val (.int (1 : Int32))]) rfl ?_
    show Steps p.tables e below (T7.setTop (mkF m 24 #[.val (.ref x0), .val (.int (2 : Int32)), .val (.ref r), .val (.int ((1 : Int32) + (-1 : Int32))), .val (.int (1 : Int32))] [(.ref r)])) _
    rw [show ((1 : Int32) + (-1 : Int32)) = (0 : Int32) from by decide]
    show Steps p.tables e below (T7.setTop (mkF m 24 #[.val (.ref x0), .val (.int (2 : Int32)), .val (.ref r), .val (.int (0 : Int32)), .val (.int (1 : Int32))] [(.ref r)])) _
    refine XS.iloadN X7.here hx rfl (hb hby d12_24) rfl ?_
    refine XS.aloadN X7.here hx rfl (hb hby d12_25) rfl rfl ?_
    refine st8 _ ?_
    show Steps p.tables e below (T8.setTop (mkF m 29 #[.val (.ref x0), .val (.int (2 : Int32)), .val (.ref r), .val (.int (0 : Int32)), .val (.int (1 : Int32))] [(.ref ha), (.int (0 : Int32)), (.ref r)])) _
    refine XS.iload X8.here hx rfl (hb hby d12_29) rfl ?_
    show Steps p.tables e below (T8.setTop (mkF m 31 #[.val (.ref x0), .val (.int (2 : Int32)), .val (.ref r), .val (.int (0 : Int32)), .val (.int (1 : Int32))] [(.int (1 : Int32)), (.ref ha), (.int (0 : Int32)), (.ref r)])) _
    refine own_ldI X8 hx hZ e8 V_ha_6 (j := (1 : Int32)) (w := H1) ⟨by decide, by decide⟩ rfl (g := (mkF m 31 #[.val (.ref x0), .val (.int (2 : Int32)), .val (.ref r), .val (.int (0 : Int32)), .val (.int (1 : Int32))] [(.int (1 : Int32)), (.ref ha), (.int (0 : Int32)), (.ref r)])) rfl rfl (hb hby d12_31) ?_
    refine st9 _ ?_
    show Steps p.tables e below (T9.setTop (mkF m 33 #[.val (.ref x0), .val (.int (2 : Int32)), .val (.ref r), .val (.int (0 : Int32)), .val (.int (1 : Int32))] [])) _
    refine XS.aloadN X9.here hx rfl (hb hby d12_33) rfl rfl ?_
    refine st11 _ ?_
    show Steps p.tables e below (T11.setTop (mkF m 37 #[.val (.ref x0), .val (.int (2 : Int32)), .val (.ref r), .val (.int (0 : Int32)), .val (.int (1 : Int32))] [(.ref ra)])) _
    refine XS.iload X11.here hx rfl (hb hby d12_37) rfl ?_
    refine own_ldI X11 hx hZ e11 V_ra_10 (j := (1 : Int32)) (w := (0 : Int32)) ⟨by decide, by decide⟩ rfl (g := (mkF m 39 #[.val (.ref x0), .val (.int (2 : Int32)), .val (.ref r), .val (.int (0 : Int32)), .val (.int (1 : Int32))] [(.int (1 : Int32)), (.ref ra)])) rfl rfl (hb hby d12_39) ?_
    refine XS.istore X11.here hx rfl (hb hby d12_40) rfl (l' := #[.val (.ref x0), .val (.int (2 : Int32)), .val (.ref r), .val (.int (0 : Int32)), .val (.int (0 : Int32))]) rfl ?_
    refine XS.goto X11.here hx rfl (pc0 := 42) (pc' := 15) rfl (hb hby d12_42) (by decide) (by decide) ?_
    show Steps p.tables e below (T11.setTop (mkF m 15 #[.val (.ref x0), .val (.int (2 : Int32)), .val (.ref r), .val (.int (0 : Int32)), .val (.int (0 : Int32))] [])) _
    refine XS.iload X11.here hx rfl (hb hby d12_15) rfl ?_
    refine XS.ifYes X11.here hx rfl (pc0 := 17) (pc' := 45) rfl (hb hby d12_17) rfl ((if0 _ _).trans (teq (by decide : (0 : Int32) = (0 : Int32))).1) (by decide) (by decide) ?_
    refine XS.aloadN X11.here hx rfl (hb hby d12_45) rfl rfl ?_
    exact retOut X11 hx (t := (.array .int)) (i := .areturn) Bd.returns rfl (Or.inr (Or.inr (Or.inr (Or.inr ⟨rfl, rfl, rfl⟩)))) (hb hby d12_46) hr
  · exact (by
      have eT : (T11.setFrames fs).heap = h9 := e11
      rw [eT]; exact ⟨r, _, rfl, N9, keep_10, sz_r, V_r_9⟩)
set_option maxRecDepth 65536 in
set_option maxHeartbeats 40000000 in
theorem rmh_3_3 (l : Launch) (Z : State) (a0 : Array Value) (hw : ∀ d ∈ tables_1, d.before a0 Z = true) (ws : List Jvm.Cond) (x0 : Addr) (ra ha sa t ka va : Addr) (kr kh ks : ClassId) (Kf : Nat → Int64) (Vf : Nat → Int32) (H1 : Int32) (H2 : Int32) (H3 : Int32) (h0 : Heap) (n0 : Nat) (Z0 : n0 ≤ h0.size) (HS0 : HSS Z h0 x0 ra ha sa t ka va kr kh ks (4 : Int32) [(.int (-1 : Int32)), (.int (0 : Int32)), (.int (1 : Int32)), (.int (2 : Int32)), (.int (0 : Int32)), (.int (0 : Int32)), (.int (0 : Int32)), (.int (0 : Int32)), (.int (0 : Int32)), (.int (0 : Int32)), (.int (0 : Int32)), (.int (0 : Int32)), (.int (0 : Int32)), (.int (0 : Int32)), (.int (0 : Int32)), (.int (0 : Int32))] [(.int (-1 : Int32)), (.int H1), (.int H2), (.int H3), (.int (0 : Int32)), (.int (0 : Int32)), (.int (0 : Int32)), (.int (0 : Int32)), (.int (0 : Int32)), (.int (0 : Int32)), (.int (0 : Int32)), (.int (0 : Int32)), (.int (0 : Int32)), (.int (0 : Int32)), (.int (0 : Int32)), (.int (0 : Int32))] [(.int (0 : Int32)), (.int (1 : Int32)), (.int (2 : Int32)), (.int (3 : Int32)), (.int (0 : Int32)), (.int (0 : Int32)), (.int (0 : Int32)), (.int (0 : Int32)), (.int (0 : Int32)), (.int (0 : Int32)), (.int (0 : Int32)), (.int (0 : Int32)), (.int (0 : Int32)), (.int (0 : Int32)), (.int (0 : Int32)), (.int (0 : Int32))] (3 : Int32) Kf Vf) :
    MetFree l (⟨"com/example/rootline/rootline/reach/HolderSets", "holders", "(I)[I"⟩ : MethodName) (head1 (Jvm.Cond.code (⟨"com/example/rootline/rootline/reach/HolderSets", "holders", "(I)[I"⟩ : MethodName) prog_179_method_5_code 5 (some (.array .int)) :: ws) ({ frames := 0, cells := 1, slots := 3, locals := 0 } : Room)) (fun a U => a = #[(.ref x0), (.int (3 : Int32))] ∧ Z.Warmed39 U.vm ∧ U.heap = h0) (fun _ _ _ _ _ => True) (fun _ U o U' => ∃ v L, o = .returned v ∧ (QR Z (3 : Int32) [(.int H1), (.int H2), (.int H3)] h0 n0 v U'.heap L) ∧ FrameEnd U o U' L ({ frames := 0, cells := 1, slots := 3, locals := 0 } : Room).cells ({ frames := 0, cells := 1, slots := 3, locals := 0 } : Room).slots) := by
  refine MetFree.of_bodySF (plainFor_of_name pn_12) hisR ?_
  intro p e s m args below meth c s₁ Bd hml0 hP hK
  obtain ⟨rfl, hZ, hh⟩ := hP
  have hx := Bd.exec
  have hby := Bd.bytes
  have hml : c.maxLocals = 5 := hml0
  have hown : s.vm.findClass "com/example/rootline/rootline/reach/HolderSets" = some m.cls := findClass_of_methodNamed Bd.named
  have hnm := (name_of_methodNamed Bd.named Bd.method).1
  have X0 : Stand p l e ({ frames := 0, cells := 1, slots := 3, locals := 0 } : Room) s m #[(.ref x0), (.int (3 : Int32))] below meth c s₁ [] 0 0 := Stand.of_body Bd
  have e0 : s₁.heap = h0 := by rw [← hh, Bd.state]; rfl
  have N0 := Fr.nil n0
  have pre0 : ∀ t, Steps p.tables e below (s₁.setTop (mkF m 0 #[.val (.ref x0), .val (.int (3 : Int32)), .unset, .unset, .unset] [])) t → Steps p.tables e below (s₁.setTop (entryFrame m #[(.ref x0), (.int (3 : Int32))] 5)) t := fun t k => castTop (ef_12 m x0 (3 : Int32)) k
  obtain ⟨⟨o1, o2, o3, o4⟩, E_x0, F_rest_x0, F_highest_x0, F_sizes_x0, F_count_x0, F_withOne_x0, V_ra, V_ha, V_sa, ⟨o5, o6⟩, E_t, F_keys_t, F_values_t, F_size_t, V_ka, V_va⟩ := HS0
  have K0 : Keep h0 h0 [] := Keep.refl h0 []
  obtain ⟨T1, X1, e1, st1⟩ := getF X0 hx hZ hown (host := "") (Or.inl (hw _ (List.mem_of_getElem? (i := 16) rfl))) Via.refl e0 F_sizes_x0 (g := (mkF m 1 #[.val (.ref x0), .val (.int (3 : Int32)), .unset, .unset, .unset] [(.ref x0)])) rfl rfl (hb hby d12_1)
  obtain ⟨T2, h2, k2, X2, e2, E2, A2, st2⟩ := newP X1 hx hZ (hw _ (List.mem_of_getElem? (i := 11) rfl)) e1 (g := (mkF m 6 #[.val (.ref x0), .val (.int (3 : Int32)), .unset, .unset, .unset] [(.int (3 : Int32))])) rfl (hb hby d12_6) rfl (by decide) (cap := 3) (by decide) (by decide) (by decide) (by decide)
  obtain ⟨r, g2⟩ : ∃ z, z = h0.size := ⟨_, rfl⟩
  rw [← g2] at A2 st2
  have V_r_2 : Arv Z h2 r k2 .int (3 : Int32) [(.int (0 : Int32)), (.int (0 : Int32)), (.int (0 : Int32))] (.int (0 : Int32)) := (Arv.new A2 (by decide)).pad (pad_rep [] (.int (0 : Int32)) 3)
  have lt_ha_r : ha < r := Nat.lt_of_lt_of_le V_ha.lt (Nat.le_of_eq g2.symm)
  have lt_ka_r : ka < r := Nat.lt_of_lt_of_le V_ka.lt (Nat.le_of_eq g2.symm)
  have lt_ra_r : ra < r := Nat.lt_of_lt_of_le V_ra.lt (Nat.le_of_eq g2.symm)
  have lt_sa_r : sa < r := Nat.lt_of_lt_of_le V_sa.lt (Nat.le_of_eq g2.symm)
  have lt_t_r : t < r := Nat.lt_of_lt_of_le E_t.lt (Nat.le_of_eq g2.symm)
  have lt_va_r : va < r := Nat.lt_of_lt_of_le V_va.lt (Nat.le_of_eq g2.symm)
  have lt_x0_r : x0 < r := Nat.lt_of_lt_of_le E_x0.lt (Nat.le_of_eq g2.symm)
  have g_r : n0 ≤ r := Nat.le_trans Z0 (Nat.le_of_eq g2.symm)
  have sz_r : h0.size ≤ r := Nat.le_trans K0.1 (Nat.le_of_eq g2.symm)
  have E_x0_3 := E_x0.ext E2
  have F_rest_x0_3 := F_rest_x0.ext E2
  have F_highest_x0_3 := F_highest_x0.ext E2
  have F_sizes_x0_3 := F_sizes_x0.ext E2
  have F_count_x0_3 := F_count_x0.ext E2
  have F_withOne_x0_3 := F_withOne_x0.ext E2
  have V_ra_3 := V_ra.ext E2
  have V_ha_3 := V_ha.ext E2
  have V_sa_3 := V_sa.ext E2
  have E_t_3 := E_t.ext E2
  have F_keys_t_3 := F_keys_t.ext E2
  have F_values_t_3 := F_values_t.ext E2
  have F_size_t_3 := F_size_t.ext E2
  have V_ka_3 := V_ka.ext E2
  have V_va_3 := V_va.ext E2
  have keep_3 := K0.ext E2
  have siz_3 := Nat.le_trans Z0 E2.1
  obtain ⟨T4, X4, e4, st4⟩ := getF X2 hx hZ hown (host := "") (Or.inl (hw _ (List.mem_of_getElem? (i := 14) rfl))) Via.refl e2 F_highest_x0_3 (g := (mkF m 26 #[.val (.ref x0), .val (.int (3 : Int32)), .val (.ref r), .val (.int (2 : Int32)), .val (.int (3 : Int32))] [(.ref x0), (.int (2 : Int32)), (.ref r)])) rfl rfl (hb hby d12_26)
  obtain ⟨T5, h5, L5, X5, e5, N5, W5, V5, st5⟩ := own_stI X4 hx hZ e4 V_r_2 (j := (2 : Int32)) ⟨by decide, by decide⟩ (i := 2) rfl (Nat.le_of_ble_eq_true rfl) N0 g_r (g := (mkF m 32 #[.val (.ref x0), .val (.int (3 : Int32)), .val (.ref r), .val (.int (2 : Int32)), .val (.int (3 : Int32))] [(.int H3), (.int (2 : Int32)), (.ref r)])) rfl rfl (hb hby d12_32)
  have E_x0_6 := E_x0_3.wr W5
  have F_rest_x0_6 := F_rest_x0_3.other W5 (Or.inl (Nat.ne_of_lt lt_x0_r))
  have F_highest_x0_6 := F_highest_x0_3.other W5 (Or.inl (Nat.ne_of_lt lt_x0_r))
  have F_sizes_x0_6 := F_sizes_x0_3.other W5 (Or.inl (Nat.ne_of_lt lt_x0_r))
  have F_count_x0_6 := F_count_x0_3.other W5 (Or.inl (Nat.ne_of_lt lt_x0_r))
  have F_withOne_x0_6 := F_withOne_x0_3.other W5 (Or.inl (Nat.ne_of_lt lt_x0_r))
  have V_ra_6 := V_ra_3.other W5 (Nat.ne_of_lt lt_ra_r)
  have V_ha_6 := V_ha_3.other W5 (Nat.ne_of_lt lt_ha_r)
  have V_sa_6 := V_sa_3.other W5 (Nat.ne_of_lt lt_sa_r)
  have E_t_6 := E_t_3.wr W5
  have F_keys_t_6 := F_keys_t_3.other W5 (Or.inl (Nat.ne_of_lt lt_t_r))
  have F_values_t_6 := F_values_t_3.other W5 (Or.inl (Nat.ne_of_lt lt_t_r))
  have F_size_t_6 := F_size_t_3.other W5 (Or.inl (Nat.ne_of_lt lt_t_r))
  have V_ka_6 := V_ka_3.other W5 (Nat.ne_of_lt lt_ka_r)
  have V_va_6 := V_va_3.other W5 (Nat.ne_of_lt lt_va_r)
  have keep_6 := keep_3.wr W5 (Or.inr sz_r)
  have siz_6 := Nat.le_trans siz_3 (Keep.of_wr W5).1
  have V_r_5 : Arv Z h5 r k2 .int (3 : Int32) [(.int (0 : Int32)), (.int (0 : Int32)), (.int H3)] (.int (0 : Int32)) := V5
  obtain ⟨T7, X7, e7, st7⟩ := getF X5 hx hZ hown (host := "") (Or.inl (hw _ (List.mem_of_getElem? (i := 12) rfl))) Via.refl e5 F_rest_x0_6 (g := (mkF m 34 #[.val (.ref x0), .val (.int (3 : Int32)), .val (.ref r), .val (.int (2 : Int32)), .val (.int (3 : Int32))] [(.ref x0)])) rfl rfl (hb hby d12_34)
  obtain ⟨T8, X8, e8, st8⟩ := getF X7 hx hZ hown (host := "") (Or.inl (hw _ (List.mem_of_getElem? (i := 14) rfl))) Via.refl e7 F_highest_x0_6 (g := (mkF m 26 #[.val (.ref x0), .val (.int (3 : Int32)), .val (.ref r), .val (.int (1 : Int32)), .val (.int (2 : Int32))] [(.ref x0), (.int (1 : Int32)), (.ref r)])) rfl rfl (hb hby d12_26)
  obtain ⟨T9, h9, L9, X9, e9, N9, W9, V9, st9⟩ := own_stI X8 hx hZ e8 V_r_5 (j := (1 : Int32)) ⟨by decide, by decide⟩ (i := 1) rfl (Nat.le_of_ble_eq_true rfl) N5 g_r (g := (mkF m 32 #[.val (.ref x0), .val (.int (3 : Int32)), .val (.ref r), .val (.int (1 : Int32)), .val (.int (2 : Int32))] [(.int H2), (.int (1 : Int32)), (.ref r)])) rfl rfl (hb hby d12_32)
  have E_x0_10 := E_x0_6.wr W9
  have F_rest_x0_10 := F_rest_x0_6.other W9 (Or.inl (Nat.ne_of_lt lt_x0_r))
  have F_highest_x0_10 := F_highest_x0_6.other W9 (Or.inl (Nat.ne_of_lt lt_x0_r))
  have F_sizes_x0_10 := F_sizes_x0_6.other W9 (Or.inl (Nat.ne_of_lt lt_x0_r))
  have F_count_x0_10 := F_count_x0_6.other W9 (Or.inl (Nat.ne_of_lt lt_x0_r))
  have F_withOne_x0_10 := F_withOne_x0_6.other W9 (Or.inl (Nat.ne_of_lt lt_x0_r))
  have V_ra_10 := V_ra_6.other W9 (Nat.ne_of_lt lt_ra_r)
  have V_ha_10 := V_ha_6.other W9 (Nat.ne_of_lt lt_ha_r)
  have V_sa_10 := V_sa_6.other W9 (Nat.ne_of_lt lt_sa_r)
  have E_t_10 := E_t_6.wr W9
  have F_keys_t_10 := F_keys_t_6.other W9 (Or.inl (Nat.ne_of_lt lt_t_r))
  have F_values_t_10 := F_values_t_6.other W9 (Or.inl (Nat.ne_of_lt lt_t_r))
  have F_size_t_10 := F_size_t_6.other W9 (Or.inl (Nat.ne_of_lt lt_t_r))
  have V_ka_10 := V_ka_6.other W9 (Nat.ne_of_lt lt_ka_r)
  have V_va_10 := V_va_6.other W9 (Nat.ne_of_lt lt_va_r)
  have keep_10 := keep_6.wr W9 (Or.inr sz_r)
  have siz_10 := Nat.le_trans siz_6 (Keep.of_wr W9).1
  have V_r_9 : Arv Z h9 r k2 .int (3 : Int32) [(.int (0 : Int32)), (.int H2), (.int H3)] (.int (0 : Int32)) := V9
  obtain ⟨T11, X11, e11, st11⟩ := getF X9 hx hZ hown (host := "") (Or.inl (hw _ (List.mem_of_getElem? (i := 12) rfl))) Via.refl e9 F_rest_x0_10 (g := (mkF m 34 #[.val (.ref x0), .val (.int (3 : Int32)), .val (.ref r), .val (.int (1 : Int32)), .val (.int (2 : Int32))] [(.ref x0)])) rfl rfl (hb hby d12_34)
  obtain ⟨T12, X12, e12, st12⟩ := getF X11 hx hZ hown (host := "") (Or.inl (hw _ (List.mem_of_getElem? (i := 14) rfl))) Via.refl e11 F_highest_x0_10 (g := (mkF m 26 #[.val (.ref x0), .val (.int (3 : Int32)), .val (.ref r), .val (.int (0 : Int32)), .val (.int (1 : Int32))] [(.ref x0), (.int (0 : Int32)), (.ref r)])) rfl rfl (hb hby d12_26)
  obtain ⟨T13, h13, L13, X13, e13, N13, W13, V13, st13⟩ := own_stI X12 hx hZ e12 V_r_9 (j := (0 : Int32)) ⟨by decide, by decide⟩ (i := 0) rfl (Nat.le_of_ble_eq_true rfl) N9 g_r (g := (mkF m 32 #[.val (.ref x0), .val (.int (3 : Int32)), .val (.ref r), .val (.int (0 : Int32)), .val (.int (1 : Int32))] [(.int H1), (.int (0 : Int32)), (.ref r)])) rfl rfl (hb hby d12_32)
  have E_x0_14 := E_x0_10.wr W13
  have F_rest_x0_14 := F_rest_x0_10.other W13 (Or.inl (Nat.ne_of_lt lt_x0_r))
  have F_highest_x0_14 := F_highest_x0_10.other W13 (Or.inl (Nat.ne_of_lt lt_x0_r))
  have F_sizes_x0_14 := F_sizes_x0_10.other W13 (Or.inl (Nat.ne_of_lt lt_x0_r))
  have F_count_x0_14 := F_count_x0_10.other W13 (Or.inl (Nat.ne_of_lt lt_x0_r))
  have F_withOne_x0_14 := F_withOne_x0_10.other W13 (Or.inl (Nat.ne_of_lt lt_x0_r))
  have V_ra_14 := V_ra_10.other W13 (Nat.ne_of_lt lt_ra_r)
  have V_ha_14 := V_ha_10.other W13 (Nat.ne_of_lt lt_ha_r)
  have V_sa_14 := V_sa_10.other W13 (Nat.ne_of_lt lt_sa_r)
  have E_t_14 := E_t_10.wr W13
  have F_keys_t_14 := F_keys_t_10.other W13 (Or.inl (Nat.ne_of_lt lt_t_r))
  have F_values_t_14 := F_values_t_10.other W13 (Or.inl (Nat.ne_of_lt lt_t_r))
  have F_size_t_14 := F_size_t_10.other W13 (Or.inl (Nat.ne_of_lt lt_t_r))
  have V_ka_14 := V_ka_10.other W13 (Nat.ne_of_lt lt_ka_r)
  have V_va_14 := V_va_10.other W13 (Nat.ne_of_lt lt_va_r)
  have keep_14 := keep_10.wr W13 (Or.inr sz_r)
  have siz_14 := Nat.le_trans siz_10 (Keep.of_wr W13).1
  have V_r_13 : Arv Z h13 r k2 .int (3 : Int32) [(.int H1), (.int H2), (.int H3)] (.int (0 : Int32)) := V13
  obtain ⟨T15, X15, e15, st15⟩ := getF X13 hx hZ hown (host := "") (Or.inl (hw _ (List.mem_of_getElem? (i := 12) rfl))) Via.refl e13 F_rest_x0_14 (g := (mkF m 34 #[.val (.ref x0), .val (.int (3 : Int32)), .val (.ref r), .val (.int (0 : Int32)), .val (.int (1 : Int32))] [(.ref x0)])) rfl rfl (hb hby d12_34)
  obtain ⟨fs, hr, hrun, hended, hW, hsame⟩ := X15.leave (v := some (.ref r)) (fun h => by rw [Bd.returns] at h; cases h)
  refine ⟨_, _, pre0 _ ?_, hrun, hended, _, _, rfl, ?_, ⟨_, rfl⟩, hW, hsame.mono (by decide) (by decide)⟩
  · show Steps p.tables e below (s₁.setTop (mkF m 0 #[.val (.ref x0), .val (.int (3 : Int32)), .unset, .unset, .unset] [])) _
    refine XS.aloadN X0.here hx rfl (hb hby d12_0) rfl rfl ?_
    refine st1 _ ?_
    show Steps p.tables e below (T1.setTop (mkF m 4 #[.val (.ref x0), .val (.int (3 : Int32)), .unset, .unset, .unset] [(.ref sa)])) _
    refine XS.iloadN X1.here hx rfl (hb hby d12_4) rfl ?_
    show Steps p.tables e below (T1.setTop (mkF m 5 #[.val (.ref x0), .val (.int (3 : Int32)), .unset, .unset, .unset] [(.int (3 : Int32)), (.ref sa)])) _
    refine own_ldI X1 hx hZ e1 V_sa (j := (3 : Int32)) (w := (3 : Int32)) ⟨by decide, by decide⟩ rfl (g := (mkF m 5 #[.val (.ref x0), .val (.int (3 : Int32)), .unset, .unset, .unset] [(.int (3 : Int32)), (.ref sa)])) rfl rfl (hb hby d12_5) ?_
    refine st2 _ ?_
    show Steps p.tables e below (T2.setTop (mkF m 8 #[.val (.ref x0), .val (.int (3 : Int32)), .unset, .unset, .unset] [(.ref r)])) _
    refine XS.astoreN X2.here hx rfl (hb hby d12_8) rfl rfl (l' := #[.val (.ref x0), .val (.int (3 : Int32)), .val (.ref r), .unset, .unset]) rfl ?_
    refine XS.aloadN X2.here hx rfl (hb hby d12_9) rfl rfl ?_
    show Steps p.tables e below (T2.setTop (mkF m 10 #[.val (.ref x0), .val (.int (3 : Int32)), .val (.ref r), .unset, .unset] [(.ref r)])) _
    refine own_len X2 hx hZ e2 V_r_2 (g := (mkF m 10 #[.val (.ref x0), .val (.int (3 : Int32)), .val (.ref r), .unset, .unset] [(.ref r)])) rfl rfl (hb hby d12_10) ?_
    refine XS.istoreN X2.here hx rfl (hb hby d12_11) rfl (l' := #[.val (.ref x0), .val (.int (3 : Int32)), .val (.ref r), .val (.int (3 : Int32)), .unset]) rfl ?_
    refine XS.iloadN X2.here hx rfl (hb hby d12_12) rfl ?_
    refine XS.istore X2.here hx rfl (hb hby d12_13) rfl (l' := #[.val (.ref x0), .val (.int (3 : Int32)), .val (.ref r), .val (.int (3 : Int32)), .val (.int (3 : Int32))]) rfl ?_
    show Steps p.tables e below (T2.setTop (mkF m 15 #[.val (.ref x0), .val (.int (3 : Int32)), .val (.ref r), .val (.int (3 : Int32)), .val (.int (3 : Int32))] [])) _
    refine XS.iload X2.here hx rfl (hb hby d12_15) rfl ?_
    refine XS.ifNo X2.here hx rfl (hb hby d12_17) rfl ((if0 _ _).trans (feq (by decide : ¬ ((3 : Int32) = (0 : Int32)))).1) ?_
    refine XS.aloadN X2.here hx rfl (hb hby d12_20) rfl rfl ?_
    refine XS.iinc X2.here hx rfl (hb hby d12_21) rfl (l' := #[.val (.ref x0), .val (.int (3 : Int32)), .val (.ref r), .val (.int ((3 : Int32) + (-1 : Int32))), .val (.int (3 : Int32))]) rfl ?_
    show Steps p.tables e below (T2.setTop (mkF m 24 #[.val (.ref x0), .val (.int (3 : Int32)), .val (.ref r), .val (.int ((3 : Int32) + (-1 : Int32))), .val (.int (3 : Int32))] [(.ref r)])) _
    rw [show ((3 : Int32) + (-1 : Int32)) = (2 : Int32) from by decide]
    show Steps p.tables e below (T2.setTop (mkF m 24 #[.val (.ref x0), .val (.int (3 : Int32)), .val (.ref r), .val (.int (2 : Int32)), .val (.int (3 : Int32))] [(.ref r)])) _
    refine XS.iloadN X2.here hx rfl (hb hby d12_24) rfl ?_
    refine XS.aloadN X2.here hx rfl (hb hby d12_25) rfl rfl ?_
    refine st4 _ ?_
    show Steps p.tables e below (T4.setTop (mkF m 29 #[.val (.ref x0), .val (.int (3 : Int32)), .val (.ref r), .val (.int (2 : Int32)), .val (.int (3 : Int32))] [(.ref ha), (.int (2 : Int32)), (.ref r)])) _
    refine XS.iload X4.here hx rfl (hb hby d12_29) rfl ?_
    show Steps p.tables e below (T4.setTop (mkF m 31 #[.val (.ref x0), .val (.int (3 : Int32)), .val (.ref r), .val (.int (2 : Int32)), .val (.int (3 : Int32))] [(.int (3 : Int32)), (.ref ha), (.int (2 : Int32)), (.ref r)])) _
    refine own_ldI X4 hx hZ e4 V_ha_3 (j := (3 : Int32)) (w := H3) ⟨by decide, by decide⟩ rfl (g := (mkF m 31 #[.val (.ref x0), .val (.int (3 : Int32)), .val (.ref r), .val (.int (2 : Int32)), .val (.int (3 : Int32))] [(.int (3 : Int32)), (.ref ha), (.int (2 : Int32)), (.ref r)])) rfl rfl (hb hby d12_31) ?_
    refine st5 _ ?_
    show Steps p.tables e below (T5.setTop (mkF m 33 #[.val (.ref x0), .val (.int (3 : Int32)), .val (.ref r), .val (.int (2 : Int32)), .val (.int (3 : Int32))] [])) _
    refine XS.aloadN X5.here hx rfl (hb hby d12_33) rfl rfl ?_
    refine st7 _ ?_
    show Steps p.tables e below (T7.setTop (mkF m 37 #[.val (.ref x0), .val (.int (3 : Int32)), .val (.ref r), .val (.int (2 : Int32)), .val (.int (3 : Int32))] [(.ref ra)])) _
    refine XS.iload X7.here hx rfl (hb hby d12_37) rfl ?_
    refine own_ldI X7 hx hZ e7 V_ra_6 (j := (3 : Int32)) (w := (2 : Int32)) ⟨by decide, by decide⟩ rfl (g := (mkF m 39 #[.val (.ref x0), .val (.int (3 : Int32)), .val (.ref r), .val (.int (2 : Int32)), .val (.int (3 : Int32))] [(.int (3 : Int32)), (.ref ra)])) rfl rfl (hb hby d12_39) ?_
    refine XS.istore X7.here hx rfl (hb hby d12_40) rfl (l' := #[.val (.ref x0), .val (.int (3 : Int32)), .val (.ref r), .val (.int (2 : Int32)), .val (.int (2 : Int32))]) rfl ?_
    refine XS.goto X7.here hx rfl (pc0 := 42) (pc' := 15) rfl (hb hby d12_42) (by decide) (by decide) ?_
    show Steps p.tables e below (T7.setTop (mkF m 15 #[.val (.ref x0), .val (.int (3 : Int32)), .val (.ref r), .val (.int (2 : Int32)), .val (.int (2 : Int32))] [])) _
    refine XS.iload X7.here hx rfl (hb hby d12_15) rfl ?_
    refine XS.ifNo X7.here hx rfl (hb hby d12_17) rfl ((if0 _ _).trans (feq (by decide : ¬ ((2 : Int32) = (0 : Int32)))).1) ?_
    refine XS.aloadN X7.here hx rfl (hb hby d12_20) rfl rfl ?_
    refine XS.iinc X7.here hx rfl (hb hby d12_21) rfl (l' := #[.val (.ref x0), .val (.int (3 : Int32)), .val (.ref r), .val (.int ((2 : Int32) + (-1 : Int32))), .val (.int (2 : Int32))]) rfl ?_
    show Steps p.tables e below (T7.setTop (mkF m 24 #[.val (.ref x0), .val (.int (3 : Int32)), .val (.ref r), .val (.int ((2 : Int32) + (-1 : Int32))), .val (.int (2 : Int32))] [(.ref r)])) _
    rw [show ((2 : Int32) + (-1 : Int32)) = (1 : Int32) from by decide]
    show Steps p.tables e below (T7.setTop (mkF m 24 #[.val (.ref x0), .val (.int (3 : Int32)), .val (.ref r), .val (.int (1 : Int32)), .val (.int (2 : Int32))] [(.ref r)])) _
    refine XS.iloadN X7.here hx rfl (hb hby d12_24) rfl ?_
    refine XS.aloadN X7.here hx rfl (hb hby d12_25) rfl rfl ?_
    refine st8 _ ?_
    show Steps p.tables e below (T8.setTop (mkF m 29 #[.val (.ref x0), .val (.int (3 : Int32)), .val (.ref r), .val (.int (1 : Int32)), .val (.int (2 : Int32))] [(.ref ha), (.int (1 : Int32)), (.ref r)])) _
    refine XS.iload X8.here hx rfl (hb hby d12_29) rfl ?_
    show Steps p.tables e below (T8.setTop (mkF m 31 #[.val (.ref x0), .val (.int (3 : Int32)), .val (.ref r), .val (.int (1 : Int32)), .val (.int (2 : Int32))] [(.int (2 : Int32)), (.ref ha), (.int (1 : Int32)), (.ref r)])) _
    refine own_ldI X8 hx hZ e8 V_ha_6 (j := (2 : Int32)) (w := H2) ⟨by decide, by decide⟩ rfl (g := (mkF m 31 #[.val (.ref x0), .val (.int (3 : Int32)), .val (.ref r), .val (.int (1 : Int32)), .val (.int (2 : Int32))] [(.int (2 : Int32)), (.ref ha), (.int (1 : Int32)), (.ref r)])) rfl rfl (hb hby d12_31) ?_
    refine st9 _ ?_
    show Steps p.tables e below (T9.setTop (mkF m 33 #[.val (.ref x0), .val (.int (3 : Int32)), .val (.ref r), .val (.int (1 : Int32)), .val (.int (2 : Int32))] [])) _
    refine XS.aloadN X9.here hx rfl (hb hby d12_33) rfl rfl ?_
    refine st11 _ ?_
    show Steps p.tables e below (T11.setTop (mkF m 37 #[.val (.ref x0), .val (.int (3 : Int32)), .val (.ref r), .val (.int (1 : Int32)), .val (.int (2 : Int32))] [(.ref ra)])) _
    refine XS.iload X11.here hx rfl (hb hby d12_37) rfl ?_
    refine own_ldI X11 hx hZ e11 V_ra_10 (j := (2 : Int32)) (w := (1 : Int32)) ⟨by decide, by decide⟩ rfl (g := (mkF m 39 #[.val (.ref x0), .val (.int (3 : Int32)), .val (.ref r), .val (.int (1 : Int32)), .val (.int (2 : Int32))] [(.int (2 : Int32)), (.ref ra)])) rfl rfl (hb hby d12_39) ?_
    refine XS.istore X11.here hx rfl (hb hby d12_40) rfl (l' := #[.val (.ref x0), .val (.int (3 : Int32)), .val (.ref r), .val (.int (1 : Int32)), .val (.int (1 : Int32))]) rfl ?_
    refine XS.goto X11.here hx rfl (pc0 := 42) (pc' := 15) rfl (hb hby d12_42) (by decide) (by decide) ?_
    show Steps p.tables e below (T11.setTop (mkF m 15 #[.val (.ref x0), .val (.int (3 : Int32)), .val (.ref r), .val (.int (1 : Int32)), .val (.int (1 : Int32))] [])) _
    refine XS.iload X11.here hx rfl (hb hby d12_15) rfl ?_
    refine XS.ifNo X11.here hx rfl (hb hby d12_17) rfl ((if0 _ _).trans (feq (by decide : ¬ ((1 : Int32) = (0 : Int32)))).1) ?_
    refine XS.aloadN X11.here hx rfl (hb hby d12_20) rfl rfl ?_
    refine XS.iinc X11.here hx rfl (hb hby d12_21) rfl (l' := #[.val (.ref x0), .val (.int (3 : Int32)), .val (.ref r), .val (.int ((1 : Int32) + (-1 : Int32))), .val (.int (1 : Int32))]) rfl ?_
    show Steps p.tables e below (T11.setTop (mkF m 24 #[.val (.ref x0), .val (.int (3 : Int32)), .val (.ref r), .val (.int ((1 : Int32) + (-1 : Int32))), .val (.int (1 : Int32))] [(.ref r)])) _
    rw [show ((1 : Int32) + (-1 : Int32)) = (0 : Int32) from by decide]
    show Steps p.tables e below (T11.setTop (mkF m 24 #[.val (.ref x0), .val (.int (3 : Int32)), .val (.ref r), .val (.int (0 : Int32)), .val (.int (1 : Int32))] [(.ref r)])) _
    refine XS.iloadN X11.here hx rfl (hb hby d12_24) rfl ?_
    refine XS.aloadN X11.here hx rfl (hb hby d12_25) rfl rfl ?_
    refine st12 _ ?_
    show Steps p.tables e below (T12.setTop (mkF m 29 #[.val (.ref x0), .val (.int (3 : Int32)), .val (.ref r), .val (.int (0 : Int32)), .val (.int (1 : Int32))] [(.ref ha), (.int (0 : Int32)), (.ref r)])) _
    refine XS.iload X12.here hx rfl (hb hby d12_29) rfl ?_
    show Steps p.tables e below (T12.setTop (mkF m 31 #[.val (.ref x0), .val (.int (3 : Int32)), .val (.ref r), .val (.int (0 : Int32)), .val (.int (1 : Int32))] [(.int (1 : Int32)), (.ref ha), (.int (0 : Int32)), (.ref r)])) _
    refine own_ldI X12 hx hZ e12 V_ha_10 (j := (1 : Int32)) (w := H1) ⟨by decide, by decide⟩ rfl (g := (mkF m 31 #[.val (.ref x0), .val (.int (3 : Int32)), .val (.ref r), .val (.int (0 : Int32)), .val (.int (1 : Int32))] [(.int (1 : Int32)), (.ref ha), (.int (0 : Int32)), (.ref r)])) rfl rfl (hb hby d12_31) ?_
    refine st13 _ ?_
    show Steps p.tables e below (T13.setTop (mkF m 33 #[.val (.ref x0), .val (.int (3 : Int32)), .val (.ref r), .val (.int (0 : Int32)), .val (.int (1 : Int32))] [])) _
    refine XS.aloadN X13.here hx rfl (hb hby d12_33) rfl rfl ?_
    refine st15 _ ?_
    show Steps p.tables e below (T15.setTop (mkF m 37 #[.val (.ref x0), .val (.int (3 : Int32)), .val (.ref r), .val (.int (0 : Int32)), .val (.int (1 : Int32))] [(.ref ra)])) _
    refine XS.iload X15.here hx rfl (hb hby d12_37) rfl ?_
    refine own_ldI X15 hx hZ e15 V_ra_14 (j := (1 : Int32)) (w := (0 : Int32)) ⟨by decide, by decide⟩ rfl (g := (mkF m 39 #[.val (.ref x0), .val (.int (3 : Int32)), .val (.ref r), .val (.int (0 : Int32)), .val (.int (1 : Int32))] [(.int (1 : Int32)), (.ref ra)])) rfl rfl (hb hby d12_39) ?_
    refine XS.istore X15.here hx rfl (hb hby d12_40) rfl (l' := #[.val (.ref x0), .val (.int (3 : Int32)), .val (.ref r), .val (.int (0 : Int32)), .val (.int (0 : Int32))]) rfl ?_
    refine XS.goto X15.here hx rfl (pc0 := 42) (pc' := 15) rfl (hb hby d12_42) (by decide) (by decide) ?_
    show Steps p.tables e below (T15.setTop (mkF m 15 #[.val (.ref x0), .val (.int (3 : Int32)), .val (.ref r), .val (.int (0 : Int32)), .val (.int (0 : Int32))] [])) _
    refine XS.iload X15.here hx rfl (hb hby d12_15) rfl ?_
    refine XS.ifYes X15.here hx rfl (pc0 := 17) (pc' := 45) rfl (hb hby d12_17) rfl ((if0 _ _).trans (teq (by decide : (0 : Int32) = (0 : Int32))).1) (by decide) (by decide) ?_
    refine XS.aloadN X15.here hx rfl (hb hby d12_45) rfl rfl ?_
    exact retOut X15 hx (t := (.array .int)) (i := .areturn) Bd.returns rfl (Or.inr (Or.inr (Or.inr (Or.inr ⟨rfl, rfl, rfl⟩)))) (hb hby d12_46) hr
  · exact (by
      have eT : (T15.setFrames fs).heap = h13 := e15
      rw [eT]; exact ⟨r, _, rfl, N13, keep_14, sz_r, V_r_13⟩)
theorem HSS.lt {Z : State} {h : Heap} {x ra ha sa t ka va : Addr} {kr kh ks : ClassId} {cnt : Int32} {Rv Hv Sv : List Value} {sz : Int32} {Kf : Nat → Int64} {Vf : Nat → Int32} (F : HSS Z h x ra ha sa t ka va kr kh ks cnt Rv Hv Sv sz Kf Vf) : va < h.size := by obtain ⟨⟨o1, o2, o3, o4⟩, a1, a2, a3, a4, a5, a6, a7, a8, a9, ⟨o5, o6⟩, b1, b2, b3, b4, b5, b6⟩ := F; exact b6.lt
theorem HSS.ext {Z : State} {h h' : Heap} {x ra ha sa t ka va : Addr} {kr kh ks : ClassId} {cnt : Int32} {Rv Hv Sv : List Value} {sz : Int32} {Kf : Nat → Int64} {Vf : Nat → Int32} (F : HSS Z h x ra ha sa t ka va kr kh ks cnt Rv Hv Sv sz Kf Vf) (E : Ext h h') : HSS Z h' x ra ha sa t ka va kr kh ks cnt Rv Hv Sv sz Kf Vf := by obtain ⟨⟨o1, o2, o3, o4⟩, a1, a2, a3, a4, a5, a6, a7, a8, a9, ⟨o5, o6⟩, b1, b2, b3, b4, b5, b6⟩ := F; exact ⟨⟨o1, o2, o3, o4⟩, a1.ext E, a2.ext E, a3.ext E, a4.ext E, a5.ext E, a6.ext E, a7.ext E, a8.ext E, a9.ext E, ⟨o5, o6⟩, b1.ext E, b2.ext E, b3.ext E, b4.ext E, b5.ext E, b6.ext E⟩
theorem HSS.wr {Z : State} {h h' : Heap} {x ra ha sa t ka va : Addr} {kr kh ks : ClassId} {cnt : Int32} {Rv Hv Sv : List Value} {sz : Int32} {Kf : Nat → Int64} {Vf : Nat → Int32} {a : Addr} {sl : Nat} {v : Value} (F : HSS Z h x ra ha sa t ka va kr kh ks cnt Rv Hv Sv sz Kf Vf) (W : Wr h h' a sl v) (q : va < a) : HSS Z h' x ra ha sa t ka va kr kh ks cnt Rv Hv Sv sz Kf Vf := by obtain ⟨⟨o1, o2, o3, o4⟩, a1, a2, a3, a4, a5, a6, a7, a8, a9, ⟨o5, o6⟩, b1, b2, b3, b4, b5, b6⟩ := F; exact ⟨⟨o1, o2, o3, o4⟩, a1.wr W, a2.other W (Or.inl (Nat.ne_of_lt (Nat.lt_trans o1 (Nat.lt_trans o2 (Nat.lt_trans o3 (Nat.lt_trans o4 (Nat.lt_trans o5 (Nat.lt_trans o6 q)))))))), a3.other W (Or.inl (Nat.ne_of_lt (Nat.lt_trans o1 (Nat.lt_trans o2 (Nat.lt_trans o3 (Nat.lt_trans o4 (Nat.lt_trans o5 (Nat.lt_trans o6 q)))))))), a4.other W (Or.inl (Nat.ne_of_lt (Nat.lt_trans o1 (Nat.lt_trans o2 (Nat.lt_trans o3 (Nat.lt_trans o4 (Nat.lt_trans o5 (Nat.lt_trans o6 q)))))))), a5.other W (Or.inl (Nat.ne_of_lt (Nat.lt_trans o1 (Nat.lt_trans o2 (Nat.lt_trans o3 (Nat.lt_trans o4 (Nat.lt_trans o5 (Nat.lt_trans o6 q)))))))), a6.other W (Or.inl (Nat.ne_of_lt (Nat.lt_trans o1 (Nat.lt_trans o2 (Nat.lt_trans o3 (Nat.lt_trans o4 (Nat.lt_trans o5 (Nat.lt_trans o6 q)))))))), a7.other W (Nat.ne_of_lt (Nat.lt_trans o2 (Nat.lt_trans o3 (Nat.lt_trans o4 (Nat.lt_trans o5 (Nat.lt_trans o6 q)))))), a8.other W (Nat.ne_of_lt (Nat.lt_trans o3 (Nat.lt_trans o4 (Nat.lt_trans o5 (Nat.lt_trans o6 q))))), a9.other W (Nat.ne_of_lt (Nat.lt_trans o4 (Nat.lt_trans o5 (Nat.lt_trans o6 q)))), ⟨o5, o6⟩, b1.wr W, b2.other W (Or.inl (Nat.ne_of_lt (Nat.lt_trans o5 (Nat.lt_trans o6 q)))), b3.other W (Or.inl (Nat.ne_of_lt (Nat.lt_trans o5 (Nat.lt_trans o6 q)))), b4.other W (Or.inl (Nat.ne_of_lt (Nat.lt_trans o5 (Nat.lt_trans o6 q)))), b5.other W (Nat.ne_of_lt (Nat.lt_trans o6 q)), b6.other W (Nat.ne_of_lt q)⟩
theorem HSS.keep {Z : State} {h h' : Heap} {x ra ha sa t ka va : Addr} {kr kh ks : ClassId} {cnt : Int32} {Rv Hv Sv : List Value} {sz : Int32} {Kf : Nat → Int64} {Vf : Nat → Int32} (F : HSS Z h x ra ha sa t ka va kr kh ks cnt Rv Hv Sv sz Kf Vf) (K : Keep h h' []) : HSS Z h' x ra ha sa t ka va kr kh ks cnt Rv Hv Sv sz Kf Vf := by obtain ⟨⟨o1, o2, o3, o4⟩, a1, a2, a3, a4, a5, a6, a7, a8, a9, ⟨o5, o6⟩, b1, b2, b3, b4, b5, b6⟩ := F; exact ⟨⟨o1, o2, o3, o4⟩, a1.keep K, a2.keep K nin0, a3.keep K nin0, a4.keep K nin0, a5.keep K nin0, a6.keep K nin0, a7.keep K nin0, a8.keep K nin0, a9.keep K nin0, ⟨o5, o6⟩, b1.keep K, b2.keep K nin0, b3.keep K nin0, b4.keep K nin0, b5.keep K nin0, b6.keep K nin0⟩
theorem own_occ1 (Kf : Nat → Int64) (Vf : Nat → Int32) (p1 : Nat) (x : Int32) (k1 : Int64) (H : ∀ j, j < 64 → Vf j = (-1 : Int32)) : ∀ j, j < 64 → upd Vf p1 x j ≠ (-1 : Int32) → j = p1 ∧ upd Kf p1 k1 j = k1 := fun j hj q => by
  by_cases z : j = p1
  · exact ⟨z, by unfold upd; rw [if_pos z]⟩
  · exact absurd (by unfold upd; rw [if_neg z]; exact H j hj) q
theorem own_occ2 (Kf : Nat → Int64) (Vf : Nat → Int32) (p1 p2 : Nat) (x : Int32) (k1 k2 : Int64) (H : ∀ j, j < 64 → Vf j ≠ (-1 : Int32) → j = p1 ∧ Kf j = k1) : ∀ j, j < 64 → upd Vf p2 x j ≠ (-1 : Int32) → (j = p1 ∧ upd Kf p2 k2 j = k1) ∨ (j = p2 ∧ upd Kf p2 k2 j = k2) := fun j hj q => by
  by_cases z : j = p2
  · exact Or.inr ⟨z, by unfold upd; rw [if_pos z]⟩
  · have e1 : upd Vf p2 x j = Vf j := by unfold upd; rw [if_neg z]
    have e2 : upd Kf p2 k2 j = Kf j := by unfold upd; rw [if_neg z]
    rw [e1] at q; rw [e2]
    exact Or.inl (H j hj q)
theorem own_four (x : Int32) : (x &&& (3 : Int32)) = (0 : Int32) ∨ (x &&& (3 : Int32)) = (1 : Int32) ∨ (x &&& (3 : Int32)) = (2 : Int32) ∨ (x &&& (3 : Int32)) = (3 : Int32) := by
  have h1 := c_mask x (3 : Int32) 2 (by decide) (by decide)
  have c0 : (0 : Int32).toInt = 0 := rfl
  have c1 : (1 : Int32).toInt = 1 := rfl
  have c2 : (2 : Int32).toInt = 2 := rfl
  have c3 : (3 : Int32).toInt = 3 := rfl
  rw [← Int32.toInt_inj, ← Int32.toInt_inj, ← Int32.toInt_inj, ← Int32.toInt_inj]; omega
set_option maxRecDepth 65536 in
set_option maxHeartbeats 40000000 in
theorem rm0_0 (l : Launch) (Z : State) (a0 : Array Value) (hw : ∀ d ∈ tables_1, d.before a0 Z = true) (ws : List Jvm.Cond) (x0 : Int32) (x1 : Int32) (x2 : Int32) (x3 : Int32) (H1 H2 H3 : Int32) (h0 : Heap) (n0 : Nat) (Z0 : n0 ≤ h0.size) (eH1 : H1 = (x0 &&& (536870911 : Int32))) (eH2 : H2 = (H1 + (x1 &&& (536870911 : Int32)))) (eH3 : H3 = (H2 + (x2 &&& (1073741823 : Int32)))) (hn : (x3 &&& (3 : Int32)) = (0 : Int32)) :
    MetFree l x (head1 (Jvm.Cond.code x code maxLocals ret :: ws) room_1) (fun a U => a = #[(.int x0), (.int x1), (.int x2), (.int x3)] ∧ Z.Warmed39 U.vm ∧ U.heap = h0) (fun _ _ _ _ _ => True) (fun _ U o U' => ∃ v L, o = .returned v ∧ (QL n0 v U'.heap L) ∧ FrameEnd U o U' L room_1.cells room_1.slots) := by
  refine MetFree.of_bodySF (plainFor_of_name pn_0) hisR ?_
  intro p e s m args below meth c s₁ Bd hml0 hP hK
  obtain ⟨rfl, hZ, hh⟩ := hP
  have hx := Bd.exec
  have hby := Bd.bytes
  have hml : c.maxLocals = 18 := hml0
  have hown : s.vm.findClass "com/example/rootline/rootline/reach/HolderSetsHoldersPinLaw" = some m.cls := findClass_of_methodNamed Bd.named
  have hnm := (name_of_methodNamed Bd.named Bd.method).1
  have X0 : Stand p l e room_1 s m #[(.int x0), (.int x1), (.int x2), (.int x3)] below meth c s₁ [] 0 0 := Stand.of_body Bd
  have e0 : s₁.heap = h0 := by rw [← hh, Bd.state]; rfl
  have N0 := Fr.nil n0
  have pre0 : ∀ t, Steps p.tables e below (s₁.setTop (mkF m 0 #[.val (.int x0), .val (.int x1), .val (.int x2), .val (.int x3), .unset, .unset, .unset, .unset, .unset, .unset, .unset, .unset, .unset, .unset, .unset, .unset, .unset, .unset] [])) t → Steps p.tables e below (s₁.setTop (entryFrame m #[(.int x0), (.int x1), (.int x2), (.int x3)] maxLocals)) t := fun t k => castTop (ef_0 m x0 x1 x2 x3) k
  have c0 : (0 : Int32).toInt = 0 := rfl
  have cm1 : (-1 : Int32).toInt = -1 := rfl
  have m1 := c_mask x0 (536870911 : Int32) 29 (by decide) (by decide)
  have m2 := c_mask x1 (536870911 : Int32) 29 (by decide) (by decide)
  have m3 := c_mask x2 (1073741823 : Int32) 30 (by decide) (by decide)
  rw [show ((2 ^ 29 : Nat) : Int) = 536870912 from rfl] at m1 m2
  rw [show ((2 ^ 30 : Nat) : Int) = 1073741824 from rfl] at m3
  have a2 := c_iadd H1 (x1 &&& (536870911 : Int32))
  have a3 := c_iadd H2 (x2 &&& (1073741823 : Int32))
  rw [← eH2] at a2
  rw [← eH3] at a3
  rw [← eH1] at m1
  have r2 := rng32 H2
  have r3 := rng32 H3
  have hH1 : 0 ≤ H1.toInt := by omega
  have hH1n := hH1
  have hH2n : 0 ≤ H2.toInt := by omega
  have hH3n : 0 ≤ H3.toInt := by omega
  have le12 : H1.toInt ≤ H2.toInt := by omega
  have le23 : H2.toInt ≤ H3.toInt := by omega
  have hneH1 : ¬ (H1 = (-1 : Int32)) := by rw [← Int32.toInt_inj]; omega
  have hgeH1 : ¬ (H1 < (-1 : Int32)) := by rw [Int32.lt_iff_toInt_lt]; omega
  obtain ⟨T1, h1, X1, e1, E1, A1, D1, -, st1⟩ := newO X0 hx hZ hown (hw _ (List.mem_of_getElem? (i := 2) rfl)) (hw _ (List.mem_of_getElem? (i := 3) rfl)) (hw _ (List.mem_of_getElem? (i := 4) rfl)) e0 (g := (mkF m 29 #[.val (.int x0), .val (.int x1), .val (.int x2), .val (.int x3), .val (.int H1), .val (.int H2), .val (.int H3), .val (.int (0 : Int32)), .unset, .unset, .unset, .unset, .unset, .unset, .unset, .unset, .unset, .unset] [])) rfl (hb hby at_29) (by decide) (by decide)
  obtain ⟨hs, g1⟩ : ∃ z, z = h0.size := ⟨_, rfl⟩
  rw [← g1] at A1 D1 st1
  have E_hs_1 : Exa Z h1 hs "com/example/rootline/rootline/reach/HolderSets" := A1
  have F_rest_hs_1 : Fld Z h1 hs sH "rest" "[I" .null := D1 (Or.inl (hw _ (List.mem_of_getElem? (i := 13) rfl))) (ty := (.array .int)) (by decide)
  have F_highest_hs_1 : Fld Z h1 hs sH "highest" "[I" .null := D1 (Or.inl (hw _ (List.mem_of_getElem? (i := 15) rfl))) (ty := (.array .int)) (by decide)
  have F_sizes_hs_1 : Fld Z h1 hs sH "sizes" "[I" .null := D1 (Or.inl (hw _ (List.mem_of_getElem? (i := 17) rfl))) (ty := (.array .int)) (by decide)
  have F_count_hs_1 : Fld Z h1 hs sH "count" "I" (.int (0 : Int32)) := D1 (Or.inl (hw _ (List.mem_of_getElem? (i := 19) rfl))) (ty := .int) (by decide)
  have F_withOne_hs_1 : Fld Z h1 hs sH "withOne" "Lcom/example/rootline/rootline/heap/LongIntTable;" .null := D1 (Or.inr (hw _ (List.mem_of_getElem? (i := 40) rfl))) (ty := (.object "com/example/rootline/rootline/heap/LongIntTable")) (by decide)
  have F_unions_hs_1 : Fld Z h1 hs sH "unions" "Lcom/example/rootline/rootline/heap/LongIntTable;" .null := D1 (Or.inr (hw _ (List.mem_of_getElem? (i := 42) rfl))) (ty := (.object "com/example/rootline/rootline/heap/LongIntTable")) (by decide)
  have F_left_hs_1 : Fld Z h1 hs sH "left" "[I" .null := D1 (Or.inl (hw _ (List.mem_of_getElem? (i := 44) rfl))) (ty := (.array .int)) (by decide)
  have F_right_hs_1 : Fld Z h1 hs sH "right" "[I" .null := D1 (Or.inl (hw _ (List.mem_of_getElem? (i := 46) rfl))) (ty := (.array .int)) (by decide)
  have F_merged_hs_1 : Fld Z h1 hs sH "merged" "[I" .null := D1 (Or.inl (hw _ (List.mem_of_getElem? (i := 48) rfl))) (ty := (.array .int)) (by decide)
  have g_hs : n0 ≤ hs := Nat.le_trans Z0 (Nat.le_of_eq g1.symm)
  have siz_2 := Nat.le_trans Z0 E1.1
  obtain ⟨_, _, ⟨T3, L3, k3, n3⟩, -, X3, ⟨Lc3, hQ3, l3, y3, z3⟩, st3⟩ := X1.specialBack hx (y := (⟨"com/example/rootline/rootline/reach/HolderSets", "<init>", "()V"⟩ : MethodName)) rfl hown (mvT hZ (hw _ (List.mem_of_getElem? (i := 5) rfl))) (mvT hZ (hw _ (List.mem_of_getElem? (i := 6) rfl))) (mvT hZ (hw _ (List.mem_of_getElem? (i := 7) rfl))) (by decide) (backOf (W := 1) (rm1 l Z a0 hw [] hs h1 n0 siz_2 E_hs_1 F_rest_hs_1 F_highest_hs_1 F_sizes_hs_1 F_count_hs_1 F_withOne_hs_1 F_unions_hs_1 F_left_hs_1 F_right_hs_1 F_merged_hs_1 g_hs) hZ (hw _ (List.mem_of_getElem? (i := 7) rfl)) (hw _ (List.mem_of_getElem? (i := 4) rfl)) (by decide) (by decide)) (g := (mkF m 33 #[.val (.int x0), .val (.int x1), .val (.int x2), .val (.int x3), .val (.int H1), .val (.int H2), .val (.int H3), .val (.int (0 : Int32)), .unset, .unset, .unset, .unset, .unset, .unset, .unset, .unset, .unset, .unset] [(.ref hs), (.ref hs)])) rfl (by rw [hml]; rfl) (Steps.refl _) (a := hs) (argsL := []) (rest := [(.ref hs)]) (lenOf pd___V rfl) rfl (by show 2 * 0 + _ ≤ _; exact Nat.le_of_eq rfl) (hb hby at_33) (fun _ _ => ⟨rfl, e1, (by decide : 1 + 12 ≤ _), (by decide : 9 + 358 ≤ _)⟩)
  dsimp only [Pt.U, Pt.locs, Pt.cells, Pt.slots] at X3 l3 y3 z3 st3 hQ3
  subst l3 y3 z3
  obtain ⟨rfl, N3q, K3, ra, ha, sa, t, ka, va, kr, kh, ks, Kf, Vf, HSi, hVf⟩ := hQ3
  have siz_4 := Nat.le_trans siz_2 K3.1
  have E_hs : Exa Z T3.heap hs "com/example/rootline/rootline/reach/HolderSets" := HSi.2.1
  have N3 := Fr.app N0 N3q
  obtain ⟨T5, h5, k5, X5, e5, E5, A5, st5⟩ := newP X3 hx hZ (hw _ (List.mem_of_getElem? (i := 11) rfl)) rfl (g := (mkF m 103 #[.val (.int x0), .val (.int x1), .val (.int x2), .val (.int x3), .val (.int H1), .val (.int H2), .val (.int H3), .val (.int (0 : Int32)), .val (.ref hs), .val (.int (0 : Int32)), .val (.int (0 : Int32)), .val (.int (0 : Int32)), .unset, .unset, .unset, .unset, .unset, .unset] [(.int (3 : Int32))])) rfl (hb hby at_103) rfl (by decide) (cap := 3) (by decide) (by decide) (by decide) (by decide)
  obtain ⟨ea, g5⟩ : ∃ z, z = T3.heap.size := ⟨_, rfl⟩
  rw [← g5] at A5 st5
  have V_ea_5 : Arv Z h5 ea k5 .int (3 : Int32) [(.int (0 : Int32)), (.int (0 : Int32)), (.int (0 : Int32))] (.int (0 : Int32)) := (Arv.new A5 (by decide)).pad (pad_rep [] (.int (0 : Int32)) 3)
  have lt_hs_ea : hs < ea := Nat.lt_of_lt_of_le E_hs.lt (Nat.le_of_eq g5.symm)
  have lt_va_ea : va < ea := Nat.lt_of_lt_of_le HSi.lt (Nat.le_of_eq g5.symm)
  have g_ea : n0 ≤ ea := Nat.le_trans siz_4 (Nat.le_of_eq g5.symm)
  have siz_6 := Nat.le_trans siz_4 E5.1
  have HS_6 := HSi.ext E5
  have E_hs_6 := E_hs.ext E5
  obtain ⟨cq7, kq7, q7a, q7b, q7c⟩ := isOf hZ e5 E_hs_6
  obtain ⟨_, _, ⟨T7, L7, k7, n7⟩, -, X7, ⟨Lc7, hQ7, l7, y7, z7⟩, st7⟩ := X5.virtualBack hx (y := (⟨"com/example/rootline/rootline/reach/HolderSets", "holders", "(I)[I"⟩ : MethodName)) (z := (⟨"com/example/rootline/rootline/reach/HolderSets", "holders", "(I)[I"⟩ : MethodName)) hown (mvT hZ (hw _ (List.mem_of_getElem? (i := 76) rfl))) (mvT hZ (hw _ (List.mem_of_getElem? (i := 77) rfl))) (notFace_of_selects (args := #[]) (mvT hZ (hw _ (List.mem_of_getElem? (i := 79) rfl)))) (mvT hZ (hw _ (List.mem_of_getElem? (i := 79) rfl))) (mvT hZ (hw _ (List.mem_of_getElem? (i := 78) rfl))) (by decide) (backOf (W := 0) (rmh_0_0 l Z a0 hw [] hs ra ha sa t ka va kr kh ks Kf Vf  h5 n0 siz_6 HS_6) hZ (hw _ (List.mem_of_getElem? (i := 80) rfl)) (hw _ (List.mem_of_getElem? (i := 4) rfl)) (by decide) (by decide)) q7a q7c (g := (mkF m 185 #[.val (.int x0), .val (.int x1), .val (.int x2), .val (.int x3), .val (.int H1), .val (.int H2), .val (.int H3), .val (.int (0 : Int32)), .val (.ref hs), .val (.int (0 : Int32)), .val (.int (0 : Int32)), .val (.int (0 : Int32)), .val (.ref ea), .val (.int (0 : Int32)), .unset, .unset, .unset, .unset] [(.int (0 : Int32)), (.ref hs)])) rfl (by rw [hml]; rfl) (Steps.refl _) (argsL := [(.int (0 : Int32))]) (rest := []) (lenOf pd__I__I rfl) rfl (by show 2 * 0 + _ ≤ _; exact Nat.le_of_eq rfl) (hb hby at_185) (fun _ _ => ⟨rfl, e5, (by decide : 14 + 1 ≤ _), (by decide : 370 + 0 ≤ _)⟩)
  dsimp only [Pt.U, Pt.locs, Pt.cells, Pt.slots] at X7 l7 y7 z7 st7 hQ7
  subst l7 y7 z7
  obtain ⟨g1, kg1, rfl, N7q, K7, sr7, Vr7⟩ := hQ7
  have siz_8 := Nat.le_trans siz_6 K7.1
  have HS_8 := HS_6.keep K7
  have E_hs_8 := E_hs_6.keep K7
  have V_ea_8 := V_ea_5.keep K7 nin0
  have N7 := Fr.app N3 N7q
  obtain ⟨cq9, kq9, q9a, q9b, q9c⟩ := isOf hZ rfl E_hs_8
  obtain ⟨_, _, ⟨T9, L9, k9, n9⟩, -, X9, ⟨Lc9, hQ9, l9, y9, z9⟩, st9⟩ := X7.virtualBack hx (y := (⟨"com/example/rootline/rootline/reach/HolderSets", "holders", "(I)[I"⟩ : MethodName)) (z := (⟨"com/example/rootline/rootline/reach/HolderSets", "holders", "(I)[I"⟩ : MethodName)) hown (mvT hZ (hw _ (List.mem_of_getElem? (i := 76) rfl))) (mvT hZ (hw _ (List.mem_of_getElem? (i := 77) rfl))) (notFace_of_selects (args := #[]) (mvT hZ (hw _ (List.mem_of_getElem? (i := 79) rfl)))) (mvT hZ (hw _ (List.mem_of_getElem? (i := 79) rfl))) (mvT hZ (hw _ (List.mem_of_getElem? (i := 78) rfl))) (by decide) (backOf (W := 0) (rmh_0_0 l Z a0 hw [] hs ra ha sa t ka va kr kh ks Kf Vf  T7.heap n0 siz_8 HS_8) hZ (hw _ (List.mem_of_getElem? (i := 80) rfl)) (hw _ (List.mem_of_getElem? (i := 4) rfl)) (by decide) (by decide)) q9a q9c (g := (mkF m 296 #[.val (.int x0), .val (.int x1), .val (.int x2), .val (.int x3), .val (.int H1), .val (.int H2), .val (.int H3), .val (.int (0 : Int32)), .val (.ref hs), .val (.int (0 : Int32)), .val (.int (0 : Int32)), .val (.int (0 : Int32)), .val (.ref ea), .val (.int (0 : Int32)), .val (.ref g1), .val (.int (1 : Int32)), .unset, .unset] [(.int (0 : Int32)), (.ref hs)])) rfl (by rw [hml]; rfl) (Steps.refl _) (argsL := [(.int (0 : Int32))]) (rest := []) (lenOf pd__I__I rfl) rfl (by show 2 * 0 + _ ≤ _; exact Nat.le_of_eq rfl) (hb hby at_296) (fun _ _ => ⟨rfl, rfl, (by decide : 15 + 1 ≤ _), (by decide : 370 + 0 ≤ _)⟩)
  dsimp only [Pt.U, Pt.locs, Pt.cells, Pt.slots] at X9 l9 y9 z9 st9 hQ9
  subst l9 y9 z9
  obtain ⟨g2, kg2, rfl, N9q, K9, sr9, Vr9⟩ := hQ9
  have siz_10 := Nat.le_trans siz_8 K9.1
  have HS_10 := HS_8.keep K9
  have E_hs_10 := E_hs_8.keep K9
  have V_ea_10 := V_ea_8.keep K9 nin0
  have V_g1_10 := Vr7.keep K9 nin0
  have N9 := Fr.app N7 N9q
  obtain ⟨cq11, kq11, q11a, q11b, q11c⟩ := isOf hZ rfl E_hs_10
  obtain ⟨_, _, ⟨T11, L11, k11, n11⟩, -, X11, ⟨Lc11, hQ11, l11, y11, z11⟩, st11⟩ := X9.virtualBack hx (y := (⟨"com/example/rootline/rootline/reach/HolderSets", "holders", "(I)[I"⟩ : MethodName)) (z := (⟨"com/example/rootline/rootline/reach/HolderSets", "holders", "(I)[I"⟩ : MethodName)) hown (mvT hZ (hw _ (List.mem_of_getElem? (i := 76) rfl))) (mvT hZ (hw _ (List.mem_of_getElem? (i := 77) rfl))) (notFace_of_selects (args := #[]) (mvT hZ (hw _ (List.mem_of_getElem? (i := 79) rfl)))) (mvT hZ (hw _ (List.mem_of_getElem? (i := 79) rfl))) (mvT hZ (hw _ (List.mem_of_getElem? (i := 78) rfl))) (by decide) (backOf (W := 0) (rmh_0_0 l Z a0 hw [] hs ra ha sa t ka va kr kh ks Kf Vf  T9.heap n0 siz_10 HS_10) hZ (hw _ (List.mem_of_getElem? (i := 80) rfl)) (hw _ (List.mem_of_getElem? (i := 4) rfl)) (by decide) (by decide)) q11a q11c (g := (mkF m 359 #[.val (.int x0), .val (.int x1), .val (.int x2), .val (.int x3), .val (.int H1), .val (.int H2), .val (.int H3), .val (.int (0 : Int32)), .val (.ref hs), .val (.int (0 : Int32)), .val (.int (0 : Int32)), .val (.int (0 : Int32)), .val (.ref ea), .val (.int (0 : Int32)), .val (.ref g1), .val (.int (1 : Int32)), .val (.ref g2), .unset] [(.int (0 : Int32)), (.ref hs)])) rfl (by rw [hml]; rfl) (Steps.refl _) (argsL := [(.int (0 : Int32))]) (rest := []) (lenOf pd__I__I rfl) rfl (by show 2 * 0 + _ ≤ _; exact Nat.le_of_eq rfl) (hb hby at_359) (fun _ _ => ⟨rfl, rfl, (by decide : 16 + 1 ≤ _), (by decide : 370 + 0 ≤ _)⟩)
  dsimp only [Pt.U, Pt.locs, Pt.cells, Pt.slots] at X11 l11 y11 z11 st11 hQ11
  subst l11 y11 z11
  obtain ⟨g3, kg3, rfl, N11q, K11, sr11, Vr11⟩ := hQ11
  have siz_12 := Nat.le_trans siz_10 K11.1
  have HS_12 := HS_10.keep K11
  have E_hs_12 := E_hs_10.keep K11
  have V_ea_12 := V_ea_10.keep K11 nin0
  have V_g1_12 := V_g1_10.keep K11 nin0
  have V_g2_12 := Vr9.keep K11 nin0
  have N11 := Fr.app N9 N11q
  obtain ⟨fs, hr, hrun, hended, hW, hsame⟩ := X11.leave (v := some (.int (1 : Int32))) (fun h => by rw [Bd.returns] at h; cases h)
  refine ⟨_, _, pre0 _ ?_, hrun, hended, _, _, rfl, ?_, ⟨_, rfl⟩, hW, hsame.mono (by decide) (by decide)⟩
  · show Steps p.tables e below (s₁.setTop (mkF m 0 #[.val (.int x0), .val (.int x1), .val (.int x2), .val (.int x3), .unset, .unset, .unset, .unset, .unset, .unset, .unset, .unset, .unset, .unset, .unset, .unset, .unset, .unset] [])) _
    refine XS.iloadN X0.here hx rfl (hb hby at_0) rfl ?_
    refine X0.ldcInt hx hown (mvT hZ (hw _ (List.mem_of_getElem? (i := 0) rfl))) (g := (mkF m 1 #[.val (.int x0), .val (.int x1), .val (.int x2), .val (.int x3), .unset, .unset, .unset, .unset, .unset, .unset, .unset, .unset, .unset, .unset, .unset, .unset, .unset, .unset] [(.int x0)])) rfl (hb hby at_1) _ ?_
    refine XS.iand X0.here hx rfl (hb hby at_3) rfl ?_
    show Steps p.tables e below (s₁.setTop (mkF m 4 #[.val (.int x0), .val (.int x1), .val (.int x2), .val (.int x3), .unset, .unset, .unset, .unset, .unset, .unset, .unset, .unset, .unset, .unset, .unset, .unset, .unset, .unset] [(.int (x0 &&& (536870911 : Int32)))])) _
    rw [← eH1]
    show Steps p.tables e below (s₁.setTop (mkF m 4 #[.val (.int x0), .val (.int x1), .val (.int x2), .val (.int x3), .unset, .unset, .unset, .unset, .unset, .unset, .unset, .unset, .unset, .unset, .unset, .unset, .unset, .unset] [(.int H1)])) _
    refine XS.istore X0.here hx rfl (hb hby at_4) rfl (l' := #[.val (.int x0), .val (.int x1), .val (.int x2), .val (.int x3), .val (.int H1), .unset, .unset, .unset, .unset, .unset, .unset, .unset, .unset, .unset, .unset, .unset, .unset, .unset]) rfl ?_
    refine XS.iload X0.here hx rfl (hb hby at_6) rfl ?_
    refine XS.iloadN X0.here hx rfl (hb hby at_8) rfl ?_
    refine X0.ldcInt hx hown (mvT hZ (hw _ (List.mem_of_getElem? (i := 0) rfl))) (g := (mkF m 9 #[.val (.int x0), .val (.int x1), .val (.int x2), .val (.int x3), .val (.int H1), .unset, .unset, .unset, .unset, .unset, .unset, .unset, .unset, .unset, .unset, .unset, .unset, .unset] [(.int x1), (.int H1)])) rfl (hb hby at_9) _ ?_
    show Steps p.tables e below (s₁.setTop (mkF m 11 #[.val (.int x0), .val (.int x1), .val (.int x2), .val (.int x3), .val (.int H1), .unset, .unset, .unset, .unset, .unset, .unset, .unset, .unset, .unset, .unset, .unset, .unset, .unset] [(.int (536870911 : Int32)), (.int x1), (.int H1)])) _
    refine XS.iand X0.here hx rfl (hb hby at_11) rfl ?_
    refine XS.iadd X0.here hx rfl (hb hby at_12) rfl ?_
    show Steps p.tables e below (s₁.setTop (mkF m 13 #[.val (.int x0), .val (.int x1), .val (.int x2), .val (.int x3), .val (.int H1), .unset, .unset, .unset, .unset, .unset, .unset, .unset, .unset, .unset, .unset, .unset, .unset, .unset] [(.int (H1 + (x1 &&& (536870911 : Int32))))])) _
    rw [← eH2]
    show Steps p.tables e below (s₁.setTop (mkF m 13 #[.val (.int x0), .val (.int x1), .val (.int x2), .val (.int x3), .val (.int H1), .unset, .unset, .unset, .unset, .unset, .unset, .unset, .unset, .unset, .unset, .unset, .unset, .unset] [(.int H2)])) _
    refine XS.istore X0.here hx rfl (hb hby at_13) rfl (l' := #[.val (.int x0), .val (.int x1), .val (.int x2), .val (.int x3), .val (.int H1), .val (.int H2), .unset, .unset, .unset, .unset, .unset, .unset, .unset, .unset, .unset, .unset, .unset, .unset]) rfl ?_
    refine XS.iload X0.here hx rfl (hb hby at_15) rfl ?_
    show Steps p.tables e below (s₁.setTop (mkF m 17 #[.val (.int x0), .val (.int x1), .val (.int x2), .val (.int x3), .val (.int H1), .val (.int H2), .unset, .unset, .unset, .unset, .unset, .unset, .unset, .unset, .unset, .unset, .unset, .unset] [(.int H2)])) _
    refine XS.iloadN X0.here hx rfl (hb hby at_17) rfl ?_
    refine X0.ldcInt hx hown (mvT hZ (hw _ (List.mem_of_getElem? (i := 1) rfl))) (g := (mkF m 18 #[.val (.int x0), .val (.int x1), .val (.int x2), .val (.int x3), .val (.int H1), .val (.int H2), .unset, .unset, .unset, .unset, .unset, .unset, .unset, .unset, .unset, .unset, .unset, .unset] [(.int x2), (.int H2)])) rfl (hb hby at_18) _ ?_
    refine XS.iand X0.here hx rfl (hb hby at_20) rfl ?_
    refine XS.iadd X0.here hx rfl (hb hby at_21) rfl ?_
    show Steps p.tables e below (s₁.setTop (mkF m 22 #[.val (.int x0), .val (.int x1), .val (.int x2), .val (.int x3), .val (.int H1), .val (.int H2), .unset, .unset, .unset, .unset, .unset, .unset, .unset, .unset, .unset, .unset, .unset, .unset] [(.int (H2 + (x2 &&& (1073741823 : Int32))))])) _
    rw [← eH3]
    show Steps p.tables e below (s₁.setTop (mkF m 22 #[.val (.int x0), .val (.int x1), .val (.int x2), .val (.int x3), .val (.int H1), .val (.int H2), .unset, .unset, .unset, .unset, .unset, .unset, .unset, .unset, .unset, .unset, .unset, .unset] [(.int H3)])) _
    refine XS.istore X0.here hx rfl (hb hby at_22) rfl (l' := #[.val (.int x0), .val (.int x1), .val (.int x2), .val (.int x3), .val (.int H1), .val (.int H2), .val (.int H3), .unset, .unset, .unset, .unset, .unset, .unset, .unset, .unset, .unset, .unset, .unset]) rfl ?_
    refine XS.iloadN X0.here hx rfl (hb hby at_24) rfl ?_
    refine XS.iconst X0.here hx rfl (hb hby at_25) ?_
    refine XS.iand X0.here hx rfl (hb hby at_26) rfl ?_
    show Steps p.tables e below (s₁.setTop (mkF m 27 #[.val (.int x0), .val (.int x1), .val (.int x2), .val (.int x3), .val (.int H1), .val (.int H2), .val (.int H3), .unset, .unset, .unset, .unset, .unset, .unset, .unset, .unset, .unset, .unset, .unset] [(.int (x3 &&& (3 : Int32)))])) _
    rw [hn]
    show Steps p.tables e below (s₁.setTop (mkF m 27 #[.val (.int x0), .val (.int x1), .val (.int x2), .val (.int x3), .val (.int H1), .val (.int H2), .val (.int H3), .unset, .unset, .unset, .unset, .unset, .unset, .unset, .unset, .unset, .unset, .unset] [(.int (0 : Int32))])) _
    refine XS.istore X0.here hx rfl (hb hby at_27) rfl (l' := #[.val (.int x0), .val (.int x1), .val (.int x2), .val (.int x3), .val (.int H1), .val (.int H2), .val (.int H3), .val (.int (0 : Int32)), .unset, .unset, .unset, .unset, .unset, .unset, .unset, .unset, .unset, .unset]) rfl ?_
    refine st1 _ ?_
    show Steps p.tables e below (T1.setTop (mkF m 32 #[.val (.int x0), .val (.int x1), .val (.int x2), .val (.int x3), .val (.int H1), .val (.int H2), .val (.int H3), .val (.int (0 : Int32)), .unset, .unset, .unset, .unset, .unset, .unset, .unset, .unset, .unset, .unset] [(.ref hs)])) _
    refine XS.dup X1.here hx rfl (hb hby at_32) rfl rfl ?_
    refine st3.trans ?_
    show Steps p.tables e below (T3.setTop (mkF m 36 #[.val (.int x0), .val (.int x1), .val (.int x2), .val (.int x3), .val (.int H1), .val (.int H2), .val (.int H3), .val (.int (0 : Int32)), .unset, .unset, .unset, .unset, .unset, .unset, .unset, .unset, .unset, .unset] [(.ref hs)])) _
    refine XS.astore X3.here hx rfl (hb hby at_36) rfl rfl (l' := #[.val (.int x0), .val (.int x1), .val (.int x2), .val (.int x3), .val (.int H1), .val (.int H2), .val (.int H3), .val (.int (0 : Int32)), .val (.ref hs), .unset, .unset, .unset, .unset, .unset, .unset, .unset, .unset, .unset]) rfl ?_
    refine XS.iload X3.here hx rfl (hb hby at_38) rfl ?_
    refine XS.iconst X3.here hx rfl (hb hby at_40) ?_
    refine XS.icmpYes X3.here hx rfl (pc0 := 41) (pc' := 55) rfl (hb hby at_41) rfl (tlt (by decide : (0 : Int32) < (1 : Int32))).1 (by decide) (by decide) ?_
    show Steps p.tables e below (T3.setTop (mkF m 55 #[.val (.int x0), .val (.int x1), .val (.int x2), .val (.int x3), .val (.int H1), .val (.int H2), .val (.int H3), .val (.int (0 : Int32)), .val (.ref hs), .unset, .unset, .unset, .unset, .unset, .unset, .unset, .unset, .unset] [])) _
    refine XS.iconst X3.here hx rfl (hb hby at_55) ?_
    refine XS.istore X3.here hx rfl (hb hby at_56) rfl (l' := #[.val (.int x0), .val (.int x1), .val (.int x2), .val (.int x3), .val (.int H1), .val (.int H2), .val (.int H3), .val (.int (0 : Int32)), .val (.ref hs), .val (.int (0 : Int32)), .unset, .unset, .unset, .unset, .unset, .unset, .unset, .unset]) rfl ?_
    refine XS.iload X3.here hx rfl (hb hby at_58) rfl ?_
    refine XS.iconst X3.here hx rfl (hb hby at_60) ?_
    show Steps p.tables e below (T3.setTop (mkF m 61 #[.val (.int x0), .val (.int x1), .val (.int x2), .val (.int x3), .val (.int H1), .val (.int H2), .val (.int H3), .val (.int (0 : Int32)), .val (.ref hs), .val (.int (0 : Int32)), .unset, .unset, .unset, .unset, .unset, .unset, .unset, .unset] [(.int (2 : Int32)), (.int (0 : Int32))])) _
    refine XS.icmpYes X3.here hx rfl (pc0 := 61) (pc' := 76) rfl (hb hby at_61) rfl (tlt (by decide : (0 : Int32) < (2 : Int32))).1 (by decide) (by decide) ?_
    refine XS.iload X3.here hx rfl (hb hby at_76) rfl ?_
    refine XS.istore X3.here hx rfl (hb hby at_78) rfl (l' := #[.val (.int x0), .val (.int x1), .val (.int x2), .val (.int x3), .val (.int H1), .val (.int H2), .val (.int H3), .val (.int (0 : Int32)), .val (.ref hs), .val (.int (0 : Int32)), .val (.int (0 : Int32)), .unset, .unset, .unset, .unset, .unset, .unset, .unset]) rfl ?_
    refine XS.iload X3.here hx rfl (hb hby at_80) rfl ?_
    show Steps p.tables e below (T3.setTop (mkF m 82 #[.val (.int x0), .val (.int x1), .val (.int x2), .val (.int x3), .val (.int H1), .val (.int H2), .val (.int H3), .val (.int (0 : Int32)), .val (.ref hs), .val (.int (0 : Int32)), .val (.int (0 : Int32)), .unset, .unset, .unset, .unset, .unset, .unset, .unset] [(.int (0 : Int32))])) _
    refine XS.iconst X3.here hx rfl (hb hby at_82) ?_
    refine XS.icmpYes X3.here hx rfl (pc0 := 83) (pc' := 98) rfl (hb hby at_83) rfl (tlt (by decide : (0 : Int32) < (3 : Int32))).1 (by decide) (by decide) ?_
    refine XS.iload X3.here hx rfl (hb hby at_98) rfl ?_
    refine XS.istore X3.here hx rfl (hb hby at_100) rfl (l' := #[.val (.int x0), .val (.int x1), .val (.int x2), .val (.int x3), .val (.int H1), .val (.int H2), .val (.int H3), .val (.int (0 : Int32)), .val (.ref hs), .val (.int (0 : Int32)), .val (.int (0 : Int32)), .val (.int (0 : Int32)), .unset, .unset, .unset, .unset, .unset, .unset]) rfl ?_
    show Steps p.tables e below (T3.setTop (mkF m 102 #[.val (.int x0), .val (.int x1), .val (.int x2), .val (.int x3), .val (.int H1), .val (.int H2), .val (.int H3), .val (.int (0 : Int32)), .val (.ref hs), .val (.int (0 : Int32)), .val (.int (0 : Int32)), .val (.int (0 : Int32)), .unset, .unset, .unset, .unset, .unset, .unset] [])) _
    refine XS.iconst X3.here hx rfl (hb hby at_102) ?_
    refine st5 _ ?_
    show Steps p.tables e below (T5.setTop (mkF m 105 #[.val (.int x0), .val (.int x1), .val (.int x2), .val (.int x3), .val (.int H1), .val (.int H2), .val (.int H3), .val (.int (0 : Int32)), .val (.ref hs), .val (.int (0 : Int32)), .val (.int (0 : Int32)), .val (.int (0 : Int32)), .unset, .unset, .unset, .unset, .unset, .unset] [(.ref ea)])) _
    refine XS.astore X5.here hx rfl (hb hby at_105) rfl rfl (l' := #[.val (.int x0), .val (.int x1), .val (.int x2), .val (.int x3), .val (.int H1), .val (.int H2), .val (.int H3), .val (.int (0 : Int32)), .val (.ref hs), .val (.int (0 : Int32)), .val (.int (0 : Int32)), .val (.int (0 : Int32)), .val (.ref ea), .unset, .unset, .unset, .unset, .unset]) rfl ?_
    refine XS.iconst X5.here hx rfl (hb hby at_107) ?_
    show Steps p.tables e below (T5.setTop (mkF m 108 #[.val (.int x0), .val (.int x1), .val (.int x2), .val (.int x3), .val (.int H1), .val (.int H2), .val (.int H3), .val (.int (0 : Int32)), .val (.ref hs), .val (.int (0 : Int32)), .val (.int (0 : Int32)), .val (.int (0 : Int32)), .val (.ref ea), .unset, .unset, .unset, .unset, .unset] [(.int (0 : Int32))])) _
    refine XS.istore X5.here hx rfl (hb hby at_108) rfl (l' := #[.val (.int x0), .val (.int x1), .val (.int x2), .val (.int x3), .val (.int H1), .val (.int H2), .val (.int H3), .val (.int (0 : Int32)), .val (.ref hs), .val (.int (0 : Int32)), .val (.int (0 : Int32)), .val (.int (0 : Int32)), .val (.ref ea), .val (.int (0 : Int32)), .unset, .unset, .unset, .unset]) rfl ?_
    refine XS.iload X5.here hx rfl (hb hby at_110) rfl ?_
    refine XS.iconst X5.here hx rfl (hb hby at_112) ?_
    refine XS.icmpYes X5.here hx rfl (pc0 := 113) (pc' := 129) rfl (hb hby at_113) rfl (tlt (by decide : (0 : Int32) < (1 : Int32))).1 (by decide) (by decide) ?_
    show Steps p.tables e below (T5.setTop (mkF m 129 #[.val (.int x0), .val (.int x1), .val (.int x2), .val (.int x3), .val (.int H1), .val (.int H2), .val (.int H3), .val (.int (0 : Int32)), .val (.ref hs), .val (.int (0 : Int32)), .val (.int (0 : Int32)), .val (.int (0 : Int32)), .val (.ref ea), .val (.int (0 : Int32)), .unset, .unset, .unset, .unset] [])) _
    refine XS.iload X5.here hx rfl (hb hby at_129) rfl ?_
    refine XS.iconst X5.here hx rfl (hb hby at_131) ?_
    refine XS.icmpYes X5.here hx rfl (pc0 := 132) (pc' := 155) rfl (hb hby at_132) rfl (tlt (by decide : (0 : Int32) < (2 : Int32))).1 (by decide) (by decide) ?_
    refine XS.iload X5.here hx rfl (hb hby at_155) rfl ?_
    show Steps p.tables e below (T5.setTop (mkF m 157 #[.val (.int x0), .val (.int x1), .val (.int x2), .val (.int x3), .val (.int H1), .val (.int H2), .val (.int H3), .val (.int (0 : Int32)), .val (.ref hs), .val (.int (0 : Int32)), .val (.int (0 : Int32)), .val (.int (0 : Int32)), .val (.ref ea), .val (.int (0 : Int32)), .unset, .unset, .unset, .unset] [(.int (0 : Int32))])) _
    refine XS.iconst X5.here hx rfl (hb hby at_157) ?_
    refine XS.icmpYes X5.here hx rfl (pc0 := 158) (pc' := 181) rfl (hb hby at_158) rfl (tlt (by decide : (0 : Int32) < (3 : Int32))).1 (by decide) (by decide) ?_
    refine XS.aload X5.here hx rfl (hb hby at_181) rfl rfl ?_
    refine XS.iload X5.here hx rfl (hb hby at_183) rfl ?_
    show Steps p.tables e below (T5.setTop (mkF m 185 #[.val (.int x0), .val (.int x1), .val (.int x2), .val (.int x3), .val (.int H1), .val (.int H2), .val (.int H3), .val (.int (0 : Int32)), .val (.ref hs), .val (.int (0 : Int32)), .val (.int (0 : Int32)), .val (.int (0 : Int32)), .val (.ref ea), .val (.int (0 : Int32)), .unset, .unset, .unset, .unset] [(.int (0 : Int32)), (.ref hs)])) _
    refine st7.trans ?_
    show Steps p.tables e below (T7.setTop (mkF m 188 #[.val (.int x0), .val (.int x1), .val (.int x2), .val (.int x3), .val (.int H1), .val (.int H2), .val (.int H3), .val (.int (0 : Int32)), .val (.ref hs), .val (.int (0 : Int32)), .val (.int (0 : Int32)), .val (.int (0 : Int32)), .val (.ref ea), .val (.int (0 : Int32)), .unset, .unset, .unset, .unset] [(.ref g1)])) _
    refine XS.astore X7.here hx rfl (hb hby at_188) rfl rfl (l' := #[.val (.int x0), .val (.int x1), .val (.int x2), .val (.int x3), .val (.int H1), .val (.int H2), .val (.int H3), .val (.int (0 : Int32)), .val (.ref hs), .val (.int (0 : Int32)), .val (.int (0 : Int32)), .val (.int (0 : Int32)), .val (.ref ea), .val (.int (0 : Int32)), .val (.ref g1), .unset, .unset, .unset]) rfl ?_
    refine XS.aload X7.here hx rfl (hb hby at_190) rfl rfl ?_
    refine own_len X7 hx hZ rfl Vr7 (g := (mkF m 192 #[.val (.int x0), .val (.int x1), .val (.int x2), .val (.int x3), .val (.int H1), .val (.int H2), .val (.int H3), .val (.int (0 : Int32)), .val (.ref hs), .val (.int (0 : Int32)), .val (.int (0 : Int32)), .val (.int (0 : Int32)), .val (.ref ea), .val (.int (0 : Int32)), .val (.ref g1), .unset, .unset, .unset] [(.ref g1)])) rfl rfl (hb hby at_192) ?_
    show Steps p.tables e below (T7.setTop (mkF m 193 #[.val (.int x0), .val (.int x1), .val (.int x2), .val (.int x3), .val (.int H1), .val (.int H2), .val (.int H3), .val (.int (0 : Int32)), .val (.ref hs), .val (.int (0 : Int32)), .val (.int (0 : Int32)), .val (.int (0 : Int32)), .val (.ref ea), .val (.int (0 : Int32)), .val (.ref g1), .unset, .unset, .unset] [(.int (0 : Int32))])) _
    refine XS.iload X7.here hx rfl (hb hby at_193) rfl ?_
    refine XS.icmpNo X7.here hx rfl (hb hby at_195) rfl (teq (by decide : (0 : Int32) = (0 : Int32))).2 ?_
    refine XS.iconst X7.here hx rfl (hb hby at_198) ?_
    refine XS.goto X7.here hx rfl (pc0 := 199) (pc' := 203) rfl (hb hby at_199) (by decide) (by decide) ?_
    show Steps p.tables e below (T7.setTop (mkF m 203 #[.val (.int x0), .val (.int x1), .val (.int x2), .val (.int x3), .val (.int H1), .val (.int H2), .val (.int H3), .val (.int (0 : Int32)), .val (.ref hs), .val (.int (0 : Int32)), .val (.int (0 : Int32)), .val (.int (0 : Int32)), .val (.ref ea), .val (.int (0 : Int32)), .val (.ref g1), .unset, .unset, .unset] [(.int (1 : Int32))])) _
    refine XS.istore X7.here hx rfl (hb hby at_203) rfl (l' := #[.val (.int x0), .val (.int x1), .val (.int x2), .val (.int x3), .val (.int H1), .val (.int H2), .val (.int H3), .val (.int (0 : Int32)), .val (.ref hs), .val (.int (0 : Int32)), .val (.int (0 : Int32)), .val (.int (0 : Int32)), .val (.ref ea), .val (.int (0 : Int32)), .val (.ref g1), .val (.int (1 : Int32)), .unset, .unset]) rfl ?_
    refine XS.iload X7.here hx rfl (hb hby at_205) rfl ?_
    refine XS.ifNo X7.here hx rfl (hb hby at_207) rfl ((if0 _ _).trans (feq (by decide : ¬ ((1 : Int32) = (0 : Int32)))).1) ?_
    refine XS.iload X7.here hx rfl (hb hby at_210) rfl ?_
    show Steps p.tables e below (T7.setTop (mkF m 212 #[.val (.int x0), .val (.int x1), .val (.int x2), .val (.int x3), .val (.int H1), .val (.int H2), .val (.int H3), .val (.int (0 : Int32)), .val (.ref hs), .val (.int (0 : Int32)), .val (.int (0 : Int32)), .val (.int (0 : Int32)), .val (.ref ea), .val (.int (0 : Int32)), .val (.ref g1), .val (.int (1 : Int32)), .unset, .unset] [(.int (0 : Int32))])) _
    refine XS.iconst X7.here hx rfl (hb hby at_212) ?_
    refine XS.icmpYes X7.here hx rfl (pc0 := 213) (pc' := 234) rfl (hb hby at_213) rfl (tlt (by decide : (0 : Int32) < (1 : Int32))).1 (by decide) (by decide) ?_
    refine XS.iload X7.here hx rfl (hb hby at_234) rfl ?_
    refine XS.ifNo X7.here hx rfl (hb hby at_236) rfl ((if0 _ _).trans (feq (by decide : ¬ ((1 : Int32) = (0 : Int32)))).1) ?_
    show Steps p.tables e below (T7.setTop (mkF m 239 #[.val (.int x0), .val (.int x1), .val (.int x2), .val (.int x3), .val (.int H1), .val (.int H2), .val (.int H3), .val (.int (0 : Int32)), .val (.ref hs), .val (.int (0 : Int32)), .val (.int (0 : Int32)), .val (.int (0 : Int32)), .val (.ref ea), .val (.int (0 : Int32)), .val (.ref g1), .val (.int (1 : Int32)), .unset, .unset] [])) _
    refine XS.iload X7.here hx rfl (hb hby at_239) rfl ?_
    refine XS.iconst X7.here hx rfl (hb hby at_241) ?_
    refine XS.icmpYes X7.here hx rfl (pc0 := 242) (pc' := 263) rfl (hb hby at_242) rfl (tlt (by decide : (0 : Int32) < (2 : Int32))).1 (by decide) (by decide) ?_
    refine XS.iload X7.here hx rfl (hb hby at_263) rfl ?_
    show Steps p.tables e below (T7.setTop (mkF m 265 #[.val (.int x0), .val (.int x1), .val (.int x2), .val (.int x3), .val (.int H1), .val (.int H2), .val (.int H3), .val (.int (0 : Int32)), .val (.ref hs), .val (.int (0 : Int32)), .val (.int (0 : Int32)), .val (.int (0 : Int32)), .val (.ref ea), .val (.int (0 : Int32)), .val (.ref g1), .val (.int (1 : Int32)), .unset, .unset] [(.int (1 : Int32))])) _
    refine XS.ifNo X7.here hx rfl (hb hby at_265) rfl ((if0 _ _).trans (feq (by decide : ¬ ((1 : Int32) = (0 : Int32)))).1) ?_
    refine XS.iload X7.here hx rfl (hb hby at_268) rfl ?_
    refine XS.iconst X7.here hx rfl (hb hby at_270) ?_
    refine XS.icmpYes X7.here hx rfl (pc0 := 271) (pc' := 292) rfl (hb hby at_271) rfl (tlt (by decide : (0 : Int32) < (3 : Int32))).1 (by decide) (by decide) ?_
    show Steps p.tables e below (T7.setTop (mkF m 292 #[.val (.int x0), .val (.int x1), .val (.int x2), .val (.int x3), .val (.int H1), .val (.int H2), .val (.int H3), .val (.int (0 : Int32)), .val (.ref hs), .val (.int (0 : Int32)), .val (.int (0 : Int32)), .val (.int (0 : Int32)), .val (.ref ea), .val (.int (0 : Int32)), .val (.ref g1), .val (.int (1 : Int32)), .unset, .unset] [])) _
    refine XS.aload X7.here hx rfl (hb hby at_292) rfl rfl ?_
    refine XS.iload X7.here hx rfl (hb hby at_294) rfl ?_
    refine st9.trans ?_
    show Steps p.tables e below (T9.setTop (mkF m 299 #[.val (.int x0), .val (.int x1), .val (.int x2), .val (.int x3), .val (.int H1), .val (.int H2), .val (.int H3), .val (.int (0 : Int32)), .val (.ref hs), .val (.int (0 : Int32)), .val (.int (0 : Int32)), .val (.int (0 : Int32)), .val (.ref ea), .val (.int (0 : Int32)), .val (.ref g1), .val (.int (1 : Int32)), .unset, .unset] [(.ref g2)])) _
    refine XS.astore X9.here hx rfl (hb hby at_299) rfl rfl (l' := #[.val (.int x0), .val (.int x1), .val (.int x2), .val (.int x3), .val (.int H1), .val (.int H2), .val (.int H3), .val (.int (0 : Int32)), .val (.ref hs), .val (.int (0 : Int32)), .val (.int (0 : Int32)), .val (.int (0 : Int32)), .val (.ref ea), .val (.int (0 : Int32)), .val (.ref g1), .val (.int (1 : Int32)), .val (.ref g2), .unset]) rfl ?_
    show Steps p.tables e below (T9.setTop (mkF m 301 #[.val (.int x0), .val (.int x1), .val (.int x2), .val (.int x3), .val (.int H1), .val (.int H2), .val (.int H3), .val (.int (0 : Int32)), .val (.ref hs), .val (.int (0 : Int32)), .val (.int (0 : Int32)), .val (.int (0 : Int32)), .val (.ref ea), .val (.int (0 : Int32)), .val (.ref g1), .val (.int (1 : Int32)), .val (.ref g2), .unset] [])) _
    refine XS.iload X9.here hx rfl (hb hby at_301) rfl ?_
    refine XS.iconst X9.here hx rfl (hb hby at_303) ?_
    refine XS.icmpYes X9.here hx rfl (pc0 := 304) (pc' := 338) rfl (hb hby at_304) rfl (tlt (by decide : (0 : Int32) < (1 : Int32))).1 (by decide) (by decide) ?_
    refine XS.iload X9.here hx rfl (hb hby at_338) rfl ?_
    show Steps p.tables e below (T9.setTop (mkF m 340 #[.val (.int x0), .val (.int x1), .val (.int x2), .val (.int x3), .val (.int H1), .val (.int H2), .val (.int H3), .val (.int (0 : Int32)), .val (.ref hs), .val (.int (0 : Int32)), .val (.int (0 : Int32)), .val (.int (0 : Int32)), .val (.ref ea), .val (.int (0 : Int32)), .val (.ref g1), .val (.int (1 : Int32)), .val (.ref g2), .unset] [(.int (1 : Int32))])) _
    refine XS.ifNo X9.here hx rfl (hb hby at_340) rfl ((if0 _ _).trans (feq (by decide : ¬ ((1 : Int32) = (0 : Int32)))).1) ?_
    refine XS.aload X9.here hx rfl (hb hby at_343) rfl rfl ?_
    refine own_len X9 hx hZ rfl Vr9 (g := (mkF m 345 #[.val (.int x0), .val (.int x1), .val (.int x2), .val (.int x3), .val (.int H1), .val (.int H2), .val (.int H3), .val (.int (0 : Int32)), .val (.ref hs), .val (.int (0 : Int32)), .val (.int (0 : Int32)), .val (.int (0 : Int32)), .val (.ref ea), .val (.int (0 : Int32)), .val (.ref g1), .val (.int (1 : Int32)), .val (.ref g2), .unset] [(.ref g2)])) rfl rfl (hb hby at_345) ?_
    refine XS.ifNo X9.here hx rfl (hb hby at_346) rfl ((if0 _ _).trans (teq (by decide : (0 : Int32) = (0 : Int32))).2) ?_
    show Steps p.tables e below (T9.setTop (mkF m 349 #[.val (.int x0), .val (.int x1), .val (.int x2), .val (.int x3), .val (.int H1), .val (.int H2), .val (.int H3), .val (.int (0 : Int32)), .val (.ref hs), .val (.int (0 : Int32)), .val (.int (0 : Int32)), .val (.int (0 : Int32)), .val (.ref ea), .val (.int (0 : Int32)), .val (.ref g1), .val (.int (1 : Int32)), .val (.ref g2), .unset] [])) _
    refine XS.iconst X9.here hx rfl (hb hby at_349) ?_
    refine XS.goto X9.here hx rfl (pc0 := 350) (pc' := 354) rfl (hb hby at_350) (by decide) (by decide) ?_
    refine XS.istore X9.here hx rfl (hb hby at_354) rfl (l' := #[.val (.int x0), .val (.int x1), .val (.int x2), .val (.int x3), .val (.int H1), .val (.int H2), .val (.int H3), .val (.int (0 : Int32)), .val (.ref hs), .val (.int (0 : Int32)), .val (.int (0 : Int32)), .val (.int (0 : Int32)), .val (.ref ea), .val (.int (0 : Int32)), .val (.ref g1), .val (.int (1 : Int32)), .val (.ref g2), .unset]) rfl ?_
    refine XS.aload X9.here hx rfl (hb hby at_356) rfl rfl ?_
    show Steps p.tables e below (T9.setTop (mkF m 358 #[.val (.int x0), .val (.int x1), .val (.int x2), .val (.int x3), .val (.int H1), .val (.int H2), .val (.int H3), .val (.int (0 : Int32)), .val (.ref hs), .val (.int (0 : Int32)), .val (.int (0 : Int32)), .val (.int (0 : Int32)), .val (.ref ea), .val (.int (0 : Int32)), .val (.ref g1), .val (.int (1 : Int32)), .val (.ref g2), .unset] [(.ref hs)])) _
    refine XS.iconst X9.here hx rfl (hb hby at_358) ?_
    refine st11.trans ?_
    show Steps p.tables e below (T11.setTop (mkF m 362 #[.val (.int x0), .val (.int x1), .val (.int x2), .val (.int x3), .val (.int H1), .val (.int H2), .val (.int H3), .val (.int (0 : Int32)), .val (.ref hs), .val (.int (0 : Int32)), .val (.int (0 : Int32)), .val (.int (0 : Int32)), .val (.ref ea), .val (.int (0 : Int32)), .val (.ref g1), .val (.int (1 : Int32)), .val (.ref g2), .unset] [(.ref g3)])) _
    refine XS.astore X11.here hx rfl (hb hby at_362) rfl rfl (l' := #[.val (.int x0), .val (.int x1), .val (.int x2), .val (.int x3), .val (.int H1), .val (.int H2), .val (.int H3), .val (.int (0 : Int32)), .val (.ref hs), .val (.int (0 : Int32)), .val (.int (0 : Int32)), .val (.int (0 : Int32)), .val (.ref ea), .val (.int (0 : Int32)), .val (.ref g1), .val (.int (1 : Int32)), .val (.ref g2), .val (.ref g3)]) rfl ?_
    refine XS.iload X11.here hx rfl (hb hby at_364) rfl ?_
    show Steps p.tables e below (T11.setTop (mkF m 366 #[.val (.int x0), .val (.int x1), .val (.int x2), .val (.int x3), .val (.int H1), .val (.int H2), .val (.int H3), .val (.int (0 : Int32)), .val (.ref hs), .val (.int (0 : Int32)), .val (.int (0 : Int32)), .val (.int (0 : Int32)), .val (.ref ea), .val (.int (0 : Int32)), .val (.ref g1), .val (.int (1 : Int32)), .val (.ref g2), .val (.ref g3)] [(.int (1 : Int32))])) _
    refine XS.ifNo X11.here hx rfl (hb hby at_366) rfl ((if0 _ _).trans (feq (by decide : ¬ ((1 : Int32) = (0 : Int32)))).1) ?_
    refine XS.aload X11.here hx rfl (hb hby at_369) rfl rfl ?_
    refine own_len X11 hx hZ rfl Vr11 (g := (mkF m 371 #[.val (.int x0), .val (.int x1), .val (.int x2), .val (.int x3), .val (.int H1), .val (.int H2), .val (.int H3), .val (.int (0 : Int32)), .val (.ref hs), .val (.int (0 : Int32)), .val (.int (0 : Int32)), .val (.int (0 : Int32)), .val (.ref ea), .val (.int (0 : Int32)), .val (.ref g1), .val (.int (1 : Int32)), .val (.ref g2), .val (.ref g3)] [(.ref g3)])) rfl rfl (hb hby at_371) ?_
    refine XS.ifNo X11.here hx rfl (hb hby at_372) rfl ((if0 _ _).trans (teq (by decide : (0 : Int32) = (0 : Int32))).2) ?_
    show Steps p.tables e below (T11.setTop (mkF m 375 #[.val (.int x0), .val (.int x1), .val (.int x2), .val (.int x3), .val (.int H1), .val (.int H2), .val (.int H3), .val (.int (0 : Int32)), .val (.ref hs), .val (.int (0 : Int32)), .val (.int (0 : Int32)), .val (.int (0 : Int32)), .val (.ref ea), .val (.int (0 : Int32)), .val (.ref g1), .val (.int (1 : Int32)), .val (.ref g2), .val (.ref g3)] [])) _
    refine XS.iconst X11.here hx rfl (hb hby at_375) ?_
    refine XS.goto X11.here hx rfl (pc0 := 376) (pc' := 380) rfl (hb hby at_376) (by decide) (by decide) ?_
    refine XS.istore X11.here hx rfl (hb hby at_380) rfl (l' := #[.val (.int x0), .val (.int x1), .val (.int x2), .val (.int x3), .val (.int H1), .val (.int H2), .val (.int H3), .val (.int (0 : Int32)), .val (.ref hs), .val (.int (0 : Int32)), .val (.int (0 : Int32)), .val (.int (0 : Int32)), .val (.ref ea), .val (.int (0 : Int32)), .val (.ref g1), .val (.int (1 : Int32)), .val (.ref g2), .val (.ref g3)]) rfl ?_
    refine XS.iload X11.here hx rfl (hb hby at_382) rfl ?_
    show Steps p.tables e below (T11.setTop (mkF m 384 #[.val (.int x0), .val (.int x1), .val (.int x2), .val (.int x3), .val (.int H1), .val (.int H2), .val (.int H3), .val (.int (0 : Int32)), .val (.ref hs), .val (.int (0 : Int32)), .val (.int (0 : Int32)), .val (.int (0 : Int32)), .val (.ref ea), .val (.int (0 : Int32)), .val (.ref g1), .val (.int (1 : Int32)), .val (.ref g2), .val (.ref g3)] [(.int (1 : Int32))])) _
    exact retN X11 hx (t := .boolean) Bd.returns (by simp) (hb hby at_384) hr
  · exact ⟨rfl, N11⟩
theorem pd__II_I : parseMethodDescriptor "(II)I" = some ⟨[.int, .int], some .int⟩ := by decide +kernel
set_option maxRecDepth 65536 in
set_option maxHeartbeats 40000000 in
theorem rm0_1 (l : Launch) (Z : State) (a0 : Array Value) (hw : ∀ d ∈ tables_1, d.before a0 Z = true) (ws : List Jvm.Cond) (x0 : Int32) (x1 : Int32) (x2 : Int32) (x3 : Int32) (H1 H2 H3 : Int32) (h0 : Heap) (n0 : Nat) (Z0 : n0 ≤ h0.size) (eH1 : H1 = (x0 &&& (536870911 : Int32))) (eH2 : H2 = (H1 + (x1 &&& (536870911 : Int32)))) (eH3 : H3 = (H2 + (x2 &&& (1073741823 : Int32)))) (hn : (x3 &&& (3 : Int32)) = (1 : Int32)) :
    MetFree l x (head1 (Jvm.Cond.code x code maxLocals ret :: ws) room_1) (fun a U => a = #[(.int x0), (.int x1), (.int x2), (.int x3)] ∧ Z.Warmed39 U.vm ∧ U.heap = h0) (fun _ _ _ _ _ => True) (fun _ U o U' => ∃ v L, o = .returned v ∧ (QL n0 v U'.heap L) ∧ FrameEnd U o U' L room_1.cells room_1.slots) := by
  refine MetFree.of_bodySF (plainFor_of_name pn_0) hisR ?_
  intro p e s m args below meth c s₁ Bd hml0 hP hK
  obtain ⟨rfl, hZ, hh⟩ := hP
  have hx := Bd.exec
  have hby := Bd.bytes
  have hml : c.maxLocals = 18 := hml0
  have hown : s.vm.findClass "com/example/rootline/rootline/reach/HolderSetsHoldersPinLaw" = some m.cls := findClass_of_methodNamed Bd.named
  have hnm := (name_of_methodNamed Bd.named Bd.method).1
  have X0 : Stand p l e room_1 s m #[(.int x0), (.int x1), (.int x2), (.int x3)] below meth c s₁ [] 0 0 := Stand.of_body Bd
  have e0 : s₁.heap = h0 := by rw [← hh, Bd.state]; rfl
  have N0 := Fr.nil n0
  have pre0 : ∀ t, Steps p.tables e below (s₁.setTop (mkF m 0 #[.val (.int x0), .val (.int x1), .val (.int x2), .val (.int x3), .unset, .unset, .unset, .unset, .unset, .unset, .unset, .unset, .unset, .unset, .unset, .unset, .unset, .unset] [])) t → Steps p.tables e below (s₁.setTop (entryFrame m #[(.int x0), (.int x1), (.int x2), (.int x3)] maxLocals)) t := fun t k => castTop (ef_0 m x0 x1 x2 x3) k
  have c0 : (0 : Int32).toInt = 0 := rfl
  have cm1 : (-1 : Int32).toInt = -1 := rfl
  have m1 := c_mask x0 (536870911 : Int32) 29 (by decide) (by decide)
  have m2 := c_mask x1 (536870911 : Int32) 29 (by decide) (by decide)
  have m3 := c_mask x2 (1073741823 : Int32) 30 (by decide) (by decide)
  rw [show ((2 ^ 29 : Nat) : Int) = 536870912 from rfl] at m1 m2
  rw [show ((2 ^ 30 : Nat) : Int) = 1073741824 from rfl] at m3
  have a2 := c_iadd H1 (x1 &&& (536870911 : Int32))
  have a3 := c_iadd H2 (x2 &&& (1073741823 : Int32))
  rw [← eH2] at a2
  rw [← eH3] at a3
  rw [← eH1] at m1
  have r2 := rng32 H2
  have r3 := rng32 H3
  have hH1 : 0 ≤ H1.toInt := by omega
  have hH1n := hH1
  have hH2n : 0 ≤ H2.toInt := by omega
  have hH3n : 0 ≤ H3.toInt := by omega
  have le12 : H1.toInt ≤ H2.toInt := by omega
  have le23 : H2.toInt ≤ H3.toInt := by omega
  have hneH1 : ¬ (H1 = (-1 : Int32)) := by rw [← Int32.toInt_inj]; omega
  have hgeH1 : ¬ (H1 < (-1 : Int32)) := by rw [Int32.lt_iff_toInt_lt]; omega
  obtain ⟨T1, h1, X1, e1, E1, A1, D1, -, st1⟩ := newO X0 hx hZ hown (hw _ (List.mem_of_getElem? (i := 2) rfl)) (hw _ (List.mem_of_getElem? (i := 3) rfl)) (hw _ (List.mem_of_getElem? (i := 4) rfl)) e0 (g := (mkF m 29 #[.val (.int x0), .val (.int x1), .val (.int x2), .val (.int x3), .val (.int H1), .val (.int H2), .val (.int H3), .val (.int (1 : Int32)), .unset, .unset, .unset, .unset, .unset, .unset, .unset, .unset, .unset, .unset] [])) rfl (hb hby at_29) (by decide) (by decide)
  obtain ⟨hs, g1⟩ : ∃ z, z = h0.size := ⟨_, rfl⟩
  rw [← g1] at A1 D1 st1
  have E_hs_1 : Exa Z h1 hs "com/example/rootline/rootline/reach/HolderSets" := A1
  have F_rest_hs_1 : Fld Z h1 hs sH "rest" "[I" .null := D1 (Or.inl (hw _ (List.mem_of_getElem? (i := 13) rfl))) (ty := (.array .int)) (by decide)
  have F_highest_hs_1 : Fld Z h1 hs sH "highest" "[I" .null := D1 (Or.inl (hw _ (List.mem_of_getElem? (i := 15) rfl))) (ty := (.array .int)) (by decide)
  have F_sizes_hs_1 : Fld Z h1 hs sH "sizes" "[I" .null := D1 (Or.inl (hw _ (List.mem_of_getElem? (i := 17) rfl))) (ty := (.array .int)) (by decide)
  have F_count_hs_1 : Fld Z h1 hs sH "count" "I" (.int (0 : Int32)) := D1 (Or.inl (hw _ (List.mem_of_getElem? (i := 19) rfl))) (ty := .int) (by decide)
  have F_withOne_hs_1 : Fld Z h1 hs sH "withOne" "Lcom/example/rootline/rootline/heap/LongIntTable;" .null := D1 (Or.inr (hw _ (List.mem_of_getElem? (i := 40) rfl))) (ty := (.object "com/example/rootline/rootline/heap/LongIntTable")) (by decide)
  have F_unions_hs_1 : Fld Z h1 hs sH "unions" "Lcom/example/rootline/rootline/heap/LongIntTable;" .null := D1 (Or.inr (hw _ (List.mem_of_getElem? (i := 42) rfl))) (ty := (.object "com/example/rootline/rootline/heap/LongIntTable")) (by decide)
  have F_left_hs_1 : Fld Z h1 hs sH "left" "[I" .null := D1 (Or.inl (hw _ (List.mem_of_getElem? (i := 44) rfl))) (ty := (.array .int)) (by decide)
  have F_right_hs_1 : Fld Z h1 hs sH "right" "[I" .null := D1 (Or.inl (hw _ (List.mem_of_getElem? (i := 46) rfl))) (ty := (.array .int)) (by decide)
  have F_merged_hs_1 : Fld Z h1 hs sH "merged" "[I" .null := D1 (Or.inl (hw _ (List.mem_of_getElem? (i := 48) rfl))) (ty := (.array .int)) (by decide)
  have g_hs : n0 ≤ hs := Nat.le_trans Z0 (Nat.le_of_eq g1.symm)
  have siz_2 := Nat.le_trans Z0 E1.1
  obtain ⟨_, _, ⟨T3, L3, k3, n3⟩, -, X3, ⟨Lc3, hQ3, l3, y3, z3⟩, st3⟩ := X1.specialBack hx (y := (⟨"com/example/rootline/rootline/reach/HolderSets", "<init>", "()V"⟩ : MethodName)) rfl hown (mvT hZ (hw _ (List.mem_of_getElem? (i := 5) rfl))) (mvT hZ (hw _ (List.mem_of_getElem? (i := 6) rfl))) (mvT hZ (hw _ (List.mem_of_getElem? (i := 7) rfl))) (by decide) (backOf (W := 1) (rm1 l Z a0 hw [] hs h1 n0 siz_2 E_hs_1 F_rest_hs_1 F_highest_hs_1 F_sizes_hs_1 F_count_hs_1 F_withOne_hs_1 F_unions_hs_1 F_left_hs_1 F_right_hs_1 F_merged_hs_1 g_hs) hZ (hw _ (List.mem_of_getElem? (i := 7) rfl)) (hw _ (List.mem_of_getElem? (i := 4) rfl)) (by decide) (by decide)) (g := (mkF m 33 #[.val (.int x0), .val (.int x1), .val (.int x2), .val (.int x3), .val (.int H1), .val (.int H2), .val (.int H3), .val (.int (1 : Int32)), .unset, .unset, .unset, .unset, .unset, .unset, .unset, .unset, .unset, .unset] [(.ref hs), (.ref hs)])) rfl (by rw [hml]; rfl) (Steps.refl _) (a := hs) (argsL := []) (rest := [(.ref hs)]) (lenOf pd___V rfl) rfl (by show 2 * 0 + _ ≤ _; exact Nat.le_of_eq rfl) (hb hby at_33) (fun _ _ => ⟨rfl, e1, (by decide : 1 + 12 ≤ _), (by decide : 9 + 358 ≤ _)⟩)
  dsimp only [Pt.U, Pt.locs, Pt.cells, Pt.slots] at X3 l3 y3 z3 st3 hQ3
  subst l3 y3 z3
  obtain ⟨rfl, N3q, K3, ra, ha, sa, t, ka, va, kr, kh, ks, Kf, Vf, HSi, hVf⟩ := hQ3
  have siz_4 := Nat.le_trans siz_2 K3.1
  have E_hs : Exa Z T3.heap hs "com/example/rootline/rootline/reach/HolderSets" := HSi.2.1
  have N3 := Fr.app N0 N3q
  obtain ⟨cq5, kq5, q5a, q5b, q5c⟩ := isOf hZ rfl E_hs
  obtain ⟨_, _, ⟨T5, L5, k5, n5⟩, -, X5, ⟨Lc5, hQ5, l5, y5, z5⟩, st5⟩ := X3.virtualBack hx (y := (⟨"com/example/rootline/rootline/reach/HolderSets", "with", "(II)I"⟩ : MethodName)) (z := (⟨"com/example/rootline/rootline/reach/HolderSets", "with", "(II)I"⟩ : MethodName)) hown (mvT hZ (hw _ (List.mem_of_getElem? (i := 49) rfl))) (mvT hZ (hw _ (List.mem_of_getElem? (i := 50) rfl))) (notFace_of_selects (args := #[]) (mvT hZ (hw _ (List.mem_of_getElem? (i := 52) rfl)))) (mvT hZ (hw _ (List.mem_of_getElem? (i := 52) rfl))) (mvT hZ (hw _ (List.mem_of_getElem? (i := 51) rfl))) (by decide) (backOf (W := 0) (rmw_0 l Z a0 hw [] hs H1 ra ha sa t ka va kr kh ks Kf Vf  T3.heap n0 siz_4 HSi g_hs (fun i hi => own_emp Vf 0 0 (fun j hj q => absurd (hVf j hj) q) i hi) (fun j hj q => absurd (hVf j hj) q) hneH1 hgeH1) hZ (hw _ (List.mem_of_getElem? (i := 53) rfl)) (hw _ (List.mem_of_getElem? (i := 4) rfl)) (by decide) (by decide)) q5a q5c (g := (mkF m 49 #[.val (.int x0), .val (.int x1), .val (.int x2), .val (.int x3), .val (.int H1), .val (.int H2), .val (.int H3), .val (.int (1 : Int32)), .val (.ref hs), .unset, .unset, .unset, .unset, .unset, .unset, .unset, .unset, .unset] [(.int H1), (.int (0 : Int32)), (.ref hs)])) rfl (by rw [hml]; rfl) (Steps.refl _) (argsL := [(.int (0 : Int32)), (.int H1)]) (rest := []) (lenOf pd__II_I rfl) rfl (by show 2 * 0 + _ ≤ _; exact Nat.le_of_eq rfl) (hb hby at_49) (fun _ _ => ⟨rfl, rfl, (by decide : 13 + 0 ≤ _), (by decide : 367 + 0 ≤ _)⟩)
  dsimp only [Pt.U, Pt.locs, Pt.cells, Pt.slots] at X5 l5 y5 z5 st5 hQ5
  subst l5 y5 z5
  obtain ⟨rfl, N5q, K5, p1, hp1, hV1, HS5⟩ := hQ5
  have siz_6 := Nat.le_trans siz_4 K5.1
  have E_hs_6 := E_hs.keep K5
  have occ1 := own_occ1 Kf Vf p1 (1 : Int32) (own_pair (0 : Int32) H1) hVf
  have HSn5 : HSS Z T5.heap hs ra ha sa t ka va kr kh ks (2 : Int32) [(.int (-1 : Int32)), (.int (0 : Int32)), (.int (0 : Int32)), (.int (0 : Int32)), (.int (0 : Int32)), (.int (0 : Int32)), (.int (0 : Int32)), (.int (0 : Int32)), (.int (0 : Int32)), (.int (0 : Int32)), (.int (0 : Int32)), (.int (0 : Int32)), (.int (0 : Int32)), (.int (0 : Int32)), (.int (0 : Int32)), (.int (0 : Int32))] [(.int (-1 : Int32)), (.int H1), (.int (0 : Int32)), (.int (0 : Int32)), (.int (0 : Int32)), (.int (0 : Int32)), (.int (0 : Int32)), (.int (0 : Int32)), (.int (0 : Int32)), (.int (0 : Int32)), (.int (0 : Int32)), (.int (0 : Int32)), (.int (0 : Int32)), (.int (0 : Int32)), (.int (0 : Int32)), (.int (0 : Int32))] [(.int (0 : Int32)), (.int (1 : Int32)), (.int (0 : Int32)), (.int (0 : Int32)), (.int (0 : Int32)), (.int (0 : Int32)), (.int (0 : Int32)), (.int (0 : Int32)), (.int (0 : Int32)), (.int (0 : Int32)), (.int (0 : Int32)), (.int (0 : Int32)), (.int (0 : Int32)), (.int (0 : Int32)), (.int (0 : Int32)), (.int (0 : Int32))] (1 : Int32) (upd Kf p1 (own_pair (0 : Int32) H1)) (upd Vf p1 (1 : Int32)) := HS5
  have N5 := Fr.app N3 N5q
  obtain ⟨T7, h7, k7, X7, e7, E7, A7, st7⟩ := newP X5 hx hZ (hw _ (List.mem_of_getElem? (i := 11) rfl)) rfl (g := (mkF m 103 #[.val (.int x0), .val (.int x1), .val (.int x2), .val (.int x3), .val (.int H1), .val (.int H2), .val (.int H3), .val (.int (1 : Int32)), .val (.ref hs), .val (.int (1 : Int32)), .val (.int (1 : Int32)), .val (.int (1 : Int32)), .unset, .unset, .unset, .unset, .unset, .unset] [(.int (3 : Int32))])) rfl (hb hby at_103) rfl (by decide) (cap := 3) (by decide) (by decide) (by decide) (by decide)
  obtain ⟨ea, g7⟩ : ∃ z, z = T5.heap.size := ⟨_, rfl⟩
  rw [← g7] at A7 st7
  have V_ea_7 : Arv Z h7 ea k7 .int (3 : Int32) [(.int (0 : Int32)), (.int (0 : Int32)), (.int (0 : Int32))] (.int (0 : Int32)) := (Arv.new A7 (by decide)).pad (pad_rep [] (.int (0 : Int32)) 3)
  have lt_hs_ea : hs < ea := Nat.lt_of_lt_of_le E_hs_6.lt (Nat.le_of_eq g7.symm)
  have lt_va_ea : va < ea := Nat.lt_of_lt_of_le HSn5.lt (Nat.le_of_eq g7.symm)
  have g_ea : n0 ≤ ea := Nat.le_trans siz_6 (Nat.le_of_eq g7.symm)
  have siz_8 := Nat.le_trans siz_6 E7.1
  have E_hs_8 := E_hs_6.ext E7
  have HS_8 := HSn5.ext E7
  obtain ⟨T9, h9, L9, X9, e9, N9, W9, V9, st9⟩ := own_stI X7 hx hZ e7 V_ea_7 (j := (0 : Int32)) ⟨by decide, by decide⟩ (i := 0) rfl (Nat.le_of_ble_eq_true rfl) N5 g_ea (g := (mkF m 122 #[.val (.int x0), .val (.int x1), .val (.int x2), .val (.int x3), .val (.int H1), .val (.int H2), .val (.int H3), .val (.int (1 : Int32)), .val (.ref hs), .val (.int (1 : Int32)), .val (.int (1 : Int32)), .val (.int (1 : Int32)), .val (.ref ea), .val (.int (0 : Int32)), .unset, .unset, .unset, .unset] [(.int H1), (.int (0 : Int32)), (.ref ea)])) rfl rfl (hb hby at_122)
  have siz_10 := Nat.le_trans siz_8 (Keep.of_wr W9).1
  have E_hs_10 := E_hs_8.wr W9
  have HS_10 := HS_8.wr W9 lt_va_ea
  have V_ea_9 : Arv Z h9 ea k7 .int (3 : Int32) [(.int H1), (.int (0 : Int32)), (.int (0 : Int32))] (.int (0 : Int32)) := V9
  obtain ⟨cq11, kq11, q11a, q11b, q11c⟩ := isOf hZ e9 E_hs_10
  obtain ⟨_, _, ⟨T11, L11, k11, n11⟩, -, X11, ⟨Lc11, hQ11, l11, y11, z11⟩, st11⟩ := X9.virtualBack hx (y := (⟨"com/example/rootline/rootline/reach/HolderSets", "holders", "(I)[I"⟩ : MethodName)) (z := (⟨"com/example/rootline/rootline/reach/HolderSets", "holders", "(I)[I"⟩ : MethodName)) hown (mvT hZ (hw _ (List.mem_of_getElem? (i := 76) rfl))) (mvT hZ (hw _ (List.mem_of_getElem? (i := 77) rfl))) (notFace_of_selects (args := #[]) (mvT hZ (hw _ (List.mem_of_getElem? (i := 79) rfl)))) (mvT hZ (hw _ (List.mem_of_getElem? (i := 79) rfl))) (mvT hZ (hw _ (List.mem_of_getElem? (i := 78) rfl))) (by decide) (backOf (W := 0) (rmh_1_1 l Z a0 hw [] hs ra ha sa t ka va kr kh ks (upd Kf p1 (own_pair (0 : Int32) H1)) (upd Vf p1 (1 : Int32)) H1 h9 n0 siz_10 HS_10) hZ (hw _ (List.mem_of_getElem? (i := 80) rfl)) (hw _ (List.mem_of_getElem? (i := 4) rfl)) (by decide) (by decide)) q11a q11c (g := (mkF m 185 #[.val (.int x0), .val (.int x1), .val (.int x2), .val (.int x3), .val (.int H1), .val (.int H2), .val (.int H3), .val (.int (1 : Int32)), .val (.ref hs), .val (.int (1 : Int32)), .val (.int (1 : Int32)), .val (.int (1 : Int32)), .val (.ref ea), .val (.int (1 : Int32)), .unset, .unset, .unset, .unset] [(.int (1 : Int32)), (.ref hs)])) rfl (by rw [hml]; rfl) (Steps.refl _) (argsL := [(.int (1 : Int32))]) (rest := []) (lenOf pd__I__I rfl) rfl (by show 2 * 0 + _ ≤ _; exact Nat.le_of_eq rfl) (hb hby at_185) (fun _ _ => ⟨rfl, e9, (by decide : 14 + 1 ≤ _), (by decide : 370 + 1 ≤ _)⟩)
  dsimp only [Pt.U, Pt.locs, Pt.cells, Pt.slots] at X11 l11 y11 z11 st11 hQ11
  subst l11 y11 z11
  obtain ⟨g1, kg1, rfl, N11q, K11, sr11, Vr11⟩ := hQ11
  have siz_12 := Nat.le_trans siz_10 K11.1
  have E_hs_12 := E_hs_10.keep K11
  have HS_12 := HS_10.keep K11
  have V_ea_12 := V_ea_9.keep K11 nin0
  have N11 := Fr.app N9 N11q
  obtain ⟨cq13, kq13, q13a, q13b, q13c⟩ := isOf hZ rfl E_hs_12
  obtain ⟨_, _, ⟨T13, L13, k13, n13⟩, -, X13, ⟨Lc13, hQ13, l13, y13, z13⟩, st13⟩ := X11.virtualBack hx (y := (⟨"com/example/rootline/rootline/reach/HolderSets", "holders", "(I)[I"⟩ : MethodName)) (z := (⟨"com/example/rootline/rootline/reach/HolderSets", "holders", "(I)[I"⟩ : MethodName)) hown (mvT hZ (hw _ (List.mem_of_getElem? (i := 76) rfl))) (mvT hZ (hw _ (List.mem_of_getElem? (i := 77) rfl))) (notFace_of_selects (args := #[]) (mvT hZ (hw _ (List.mem_of_getElem? (i := 79) rfl)))) (mvT hZ (hw _ (List.mem_of_getElem? (i := 79) rfl))) (mvT hZ (hw _ (List.mem_of_getElem? (i := 78) rfl))) (by decide) (backOf (W := 0) (rmh_1_1 l Z a0 hw [] hs ra ha sa t ka va kr kh ks (upd Kf p1 (own_pair (0 : Int32) H1)) (upd Vf p1 (1 : Int32)) H1 T11.heap n0 siz_12 HS_12) hZ (hw _ (List.mem_of_getElem? (i := 80) rfl)) (hw _ (List.mem_of_getElem? (i := 4) rfl)) (by decide) (by decide)) q13a q13c (g := (mkF m 296 #[.val (.int x0), .val (.int x1), .val (.int x2), .val (.int x3), .val (.int H1), .val (.int H2), .val (.int H3), .val (.int (1 : Int32)), .val (.ref hs), .val (.int (1 : Int32)), .val (.int (1 : Int32)), .val (.int (1 : Int32)), .val (.ref ea), .val (.int (1 : Int32)), .val (.ref g1), .val (.int (1 : Int32)), .unset, .unset] [(.int (1 : Int32)), (.ref hs)])) rfl (by rw [hml]; rfl) (Steps.refl _) (argsL := [(.int (1 : Int32))]) (rest := []) (lenOf pd__I__I rfl) rfl (by show 2 * 0 + _ ≤ _; exact Nat.le_of_eq rfl) (hb hby at_296) (fun _ _ => ⟨rfl, rfl, (by decide : 15 + 1 ≤ _), (by decide : 371 + 1 ≤ _)⟩)
  dsimp only [Pt.U, Pt.locs, Pt.cells, Pt.slots] at X13 l13 y13 z13 st13 hQ13
  subst l13 y13 z13
  obtain ⟨g2, kg2, rfl, N13q, K13, sr13, Vr13⟩ := hQ13
  have siz_14 := Nat.le_trans siz_12 K13.1
  have E_hs_14 := E_hs_12.keep K13
  have HS_14 := HS_12.keep K13
  have V_ea_14 := V_ea_12.keep K13 nin0
  have V_g1_14 := Vr11.keep K13 nin0
  have N13 := Fr.app N11 N13q
  obtain ⟨cq15, kq15, q15a, q15b, q15c⟩ := isOf hZ rfl E_hs_14
  obtain ⟨_, _, ⟨T15, L15, k15, n15⟩, -, X15, ⟨Lc15, hQ15, l15, y15, z15⟩, st15⟩ := X13.virtualBack hx (y := (⟨"com/example/rootline/rootline/reach/HolderSets", "holders", "(I)[I"⟩ : MethodName)) (z := (⟨"com/example/rootline/rootline/reach/HolderSets", "holders", "(I)[I"⟩ : MethodName)) hown (mvT hZ (hw _ (List.mem_of_getElem? (i := 76) rfl))) (mvT hZ (hw _ (List.mem_of_getElem? (i := 77) rfl))) (notFace_of_selects (args := #[]) (mvT hZ (hw _ (List.mem_of_getElem? (i := 79) rfl)))) (mvT hZ (hw _ (List.mem_of_getElem? (i := 79) rfl))) (mvT hZ (hw _ (List.mem_of_getElem? (i := 78) rfl))) (by decide) (backOf (W := 0) (rmh_1_0 l Z a0 hw [] hs ra ha sa t ka va kr kh ks (upd Kf p1 (own_pair (0 : Int32) H1)) (upd Vf p1 (1 : Int32)) H1 T13.heap n0 siz_14 HS_14) hZ (hw _ (List.mem_of_getElem? (i := 80) rfl)) (hw _ (List.mem_of_getElem? (i := 4) rfl)) (by decide) (by decide)) q15a q15c (g := (mkF m 359 #[.val (.int x0), .val (.int x1), .val (.int x2), .val (.int x3), .val (.int H1), .val (.int H2), .val (.int H3), .val (.int (1 : Int32)), .val (.ref hs), .val (.int (1 : Int32)), .val (.int (1 : Int32)), .val (.int (1 : Int32)), .val (.ref ea), .val (.int (1 : Int32)), .val (.ref g1), .val (.int (1 : Int32)), .val (.ref g2), .unset] [(.int (0 : Int32)), (.ref hs)])) rfl (by rw [hml]; rfl) (Steps.refl _) (argsL := [(.int (0 : Int32))]) (rest := []) (lenOf pd__I__I rfl) rfl (by show 2 * 0 + _ ≤ _; exact Nat.le_of_eq rfl) (hb hby at_359) (fun _ _ => ⟨rfl, rfl, (by decide : 16 + 1 ≤ _), (by decide : 372 + 0 ≤ _)⟩)
  dsimp only [Pt.U, Pt.locs, Pt.cells, Pt.slots] at X15 l15 y15 z15 st15 hQ15
  subst l15 y15 z15
  obtain ⟨g3, kg3, rfl, N15q, K15, sr15, Vr15⟩ := hQ15
  have siz_16 := Nat.le_trans siz_14 K15.1
  have E_hs_16 := E_hs_14.keep K15
  have HS_16 := HS_14.keep K15
  have V_ea_16 := V_ea_14.keep K15 nin0
  have V_g1_16 := V_g1_14.keep K15 nin0
  have V_g2_16 := Vr13.keep K15 nin0
  have N15 := Fr.app N13 N15q
  obtain ⟨fs, hr, hrun, hended, hW, hsame⟩ := X15.leave (v := some (.int (1 : Int32))) (fun h => by rw [Bd.returns] at h; cases h)
  refine ⟨_, _, pre0 _ ?_, hrun, hended, _, _, rfl, ?_, ⟨_, rfl⟩, hW, hsame.mono (by decide) (by decide)⟩
  · show Steps p.tables e below (s₁.setTop (mkF m 0 #[.val (.int x0), .val (.int x1), .val (.int x2), .val (.int x3), .unset, .unset, .unset, .unset, .unset, .unset, .unset, .unset, .unset, .unset, .unset, .unset, .unset, .unset] [])) _
    refine XS.iloadN X0.here hx rfl (hb hby at_0) rfl ?_
    refine X0.ldcInt hx hown (mvT hZ (hw _ (List.mem_of_getElem? (i := 0) rfl))) (g := (mkF m 1 #[.val (.int x0), .val (.int x1), .val (.int x2), .val (.int x3), .unset, .unset, .unset, .unset, .unset, .unset, .unset, .unset, .unset, .unset, .unset, .unset, .unset, .unset] [(.int x0)])) rfl (hb hby at_1) _ ?_
    refine XS.iand X0.here hx rfl (hb hby at_3) rfl ?_
    show Steps p.tables e below (s₁.setTop (mkF m 4 #[.val (.int x0), .val (.int x1), .val (.int x2), .val (.int x3), .unset, .unset, .unset, .unset, .unset, .unset, .unset, .unset, .unset, .unset, .unset, .unset, .unset, .unset] [(.int (x0 &&& (536870911 : Int32)))])) _
    rw [← eH1]
    show Steps p.tables e below (s₁.setTop (mkF m 4 #[.val (.int x0), .val (.int x1), .val (.int x2), .val (.int x3), .unset, .unset, .unset, .unset, .unset, .unset, .unset, .unset, .unset, .unset, .unset, .unset, .unset, .unset] [(.int H1)])) _
    refine XS.istore X0.here hx rfl (hb hby at_4) rfl (l' := #[.val (.int x0), .val (.int x1), .val (.int x2), .val (.int x3), .val (.int H1), .unset, .unset, .unset, .unset, .unset, .unset, .unset, .unset, .unset, .unset, .unset, .unset, .unset]) rfl ?_
    refine XS.iload X0.here hx rfl (hb hby at_6) rfl ?_
    refine XS.iloadN X0.here hx rfl (hb hby at_8) rfl ?_
    refine X0.ldcInt hx hown (mvT hZ (hw _ (List.mem_of_getElem? (i := 0) rfl))) (g := (mkF m 9 #[.val (.int x0), .val (.int x1), .val (.int x2), .val (.int x3), .val (.int H1), .unset, .unset, .unset, .unset, .unset, .unset, .unset, .unset, .unset, .unset, .unset, .unset, .unset] [(.int x1), (.int H1)])) rfl (hb hby at_9) _ ?_
    show Steps p.tables e below (s₁.setTop (mkF m 11 #[.val (.int x0), .val (.int x1), .val (.int x2), .val (.int x3), .val (.int H1), .unset, .unset, .unset, .unset, .unset, .unset, .unset, .unset, .unset, .unset, .unset, .unset, .unset] [(.int (536870911 : Int32)), (.int x1), (.int H1)])) _
    refine XS.iand X0.here hx rfl (hb hby at_11) rfl ?_
    refine XS.iadd X0.here hx rfl (hb hby at_12) rfl ?_
    show Steps p.tables e below (s₁.setTop (mkF m 13 #[.val (.int x0), .val (.int x1), .val (.int x2), .val (.int x3), .val (.int H1), .unset, .unset, .unset, .unset, .unset, .unset, .unset, .unset, .unset, .unset, .unset, .unset, .unset] [(.int (H1 + (x1 &&& (536870911 : Int32))))])) _
    rw [← eH2]
    show Steps p.tables e below (s₁.setTop (mkF m 13 #[.val (.int x0), .val (.int x1), .val (.int x2), .val (.int x3), .val (.int H1), .unset, .unset, .unset, .unset, .unset, .unset, .unset, .unset, .unset, .unset, .unset, .unset, .unset] [(.int H2)])) _
    refine XS.istore X0.here hx rfl (hb hby at_13) rfl (l' := #[.val (.int x0), .val (.int x1), .val (.int x2), .val (.int x3), .val (.int H1), .val (.int H2), .unset, .unset, .unset, .unset, .unset, .unset, .unset, .unset, .unset, .unset, .unset, .unset]) rfl ?_
    refine XS.iload X0.here hx rfl (hb hby at_15) rfl ?_
    show Steps p.tables e below (s₁.setTop (mkF m 17 #[.val (.int x0), .val (.int x1), .val (.int x2), .val (.int x3), .val (.int H1), .val (.int H2), .unset, .unset, .unset, .unset, .unset, .unset, .unset, .unset, .unset, .unset, .unset, .unset] [(.int H2)])) _
    refine XS.iloadN X0.here hx rfl (hb hby at_17) rfl ?_
    refine X0.ldcInt hx hown (mvT hZ (hw _ (List.mem_of_getElem? (i := 1) rfl))) (g := (mkF m 18 #[.val (.int x0), .val (.int x1), .val (.int x2), .val (.int x3), .val (.int H1), .val (.int H2), .unset, .unset, .unset, .unset, .unset, .unset, .unset, .unset, .unset, .unset, .unset, .unset] [(.int x2), (.int H2)])) rfl (hb hby at_18) _ ?_
    refine XS.iand X0.here hx rfl (hb hby at_20) rfl ?_
    refine XS.iadd X0.here hx rfl (hb hby at_21) rfl ?_
    show Steps p.tables e below (s₁.setTop (mkF m 22 #[.val (.int x0), .val (.int x1), .val (.int x2), .val (.int x3), .val (.int H1), .val (.int H2), .unset, .unset, .unset, .unset, .unset, .unset, .unset, .unset, .unset, .unset, .unset, .unset] [(.int (H2 + (x2 &&& (1073741823 : Int32))))])) _
    rw [← eH3]
    show Steps p.tables e below (s₁.setTop (mkF m 22 #[.val (.int x0), .val (.int x1), .val (.int x2), .val (.int x3), .val (.int H1), .val (.int H2), .unset, .unset, .unset, .unset, .unset, .unset, .unset, .unset, .unset, .unset, .unset, .unset] [(.int H3)])) _
    refine XS.istore X0.here hx rfl (hb hby at_22) rfl (l' := #[.val (.int x0), .val (.int x1), .val (.int x2), .val (.int x3), .val (.int H1), .val (.int H2), .val (.int H3), .unset, .unset, .unset, .unset, .unset, .unset, .unset, .unset, .unset, .unset, .unset]) rfl ?_
    refine XS.iloadN X0.here hx rfl (hb hby at_24) rfl ?_
    refine XS.iconst X0.here hx rfl (hb hby at_25) ?_
    refine XS.iand X0.here hx rfl (hb hby at_26) rfl ?_
    show Steps p.tables e below (s₁.setTop (mkF m 27 #[.val (.int x0), .val (.int x1), .val (.int x2), .val (.int x3), .val (.int H1), .val (.int H2), .val (.int H3), .unset, .unset, .unset, .unset, .unset, .unset, .unset, .unset, .unset, .unset, .unset] [(.int (x3 &&& (3 : Int32)))])) _
    rw [hn]
    show Steps p.tables e below (s₁.setTop (mkF m 27 #[.val (.int x0), .val (.int x1), .val (.int x2), .val (.int x3), .val (.int H1), .val (.int H2), .val (.int H3), .unset, .unset, .unset, .unset, .unset, .unset, .unset, .unset, .unset, .unset, .unset] [(.int (1 : Int32))])) _
    refine XS.istore X0.here hx rfl (hb hby at_27) rfl (l' := #[.val (.int x0), .val (.int x1), .val (.int x2), .val (.int x3), .val (.int H1), .val (.int H2), .val (.int H3), .val (.int (1 : Int32)), .unset, .unset, .unset, .unset, .unset, .unset, .unset, .unset, .unset, .unset]) rfl ?_
    refine st1 _ ?_
    show Steps p.tables e below (T1.setTop (mkF m 32 #[.val (.int x0), .val (.int x1), .val (.int x2), .val (.int x3), .val (.int H1), .val (.int H2), .val (.int H3), .val (.int (1 : Int32)), .unset, .unset, .unset, .unset, .unset, .unset, .unset, .unset, .unset, .unset] [(.ref hs)])) _
    refine XS.dup X1.here hx rfl (hb hby at_32) rfl rfl ?_
    refine st3.trans ?_
    show Steps p.tables e below (T3.setTop (mkF m 36 #[.val (.int x0), .val (.int x1), .val (.int x2), .val (.int x3), .val (.int H1), .val (.int H2), .val (.int H3), .val (.int (1 : Int32)), .unset, .unset, .unset, .unset, .unset, .unset, .unset, .unset, .unset, .unset] [(.ref hs)])) _
    refine XS.astore X3.here hx rfl (hb hby at_36) rfl rfl (l' := #[.val (.int x0), .val (.int x1), .val (.int x2), .val (.int x3), .val (.int H1), .val (.int H2), .val (.int H3), .val (.int (1 : Int32)), .val (.ref hs), .unset, .unset, .unset, .unset, .unset, .unset, .unset, .unset, .unset]) rfl ?_
    refine XS.iload X3.here hx rfl (hb hby at_38) rfl ?_
    refine XS.iconst X3.here hx rfl (hb hby at_40) ?_
    refine XS.icmpNo X3.here hx rfl (hb hby at_41) rfl (flt (by decide : ¬ ((1 : Int32) < (1 : Int32)))).1 ?_
    show Steps p.tables e below (T3.setTop (mkF m 44 #[.val (.int x0), .val (.int x1), .val (.int x2), .val (.int x3), .val (.int H1), .val (.int H2), .val (.int H3), .val (.int (1 : Int32)), .val (.ref hs), .unset, .unset, .unset, .unset, .unset, .unset, .unset, .unset, .unset] [])) _
    refine XS.aload X3.here hx rfl (hb hby at_44) rfl rfl ?_
    refine XS.iconst X3.here hx rfl (hb hby at_46) ?_
    refine XS.iload X3.here hx rfl (hb hby at_47) rfl ?_
    refine st5.trans ?_
    show Steps p.tables e below (T5.setTop (mkF m 52 #[.val (.int x0), .val (.int x1), .val (.int x2), .val (.int x3), .val (.int H1), .val (.int H2), .val (.int H3), .val (.int (1 : Int32)), .val (.ref hs), .unset, .unset, .unset, .unset, .unset, .unset, .unset, .unset, .unset] [(.int (1 : Int32))])) _
    refine XS.goto X5.here hx rfl (pc0 := 52) (pc' := 56) rfl (hb hby at_52) (by decide) (by decide) ?_
    refine XS.istore X5.here hx rfl (hb hby at_56) rfl (l' := #[.val (.int x0), .val (.int x1), .val (.int x2), .val (.int x3), .val (.int H1), .val (.int H2), .val (.int H3), .val (.int (1 : Int32)), .val (.ref hs), .val (.int (1 : Int32)), .unset, .unset, .unset, .unset, .unset, .unset, .unset, .unset]) rfl ?_
    refine XS.iload X5.here hx rfl (hb hby at_58) rfl ?_
    refine XS.iconst X5.here hx rfl (hb hby at_60) ?_
    show Steps p.tables e below (T5.setTop (mkF m 61 #[.val (.int x0), .val (.int x1), .val (.int x2), .val (.int x3), .val (.int H1), .val (.int H2), .val (.int H3), .val (.int (1 : Int32)), .val (.ref hs), .val (.int (1 : Int32)), .unset, .unset, .unset, .unset, .unset, .unset, .unset, .unset] [(.int (2 : Int32)), (.int (1 : Int32))])) _
    refine XS.icmpYes X5.here hx rfl (pc0 := 61) (pc' := 76) rfl (hb hby at_61) rfl (tlt (by decide : (1 : Int32) < (2 : Int32))).1 (by decide) (by decide) ?_
    refine XS.iload X5.here hx rfl (hb hby at_76) rfl ?_
    refine XS.istore X5.here hx rfl (hb hby at_78) rfl (l' := #[.val (.int x0), .val (.int x1), .val (.int x2), .val (.int x3), .val (.int H1), .val (.int H2), .val (.int H3), .val (.int (1 : Int32)), .val (.ref hs), .val (.int (1 : Int32)), .val (.int (1 : Int32)), .unset, .unset, .unset, .unset, .unset, .unset, .unset]) rfl ?_
    refine XS.iload X5.here hx rfl (hb hby at_80) rfl ?_
    show Steps p.tables e below (T5.setTop (mkF m 82 #[.val (.int x0), .val (.int x1), .val (.int x2), .val (.int x3), .val (.int H1), .val (.int H2), .val (.int H3), .val (.int (1 : Int32)), .val (.ref hs), .val (.int (1 : Int32)), .val (.int (1 : Int32)), .unset, .unset, .unset, .unset, .unset, .unset, .unset] [(.int (1 : Int32))])) _
    refine XS.iconst X5.here hx rfl (hb hby at_82) ?_
    refine XS.icmpYes X5.here hx rfl (pc0 := 83) (pc' := 98) rfl (hb hby at_83) rfl (tlt (by decide : (1 : Int32) < (3 : Int32))).1 (by decide) (by decide) ?_
    refine XS.iload X5.here hx rfl (hb hby at_98) rfl ?_
    refine XS.istore X5.here hx rfl (hb hby at_100) rfl (l' := #[.val (.int x0), .val (.int x1), .val (.int x2), .val (.int x3), .val (.int H1), .val (.int H2), .val (.int H3), .val (.int (1 : Int32)), .val (.ref hs), .val (.int (1 : Int32)), .val (.int (1 : Int32)), .val (.int (1 : Int32)), .unset, .unset, .unset, .unset, .unset, .unset]) rfl ?_
    show Steps p.tables e below (T5.setTop (mkF m 102 #[.val (.int x0), .val (.int x1), .val (.int x2), .val (.int x3), .val (.int H1), .val (.int H2), .val (.int H3), .val (.int (1 : Int32)), .val (.ref hs), .val (.int (1 : Int32)), .val (.int (1 : Int32)), .val (.int (1 : Int32)), .unset, .unset, .unset, .unset, .unset, .unset] [])) _
    refine XS.iconst X5.here hx rfl (hb hby at_102) ?_
    refine st7 _ ?_
    show Steps p.tables e below (T7.setTop (mkF m 105 #[.val (.int x0), .val (.int x1), .val (.int x2), .val (.int x3), .val (.int H1), .val (.int H2), .val (.int H3), .val (.int (1 : Int32)), .val (.ref hs), .val (.int (1 : Int32)), .val (.int (1 : Int32)), .val (.int (1 : Int32)), .unset, .unset, .unset, .unset, .unset, .unset] [(.ref ea)])) _
    refine XS.astore X7.here hx rfl (hb hby at_105) rfl rfl (l' := #[.val (.int x0), .val (.int x1), .val (.int x2), .val (.int x3), .val (.int H1), .val (.int H2), .val (.int H3), .val (.int (1 : Int32)), .val (.ref hs), .val (.int (1 : Int32)), .val (.int (1 : Int32)), .val (.int (1 : Int32)), .val (.ref ea), .unset, .unset, .unset, .unset, .unset]) rfl ?_
    refine XS.iconst X7.here hx rfl (hb hby at_107) ?_
    show Steps p.tables e below (T7.setTop (mkF m 108 #[.val (.int x0), .val (.int x1), .val (.int x2), .val (.int x3), .val (.int H1), .val (.int H2), .val (.int H3), .val (.int (1 : Int32)), .val (.ref hs), .val (.int (1 : Int32)), .val (.int (1 : Int32)), .val (.int (1 : Int32)), .val (.ref ea), .unset, .unset, .unset, .unset, .unset] [(.int (0 : Int32))])) _
    refine XS.istore X7.here hx rfl (hb hby at_108) rfl (l' := #[.val (.int x0), .val (.int x1), .val (.int x2), .val (.int x3), .val (.int H1), .val (.int H2), .val (.int H3), .val (.int (1 : Int32)), .val (.ref hs), .val (.int (1 : Int32)), .val (.int (1 : Int32)), .val (.int (1 : Int32)), .val (.ref ea), .val (.int (0 : Int32)), .unset, .unset, .unset, .unset]) rfl ?_
    refine XS.iload X7.here hx rfl (hb hby at_110) rfl ?_
    refine XS.iconst X7.here hx rfl (hb hby at_112) ?_
    refine XS.icmpNo X7.here hx rfl (hb hby at_113) rfl (flt (by decide : ¬ ((1 : Int32) < (1 : Int32)))).1 ?_
    show Steps p.tables e below (T7.setTop (mkF m 116 #[.val (.int x0), .val (.int x1), .val (.int x2), .val (.int x3), .val (.int H1), .val (.int H2), .val (.int H3), .val (.int (1 : Int32)), .val (.ref hs), .val (.int (1 : Int32)), .val (.int (1 : Int32)), .val (.int (1 : Int32)), .val (.ref ea), .val (.int (0 : Int32)), .unset, .unset, .unset, .unset] [])) _
    refine XS.aload X7.here hx rfl (hb hby at_116) rfl rfl ?_
    refine XS.iload X7.here hx rfl (hb hby at_118) rfl ?_
    refine XS.iload X7.here hx rfl (hb hby at_120) rfl ?_
    refine st9 _ ?_
    show Steps p.tables e below (T9.setTop (mkF m 123 #[.val (.int x0), .val (.int x1), .val (.int x2), .val (.int x3), .val (.int H1), .val (.int H2), .val (.int H3), .val (.int (1 : Int32)), .val (.ref hs), .val (.int (1 : Int32)), .val (.int (1 : Int32)), .val (.int (1 : Int32)), .val (.ref ea), .val (.int (0 : Int32)), .unset, .unset, .unset, .unset] [])) _
    refine XS.iload X9.here hx rfl (hb hby at_123) rfl ?_
    refine XS.iconst X9.here hx rfl (hb hby at_125) ?_
    refine XS.iadd X9.here hx rfl (hb hby at_126) rfl ?_
    show Steps p.tables e below (T9.setTop (mkF m 127 #[.val (.int x0), .val (.int x1), .val (.int x2), .val (.int x3), .val (.int H1), .val (.int H2), .val (.int H3), .val (.int (1 : Int32)), .val (.ref hs), .val (.int (1 : Int32)), .val (.int (1 : Int32)), .val (.int (1 : Int32)), .val (.ref ea), .val (.int (0 : Int32)), .unset, .unset, .unset, .unset] [(.int ((0 : Int32) + (1 : Int32)))])) _
    rw [show ((0 : Int32) + (1 : Int32)) = (1 : Int32) from by decide]
    show Steps p.tables e below (T9.setTop (mkF m 127 #[.val (.int x0), .val (.int x1), .val (.int x2), .val (.int x3), .val (.int H1), .val (.int H2), .val (.int H3), .val (.int (1 : Int32)), .val (.ref hs), .val (.int (1 : Int32)), .val (.int (1 : Int32)), .val (.int (1 : Int32)), .val (.ref ea), .val (.int (0 : Int32)), .unset, .unset, .unset, .unset] [(.int (1 : Int32))])) _
    refine XS.istore X9.here hx rfl (hb hby at_127) rfl (l' := #[.val (.int x0), .val (.int x1), .val (.int x2), .val (.int x3), .val (.int H1), .val (.int H2), .val (.int H3), .val (.int (1 : Int32)), .val (.ref hs), .val (.int (1 : Int32)), .val (.int (1 : Int32)), .val (.int (1 : Int32)), .val (.ref ea), .val (.int (1 : Int32)), .unset, .unset, .unset, .unset]) rfl ?_
    show Steps p.tables e below (T9.setTop (mkF m 129 #[.val (.int x0), .val (.int x1), .val (.int x2), .val (.int x3), .val (.int H1), .val (.int H2), .val (.int H3), .val (.int (1 : Int32)), .val (.ref hs), .val (.int (1 : Int32)), .val (.int (1 : Int32)), .val (.int (1 : Int32)), .val (.ref ea), .val (.int (1 : Int32)), .unset, .unset, .unset, .unset] [])) _
    refine XS.iload X9.here hx rfl (hb hby at_129) rfl ?_
    refine XS.iconst X9.here hx rfl (hb hby at_131) ?_
    refine XS.icmpYes X9.here hx rfl (pc0 := 132) (pc' := 155) rfl (hb hby at_132) rfl (tlt (by decide : (1 : Int32) < (2 : Int32))).1 (by decide) (by decide) ?_
    refine XS.iload X9.here hx rfl (hb hby at_155) rfl ?_
    show Steps p.tables e below (T9.setTop (mkF m 157 #[.val (.int x0), .val (.int x1), .val (.int x2), .val (.int x3), .val (.int H1), .val (.int H2), .val (.int H3), .val (.int (1 : Int32)), .val (.ref hs), .val (.int (1 : Int32)), .val (.int (1 : Int32)), .val (.int (1 : Int32)), .val (.ref ea), .val (.int (1 : Int32)), .unset, .unset, .unset, .unset] [(.int (1 : Int32))])) _
    refine XS.iconst X9.here hx rfl (hb hby at_157) ?_
    refine XS.icmpYes X9.here hx rfl (pc0 := 158) (pc' := 181) rfl (hb hby at_158) rfl (tlt (by decide : (1 : Int32) < (3 : Int32))).1 (by decide) (by decide) ?_
    refine XS.aload X9.here hx rfl (hb hby at_181) rfl rfl ?_
    refine XS.iload X9.here hx rfl (hb hby at_183) rfl ?_
    show Steps p.tables e below (T9.setTop (mkF m 185 #[.val (.int x0), .val (.int x1), .val (.int x2), .val (.int x3), .val (.int H1), .val (.int H2), .val (.int H3), .val (.int (1 : Int32)), .val (.ref hs), .val (.int (1 : Int32)), .val (.int (1 : Int32)), .val (.int (1 : Int32)), .val (.ref ea), .val (.int (1 : Int32)), .unset, .unset, .unset, .unset] [(.int (1 : Int32)), (.ref hs)])) _
    refine st11.trans ?_
    show Steps p.tables e below (T11.setTop (mkF m 188 #[.val (.int x0), .val (.int x1), .val (.int x2), .val (.int x3), .val (.int H1), .val (.int H2), .val (.int H3), .val (.int (1 : Int32)), .val (.ref hs), .val (.int (1 : Int32)), .val (.int (1 : Int32)), .val (.int (1 : Int32)), .val (.ref ea), .val (.int (1 : Int32)), .unset, .unset, .unset, .unset] [(.ref g1)])) _
    refine XS.astore X11.here hx rfl (hb hby at_188) rfl rfl (l' := #[.val (.int x0), .val (.int x1), .val (.int x2), .val (.int x3), .val (.int H1), .val (.int H2), .val (.int H3), .val (.int (1 : Int32)), .val (.ref hs), .val (.int (1 : Int32)), .val (.int (1 : Int32)), .val (.int (1 : Int32)), .val (.ref ea), .val (.int (1 : Int32)), .val (.ref g1), .unset, .unset, .unset]) rfl ?_
    refine XS.aload X11.here hx rfl (hb hby at_190) rfl rfl ?_
    refine own_len X11 hx hZ rfl Vr11 (g := (mkF m 192 #[.val (.int x0), .val (.int x1), .val (.int x2), .val (.int x3), .val (.int H1), .val (.int H2), .val (.int H3), .val (.int (1 : Int32)), .val (.ref hs), .val (.int (1 : Int32)), .val (.int (1 : Int32)), .val (.int (1 : Int32)), .val (.ref ea), .val (.int (1 : Int32)), .val (.ref g1), .unset, .unset, .unset] [(.ref g1)])) rfl rfl (hb hby at_192) ?_
    show Steps p.tables e below (T11.setTop (mkF m 193 #[.val (.int x0), .val (.int x1), .val (.int x2), .val (.int x3), .val (.int H1), .val (.int H2), .val (.int H3), .val (.int (1 : Int32)), .val (.ref hs), .val (.int (1 : Int32)), .val (.int (1 : Int32)), .val (.int (1 : Int32)), .val (.ref ea), .val (.int (1 : Int32)), .val (.ref g1), .unset, .unset, .unset] [(.int (1 : Int32))])) _
    refine XS.iload X11.here hx rfl (hb hby at_193) rfl ?_
    refine XS.icmpNo X11.here hx rfl (hb hby at_195) rfl (teq (by decide : (1 : Int32) = (1 : Int32))).2 ?_
    refine XS.iconst X11.here hx rfl (hb hby at_198) ?_
    refine XS.goto X11.here hx rfl (pc0 := 199) (pc' := 203) rfl (hb hby at_199) (by decide) (by decide) ?_
    show Steps p.tables e below (T11.setTop (mkF m 203 #[.val (.int x0), .val (.int x1), .val (.int x2), .val (.int x3), .val (.int H1), .val (.int H2), .val (.int H3), .val (.int (1 : Int32)), .val (.ref hs), .val (.int (1 : Int32)), .val (.int (1 : Int32)), .val (.int (1 : Int32)), .val (.ref ea), .val (.int (1 : Int32)), .val (.ref g1), .unset, .unset, .unset] [(.int (1 : Int32))])) _
    refine XS.istore X11.here hx rfl (hb hby at_203) rfl (l' := #[.val (.int x0), .val (.int x1), .val (.int x2), .val (.int x3), .val (.int H1), .val (.int H2), .val (.int H3), .val (.int (1 : Int32)), .val (.ref hs), .val (.int (1 : Int32)), .val (.int (1 : Int32)), .val (.int (1 : Int32)), .val (.ref ea), .val (.int (1 : Int32)), .val (.ref g1), .val (.int (1 : Int32)), .unset, .unset]) rfl ?_
    refine XS.iload X11.here hx rfl (hb hby at_205) rfl ?_
    refine XS.ifNo X11.here hx rfl (hb hby at_207) rfl ((if0 _ _).trans (feq (by decide : ¬ ((1 : Int32) = (0 : Int32)))).1) ?_
    refine XS.iload X11.here hx rfl (hb hby at_210) rfl ?_
    show Steps p.tables e below (T11.setTop (mkF m 212 #[.val (.int x0), .val (.int x1), .val (.int x2), .val (.int x3), .val (.int H1), .val (.int H2), .val (.int H3), .val (.int (1 : Int32)), .val (.ref hs), .val (.int (1 : Int32)), .val (.int (1 : Int32)), .val (.int (1 : Int32)), .val (.ref ea), .val (.int (1 : Int32)), .val (.ref g1), .val (.int (1 : Int32)), .unset, .unset] [(.int (1 : Int32))])) _
    refine XS.iconst X11.here hx rfl (hb hby at_212) ?_
    refine XS.icmpNo X11.here hx rfl (hb hby at_213) rfl (flt (by decide : ¬ ((1 : Int32) < (1 : Int32)))).1 ?_
    refine XS.aload X11.here hx rfl (hb hby at_216) rfl rfl ?_
    refine XS.iconst X11.here hx rfl (hb hby at_218) ?_
    show Steps p.tables e below (T11.setTop (mkF m 219 #[.val (.int x0), .val (.int x1), .val (.int x2), .val (.int x3), .val (.int H1), .val (.int H2), .val (.int H3), .val (.int (1 : Int32)), .val (.ref hs), .val (.int (1 : Int32)), .val (.int (1 : Int32)), .val (.int (1 : Int32)), .val (.ref ea), .val (.int (1 : Int32)), .val (.ref g1), .val (.int (1 : Int32)), .unset, .unset] [(.int (0 : Int32)), (.ref g1)])) _
    refine own_ldI X11 hx hZ rfl Vr11 (j := (0 : Int32)) (w := H1) ⟨by decide, by decide⟩ rfl (g := (mkF m 219 #[.val (.int x0), .val (.int x1), .val (.int x2), .val (.int x3), .val (.int H1), .val (.int H2), .val (.int H3), .val (.int (1 : Int32)), .val (.ref hs), .val (.int (1 : Int32)), .val (.int (1 : Int32)), .val (.int (1 : Int32)), .val (.ref ea), .val (.int (1 : Int32)), .val (.ref g1), .val (.int (1 : Int32)), .unset, .unset] [(.int (0 : Int32)), (.ref g1)])) rfl rfl (hb hby at_219) ?_
    refine XS.aload X11.here hx rfl (hb hby at_220) rfl rfl ?_
    refine XS.iconst X11.here hx rfl (hb hby at_222) ?_
    refine own_ldI X11 hx hZ rfl V_ea_12 (j := (0 : Int32)) (w := H1) ⟨by decide, by decide⟩ rfl (g := (mkF m 223 #[.val (.int x0), .val (.int x1), .val (.int x2), .val (.int x3), .val (.int H1), .val (.int H2), .val (.int H3), .val (.int (1 : Int32)), .val (.ref hs), .val (.int (1 : Int32)), .val (.int (1 : Int32)), .val (.int (1 : Int32)), .val (.ref ea), .val (.int (1 : Int32)), .val (.ref g1), .val (.int (1 : Int32)), .unset, .unset] [(.int (0 : Int32)), (.ref ea), (.int H1)])) rfl rfl (hb hby at_223) ?_
    show Steps p.tables e below (T11.setTop (mkF m 224 #[.val (.int x0), .val (.int x1), .val (.int x2), .val (.int x3), .val (.int H1), .val (.int H2), .val (.int H3), .val (.int (1 : Int32)), .val (.ref hs), .val (.int (1 : Int32)), .val (.int (1 : Int32)), .val (.int (1 : Int32)), .val (.ref ea), .val (.int (1 : Int32)), .val (.ref g1), .val (.int (1 : Int32)), .unset, .unset] [(.int H1), (.int H1)])) _
    refine XS.icmpNo X11.here hx rfl (hb hby at_224) rfl (teq (rfl : H1 = H1)).2 ?_
    refine XS.iconst X11.here hx rfl (hb hby at_227) ?_
    refine XS.goto X11.here hx rfl (pc0 := 228) (pc' := 232) rfl (hb hby at_228) (by decide) (by decide) ?_
    refine XS.istore X11.here hx rfl (hb hby at_232) rfl (l' := #[.val (.int x0), .val (.int x1), .val (.int x2), .val (.int x3), .val (.int H1), .val (.int H2), .val (.int H3), .val (.int (1 : Int32)), .val (.ref hs), .val (.int (1 : Int32)), .val (.int (1 : Int32)), .val (.int (1 : Int32)), .val (.ref ea), .val (.int (1 : Int32)), .val (.ref g1), .val (.int (1 : Int32)), .unset, .unset]) rfl ?_
    show Steps p.tables e below (T11.setTop (mkF m 234 #[.val (.int x0), .val (.int x1), .val (.int x2), .val (.int x3), .val (.int H1), .val (.int H2), .val (.int H3), .val (.int (1 : Int32)), .val (.ref hs), .val (.int (1 : Int32)), .val (.int (1 : Int32)), .val (.int (1 : Int32)), .val (.ref ea), .val (.int (1 : Int32)), .val (.ref g1), .val (.int (1 : Int32)), .unset, .unset] [])) _
    refine XS.iload X11.here hx rfl (hb hby at_234) rfl ?_
    refine XS.ifNo X11.here hx rfl (hb hby at_236) rfl ((if0 _ _).trans (feq (by decide : ¬ ((1 : Int32) = (0 : Int32)))).1) ?_
    refine XS.iload X11.here hx rfl (hb hby at_239) rfl ?_
    refine XS.iconst X11.here hx rfl (hb hby at_241) ?_
    show Steps p.tables e below (T11.setTop (mkF m 242 #[.val (.int x0), .val (.int x1), .val (.int x2), .val (.int x3), .val (.int H1), .val (.int H2), .val (.int H3), .val (.int (1 : Int32)), .val (.ref hs), .val (.int (1 : Int32)), .val (.int (1 : Int32)), .val (.int (1 : Int32)), .val (.ref ea), .val (.int (1 : Int32)), .val (.ref g1), .val (.int (1 : Int32)), .unset, .unset] [(.int (2 : Int32)), (.int (1 : Int32))])) _
    refine XS.icmpYes X11.here hx rfl (pc0 := 242) (pc' := 263) rfl (hb hby at_242) rfl (tlt (by decide : (1 : Int32) < (2 : Int32))).1 (by decide) (by decide) ?_
    refine XS.iload X11.here hx rfl (hb hby at_263) rfl ?_
    refine XS.ifNo X11.here hx rfl (hb hby at_265) rfl ((if0 _ _).trans (feq (by decide : ¬ ((1 : Int32) = (0 : Int32)))).1) ?_
    refine XS.iload X11.here hx rfl (hb hby at_268) rfl ?_
    show Steps p.tables e below (T11.setTop (mkF m 270 #[.val (.int x0), .val (.int x1), .val (.int x2), .val (.int x3), .val (.int H1), .val (.int H2), .val (.int H3), .val (.int (1 : Int32)), .val (.ref hs), .val (.int (1 : Int32)), .val (.int (1 : Int32)), .val (.int (1 : Int32)), .val (.ref ea), .val (.int (1 : Int32)), .val (.ref g1), .val (.int (1 : Int32)), .unset, .unset] [(.int (1 : Int32))])) _
    refine XS.iconst X11.here hx rfl (hb hby at_270) ?_
    refine XS.icmpYes X11.here hx rfl (pc0 := 271) (pc' := 292) rfl (hb hby at_271) rfl (tlt (by decide : (1 : Int32) < (3 : Int32))).1 (by decide) (by decide) ?_
    refine XS.aload X11.here hx rfl (hb hby at_292) rfl rfl ?_
    refine XS.iload X11.here hx rfl (hb hby at_294) rfl ?_
    show Steps p.tables e below (T11.setTop (mkF m 296 #[.val (.int x0), .val (.int x1), .val (.int x2), .val (.int x3), .val (.int H1), .val (.int H2), .val (.int H3), .val (.int (1 : Int32)), .val (.ref hs), .val (.int (1 : Int32)), .val (.int (1 : Int32)), .val (.int (1 : Int32)), .val (.ref ea), .val (.int (1 : Int32)), .val (.ref g1), .val (.int (1 : Int32)), .unset, .unset] [(.int (1 : Int32)), (.ref hs)])) _
    refine st13.trans ?_
    show Steps p.tables e below (T13.setTop (mkF m 299 #[.val (.int x0), .val (.int x1), .val (.int x2), .val (.int x3), .val (.int H1), .val (.int H2), .val (.int H3), .val (.int (1 : Int32)), .val (.ref hs), .val (.int (1 : Int32)), .val (.int (1 : Int32)), .val (.int (1 : Int32)), .val (.ref ea), .val (.int (1 : Int32)), .val (.ref g1), .val (.int (1 : Int32)), .unset, .unset] [(.ref g2)])) _
    refine XS.astore X13.here hx rfl (hb hby at_299) rfl rfl (l' := #[.val (.int x0), .val (.int x1), .val (.int x2), .val (.int x3), .val (.int H1), .val (.int H2), .val (.int H3), .val (.int (1 : Int32)), .val (.ref hs), .val (.int (1 : Int32)), .val (.int (1 : Int32)), .val (.int (1 : Int32)), .val (.ref ea), .val (.int (1 : Int32)), .val (.ref g1), .val (.int (1 : Int32)), .val (.ref g2), .unset]) rfl ?_
    refine XS.iload X13.here hx rfl (hb hby at_301) rfl ?_
    refine XS.iconst X13.here hx rfl (hb hby at_303) ?_
    show Steps p.tables e below (T13.setTop (mkF m 304 #[.val (.int x0), .val (.int x1), .val (.int x2), .val (.int x3), .val (.int H1), .val (.int H2), .val (.int H3), .val (.int (1 : Int32)), .val (.ref hs), .val (.int (1 : Int32)), .val (.int (1 : Int32)), .val (.int (1 : Int32)), .val (.ref ea), .val (.int (1 : Int32)), .val (.ref g1), .val (.int (1 : Int32)), .val (.ref g2), .unset] [(.int (1 : Int32)), (.int (1 : Int32))])) _
    refine XS.icmpNo X13.here hx rfl (hb hby at_304) rfl (flt (by decide : ¬ ((1 : Int32) < (1 : Int32)))).1 ?_
    refine XS.iload X13.here hx rfl (hb hby at_307) rfl ?_
    refine XS.ifNo X13.here hx rfl (hb hby at_309) rfl ((if0 _ _).trans (feq (by decide : ¬ ((1 : Int32) = (0 : Int32)))).1) ?_
    refine XS.aload X13.here hx rfl (hb hby at_312) rfl rfl ?_
    show Steps p.tables e below (T13.setTop (mkF m 314 #[.val (.int x0), .val (.int x1), .val (.int x2), .val (.int x3), .val (.int H1), .val (.int H2), .val (.int H3), .val (.int (1 : Int32)), .val (.ref hs), .val (.int (1 : Int32)), .val (.int (1 : Int32)), .val (.int (1 : Int32)), .val (.ref ea), .val (.int (1 : Int32)), .val (.ref g1), .val (.int (1 : Int32)), .val (.ref g2), .unset] [(.ref g2)])) _
    refine own_len X13 hx hZ rfl Vr13 (g := (mkF m 314 #[.val (.int x0), .val (.int x1), .val (.int x2), .val (.int x3), .val (.int H1), .val (.int H2), .val (.int H3), .val (.int (1 : Int32)), .val (.ref hs), .val (.int (1 : Int32)), .val (.int (1 : Int32)), .val (.int (1 : Int32)), .val (.ref ea), .val (.int (1 : Int32)), .val (.ref g1), .val (.int (1 : Int32)), .val (.ref g2), .unset] [(.ref g2)])) rfl rfl (hb hby at_314) ?_
    refine XS.iconst X13.here hx rfl (hb hby at_315) ?_
    refine XS.icmpNo X13.here hx rfl (hb hby at_316) rfl (teq (by decide : (1 : Int32) = (1 : Int32))).2 ?_
    refine XS.aload X13.here hx rfl (hb hby at_319) rfl rfl ?_
    show Steps p.tables e below (T13.setTop (mkF m 321 #[.val (.int x0), .val (.int x1), .val (.int x2), .val (.int x3), .val (.int H1), .val (.int H2), .val (.int H3), .val (.int (1 : Int32)), .val (.ref hs), .val (.int (1 : Int32)), .val (.int (1 : Int32)), .val (.int (1 : Int32)), .val (.ref ea), .val (.int (1 : Int32)), .val (.ref g1), .val (.int (1 : Int32)), .val (.ref g2), .unset] [(.ref g2)])) _
    refine XS.iconst X13.here hx rfl (hb hby at_321) ?_
    refine own_ldI X13 hx hZ rfl Vr13 (j := (0 : Int32)) (w := H1) ⟨by decide, by decide⟩ rfl (g := (mkF m 322 #[.val (.int x0), .val (.int x1), .val (.int x2), .val (.int x3), .val (.int H1), .val (.int H2), .val (.int H3), .val (.int (1 : Int32)), .val (.ref hs), .val (.int (1 : Int32)), .val (.int (1 : Int32)), .val (.int (1 : Int32)), .val (.ref ea), .val (.int (1 : Int32)), .val (.ref g1), .val (.int (1 : Int32)), .val (.ref g2), .unset] [(.int (0 : Int32)), (.ref g2)])) rfl rfl (hb hby at_322) ?_
    refine XS.iload X13.here hx rfl (hb hby at_323) rfl ?_
    refine XS.icmpNo X13.here hx rfl (hb hby at_325) rfl (teq (rfl : H1 = H1)).2 ?_
    show Steps p.tables e below (T13.setTop (mkF m 328 #[.val (.int x0), .val (.int x1), .val (.int x2), .val (.int x3), .val (.int H1), .val (.int H2), .val (.int H3), .val (.int (1 : Int32)), .val (.ref hs), .val (.int (1 : Int32)), .val (.int (1 : Int32)), .val (.int (1 : Int32)), .val (.ref ea), .val (.int (1 : Int32)), .val (.ref g1), .val (.int (1 : Int32)), .val (.ref g2), .unset] [])) _
    refine XS.iconst X13.here hx rfl (hb hby at_328) ?_
    refine XS.goto X13.here hx rfl (pc0 := 329) (pc' := 333) rfl (hb hby at_329) (by decide) (by decide) ?_
    refine XS.istore X13.here hx rfl (hb hby at_333) rfl (l' := #[.val (.int x0), .val (.int x1), .val (.int x2), .val (.int x3), .val (.int H1), .val (.int H2), .val (.int H3), .val (.int (1 : Int32)), .val (.ref hs), .val (.int (1 : Int32)), .val (.int (1 : Int32)), .val (.int (1 : Int32)), .val (.ref ea), .val (.int (1 : Int32)), .val (.ref g1), .val (.int (1 : Int32)), .val (.ref g2), .unset]) rfl ?_
    refine XS.goto X13.here hx rfl (pc0 := 335) (pc' := 356) rfl (hb hby at_335) (by decide) (by decide) ?_
    show Steps p.tables e below (T13.setTop (mkF m 356 #[.val (.int x0), .val (.int x1), .val (.int x2), .val (.int x3), .val (.int H1), .val (.int H2), .val (.int H3), .val (.int (1 : Int32)), .val (.ref hs), .val (.int (1 : Int32)), .val (.int (1 : Int32)), .val (.int (1 : Int32)), .val (.ref ea), .val (.int (1 : Int32)), .val (.ref g1), .val (.int (1 : Int32)), .val (.ref g2), .unset] [])) _
    refine XS.aload X13.here hx rfl (hb hby at_356) rfl rfl ?_
    refine XS.iconst X13.here hx rfl (hb hby at_358) ?_
    refine st15.trans ?_
    show Steps p.tables e below (T15.setTop (mkF m 362 #[.val (.int x0), .val (.int x1), .val (.int x2), .val (.int x3), .val (.int H1), .val (.int H2), .val (.int H3), .val (.int (1 : Int32)), .val (.ref hs), .val (.int (1 : Int32)), .val (.int (1 : Int32)), .val (.int (1 : Int32)), .val (.ref ea), .val (.int (1 : Int32)), .val (.ref g1), .val (.int (1 : Int32)), .val (.ref g2), .unset] [(.ref g3)])) _
    refine XS.astore X15.here hx rfl (hb hby at_362) rfl rfl (l' := #[.val (.int x0), .val (.int x1), .val (.int x2), .val (.int x3), .val (.int H1), .val (.int H2), .val (.int H3), .val (.int (1 : Int32)), .val (.ref hs), .val (.int (1 : Int32)), .val (.int (1 : Int32)), .val (.int (1 : Int32)), .val (.ref ea), .val (.int (1 : Int32)), .val (.ref g1), .val (.int (1 : Int32)), .val (.ref g2), .val (.ref g3)]) rfl ?_
    show Steps p.tables e below (T15.setTop (mkF m 364 #[.val (.int x0), .val (.int x1), .val (.int x2), .val (.int x3), .val (.int H1), .val (.int H2), .val (.int H3), .val (.int (1 : Int32)), .val (.ref hs), .val (.int (1 : Int32)), .val (.int (1 : Int32)), .val (.int (1 : Int32)), .val (.ref ea), .val (.int (1 : Int32)), .val (.ref g1), .val (.int (1 : Int32)), .val (.ref g2), .val (.ref g3)] [])) _
    refine XS.iload X15.here hx rfl (hb hby at_364) rfl ?_
    refine XS.ifNo X15.here hx rfl (hb hby at_366) rfl ((if0 _ _).trans (feq (by decide : ¬ ((1 : Int32) = (0 : Int32)))).1) ?_
    refine XS.aload X15.here hx rfl (hb hby at_369) rfl rfl ?_
    refine own_len X15 hx hZ rfl Vr15 (g := (mkF m 371 #[.val (.int x0), .val (.int x1), .val (.int x2), .val (.int x3), .val (.int H1), .val (.int H2), .val (.int H3), .val (.int (1 : Int32)), .val (.ref hs), .val (.int (1 : Int32)), .val (.int (1 : Int32)), .val (.int (1 : Int32)), .val (.ref ea), .val (.int (1 : Int32)), .val (.ref g1), .val (.int (1 : Int32)), .val (.ref g2), .val (.ref g3)] [(.ref g3)])) rfl rfl (hb hby at_371) ?_
    show Steps p.tables e below (T15.setTop (mkF m 372 #[.val (.int x0), .val (.int x1), .val (.int x2), .val (.int x3), .val (.int H1), .val (.int H2), .val (.int H3), .val (.int (1 : Int32)), .val (.ref hs), .val (.int (1 : Int32)), .val (.int (1 : Int32)), .val (.int (1 : Int32)), .val (.ref ea), .val (.int (1 : Int32)), .val (.ref g1), .val (.int (1 : Int32)), .val (.ref g2), .val (.ref g3)] [(.int (0 : Int32))])) _
    refine XS.ifNo X15.here hx rfl (hb hby at_372) rfl ((if0 _ _).trans (teq (by decide : (0 : Int32) = (0 : Int32))).2) ?_
    refine XS.iconst X15.here hx rfl (hb hby at_375) ?_
    refine XS.goto X15.here hx rfl (pc0 := 376) (pc' := 380) rfl (hb hby at_376) (by decide) (by decide) ?_
    refine XS.istore X15.here hx rfl (hb hby at_380) rfl (l' := #[.val (.int x0), .val (.int x1), .val (.int x2), .val (.int x3), .val (.int H1), .val (.int H2), .val (.int H3), .val (.int (1 : Int32)), .val (.ref hs), .val (.int (1 : Int32)), .val (.int (1 : Int32)), .val (.int (1 : Int32)), .val (.ref ea), .val (.int (1 : Int32)), .val (.ref g1), .val (.int (1 : Int32)), .val (.ref g2), .val (.ref g3)]) rfl ?_
    show Steps p.tables e below (T15.setTop (mkF m 382 #[.val (.int x0), .val (.int x1), .val (.int x2), .val (.int x3), .val (.int H1), .val (.int H2), .val (.int H3), .val (.int (1 : Int32)), .val (.ref hs), .val (.int (1 : Int32)), .val (.int (1 : Int32)), .val (.int (1 : Int32)), .val (.ref ea), .val (.int (1 : Int32)), .val (.ref g1), .val (.int (1 : Int32)), .val (.ref g2), .val (.ref g3)] [])) _
    refine XS.iload X15.here hx rfl (hb hby at_382) rfl ?_
    exact retN X15 hx (t := .boolean) Bd.returns (by simp) (hb hby at_384) hr
  · exact ⟨rfl, N15⟩
set_option maxRecDepth 65536 in
set_option maxHeartbeats 40000000 in
theorem rm0_2e (l : Launch) (Z : State) (a0 : Array Value) (hw : ∀ d ∈ tables_1, d.before a0 Z = true) (ws : List Jvm.Cond) (x0 : Int32) (x1 : Int32) (x2 : Int32) (x3 : Int32) (H1 H2 H3 : Int32) (h0 : Heap) (n0 : Nat) (Z0 : n0 ≤ h0.size) (eH1 : H1 = (x0 &&& (536870911 : Int32))) (eH2 : H2 = (H1 + (x1 &&& (536870911 : Int32)))) (eH3 : H3 = (H2 + (x2 &&& (1073741823 : Int32)))) (hn : (x3 &&& (3 : Int32)) = (2 : Int32)) (hq2 : H2 = H1) :
    MetFree l x (head1 (Jvm.Cond.code x code maxLocals ret :: ws) room_1) (fun a U => a = #[(.int x0), (.int x1), (.int x2), (.int x3)] ∧ Z.Warmed39 U.vm ∧ U.heap = h0) (fun _ _ _ _ _ => True) (fun _ U o U' => ∃ v L, o = .returned v ∧ (QL n0 v U'.heap L) ∧ FrameEnd U o U' L room_1.cells room_1.slots) := by
  refine MetFree.of_bodySF (plainFor_of_name pn_0) hisR ?_
  intro p e s m args below meth c s₁ Bd hml0 hP hK
  obtain ⟨rfl, hZ, hh⟩ := hP
  have hx := Bd.exec
  have hby := Bd.bytes
  have hml : c.maxLocals = 18 := hml0
  have hown : s.vm.findClass "com/example/rootline/rootline/reach/HolderSetsHoldersPinLaw" = some m.cls := findClass_of_methodNamed Bd.named
  have hnm := (name_of_methodNamed Bd.named Bd.method).1
  have X0 : Stand p l e room_1 s m #[(.int x0), (.int x1), (.int x2), (.int x3)] below meth c s₁ [] 0 0 := Stand.of_body Bd
  have e0 : s₁.heap = h0 := by rw [← hh, Bd.state]; rfl
  have N0 := Fr.nil n0
  have pre0 : ∀ t, Steps p.tables e below (s₁.setTop (mkF m 0 #[.val (.int x0), .val (.int x1), .val (.int x2), .val (.int x3), .unset, .unset, .unset, .unset, .unset, .unset, .unset, .unset, .unset, .unset, .unset, .unset, .unset, .unset] [])) t → Steps p.tables e below (s₁.setTop (entryFrame m #[(.int x0), (.int x1), (.int x2), (.int x3)] maxLocals)) t := fun t k => castTop (ef_0 m x0 x1 x2 x3) k
  have c0 : (0 : Int32).toInt = 0 := rfl
  have cm1 : (-1 : Int32).toInt = -1 := rfl
  have m1 := c_mask x0 (536870911 : Int32) 29 (by decide) (by decide)
  have m2 := c_mask x1 (536870911 : Int32) 29 (by decide) (by decide)
  have m3 := c_mask x2 (1073741823 : Int32) 30 (by decide) (by decide)
  rw [show ((2 ^ 29 : Nat) : Int) = 536870912 from rfl] at m1 m2
  rw [show ((2 ^ 30 : Nat) : Int) = 1073741824 from rfl] at m3
  have a2 := c_iadd H1 (x1 &&& (536870911 : Int32))
  have a3 := c_iadd H2 (x2 &&& (1073741823 : Int32))
  rw [← eH2] at a2
  rw [← eH3] at a3
  rw [← eH1] at m1
  have r2 := rng32 H2
  have r3 := rng32 H3
  have hH1 : 0 ≤ H1.toInt := by omega
  have hH1n := hH1
  have hH2n : 0 ≤ H2.toInt := by omega
  have hH3n : 0 ≤ H3.toInt := by omega
  have le12 : H1.toInt ≤ H2.toInt := by omega
  have le23 : H2.toInt ≤ H3.toInt := by omega
  have hneH1 : ¬ (H1 = (-1 : Int32)) := by rw [← Int32.toInt_inj]; omega
  have hgeH1 : ¬ (H1 < (-1 : Int32)) := by rw [Int32.lt_iff_toInt_lt]; omega
  have heqH2 : H2 = H1 := hq2
  obtain ⟨T1, h1, X1, e1, E1, A1, D1, -, st1⟩ := newO X0 hx hZ hown (hw _ (List.mem_of_getElem? (i := 2) rfl)) (hw _ (List.mem_of_getElem? (i := 3) rfl)) (hw _ (List.mem_of_getElem? (i := 4) rfl)) e0 (g := (mkF m 29 #[.val (.int x0), .val (.int x1), .val (.int x2), .val (.int x3), .val (.int H1), .val (.int H2), .val (.int H3), .val (.int (2 : Int32)), .unset, .unset, .unset, .unset, .unset, .unset, .unset, .unset, .unset, .unset] [])) rfl (hb hby at_29) (by decide) (by decide)
  obtain ⟨hs, g1⟩ : ∃ z, z = h0.size := ⟨_, rfl⟩
  rw [← g1] at A1 D1 st1
  have E_hs_1 : Exa Z h1 hs "com/example/rootline/rootline/reach/HolderSets" := A1
  have F_rest_hs_1 : Fld Z h1 hs sH "rest" "[I" .null := D1 (Or.inl (hw _ (List.mem_of_getElem? (i := 13) rfl))) (ty := (.array .int)) (by decide)
  have F_highest_hs_1 : Fld Z h1 hs sH "highest" "[I" .null := D1 (Or.inl (hw _ (List.mem_of_getElem? (i := 15) rfl))) (ty := (.array .int)) (by decide)
  have F_sizes_hs_1 : Fld Z h1 hs sH "sizes" "[I" .null := D1 (Or.inl (hw _ (List.mem_of_getElem? (i := 17) rfl))) (ty := (.array .int)) (by decide)
  have F_count_hs_1 : Fld Z h1 hs sH "count" "I" (.int (0 : Int32)) := D1 (Or.inl (hw _ (List.mem_of_getElem? (i := 19) rfl))) (ty := .int) (by decide)
  have F_withOne_hs_1 : Fld Z h1 hs sH "withOne" "Lcom/example/rootline/rootline/heap/LongIntTable;" .null := D1 (Or.inr (hw _ (List.mem_of_getElem? (i := 40) rfl))) (ty := (.object "com/example/rootline/rootline/heap/LongIntTable")) (by decide)
  have F_unions_hs_1 : Fld Z h1 hs sH "unions" "Lcom/example/rootline/rootline/heap/LongIntTable;" .null := D1 (Or.inr (hw _ (List.mem_of_getElem? (i := 42) rfl))) (ty := (.object "com/example/rootline/rootline/heap/LongIntTable")) (by decide)
  have F_left_hs_1 : Fld Z h1 hs sH "left" "[I" .null := D1 (Or.inl (hw _ (List.mem_of_getElem? (i := 44) rfl))) (ty := (.array .int)) (by decide)
  have F_right_hs_1 : Fld Z h1 hs sH "right" "[I" .null := D1 (Or.inl (hw _ (List.mem_of_getElem? (i := 46) rfl))) (ty := (.array .int)) (by decide)
  have F_merged_hs_1 : Fld Z h1 hs sH "merged" "[I" .null := D1 (Or.inl (hw _ (List.mem_of_getElem? (i := 48) rfl))) (ty := (.array .int)) (by decide)
  have g_hs : n0 ≤ hs := Nat.le_trans Z0 (Nat.le_of_eq g1.symm)
  have siz_2 := Nat.le_trans Z0 E1.1
  obtain ⟨_, _, ⟨T3, L3, k3, n3⟩, -, X3, ⟨Lc3, hQ3, l3, y3, z3⟩, st3⟩ := X1.specialBack hx (y := (⟨"com/example/rootline/rootline/reach/HolderSets", "<init>", "()V"⟩ : MethodName)) rfl hown (mvT hZ (hw _ (List.mem_of_getElem? (i := 5) rfl))) (mvT hZ (hw _ (List.mem_of_getElem? (i := 6) rfl))) (mvT hZ (hw _ (List.mem_of_getElem? (i := 7) rfl))) (by decide) (backOf (W := 1) (rm1 l Z a0 hw [] hs h1 n0 siz_2 E_hs_1 F_rest_hs_1 F_highest_hs_1 F_sizes_hs_1 F_count_hs_1 F_withOne_hs_1 F_unions_hs_1 F_left_hs_1 F_right_hs_1 F_merged_hs_1 g_hs) hZ (hw _ (List.mem_of_getElem? (i := 7) rfl)) (hw _ (List.mem_of_getElem? (i := 4) rfl)) (by decide) (by decide)) (g := (mkF m 33 #[.val (.int x0), .val (.int x1), .val (.int x2), .val (.int x3), .val (.int H1), .val (.int H2), .val (.int H3), .val (.int (2 : Int32)), .unset, .unset, .unset, .unset, .unset, .unset, .unset, .unset, .unset, .unset] [(.ref hs), (.ref hs)])) rfl (by rw [hml]; rfl) (Steps.refl _) (a := hs) (argsL := []) (rest := [(.ref hs)]) (lenOf pd___V rfl) rfl (by show 2 * 0 + _ ≤ _; exact Nat.le_of_eq rfl) (hb hby at_33) (fun _ _ => ⟨rfl, e1, (by decide : 1 + 12 ≤ _), (by decide : 9 + 358 ≤ _)⟩)
  dsimp only [Pt.U, Pt.locs, Pt.cells, Pt.slots] at X3 l3 y3 z3 st3 hQ3
  subst l3 y3 z3
  obtain ⟨rfl, N3q, K3, ra, ha, sa, t, ka, va, kr, kh, ks, Kf, Vf, HSi, hVf⟩ := hQ3
  have siz_4 := Nat.le_trans siz_2 K3.1
  have E_hs : Exa Z T3.heap hs "com/example/rootline/rootline/reach/HolderSets" := HSi.2.1
  have N3 := Fr.app N0 N3q
  obtain ⟨cq5, kq5, q5a, q5b, q5c⟩ := isOf hZ rfl E_hs
  obtain ⟨_, _, ⟨T5, L5, k5, n5⟩, -, X5, ⟨Lc5, hQ5, l5, y5, z5⟩, st5⟩ := X3.virtualBack hx (y := (⟨"com/example/rootline/rootline/reach/HolderSets", "with", "(II)I"⟩ : MethodName)) (z := (⟨"com/example/rootline/rootline/reach/HolderSets", "with", "(II)I"⟩ : MethodName)) hown (mvT hZ (hw _ (List.mem_of_getElem? (i := 49) rfl))) (mvT hZ (hw _ (List.mem_of_getElem? (i := 50) rfl))) (notFace_of_selects (args := #[]) (mvT hZ (hw _ (List.mem_of_getElem? (i := 52) rfl)))) (mvT hZ (hw _ (List.mem_of_getElem? (i := 52) rfl))) (mvT hZ (hw _ (List.mem_of_getElem? (i := 51) rfl))) (by decide) (backOf (W := 0) (rmw_0 l Z a0 hw [] hs H1 ra ha sa t ka va kr kh ks Kf Vf  T3.heap n0 siz_4 HSi g_hs (fun i hi => own_emp Vf 0 0 (fun j hj q => absurd (hVf j hj) q) i hi) (fun j hj q => absurd (hVf j hj) q) hneH1 hgeH1) hZ (hw _ (List.mem_of_getElem? (i := 53) rfl)) (hw _ (List.mem_of_getElem? (i := 4) rfl)) (by decide) (by decide)) q5a q5c (g := (mkF m 49 #[.val (.int x0), .val (.int x1), .val (.int x2), .val (.int x3), .val (.int H1), .val (.int H2), .val (.int H3), .val (.int (2 : Int32)), .val (.ref hs), .unset, .unset, .unset, .unset, .unset, .unset, .unset, .unset, .unset] [(.int H1), (.int (0 : Int32)), (.ref hs)])) rfl (by rw [hml]; rfl) (Steps.refl _) (argsL := [(.int (0 : Int32)), (.int H1)]) (rest := []) (lenOf pd__II_I rfl) rfl (by show 2 * 0 + _ ≤ _; exact Nat.le_of_eq rfl) (hb hby at_49) (fun _ _ => ⟨rfl, rfl, (by decide : 13 + 0 ≤ _), (by decide : 367 + 0 ≤ _)⟩)
  dsimp only [Pt.U, Pt.locs, Pt.cells, Pt.slots] at X5 l5 y5 z5 st5 hQ5
  subst l5 y5 z5
  obtain ⟨rfl, N5q, K5, p1, hp1, hV1, HS5⟩ := hQ5
  have siz_6 := Nat.le_trans siz_4 K5.1
  have E_hs_6 := E_hs.keep K5
  have occ1 := own_occ1 Kf Vf p1 (1 : Int32) (own_pair (0 : Int32) H1) hVf
  have HSn5 : HSS Z T5.heap hs ra ha sa t ka va kr kh ks (2 : Int32) [(.int (-1 : Int32)), (.int (0 : Int32)), (.int (0 : Int32)), (.int (0 : Int32)), (.int (0 : Int32)), (.int (0 : Int32)), (.int (0 : Int32)), (.int (0 : Int32)), (.int (0 : Int32)), (.int (0 : Int32)), (.int (0 : Int32)), (.int (0 : Int32)), (.int (0 : Int32)), (.int (0 : Int32)), (.int (0 : Int32)), (.int (0 : Int32))] [(.int (-1 : Int32)), (.int H1), (.int (0 : Int32)), (.int (0 : Int32)), (.int (0 : Int32)), (.int (0 : Int32)), (.int (0 : Int32)), (.int (0 : Int32)), (.int (0 : Int32)), (.int (0 : Int32)), (.int (0 : Int32)), (.int (0 : Int32)), (.int (0 : Int32)), (.int (0 : Int32)), (.int (0 : Int32)), (.int (0 : Int32))] [(.int (0 : Int32)), (.int (1 : Int32)), (.int (0 : Int32)), (.int (0 : Int32)), (.int (0 : Int32)), (.int (0 : Int32)), (.int (0 : Int32)), (.int (0 : Int32)), (.int (0 : Int32)), (.int (0 : Int32)), (.int (0 : Int32)), (.int (0 : Int32)), (.int (0 : Int32)), (.int (0 : Int32)), (.int (0 : Int32)), (.int (0 : Int32))] (1 : Int32) (upd Kf p1 (own_pair (0 : Int32) H1)) (upd Vf p1 (1 : Int32)) := HS5
  have N5 := Fr.app N3 N5q
  obtain ⟨cq7, kq7, q7a, q7b, q7c⟩ := isOf hZ rfl E_hs_6
  obtain ⟨_, _, ⟨T7, L7, k7, n7⟩, -, X7, ⟨Lc7, hQ7, l7, y7, z7⟩, st7⟩ := X5.virtualBack hx (y := (⟨"com/example/rootline/rootline/reach/HolderSets", "with", "(II)I"⟩ : MethodName)) (z := (⟨"com/example/rootline/rootline/reach/HolderSets", "with", "(II)I"⟩ : MethodName)) hown (mvT hZ (hw _ (List.mem_of_getElem? (i := 49) rfl))) (mvT hZ (hw _ (List.mem_of_getElem? (i := 50) rfl))) (notFace_of_selects (args := #[]) (mvT hZ (hw _ (List.mem_of_getElem? (i := 52) rfl)))) (mvT hZ (hw _ (List.mem_of_getElem? (i := 52) rfl))) (mvT hZ (hw _ (List.mem_of_getElem? (i := 51) rfl))) (by decide) (backOf (W := 0) (rme_1 l Z a0 hw [] hs H2 ra ha sa t ka va kr kh ks (upd Kf p1 (own_pair (0 : Int32) H1)) (upd Vf p1 (1 : Int32)) H1 T5.heap n0 siz_6 HSn5 heqH2) hZ (hw _ (List.mem_of_getElem? (i := 53) rfl)) (hw _ (List.mem_of_getElem? (i := 4) rfl)) (by decide) (by decide)) q7a q7c (g := (mkF m 70 #[.val (.int x0), .val (.int x1), .val (.int x2), .val (.int x3), .val (.int H1), .val (.int H2), .val (.int H3), .val (.int (2 : Int32)), .val (.ref hs), .val (.int (1 : Int32)), .unset, .unset, .unset, .unset, .unset, .unset, .unset, .unset] [(.int H2), (.int (1 : Int32)), (.ref hs)])) rfl (by rw [hml]; rfl) (Steps.refl _) (argsL := [(.int (1 : Int32)), (.int H2)]) (rest := []) (lenOf pd__II_I rfl) rfl (by show 2 * 0 + _ ≤ _; exact Nat.le_of_eq rfl) (hb hby at_70) (fun _ _ => ⟨rfl, rfl, (by decide : 13 + 0 ≤ _), (by decide : 367 + 0 ≤ _)⟩)
  dsimp only [Pt.U, Pt.locs, Pt.cells, Pt.slots] at X7 l7 y7 z7 st7 hQ7
  subst l7 y7 z7
  obtain ⟨rfl, N7q, e7⟩ := hQ7
  have N7 := Fr.app N5 N7q
  obtain ⟨T8, h8, k8, X8, e8, E8, A8, st8⟩ := newP X7 hx hZ (hw _ (List.mem_of_getElem? (i := 11) rfl)) e7 (g := (mkF m 103 #[.val (.int x0), .val (.int x1), .val (.int x2), .val (.int x3), .val (.int H1), .val (.int H2), .val (.int H3), .val (.int (2 : Int32)), .val (.ref hs), .val (.int (1 : Int32)), .val (.int (1 : Int32)), .val (.int (1 : Int32)), .unset, .unset, .unset, .unset, .unset, .unset] [(.int (3 : Int32))])) rfl (hb hby at_103) rfl (by decide) (cap := 3) (by decide) (by decide) (by decide) (by decide)
  obtain ⟨ea, g8⟩ : ∃ z, z = T5.heap.size := ⟨_, rfl⟩
  rw [← g8] at A8 st8
  have V_ea_8 : Arv Z h8 ea k8 .int (3 : Int32) [(.int (0 : Int32)), (.int (0 : Int32)), (.int (0 : Int32))] (.int (0 : Int32)) := (Arv.new A8 (by decide)).pad (pad_rep [] (.int (0 : Int32)) 3)
  have lt_hs_ea : hs < ea := Nat.lt_of_lt_of_le E_hs_6.lt (Nat.le_of_eq g8.symm)
  have lt_va_ea : va < ea := Nat.lt_of_lt_of_le HSn5.lt (Nat.le_of_eq g8.symm)
  have g_ea : n0 ≤ ea := Nat.le_trans siz_6 (Nat.le_of_eq g8.symm)
  have siz_9 := Nat.le_trans siz_6 E8.1
  have E_hs_9 := E_hs_6.ext E8
  have HS_9 := HSn5.ext E8
  obtain ⟨T10, h10, L10, X10, e10, N10, W10, V10, st10⟩ := own_stI X8 hx hZ e8 V_ea_8 (j := (0 : Int32)) ⟨by decide, by decide⟩ (i := 0) rfl (Nat.le_of_ble_eq_true rfl) N7 g_ea (g := (mkF m 122 #[.val (.int x0), .val (.int x1), .val (.int x2), .val (.int x3), .val (.int H1), .val (.int H2), .val (.int H3), .val (.int (2 : Int32)), .val (.ref hs), .val (.int (1 : Int32)), .val (.int (1 : Int32)), .val (.int (1 : Int32)), .val (.ref ea), .val (.int (0 : Int32)), .unset, .unset, .unset, .unset] [(.int H1), (.int (0 : Int32)), (.ref ea)])) rfl rfl (hb hby at_122)
  have siz_11 := Nat.le_trans siz_9 (Keep.of_wr W10).1
  have E_hs_11 := E_hs_9.wr W10
  have HS_11 := HS_9.wr W10 lt_va_ea
  have V_ea_10 : Arv Z h10 ea k8 .int (3 : Int32) [(.int H1), (.int (0 : Int32)), (.int (0 : Int32))] (.int (0 : Int32)) := V10
  obtain ⟨cq12, kq12, q12a, q12b, q12c⟩ := isOf hZ e10 E_hs_11
  obtain ⟨_, _, ⟨T12, L12, k12, n12⟩, -, X12, ⟨Lc12, hQ12, l12, y12, z12⟩, st12⟩ := X10.virtualBack hx (y := (⟨"com/example/rootline/rootline/reach/HolderSets", "holders", "(I)[I"⟩ : MethodName)) (z := (⟨"com/example/rootline/rootline/reach/HolderSets", "holders", "(I)[I"⟩ : MethodName)) hown (mvT hZ (hw _ (List.mem_of_getElem? (i := 76) rfl))) (mvT hZ (hw _ (List.mem_of_getElem? (i := 77) rfl))) (notFace_of_selects (args := #[]) (mvT hZ (hw _ (List.mem_of_getElem? (i := 79) rfl)))) (mvT hZ (hw _ (List.mem_of_getElem? (i := 79) rfl))) (mvT hZ (hw _ (List.mem_of_getElem? (i := 78) rfl))) (by decide) (backOf (W := 0) (rmh_1_1 l Z a0 hw [] hs ra ha sa t ka va kr kh ks (upd Kf p1 (own_pair (0 : Int32) H1)) (upd Vf p1 (1 : Int32)) H1 h10 n0 siz_11 HS_11) hZ (hw _ (List.mem_of_getElem? (i := 80) rfl)) (hw _ (List.mem_of_getElem? (i := 4) rfl)) (by decide) (by decide)) q12a q12c (g := (mkF m 185 #[.val (.int x0), .val (.int x1), .val (.int x2), .val (.int x3), .val (.int H1), .val (.int H2), .val (.int H3), .val (.int (2 : Int32)), .val (.ref hs), .val (.int (1 : Int32)), .val (.int (1 : Int32)), .val (.int (1 : Int32)), .val (.ref ea), .val (.int (1 : Int32)), .unset, .unset, .unset, .unset] [(.int (1 : Int32)), (.ref hs)])) rfl (by rw [hml]; rfl) (Steps.refl _) (argsL := [(.int (1 : Int32))]) (rest := []) (lenOf pd__I__I rfl) rfl (by show 2 * 0 + _ ≤ _; exact Nat.le_of_eq rfl) (hb hby at_185) (fun _ _ => ⟨rfl, e10, (by decide : 14 + 1 ≤ _), (by decide : 370 + 1 ≤ _)⟩)
  dsimp only [Pt.U, Pt.locs, Pt.cells, Pt.slots] at X12 l12 y12 z12 st12 hQ12
  subst l12 y12 z12
  obtain ⟨g1, kg1, rfl, N12q, K12, sr12, Vr12⟩ := hQ12
  have siz_13 := Nat.le_trans siz_11 K12.1
  have E_hs_13 := E_hs_11.keep K12
  have HS_13 := HS_11.keep K12
  have V_ea_13 := V_ea_10.keep K12 nin0
  have N12 := Fr.app N10 N12q
  obtain ⟨cq14, kq14, q14a, q14b, q14c⟩ := isOf hZ rfl E_hs_13
  obtain ⟨_, _, ⟨T14, L14, k14, n14⟩, -, X14, ⟨Lc14, hQ14, l14, y14, z14⟩, st14⟩ := X12.virtualBack hx (y := (⟨"com/example/rootline/rootline/reach/HolderSets", "holders", "(I)[I"⟩ : MethodName)) (z := (⟨"com/example/rootline/rootline/reach/HolderSets", "holders", "(I)[I"⟩ : MethodName)) hown (mvT hZ (hw _ (List.mem_of_getElem? (i := 76) rfl))) (mvT hZ (hw _ (List.mem_of_getElem? (i := 77) rfl))) (notFace_of_selects (args := #[]) (mvT hZ (hw _ (List.mem_of_getElem? (i := 79) rfl)))) (mvT hZ (hw _ (List.mem_of_getElem? (i := 79) rfl))) (mvT hZ (hw _ (List.mem_of_getElem? (i := 78) rfl))) (by decide) (backOf (W := 0) (rmh_1_1 l Z a0 hw [] hs ra ha sa t ka va kr kh ks (upd Kf p1 (own_pair (0 : Int32) H1)) (upd Vf p1 (1 : Int32)) H1 T12.heap n0 siz_13 HS_13) hZ (hw _ (List.mem_of_getElem? (i := 80) rfl)) (hw _ (List.mem_of_getElem? (i := 4) rfl)) (by decide) (by decide)) q14a q14c (g := (mkF m 296 #[.val (.int x0), .val (.int x1), .val (.int x2), .val (.int x3), .val (.int H1), .val (.int H2), .val (.int H3), .val (.int (2 : Int32)), .val (.ref hs), .val (.int (1 : Int32)), .val (.int (1 : Int32)), .val (.int (1 : Int32)), .val (.ref ea), .val (.int (1 : Int32)), .val (.ref g1), .val (.int (1 : Int32)), .unset, .unset] [(.int (1 : Int32)), (.ref hs)])) rfl (by rw [hml]; rfl) (Steps.refl _) (argsL := [(.int (1 : Int32))]) (rest := []) (lenOf pd__I__I rfl) rfl (by show 2 * 0 + _ ≤ _; exact Nat.le_of_eq rfl) (hb hby at_296) (fun _ _ => ⟨rfl, rfl, (by decide : 15 + 1 ≤ _), (by decide : 371 + 1 ≤ _)⟩)
  dsimp only [Pt.U, Pt.locs, Pt.cells, Pt.slots] at X14 l14 y14 z14 st14 hQ14
  subst l14 y14 z14
  obtain ⟨g2, kg2, rfl, N14q, K14, sr14, Vr14⟩ := hQ14
  have siz_15 := Nat.le_trans siz_13 K14.1
  have E_hs_15 := E_hs_13.keep K14
  have HS_15 := HS_13.keep K14
  have V_ea_15 := V_ea_13.keep K14 nin0
  have V_g1_15 := Vr12.keep K14 nin0
  have N14 := Fr.app N12 N14q
  obtain ⟨cq16, kq16, q16a, q16b, q16c⟩ := isOf hZ rfl E_hs_15
  obtain ⟨_, _, ⟨T16, L16, k16, n16⟩, -, X16, ⟨Lc16, hQ16, l16, y16, z16⟩, st16⟩ := X14.virtualBack hx (y := (⟨"com/example/rootline/rootline/reach/HolderSets", "holders", "(I)[I"⟩ : MethodName)) (z := (⟨"com/example/rootline/rootline/reach/HolderSets", "holders", "(I)[I"⟩ : MethodName)) hown (mvT hZ (hw _ (List.mem_of_getElem? (i := 76) rfl))) (mvT hZ (hw _ (List.mem_of_getElem? (i := 77) rfl))) (notFace_of_selects (args := #[]) (mvT hZ (hw _ (List.mem_of_getElem? (i := 79) rfl)))) (mvT hZ (hw _ (List.mem_of_getElem? (i := 79) rfl))) (mvT hZ (hw _ (List.mem_of_getElem? (i := 78) rfl))) (by decide) (backOf (W := 0) (rmh_1_0 l Z a0 hw [] hs ra ha sa t ka va kr kh ks (upd Kf p1 (own_pair (0 : Int32) H1)) (upd Vf p1 (1 : Int32)) H1 T14.heap n0 siz_15 HS_15) hZ (hw _ (List.mem_of_getElem? (i := 80) rfl)) (hw _ (List.mem_of_getElem? (i := 4) rfl)) (by decide) (by decide)) q16a q16c (g := (mkF m 359 #[.val (.int x0), .val (.int x1), .val (.int x2), .val (.int x3), .val (.int H1), .val (.int H2), .val (.int H3), .val (.int (2 : Int32)), .val (.ref hs), .val (.int (1 : Int32)), .val (.int (1 : Int32)), .val (.int (1 : Int32)), .val (.ref ea), .val (.int (1 : Int32)), .val (.ref g1), .val (.int (1 : Int32)), .val (.ref g2), .unset] [(.int (0 : Int32)), (.ref hs)])) rfl (by rw [hml]; rfl) (Steps.refl _) (argsL := [(.int (0 : Int32))]) (rest := []) (lenOf pd__I__I rfl) rfl (by show 2 * 0 + _ ≤ _; exact Nat.le_of_eq rfl) (hb hby at_359) (fun _ _ => ⟨rfl, rfl, (by decide : 16 + 1 ≤ _), (by decide : 372 + 0 ≤ _)⟩)
  dsimp only [Pt.U, Pt.locs, Pt.cells, Pt.slots] at X16 l16 y16 z16 st16 hQ16
  subst l16 y16 z16
  obtain ⟨g3, kg3, rfl, N16q, K16, sr16, Vr16⟩ := hQ16
  have siz_17 := Nat.le_trans siz_15 K16.1
  have E_hs_17 := E_hs_15.keep K16
  have HS_17 := HS_15.keep K16
  have V_ea_17 := V_ea_15.keep K16 nin0
  have V_g1_17 := V_g1_15.keep K16 nin0
  have V_g2_17 := Vr14.keep K16 nin0
  have N16 := Fr.app N14 N16q
  obtain ⟨fs, hr, hrun, hended, hW, hsame⟩ := X16.leave (v := some (.int (1 : Int32))) (fun h => by rw [Bd.returns] at h; cases h)
  refine ⟨_, _, pre0 _ ?_, hrun, hended, _, _, rfl, ?_, ⟨_, rfl⟩, hW, hsame.mono (by decide) (by decide)⟩
  · show Steps p.tables e below (s₁.setTop (mkF m 0 #[.val (.int x0), .val (.int x1), .val (.int x2), .val (.int x3), .unset, .unset, .unset, .unset, .unset, .unset, .unset, .unset, .unset, .unset, .unset, .unset, .unset, .unset] [])) _
    refine XS.iloadN X0.here hx rfl (hb hby at_0) rfl ?_
    refine X0.ldcInt hx hown (mvT hZ (hw _ (List.mem_of_getElem? (i := 0) rfl))) (g := (mkF m 1 #[.val (.int x0), .val (.int x1), .val (.int x2), .val (.int x3), .unset, .unset, .unset, .unset, .unset, .unset, .unset, .unset, .unset, .unset, .unset, .unset, .unset, .unset] [(.int x0)])) rfl (hb hby at_1) _ ?_
    refine XS.iand X0.here hx rfl (hb hby at_3) rfl ?_
    show Steps p.tables e below (s₁.setTop (mkF m 4 #[.val (.int x0), .val (.int x1), .val (.int x2), .val (.int x3), .unset, .unset, .unset, .unset, .unset, .unset, .unset, .unset, .unset, .unset, .unset, .unset, .unset, .unset] [(.int (x0 &&& (536870911 : Int32)))])) _
    rw [← eH1]
    show Steps p.tables e below (s₁.setTop (mkF m 4 #[.val (.int x0), .val (.int x1), .val (.int x2), .val (.int x3), .unset, .unset, .unset, .unset, .unset, .unset, .unset, .unset, .unset, .unset, .unset, .unset, .unset, .unset] [(.int H1)])) _
    refine XS.istore X0.here hx rfl (hb hby at_4) rfl (l' := #[.val (.int x0), .val (.int x1), .val (.int x2), .val (.int x3), .val (.int H1), .unset, .unset, .unset, .unset, .unset, .unset, .unset, .unset, .unset, .unset, .unset, .unset, .unset]) rfl ?_
    refine XS.iload X0.here hx rfl (hb hby at_6) rfl ?_
    refine XS.iloadN X0.here hx rfl (hb hby at_8) rfl ?_
    refine X0.ldcInt hx hown (mvT hZ (hw _ (List.mem_of_getElem? (i := 0) rfl))) (g := (mkF m 9 #[.val (.int x0), .val (.int x1), .val (.int x2), .val (.int x3), .val (.int H1), .unset, .unset, .unset, .unset, .unset, .unset, .unset, .unset, .unset, .unset, .unset, .unset, .unset] [(.int x1), (.int H1)])) rfl (hb hby at_9) _ ?_
    show Steps p.tables e below (s₁.setTop (mkF m 11 #[.val (.int x0), .val (.int x1), .val (.int x2), .val (.int x3), .val (.int H1), .unset, .unset, .unset, .unset, .unset, .unset, .unset, .unset, .unset, .unset, .unset, .unset, .unset] [(.int (536870911 : Int32)), (.int x1), (.int H1)])) _
    refine XS.iand X0.here hx rfl (hb hby at_11) rfl ?_
    refine XS.iadd X0.here hx rfl (hb hby at_12) rfl ?_
    show Steps p.tables e below (s₁.setTop (mkF m 13 #[.val (.int x0), .val (.int x1), .val (.int x2), .val (.int x3), .val (.int H1), .unset, .unset, .unset, .unset, .unset, .unset, .unset, .unset, .unset, .unset, .unset, .unset, .unset] [(.int (H1 + (x1 &&& (536870911 : Int32))))])) _
    rw [← eH2]
    show Steps p.tables e below (s₁.setTop (mkF m 13 #[.val (.int x0), .val (.int x1), .val (.int x2), .val (.int x3), .val (.int H1), .unset, .unset, .unset, .unset, .unset, .unset, .unset, .unset, .unset, .unset, .unset, .unset, .unset] [(.int H2)])) _
    refine XS.istore X0.here hx rfl (hb hby at_13) rfl (l' := #[.val (.int x0), .val (.int x1), .val (.int x2), .val (.int x3), .val (.int H1), .val (.int H2), .unset, .unset, .unset, .unset, .unset, .unset, .unset, .unset, .unset, .unset, .unset, .unset]) rfl ?_
    refine XS.iload X0.here hx rfl (hb hby at_15) rfl ?_
    show Steps p.tables e below (s₁.setTop (mkF m 17 #[.val (.int x0), .val (.int x1), .val (.int x2), .val (.int x3), .val (.int H1), .val (.int H2), .unset, .unset, .unset, .unset, .unset, .unset, .unset, .unset, .unset, .unset, .unset, .unset] [(.int H2)])) _
    refine XS.iloadN X0.here hx rfl (hb hby at_17) rfl ?_
    refine X0.ldcInt hx hown (mvT hZ (hw _ (List.mem_of_getElem? (i := 1) rfl))) (g := (mkF m 18 #[.val (.int x0), .val (.int x1), .val (.int x2), .val (.int x3), .val (.int H1), .val (.int H2), .unset, .unset, .unset, .unset, .unset, .unset, .unset, .unset, .unset, .unset, .unset, .unset] [(.int x2), (.int H2)])) rfl (hb hby at_18) _ ?_
    refine XS.iand X0.here hx rfl (hb hby at_20) rfl ?_
    refine XS.iadd X0.here hx rfl (hb hby at_21) rfl ?_
    show Steps p.tables e below (s₁.setTop (mkF m 22 #[.val (.int x0), .val (.int x1), .val (.int x2), .val (.int x3), .val (.int H1), .val (.int H2), .unset, .unset, .unset, .unset, .unset, .unset, .unset, .unset, .unset, .unset, .unset, .unset] [(.int (H2 + (x2 &&& (1073741823 : Int32))))])) _
    rw [← eH3]
    show Steps p.tables e below (s₁.setTop (mkF m 22 #[.val (.int x0), .val (.int x1), .val (.int x2), .val (.int x3), .val (.int H1), .val (.int H2), .unset, .unset, .unset, .unset, .unset, .unset, .unset, .unset, .unset, .unset, .unset, .unset] [(.int H3)])) _
    refine XS.istore X0.here hx rfl (hb hby at_22) rfl (l' := #[.val (.int x0), .val (.int x1), .val (.int x2), .val (.int x3), .val (.int H1), .val (.int H2), .val (.int H3), .unset, .unset, .unset, .unset, .unset, .unset, .unset, .unset, .unset, .unset, .unset]) rfl ?_
    refine XS.iloadN X0.here hx rfl (hb hby at_24) rfl ?_
    refine XS.iconst X0.here hx rfl (hb hby at_25) ?_
    refine XS.iand X0.here hx rfl (hb hby at_26) rfl ?_
    show Steps p.tables e below (s₁.setTop (mkF m 27 #[.val (.int x0), .val (.int x1), .val (.int x2), .val (.int x3), .val (.int H1), .val (.int H2), .val (.int H3), .unset, .unset, .unset, .unset, .unset, .unset, .unset, .unset, .unset, .unset, .unset] [(.int (x3 &&& (3 : Int32)))])) _
    rw [hn]
    show Steps p.tables e below (s₁.setTop (mkF m 27 #[.val (.int x0), .val (.int x1), .val (.int x2), .val (.int x3), .val (.int H1), .val (.int H2), .val (.int H3), .unset, .unset, .unset, .unset, .unset, .unset, .unset, .unset, .unset, .unset, .unset] [(.int (2 : Int32))])) _
    refine XS.istore X0.here hx rfl (hb hby at_27) rfl (l' := #[.val (.int x0), .val (.int x1), .val (.int x2), .val (.int x3), .val (.int H1), .val (.int H2), .val (.int H3), .val (.int (2 : Int32)), .unset, .unset, .unset, .unset, .unset, .unset, .unset, .unset, .unset, .unset]) rfl ?_
    refine st1 _ ?_
    show Steps p.tables e below (T1.setTop (mkF m 32 #[.val (.int x0), .val (.int x1), .val (.int x2), .val (.int x3), .val (.int H1), .val (.int H2), .val (.int H3), .val (.int (2 : Int32)), .unset, .unset, .unset, .unset, .unset, .unset, .unset, .unset, .unset, .unset] [(.ref hs)])) _
    refine XS.dup X1.here hx rfl (hb hby at_32) rfl rfl ?_
    refine st3.trans ?_
    show Steps p.tables e below (T3.setTop (mkF m 36 #[.val (.int x0), .val (.int x1), .val (.int x2), .val (.int x3), .val (.int H1), .val (.int H2), .val (.int H3), .val (.int (2 : Int32)), .unset, .unset, .unset, .unset, .unset, .unset, .unset, .unset, .unset, .unset] [(.ref hs)])) _
    refine XS.astore X3.here hx rfl (hb hby at_36) rfl rfl (l' := #[.val (.int x0), .val (.int x1), .val (.int x2), .val (.int x3), .val (.int H1), .val (.int H2), .val (.int H3), .val (.int (2 : Int32)), .val (.ref hs), .unset, .unset, .unset, .unset, .unset, .unset, .unset, .unset, .unset]) rfl ?_
    refine XS.iload X3.here hx rfl (hb hby at_38) rfl ?_
    refine XS.iconst X3.here hx rfl (hb hby at_40) ?_
    refine XS.icmpNo X3.here hx rfl (hb hby at_41) rfl (flt (by decide : ¬ ((2 : Int32) < (1 : Int32)))).1 ?_
    show Steps p.tables e below (T3.setTop (mkF m 44 #[.val (.int x0), .val (.int x1), .val (.int x2), .val (.int x3), .val (.int H1), .val (.int H2), .val (.int H3), .val (.int (2 : Int32)), .val (.ref hs), .unset, .unset, .unset, .unset, .unset, .unset, .unset, .unset, .unset] [])) _
    refine XS.aload X3.here hx rfl (hb hby at_44) rfl rfl ?_
    refine XS.iconst X3.here hx rfl (hb hby at_46) ?_
    refine XS.iload X3.here hx rfl (hb hby at_47) rfl ?_
    refine st5.trans ?_
    show Steps p.tables e below (T5.setTop (mkF m 52 #[.val (.int x0), .val (.int x1), .val (.int x2), .val (.int x3), .val (.int H1), .val (.int H2), .val (.int H3), .val (.int (2 : Int32)), .val (.ref hs), .unset, .unset, .unset, .unset, .unset, .unset, .unset, .unset, .unset] [(.int (1 : Int32))])) _
    refine XS.goto X5.here hx rfl (pc0 := 52) (pc' := 56) rfl (hb hby at_52) (by decide) (by decide) ?_
    refine XS.istore X5.here hx rfl (hb hby at_56) rfl (l' := #[.val (.int x0), .val (.int x1), .val (.int x2), .val (.int x3), .val (.int H1), .val (.int H2), .val (.int H3), .val (.int (2 : Int32)), .val (.ref hs), .val (.int (1 : Int32)), .unset, .unset, .unset, .unset, .unset, .unset, .unset, .unset]) rfl ?_
    refine XS.iload X5.here hx rfl (hb hby at_58) rfl ?_
    refine XS.iconst X5.here hx rfl (hb hby at_60) ?_
    show Steps p.tables e below (T5.setTop (mkF m 61 #[.val (.int x0), .val (.int x1), .val (.int x2), .val (.int x3), .val (.int H1), .val (.int H2), .val (.int H3), .val (.int (2 : Int32)), .val (.ref hs), .val (.int (1 : Int32)), .unset, .unset, .unset, .unset, .unset, .unset, .unset, .unset] [(.int (2 : Int32)), (.int (2 : Int32))])) _
    refine XS.icmpNo X5.here hx rfl (hb hby at_61) rfl (flt (by decide : ¬ ((2 : Int32) < (2 : Int32)))).1 ?_
    refine XS.aload X5.here hx rfl (hb hby at_64) rfl rfl ?_
    refine XS.iload X5.here hx rfl (hb hby at_66) rfl ?_
    refine XS.iload X5.here hx rfl (hb hby at_68) rfl ?_
    show Steps p.tables e below (T5.setTop (mkF m 70 #[.val (.int x0), .val (.int x1), .val (.int x2), .val (.int x3), .val (.int H1), .val (.int H2), .val (.int H3), .val (.int (2 : Int32)), .val (.ref hs), .val (.int (1 : Int32)), .unset, .unset, .unset, .unset, .unset, .unset, .unset, .unset] [(.int H2), (.int (1 : Int32)), (.ref hs)])) _
    refine st7.trans ?_
    show Steps p.tables e below (T7.setTop (mkF m 73 #[.val (.int x0), .val (.int x1), .val (.int x2), .val (.int x3), .val (.int H1), .val (.int H2), .val (.int H3), .val (.int (2 : Int32)), .val (.ref hs), .val (.int (1 : Int32)), .unset, .unset, .unset, .unset, .unset, .unset, .unset, .unset] [(.int (1 : Int32))])) _
    refine XS.goto X7.here hx rfl (pc0 := 73) (pc' := 78) rfl (hb hby at_73) (by decide) (by decide) ?_
    refine XS.istore X7.here hx rfl (hb hby at_78) rfl (l' := #[.val (.int x0), .val (.int x1), .val (.int x2), .val (.int x3), .val (.int H1), .val (.int H2), .val (.int H3), .val (.int (2 : Int32)), .val (.ref hs), .val (.int (1 : Int32)), .val (.int (1 : Int32)), .unset, .unset, .unset, .unset, .unset, .unset, .unset]) rfl ?_
    refine XS.iload X7.here hx rfl (hb hby at_80) rfl ?_
    show Steps p.tables e below (T7.setTop (mkF m 82 #[.val (.int x0), .val (.int x1), .val (.int x2), .val (.int x3), .val (.int H1), .val (.int H2), .val (.int H3), .val (.int (2 : Int32)), .val (.ref hs), .val (.int (1 : Int32)), .val (.int (1 : Int32)), .unset, .unset, .unset, .unset, .unset, .unset, .unset] [(.int (2 : Int32))])) _
    refine XS.iconst X7.here hx rfl (hb hby at_82) ?_
    refine XS.icmpYes X7.here hx rfl (pc0 := 83) (pc' := 98) rfl (hb hby at_83) rfl (tlt (by decide : (2 : Int32) < (3 : Int32))).1 (by decide) (by decide) ?_
    refine XS.iload X7.here hx rfl (hb hby at_98) rfl ?_
    refine XS.istore X7.here hx rfl (hb hby at_100) rfl (l' := #[.val (.int x0), .val (.int x1), .val (.int x2), .val (.int x3), .val (.int H1), .val (.int H2), .val (.int H3), .val (.int (2 : Int32)), .val (.ref hs), .val (.int (1 : Int32)), .val (.int (1 : Int32)), .val (.int (1 : Int32)), .unset, .unset, .unset, .unset, .unset, .unset]) rfl ?_
    show Steps p.tables e below (T7.setTop (mkF m 102 #[.val (.int x0), .val (.int x1), .val (.int x2), .val (.int x3), .val (.int H1), .val (.int H2), .val (.int H3), .val (.int (2 : Int32)), .val (.ref hs), .val (.int (1 : Int32)), .val (.int (1 : Int32)), .val (.int (1 : Int32)), .unset, .unset, .unset, .unset, .unset, .unset] [])) _
    refine XS.iconst X7.here hx rfl (hb hby at_102) ?_
    refine st8 _ ?_
    show Steps p.tables e below (T8.setTop (mkF m 105 #[.val (.int x0), .val (.int x1), .val (.int x2), .val (.int x3), .val (.int H1), .val (.int H2), .val (.int H3), .val (.int (2 : Int32)), .val (.ref hs), .val (.int (1 : Int32)), .val (.int (1 : Int32)), .val (.int (1 : Int32)), .unset, .unset, .unset, .unset, .unset, .unset] [(.ref ea)])) _
    refine XS.astore X8.here hx rfl (hb hby at_105) rfl rfl (l' := #[.val (.int x0), .val (.int x1), .val (.int x2), .val (.int x3), .val (.int H1), .val (.int H2), .val (.int H3), .val (.int (2 : Int32)), .val (.ref hs), .val (.int (1 : Int32)), .val (.int (1 : Int32)), .val (.int (1 : Int32)), .val (.ref ea), .unset, .unset, .unset, .unset, .unset]) rfl ?_
    refine XS.iconst X8.here hx rfl (hb hby at_107) ?_
    show Steps p.tables e below (T8.setTop (mkF m 108 #[.val (.int x0), .val (.int x1), .val (.int x2), .val (.int x3), .val (.int H1), .val (.int H2), .val (.int H3), .val (.int (2 : Int32)), .val (.ref hs), .val (.int (1 : Int32)), .val (.int (1 : Int32)), .val (.int (1 : Int32)), .val (.ref ea), .unset, .unset, .unset, .unset, .unset] [(.int (0 : Int32))])) _
    refine XS.istore X8.here hx rfl (hb hby at_108) rfl (l' := #[.val (.int x0), .val (.int x1), .val (.int x2), .val (.int x3), .val (.int H1), .val (.int H2), .val (.int H3), .val (.int (2 : Int32)), .val (.ref hs), .val (.int (1 : Int32)), .val (.int (1 : Int32)), .val (.int (1 : Int32)), .val (.ref ea), .val (.int (0 : Int32)), .unset, .unset, .unset, .unset]) rfl ?_
    refine XS.iload X8.here hx rfl (hb hby at_110) rfl ?_
    refine XS.iconst X8.here hx rfl (hb hby at_112) ?_
    refine XS.icmpNo X8.here hx rfl (hb hby at_113) rfl (flt (by decide : ¬ ((2 : Int32) < (1 : Int32)))).1 ?_
    show Steps p.tables e below (T8.setTop (mkF m 116 #[.val (.int x0), .val (.int x1), .val (.int x2), .val (.int x3), .val (.int H1), .val (.int H2), .val (.int H3), .val (.int (2 : Int32)), .val (.ref hs), .val (.int (1 : Int32)), .val (.int (1 : Int32)), .val (.int (1 : Int32)), .val (.ref ea), .val (.int (0 : Int32)), .unset, .unset, .unset, .unset] [])) _
    refine XS.aload X8.here hx rfl (hb hby at_116) rfl rfl ?_
    refine XS.iload X8.here hx rfl (hb hby at_118) rfl ?_
    refine XS.iload X8.here hx rfl (hb hby at_120) rfl ?_
    refine st10 _ ?_
    show Steps p.tables e below (T10.setTop (mkF m 123 #[.val (.int x0), .val (.int x1), .val (.int x2), .val (.int x3), .val (.int H1), .val (.int H2), .val (.int H3), .val (.int (2 : Int32)), .val (.ref hs), .val (.int (1 : Int32)), .val (.int (1 : Int32)), .val (.int (1 : Int32)), .val (.ref ea), .val (.int (0 : Int32)), .unset, .unset, .unset, .unset] [])) _
    refine XS.iload X10.here hx rfl (hb hby at_123) rfl ?_
    refine XS.iconst X10.here hx rfl (hb hby at_125) ?_
    refine XS.iadd X10.here hx rfl (hb hby at_126) rfl ?_
    show Steps p.tables e below (T10.setTop (mkF m 127 #[.val (.int x0), .val (.int x1), .val (.int x2), .val (.int x3), .val (.int H1), .val (.int H2), .val (.int H3), .val (.int (2 : Int32)), .val (.ref hs), .val (.int (1 : Int32)), .val (.int (1 : Int32)), .val (.int (1 : Int32)), .val (.ref ea), .val (.int (0 : Int32)), .unset, .unset, .unset, .unset] [(.int ((0 : Int32) + (1 : Int32)))])) _
    rw [show ((0 : Int32) + (1 : Int32)) = (1 : Int32) from by decide]
    show Steps p.tables e below (T10.setTop (mkF m 127 #[.val (.int x0), .val (.int x1), .val (.int x2), .val (.int x3), .val (.int H1), .val (.int H2), .val (.int H3), .val (.int (2 : Int32)), .val (.ref hs), .val (.int (1 : Int32)), .val (.int (1 : Int32)), .val (.int (1 : Int32)), .val (.ref ea), .val (.int (0 : Int32)), .unset, .unset, .unset, .unset] [(.int (1 : Int32))])) _
    refine XS.istore X10.here hx rfl (hb hby at_127) rfl (l' := #[.val (.int x0), .val (.int x1), .val (.int x2), .val (.int x3), .val (.int H1), .val (.int H2), .val (.int H3), .val (.int (2 : Int32)), .val (.ref hs), .val (.int (1 : Int32)), .val (.int (1 : Int32)), .val (.int (1 : Int32)), .val (.ref ea), .val (.int (1 : Int32)), .unset, .unset, .unset, .unset]) rfl ?_
    show Steps p.tables e below (T10.setTop (mkF m 129 #[.val (.int x0), .val (.int x1), .val (.int x2), .val (.int x3), .val (.int H1), .val (.int H2), .val (.int H3), .val (.int (2 : Int32)), .val (.ref hs), .val (.int (1 : Int32)), .val (.int (1 : Int32)), .val (.int (1 : Int32)), .val (.ref ea), .val (.int (1 : Int32)), .unset, .unset, .unset, .unset] [])) _
    refine XS.iload X10.here hx rfl (hb hby at_129) rfl ?_
    refine XS.iconst X10.here hx rfl (hb hby at_131) ?_
    refine XS.icmpNo X10.here hx rfl (hb hby at_132) rfl (flt (by decide : ¬ ((2 : Int32) < (2 : Int32)))).1 ?_
    refine XS.iload X10.here hx rfl (hb hby at_135) rfl ?_
    show Steps p.tables e below (T10.setTop (mkF m 137 #[.val (.int x0), .val (.int x1), .val (.int x2), .val (.int x3), .val (.int H1), .val (.int H2), .val (.int H3), .val (.int (2 : Int32)), .val (.ref hs), .val (.int (1 : Int32)), .val (.int (1 : Int32)), .val (.int (1 : Int32)), .val (.ref ea), .val (.int (1 : Int32)), .unset, .unset, .unset, .unset] [(.int H2)])) _
    refine XS.iload X10.here hx rfl (hb hby at_137) rfl ?_
    refine XS.icmpYes X10.here hx rfl (pc0 := 139) (pc' := 155) rfl (hb hby at_139) rfl (teq hq2).1 (by decide) (by decide) ?_
    refine XS.iload X10.here hx rfl (hb hby at_155) rfl ?_
    refine XS.iconst X10.here hx rfl (hb hby at_157) ?_
    show Steps p.tables e below (T10.setTop (mkF m 158 #[.val (.int x0), .val (.int x1), .val (.int x2), .val (.int x3), .val (.int H1), .val (.int H2), .val (.int H3), .val (.int (2 : Int32)), .val (.ref hs), .val (.int (1 : Int32)), .val (.int (1 : Int32)), .val (.int (1 : Int32)), .val (.ref ea), .val (.int (1 : Int32)), .unset, .unset, .unset, .unset] [(.int (3 : Int32)), (.int (2 : Int32))])) _
    refine XS.icmpYes X10.here hx rfl (pc0 := 158) (pc' := 181) rfl (hb hby at_158) rfl (tlt (by decide : (2 : Int32) < (3 : Int32))).1 (by decide) (by decide) ?_
    refine XS.aload X10.here hx rfl (hb hby at_181) rfl rfl ?_
    refine XS.iload X10.here hx rfl (hb hby at_183) rfl ?_
    refine st12.trans ?_
    show Steps p.tables e below (T12.setTop (mkF m 188 #[.val (.int x0), .val (.int x1), .val (.int x2), .val (.int x3), .val (.int H1), .val (.int H2), .val (.int H3), .val (.int (2 : Int32)), .val (.ref hs), .val (.int (1 : Int32)), .val (.int (1 : Int32)), .val (.int (1 : Int32)), .val (.ref ea), .val (.int (1 : Int32)), .unset, .unset, .unset, .unset] [(.ref g1)])) _
    refine XS.astore X12.here hx rfl (hb hby at_188) rfl rfl (l' := #[.val (.int x0), .val (.int x1), .val (.int x2), .val (.int x3), .val (.int H1), .val (.int H2), .val (.int H3), .val (.int (2 : Int32)), .val (.ref hs), .val (.int (1 : Int32)), .val (.int (1 : Int32)), .val (.int (1 : Int32)), .val (.ref ea), .val (.int (1 : Int32)), .val (.ref g1), .unset, .unset, .unset]) rfl ?_
    refine XS.aload X12.here hx rfl (hb hby at_190) rfl rfl ?_
    refine own_len X12 hx hZ rfl Vr12 (g := (mkF m 192 #[.val (.int x0), .val (.int x1), .val (.int x2), .val (.int x3), .val (.int H1), .val (.int H2), .val (.int H3), .val (.int (2 : Int32)), .val (.ref hs), .val (.int (1 : Int32)), .val (.int (1 : Int32)), .val (.int (1 : Int32)), .val (.ref ea), .val (.int (1 : Int32)), .val (.ref g1), .unset, .unset, .unset] [(.ref g1)])) rfl rfl (hb hby at_192) ?_
    refine XS.iload X12.here hx rfl (hb hby at_193) rfl ?_
    show Steps p.tables e below (T12.setTop (mkF m 195 #[.val (.int x0), .val (.int x1), .val (.int x2), .val (.int x3), .val (.int H1), .val (.int H2), .val (.int H3), .val (.int (2 : Int32)), .val (.ref hs), .val (.int (1 : Int32)), .val (.int (1 : Int32)), .val (.int (1 : Int32)), .val (.ref ea), .val (.int (1 : Int32)), .val (.ref g1), .unset, .unset, .unset] [(.int (1 : Int32)), (.int (1 : Int32))])) _
    refine XS.icmpNo X12.here hx rfl (hb hby at_195) rfl (teq (by decide : (1 : Int32) = (1 : Int32))).2 ?_
    refine XS.iconst X12.here hx rfl (hb hby at_198) ?_
    refine XS.goto X12.here hx rfl (pc0 := 199) (pc' := 203) rfl (hb hby at_199) (by decide) (by decide) ?_
    refine XS.istore X12.here hx rfl (hb hby at_203) rfl (l' := #[.val (.int x0), .val (.int x1), .val (.int x2), .val (.int x3), .val (.int H1), .val (.int H2), .val (.int H3), .val (.int (2 : Int32)), .val (.ref hs), .val (.int (1 : Int32)), .val (.int (1 : Int32)), .val (.int (1 : Int32)), .val (.ref ea), .val (.int (1 : Int32)), .val (.ref g1), .val (.int (1 : Int32)), .unset, .unset]) rfl ?_
    show Steps p.tables e below (T12.setTop (mkF m 205 #[.val (.int x0), .val (.int x1), .val (.int x2), .val (.int x3), .val (.int H1), .val (.int H2), .val (.int H3), .val (.int (2 : Int32)), .val (.ref hs), .val (.int (1 : Int32)), .val (.int (1 : Int32)), .val (.int (1 : Int32)), .val (.ref ea), .val (.int (1 : Int32)), .val (.ref g1), .val (.int (1 : Int32)), .unset, .unset] [])) _
    refine XS.iload X12.here hx rfl (hb hby at_205) rfl ?_
    refine XS.ifNo X12.here hx rfl (hb hby at_207) rfl ((if0 _ _).trans (feq (by decide : ¬ ((1 : Int32) = (0 : Int32)))).1) ?_
    refine XS.iload X12.here hx rfl (hb hby at_210) rfl ?_
    refine XS.iconst X12.here hx rfl (hb hby at_212) ?_
    show Steps p.tables e below (T12.setTop (mkF m 213 #[.val (.int x0), .val (.int x1), .val (.int x2), .val (.int x3), .val (.int H1), .val (.int H2), .val (.int H3), .val (.int (2 : Int32)), .val (.ref hs), .val (.int (1 : Int32)), .val (.int (1 : Int32)), .val (.int (1 : Int32)), .val (.ref ea), .val (.int (1 : Int32)), .val (.ref g1), .val (.int (1 : Int32)), .unset, .unset] [(.int (1 : Int32)), (.int (1 : Int32))])) _
    refine XS.icmpNo X12.here hx rfl (hb hby at_213) rfl (flt (by decide : ¬ ((1 : Int32) < (1 : Int32)))).1 ?_
    refine XS.aload X12.here hx rfl (hb hby at_216) rfl rfl ?_
    refine XS.iconst X12.here hx rfl (hb hby at_218) ?_
    refine own_ldI X12 hx hZ rfl Vr12 (j := (0 : Int32)) (w := H1) ⟨by decide, by decide⟩ rfl (g := (mkF m 219 #[.val (.int x0), .val (.int x1), .val (.int x2), .val (.int x3), .val (.int H1), .val (.int H2), .val (.int H3), .val (.int (2 : Int32)), .val (.ref hs), .val (.int (1 : Int32)), .val (.int (1 : Int32)), .val (.int (1 : Int32)), .val (.ref ea), .val (.int (1 : Int32)), .val (.ref g1), .val (.int (1 : Int32)), .unset, .unset] [(.int (0 : Int32)), (.ref g1)])) rfl rfl (hb hby at_219) ?_
    show Steps p.tables e below (T12.setTop (mkF m 220 #[.val (.int x0), .val (.int x1), .val (.int x2), .val (.int x3), .val (.int H1), .val (.int H2), .val (.int H3), .val (.int (2 : Int32)), .val (.ref hs), .val (.int (1 : Int32)), .val (.int (1 : Int32)), .val (.int (1 : Int32)), .val (.ref ea), .val (.int (1 : Int32)), .val (.ref g1), .val (.int (1 : Int32)), .unset, .unset] [(.int H1)])) _
    refine XS.aload X12.here hx rfl (hb hby at_220) rfl rfl ?_
    refine XS.iconst X12.here hx rfl (hb hby at_222) ?_
    refine own_ldI X12 hx hZ rfl V_ea_13 (j := (0 : Int32)) (w := H1) ⟨by decide, by decide⟩ rfl (g := (mkF m 223 #[.val (.int x0), .val (.int x1), .val (.int x2), .val (.int x3), .val (.int H1), .val (.int H2), .val (.int H3), .val (.int (2 : Int32)), .val (.ref hs), .val (.int (1 : Int32)), .val (.int (1 : Int32)), .val (.int (1 : Int32)), .val (.ref ea), .val (.int (1 : Int32)), .val (.ref g1), .val (.int (1 : Int32)), .unset, .unset] [(.int (0 : Int32)), (.ref ea), (.int H1)])) rfl rfl (hb hby at_223) ?_
    refine XS.icmpNo X12.here hx rfl (hb hby at_224) rfl (teq (rfl : H1 = H1)).2 ?_
    show Steps p.tables e below (T12.setTop (mkF m 227 #[.val (.int x0), .val (.int x1), .val (.int x2), .val (.int x3), .val (.int H1), .val (.int H2), .val (.int H3), .val (.int (2 : Int32)), .val (.ref hs), .val (.int (1 : Int32)), .val (.int (1 : Int32)), .val (.int (1 : Int32)), .val (.ref ea), .val (.int (1 : Int32)), .val (.ref g1), .val (.int (1 : Int32)), .unset, .unset] [])) _
    refine XS.iconst X12.here hx rfl (hb hby at_227) ?_
    refine XS.goto X12.here hx rfl (pc0 := 228) (pc' := 232) rfl (hb hby at_228) (by decide) (by decide) ?_
    refine XS.istore X12.here hx rfl (hb hby at_232) rfl (l' := #[.val (.int x0), .val (.int x1), .val (.int x2), .val (.int x3), .val (.int H1), .val (.int H2), .val (.int H3), .val (.int (2 : Int32)), .val (.ref hs), .val (.int (1 : Int32)), .val (.int (1 : Int32)), .val (.int (1 : Int32)), .val (.ref ea), .val (.int (1 : Int32)), .val (.ref g1), .val (.int (1 : Int32)), .unset, .unset]) rfl ?_
    refine XS.iload X12.here hx rfl (hb hby at_234) rfl ?_
    show Steps p.tables e below (T12.setTop (mkF m 236 #[.val (.int x0), .val (.int x1), .val (.int x2), .val (.int x3), .val (.int H1), .val (.int H2), .val (.int H3), .val (.int (2 : Int32)), .val (.ref hs), .val (.int (1 : Int32)), .val (.int (1 : Int32)), .val (.int (1 : Int32)), .val (.ref ea), .val (.int (1 : Int32)), .val (.ref g1), .val (.int (1 : Int32)), .unset, .unset] [(.int (1 : Int32))])) _
    refine XS.ifNo X12.here hx rfl (hb hby at_236) rfl ((if0 _ _).trans (feq (by decide : ¬ ((1 : Int32) = (0 : Int32)))).1) ?_
    refine XS.iload X12.here hx rfl (hb hby at_239) rfl ?_
    refine XS.iconst X12.here hx rfl (hb hby at_241) ?_
    refine XS.icmpYes X12.here hx rfl (pc0 := 242) (pc' := 263) rfl (hb hby at_242) rfl (tlt (by decide : (1 : Int32) < (2 : Int32))).1 (by decide) (by decide) ?_
    show Steps p.tables e below (T12.setTop (mkF m 263 #[.val (.int x0), .val (.int x1), .val (.int x2), .val (.int x3), .val (.int H1), .val (.int H2), .val (.int H3), .val (.int (2 : Int32)), .val (.ref hs), .val (.int (1 : Int32)), .val (.int (1 : Int32)), .val (.int (1 : Int32)), .val (.ref ea), .val (.int (1 : Int32)), .val (.ref g1), .val (.int (1 : Int32)), .unset, .unset] [])) _
    refine XS.iload X12.here hx rfl (hb hby at_263) rfl ?_
    refine XS.ifNo X12.here hx rfl (hb hby at_265) rfl ((if0 _ _).trans (feq (by decide : ¬ ((1 : Int32) = (0 : Int32)))).1) ?_
    refine XS.iload X12.here hx rfl (hb hby at_268) rfl ?_
    refine XS.iconst X12.here hx rfl (hb hby at_270) ?_
    show Steps p.tables e below (T12.setTop (mkF m 271 #[.val (.int x0), .val (.int x1), .val (.int x2), .val (.int x3), .val (.int H1), .val (.int H2), .val (.int H3), .val (.int (2 : Int32)), .val (.ref hs), .val (.int (1 : Int32)), .val (.int (1 : Int32)), .val (.int (1 : Int32)), .val (.ref ea), .val (.int (1 : Int32)), .val (.ref g1), .val (.int (1 : Int32)), .unset, .unset] [(.int (3 : Int32)), (.int (1 : Int32))])) _
    refine XS.icmpYes X12.here hx rfl (pc0 := 271) (pc' := 292) rfl (hb hby at_271) rfl (tlt (by decide : (1 : Int32) < (3 : Int32))).1 (by decide) (by decide) ?_
    refine XS.aload X12.here hx rfl (hb hby at_292) rfl rfl ?_
    refine XS.iload X12.here hx rfl (hb hby at_294) rfl ?_
    refine st14.trans ?_
    show Steps p.tables e below (T14.setTop (mkF m 299 #[.val (.int x0), .val (.int x1), .val (.int x2), .val (.int x3), .val (.int H1), .val (.int H2), .val (.int H3), .val (.int (2 : Int32)), .val (.ref hs), .val (.int (1 : Int32)), .val (.int (1 : Int32)), .val (.int (1 : Int32)), .val (.ref ea), .val (.int (1 : Int32)), .val (.ref g1), .val (.int (1 : Int32)), .unset, .unset] [(.ref g2)])) _
    refine XS.astore X14.here hx rfl (hb hby at_299) rfl rfl (l' := #[.val (.int x0), .val (.int x1), .val (.int x2), .val (.int x3), .val (.int H1), .val (.int H2), .val (.int H3), .val (.int (2 : Int32)), .val (.ref hs), .val (.int (1 : Int32)), .val (.int (1 : Int32)), .val (.int (1 : Int32)), .val (.ref ea), .val (.int (1 : Int32)), .val (.ref g1), .val (.int (1 : Int32)), .val (.ref g2), .unset]) rfl ?_
    refine XS.iload X14.here hx rfl (hb hby at_301) rfl ?_
    refine XS.iconst X14.here hx rfl (hb hby at_303) ?_
    refine XS.icmpNo X14.here hx rfl (hb hby at_304) rfl (flt (by decide : ¬ ((2 : Int32) < (1 : Int32)))).1 ?_
    show Steps p.tables e below (T14.setTop (mkF m 307 #[.val (.int x0), .val (.int x1), .val (.int x2), .val (.int x3), .val (.int H1), .val (.int H2), .val (.int H3), .val (.int (2 : Int32)), .val (.ref hs), .val (.int (1 : Int32)), .val (.int (1 : Int32)), .val (.int (1 : Int32)), .val (.ref ea), .val (.int (1 : Int32)), .val (.ref g1), .val (.int (1 : Int32)), .val (.ref g2), .unset] [])) _
    refine XS.iload X14.here hx rfl (hb hby at_307) rfl ?_
    refine XS.ifNo X14.here hx rfl (hb hby at_309) rfl ((if0 _ _).trans (feq (by decide : ¬ ((1 : Int32) = (0 : Int32)))).1) ?_
    refine XS.aload X14.here hx rfl (hb hby at_312) rfl rfl ?_
    refine own_len X14 hx hZ rfl Vr14 (g := (mkF m 314 #[.val (.int x0), .val (.int x1), .val (.int x2), .val (.int x3), .val (.int H1), .val (.int H2), .val (.int H3), .val (.int (2 : Int32)), .val (.ref hs), .val (.int (1 : Int32)), .val (.int (1 : Int32)), .val (.int (1 : Int32)), .val (.ref ea), .val (.int (1 : Int32)), .val (.ref g1), .val (.int (1 : Int32)), .val (.ref g2), .unset] [(.ref g2)])) rfl rfl (hb hby at_314) ?_
    show Steps p.tables e below (T14.setTop (mkF m 315 #[.val (.int x0), .val (.int x1), .val (.int x2), .val (.int x3), .val (.int H1), .val (.int H2), .val (.int H3), .val (.int (2 : Int32)), .val (.ref hs), .val (.int (1 : Int32)), .val (.int (1 : Int32)), .val (.int (1 : Int32)), .val (.ref ea), .val (.int (1 : Int32)), .val (.ref g1), .val (.int (1 : Int32)), .val (.ref g2), .unset] [(.int (1 : Int32))])) _
    refine XS.iconst X14.here hx rfl (hb hby at_315) ?_
    refine XS.icmpNo X14.here hx rfl (hb hby at_316) rfl (teq (by decide : (1 : Int32) = (1 : Int32))).2 ?_
    refine XS.aload X14.here hx rfl (hb hby at_319) rfl rfl ?_
    refine XS.iconst X14.here hx rfl (hb hby at_321) ?_
    show Steps p.tables e below (T14.setTop (mkF m 322 #[.val (.int x0), .val (.int x1), .val (.int x2), .val (.int x3), .val (.int H1), .val (.int H2), .val (.int H3), .val (.int (2 : Int32)), .val (.ref hs), .val (.int (1 : Int32)), .val (.int (1 : Int32)), .val (.int (1 : Int32)), .val (.ref ea), .val (.int (1 : Int32)), .val (.ref g1), .val (.int (1 : Int32)), .val (.ref g2), .unset] [(.int (0 : Int32)), (.ref g2)])) _
    refine own_ldI X14 hx hZ rfl Vr14 (j := (0 : Int32)) (w := H1) ⟨by decide, by decide⟩ rfl (g := (mkF m 322 #[.val (.int x0), .val (.int x1), .val (.int x2), .val (.int x3), .val (.int H1), .val (.int H2), .val (.int H3), .val (.int (2 : Int32)), .val (.ref hs), .val (.int (1 : Int32)), .val (.int (1 : Int32)), .val (.int (1 : Int32)), .val (.ref ea), .val (.int (1 : Int32)), .val (.ref g1), .val (.int (1 : Int32)), .val (.ref g2), .unset] [(.int (0 : Int32)), (.ref g2)])) rfl rfl (hb hby at_322) ?_
    refine XS.iload X14.here hx rfl (hb hby at_323) rfl ?_
    refine XS.icmpNo X14.here hx rfl (hb hby at_325) rfl (teq (rfl : H1 = H1)).2 ?_
    refine XS.iconst X14.here hx rfl (hb hby at_328) ?_
    show Steps p.tables e below (T14.setTop (mkF m 329 #[.val (.int x0), .val (.int x1), .val (.int x2), .val (.int x3), .val (.int H1), .val (.int H2), .val (.int H3), .val (.int (2 : Int32)), .val (.ref hs), .val (.int (1 : Int32)), .val (.int (1 : Int32)), .val (.int (1 : Int32)), .val (.ref ea), .val (.int (1 : Int32)), .val (.ref g1), .val (.int (1 : Int32)), .val (.ref g2), .unset] [(.int (1 : Int32))])) _
    refine XS.goto X14.here hx rfl (pc0 := 329) (pc' := 333) rfl (hb hby at_329) (by decide) (by decide) ?_
    refine XS.istore X14.here hx rfl (hb hby at_333) rfl (l' := #[.val (.int x0), .val (.int x1), .val (.int x2), .val (.int x3), .val (.int H1), .val (.int H2), .val (.int H3), .val (.int (2 : Int32)), .val (.ref hs), .val (.int (1 : Int32)), .val (.int (1 : Int32)), .val (.int (1 : Int32)), .val (.ref ea), .val (.int (1 : Int32)), .val (.ref g1), .val (.int (1 : Int32)), .val (.ref g2), .unset]) rfl ?_
    refine XS.goto X14.here hx rfl (pc0 := 335) (pc' := 356) rfl (hb hby at_335) (by decide) (by decide) ?_
    refine XS.aload X14.here hx rfl (hb hby at_356) rfl rfl ?_
    show Steps p.tables e below (T14.setTop (mkF m 358 #[.val (.int x0), .val (.int x1), .val (.int x2), .val (.int x3), .val (.int H1), .val (.int H2), .val (.int H3), .val (.int (2 : Int32)), .val (.ref hs), .val (.int (1 : Int32)), .val (.int (1 : Int32)), .val (.int (1 : Int32)), .val (.ref ea), .val (.int (1 : Int32)), .val (.ref g1), .val (.int (1 : Int32)), .val (.ref g2), .unset] [(.ref hs)])) _
    refine XS.iconst X14.here hx rfl (hb hby at_358) ?_
    refine st16.trans ?_
    show Steps p.tables e below (T16.setTop (mkF m 362 #[.val (.int x0), .val (.int x1), .val (.int x2), .val (.int x3), .val (.int H1), .val (.int H2), .val (.int H3), .val (.int (2 : Int32)), .val (.ref hs), .val (.int (1 : Int32)), .val (.int (1 : Int32)), .val (.int (1 : Int32)), .val (.ref ea), .val (.int (1 : Int32)), .val (.ref g1), .val (.int (1 : Int32)), .val (.ref g2), .unset] [(.ref g3)])) _
    refine XS.astore X16.here hx rfl (hb hby at_362) rfl rfl (l' := #[.val (.int x0), .val (.int x1), .val (.int x2), .val (.int x3), .val (.int H1), .val (.int H2), .val (.int H3), .val (.int (2 : Int32)), .val (.ref hs), .val (.int (1 : Int32)), .val (.int (1 : Int32)), .val (.int (1 : Int32)), .val (.ref ea), .val (.int (1 : Int32)), .val (.ref g1), .val (.int (1 : Int32)), .val (.ref g2), .val (.ref g3)]) rfl ?_
    refine XS.iload X16.here hx rfl (hb hby at_364) rfl ?_
    show Steps p.tables e below (T16.setTop (mkF m 366 #[.val (.int x0), .val (.int x1), .val (.int x2), .val (.int x3), .val (.int H1), .val (.int H2), .val (.int H3), .val (.int (2 : Int32)), .val (.ref hs), .val (.int (1 : Int32)), .val (.int (1 : Int32)), .val (.int (1 : Int32)), .val (.ref ea), .val (.int (1 : Int32)), .val (.ref g1), .val (.int (1 : Int32)), .val (.ref g2), .val (.ref g3)] [(.int (1 : Int32))])) _
    refine XS.ifNo X16.here hx rfl (hb hby at_366) rfl ((if0 _ _).trans (feq (by decide : ¬ ((1 : Int32) = (0 : Int32)))).1) ?_
    refine XS.aload X16.here hx rfl (hb hby at_369) rfl rfl ?_
    refine own_len X16 hx hZ rfl Vr16 (g := (mkF m 371 #[.val (.int x0), .val (.int x1), .val (.int x2), .val (.int x3), .val (.int H1), .val (.int H2), .val (.int H3), .val (.int (2 : Int32)), .val (.ref hs), .val (.int (1 : Int32)), .val (.int (1 : Int32)), .val (.int (1 : Int32)), .val (.ref ea), .val (.int (1 : Int32)), .val (.ref g1), .val (.int (1 : Int32)), .val (.ref g2), .val (.ref g3)] [(.ref g3)])) rfl rfl (hb hby at_371) ?_
    refine XS.ifNo X16.here hx rfl (hb hby at_372) rfl ((if0 _ _).trans (teq (by decide : (0 : Int32) = (0 : Int32))).2) ?_
    show Steps p.tables e below (T16.setTop (mkF m 375 #[.val (.int x0), .val (.int x1), .val (.int x2), .val (.int x3), .val (.int H1), .val (.int H2), .val (.int H3), .val (.int (2 : Int32)), .val (.ref hs), .val (.int (1 : Int32)), .val (.int (1 : Int32)), .val (.int (1 : Int32)), .val (.ref ea), .val (.int (1 : Int32)), .val (.ref g1), .val (.int (1 : Int32)), .val (.ref g2), .val (.ref g3)] [])) _
    refine XS.iconst X16.here hx rfl (hb hby at_375) ?_
    refine XS.goto X16.here hx rfl (pc0 := 376) (pc' := 380) rfl (hb hby at_376) (by decide) (by decide) ?_
    refine XS.istore X16.here hx rfl (hb hby at_380) rfl (l' := #[.val (.int x0), .val (.int x1), .val (.int x2), .val (.int x3), .val (.int H1), .val (.int H2), .val (.int H3), .val (.int (2 : Int32)), .val (.ref hs), .val (.int (1 : Int32)), .val (.int (1 : Int32)), .val (.int (1 : Int32)), .val (.ref ea), .val (.int (1 : Int32)), .val (.ref g1), .val (.int (1 : Int32)), .val (.ref g2), .val (.ref g3)]) rfl ?_
    refine XS.iload X16.here hx rfl (hb hby at_382) rfl ?_
    show Steps p.tables e below (T16.setTop (mkF m 384 #[.val (.int x0), .val (.int x1), .val (.int x2), .val (.int x3), .val (.int H1), .val (.int H2), .val (.int H3), .val (.int (2 : Int32)), .val (.ref hs), .val (.int (1 : Int32)), .val (.int (1 : Int32)), .val (.int (1 : Int32)), .val (.ref ea), .val (.int (1 : Int32)), .val (.ref g1), .val (.int (1 : Int32)), .val (.ref g2), .val (.ref g3)] [(.int (1 : Int32))])) _
    exact retN X16 hx (t := .boolean) Bd.returns (by simp) (hb hby at_384) hr
  · exact ⟨rfl, N16⟩
set_option maxRecDepth 65536 in
set_option maxHeartbeats 40000000 in
theorem rm0_2n (l : Launch) (Z : State) (a0 : Array Value) (hw : ∀ d ∈ tables_1, d.before a0 Z = true) (ws : List Jvm.Cond) (x0 : Int32) (x1 : Int32) (x2 : Int32) (x3 : Int32) (H1 H2 H3 : Int32) (h0 : Heap) (n0 : Nat) (Z0 : n0 ≤ h0.size) (eH1 : H1 = (x0 &&& (536870911 : Int32))) (eH2 : H2 = (H1 + (x1 &&& (536870911 : Int32)))) (eH3 : H3 = (H2 + (x2 &&& (1073741823 : Int32)))) (hn : (x3 &&& (3 : Int32)) = (2 : Int32)) (hq2 : ¬ (H2 = H1)) :
    MetFree l x (head1 (Jvm.Cond.code x code maxLocals ret :: ws) room_1) (fun a U => a = #[(.int x0), (.int x1), (.int x2), (.int x3)] ∧ Z.Warmed39 U.vm ∧ U.heap = h0) (fun _ _ _ _ _ => True) (fun _ U o U' => ∃ v L, o = .returned v ∧ (QL n0 v U'.heap L) ∧ FrameEnd U o U' L room_1.cells room_1.slots) := by
  refine MetFree.of_bodySF (plainFor_of_name pn_0) hisR ?_
  intro p e s m args below meth c s₁ Bd hml0 hP hK
  obtain ⟨rfl, hZ, hh⟩ := hP
  have hx := Bd.exec
  have hby := Bd.bytes
  have hml : c.maxLocals = 18 := hml0
  have hown : s.vm.findClass "com/example/rootline/rootline/reach/HolderSetsHoldersPinLaw" = some m.cls := findClass_of_methodNamed Bd.named
  have hnm := (name_of_methodNamed Bd.named Bd.method).1
  have X0 : Stand p l e room_1 s m #[(.int x0), (.int x1), (.int x2), (.int x3)] below meth c s₁ [] 0 0 := Stand.of_body Bd
  have e0 : s₁.heap = h0 := by rw [← hh, Bd.state]; rfl
  have N0 := Fr.nil n0
  have pre0 : ∀ t, Steps p.tables e below (s₁.setTop (mkF m 0 #[.val (.int x0), .val (.int x1), .val (.int x2), .val (.int x3), .unset, .unset, .unset, .unset, .unset, .unset, .unset, .unset, .unset, .unset, .unset, .unset, .unset, .unset] [])) t → Steps p.tables e below (s₁.setTop (entryFrame m #[(.int x0), (.int x1), (.int x2), (.int x3)] maxLocals)) t := fun t k => castTop (ef_0 m x0 x1 x2 x3) k
  have c0 : (0 : Int32).toInt = 0 := rfl
  have cm1 : (-1 : Int32).toInt = -1 := rfl
  have m1 := c_mask x0 (536870911 : Int32) 29 (by decide) (by decide)
  have m2 := c_mask x1 (536870911 : Int32) 29 (by decide) (by decide)
  have m3 := c_mask x2 (1073741823 : Int32) 30 (by decide) (by decide)
  rw [show ((2 ^ 29 : Nat) : Int) = 536870912 from rfl] at m1 m2
  rw [show ((2 ^ 30 : Nat) : Int) = 1073741824 from rfl] at m3
  have a2 := c_iadd H1 (x1 &&& (536870911 : Int32))
  have a3 := c_iadd H2 (x2 &&& (1073741823 : Int32))
  rw [← eH2] at a2
  rw [← eH3] at a3
  rw [← eH1] at m1
  have r2 := rng32 H2
  have r3 := rng32 H3
  have hH1 : 0 ≤ H1.toInt := by omega
  have hH1n := hH1
  have hH2n : 0 ≤ H2.toInt := by omega
  have hH3n : 0 ≤ H3.toInt := by omega
  have le12 : H1.toInt ≤ H2.toInt := by omega
  have le23 : H2.toInt ≤ H3.toInt := by omega
  have hneH1 : ¬ (H1 = (-1 : Int32)) := by rw [← Int32.toInt_inj]; omega
  have hgeH1 : ¬ (H1 < (-1 : Int32)) := by rw [Int32.lt_iff_toInt_lt]; omega
  have hneH2 : ¬ (H2 = H1) := hq2
  have hgeH2 : ¬ (H2 < H1) := by rw [Int32.lt_iff_toInt_lt]; omega
  obtain ⟨T1, h1, X1, e1, E1, A1, D1, -, st1⟩ := newO X0 hx hZ hown (hw _ (List.mem_of_getElem? (i := 2) rfl)) (hw _ (List.mem_of_getElem? (i := 3) rfl)) (hw _ (List.mem_of_getElem? (i := 4) rfl)) e0 (g := (mkF m 29 #[.val (.int x0), .val (.int x1), .val (.int x2), .val (.int x3), .val (.int H1), .val (.int H2), .val (.int H3), .val (.int (2 : Int32)), .unset, .unset, .unset, .unset, .unset, .unset, .unset, .unset, .unset, .unset] [])) rfl (hb hby at_29) (by decide) (by decide)
  obtain ⟨hs, g1⟩ : ∃ z, z = h0.size := ⟨_, rfl⟩
  rw [← g1] at A1 D1 st1
  have E_hs_1 : Exa Z h1 hs "com/example/rootline/rootline/reach/HolderSets" := A1
  have F_rest_hs_1 : Fld Z h1 hs sH "rest" "[I" .null := D1 (Or.inl (hw _ (List.mem_of_getElem? (i := 13) rfl))) (ty := (.array .int)) (by decide)
  have F_highest_hs_1 : Fld Z h1 hs sH "highest" "[I" .null := D1 (Or.inl (hw _ (List.mem_of_getElem? (i := 15) rfl))) (ty := (.array .int)) (by decide)
  have F_sizes_hs_1 : Fld Z h1 hs sH "sizes" "[I" .null := D1 (Or.inl (hw _ (List.mem_of_getElem? (i := 17) rfl))) (ty := (.array .int)) (by decide)
  have F_count_hs_1 : Fld Z h1 hs sH "count" "I" (.int (0 : Int32)) := D1 (Or.inl (hw _ (List.mem_of_getElem? (i := 19) rfl))) (ty := .int) (by decide)
  have F_withOne_hs_1 : Fld Z h1 hs sH "withOne" "Lcom/example/rootline/rootline/heap/LongIntTable;" .null := D1 (Or.inr (hw _ (List.mem_of_getElem? (i := 40) rfl))) (ty := (.object "com/example/rootline/rootline/heap/LongIntTable")) (by decide)
  have F_unions_hs_1 : Fld Z h1 hs sH "unions" "Lcom/example/rootline/rootline/heap/LongIntTable;" .null := D1 (Or.inr (hw _ (List.mem_of_getElem? (i := 42) rfl))) (ty := (.object "com/example/rootline/rootline/heap/LongIntTable")) (by decide)
  have F_left_hs_1 : Fld Z h1 hs sH "left" "[I" .null := D1 (Or.inl (hw _ (List.mem_of_getElem? (i := 44) rfl))) (ty := (.array .int)) (by decide)
  have F_right_hs_1 : Fld Z h1 hs sH "right" "[I" .null := D1 (Or.inl (hw _ (List.mem_of_getElem? (i := 46) rfl))) (ty := (.array .int)) (by decide)
  have F_merged_hs_1 : Fld Z h1 hs sH "merged" "[I" .null := D1 (Or.inl (hw _ (List.mem_of_getElem? (i := 48) rfl))) (ty := (.array .int)) (by decide)
  have g_hs : n0 ≤ hs := Nat.le_trans Z0 (Nat.le_of_eq g1.symm)
  have siz_2 := Nat.le_trans Z0 E1.1
  obtain ⟨_, _, ⟨T3, L3, k3, n3⟩, -, X3, ⟨Lc3, hQ3, l3, y3, z3⟩, st3⟩ := X1.specialBack hx (y := (⟨"com/example/rootline/rootline/reach/HolderSets", "<init>", "()V"⟩ : MethodName)) rfl hown (mvT hZ (hw _ (List.mem_of_getElem? (i := 5) rfl))) (mvT hZ (hw _ (List.mem_of_getElem? (i := 6) rfl))) (mvT hZ (hw _ (List.mem_of_getElem? (i := 7) rfl))) (by decide) (backOf (W := 1) (rm1 l Z a0 hw [] hs h1 n0 siz_2 E_hs_1 F_rest_hs_1 F_highest_hs_1 F_sizes_hs_1 F_count_hs_1 F_withOne_hs_1 F_unions_hs_1 F_left_hs_1 F_right_hs_1 F_merged_hs_1 g_hs) hZ (hw _ (List.mem_of_getElem? (i := 7) rfl)) (hw _ (List.mem_of_getElem? (i := 4) rfl)) (by decide) (by decide)) (g := (mkF m 33 #[.val (.int x0), .val (.int x1), .val (.int x2), .val (.int x3), .val (.int H1), .val (.int H2), .val (.int H3), .val (.int (2 : Int32)), .unset, .unset, .unset, .unset, .unset, .unset, .unset, .unset, .unset, .unset] [(.ref hs), (.ref hs)])) rfl (by rw [hml]; rfl) (Steps.refl _) (a := hs) (argsL := []) (rest := [(.ref hs)]) (lenOf pd___V rfl) rfl (by show 2 * 0 + _ ≤ _; exact Nat.le_of_eq rfl) (hb hby at_33) (fun _ _ => ⟨rfl, e1, (by decide : 1 + 12 ≤ _), (by decide : 9 + 358 ≤ _)⟩)
  dsimp only [Pt.U, Pt.locs, Pt.cells, Pt.slots] at X3 l3 y3 z3 st3 hQ3
  subst l3 y3 z3
  obtain ⟨rfl, N3q, K3, ra, ha, sa, t, ka, va, kr, kh, ks, Kf, Vf, HSi, hVf⟩ := hQ3
  have siz_4 := Nat.le_trans siz_2 K3.1
  have E_hs : Exa Z T3.heap hs "com/example/rootline/rootline/reach/HolderSets" := HSi.2.1
  have N3 := Fr.app N0 N3q
  obtain ⟨cq5, kq5, q5a, q5b, q5c⟩ := isOf hZ rfl E_hs
  obtain ⟨_, _, ⟨T5, L5, k5, n5⟩, -, X5, ⟨Lc5, hQ5, l5, y5, z5⟩, st5⟩ := X3.virtualBack hx (y := (⟨"com/example/rootline/rootline/reach/HolderSets", "with", "(II)I"⟩ : MethodName)) (z := (⟨"com/example/rootline/rootline/reach/HolderSets", "with", "(II)I"⟩ : MethodName)) hown (mvT hZ (hw _ (List.mem_of_getElem? (i := 49) rfl))) (mvT hZ (hw _ (List.mem_of_getElem? (i := 50) rfl))) (notFace_of_selects (args := #[]) (mvT hZ (hw _ (List.mem_of_getElem? (i := 52) rfl)))) (mvT hZ (hw _ (List.mem_of_getElem? (i := 52) rfl))) (mvT hZ (hw _ (List.mem_of_getElem? (i := 51) rfl))) (by decide) (backOf (W := 0) (rmw_0 l Z a0 hw [] hs H1 ra ha sa t ka va kr kh ks Kf Vf  T3.heap n0 siz_4 HSi g_hs (fun i hi => own_emp Vf 0 0 (fun j hj q => absurd (hVf j hj) q) i hi) (fun j hj q => absurd (hVf j hj) q) hneH1 hgeH1) hZ (hw _ (List.mem_of_getElem? (i := 53) rfl)) (hw _ (List.mem_of_getElem? (i := 4) rfl)) (by decide) (by decide)) q5a q5c (g := (mkF m 49 #[.val (.int x0), .val (.int x1), .val (.int x2), .val (.int x3), .val (.int H1), .val (.int H2), .val (.int H3), .val (.int (2 : Int32)), .val (.ref hs), .unset, .unset, .unset, .unset, .unset, .unset, .unset, .unset, .unset] [(.int H1), (.int (0 : Int32)), (.ref hs)])) rfl (by rw [hml]; rfl) (Steps.refl _) (argsL := [(.int (0 : Int32)), (.int H1)]) (rest := []) (lenOf pd__II_I rfl) rfl (by show 2 * 0 + _ ≤ _; exact Nat.le_of_eq rfl) (hb hby at_49) (fun _ _ => ⟨rfl, rfl, (by decide : 13 + 0 ≤ _), (by decide : 367 + 0 ≤ _)⟩)
  dsimp only [Pt.U, Pt.locs, Pt.cells, Pt.slots] at X5 l5 y5 z5 st5 hQ5
  subst l5 y5 z5
  obtain ⟨rfl, N5q, K5, p1, hp1, hV1, HS5⟩ := hQ5
  have siz_6 := Nat.le_trans siz_4 K5.1
  have E_hs_6 := E_hs.keep K5
  have occ1 := own_occ1 Kf Vf p1 (1 : Int32) (own_pair (0 : Int32) H1) hVf
  have HSn5 : HSS Z T5.heap hs ra ha sa t ka va kr kh ks (2 : Int32) [(.int (-1 : Int32)), (.int (0 : Int32)), (.int (0 : Int32)), (.int (0 : Int32)), (.int (0 : Int32)), (.int (0 : Int32)), (.int (0 : Int32)), (.int (0 : Int32)), (.int (0 : Int32)), (.int (0 : Int32)), (.int (0 : Int32)), (.int (0 : Int32)), (.int (0 : Int32)), (.int (0 : Int32)), (.int (0 : Int32)), (.int (0 : Int32))] [(.int (-1 : Int32)), (.int H1), (.int (0 : Int32)), (.int (0 : Int32)), (.int (0 : Int32)), (.int (0 : Int32)), (.int (0 : Int32)), (.int (0 : Int32)), (.int (0 : Int32)), (.int (0 : Int32)), (.int (0 : Int32)), (.int (0 : Int32)), (.int (0 : Int32)), (.int (0 : Int32)), (.int (0 : Int32)), (.int (0 : Int32))] [(.int (0 : Int32)), (.int (1 : Int32)), (.int (0 : Int32)), (.int (0 : Int32)), (.int (0 : Int32)), (.int (0 : Int32)), (.int (0 : Int32)), (.int (0 : Int32)), (.int (0 : Int32)), (.int (0 : Int32)), (.int (0 : Int32)), (.int (0 : Int32)), (.int (0 : Int32)), (.int (0 : Int32)), (.int (0 : Int32)), (.int (0 : Int32))] (1 : Int32) (upd Kf p1 (own_pair (0 : Int32) H1)) (upd Vf p1 (1 : Int32)) := HS5
  have N5 := Fr.app N3 N5q
  obtain ⟨cq7, kq7, q7a, q7b, q7c⟩ := isOf hZ rfl E_hs_6
  obtain ⟨_, _, ⟨T7, L7, k7, n7⟩, -, X7, ⟨Lc7, hQ7, l7, y7, z7⟩, st7⟩ := X5.virtualBack hx (y := (⟨"com/example/rootline/rootline/reach/HolderSets", "with", "(II)I"⟩ : MethodName)) (z := (⟨"com/example/rootline/rootline/reach/HolderSets", "with", "(II)I"⟩ : MethodName)) hown (mvT hZ (hw _ (List.mem_of_getElem? (i := 49) rfl))) (mvT hZ (hw _ (List.mem_of_getElem? (i := 50) rfl))) (notFace_of_selects (args := #[]) (mvT hZ (hw _ (List.mem_of_getElem? (i := 52) rfl)))) (mvT hZ (hw _ (List.mem_of_getElem? (i := 52) rfl))) (mvT hZ (hw _ (List.mem_of_getElem? (i := 51) rfl))) (by decide) (backOf (W := 0) (rmw_1 l Z a0 hw [] hs H2 ra ha sa t ka va kr kh ks (upd Kf p1 (own_pair (0 : Int32) H1)) (upd Vf p1 (1 : Int32)) H1 T5.heap n0 siz_6 HSn5 g_hs (fun i hi => own_emp _ p1 p1 (fun j hj q => Or.inl (occ1 j hj q).1) i hi) (fun j hj q z => own_pair_ne _ _ _ _ (by decide) hH1 (by decide) hH2n (by decide) ((occ1 j hj q).2.symm.trans z)) hneH2 hgeH2) hZ (hw _ (List.mem_of_getElem? (i := 53) rfl)) (hw _ (List.mem_of_getElem? (i := 4) rfl)) (by decide) (by decide)) q7a q7c (g := (mkF m 70 #[.val (.int x0), .val (.int x1), .val (.int x2), .val (.int x3), .val (.int H1), .val (.int H2), .val (.int H3), .val (.int (2 : Int32)), .val (.ref hs), .val (.int (1 : Int32)), .unset, .unset, .unset, .unset, .unset, .unset, .unset, .unset] [(.int H2), (.int (1 : Int32)), (.ref hs)])) rfl (by rw [hml]; rfl) (Steps.refl _) (argsL := [(.int (1 : Int32)), (.int H2)]) (rest := []) (lenOf pd__II_I rfl) rfl (by show 2 * 0 + _ ≤ _; exact Nat.le_of_eq rfl) (hb hby at_70) (fun _ _ => ⟨rfl, rfl, (by decide : 13 + 0 ≤ _), (by decide : 367 + 0 ≤ _)⟩)
  dsimp only [Pt.U, Pt.locs, Pt.cells, Pt.slots] at X7 l7 y7 z7 st7 hQ7
  subst l7 y7 z7
  obtain ⟨rfl, N7q, K7, p2, hp2, hV2, HS7⟩ := hQ7
  have siz_8 := Nat.le_trans siz_6 K7.1
  have E_hs_8 := E_hs_6.keep K7
  have occ2 := own_occ2 _ _ p1 p2 (2 : Int32) _ (own_pair (1 : Int32) H2) occ1
  have HSn7 : HSS Z T7.heap hs ra ha sa t ka va kr kh ks (3 : Int32) [(.int (-1 : Int32)), (.int (0 : Int32)), (.int (1 : Int32)), (.int (0 : Int32)), (.int (0 : Int32)), (.int (0 : Int32)), (.int (0 : Int32)), (.int (0 : Int32)), (.int (0 : Int32)), (.int (0 : Int32)), (.int (0 : Int32)), (.int (0 : Int32)), (.int (0 : Int32)), (.int (0 : Int32)), (.int (0 : Int32)), (.int (0 : Int32))] [(.int (-1 : Int32)), (.int H1), (.int H2), (.int (0 : Int32)), (.int (0 : Int32)), (.int (0 : Int32)), (.int (0 : Int32)), (.int (0 : Int32)), (.int (0 : Int32)), (.int (0 : Int32)), (.int (0 : Int32)), (.int (0 : Int32)), (.int (0 : Int32)), (.int (0 : Int32)), (.int (0 : Int32)), (.int (0 : Int32))] [(.int (0 : Int32)), (.int (1 : Int32)), (.int (2 : Int32)), (.int (0 : Int32)), (.int (0 : Int32)), (.int (0 : Int32)), (.int (0 : Int32)), (.int (0 : Int32)), (.int (0 : Int32)), (.int (0 : Int32)), (.int (0 : Int32)), (.int (0 : Int32)), (.int (0 : Int32)), (.int (0 : Int32)), (.int (0 : Int32)), (.int (0 : Int32))] (2 : Int32) (upd (upd Kf p1 (own_pair (0 : Int32) H1)) p2 (own_pair (1 : Int32) H2)) (upd (upd Vf p1 (1 : Int32)) p2 (2 : Int32)) := HS7
  have N7 := Fr.app N5 N7q
  obtain ⟨T9, h9, k9, X9, e9, E9, A9, st9⟩ := newP X7 hx hZ (hw _ (List.mem_of_getElem? (i := 11) rfl)) rfl (g := (mkF m 103 #[.val (.int x0), .val (.int x1), .val (.int x2), .val (.int x3), .val (.int H1), .val (.int H2), .val (.int H3), .val (.int (2 : Int32)), .val (.ref hs), .val (.int (1 : Int32)), .val (.int (2 : Int32)), .val (.int (2 : Int32)), .unset, .unset, .unset, .unset, .unset, .unset] [(.int (3 : Int32))])) rfl (hb hby at_103) rfl (by decide) (cap := 3) (by decide) (by decide) (by decide) (by decide)
  obtain ⟨ea, g9⟩ : ∃ z, z = T7.heap.size := ⟨_, rfl⟩
  rw [← g9] at A9 st9
  have V_ea_9 : Arv Z h9 ea k9 .int (3 : Int32) [(.int (0 : Int32)), (.int (0 : Int32)), (.int (0 : Int32))] (.int (0 : Int32)) := (Arv.new A9 (by decide)).pad (pad_rep [] (.int (0 : Int32)) 3)
  have lt_hs_ea : hs < ea := Nat.lt_of_lt_of_le E_hs_8.lt (Nat.le_of_eq g9.symm)
  have lt_va_ea : va < ea := Nat.lt_of_lt_of_le HSn7.lt (Nat.le_of_eq g9.symm)
  have g_ea : n0 ≤ ea := Nat.le_trans siz_8 (Nat.le_of_eq g9.symm)
  have siz_10 := Nat.le_trans siz_8 E9.1
  have E_hs_10 := E_hs_8.ext E9
  have HS_10 := HSn7.ext E9
  obtain ⟨T11, h11, L11, X11, e11, N11, W11, V11, st11⟩ := own_stI X9 hx hZ e9 V_ea_9 (j := (0 : Int32)) ⟨by decide, by decide⟩ (i := 0) rfl (Nat.le_of_ble_eq_true rfl) N7 g_ea (g := (mkF m 122 #[.val (.int x0), .val (.int x1), .val (.int x2), .val (.int x3), .val (.int H1), .val (.int H2), .val (.int H3), .val (.int (2 : Int32)), .val (.ref hs), .val (.int (1 : Int32)), .val (.int (2 : Int32)), .val (.int (2 : Int32)), .val (.ref ea), .val (.int (0 : Int32)), .unset, .unset, .unset, .unset] [(.int H1), (.int (0 : Int32)), (.ref ea)])) rfl rfl (hb hby at_122)
  have siz_12 := Nat.le_trans siz_10 (Keep.of_wr W11).1
  have E_hs_12 := E_hs_10.wr W11
  have HS_12 := HS_10.wr W11 lt_va_ea
  have V_ea_11 : Arv Z h11 ea k9 .int (3 : Int32) [(.int H1), (.int (0 : Int32)), (.int (0 : Int32))] (.int (0 : Int32)) := V11
  obtain ⟨T13, h13, L13, X13, e13, N13, W13, V13, st13⟩ := own_stI X11 hx hZ e11 V_ea_11 (j := (1 : Int32)) ⟨by decide, by decide⟩ (i := 1) rfl (Nat.le_of_ble_eq_true rfl) N11 g_ea (g := (mkF m 148 #[.val (.int x0), .val (.int x1), .val (.int x2), .val (.int x3), .val (.int H1), .val (.int H2), .val (.int H3), .val (.int (2 : Int32)), .val (.ref hs), .val (.int (1 : Int32)), .val (.int (2 : Int32)), .val (.int (2 : Int32)), .val (.ref ea), .val (.int (1 : Int32)), .unset, .unset, .unset, .unset] [(.int H2), (.int (1 : Int32)), (.ref ea)])) rfl rfl (hb hby at_148)
  have siz_14 := Nat.le_trans siz_12 (Keep.of_wr W13).1
  have E_hs_14 := E_hs_12.wr W13
  have HS_14 := HS_12.wr W13 lt_va_ea
  have V_ea_13 : Arv Z h13 ea k9 .int (3 : Int32) [(.int H1), (.int H2), (.int (0 : Int32))] (.int (0 : Int32)) := V13
  obtain ⟨cq15, kq15, q15a, q15b, q15c⟩ := isOf hZ e13 E_hs_14
  obtain ⟨_, _, ⟨T15, L15, k15, n15⟩, -, X15, ⟨Lc15, hQ15, l15, y15, z15⟩, st15⟩ := X13.virtualBack hx (y := (⟨"com/example/rootline/rootline/reach/HolderSets", "holders", "(I)[I"⟩ : MethodName)) (z := (⟨"com/example/rootline/rootline/reach/HolderSets", "holders", "(I)[I"⟩ : MethodName)) hown (mvT hZ (hw _ (List.mem_of_getElem? (i := 76) rfl))) (mvT hZ (hw _ (List.mem_of_getElem? (i := 77) rfl))) (notFace_of_selects (args := #[]) (mvT hZ (hw _ (List.mem_of_getElem? (i := 79) rfl)))) (mvT hZ (hw _ (List.mem_of_getElem? (i := 79) rfl))) (mvT hZ (hw _ (List.mem_of_getElem? (i := 78) rfl))) (by decide) (backOf (W := 0) (rmh_2_2 l Z a0 hw [] hs ra ha sa t ka va kr kh ks (upd (upd Kf p1 (own_pair (0 : Int32) H1)) p2 (own_pair (1 : Int32) H2)) (upd (upd Vf p1 (1 : Int32)) p2 (2 : Int32)) H1 H2 h13 n0 siz_14 HS_14) hZ (hw _ (List.mem_of_getElem? (i := 80) rfl)) (hw _ (List.mem_of_getElem? (i := 4) rfl)) (by decide) (by decide)) q15a q15c (g := (mkF m 185 #[.val (.int x0), .val (.int x1), .val (.int x2), .val (.int x3), .val (.int H1), .val (.int H2), .val (.int H3), .val (.int (2 : Int32)), .val (.ref hs), .val (.int (1 : Int32)), .val (.int (2 : Int32)), .val (.int (2 : Int32)), .val (.ref ea), .val (.int (2 : Int32)), .unset, .unset, .unset, .unset] [(.int (2 : Int32)), (.ref hs)])) rfl (by rw [hml]; rfl) (Steps.refl _) (argsL := [(.int (2 : Int32))]) (rest := []) (lenOf pd__I__I rfl) rfl (by show 2 * 0 + _ ≤ _; exact Nat.le_of_eq rfl) (hb hby at_185) (fun _ _ => ⟨rfl, e13, (by decide : 14 + 1 ≤ _), (by decide : 370 + 2 ≤ _)⟩)
  dsimp only [Pt.U, Pt.locs, Pt.cells, Pt.slots] at X15 l15 y15 z15 st15 hQ15
  subst l15 y15 z15
  obtain ⟨g1, kg1, rfl, N15q, K15, sr15, Vr15⟩ := hQ15
  have siz_16 := Nat.le_trans siz_14 K15.1
  have E_hs_16 := E_hs_14.keep K15
  have HS_16 := HS_14.keep K15
  have V_ea_16 := V_ea_13.keep K15 nin0
  have N15 := Fr.app N13 N15q
  obtain ⟨cq17, kq17, q17a, q17b, q17c⟩ := isOf hZ rfl E_hs_16
  obtain ⟨_, _, ⟨T17, L17, k17, n17⟩, -, X17, ⟨Lc17, hQ17, l17, y17, z17⟩, st17⟩ := X15.virtualBack hx (y := (⟨"com/example/rootline/rootline/reach/HolderSets", "holders", "(I)[I"⟩ : MethodName)) (z := (⟨"com/example/rootline/rootline/reach/HolderSets", "holders", "(I)[I"⟩ : MethodName)) hown (mvT hZ (hw _ (List.mem_of_getElem? (i := 76) rfl))) (mvT hZ (hw _ (List.mem_of_getElem? (i := 77) rfl))) (notFace_of_selects (args := #[]) (mvT hZ (hw _ (List.mem_of_getElem? (i := 79) rfl)))) (mvT hZ (hw _ (List.mem_of_getElem? (i := 79) rfl))) (mvT hZ (hw _ (List.mem_of_getElem? (i := 78) rfl))) (by decide) (backOf (W := 0) (rmh_2_1 l Z a0 hw [] hs ra ha sa t ka va kr kh ks (upd (upd Kf p1 (own_pair (0 : Int32) H1)) p2 (own_pair (1 : Int32) H2)) (upd (upd Vf p1 (1 : Int32)) p2 (2 : Int32)) H1 H2 T15.heap n0 siz_16 HS_16) hZ (hw _ (List.mem_of_getElem? (i := 80) rfl)) (hw _ (List.mem_of_getElem? (i := 4) rfl)) (by decide) (by decide)) q17a q17c (g := (mkF m 296 #[.val (.int x0), .val (.int x1), .val (.int x2), .val (.int x3), .val (.int H1), .val (.int H2), .val (.int H3), .val (.int (2 : Int32)), .val (.ref hs), .val (.int (1 : Int32)), .val (.int (2 : Int32)), .val (.int (2 : Int32)), .val (.ref ea), .val (.int (2 : Int32)), .val (.ref g1), .val (.int (1 : Int32)), .unset, .unset] [(.int (1 : Int32)), (.ref hs)])) rfl (by rw [hml]; rfl) (Steps.refl _) (argsL := [(.int (1 : Int32))]) (rest := []) (lenOf pd__I__I rfl) rfl (by show 2 * 0 + _ ≤ _; exact Nat.le_of_eq rfl) (hb hby at_296) (fun _ _ => ⟨rfl, rfl, (by decide : 15 + 1 ≤ _), (by decide : 372 + 1 ≤ _)⟩)
  dsimp only [Pt.U, Pt.locs, Pt.cells, Pt.slots] at X17 l17 y17 z17 st17 hQ17
  subst l17 y17 z17
  obtain ⟨g2, kg2, rfl, N17q, K17, sr17, Vr17⟩ := hQ17
  have siz_18 := Nat.le_trans siz_16 K17.1
  have E_hs_18 := E_hs_16.keep K17
  have HS_18 := HS_16.keep K17
  have V_ea_18 := V_ea_16.keep K17 nin0
  have V_g1_18 := Vr15.keep K17 nin0
  have N17 := Fr.app N15 N17q
  obtain ⟨cq19, kq19, q19a, q19b, q19c⟩ := isOf hZ rfl E_hs_18
  obtain ⟨_, _, ⟨T19, L19, k19, n19⟩, -, X19, ⟨Lc19, hQ19, l19, y19, z19⟩, st19⟩ := X17.virtualBack hx (y := (⟨"com/example/rootline/rootline/reach/HolderSets", "holders", "(I)[I"⟩ : MethodName)) (z := (⟨"com/example/rootline/rootline/reach/HolderSets", "holders", "(I)[I"⟩ : MethodName)) hown (mvT hZ (hw _ (List.mem_of_getElem? (i := 76) rfl))) (mvT hZ (hw _ (List.mem_of_getElem? (i := 77) rfl))) (notFace_of_selects (args := #[]) (mvT hZ (hw _ (List.mem_of_getElem? (i := 79) rfl)))) (mvT hZ (hw _ (List.mem_of_getElem? (i := 79) rfl))) (mvT hZ (hw _ (List.mem_of_getElem? (i := 78) rfl))) (by decide) (backOf (W := 0) (rmh_2_0 l Z a0 hw [] hs ra ha sa t ka va kr kh ks (upd (upd Kf p1 (own_pair (0 : Int32) H1)) p2 (own_pair (1 : Int32) H2)) (upd (upd Vf p1 (1 : Int32)) p2 (2 : Int32)) H1 H2 T17.heap n0 siz_18 HS_18) hZ (hw _ (List.mem_of_getElem? (i := 80) rfl)) (hw _ (List.mem_of_getElem? (i := 4) rfl)) (by decide) (by decide)) q19a q19c (g := (mkF m 359 #[.val (.int x0), .val (.int x1), .val (.int x2), .val (.int x3), .val (.int H1), .val (.int H2), .val (.int H3), .val (.int (2 : Int32)), .val (.ref hs), .val (.int (1 : Int32)), .val (.int (2 : Int32)), .val (.int (2 : Int32)), .val (.ref ea), .val (.int (2 : Int32)), .val (.ref g1), .val (.int (1 : Int32)), .val (.ref g2), .unset] [(.int (0 : Int32)), (.ref hs)])) rfl (by rw [hml]; rfl) (Steps.refl _) (argsL := [(.int (0 : Int32))]) (rest := []) (lenOf pd__I__I rfl) rfl (by show 2 * 0 + _ ≤ _; exact Nat.le_of_eq rfl) (hb hby at_359) (fun _ _ => ⟨rfl, rfl, (by decide : 16 + 1 ≤ _), (by decide : 373 + 0 ≤ _)⟩)
  dsimp only [Pt.U, Pt.locs, Pt.cells, Pt.slots] at X19 l19 y19 z19 st19 hQ19
  subst l19 y19 z19
  obtain ⟨g3, kg3, rfl, N19q, K19, sr19, Vr19⟩ := hQ19
  have siz_20 := Nat.le_trans siz_18 K19.1
  have E_hs_20 := E_hs_18.keep K19
  have HS_20 := HS_18.keep K19
  have V_ea_20 := V_ea_18.keep K19 nin0
  have V_g1_20 := V_g1_18.keep K19 nin0
  have V_g2_20 := Vr17.keep K19 nin0
  have N19 := Fr.app N17 N19q
  obtain ⟨fs, hr, hrun, hended, hW, hsame⟩ := X19.leave (v := some (.int (1 : Int32))) (fun h => by rw [Bd.returns] at h; cases h)
  refine ⟨_, _, pre0 _ ?_, hrun, hended, _, _, rfl, ?_, ⟨_, rfl⟩, hW, hsame.mono (by decide) (by decide)⟩
  · show Steps p.tables e below (s₁.setTop (mkF m 0 #[.val (.int x0), .val (.int x1), .val (.int x2), .val (.int x3), .unset, .unset, .unset, .unset, .unset, .unset, .unset, .unset, .unset, .unset, .unset, .unset, .unset, .unset] [])) _
    refine XS.iloadN X0.here hx rfl (hb hby at_0) rfl ?_
    refine X0.ldcInt hx hown (mvT hZ (hw _ (List.mem_of_getElem? (i := 0) rfl))) (g := (mkF m 1 #[.val (.int x0), .val (.int x1), .val (.int x2), .val (.int x3), .unset, .unset, .unset, .unset, .unset, .unset, .unset, .unset, .unset, .unset, .unset, .unset, .unset, .unset] [(.int x0)])) rfl (hb hby at_1) _ ?_
    refine XS.iand X0.here hx rfl (hb hby at_3) rfl ?_
    show Steps p.tables e below (s₁.setTop (mkF m 4 #[.val (.int x0), .val (.int x1), .val (.int x2), .val (.int x3), .unset, .unset, .unset, .unset, .unset, .unset, .unset, .unset, .unset, .unset, .unset, .unset, .unset, .unset] [(.int (x0 &&& (536870911 : Int32)))])) _
    rw [← eH1]
    show Steps p.tables e below (s₁.setTop (mkF m 4 #[.val (.int x0), .val (.int x1), .val (.int x2), .val (.int x3), .unset, .unset, .unset, .unset, .unset, .unset, .unset, .unset, .unset, .unset, .unset, .unset, .unset, .unset] [(.int H1)])) _
    refine XS.istore X0.here hx rfl (hb hby at_4) rfl (l' := #[.val (.int x0), .val (.int x1), .val (.int x2), .val (.int x3), .val (.int H1), .unset, .unset, .unset, .unset, .unset, .unset, .unset, .unset, .unset, .unset, .unset, .unset, .unset]) rfl ?_
    refine XS.iload X0.here hx rfl (hb hby at_6) rfl ?_
    refine XS.iloadN X0.here hx rfl (hb hby at_8) rfl ?_
    refine X0.ldcInt hx hown (mvT hZ (hw _ (List.mem_of_getElem? (i := 0) rfl))) (g := (mkF m 9 #[.val (.int x0), .val (.int x1), .val (.int x2), .val (.int x3), .val (.int H1), .unset, .unset, .unset, .unset, .unset, .unset, .unset, .unset, .unset, .unset, .unset, .unset, .unset] [(.int x1), (.int H1)])) rfl (hb hby at_9) _ ?_
    show Steps p.tables e below (s₁.setTop (mkF m 11 #[.val (.int x0), .val (.int x1), .val (.int x2), .val (.int x3), .val (.int H1), .unset, .unset, .unset, .unset, .unset, .unset, .unset, .unset, .unset, .unset, .unset, .unset, .unset] [(.int (536870911 : Int32)), (.int x1), (.int H1)])) _
    refine XS.iand X0.here hx rfl (hb hby at_11) rfl ?_
    refine XS.iadd X0.here hx rfl (hb hby at_12) rfl ?_
    show Steps p.tables e below (s₁.setTop (mkF m 13 #[.val (.int x0), .val (.int x1), .val (.int x2), .val (.int x3), .val (.int H1), .unset, .unset, .unset, .unset, .unset, .unset, .unset, .unset, .unset, .unset, .unset, .unset, .unset] [(.int (H1 + (x1 &&& (536870911 : Int32))))])) _
    rw [← eH2]
    show Steps p.tables e below (s₁.setTop (mkF m 13 #[.val (.int x0), .val (.int x1), .val (.int x2), .val (.int x3), .val (.int H1), .unset, .unset, .unset, .unset, .unset, .unset, .unset, .unset, .unset, .unset, .unset, .unset, .unset] [(.int H2)])) _
    refine XS.istore X0.here hx rfl (hb hby at_13) rfl (l' := #[.val (.int x0), .val (.int x1), .val (.int x2), .val (.int x3), .val (.int H1), .val (.int H2), .unset, .unset, .unset, .unset, .unset, .unset, .unset, .unset, .unset, .unset, .unset, .unset]) rfl ?_
    refine XS.iload X0.here hx rfl (hb hby at_15) rfl ?_
    show Steps p.tables e below (s₁.setTop (mkF m 17 #[.val (.int x0), .val (.int x1), .val (.int x2), .val (.int x3), .val (.int H1), .val (.int H2), .unset, .unset, .unset, .unset, .unset, .unset, .unset, .unset, .unset, .unset, .unset, .unset] [(.int H2)])) _
    refine XS.iloadN X0.here hx rfl (hb hby at_17) rfl ?_
    refine X0.ldcInt hx hown (mvT hZ (hw _ (List.mem_of_getElem? (i := 1) rfl))) (g := (mkF m 18 #[.val (.int x0), .val (.int x1), .val (.int x2), .val (.int x3), .val (.int H1), .val (.int H2), .unset, .unset, .unset, .unset, .unset, .unset, .unset, .unset, .unset, .unset, .unset, .unset] [(.int x2), (.int H2)])) rfl (hb hby at_18) _ ?_
    refine XS.iand X0.here hx rfl (hb hby at_20) rfl ?_
    refine XS.iadd X0.here hx rfl (hb hby at_21) rfl ?_
    show Steps p.tables e below (s₁.setTop (mkF m 22 #[.val (.int x0), .val (.int x1), .val (.int x2), .val (.int x3), .val (.int H1), .val (.int H2), .unset, .unset, .unset, .unset, .unset, .unset, .unset, .unset, .unset, .unset, .unset, .unset] [(.int (H2 + (x2 &&& (1073741823 : Int32))))])) _
    rw [← eH3]
    show Steps p.tables e below (s₁.setTop (mkF m 22 #[.val (.int x0), .val (.int x1), .val (.int x2), .val (.int x3), .val (.int H1), .val (.int H2), .unset, .unset, .unset, .unset, .unset, .unset, .unset, .unset, .unset, .unset, .unset, .unset] [(.int H3)])) _
    refine XS.istore X0.here hx rfl (hb hby at_22) rfl (l' := #[.val (.int x0), .val (.int x1), .val (.int x2), .val (.int x3), .val (.int H1), .val (.int H2), .val (.int H3), .unset, .unset, .unset, .unset, .unset, .unset, .unset, .unset, .unset, .unset, .unset]) rfl ?_
    refine XS.iloadN X0.here hx rfl (hb hby at_24) rfl ?_
    refine XS.iconst X0.here hx rfl (hb hby at_25) ?_
    refine XS.iand X0.here hx rfl (hb hby at_26) rfl ?_
    show Steps p.tables e below (s₁.setTop (mkF m 27 #[.val (.int x0), .val (.int x1), .val (.int x2), .val (.int x3), .val (.int H1), .val (.int H2), .val (.int H3), .unset, .unset, .unset, .unset, .unset, .unset, .unset, .unset, .unset, .unset, .unset] [(.int (x3 &&& (3 : Int32)))])) _
    rw [hn]
    show Steps p.tables e below (s₁.setTop (mkF m 27 #[.val (.int x0), .val (.int x1), .val (.int x2), .val (.int x3), .val (.int H1), .val (.int H2), .val (.int H3), .unset, .unset, .unset, .unset, .unset, .unset, .unset, .unset, .unset, .unset, .unset] [(.int (2 : Int32))])) _
    refine XS.istore X0.here hx rfl (hb hby at_27) rfl (l' := #[.val (.int x0), .val (.int x1), .val (.int x2), .val (.int x3), .val (.int H1), .val (.int H2), .val (.int H3), .val (.int (2 : Int32)), .unset, .unset, .unset, .unset, .unset, .unset, .unset, .unset, .unset, .unset]) rfl ?_
    refine st1 _ ?_
    show Steps p.tables e below (T1.setTop (mkF m 32 #[.val (.int x0), .val (.int x1), .val (.int x2), .val (.int x3), .val (.int H1), .val (.int H2), .val (.int H3), .val (.int (2 : Int32)), .unset, .unset, .unset, .unset, .unset, .unset, .unset, .unset, .unset, .unset] [(.ref hs)])) _
    refine XS.dup X1.here hx rfl (hb hby at_32) rfl rfl ?_
    refine st3.trans ?_
    show Steps p.tables e below (T3.setTop (mkF m 36 #[.val (.int x0), .val (.int x1), .val (.int x2), .val (.int x3), .val (.int H1), .val (.int H2), .val (.int H3), .val (.int (2 : Int32)), .unset, .unset, .unset, .unset, .unset, .unset, .unset, .unset, .unset, .unset] [(.ref hs)])) _
    refine XS.astore X3.here hx rfl (hb hby at_36) rfl rfl (l' := #[.val (.int x0), .val (.int x1), .val (.int x2), .val (.int x3), .val (.int H1), .val (.int H2), .val (.int H3), .val (.int (2 : Int32)), .val (.ref hs), .unset, .unset, .unset, .unset, .unset, .unset, .unset, .unset, .unset]) rfl ?_
    refine XS.iload X3.here hx rfl (hb hby at_38) rfl ?_
    refine XS.iconst X3.here hx rfl (hb hby at_40) ?_
    refine XS.icmpNo X3.here hx rfl (hb hby at_41) rfl (flt (by decide : ¬ ((2 : Int32) < (1 : Int32)))).1 ?_
    show Steps p.tables e below (T3.setTop (mkF m 44 #[.val (.int x0), .val (.int x1), .val (.int x2), .val (.int x3), .val (.int H1), .val (.int H2), .val (.int H3), .val (.int (2 : Int32)), .val (.ref hs), .unset, .unset, .unset, .unset, .unset, .unset, .unset, .unset, .unset] [])) _
    refine XS.aload X3.here hx rfl (hb hby at_44) rfl rfl ?_
    refine XS.iconst X3.here hx rfl (hb hby at_46) ?_
    refine XS.iload X3.here hx rfl (hb hby at_47) rfl ?_
    refine st5.trans ?_
    show Steps p.tables e below (T5.setTop (mkF m 52 #[.val (.int x0), .val (.int x1), .val (.int x2), .val (.int x3), .val (.int H1), .val (.int H2), .val (.int H3), .val (.int (2 : Int32)), .val (.ref hs), .unset, .unset, .unset, .unset, .unset, .unset, .unset, .unset, .unset] [(.int (1 : Int32))])) _
    refine XS.goto X5.here hx rfl (pc0 := 52) (pc' := 56) rfl (hb hby at_52) (by decide) (by decide) ?_
    refine XS.istore X5.here hx rfl (hb hby at_56) rfl (l' := #[.val (.int x0), .val (.int x1), .val (.int x2), .val (.int x3), .val (.int H1), .val (.int H2), .val (.int H3), .val (.int (2 : Int32)), .val (.ref hs), .val (.int (1 : Int32)), .unset, .unset, .unset, .unset, .unset, .unset, .unset, .unset]) rfl ?_
    refine XS.iload X5.here hx rfl (hb hby at_58) rfl ?_
    refine XS.iconst X5.here hx rfl (hb hby at_60) ?_
    show Steps p.tables e below (T5.setTop (mkF m 61 #[.val (.int x0), .val (.int x1), .val (.int x2), .val (.int x3), .val (.int H1), .val (.int H2), .val (.int H3), .val (.int (2 : Int32)), .val (.ref hs), .val (.int (1 : Int32)), .unset, .unset, .unset, .unset, .unset, .unset, .unset, .unset] [(.int (2 : Int32)), (.int (2 : Int32))])) _
    refine XS.icmpNo X5.here hx rfl (hb hby at_61) rfl (flt (by decide : ¬ ((2 : Int32) < (2 : Int32)))).1 ?_
    refine XS.aload X5.here hx rfl (hb hby at_64) rfl rfl ?_
    refine XS.iload X5.here hx rfl (hb hby at_66) rfl ?_
    refine XS.iload X5.here hx rfl (hb hby at_68) rfl ?_
    show Steps p.tables e below (T5.setTop (mkF m 70 #[.val (.int x0), .val (.int x1), .val (.int x2), .val (.int x3), .val (.int H1), .val (.int H2), .val (.int H3), .val (.int (2 : Int32)), .val (.ref hs), .val (.int (1 : Int32)), .unset, .unset, .unset, .unset, .unset, .unset, .unset, .unset] [(.int H2), (.int (1 : Int32)), (.ref hs)])) _
    refine st7.trans ?_
    show Steps p.tables e below (T7.setTop (mkF m 73 #[.val (.int x0), .val (.int x1), .val (.int x2), .val (.int x3), .val (.int H1), .val (.int H2), .val (.int H3), .val (.int (2 : Int32)), .val (.ref hs), .val (.int (1 : Int32)), .unset, .unset, .unset, .unset, .unset, .unset, .unset, .unset] [(.int (2 : Int32))])) _
    refine XS.goto X7.here hx rfl (pc0 := 73) (pc' := 78) rfl (hb hby at_73) (by decide) (by decide) ?_
    refine XS.istore X7.here hx rfl (hb hby at_78) rfl (l' := #[.val (.int x0), .val (.int x1), .val (.int x2), .val (.int x3), .val (.int H1), .val (.int H2), .val (.int H3), .val (.int (2 : Int32)), .val (.ref hs), .val (.int (1 : Int32)), .val (.int (2 : Int32)), .unset, .unset, .unset, .unset, .unset, .unset, .unset]) rfl ?_
    refine XS.iload X7.here hx rfl (hb hby at_80) rfl ?_
    show Steps p.tables e below (T7.setTop (mkF m 82 #[.val (.int x0), .val (.int x1), .val (.int x2), .val (.int x3), .val (.int H1), .val (.int H2), .val (.int H3), .val (.int (2 : Int32)), .val (.ref hs), .val (.int (1 : Int32)), .val (.int (2 : Int32)), .unset, .unset, .unset, .unset, .unset, .unset, .unset] [(.int (2 : Int32))])) _
    refine XS.iconst X7.here hx rfl (hb hby at_82) ?_
    refine XS.icmpYes X7.here hx rfl (pc0 := 83) (pc' := 98) rfl (hb hby at_83) rfl (tlt (by decide : (2 : Int32) < (3 : Int32))).1 (by decide) (by decide) ?_
    refine XS.iload X7.here hx rfl (hb hby at_98) rfl ?_
    refine XS.istore X7.here hx rfl (hb hby at_100) rfl (l' := #[.val (.int x0), .val (.int x1), .val (.int x2), .val (.int x3), .val (.int H1), .val (.int H2), .val (.int H3), .val (.int (2 : Int32)), .val (.ref hs), .val (.int (1 : Int32)), .val (.int (2 : Int32)), .val (.int (2 : Int32)), .unset, .unset, .unset, .unset, .unset, .unset]) rfl ?_
    show Steps p.tables e below (T7.setTop (mkF m 102 #[.val (.int x0), .val (.int x1), .val (.int x2), .val (.int x3), .val (.int H1), .val (.int H2), .val (.int H3), .val (.int (2 : Int32)), .val (.ref hs), .val (.int (1 : Int32)), .val (.int (2 : Int32)), .val (.int (2 : Int32)), .unset, .unset, .unset, .unset, .unset, .unset] [])) _
    refine XS.iconst X7.here hx rfl (hb hby at_102) ?_
    refine st9 _ ?_
    show Steps p.tables e below (T9.setTop (mkF m 105 #[.val (.int x0), .val (.int x1), .val (.int x2), .val (.int x3), .val (.int H1), .val (.int H2), .val (.int H3), .val (.int (2 : Int32)), .val (.ref hs), .val (.int (1 : Int32)), .val (.int (2 : Int32)), .val (.int (2 : Int32)), .unset, .unset, .unset, .unset, .unset, .unset] [(.ref ea)])) _
    refine XS.astore X9.here hx rfl (hb hby at_105) rfl rfl (l' := #[.val (.int x0), .val (.int x1), .val (.int x2), .val (.int x3), .val (.int H1), .val (.int H2), .val (.int H3), .val (.int (2 : Int32)), .val (.ref hs), .val (.int (1 : Int32)), .val (.int (2 : Int32)), .val (.int (2 : Int32)), .val (.ref ea), .unset, .unset, .unset, .unset, .unset]) rfl ?_
    refine XS.iconst X9.here hx rfl (hb hby at_107) ?_
    show Steps p.tables e below (T9.setTop (mkF m 108 #[.val (.int x0), .val (.int x1), .val (.int x2), .val (.int x3), .val (.int H1), .val (.int H2), .val (.int H3), .val (.int (2 : Int32)), .val (.ref hs), .val (.int (1 : Int32)), .val (.int (2 : Int32)), .val (.int (2 : Int32)), .val (.ref ea), .unset, .unset, .unset, .unset, .unset] [(.int (0 : Int32))])) _
    refine XS.istore X9.here hx rfl (hb hby at_108) rfl (l' := #[.val (.int x0), .val (.int x1), .val (.int x2), .val (.int x3), .val (.int H1), .val (.int H2), .val (.int H3), .val (.int (2 : Int32)), .val (.ref hs), .val (.int (1 : Int32)), .val (.int (2 : Int32)), .val (.int (2 : Int32)), .val (.ref ea), .val (.int (0 : Int32)), .unset, .unset, .unset, .unset]) rfl ?_
    refine XS.iload X9.here hx rfl (hb hby at_110) rfl ?_
    refine XS.iconst X9.here hx rfl (hb hby at_112) ?_
    refine XS.icmpNo X9.here hx rfl (hb hby at_113) rfl (flt (by decide : ¬ ((2 : Int32) < (1 : Int32)))).1 ?_
    show Steps p.tables e below (T9.setTop (mkF m 116 #[.val (.int x0), .val (.int x1), .val (.int x2), .val (.int x3), .val (.int H1), .val (.int H2), .val (.int H3), .val (.int (2 : Int32)), .val (.ref hs), .val (.int (1 : Int32)), .val (.int (2 : Int32)), .val (.int (2 : Int32)), .val (.ref ea), .val (.int (0 : Int32)), .unset, .unset, .unset, .unset] [])) _
    refine XS.aload X9.here hx rfl (hb hby at_116) rfl rfl ?_
    refine XS.iload X9.here hx rfl (hb hby at_118) rfl ?_
    refine XS.iload X9.here hx rfl (hb hby at_120) rfl ?_
    refine st11 _ ?_
    show Steps p.tables e below (T11.setTop (mkF m 123 #[.val (.int x0), .val (.int x1), .val (.int x2), .val (.int x3), .val (.int H1), .val (.int H2), .val (.int H3), .val (.int (2 : Int32)), .val (.ref hs), .val (.int (1 : Int32)), .val (.int (2 : Int32)), .val (.int (2 : Int32)), .val (.ref ea), .val (.int (0 : Int32)), .unset, .unset, .unset, .unset] [])) _
    refine XS.iload X11.here hx rfl (hb hby at_123) rfl ?_
    refine XS.iconst X11.here hx rfl (hb hby at_125) ?_
    refine XS.iadd X11.here hx rfl (hb hby at_126) rfl ?_
    show Steps p.tables e below (T11.setTop (mkF m 127 #[.val (.int x0), .val (.int x1), .val (.int x2), .val (.int x3), .val (.int H1), .val (.int H2), .val (.int H3), .val (.int (2 : Int32)), .val (.ref hs), .val (.int (1 : Int32)), .val (.int (2 : Int32)), .val (.int (2 : Int32)), .val (.ref ea), .val (.int (0 : Int32)), .unset, .unset, .unset, .unset] [(.int ((0 : Int32) + (1 : Int32)))])) _
    rw [show ((0 : Int32) + (1 : Int32)) = (1 : Int32) from by decide]
    show Steps p.tables e below (T11.setTop (mkF m 127 #[.val (.int x0), .val (.int x1), .val (.int x2), .val (.int x3), .val (.int H1), .val (.int H2), .val (.int H3), .val (.int (2 : Int32)), .val (.ref hs), .val (.int (1 : Int32)), .val (.int (2 : Int32)), .val (.int (2 : Int32)), .val (.ref ea), .val (.int (0 : Int32)), .unset, .unset, .unset, .unset] [(.int (1 : Int32))])) _
    refine XS.istore X11.here hx rfl (hb hby at_127) rfl (l' := #[.val (.int x0), .val (.int x1), .val (.int x2), .val (.int x3), .val (.int H1), .val (.int H2), .val (.int H3), .val (.int (2 : Int32)), .val (.ref hs), .val (.int (1 : Int32)), .val (.int (2 : Int32)), .val (.int (2 : Int32)), .val (.ref ea), .val (.int (1 : Int32)), .unset, .unset, .unset, .unset]) rfl ?_
    show Steps p.tables e below (T11.setTop (mkF m 129 #[.val (.int x0), .val (.int x1), .val (.int x2), .val (.int x3), .val (.int H1), .val (.int H2), .val (.int H3), .val (.int (2 : Int32)), .val (.ref hs), .val (.int (1 : Int32)), .val (.int (2 : Int32)), .val (.int (2 : Int32)), .val (.ref ea), .val (.int (1 : Int32)), .unset, .unset, .unset, .unset] [])) _
    refine XS.iload X11.here hx rfl (hb hby at_129) rfl ?_
    refine XS.iconst X11.here hx rfl (hb hby at_131) ?_
    refine XS.icmpNo X11.here hx rfl (hb hby at_132) rfl (flt (by decide : ¬ ((2 : Int32) < (2 : Int32)))).1 ?_
    refine XS.iload X11.here hx rfl (hb hby at_135) rfl ?_
    show Steps p.tables e below (T11.setTop (mkF m 137 #[.val (.int x0), .val (.int x1), .val (.int x2), .val (.int x3), .val (.int H1), .val (.int H2), .val (.int H3), .val (.int (2 : Int32)), .val (.ref hs), .val (.int (1 : Int32)), .val (.int (2 : Int32)), .val (.int (2 : Int32)), .val (.ref ea), .val (.int (1 : Int32)), .unset, .unset, .unset, .unset] [(.int H2)])) _
    refine XS.iload X11.here hx rfl (hb hby at_137) rfl ?_
    refine XS.icmpNo X11.here hx rfl (hb hby at_139) rfl (feq hq2).1 ?_
    refine XS.aload X11.here hx rfl (hb hby at_142) rfl rfl ?_
    refine XS.iload X11.here hx rfl (hb hby at_144) rfl ?_
    show Steps p.tables e below (T11.setTop (mkF m 146 #[.val (.int x0), .val (.int x1), .val (.int x2), .val (.int x3), .val (.int H1), .val (.int H2), .val (.int H3), .val (.int (2 : Int32)), .val (.ref hs), .val (.int (1 : Int32)), .val (.int (2 : Int32)), .val (.int (2 : Int32)), .val (.ref ea), .val (.int (1 : Int32)), .unset, .unset, .unset, .unset] [(.int (1 : Int32)), (.ref ea)])) _
    refine XS.iload X11.here hx rfl (hb hby at_146) rfl ?_
    refine st13 _ ?_
    show Steps p.tables e below (T13.setTop (mkF m 149 #[.val (.int x0), .val (.int x1), .val (.int x2), .val (.int x3), .val (.int H1), .val (.int H2), .val (.int H3), .val (.int (2 : Int32)), .val (.ref hs), .val (.int (1 : Int32)), .val (.int (2 : Int32)), .val (.int (2 : Int32)), .val (.ref ea), .val (.int (1 : Int32)), .unset, .unset, .unset, .unset] [])) _
    refine XS.iload X13.here hx rfl (hb hby at_149) rfl ?_
    refine XS.iconst X13.here hx rfl (hb hby at_151) ?_
    show Steps p.tables e below (T13.setTop (mkF m 152 #[.val (.int x0), .val (.int x1), .val (.int x2), .val (.int x3), .val (.int H1), .val (.int H2), .val (.int H3), .val (.int (2 : Int32)), .val (.ref hs), .val (.int (1 : Int32)), .val (.int (2 : Int32)), .val (.int (2 : Int32)), .val (.ref ea), .val (.int (1 : Int32)), .unset, .unset, .unset, .unset] [(.int (1 : Int32)), (.int (1 : Int32))])) _
    refine XS.iadd X13.here hx rfl (hb hby at_152) rfl ?_
    show Steps p.tables e below (T13.setTop (mkF m 153 #[.val (.int x0), .val (.int x1), .val (.int x2), .val (.int x3), .val (.int H1), .val (.int H2), .val (.int H3), .val (.int (2 : Int32)), .val (.ref hs), .val (.int (1 : Int32)), .val (.int (2 : Int32)), .val (.int (2 : Int32)), .val (.ref ea), .val (.int (1 : Int32)), .unset, .unset, .unset, .unset] [(.int ((1 : Int32) + (1 : Int32)))])) _
    rw [show ((1 : Int32) + (1 : Int32)) = (2 : Int32) from by decide]
    show Steps p.tables e below (T13.setTop (mkF m 153 #[.val (.int x0), .val (.int x1), .val (.int x2), .val (.int x3), .val (.int H1), .val (.int H2), .val (.int H3), .val (.int (2 : Int32)), .val (.ref hs), .val (.int (1 : Int32)), .val (.int (2 : Int32)), .val (.int (2 : Int32)), .val (.ref ea), .val (.int (1 : Int32)), .unset, .unset, .unset, .unset] [(.int (2 : Int32))])) _
    refine XS.istore X13.here hx rfl (hb hby at_153) rfl (l' := #[.val (.int x0), .val (.int x1), .val (.int x2), .val (.int x3), .val (.int H1), .val (.int H2), .val (.int H3), .val (.int (2 : Int32)), .val (.ref hs), .val (.int (1 : Int32)), .val (.int (2 : Int32)), .val (.int (2 : Int32)), .val (.ref ea), .val (.int (2 : Int32)), .unset, .unset, .unset, .unset]) rfl ?_
    refine XS.iload X13.here hx rfl (hb hby at_155) rfl ?_
    refine XS.iconst X13.here hx rfl (hb hby at_157) ?_
    show Steps p.tables e below (T13.setTop (mkF m 158 #[.val (.int x0), .val (.int x1), .val (.int x2), .val (.int x3), .val (.int H1), .val (.int H2), .val (.int H3), .val (.int (2 : Int32)), .val (.ref hs), .val (.int (1 : Int32)), .val (.int (2 : Int32)), .val (.int (2 : Int32)), .val (.ref ea), .val (.int (2 : Int32)), .unset, .unset, .unset, .unset] [(.int (3 : Int32)), (.int (2 : Int32))])) _
    refine XS.icmpYes X13.here hx rfl (pc0 := 158) (pc' := 181) rfl (hb hby at_158) rfl (tlt (by decide : (2 : Int32) < (3 : Int32))).1 (by decide) (by decide) ?_
    refine XS.aload X13.here hx rfl (hb hby at_181) rfl rfl ?_
    refine XS.iload X13.here hx rfl (hb hby at_183) rfl ?_
    refine st15.trans ?_
    show Steps p.tables e below (T15.setTop (mkF m 188 #[.val (.int x0), .val (.int x1), .val (.int x2), .val (.int x3), .val (.int H1), .val (.int H2), .val (.int H3), .val (.int (2 : Int32)), .val (.ref hs), .val (.int (1 : Int32)), .val (.int (2 : Int32)), .val (.int (2 : Int32)), .val (.ref ea), .val (.int (2 : Int32)), .unset, .unset, .unset, .unset] [(.ref g1)])) _
    refine XS.astore X15.here hx rfl (hb hby at_188) rfl rfl (l' := #[.val (.int x0), .val (.int x1), .val (.int x2), .val (.int x3), .val (.int H1), .val (.int H2), .val (.int H3), .val (.int (2 : Int32)), .val (.ref hs), .val (.int (1 : Int32)), .val (.int (2 : Int32)), .val (.int (2 : Int32)), .val (.ref ea), .val (.int (2 : Int32)), .val (.ref g1), .unset, .unset, .unset]) rfl ?_
    refine XS.aload X15.here hx rfl (hb hby at_190) rfl rfl ?_
    refine own_len X15 hx hZ rfl Vr15 (g := (mkF m 192 #[.val (.int x0), .val (.int x1), .val (.int x2), .val (.int x3), .val (.int H1), .val (.int H2), .val (.int H3), .val (.int (2 : Int32)), .val (.ref hs), .val (.int (1 : Int32)), .val (.int (2 : Int32)), .val (.int (2 : Int32)), .val (.ref ea), .val (.int (2 : Int32)), .val (.ref g1), .unset, .unset, .unset] [(.ref g1)])) rfl rfl (hb hby at_192) ?_
    refine XS.iload X15.here hx rfl (hb hby at_193) rfl ?_
    show Steps p.tables e below (T15.setTop (mkF m 195 #[.val (.int x0), .val (.int x1), .val (.int x2), .val (.int x3), .val (.int H1), .val (.int H2), .val (.int H3), .val (.int (2 : Int32)), .val (.ref hs), .val (.int (1 : Int32)), .val (.int (2 : Int32)), .val (.int (2 : Int32)), .val (.ref ea), .val (.int (2 : Int32)), .val (.ref g1), .unset, .unset, .unset] [(.int (2 : Int32)), (.int (2 : Int32))])) _
    refine XS.icmpNo X15.here hx rfl (hb hby at_195) rfl (teq (by decide : (2 : Int32) = (2 : Int32))).2 ?_
    refine XS.iconst X15.here hx rfl (hb hby at_198) ?_
    refine XS.goto X15.here hx rfl (pc0 := 199) (pc' := 203) rfl (hb hby at_199) (by decide) (by decide) ?_
    refine XS.istore X15.here hx rfl (hb hby at_203) rfl (l' := #[.val (.int x0), .val (.int x1), .val (.int x2), .val (.int x3), .val (.int H1), .val (.int H2), .val (.int H3), .val (.int (2 : Int32)), .val (.ref hs), .val (.int (1 : Int32)), .val (.int (2 : Int32)), .val (.int (2 : Int32)), .val (.ref ea), .val (.int (2 : Int32)), .val (.ref g1), .val (.int (1 : Int32)), .unset, .unset]) rfl ?_
    show Steps p.tables e below (T15.setTop (mkF m 205 #[.val (.int x0), .val (.int x1), .val (.int x2), .val (.int x3), .val (.int H1), .val (.int H2), .val (.int H3), .val (.int (2 : Int32)), .val (.ref hs), .val (.int (1 : Int32)), .val (.int (2 : Int32)), .val (.int (2 : Int32)), .val (.ref ea), .val (.int (2 : Int32)), .val (.ref g1), .val (.int (1 : Int32)), .unset, .unset] [])) _
    refine XS.iload X15.here hx rfl (hb hby at_205) rfl ?_
    refine XS.ifNo X15.here hx rfl (hb hby at_207) rfl ((if0 _ _).trans (feq (by decide : ¬ ((1 : Int32) = (0 : Int32)))).1) ?_
    refine XS.iload X15.here hx rfl (hb hby at_210) rfl ?_
    refine XS.iconst X15.here hx rfl (hb hby at_212) ?_
    show Steps p.tables e below (T15.setTop (mkF m 213 #[.val (.int x0), .val (.int x1), .val (.int x2), .val (.int x3), .val (.int H1), .val (.int H2), .val (.int H3), .val (.int (2 : Int32)), .val (.ref hs), .val (.int (1 : Int32)), .val (.int (2 : Int32)), .val (.int (2 : Int32)), .val (.ref ea), .val (.int (2 : Int32)), .val (.ref g1), .val (.int (1 : Int32)), .unset, .unset] [(.int (1 : Int32)), (.int (2 : Int32))])) _
    refine XS.icmpNo X15.here hx rfl (hb hby at_213) rfl (flt (by decide : ¬ ((2 : Int32) < (1 : Int32)))).1 ?_
    refine XS.aload X15.here hx rfl (hb hby at_216) rfl rfl ?_
    refine XS.iconst X15.here hx rfl (hb hby at_218) ?_
    refine own_ldI X15 hx hZ rfl Vr15 (j := (0 : Int32)) (w := H1) ⟨by decide, by decide⟩ rfl (g := (mkF m 219 #[.val (.int x0), .val (.int x1), .val (.int x2), .val (.int x3), .val (.int H1), .val (.int H2), .val (.int H3), .val (.int (2 : Int32)), .val (.ref hs), .val (.int (1 : Int32)), .val (.int (2 : Int32)), .val (.int (2 : Int32)), .val (.ref ea), .val (.int (2 : Int32)), .val (.ref g1), .val (.int (1 : Int32)), .unset, .unset] [(.int (0 : Int32)), (.ref g1)])) rfl rfl (hb hby at_219) ?_
    show Steps p.tables e below (T15.setTop (mkF m 220 #[.val (.int x0), .val (.int x1), .val (.int x2), .val (.int x3), .val (.int H1), .val (.int H2), .val (.int H3), .val (.int (2 : Int32)), .val (.ref hs), .val (.int (1 : Int32)), .val (.int (2 : Int32)), .val (.int (2 : Int32)), .val (.ref ea), .val (.int (2 : Int32)), .val (.ref g1), .val (.int (1 : Int32)), .unset, .unset] [(.int H1)])) _
    refine XS.aload X15.here hx rfl (hb hby at_220) rfl rfl ?_
    refine XS.iconst X15.here hx rfl (hb hby at_222) ?_
    refine own_ldI X15 hx hZ rfl V_ea_16 (j := (0 : Int32)) (w := H1) ⟨by decide, by decide⟩ rfl (g := (mkF m 223 #[.val (.int x0), .val (.int x1), .val (.int x2), .val (.int x3), .val (.int H1), .val (.int H2), .val (.int H3), .val (.int (2 : Int32)), .val (.ref hs), .val (.int (1 : Int32)), .val (.int (2 : Int32)), .val (.int (2 : Int32)), .val (.ref ea), .val (.int (2 : Int32)), .val (.ref g1), .val (.int (1 : Int32)), .unset, .unset] [(.int (0 : Int32)), (.ref ea), (.int H1)])) rfl rfl (hb hby at_223) ?_
    refine XS.icmpNo X15.here hx rfl (hb hby at_224) rfl (teq (rfl : H1 = H1)).2 ?_
    show Steps p.tables e below (T15.setTop (mkF m 227 #[.val (.int x0), .val (.int x1), .val (.int x2), .val (.int x3), .val (.int H1), .val (.int H2), .val (.int H3), .val (.int (2 : Int32)), .val (.ref hs), .val (.int (1 : Int32)), .val (.int (2 : Int32)), .val (.int (2 : Int32)), .val (.ref ea), .val (.int (2 : Int32)), .val (.ref g1), .val (.int (1 : Int32)), .unset, .unset] [])) _
    refine XS.iconst X15.here hx rfl (hb hby at_227) ?_
    refine XS.goto X15.here hx rfl (pc0 := 228) (pc' := 232) rfl (hb hby at_228) (by decide) (by decide) ?_
    refine XS.istore X15.here hx rfl (hb hby at_232) rfl (l' := #[.val (.int x0), .val (.int x1), .val (.int x2), .val (.int x3), .val (.int H1), .val (.int H2), .val (.int H3), .val (.int (2 : Int32)), .val (.ref hs), .val (.int (1 : Int32)), .val (.int (2 : Int32)), .val (.int (2 : Int32)), .val (.ref ea), .val (.int (2 : Int32)), .val (.ref g1), .val (.int (1 : Int32)), .unset, .unset]) rfl ?_
    refine XS.iload X15.here hx rfl (hb hby at_234) rfl ?_
    show Steps p.tables e below (T15.setTop (mkF m 236 #[.val (.int x0), .val (.int x1), .val (.int x2), .val (.int x3), .val (.int H1), .val (.int H2), .val (.int H3), .val (.int (2 : Int32)), .val (.ref hs), .val (.int (1 : Int32)), .val (.int (2 : Int32)), .val (.int (2 : Int32)), .val (.ref ea), .val (.int (2 : Int32)), .val (.ref g1), .val (.int (1 : Int32)), .unset, .unset] [(.int (1 : Int32))])) _
    refine XS.ifNo X15.here hx rfl (hb hby at_236) rfl ((if0 _ _).trans (feq (by decide : ¬ ((1 : Int32) = (0 : Int32)))).1) ?_
    refine XS.iload X15.here hx rfl (hb hby at_239) rfl ?_
    refine XS.iconst X15.here hx rfl (hb hby at_241) ?_
    refine XS.icmpNo X15.here hx rfl (hb hby at_242) rfl (flt (by decide : ¬ ((2 : Int32) < (2 : Int32)))).1 ?_
    show Steps p.tables e below (T15.setTop (mkF m 245 #[.val (.int x0), .val (.int x1), .val (.int x2), .val (.int x3), .val (.int H1), .val (.int H2), .val (.int H3), .val (.int (2 : Int32)), .val (.ref hs), .val (.int (1 : Int32)), .val (.int (2 : Int32)), .val (.int (2 : Int32)), .val (.ref ea), .val (.int (2 : Int32)), .val (.ref g1), .val (.int (1 : Int32)), .unset, .unset] [])) _
    refine XS.aload X15.here hx rfl (hb hby at_245) rfl rfl ?_
    refine XS.iconst X15.here hx rfl (hb hby at_247) ?_
    refine own_ldI X15 hx hZ rfl Vr15 (j := (1 : Int32)) (w := H2) ⟨by decide, by decide⟩ rfl (g := (mkF m 248 #[.val (.int x0), .val (.int x1), .val (.int x2), .val (.int x3), .val (.int H1), .val (.int H2), .val (.int H3), .val (.int (2 : Int32)), .val (.ref hs), .val (.int (1 : Int32)), .val (.int (2 : Int32)), .val (.int (2 : Int32)), .val (.ref ea), .val (.int (2 : Int32)), .val (.ref g1), .val (.int (1 : Int32)), .unset, .unset] [(.int (1 : Int32)), (.ref g1)])) rfl rfl (hb hby at_248) ?_
    refine XS.aload X15.here hx rfl (hb hby at_249) rfl rfl ?_
    show Steps p.tables e below (T15.setTop (mkF m 251 #[.val (.int x0), .val (.int x1), .val (.int x2), .val (.int x3), .val (.int H1), .val (.int H2), .val (.int H3), .val (.int (2 : Int32)), .val (.ref hs), .val (.int (1 : Int32)), .val (.int (2 : Int32)), .val (.int (2 : Int32)), .val (.ref ea), .val (.int (2 : Int32)), .val (.ref g1), .val (.int (1 : Int32)), .unset, .unset] [(.ref ea), (.int H2)])) _
    refine XS.iconst X15.here hx rfl (hb hby at_251) ?_
    refine own_ldI X15 hx hZ rfl V_ea_16 (j := (1 : Int32)) (w := H2) ⟨by decide, by decide⟩ rfl (g := (mkF m 252 #[.val (.int x0), .val (.int x1), .val (.int x2), .val (.int x3), .val (.int H1), .val (.int H2), .val (.int H3), .val (.int (2 : Int32)), .val (.ref hs), .val (.int (1 : Int32)), .val (.int (2 : Int32)), .val (.int (2 : Int32)), .val (.ref ea), .val (.int (2 : Int32)), .val (.ref g1), .val (.int (1 : Int32)), .unset, .unset] [(.int (1 : Int32)), (.ref ea), (.int H2)])) rfl rfl (hb hby at_252) ?_
    refine XS.icmpNo X15.here hx rfl (hb hby at_253) rfl (teq (rfl : H2 = H2)).2 ?_
    refine XS.iconst X15.here hx rfl (hb hby at_256) ?_
    show Steps p.tables e below (T15.setTop (mkF m 257 #[.val (.int x0), .val (.int x1), .val (.int x2), .val (.int x3), .val (.int H1), .val (.int H2), .val (.int H3), .val (.int (2 : Int32)), .val (.ref hs), .val (.int (1 : Int32)), .val (.int (2 : Int32)), .val (.int (2 : Int32)), .val (.ref ea), .val (.int (2 : Int32)), .val (.ref g1), .val (.int (1 : Int32)), .unset, .unset] [(.int (1 : Int32))])) _
    refine XS.goto X15.here hx rfl (pc0 := 257) (pc' := 261) rfl (hb hby at_257) (by decide) (by decide) ?_
    refine XS.istore X15.here hx rfl (hb hby at_261) rfl (l' := #[.val (.int x0), .val (.int x1), .val (.int x2), .val (.int x3), .val (.int H1), .val (.int H2), .val (.int H3), .val (.int (2 : Int32)), .val (.ref hs), .val (.int (1 : Int32)), .val (.int (2 : Int32)), .val (.int (2 : Int32)), .val (.ref ea), .val (.int (2 : Int32)), .val (.ref g1), .val (.int (1 : Int32)), .unset, .unset]) rfl ?_
    refine XS.iload X15.here hx rfl (hb hby at_263) rfl ?_
    refine XS.ifNo X15.here hx rfl (hb hby at_265) rfl ((if0 _ _).trans (feq (by decide : ¬ ((1 : Int32) = (0 : Int32)))).1) ?_
    show Steps p.tables e below (T15.setTop (mkF m 268 #[.val (.int x0), .val (.int x1), .val (.int x2), .val (.int x3), .val (.int H1), .val (.int H2), .val (.int H3), .val (.int (2 : Int32)), .val (.ref hs), .val (.int (1 : Int32)), .val (.int (2 : Int32)), .val (.int (2 : Int32)), .val (.ref ea), .val (.int (2 : Int32)), .val (.ref g1), .val (.int (1 : Int32)), .unset, .unset] [])) _
    refine XS.iload X15.here hx rfl (hb hby at_268) rfl ?_
    refine XS.iconst X15.here hx rfl (hb hby at_270) ?_
    refine XS.icmpYes X15.here hx rfl (pc0 := 271) (pc' := 292) rfl (hb hby at_271) rfl (tlt (by decide : (2 : Int32) < (3 : Int32))).1 (by decide) (by decide) ?_
    refine XS.aload X15.here hx rfl (hb hby at_292) rfl rfl ?_
    show Steps p.tables e below (T15.setTop (mkF m 294 #[.val (.int x0), .val (.int x1), .val (.int x2), .val (.int x3), .val (.int H1), .val (.int H2), .val (.int H3), .val (.int (2 : Int32)), .val (.ref hs), .val (.int (1 : Int32)), .val (.int (2 : Int32)), .val (.int (2 : Int32)), .val (.ref ea), .val (.int (2 : Int32)), .val (.ref g1), .val (.int (1 : Int32)), .unset, .unset] [(.ref hs)])) _
    refine XS.iload X15.here hx rfl (hb hby at_294) rfl ?_
    refine st17.trans ?_
    show Steps p.tables e below (T17.setTop (mkF m 299 #[.val (.int x0), .val (.int x1), .val (.int x2), .val (.int x3), .val (.int H1), .val (.int H2), .val (.int H3), .val (.int (2 : Int32)), .val (.ref hs), .val (.int (1 : Int32)), .val (.int (2 : Int32)), .val (.int (2 : Int32)), .val (.ref ea), .val (.int (2 : Int32)), .val (.ref g1), .val (.int (1 : Int32)), .unset, .unset] [(.ref g2)])) _
    refine XS.astore X17.here hx rfl (hb hby at_299) rfl rfl (l' := #[.val (.int x0), .val (.int x1), .val (.int x2), .val (.int x3), .val (.int H1), .val (.int H2), .val (.int H3), .val (.int (2 : Int32)), .val (.ref hs), .val (.int (1 : Int32)), .val (.int (2 : Int32)), .val (.int (2 : Int32)), .val (.ref ea), .val (.int (2 : Int32)), .val (.ref g1), .val (.int (1 : Int32)), .val (.ref g2), .unset]) rfl ?_
    refine XS.iload X17.here hx rfl (hb hby at_301) rfl ?_
    show Steps p.tables e below (T17.setTop (mkF m 303 #[.val (.int x0), .val (.int x1), .val (.int x2), .val (.int x3), .val (.int H1), .val (.int H2), .val (.int H3), .val (.int (2 : Int32)), .val (.ref hs), .val (.int (1 : Int32)), .val (.int (2 : Int32)), .val (.int (2 : Int32)), .val (.ref ea), .val (.int (2 : Int32)), .val (.ref g1), .val (.int (1 : Int32)), .val (.ref g2), .unset] [(.int (2 : Int32))])) _
    refine XS.iconst X17.here hx rfl (hb hby at_303) ?_
    refine XS.icmpNo X17.here hx rfl (hb hby at_304) rfl (flt (by decide : ¬ ((2 : Int32) < (1 : Int32)))).1 ?_
    refine XS.iload X17.here hx rfl (hb hby at_307) rfl ?_
    refine XS.ifNo X17.here hx rfl (hb hby at_309) rfl ((if0 _ _).trans (feq (by decide : ¬ ((1 : Int32) = (0 : Int32)))).1) ?_
    show Steps p.tables e below (T17.setTop (mkF m 312 #[.val (.int x0), .val (.int x1), .val (.int x2), .val (.int x3), .val (.int H1), .val (.int H2), .val (.int H3), .val (.int (2 : Int32)), .val (.ref hs), .val (.int (1 : Int32)), .val (.int (2 : Int32)), .val (.int (2 : Int32)), .val (.ref ea), .val (.int (2 : Int32)), .val (.ref g1), .val (.int (1 : Int32)), .val (.ref g2), .unset] [])) _
    refine XS.aload X17.here hx rfl (hb hby at_312) rfl rfl ?_
    refine own_len X17 hx hZ rfl Vr17 (g := (mkF m 314 #[.val (.int x0), .val (.int x1), .val (.int x2), .val (.int x3), .val (.int H1), .val (.int H2), .val (.int H3), .val (.int (2 : Int32)), .val (.ref hs), .val (.int (1 : Int32)), .val (.int (2 : Int32)), .val (.int (2 : Int32)), .val (.ref ea), .val (.int (2 : Int32)), .val (.ref g1), .val (.int (1 : Int32)), .val (.ref g2), .unset] [(.ref g2)])) rfl rfl (hb hby at_314) ?_
    refine XS.iconst X17.here hx rfl (hb hby at_315) ?_
    refine XS.icmpNo X17.here hx rfl (hb hby at_316) rfl (teq (by decide : (1 : Int32) = (1 : Int32))).2 ?_
    show Steps p.tables e below (T17.setTop (mkF m 319 #[.val (.int x0), .val (.int x1), .val (.int x2), .val (.int x3), .val (.int H1), .val (.int H2), .val (.int H3), .val (.int (2 : Int32)), .val (.ref hs), .val (.int (1 : Int32)), .val (.int (2 : Int32)), .val (.int (2 : Int32)), .val (.ref ea), .val (.int (2 : Int32)), .val (.ref g1), .val (.int (1 : Int32)), .val (.ref g2), .unset] [])) _
    refine XS.aload X17.here hx rfl (hb hby at_319) rfl rfl ?_
    refine XS.iconst X17.here hx rfl (hb hby at_321) ?_
    refine own_ldI X17 hx hZ rfl Vr17 (j := (0 : Int32)) (w := H1) ⟨by decide, by decide⟩ rfl (g := (mkF m 322 #[.val (.int x0), .val (.int x1), .val (.int x2), .val (.int x3), .val (.int H1), .val (.int H2), .val (.int H3), .val (.int (2 : Int32)), .val (.ref hs), .val (.int (1 : Int32)), .val (.int (2 : Int32)), .val (.int (2 : Int32)), .val (.ref ea), .val (.int (2 : Int32)), .val (.ref g1), .val (.int (1 : Int32)), .val (.ref g2), .unset] [(.int (0 : Int32)), (.ref g2)])) rfl rfl (hb hby at_322) ?_
    refine XS.iload X17.here hx rfl (hb hby at_323) rfl ?_
    show Steps p.tables e below (T17.setTop (mkF m 325 #[.val (.int x0), .val (.int x1), .val (.int x2), .val (.int x3), .val (.int H1), .val (.int H2), .val (.int H3), .val (.int (2 : Int32)), .val (.ref hs), .val (.int (1 : Int32)), .val (.int (2 : Int32)), .val (.int (2 : Int32)), .val (.ref ea), .val (.int (2 : Int32)), .val (.ref g1), .val (.int (1 : Int32)), .val (.ref g2), .unset] [(.int H1), (.int H1)])) _
    refine XS.icmpNo X17.here hx rfl (hb hby at_325) rfl (teq (rfl : H1 = H1)).2 ?_
    refine XS.iconst X17.here hx rfl (hb hby at_328) ?_
    refine XS.goto X17.here hx rfl (pc0 := 329) (pc' := 333) rfl (hb hby at_329) (by decide) (by decide) ?_
    refine XS.istore X17.here hx rfl (hb hby at_333) rfl (l' := #[.val (.int x0), .val (.int x1), .val (.int x2), .val (.int x3), .val (.int H1), .val (.int H2), .val (.int H3), .val (.int (2 : Int32)), .val (.ref hs), .val (.int (1 : Int32)), .val (.int (2 : Int32)), .val (.int (2 : Int32)), .val (.ref ea), .val (.int (2 : Int32)), .val (.ref g1), .val (.int (1 : Int32)), .val (.ref g2), .unset]) rfl ?_
    show Steps p.tables e below (T17.setTop (mkF m 335 #[.val (.int x0), .val (.int x1), .val (.int x2), .val (.int x3), .val (.int H1), .val (.int H2), .val (.int H3), .val (.int (2 : Int32)), .val (.ref hs), .val (.int (1 : Int32)), .val (.int (2 : Int32)), .val (.int (2 : Int32)), .val (.ref ea), .val (.int (2 : Int32)), .val (.ref g1), .val (.int (1 : Int32)), .val (.ref g2), .unset] [])) _
    refine XS.goto X17.here hx rfl (pc0 := 335) (pc' := 356) rfl (hb hby at_335) (by decide) (by decide) ?_
    refine XS.aload X17.here hx rfl (hb hby at_356) rfl rfl ?_
    refine XS.iconst X17.here hx rfl (hb hby at_358) ?_
    refine st19.trans ?_
    show Steps p.tables e below (T19.setTop (mkF m 362 #[.val (.int x0), .val (.int x1), .val (.int x2), .val (.int x3), .val (.int H1), .val (.int H2), .val (.int H3), .val (.int (2 : Int32)), .val (.ref hs), .val (.int (1 : Int32)), .val (.int (2 : Int32)), .val (.int (2 : Int32)), .val (.ref ea), .val (.int (2 : Int32)), .val (.ref g1), .val (.int (1 : Int32)), .val (.ref g2), .unset] [(.ref g3)])) _
    refine XS.astore X19.here hx rfl (hb hby at_362) rfl rfl (l' := #[.val (.int x0), .val (.int x1), .val (.int x2), .val (.int x3), .val (.int H1), .val (.int H2), .val (.int H3), .val (.int (2 : Int32)), .val (.ref hs), .val (.int (1 : Int32)), .val (.int (2 : Int32)), .val (.int (2 : Int32)), .val (.ref ea), .val (.int (2 : Int32)), .val (.ref g1), .val (.int (1 : Int32)), .val (.ref g2), .val (.ref g3)]) rfl ?_
    refine XS.iload X19.here hx rfl (hb hby at_364) rfl ?_
    refine XS.ifNo X19.here hx rfl (hb hby at_366) rfl ((if0 _ _).trans (feq (by decide : ¬ ((1 : Int32) = (0 : Int32)))).1) ?_
    refine XS.aload X19.here hx rfl (hb hby at_369) rfl rfl ?_
    show Steps p.tables e below (T19.setTop (mkF m 371 #[.val (.int x0), .val (.int x1), .val (.int x2), .val (.int x3), .val (.int H1), .val (.int H2), .val (.int H3), .val (.int (2 : Int32)), .val (.ref hs), .val (.int (1 : Int32)), .val (.int (2 : Int32)), .val (.int (2 : Int32)), .val (.ref ea), .val (.int (2 : Int32)), .val (.ref g1), .val (.int (1 : Int32)), .val (.ref g2), .val (.ref g3)] [(.ref g3)])) _
    refine own_len X19 hx hZ rfl Vr19 (g := (mkF m 371 #[.val (.int x0), .val (.int x1), .val (.int x2), .val (.int x3), .val (.int H1), .val (.int H2), .val (.int H3), .val (.int (2 : Int32)), .val (.ref hs), .val (.int (1 : Int32)), .val (.int (2 : Int32)), .val (.int (2 : Int32)), .val (.ref ea), .val (.int (2 : Int32)), .val (.ref g1), .val (.int (1 : Int32)), .val (.ref g2), .val (.ref g3)] [(.ref g3)])) rfl rfl (hb hby at_371) ?_
    refine XS.ifNo X19.here hx rfl (hb hby at_372) rfl ((if0 _ _).trans (teq (by decide : (0 : Int32) = (0 : Int32))).2) ?_
    refine XS.iconst X19.here hx rfl (hb hby at_375) ?_
    refine XS.goto X19.here hx rfl (pc0 := 376) (pc' := 380) rfl (hb hby at_376) (by decide) (by decide) ?_
    show Steps p.tables e below (T19.setTop (mkF m 380 #[.val (.int x0), .val (.int x1), .val (.int x2), .val (.int x3), .val (.int H1), .val (.int H2), .val (.int H3), .val (.int (2 : Int32)), .val (.ref hs), .val (.int (1 : Int32)), .val (.int (2 : Int32)), .val (.int (2 : Int32)), .val (.ref ea), .val (.int (2 : Int32)), .val (.ref g1), .val (.int (1 : Int32)), .val (.ref g2), .val (.ref g3)] [(.int (1 : Int32))])) _
    refine XS.istore X19.here hx rfl (hb hby at_380) rfl (l' := #[.val (.int x0), .val (.int x1), .val (.int x2), .val (.int x3), .val (.int H1), .val (.int H2), .val (.int H3), .val (.int (2 : Int32)), .val (.ref hs), .val (.int (1 : Int32)), .val (.int (2 : Int32)), .val (.int (2 : Int32)), .val (.ref ea), .val (.int (2 : Int32)), .val (.ref g1), .val (.int (1 : Int32)), .val (.ref g2), .val (.ref g3)]) rfl ?_
    refine XS.iload X19.here hx rfl (hb hby at_382) rfl ?_
    exact retN X19 hx (t := .boolean) Bd.returns (by simp) (hb hby at_384) hr
  · exact ⟨rfl, N19⟩
set_option maxRecDepth 65536 in
set_option maxHeartbeats 40000000 in
theorem rm0_3ee (l : Launch) (Z : State) (a0 : Array Value) (hw : ∀ d ∈ tables_1, d.before a0 Z = true) (ws : List Jvm.Cond) (x0 : Int32) (x1 : Int32) (x2 : Int32) (x3 : Int32) (H1 H2 H3 : Int32) (h0 : Heap) (n0 : Nat) (Z0 : n0 ≤ h0.size) (eH1 : H1 = (x0 &&& (536870911 : Int32))) (eH2 : H2 = (H1 + (x1 &&& (536870911 : Int32)))) (eH3 : H3 = (H2 + (x2 &&& (1073741823 : Int32)))) (hn : (x3 &&& (3 : Int32)) = (3 : Int32)) (hq2 : H2 = H1) (hq3 : H3 = H2) :
    MetFree l x (head1 (Jvm.Cond.code x code maxLocals ret :: ws) room_1) (fun a U => a = #[(.int x0), (.int x1), (.int x2), (.int x3)] ∧ Z.Warmed39 U.vm ∧ U.heap = h0) (fun _ _ _ _ _ => True) (fun _ U o U' => ∃ v L, o = .returned v ∧ (QL n0 v U'.heap L) ∧ FrameEnd U o U' L room_1.cells room_1.slots) := by
  refine MetFree.of_bodySF (plainFor_of_name pn_0) hisR ?_
  intro p e s m args below meth c s₁ Bd hml0 hP hK
  obtain ⟨rfl, hZ, hh⟩ := hP
  have hx := Bd.exec
  have hby := Bd.bytes
  have hml : c.maxLocals = 18 := hml0
  have hown : s.vm.findClass "com/example/rootline/rootline/reach/HolderSetsHoldersPinLaw" = some m.cls := findClass_of_methodNamed Bd.named
  have hnm := (name_of_methodNamed Bd.named Bd.method).1
  have X0 : Stand p l e room_1 s m #[(.int x0), (.int x1), (.int x2), (.int x3)] below meth c s₁ [] 0 0 := Stand.of_body Bd
  have e0 : s₁.heap = h0 := by rw [← hh, Bd.state]; rfl
  have N0 := Fr.nil n0
  have pre0 : ∀ t, Steps p.tables e below (s₁.setTop (mkF m 0 #[.val (.int x0), .val (.int x1), .val (.int x2), .val (.int x3), .unset, .unset, .unset, .unset, .unset, .unset, .unset, .unset, .unset, .unset, .unset, .unset, .unset, .unset] [])) t → Steps p.tables e below (s₁.setTop (entryFrame m #[(.int x0), (.int x1), (.int x2), (.int x3)] maxLocals)) t := fun t k => castTop (ef_0 m x0 x1 x2 x3) k
  have c0 : (0 : Int32).toInt = 0 := rfl
  have cm1 : (-1 : Int32).toInt = -1 := rfl
  have m1 := c_mask x0 (536870911 : Int32) 29 (by decide) (by decide)
  have m2 := c_mask x1 (536870911 : Int32) 29 (by decide) (by decide)
  have m3 := c_mask x2 (1073741823 : Int32) 30 (by decide) (by decide)
  rw [show ((2 ^ 29 : Nat) : Int) = 536870912 from rfl] at m1 m2
  rw [show ((2 ^ 30 : Nat) : Int) = 1073741824 from rfl] at m3
  have a2 := c_iadd H1 (x1 &&& (536870911 : Int32))
  have a3 := c_iadd H2 (x2 &&& (1073741823 : Int32))
  rw [← eH2] at a2
  rw [← eH3] at a3
  rw [← eH1] at m1
  have r2 := rng32 H2
  have r3 := rng32 H3
  have hH1 : 0 ≤ H1.toInt := by omega
  have hH1n := hH1
  have hH2n : 0 ≤ H2.toInt := by omega
  have hH3n : 0 ≤ H3.toInt := by omega
  have le12 : H1.toInt ≤ H2.toInt := by omega
  have le23 : H2.toInt ≤ H3.toInt := by omega
  have hneH1 : ¬ (H1 = (-1 : Int32)) := by rw [← Int32.toInt_inj]; omega
  have hgeH1 : ¬ (H1 < (-1 : Int32)) := by rw [Int32.lt_iff_toInt_lt]; omega
  have heqH2 : H2 = H1 := hq2
  have heqH3 : H3 = H1 := hq3.trans hq2
  obtain ⟨T1, h1, X1, e1, E1, A1, D1, -, st1⟩ := newO X0 hx hZ hown (hw _ (List.mem_of_getElem? (i := 2) rfl)) (hw _ (List.mem_of_getElem? (i := 3) rfl)) (hw _ (List.mem_of_getElem? (i := 4) rfl)) e0 (g := (mkF m 29 #[.val (.int x0), .val (.int x1), .val (.int x2), .val (.int x3), .val (.int H1), .val (.int H2), .val (.int H3), .val (.int (3 : Int32)), .unset, .unset, .unset, .unset, .unset, .unset, .unset, .unset, .unset, .unset] [])) rfl (hb hby at_29) (by decide) (by decide)
  obtain ⟨hs, g1⟩ : ∃ z, z = h0.size := ⟨_, rfl⟩
  rw [← g1] at A1 D1 st1
  have E_hs_1 : Exa Z h1 hs "com/example/rootline/rootline/reach/HolderSets" := A1
  have F_rest_hs_1 : Fld Z h1 hs sH "rest" "[I" .null := D1 (Or.inl (hw _ (List.mem_of_getElem? (i := 13) rfl))) (ty := (.array .int)) (by decide)
  have F_highest_hs_1 : Fld Z h1 hs sH "highest" "[I" .null := D1 (Or.inl (hw _ (List.mem_of_getElem? (i := 15) rfl))) (ty := (.array .int)) (by decide)
  have F_sizes_hs_1 : Fld Z h1 hs sH "sizes" "[I" .null := D1 (Or.inl (hw _ (List.mem_of_getElem? (i := 17) rfl))) (ty := (.array .int)) (by decide)
  have F_count_hs_1 : Fld Z h1 hs sH "count" "I" (.int (0 : Int32)) := D1 (Or.inl (hw _ (List.mem_of_getElem? (i := 19) rfl))) (ty := .int) (by decide)
  have F_withOne_hs_1 : Fld Z h1 hs sH "withOne" "Lcom/example/rootline/rootline/heap/LongIntTable;" .null := D1 (Or.inr (hw _ (List.mem_of_getElem? (i := 40) rfl))) (ty := (.object "com/example/rootline/rootline/heap/LongIntTable")) (by decide)
  have F_unions_hs_1 : Fld Z h1 hs sH "unions" "Lcom/example/rootline/rootline/heap/LongIntTable;" .null := D1 (Or.inr (hw _ (List.mem_of_getElem? (i := 42) rfl))) (ty := (.object "com/example/rootline/rootline/heap/LongIntTable")) (by decide)
  have F_left_hs_1 : Fld Z h1 hs sH "left" "[I" .null := D1 (Or.inl (hw _ (List.mem_of_getElem? (i := 44) rfl))) (ty := (.array .int)) (by decide)
  have F_right_hs_1 : Fld Z h1 hs sH "right" "[I" .null := D1 (Or.inl (hw _ (List.mem_of_getElem? (i := 46) rfl))) (ty := (.array .int)) (by decide)
  have F_merged_hs_1 : Fld Z h1 hs sH "merged" "[I" .null := D1 (Or.inl (hw _ (List.mem_of_getElem? (i := 48) rfl))) (ty := (.array .int)) (by decide)
  have g_hs : n0 ≤ hs := Nat.le_trans Z0 (Nat.le_of_eq g1.symm)
  have siz_2 := Nat.le_trans Z0 E1.1
  obtain ⟨_, _, ⟨T3, L3, k3, n3⟩, -, X3, ⟨Lc3, hQ3, l3, y3, z3⟩, st3⟩ := X1.specialBack hx (y := (⟨"com/example/rootline/rootline/reach/HolderSets", "<init>", "()V"⟩ : MethodName)) rfl hown (mvT hZ (hw _ (List.mem_of_getElem? (i := 5) rfl))) (mvT hZ (hw _ (List.mem_of_getElem? (i := 6) rfl))) (mvT hZ (hw _ (List.mem_of_getElem? (i := 7) rfl))) (by decide) (backOf (W := 1) (rm1 l Z a0 hw [] hs h1 n0 siz_2 E_hs_1 F_rest_hs_1 F_highest_hs_1 F_sizes_hs_1 F_count_hs_1 F_withOne_hs_1 F_unions_hs_1 F_left_hs_1 F_right_hs_1 F_merged_hs_1 g_hs) hZ (hw _ (List.mem_of_getElem? (i := 7) rfl)) (hw _ (List.mem_of_getElem? (i := 4) rfl)) (by decide) (by decide)) (g := (mkF m 33 #[.val (.int x0), .val (.int x1), .val (.int x2), .val (.int x3), .val (.int H1), .val (.int H2), .val (.int H3), .val (.int (3 : Int32)), .unset, .unset, .unset, .unset, .unset, .unset, .unset, .unset, .unset, .unset] [(.ref hs), (.ref hs)])) rfl (by rw [hml]; rfl) (Steps.refl _) (a := hs) (argsL := []) (rest := [(.ref hs)]) (lenOf pd___V rfl) rfl (by show 2 * 0 + _ ≤ _; exact Nat.le_of_eq rfl) (hb hby at_33) (fun _ _ => ⟨rfl, e1, (by decide : 1 + 12 ≤ _), (by decide : 9 + 358 ≤ _)⟩)
  dsimp only [Pt.U, Pt.locs, Pt.cells, Pt.slots] at X3 l3 y3 z3 st3 hQ3
  subst l3 y3 z3
  obtain ⟨rfl, N3q, K3, ra, ha, sa, t, ka, va, kr, kh, ks, Kf, Vf, HSi, hVf⟩ := hQ3
  have siz_4 := Nat.le_trans siz_2 K3.1
  have E_hs : Exa Z T3.heap hs "com/example/rootline/rootline/reach/HolderSets" := HSi.2.1
  have N3 := Fr.app N0 N3q
  obtain ⟨cq5, kq5, q5a, q5b, q5c⟩ := isOf hZ rfl E_hs
  obtain ⟨_, _, ⟨T5, L5, k5, n5⟩, -, X5, ⟨Lc5, hQ5, l5, y5, z5⟩, st5⟩ := X3.virtualBack hx (y := (⟨"com/example/rootline/rootline/reach/HolderSets", "with", "(II)I"⟩ : MethodName)) (z := (⟨"com/example/rootline/rootline/reach/HolderSets", "with", "(II)I"⟩ : MethodName)) hown (mvT hZ (hw _ (List.mem_of_getElem? (i := 49) rfl))) (mvT hZ (hw _ (List.mem_of_getElem? (i := 50) rfl))) (notFace_of_selects (args := #[]) (mvT hZ (hw _ (List.mem_of_getElem? (i := 52) rfl)))) (mvT hZ (hw _ (List.mem_of_getElem? (i := 52) rfl))) (mvT hZ (hw _ (List.mem_of_getElem? (i := 51) rfl))) (by decide) (backOf (W := 0) (rmw_0 l Z a0 hw [] hs H1 ra ha sa t ka va kr kh ks Kf Vf  T3.heap n0 siz_4 HSi g_hs (fun i hi => own_emp Vf 0 0 (fun j hj q => absurd (hVf j hj) q) i hi) (fun j hj q => absurd (hVf j hj) q) hneH1 hgeH1) hZ (hw _ (List.mem_of_getElem? (i := 53) rfl)) (hw _ (List.mem_of_getElem? (i := 4) rfl)) (by decide) (by decide)) q5a q5c (g := (mkF m 49 #[.val (.int x0), .val (.int x1), .val (.int x2), .val (.int x3), .val (.int H1), .val (.int H2), .val (.int H3), .val (.int (3 : Int32)), .val (.ref hs), .unset, .unset, .unset, .unset, .unset, .unset, .unset, .unset, .unset] [(.int H1), (.int (0 : Int32)), (.ref hs)])) rfl (by rw [hml]; rfl) (Steps.refl _) (argsL := [(.int (0 : Int32)), (.int H1)]) (rest := []) (lenOf pd__II_I rfl) rfl (by show 2 * 0 + _ ≤ _; exact Nat.le_of_eq rfl) (hb hby at_49) (fun _ _ => ⟨rfl, rfl, (by decide : 13 + 0 ≤ _), (by decide : 367 + 0 ≤ _)⟩)
  dsimp only [Pt.U, Pt.locs, Pt.cells, Pt.slots] at X5 l5 y5 z5 st5 hQ5
  subst l5 y5 z5
  obtain ⟨rfl, N5q, K5, p1, hp1, hV1, HS5⟩ := hQ5
  have siz_6 := Nat.le_trans siz_4 K5.1
  have E_hs_6 := E_hs.keep K5
  have occ1 := own_occ1 Kf Vf p1 (1 : Int32) (own_pair (0 : Int32) H1) hVf
  have HSn5 : HSS Z T5.heap hs ra ha sa t ka va kr kh ks (2 : Int32) [(.int (-1 : Int32)), (.int (0 : Int32)), (.int (0 : Int32)), (.int (0 : Int32)), (.int (0 : Int32)), (.int (0 : Int32)), (.int (0 : Int32)), (.int (0 : Int32)), (.int (0 : Int32)), (.int (0 : Int32)), (.int (0 : Int32)), (.int (0 : Int32)), (.int (0 : Int32)), (.int (0 : Int32)), (.int (0 : Int32)), (.int (0 : Int32))] [(.int (-1 : Int32)), (.int H1), (.int (0 : Int32)), (.int (0 : Int32)), (.int (0 : Int32)), (.int (0 : Int32)), (.int (0 : Int32)), (.int (0 : Int32)), (.int (0 : Int32)), (.int (0 : Int32)), (.int (0 : Int32)), (.int (0 : Int32)), (.int (0 : Int32)), (.int (0 : Int32)), (.int (0 : Int32)), (.int (0 : Int32))] [(.int (0 : Int32)), (.int (1 : Int32)), (.int (0 : Int32)), (.int (0 : Int32)), (.int (0 : Int32)), (.int (0 : Int32)), (.int (0 : Int32)), (.int (0 : Int32)), (.int (0 : Int32)), (.int (0 : Int32)), (.int (0 : Int32)), (.int (0 : Int32)), (.int (0 : Int32)), (.int (0 : Int32)), (.int (0 : Int32)), (.int (0 : Int32))] (1 : Int32) (upd Kf p1 (own_pair (0 : Int32) H1)) (upd Vf p1 (1 : Int32)) := HS5
  have N5 := Fr.app N3 N5q
  obtain ⟨cq7, kq7, q7a, q7b, q7c⟩ := isOf hZ rfl E_hs_6
  obtain ⟨_, _, ⟨T7, L7, k7, n7⟩, -, X7, ⟨Lc7, hQ7, l7, y7, z7⟩, st7⟩ := X5.virtualBack hx (y := (⟨"com/example/rootline/rootline/reach/HolderSets", "with", "(II)I"⟩ : MethodName)) (z := (⟨"com/example/rootline/rootline/reach/HolderSets", "with", "(II)I"⟩ : MethodName)) hown (mvT hZ (hw _ (List.mem_of_getElem? (i := 49) rfl))) (mvT hZ (hw _ (List.mem_of_getElem? (i := 50) rfl))) (notFace_of_selects (args := #[]) (mvT hZ (hw _ (List.mem_of_getElem? (i := 52) rfl)))) (mvT hZ (hw _ (List.mem_of_getElem? (i := 52) rfl))) (mvT hZ (hw _ (List.mem_of_getElem? (i := 51) rfl))) (by decide) (backOf (W := 0) (rme_1 l Z a0 hw [] hs H2 ra ha sa t ka va kr kh ks (upd Kf p1 (own_pair (0 : Int32) H1)) (upd Vf p1 (1 : Int32)) H1 T5.heap n0 siz_6 HSn5 heqH2) hZ (hw _ (List.mem_of_getElem? (i := 53) rfl)) (hw _ (List.mem_of_getElem? (i := 4) rfl)) (by decide) (by decide)) q7a q7c (g := (mkF m 70 #[.val (.int x0), .val (.int x1), .val (.int x2), .val (.int x3), .val (.int H1), .val (.int H2), .val (.int H3), .val (.int (3 : Int32)), .val (.ref hs), .val (.int (1 : Int32)), .unset, .unset, .unset, .unset, .unset, .unset, .unset, .unset] [(.int H2), (.int (1 : Int32)), (.ref hs)])) rfl (by rw [hml]; rfl) (Steps.refl _) (argsL := [(.int (1 : Int32)), (.int H2)]) (rest := []) (lenOf pd__II_I rfl) rfl (by show 2 * 0 + _ ≤ _; exact Nat.le_of_eq rfl) (hb hby at_70) (fun _ _ => ⟨rfl, rfl, (by decide : 13 + 0 ≤ _), (by decide : 367 + 0 ≤ _)⟩)
  dsimp only [Pt.U, Pt.locs, Pt.cells, Pt.slots] at X7 l7 y7 z7 st7 hQ7
  subst l7 y7 z7
  obtain ⟨rfl, N7q, e7⟩ := hQ7
  have N7 := Fr.app N5 N7q
  obtain ⟨cq8, kq8, q8a, q8b, q8c⟩ := isOf hZ e7 E_hs_6
  obtain ⟨_, _, ⟨T8, L8, k8, n8⟩, -, X8, ⟨Lc8, hQ8, l8, y8, z8⟩, st8⟩ := X7.virtualBack hx (y := (⟨"com/example/rootline/rootline/reach/HolderSets", "with", "(II)I"⟩ : MethodName)) (z := (⟨"com/example/rootline/rootline/reach/HolderSets", "with", "(II)I"⟩ : MethodName)) hown (mvT hZ (hw _ (List.mem_of_getElem? (i := 49) rfl))) (mvT hZ (hw _ (List.mem_of_getElem? (i := 50) rfl))) (notFace_of_selects (args := #[]) (mvT hZ (hw _ (List.mem_of_getElem? (i := 52) rfl)))) (mvT hZ (hw _ (List.mem_of_getElem? (i := 52) rfl))) (mvT hZ (hw _ (List.mem_of_getElem? (i := 51) rfl))) (by decide) (backOf (W := 0) (rme_1 l Z a0 hw [] hs H3 ra ha sa t ka va kr kh ks (upd Kf p1 (own_pair (0 : Int32) H1)) (upd Vf p1 (1 : Int32)) H1 T5.heap n0 siz_6 HSn5 heqH3) hZ (hw _ (List.mem_of_getElem? (i := 53) rfl)) (hw _ (List.mem_of_getElem? (i := 4) rfl)) (by decide) (by decide)) q8a q8c (g := (mkF m 92 #[.val (.int x0), .val (.int x1), .val (.int x2), .val (.int x3), .val (.int H1), .val (.int H2), .val (.int H3), .val (.int (3 : Int32)), .val (.ref hs), .val (.int (1 : Int32)), .val (.int (1 : Int32)), .unset, .unset, .unset, .unset, .unset, .unset, .unset] [(.int H3), (.int (1 : Int32)), (.ref hs)])) rfl (by rw [hml]; rfl) (Steps.refl _) (argsL := [(.int (1 : Int32)), (.int H3)]) (rest := []) (lenOf pd__II_I rfl) rfl (by show 2 * 0 + _ ≤ _; exact Nat.le_of_eq rfl) (hb hby at_92) (fun _ _ => ⟨rfl, e7, (by decide : 13 + 0 ≤ _), (by decide : 367 + 0 ≤ _)⟩)
  dsimp only [Pt.U, Pt.locs, Pt.cells, Pt.slots] at X8 l8 y8 z8 st8 hQ8
  subst l8 y8 z8
  obtain ⟨rfl, N8q, e8⟩ := hQ8
  have N8 := Fr.app N7 N8q
  obtain ⟨T9, h9, k9, X9, e9, E9, A9, st9⟩ := newP X8 hx hZ (hw _ (List.mem_of_getElem? (i := 11) rfl)) e8 (g := (mkF m 103 #[.val (.int x0), .val (.int x1), .val (.int x2), .val (.int x3), .val (.int H1), .val (.int H2), .val (.int H3), .val (.int (3 : Int32)), .val (.ref hs), .val (.int (1 : Int32)), .val (.int (1 : Int32)), .val (.int (1 : Int32)), .unset, .unset, .unset, .unset, .unset, .unset] [(.int (3 : Int32))])) rfl (hb hby at_103) rfl (by decide) (cap := 3) (by decide) (by decide) (by decide) (by decide)
  obtain ⟨ea, g9⟩ : ∃ z, z = T5.heap.size := ⟨_, rfl⟩
  rw [← g9] at A9 st9
  have V_ea_9 : Arv Z h9 ea k9 .int (3 : Int32) [(.int (0 : Int32)), (.int (0 : Int32)), (.int (0 : Int32))] (.int (0 : Int32)) := (Arv.new A9 (by decide)).pad (pad_rep [] (.int (0 : Int32)) 3)
  have lt_hs_ea : hs < ea := Nat.lt_of_lt_of_le E_hs_6.lt (Nat.le_of_eq g9.symm)
  have lt_va_ea : va < ea := Nat.lt_of_lt_of_le HSn5.lt (Nat.le_of_eq g9.symm)
  have g_ea : n0 ≤ ea := Nat.le_trans siz_6 (Nat.le_of_eq g9.symm)
  have siz_10 := Nat.le_trans siz_6 E9.1
  have E_hs_10 := E_hs_6.ext E9
  have HS_10 := HSn5.ext E9
  obtain ⟨T11, h11, L11, X11, e11, N11, W11, V11, st11⟩ := own_stI X9 hx hZ e9 V_ea_9 (j := (0 : Int32)) ⟨by decide, by decide⟩ (i := 0) rfl (Nat.le_of_ble_eq_true rfl) N8 g_ea (g := (mkF m 122 #[.val (.int x0), .val (.int x1), .val (.int x2), .val (.int x3), .val (.int H1), .val (.int H2), .val (.int H3), .val (.int (3 : Int32)), .val (.ref hs), .val (.int (1 : Int32)), .val (.int (1 : Int32)), .val (.int (1 : Int32)), .val (.ref ea), .val (.int (0 : Int32)), .unset, .unset, .unset, .unset] [(.int H1), (.int (0 : Int32)), (.ref ea)])) rfl rfl (hb hby at_122)
  have siz_12 := Nat.le_trans siz_10 (Keep.of_wr W11).1
  have E_hs_12 := E_hs_10.wr W11
  have HS_12 := HS_10.wr W11 lt_va_ea
  have V_ea_11 : Arv Z h11 ea k9 .int (3 : Int32) [(.int H1), (.int (0 : Int32)), (.int (0 : Int32))] (.int (0 : Int32)) := V11
  obtain ⟨cq13, kq13, q13a, q13b, q13c⟩ := isOf hZ e11 E_hs_12
  obtain ⟨_, _, ⟨T13, L13, k13, n13⟩, -, X13, ⟨Lc13, hQ13, l13, y13, z13⟩, st13⟩ := X11.virtualBack hx (y := (⟨"com/example/rootline/rootline/reach/HolderSets", "holders", "(I)[I"⟩ : MethodName)) (z := (⟨"com/example/rootline/rootline/reach/HolderSets", "holders", "(I)[I"⟩ : MethodName)) hown (mvT hZ (hw _ (List.mem_of_getElem? (i := 76) rfl))) (mvT hZ (hw _ (List.mem_of_getElem? (i := 77) rfl))) (notFace_of_selects (args := #[]) (mvT hZ (hw _ (List.mem_of_getElem? (i := 79) rfl)))) (mvT hZ (hw _ (List.mem_of_getElem? (i := 79) rfl))) (mvT hZ (hw _ (List.mem_of_getElem? (i := 78) rfl))) (by decide) (backOf (W := 0) (rmh_1_1 l Z a0 hw [] hs ra ha sa t ka va kr kh ks (upd Kf p1 (own_pair (0 : Int32) H1)) (upd Vf p1 (1 : Int32)) H1 h11 n0 siz_12 HS_12) hZ (hw _ (List.mem_of_getElem? (i := 80) rfl)) (hw _ (List.mem_of_getElem? (i := 4) rfl)) (by decide) (by decide)) q13a q13c (g := (mkF m 185 #[.val (.int x0), .val (.int x1), .val (.int x2), .val (.int x3), .val (.int H1), .val (.int H2), .val (.int H3), .val (.int (3 : Int32)), .val (.ref hs), .val (.int (1 : Int32)), .val (.int (1 : Int32)), .val (.int (1 : Int32)), .val (.ref ea), .val (.int (1 : Int32)), .unset, .unset, .unset, .unset] [(.int (1 : Int32)), (.ref hs)])) rfl (by rw [hml]; rfl) (Steps.refl _) (argsL := [(.int (1 : Int32))]) (rest := []) (lenOf pd__I__I rfl) rfl (by show 2 * 0 + _ ≤ _; exact Nat.le_of_eq rfl) (hb hby at_185) (fun _ _ => ⟨rfl, e11, (by decide : 14 + 1 ≤ _), (by decide : 370 + 1 ≤ _)⟩)
  dsimp only [Pt.U, Pt.locs, Pt.cells, Pt.slots] at X13 l13 y13 z13 st13 hQ13
  subst l13 y13 z13
  obtain ⟨g1, kg1, rfl, N13q, K13, sr13, Vr13⟩ := hQ13
  have siz_14 := Nat.le_trans siz_12 K13.1
  have E_hs_14 := E_hs_12.keep K13
  have HS_14 := HS_12.keep K13
  have V_ea_14 := V_ea_11.keep K13 nin0
  have N13 := Fr.app N11 N13q
  obtain ⟨cq15, kq15, q15a, q15b, q15c⟩ := isOf hZ rfl E_hs_14
  obtain ⟨_, _, ⟨T15, L15, k15, n15⟩, -, X15, ⟨Lc15, hQ15, l15, y15, z15⟩, st15⟩ := X13.virtualBack hx (y := (⟨"com/example/rootline/rootline/reach/HolderSets", "holders", "(I)[I"⟩ : MethodName)) (z := (⟨"com/example/rootline/rootline/reach/HolderSets", "holders", "(I)[I"⟩ : MethodName)) hown (mvT hZ (hw _ (List.mem_of_getElem? (i := 76) rfl))) (mvT hZ (hw _ (List.mem_of_getElem? (i := 77) rfl))) (notFace_of_selects (args := #[]) (mvT hZ (hw _ (List.mem_of_getElem? (i := 79) rfl)))) (mvT hZ (hw _ (List.mem_of_getElem? (i := 79) rfl))) (mvT hZ (hw _ (List.mem_of_getElem? (i := 78) rfl))) (by decide) (backOf (W := 0) (rmh_1_1 l Z a0 hw [] hs ra ha sa t ka va kr kh ks (upd Kf p1 (own_pair (0 : Int32) H1)) (upd Vf p1 (1 : Int32)) H1 T13.heap n0 siz_14 HS_14) hZ (hw _ (List.mem_of_getElem? (i := 80) rfl)) (hw _ (List.mem_of_getElem? (i := 4) rfl)) (by decide) (by decide)) q15a q15c (g := (mkF m 296 #[.val (.int x0), .val (.int x1), .val (.int x2), .val (.int x3), .val (.int H1), .val (.int H2), .val (.int H3), .val (.int (3 : Int32)), .val (.ref hs), .val (.int (1 : Int32)), .val (.int (1 : Int32)), .val (.int (1 : Int32)), .val (.ref ea), .val (.int (1 : Int32)), .val (.ref g1), .val (.int (1 : Int32)), .unset, .unset] [(.int (1 : Int32)), (.ref hs)])) rfl (by rw [hml]; rfl) (Steps.refl _) (argsL := [(.int (1 : Int32))]) (rest := []) (lenOf pd__I__I rfl) rfl (by show 2 * 0 + _ ≤ _; exact Nat.le_of_eq rfl) (hb hby at_296) (fun _ _ => ⟨rfl, rfl, (by decide : 15 + 1 ≤ _), (by decide : 371 + 1 ≤ _)⟩)
  dsimp only [Pt.U, Pt.locs, Pt.cells, Pt.slots] at X15 l15 y15 z15 st15 hQ15
  subst l15 y15 z15
  obtain ⟨g2, kg2, rfl, N15q, K15, sr15, Vr15⟩ := hQ15
  have siz_16 := Nat.le_trans siz_14 K15.1
  have E_hs_16 := E_hs_14.keep K15
  have HS_16 := HS_14.keep K15
  have V_ea_16 := V_ea_14.keep K15 nin0
  have V_g1_16 := Vr13.keep K15 nin0
  have N15 := Fr.app N13 N15q
  obtain ⟨cq17, kq17, q17a, q17b, q17c⟩ := isOf hZ rfl E_hs_16
  obtain ⟨_, _, ⟨T17, L17, k17, n17⟩, -, X17, ⟨Lc17, hQ17, l17, y17, z17⟩, st17⟩ := X15.virtualBack hx (y := (⟨"com/example/rootline/rootline/reach/HolderSets", "holders", "(I)[I"⟩ : MethodName)) (z := (⟨"com/example/rootline/rootline/reach/HolderSets", "holders", "(I)[I"⟩ : MethodName)) hown (mvT hZ (hw _ (List.mem_of_getElem? (i := 76) rfl))) (mvT hZ (hw _ (List.mem_of_getElem? (i := 77) rfl))) (notFace_of_selects (args := #[]) (mvT hZ (hw _ (List.mem_of_getElem? (i := 79) rfl)))) (mvT hZ (hw _ (List.mem_of_getElem? (i := 79) rfl))) (mvT hZ (hw _ (List.mem_of_getElem? (i := 78) rfl))) (by decide) (backOf (W := 0) (rmh_1_0 l Z a0 hw [] hs ra ha sa t ka va kr kh ks (upd Kf p1 (own_pair (0 : Int32) H1)) (upd Vf p1 (1 : Int32)) H1 T15.heap n0 siz_16 HS_16) hZ (hw _ (List.mem_of_getElem? (i := 80) rfl)) (hw _ (List.mem_of_getElem? (i := 4) rfl)) (by decide) (by decide)) q17a q17c (g := (mkF m 359 #[.val (.int x0), .val (.int x1), .val (.int x2), .val (.int x3), .val (.int H1), .val (.int H2), .val (.int H3), .val (.int (3 : Int32)), .val (.ref hs), .val (.int (1 : Int32)), .val (.int (1 : Int32)), .val (.int (1 : Int32)), .val (.ref ea), .val (.int (1 : Int32)), .val (.ref g1), .val (.int (1 : Int32)), .val (.ref g2), .unset] [(.int (0 : Int32)), (.ref hs)])) rfl (by rw [hml]; rfl) (Steps.refl _) (argsL := [(.int (0 : Int32))]) (rest := []) (lenOf pd__I__I rfl) rfl (by show 2 * 0 + _ ≤ _; exact Nat.le_of_eq rfl) (hb hby at_359) (fun _ _ => ⟨rfl, rfl, (by decide : 16 + 1 ≤ _), (by decide : 372 + 0 ≤ _)⟩)
  dsimp only [Pt.U, Pt.locs, Pt.cells, Pt.slots] at X17 l17 y17 z17 st17 hQ17
  subst l17 y17 z17
  obtain ⟨g3, kg3, rfl, N17q, K17, sr17, Vr17⟩ := hQ17
  have siz_18 := Nat.le_trans siz_16 K17.1
  have E_hs_18 := E_hs_16.keep K17
  have HS_18 := HS_16.keep K17
  have V_ea_18 := V_ea_16.keep K17 nin0
  have V_g1_18 := V_g1_16.keep K17 nin0
  have V_g2_18 := Vr15.keep K17 nin0
  have N17 := Fr.app N15 N17q
  obtain ⟨fs, hr, hrun, hended, hW, hsame⟩ := X17.leave (v := some (.int (1 : Int32))) (fun h => by rw [Bd.returns] at h; cases h)
  refine ⟨_, _, pre0 _ ?_, hrun, hended, _, _, rfl, ?_, ⟨_, rfl⟩, hW, hsame.mono (by decide) (by decide)⟩
  · show Steps p.tables e below (s₁.setTop (mkF m 0 #[.val (.int x0), .val (.int x1), .val (.int x2), .val (.int x3), .unset, .unset, .unset, .unset, .unset, .unset, .unset, .unset, .unset, .unset, .unset, .unset, .unset, .unset] [])) _
    refine XS.iloadN X0.here hx rfl (hb hby at_0) rfl ?_
    refine X0.ldcInt hx hown (mvT hZ (hw _ (List.mem_of_getElem? (i := 0) rfl))) (g := (mkF m 1 #[.val (.int x0), .val (.int x1), .val (.int x2), .val (.int x3), .unset, .unset, .unset, .unset, .unset, .unset, .unset, .unset, .unset, .unset, .unset, .unset, .unset, .unset] [(.int x0)])) rfl (hb hby at_1) _ ?_
    refine XS.iand X0.here hx rfl (hb hby at_3) rfl ?_
    show Steps p.tables e below (s₁.setTop (mkF m 4 #[.val (.int x0), .val (.int x1), .val (.int x2), .val (.int x3), .unset, .unset, .unset, .unset, .unset, .unset, .unset, .unset, .unset, .unset, .unset, .unset, .unset, .unset] [(.int (x0 &&& (536870911 : Int32)))])) _
    rw [← eH1]
    show Steps p.tables e below (s₁.setTop (mkF m 4 #[.val (.int x0), .val (.int x1), .val (.int x2), .val (.int x3), .unset, .unset, .unset, .unset, .unset, .unset, .unset, .unset, .unset, .unset, .unset, .unset, .unset, .unset] [(.int H1)])) _
    refine XS.istore X0.here hx rfl (hb hby at_4) rfl (l' := #[.val (.int x0), .val (.int x1), .val (.int x2), .val (.int x3), .val (.int H1), .unset, .unset, .unset, .unset, .unset, .unset, .unset, .unset, .unset, .unset, .unset, .unset, .unset]) rfl ?_
    refine XS.iload X0.here hx rfl (hb hby at_6) rfl ?_
    refine XS.iloadN X0.here hx rfl (hb hby at_8) rfl ?_
    refine X0.ldcInt hx hown (mvT hZ (hw _ (List.mem_of_getElem? (i := 0) rfl))) (g := (mkF m 9 #[.val (.int x0), .val (.int x1), .val (.int x2), .val (.int x3), .val (.int H1), .unset, .unset, .unset, .unset, .unset, .unset, .unset, .unset, .unset, .unset, .unset, .unset, .unset] [(.int x1), (.int H1)])) rfl (hb hby at_9) _ ?_
    show Steps p.tables e below (s₁.setTop (mkF m 11 #[.val (.int x0), .val (.int x1), .val (.int x2), .val (.int x3), .val (.int H1), .unset, .unset, .unset, .unset, .unset, .unset, .unset, .unset, .unset, .unset, .unset, .unset, .unset] [(.int (536870911 : Int32)), (.int x1), (.int H1)])) _
    refine XS.iand X0.here hx rfl (hb hby at_11) rfl ?_
    refine XS.iadd X0.here hx rfl (hb hby at_12) rfl ?_
    show Steps p.tables e below (s₁.setTop (mkF m 13 #[.val (.int x0), .val (.int x1), .val (.int x2), .val (.int x3), .val (.int H1), .unset, .unset, .unset, .unset, .unset, .unset, .unset, .unset, .unset, .unset, .unset, .unset, .unset] [(.int (H1 + (x1 &&& (536870911 : Int32))))])) _
    rw [← eH2]
    show Steps p.tables e below (s₁.setTop (mkF m 13 #[.val (.int x0), .val (.int x1), .val (.int x2), .val (.int x3), .val (.int H1), .unset, .unset, .unset, .unset, .unset, .unset, .unset, .unset, .unset, .unset, .unset, .unset, .unset] [(.int H2)])) _
    refine XS.istore X0.here hx rfl (hb hby at_13) rfl (l' := #[.val (.int x0), .val (.int x1), .val (.int x2), .val (.int x3), .val (.int H1), .val (.int H2), .unset, .unset, .unset, .unset, .unset, .unset, .unset, .unset, .unset, .unset, .unset, .unset]) rfl ?_
    refine XS.iload X0.here hx rfl (hb hby at_15) rfl ?_
    show Steps p.tables e below (s₁.setTop (mkF m 17 #[.val (.int x0), .val (.int x1), .val (.int x2), .val (.int x3), .val (.int H1), .val (.int H2), .unset, .unset, .unset, .unset, .unset, .unset, .unset, .unset, .unset, .unset, .unset, .unset] [(.int H2)])) _
    refine XS.iloadN X0.here hx rfl (hb hby at_17) rfl ?_
    refine X0.ldcInt hx hown (mvT hZ (hw _ (List.mem_of_getElem? (i := 1) rfl))) (g := (mkF m 18 #[.val (.int x0), .val (.int x1), .val (.int x2), .val (.int x3), .val (.int H1), .val (.int H2), .unset, .unset, .unset, .unset, .unset, .unset, .unset, .unset, .unset, .unset, .unset, .unset] [(.int x2), (.int H2)])) rfl (hb hby at_18) _ ?_
    refine XS.iand X0.here hx rfl (hb hby at_20) rfl ?_
    refine XS.iadd X0.here hx rfl (hb hby at_21) rfl ?_
    show Steps p.tables e below (s₁.setTop (mkF m 22 #[.val (.int x0), .val (.int x1), .val (.int x2), .val (.int x3), .val (.int H1), .val (.int H2), .unset, .unset, .unset, .unset, .unset, .unset, .unset, .unset, .unset, .unset, .unset, .unset] [(.int (H2 + (x2 &&& (1073741823 : Int32))))])) _
    rw [← eH3]
    show Steps p.tables e below (s₁.setTop (mkF m 22 #[.val (.int x0), .val (.int x1), .val (.int x2), .val (.int x3), .val (.int H1), .val (.int H2), .unset, .unset, .unset, .unset, .unset, .unset, .unset, .unset, .unset, .unset, .unset, .unset] [(.int H3)])) _
    refine XS.istore X0.here hx rfl (hb hby at_22) rfl (l' := #[.val (.int x0), .val (.int x1), .val (.int x2), .val (.int x3), .val (.int H1), .val (.int H2), .val (.int H3), .unset, .unset, .unset, .unset, .unset, .unset, .unset, .unset, .unset, .unset, .unset]) rfl ?_
    refine XS.iloadN X0.here hx rfl (hb hby at_24) rfl ?_
    refine XS.iconst X0.here hx rfl (hb hby at_25) ?_
    refine XS.iand X0.here hx rfl (hb hby at_26) rfl ?_
    show Steps p.tables e below (s₁.setTop (mkF m 27 #[.val (.int x0), .val (.int x1), .val (.int x2), .val (.int x3), .val (.int H1), .val (.int H2), .val (.int H3), .unset, .unset, .unset, .unset, .unset, .unset, .unset, .unset, .unset, .unset, .unset] [(.int (x3 &&& (3 : Int32)))])) _
    rw [hn]
    show Steps p.tables e below (s₁.setTop (mkF m 27 #[.val (.int x0), .val (.int x1), .val (.int x2), .val (.int x3), .val (.int H1), .val (.int H2), .val (.int H3), .unset, .unset, .unset, .unset, .unset, .unset, .unset, .unset, .unset, .unset, .unset] [(.int (3 : Int32))])) _
    refine XS.istore X0.here hx rfl (hb hby at_27) rfl (l' := #[.val (.int x0), .val (.int x1), .val (.int x2), .val (.int x3), .val (.int H1), .val (.int H2), .val (.int H3), .val (.int (3 : Int32)), .unset, .unset, .unset, .unset, .unset, .unset, .unset, .unset, .unset, .unset]) rfl ?_
    refine st1 _ ?_
    show Steps p.tables e below (T1.setTop (mkF m 32 #[.val (.int x0), .val (.int x1), .val (.int x2), .val (.int x3), .val (.int H1), .val (.int H2), .val (.int H3), .val (.int (3 : Int32)), .unset, .unset, .unset, .unset, .unset, .unset, .unset, .unset, .unset, .unset] [(.ref hs)])) _
    refine XS.dup X1.here hx rfl (hb hby at_32) rfl rfl ?_
    refine st3.trans ?_
    show Steps p.tables e below (T3.setTop (mkF m 36 #[.val (.int x0), .val (.int x1), .val (.int x2), .val (.int x3), .val (.int H1), .val (.int H2), .val (.int H3), .val (.int (3 : Int32)), .unset, .unset, .unset, .unset, .unset, .unset, .unset, .unset, .unset, .unset] [(.ref hs)])) _
    refine XS.astore X3.here hx rfl (hb hby at_36) rfl rfl (l' := #[.val (.int x0), .val (.int x1), .val (.int x2), .val (.int x3), .val (.int H1), .val (.int H2), .val (.int H3), .val (.int (3 : Int32)), .val (.ref hs), .unset, .unset, .unset, .unset, .unset, .unset, .unset, .unset, .unset]) rfl ?_
    refine XS.iload X3.here hx rfl (hb hby at_38) rfl ?_
    refine XS.iconst X3.here hx rfl (hb hby at_40) ?_
    refine XS.icmpNo X3.here hx rfl (hb hby at_41) rfl (flt (by decide : ¬ ((3 : Int32) < (1 : Int32)))).1 ?_
    show Steps p.tables e below (T3.setTop (mkF m 44 #[.val (.int x0), .val (.int x1), .val (.int x2), .val (.int x3), .val (.int H1), .val (.int H2), .val (.int H3), .val (.int (3 : Int32)), .val (.ref hs), .unset, .unset, .unset, .unset, .unset, .unset, .unset, .unset, .unset] [])) _
    refine XS.aload X3.here hx rfl (hb hby at_44) rfl rfl ?_
    refine XS.iconst X3.here hx rfl (hb hby at_46) ?_
    refine XS.iload X3.here hx rfl (hb hby at_47) rfl ?_
    refine st5.trans ?_
    show Steps p.tables e below (T5.setTop (mkF m 52 #[.val (.int x0), .val (.int x1), .val (.int x2), .val (.int x3), .val (.int H1), .val (.int H2), .val (.int H3), .val (.int (3 : Int32)), .val (.ref hs), .unset, .unset, .unset, .unset, .unset, .unset, .unset, .unset, .unset] [(.int (1 : Int32))])) _
    refine XS.goto X5.here hx rfl (pc0 := 52) (pc' := 56) rfl (hb hby at_52) (by decide) (by decide) ?_
    refine XS.istore X5.here hx rfl (hb hby at_56) rfl (l' := #[.val (.int x0), .val (.int x1), .val (.int x2), .val (.int x3), .val (.int H1), .val (.int H2), .val (.int H3), .val (.int (3 : Int32)), .val (.ref hs), .val (.int (1 : Int32)), .unset, .unset, .unset, .unset, .unset, .unset, .unset, .unset]) rfl ?_
    refine XS.iload X5.here hx rfl (hb hby at_58) rfl ?_
    refine XS.iconst X5.here hx rfl (hb hby at_60) ?_
    show Steps p.tables e below (T5.setTop (mkF m 61 #[.val (.int x0), .val (.int x1), .val (.int x2), .val (.int x3), .val (.int H1), .val (.int H2), .val (.int H3), .val (.int (3 : Int32)), .val (.ref hs), .val (.int (1 : Int32)), .unset, .unset, .unset, .unset, .unset, .unset, .unset, .unset] [(.int (2 : Int32)), (.int (3 : Int32))])) _
    refine XS.icmpNo X5.here hx rfl (hb hby at_61) rfl (flt (by decide : ¬ ((3 : Int32) < (2 : Int32)))).1 ?_
    refine XS.aload X5.here hx rfl (hb hby at_64) rfl rfl ?_
    refine XS.iload X5.here hx rfl (hb hby at_66) rfl ?_
    refine XS.iload X5.here hx rfl (hb hby at_68) rfl ?_
    show Steps p.tables e below (T5.setTop (mkF m 70 #[.val (.int x0), .val (.int x1), .val (.int x2), .val (.int x3), .val (.int H1), .val (.int H2), .val (.int H3), .val (.int (3 : Int32)), .val (.ref hs), .val (.int (1 : Int32)), .unset, .unset, .unset, .unset, .unset, .unset, .unset, .unset] [(.int H2), (.int (1 : Int32)), (.ref hs)])) _
    refine st7.trans ?_
    show Steps p.tables e below (T7.setTop (mkF m 73 #[.val (.int x0), .val (.int x1), .val (.int x2), .val (.int x3), .val (.int H1), .val (.int H2), .val (.int H3), .val (.int (3 : Int32)), .val (.ref hs), .val (.int (1 : Int32)), .unset, .unset, .unset, .unset, .unset, .unset, .unset, .unset] [(.int (1 : Int32))])) _
    refine XS.goto X7.here hx rfl (pc0 := 73) (pc' := 78) rfl (hb hby at_73) (by decide) (by decide) ?_
    refine XS.istore X7.here hx rfl (hb hby at_78) rfl (l' := #[.val (.int x0), .val (.int x1), .val (.int x2), .val (.int x3), .val (.int H1), .val (.int H2), .val (.int H3), .val (.int (3 : Int32)), .val (.ref hs), .val (.int (1 : Int32)), .val (.int (1 : Int32)), .unset, .unset, .unset, .unset, .unset, .unset, .unset]) rfl ?_
    refine XS.iload X7.here hx rfl (hb hby at_80) rfl ?_
    show Steps p.tables e below (T7.setTop (mkF m 82 #[.val (.int x0), .val (.int x1), .val (.int x2), .val (.int x3), .val (.int H1), .val (.int H2), .val (.int H3), .val (.int (3 : Int32)), .val (.ref hs), .val (.int (1 : Int32)), .val (.int (1 : Int32)), .unset, .unset, .unset, .unset, .unset, .unset, .unset] [(.int (3 : Int32))])) _
    refine XS.iconst X7.here hx rfl (hb hby at_82) ?_
    refine XS.icmpNo X7.here hx rfl (hb hby at_83) rfl (flt (by decide : ¬ ((3 : Int32) < (3 : Int32)))).1 ?_
    refine XS.aload X7.here hx rfl (hb hby at_86) rfl rfl ?_
    refine XS.iload X7.here hx rfl (hb hby at_88) rfl ?_
    show Steps p.tables e below (T7.setTop (mkF m 90 #[.val (.int x0), .val (.int x1), .val (.int x2), .val (.int x3), .val (.int H1), .val (.int H2), .val (.int H3), .val (.int (3 : Int32)), .val (.ref hs), .val (.int (1 : Int32)), .val (.int (1 : Int32)), .unset, .unset, .unset, .unset, .unset, .unset, .unset] [(.int (1 : Int32)), (.ref hs)])) _
    refine XS.iload X7.here hx rfl (hb hby at_90) rfl ?_
    refine st8.trans ?_
    show Steps p.tables e below (T8.setTop (mkF m 95 #[.val (.int x0), .val (.int x1), .val (.int x2), .val (.int x3), .val (.int H1), .val (.int H2), .val (.int H3), .val (.int (3 : Int32)), .val (.ref hs), .val (.int (1 : Int32)), .val (.int (1 : Int32)), .unset, .unset, .unset, .unset, .unset, .unset, .unset] [(.int (1 : Int32))])) _
    refine XS.goto X8.here hx rfl (pc0 := 95) (pc' := 100) rfl (hb hby at_95) (by decide) (by decide) ?_
    refine XS.istore X8.here hx rfl (hb hby at_100) rfl (l' := #[.val (.int x0), .val (.int x1), .val (.int x2), .val (.int x3), .val (.int H1), .val (.int H2), .val (.int H3), .val (.int (3 : Int32)), .val (.ref hs), .val (.int (1 : Int32)), .val (.int (1 : Int32)), .val (.int (1 : Int32)), .unset, .unset, .unset, .unset, .unset, .unset]) rfl ?_
    show Steps p.tables e below (T8.setTop (mkF m 102 #[.val (.int x0), .val (.int x1), .val (.int x2), .val (.int x3), .val (.int H1), .val (.int H2), .val (.int H3), .val (.int (3 : Int32)), .val (.ref hs), .val (.int (1 : Int32)), .val (.int (1 : Int32)), .val (.int (1 : Int32)), .unset, .unset, .unset, .unset, .unset, .unset] [])) _
    refine XS.iconst X8.here hx rfl (hb hby at_102) ?_
    refine st9 _ ?_
    show Steps p.tables e below (T9.setTop (mkF m 105 #[.val (.int x0), .val (.int x1), .val (.int x2), .val (.int x3), .val (.int H1), .val (.int H2), .val (.int H3), .val (.int (3 : Int32)), .val (.ref hs), .val (.int (1 : Int32)), .val (.int (1 : Int32)), .val (.int (1 : Int32)), .unset, .unset, .unset, .unset, .unset, .unset] [(.ref ea)])) _
    refine XS.astore X9.here hx rfl (hb hby at_105) rfl rfl (l' := #[.val (.int x0), .val (.int x1), .val (.int x2), .val (.int x3), .val (.int H1), .val (.int H2), .val (.int H3), .val (.int (3 : Int32)), .val (.ref hs), .val (.int (1 : Int32)), .val (.int (1 : Int32)), .val (.int (1 : Int32)), .val (.ref ea), .unset, .unset, .unset, .unset, .unset]) rfl ?_
    refine XS.iconst X9.here hx rfl (hb hby at_107) ?_
    show Steps p.tables e below (T9.setTop (mkF m 108 #[.val (.int x0), .val (.int x1), .val (.int x2), .val (.int x3), .val (.int H1), .val (.int H2), .val (.int H3), .val (.int (3 : Int32)), .val (.ref hs), .val (.int (1 : Int32)), .val (.int (1 : Int32)), .val (.int (1 : Int32)), .val (.ref ea), .unset, .unset, .unset, .unset, .unset] [(.int (0 : Int32))])) _
    refine XS.istore X9.here hx rfl (hb hby at_108) rfl (l' := #[.val (.int x0), .val (.int x1), .val (.int x2), .val (.int x3), .val (.int H1), .val (.int H2), .val (.int H3), .val (.int (3 : Int32)), .val (.ref hs), .val (.int (1 : Int32)), .val (.int (1 : Int32)), .val (.int (1 : Int32)), .val (.ref ea), .val (.int (0 : Int32)), .unset, .unset, .unset, .unset]) rfl ?_
    refine XS.iload X9.here hx rfl (hb hby at_110) rfl ?_
    refine XS.iconst X9.here hx rfl (hb hby at_112) ?_
    refine XS.icmpNo X9.here hx rfl (hb hby at_113) rfl (flt (by decide : ¬ ((3 : Int32) < (1 : Int32)))).1 ?_
    show Steps p.tables e below (T9.setTop (mkF m 116 #[.val (.int x0), .val (.int x1), .val (.int x2), .val (.int x3), .val (.int H1), .val (.int H2), .val (.int H3), .val (.int (3 : Int32)), .val (.ref hs), .val (.int (1 : Int32)), .val (.int (1 : Int32)), .val (.int (1 : Int32)), .val (.ref ea), .val (.int (0 : Int32)), .unset, .unset, .unset, .unset] [])) _
    refine XS.aload X9.here hx rfl (hb hby at_116) rfl rfl ?_
    refine XS.iload X9.here hx rfl (hb hby at_118) rfl ?_
    refine XS.iload X9.here hx rfl (hb hby at_120) rfl ?_
    refine st11 _ ?_
    show Steps p.tables e below (T11.setTop (mkF m 123 #[.val (.int x0), .val (.int x1), .val (.int x2), .val (.int x3), .val (.int H1), .val (.int H2), .val (.int H3), .val (.int (3 : Int32)), .val (.ref hs), .val (.int (1 : Int32)), .val (.int (1 : Int32)), .val (.int (1 : Int32)), .val (.ref ea), .val (.int (0 : Int32)), .unset, .unset, .unset, .unset] [])) _
    refine XS.iload X11.here hx rfl (hb hby at_123) rfl ?_
    refine XS.iconst X11.here hx rfl (hb hby at_125) ?_
    refine XS.iadd X11.here hx rfl (hb hby at_126) rfl ?_
    show Steps p.tables e below (T11.setTop (mkF m 127 #[.val (.int x0), .val (.int x1), .val (.int x2), .val (.int x3), .val (.int H1), .val (.int H2), .val (.int H3), .val (.int (3 : Int32)), .val (.ref hs), .val (.int (1 : Int32)), .val (.int (1 : Int32)), .val (.int (1 : Int32)), .val (.ref ea), .val (.int (0 : Int32)), .unset, .unset, .unset, .unset] [(.int ((0 : Int32) + (1 : Int32)))])) _
    rw [show ((0 : Int32) + (1 : Int32)) = (1 : Int32) from by decide]
    show Steps p.tables e below (T11.setTop (mkF m 127 #[.val (.int x0), .val (.int x1), .val (.int x2), .val (.int x3), .val (.int H1), .val (.int H2), .val (.int H3), .val (.int (3 : Int32)), .val (.ref hs), .val (.int (1 : Int32)), .val (.int (1 : Int32)), .val (.int (1 : Int32)), .val (.ref ea), .val (.int (0 : Int32)), .unset, .unset, .unset, .unset] [(.int (1 : Int32))])) _
    refine XS.istore X11.here hx rfl (hb hby at_127) rfl (l' := #[.val (.int x0), .val (.int x1), .val (.int x2), .val (.int x3), .val (.int H1), .val (.int H2), .val (.int H3), .val (.int (3 : Int32)), .val (.ref hs), .val (.int (1 : Int32)), .val (.int (1 : Int32)), .val (.int (1 : Int32)), .val (.ref ea), .val (.int (1 : Int32)), .unset, .unset, .unset, .unset]) rfl ?_
    show Steps p.tables e below (T11.setTop (mkF m 129 #[.val (.int x0), .val (.int x1), .val (.int x2), .val (.int x3), .val (.int H1), .val (.int H2), .val (.int H3), .val (.int (3 : Int32)), .val (.ref hs), .val (.int (1 : Int32)), .val (.int (1 : Int32)), .val (.int (1 : Int32)), .val (.ref ea), .val (.int (1 : Int32)), .unset, .unset, .unset, .unset] [])) _
    refine XS.iload X11.here hx rfl (hb hby at_129) rfl ?_
    refine XS.iconst X11.here hx rfl (hb hby at_131) ?_
    refine XS.icmpNo X11.here hx rfl (hb hby at_132) rfl (flt (by decide : ¬ ((3 : Int32) < (2 : Int32)))).1 ?_
    refine XS.iload X11.here hx rfl (hb hby at_135) rfl ?_
    show Steps p.tables e below (T11.setTop (mkF m 137 #[.val (.int x0), .val (.int x1), .val (.int x2), .val (.int x3), .val (.int H1), .val (.int H2), .val (.int H3), .val (.int (3 : Int32)), .val (.ref hs), .val (.int (1 : Int32)), .val (.int (1 : Int32)), .val (.int (1 : Int32)), .val (.ref ea), .val (.int (1 : Int32)), .unset, .unset, .unset, .unset] [(.int H2)])) _
    refine XS.iload X11.here hx rfl (hb hby at_137) rfl ?_
    refine XS.icmpYes X11.here hx rfl (pc0 := 139) (pc' := 155) rfl (hb hby at_139) rfl (teq hq2).1 (by decide) (by decide) ?_
    refine XS.iload X11.here hx rfl (hb hby at_155) rfl ?_
    refine XS.iconst X11.here hx rfl (hb hby at_157) ?_
    show Steps p.tables e below (T11.setTop (mkF m 158 #[.val (.int x0), .val (.int x1), .val (.int x2), .val (.int x3), .val (.int H1), .val (.int H2), .val (.int H3), .val (.int (3 : Int32)), .val (.ref hs), .val (.int (1 : Int32)), .val (.int (1 : Int32)), .val (.int (1 : Int32)), .val (.ref ea), .val (.int (1 : Int32)), .unset, .unset, .unset, .unset] [(.int (3 : Int32)), (.int (3 : Int32))])) _
    refine XS.icmpNo X11.here hx rfl (hb hby at_158) rfl (flt (by decide : ¬ ((3 : Int32) < (3 : Int32)))).1 ?_
    refine XS.iload X11.here hx rfl (hb hby at_161) rfl ?_
    refine XS.iload X11.here hx rfl (hb hby at_163) rfl ?_
    refine XS.icmpYes X11.here hx rfl (pc0 := 165) (pc' := 181) rfl (hb hby at_165) rfl (teq hq3).1 (by decide) (by decide) ?_
    show Steps p.tables e below (T11.setTop (mkF m 181 #[.val (.int x0), .val (.int x1), .val (.int x2), .val (.int x3), .val (.int H1), .val (.int H2), .val (.int H3), .val (.int (3 : Int32)), .val (.ref hs), .val (.int (1 : Int32)), .val (.int (1 : Int32)), .val (.int (1 : Int32)), .val (.ref ea), .val (.int (1 : Int32)), .unset, .unset, .unset, .unset] [])) _
    refine XS.aload X11.here hx rfl (hb hby at_181) rfl rfl ?_
    refine XS.iload X11.here hx rfl (hb hby at_183) rfl ?_
    refine st13.trans ?_
    show Steps p.tables e below (T13.setTop (mkF m 188 #[.val (.int x0), .val (.int x1), .val (.int x2), .val (.int x3), .val (.int H1), .val (.int H2), .val (.int H3), .val (.int (3 : Int32)), .val (.ref hs), .val (.int (1 : Int32)), .val (.int (1 : Int32)), .val (.int (1 : Int32)), .val (.ref ea), .val (.int (1 : Int32)), .unset, .unset, .unset, .unset] [(.ref g1)])) _
    refine XS.astore X13.here hx rfl (hb hby at_188) rfl rfl (l' := #[.val (.int x0), .val (.int x1), .val (.int x2), .val (.int x3), .val (.int H1), .val (.int H2), .val (.int H3), .val (.int (3 : Int32)), .val (.ref hs), .val (.int (1 : Int32)), .val (.int (1 : Int32)), .val (.int (1 : Int32)), .val (.ref ea), .val (.int (1 : Int32)), .val (.ref g1), .unset, .unset, .unset]) rfl ?_
    show Steps p.tables e below (T13.setTop (mkF m 190 #[.val (.int x0), .val (.int x1), .val (.int x2), .val (.int x3), .val (.int H1), .val (.int H2), .val (.int H3), .val (.int (3 : Int32)), .val (.ref hs), .val (.int (1 : Int32)), .val (.int (1 : Int32)), .val (.int (1 : Int32)), .val (.ref ea), .val (.int (1 : Int32)), .val (.ref g1), .unset, .unset, .unset] [])) _
    refine XS.aload X13.here hx rfl (hb hby at_190) rfl rfl ?_
    refine own_len X13 hx hZ rfl Vr13 (g := (mkF m 192 #[.val (.int x0), .val (.int x1), .val (.int x2), .val (.int x3), .val (.int H1), .val (.int H2), .val (.int H3), .val (.int (3 : Int32)), .val (.ref hs), .val (.int (1 : Int32)), .val (.int (1 : Int32)), .val (.int (1 : Int32)), .val (.ref ea), .val (.int (1 : Int32)), .val (.ref g1), .unset, .unset, .unset] [(.ref g1)])) rfl rfl (hb hby at_192) ?_
    refine XS.iload X13.here hx rfl (hb hby at_193) rfl ?_
    refine XS.icmpNo X13.here hx rfl (hb hby at_195) rfl (teq (by decide : (1 : Int32) = (1 : Int32))).2 ?_
    show Steps p.tables e below (T13.setTop (mkF m 198 #[.val (.int x0), .val (.int x1), .val (.int x2), .val (.int x3), .val (.int H1), .val (.int H2), .val (.int H3), .val (.int (3 : Int32)), .val (.ref hs), .val (.int (1 : Int32)), .val (.int (1 : Int32)), .val (.int (1 : Int32)), .val (.ref ea), .val (.int (1 : Int32)), .val (.ref g1), .unset, .unset, .unset] [])) _
    refine XS.iconst X13.here hx rfl (hb hby at_198) ?_
    refine XS.goto X13.here hx rfl (pc0 := 199) (pc' := 203) rfl (hb hby at_199) (by decide) (by decide) ?_
    refine XS.istore X13.here hx rfl (hb hby at_203) rfl (l' := #[.val (.int x0), .val (.int x1), .val (.int x2), .val (.int x3), .val (.int H1), .val (.int H2), .val (.int H3), .val (.int (3 : Int32)), .val (.ref hs), .val (.int (1 : Int32)), .val (.int (1 : Int32)), .val (.int (1 : Int32)), .val (.ref ea), .val (.int (1 : Int32)), .val (.ref g1), .val (.int (1 : Int32)), .unset, .unset]) rfl ?_
    refine XS.iload X13.here hx rfl (hb hby at_205) rfl ?_
    show Steps p.tables e below (T13.setTop (mkF m 207 #[.val (.int x0), .val (.int x1), .val (.int x2), .val (.int x3), .val (.int H1), .val (.int H2), .val (.int H3), .val (.int (3 : Int32)), .val (.ref hs), .val (.int (1 : Int32)), .val (.int (1 : Int32)), .val (.int (1 : Int32)), .val (.ref ea), .val (.int (1 : Int32)), .val (.ref g1), .val (.int (1 : Int32)), .unset, .unset] [(.int (1 : Int32))])) _
    refine XS.ifNo X13.here hx rfl (hb hby at_207) rfl ((if0 _ _).trans (feq (by decide : ¬ ((1 : Int32) = (0 : Int32)))).1) ?_
    refine XS.iload X13.here hx rfl (hb hby at_210) rfl ?_
    refine XS.iconst X13.here hx rfl (hb hby at_212) ?_
    refine XS.icmpNo X13.here hx rfl (hb hby at_213) rfl (flt (by decide : ¬ ((1 : Int32) < (1 : Int32)))).1 ?_
    show Steps p.tables e below (T13.setTop (mkF m 216 #[.val (.int x0), .val (.int x1), .val (.int x2), .val (.int x3), .val (.int H1), .val (.int H2), .val (.int H3), .val (.int (3 : Int32)), .val (.ref hs), .val (.int (1 : Int32)), .val (.int (1 : Int32)), .val (.int (1 : Int32)), .val (.ref ea), .val (.int (1 : Int32)), .val (.ref g1), .val (.int (1 : Int32)), .unset, .unset] [])) _
    refine XS.aload X13.here hx rfl (hb hby at_216) rfl rfl ?_
    refine XS.iconst X13.here hx rfl (hb hby at_218) ?_
    refine own_ldI X13 hx hZ rfl Vr13 (j := (0 : Int32)) (w := H1) ⟨by decide, by decide⟩ rfl (g := (mkF m 219 #[.val (.int x0), .val (.int x1), .val (.int x2), .val (.int x3), .val (.int H1), .val (.int H2), .val (.int H3), .val (.int (3 : Int32)), .val (.ref hs), .val (.int (1 : Int32)), .val (.int (1 : Int32)), .val (.int (1 : Int32)), .val (.ref ea), .val (.int (1 : Int32)), .val (.ref g1), .val (.int (1 : Int32)), .unset, .unset] [(.int (0 : Int32)), (.ref g1)])) rfl rfl (hb hby at_219) ?_
    refine XS.aload X13.here hx rfl (hb hby at_220) rfl rfl ?_
    show Steps p.tables e below (T13.setTop (mkF m 222 #[.val (.int x0), .val (.int x1), .val (.int x2), .val (.int x3), .val (.int H1), .val (.int H2), .val (.int H3), .val (.int (3 : Int32)), .val (.ref hs), .val (.int (1 : Int32)), .val (.int (1 : Int32)), .val (.int (1 : Int32)), .val (.ref ea), .val (.int (1 : Int32)), .val (.ref g1), .val (.int (1 : Int32)), .unset, .unset] [(.ref ea), (.int H1)])) _
    refine XS.iconst X13.here hx rfl (hb hby at_222) ?_
    refine own_ldI X13 hx hZ rfl V_ea_14 (j := (0 : Int32)) (w := H1) ⟨by decide, by decide⟩ rfl (g := (mkF m 223 #[.val (.int x0), .val (.int x1), .val (.int x2), .val (.int x3), .val (.int H1), .val (.int H2), .val (.int H3), .val (.int (3 : Int32)), .val (.ref hs), .val (.int (1 : Int32)), .val (.int (1 : Int32)), .val (.int (1 : Int32)), .val (.ref ea), .val (.int (1 : Int32)), .val (.ref g1), .val (.int (1 : Int32)), .unset, .unset] [(.int (0 : Int32)), (.ref ea), (.int H1)])) rfl rfl (hb hby at_223) ?_
    refine XS.icmpNo X13.here hx rfl (hb hby at_224) rfl (teq (rfl : H1 = H1)).2 ?_
    refine XS.iconst X13.here hx rfl (hb hby at_227) ?_
    show Steps p.tables e below (T13.setTop (mkF m 228 #[.val (.int x0), .val (.int x1), .val (.int x2), .val (.int x3), .val (.int H1), .val (.int H2), .val (.int H3), .val (.int (3 : Int32)), .val (.ref hs), .val (.int (1 : Int32)), .val (.int (1 : Int32)), .val (.int (1 : Int32)), .val (.ref ea), .val (.int (1 : Int32)), .val (.ref g1), .val (.int (1 : Int32)), .unset, .unset] [(.int (1 : Int32))])) _
    refine XS.goto X13.here hx rfl (pc0 := 228) (pc' := 232) rfl (hb hby at_228) (by decide) (by decide) ?_
    refine XS.istore X13.here hx rfl (hb hby at_232) rfl (l' := #[.val (.int x0), .val (.int x1), .val (.int x2), .val (.int x3), .val (.int H1), .val (.int H2), .val (.int H3), .val (.int (3 : Int32)), .val (.ref hs), .val (.int (1 : Int32)), .val (.int (1 : Int32)), .val (.int (1 : Int32)), .val (.ref ea), .val (.int (1 : Int32)), .val (.ref g1), .val (.int (1 : Int32)), .unset, .unset]) rfl ?_
    refine XS.iload X13.here hx rfl (hb hby at_234) rfl ?_
    refine XS.ifNo X13.here hx rfl (hb hby at_236) rfl ((if0 _ _).trans (feq (by decide : ¬ ((1 : Int32) = (0 : Int32)))).1) ?_
    show Steps p.tables e below (T13.setTop (mkF m 239 #[.val (.int x0), .val (.int x1), .val (.int x2), .val (.int x3), .val (.int H1), .val (.int H2), .val (.int H3), .val (.int (3 : Int32)), .val (.ref hs), .val (.int (1 : Int32)), .val (.int (1 : Int32)), .val (.int (1 : Int32)), .val (.ref ea), .val (.int (1 : Int32)), .val (.ref g1), .val (.int (1 : Int32)), .unset, .unset] [])) _
    refine XS.iload X13.here hx rfl (hb hby at_239) rfl ?_
    refine XS.iconst X13.here hx rfl (hb hby at_241) ?_
    refine XS.icmpYes X13.here hx rfl (pc0 := 242) (pc' := 263) rfl (hb hby at_242) rfl (tlt (by decide : (1 : Int32) < (2 : Int32))).1 (by decide) (by decide) ?_
    refine XS.iload X13.here hx rfl (hb hby at_263) rfl ?_
    show Steps p.tables e below (T13.setTop (mkF m 265 #[.val (.int x0), .val (.int x1), .val (.int x2), .val (.int x3), .val (.int H1), .val (.int H2), .val (.int H3), .val (.int (3 : Int32)), .val (.ref hs), .val (.int (1 : Int32)), .val (.int (1 : Int32)), .val (.int (1 : Int32)), .val (.ref ea), .val (.int (1 : Int32)), .val (.ref g1), .val (.int (1 : Int32)), .unset, .unset] [(.int (1 : Int32))])) _
    refine XS.ifNo X13.here hx rfl (hb hby at_265) rfl ((if0 _ _).trans (feq (by decide : ¬ ((1 : Int32) = (0 : Int32)))).1) ?_
    refine XS.iload X13.here hx rfl (hb hby at_268) rfl ?_
    refine XS.iconst X13.here hx rfl (hb hby at_270) ?_
    refine XS.icmpYes X13.here hx rfl (pc0 := 271) (pc' := 292) rfl (hb hby at_271) rfl (tlt (by decide : (1 : Int32) < (3 : Int32))).1 (by decide) (by decide) ?_
    show Steps p.tables e below (T13.setTop (mkF m 292 #[.val (.int x0), .val (.int x1), .val (.int x2), .val (.int x3), .val (.int H1), .val (.int H2), .val (.int H3), .val (.int (3 : Int32)), .val (.ref hs), .val (.int (1 : Int32)), .val (.int (1 : Int32)), .val (.int (1 : Int32)), .val (.ref ea), .val (.int (1 : Int32)), .val (.ref g1), .val (.int (1 : Int32)), .unset, .unset] [])) _
    refine XS.aload X13.here hx rfl (hb hby at_292) rfl rfl ?_
    refine XS.iload X13.here hx rfl (hb hby at_294) rfl ?_
    refine st15.trans ?_
    show Steps p.tables e below (T15.setTop (mkF m 299 #[.val (.int x0), .val (.int x1), .val (.int x2), .val (.int x3), .val (.int H1), .val (.int H2), .val (.int H3), .val (.int (3 : Int32)), .val (.ref hs), .val (.int (1 : Int32)), .val (.int (1 : Int32)), .val (.int (1 : Int32)), .val (.ref ea), .val (.int (1 : Int32)), .val (.ref g1), .val (.int (1 : Int32)), .unset, .unset] [(.ref g2)])) _
    refine XS.astore X15.here hx rfl (hb hby at_299) rfl rfl (l' := #[.val (.int x0), .val (.int x1), .val (.int x2), .val (.int x3), .val (.int H1), .val (.int H2), .val (.int H3), .val (.int (3 : Int32)), .val (.ref hs), .val (.int (1 : Int32)), .val (.int (1 : Int32)), .val (.int (1 : Int32)), .val (.ref ea), .val (.int (1 : Int32)), .val (.ref g1), .val (.int (1 : Int32)), .val (.ref g2), .unset]) rfl ?_
    show Steps p.tables e below (T15.setTop (mkF m 301 #[.val (.int x0), .val (.int x1), .val (.int x2), .val (.int x3), .val (.int H1), .val (.int H2), .val (.int H3), .val (.int (3 : Int32)), .val (.ref hs), .val (.int (1 : Int32)), .val (.int (1 : Int32)), .val (.int (1 : Int32)), .val (.ref ea), .val (.int (1 : Int32)), .val (.ref g1), .val (.int (1 : Int32)), .val (.ref g2), .unset] [])) _
    refine XS.iload X15.here hx rfl (hb hby at_301) rfl ?_
    refine XS.iconst X15.here hx rfl (hb hby at_303) ?_
    refine XS.icmpNo X15.here hx rfl (hb hby at_304) rfl (flt (by decide : ¬ ((3 : Int32) < (1 : Int32)))).1 ?_
    refine XS.iload X15.here hx rfl (hb hby at_307) rfl ?_
    show Steps p.tables e below (T15.setTop (mkF m 309 #[.val (.int x0), .val (.int x1), .val (.int x2), .val (.int x3), .val (.int H1), .val (.int H2), .val (.int H3), .val (.int (3 : Int32)), .val (.ref hs), .val (.int (1 : Int32)), .val (.int (1 : Int32)), .val (.int (1 : Int32)), .val (.ref ea), .val (.int (1 : Int32)), .val (.ref g1), .val (.int (1 : Int32)), .val (.ref g2), .unset] [(.int (1 : Int32))])) _
    refine XS.ifNo X15.here hx rfl (hb hby at_309) rfl ((if0 _ _).trans (feq (by decide : ¬ ((1 : Int32) = (0 : Int32)))).1) ?_
    refine XS.aload X15.here hx rfl (hb hby at_312) rfl rfl ?_
    refine own_len X15 hx hZ rfl Vr15 (g := (mkF m 314 #[.val (.int x0), .val (.int x1), .val (.int x2), .val (.int x3), .val (.int H1), .val (.int H2), .val (.int H3), .val (.int (3 : Int32)), .val (.ref hs), .val (.int (1 : Int32)), .val (.int (1 : Int32)), .val (.int (1 : Int32)), .val (.ref ea), .val (.int (1 : Int32)), .val (.ref g1), .val (.int (1 : Int32)), .val (.ref g2), .unset] [(.ref g2)])) rfl rfl (hb hby at_314) ?_
    refine XS.iconst X15.here hx rfl (hb hby at_315) ?_
    show Steps p.tables e below (T15.setTop (mkF m 316 #[.val (.int x0), .val (.int x1), .val (.int x2), .val (.int x3), .val (.int H1), .val (.int H2), .val (.int H3), .val (.int (3 : Int32)), .val (.ref hs), .val (.int (1 : Int32)), .val (.int (1 : Int32)), .val (.int (1 : Int32)), .val (.ref ea), .val (.int (1 : Int32)), .val (.ref g1), .val (.int (1 : Int32)), .val (.ref g2), .unset] [(.int (1 : Int32)), (.int (1 : Int32))])) _
    refine XS.icmpNo X15.here hx rfl (hb hby at_316) rfl (teq (by decide : (1 : Int32) = (1 : Int32))).2 ?_
    refine XS.aload X15.here hx rfl (hb hby at_319) rfl rfl ?_
    refine XS.iconst X15.here hx rfl (hb hby at_321) ?_
    refine own_ldI X15 hx hZ rfl Vr15 (j := (0 : Int32)) (w := H1) ⟨by decide, by decide⟩ rfl (g := (mkF m 322 #[.val (.int x0), .val (.int x1), .val (.int x2), .val (.int x3), .val (.int H1), .val (.int H2), .val (.int H3), .val (.int (3 : Int32)), .val (.ref hs), .val (.int (1 : Int32)), .val (.int (1 : Int32)), .val (.int (1 : Int32)), .val (.ref ea), .val (.int (1 : Int32)), .val (.ref g1), .val (.int (1 : Int32)), .val (.ref g2), .unset] [(.int (0 : Int32)), (.ref g2)])) rfl rfl (hb hby at_322) ?_
    show Steps p.tables e below (T15.setTop (mkF m 323 #[.val (.int x0), .val (.int x1), .val (.int x2), .val (.int x3), .val (.int H1), .val (.int H2), .val (.int H3), .val (.int (3 : Int32)), .val (.ref hs), .val (.int (1 : Int32)), .val (.int (1 : Int32)), .val (.int (1 : Int32)), .val (.ref ea), .val (.int (1 : Int32)), .val (.ref g1), .val (.int (1 : Int32)), .val (.ref g2), .unset] [(.int H1)])) _
    refine XS.iload X15.here hx rfl (hb hby at_323) rfl ?_
    refine XS.icmpNo X15.here hx rfl (hb hby at_325) rfl (teq (rfl : H1 = H1)).2 ?_
    refine XS.iconst X15.here hx rfl (hb hby at_328) ?_
    refine XS.goto X15.here hx rfl (pc0 := 329) (pc' := 333) rfl (hb hby at_329) (by decide) (by decide) ?_
    show Steps p.tables e below (T15.setTop (mkF m 333 #[.val (.int x0), .val (.int x1), .val (.int x2), .val (.int x3), .val (.int H1), .val (.int H2), .val (.int H3), .val (.int (3 : Int32)), .val (.ref hs), .val (.int (1 : Int32)), .val (.int (1 : Int32)), .val (.int (1 : Int32)), .val (.ref ea), .val (.int (1 : Int32)), .val (.ref g1), .val (.int (1 : Int32)), .val (.ref g2), .unset] [(.int (1 : Int32))])) _
    refine XS.istore X15.here hx rfl (hb hby at_333) rfl (l' := #[.val (.int x0), .val (.int x1), .val (.int x2), .val (.int x3), .val (.int H1), .val (.int H2), .val (.int H3), .val (.int (3 : Int32)), .val (.ref hs), .val (.int (1 : Int32)), .val (.int (1 : Int32)), .val (.int (1 : Int32)), .val (.ref ea), .val (.int (1 : Int32)), .val (.ref g1), .val (.int (1 : Int32)), .val (.ref g2), .unset]) rfl ?_
    refine XS.goto X15.here hx rfl (pc0 := 335) (pc' := 356) rfl (hb hby at_335) (by decide) (by decide) ?_
    refine XS.aload X15.here hx rfl (hb hby at_356) rfl rfl ?_
    refine XS.iconst X15.here hx rfl (hb hby at_358) ?_
    show Steps p.tables e below (T15.setTop (mkF m 359 #[.val (.int x0), .val (.int x1), .val (.int x2), .val (.int x3), .val (.int H1), .val (.int H2), .val (.int H3), .val (.int (3 : Int32)), .val (.ref hs), .val (.int (1 : Int32)), .val (.int (1 : Int32)), .val (.int (1 : Int32)), .val (.ref ea), .val (.int (1 : Int32)), .val (.ref g1), .val (.int (1 : Int32)), .val (.ref g2), .unset] [(.int (0 : Int32)), (.ref hs)])) _
    refine st17.trans ?_
    show Steps p.tables e below (T17.setTop (mkF m 362 #[.val (.int x0), .val (.int x1), .val (.int x2), .val (.int x3), .val (.int H1), .val (.int H2), .val (.int H3), .val (.int (3 : Int32)), .val (.ref hs), .val (.int (1 : Int32)), .val (.int (1 : Int32)), .val (.int (1 : Int32)), .val (.ref ea), .val (.int (1 : Int32)), .val (.ref g1), .val (.int (1 : Int32)), .val (.ref g2), .unset] [(.ref g3)])) _
    refine XS.astore X17.here hx rfl (hb hby at_362) rfl rfl (l' := #[.val (.int x0), .val (.int x1), .val (.int x2), .val (.int x3), .val (.int H1), .val (.int H2), .val (.int H3), .val (.int (3 : Int32)), .val (.ref hs), .val (.int (1 : Int32)), .val (.int (1 : Int32)), .val (.int (1 : Int32)), .val (.ref ea), .val (.int (1 : Int32)), .val (.ref g1), .val (.int (1 : Int32)), .val (.ref g2), .val (.ref g3)]) rfl ?_
    refine XS.iload X17.here hx rfl (hb hby at_364) rfl ?_
    refine XS.ifNo X17.here hx rfl (hb hby at_366) rfl ((if0 _ _).trans (feq (by decide : ¬ ((1 : Int32) = (0 : Int32)))).1) ?_
    show Steps p.tables e below (T17.setTop (mkF m 369 #[.val (.int x0), .val (.int x1), .val (.int x2), .val (.int x3), .val (.int H1), .val (.int H2), .val (.int H3), .val (.int (3 : Int32)), .val (.ref hs), .val (.int (1 : Int32)), .val (.int (1 : Int32)), .val (.int (1 : Int32)), .val (.ref ea), .val (.int (1 : Int32)), .val (.ref g1), .val (.int (1 : Int32)), .val (.ref g2), .val (.ref g3)] [])) _
    refine XS.aload X17.here hx rfl (hb hby at_369) rfl rfl ?_
    refine own_len X17 hx hZ rfl Vr17 (g := (mkF m 371 #[.val (.int x0), .val (.int x1), .val (.int x2), .val (.int x3), .val (.int H1), .val (.int H2), .val (.int H3), .val (.int (3 : Int32)), .val (.ref hs), .val (.int (1 : Int32)), .val (.int (1 : Int32)), .val (.int (1 : Int32)), .val (.ref ea), .val (.int (1 : Int32)), .val (.ref g1), .val (.int (1 : Int32)), .val (.ref g2), .val (.ref g3)] [(.ref g3)])) rfl rfl (hb hby at_371) ?_
    refine XS.ifNo X17.here hx rfl (hb hby at_372) rfl ((if0 _ _).trans (teq (by decide : (0 : Int32) = (0 : Int32))).2) ?_
    refine XS.iconst X17.here hx rfl (hb hby at_375) ?_
    show Steps p.tables e below (T17.setTop (mkF m 376 #[.val (.int x0), .val (.int x1), .val (.int x2), .val (.int x3), .val (.int H1), .val (.int H2), .val (.int H3), .val (.int (3 : Int32)), .val (.ref hs), .val (.int (1 : Int32)), .val (.int (1 : Int32)), .val (.int (1 : Int32)), .val (.ref ea), .val (.int (1 : Int32)), .val (.ref g1), .val (.int (1 : Int32)), .val (.ref g2), .val (.ref g3)] [(.int (1 : Int32))])) _
    refine XS.goto X17.here hx rfl (pc0 := 376) (pc' := 380) rfl (hb hby at_376) (by decide) (by decide) ?_
    refine XS.istore X17.here hx rfl (hb hby at_380) rfl (l' := #[.val (.int x0), .val (.int x1), .val (.int x2), .val (.int x3), .val (.int H1), .val (.int H2), .val (.int H3), .val (.int (3 : Int32)), .val (.ref hs), .val (.int (1 : Int32)), .val (.int (1 : Int32)), .val (.int (1 : Int32)), .val (.ref ea), .val (.int (1 : Int32)), .val (.ref g1), .val (.int (1 : Int32)), .val (.ref g2), .val (.ref g3)]) rfl ?_
    refine XS.iload X17.here hx rfl (hb hby at_382) rfl ?_
    exact retN X17 hx (t := .boolean) Bd.returns (by simp) (hb hby at_384) hr
  · exact ⟨rfl, N17⟩
set_option maxRecDepth 65536 in
set_option maxHeartbeats 40000000 in
theorem rm0_3en (l : Launch) (Z : State) (a0 : Array Value) (hw : ∀ d ∈ tables_1, d.before a0 Z = true) (ws : List Jvm.Cond) (x0 : Int32) (x1 : Int32) (x2 : Int32) (x3 : Int32) (H1 H2 H3 : Int32) (h0 : Heap) (n0 : Nat) (Z0 : n0 ≤ h0.size) (eH1 : H1 = (x0 &&& (536870911 : Int32))) (eH2 : H2 = (H1 + (x1 &&& (536870911 : Int32)))) (eH3 : H3 = (H2 + (x2 &&& (1073741823 : Int32)))) (hn : (x3 &&& (3 : Int32)) = (3 : Int32)) (hq2 : H2 = H1) (hq3 : ¬ (H3 = H2)) :
    MetFree l x (head1 (Jvm.Cond.code x code maxLocals ret :: ws) room_1) (fun a U => a = #[(.int x0), (.int x1), (.int x2), (.int x3)] ∧ Z.Warmed39 U.vm ∧ U.heap = h0) (fun _ _ _ _ _ => True) (fun _ U o U' => ∃ v L, o = .returned v ∧ (QL n0 v U'.heap L) ∧ FrameEnd U o U' L room_1.cells room_1.slots) := by
  refine MetFree.of_bodySF (plainFor_of_name pn_0) hisR ?_
  intro p e s m args below meth c s₁ Bd hml0 hP hK
  obtain ⟨rfl, hZ, hh⟩ := hP
  have hx := Bd.exec
  have hby := Bd.bytes
  have hml : c.maxLocals = 18 := hml0
  have hown : s.vm.findClass "com/example/rootline/rootline/reach/HolderSetsHoldersPinLaw" = some m.cls := findClass_of_methodNamed Bd.named
  have hnm := (name_of_methodNamed Bd.named Bd.method).1
  have X0 : Stand p l e room_1 s m #[(.int x0), (.int x1), (.int x2), (.int x3)] below meth c s₁ [] 0 0 := Stand.of_body Bd
  have e0 : s₁.heap = h0 := by rw [← hh, Bd.state]; rfl
  have N0 := Fr.nil n0
  have pre0 : ∀ t, Steps p.tables e below (s₁.setTop (mkF m 0 #[.val (.int x0), .val (.int x1), .val (.int x2), .val (.int x3), .unset, .unset, .unset, .unset, .unset, .unset, .unset, .unset, .unset, .unset, .unset, .unset, .unset, .unset] [])) t → Steps p.tables e below (s₁.setTop (entryFrame m #[(.int x0), (.int x1), (.int x2), (.int x3)] maxLocals)) t := fun t k => castTop (ef_0 m x0 x1 x2 x3) k
  have c0 : (0 : Int32).toInt = 0 := rfl
  have cm1 : (-1 : Int32).toInt = -1 := rfl
  have m1 := c_mask x0 (536870911 : Int32) 29 (by decide) (by decide)
  have m2 := c_mask x1 (536870911 : Int32) 29 (by decide) (by decide)
  have m3 := c_mask x2 (1073741823 : Int32) 30 (by decide) (by decide)
  rw [show ((2 ^ 29 : Nat) : Int) = 536870912 from rfl] at m1 m2
  rw [show ((2 ^ 30 : Nat) : Int) = 1073741824 from rfl] at m3
  have a2 := c_iadd H1 (x1 &&& (536870911 : Int32))
  have a3 := c_iadd H2 (x2 &&& (1073741823 : Int32))
  rw [← eH2] at a2
  rw [← eH3] at a3
  rw [← eH1] at m1
  have r2 := rng32 H2
  have r3 := rng32 H3
  have hH1 : 0 ≤ H1.toInt := by omega
  have hH1n := hH1
  have hH2n : 0 ≤ H2.toInt := by omega
  have hH3n : 0 ≤ H3.toInt := by omega
  have le12 : H1.toInt ≤ H2.toInt := by omega
  have le23 : H2.toInt ≤ H3.toInt := by omega
  have hneH1 : ¬ (H1 = (-1 : Int32)) := by rw [← Int32.toInt_inj]; omega
  have hgeH1 : ¬ (H1 < (-1 : Int32)) := by rw [Int32.lt_iff_toInt_lt]; omega
  have heqH2 : H2 = H1 := hq2
  have hneH3 : ¬ (H3 = H1) := by rw [← hq2]; exact hq3
  have hgeH3 : ¬ (H3 < H1) := by rw [Int32.lt_iff_toInt_lt]; omega
  obtain ⟨T1, h1, X1, e1, E1, A1, D1, -, st1⟩ := newO X0 hx hZ hown (hw _ (List.mem_of_getElem? (i := 2) rfl)) (hw _ (List.mem_of_getElem? (i := 3) rfl)) (hw _ (List.mem_of_getElem? (i := 4) rfl)) e0 (g := (mkF m 29 #[.val (.int x0), .val (.int x1), .val (.int x2), .val (.int x3), .val (.int H1), .val (.int H2), .val (.int H3), .val (.int (3 : Int32)), .unset, .unset, .unset, .unset, .unset, .unset, .unset, .unset, .unset, .unset] [])) rfl (hb hby at_29) (by decide) (by decide)
  obtain ⟨hs, g1⟩ : ∃ z, z = h0.size := ⟨_, rfl⟩
  rw [← g1] at A1 D1 st1
  have E_hs_1 : Exa Z h1 hs "com/example/rootline/rootline/reach/HolderSets" := A1
  have F_rest_hs_1 : Fld Z h1 hs sH "rest" "[I" .null := D1 (Or.inl (hw _ (List.mem_of_getElem? (i := 13) rfl))) (ty := (.array .int)) (by decide)
  have F_highest_hs_1 : Fld Z h1 hs sH "highest" "[I" .null := D1 (Or.inl (hw _ (List.mem_of_getElem? (i := 15) rfl))) (ty := (.array .int)) (by decide)
  have F_sizes_hs_1 : Fld Z h1 hs sH "sizes" "[I" .null := D1 (Or.inl (hw _ (List.mem_of_getElem? (i := 17) rfl))) (ty := (.array .int)) (by decide)
  have F_count_hs_1 : Fld Z h1 hs sH "count" "I" (.int (0 : Int32)) := D1 (Or.inl (hw _ (List.mem_of_getElem? (i := 19) rfl))) (ty := .int) (by decide)
  have F_withOne_hs_1 : Fld Z h1 hs sH "withOne" "Lcom/example/rootline/rootline/heap/LongIntTable;" .null := D1 (Or.inr (hw _ (List.mem_of_getElem? (i := 40) rfl))) (ty := (.object "com/example/rootline/rootline/heap/LongIntTable")) (by decide)
  have F_unions_hs_1 : Fld Z h1 hs sH "unions" "Lcom/example/rootline/rootline/heap/LongIntTable;" .null := D1 (Or.inr (hw _ (List.mem_of_getElem? (i := 42) rfl))) (ty := (.object "com/example/rootline/rootline/heap/LongIntTable")) (by decide)
  have F_left_hs_1 : Fld Z h1 hs sH "left" "[I" .null := D1 (Or.inl (hw _ (List.mem_of_getElem? (i := 44) rfl))) (ty := (.array .int)) (by decide)
  have F_right_hs_1 : Fld Z h1 hs sH "right" "[I" .null := D1 (Or.inl (hw _ (List.mem_of_getElem? (i := 46) rfl))) (ty := (.array .int)) (by decide)
  have F_merged_hs_1 : Fld Z h1 hs sH "merged" "[I" .null := D1 (Or.inl (hw _ (List.mem_of_getElem? (i := 48) rfl))) (ty := (.array .int)) (by decide)
  have g_hs : n0 ≤ hs := Nat.le_trans Z0 (Nat.le_of_eq g1.symm)
  have siz_2 := Nat.le_trans Z0 E1.1
  obtain ⟨_, _, ⟨T3, L3, k3, n3⟩, -, X3, ⟨Lc3, hQ3, l3, y3, z3⟩, st3⟩ := X1.specialBack hx (y := (⟨"com/example/rootline/rootline/reach/HolderSets", "<init>", "()V"⟩ : MethodName)) rfl hown (mvT hZ (hw _ (List.mem_of_getElem? (i := 5) rfl))) (mvT hZ (hw _ (List.mem_of_getElem? (i := 6) rfl))) (mvT hZ (hw _ (List.mem_of_getElem? (i := 7) rfl))) (by decide) (backOf (W := 1) (rm1 l Z a0 hw [] hs h1 n0 siz_2 E_hs_1 F_rest_hs_1 F_highest_hs_1 F_sizes_hs_1 F_count_hs_1 F_withOne_hs_1 F_unions_hs_1 F_left_hs_1 F_right_hs_1 F_merged_hs_1 g_hs) hZ (hw _ (List.mem_of_getElem? (i := 7) rfl)) (hw _ (List.mem_of_getElem? (i := 4) rfl)) (by decide) (by decide)) (g := (mkF m 33 #[.val (.int x0), .val (.int x1), .val (.int x2), .val (.int x3), .val (.int H1), .val (.int H2), .val (.int H3), .val (.int (3 : Int32)), .unset, .unset, .unset, .unset, .unset, .unset, .unset, .unset, .unset, .unset] [(.ref hs), (.ref hs)])) rfl (by rw [hml]; rfl) (Steps.refl _) (a := hs) (argsL := []) (rest := [(.ref hs)]) (lenOf pd___V rfl) rfl (by show 2 * 0 + _ ≤ _; exact Nat.le_of_eq rfl) (hb hby at_33) (fun _ _ => ⟨rfl, e1, (by decide : 1 + 12 ≤ _), (by decide : 9 + 358 ≤ _)⟩)
  dsimp only [Pt.U, Pt.locs, Pt.cells, Pt.slots] at X3 l3 y3 z3 st3 hQ3
  subst l3 y3 z3
  obtain ⟨rfl, N3q, K3, ra, ha, sa, t, ka, va, kr, kh, ks, Kf, Vf, HSi, hVf⟩ := hQ3
  have siz_4 := Nat.le_trans siz_2 K3.1
  have E_hs : Exa Z T3.heap hs "com/example/rootline/rootline/reach/HolderSets" := HSi.2.1
  have N3 := Fr.app N0 N3q
  obtain ⟨cq5, kq5, q5a, q5b, q5c⟩ := isOf hZ rfl E_hs
  obtain ⟨_, _, ⟨T5, L5, k5, n5⟩, -, X5, ⟨Lc5, hQ5, l5, y5, z5⟩, st5⟩ := X3.virtualBack hx (y := (⟨"com/example/rootline/rootline/reach/HolderSets", "with", "(II)I"⟩ : MethodName)) (z := (⟨"com/example/rootline/rootline/reach/HolderSets", "with", "(II)I"⟩ : MethodName)) hown (mvT hZ (hw _ (List.mem_of_getElem? (i := 49) rfl))) (mvT hZ (hw _ (List.mem_of_getElem? (i := 50) rfl))) (notFace_of_selects (args := #[]) (mvT hZ (hw _ (List.mem_of_getElem? (i := 52) rfl)))) (mvT hZ (hw _ (List.mem_of_getElem? (i := 52) rfl))) (mvT hZ (hw _ (List.mem_of_getElem? (i := 51) rfl))) (by decide) (backOf (W := 0) (rmw_0 l Z a0 hw [] hs H1 ra ha sa t ka va kr kh ks Kf Vf  T3.heap n0 siz_4 HSi g_hs (fun i hi => own_emp Vf 0 0 (fun j hj q => absurd (hVf j hj) q) i hi) (fun j hj q => absurd (hVf j hj) q) hneH1 hgeH1) hZ (hw _ (List.mem_of_getElem? (i := 53) rfl)) (hw _ (List.mem_of_getElem? (i := 4) rfl)) (by decide) (by decide)) q5a q5c (g := (mkF m 49 #[.val (.int x0), .val (.int x1), .val (.int x2), .val (.int x3), .val (.int H1), .val (.int H2), .val (.int H3), .val (.int (3 : Int32)), .val (.ref hs), .unset, .unset, .unset, .unset, .unset, .unset, .unset, .unset, .unset] [(.int H1), (.int (0 : Int32)), (.ref hs)])) rfl (by rw [hml]; rfl) (Steps.refl _) (argsL := [(.int (0 : Int32)), (.int H1)]) (rest := []) (lenOf pd__II_I rfl) rfl (by show 2 * 0 + _ ≤ _; exact Nat.le_of_eq rfl) (hb hby at_49) (fun _ _ => ⟨rfl, rfl, (by decide : 13 + 0 ≤ _), (by decide : 367 + 0 ≤ _)⟩)
  dsimp only [Pt.U, Pt.locs, Pt.cells, Pt.slots] at X5 l5 y5 z5 st5 hQ5
  subst l5 y5 z5
  obtain ⟨rfl, N5q, K5, p1, hp1, hV1, HS5⟩ := hQ5
  have siz_6 := Nat.le_trans siz_4 K5.1
  have E_hs_6 := E_hs.keep K5
  have occ1 := own_occ1 Kf Vf p1 (1 : Int32) (own_pair (0 : Int32) H1) hVf
  have HSn5 : HSS Z T5.heap hs ra ha sa t ka va kr kh ks (2 : Int32) [(.int (-1 : Int32)), (.int (0 : Int32)), (.int (0 : Int32)), (.int (0 : Int32)), (.int (0 : Int32)), (.int (0 : Int32)), (.int (0 : Int32)), (.int (0 : Int32)), (.int (0 : Int32)), (.int (0 : Int32)), (.int (0 : Int32)), (.int (0 : Int32)), (.int (0 : Int32)), (.int (0 : Int32)), (.int (0 : Int32)), (.int (0 : Int32))] [(.int (-1 : Int32)), (.int H1), (.int (0 : Int32)), (.int (0 : Int32)), (.int (0 : Int32)), (.int (0 : Int32)), (.int (0 : Int32)), (.int (0 : Int32)), (.int (0 : Int32)), (.int (0 : Int32)), (.int (0 : Int32)), (.int (0 : Int32)), (.int (0 : Int32)), (.int (0 : Int32)), (.int (0 : Int32)), (.int (0 : Int32))] [(.int (0 : Int32)), (.int (1 : Int32)), (.int (0 : Int32)), (.int (0 : Int32)), (.int (0 : Int32)), (.int (0 : Int32)), (.int (0 : Int32)), (.int (0 : Int32)), (.int (0 : Int32)), (.int (0 : Int32)), (.int (0 : Int32)), (.int (0 : Int32)), (.int (0 : Int32)), (.int (0 : Int32)), (.int (0 : Int32)), (.int (0 : Int32))] (1 : Int32) (upd Kf p1 (own_pair (0 : Int32) H1)) (upd Vf p1 (1 : Int32)) := HS5
  have N5 := Fr.app N3 N5q
  obtain ⟨cq7, kq7, q7a, q7b, q7c⟩ := isOf hZ rfl E_hs_6
  obtain ⟨_, _, ⟨T7, L7, k7, n7⟩, -, X7, ⟨Lc7, hQ7, l7, y7, z7⟩, st7⟩ := X5.virtualBack hx (y := (⟨"com/example/rootline/rootline/reach/HolderSets", "with", "(II)I"⟩ : MethodName)) (z := (⟨"com/example/rootline/rootline/reach/HolderSets", "with", "(II)I"⟩ : MethodName)) hown (mvT hZ (hw _ (List.mem_of_getElem? (i := 49) rfl))) (mvT hZ (hw _ (List.mem_of_getElem? (i := 50) rfl))) (notFace_of_selects (args := #[]) (mvT hZ (hw _ (List.mem_of_getElem? (i := 52) rfl)))) (mvT hZ (hw _ (List.mem_of_getElem? (i := 52) rfl))) (mvT hZ (hw _ (List.mem_of_getElem? (i := 51) rfl))) (by decide) (backOf (W := 0) (rme_1 l Z a0 hw [] hs H2 ra ha sa t ka va kr kh ks (upd Kf p1 (own_pair (0 : Int32) H1)) (upd Vf p1 (1 : Int32)) H1 T5.heap n0 siz_6 HSn5 heqH2) hZ (hw _ (List.mem_of_getElem? (i := 53) rfl)) (hw _ (List.mem_of_getElem? (i := 4) rfl)) (by decide) (by decide)) q7a q7c (g := (mkF m 70 #[.val (.int x0), .val (.int x1), .val (.int x2), .val (.int x3), .val (.int H1), .val (.int H2), .val (.int H3), .val (.int (3 : Int32)), .val (.ref hs), .val (.int (1 : Int32)), .unset, .unset, .unset, .unset, .unset, .unset, .unset, .unset] [(.int H2), (.int (1 : Int32)), (.ref hs)])) rfl (by rw [hml]; rfl) (Steps.refl _) (argsL := [(.int (1 : Int32)), (.int H2)]) (rest := []) (lenOf pd__II_I rfl) rfl (by show 2 * 0 + _ ≤ _; exact Nat.le_of_eq rfl) (hb hby at_70) (fun _ _ => ⟨rfl, rfl, (by decide : 13 + 0 ≤ _), (by decide : 367 + 0 ≤ _)⟩)
  dsimp only [Pt.U, Pt.locs, Pt.cells, Pt.slots] at X7 l7 y7 z7 st7 hQ7
  subst l7 y7 z7
  obtain ⟨rfl, N7q, e7⟩ := hQ7
  have N7 := Fr.app N5 N7q
  obtain ⟨cq8, kq8, q8a, q8b, q8c⟩ := isOf hZ e7 E_hs_6
  obtain ⟨_, _, ⟨T8, L8, k8, n8⟩, -, X8, ⟨Lc8, hQ8, l8, y8, z8⟩, st8⟩ := X7.virtualBack hx (y := (⟨"com/example/rootline/rootline/reach/HolderSets", "with", "(II)I"⟩ : MethodName)) (z := (⟨"com/example/rootline/rootline/reach/HolderSets", "with", "(II)I"⟩ : MethodName)) hown (mvT hZ (hw _ (List.mem_of_getElem? (i := 49) rfl))) (mvT hZ (hw _ (List.mem_of_getElem? (i := 50) rfl))) (notFace_of_selects (args := #[]) (mvT hZ (hw _ (List.mem_of_getElem? (i := 52) rfl)))) (mvT hZ (hw _ (List.mem_of_getElem? (i := 52) rfl))) (mvT hZ (hw _ (List.mem_of_getElem? (i := 51) rfl))) (by decide) (backOf (W := 0) (rmw_1 l Z a0 hw [] hs H3 ra ha sa t ka va kr kh ks (upd Kf p1 (own_pair (0 : Int32) H1)) (upd Vf p1 (1 : Int32)) H1 T5.heap n0 siz_6 HSn5 g_hs (fun i hi => own_emp _ p1 p1 (fun j hj q => Or.inl (occ1 j hj q).1) i hi) (fun j hj q z => own_pair_ne _ _ _ _ (by decide) hH1 (by decide) hH3n (by decide) ((occ1 j hj q).2.symm.trans z)) hneH3 hgeH3) hZ (hw _ (List.mem_of_getElem? (i := 53) rfl)) (hw _ (List.mem_of_getElem? (i := 4) rfl)) (by decide) (by decide)) q8a q8c (g := (mkF m 92 #[.val (.int x0), .val (.int x1), .val (.int x2), .val (.int x3), .val (.int H1), .val (.int H2), .val (.int H3), .val (.int (3 : Int32)), .val (.ref hs), .val (.int (1 : Int32)), .val (.int (1 : Int32)), .unset, .unset, .unset, .unset, .unset, .unset, .unset] [(.int H3), (.int (1 : Int32)), (.ref hs)])) rfl (by rw [hml]; rfl) (Steps.refl _) (argsL := [(.int (1 : Int32)), (.int H3)]) (rest := []) (lenOf pd__II_I rfl) rfl (by show 2 * 0 + _ ≤ _; exact Nat.le_of_eq rfl) (hb hby at_92) (fun _ _ => ⟨rfl, e7, (by decide : 13 + 0 ≤ _), (by decide : 367 + 0 ≤ _)⟩)
  dsimp only [Pt.U, Pt.locs, Pt.cells, Pt.slots] at X8 l8 y8 z8 st8 hQ8
  subst l8 y8 z8
  obtain ⟨rfl, N8q, K8, p2, hp2, hV2, HS8⟩ := hQ8
  have siz_9 := Nat.le_trans siz_6 K8.1
  have E_hs_9 := E_hs_6.keep K8
  have occ2 := own_occ2 _ _ p1 p2 (2 : Int32) _ (own_pair (1 : Int32) H3) occ1
  have HSn8 : HSS Z T8.heap hs ra ha sa t ka va kr kh ks (3 : Int32) [(.int (-1 : Int32)), (.int (0 : Int32)), (.int (1 : Int32)), (.int (0 : Int32)), (.int (0 : Int32)), (.int (0 : Int32)), (.int (0 : Int32)), (.int (0 : Int32)), (.int (0 : Int32)), (.int (0 : Int32)), (.int (0 : Int32)), (.int (0 : Int32)), (.int (0 : Int32)), (.int (0 : Int32)), (.int (0 : Int32)), (.int (0 : Int32))] [(.int (-1 : Int32)), (.int H1), (.int H3), (.int (0 : Int32)), (.int (0 : Int32)), (.int (0 : Int32)), (.int (0 : Int32)), (.int (0 : Int32)), (.int (0 : Int32)), (.int (0 : Int32)), (.int (0 : Int32)), (.int (0 : Int32)), (.int (0 : Int32)), (.int (0 : Int32)), (.int (0 : Int32)), (.int (0 : Int32))] [(.int (0 : Int32)), (.int (1 : Int32)), (.int (2 : Int32)), (.int (0 : Int32)), (.int (0 : Int32)), (.int (0 : Int32)), (.int (0 : Int32)), (.int (0 : Int32)), (.int (0 : Int32)), (.int (0 : Int32)), (.int (0 : Int32)), (.int (0 : Int32)), (.int (0 : Int32)), (.int (0 : Int32)), (.int (0 : Int32)), (.int (0 : Int32))] (2 : Int32) (upd (upd Kf p1 (own_pair (0 : Int32) H1)) p2 (own_pair (1 : Int32) H3)) (upd (upd Vf p1 (1 : Int32)) p2 (2 : Int32)) := HS8
  have N8 := Fr.app N7 N8q
  obtain ⟨T10, h10, k10, X10, e10, E10, A10, st10⟩ := newP X8 hx hZ (hw _ (List.mem_of_getElem? (i := 11) rfl)) rfl (g := (mkF m 103 #[.val (.int x0), .val (.int x1), .val (.int x2), .val (.int x3), .val (.int H1), .val (.int H2), .val (.int H3), .val (.int (3 : Int32)), .val (.ref hs), .val (.int (1 : Int32)), .val (.int (1 : Int32)), .val (.int (2 : Int32)), .unset, .unset, .unset, .unset, .unset, .unset] [(.int (3 : Int32))])) rfl (hb hby at_103) rfl (by decide) (cap := 3) (by decide) (by decide) (by decide) (by decide)
  obtain ⟨ea, g10⟩ : ∃ z, z = T8.heap.size := ⟨_, rfl⟩
  rw [← g10] at A10 st10
  have V_ea_10 : Arv Z h10 ea k10 .int (3 : Int32) [(.int (0 : Int32)), (.int (0 : Int32)), (.int (0 : Int32))] (.int (0 : Int32)) := (Arv.new A10 (by decide)).pad (pad_rep [] (.int (0 : Int32)) 3)
  have lt_hs_ea : hs < ea := Nat.lt_of_lt_of_le E_hs_9.lt (Nat.le_of_eq g10.symm)
  have lt_va_ea : va < ea := Nat.lt_of_lt_of_le HSn8.lt (Nat.le_of_eq g10.symm)
  have g_ea : n0 ≤ ea := Nat.le_trans siz_9 (Nat.le_of_eq g10.symm)
  have siz_11 := Nat.le_trans siz_9 E10.1
  have E_hs_11 := E_hs_9.ext E10
  have HS_11 := HSn8.ext E10
  obtain ⟨T12, h12, L12, X12, e12, N12, W12, V12, st12⟩ := own_stI X10 hx hZ e10 V_ea_10 (j := (0 : Int32)) ⟨by decide, by decide⟩ (i := 0) rfl (Nat.le_of_ble_eq_true rfl) N8 g_ea (g := (mkF m 122 #[.val (.int x0), .val (.int x1), .val (.int x2), .val (.int x3), .val (.int H1), .val (.int H2), .val (.int H3), .val (.int (3 : Int32)), .val (.ref hs), .val (.int (1 : Int32)), .val (.int (1 : Int32)), .val (.int (2 : Int32)), .val (.ref ea), .val (.int (0 : Int32)), .unset, .unset, .unset, .unset] [(.int H1), (.int (0 : Int32)), (.ref ea)])) rfl rfl (hb hby at_122)
  have siz_13 := Nat.le_trans siz_11 (Keep.of_wr W12).1
  have E_hs_13 := E_hs_11.wr W12
  have HS_13 := HS_11.wr W12 lt_va_ea
  have V_ea_12 : Arv Z h12 ea k10 .int (3 : Int32) [(.int H1), (.int (0 : Int32)), (.int (0 : Int32))] (.int (0 : Int32)) := V12
  obtain ⟨T14, h14, L14, X14, e14, N14, W14, V14, st14⟩ := own_stI X12 hx hZ e12 V_ea_12 (j := (1 : Int32)) ⟨by decide, by decide⟩ (i := 1) rfl (Nat.le_of_ble_eq_true rfl) N12 g_ea (g := (mkF m 174 #[.val (.int x0), .val (.int x1), .val (.int x2), .val (.int x3), .val (.int H1), .val (.int H2), .val (.int H3), .val (.int (3 : Int32)), .val (.ref hs), .val (.int (1 : Int32)), .val (.int (1 : Int32)), .val (.int (2 : Int32)), .val (.ref ea), .val (.int (1 : Int32)), .unset, .unset, .unset, .unset] [(.int H3), (.int (1 : Int32)), (.ref ea)])) rfl rfl (hb hby at_174)
  have siz_15 := Nat.le_trans siz_13 (Keep.of_wr W14).1
  have E_hs_15 := E_hs_13.wr W14
  have HS_15 := HS_13.wr W14 lt_va_ea
  have V_ea_14 : Arv Z h14 ea k10 .int (3 : Int32) [(.int H1), (.int H3), (.int (0 : Int32))] (.int (0 : Int32)) := V14
  obtain ⟨cq16, kq16, q16a, q16b, q16c⟩ := isOf hZ e14 E_hs_15
  obtain ⟨_, _, ⟨T16, L16, k16, n16⟩, -, X16, ⟨Lc16, hQ16, l16, y16, z16⟩, st16⟩ := X14.virtualBack hx (y := (⟨"com/example/rootline/rootline/reach/HolderSets", "holders", "(I)[I"⟩ : MethodName)) (z := (⟨"com/example/rootline/rootline/reach/HolderSets", "holders", "(I)[I"⟩ : MethodName)) hown (mvT hZ (hw _ (List.mem_of_getElem? (i := 76) rfl))) (mvT hZ (hw _ (List.mem_of_getElem? (i := 77) rfl))) (notFace_of_selects (args := #[]) (mvT hZ (hw _ (List.mem_of_getElem? (i := 79) rfl)))) (mvT hZ (hw _ (List.mem_of_getElem? (i := 79) rfl))) (mvT hZ (hw _ (List.mem_of_getElem? (i := 78) rfl))) (by decide) (backOf (W := 0) (rmh_2_2 l Z a0 hw [] hs ra ha sa t ka va kr kh ks (upd (upd Kf p1 (own_pair (0 : Int32) H1)) p2 (own_pair (1 : Int32) H3)) (upd (upd Vf p1 (1 : Int32)) p2 (2 : Int32)) H1 H3 h14 n0 siz_15 HS_15) hZ (hw _ (List.mem_of_getElem? (i := 80) rfl)) (hw _ (List.mem_of_getElem? (i := 4) rfl)) (by decide) (by decide)) q16a q16c (g := (mkF m 185 #[.val (.int x0), .val (.int x1), .val (.int x2), .val (.int x3), .val (.int H1), .val (.int H2), .val (.int H3), .val (.int (3 : Int32)), .val (.ref hs), .val (.int (1 : Int32)), .val (.int (1 : Int32)), .val (.int (2 : Int32)), .val (.ref ea), .val (.int (2 : Int32)), .unset, .unset, .unset, .unset] [(.int (2 : Int32)), (.ref hs)])) rfl (by rw [hml]; rfl) (Steps.refl _) (argsL := [(.int (2 : Int32))]) (rest := []) (lenOf pd__I__I rfl) rfl (by show 2 * 0 + _ ≤ _; exact Nat.le_of_eq rfl) (hb hby at_185) (fun _ _ => ⟨rfl, e14, (by decide : 14 + 1 ≤ _), (by decide : 370 + 2 ≤ _)⟩)
  dsimp only [Pt.U, Pt.locs, Pt.cells, Pt.slots] at X16 l16 y16 z16 st16 hQ16
  subst l16 y16 z16
  obtain ⟨g1, kg1, rfl, N16q, K16, sr16, Vr16⟩ := hQ16
  have siz_17 := Nat.le_trans siz_15 K16.1
  have E_hs_17 := E_hs_15.keep K16
  have HS_17 := HS_15.keep K16
  have V_ea_17 := V_ea_14.keep K16 nin0
  have N16 := Fr.app N14 N16q
  obtain ⟨cq18, kq18, q18a, q18b, q18c⟩ := isOf hZ rfl E_hs_17
  obtain ⟨_, _, ⟨T18, L18, k18, n18⟩, -, X18, ⟨Lc18, hQ18, l18, y18, z18⟩, st18⟩ := X16.virtualBack hx (y := (⟨"com/example/rootline/rootline/reach/HolderSets", "holders", "(I)[I"⟩ : MethodName)) (z := (⟨"com/example/rootline/rootline/reach/HolderSets", "holders", "(I)[I"⟩ : MethodName)) hown (mvT hZ (hw _ (List.mem_of_getElem? (i := 76) rfl))) (mvT hZ (hw _ (List.mem_of_getElem? (i := 77) rfl))) (notFace_of_selects (args := #[]) (mvT hZ (hw _ (List.mem_of_getElem? (i := 79) rfl)))) (mvT hZ (hw _ (List.mem_of_getElem? (i := 79) rfl))) (mvT hZ (hw _ (List.mem_of_getElem? (i := 78) rfl))) (by decide) (backOf (W := 0) (rmh_2_1 l Z a0 hw [] hs ra ha sa t ka va kr kh ks (upd (upd Kf p1 (own_pair (0 : Int32) H1)) p2 (own_pair (1 : Int32) H3)) (upd (upd Vf p1 (1 : Int32)) p2 (2 : Int32)) H1 H3 T16.heap n0 siz_17 HS_17) hZ (hw _ (List.mem_of_getElem? (i := 80) rfl)) (hw _ (List.mem_of_getElem? (i := 4) rfl)) (by decide) (by decide)) q18a q18c (g := (mkF m 296 #[.val (.int x0), .val (.int x1), .val (.int x2), .val (.int x3), .val (.int H1), .val (.int H2), .val (.int H3), .val (.int (3 : Int32)), .val (.ref hs), .val (.int (1 : Int32)), .val (.int (1 : Int32)), .val (.int (2 : Int32)), .val (.ref ea), .val (.int (2 : Int32)), .val (.ref g1), .val (.int (1 : Int32)), .unset, .unset] [(.int (1 : Int32)), (.ref hs)])) rfl (by rw [hml]; rfl) (Steps.refl _) (argsL := [(.int (1 : Int32))]) (rest := []) (lenOf pd__I__I rfl) rfl (by show 2 * 0 + _ ≤ _; exact Nat.le_of_eq rfl) (hb hby at_296) (fun _ _ => ⟨rfl, rfl, (by decide : 15 + 1 ≤ _), (by decide : 372 + 1 ≤ _)⟩)
  dsimp only [Pt.U, Pt.locs, Pt.cells, Pt.slots] at X18 l18 y18 z18 st18 hQ18
  subst l18 y18 z18
  obtain ⟨g2, kg2, rfl, N18q, K18, sr18, Vr18⟩ := hQ18
  have siz_19 := Nat.le_trans siz_17 K18.1
  have E_hs_19 := E_hs_17.keep K18
  have HS_19 := HS_17.keep K18
  have V_ea_19 := V_ea_17.keep K18 nin0
  have V_g1_19 := Vr16.keep K18 nin0
  have N18 := Fr.app N16 N18q
  obtain ⟨cq20, kq20, q20a, q20b, q20c⟩ := isOf hZ rfl E_hs_19
  obtain ⟨_, _, ⟨T20, L20, k20, n20⟩, -, X20, ⟨Lc20, hQ20, l20, y20, z20⟩, st20⟩ := X18.virtualBack hx (y := (⟨"com/example/rootline/rootline/reach/HolderSets", "holders", "(I)[I"⟩ : MethodName)) (z := (⟨"com/example/rootline/rootline/reach/HolderSets", "holders", "(I)[I"⟩ : MethodName)) hown (mvT hZ (hw _ (List.mem_of_getElem? (i := 76) rfl))) (mvT hZ (hw _ (List.mem_of_getElem? (i := 77) rfl))) (notFace_of_selects (args := #[]) (mvT hZ (hw _ (List.mem_of_getElem? (i := 79) rfl)))) (mvT hZ (hw _ (List.mem_of_getElem? (i := 79) rfl))) (mvT hZ (hw _ (List.mem_of_getElem? (i := 78) rfl))) (by decide) (backOf (W := 0) (rmh_2_0 l Z a0 hw [] hs ra ha sa t ka va kr kh ks (upd (upd Kf p1 (own_pair (0 : Int32) H1)) p2 (own_pair (1 : Int32) H3)) (upd (upd Vf p1 (1 : Int32)) p2 (2 : Int32)) H1 H3 T18.heap n0 siz_19 HS_19) hZ (hw _ (List.mem_of_getElem? (i := 80) rfl)) (hw _ (List.mem_of_getElem? (i := 4) rfl)) (by decide) (by decide)) q20a q20c (g := (mkF m 359 #[.val (.int x0), .val (.int x1), .val (.int x2), .val (.int x3), .val (.int H1), .val (.int H2), .val (.int H3), .val (.int (3 : Int32)), .val (.ref hs), .val (.int (1 : Int32)), .val (.int (1 : Int32)), .val (.int (2 : Int32)), .val (.ref ea), .val (.int (2 : Int32)), .val (.ref g1), .val (.int (1 : Int32)), .val (.ref g2), .unset] [(.int (0 : Int32)), (.ref hs)])) rfl (by rw [hml]; rfl) (Steps.refl _) (argsL := [(.int (0 : Int32))]) (rest := []) (lenOf pd__I__I rfl) rfl (by show 2 * 0 + _ ≤ _; exact Nat.le_of_eq rfl) (hb hby at_359) (fun _ _ => ⟨rfl, rfl, (by decide : 16 + 1 ≤ _), (by decide : 373 + 0 ≤ _)⟩)
  dsimp only [Pt.U, Pt.locs, Pt.cells, Pt.slots] at X20 l20 y20 z20 st20 hQ20
  subst l20 y20 z20
  obtain ⟨g3, kg3, rfl, N20q, K20, sr20, Vr20⟩ := hQ20
  have siz_21 := Nat.le_trans siz_19 K20.1
  have E_hs_21 := E_hs_19.keep K20
  have HS_21 := HS_19.keep K20
  have V_ea_21 := V_ea_19.keep K20 nin0
  have V_g1_21 := V_g1_19.keep K20 nin0
  have V_g2_21 := Vr18.keep K20 nin0
  have N20 := Fr.app N18 N20q
  obtain ⟨fs, hr, hrun, hended, hW, hsame⟩ := X20.leave (v := some (.int (1 : Int32))) (fun h => by rw [Bd.returns] at h; cases h)
  refine ⟨_, _, pre0 _ ?_, hrun, hended, _, _, rfl, ?_, ⟨_, rfl⟩, hW, hsame.mono (by decide) (by decide)⟩
  · show Steps p.tables e below (s₁.setTop (mkF m 0 #[.val (.int x0), .val (.int x1), .val (.int x2), .val (.int x3), .unset, .unset, .unset, .unset, .unset, .unset, .unset, .unset, .unset, .unset, .unset, .unset, .unset, .unset] [])) _
    refine XS.iloadN X0.here hx rfl (hb hby at_0) rfl ?_
    refine X0.ldcInt hx hown (mvT hZ (hw _ (List.mem_of_getElem? (i := 0) rfl))) (g := (mkF m 1 #[.val (.int x0), .val (.int x1), .val (.int x2), .val (.int x3), .unset, .unset, .unset, .unset, .unset, .unset, .unset, .unset, .unset, .unset, .unset, .unset, .unset, .unset] [(.int x0)])) rfl (hb hby at_1) _ ?_
    refine XS.iand X0.here hx rfl (hb hby at_3) rfl ?_
    show Steps p.tables e below (s₁.setTop (mkF m 4 #[.val (.int x0), .val (.int x1), .val (.int x2), .val (.int x3), .unset, .unset, .unset, .unset, .unset, .unset, .unset, .unset, .unset, .unset, .unset, .unset, .unset, .unset] [(.int (x0 &&& (536870911 : Int32)))])) _
    rw [← eH1]
    show Steps p.tables e below (s₁.setTop (mkF m 4 #[.val (.int x0), .val (.int x1), .val (.int x2), .val (.int x3), .unset, .unset, .unset, .unset, .unset, .unset, .unset, .unset, .unset, .unset, .unset, .unset, .unset, .unset] [(.int H1)])) _
    refine XS.istore X0.here hx rfl (hb hby at_4) rfl (l' := #[.val (.int x0), .val (.int x1), .val (.int x2), .val (.int x3), .val (.int H1), .unset, .unset, .unset, .unset, .unset, .unset, .unset, .unset, .unset, .unset, .unset, .unset, .unset]) rfl ?_
    refine XS.iload X0.here hx rfl (hb hby at_6) rfl ?_
    refine XS.iloadN X0.here hx rfl (hb hby at_8) rfl ?_
    refine X0.ldcInt hx hown (mvT hZ (hw _ (List.mem_of_getElem? (i := 0) rfl))) (g := (mkF m 9 #[.val (.int x0), .val (.int x1), .val (.int x2), .val (.int x3), .val (.int H1), .unset, .unset, .unset, .unset, .unset, .unset, .unset, .unset, .unset, .unset, .unset, .unset, .unset] [(.int x1), (.int H1)])) rfl (hb hby at_9) _ ?_
    show Steps p.tables e below (s₁.setTop (mkF m 11 #[.val (.int x0), .val (.int x1), .val (.int x2), .val (.int x3), .val (.int H1), .unset, .unset, .unset, .unset, .unset, .unset, .unset, .unset, .unset, .unset, .unset, .unset, .unset] [(.int (536870911 : Int32)), (.int x1), (.int H1)])) _
    refine XS.iand X0.here hx rfl (hb hby at_11) rfl ?_
    refine XS.iadd X0.here hx rfl (hb hby at_12) rfl ?_
    show Steps p.tables e below (s₁.setTop (mkF m 13 #[.val (.int x0), .val (.int x1), .val (.int x2), .val (.int x3), .val (.int H1), .unset, .unset, .unset, .unset, .unset, .unset, .unset, .unset, .unset, .unset, .unset, .unset, .unset] [(.int (H1 + (x1 &&& (536870911 : Int32))))])) _
    rw [← eH2]
    show Steps p.tables e below (s₁.setTop (mkF m 13 #[.val (.int x0), .val (.int x1), .val (.int x2), .val (.int x3), .val (.int H1), .unset, .unset, .unset, .unset, .unset, .unset, .unset, .unset, .unset, .unset, .unset, .unset, .unset] [(.int H2)])) _
    refine XS.istore X0.here hx rfl (hb hby at_13) rfl (l' := #[.val (.int x0), .val (.int x1), .val (.int x2), .val (.int x3), .val (.int H1), .val (.int H2), .unset, .unset, .unset, .unset, .unset, .unset, .unset, .unset, .unset, .unset, .unset, .unset]) rfl ?_
    refine XS.iload X0.here hx rfl (hb hby at_15) rfl ?_
    show Steps p.tables e below (s₁.setTop (mkF m 17 #[.val (.int x0), .val (.int x1), .val (.int x2), .val (.int x3), .val (.int H1), .val (.int H2), .unset, .unset, .unset, .unset, .unset, .unset, .unset, .unset, .unset, .unset, .unset, .unset] [(.int H2)])) _
    refine XS.iloadN X0.here hx rfl (hb hby at_17) rfl ?_
    refine X0.ldcInt hx hown (mvT hZ (hw _ (List.mem_of_getElem? (i := 1) rfl))) (g := (mkF m 18 #[.val (.int x0), .val (.int x1), .val (.int x2), .val (.int x3), .val (.int H1), .val (.int H2), .unset, .unset, .unset, .unset, .unset, .unset, .unset, .unset, .unset, .unset, .unset, .unset] [(.int x2), (.int H2)])) rfl (hb hby at_18) _ ?_
    refine XS.iand X0.here hx rfl (hb hby at_20) rfl ?_
    refine XS.iadd X0.here hx rfl (hb hby at_21) rfl ?_
    show Steps p.tables e below (s₁.setTop (mkF m 22 #[.val (.int x0), .val (.int x1), .val (.int x2), .val (.int x3), .val (.int H1), .val (.int H2), .unset, .unset, .unset, .unset, .unset, .unset, .unset, .unset, .unset, .unset, .unset, .unset] [(.int (H2 + (x2 &&& (1073741823 : Int32))))])) _
    rw [← eH3]
    show Steps p.tables e below (s₁.setTop (mkF m 22 #[.val (.int x0), .val (.int x1), .val (.int x2), .val (.int x3), .val (.int H1), .val (.int H2), .unset, .unset, .unset, .unset, .unset, .unset, .unset, .unset, .unset, .unset, .unset, .unset] [(.int H3)])) _
    refine XS.istore X0.here hx rfl (hb hby at_22) rfl (l' := #[.val (.int x0), .val (.int x1), .val (.int x2), .val (.int x3), .val (.int H1), .val (.int H2), .val (.int H3), .unset, .unset, .unset, .unset, .unset, .unset, .unset, .unset, .unset, .unset, .unset]) rfl ?_
    refine XS.iloadN X0.here hx rfl (hb hby at_24) rfl ?_
    refine XS.iconst X0.here hx rfl (hb hby at_25) ?_
    refine XS.iand X0.here hx rfl (hb hby at_26) rfl ?_
    show Steps p.tables e below (s₁.setTop (mkF m 27 #[.val (.int x0), .val (.int x1), .val (.int x2), .val (.int x3), .val (.int H1), .val (.int H2), .val (.int H3), .unset, .unset, .unset, .unset, .unset, .unset, .unset, .unset, .unset, .unset, .unset] [(.int (x3 &&& (3 : Int32)))])) _
    rw [hn]
    show Steps p.tables e below (s₁.setTop (mkF m 27 #[.val (.int x0), .val (.int x1), .val (.int x2), .val (.int x3), .val (.int H1), .val (.int H2), .val (.int H3), .unset, .unset, .unset, .unset, .unset, .unset, .unset, .unset, .unset, .unset, .unset] [(.int (3 : Int32))])) _
    refine XS.istore X0.here hx rfl (hb hby at_27) rfl (l' := #[.val (.int x0), .val (.int x1), .val (.int x2), .val (.int x3), .val (.int H1), .val (.int H2), .val (.int H3), .val (.int (3 : Int32)), .unset, .unset, .unset, .unset, .unset, .unset, .unset, .unset, .unset, .unset]) rfl ?_
    refine st1 _ ?_
    show Steps p.tables e below (T1.setTop (mkF m 32 #[.val (.int x0), .val (.int x1), .val (.int x2), .val (.int x3), .val (.int H1), .val (.int H2), .val (.int H3), .val (.int (3 : Int32)), .unset, .unset, .unset, .unset, .unset, .unset, .unset, .unset, .unset, .unset] [(.ref hs)])) _
    refine XS.dup X1.here hx rfl (hb hby at_32) rfl rfl ?_
    refine st3.trans ?_
    show Steps p.tables e below (T3.setTop (mkF m 36 #[.val (.int x0), .val (.int x1), .val (.int x2), .val (.int x3), .val (.int H1), .val (.int H2), .val (.int H3), .val (.int (3 : Int32)), .unset, .unset, .unset, .unset, .unset, .unset, .unset, .unset, .unset, .unset] [(.ref hs)])) _
    refine XS.astore X3.here hx rfl (hb hby at_36) rfl rfl (l' := #[.val (.int x0), .val (.int x1), .val (.int x2), .val (.int x3), .val (.int H1), .val (.int H2), .val (.int H3), .val (.int (3 : Int32)), .val (.ref hs), .unset, .unset, .unset, .unset, .unset, .unset, .unset, .unset, .unset]) rfl ?_
    refine XS.iload X3.here hx rfl (hb hby at_38) rfl ?_
    refine XS.iconst X3.here hx rfl (hb hby at_40) ?_
    refine XS.icmpNo X3.here hx rfl (hb hby at_41) rfl (flt (by decide : ¬ ((3 : Int32) < (1 : Int32)))).1 ?_
    show Steps p.tables e below (T3.setTop (mkF m 44 #[.val (.int x0), .val (.int x1), .val (.int x2), .val (.int x3), .val (.int H1), .val (.int H2), .val (.int H3), .val (.int (3 : Int32)), .val (.ref hs), .unset, .unset, .unset, .unset, .unset, .unset, .unset, .unset, .unset] [])) _
    refine XS.aload X3.here hx rfl (hb hby at_44) rfl rfl ?_
    refine XS.iconst X3.here hx rfl (hb hby at_46) ?_
    refine XS.iload X3.here hx rfl (hb hby at_47) rfl ?_
    refine st5.trans ?_
    show Steps p.tables e below (T5.setTop (mkF m 52 #[.val (.int x0), .val (.int x1), .val (.int x2), .val (.int x3), .val (.int H1), .val (.int H2), .val (.int H3), .val (.int (3 : Int32)), .val (.ref hs), .unset, .unset, .unset, .unset, .unset, .unset, .unset, .unset, .unset] [(.int (1 : Int32))])) _
    refine XS.goto X5.here hx rfl (pc0 := 52) (pc' := 56) rfl (hb hby at_52) (by decide) (by decide) ?_
    refine XS.istore X5.here hx rfl (hb hby at_56) rfl (l' := #[.val (.int x0), .val (.int x1), .val (.int x2), .val (.int x3), .val (.int H1), .val (.int H2), .val (.int H3), .val (.int (3 : Int32)), .val (.ref hs), .val (.int (1 : Int32)), .unset, .unset, .unset, .unset, .unset, .unset, .unset, .unset]) rfl ?_
    refine XS.iload X5.here hx rfl (hb hby at_58) rfl ?_
    refine XS.iconst X5.here hx rfl (hb hby at_60) ?_
    show Steps p.tables e below (T5.setTop (mkF m 61 #[.val (.int x0), .val (.int x1), .val (.int x2), .val (.int x3), .val (.int H1), .val (.int H2), .val (.int H3), .val (.int (3 : Int32)), .val (.ref hs), .val (.int (1 : Int32)), .unset, .unset, .unset, .unset, .unset, .unset, .unset, .unset] [(.int (2 : Int32)), (.int (3 : Int32))])) _
    refine XS.icmpNo X5.here hx rfl (hb hby at_61) rfl (flt (by decide : ¬ ((3 : Int32) < (2 : Int32)))).1 ?_
    refine XS.aload X5.here hx rfl (hb hby at_64) rfl rfl ?_
    refine XS.iload X5.here hx rfl (hb hby at_66) rfl ?_
    refine XS.iload X5.here hx rfl (hb hby at_68) rfl ?_
    show Steps p.tables e below (T5.setTop (mkF m 70 #[.val (.int x0), .val (.int x1), .val (.int x2), .val (.int x3), .val (.int H1), .val (.int H2), .val (.int H3), .val (.int (3 : Int32)), .val (.ref hs), .val (.int (1 : Int32)), .unset, .unset, .unset, .unset, .unset, .unset, .unset, .unset] [(.int H2), (.int (1 : Int32)), (.ref hs)])) _
    refine st7.trans ?_
    show Steps p.tables e below (T7.setTop (mkF m 73 #[.val (.int x0), .val (.int x1), .val (.int x2), .val (.int x3), .val (.int H1), .val (.int H2), .val (.int H3), .val (.int (3 : Int32)), .val (.ref hs), .val (.int (1 : Int32)), .unset, .unset, .unset, .unset, .unset, .unset, .unset, .unset] [(.int (1 : Int32))])) _
    refine XS.goto X7.here hx rfl (pc0 := 73) (pc' := 78) rfl (hb hby at_73) (by decide) (by decide) ?_
    refine XS.istore X7.here hx rfl (hb hby at_78) rfl (l' := #[.val (.int x0), .val (.int x1), .val (.int x2), .val (.int x3), .val (.int H1), .val (.int H2), .val (.int H3), .val (.int (3 : Int32)), .val (.ref hs), .val (.int (1 : Int32)), .val (.int (1 : Int32)), .unset, .unset, .unset, .unset, .unset, .unset, .unset]) rfl ?_
    refine XS.iload X7.here hx rfl (hb hby at_80) rfl ?_
    show Steps p.tables e below (T7.setTop (mkF m 82 #[.val (.int x0), .val (.int x1), .val (.int x2), .val (.int x3), .val (.int H1), .val (.int H2), .val (.int H3), .val (.int (3 : Int32)), .val (.ref hs), .val (.int (1 : Int32)), .val (.int (1 : Int32)), .unset, .unset, .unset, .unset, .unset, .unset, .unset] [(.int (3 : Int32))])) _
    refine XS.iconst X7.here hx rfl (hb hby at_82) ?_
    refine XS.icmpNo X7.here hx rfl (hb hby at_83) rfl (flt (by decide : ¬ ((3 : Int32) < (3 : Int32)))).1 ?_
    refine XS.aload X7.here hx rfl (hb hby at_86) rfl rfl ?_
    refine XS.iload X7.here hx rfl (hb hby at_88) rfl ?_
    show Steps p.tables e below (T7.setTop (mkF m 90 #[.val (.int x0), .val (.int x1), .val (.int x2), .val (.int x3), .val (.int H1), .val (.int H2), .val (.int H3), .val (.int (3 : Int32)), .val (.ref hs), .val (.int (1 : Int32)), .val (.int (1 : Int32)), .unset, .unset, .unset, .unset, .unset, .unset, .unset] [(.int (1 : Int32)), (.ref hs)])) _
    refine XS.iload X7.here hx rfl (hb hby at_90) rfl ?_
    refine st8.trans ?_
    show Steps p.tables e below (T8.setTop (mkF m 95 #[.val (.int x0), .val (.int x1), .val (.int x2), .val (.int x3), .val (.int H1), .val (.int H2), .val (.int H3), .val (.int (3 : Int32)), .val (.ref hs), .val (.int (1 : Int32)), .val (.int (1 : Int32)), .unset, .unset, .unset, .unset, .unset, .unset, .unset] [(.int (2 : Int32))])) _
    refine XS.goto X8.here hx rfl (pc0 := 95) (pc' := 100) rfl (hb hby at_95) (by decide) (by decide) ?_
    refine XS.istore X8.here hx rfl (hb hby at_100) rfl (l' := #[.val (.int x0), .val (.int x1), .val (.int x2), .val (.int x3), .val (.int H1), .val (.int H2), .val (.int H3), .val (.int (3 : Int32)), .val (.ref hs), .val (.int (1 : Int32)), .val (.int (1 : Int32)), .val (.int (2 : Int32)), .unset, .unset, .unset, .unset, .unset, .unset]) rfl ?_
    show Steps p.tables e below (T8.setTop (mkF m 102 #[.val (.int x0), .val (.int x1), .val (.int x2), .val (.int x3), .val (.int H1), .val (.int H2), .val (.int H3), .val (.int (3 : Int32)), .val (.ref hs), .val (.int (1 : Int32)), .val (.int (1 : Int32)), .val (.int (2 : Int32)), .unset, .unset, .unset, .unset, .unset, .unset] [])) _
    refine XS.iconst X8.here hx rfl (hb hby at_102) ?_
    refine st10 _ ?_
    show Steps p.tables e below (T10.setTop (mkF m 105 #[.val (.int x0), .val (.int x1), .val (.int x2), .val (.int x3), .val (.int H1), .val (.int H2), .val (.int H3), .val (.int (3 : Int32)), .val (.ref hs), .val (.int (1 : Int32)), .val (.int (1 : Int32)), .val (.int (2 : Int32)), .unset, .unset, .unset, .unset, .unset, .unset] [(.ref ea)])) _
    refine XS.astore X10.here hx rfl (hb hby at_105) rfl rfl (l' := #[.val (.int x0), .val (.int x1), .val (.int x2), .val (.int x3), .val (.int H1), .val (.int H2), .val (.int H3), .val (.int (3 : Int32)), .val (.ref hs), .val (.int (1 : Int32)), .val (.int (1 : Int32)), .val (.int (2 : Int32)), .val (.ref ea), .unset, .unset, .unset, .unset, .unset]) rfl ?_
    refine XS.iconst X10.here hx rfl (hb hby at_107) ?_
    show Steps p.tables e below (T10.setTop (mkF m 108 #[.val (.int x0), .val (.int x1), .val (.int x2), .val (.int x3), .val (.int H1), .val (.int H2), .val (.int H3), .val (.int (3 : Int32)), .val (.ref hs), .val (.int (1 : Int32)), .val (.int (1 : Int32)), .val (.int (2 : Int32)), .val (.ref ea), .unset, .unset, .unset, .unset, .unset] [(.int (0 : Int32))])) _
    refine XS.istore X10.here hx rfl (hb hby at_108) rfl (l' := #[.val (.int x0), .val (.int x1), .val (.int x2), .val (.int x3), .val (.int H1), .val (.int H2), .val (.int H3), .val (.int (3 : Int32)), .val (.ref hs), .val (.int (1 : Int32)), .val (.int (1 : Int32)), .val (.int (2 : Int32)), .val (.ref ea), .val (.int (0 : Int32)), .unset, .unset, .unset, .unset]) rfl ?_
    refine XS.iload X10.here hx rfl (hb hby at_110) rfl ?_
    refine XS.iconst X10.here hx rfl (hb hby at_112) ?_
    refine XS.icmpNo X10.here hx rfl (hb hby at_113) rfl (flt (by decide : ¬ ((3 : Int32) < (1 : Int32)))).1 ?_
    show Steps p.tables e below (T10.setTop (mkF m 116 #[.val (.int x0), .val (.int x1), .val (.int x2), .val (.int x3), .val (.int H1), .val (.int H2), .val (.int H3), .val (.int (3 : Int32)), .val (.ref hs), .val (.int (1 : Int32)), .val (.int (1 : Int32)), .val (.int (2 : Int32)), .val (.ref ea), .val (.int (0 : Int32)), .unset, .unset, .unset, .unset] [])) _
    refine XS.aload X10.here hx rfl (hb hby at_116) rfl rfl ?_
    refine XS.iload X10.here hx rfl (hb hby at_118) rfl ?_
    refine XS.iload X10.here hx rfl (hb hby at_120) rfl ?_
    refine st12 _ ?_
    show Steps p.tables e below (T12.setTop (mkF m 123 #[.val (.int x0), .val (.int x1), .val (.int x2), .val (.int x3), .val (.int H1), .val (.int H2), .val (.int H3), .val (.int (3 : Int32)), .val (.ref hs), .val (.int (1 : Int32)), .val (.int (1 : Int32)), .val (.int (2 : Int32)), .val (.ref ea), .val (.int (0 : Int32)), .unset, .unset, .unset, .unset] [])) _
    refine XS.iload X12.here hx rfl (hb hby at_123) rfl ?_
    refine XS.iconst X12.here hx rfl (hb hby at_125) ?_
    refine XS.iadd X12.here hx rfl (hb hby at_126) rfl ?_
    show Steps p.tables e below (T12.setTop (mkF m 127 #[.val (.int x0), .val (.int x1), .val (.int x2), .val (.int x3), .val (.int H1), .val (.int H2), .val (.int H3), .val (.int (3 : Int32)), .val (.ref hs), .val (.int (1 : Int32)), .val (.int (1 : Int32)), .val (.int (2 : Int32)), .val (.ref ea), .val (.int (0 : Int32)), .unset, .unset, .unset, .unset] [(.int ((0 : Int32) + (1 : Int32)))])) _
    rw [show ((0 : Int32) + (1 : Int32)) = (1 : Int32) from by decide]
    show Steps p.tables e below (T12.setTop (mkF m 127 #[.val (.int x0), .val (.int x1), .val (.int x2), .val (.int x3), .val (.int H1), .val (.int H2), .val (.int H3), .val (.int (3 : Int32)), .val (.ref hs), .val (.int (1 : Int32)), .val (.int (1 : Int32)), .val (.int (2 : Int32)), .val (.ref ea), .val (.int (0 : Int32)), .unset, .unset, .unset, .unset] [(.int (1 : Int32))])) _
    refine XS.istore X12.here hx rfl (hb hby at_127) rfl (l' := #[.val (.int x0), .val (.int x1), .val (.int x2), .val (.int x3), .val (.int H1), .val (.int H2), .val (.int H3), .val (.int (3 : Int32)), .val (.ref hs), .val (.int (1 : Int32)), .val (.int (1 : Int32)), .val (.int (2 : Int32)), .val (.ref ea), .val (.int (1 : Int32)), .unset, .unset, .unset, .unset]) rfl ?_
    show Steps p.tables e below (T12.setTop (mkF m 129 #[.val (.int x0), .val (.int x1), .val (.int x2), .val (.int x3), .val (.int H1), .val (.int H2), .val (.int H3), .val (.int (3 : Int32)), .val (.ref hs), .val (.int (1 : Int32)), .val (.int (1 : Int32)), .val (.int (2 : Int32)), .val (.ref ea), .val (.int (1 : Int32)), .unset, .unset, .unset, .unset] [])) _
    refine XS.iload X12.here hx rfl (hb hby at_129) rfl ?_
    refine XS.iconst X12.here hx rfl (hb hby at_131) ?_
    refine XS.icmpNo X12.here hx rfl (hb hby at_132) rfl (flt (by decide : ¬ ((3 : Int32) < (2 : Int32)))).1 ?_
    refine XS.iload X12.here hx rfl (hb hby at_135) rfl ?_
    show Steps p.tables e below (T12.setTop (mkF m 137 #[.val (.int x0), .val (.int x1), .val (.int x2), .val (.int x3), .val (.int H1), .val (.int H2), .val (.int H3), .val (.int (3 : Int32)), .val (.ref hs), .val (.int (1 : Int32)), .val (.int (1 : Int32)), .val (.int (2 : Int32)), .val (.ref ea), .val (.int (1 : Int32)), .unset, .unset, .unset, .unset] [(.int H2)])) _
    refine XS.iload X12.here hx rfl (hb hby at_137) rfl ?_
    refine XS.icmpYes X12.here hx rfl (pc0 := 139) (pc' := 155) rfl (hb hby at_139) rfl (teq hq2).1 (by decide) (by decide) ?_
    refine XS.iload X12.here hx rfl (hb hby at_155) rfl ?_
    refine XS.iconst X12.here hx rfl (hb hby at_157) ?_
    show Steps p.tables e below (T12.setTop (mkF m 158 #[.val (.int x0), .val (.int x1), .val (.int x2), .val (.int x3), .val (.int H1), .val (.int H2), .val (.int H3), .val (.int (3 : Int32)), .val (.ref hs), .val (.int (1 : Int32)), .val (.int (1 : Int32)), .val (.int (2 : Int32)), .val (.ref ea), .val (.int (1 : Int32)), .unset, .unset, .unset, .unset] [(.int (3 : Int32)), (.int (3 : Int32))])) _
    refine XS.icmpNo X12.here hx rfl (hb hby at_158) rfl (flt (by decide : ¬ ((3 : Int32) < (3 : Int32)))).1 ?_
    refine XS.iload X12.here hx rfl (hb hby at_161) rfl ?_
    refine XS.iload X12.here hx rfl (hb hby at_163) rfl ?_
    refine XS.icmpNo X12.here hx rfl (hb hby at_165) rfl (feq hq3).1 ?_
    show Steps p.tables e below (T12.setTop (mkF m 168 #[.val (.int x0), .val (.int x1), .val (.int x2), .val (.int x3), .val (.int H1), .val (.int H2), .val (.int H3), .val (.int (3 : Int32)), .val (.ref hs), .val (.int (1 : Int32)), .val (.int (1 : Int32)), .val (.int (2 : Int32)), .val (.ref ea), .val (.int (1 : Int32)), .unset, .unset, .unset, .unset] [])) _
    refine XS.aload X12.here hx rfl (hb hby at_168) rfl rfl ?_
    refine XS.iload X12.here hx rfl (hb hby at_170) rfl ?_
    refine XS.iload X12.here hx rfl (hb hby at_172) rfl ?_
    refine st14 _ ?_
    show Steps p.tables e below (T14.setTop (mkF m 175 #[.val (.int x0), .val (.int x1), .val (.int x2), .val (.int x3), .val (.int H1), .val (.int H2), .val (.int H3), .val (.int (3 : Int32)), .val (.ref hs), .val (.int (1 : Int32)), .val (.int (1 : Int32)), .val (.int (2 : Int32)), .val (.ref ea), .val (.int (1 : Int32)), .unset, .unset, .unset, .unset] [])) _
    refine XS.iload X14.here hx rfl (hb hby at_175) rfl ?_
    refine XS.iconst X14.here hx rfl (hb hby at_177) ?_
    refine XS.iadd X14.here hx rfl (hb hby at_178) rfl ?_
    show Steps p.tables e below (T14.setTop (mkF m 179 #[.val (.int x0), .val (.int x1), .val (.int x2), .val (.int x3), .val (.int H1), .val (.int H2), .val (.int H3), .val (.int (3 : Int32)), .val (.ref hs), .val (.int (1 : Int32)), .val (.int (1 : Int32)), .val (.int (2 : Int32)), .val (.ref ea), .val (.int (1 : Int32)), .unset, .unset, .unset, .unset] [(.int ((1 : Int32) + (1 : Int32)))])) _
    rw [show ((1 : Int32) + (1 : Int32)) = (2 : Int32) from by decide]
    show Steps p.tables e below (T14.setTop (mkF m 179 #[.val (.int x0), .val (.int x1), .val (.int x2), .val (.int x3), .val (.int H1), .val (.int H2), .val (.int H3), .val (.int (3 : Int32)), .val (.ref hs), .val (.int (1 : Int32)), .val (.int (1 : Int32)), .val (.int (2 : Int32)), .val (.ref ea), .val (.int (1 : Int32)), .unset, .unset, .unset, .unset] [(.int (2 : Int32))])) _
    refine XS.istore X14.here hx rfl (hb hby at_179) rfl (l' := #[.val (.int x0), .val (.int x1), .val (.int x2), .val (.int x3), .val (.int H1), .val (.int H2), .val (.int H3), .val (.int (3 : Int32)), .val (.ref hs), .val (.int (1 : Int32)), .val (.int (1 : Int32)), .val (.int (2 : Int32)), .val (.ref ea), .val (.int (2 : Int32)), .unset, .unset, .unset, .unset]) rfl ?_
    show Steps p.tables e below (T14.setTop (mkF m 181 #[.val (.int x0), .val (.int x1), .val (.int x2), .val (.int x3), .val (.int H1), .val (.int H2), .val (.int H3), .val (.int (3 : Int32)), .val (.ref hs), .val (.int (1 : Int32)), .val (.int (1 : Int32)), .val (.int (2 : Int32)), .val (.ref ea), .val (.int (2 : Int32)), .unset, .unset, .unset, .unset] [])) _
    refine XS.aload X14.here hx rfl (hb hby at_181) rfl rfl ?_
    refine XS.iload X14.here hx rfl (hb hby at_183) rfl ?_
    refine st16.trans ?_
    show Steps p.tables e below (T16.setTop (mkF m 188 #[.val (.int x0), .val (.int x1), .val (.int x2), .val (.int x3), .val (.int H1), .val (.int H2), .val (.int H3), .val (.int (3 : Int32)), .val (.ref hs), .val (.int (1 : Int32)), .val (.int (1 : Int32)), .val (.int (2 : Int32)), .val (.ref ea), .val (.int (2 : Int32)), .unset, .unset, .unset, .unset] [(.ref g1)])) _
    refine XS.astore X16.here hx rfl (hb hby at_188) rfl rfl (l' := #[.val (.int x0), .val (.int x1), .val (.int x2), .val (.int x3), .val (.int H1), .val (.int H2), .val (.int H3), .val (.int (3 : Int32)), .val (.ref hs), .val (.int (1 : Int32)), .val (.int (1 : Int32)), .val (.int (2 : Int32)), .val (.ref ea), .val (.int (2 : Int32)), .val (.ref g1), .unset, .unset, .unset]) rfl ?_
    show Steps p.tables e below (T16.setTop (mkF m 190 #[.val (.int x0), .val (.int x1), .val (.int x2), .val (.int x3), .val (.int H1), .val (.int H2), .val (.int H3), .val (.int (3 : Int32)), .val (.ref hs), .val (.int (1 : Int32)), .val (.int (1 : Int32)), .val (.int (2 : Int32)), .val (.ref ea), .val (.int (2 : Int32)), .val (.ref g1), .unset, .unset, .unset] [])) _
    refine XS.aload X16.here hx rfl (hb hby at_190) rfl rfl ?_
    refine own_len X16 hx hZ rfl Vr16 (g := (mkF m 192 #[.val (.int x0), .val (.int x1), .val (.int x2), .val (.int x3), .val (.int H1), .val (.int H2), .val (.int H3), .val (.int (3 : Int32)), .val (.ref hs), .val (.int (1 : Int32)), .val (.int (1 : Int32)), .val (.int (2 : Int32)), .val (.ref ea), .val (.int (2 : Int32)), .val (.ref g1), .unset, .unset, .unset] [(.ref g1)])) rfl rfl (hb hby at_192) ?_
    refine XS.iload X16.here hx rfl (hb hby at_193) rfl ?_
    refine XS.icmpNo X16.here hx rfl (hb hby at_195) rfl (teq (by decide : (2 : Int32) = (2 : Int32))).2 ?_
    show Steps p.tables e below (T16.setTop (mkF m 198 #[.val (.int x0), .val (.int x1), .val (.int x2), .val (.int x3), .val (.int H1), .val (.int H2), .val (.int H3), .val (.int (3 : Int32)), .val (.ref hs), .val (.int (1 : Int32)), .val (.int (1 : Int32)), .val (.int (2 : Int32)), .val (.ref ea), .val (.int (2 : Int32)), .val (.ref g1), .unset, .unset, .unset] [])) _
    refine XS.iconst X16.here hx rfl (hb hby at_198) ?_
    refine XS.goto X16.here hx rfl (pc0 := 199) (pc' := 203) rfl (hb hby at_199) (by decide) (by decide) ?_
    refine XS.istore X16.here hx rfl (hb hby at_203) rfl (l' := #[.val (.int x0), .val (.int x1), .val (.int x2), .val (.int x3), .val (.int H1), .val (.int H2), .val (.int H3), .val (.int (3 : Int32)), .val (.ref hs), .val (.int (1 : Int32)), .val (.int (1 : Int32)), .val (.int (2 : Int32)), .val (.ref ea), .val (.int (2 : Int32)), .val (.ref g1), .val (.int (1 : Int32)), .unset, .unset]) rfl ?_
    refine XS.iload X16.here hx rfl (hb hby at_205) rfl ?_
    show Steps p.tables e below (T16.setTop (mkF m 207 #[.val (.int x0), .val (.int x1), .val (.int x2), .val (.int x3), .val (.int H1), .val (.int H2), .val (.int H3), .val (.int (3 : Int32)), .val (.ref hs), .val (.int (1 : Int32)), .val (.int (1 : Int32)), .val (.int (2 : Int32)), .val (.ref ea), .val (.int (2 : Int32)), .val (.ref g1), .val (.int (1 : Int32)), .unset, .unset] [(.int (1 : Int32))])) _
    refine XS.ifNo X16.here hx rfl (hb hby at_207) rfl ((if0 _ _).trans (feq (by decide : ¬ ((1 : Int32) = (0 : Int32)))).1) ?_
    refine XS.iload X16.here hx rfl (hb hby at_210) rfl ?_
    refine XS.iconst X16.here hx rfl (hb hby at_212) ?_
    refine XS.icmpNo X16.here hx rfl (hb hby at_213) rfl (flt (by decide : ¬ ((2 : Int32) < (1 : Int32)))).1 ?_
    show Steps p.tables e below (T16.setTop (mkF m 216 #[.val (.int x0), .val (.int x1), .val (.int x2), .val (.int x3), .val (.int H1), .val (.int H2), .val (.int H3), .val (.int (3 : Int32)), .val (.ref hs), .val (.int (1 : Int32)), .val (.int (1 : Int32)), .val (.int (2 : Int32)), .val (.ref ea), .val (.int (2 : Int32)), .val (.ref g1), .val (.int (1 : Int32)), .unset, .unset] [])) _
    refine XS.aload X16.here hx rfl (hb hby at_216) rfl rfl ?_
    refine XS.iconst X16.here hx rfl (hb hby at_218) ?_
    refine own_ldI X16 hx hZ rfl Vr16 (j := (0 : Int32)) (w := H1) ⟨by decide, by decide⟩ rfl (g := (mkF m 219 #[.val (.int x0), .val (.int x1), .val (.int x2), .val (.int x3), .val (.int H1), .val (.int H2), .val (.int H3), .val (.int (3 : Int32)), .val (.ref hs), .val (.int (1 : Int32)), .val (.int (1 : Int32)), .val (.int (2 : Int32)), .val (.ref ea), .val (.int (2 : Int32)), .val (.ref g1), .val (.int (1 : Int32)), .unset, .unset] [(.int (0 : Int32)), (.ref g1)])) rfl rfl (hb hby at_219) ?_
    refine XS.aload X16.here hx rfl (hb hby at_220) rfl rfl ?_
    show Steps p.tables e below (T16.setTop (mkF m 222 #[.val (.int x0), .val (.int x1), .val (.int x2), .val (.int x3), .val (.int H1), .val (.int H2), .val (.int H3), .val (.int (3 : Int32)), .val (.ref hs), .val (.int (1 : Int32)), .val (.int (1 : Int32)), .val (.int (2 : Int32)), .val (.ref ea), .val (.int (2 : Int32)), .val (.ref g1), .val (.int (1 : Int32)), .unset, .unset] [(.ref ea), (.int H1)])) _
    refine XS.iconst X16.here hx rfl (hb hby at_222) ?_
    refine own_ldI X16 hx hZ rfl V_ea_17 (j := (0 : Int32)) (w := H1) ⟨by decide, by decide⟩ rfl (g := (mkF m 223 #[.val (.int x0), .val (.int x1), .val (.int x2), .val (.int x3), .val (.int H1), .val (.int H2), .val (.int H3), .val (.int (3 : Int32)), .val (.ref hs), .val (.int (1 : Int32)), .val (.int (1 : Int32)), .val (.int (2 : Int32)), .val (.ref ea), .val (.int (2 : Int32)), .val (.ref g1), .val (.int (1 : Int32)), .unset, .unset] [(.int (0 : Int32)), (.ref ea), (.int H1)])) rfl rfl (hb hby at_223) ?_
    refine XS.icmpNo X16.here hx rfl (hb hby at_224) rfl (teq (rfl : H1 = H1)).2 ?_
    refine XS.iconst X16.here hx rfl (hb hby at_227) ?_
    show Steps p.tables e below (T16.setTop (mkF m 228 #[.val (.int x0), .val (.int x1), .val (.int x2), .val (.int x3), .val (.int H1), .val (.int H2), .val (.int H3), .val (.int (3 : Int32)), .val (.ref hs), .val (.int (1 : Int32)), .val (.int (1 : Int32)), .val (.int (2 : Int32)), .val (.ref ea), .val (.int (2 : Int32)), .val (.ref g1), .val (.int (1 : Int32)), .unset, .unset] [(.int (1 : Int32))])) _
    refine XS.goto X16.here hx rfl (pc0 := 228) (pc' := 232) rfl (hb hby at_228) (by decide) (by decide) ?_
    refine XS.istore X16.here hx rfl (hb hby at_232) rfl (l' := #[.val (.int x0), .val (.int x1), .val (.int x2), .val (.int x3), .val (.int H1), .val (.int H2), .val (.int H3), .val (.int (3 : Int32)), .val (.ref hs), .val (.int (1 : Int32)), .val (.int (1 : Int32)), .val (.int (2 : Int32)), .val (.ref ea), .val (.int (2 : Int32)), .val (.ref g1), .val (.int (1 : Int32)), .unset, .unset]) rfl ?_
    refine XS.iload X16.here hx rfl (hb hby at_234) rfl ?_
    refine XS.ifNo X16.here hx rfl (hb hby at_236) rfl ((if0 _ _).trans (feq (by decide : ¬ ((1 : Int32) = (0 : Int32)))).1) ?_
    show Steps p.tables e below (T16.setTop (mkF m 239 #[.val (.int x0), .val (.int x1), .val (.int x2), .val (.int x3), .val (.int H1), .val (.int H2), .val (.int H3), .val (.int (3 : Int32)), .val (.ref hs), .val (.int (1 : Int32)), .val (.int (1 : Int32)), .val (.int (2 : Int32)), .val (.ref ea), .val (.int (2 : Int32)), .val (.ref g1), .val (.int (1 : Int32)), .unset, .unset] [])) _
    refine XS.iload X16.here hx rfl (hb hby at_239) rfl ?_
    refine XS.iconst X16.here hx rfl (hb hby at_241) ?_
    refine XS.icmpNo X16.here hx rfl (hb hby at_242) rfl (flt (by decide : ¬ ((2 : Int32) < (2 : Int32)))).1 ?_
    refine XS.aload X16.here hx rfl (hb hby at_245) rfl rfl ?_
    show Steps p.tables e below (T16.setTop (mkF m 247 #[.val (.int x0), .val (.int x1), .val (.int x2), .val (.int x3), .val (.int H1), .val (.int H2), .val (.int H3), .val (.int (3 : Int32)), .val (.ref hs), .val (.int (1 : Int32)), .val (.int (1 : Int32)), .val (.int (2 : Int32)), .val (.ref ea), .val (.int (2 : Int32)), .val (.ref g1), .val (.int (1 : Int32)), .unset, .unset] [(.ref g1)])) _
    refine XS.iconst X16.here hx rfl (hb hby at_247) ?_
    refine own_ldI X16 hx hZ rfl Vr16 (j := (1 : Int32)) (w := H3) ⟨by decide, by decide⟩ rfl (g := (mkF m 248 #[.val (.int x0), .val (.int x1), .val (.int x2), .val (.int x3), .val (.int H1), .val (.int H2), .val (.int H3), .val (.int (3 : Int32)), .val (.ref hs), .val (.int (1 : Int32)), .val (.int (1 : Int32)), .val (.int (2 : Int32)), .val (.ref ea), .val (.int (2 : Int32)), .val (.ref g1), .val (.int (1 : Int32)), .unset, .unset] [(.int (1 : Int32)), (.ref g1)])) rfl rfl (hb hby at_248) ?_
    refine XS.aload X16.here hx rfl (hb hby at_249) rfl rfl ?_
    refine XS.iconst X16.here hx rfl (hb hby at_251) ?_
    show Steps p.tables e below (T16.setTop (mkF m 252 #[.val (.int x0), .val (.int x1), .val (.int x2), .val (.int x3), .val (.int H1), .val (.int H2), .val (.int H3), .val (.int (3 : Int32)), .val (.ref hs), .val (.int (1 : Int32)), .val (.int (1 : Int32)), .val (.int (2 : Int32)), .val (.ref ea), .val (.int (2 : Int32)), .val (.ref g1), .val (.int (1 : Int32)), .unset, .unset] [(.int (1 : Int32)), (.ref ea), (.int H3)])) _
    refine own_ldI X16 hx hZ rfl V_ea_17 (j := (1 : Int32)) (w := H3) ⟨by decide, by decide⟩ rfl (g := (mkF m 252 #[.val (.int x0), .val (.int x1), .val (.int x2), .val (.int x3), .val (.int H1), .val (.int H2), .val (.int H3), .val (.int (3 : Int32)), .val (.ref hs), .val (.int (1 : Int32)), .val (.int (1 : Int32)), .val (.int (2 : Int32)), .val (.ref ea), .val (.int (2 : Int32)), .val (.ref g1), .val (.int (1 : Int32)), .unset, .unset] [(.int (1 : Int32)), (.ref ea), (.int H3)])) rfl rfl (hb hby at_252) ?_
    refine XS.icmpNo X16.here hx rfl (hb hby at_253) rfl (teq (rfl : H3 = H3)).2 ?_
    refine XS.iconst X16.here hx rfl (hb hby at_256) ?_
    refine XS.goto X16.here hx rfl (pc0 := 257) (pc' := 261) rfl (hb hby at_257) (by decide) (by decide) ?_
    show Steps p.tables e below (T16.setTop (mkF m 261 #[.val (.int x0), .val (.int x1), .val (.int x2), .val (.int x3), .val (.int H1), .val (.int H2), .val (.int H3), .val (.int (3 : Int32)), .val (.ref hs), .val (.int (1 : Int32)), .val (.int (1 : Int32)), .val (.int (2 : Int32)), .val (.ref ea), .val (.int (2 : Int32)), .val (.ref g1), .val (.int (1 : Int32)), .unset, .unset] [(.int (1 : Int32))])) _
    refine XS.istore X16.here hx rfl (hb hby at_261) rfl (l' := #[.val (.int x0), .val (.int x1), .val (.int x2), .val (.int x3), .val (.int H1), .val (.int H2), .val (.int H3), .val (.int (3 : Int32)), .val (.ref hs), .val (.int (1 : Int32)), .val (.int (1 : Int32)), .val (.int (2 : Int32)), .val (.ref ea), .val (.int (2 : Int32)), .val (.ref g1), .val (.int (1 : Int32)), .unset, .unset]) rfl ?_
    refine XS.iload X16.here hx rfl (hb hby at_263) rfl ?_
    refine XS.ifNo X16.here hx rfl (hb hby at_265) rfl ((if0 _ _).trans (feq (by decide : ¬ ((1 : Int32) = (0 : Int32)))).1) ?_
    refine XS.iload X16.here hx rfl (hb hby at_268) rfl ?_
    show Steps p.tables e below (T16.setTop (mkF m 270 #[.val (.int x0), .val (.int x1), .val (.int x2), .val (.int x3), .val (.int H1), .val (.int H2), .val (.int H3), .val (.int (3 : Int32)), .val (.ref hs), .val (.int (1 : Int32)), .val (.int (1 : Int32)), .val (.int (2 : Int32)), .val (.ref ea), .val (.int (2 : Int32)), .val (.ref g1), .val (.int (1 : Int32)), .unset, .unset] [(.int (2 : Int32))])) _
    refine XS.iconst X16.here hx rfl (hb hby at_270) ?_
    refine XS.icmpYes X16.here hx rfl (pc0 := 271) (pc' := 292) rfl (hb hby at_271) rfl (tlt (by decide : (2 : Int32) < (3 : Int32))).1 (by decide) (by decide) ?_
    refine XS.aload X16.here hx rfl (hb hby at_292) rfl rfl ?_
    refine XS.iload X16.here hx rfl (hb hby at_294) rfl ?_
    show Steps p.tables e below (T16.setTop (mkF m 296 #[.val (.int x0), .val (.int x1), .val (.int x2), .val (.int x3), .val (.int H1), .val (.int H2), .val (.int H3), .val (.int (3 : Int32)), .val (.ref hs), .val (.int (1 : Int32)), .val (.int (1 : Int32)), .val (.int (2 : Int32)), .val (.ref ea), .val (.int (2 : Int32)), .val (.ref g1), .val (.int (1 : Int32)), .unset, .unset] [(.int (1 : Int32)), (.ref hs)])) _
    refine st18.trans ?_
    show Steps p.tables e below (T18.setTop (mkF m 299 #[.val (.int x0), .val (.int x1), .val (.int x2), .val (.int x3), .val (.int H1), .val (.int H2), .val (.int H3), .val (.int (3 : Int32)), .val (.ref hs), .val (.int (1 : Int32)), .val (.int (1 : Int32)), .val (.int (2 : Int32)), .val (.ref ea), .val (.int (2 : Int32)), .val (.ref g1), .val (.int (1 : Int32)), .unset, .unset] [(.ref g2)])) _
    refine XS.astore X18.here hx rfl (hb hby at_299) rfl rfl (l' := #[.val (.int x0), .val (.int x1), .val (.int x2), .val (.int x3), .val (.int H1), .val (.int H2), .val (.int H3), .val (.int (3 : Int32)), .val (.ref hs), .val (.int (1 : Int32)), .val (.int (1 : Int32)), .val (.int (2 : Int32)), .val (.ref ea), .val (.int (2 : Int32)), .val (.ref g1), .val (.int (1 : Int32)), .val (.ref g2), .unset]) rfl ?_
    refine XS.iload X18.here hx rfl (hb hby at_301) rfl ?_
    refine XS.iconst X18.here hx rfl (hb hby at_303) ?_
    show Steps p.tables e below (T18.setTop (mkF m 304 #[.val (.int x0), .val (.int x1), .val (.int x2), .val (.int x3), .val (.int H1), .val (.int H2), .val (.int H3), .val (.int (3 : Int32)), .val (.ref hs), .val (.int (1 : Int32)), .val (.int (1 : Int32)), .val (.int (2 : Int32)), .val (.ref ea), .val (.int (2 : Int32)), .val (.ref g1), .val (.int (1 : Int32)), .val (.ref g2), .unset] [(.int (1 : Int32)), (.int (3 : Int32))])) _
    refine XS.icmpNo X18.here hx rfl (hb hby at_304) rfl (flt (by decide : ¬ ((3 : Int32) < (1 : Int32)))).1 ?_
    refine XS.iload X18.here hx rfl (hb hby at_307) rfl ?_
    refine XS.ifNo X18.here hx rfl (hb hby at_309) rfl ((if0 _ _).trans (feq (by decide : ¬ ((1 : Int32) = (0 : Int32)))).1) ?_
    refine XS.aload X18.here hx rfl (hb hby at_312) rfl rfl ?_
    show Steps p.tables e below (T18.setTop (mkF m 314 #[.val (.int x0), .val (.int x1), .val (.int x2), .val (.int x3), .val (.int H1), .val (.int H2), .val (.int H3), .val (.int (3 : Int32)), .val (.ref hs), .val (.int (1 : Int32)), .val (.int (1 : Int32)), .val (.int (2 : Int32)), .val (.ref ea), .val (.int (2 : Int32)), .val (.ref g1), .val (.int (1 : Int32)), .val (.ref g2), .unset] [(.ref g2)])) _
    refine own_len X18 hx hZ rfl Vr18 (g := (mkF m 314 #[.val (.int x0), .val (.int x1), .val (.int x2), .val (.int x3), .val (.int H1), .val (.int H2), .val (.int H3), .val (.int (3 : Int32)), .val (.ref hs), .val (.int (1 : Int32)), .val (.int (1 : Int32)), .val (.int (2 : Int32)), .val (.ref ea), .val (.int (2 : Int32)), .val (.ref g1), .val (.int (1 : Int32)), .val (.ref g2), .unset] [(.ref g2)])) rfl rfl (hb hby at_314) ?_
    refine XS.iconst X18.here hx rfl (hb hby at_315) ?_
    refine XS.icmpNo X18.here hx rfl (hb hby at_316) rfl (teq (by decide : (1 : Int32) = (1 : Int32))).2 ?_
    refine XS.aload X18.here hx rfl (hb hby at_319) rfl rfl ?_
    show Steps p.tables e below (T18.setTop (mkF m 321 #[.val (.int x0), .val (.int x1), .val (.int x2), .val (.int x3), .val (.int H1), .val (.int H2), .val (.int H3), .val (.int (3 : Int32)), .val (.ref hs), .val (.int (1 : Int32)), .val (.int (1 : Int32)), .val (.int (2 : Int32)), .val (.ref ea), .val (.int (2 : Int32)), .val (.ref g1), .val (.int (1 : Int32)), .val (.ref g2), .unset] [(.ref g2)])) _
    refine XS.iconst X18.here hx rfl (hb hby at_321) ?_
    refine own_ldI X18 hx hZ rfl Vr18 (j := (0 : Int32)) (w := H1) ⟨by decide, by decide⟩ rfl (g := (mkF m 322 #[.val (.int x0), .val (.int x1), .val (.int x2), .val (.int x3), .val (.int H1), .val (.int H2), .val (.int H3), .val (.int (3 : Int32)), .val (.ref hs), .val (.int (1 : Int32)), .val (.int (1 : Int32)), .val (.int (2 : Int32)), .val (.ref ea), .val (.int (2 : Int32)), .val (.ref g1), .val (.int (1 : Int32)), .val (.ref g2), .unset] [(.int (0 : Int32)), (.ref g2)])) rfl rfl (hb hby at_322) ?_
    refine XS.iload X18.here hx rfl (hb hby at_323) rfl ?_
    refine XS.icmpNo X18.here hx rfl (hb hby at_325) rfl (teq (rfl : H1 = H1)).2 ?_
    show Steps p.tables e below (T18.setTop (mkF m 328 #[.val (.int x0), .val (.int x1), .val (.int x2), .val (.int x3), .val (.int H1), .val (.int H2), .val (.int H3), .val (.int (3 : Int32)), .val (.ref hs), .val (.int (1 : Int32)), .val (.int (1 : Int32)), .val (.int (2 : Int32)), .val (.ref ea), .val (.int (2 : Int32)), .val (.ref g1), .val (.int (1 : Int32)), .val (.ref g2), .unset] [])) _
    refine XS.iconst X18.here hx rfl (hb hby at_328) ?_
    refine XS.goto X18.here hx rfl (pc0 := 329) (pc' := 333) rfl (hb hby at_329) (by decide) (by decide) ?_
    refine XS.istore X18.here hx rfl (hb hby at_333) rfl (l' := #[.val (.int x0), .val (.int x1), .val (.int x2), .val (.int x3), .val (.int H1), .val (.int H2), .val (.int H3), .val (.int (3 : Int32)), .val (.ref hs), .val (.int (1 : Int32)), .val (.int (1 : Int32)), .val (.int (2 : Int32)), .val (.ref ea), .val (.int (2 : Int32)), .val (.ref g1), .val (.int (1 : Int32)), .val (.ref g2), .unset]) rfl ?_
    refine XS.goto X18.here hx rfl (pc0 := 335) (pc' := 356) rfl (hb hby at_335) (by decide) (by decide) ?_
    show Steps p.tables e below (T18.setTop (mkF m 356 #[.val (.int x0), .val (.int x1), .val (.int x2), .val (.int x3), .val (.int H1), .val (.int H2), .val (.int H3), .val (.int (3 : Int32)), .val (.ref hs), .val (.int (1 : Int32)), .val (.int (1 : Int32)), .val (.int (2 : Int32)), .val (.ref ea), .val (.int (2 : Int32)), .val (.ref g1), .val (.int (1 : Int32)), .val (.ref g2), .unset] [])) _
    refine XS.aload X18.here hx rfl (hb hby at_356) rfl rfl ?_
    refine XS.iconst X18.here hx rfl (hb hby at_358) ?_
    refine st20.trans ?_
    show Steps p.tables e below (T20.setTop (mkF m 362 #[.val (.int x0), .val (.int x1), .val (.int x2), .val (.int x3), .val (.int H1), .val (.int H2), .val (.int H3), .val (.int (3 : Int32)), .val (.ref hs), .val (.int (1 : Int32)), .val (.int (1 : Int32)), .val (.int (2 : Int32)), .val (.ref ea), .val (.int (2 : Int32)), .val (.ref g1), .val (.int (1 : Int32)), .val (.ref g2), .unset] [(.ref g3)])) _
    refine XS.astore X20.here hx rfl (hb hby at_362) rfl rfl (l' := #[.val (.int x0), .val (.int x1), .val (.int x2), .val (.int x3), .val (.int H1), .val (.int H2), .val (.int H3), .val (.int (3 : Int32)), .val (.ref hs), .val (.int (1 : Int32)), .val (.int (1 : Int32)), .val (.int (2 : Int32)), .val (.ref ea), .val (.int (2 : Int32)), .val (.ref g1), .val (.int (1 : Int32)), .val (.ref g2), .val (.ref g3)]) rfl ?_
    show Steps p.tables e below (T20.setTop (mkF m 364 #[.val (.int x0), .val (.int x1), .val (.int x2), .val (.int x3), .val (.int H1), .val (.int H2), .val (.int H3), .val (.int (3 : Int32)), .val (.ref hs), .val (.int (1 : Int32)), .val (.int (1 : Int32)), .val (.int (2 : Int32)), .val (.ref ea), .val (.int (2 : Int32)), .val (.ref g1), .val (.int (1 : Int32)), .val (.ref g2), .val (.ref g3)] [])) _
    refine XS.iload X20.here hx rfl (hb hby at_364) rfl ?_
    refine XS.ifNo X20.here hx rfl (hb hby at_366) rfl ((if0 _ _).trans (feq (by decide : ¬ ((1 : Int32) = (0 : Int32)))).1) ?_
    refine XS.aload X20.here hx rfl (hb hby at_369) rfl rfl ?_
    refine own_len X20 hx hZ rfl Vr20 (g := (mkF m 371 #[.val (.int x0), .val (.int x1), .val (.int x2), .val (.int x3), .val (.int H1), .val (.int H2), .val (.int H3), .val (.int (3 : Int32)), .val (.ref hs), .val (.int (1 : Int32)), .val (.int (1 : Int32)), .val (.int (2 : Int32)), .val (.ref ea), .val (.int (2 : Int32)), .val (.ref g1), .val (.int (1 : Int32)), .val (.ref g2), .val (.ref g3)] [(.ref g3)])) rfl rfl (hb hby at_371) ?_
    show Steps p.tables e below (T20.setTop (mkF m 372 #[.val (.int x0), .val (.int x1), .val (.int x2), .val (.int x3), .val (.int H1), .val (.int H2), .val (.int H3), .val (.int (3 : Int32)), .val (.ref hs), .val (.int (1 : Int32)), .val (.int (1 : Int32)), .val (.int (2 : Int32)), .val (.ref ea), .val (.int (2 : Int32)), .val (.ref g1), .val (.int (1 : Int32)), .val (.ref g2), .val (.ref g3)] [(.int (0 : Int32))])) _
    refine XS.ifNo X20.here hx rfl (hb hby at_372) rfl ((if0 _ _).trans (teq (by decide : (0 : Int32) = (0 : Int32))).2) ?_
    refine XS.iconst X20.here hx rfl (hb hby at_375) ?_
    refine XS.goto X20.here hx rfl (pc0 := 376) (pc' := 380) rfl (hb hby at_376) (by decide) (by decide) ?_
    refine XS.istore X20.here hx rfl (hb hby at_380) rfl (l' := #[.val (.int x0), .val (.int x1), .val (.int x2), .val (.int x3), .val (.int H1), .val (.int H2), .val (.int H3), .val (.int (3 : Int32)), .val (.ref hs), .val (.int (1 : Int32)), .val (.int (1 : Int32)), .val (.int (2 : Int32)), .val (.ref ea), .val (.int (2 : Int32)), .val (.ref g1), .val (.int (1 : Int32)), .val (.ref g2), .val (.ref g3)]) rfl ?_
    show Steps p.tables e below (T20.setTop (mkF m 382 #[.val (.int x0), .val (.int x1), .val (.int x2), .val (.int x3), .val (.int H1), .val (.int H2), .val (.int H3), .val (.int (3 : Int32)), .val (.ref hs), .val (.int (1 : Int32)), .val (.int (1 : Int32)), .val (.int (2 : Int32)), .val (.ref ea), .val (.int (2 : Int32)), .val (.ref g1), .val (.int (1 : Int32)), .val (.ref g2), .val (.ref g3)] [])) _
    refine XS.iload X20.here hx rfl (hb hby at_382) rfl ?_
    exact retN X20 hx (t := .boolean) Bd.returns (by simp) (hb hby at_384) hr
  · exact ⟨rfl, N20⟩
set_option maxRecDepth 65536 in
set_option maxHeartbeats 40000000 in
theorem rm0_3ne (l : Launch) (Z : State) (a0 : Array Value) (hw : ∀ d ∈ tables_1, d.before a0 Z = true) (ws : List Jvm.Cond) (x0 : Int32) (x1 : Int32) (x2 : Int32) (x3 : Int32) (H1 H2 H3 : Int32) (h0 : Heap) (n0 : Nat) (Z0 : n0 ≤ h0.size) (eH1 : H1 = (x0 &&& (536870911 : Int32))) (eH2 : H2 = (H1 + (x1 &&& (536870911 : Int32)))) (eH3 : H3 = (H2 + (x2 &&& (1073741823 : Int32)))) (hn : (x3 &&& (3 : Int32)) = (3 : Int32)) (hq2 : ¬ (H2 = H1)) (hq3 : H3 = H2) :
    MetFree l x (head1 (Jvm.Cond.code x code maxLocals ret :: ws) room_1) (fun a U => a = #[(.int x0), (.int x1), (.int x2), (.int x3)] ∧ Z.Warmed39 U.vm ∧ U.heap = h0) (fun _ _ _ _ _ => True) (fun _ U o U' => ∃ v L, o = .returned v ∧ (QL n0 v U'.heap L) ∧ FrameEnd U o U' L room_1.cells room_1.slots) := by
  refine MetFree.of_bodySF (plainFor_of_name pn_0) hisR ?_
  intro p e s m args below meth c s₁ Bd hml0 hP hK
  obtain ⟨rfl, hZ, hh⟩ := hP
  have hx := Bd.exec
  have hby := Bd.bytes
  have hml : c.maxLocals = 18 := hml0
  have hown : s.vm.findClass "com/example/rootline/rootline/reach/HolderSetsHoldersPinLaw" = some m.cls := findClass_of_methodNamed Bd.named
  have hnm := (name_of_methodNamed Bd.named Bd.method).1
  have X0 : Stand p l e room_1 s m #[(.int x0), (.int x1), (.int x2), (.int x3)] below meth c s₁ [] 0 0 := Stand.of_body Bd
  have e0 : s₁.heap = h0 := by rw [← hh, Bd.state]; rfl
  have N0 := Fr.nil n0
  have pre0 : ∀ t, Steps p.tables e below (s₁.setTop (mkF m 0 #[.val (.int x0), .val (.int x1), .val (.int x2), .val (.int x3), .unset, .unset, .unset, .unset, .unset, .unset, .unset, .unset, .unset, .unset, .unset, .unset, .unset, .unset] [])) t → Steps p.tables e below (s₁.setTop (entryFrame m #[(.int x0), (.int x1), (.int x2), (.int x3)] maxLocals)) t := fun t k => castTop (ef_0 m x0 x1 x2 x3) k
  have c0 : (0 : Int32).toInt = 0 := rfl
  have cm1 : (-1 : Int32).toInt = -1 := rfl
  have m1 := c_mask x0 (536870911 : Int32) 29 (by decide) (by decide)
  have m2 := c_mask x1 (536870911 : Int32) 29 (by decide) (by decide)
  have m3 := c_mask x2 (1073741823 : Int32) 30 (by decide) (by decide)
  rw [show ((2 ^ 29 : Nat) : Int) = 536870912 from rfl] at m1 m2
  rw [show ((2 ^ 30 : Nat) : Int) = 1073741824 from rfl] at m3
  have a2 := c_iadd H1 (x1 &&& (536870911 : Int32))
  have a3 := c_iadd H2 (x2 &&& (1073741823 : Int32))
  rw [← eH2] at a2
  rw [← eH3] at a3
  rw [← eH1] at m1
  have r2 := rng32 H2
  have r3 := rng32 H3
  have hH1 : 0 ≤ H1.toInt := by omega
  have hH1n := hH1
  have hH2n : 0 ≤ H2.toInt := by omega
  have hH3n : 0 ≤ H3.toInt := by omega
  have le12 : H1.toInt ≤ H2.toInt := by omega
  have le23 : H2.toInt ≤ H3.toInt := by omega
  have hneH1 : ¬ (H1 = (-1 : Int32)) := by rw [← Int32.toInt_inj]; omega
  have hgeH1 : ¬ (H1 < (-1 : Int32)) := by rw [Int32.lt_iff_toInt_lt]; omega
  have hneH2 : ¬ (H2 = H1) := hq2
  have hgeH2 : ¬ (H2 < H1) := by rw [Int32.lt_iff_toInt_lt]; omega
  have heqH3 : H3 = H2 := hq3
  obtain ⟨T1, h1, X1, e1, E1, A1, D1, -, st1⟩ := newO X0 hx hZ hown (hw _ (List.mem_of_getElem? (i := 2) rfl)) (hw _ (List.mem_of_getElem? (i := 3) rfl)) (hw _ (List.mem_of_getElem? (i := 4) rfl)) e0 (g := (mkF m 29 #[.val (.int x0), .val (.int x1), .val (.int x2), .val (.int x3), .val (.int H1), .val (.int H2), .val (.int H3), .val (.int (3 : Int32)), .unset, .unset, .unset, .unset, .unset, .unset, .unset, .unset, .unset, .unset] [])) rfl (hb hby at_29) (by decide) (by decide)
  obtain ⟨hs, g1⟩ : ∃ z, z = h0.size := ⟨_, rfl⟩
  rw [← g1] at A1 D1 st1
  have E_hs_1 : Exa Z h1 hs "com/example/rootline/rootline/reach/HolderSets" := A1
  have F_rest_hs_1 : Fld Z h1 hs sH "rest" "[I" .null := D1 (Or.inl (hw _ (List.mem_of_getElem? (i := 13) rfl))) (ty := (.array .int)) (by decide)
  have F_highest_hs_1 : Fld Z h1 hs sH "highest" "[I" .null := D1 (Or.inl (hw _ (List.mem_of_getElem? (i := 15) rfl))) (ty := (.array .int)) (by decide)
  have F_sizes_hs_1 : Fld Z h1 hs sH "sizes" "[I" .null := D1 (Or.inl (hw _ (List.mem_of_getElem? (i := 17) rfl))) (ty := (.array .int)) (by decide)
  have F_count_hs_1 : Fld Z h1 hs sH "count" "I" (.int (0 : Int32)) := D1 (Or.inl (hw _ (List.mem_of_getElem? (i := 19) rfl))) (ty := .int) (by decide)
  have F_withOne_hs_1 : Fld Z h1 hs sH "withOne" "Lcom/example/rootline/rootline/heap/LongIntTable;" .null := D1 (Or.inr (hw _ (List.mem_of_getElem? (i := 40) rfl))) (ty := (.object "com/example/rootline/rootline/heap/LongIntTable")) (by decide)
  have F_unions_hs_1 : Fld Z h1 hs sH "unions" "Lcom/example/rootline/rootline/heap/LongIntTable;" .null := D1 (Or.inr (hw _ (List.mem_of_getElem? (i := 42) rfl))) (ty := (.object "com/example/rootline/rootline/heap/LongIntTable")) (by decide)
  have F_left_hs_1 : Fld Z h1 hs sH "left" "[I" .null := D1 (Or.inl (hw _ (List.mem_of_getElem? (i := 44) rfl))) (ty := (.array .int)) (by decide)
  have F_right_hs_1 : Fld Z h1 hs sH "right" "[I" .null := D1 (Or.inl (hw _ (List.mem_of_getElem? (i := 46) rfl))) (ty := (.array .int)) (by decide)
  have F_merged_hs_1 : Fld Z h1 hs sH "merged" "[I" .null := D1 (Or.inl (hw _ (List.mem_of_getElem? (i := 48) rfl))) (ty := (.array .int)) (by decide)
  have g_hs : n0 ≤ hs := Nat.le_trans Z0 (Nat.le_of_eq g1.symm)
  have siz_2 := Nat.le_trans Z0 E1.1
  obtain ⟨_, _, ⟨T3, L3, k3, n3⟩, -, X3, ⟨Lc3, hQ3, l3, y3, z3⟩, st3⟩ := X1.specialBack hx (y := (⟨"com/example/rootline/rootline/reach/HolderSets", "<init>", "()V"⟩ : MethodName)) rfl hown (mvT hZ (hw _ (List.mem_of_getElem? (i := 5) rfl))) (mvT hZ (hw _ (List.mem_of_getElem? (i := 6) rfl))) (mvT hZ (hw _ (List.mem_of_getElem? (i := 7) rfl))) (by decide) (backOf (W := 1) (rm1 l Z a0 hw [] hs h1 n0 siz_2 E_hs_1 F_rest_hs_1 F_highest_hs_1 F_sizes_hs_1 F_count_hs_1 F_withOne_hs_1 F_unions_hs_1 F_left_hs_1 F_right_hs_1 F_merged_hs_1 g_hs) hZ (hw _ (List.mem_of_getElem? (i := 7) rfl)) (hw _ (List.mem_of_getElem? (i := 4) rfl)) (by decide) (by decide)) (g := (mkF m 33 #[.val (.int x0), .val (.int x1), .val (.int x2), .val (.int x3), .val (.int H1), .val (.int H2), .val (.int H3), .val (.int (3 : Int32)), .unset, .unset, .unset, .unset, .unset, .unset, .unset, .unset, .unset, .unset] [(.ref hs), (.ref hs)])) rfl (by rw [hml]; rfl) (Steps.refl _) (a := hs) (argsL := []) (rest := [(.ref hs)]) (lenOf pd___V rfl) rfl (by show 2 * 0 + _ ≤ _; exact Nat.le_of_eq rfl) (hb hby at_33) (fun _ _ => ⟨rfl, e1, (by decide : 1 + 12 ≤ _), (by decide : 9 + 358 ≤ _)⟩)
  dsimp only [Pt.U, Pt.locs, Pt.cells, Pt.slots] at X3 l3 y3 z3 st3 hQ3
  subst l3 y3 z3
  obtain ⟨rfl, N3q, K3, ra, ha, sa, t, ka, va, kr, kh, ks, Kf, Vf, HSi, hVf⟩ := hQ3
  have siz_4 := Nat.le_trans siz_2 K3.1
  have E_hs : Exa Z T3.heap hs "com/example/rootline/rootline/reach/HolderSets" := HSi.2.1
  have N3 := Fr.app N0 N3q
  obtain ⟨cq5, kq5, q5a, q5b, q5c⟩ := isOf hZ rfl E_hs
  obtain ⟨_, _, ⟨T5, L5, k5, n5⟩, -, X5, ⟨Lc5, hQ5, l5, y5, z5⟩, st5⟩ := X3.virtualBack hx (y := (⟨"com/example/rootline/rootline/reach/HolderSets", "with", "(II)I"⟩ : MethodName)) (z := (⟨"com/example/rootline/rootline/reach/HolderSets", "with", "(II)I"⟩ : MethodName)) hown (mvT hZ (hw _ (List.mem_of_getElem? (i := 49) rfl))) (mvT hZ (hw _ (List.mem_of_getElem? (i := 50) rfl))) (notFace_of_selects (args := #[]) (mvT hZ (hw _ (List.mem_of_getElem? (i := 52) rfl)))) (mvT hZ (hw _ (List.mem_of_getElem? (i := 52) rfl))) (mvT hZ (hw _ (List.mem_of_getElem? (i := 51) rfl))) (by decide) (backOf (W := 0) (rmw_0 l Z a0 hw [] hs H1 ra ha sa t ka va kr kh ks Kf Vf  T3.heap n0 siz_4 HSi g_hs (fun i hi => own_emp Vf 0 0 (fun j hj q => absurd (hVf j hj) q) i hi) (fun j hj q => absurd (hVf j hj) q) hneH1 hgeH1) hZ (hw _ (List.mem_of_getElem? (i := 53) rfl)) (hw _ (List.mem_of_getElem? (i := 4) rfl)) (by decide) (by decide)) q5a q5c (g := (mkF m 49 #[.val (.int x0), .val (.int x1), .val (.int x2), .val (.int x3), .val (.int H1), .val (.int H2), .val (.int H3), .val (.int (3 : Int32)), .val (.ref hs), .unset, .unset, .unset, .unset, .unset, .unset, .unset, .unset, .unset] [(.int H1), (.int (0 : Int32)), (.ref hs)])) rfl (by rw [hml]; rfl) (Steps.refl _) (argsL := [(.int (0 : Int32)), (.int H1)]) (rest := []) (lenOf pd__II_I rfl) rfl (by show 2 * 0 + _ ≤ _; exact Nat.le_of_eq rfl) (hb hby at_49) (fun _ _ => ⟨rfl, rfl, (by decide : 13 + 0 ≤ _), (by decide : 367 + 0 ≤ _)⟩)
  dsimp only [Pt.U, Pt.locs, Pt.cells, Pt.slots] at X5 l5 y5 z5 st5 hQ5
  subst l5 y5 z5
  obtain ⟨rfl, N5q, K5, p1, hp1, hV1, HS5⟩ := hQ5
  have siz_6 := Nat.le_trans siz_4 K5.1
  have E_hs_6 := E_hs.keep K5
  have occ1 := own_occ1 Kf Vf p1 (1 : Int32) (own_pair (0 : Int32) H1) hVf
  have HSn5 : HSS Z T5.heap hs ra ha sa t ka va kr kh ks (2 : Int32) [(.int (-1 : Int32)), (.int (0 : Int32)), (.int (0 : Int32)), (.int (0 : Int32)), (.int (0 : Int32)), (.int (0 : Int32)), (.int (0 : Int32)), (.int (0 : Int32)), (.int (0 : Int32)), (.int (0 : Int32)), (.int (0 : Int32)), (.int (0 : Int32)), (.int (0 : Int32)), (.int (0 : Int32)), (.int (0 : Int32)), (.int (0 : Int32))] [(.int (-1 : Int32)), (.int H1), (.int (0 : Int32)), (.int (0 : Int32)), (.int (0 : Int32)), (.int (0 : Int32)), (.int (0 : Int32)), (.int (0 : Int32)), (.int (0 : Int32)), (.int (0 : Int32)), (.int (0 : Int32)), (.int (0 : Int32)), (.int (0 : Int32)), (.int (0 : Int32)), (.int (0 : Int32)), (.int (0 : Int32))] [(.int (0 : Int32)), (.int (1 : Int32)), (.int (0 : Int32)), (.int (0 : Int32)), (.int (0 : Int32)), (.int (0 : Int32)), (.int (0 : Int32)), (.int (0 : Int32)), (.int (0 : Int32)), (.int (0 : Int32)), (.int (0 : Int32)), (.int (0 : Int32)), (.int (0 : Int32)), (.int (0 : Int32)), (.int (0 : Int32)), (.int (0 : Int32))] (1 : Int32) (upd Kf p1 (own_pair (0 : Int32) H1)) (upd Vf p1 (1 : Int32)) := HS5
  have N5 := Fr.app N3 N5q
  obtain ⟨cq7, kq7, q7a, q7b, q7c⟩ := isOf hZ rfl E_hs_6
  obtain ⟨_, _, ⟨T7, L7, k7, n7⟩, -, X7, ⟨Lc7, hQ7, l7, y7, z7⟩, st7⟩ := X5.virtualBack hx (y := (⟨"com/example/rootline/rootline/reach/HolderSets", "with", "(II)I"⟩ : MethodName)) (z := (⟨"com/example/rootline/rootline/reach/HolderSets", "with", "(II)I"⟩ : MethodName)) hown (mvT hZ (hw _ (List.mem_of_getElem? (i := 49) rfl))) (mvT hZ (hw _ (List.mem_of_getElem? (i := 50) rfl))) (notFace_of_selects (args := #[]) (mvT hZ (hw _ (List.mem_of_getElem? (i := 52) rfl)))) (mvT hZ (hw _ (List.mem_of_getElem? (i := 52) rfl))) (mvT hZ (hw _ (List.mem_of_getElem? (i := 51) rfl))) (by decide) (backOf (W := 0) (rmw_1 l Z a0 hw [] hs H2 ra ha sa t ka va kr kh ks (upd Kf p1 (own_pair (0 : Int32) H1)) (upd Vf p1 (1 : Int32)) H1 T5.heap n0 siz_6 HSn5 g_hs (fun i hi => own_emp _ p1 p1 (fun j hj q => Or.inl (occ1 j hj q).1) i hi) (fun j hj q z => own_pair_ne _ _ _ _ (by decide) hH1 (by decide) hH2n (by decide) ((occ1 j hj q).2.symm.trans z)) hneH2 hgeH2) hZ (hw _ (List.mem_of_getElem? (i := 53) rfl)) (hw _ (List.mem_of_getElem? (i := 4) rfl)) (by decide) (by decide)) q7a q7c (g := (mkF m 70 #[.val (.int x0), .val (.int x1), .val (.int x2), .val (.int x3), .val (.int H1), .val (.int H2), .val (.int H3), .val (.int (3 : Int32)), .val (.ref hs), .val (.int (1 : Int32)), .unset, .unset, .unset, .unset, .unset, .unset, .unset, .unset] [(.int H2), (.int (1 : Int32)), (.ref hs)])) rfl (by rw [hml]; rfl) (Steps.refl _) (argsL := [(.int (1 : Int32)), (.int H2)]) (rest := []) (lenOf pd__II_I rfl) rfl (by show 2 * 0 + _ ≤ _; exact Nat.le_of_eq rfl) (hb hby at_70) (fun _ _ => ⟨rfl, rfl, (by decide : 13 + 0 ≤ _), (by decide : 367 + 0 ≤ _)⟩)
  dsimp only [Pt.U, Pt.locs, Pt.cells, Pt.slots] at X7 l7 y7 z7 st7 hQ7
  subst l7 y7 z7
  obtain ⟨rfl, N7q, K7, p2, hp2, hV2, HS7⟩ := hQ7
  have siz_8 := Nat.le_trans siz_6 K7.1
  have E_hs_8 := E_hs_6.keep K7
  have occ2 := own_occ2 _ _ p1 p2 (2 : Int32) _ (own_pair (1 : Int32) H2) occ1
  have HSn7 : HSS Z T7.heap hs ra ha sa t ka va kr kh ks (3 : Int32) [(.int (-1 : Int32)), (.int (0 : Int32)), (.int (1 : Int32)), (.int (0 : Int32)), (.int (0 : Int32)), (.int (0 : Int32)), (.int (0 : Int32)), (.int (0 : Int32)), (.int (0 : Int32)), (.int (0 : Int32)), (.int (0 : Int32)), (.int (0 : Int32)), (.int (0 : Int32)), (.int (0 : Int32)), (.int (0 : Int32)), (.int (0 : Int32))] [(.int (-1 : Int32)), (.int H1), (.int H2), (.int (0 : Int32)), (.int (0 : Int32)), (.int (0 : Int32)), (.int (0 : Int32)), (.int (0 : Int32)), (.int (0 : Int32)), (.int (0 : Int32)), (.int (0 : Int32)), (.int (0 : Int32)), (.int (0 : Int32)), (.int (0 : Int32)), (.int (0 : Int32)), (.int (0 : Int32))] [(.int (0 : Int32)), (.int (1 : Int32)), (.int (2 : Int32)), (.int (0 : Int32)), (.int (0 : Int32)), (.int (0 : Int32)), (.int (0 : Int32)), (.int (0 : Int32)), (.int (0 : Int32)), (.int (0 : Int32)), (.int (0 : Int32)), (.int (0 : Int32)), (.int (0 : Int32)), (.int (0 : Int32)), (.int (0 : Int32)), (.int (0 : Int32))] (2 : Int32) (upd (upd Kf p1 (own_pair (0 : Int32) H1)) p2 (own_pair (1 : Int32) H2)) (upd (upd Vf p1 (1 : Int32)) p2 (2 : Int32)) := HS7
  have N7 := Fr.app N5 N7q
  obtain ⟨cq9, kq9, q9a, q9b, q9c⟩ := isOf hZ rfl E_hs_8
  obtain ⟨_, _, ⟨T9, L9, k9, n9⟩, -, X9, ⟨Lc9, hQ9, l9, y9, z9⟩, st9⟩ := X7.virtualBack hx (y := (⟨"com/example/rootline/rootline/reach/HolderSets", "with", "(II)I"⟩ : MethodName)) (z := (⟨"com/example/rootline/rootline/reach/HolderSets", "with", "(II)I"⟩ : MethodName)) hown (mvT hZ (hw _ (List.mem_of_getElem? (i := 49) rfl))) (mvT hZ (hw _ (List.mem_of_getElem? (i := 50) rfl))) (notFace_of_selects (args := #[]) (mvT hZ (hw _ (List.mem_of_getElem? (i := 52) rfl)))) (mvT hZ (hw _ (List.mem_of_getElem? (i := 52) rfl))) (mvT hZ (hw _ (List.mem_of_getElem? (i := 51) rfl))) (by decide) (backOf (W := 0) (rme_2 l Z a0 hw [] hs H3 ra ha sa t ka va kr kh ks (upd (upd Kf p1 (own_pair (0 : Int32) H1)) p2 (own_pair (1 : Int32) H2)) (upd (upd Vf p1 (1 : Int32)) p2 (2 : Int32)) H1 H2 T7.heap n0 siz_8 HSn7 heqH3) hZ (hw _ (List.mem_of_getElem? (i := 53) rfl)) (hw _ (List.mem_of_getElem? (i := 4) rfl)) (by decide) (by decide)) q9a q9c (g := (mkF m 92 #[.val (.int x0), .val (.int x1), .val (.int x2), .val (.int x3), .val (.int H1), .val (.int H2), .val (.int H3), .val (.int (3 : Int32)), .val (.ref hs), .val (.int (1 : Int32)), .val (.int (2 : Int32)), .unset, .unset, .unset, .unset, .unset, .unset, .unset] [(.int H3), (.int (2 : Int32)), (.ref hs)])) rfl (by rw [hml]; rfl) (Steps.refl _) (argsL := [(.int (2 : Int32)), (.int H3)]) (rest := []) (lenOf pd__II_I rfl) rfl (by show 2 * 0 + _ ≤ _; exact Nat.le_of_eq rfl) (hb hby at_92) (fun _ _ => ⟨rfl, rfl, (by decide : 13 + 0 ≤ _), (by decide : 367 + 0 ≤ _)⟩)
  dsimp only [Pt.U, Pt.locs, Pt.cells, Pt.slots] at X9 l9 y9 z9 st9 hQ9
  subst l9 y9 z9
  obtain ⟨rfl, N9q, e9⟩ := hQ9
  have N9 := Fr.app N7 N9q
  obtain ⟨T10, h10, k10, X10, e10, E10, A10, st10⟩ := newP X9 hx hZ (hw _ (List.mem_of_getElem? (i := 11) rfl)) e9 (g := (mkF m 103 #[.val (.int x0), .val (.int x1), .val (.int x2), .val (.int x3), .val (.int H1), .val (.int H2), .val (.int H3), .val (.int (3 : Int32)), .val (.ref hs), .val (.int (1 : Int32)), .val (.int (2 : Int32)), .val (.int (2 : Int32)), .unset, .unset, .unset, .unset, .unset, .unset] [(.int (3 : Int32))])) rfl (hb hby at_103) rfl (by decide) (cap := 3) (by decide) (by decide) (by decide) (by decide)
  obtain ⟨ea, g10⟩ : ∃ z, z = T7.heap.size := ⟨_, rfl⟩
  rw [← g10] at A10 st10
  have V_ea_10 : Arv Z h10 ea k10 .int (3 : Int32) [(.int (0 : Int32)), (.int (0 : Int32)), (.int (0 : Int32))] (.int (0 : Int32)) := (Arv.new A10 (by decide)).pad (pad_rep [] (.int (0 : Int32)) 3)
  have lt_hs_ea : hs < ea := Nat.lt_of_lt_of_le E_hs_8.lt (Nat.le_of_eq g10.symm)
  have lt_va_ea : va < ea := Nat.lt_of_lt_of_le HSn7.lt (Nat.le_of_eq g10.symm)
  have g_ea : n0 ≤ ea := Nat.le_trans siz_8 (Nat.le_of_eq g10.symm)
  have siz_11 := Nat.le_trans siz_8 E10.1
  have E_hs_11 := E_hs_8.ext E10
  have HS_11 := HSn7.ext E10
  obtain ⟨T12, h12, L12, X12, e12, N12, W12, V12, st12⟩ := own_stI X10 hx hZ e10 V_ea_10 (j := (0 : Int32)) ⟨by decide, by decide⟩ (i := 0) rfl (Nat.le_of_ble_eq_true rfl) N9 g_ea (g := (mkF m 122 #[.val (.int x0), .val (.int x1), .val (.int x2), .val (.int x3), .val (.int H1), .val (.int H2), .val (.int H3), .val (.int (3 : Int32)), .val (.ref hs), .val (.int (1 : Int32)), .val (.int (2 : Int32)), .val (.int (2 : Int32)), .val (.ref ea), .val (.int (0 : Int32)), .unset, .unset, .unset, .unset] [(.int H1), (.int (0 : Int32)), (.ref ea)])) rfl rfl (hb hby at_122)
  have siz_13 := Nat.le_trans siz_11 (Keep.of_wr W12).1
  have E_hs_13 := E_hs_11.wr W12
  have HS_13 := HS_11.wr W12 lt_va_ea
  have V_ea_12 : Arv Z h12 ea k10 .int (3 : Int32) [(.int H1), (.int (0 : Int32)), (.int (0 : Int32))] (.int (0 : Int32)) := V12
  obtain ⟨T14, h14, L14, X14, e14, N14, W14, V14, st14⟩ := own_stI X12 hx hZ e12 V_ea_12 (j := (1 : Int32)) ⟨by decide, by decide⟩ (i := 1) rfl (Nat.le_of_ble_eq_true rfl) N12 g_ea (g := (mkF m 148 #[.val (.int x0), .val (.int x1), .val (.int x2), .val (.int x3), .val (.int H1), .val (.int H2), .val (.int H3), .val (.int (3 : Int32)), .val (.ref hs), .val (.int (1 : Int32)), .val (.int (2 : Int32)), .val (.int (2 : Int32)), .val (.ref ea), .val (.int (1 : Int32)), .unset, .unset, .unset, .unset] [(.int H2), (.int (1 : Int32)), (.ref ea)])) rfl rfl (hb hby at_148)
  have siz_15 := Nat.le_trans siz_13 (Keep.of_wr W14).1
  have E_hs_15 := E_hs_13.wr W14
  have HS_15 := HS_13.wr W14 lt_va_ea
  have V_ea_14 : Arv Z h14 ea k10 .int (3 : Int32) [(.int H1), (.int H2), (.int (0 : Int32))] (.int (0 : Int32)) := V14
  obtain ⟨cq16, kq16, q16a, q16b, q16c⟩ := isOf hZ e14 E_hs_15
  obtain ⟨_, _, ⟨T16, L16, k16, n16⟩, -, X16, ⟨Lc16, hQ16, l16, y16, z16⟩, st16⟩ := X14.virtualBack hx (y := (⟨"com/example/rootline/rootline/reach/HolderSets", "holders", "(I)[I"⟩ : MethodName)) (z := (⟨"com/example/rootline/rootline/reach/HolderSets", "holders", "(I)[I"⟩ : MethodName)) hown (mvT hZ (hw _ (List.mem_of_getElem? (i := 76) rfl))) (mvT hZ (hw _ (List.mem_of_getElem? (i := 77) rfl))) (notFace_of_selects (args := #[]) (mvT hZ (hw _ (List.mem_of_getElem? (i := 79) rfl)))) (mvT hZ (hw _ (List.mem_of_getElem? (i := 79) rfl))) (mvT hZ (hw _ (List.mem_of_getElem? (i := 78) rfl))) (by decide) (backOf (W := 0) (rmh_2_2 l Z a0 hw [] hs ra ha sa t ka va kr kh ks (upd (upd Kf p1 (own_pair (0 : Int32) H1)) p2 (own_pair (1 : Int32) H2)) (upd (upd Vf p1 (1 : Int32)) p2 (2 : Int32)) H1 H2 h14 n0 siz_15 HS_15) hZ (hw _ (List.mem_of_getElem? (i := 80) rfl)) (hw _ (List.mem_of_getElem? (i := 4) rfl)) (by decide) (by decide)) q16a q16c (g := (mkF m 185 #[.val (.int x0), .val (.int x1), .val (.int x2), .val (.int x3), .val (.int H1), .val (.int H2), .val (.int H3), .val (.int (3 : Int32)), .val (.ref hs), .val (.int (1 : Int32)), .val (.int (2 : Int32)), .val (.int (2 : Int32)), .val (.ref ea), .val (.int (2 : Int32)), .unset, .unset, .unset, .unset] [(.int (2 : Int32)), (.ref hs)])) rfl (by rw [hml]; rfl) (Steps.refl _) (argsL := [(.int (2 : Int32))]) (rest := []) (lenOf pd__I__I rfl) rfl (by show 2 * 0 + _ ≤ _; exact Nat.le_of_eq rfl) (hb hby at_185) (fun _ _ => ⟨rfl, e14, (by decide : 14 + 1 ≤ _), (by decide : 370 + 2 ≤ _)⟩)
  dsimp only [Pt.U, Pt.locs, Pt.cells, Pt.slots] at X16 l16 y16 z16 st16 hQ16
  subst l16 y16 z16
  obtain ⟨g1, kg1, rfl, N16q, K16, sr16, Vr16⟩ := hQ16
  have siz_17 := Nat.le_trans siz_15 K16.1
  have E_hs_17 := E_hs_15.keep K16
  have HS_17 := HS_15.keep K16
  have V_ea_17 := V_ea_14.keep K16 nin0
  have N16 := Fr.app N14 N16q
  obtain ⟨cq18, kq18, q18a, q18b, q18c⟩ := isOf hZ rfl E_hs_17
  obtain ⟨_, _, ⟨T18, L18, k18, n18⟩, -, X18, ⟨Lc18, hQ18, l18, y18, z18⟩, st18⟩ := X16.virtualBack hx (y := (⟨"com/example/rootline/rootline/reach/HolderSets", "holders", "(I)[I"⟩ : MethodName)) (z := (⟨"com/example/rootline/rootline/reach/HolderSets", "holders", "(I)[I"⟩ : MethodName)) hown (mvT hZ (hw _ (List.mem_of_getElem? (i := 76) rfl))) (mvT hZ (hw _ (List.mem_of_getElem? (i := 77) rfl))) (notFace_of_selects (args := #[]) (mvT hZ (hw _ (List.mem_of_getElem? (i := 79) rfl)))) (mvT hZ (hw _ (List.mem_of_getElem? (i := 79) rfl))) (mvT hZ (hw _ (List.mem_of_getElem? (i := 78) rfl))) (by decide) (backOf (W := 0) (rmh_2_1 l Z a0 hw [] hs ra ha sa t ka va kr kh ks (upd (upd Kf p1 (own_pair (0 : Int32) H1)) p2 (own_pair (1 : Int32) H2)) (upd (upd Vf p1 (1 : Int32)) p2 (2 : Int32)) H1 H2 T16.heap n0 siz_17 HS_17) hZ (hw _ (List.mem_of_getElem? (i := 80) rfl)) (hw _ (List.mem_of_getElem? (i := 4) rfl)) (by decide) (by decide)) q18a q18c (g := (mkF m 296 #[.val (.int x0), .val (.int x1), .val (.int x2), .val (.int x3), .val (.int H1), .val (.int H2), .val (.int H3), .val (.int (3 : Int32)), .val (.ref hs), .val (.int (1 : Int32)), .val (.int (2 : Int32)), .val (.int (2 : Int32)), .val (.ref ea), .val (.int (2 : Int32)), .val (.ref g1), .val (.int (1 : Int32)), .unset, .unset] [(.int (1 : Int32)), (.ref hs)])) rfl (by rw [hml]; rfl) (Steps.refl _) (argsL := [(.int (1 : Int32))]) (rest := []) (lenOf pd__I__I rfl) rfl (by show 2 * 0 + _ ≤ _; exact Nat.le_of_eq rfl) (hb hby at_296) (fun _ _ => ⟨rfl, rfl, (by decide : 15 + 1 ≤ _), (by decide : 372 + 1 ≤ _)⟩)
  dsimp only [Pt.U, Pt.locs, Pt.cells, Pt.slots] at X18 l18 y18 z18 st18 hQ18
  subst l18 y18 z18
  obtain ⟨g2, kg2, rfl, N18q, K18, sr18, Vr18⟩ := hQ18
  have siz_19 := Nat.le_trans siz_17 K18.1
  have E_hs_19 := E_hs_17.keep K18
  have HS_19 := HS_17.keep K18
  have V_ea_19 := V_ea_17.keep K18 nin0
  have V_g1_19 := Vr16.keep K18 nin0
  have N18 := Fr.app N16 N18q
  obtain ⟨cq20, kq20, q20a, q20b, q20c⟩ := isOf hZ rfl E_hs_19
  obtain ⟨_, _, ⟨T20, L20, k20, n20⟩, -, X20, ⟨Lc20, hQ20, l20, y20, z20⟩, st20⟩ := X18.virtualBack hx (y := (⟨"com/example/rootline/rootline/reach/HolderSets", "holders", "(I)[I"⟩ : MethodName)) (z := (⟨"com/example/rootline/rootline/reach/HolderSets", "holders", "(I)[I"⟩ : MethodName)) hown (mvT hZ (hw _ (List.mem_of_getElem? (i := 76) rfl))) (mvT hZ (hw _ (List.mem_of_getElem? (i := 77) rfl))) (notFace_of_selects (args := #[]) (mvT hZ (hw _ (List.mem_of_getElem? (i := 79) rfl)))) (mvT hZ (hw _ (List.mem_of_getElem? (i := 79) rfl))) (mvT hZ (hw _ (List.mem_of_getElem? (i := 78) rfl))) (by decide) (backOf (W := 0) (rmh_2_0 l Z a0 hw [] hs ra ha sa t ka va kr kh ks (upd (upd Kf p1 (own_pair (0 : Int32) H1)) p2 (own_pair (1 : Int32) H2)) (upd (upd Vf p1 (1 : Int32)) p2 (2 : Int32)) H1 H2 T18.heap n0 siz_19 HS_19) hZ (hw _ (List.mem_of_getElem? (i := 80) rfl)) (hw _ (List.mem_of_getElem? (i := 4) rfl)) (by decide) (by decide)) q20a q20c (g := (mkF m 359 #[.val (.int x0), .val (.int x1), .val (.int x2), .val (.int x3), .val (.int H1), .val (.int H2), .val (.int H3), .val (.int (3 : Int32)), .val (.ref hs), .val (.int (1 : Int32)), .val (.int (2 : Int32)), .val (.int (2 : Int32)), .val (.ref ea), .val (.int (2 : Int32)), .val (.ref g1), .val (.int (1 : Int32)), .val (.ref g2), .unset] [(.int (0 : Int32)), (.ref hs)])) rfl (by rw [hml]; rfl) (Steps.refl _) (argsL := [(.int (0 : Int32))]) (rest := []) (lenOf pd__I__I rfl) rfl (by show 2 * 0 + _ ≤ _; exact Nat.le_of_eq rfl) (hb hby at_359) (fun _ _ => ⟨rfl, rfl, (by decide : 16 + 1 ≤ _), (by decide : 373 + 0 ≤ _)⟩)
  dsimp only [Pt.U, Pt.locs, Pt.cells, Pt.slots] at X20 l20 y20 z20 st20 hQ20
  subst l20 y20 z20
  obtain ⟨g3, kg3, rfl, N20q, K20, sr20, Vr20⟩ := hQ20
  have siz_21 := Nat.le_trans siz_19 K20.1
  have E_hs_21 := E_hs_19.keep K20
  have HS_21 := HS_19.keep K20
  have V_ea_21 := V_ea_19.keep K20 nin0
  have V_g1_21 := V_g1_19.keep K20 nin0
  have V_g2_21 := Vr18.keep K20 nin0
  have N20 := Fr.app N18 N20q
  obtain ⟨fs, hr, hrun, hended, hW, hsame⟩ := X20.leave (v := some (.int (1 : Int32))) (fun h => by rw [Bd.returns] at h; cases h)
  refine ⟨_, _, pre0 _ ?_, hrun, hended, _, _, rfl, ?_, ⟨_, rfl⟩, hW, hsame.mono (by decide) (by decide)⟩
  · show Steps p.tables e below (s₁.setTop (mkF m 0 #[.val (.int x0), .val (.int x1), .val (.int x2), .val (.int x3), .unset, .unset, .unset, .unset, .unset, .unset, .unset, .unset, .unset, .unset, .unset, .unset, .unset, .unset] [])) _
    refine XS.iloadN X0.here hx rfl (hb hby at_0) rfl ?_
    refine X0.ldcInt hx hown (mvT hZ (hw _ (List.mem_of_getElem? (i := 0) rfl))) (g := (mkF m 1 #[.val (.int x0), .val (.int x1), .val (.int x2), .val (.int x3), .unset, .unset, .unset, .unset, .unset, .unset, .unset, .unset, .unset, .unset, .unset, .unset, .unset, .unset] [(.int x0)])) rfl (hb hby at_1) _ ?_
    refine XS.iand X0.here hx rfl (hb hby at_3) rfl ?_
    show Steps p.tables e below (s₁.setTop (mkF m 4 #[.val (.int x0), .val (.int x1), .val (.int x2), .val (.int x3), .unset, .unset, .unset, .unset, .unset, .unset, .unset, .unset, .unset, .unset, .unset, .unset, .unset, .unset] [(.int (x0 &&& (536870911 : Int32)))])) _
    rw [← eH1]
    show Steps p.tables e below (s₁.setTop (mkF m 4 #[.val (.int x0), .val (.int x1), .val (.int x2), .val (.int x3), .unset, .unset, .unset, .unset, .unset, .unset, .unset, .unset, .unset, .unset, .unset, .unset, .unset, .unset] [(.int H1)])) _
    refine XS.istore X0.here hx rfl (hb hby at_4) rfl (l' := #[.val (.int x0), .val (.int x1), .val (.int x2), .val (.int x3), .val (.int H1), .unset, .unset, .unset, .unset, .unset, .unset, .unset, .unset, .unset, .unset, .unset, .unset, .unset]) rfl ?_
    refine XS.iload X0.here hx rfl (hb hby at_6) rfl ?_
    refine XS.iloadN X0.here hx rfl (hb hby at_8) rfl ?_
    refine X0.ldcInt hx hown (mvT hZ (hw _ (List.mem_of_getElem? (i := 0) rfl))) (g := (mkF m 9 #[.val (.int x0), .val (.int x1), .val (.int x2), .val (.int x3), .val (.int H1), .unset, .unset, .unset, .unset, .unset, .unset, .unset, .unset, .unset, .unset, .unset, .unset, .unset] [(.int x1), (.int H1)])) rfl (hb hby at_9) _ ?_
    show Steps p.tables e below (s₁.setTop (mkF m 11 #[.val (.int x0), .val (.int x1), .val (.int x2), .val (.int x3), .val (.int H1), .unset, .unset, .unset, .unset, .unset, .unset, .unset, .unset, .unset, .unset, .unset, .unset, .unset] [(.int (536870911 : Int32)), (.int x1), (.int H1)])) _
    refine XS.iand X0.here hx rfl (hb hby at_11) rfl ?_
    refine XS.iadd X0.here hx rfl (hb hby at_12) rfl ?_
    show Steps p.tables e below (s₁.setTop (mkF m 13 #[.val (.int x0), .val (.int x1), .val (.int x2), .val (.int x3), .val (.int H1), .unset, .unset, .unset, .unset, .unset, .unset, .unset, .unset, .unset, .unset, .unset, .unset, .unset] [(.int (H1 + (x1 &&& (536870911 : Int32))))])) _
    rw [← eH2]
    show Steps p.tables e below (s₁.setTop (mkF m 13 #[.val (.int x0), .val (.int x1), .val (.int x2), .val (.int x3), .val (.int H1), .unset, .unset, .unset, .unset, .unset, .unset, .unset, .unset, .unset, .unset, .unset, .unset, .unset] [(.int H2)])) _
    refine XS.istore X0.here hx rfl (hb hby at_13) rfl (l' := #[.val (.int x0), .val (.int x1), .val (.int x2), .val (.int x3), .val (.int H1), .val (.int H2), .unset, .unset, .unset, .unset, .unset, .unset, .unset, .unset, .unset, .unset, .unset, .unset]) rfl ?_
    refine XS.iload X0.here hx rfl (hb hby at_15) rfl ?_
    show Steps p.tables e below (s₁.setTop (mkF m 17 #[.val (.int x0), .val (.int x1), .val (.int x2), .val (.int x3), .val (.int H1), .val (.int H2), .unset, .unset, .unset, .unset, .unset, .unset, .unset, .unset, .unset, .unset, .unset, .unset] [(.int H2)])) _
    refine XS.iloadN X0.here hx rfl (hb hby at_17) rfl ?_
    refine X0.ldcInt hx hown (mvT hZ (hw _ (List.mem_of_getElem? (i := 1) rfl))) (g := (mkF m 18 #[.val (.int x0), .val (.int x1), .val (.int x2), .val (.int x3), .val (.int H1), .val (.int H2), .unset, .unset, .unset, .unset, .unset, .unset, .unset, .unset, .unset, .unset, .unset, .unset] [(.int x2), (.int H2)])) rfl (hb hby at_18) _ ?_
    refine XS.iand X0.here hx rfl (hb hby at_20) rfl ?_
    refine XS.iadd X0.here hx rfl (hb hby at_21) rfl ?_
    show Steps p.tables e below (s₁.setTop (mkF m 22 #[.val (.int x0), .val (.int x1), .val (.int x2), .val (.int x3), .val (.int H1), .val (.int H2), .unset, .unset, .unset, .unset, .unset, .unset, .unset, .unset, .unset, .unset, .unset, .unset] [(.int (H2 + (x2 &&& (1073741823 : Int32))))])) _
    rw [← eH3]
    show Steps p.tables e below (s₁.setTop (mkF m 22 #[.val (.int x0), .val (.int x1), .val (.int x2), .val (.int x3), .val (.int H1), .val (.int H2), .unset, .unset, .unset, .unset, .unset, .unset, .unset, .unset, .unset, .unset, .unset, .unset] [(.int H3)])) _
    refine XS.istore X0.here hx rfl (hb hby at_22) rfl (l' := #[.val (.int x0), .val (.int x1), .val (.int x2), .val (.int x3), .val (.int H1), .val (.int H2), .val (.int H3), .unset, .unset, .unset, .unset, .unset, .unset, .unset, .unset, .unset, .unset, .unset]) rfl ?_
    refine XS.iloadN X0.here hx rfl (hb hby at_24) rfl ?_
    refine XS.iconst X0.here hx rfl (hb hby at_25) ?_
    refine XS.iand X0.here hx rfl (hb hby at_26) rfl ?_
    show Steps p.tables e below (s₁.setTop (mkF m 27 #[.val (.int x0), .val (.int x1), .val (.int x2), .val (.int x3), .val (.int H1), .val (.int H2), .val (.int H3), .unset, .unset, .unset, .unset, .unset, .unset, .unset, .unset, .unset, .unset, .unset] [(.int (x3 &&& (3 : Int32)))])) _
    rw [hn]
    show Steps p.tables e below (s₁.setTop (mkF m 27 #[.val (.int x0), .val (.int x1), .val (.int x2), .val (.int x3), .val (.int H1), .val (.int H2), .val (.int H3), .unset, .unset, .unset, .unset, .unset, .unset, .unset, .unset, .unset, .unset, .unset] [(.int (3 : Int32))])) _
    refine XS.istore X0.here hx rfl (hb hby at_27) rfl (l' := #[.val (.int x0), .val (.int x1), .val (.int x2), .val (.int x3), .val (.int H1), .val (.int H2), .val (.int H3), .val (.int (3 : Int32)), .unset, .unset, .unset, .unset, .unset, .unset, .unset, .unset, .unset, .unset]) rfl ?_
    refine st1 _ ?_
    show Steps p.tables e below (T1.setTop (mkF m 32 #[.val (.int x0), .val (.int x1), .val (.int x2), .val (.int x3), .val (.int H1), .val (.int H2), .val (.int H3), .val (.int (3 : Int32)), .unset, .unset, .unset, .unset, .unset, .unset, .unset, .unset, .unset, .unset] [(.ref hs)])) _
    refine XS.dup X1.here hx rfl (hb hby at_32) rfl rfl ?_
    refine st3.trans ?_
    show Steps p.tables e below (T3.setTop (mkF m 36 #[.val (.int x0), .val (.int x1), .val (.int x2), .val (.int x3), .val (.int H1), .val (.int H2), .val (.int H3), .val (.int (3 : Int32)), .unset, .unset, .unset, .unset, .unset, .unset, .unset, .unset, .unset, .unset] [(.ref hs)])) _
    refine XS.astore X3.here hx rfl (hb hby at_36) rfl rfl (l' := #[.val (.int x0), .val (.int x1), .val (.int x2), .val (.int x3), .val (.int H1), .val (.int H2), .val (.int H3), .val (.int (3 : Int32)), .val (.ref hs), .unset, .unset, .unset, .unset, .unset, .unset, .unset, .unset, .unset]) rfl ?_
    refine XS.iload X3.here hx rfl (hb hby at_38) rfl ?_
    refine XS.iconst X3.here hx rfl (hb hby at_40) ?_
    refine XS.icmpNo X3.here hx rfl (hb hby at_41) rfl (flt (by decide : ¬ ((3 : Int32) < (1 : Int32)))).1 ?_
    show Steps p.tables e below (T3.setTop (mkF m 44 #[.val (.int x0), .val (.int x1), .val (.int x2), .val (.int x3), .val (.int H1), .val (.int H2), .val (.int H3), .val (.int (3 : Int32)), .val (.ref hs), .unset, .unset, .unset, .unset, .unset, .unset, .unset, .unset, .unset] [])) _
    refine XS.aload X3.here hx rfl (hb hby at_44) rfl rfl ?_
    refine XS.iconst X3.here hx rfl (hb hby at_46) ?_
    refine XS.iload X3.here hx rfl (hb hby at_47) rfl ?_
    refine st5.trans ?_
    show Steps p.tables e below (T5.setTop (mkF m 52 #[.val (.int x0), .val (.int x1), .val (.int x2), .val (.int x3), .val (.int H1), .val (.int H2), .val (.int H3), .val (.int (3 : Int32)), .val (.ref hs), .unset, .unset, .unset, .unset, .unset, .unset, .unset, .unset, .unset] [(.int (1 : Int32))])) _
    refine XS.goto X5.here hx rfl (pc0 := 52) (pc' := 56) rfl (hb hby at_52) (by decide) (by decide) ?_
    refine XS.istore X5.here hx rfl (hb hby at_56) rfl (l' := #[.val (.int x0), .val (.int x1), .val (.int x2), .val (.int x3), .val (.int H1), .val (.int H2), .val (.int H3), .val (.int (3 : Int32)), .val (.ref hs), .val (.int (1 : Int32)), .unset, .unset, .unset, .unset, .unset, .unset, .unset, .unset]) rfl ?_
    refine XS.iload X5.here hx rfl (hb hby at_58) rfl ?_
    refine XS.iconst X5.here hx rfl (hb hby at_60) ?_
    show Steps p.tables e below (T5.setTop (mkF m 61 #[.val (.int x0), .val (.int x1), .val (.int x2), .val (.int x3), .val (.int H1), .val (.int H2), .val (.int H3), .val (.int (3 : Int32)), .val (.ref hs), .val (.int (1 : Int32)), .unset, .unset, .unset, .unset, .unset, .unset, .unset, .unset] [(.int (2 : Int32)), (.int (3 : Int32))])) _
    refine XS.icmpNo X5.here hx rfl (hb hby at_61) rfl (flt (by decide : ¬ ((3 : Int32) < (2 : Int32)))).1 ?_
    refine XS.aload X5.here hx rfl (hb hby at_64) rfl rfl ?_
    refine XS.iload X5.here hx rfl (hb hby at_66) rfl ?_
    refine XS.iload X5.here hx rfl (hb hby at_68) rfl ?_
    show Steps p.tables e below (T5.setTop (mkF m 70 #[.val (.int x0), .val (.int x1), .val (.int x2), .val (.int x3), .val (.int H1), .val (.int H2), .val (.int H3), .val (.int (3 : Int32)), .val (.ref hs), .val (.int (1 : Int32)), .unset, .unset, .unset, .unset, .unset, .unset, .unset, .unset] [(.int H2), (.int (1 : Int32)), (.ref hs)])) _
    refine st7.trans ?_
    show Steps p.tables e below (T7.setTop (mkF m 73 #[.val (.int x0), .val (.int x1), .val (.int x2), .val (.int x3), .val (.int H1), .val (.int H2), .val (.int H3), .val (.int (3 : Int32)), .val (.ref hs), .val (.int (1 : Int32)), .unset, .unset, .unset, .unset, .unset, .unset, .unset, .unset] [(.int (2 : Int32))])) _
    refine XS.goto X7.here hx rfl (pc0 := 73) (pc' := 78) rfl (hb hby at_73) (by decide) (by decide) ?_
    refine XS.istore X7.here hx rfl (hb hby at_78) rfl (l' := #[.val (.int x0), .val (.int x1), .val (.int x2), .val (.int x3), .val (.int H1), .val (.int H2), .val (.int H3), .val (.int (3 : Int32)), .val (.ref hs), .val (.int (1 : Int32)), .val (.int (2 : Int32)), .unset, .unset, .unset, .unset, .unset, .unset, .unset]) rfl ?_
    refine XS.iload X7.here hx rfl (hb hby at_80) rfl ?_
    show Steps p.tables e below (T7.setTop (mkF m 82 #[.val (.int x0), .val (.int x1), .val (.int x2), .val (.int x3), .val (.int H1), .val (.int H2), .val (.int H3), .val (.int (3 : Int32)), .val (.ref hs), .val (.int (1 : Int32)), .val (.int (2 : Int32)), .unset, .unset, .unset, .unset, .unset, .unset, .unset] [(.int (3 : Int32))])) _
    refine XS.iconst X7.here hx rfl (hb hby at_82) ?_
    refine XS.icmpNo X7.here hx rfl (hb hby at_83) rfl (flt (by decide : ¬ ((3 : Int32) < (3 : Int32)))).1 ?_
    refine XS.aload X7.here hx rfl (hb hby at_86) rfl rfl ?_
    refine XS.iload X7.here hx rfl (hb hby at_88) rfl ?_
    show Steps p.tables e below (T7.setTop (mkF m 90 #[.val (.int x0), .val (.int x1), .val (.int x2), .val (.int x3), .val (.int H1), .val (.int H2), .val (.int H3), .val (.int (3 : Int32)), .val (.ref hs), .val (.int (1 : Int32)), .val (.int (2 : Int32)), .unset, .unset, .unset, .unset, .unset, .unset, .unset] [(.int (2 : Int32)), (.ref hs)])) _
    refine XS.iload X7.here hx rfl (hb hby at_90) rfl ?_
    refine st9.trans ?_
    show Steps p.tables e below (T9.setTop (mkF m 95 #[.val (.int x0), .val (.int x1), .val (.int x2), .val (.int x3), .val (.int H1), .val (.int H2), .val (.int H3), .val (.int (3 : Int32)), .val (.ref hs), .val (.int (1 : Int32)), .val (.int (2 : Int32)), .unset, .unset, .unset, .unset, .unset, .unset, .unset] [(.int (2 : Int32))])) _
    refine XS.goto X9.here hx rfl (pc0 := 95) (pc' := 100) rfl (hb hby at_95) (by decide) (by decide) ?_
    refine XS.istore X9.here hx rfl (hb hby at_100) rfl (l' := #[.val (.int x0), .val (.int x1), .val (.int x2), .val (.int x3), .val (.int H1), .val (.int H2), .val (.int H3), .val (.int (3 : Int32)), .val (.ref hs), .val (.int (1 : Int32)), .val (.int (2 : Int32)), .val (.int (2 : Int32)), .unset, .unset, .unset, .unset, .unset, .unset]) rfl ?_
    show Steps p.tables e below (T9.setTop (mkF m 102 #[.val (.int x0), .val (.int x1), .val (.int x2), .val (.int x3), .val (.int H1), .val (.int H2), .val (.int H3), .val (.int (3 : Int32)), .val (.ref hs), .val (.int (1 : Int32)), .val (.int (2 : Int32)), .val (.int (2 : Int32)), .unset, .unset, .unset, .unset, .unset, .unset] [])) _
    refine XS.iconst X9.here hx rfl (hb hby at_102) ?_
    refine st10 _ ?_
    show Steps p.tables e below (T10.setTop (mkF m 105 #[.val (.int x0), .val (.int x1), .val (.int x2), .val (.int x3), .val (.int H1), .val (.int H2), .val (.int H3), .val (.int (3 : Int32)), .val (.ref hs), .val (.int (1 : Int32)), .val (.int (2 : Int32)), .val (.int (2 : Int32)), .unset, .unset, .unset, .unset, .unset, .unset] [(.ref ea)])) _
    refine XS.astore X10.here hx rfl (hb hby at_105) rfl rfl (l' := #[.val (.int x0), .val (.int x1), .val (.int x2), .val (.int x3), .val (.int H1), .val (.int H2), .val (.int H3), .val (.int (3 : Int32)), .val (.ref hs), .val (.int (1 : Int32)), .val (.int (2 : Int32)), .val (.int (2 : Int32)), .val (.ref ea), .unset, .unset, .unset, .unset, .unset]) rfl ?_
    refine XS.iconst X10.here hx rfl (hb hby at_107) ?_
    show Steps p.tables e below (T10.setTop (mkF m 108 #[.val (.int x0), .val (.int x1), .val (.int x2), .val (.int x3), .val (.int H1), .val (.int H2), .val (.int H3), .val (.int (3 : Int32)), .val (.ref hs), .val (.int (1 : Int32)), .val (.int (2 : Int32)), .val (.int (2 : Int32)), .val (.ref ea), .unset, .unset, .unset, .unset, .unset] [(.int (0 : Int32))])) _
    refine XS.istore X10.here hx rfl (hb hby at_108) rfl (l' := #[.val (.int x0), .val (.int x1), .val (.int x2), .val (.int x3), .val (.int H1), .val (.int H2), .val (.int H3), .val (.int (3 : Int32)), .val (.ref hs), .val (.int (1 : Int32)), .val (.int (2 : Int32)), .val (.int (2 : Int32)), .val (.ref ea), .val (.int (0 : Int32)), .unset, .unset, .unset, .unset]) rfl ?_
    refine XS.iload X10.here hx rfl (hb hby at_110) rfl ?_
    refine XS.iconst X10.here hx rfl (hb hby at_112) ?_
    refine XS.icmpNo X10.here hx rfl (hb hby at_113) rfl (flt (by decide : ¬ ((3 : Int32) < (1 : Int32)))).1 ?_
    show Steps p.tables e below (T10.setTop (mkF m 116 #[.val (.int x0), .val (.int x1), .val (.int x2), .val (.int x3), .val (.int H1), .val (.int H2), .val (.int H3), .val (.int (3 : Int32)), .val (.ref hs), .val (.int (1 : Int32)), .val (.int (2 : Int32)), .val (.int (2 : Int32)), .val (.ref ea), .val (.int (0 : Int32)), .unset, .unset, .unset, .unset] [])) _
    refine XS.aload X10.here hx rfl (hb hby at_116) rfl rfl ?_
    refine XS.iload X10.here hx rfl (hb hby at_118) rfl ?_
    refine XS.iload X10.here hx rfl (hb hby at_120) rfl ?_
    refine st12 _ ?_
    show Steps p.tables e below (T12.setTop (mkF m 123 #[.val (.int x0), .val (.int x1), .val (.int x2), .val (.int x3), .val (.int H1), .val (.int H2), .val (.int H3), .val (.int (3 : Int32)), .val (.ref hs), .val (.int (1 : Int32)), .val (.int (2 : Int32)), .val (.int (2 : Int32)), .val (.ref ea), .val (.int (0 : Int32)), .unset, .unset, .unset, .unset] [])) _
    refine XS.iload X12.here hx rfl (hb hby at_123) rfl ?_
    refine XS.iconst X12.here hx rfl (hb hby at_125) ?_
    refine XS.iadd X12.here hx rfl (hb hby at_126) rfl ?_
    show Steps p.tables e below (T12.setTop (mkF m 127 #[.val (.int x0), .val (.int x1), .val (.int x2), .val (.int x3), .val (.int H1), .val (.int H2), .val (.int H3), .val (.int (3 : Int32)), .val (.ref hs), .val (.int (1 : Int32)), .val (.int (2 : Int32)), .val (.int (2 : Int32)), .val (.ref ea), .val (.int (0 : Int32)), .unset, .unset, .unset, .unset] [(.int ((0 : Int32) + (1 : Int32)))])) _
    rw [show ((0 : Int32) + (1 : Int32)) = (1 : Int32) from by decide]
    show Steps p.tables e below (T12.setTop (mkF m 127 #[.val (.int x0), .val (.int x1), .val (.int x2), .val (.int x3), .val (.int H1), .val (.int H2), .val (.int H3), .val (.int (3 : Int32)), .val (.ref hs), .val (.int (1 : Int32)), .val (.int (2 : Int32)), .val (.int (2 : Int32)), .val (.ref ea), .val (.int (0 : Int32)), .unset, .unset, .unset, .unset] [(.int (1 : Int32))])) _
    refine XS.istore X12.here hx rfl (hb hby at_127) rfl (l' := #[.val (.int x0), .val (.int x1), .val (.int x2), .val (.int x3), .val (.int H1), .val (.int H2), .val (.int H3), .val (.int (3 : Int32)), .val (.ref hs), .val (.int (1 : Int32)), .val (.int (2 : Int32)), .val (.int (2 : Int32)), .val (.ref ea), .val (.int (1 : Int32)), .unset, .unset, .unset, .unset]) rfl ?_
    show Steps p.tables e below (T12.setTop (mkF m 129 #[.val (.int x0), .val (.int x1), .val (.int x2), .val (.int x3), .val (.int H1), .val (.int H2), .val (.int H3), .val (.int (3 : Int32)), .val (.ref hs), .val (.int (1 : Int32)), .val (.int (2 : Int32)), .val (.int (2 : Int32)), .val (.ref ea), .val (.int (1 : Int32)), .unset, .unset, .unset, .unset] [])) _
    refine XS.iload X12.here hx rfl (hb hby at_129) rfl ?_
    refine XS.iconst X12.here hx rfl (hb hby at_131) ?_
    refine XS.icmpNo X12.here hx rfl (hb hby at_132) rfl (flt (by decide : ¬ ((3 : Int32) < (2 : Int32)))).1 ?_
    refine XS.iload X12.here hx rfl (hb hby at_135) rfl ?_
    show Steps p.tables e below (T12.setTop (mkF m 137 #[.val (.int x0), .val (.int x1), .val (.int x2), .val (.int x3), .val (.int H1), .val (.int H2), .val (.int H3), .val (.int (3 : Int32)), .val (.ref hs), .val (.int (1 : Int32)), .val (.int (2 : Int32)), .val (.int (2 : Int32)), .val (.ref ea), .val (.int (1 : Int32)), .unset, .unset, .unset, .unset] [(.int H2)])) _
    refine XS.iload X12.here hx rfl (hb hby at_137) rfl ?_
    refine XS.icmpNo X12.here hx rfl (hb hby at_139) rfl (feq hq2).1 ?_
    refine XS.aload X12.here hx rfl (hb hby at_142) rfl rfl ?_
    refine XS.iload X12.here hx rfl (hb hby at_144) rfl ?_
    show Steps p.tables e below (T12.setTop (mkF m 146 #[.val (.int x0), .val (.int x1), .val (.int x2), .val (.int x3), .val (.int H1), .val (.int H2), .val (.int H3), .val (.int (3 : Int32)), .val (.ref hs), .val (.int (1 : Int32)), .val (.int (2 : Int32)), .val (.int (2 : Int32)), .val (.ref ea), .val (.int (1 : Int32)), .unset, .unset, .unset, .unset] [(.int (1 : Int32)), (.ref ea)])) _
    refine XS.iload X12.here hx rfl (hb hby at_146) rfl ?_
    refine st14 _ ?_
    show Steps p.tables e below (T14.setTop (mkF m 149 #[.val (.int x0), .val (.int x1), .val (.int x2), .val (.int x3), .val (.int H1), .val (.int H2), .val (.int H3), .val (.int (3 : Int32)), .val (.ref hs), .val (.int (1 : Int32)), .val (.int (2 : Int32)), .val (.int (2 : Int32)), .val (.ref ea), .val (.int (1 : Int32)), .unset, .unset, .unset, .unset] [])) _
    refine XS.iload X14.here hx rfl (hb hby at_149) rfl ?_
    refine XS.iconst X14.here hx rfl (hb hby at_151) ?_
    show Steps p.tables e below (T14.setTop (mkF m 152 #[.val (.int x0), .val (.int x1), .val (.int x2), .val (.int x3), .val (.int H1), .val (.int H2), .val (.int H3), .val (.int (3 : Int32)), .val (.ref hs), .val (.int (1 : Int32)), .val (.int (2 : Int32)), .val (.int (2 : Int32)), .val (.ref ea), .val (.int (1 : Int32)), .unset, .unset, .unset, .unset] [(.int (1 : Int32)), (.int (1 : Int32))])) _
    refine XS.iadd X14.here hx rfl (hb hby at_152) rfl ?_
    show Steps p.tables e below (T14.setTop (mkF m 153 #[.val (.int x0), .val (.int x1), .val (.int x2), .val (.int x3), .val (.int H1), .val (.int H2), .val (.int H3), .val (.int (3 : Int32)), .val (.ref hs), .val (.int (1 : Int32)), .val (.int (2 : Int32)), .val (.int (2 : Int32)), .val (.ref ea), .val (.int (1 : Int32)), .unset, .unset, .unset, .unset] [(.int ((1 : Int32) + (1 : Int32)))])) _
    rw [show ((1 : Int32) + (1 : Int32)) = (2 : Int32) from by decide]
    show Steps p.tables e below (T14.setTop (mkF m 153 #[.val (.int x0), .val (.int x1), .val (.int x2), .val (.int x3), .val (.int H1), .val (.int H2), .val (.int H3), .val (.int (3 : Int32)), .val (.ref hs), .val (.int (1 : Int32)), .val (.int (2 : Int32)), .val (.int (2 : Int32)), .val (.ref ea), .val (.int (1 : Int32)), .unset, .unset, .unset, .unset] [(.int (2 : Int32))])) _
    refine XS.istore X14.here hx rfl (hb hby at_153) rfl (l' := #[.val (.int x0), .val (.int x1), .val (.int x2), .val (.int x3), .val (.int H1), .val (.int H2), .val (.int H3), .val (.int (3 : Int32)), .val (.ref hs), .val (.int (1 : Int32)), .val (.int (2 : Int32)), .val (.int (2 : Int32)), .val (.ref ea), .val (.int (2 : Int32)), .unset, .unset, .unset, .unset]) rfl ?_
    refine XS.iload X14.here hx rfl (hb hby at_155) rfl ?_
    refine XS.iconst X14.here hx rfl (hb hby at_157) ?_
    show Steps p.tables e below (T14.setTop (mkF m 158 #[.val (.int x0), .val (.int x1), .val (.int x2), .val (.int x3), .val (.int H1), .val (.int H2), .val (.int H3), .val (.int (3 : Int32)), .val (.ref hs), .val (.int (1 : Int32)), .val (.int (2 : Int32)), .val (.int (2 : Int32)), .val (.ref ea), .val (.int (2 : Int32)), .unset, .unset, .unset, .unset] [(.int (3 : Int32)), (.int (3 : Int32))])) _
    refine XS.icmpNo X14.here hx rfl (hb hby at_158) rfl (flt (by decide : ¬ ((3 : Int32) < (3 : Int32)))).1 ?_
    refine XS.iload X14.here hx rfl (hb hby at_161) rfl ?_
    refine XS.iload X14.here hx rfl (hb hby at_163) rfl ?_
    refine XS.icmpYes X14.here hx rfl (pc0 := 165) (pc' := 181) rfl (hb hby at_165) rfl (teq hq3).1 (by decide) (by decide) ?_
    show Steps p.tables e below (T14.setTop (mkF m 181 #[.val (.int x0), .val (.int x1), .val (.int x2), .val (.int x3), .val (.int H1), .val (.int H2), .val (.int H3), .val (.int (3 : Int32)), .val (.ref hs), .val (.int (1 : Int32)), .val (.int (2 : Int32)), .val (.int (2 : Int32)), .val (.ref ea), .val (.int (2 : Int32)), .unset, .unset, .unset, .unset] [])) _
    refine XS.aload X14.here hx rfl (hb hby at_181) rfl rfl ?_
    refine XS.iload X14.here hx rfl (hb hby at_183) rfl ?_
    refine st16.trans ?_
    show Steps p.tables e below (T16.setTop (mkF m 188 #[.val (.int x0), .val (.int x1), .val (.int x2), .val (.int x3), .val (.int H1), .val (.int H2), .val (.int H3), .val (.int (3 : Int32)), .val (.ref hs), .val (.int (1 : Int32)), .val (.int (2 : Int32)), .val (.int (2 : Int32)), .val (.ref ea), .val (.int (2 : Int32)), .unset, .unset, .unset, .unset] [(.ref g1)])) _
    refine XS.astore X16.here hx rfl (hb hby at_188) rfl rfl (l' := #[.val (.int x0), .val (.int x1), .val (.int x2), .val (.int x3), .val (.int H1), .val (.int H2), .val (.int H3), .val (.int (3 : Int32)), .val (.ref hs), .val (.int (1 : Int32)), .val (.int (2 : Int32)), .val (.int (2 : Int32)), .val (.ref ea), .val (.int (2 : Int32)), .val (.ref g1), .unset, .unset, .unset]) rfl ?_
    show Steps p.tables e below (T16.setTop (mkF m 190 #[.val (.int x0), .val (.int x1), .val (.int x2), .val (.int x3), .val (.int H1), .val (.int H2), .val (.int H3), .val (.int (3 : Int32)), .val (.ref hs), .val (.int (1 : Int32)), .val (.int (2 : Int32)), .val (.int (2 : Int32)), .val (.ref ea), .val (.int (2 : Int32)), .val (.ref g1), .unset, .unset, .unset] [])) _
    refine XS.aload X16.here hx rfl (hb hby at_190) rfl rfl ?_
    refine own_len X16 hx hZ rfl Vr16 (g := (mkF m 192 #[.val (.int x0), .val (.int x1), .val (.int x2), .val (.int x3), .val (.int H1), .val (.int H2), .val (.int H3), .val (.int (3 : Int32)), .val (.ref hs), .val (.int (1 : Int32)), .val (.int (2 : Int32)), .val (.int (2 : Int32)), .val (.ref ea), .val (.int (2 : Int32)), .val (.ref g1), .unset, .unset, .unset] [(.ref g1)])) rfl rfl (hb hby at_192) ?_
    refine XS.iload X16.here hx rfl (hb hby at_193) rfl ?_
    refine XS.icmpNo X16.here hx rfl (hb hby at_195) rfl (teq (by decide : (2 : Int32) = (2 : Int32))).2 ?_
    show Steps p.tables e below (T16.setTop (mkF m 198 #[.val (.int x0), .val (.int x1), .val (.int x2), .val (.int x3), .val (.int H1), .val (.int H2), .val (.int H3), .val (.int (3 : Int32)), .val (.ref hs), .val (.int (1 : Int32)), .val (.int (2 : Int32)), .val (.int (2 : Int32)), .val (.ref ea), .val (.int (2 : Int32)), .val (.ref g1), .unset, .unset, .unset] [])) _
    refine XS.iconst X16.here hx rfl (hb hby at_198) ?_
    refine XS.goto X16.here hx rfl (pc0 := 199) (pc' := 203) rfl (hb hby at_199) (by decide) (by decide) ?_
    refine XS.istore X16.here hx rfl (hb hby at_203) rfl (l' := #[.val (.int x0), .val (.int x1), .val (.int x2), .val (.int x3), .val (.int H1), .val (.int H2), .val (.int H3), .val (.int (3 : Int32)), .val (.ref hs), .val (.int (1 : Int32)), .val (.int (2 : Int32)), .val (.int (2 : Int32)), .val (.ref ea), .val (.int (2 : Int32)), .val (.ref g1), .val (.int (1 : Int32)), .unset, .unset]) rfl ?_
    refine XS.iload X16.here hx rfl (hb hby at_205) rfl ?_
    show Steps p.tables e below (T16.setTop (mkF m 207 #[.val (.int x0), .val (.int x1), .val (.int x2), .val (.int x3), .val (.int H1), .val (.int H2), .val (.int H3), .val (.int (3 : Int32)), .val (.ref hs), .val (.int (1 : Int32)), .val (.int (2 : Int32)), .val (.int (2 : Int32)), .val (.ref ea), .val (.int (2 : Int32)), .val (.ref g1), .val (.int (1 : Int32)), .unset, .unset] [(.int (1 : Int32))])) _
    refine XS.ifNo X16.here hx rfl (hb hby at_207) rfl ((if0 _ _).trans (feq (by decide : ¬ ((1 : Int32) = (0 : Int32)))).1) ?_
    refine XS.iload X16.here hx rfl (hb hby at_210) rfl ?_
    refine XS.iconst X16.here hx rfl (hb hby at_212) ?_
    refine XS.icmpNo X16.here hx rfl (hb hby at_213) rfl (flt (by decide : ¬ ((2 : Int32) < (1 : Int32)))).1 ?_
    show Steps p.tables e below (T16.setTop (mkF m 216 #[.val (.int x0), .val (.int x1), .val (.int x2), .val (.int x3), .val (.int H1), .val (.int H2), .val (.int H3), .val (.int (3 : Int32)), .val (.ref hs), .val (.int (1 : Int32)), .val (.int (2 : Int32)), .val (.int (2 : Int32)), .val (.ref ea), .val (.int (2 : Int32)), .val (.ref g1), .val (.int (1 : Int32)), .unset, .unset] [])) _
    refine XS.aload X16.here hx rfl (hb hby at_216) rfl rfl ?_
    refine XS.iconst X16.here hx rfl (hb hby at_218) ?_
    refine own_ldI X16 hx hZ rfl Vr16 (j := (0 : Int32)) (w := H1) ⟨by decide, by decide⟩ rfl (g := (mkF m 219 #[.val (.int x0), .val (.int x1), .val (.int x2), .val (.int x3), .val (.int H1), .val (.int H2), .val (.int H3), .val (.int (3 : Int32)), .val (.ref hs), .val (.int (1 : Int32)), .val (.int (2 : Int32)), .val (.int (2 : Int32)), .val (.ref ea), .val (.int (2 : Int32)), .val (.ref g1), .val (.int (1 : Int32)), .unset, .unset] [(.int (0 : Int32)), (.ref g1)])) rfl rfl (hb hby at_219) ?_
    refine XS.aload X16.here hx rfl (hb hby at_220) rfl rfl ?_
    show Steps p.tables e below (T16.setTop (mkF m 222 #[.val (.int x0), .val (.int x1), .val (.int x2), .val (.int x3), .val (.int H1), .val (.int H2), .val (.int H3), .val (.int (3 : Int32)), .val (.ref hs), .val (.int (1 : Int32)), .val (.int (2 : Int32)), .val (.int (2 : Int32)), .val (.ref ea), .val (.int (2 : Int32)), .val (.ref g1), .val (.int (1 : Int32)), .unset, .unset] [(.ref ea), (.int H1)])) _
    refine XS.iconst X16.here hx rfl (hb hby at_222) ?_
    refine own_ldI X16 hx hZ rfl V_ea_17 (j := (0 : Int32)) (w := H1) ⟨by decide, by decide⟩ rfl (g := (mkF m 223 #[.val (.int x0), .val (.int x1), .val (.int x2), .val (.int x3), .val (.int H1), .val (.int H2), .val (.int H3), .val (.int (3 : Int32)), .val (.ref hs), .val (.int (1 : Int32)), .val (.int (2 : Int32)), .val (.int (2 : Int32)), .val (.ref ea), .val (.int (2 : Int32)), .val (.ref g1), .val (.int (1 : Int32)), .unset, .unset] [(.int (0 : Int32)), (.ref ea), (.int H1)])) rfl rfl (hb hby at_223) ?_
    refine XS.icmpNo X16.here hx rfl (hb hby at_224) rfl (teq (rfl : H1 = H1)).2 ?_
    refine XS.iconst X16.here hx rfl (hb hby at_227) ?_
    show Steps p.tables e below (T16.setTop (mkF m 228 #[.val (.int x0), .val (.int x1), .val (.int x2), .val (.int x3), .val (.int H1), .val (.int H2), .val (.int H3), .val (.int (3 : Int32)), .val (.ref hs), .val (.int (1 : Int32)), .val (.int (2 : Int32)), .val (.int (2 : Int32)), .val (.ref ea), .val (.int (2 : Int32)), .val (.ref g1), .val (.int (1 : Int32)), .unset, .unset] [(.int (1 : Int32))])) _
    refine XS.goto X16.here hx rfl (pc0 := 228) (pc' := 232) rfl (hb hby at_228) (by decide) (by decide) ?_
    refine XS.istore X16.here hx rfl (hb hby at_232) rfl (l' := #[.val (.int x0), .val (.int x1), .val (.int x2), .val (.int x3), .val (.int H1), .val (.int H2), .val (.int H3), .val (.int (3 : Int32)), .val (.ref hs), .val (.int (1 : Int32)), .val (.int (2 : Int32)), .val (.int (2 : Int32)), .val (.ref ea), .val (.int (2 : Int32)), .val (.ref g1), .val (.int (1 : Int32)), .unset, .unset]) rfl ?_
    refine XS.iload X16.here hx rfl (hb hby at_234) rfl ?_
    refine XS.ifNo X16.here hx rfl (hb hby at_236) rfl ((if0 _ _).trans (feq (by decide : ¬ ((1 : Int32) = (0 : Int32)))).1) ?_
    show Steps p.tables e below (T16.setTop (mkF m 239 #[.val (.int x0), .val (.int x1), .val (.int x2), .val (.int x3), .val (.int H1), .val (.int H2), .val (.int H3), .val (.int (3 : Int32)), .val (.ref hs), .val (.int (1 : Int32)), .val (.int (2 : Int32)), .val (.int (2 : Int32)), .val (.ref ea), .val (.int (2 : Int32)), .val (.ref g1), .val (.int (1 : Int32)), .unset, .unset] [])) _
    refine XS.iload X16.here hx rfl (hb hby at_239) rfl ?_
    refine XS.iconst X16.here hx rfl (hb hby at_241) ?_
    refine XS.icmpNo X16.here hx rfl (hb hby at_242) rfl (flt (by decide : ¬ ((2 : Int32) < (2 : Int32)))).1 ?_
    refine XS.aload X16.here hx rfl (hb hby at_245) rfl rfl ?_
    show Steps p.tables e below (T16.setTop (mkF m 247 #[.val (.int x0), .val (.int x1), .val (.int x2), .val (.int x3), .val (.int H1), .val (.int H2), .val (.int H3), .val (.int (3 : Int32)), .val (.ref hs), .val (.int (1 : Int32)), .val (.int (2 : Int32)), .val (.int (2 : Int32)), .val (.ref ea), .val (.int (2 : Int32)), .val (.ref g1), .val (.int (1 : Int32)), .unset, .unset] [(.ref g1)])) _
    refine XS.iconst X16.here hx rfl (hb hby at_247) ?_
    refine own_ldI X16 hx hZ rfl Vr16 (j := (1 : Int32)) (w := H2) ⟨by decide, by decide⟩ rfl (g := (mkF m 248 #[.val (.int x0), .val (.int x1), .val (.int x2), .val (.int x3), .val (.int H1), .val (.int H2), .val (.int H3), .val (.int (3 : Int32)), .val (.ref hs), .val (.int (1 : Int32)), .val (.int (2 : Int32)), .val (.int (2 : Int32)), .val (.ref ea), .val (.int (2 : Int32)), .val (.ref g1), .val (.int (1 : Int32)), .unset, .unset] [(.int (1 : Int32)), (.ref g1)])) rfl rfl (hb hby at_248) ?_
    refine XS.aload X16.here hx rfl (hb hby at_249) rfl rfl ?_
    refine XS.iconst X16.here hx rfl (hb hby at_251) ?_
    show Steps p.tables e below (T16.setTop (mkF m 252 #[.val (.int x0), .val (.int x1), .val (.int x2), .val (.int x3), .val (.int H1), .val (.int H2), .val (.int H3), .val (.int (3 : Int32)), .val (.ref hs), .val (.int (1 : Int32)), .val (.int (2 : Int32)), .val (.int (2 : Int32)), .val (.ref ea), .val (.int (2 : Int32)), .val (.ref g1), .val (.int (1 : Int32)), .unset, .unset] [(.int (1 : Int32)), (.ref ea), (.int H2)])) _
    refine own_ldI X16 hx hZ rfl V_ea_17 (j := (1 : Int32)) (w := H2) ⟨by decide, by decide⟩ rfl (g := (mkF m 252 #[.val (.int x0), .val (.int x1), .val (.int x2), .val (.int x3), .val (.int H1), .val (.int H2), .val (.int H3), .val (.int (3 : Int32)), .val (.ref hs), .val (.int (1 : Int32)), .val (.int (2 : Int32)), .val (.int (2 : Int32)), .val (.ref ea), .val (.int (2 : Int32)), .val (.ref g1), .val (.int (1 : Int32)), .unset, .unset] [(.int (1 : Int32)), (.ref ea), (.int H2)])) rfl rfl (hb hby at_252) ?_
    refine XS.icmpNo X16.here hx rfl (hb hby at_253) rfl (teq (rfl : H2 = H2)).2 ?_
    refine XS.iconst X16.here hx rfl (hb hby at_256) ?_
    refine XS.goto X16.here hx rfl (pc0 := 257) (pc' := 261) rfl (hb hby at_257) (by decide) (by decide) ?_
    show Steps p.tables e below (T16.setTop (mkF m 261 #[.val (.int x0), .val (.int x1), .val (.int x2), .val (.int x3), .val (.int H1), .val (.int H2), .val (.int H3), .val (.int (3 : Int32)), .val (.ref hs), .val (.int (1 : Int32)), .val (.int (2 : Int32)), .val (.int (2 : Int32)), .val (.ref ea), .val (.int (2 : Int32)), .val (.ref g1), .val (.int (1 : Int32)), .unset, .unset] [(.int (1 : Int32))])) _
    refine XS.istore X16.here hx rfl (hb hby at_261) rfl (l' := #[.val (.int x0), .val (.int x1), .val (.int x2), .val (.int x3), .val (.int H1), .val (.int H2), .val (.int H3), .val (.int (3 : Int32)), .val (.ref hs), .val (.int (1 : Int32)), .val (.int (2 : Int32)), .val (.int (2 : Int32)), .val (.ref ea), .val (.int (2 : Int32)), .val (.ref g1), .val (.int (1 : Int32)), .unset, .unset]) rfl ?_
    refine XS.iload X16.here hx rfl (hb hby at_263) rfl ?_
    refine XS.ifNo X16.here hx rfl (hb hby at_265) rfl ((if0 _ _).trans (feq (by decide : ¬ ((1 : Int32) = (0 : Int32)))).1) ?_
    refine XS.iload X16.here hx rfl (hb hby at_268) rfl ?_
    show Steps p.tables e below (T16.setTop (mkF m 270 #[.val (.int x0), .val (.int x1), .val (.int x2), .val (.int x3), .val (.int H1), .val (.int H2), .val (.int H3), .val (.int (3 : Int32)), .val (.ref hs), .val (.int (1 : Int32)), .val (.int (2 : Int32)), .val (.int (2 : Int32)), .val (.ref ea), .val (.int (2 : Int32)), .val (.ref g1), .val (.int (1 : Int32)), .unset, .unset] [(.int (2 : Int32))])) _
    refine XS.iconst X16.here hx rfl (hb hby at_270) ?_
    refine XS.icmpYes X16.here hx rfl (pc0 := 271) (pc' := 292) rfl (hb hby at_271) rfl (tlt (by decide : (2 : Int32) < (3 : Int32))).1 (by decide) (by decide) ?_
    refine XS.aload X16.here hx rfl (hb hby at_292) rfl rfl ?_
    refine XS.iload X16.here hx rfl (hb hby at_294) rfl ?_
    show Steps p.tables e below (T16.setTop (mkF m 296 #[.val (.int x0), .val (.int x1), .val (.int x2), .val (.int x3), .val (.int H1), .val (.int H2), .val (.int H3), .val (.int (3 : Int32)), .val (.ref hs), .val (.int (1 : Int32)), .val (.int (2 : Int32)), .val (.int (2 : Int32)), .val (.ref ea), .val (.int (2 : Int32)), .val (.ref g1), .val (.int (1 : Int32)), .unset, .unset] [(.int (1 : Int32)), (.ref hs)])) _
    refine st18.trans ?_
    show Steps p.tables e below (T18.setTop (mkF m 299 #[.val (.int x0), .val (.int x1), .val (.int x2), .val (.int x3), .val (.int H1), .val (.int H2), .val (.int H3), .val (.int (3 : Int32)), .val (.ref hs), .val (.int (1 : Int32)), .val (.int (2 : Int32)), .val (.int (2 : Int32)), .val (.ref ea), .val (.int (2 : Int32)), .val (.ref g1), .val (.int (1 : Int32)), .unset, .unset] [(.ref g2)])) _
    refine XS.astore X18.here hx rfl (hb hby at_299) rfl rfl (l' := #[.val (.int x0), .val (.int x1), .val (.int x2), .val (.int x3), .val (.int H1), .val (.int H2), .val (.int H3), .val (.int (3 : Int32)), .val (.ref hs), .val (.int (1 : Int32)), .val (.int (2 : Int32)), .val (.int (2 : Int32)), .val (.ref ea), .val (.int (2 : Int32)), .val (.ref g1), .val (.int (1 : Int32)), .val (.ref g2), .unset]) rfl ?_
    refine XS.iload X18.here hx rfl (hb hby at_301) rfl ?_
    refine XS.iconst X18.here hx rfl (hb hby at_303) ?_
    show Steps p.tables e below (T18.setTop (mkF m 304 #[.val (.int x0), .val (.int x1), .val (.int x2), .val (.int x3), .val (.int H1), .val (.int H2), .val (.int H3), .val (.int (3 : Int32)), .val (.ref hs), .val (.int (1 : Int32)), .val (.int (2 : Int32)), .val (.int (2 : Int32)), .val (.ref ea), .val (.int (2 : Int32)), .val (.ref g1), .val (.int (1 : Int32)), .val (.ref g2), .unset] [(.int (1 : Int32)), (.int (3 : Int32))])) _
    refine XS.icmpNo X18.here hx rfl (hb hby at_304) rfl (flt (by decide : ¬ ((3 : Int32) < (1 : Int32)))).1 ?_
    refine XS.iload X18.here hx rfl (hb hby at_307) rfl ?_
    refine XS.ifNo X18.here hx rfl (hb hby at_309) rfl ((if0 _ _).trans (feq (by decide : ¬ ((1 : Int32) = (0 : Int32)))).1) ?_
    refine XS.aload X18.here hx rfl (hb hby at_312) rfl rfl ?_
    show Steps p.tables e below (T18.setTop (mkF m 314 #[.val (.int x0), .val (.int x1), .val (.int x2), .val (.int x3), .val (.int H1), .val (.int H2), .val (.int H3), .val (.int (3 : Int32)), .val (.ref hs), .val (.int (1 : Int32)), .val (.int (2 : Int32)), .val (.int (2 : Int32)), .val (.ref ea), .val (.int (2 : Int32)), .val (.ref g1), .val (.int (1 : Int32)), .val (.ref g2), .unset] [(.ref g2)])) _
    refine own_len X18 hx hZ rfl Vr18 (g := (mkF m 314 #[.val (.int x0), .val (.int x1), .val (.int x2), .val (.int x3), .val (.int H1), .val (.int H2), .val (.int H3), .val (.int (3 : Int32)), .val (.ref hs), .val (.int (1 : Int32)), .val (.int (2 : Int32)), .val (.int (2 : Int32)), .val (.ref ea), .val (.int (2 : Int32)), .val (.ref g1), .val (.int (1 : Int32)), .val (.ref g2), .unset] [(.ref g2)])) rfl rfl (hb hby at_314) ?_
    refine XS.iconst X18.here hx rfl (hb hby at_315) ?_
    refine XS.icmpNo X18.here hx rfl (hb hby at_316) rfl (teq (by decide : (1 : Int32) = (1 : Int32))).2 ?_
    refine XS.aload X18.here hx rfl (hb hby at_319) rfl rfl ?_
    show Steps p.tables e below (T18.setTop (mkF m 321 #[.val (.int x0), .val (.int x1), .val (.int x2), .val (.int x3), .val (.int H1), .val (.int H2), .val (.int H3), .val (.int (3 : Int32)), .val (.ref hs), .val (.int (1 : Int32)), .val (.int (2 : Int32)), .val (.int (2 : Int32)), .val (.ref ea), .val (.int (2 : Int32)), .val (.ref g1), .val (.int (1 : Int32)), .val (.ref g2), .unset] [(.ref g2)])) _
    refine XS.iconst X18.here hx rfl (hb hby at_321) ?_
    refine own_ldI X18 hx hZ rfl Vr18 (j := (0 : Int32)) (w := H1) ⟨by decide, by decide⟩ rfl (g := (mkF m 322 #[.val (.int x0), .val (.int x1), .val (.int x2), .val (.int x3), .val (.int H1), .val (.int H2), .val (.int H3), .val (.int (3 : Int32)), .val (.ref hs), .val (.int (1 : Int32)), .val (.int (2 : Int32)), .val (.int (2 : Int32)), .val (.ref ea), .val (.int (2 : Int32)), .val (.ref g1), .val (.int (1 : Int32)), .val (.ref g2), .unset] [(.int (0 : Int32)), (.ref g2)])) rfl rfl (hb hby at_322) ?_
    refine XS.iload X18.here hx rfl (hb hby at_323) rfl ?_
    refine XS.icmpNo X18.here hx rfl (hb hby at_325) rfl (teq (rfl : H1 = H1)).2 ?_
    show Steps p.tables e below (T18.setTop (mkF m 328 #[.val (.int x0), .val (.int x1), .val (.int x2), .val (.int x3), .val (.int H1), .val (.int H2), .val (.int H3), .val (.int (3 : Int32)), .val (.ref hs), .val (.int (1 : Int32)), .val (.int (2 : Int32)), .val (.int (2 : Int32)), .val (.ref ea), .val (.int (2 : Int32)), .val (.ref g1), .val (.int (1 : Int32)), .val (.ref g2), .unset] [])) _
    refine XS.iconst X18.here hx rfl (hb hby at_328) ?_
    refine XS.goto X18.here hx rfl (pc0 := 329) (pc' := 333) rfl (hb hby at_329) (by decide) (by decide) ?_
    refine XS.istore X18.here hx rfl (hb hby at_333) rfl (l' := #[.val (.int x0), .val (.int x1), .val (.int x2), .val (.int x3), .val (.int H1), .val (.int H2), .val (.int H3), .val (.int (3 : Int32)), .val (.ref hs), .val (.int (1 : Int32)), .val (.int (2 : Int32)), .val (.int (2 : Int32)), .val (.ref ea), .val (.int (2 : Int32)), .val (.ref g1), .val (.int (1 : Int32)), .val (.ref g2), .unset]) rfl ?_
    refine XS.goto X18.here hx rfl (pc0 := 335) (pc' := 356) rfl (hb hby at_335) (by decide) (by decide) ?_
    show Steps p.tables e below (T18.setTop (mkF m 356 #[.val (.int x0), .val (.int x1), .val (.int x2), .val (.int x3), .val (.int H1), .val (.int H2), .val (.int H3), .val (.int (3 : Int32)), .val (.ref hs), .val (.int (1 : Int32)), .val (.int (2 : Int32)), .val (.int (2 : Int32)), .val (.ref ea), .val (.int (2 : Int32)), .val (.ref g1), .val (.int (1 : Int32)), .val (.ref g2), .unset] [])) _
    refine XS.aload X18.here hx rfl (hb hby at_356) rfl rfl ?_
    refine XS.iconst X18.here hx rfl (hb hby at_358) ?_
    refine st20.trans ?_
    show Steps p.tables e below (T20.setTop (mkF m 362 #[.val (.int x0), .val (.int x1), .val (.int x2), .val (.int x3), .val (.int H1), .val (.int H2), .val (.int H3), .val (.int (3 : Int32)), .val (.ref hs), .val (.int (1 : Int32)), .val (.int (2 : Int32)), .val (.int (2 : Int32)), .val (.ref ea), .val (.int (2 : Int32)), .val (.ref g1), .val (.int (1 : Int32)), .val (.ref g2), .unset] [(.ref g3)])) _
    refine XS.astore X20.here hx rfl (hb hby at_362) rfl rfl (l' := #[.val (.int x0), .val (.int x1), .val (.int x2), .val (.int x3), .val (.int H1), .val (.int H2), .val (.int H3), .val (.int (3 : Int32)), .val (.ref hs), .val (.int (1 : Int32)), .val (.int (2 : Int32)), .val (.int (2 : Int32)), .val (.ref ea), .val (.int (2 : Int32)), .val (.ref g1), .val (.int (1 : Int32)), .val (.ref g2), .val (.ref g3)]) rfl ?_
    show Steps p.tables e below (T20.setTop (mkF m 364 #[.val (.int x0), .val (.int x1), .val (.int x2), .val (.int x3), .val (.int H1), .val (.int H2), .val (.int H3), .val (.int (3 : Int32)), .val (.ref hs), .val (.int (1 : Int32)), .val (.int (2 : Int32)), .val (.int (2 : Int32)), .val (.ref ea), .val (.int (2 : Int32)), .val (.ref g1), .val (.int (1 : Int32)), .val (.ref g2), .val (.ref g3)] [])) _
    refine XS.iload X20.here hx rfl (hb hby at_364) rfl ?_
    refine XS.ifNo X20.here hx rfl (hb hby at_366) rfl ((if0 _ _).trans (feq (by decide : ¬ ((1 : Int32) = (0 : Int32)))).1) ?_
    refine XS.aload X20.here hx rfl (hb hby at_369) rfl rfl ?_
    refine own_len X20 hx hZ rfl Vr20 (g := (mkF m 371 #[.val (.int x0), .val (.int x1), .val (.int x2), .val (.int x3), .val (.int H1), .val (.int H2), .val (.int H3), .val (.int (3 : Int32)), .val (.ref hs), .val (.int (1 : Int32)), .val (.int (2 : Int32)), .val (.int (2 : Int32)), .val (.ref ea), .val (.int (2 : Int32)), .val (.ref g1), .val (.int (1 : Int32)), .val (.ref g2), .val (.ref g3)] [(.ref g3)])) rfl rfl (hb hby at_371) ?_
    show Steps p.tables e below (T20.setTop (mkF m 372 #[.val (.int x0), .val (.int x1), .val (.int x2), .val (.int x3), .val (.int H1), .val (.int H2), .val (.int H3), .val (.int (3 : Int32)), .val (.ref hs), .val (.int (1 : Int32)), .val (.int (2 : Int32)), .val (.int (2 : Int32)), .val (.ref ea), .val (.int (2 : Int32)), .val (.ref g1), .val (.int (1 : Int32)), .val (.ref g2), .val (.ref g3)] [(.int (0 : Int32))])) _
    refine XS.ifNo X20.here hx rfl (hb hby at_372) rfl ((if0 _ _).trans (teq (by decide : (0 : Int32) = (0 : Int32))).2) ?_
    refine XS.iconst X20.here hx rfl (hb hby at_375) ?_
    refine XS.goto X20.here hx rfl (pc0 := 376) (pc' := 380) rfl (hb hby at_376) (by decide) (by decide) ?_
    refine XS.istore X20.here hx rfl (hb hby at_380) rfl (l' := #[.val (.int x0), .val (.int x1), .val (.int x2), .val (.int x3), .val (.int H1), .val (.int H2), .val (.int H3), .val (.int (3 : Int32)), .val (.ref hs), .val (.int (1 : Int32)), .val (.int (2 : Int32)), .val (.int (2 : Int32)), .val (.ref ea), .val (.int (2 : Int32)), .val (.ref g1), .val (.int (1 : Int32)), .val (.ref g2), .val (.ref g3)]) rfl ?_
    show Steps p.tables e below (T20.setTop (mkF m 382 #[.val (.int x0), .val (.int x1), .val (.int x2), .val (.int x3), .val (.int H1), .val (.int H2), .val (.int H3), .val (.int (3 : Int32)), .val (.ref hs), .val (.int (1 : Int32)), .val (.int (2 : Int32)), .val (.int (2 : Int32)), .val (.ref ea), .val (.int (2 : Int32)), .val (.ref g1), .val (.int (1 : Int32)), .val (.ref g2), .val (.ref g3)] [])) _
    refine XS.iload X20.here hx rfl (hb hby at_382) rfl ?_
    exact retN X20 hx (t := .boolean) Bd.returns (by simp) (hb hby at_384) hr
  · exact ⟨rfl, N20⟩
set_option maxRecDepth 65536 in
set_option maxHeartbeats 40000000 in
theorem rm0_3nn (l : Launch) (Z : State) (a0 : Array Value) (hw : ∀ d ∈ tables_1, d.before a0 Z = true) (ws : List Jvm.Cond) (x0 : Int32) (x1 : Int32) (x2 : Int32) (x3 : Int32) (H1 H2 H3 : Int32) (h0 : Heap) (n0 : Nat) (Z0 : n0 ≤ h0.size) (eH1 : H1 = (x0 &&& (536870911 : Int32))) (eH2 : H2 = (H1 + (x1 &&& (536870911 : Int32)))) (eH3 : H3 = (H2 + (x2 &&& (1073741823 : Int32)))) (hn : (x3 &&& (3 : Int32)) = (3 : Int32)) (hq2 : ¬ (H2 = H1)) (hq3 : ¬ (H3 = H2)) :
    MetFree l x (head1 (Jvm.Cond.code x code maxLocals ret :: ws) room_1) (fun a U => a = #[(.int x0), (.int x1), (.int x2), (.int x3)] ∧ Z.Warmed39 U.vm ∧ U.heap = h0) (fun _ _ _ _ _ => True) (fun _ U o U' => ∃ v L, o = .returned v ∧ (QL n0 v U'.heap L) ∧ FrameEnd U o U' L room_1.cells room_1.slots) := by
  refine MetFree.of_bodySF (plainFor_of_name pn_0) hisR ?_
  intro p e s m args below meth c s₁ Bd hml0 hP hK
  obtain ⟨rfl, hZ, hh⟩ := hP
  have hx := Bd.exec
  have hby := Bd.bytes
  have hml : c.maxLocals = 18 := hml0
  have hown : s.vm.findClass "com/example/rootline/rootline/reach/HolderSetsHoldersPinLaw" = some m.cls := findClass_of_methodNamed Bd.named
  have hnm := (name_of_methodNamed Bd.named Bd.method).1
  have X0 : Stand p l e room_1 s m #[(.int x0), (.int x1), (.int x2), (.int x3)] below meth c s₁ [] 0 0 := Stand.of_body Bd
  have e0 : s₁.heap = h0 := by rw [← hh, Bd.state]; rfl
  have N0 := Fr.nil n0
  have pre0 : ∀ t, Steps p.tables e below (s₁.setTop (mkF m 0 #[.val (.int x0), .val (.int x1), .val (.int x2), .val (.int x3), .unset, .unset, .unset, .unset, .unset, .unset, .unset, .unset, .unset, .unset, .unset, .unset, .unset, .unset] [])) t → Steps p.tables e below (s₁.setTop (entryFrame m #[(.int x0), (.int x1), (.int x2), (.int x3)] maxLocals)) t := fun t k => castTop (ef_0 m x0 x1 x2 x3) k
  have c0 : (0 : Int32).toInt = 0 := rfl
  have cm1 : (-1 : Int32).toInt = -1 := rfl
  have m1 := c_mask x0 (536870911 : Int32) 29 (by decide) (by decide)
  have m2 := c_mask x1 (536870911 : Int32) 29 (by decide) (by decide)
  have m3 := c_mask x2 (1073741823 : Int32) 30 (by decide) (by decide)
  rw [show ((2 ^ 29 : Nat) : Int) = 536870912 from rfl] at m1 m2
  rw [show ((2 ^ 30 : Nat) : Int) = 1073741824 from rfl] at m3
  have a2 := c_iadd H1 (x1 &&& (536870911 : Int32))
  have a3 := c_iadd H2 (x2 &&& (1073741823 : Int32))
  rw [← eH2] at a2
  rw [← eH3] at a3
  rw [← eH1] at m1
  have r2 := rng32 H2
  have r3 := rng32 H3
  have hH1 : 0 ≤ H1.toInt := by omega
  have hH1n := hH1
  have hH2n : 0 ≤ H2.toInt := by omega
  have hH3n : 0 ≤ H3.toInt := by omega
  have le12 : H1.toInt ≤ H2.toInt := by omega
  have le23 : H2.toInt ≤ H3.toInt := by omega
  have hneH1 : ¬ (H1 = (-1 : Int32)) := by rw [← Int32.toInt_inj]; omega
  have hgeH1 : ¬ (H1 < (-1 : Int32)) := by rw [Int32.lt_iff_toInt_lt]; omega
  have hneH2 : ¬ (H2 = H1) := hq2
  have hgeH2 : ¬ (H2 < H1) := by rw [Int32.lt_iff_toInt_lt]; omega
  have hneH3 : ¬ (H3 = H2) := hq3
  have hgeH3 : ¬ (H3 < H2) := by rw [Int32.lt_iff_toInt_lt]; omega
  obtain ⟨T1, h1, X1, e1, E1, A1, D1, -, st1⟩ := newO X0 hx hZ hown (hw _ (List.mem_of_getElem? (i := 2) rfl)) (hw _ (List.mem_of_getElem? (i := 3) rfl)) (hw _ (List.mem_of_getElem? (i := 4) rfl)) e0 (g := (mkF m 29 #[.val (.int x0), .val (.int x1), .val (.int x2), .val (.int x3), .val (.int H1), .val (.int H2), .val (.int H3), .val (.int (3 : Int32)), .unset, .unset, .unset, .unset, .unset, .unset, .unset, .unset, .unset, .unset] [])) rfl (hb hby at_29) (by decide) (by decide)
  obtain ⟨hs, g1⟩ : ∃ z, z = h0.size := ⟨_, rfl⟩
  rw [← g1] at A1 D1 st1
  have E_hs_1 : Exa Z h1 hs "com/example/rootline/rootline/reach/HolderSets" := A1
  have F_rest_hs_1 : Fld Z h1 hs sH "rest" "[I" .null := D1 (Or.inl (hw _ (List.mem_of_getElem? (i := 13) rfl))) (ty := (.array .int)) (by decide)
  have F_highest_hs_1 : Fld Z h1 hs sH "highest" "[I" .null := D1 (Or.inl (hw _ (List.mem_of_getElem? (i := 15) rfl))) (ty := (.array .int)) (by decide)
  have F_sizes_hs_1 : Fld Z h1 hs sH "sizes" "[I" .null := D1 (Or.inl (hw _ (List.mem_of_getElem? (i := 17) rfl))) (ty := (.array .int)) (by decide)
  have F_count_hs_1 : Fld Z h1 hs sH "count" "I" (.int (0 : Int32)) := D1 (Or.inl (hw _ (List.mem_of_getElem? (i := 19) rfl))) (ty := .int) (by decide)
  have F_withOne_hs_1 : Fld Z h1 hs sH "withOne" "Lcom/example/rootline/rootline/heap/LongIntTable;" .null := D1 (Or.inr (hw _ (List.mem_of_getElem? (i := 40) rfl))) (ty := (.object "com/example/rootline/rootline/heap/LongIntTable")) (by decide)
  have F_unions_hs_1 : Fld Z h1 hs sH "unions" "Lcom/example/rootline/rootline/heap/LongIntTable;" .null := D1 (Or.inr (hw _ (List.mem_of_getElem? (i := 42) rfl))) (ty := (.object "com/example/rootline/rootline/heap/LongIntTable")) (by decide)
  have F_left_hs_1 : Fld Z h1 hs sH "left" "[I" .null := D1 (Or.inl (hw _ (List.mem_of_getElem? (i := 44) rfl))) (ty := (.array .int)) (by decide)
  have F_right_hs_1 : Fld Z h1 hs sH "right" "[I" .null := D1 (Or.inl (hw _ (List.mem_of_getElem? (i := 46) rfl))) (ty := (.array .int)) (by decide)
  have F_merged_hs_1 : Fld Z h1 hs sH "merged" "[I" .null := D1 (Or.inl (hw _ (List.mem_of_getElem? (i := 48) rfl))) (ty := (.array .int)) (by decide)
  have g_hs : n0 ≤ hs := Nat.le_trans Z0 (Nat.le_of_eq g1.symm)
  have siz_2 := Nat.le_trans Z0 E1.1
  obtain ⟨_, _, ⟨T3, L3, k3, n3⟩, -, X3, ⟨Lc3, hQ3, l3, y3, z3⟩, st3⟩ := X1.specialBack hx (y := (⟨"com/example/rootline/rootline/reach/HolderSets", "<init>", "()V"⟩ : MethodName)) rfl hown (mvT hZ (hw _ (List.mem_of_getElem? (i := 5) rfl))) (mvT hZ (hw _ (List.mem_of_getElem? (i := 6) rfl))) (mvT hZ (hw _ (List.mem_of_getElem? (i := 7) rfl))) (by decide) (backOf (W := 1) (rm1 l Z a0 hw [] hs h1 n0 siz_2 E_hs_1 F_rest_hs_1 F_highest_hs_1 F_sizes_hs_1 F_count_hs_1 F_withOne_hs_1 F_unions_hs_1 F_left_hs_1 F_right_hs_1 F_merged_hs_1 g_hs) hZ (hw _ (List.mem_of_getElem? (i := 7) rfl)) (hw _ (List.mem_of_getElem? (i := 4) rfl)) (by decide) (by decide)) (g := (mkF m 33 #[.val (.int x0), .val (.int x1), .val (.int x2), .val (.int x3), .val (.int H1), .val (.int H2), .val (.int H3), .val (.int (3 : Int32)), .unset, .unset, .unset, .unset, .unset, .unset, .unset, .unset, .unset, .unset] [(.ref hs), (.ref hs)])) rfl (by rw [hml]; rfl) (Steps.refl _) (a := hs) (argsL := []) (rest := [(.ref hs)]) (lenOf pd___V rfl) rfl (by show 2 * 0 + _ ≤ _; exact Nat.le_of_eq rfl) (hb hby at_33) (fun _ _ => ⟨rfl, e1, (by decide : 1 + 12 ≤ _), (by decide : 9 + 358 ≤ _)⟩)
  dsimp only [Pt.U, Pt.locs, Pt.cells, Pt.slots] at X3 l3 y3 z3 st3 hQ3
  subst l3 y3 z3
  obtain ⟨rfl, N3q, K3, ra, ha, sa, t, ka, va, kr, kh, ks, Kf, Vf, HSi, hVf⟩ := hQ3
  have siz_4 := Nat.le_trans siz_2 K3.1
  have E_hs : Exa Z T3.heap hs "com/example/rootline/rootline/reach/HolderSets" := HSi.2.1
  have N3 := Fr.app N0 N3q
  obtain ⟨cq5, kq5, q5a, q5b, q5c⟩ := isOf hZ rfl E_hs
  obtain ⟨_, _, ⟨T5, L5, k5, n5⟩, -, X5, ⟨Lc5, hQ5, l5, y5, z5⟩, st5⟩ := X3.virtualBack hx (y := (⟨"com/example/rootline/rootline/reach/HolderSets", "with", "(II)I"⟩ : MethodName)) (z := (⟨"com/example/rootline/rootline/reach/HolderSets", "with", "(II)I"⟩ : MethodName)) hown (mvT hZ (hw _ (List.mem_of_getElem? (i := 49) rfl))) (mvT hZ (hw _ (List.mem_of_getElem? (i := 50) rfl))) (notFace_of_selects (args := #[]) (mvT hZ (hw _ (List.mem_of_getElem? (i := 52) rfl)))) (mvT hZ (hw _ (List.mem_of_getElem? (i := 52) rfl))) (mvT hZ (hw _ (List.mem_of_getElem? (i := 51) rfl))) (by decide) (backOf (W := 0) (rmw_0 l Z a0 hw [] hs H1 ra ha sa t ka va kr kh ks Kf Vf  T3.heap n0 siz_4 HSi g_hs (fun i hi => own_emp Vf 0 0 (fun j hj q => absurd (hVf j hj) q) i hi) (fun j hj q => absurd (hVf j hj) q) hneH1 hgeH1) hZ (hw _ (List.mem_of_getElem? (i := 53) rfl)) (hw _ (List.mem_of_getElem? (i := 4) rfl)) (by decide) (by decide)) q5a q5c (g := (mkF m 49 #[.val (.int x0), .val (.int x1), .val (.int x2), .val (.int x3), .val (.int H1), .val (.int H2), .val (.int H3), .val (.int (3 : Int32)), .val (.ref hs), .unset, .unset, .unset, .unset, .unset, .unset, .unset, .unset, .unset] [(.int H1), (.int (0 : Int32)), (.ref hs)])) rfl (by rw [hml]; rfl) (Steps.refl _) (argsL := [(.int (0 : Int32)), (.int H1)]) (rest := []) (lenOf pd__II_I rfl) rfl (by show 2 * 0 + _ ≤ _; exact Nat.le_of_eq rfl) (hb hby at_49) (fun _ _ => ⟨rfl, rfl, (by decide : 13 + 0 ≤ _), (by decide : 367 + 0 ≤ _)⟩)
  dsimp only [Pt.U, Pt.locs, Pt.cells, Pt.slots] at X5 l5 y5 z5 st5 hQ5
  subst l5 y5 z5
  obtain ⟨rfl, N5q, K5, p1, hp1, hV1, HS5⟩ := hQ5
  have siz_6 := Nat.le_trans siz_4 K5.1
  have E_hs_6 := E_hs.keep K5
  have occ1 := own_occ1 Kf Vf p1 (1 : Int32) (own_pair (0 : Int32) H1) hVf
  have HSn5 : HSS Z T5.heap hs ra ha sa t ka va kr kh ks (2 : Int32) [(.int (-1 : Int32)), (.int (0 : Int32)), (.int (0 : Int32)), (.int (0 : Int32)), (.int (0 : Int32)), (.int (0 : Int32)), (.int (0 : Int32)), (.int (0 : Int32)), (.int (0 : Int32)), (.int (0 : Int32)), (.int (0 : Int32)), (.int (0 : Int32)), (.int (0 : Int32)), (.int (0 : Int32)), (.int (0 : Int32)), (.int (0 : Int32))] [(.int (-1 : Int32)), (.int H1), (.int (0 : Int32)), (.int (0 : Int32)), (.int (0 : Int32)), (.int (0 : Int32)), (.int (0 : Int32)), (.int (0 : Int32)), (.int (0 : Int32)), (.int (0 : Int32)), (.int (0 : Int32)), (.int (0 : Int32)), (.int (0 : Int32)), (.int (0 : Int32)), (.int (0 : Int32)), (.int (0 : Int32))] [(.int (0 : Int32)), (.int (1 : Int32)), (.int (0 : Int32)), (.int (0 : Int32)), (.int (0 : Int32)), (.int (0 : Int32)), (.int (0 : Int32)), (.int (0 : Int32)), (.int (0 : Int32)), (.int (0 : Int32)), (.int (0 : Int32)), (.int (0 : Int32)), (.int (0 : Int32)), (.int (0 : Int32)), (.int (0 : Int32)), (.int (0 : Int32))] (1 : Int32) (upd Kf p1 (own_pair (0 : Int32) H1)) (upd Vf p1 (1 : Int32)) := HS5
  have N5 := Fr.app N3 N5q
  obtain ⟨cq7, kq7, q7a, q7b, q7c⟩ := isOf hZ rfl E_hs_6
  obtain ⟨_, _, ⟨T7, L7, k7, n7⟩, -, X7, ⟨Lc7, hQ7, l7, y7, z7⟩, st7⟩ := X5.virtualBack hx (y := (⟨"com/example/rootline/rootline/reach/HolderSets", "with", "(II)I"⟩ : MethodName)) (z := (⟨"com/example/rootline/rootline/reach/HolderSets", "with", "(II)I"⟩ : MethodName)) hown (mvT hZ (hw _ (List.mem_of_getElem? (i := 49) rfl))) (mvT hZ (hw _ (List.mem_of_getElem? (i := 50) rfl))) (notFace_of_selects (args := #[]) (mvT hZ (hw _ (List.mem_of_getElem? (i := 52) rfl)))) (mvT hZ (hw _ (List.mem_of_getElem? (i := 52) rfl))) (mvT hZ (hw _ (List.mem_of_getElem? (i := 51) rfl))) (by decide) (backOf (W := 0) (rmw_1 l Z a0 hw [] hs H2 ra ha sa t ka va kr kh ks (upd Kf p1 (own_pair (0 : Int32) H1)) (upd Vf p1 (1 : Int32)) H1 T5.heap n0 siz_6 HSn5 g_hs (fun i hi => own_emp _ p1 p1 (fun j hj q => Or.inl (occ1 j hj q).1) i hi) (fun j hj q z => own_pair_ne _ _ _ _ (by decide) hH1 (by decide) hH2n (by decide) ((occ1 j hj q).2.symm.trans z)) hneH2 hgeH2) hZ (hw _ (List.mem_of_getElem? (i := 53) rfl)) (hw _ (List.mem_of_getElem? (i := 4) rfl)) (by decide) (by decide)) q7a q7c (g := (mkF m 70 #[.val (.int x0), .val (.int x1), .val (.int x2), .val (.int x3), .val (.int H1), .val (.int H2), .val (.int H3), .val (.int (3 : Int32)), .val (.ref hs), .val (.int (1 : Int32)), .unset, .unset, .unset, .unset, .unset, .unset, .unset, .unset] [(.int H2), (.int (1 : Int32)), (.ref hs)])) rfl (by rw [hml]; rfl) (Steps.refl _) (argsL := [(.int (1 : Int32)), (.int H2)]) (rest := []) (lenOf pd__II_I rfl) rfl (by show 2 * 0 + _ ≤ _; exact Nat.le_of_eq rfl) (hb hby at_70) (fun _ _ => ⟨rfl, rfl, (by decide : 13 + 0 ≤ _), (by decide : 367 + 0 ≤ _)⟩)
  dsimp only [Pt.U, Pt.locs, Pt.cells, Pt.slots] at X7 l7 y7 z7 st7 hQ7
  subst l7 y7 z7
  obtain ⟨rfl, N7q, K7, p2, hp2, hV2, HS7⟩ := hQ7
  have siz_8 := Nat.le_trans siz_6 K7.1
  have E_hs_8 := E_hs_6.keep K7
  have occ2 := own_occ2 _ _ p1 p2 (2 : Int32) _ (own_pair (1 : Int32) H2) occ1
  have HSn7 : HSS Z T7.heap hs ra ha sa t ka va kr kh ks (3 : Int32) [(.int (-1 : Int32)), (.int (0 : Int32)), (.int (1 : Int32)), (.int (0 : Int32)), (.int (0 : Int32)), (.int (0 : Int32)), (.int (0 : Int32)), (.int (0 : Int32)), (.int (0 : Int32)), (.int (0 : Int32)), (.int (0 : Int32)), (.int (0 : Int32)), (.int (0 : Int32)), (.int (0 : Int32)), (.int (0 : Int32)), (.int (0 : Int32))] [(.int (-1 : Int32)), (.int H1), (.int H2), (.int (0 : Int32)), (.int (0 : Int32)), (.int (0 : Int32)), (.int (0 : Int32)), (.int (0 : Int32)), (.int (0 : Int32)), (.int (0 : Int32)), (.int (0 : Int32)), (.int (0 : Int32)), (.int (0 : Int32)), (.int (0 : Int32)), (.int (0 : Int32)), (.int (0 : Int32))] [(.int (0 : Int32)), (.int (1 : Int32)), (.int (2 : Int32)), (.int (0 : Int32)), (.int (0 : Int32)), (.int (0 : Int32)), (.int (0 : Int32)), (.int (0 : Int32)), (.int (0 : Int32)), (.int (0 : Int32)), (.int (0 : Int32)), (.int (0 : Int32)), (.int (0 : Int32)), (.int (0 : Int32)), (.int (0 : Int32)), (.int (0 : Int32))] (2 : Int32) (upd (upd Kf p1 (own_pair (0 : Int32) H1)) p2 (own_pair (1 : Int32) H2)) (upd (upd Vf p1 (1 : Int32)) p2 (2 : Int32)) := HS7
  have N7 := Fr.app N5 N7q
  obtain ⟨cq9, kq9, q9a, q9b, q9c⟩ := isOf hZ rfl E_hs_8
  obtain ⟨_, _, ⟨T9, L9, k9, n9⟩, -, X9, ⟨Lc9, hQ9, l9, y9, z9⟩, st9⟩ := X7.virtualBack hx (y := (⟨"com/example/rootline/rootline/reach/HolderSets", "with", "(II)I"⟩ : MethodName)) (z := (⟨"com/example/rootline/rootline/reach/HolderSets", "with", "(II)I"⟩ : MethodName)) hown (mvT hZ (hw _ (List.mem_of_getElem? (i := 49) rfl))) (mvT hZ (hw _ (List.mem_of_getElem? (i := 50) rfl))) (notFace_of_selects (args := #[]) (mvT hZ (hw _ (List.mem_of_getElem? (i := 52) rfl)))) (mvT hZ (hw _ (List.mem_of_getElem? (i := 52) rfl))) (mvT hZ (hw _ (List.mem_of_getElem? (i := 51) rfl))) (by decide) (backOf (W := 0) (rmw_2 l Z a0 hw [] hs H3 ra ha sa t ka va kr kh ks (upd (upd Kf p1 (own_pair (0 : Int32) H1)) p2 (own_pair (1 : Int32) H2)) (upd (upd Vf p1 (1 : Int32)) p2 (2 : Int32)) H1 H2 T7.heap n0 siz_8 HSn7 g_hs (fun i hi => own_emp _ p1 p2 (fun j hj q => (occ2 j hj q).elim (fun z => Or.inl z.1) (fun z => Or.inr z.1)) i hi) (fun j hj q z => (occ2 j hj q).elim (fun y => own_pair_ne _ _ _ _ (by decide) hH1 (by decide) hH3n (by decide) (y.2.symm.trans z)) (fun y => own_pair_ne _ _ _ _ (by decide) hH2n (by decide) hH3n (by decide) (y.2.symm.trans z))) hneH3 hgeH3) hZ (hw _ (List.mem_of_getElem? (i := 53) rfl)) (hw _ (List.mem_of_getElem? (i := 4) rfl)) (by decide) (by decide)) q9a q9c (g := (mkF m 92 #[.val (.int x0), .val (.int x1), .val (.int x2), .val (.int x3), .val (.int H1), .val (.int H2), .val (.int H3), .val (.int (3 : Int32)), .val (.ref hs), .val (.int (1 : Int32)), .val (.int (2 : Int32)), .unset, .unset, .unset, .unset, .unset, .unset, .unset] [(.int H3), (.int (2 : Int32)), (.ref hs)])) rfl (by rw [hml]; rfl) (Steps.refl _) (argsL := [(.int (2 : Int32)), (.int H3)]) (rest := []) (lenOf pd__II_I rfl) rfl (by show 2 * 0 + _ ≤ _; exact Nat.le_of_eq rfl) (hb hby at_92) (fun _ _ => ⟨rfl, rfl, (by decide : 13 + 0 ≤ _), (by decide : 367 + 0 ≤ _)⟩)
  dsimp only [Pt.U, Pt.locs, Pt.cells, Pt.slots] at X9 l9 y9 z9 st9 hQ9
  subst l9 y9 z9
  obtain ⟨rfl, N9q, K9, p3, hp3, hV3, HS9⟩ := hQ9
  have siz_10 := Nat.le_trans siz_8 K9.1
  have E_hs_10 := E_hs_8.keep K9
  have HSn9 : HSS Z T9.heap hs ra ha sa t ka va kr kh ks (4 : Int32) [(.int (-1 : Int32)), (.int (0 : Int32)), (.int (1 : Int32)), (.int (2 : Int32)), (.int (0 : Int32)), (.int (0 : Int32)), (.int (0 : Int32)), (.int (0 : Int32)), (.int (0 : Int32)), (.int (0 : Int32)), (.int (0 : Int32)), (.int (0 : Int32)), (.int (0 : Int32)), (.int (0 : Int32)), (.int (0 : Int32)), (.int (0 : Int32))] [(.int (-1 : Int32)), (.int H1), (.int H2), (.int H3), (.int (0 : Int32)), (.int (0 : Int32)), (.int (0 : Int32)), (.int (0 : Int32)), (.int (0 : Int32)), (.int (0 : Int32)), (.int (0 : Int32)), (.int (0 : Int32)), (.int (0 : Int32)), (.int (0 : Int32)), (.int (0 : Int32)), (.int (0 : Int32))] [(.int (0 : Int32)), (.int (1 : Int32)), (.int (2 : Int32)), (.int (3 : Int32)), (.int (0 : Int32)), (.int (0 : Int32)), (.int (0 : Int32)), (.int (0 : Int32)), (.int (0 : Int32)), (.int (0 : Int32)), (.int (0 : Int32)), (.int (0 : Int32)), (.int (0 : Int32)), (.int (0 : Int32)), (.int (0 : Int32)), (.int (0 : Int32))] (3 : Int32) (upd (upd (upd Kf p1 (own_pair (0 : Int32) H1)) p2 (own_pair (1 : Int32) H2)) p3 (own_pair (2 : Int32) H3)) (upd (upd (upd Vf p1 (1 : Int32)) p2 (2 : Int32)) p3 (3 : Int32)) := HS9
  have N9 := Fr.app N7 N9q
  obtain ⟨T11, h11, k11, X11, e11, E11, A11, st11⟩ := newP X9 hx hZ (hw _ (List.mem_of_getElem? (i := 11) rfl)) rfl (g := (mkF m 103 #[.val (.int x0), .val (.int x1), .val (.int x2), .val (.int x3), .val (.int H1), .val (.int H2), .val (.int H3), .val (.int (3 : Int32)), .val (.ref hs), .val (.int (1 : Int32)), .val (.int (2 : Int32)), .val (.int (3 : Int32)), .unset, .unset, .unset, .unset, .unset, .unset] [(.int (3 : Int32))])) rfl (hb hby at_103) rfl (by decide) (cap := 3) (by decide) (by decide) (by decide) (by decide)
  obtain ⟨ea, g11⟩ : ∃ z, z = T9.heap.size := ⟨_, rfl⟩
  rw [← g11] at A11 st11
  have V_ea_11 : Arv Z h11 ea k11 .int (3 : Int32) [(.int (0 : Int32)), (.int (0 : Int32)), (.int (0 : Int32))] (.int (0 : Int32)) := (Arv.new A11 (by decide)).pad (pad_rep [] (.int (0 : Int32)) 3)
  have lt_hs_ea : hs < ea := Nat.lt_of_lt_of_le E_hs_10.lt (Nat.le_of_eq g11.symm)
  have lt_va_ea : va < ea := Nat.lt_of_lt_of_le HSn9.lt (Nat.le_of_eq g11.symm)
  have g_ea : n0 ≤ ea := Nat.le_trans siz_10 (Nat.le_of_eq g11.symm)
  have siz_12 := Nat.le_trans siz_10 E11.1
  have E_hs_12 := E_hs_10.ext E11
  have HS_12 := HSn9.ext E11
  obtain ⟨T13, h13, L13, X13, e13, N13, W13, V13, st13⟩ := own_stI X11 hx hZ e11 V_ea_11 (j := (0 : Int32)) ⟨by decide, by decide⟩ (i := 0) rfl (Nat.le_of_ble_eq_true rfl) N9 g_ea (g := (mkF m 122 #[.val (.int x0), .val (.int x1), .val (.int x2), .val (.int x3), .val (.int H1), .val (.int H2), .val (.int H3), .val (.int (3 : Int32)), .val (.ref hs), .val (.int (1 : Int32)), .val (.int (2 : Int32)), .val (.int (3 : Int32)), .val (.ref ea), .val (.int (0 : Int32)), .unset, .unset, .unset, .unset] [(.int H1), (.int (0 : Int32)), (.ref ea)])) rfl rfl (hb hby at_122)
  have siz_14 := Nat.le_trans siz_12 (Keep.of_wr W13).1
  have E_hs_14 := E_hs_12.wr W13
  have HS_14 := HS_12.wr W13 lt_va_ea
  have V_ea_13 : Arv Z h13 ea k11 .int (3 : Int32) [(.int H1), (.int (0 : Int32)), (.int (0 : Int32))] (.int (0 : Int32)) := V13
  obtain ⟨T15, h15, L15, X15, e15, N15, W15, V15, st15⟩ := own_stI X13 hx hZ e13 V_ea_13 (j := (1 : Int32)) ⟨by decide, by decide⟩ (i := 1) rfl (Nat.le_of_ble_eq_true rfl) N13 g_ea (g := (mkF m 148 #[.val (.int x0), .val (.int x1), .val (.int x2), .val (.int x3), .val (.int H1), .val (.int H2), .val (.int H3), .val (.int (3 : Int32)), .val (.ref hs), .val (.int (1 : Int32)), .val (.int (2 : Int32)), .val (.int (3 : Int32)), .val (.ref ea), .val (.int (1 : Int32)), .unset, .unset, .unset, .unset] [(.int H2), (.int (1 : Int32)), (.ref ea)])) rfl rfl (hb hby at_148)
  have siz_16 := Nat.le_trans siz_14 (Keep.of_wr W15).1
  have E_hs_16 := E_hs_14.wr W15
  have HS_16 := HS_14.wr W15 lt_va_ea
  have V_ea_15 : Arv Z h15 ea k11 .int (3 : Int32) [(.int H1), (.int H2), (.int (0 : Int32))] (.int (0 : Int32)) := V15
  obtain ⟨T17, h17, L17, X17, e17, N17, W17, V17, st17⟩ := own_stI X15 hx hZ e15 V_ea_15 (j := (2 : Int32)) ⟨by decide, by decide⟩ (i := 2) rfl (Nat.le_of_ble_eq_true rfl) N15 g_ea (g := (mkF m 174 #[.val (.int x0), .val (.int x1), .val (.int x2), .val (.int x3), .val (.int H1), .val (.int H2), .val (.int H3), .val (.int (3 : Int32)), .val (.ref hs), .val (.int (1 : Int32)), .val (.int (2 : Int32)), .val (.int (3 : Int32)), .val (.ref ea), .val (.int (2 : Int32)), .unset, .unset, .unset, .unset] [(.int H3), (.int (2 : Int32)), (.ref ea)])) rfl rfl (hb hby at_174)
  have siz_18 := Nat.le_trans siz_16 (Keep.of_wr W17).1
  have E_hs_18 := E_hs_16.wr W17
  have HS_18 := HS_16.wr W17 lt_va_ea
  have V_ea_17 : Arv Z h17 ea k11 .int (3 : Int32) [(.int H1), (.int H2), (.int H3)] (.int (0 : Int32)) := V17
  obtain ⟨cq19, kq19, q19a, q19b, q19c⟩ := isOf hZ e17 E_hs_18
  obtain ⟨_, _, ⟨T19, L19, k19, n19⟩, -, X19, ⟨Lc19, hQ19, l19, y19, z19⟩, st19⟩ := X17.virtualBack hx (y := (⟨"com/example/rootline/rootline/reach/HolderSets", "holders", "(I)[I"⟩ : MethodName)) (z := (⟨"com/example/rootline/rootline/reach/HolderSets", "holders", "(I)[I"⟩ : MethodName)) hown (mvT hZ (hw _ (List.mem_of_getElem? (i := 76) rfl))) (mvT hZ (hw _ (List.mem_of_getElem? (i := 77) rfl))) (notFace_of_selects (args := #[]) (mvT hZ (hw _ (List.mem_of_getElem? (i := 79) rfl)))) (mvT hZ (hw _ (List.mem_of_getElem? (i := 79) rfl))) (mvT hZ (hw _ (List.mem_of_getElem? (i := 78) rfl))) (by decide) (backOf (W := 0) (rmh_3_3 l Z a0 hw [] hs ra ha sa t ka va kr kh ks (upd (upd (upd Kf p1 (own_pair (0 : Int32) H1)) p2 (own_pair (1 : Int32) H2)) p3 (own_pair (2 : Int32) H3)) (upd (upd (upd Vf p1 (1 : Int32)) p2 (2 : Int32)) p3 (3 : Int32)) H1 H2 H3 h17 n0 siz_18 HS_18) hZ (hw _ (List.mem_of_getElem? (i := 80) rfl)) (hw _ (List.mem_of_getElem? (i := 4) rfl)) (by decide) (by decide)) q19a q19c (g := (mkF m 185 #[.val (.int x0), .val (.int x1), .val (.int x2), .val (.int x3), .val (.int H1), .val (.int H2), .val (.int H3), .val (.int (3 : Int32)), .val (.ref hs), .val (.int (1 : Int32)), .val (.int (2 : Int32)), .val (.int (3 : Int32)), .val (.ref ea), .val (.int (3 : Int32)), .unset, .unset, .unset, .unset] [(.int (3 : Int32)), (.ref hs)])) rfl (by rw [hml]; rfl) (Steps.refl _) (argsL := [(.int (3 : Int32))]) (rest := []) (lenOf pd__I__I rfl) rfl (by show 2 * 0 + _ ≤ _; exact Nat.le_of_eq rfl) (hb hby at_185) (fun _ _ => ⟨rfl, e17, (by decide : 14 + 1 ≤ _), (by decide : 370 + 3 ≤ _)⟩)
  dsimp only [Pt.U, Pt.locs, Pt.cells, Pt.slots] at X19 l19 y19 z19 st19 hQ19
  subst l19 y19 z19
  obtain ⟨g1, kg1, rfl, N19q, K19, sr19, Vr19⟩ := hQ19
  have siz_20 := Nat.le_trans siz_18 K19.1
  have E_hs_20 := E_hs_18.keep K19
  have HS_20 := HS_18.keep K19
  have V_ea_20 := V_ea_17.keep K19 nin0
  have N19 := Fr.app N17 N19q
  obtain ⟨cq21, kq21, q21a, q21b, q21c⟩ := isOf hZ rfl E_hs_20
  obtain ⟨_, _, ⟨T21, L21, k21, n21⟩, -, X21, ⟨Lc21, hQ21, l21, y21, z21⟩, st21⟩ := X19.virtualBack hx (y := (⟨"com/example/rootline/rootline/reach/HolderSets", "holders", "(I)[I"⟩ : MethodName)) (z := (⟨"com/example/rootline/rootline/reach/HolderSets", "holders", "(I)[I"⟩ : MethodName)) hown (mvT hZ (hw _ (List.mem_of_getElem? (i := 76) rfl))) (mvT hZ (hw _ (List.mem_of_getElem? (i := 77) rfl))) (notFace_of_selects (args := #[]) (mvT hZ (hw _ (List.mem_of_getElem? (i := 79) rfl)))) (mvT hZ (hw _ (List.mem_of_getElem? (i := 79) rfl))) (mvT hZ (hw _ (List.mem_of_getElem? (i := 78) rfl))) (by decide) (backOf (W := 0) (rmh_3_1 l Z a0 hw [] hs ra ha sa t ka va kr kh ks (upd (upd (upd Kf p1 (own_pair (0 : Int32) H1)) p2 (own_pair (1 : Int32) H2)) p3 (own_pair (2 : Int32) H3)) (upd (upd (upd Vf p1 (1 : Int32)) p2 (2 : Int32)) p3 (3 : Int32)) H1 H2 H3 T19.heap n0 siz_20 HS_20) hZ (hw _ (List.mem_of_getElem? (i := 80) rfl)) (hw _ (List.mem_of_getElem? (i := 4) rfl)) (by decide) (by decide)) q21a q21c (g := (mkF m 296 #[.val (.int x0), .val (.int x1), .val (.int x2), .val (.int x3), .val (.int H1), .val (.int H2), .val (.int H3), .val (.int (3 : Int32)), .val (.ref hs), .val (.int (1 : Int32)), .val (.int (2 : Int32)), .val (.int (3 : Int32)), .val (.ref ea), .val (.int (3 : Int32)), .val (.ref g1), .val (.int (1 : Int32)), .unset, .unset] [(.int (1 : Int32)), (.ref hs)])) rfl (by rw [hml]; rfl) (Steps.refl _) (argsL := [(.int (1 : Int32))]) (rest := []) (lenOf pd__I__I rfl) rfl (by show 2 * 0 + _ ≤ _; exact Nat.le_of_eq rfl) (hb hby at_296) (fun _ _ => ⟨rfl, rfl, (by decide : 15 + 1 ≤ _), (by decide : 373 + 1 ≤ _)⟩)
  dsimp only [Pt.U, Pt.locs, Pt.cells, Pt.slots] at X21 l21 y21 z21 st21 hQ21
  subst l21 y21 z21
  obtain ⟨g2, kg2, rfl, N21q, K21, sr21, Vr21⟩ := hQ21
  have siz_22 := Nat.le_trans siz_20 K21.1
  have E_hs_22 := E_hs_20.keep K21
  have HS_22 := HS_20.keep K21
  have V_ea_22 := V_ea_20.keep K21 nin0
  have V_g1_22 := Vr19.keep K21 nin0
  have N21 := Fr.app N19 N21q
  obtain ⟨cq23, kq23, q23a, q23b, q23c⟩ := isOf hZ rfl E_hs_22
  obtain ⟨_, _, ⟨T23, L23, k23, n23⟩, -, X23, ⟨Lc23, hQ23, l23, y23, z23⟩, st23⟩ := X21.virtualBack hx (y := (⟨"com/example/rootline/rootline/reach/HolderSets", "holders", "(I)[I"⟩ : MethodName)) (z := (⟨"com/example/rootline/rootline/reach/HolderSets", "holders", "(I)[I"⟩ : MethodName)) hown (mvT hZ (hw _ (List.mem_of_getElem? (i := 76) rfl))) (mvT hZ (hw _ (List.mem_of_getElem? (i := 77) rfl))) (notFace_of_selects (args := #[]) (mvT hZ (hw _ (List.mem_of_getElem? (i := 79) rfl)))) (mvT hZ (hw _ (List.mem_of_getElem? (i := 79) rfl))) (mvT hZ (hw _ (List.mem_of_getElem? (i := 78) rfl))) (by decide) (backOf (W := 0) (rmh_3_0 l Z a0 hw [] hs ra ha sa t ka va kr kh ks (upd (upd (upd Kf p1 (own_pair (0 : Int32) H1)) p2 (own_pair (1 : Int32) H2)) p3 (own_pair (2 : Int32) H3)) (upd (upd (upd Vf p1 (1 : Int32)) p2 (2 : Int32)) p3 (3 : Int32)) H1 H2 H3 T21.heap n0 siz_22 HS_22) hZ (hw _ (List.mem_of_getElem? (i := 80) rfl)) (hw _ (List.mem_of_getElem? (i := 4) rfl)) (by decide) (by decide)) q23a q23c (g := (mkF m 359 #[.val (.int x0), .val (.int x1), .val (.int x2), .val (.int x3), .val (.int H1), .val (.int H2), .val (.int H3), .val (.int (3 : Int32)), .val (.ref hs), .val (.int (1 : Int32)), .val (.int (2 : Int32)), .val (.int (3 : Int32)), .val (.ref ea), .val (.int (3 : Int32)), .val (.ref g1), .val (.int (1 : Int32)), .val (.ref g2), .unset] [(.int (0 : Int32)), (.ref hs)])) rfl (by rw [hml]; rfl) (Steps.refl _) (argsL := [(.int (0 : Int32))]) (rest := []) (lenOf pd__I__I rfl) rfl (by show 2 * 0 + _ ≤ _; exact Nat.le_of_eq rfl) (hb hby at_359) (fun _ _ => ⟨rfl, rfl, (by decide : 16 + 1 ≤ _), (by decide : 374 + 0 ≤ _)⟩)
  dsimp only [Pt.U, Pt.locs, Pt.cells, Pt.slots] at X23 l23 y23 z23 st23 hQ23
  subst l23 y23 z23
  obtain ⟨g3, kg3, rfl, N23q, K23, sr23, Vr23⟩ := hQ23
  have siz_24 := Nat.le_trans siz_22 K23.1
  have E_hs_24 := E_hs_22.keep K23
  have HS_24 := HS_22.keep K23
  have V_ea_24 := V_ea_22.keep K23 nin0
  have V_g1_24 := V_g1_22.keep K23 nin0
  have V_g2_24 := Vr21.keep K23 nin0
  have N23 := Fr.app N21 N23q
  obtain ⟨fs, hr, hrun, hended, hW, hsame⟩ := X23.leave (v := some (.int (1 : Int32))) (fun h => by rw [Bd.returns] at h; cases h)
  refine ⟨_, _, pre0 _ ?_, hrun, hended, _, _, rfl, ?_, ⟨_, rfl⟩, hW, hsame.mono (by decide) (by decide)⟩
  · show Steps p.tables e below (s₁.setTop (mkF m 0 #[.val (.int x0), .val (.int x1), .val (.int x2), .val (.int x3), .unset, .unset, .unset, .unset, .unset, .unset, .unset, .unset, .unset, .unset, .unset, .unset, .unset, .unset] [])) _
    refine XS.iloadN X0.here hx rfl (hb hby at_0) rfl ?_
    refine X0.ldcInt hx hown (mvT hZ (hw _ (List.mem_of_getElem? (i := 0) rfl))) (g := (mkF m 1 #[.val (.int x0), .val (.int x1), .val (.int x2), .val (.int x3), .unset, .unset, .unset, .unset, .unset, .unset, .unset, .unset, .unset, .unset, .unset, .unset, .unset, .unset] [(.int x0)])) rfl (hb hby at_1) _ ?_
    refine XS.iand X0.here hx rfl (hb hby at_3) rfl ?_
    show Steps p.tables e below (s₁.setTop (mkF m 4 #[.val (.int x0), .val (.int x1), .val (.int x2), .val (.int x3), .unset, .unset, .unset, .unset, .unset, .unset, .unset, .unset, .unset, .unset, .unset, .unset, .unset, .unset] [(.int (x0 &&& (536870911 : Int32)))])) _
    rw [← eH1]
    show Steps p.tables e below (s₁.setTop (mkF m 4 #[.val (.int x0), .val (.int x1), .val (.int x2), .val (.int x3), .unset, .unset, .unset, .unset, .unset, .unset, .unset, .unset, .unset, .unset, .unset, .unset, .unset, .unset] [(.int H1)])) _
    refine XS.istore X0.here hx rfl (hb hby at_4) rfl (l' := #[.val (.int x0), .val (.int x1), .val (.int x2), .val (.int x3), .val (.int H1), .unset, .unset, .unset, .unset, .unset, .unset, .unset, .unset, .unset, .unset, .unset, .unset, .unset]) rfl ?_
    refine XS.iload X0.here hx rfl (hb hby at_6) rfl ?_
    refine XS.iloadN X0.here hx rfl (hb hby at_8) rfl ?_
    refine X0.ldcInt hx hown (mvT hZ (hw _ (List.mem_of_getElem? (i := 0) rfl))) (g := (mkF m 9 #[.val (.int x0), .val (.int x1), .val (.int x2), .val (.int x3), .val (.int H1), .unset, .unset, .unset, .unset, .unset, .unset, .unset, .unset, .unset, .unset, .unset, .unset, .unset] [(.int x1), (.int H1)])) rfl (hb hby at_9) _ ?_
    show Steps p.tables e below (s₁.setTop (mkF m 11 #[.val (.int x0), .val (.int x1), .val (.int x2), .val (.int x3), .val (.int H1), .unset, .unset, .unset, .unset, .unset, .unset, .unset, .unset, .unset, .unset, .unset, .unset, .unset] [(.int (536870911 : Int32)), (.int x1), (.int H1)])) _
    refine XS.iand X0.here hx rfl (hb hby at_11) rfl ?_
    refine XS.iadd X0.here hx rfl (hb hby at_12) rfl ?_
    show Steps p.tables e below (s₁.setTop (mkF m 13 #[.val (.int x0), .val (.int x1), .val (.int x2), .val (.int x3), .val (.int H1), .unset, .unset, .unset, .unset, .unset, .unset, .unset, .unset, .unset, .unset, .unset, .unset, .unset] [(.int (H1 + (x1 &&& (536870911 : Int32))))])) _
    rw [← eH2]
    show Steps p.tables e below (s₁.setTop (mkF m 13 #[.val (.int x0), .val (.int x1), .val (.int x2), .val (.int x3), .val (.int H1), .unset, .unset, .unset, .unset, .unset, .unset, .unset, .unset, .unset, .unset, .unset, .unset, .unset] [(.int H2)])) _
    refine XS.istore X0.here hx rfl (hb hby at_13) rfl (l' := #[.val (.int x0), .val (.int x1), .val (.int x2), .val (.int x3), .val (.int H1), .val (.int H2), .unset, .unset, .unset, .unset, .unset, .unset, .unset, .unset, .unset, .unset, .unset, .unset]) rfl ?_
    refine XS.iload X0.here hx rfl (hb hby at_15) rfl ?_
    show Steps p.tables e below (s₁.setTop (mkF m 17 #[.val (.int x0), .val (.int x1), .val (.int x2), .val (.int x3), .val (.int H1), .val (.int H2), .unset, .unset, .unset, .unset, .unset, .unset, .unset, .unset, .unset, .unset, .unset, .unset] [(.int H2)])) _
    refine XS.iloadN X0.here hx rfl (hb hby at_17) rfl ?_
    refine X0.ldcInt hx hown (mvT hZ (hw _ (List.mem_of_getElem? (i := 1) rfl))) (g := (mkF m 18 #[.val (.int x0), .val (.int x1), .val (.int x2), .val (.int x3), .val (.int H1), .val (.int H2), .unset, .unset, .unset, .unset, .unset, .unset, .unset, .unset, .unset, .unset, .unset, .unset] [(.int x2), (.int H2)])) rfl (hb hby at_18) _ ?_
    refine XS.iand X0.here hx rfl (hb hby at_20) rfl ?_
    refine XS.iadd X0.here hx rfl (hb hby at_21) rfl ?_
    show Steps p.tables e below (s₁.setTop (mkF m 22 #[.val (.int x0), .val (.int x1), .val (.int x2), .val (.int x3), .val (.int H1), .val (.int H2), .unset, .unset, .unset, .unset, .unset, .unset, .unset, .unset, .unset, .unset, .unset, .unset] [(.int (H2 + (x2 &&& (1073741823 : Int32))))])) _
    rw [← eH3]
    show Steps p.tables e below (s₁.setTop (mkF m 22 #[.val (.int x0), .val (.int x1), .val (.int x2), .val (.int x3), .val (.int H1), .val (.int H2), .unset, .unset, .unset, .unset, .unset, .unset, .unset, .unset, .unset, .unset, .unset, .unset] [(.int H3)])) _
    refine XS.istore X0.here hx rfl (hb hby at_22) rfl (l' := #[.val (.int x0), .val (.int x1), .val (.int x2), .val (.int x3), .val (.int H1), .val (.int H2), .val (.int H3), .unset, .unset, .unset, .unset, .unset, .unset, .unset, .unset, .unset, .unset, .unset]) rfl ?_
    refine XS.iloadN X0.here hx rfl (hb hby at_24) rfl ?_
    refine XS.iconst X0.here hx rfl (hb hby at_25) ?_
    refine XS.iand X0.here hx rfl (hb hby at_26) rfl ?_
    show Steps p.tables e below (s₁.setTop (mkF m 27 #[.val (.int x0), .val (.int x1), .val (.int x2), .val (.int x3), .val (.int H1), .val (.int H2), .val (.int H3), .unset, .unset, .unset, .unset, .unset, .unset, .unset, .unset, .unset, .unset, .unset] [(.int (x3 &&& (3 : Int32)))])) _
    rw [hn]
    show Steps p.tables e below (s₁.setTop (mkF m 27 #[.val (.int x0), .val (.int x1), .val (.int x2), .val (.int x3), .val (.int H1), .val (.int H2), .val (.int H3), .unset, .unset, .unset, .unset, .unset, .unset, .unset, .unset, .unset, .unset, .unset] [(.int (3 : Int32))])) _
    refine XS.istore X0.here hx rfl (hb hby at_27) rfl (l' := #[.val (.int x0), .val (.int x1), .val (.int x2), .val (.int x3), .val (.int H1), .val (.int H2), .val (.int H3), .val (.int (3 : Int32)), .unset, .unset, .unset, .unset, .unset, .unset, .unset, .unset, .unset, .unset]) rfl ?_
    refine st1 _ ?_
    show Steps p.tables e below (T1.setTop (mkF m 32 #[.val (.int x0), .val (.int x1), .val (.int x2), .val (.int x3), .val (.int H1), .val (.int H2), .val (.int H3), .val (.int (3 : Int32)), .unset, .unset, .unset, .unset, .unset, .unset, .unset, .unset, .unset, .unset] [(.ref hs)])) _
    refine XS.dup X1.here hx rfl (hb hby at_32) rfl rfl ?_
    refine st3.trans ?_
    show Steps p.tables e below (T3.setTop (mkF m 36 #[.val (.int x0), .val (.int x1), .val (.int x2), .val (.int x3), .val (.int H1), .val (.int H2), .val (.int H3), .val (.int (3 : Int32)), .unset, .unset, .unset, .unset, .unset, .unset, .unset, .unset, .unset, .unset] [(.ref hs)])) _
    refine XS.astore X3.here hx rfl (hb hby at_36) rfl rfl (l' := #[.val (.int x0), .val (.int x1), .val (.int x2), .val (.int x3), .val (.int H1), .val (.int H2), .val (.int H3), .val (.int (3 : Int32)), .val (.ref hs), .unset, .unset, .unset, .unset, .unset, .unset, .unset, .unset, .unset]) rfl ?_
    refine XS.iload X3.here hx rfl (hb hby at_38) rfl ?_
    refine XS.iconst X3.here hx rfl (hb hby at_40) ?_
    refine XS.icmpNo X3.here hx rfl (hb hby at_41) rfl (flt (by decide : ¬ ((3 : Int32) < (1 : Int32)))).1 ?_
    show Steps p.tables e below (T3.setTop (mkF m 44 #[.val (.int x0), .val (.int x1), .val (.int x2), .val (.int x3), .val (.int H1), .val (.int H2), .val (.int H3), .val (.int (3 : Int32)), .val (.ref hs), .unset, .unset, .unset, .unset, .unset, .unset, .unset, .unset, .unset] [])) _
    refine XS.aload X3.here hx rfl (hb hby at_44) rfl rfl ?_
    refine XS.iconst X3.here hx rfl (hb hby at_46) ?_
    refine XS.iload X3.here hx rfl (hb hby at_47) rfl ?_
    refine st5.trans ?_
    show Steps p.tables e below (T5.setTop (mkF m 52 #[.val (.int x0), .val (.int x1), .val (.int x2), .val (.int x3), .val (.int H1), .val (.int H2), .val (.int H3), .val (.int (3 : Int32)), .val (.ref hs), .unset, .unset, .unset, .unset, .unset, .unset, .unset, .unset, .unset] [(.int (1 : Int32))])) _
    refine XS.goto X5.here hx rfl (pc0 := 52) (pc' := 56) rfl (hb hby at_52) (by decide) (by decide) ?_
    refine XS.istore X5.here hx rfl (hb hby at_56) rfl (l' := #[.val (.int x0), .val (.int x1), .val (.int x2), .val (.int x3), .val (.int H1), .val (.int H2), .val (.int H3), .val (.int (3 : Int32)), .val (.ref hs), .val (.int (1 : Int32)), .unset, .unset, .unset, .unset, .unset, .unset, .unset, .unset]) rfl ?_
    refine XS.iload X5.here hx rfl (hb hby at_58) rfl ?_
    refine XS.iconst X5.here hx rfl (hb hby at_60) ?_
    show Steps p.tables e below (T5.setTop (mkF m 61 #[.val (.int x0), .val (.int x1), .val (.int x2), .val (.int x3), .val (.int H1), .val (.int H2), .val (.int H3), .val (.int (3 : Int32)), .val (.ref hs), .val (.int (1 : Int32)), .unset, .unset, .unset, .unset, .unset, .unset, .unset, .unset] [(.int (2 : Int32)), (.int (3 : Int32))])) _
    refine XS.icmpNo X5.here hx rfl (hb hby at_61) rfl (flt (by decide : ¬ ((3 : Int32) < (2 : Int32)))).1 ?_
    refine XS.aload X5.here hx rfl (hb hby at_64) rfl rfl ?_
    refine XS.iload X5.here hx rfl (hb hby at_66) rfl ?_
    refine XS.iload X5.here hx rfl (hb hby at_68) rfl ?_
    show Steps p.tables e below (T5.setTop (mkF m 70 #[.val (.int x0), .val (.int x1), .val (.int x2), .val (.int x3), .val (.int H1), .val (.int H2), .val (.int H3), .val (.int (3 : Int32)), .val (.ref hs), .val (.int (1 : Int32)), .unset, .unset, .unset, .unset, .unset, .unset, .unset, .unset] [(.int H2), (.int (1 : Int32)), (.ref hs)])) _
    refine st7.trans ?_
    show Steps p.tables e below (T7.setTop (mkF m 73 #[.val (.int x0), .val (.int x1), .val (.int x2), .val (.int x3), .val (.int H1), .val (.int H2), .val (.int H3), .val (.int (3 : Int32)), .val (.ref hs), .val (.int (1 : Int32)), .unset, .unset, .unset, .unset, .unset, .unset, .unset, .unset] [(.int (2 : Int32))])) _
    refine XS.goto X7.here hx rfl (pc0 := 73) (pc' := 78) rfl (hb hby at_73) (by decide) (by decide) ?_
    refine XS.istore X7.here hx rfl (hb hby at_78) rfl (l' := #[.val (.int x0), .val (.int x1), .val (.int x2), .val (.int x3), .val (.int H1), .val (.int H2), .val (.int H3), .val (.int (3 : Int32)), .val (.ref hs), .val (.int (1 : Int32)), .val (.int (2 : Int32)), .unset, .unset, .unset, .unset, .unset, .unset, .unset]) rfl ?_
    refine XS.iload X7.here hx rfl (hb hby at_80) rfl ?_
    show Steps p.tables e below (T7.setTop (mkF m 82 #[.val (.int x0), .val (.int x1), .val (.int x2), .val (.int x3), .val (.int H1), .val (.int H2), .val (.int H3), .val (.int (3 : Int32)), .val (.ref hs), .val (.int (1 : Int32)), .val (.int (2 : Int32)), .unset, .unset, .unset, .unset, .unset, .unset, .unset] [(.int (3 : Int32))])) _
    refine XS.iconst X7.here hx rfl (hb hby at_82) ?_
    refine XS.icmpNo X7.here hx rfl (hb hby at_83) rfl (flt (by decide : ¬ ((3 : Int32) < (3 : Int32)))).1 ?_
    refine XS.aload X7.here hx rfl (hb hby at_86) rfl rfl ?_
    refine XS.iload X7.here hx rfl (hb hby at_88) rfl ?_
    show Steps p.tables e below (T7.setTop (mkF m 90 #[.val (.int x0), .val (.int x1), .val (.int x2), .val (.int x3), .val (.int H1), .val (.int H2), .val (.int H3), .val (.int (3 : Int32)), .val (.ref hs), .val (.int (1 : Int32)), .val (.int (2 : Int32)), .unset, .unset, .unset, .unset, .unset, .unset, .unset] [(.int (2 : Int32)), (.ref hs)])) _
    refine XS.iload X7.here hx rfl (hb hby at_90) rfl ?_
    refine st9.trans ?_
    show Steps p.tables e below (T9.setTop (mkF m 95 #[.val (.int x0), .val (.int x1), .val (.int x2), .val (.int x3), .val (.int H1), .val (.int H2), .val (.int H3), .val (.int (3 : Int32)), .val (.ref hs), .val (.int (1 : Int32)), .val (.int (2 : Int32)), .unset, .unset, .unset, .unset, .unset, .unset, .unset] [(.int (3 : Int32))])) _
    refine XS.goto X9.here hx rfl (pc0 := 95) (pc' := 100) rfl (hb hby at_95) (by decide) (by decide) ?_
    refine XS.istore X9.here hx rfl (hb hby at_100) rfl (l' := #[.val (.int x0), .val (.int x1), .val (.int x2), .val (.int x3), .val (.int H1), .val (.int H2), .val (.int H3), .val (.int (3 : Int32)), .val (.ref hs), .val (.int (1 : Int32)), .val (.int (2 : Int32)), .val (.int (3 : Int32)), .unset, .unset, .unset, .unset, .unset, .unset]) rfl ?_
    show Steps p.tables e below (T9.setTop (mkF m 102 #[.val (.int x0), .val (.int x1), .val (.int x2), .val (.int x3), .val (.int H1), .val (.int H2), .val (.int H3), .val (.int (3 : Int32)), .val (.ref hs), .val (.int (1 : Int32)), .val (.int (2 : Int32)), .val (.int (3 : Int32)), .unset, .unset, .unset, .unset, .unset, .unset] [])) _
    refine XS.iconst X9.here hx rfl (hb hby at_102) ?_
    refine st11 _ ?_
    show Steps p.tables e below (T11.setTop (mkF m 105 #[.val (.int x0), .val (.int x1), .val (.int x2), .val (.int x3), .val (.int H1), .val (.int H2), .val (.int H3), .val (.int (3 : Int32)), .val (.ref hs), .val (.int (1 : Int32)), .val (.int (2 : Int32)), .val (.int (3 : Int32)), .unset, .unset, .unset, .unset, .unset, .unset] [(.ref ea)])) _
    refine XS.astore X11.here hx rfl (hb hby at_105) rfl rfl (l' := #[.val (.int x0), .val (.int x1), .val (.int x2), .val (.int x3), .val (.int H1), .val (.int H2), .val (.int H3), .val (.int (3 : Int32)), .val (.ref hs), .val (.int (1 : Int32)), .val (.int (2 : Int32)), .val (.int (3 : Int32)), .val (.ref ea), .unset, .unset, .unset, .unset, .unset]) rfl ?_
    refine XS.iconst X11.here hx rfl (hb hby at_107) ?_
    show Steps p.tables e below (T11.setTop (mkF m 108 #[.val (.int x0), .val (.int x1), .val (.int x2), .val (.int x3), .val (.int H1), .val (.int H2), .val (.int H3), .val (.int (3 : Int32)), .val (.ref hs), .val (.int (1 : Int32)), .val (.int (2 : Int32)), .val (.int (3 : Int32)), .val (.ref ea), .unset, .unset, .unset, .unset, .unset] [(.int (0 : Int32))])) _
    refine XS.istore X11.here hx rfl (hb hby at_108) rfl (l' := #[.val (.int x0), .val (.int x1), .val (.int x2), .val (.int x3), .val (.int H1), .val (.int H2), .val (.int H3), .val (.int (3 : Int32)), .val (.ref hs), .val (.int (1 : Int32)), .val (.int (2 : Int32)), .val (.int (3 : Int32)), .val (.ref ea), .val (.int (0 : Int32)), .unset, .unset, .unset, .unset]) rfl ?_
    refine XS.iload X11.here hx rfl (hb hby at_110) rfl ?_
    refine XS.iconst X11.here hx rfl (hb hby at_112) ?_
    refine XS.icmpNo X11.here hx rfl (hb hby at_113) rfl (flt (by decide : ¬ ((3 : Int32) < (1 : Int32)))).1 ?_
    show Steps p.tables e below (T11.setTop (mkF m 116 #[.val (.int x0), .val (.int x1), .val (.int x2), .val (.int x3), .val (.int H1), .val (.int H2), .val (.int H3), .val (.int (3 : Int32)), .val (.ref hs), .val (.int (1 : Int32)), .val (.int (2 : Int32)), .val (.int (3 : Int32)), .val (.ref ea), .val (.int (0 : Int32)), .unset, .unset, .unset, .unset] [])) _
    refine XS.aload X11.here hx rfl (hb hby at_116) rfl rfl ?_
    refine XS.iload X11.here hx rfl (hb hby at_118) rfl ?_
    refine XS.iload X11.here hx rfl (hb hby at_120) rfl ?_
    refine st13 _ ?_
    show Steps p.tables e below (T13.setTop (mkF m 123 #[.val (.int x0), .val (.int x1), .val (.int x2), .val (.int x3), .val (.int H1), .val (.int H2), .val (.int H3), .val (.int (3 : Int32)), .val (.ref hs), .val (.int (1 : Int32)), .val (.int (2 : Int32)), .val (.int (3 : Int32)), .val (.ref ea), .val (.int (0 : Int32)), .unset, .unset, .unset, .unset] [])) _
    refine XS.iload X13.here hx rfl (hb hby at_123) rfl ?_
    refine XS.iconst X13.here hx rfl (hb hby at_125) ?_
    refine XS.iadd X13.here hx rfl (hb hby at_126) rfl ?_
    show Steps p.tables e below (T13.setTop (mkF m 127 #[.val (.int x0), .val (.int x1), .val (.int x2), .val (.int x3), .val (.int H1), .val (.int H2), .val (.int H3), .val (.int (3 : Int32)), .val (.ref hs), .val (.int (1 : Int32)), .val (.int (2 : Int32)), .val (.int (3 : Int32)), .val (.ref ea), .val (.int (0 : Int32)), .unset, .unset, .unset, .unset] [(.int ((0 : Int32) + (1 : Int32)))])) _
    rw [show ((0 : Int32) + (1 : Int32)) = (1 : Int32) from by decide]
    show Steps p.tables e below (T13.setTop (mkF m 127 #[.val (.int x0), .val (.int x1), .val (.int x2), .val (.int x3), .val (.int H1), .val (.int H2), .val (.int H3), .val (.int (3 : Int32)), .val (.ref hs), .val (.int (1 : Int32)), .val (.int (2 : Int32)), .val (.int (3 : Int32)), .val (.ref ea), .val (.int (0 : Int32)), .unset, .unset, .unset, .unset] [(.int (1 : Int32))])) _
    refine XS.istore X13.here hx rfl (hb hby at_127) rfl (l' := #[.val (.int x0), .val (.int x1), .val (.int x2), .val (.int x3), .val (.int H1), .val (.int H2), .val (.int H3), .val (.int (3 : Int32)), .val (.ref hs), .val (.int (1 : Int32)), .val (.int (2 : Int32)), .val (.int (3 : Int32)), .val (.ref ea), .val (.int (1 : Int32)), .unset, .unset, .unset, .unset]) rfl ?_
    show Steps p.tables e below (T13.setTop (mkF m 129 #[.val (.int x0), .val (.int x1), .val (.int x2), .val (.int x3), .val (.int H1), .val (.int H2), .val (.int H3), .val (.int (3 : Int32)), .val (.ref hs), .val (.int (1 : Int32)), .val (.int (2 : Int32)), .val (.int (3 : Int32)), .val (.ref ea), .val (.int (1 : Int32)), .unset, .unset, .unset, .unset] [])) _
    refine XS.iload X13.here hx rfl (hb hby at_129) rfl ?_
    refine XS.iconst X13.here hx rfl (hb hby at_131) ?_
    refine XS.icmpNo X13.here hx rfl (hb hby at_132) rfl (flt (by decide : ¬ ((3 : Int32) < (2 : Int32)))).1 ?_
    refine XS.iload X13.here hx rfl (hb hby at_135) rfl ?_
    show Steps p.tables e below (T13.setTop (mkF m 137 #[.val (.int x0), .val (.int x1), .val (.int x2), .val (.int x3), .val (.int H1), .val (.int H2), .val (.int H3), .val (.int (3 : Int32)), .val (.ref hs), .val (.int (1 : Int32)), .val (.int (2 : Int32)), .val (.int (3 : Int32)), .val (.ref ea), .val (.int (1 : Int32)), .unset, .unset, .unset, .unset] [(.int H2)])) _
    refine XS.iload X13.here hx rfl (hb hby at_137) rfl ?_
    refine XS.icmpNo X13.here hx rfl (hb hby at_139) rfl (feq hq2).1 ?_
    refine XS.aload X13.here hx rfl (hb hby at_142) rfl rfl ?_
    refine XS.iload X13.here hx rfl (hb hby at_144) rfl ?_
    show Steps p.tables e below (T13.setTop (mkF m 146 #[.val (.int x0), .val (.int x1), .val (.int x2), .val (.int x3), .val (.int H1), .val (.int H2), .val (.int H3), .val (.int (3 : Int32)), .val (.ref hs), .val (.int (1 : Int32)), .val (.int (2 : Int32)), .val (.int (3 : Int32)), .val (.ref ea), .val (.int (1 : Int32)), .unset, .unset, .unset, .unset] [(.int (1 : Int32)), (.ref ea)])) _
    refine XS.iload X13.here hx rfl (hb hby at_146) rfl ?_
    refine st15 _ ?_
    show Steps p.tables e below (T15.setTop (mkF m 149 #[.val (.int x0), .val (.int x1), .val (.int x2), .val (.int x3), .val (.int H1), .val (.int H2), .val (.int H3), .val (.int (3 : Int32)), .val (.ref hs), .val (.int (1 : Int32)), .val (.int (2 : Int32)), .val (.int (3 : Int32)), .val (.ref ea), .val (.int (1 : Int32)), .unset, .unset, .unset, .unset] [])) _
    refine XS.iload X15.here hx rfl (hb hby at_149) rfl ?_
    refine XS.iconst X15.here hx rfl (hb hby at_151) ?_
    show Steps p.tables e below (T15.setTop (mkF m 152 #[.val (.int x0), .val (.int x1), .val (.int x2), .val (.int x3), .val (.int H1), .val (.int H2), .val (.int H3), .val (.int (3 : Int32)), .val (.ref hs), .val (.int (1 : Int32)), .val (.int (2 : Int32)), .val (.int (3 : Int32)), .val (.ref ea), .val (.int (1 : Int32)), .unset, .unset, .unset, .unset] [(.int (1 : Int32)), (.int (1 : Int32))])) _
    refine XS.iadd X15.here hx rfl (hb hby at_152) rfl ?_
    show Steps p.tables e below (T15.setTop (mkF m 153 #[.val (.int x0), .val (.int x1), .val (.int x2), .val (.int x3), .val (.int H1), .val (.int H2), .val (.int H3), .val (.int (3 : Int32)), .val (.ref hs), .val (.int (1 : Int32)), .val (.int (2 : Int32)), .val (.int (3 : Int32)), .val (.ref ea), .val (.int (1 : Int32)), .unset, .unset, .unset, .unset] [(.int ((1 : Int32) + (1 : Int32)))])) _
    rw [show ((1 : Int32) + (1 : Int32)) = (2 : Int32) from by decide]
    show Steps p.tables e below (T15.setTop (mkF m 153 #[.val (.int x0), .val (.int x1), .val (.int x2), .val (.int x3), .val (.int H1), .val (.int H2), .val (.int H3), .val (.int (3 : Int32)), .val (.ref hs), .val (.int (1 : Int32)), .val (.int (2 : Int32)), .val (.int (3 : Int32)), .val (.ref ea), .val (.int (1 : Int32)), .unset, .unset, .unset, .unset] [(.int (2 : Int32))])) _
    refine XS.istore X15.here hx rfl (hb hby at_153) rfl (l' := #[.val (.int x0), .val (.int x1), .val (.int x2), .val (.int x3), .val (.int H1), .val (.int H2), .val (.int H3), .val (.int (3 : Int32)), .val (.ref hs), .val (.int (1 : Int32)), .val (.int (2 : Int32)), .val (.int (3 : Int32)), .val (.ref ea), .val (.int (2 : Int32)), .unset, .unset, .unset, .unset]) rfl ?_
    refine XS.iload X15.here hx rfl (hb hby at_155) rfl ?_
    refine XS.iconst X15.here hx rfl (hb hby at_157) ?_
    show Steps p.tables e below (T15.setTop (mkF m 158 #[.val (.int x0), .val (.int x1), .val (.int x2), .val (.int x3), .val (.int H1), .val (.int H2), .val (.int H3), .val (.int (3 : Int32)), .val (.ref hs), .val (.int (1 : Int32)), .val (.int (2 : Int32)), .val (.int (3 : Int32)), .val (.ref ea), .val (.int (2 : Int32)), .unset, .unset, .unset, .unset] [(.int (3 : Int32)), (.int (3 : Int32))])) _
    refine XS.icmpNo X15.here hx rfl (hb hby at_158) rfl (flt (by decide : ¬ ((3 : Int32) < (3 : Int32)))).1 ?_
    refine XS.iload X15.here hx rfl (hb hby at_161) rfl ?_
    refine XS.iload X15.here hx rfl (hb hby at_163) rfl ?_
    refine XS.icmpNo X15.here hx rfl (hb hby at_165) rfl (feq hq3).1 ?_
    show Steps p.tables e below (T15.setTop (mkF m 168 #[.val (.int x0), .val (.int x1), .val (.int x2), .val (.int x3), .val (.int H1), .val (.int H2), .val (.int H3), .val (.int (3 : Int32)), .val (.ref hs), .val (.int (1 : Int32)), .val (.int (2 : Int32)), .val (.int (3 : Int32)), .val (.ref ea), .val (.int (2 : Int32)), .unset, .unset, .unset, .unset] [])) _
    refine XS.aload X15.here hx rfl (hb hby at_168) rfl rfl ?_
    refine XS.iload X15.here hx rfl (hb hby at_170) rfl ?_
    refine XS.iload X15.here hx rfl (hb hby at_172) rfl ?_
    refine st17 _ ?_
    show Steps p.tables e below (T17.setTop (mkF m 175 #[.val (.int x0), .val (.int x1), .val (.int x2), .val (.int x3), .val (.int H1), .val (.int H2), .val (.int H3), .val (.int (3 : Int32)), .val (.ref hs), .val (.int (1 : Int32)), .val (.int (2 : Int32)), .val (.int (3 : Int32)), .val (.ref ea), .val (.int (2 : Int32)), .unset, .unset, .unset, .unset] [])) _
    refine XS.iload X17.here hx rfl (hb hby at_175) rfl ?_
    refine XS.iconst X17.here hx rfl (hb hby at_177) ?_
    refine XS.iadd X17.here hx rfl (hb hby at_178) rfl ?_
    show Steps p.tables e below (T17.setTop (mkF m 179 #[.val (.int x0), .val (.int x1), .val (.int x2), .val (.int x3), .val (.int H1), .val (.int H2), .val (.int H3), .val (.int (3 : Int32)), .val (.ref hs), .val (.int (1 : Int32)), .val (.int (2 : Int32)), .val (.int (3 : Int32)), .val (.ref ea), .val (.int (2 : Int32)), .unset, .unset, .unset, .unset] [(.int ((2 : Int32) + (1 : Int32)))])) _
    rw [show ((2 : Int32) + (1 : Int32)) = (3 : Int32) from by decide]
    show Steps p.tables e below (T17.setTop (mkF m 179 #[.val (.int x0), .val (.int x1), .val (.int x2), .val (.int x3), .val (.int H1), .val (.int H2), .val (.int H3), .val (.int (3 : Int32)), .val (.ref hs), .val (.int (1 : Int32)), .val (.int (2 : Int32)), .val (.int (3 : Int32)), .val (.ref ea), .val (.int (2 : Int32)), .unset, .unset, .unset, .unset] [(.int (3 : Int32))])) _
    refine XS.istore X17.here hx rfl (hb hby at_179) rfl (l' := #[.val (.int x0), .val (.int x1), .val (.int x2), .val (.int x3), .val (.int H1), .val (.int H2), .val (.int H3), .val (.int (3 : Int32)), .val (.ref hs), .val (.int (1 : Int32)), .val (.int (2 : Int32)), .val (.int (3 : Int32)), .val (.ref ea), .val (.int (3 : Int32)), .unset, .unset, .unset, .unset]) rfl ?_
    show Steps p.tables e below (T17.setTop (mkF m 181 #[.val (.int x0), .val (.int x1), .val (.int x2), .val (.int x3), .val (.int H1), .val (.int H2), .val (.int H3), .val (.int (3 : Int32)), .val (.ref hs), .val (.int (1 : Int32)), .val (.int (2 : Int32)), .val (.int (3 : Int32)), .val (.ref ea), .val (.int (3 : Int32)), .unset, .unset, .unset, .unset] [])) _
    refine XS.aload X17.here hx rfl (hb hby at_181) rfl rfl ?_
    refine XS.iload X17.here hx rfl (hb hby at_183) rfl ?_
    refine st19.trans ?_
    show Steps p.tables e below (T19.setTop (mkF m 188 #[.val (.int x0), .val (.int x1), .val (.int x2), .val (.int x3), .val (.int H1), .val (.int H2), .val (.int H3), .val (.int (3 : Int32)), .val (.ref hs), .val (.int (1 : Int32)), .val (.int (2 : Int32)), .val (.int (3 : Int32)), .val (.ref ea), .val (.int (3 : Int32)), .unset, .unset, .unset, .unset] [(.ref g1)])) _
    refine XS.astore X19.here hx rfl (hb hby at_188) rfl rfl (l' := #[.val (.int x0), .val (.int x1), .val (.int x2), .val (.int x3), .val (.int H1), .val (.int H2), .val (.int H3), .val (.int (3 : Int32)), .val (.ref hs), .val (.int (1 : Int32)), .val (.int (2 : Int32)), .val (.int (3 : Int32)), .val (.ref ea), .val (.int (3 : Int32)), .val (.ref g1), .unset, .unset, .unset]) rfl ?_
    show Steps p.tables e below (T19.setTop (mkF m 190 #[.val (.int x0), .val (.int x1), .val (.int x2), .val (.int x3), .val (.int H1), .val (.int H2), .val (.int H3), .val (.int (3 : Int32)), .val (.ref hs), .val (.int (1 : Int32)), .val (.int (2 : Int32)), .val (.int (3 : Int32)), .val (.ref ea), .val (.int (3 : Int32)), .val (.ref g1), .unset, .unset, .unset] [])) _
    refine XS.aload X19.here hx rfl (hb hby at_190) rfl rfl ?_
    refine own_len X19 hx hZ rfl Vr19 (g := (mkF m 192 #[.val (.int x0), .val (.int x1), .val (.int x2), .val (.int x3), .val (.int H1), .val (.int H2), .val (.int H3), .val (.int (3 : Int32)), .val (.ref hs), .val (.int (1 : Int32)), .val (.int (2 : Int32)), .val (.int (3 : Int32)), .val (.ref ea), .val (.int (3 : Int32)), .val (.ref g1), .unset, .unset, .unset] [(.ref g1)])) rfl rfl (hb hby at_192) ?_
    refine XS.iload X19.here hx rfl (hb hby at_193) rfl ?_
    refine XS.icmpNo X19.here hx rfl (hb hby at_195) rfl (teq (by decide : (3 : Int32) = (3 : Int32))).2 ?_
    show Steps p.tables e below (T19.setTop (mkF m 198 #[.val (.int x0), .val (.int x1), .val (.int x2), .val (.int x3), .val (.int H1), .val (.int H2), .val (.int H3), .val (.int (3 : Int32)), .val (.ref hs), .val (.int (1 : Int32)), .val (.int (2 : Int32)), .val (.int (3 : Int32)), .val (.ref ea), .val (.int (3 : Int32)), .val (.ref g1), .unset, .unset, .unset] [])) _
    refine XS.iconst X19.here hx rfl (hb hby at_198) ?_
    refine XS.goto X19.here hx rfl (pc0 := 199) (pc' := 203) rfl (hb hby at_199) (by decide) (by decide) ?_
    refine XS.istore X19.here hx rfl (hb hby at_203) rfl (l' := #[.val (.int x0), .val (.int x1), .val (.int x2), .val (.int x3), .val (.int H1), .val (.int H2), .val (.int H3), .val (.int (3 : Int32)), .val (.ref hs), .val (.int (1 : Int32)), .val (.int (2 : Int32)), .val (.int (3 : Int32)), .val (.ref ea), .val (.int (3 : Int32)), .val (.ref g1), .val (.int (1 : Int32)), .unset, .unset]) rfl ?_
    refine XS.iload X19.here hx rfl (hb hby at_205) rfl ?_
    show Steps p.tables e below (T19.setTop (mkF m 207 #[.val (.int x0), .val (.int x1), .val (.int x2), .val (.int x3), .val (.int H1), .val (.int H2), .val (.int H3), .val (.int (3 : Int32)), .val (.ref hs), .val (.int (1 : Int32)), .val (.int (2 : Int32)), .val (.int (3 : Int32)), .val (.ref ea), .val (.int (3 : Int32)), .val (.ref g1), .val (.int (1 : Int32)), .unset, .unset] [(.int (1 : Int32))])) _
    refine XS.ifNo X19.here hx rfl (hb hby at_207) rfl ((if0 _ _).trans (feq (by decide : ¬ ((1 : Int32) = (0 : Int32)))).1) ?_
    refine XS.iload X19.here hx rfl (hb hby at_210) rfl ?_
    refine XS.iconst X19.here hx rfl (hb hby at_212) ?_
    refine XS.icmpNo X19.here hx rfl (hb hby at_213) rfl (flt (by decide : ¬ ((3 : Int32) < (1 : Int32)))).1 ?_
    show Steps p.tables e below (T19.setTop (mkF m 216 #[.val (.int x0), .val (.int x1), .val (.int x2), .val (.int x3), .val (.int H1), .val (.int H2), .val (.int H3), .val (.int (3 : Int32)), .val (.ref hs), .val (.int (1 : Int32)), .val (.int (2 : Int32)), .val (.int (3 : Int32)), .val (.ref ea), .val (.int (3 : Int32)), .val (.ref g1), .val (.int (1 : Int32)), .unset, .unset] [])) _
    refine XS.aload X19.here hx rfl (hb hby at_216) rfl rfl ?_
    refine XS.iconst X19.here hx rfl (hb hby at_218) ?_
    refine own_ldI X19 hx hZ rfl Vr19 (j := (0 : Int32)) (w := H1) ⟨by decide, by decide⟩ rfl (g := (mkF m 219 #[.val (.int x0), .val (.int x1), .val (.int x2), .val (.int x3), .val (.int H1), .val (.int H2), .val (.int H3), .val (.int (3 : Int32)), .val (.ref hs), .val (.int (1 : Int32)), .val (.int (2 : Int32)), .val (.int (3 : Int32)), .val (.ref ea), .val (.int (3 : Int32)), .val (.ref g1), .val (.int (1 : Int32)), .unset, .unset] [(.int (0 : Int32)), (.ref g1)])) rfl rfl (hb hby at_219) ?_
    refine XS.aload X19.here hx rfl (hb hby at_220) rfl rfl ?_
    show Steps p.tables e below (T19.setTop (mkF m 222 #[.val (.int x0), .val (.int x1), .val (.int x2), .val (.int x3), .val (.int H1), .val (.int H2), .val (.int H3), .val (.int (3 : Int32)), .val (.ref hs), .val (.int (1 : Int32)), .val (.int (2 : Int32)), .val (.int (3 : Int32)), .val (.ref ea), .val (.int (3 : Int32)), .val (.ref g1), .val (.int (1 : Int32)), .unset, .unset] [(.ref ea), (.int H1)])) _
    refine XS.iconst X19.here hx rfl (hb hby at_222) ?_
    refine own_ldI X19 hx hZ rfl V_ea_20 (j := (0 : Int32)) (w := H1) ⟨by decide, by decide⟩ rfl (g := (mkF m 223 #[.val (.int x0), .val (.int x1), .val (.int x2), .val (.int x3), .val (.int H1), .val (.int H2), .val (.int H3), .val (.int (3 : Int32)), .val (.ref hs), .val (.int (1 : Int32)), .val (.int (2 : Int32)), .val (.int (3 : Int32)), .val (.ref ea), .val (.int (3 : Int32)), .val (.ref g1), .val (.int (1 : Int32)), .unset, .unset] [(.int (0 : Int32)), (.ref ea), (.int H1)])) rfl rfl (hb hby at_223) ?_
    refine XS.icmpNo X19.here hx rfl (hb hby at_224) rfl (teq (rfl : H1 = H1)).2 ?_
    refine XS.iconst X19.here hx rfl (hb hby at_227) ?_
    show Steps p.tables e below (T19.setTop (mkF m 228 #[.val (.int x0), .val (.int x1), .val (.int x2), .val (.int x3), .val (.int H1), .val (.int H2), .val (.int H3), .val (.int (3 : Int32)), .val (.ref hs), .val (.int (1 : Int32)), .val (.int (2 : Int32)), .val (.int (3 : Int32)), .val (.ref ea), .val (.int (3 : Int32)), .val (.ref g1), .val (.int (1 : Int32)), .unset, .unset] [(.int (1 : Int32))])) _
    refine XS.goto X19.here hx rfl (pc0 := 228) (pc' := 232) rfl (hb hby at_228) (by decide) (by decide) ?_
    refine XS.istore X19.here hx rfl (hb hby at_232) rfl (l' := #[.val (.int x0), .val (.int x1), .val (.int x2), .val (.int x3), .val (.int H1), .val (.int H2), .val (.int H3), .val (.int (3 : Int32)), .val (.ref hs), .val (.int (1 : Int32)), .val (.int (2 : Int32)), .val (.int (3 : Int32)), .val (.ref ea), .val (.int (3 : Int32)), .val (.ref g1), .val (.int (1 : Int32)), .unset, .unset]) rfl ?_
    refine XS.iload X19.here hx rfl (hb hby at_234) rfl ?_
    refine XS.ifNo X19.here hx rfl (hb hby at_236) rfl ((if0 _ _).trans (feq (by decide : ¬ ((1 : Int32) = (0 : Int32)))).1) ?_
    show Steps p.tables e below (T19.setTop (mkF m 239 #[.val (.int x0), .val (.int x1), .val (.int x2), .val (.int x3), .val (.int H1), .val (.int H2), .val (.int H3), .val (.int (3 : Int32)), .val (.ref hs), .val (.int (1 : Int32)), .val (.int (2 : Int32)), .val (.int (3 : Int32)), .val (.ref ea), .val (.int (3 : Int32)), .val (.ref g1), .val (.int (1 : Int32)), .unset, .unset] [])) _
    refine XS.iload X19.here hx rfl (hb hby at_239) rfl ?_
    refine XS.iconst X19.here hx rfl (hb hby at_241) ?_
    refine XS.icmpNo X19.here hx rfl (hb hby at_242) rfl (flt (by decide : ¬ ((3 : Int32) < (2 : Int32)))).1 ?_
    refine XS.aload X19.here hx rfl (hb hby at_245) rfl rfl ?_
    show Steps p.tables e below (T19.setTop (mkF m 247 #[.val (.int x0), .val (.int x1), .val (.int x2), .val (.int x3), .val (.int H1), .val (.int H2), .val (.int H3), .val (.int (3 : Int32)), .val (.ref hs), .val (.int (1 : Int32)), .val (.int (2 : Int32)), .val (.int (3 : Int32)), .val (.ref ea), .val (.int (3 : Int32)), .val (.ref g1), .val (.int (1 : Int32)), .unset, .unset] [(.ref g1)])) _
    refine XS.iconst X19.here hx rfl (hb hby at_247) ?_
    refine own_ldI X19 hx hZ rfl Vr19 (j := (1 : Int32)) (w := H2) ⟨by decide, by decide⟩ rfl (g := (mkF m 248 #[.val (.int x0), .val (.int x1), .val (.int x2), .val (.int x3), .val (.int H1), .val (.int H2), .val (.int H3), .val (.int (3 : Int32)), .val (.ref hs), .val (.int (1 : Int32)), .val (.int (2 : Int32)), .val (.int (3 : Int32)), .val (.ref ea), .val (.int (3 : Int32)), .val (.ref g1), .val (.int (1 : Int32)), .unset, .unset] [(.int (1 : Int32)), (.ref g1)])) rfl rfl (hb hby at_248) ?_
    refine XS.aload X19.here hx rfl (hb hby at_249) rfl rfl ?_
    refine XS.iconst X19.here hx rfl (hb hby at_251) ?_
    show Steps p.tables e below (T19.setTop (mkF m 252 #[.val (.int x0), .val (.int x1), .val (.int x2), .val (.int x3), .val (.int H1), .val (.int H2), .val (.int H3), .val (.int (3 : Int32)), .val (.ref hs), .val (.int (1 : Int32)), .val (.int (2 : Int32)), .val (.int (3 : Int32)), .val (.ref ea), .val (.int (3 : Int32)), .val (.ref g1), .val (.int (1 : Int32)), .unset, .unset] [(.int (1 : Int32)), (.ref ea), (.int H2)])) _
    refine own_ldI X19 hx hZ rfl V_ea_20 (j := (1 : Int32)) (w := H2) ⟨by decide, by decide⟩ rfl (g := (mkF m 252 #[.val (.int x0), .val (.int x1), .val (.int x2), .val (.int x3), .val (.int H1), .val (.int H2), .val (.int H3), .val (.int (3 : Int32)), .val (.ref hs), .val (.int (1 : Int32)), .val (.int (2 : Int32)), .val (.int (3 : Int32)), .val (.ref ea), .val (.int (3 : Int32)), .val (.ref g1), .val (.int (1 : Int32)), .unset, .unset] [(.int (1 : Int32)), (.ref ea), (.int H2)])) rfl rfl (hb hby at_252) ?_
    refine XS.icmpNo X19.here hx rfl (hb hby at_253) rfl (teq (rfl : H2 = H2)).2 ?_
    refine XS.iconst X19.here hx rfl (hb hby at_256) ?_
    refine XS.goto X19.here hx rfl (pc0 := 257) (pc' := 261) rfl (hb hby at_257) (by decide) (by decide) ?_
    show Steps p.tables e below (T19.setTop (mkF m 261 #[.val (.int x0), .val (.int x1), .val (.int x2), .val (.int x3), .val (.int H1), .val (.int H2), .val (.int H3), .val (.int (3 : Int32)), .val (.ref hs), .val (.int (1 : Int32)), .val (.int (2 : Int32)), .val (.int (3 : Int32)), .val (.ref ea), .val (.int (3 : Int32)), .val (.ref g1), .val (.int (1 : Int32)), .unset, .unset] [(.int (1 : Int32))])) _
    refine XS.istore X19.here hx rfl (hb hby at_261) rfl (l' := #[.val (.int x0), .val (.int x1), .val (.int x2), .val (.int x3), .val (.int H1), .val (.int H2), .val (.int H3), .val (.int (3 : Int32)), .val (.ref hs), .val (.int (1 : Int32)), .val (.int (2 : Int32)), .val (.int (3 : Int32)), .val (.ref ea), .val (.int (3 : Int32)), .val (.ref g1), .val (.int (1 : Int32)), .unset, .unset]) rfl ?_
    refine XS.iload X19.here hx rfl (hb hby at_263) rfl ?_
    refine XS.ifNo X19.here hx rfl (hb hby at_265) rfl ((if0 _ _).trans (feq (by decide : ¬ ((1 : Int32) = (0 : Int32)))).1) ?_
    refine XS.iload X19.here hx rfl (hb hby at_268) rfl ?_
    show Steps p.tables e below (T19.setTop (mkF m 270 #[.val (.int x0), .val (.int x1), .val (.int x2), .val (.int x3), .val (.int H1), .val (.int H2), .val (.int H3), .val (.int (3 : Int32)), .val (.ref hs), .val (.int (1 : Int32)), .val (.int (2 : Int32)), .val (.int (3 : Int32)), .val (.ref ea), .val (.int (3 : Int32)), .val (.ref g1), .val (.int (1 : Int32)), .unset, .unset] [(.int (3 : Int32))])) _
    refine XS.iconst X19.here hx rfl (hb hby at_270) ?_
    refine XS.icmpNo X19.here hx rfl (hb hby at_271) rfl (flt (by decide : ¬ ((3 : Int32) < (3 : Int32)))).1 ?_
    refine XS.aload X19.here hx rfl (hb hby at_274) rfl rfl ?_
    refine XS.iconst X19.here hx rfl (hb hby at_276) ?_
    show Steps p.tables e below (T19.setTop (mkF m 277 #[.val (.int x0), .val (.int x1), .val (.int x2), .val (.int x3), .val (.int H1), .val (.int H2), .val (.int H3), .val (.int (3 : Int32)), .val (.ref hs), .val (.int (1 : Int32)), .val (.int (2 : Int32)), .val (.int (3 : Int32)), .val (.ref ea), .val (.int (3 : Int32)), .val (.ref g1), .val (.int (1 : Int32)), .unset, .unset] [(.int (2 : Int32)), (.ref g1)])) _
    refine own_ldI X19 hx hZ rfl Vr19 (j := (2 : Int32)) (w := H3) ⟨by decide, by decide⟩ rfl (g := (mkF m 277 #[.val (.int x0), .val (.int x1), .val (.int x2), .val (.int x3), .val (.int H1), .val (.int H2), .val (.int H3), .val (.int (3 : Int32)), .val (.ref hs), .val (.int (1 : Int32)), .val (.int (2 : Int32)), .val (.int (3 : Int32)), .val (.ref ea), .val (.int (3 : Int32)), .val (.ref g1), .val (.int (1 : Int32)), .unset, .unset] [(.int (2 : Int32)), (.ref g1)])) rfl rfl (hb hby at_277) ?_
    refine XS.aload X19.here hx rfl (hb hby at_278) rfl rfl ?_
    refine XS.iconst X19.here hx rfl (hb hby at_280) ?_
    refine own_ldI X19 hx hZ rfl V_ea_20 (j := (2 : Int32)) (w := H3) ⟨by decide, by decide⟩ rfl (g := (mkF m 281 #[.val (.int x0), .val (.int x1), .val (.int x2), .val (.int x3), .val (.int H1), .val (.int H2), .val (.int H3), .val (.int (3 : Int32)), .val (.ref hs), .val (.int (1 : Int32)), .val (.int (2 : Int32)), .val (.int (3 : Int32)), .val (.ref ea), .val (.int (3 : Int32)), .val (.ref g1), .val (.int (1 : Int32)), .unset, .unset] [(.int (2 : Int32)), (.ref ea), (.int H3)])) rfl rfl (hb hby at_281) ?_
    show Steps p.tables e below (T19.setTop (mkF m 282 #[.val (.int x0), .val (.int x1), .val (.int x2), .val (.int x3), .val (.int H1), .val (.int H2), .val (.int H3), .val (.int (3 : Int32)), .val (.ref hs), .val (.int (1 : Int32)), .val (.int (2 : Int32)), .val (.int (3 : Int32)), .val (.ref ea), .val (.int (3 : Int32)), .val (.ref g1), .val (.int (1 : Int32)), .unset, .unset] [(.int H3), (.int H3)])) _
    refine XS.icmpNo X19.here hx rfl (hb hby at_282) rfl (teq (rfl : H3 = H3)).2 ?_
    refine XS.iconst X19.here hx rfl (hb hby at_285) ?_
    refine XS.goto X19.here hx rfl (pc0 := 286) (pc' := 290) rfl (hb hby at_286) (by decide) (by decide) ?_
    refine XS.istore X19.here hx rfl (hb hby at_290) rfl (l' := #[.val (.int x0), .val (.int x1), .val (.int x2), .val (.int x3), .val (.int H1), .val (.int H2), .val (.int H3), .val (.int (3 : Int32)), .val (.ref hs), .val (.int (1 : Int32)), .val (.int (2 : Int32)), .val (.int (3 : Int32)), .val (.ref ea), .val (.int (3 : Int32)), .val (.ref g1), .val (.int (1 : Int32)), .unset, .unset]) rfl ?_
    show Steps p.tables e below (T19.setTop (mkF m 292 #[.val (.int x0), .val (.int x1), .val (.int x2), .val (.int x3), .val (.int H1), .val (.int H2), .val (.int H3), .val (.int (3 : Int32)), .val (.ref hs), .val (.int (1 : Int32)), .val (.int (2 : Int32)), .val (.int (3 : Int32)), .val (.ref ea), .val (.int (3 : Int32)), .val (.ref g1), .val (.int (1 : Int32)), .unset, .unset] [])) _
    refine XS.aload X19.here hx rfl (hb hby at_292) rfl rfl ?_
    refine XS.iload X19.here hx rfl (hb hby at_294) rfl ?_
    refine st21.trans ?_
    show Steps p.tables e below (T21.setTop (mkF m 299 #[.val (.int x0), .val (.int x1), .val (.int x2), .val (.int x3), .val (.int H1), .val (.int H2), .val (.int H3), .val (.int (3 : Int32)), .val (.ref hs), .val (.int (1 : Int32)), .val (.int (2 : Int32)), .val (.int (3 : Int32)), .val (.ref ea), .val (.int (3 : Int32)), .val (.ref g1), .val (.int (1 : Int32)), .unset, .unset] [(.ref g2)])) _
    refine XS.astore X21.here hx rfl (hb hby at_299) rfl rfl (l' := #[.val (.int x0), .val (.int x1), .val (.int x2), .val (.int x3), .val (.int H1), .val (.int H2), .val (.int H3), .val (.int (3 : Int32)), .val (.ref hs), .val (.int (1 : Int32)), .val (.int (2 : Int32)), .val (.int (3 : Int32)), .val (.ref ea), .val (.int (3 : Int32)), .val (.ref g1), .val (.int (1 : Int32)), .val (.ref g2), .unset]) rfl ?_
    show Steps p.tables e below (T21.setTop (mkF m 301 #[.val (.int x0), .val (.int x1), .val (.int x2), .val (.int x3), .val (.int H1), .val (.int H2), .val (.int H3), .val (.int (3 : Int32)), .val (.ref hs), .val (.int (1 : Int32)), .val (.int (2 : Int32)), .val (.int (3 : Int32)), .val (.ref ea), .val (.int (3 : Int32)), .val (.ref g1), .val (.int (1 : Int32)), .val (.ref g2), .unset] [])) _
    refine XS.iload X21.here hx rfl (hb hby at_301) rfl ?_
    refine XS.iconst X21.here hx rfl (hb hby at_303) ?_
    refine XS.icmpNo X21.here hx rfl (hb hby at_304) rfl (flt (by decide : ¬ ((3 : Int32) < (1 : Int32)))).1 ?_
    refine XS.iload X21.here hx rfl (hb hby at_307) rfl ?_
    show Steps p.tables e below (T21.setTop (mkF m 309 #[.val (.int x0), .val (.int x1), .val (.int x2), .val (.int x3), .val (.int H1), .val (.int H2), .val (.int H3), .val (.int (3 : Int32)), .val (.ref hs), .val (.int (1 : Int32)), .val (.int (2 : Int32)), .val (.int (3 : Int32)), .val (.ref ea), .val (.int (3 : Int32)), .val (.ref g1), .val (.int (1 : Int32)), .val (.ref g2), .unset] [(.int (1 : Int32))])) _
    refine XS.ifNo X21.here hx rfl (hb hby at_309) rfl ((if0 _ _).trans (feq (by decide : ¬ ((1 : Int32) = (0 : Int32)))).1) ?_
    refine XS.aload X21.here hx rfl (hb hby at_312) rfl rfl ?_
    refine own_len X21 hx hZ rfl Vr21 (g := (mkF m 314 #[.val (.int x0), .val (.int x1), .val (.int x2), .val (.int x3), .val (.int H1), .val (.int H2), .val (.int H3), .val (.int (3 : Int32)), .val (.ref hs), .val (.int (1 : Int32)), .val (.int (2 : Int32)), .val (.int (3 : Int32)), .val (.ref ea), .val (.int (3 : Int32)), .val (.ref g1), .val (.int (1 : Int32)), .val (.ref g2), .unset] [(.ref g2)])) rfl rfl (hb hby at_314) ?_
    refine XS.iconst X21.here hx rfl (hb hby at_315) ?_
    show Steps p.tables e below (T21.setTop (mkF m 316 #[.val (.int x0), .val (.int x1), .val (.int x2), .val (.int x3), .val (.int H1), .val (.int H2), .val (.int H3), .val (.int (3 : Int32)), .val (.ref hs), .val (.int (1 : Int32)), .val (.int (2 : Int32)), .val (.int (3 : Int32)), .val (.ref ea), .val (.int (3 : Int32)), .val (.ref g1), .val (.int (1 : Int32)), .val (.ref g2), .unset] [(.int (1 : Int32)), (.int (1 : Int32))])) _
    refine XS.icmpNo X21.here hx rfl (hb hby at_316) rfl (teq (by decide : (1 : Int32) = (1 : Int32))).2 ?_
    refine XS.aload X21.here hx rfl (hb hby at_319) rfl rfl ?_
    refine XS.iconst X21.here hx rfl (hb hby at_321) ?_
    refine own_ldI X21 hx hZ rfl Vr21 (j := (0 : Int32)) (w := H1) ⟨by decide, by decide⟩ rfl (g := (mkF m 322 #[.val (.int x0), .val (.int x1), .val (.int x2), .val (.int x3), .val (.int H1), .val (.int H2), .val (.int H3), .val (.int (3 : Int32)), .val (.ref hs), .val (.int (1 : Int32)), .val (.int (2 : Int32)), .val (.int (3 : Int32)), .val (.ref ea), .val (.int (3 : Int32)), .val (.ref g1), .val (.int (1 : Int32)), .val (.ref g2), .unset] [(.int (0 : Int32)), (.ref g2)])) rfl rfl (hb hby at_322) ?_
    show Steps p.tables e below (T21.setTop (mkF m 323 #[.val (.int x0), .val (.int x1), .val (.int x2), .val (.int x3), .val (.int H1), .val (.int H2), .val (.int H3), .val (.int (3 : Int32)), .val (.ref hs), .val (.int (1 : Int32)), .val (.int (2 : Int32)), .val (.int (3 : Int32)), .val (.ref ea), .val (.int (3 : Int32)), .val (.ref g1), .val (.int (1 : Int32)), .val (.ref g2), .unset] [(.int H1)])) _
    refine XS.iload X21.here hx rfl (hb hby at_323) rfl ?_
    refine XS.icmpNo X21.here hx rfl (hb hby at_325) rfl (teq (rfl : H1 = H1)).2 ?_
    refine XS.iconst X21.here hx rfl (hb hby at_328) ?_
    refine XS.goto X21.here hx rfl (pc0 := 329) (pc' := 333) rfl (hb hby at_329) (by decide) (by decide) ?_
    show Steps p.tables e below (T21.setTop (mkF m 333 #[.val (.int x0), .val (.int x1), .val (.int x2), .val (.int x3), .val (.int H1), .val (.int H2), .val (.int H3), .val (.int (3 : Int32)), .val (.ref hs), .val (.int (1 : Int32)), .val (.int (2 : Int32)), .val (.int (3 : Int32)), .val (.ref ea), .val (.int (3 : Int32)), .val (.ref g1), .val (.int (1 : Int32)), .val (.ref g2), .unset] [(.int (1 : Int32))])) _
    refine XS.istore X21.here hx rfl (hb hby at_333) rfl (l' := #[.val (.int x0), .val (.int x1), .val (.int x2), .val (.int x3), .val (.int H1), .val (.int H2), .val (.int H3), .val (.int (3 : Int32)), .val (.ref hs), .val (.int (1 : Int32)), .val (.int (2 : Int32)), .val (.int (3 : Int32)), .val (.ref ea), .val (.int (3 : Int32)), .val (.ref g1), .val (.int (1 : Int32)), .val (.ref g2), .unset]) rfl ?_
    refine XS.goto X21.here hx rfl (pc0 := 335) (pc' := 356) rfl (hb hby at_335) (by decide) (by decide) ?_
    refine XS.aload X21.here hx rfl (hb hby at_356) rfl rfl ?_
    refine XS.iconst X21.here hx rfl (hb hby at_358) ?_
    show Steps p.tables e below (T21.setTop (mkF m 359 #[.val (.int x0), .val (.int x1), .val (.int x2), .val (.int x3), .val (.int H1), .val (.int H2), .val (.int H3), .val (.int (3 : Int32)), .val (.ref hs), .val (.int (1 : Int32)), .val (.int (2 : Int32)), .val (.int (3 : Int32)), .val (.ref ea), .val (.int (3 : Int32)), .val (.ref g1), .val (.int (1 : Int32)), .val (.ref g2), .unset] [(.int (0 : Int32)), (.ref hs)])) _
    refine st23.trans ?_
    show Steps p.tables e below (T23.setTop (mkF m 362 #[.val (.int x0), .val (.int x1), .val (.int x2), .val (.int x3), .val (.int H1), .val (.int H2), .val (.int H3), .val (.int (3 : Int32)), .val (.ref hs), .val (.int (1 : Int32)), .val (.int (2 : Int32)), .val (.int (3 : Int32)), .val (.ref ea), .val (.int (3 : Int32)), .val (.ref g1), .val (.int (1 : Int32)), .val (.ref g2), .unset] [(.ref g3)])) _
    refine XS.astore X23.here hx rfl (hb hby at_362) rfl rfl (l' := #[.val (.int x0), .val (.int x1), .val (.int x2), .val (.int x3), .val (.int H1), .val (.int H2), .val (.int H3), .val (.int (3 : Int32)), .val (.ref hs), .val (.int (1 : Int32)), .val (.int (2 : Int32)), .val (.int (3 : Int32)), .val (.ref ea), .val (.int (3 : Int32)), .val (.ref g1), .val (.int (1 : Int32)), .val (.ref g2), .val (.ref g3)]) rfl ?_
    refine XS.iload X23.here hx rfl (hb hby at_364) rfl ?_
    refine XS.ifNo X23.here hx rfl (hb hby at_366) rfl ((if0 _ _).trans (feq (by decide : ¬ ((1 : Int32) = (0 : Int32)))).1) ?_
    show Steps p.tables e below (T23.setTop (mkF m 369 #[.val (.int x0), .val (.int x1), .val (.int x2), .val (.int x3), .val (.int H1), .val (.int H2), .val (.int H3), .val (.int (3 : Int32)), .val (.ref hs), .val (.int (1 : Int32)), .val (.int (2 : Int32)), .val (.int (3 : Int32)), .val (.ref ea), .val (.int (3 : Int32)), .val (.ref g1), .val (.int (1 : Int32)), .val (.ref g2), .val (.ref g3)] [])) _
    refine XS.aload X23.here hx rfl (hb hby at_369) rfl rfl ?_
    refine own_len X23 hx hZ rfl Vr23 (g := (mkF m 371 #[.val (.int x0), .val (.int x1), .val (.int x2), .val (.int x3), .val (.int H1), .val (.int H2), .val (.int H3), .val (.int (3 : Int32)), .val (.ref hs), .val (.int (1 : Int32)), .val (.int (2 : Int32)), .val (.int (3 : Int32)), .val (.ref ea), .val (.int (3 : Int32)), .val (.ref g1), .val (.int (1 : Int32)), .val (.ref g2), .val (.ref g3)] [(.ref g3)])) rfl rfl (hb hby at_371) ?_
    refine XS.ifNo X23.here hx rfl (hb hby at_372) rfl ((if0 _ _).trans (teq (by decide : (0 : Int32) = (0 : Int32))).2) ?_
    refine XS.iconst X23.here hx rfl (hb hby at_375) ?_
    show Steps p.tables e below (T23.setTop (mkF m 376 #[.val (.int x0), .val (.int x1), .val (.int x2), .val (.int x3), .val (.int H1), .val (.int H2), .val (.int H3), .val (.int (3 : Int32)), .val (.ref hs), .val (.int (1 : Int32)), .val (.int (2 : Int32)), .val (.int (3 : Int32)), .val (.ref ea), .val (.int (3 : Int32)), .val (.ref g1), .val (.int (1 : Int32)), .val (.ref g2), .val (.ref g3)] [(.int (1 : Int32))])) _
    refine XS.goto X23.here hx rfl (pc0 := 376) (pc' := 380) rfl (hb hby at_376) (by decide) (by decide) ?_
    refine XS.istore X23.here hx rfl (hb hby at_380) rfl (l' := #[.val (.int x0), .val (.int x1), .val (.int x2), .val (.int x3), .val (.int H1), .val (.int H2), .val (.int H3), .val (.int (3 : Int32)), .val (.ref hs), .val (.int (1 : Int32)), .val (.int (2 : Int32)), .val (.int (3 : Int32)), .val (.ref ea), .val (.int (3 : Int32)), .val (.ref g1), .val (.int (1 : Int32)), .val (.ref g2), .val (.ref g3)]) rfl ?_
    refine XS.iload X23.here hx rfl (hb hby at_382) rfl ?_
    exact retN X23 hx (t := .boolean) Bd.returns (by simp) (hb hby at_384) hr
  · exact ⟨rfl, N23⟩
theorem rm0 (l : Launch) (Z : State) (a0 : Array Value) (hw : ∀ d ∈ tables_1, d.before a0 Z = true) (ws : List Jvm.Cond) (x0 : Int32) (x1 : Int32) (x2 : Int32) (x3 : Int32) (h0 : Heap) (n0 : Nat) (Z0 : n0 ≤ h0.size) :
    MetFree l x (head1 (Jvm.Cond.code x code maxLocals ret :: ws) room_1) (fun a U => a = #[(.int x0), (.int x1), (.int x2), (.int x3)] ∧ Z.Warmed39 U.vm ∧ U.heap = h0) (fun _ _ _ _ _ => True) (fun _ U o U' => ∃ v L, o = .returned v ∧ (QL n0 v U'.heap L) ∧ FrameEnd U o U' L room_1.cells room_1.slots) := by
  obtain ⟨H1, eH1⟩ : ∃ z : Int32, z = (x0 &&& (536870911 : Int32)) := ⟨_, rfl⟩
  obtain ⟨H2, eH2⟩ : ∃ z : Int32, z = (H1 + (x1 &&& (536870911 : Int32))) := ⟨_, rfl⟩
  obtain ⟨H3, eH3⟩ : ∃ z : Int32, z = (H2 + (x2 &&& (1073741823 : Int32))) := ⟨_, rfl⟩
  rcases own_four x3 with q | q | q | q
  · exact rm0_0 l Z a0 hw ws x0 x1 x2 x3 H1 H2 H3 h0 n0 Z0 eH1 eH2 eH3 q
  · exact rm0_1 l Z a0 hw ws x0 x1 x2 x3 H1 H2 H3 h0 n0 Z0 eH1 eH2 eH3 q
  · by_cases q2 : H2 = H1
    · exact rm0_2e l Z a0 hw ws x0 x1 x2 x3 H1 H2 H3 h0 n0 Z0 eH1 eH2 eH3 q q2
    · exact rm0_2n l Z a0 hw ws x0 x1 x2 x3 H1 H2 H3 h0 n0 Z0 eH1 eH2 eH3 q q2
  · by_cases q2 : H2 = H1
    · by_cases q3 : H3 = H2
      · exact rm0_3ee l Z a0 hw ws x0 x1 x2 x3 H1 H2 H3 h0 n0 Z0 eH1 eH2 eH3 q q2 q3
      · exact rm0_3en l Z a0 hw ws x0 x1 x2 x3 H1 H2 H3 h0 n0 Z0 eH1 eH2 eH3 q q2 q3
    · by_cases q3 : H3 = H2
      · exact rm0_3ne l Z a0 hw ws x0 x1 x2 x3 H1 H2 H3 h0 n0 Z0 eH1 eH2 eH3 q q2 q3
      · exact rm0_3nn l Z a0 hw ws x0 x1 x2 x3 H1 H2 H3 h0 n0 Z0 eH1 eH2 eH3 q q2 q3
set_option maxRecDepth 65536 in
set_option maxHeartbeats 40000000 in
theorem comes_1 {Post : Tables → Env → Array Value → State → Outcome → State → Prop} (hpost : ∀ tb e args s v u, (limb_1_1.after args s (.returned v) u = true ∧ limb_1_2.after args s (.returned v) u = true ∧ True) → FrameEnd s (.returned v) u (Jvm.fieldLocs frame_1_writes args s ++ Jvm.arrayLocs frame_1_arrays args s ++ Jvm.staticLocs frame_1_statics s) 48 832 → Post tb e args s (.returned v) u) :
    ArmFor flags0 classFile x code maxLocals ret World_1 tables_1 room_1 Calls_1 rest_1 Pre_1 Post := by
  intro l hfl _ _ p e ha hc hk s m args below hf hA hF happ hP
  obtain ⟨hcalls, hrest, hpre⟩ := hP
  obtain ⟨-, -, -, hnamed, -, -, -, hat⟩ := (Spec.applies_iff hf).mp happ
  obtain ⟨hg, hn⟩ := and_e (Cond.before_iff.mp (show (Jvm.Cond.and given_1 narrow_1).before args s = true from hpre))
  obtain ⟨g1, g2⟩ := and_e hg
  obtain ⟨g3, g4⟩ := and_e g2
  obtain ⟨g5, g6⟩ := and_e g4
  obtain ⟨g7, g8⟩ := and_e g6
  obtain ⟨w0, w1, w2, w3, rfl⟩ : ∃ w0 w1 w2 w3 : Value, args = #[w0, w1, w2, w3] := by
    have hs : args.size = 4 := by simpa [Cond.value, given_1] using g1
    obtain ⟨L⟩ := args
    match L, hs with
    | [w0, w1, w2, w3], _ => exact ⟨w0, w1, w2, w3, rfl⟩
  have hw := fun d (hd : d ∈ tables_1) => atoms_spec (ws := Jvm.Cond.code x code maxLocals ret :: tables_1) hat d (List.mem_cons_of_mem _ hd)
  have hfit : Fit s := fun {y c} hc i hi => by
    obtain ⟨ha, rfl⟩ := Array.getElem?_eq_some_iff.mp hc
    have q := List.all_eq_true.mp ((Array.all_eq_true_iff_forall_mem.mp hF) _ (Array.getElem_mem ha)) i (List.mem_range.mpr hi)
    simpa [Array.getElem?_eq_getElem hi] using q
  obtain ⟨i0, ei0⟩ := is_v g3
  obtain rfl : w0 = (.int i0) := Option.some.inj ei0
  obtain ⟨i1, ei1⟩ := is_v g5
  obtain rfl : w1 = (.int i1) := Option.some.inj ei1
  obtain ⟨i2, ei2⟩ := is_v g7
  obtain rfl : w2 = (.int i2) := Option.some.inj ei2
  obtain ⟨i3, ei3⟩ := is_v g8
  obtain rfl : w3 = (.int i3) := Option.some.inj ei3
  obtain ⟨n, o, h1, h2, h3, _, L, rfl, ⟨rfl, N⟩, hq⟩ := rm0 l s _ hw tables_1 i0 i1 i2 i3  s.heap s.heap.size (Nat.le_refl _)  p e ha hc hk s m _ below hf ((Spec.applies_iff_loose hf).mp happ).1 ⟨rfl, State.Warmed39.refl s, rfl⟩ trivial
  refine ⟨n, _, h1, h2, h3, hpost _ _ _ _ _ _ ⟨Cond.after_iff.mpr rfl, Cond.after_iff.mpr (eq_i res_at (Term.int_eval (1)) rfl), trivial⟩ ⟨hq.1, hq.2.1, (hq.2.2.sift fun y hy => Or.inr (N y hy)).mono (by decide) (by decide)⟩⟩
theorem main_1_1 : Claimed_1_1 := comes_1 fun _ _ _ _ _ _ h hF => ⟨h.1, hF⟩
theorem main_1_2 : Claimed_1_2 := comes_1 fun _ _ _ _ _ _ h hF => ⟨h.2.1, hF⟩
end Jvm.Pilot.@@N@@
namespace Jvm.Pilot.@@N@@
open Jvm Jvm.ClassFile Sem Op Lib Jvm.Free Jvm.Stand Jvm.Pilot.@@N@@.Jvm.D
/-! MADE BY PROGRAM (witnessworld.py) out of the Statement's table words and the real class files: 13 classes; the members and pool entries that the words name. The judged class is class 1, her method 1. -/
namespace start1
open Jvm.ClassFile
def u (s : String) : CpInfo := .utf8 (stringToUtf16 s)
/-- a pool by its gaps: so many unusable entries, then the entry; so many at the end -/
def gap : Nat → List CpInfo → List CpInfo
  | 0, r => r
  | n + 1, r => .unusable :: gap n r
def poolList (es : List (Nat × CpInfo)) (last : Nat) : List CpInfo := es.foldr (fun e r => gap e.1 (e.2 :: r)) (gap last [])
def pool (es : List (Nat × CpInfo)) (last : Nat) : Array CpInfo := ⟨poolList es last⟩
def fileOf (pool : Array CpInfo) (this : Nat) (attrs : Array Attribute := #[]) (ms : Array MethodInfo := #[]) (fl : Nat := 33) (sup : Nat := 0) (ifs : Array Nat := #[]) (fds : Array FieldInfo := #[]) : ClassFile where
  minorVersion := 0
  majorVersion := 65
  constantPool := pool
  accessFlags := fl
  thisClass := this
  superClass := sup
  interfaces := ifs
  fields := fds
  methods := ms
  attributes := attrs
def plain (name : String) (sup : Option ClassId) : Class where
  name := name
  kind := .ordinary
  loader := none
  accessFlags := 33
  super := sup
  interfaces := #[]
  cf := none
  fields := #[]
  methods := #[]
  instanceTypes := #[]
  staticTypes := #[]
  resolved := #[]
  callSites := []
  init := .initialized
  statics := none
  mirror := none

def pool0 : Array CpInfo := pool [(5, u "<init>"), (0, u "()V"), (1, .class_ 10), (1, u "java/lang/Object")] 113

def k0c0 : Code := { maxStack := 0, maxLocals := 1, code := object_method_1_code, exceptionTable := #[], attributes := #[] }
def k0m0 : Method := { name := "<init>", desc := "()V", sig := { parameters := [], returnType := none }, accessFlags := 1, code := some k0c0 }
/-- java/lang/Object -/
def k0 : Class := { plain "java/lang/Object" none with
  accessFlags := 33
  interfaces := #[]
  cf := some (fileOf pool0 8 #[] #[{ accessFlags := 1, nameIndex := 5, descriptorIndex := 6, attributes := #[] }] 33 0 #[] #[])
  fields := #[]
  methods := #[k0m0]
  instanceTypes := #[]
  staticTypes := #[]
  resolved := Array.replicate 124 none
  statics := none }

def pool1 : Array CpInfo := pool [(2, .class_ 4), (0, .nameAndType 5 6), (0, u "java/lang/Object"), (0, u "<init>"), (0, u "()V"), (0, .integer 536870911), (0, .integer 1073741823), (0, .class_ 10), (0, u "com/example/rootline/rootline/reach/HolderSets"), (0, .methodref 9 3), (0, .methodref 9 13), (0, .nameAndType 14 15), (0, u "with"), (0, u "(II)I"), (0, .methodref 9 17), (0, .nameAndType 18 19), (0, u "holders"), (0, u "(I)[I"), (0, .class_ 21), (0, u "com/example/rootline/rootline/reach/HolderSetsHoldersPinLaw"), (2, u "law"), (0, u "(IIII)Z")] 5

def k1m0 : Method := { name := "<init>", desc := "()V", sig := { parameters := [], returnType := none }, accessFlags := 1, code := none }
def k1c1 : Code := { maxStack := 3, maxLocals := 18, code := code, exceptionTable := #[], attributes := #[] }
def k1m1 : Method := { name := "law", desc := "(IIII)Z", sig := { parameters := [.int, .int, .int, .int], returnType := some .boolean }, accessFlags := 9, code := some k1c1 }
/-- com/example/rootline/rootline/reach/HolderSetsHoldersPinLaw -/
def k1 : Class := { plain "com/example/rootline/rootline/reach/HolderSetsHoldersPinLaw" (some 0) with
  accessFlags := 49
  interfaces := #[]
  cf := some (fileOf pool1 20 #[] #[{ accessFlags := 1, nameIndex := 5, descriptorIndex := 6, attributes := #[] }, { accessFlags := 9, nameIndex := 24, descriptorIndex := 25, attributes := #[] }] 49 2 #[] #[])
  fields := #[]
  methods := #[k1m0, k1m1]
  instanceTypes := #[]
  staticTypes := #[]
  resolved := Array.replicate 31 none
  statics := none }

def pool2 : Array CpInfo := pool [(1, .methodref 2 3), (0, .class_ 4), (0, .nameAndType 5 6), (0, u "java/lang/Object"), (0, u "<init>"), (0, u "()V"), (0, .fieldref 8 9), (0, .class_ 10), (0, .nameAndType 11 12), (0, u "com/example/rootline/rootline/reach/HolderSets"), (0, u "rest"), (0, u "[I"), (0, .fieldref 8 14), (0, .nameAndType 15 12), (0, u "highest"), (0, .fieldref 8 17), (0, .nameAndType 18 12), (0, u "sizes"), (0, .fieldref 8 20), (0, .nameAndType 21 22), (0, u "count"), (0, u "I"), (0, .class_ 24), (0, u "com/example/rootline/rootline/heap/LongIntTable"), (0, .methodref 23 3), (0, .fieldref 8 27), (0, .nameAndType 28 29), (0, u "withOne"), (0, u "Lcom/example/rootline/rootline/heap/LongIntTable;"), (0, .fieldref 8 31), (0, .nameAndType 32 29), (0, u "unions"), (0, .fieldref 8 34), (0, .nameAndType 35 12), (0, u "left"), (0, .fieldref 8 37), (0, .nameAndType 38 12), (0, u "right"), (0, .fieldref 8 40), (0, .nameAndType 41 12), (0, u "merged"), (9, .methodref 8 52), (0, .nameAndType 53 54), (0, u "pair"), (0, u "(II)J"), (0, .methodref 23 56), (0, .nameAndType 57 58), (0, u "get"), (0, u "(J)I"), (15, .methodref 23 75), (0, .nameAndType 76 77), (0, u "put"), (0, u "(JI)V"), (5, u "(II)I"), (9, u "with"), (5, u "EMPTY"), (7, u "holders"), (0, u "(I)[I")] 33

def k2c0 : Code := { maxStack := 3, maxLocals := 1, code := prog_179_method_1_code, exceptionTable := #[], attributes := #[] }
def k2m0 : Method := { name := "<init>", desc := "()V", sig := { parameters := [], returnType := none }, accessFlags := 0, code := some k2c0 }
def k2c1 : Code := { maxStack := 5, maxLocals := 5, code := prog_179_method_3_code, exceptionTable := #[], attributes := #[] }
def k2m1 : Method := { name := "with", desc := "(II)I", sig := { parameters := [.int, .int], returnType := some .int }, accessFlags := 0, code := some k2c1 }
def k2c2 : Code := { maxStack := 4, maxLocals := 5, code := prog_179_method_5_code, exceptionTable := #[], attributes := #[] }
def k2m2 : Method := { name := "holders", desc := "(I)[I", sig := { parameters := [.int], returnType := some (.array .int) }, accessFlags := 1, code := some k2c2 }
def k2c3 : Code := { maxStack := 4, maxLocals := 2, code := prog_179_method_7_code, exceptionTable := #[], attributes := #[] }
def k2m3 : Method := { name := "pair", desc := "(II)J", sig := { parameters := [.int, .int], returnType := some .long }, accessFlags := 10, code := some k2c3 }
/-- com/example/rootline/rootline/reach/HolderSets -/
def k2 : Class := { plain "com/example/rootline/rootline/reach/HolderSets" (some 0) with
  accessFlags := 49
  interfaces := #[]
  cf := some (fileOf pool2 8 #[] #[{ accessFlags := 0, nameIndex := 5, descriptorIndex := 6, attributes := #[] }, { accessFlags := 0, nameIndex := 93, descriptorIndex := 83, attributes := #[] }, { accessFlags := 1, nameIndex := 107, descriptorIndex := 108, attributes := #[] }, { accessFlags := 10, nameIndex := 53, descriptorIndex := 54, attributes := #[] }] 49 2 #[] #[{ accessFlags := 25, nameIndex := 99, descriptorIndex := 22, attributes := #[] }, { accessFlags := 2, nameIndex := 11, descriptorIndex := 12, attributes := #[] }, { accessFlags := 2, nameIndex := 15, descriptorIndex := 12, attributes := #[] }, { accessFlags := 2, nameIndex := 18, descriptorIndex := 12, attributes := #[] }, { accessFlags := 2, nameIndex := 21, descriptorIndex := 22, attributes := #[] }, { accessFlags := 18, nameIndex := 28, descriptorIndex := 29, attributes := #[] }, { accessFlags := 18, nameIndex := 32, descriptorIndex := 29, attributes := #[] }, { accessFlags := 2, nameIndex := 35, descriptorIndex := 12, attributes := #[] }, { accessFlags := 2, nameIndex := 38, descriptorIndex := 12, attributes := #[] }, { accessFlags := 2, nameIndex := 41, descriptorIndex := 12, attributes := #[] }])
  fields := #[{ name := "EMPTY", type := .int, accessFlags := 25, slot := 0, constantValue := 0 }, { name := "rest", type := (.array .int), accessFlags := 2, slot := 0, constantValue := 0 }, { name := "highest", type := (.array .int), accessFlags := 2, slot := 1, constantValue := 0 }, { name := "sizes", type := (.array .int), accessFlags := 2, slot := 2, constantValue := 0 }, { name := "count", type := .int, accessFlags := 2, slot := 3, constantValue := 0 }, { name := "withOne", type := (.object "com/example/rootline/rootline/heap/LongIntTable"), accessFlags := 18, slot := 4, constantValue := 0 }, { name := "unions", type := (.object "com/example/rootline/rootline/heap/LongIntTable"), accessFlags := 18, slot := 5, constantValue := 0 }, { name := "left", type := (.array .int), accessFlags := 2, slot := 6, constantValue := 0 }, { name := "right", type := (.array .int), accessFlags := 2, slot := 7, constantValue := 0 }, { name := "merged", type := (.array .int), accessFlags := 2, slot := 8, constantValue := 0 }]
  methods := #[k2m0, k2m1, k2m2, k2m3]
  instanceTypes := #[(.array .int), (.array .int), (.array .int), .int, (.object "com/example/rootline/rootline/heap/LongIntTable"), (.object "com/example/rootline/rootline/heap/LongIntTable"), (.array .int), (.array .int), (.array .int)]
  staticTypes := #[.int]
  resolved := Array.replicate 142 none
  statics := none }

def pool3 : Array CpInfo := pool [(1, .methodref 2 3), (0, .class_ 4), (0, .nameAndType 5 6), (0, u "java/lang/Object"), (0, u "<init>"), (0, u "()V"), (0, .fieldref 8 9), (0, .class_ 10), (0, .nameAndType 11 12), (0, u "com/example/rootline/rootline/heap/LongIntTable"), (0, u "keys"), (0, u "[J"), (0, .methodref 8 14), (0, .nameAndType 15 16), (0, u "free"), (0, u "(I)[I"), (0, .fieldref 8 18), (0, .nameAndType 19 20), (0, u "values"), (0, u "[I"), (0, .methodref 8 22), (0, .nameAndType 23 24), (0, u "slot"), (0, u "([J[IJ)I"), (9, .fieldref 8 35), (0, .nameAndType 36 37), (0, u "size"), (0, u "I"), (3, .methodref 8 42), (0, .nameAndType 43 44), (0, u "home"), (0, u "(JI)I"), (6, .long 11400714819323198485), (1, .methodref 54 55), (0, .class_ 56), (0, .nameAndType 57 58), (0, u "java/util/Arrays"), (0, u "fill"), (0, u "([II)V"), (0, u "FREE"), (2, u "MAX_SLOTS"), (2, u "get"), (0, u "(J)I"), (0, u "put"), (0, u "(JI)V")] 22

def k3c0 : Code := { maxStack := 2, maxLocals := 1, code := prog_121_method_1_code, exceptionTable := #[], attributes := #[] }
def k3m0 : Method := { name := "<init>", desc := "()V", sig := { parameters := [], returnType := none }, accessFlags := 1, code := some k3c0 }
def k3c1 : Code := { maxStack := 5, maxLocals := 3, code := prog_121_method_2_code, exceptionTable := #[], attributes := #[] }
def k3m1 : Method := { name := "get", desc := "(J)I", sig := { parameters := [.long], returnType := some .int }, accessFlags := 1, code := some k3c1 }
def k3c2 : Code := { maxStack := 4, maxLocals := 5, code := prog_121_method_3_code, exceptionTable := #[], attributes := #[] }
def k3m2 : Method := { name := "put", desc := "(JI)V", sig := { parameters := [.long, .int], returnType := none }, accessFlags := 1, code := some k3c2 }
def k3c3 : Code := { maxStack := 4, maxLocals := 6, code := prog_121_method_6_code, exceptionTable := #[], attributes := #[] }
def k3m3 : Method := { name := "slot", desc := "([J[IJ)I", sig := { parameters := [(.array .long), (.array .int), .long], returnType := some .int }, accessFlags := 10, code := some k3c3 }
def k3c4 : Code := { maxStack := 4, maxLocals := 3, code := prog_121_method_7_code, exceptionTable := #[], attributes := #[] }
def k3m4 : Method := { name := "home", desc := "(JI)I", sig := { parameters := [.long, .int], returnType := some .int }, accessFlags := 10, code := some k3c4 }
def k3c5 : Code := { maxStack := 2, maxLocals := 2, code := prog_121_method_8_code, exceptionTable := #[], attributes := #[] }
def k3m5 : Method := { name := "free", desc := "(I)[I", sig := { parameters := [.int], returnType := some (.array .int) }, accessFlags := 10, code := some k3c5 }
/-- com/example/rootline/rootline/heap/LongIntTable -/
def k3 : Class := { plain "com/example/rootline/rootline/heap/LongIntTable" (some 0) with
  accessFlags := 49
  interfaces := #[]
  cf := some (fileOf pool3 8 #[] #[{ accessFlags := 1, nameIndex := 5, descriptorIndex := 6, attributes := #[] }, { accessFlags := 1, nameIndex := 65, descriptorIndex := 66, attributes := #[] }, { accessFlags := 1, nameIndex := 67, descriptorIndex := 68, attributes := #[] }, { accessFlags := 10, nameIndex := 23, descriptorIndex := 24, attributes := #[] }, { accessFlags := 10, nameIndex := 43, descriptorIndex := 44, attributes := #[] }, { accessFlags := 10, nameIndex := 15, descriptorIndex := 16, attributes := #[] }] 49 2 #[] #[{ accessFlags := 26, nameIndex := 59, descriptorIndex := 37, attributes := #[] }, { accessFlags := 26, nameIndex := 62, descriptorIndex := 37, attributes := #[] }, { accessFlags := 2, nameIndex := 11, descriptorIndex := 12, attributes := #[] }, { accessFlags := 2, nameIndex := 19, descriptorIndex := 20, attributes := #[] }, { accessFlags := 2, nameIndex := 36, descriptorIndex := 37, attributes := #[] }])
  fields := #[{ name := "FREE", type := .int, accessFlags := 26, slot := 0, constantValue := 0 }, { name := "MAX_SLOTS", type := .int, accessFlags := 26, slot := 1, constantValue := 0 }, { name := "keys", type := (.array .long), accessFlags := 2, slot := 0, constantValue := 0 }, { name := "values", type := (.array .int), accessFlags := 2, slot := 1, constantValue := 0 }, { name := "size", type := .int, accessFlags := 2, slot := 2, constantValue := 0 }]
  methods := #[k3m0, k3m1, k3m2, k3m3, k3m4, k3m5]
  instanceTypes := #[(.array .long), (.array .int), .int]
  staticTypes := #[.int, .int]
  resolved := Array.replicate 91 none
  statics := none }

def pool4 : Array CpInfo := pool [(2, .class_ 4), (1, u "java/lang/Object"), (0, u "<init>"), (0, u "()V"), (7, .class_ 16), (1, u "java/util/Arrays"), (57, .class_ 76), (1, u "java/util/Arrays$NaturalOrder"), (36, .class_ 115), (1, u "java/util/Arrays$LegacyMergeSort"), (1, u "Z"), (257, .class_ 376), (0, u "java/util/Arrays$ArrayList"), (68, u "$assertionsDisabled"), (269, u "MIN_ARRAY_SORT_GRAN"), (0, u "I"), (2, u "INSERTIONSORT_THRESHOLD"), (120, u "fill"), (4, u "([II)V"), (129, .class_ 976), (0, u "java/util/Arrays$ArrayItr")] 52

def k4m0 : Method := { name := "<init>", desc := "()V", sig := { parameters := [], returnType := none }, accessFlags := 2, code := none }
def k4c1 : Code := { maxStack := 3, maxLocals := 4, code := jdk_65_method_103_code, exceptionTable := #[], attributes := #[] }
def k4m1 : Method := { name := "fill", desc := "([II)V", sig := { parameters := [(.array .int), .int], returnType := none }, accessFlags := 9, code := some k4c1 }
/-- java/util/Arrays -/
def k4 : Class := { plain "java/util/Arrays" (some 0) with
  accessFlags := 49
  interfaces := #[]
  cf := some (fileOf pool4 14 #[.nestMembers #[975, 375, 113, 74]] #[{ accessFlags := 2, nameIndex := 5, descriptorIndex := 6, attributes := #[] }, { accessFlags := 9, nameIndex := 840, descriptorIndex := 845, attributes := #[] }] 49 2 #[] #[{ accessFlags := 26, nameIndex := 715, descriptorIndex := 716, attributes := #[] }, { accessFlags := 26, nameIndex := 719, descriptorIndex := 716, attributes := #[] }, { accessFlags := 4120, nameIndex := 445, descriptorIndex := 117, attributes := #[] }])
  fields := #[{ name := "MIN_ARRAY_SORT_GRAN", type := .int, accessFlags := 26, slot := 0, constantValue := 0 }, { name := "INSERTIONSORT_THRESHOLD", type := .int, accessFlags := 26, slot := 1, constantValue := 0 }, { name := "$assertionsDisabled", type := .boolean, accessFlags := 4120, slot := 2, constantValue := 0 }]
  methods := #[k4m0, k4m1]
  instanceTypes := #[]
  staticTypes := #[.int, .int, .boolean]
  resolved := Array.replicate 1029 none
  statics := none }

def pool5 : Array CpInfo := pool [(1, u "java/lang/Cloneable"), (0, .class_ 1), (0, u "java/lang/Object"), (0, .class_ 3)] 3

/-- java/lang/Cloneable -/
def k5 : Class := { plain "java/lang/Cloneable" (some 0) with
  accessFlags := 1537
  interfaces := #[]
  cf := some (fileOf pool5 2 #[] #[] 1537 4 #[] #[])
  fields := #[]
  methods := #[]
  instanceTypes := #[]
  staticTypes := #[]
  resolved := Array.replicate 8 none
  statics := none }

def pool6 : Array CpInfo := pool [(1, u "java/io/Serializable"), (0, .class_ 1), (0, u "java/lang/Object"), (0, .class_ 3)] 3

/-- java/io/Serializable -/
def k6 : Class := { plain "java/io/Serializable" (some 0) with
  accessFlags := 1537
  interfaces := #[]
  cf := some (fileOf pool6 2 #[] #[] 1537 4 #[] #[])
  fields := #[]
  methods := #[]
  instanceTypes := #[]
  staticTypes := #[]
  resolved := Array.replicate 8 none
  statics := none }

/-- the primitive byte -/
def k7 : Class := { plain "byte" none with kind := .primitive 'B', accessFlags := 0x411 }
/-- [B -/
def k8 : Class := { plain "[B" (some 0) with kind := .array 7 .byte, interfaces := #[5, 6], accessFlags := 1041 }

/-- the primitive int -/
def k9 : Class := { plain "int" none with kind := .primitive 'I', accessFlags := 0x411 }
/-- [I -/
def k10 : Class := { plain "[I" (some 0) with kind := .array 9 .int, interfaces := #[5, 6], accessFlags := 1041 }

/-- the primitive long -/
def k11 : Class := { plain "long" none with kind := .primitive 'J', accessFlags := 0x411 }
/-- [J -/
def k12 : Class := { plain "[J" (some 0) with kind := .array 11 .long, interfaces := #[5, 6], accessFlags := 1041 }

def heap : Heap := #[]
def classes : Array Class := #[k0, k1, k2, k3, k4, k5, k6, k7, k8, k9, k10, k11, k12]
def interned : List (Array UInt16 × Addr) := []
def slotsUsed : Nat := 0
def theMethod : MethodId := ⟨1, 1⟩
def args0 : Array Value := #[.int 5, .int 7, .int 1, .int 3]
def aboutOver (below : List Frame) : State where
  vm := { classes := classes, interned := interned.toArray }
  heap := heap
  slotsUsed := slotsUsed
  threads := #[{ frames := .invoking theMethod args0 :: below }]
def below0 : List Frame := [.native { method := ⟨0, 0⟩, args := #[] }]
def about1 : State := aboutOver below0
def p0 : Program := .bare "" "" ""
def e0 : Env := launch0.env 0 0 0
theorem w_frames : about1.frames = Frame.invoking theMethod args0 :: below0 := rfl
set_option maxRecDepth 65536 in
theorem w_args : argsFit about1.vm theMethod args0 = true := by decide +kernel
set_option maxRecDepth 65536 in
theorem w_heap : heapFits about1 = true := by decide +kernel
set_option maxRecDepth 65536 in
theorem w_runnable : about1.curStatus? = some .runnable := by decide +kernel
set_option maxRecDepth 65536 in
theorem w_alone : about1.alone = true := by decide +kernel
set_option maxRecDepth 65536 in
theorem w_named : about1.methodNamed? x = some theMethod := by decide +kernel
set_option maxRecDepth 65536 in
theorem w_hears : about1.hears theMethod below0 = true := by decide +kernel
set_option maxRecDepth 65536 in
theorem w_ripe : about1.ripe theMethod args0 below0 = true := by decide +kernel
theorem w_running : about1.status = .running := rfl
set_option maxRecDepth 65536 in
theorem w_room : about1.hasRoom e0.platform room_1 = true :=
  launch0.hasRoom_least _ room_1 (by decide +kernel) (by decide +kernel) (by decide +kernel) (by decide +kernel) (by decide +kernel) (by decide +kernel)
theorem allAtoms_all (ts : List Jvm.Cond) (a : Array Jvm.Value) (st : Jvm.State) : (allAtoms ts).before a st = ts.all (fun c => c.before a st) := by
  induction ts with
  | nil => rfl
  | cons c t ih =>
    show (Jvm.Cond.and c (allAtoms t)).before a st = _
    rw [Jvm.Cond.before_and, ih, List.all_cons]
def words1 : List Jvm.Cond := Jvm.Cond.code x code maxLocals ret :: tables_1
/-- a 'code' word, met by the world's own term for the bytes: nothing is compared byte by byte -/
theorem code_word {y : MethodName} {bytes : ByteArray} {mx : Nat} {rt : Option FieldType} {a : Array Value} {s : State} {m : MethodId} {meth : Method} {c : Code} (h1 : s.methodNamed? y = some m) (h2 : s.vm.method? m = some meth) (h3 : meth.code = some c) (h4 : c.code = bytes)
    (h5 : (c.maxLocals == mx && c.exceptionTable.isEmpty && decide (c.maxStack ≤ mostOperands) && decide (meth.sig.returnType = rt) && !meth.locks && decide (parseMethodDescriptor y.desc = some meth.sig)) = true) : (Jvm.Cond.code y bytes mx rt).before a s = true := by
  simp only [Bool.and_eq_true, beq_iff_eq, Bool.not_eq_true', decide_eq_true_eq] at h5
  obtain ⟨⟨⟨⟨⟨g1, g2⟩, g3⟩, g4⟩, g5⟩, g6⟩ := h5
  simp [Cond.before, Cond.holds, Cond.value, h1, h2, h3, h4, g1, g2, g3, g4, g5, g6]
def isCode : Jvm.Cond → Bool
  | .code _ _ _ _ => true
  | _ => false
theorem all_split {L : List Jvm.Cond} {P : Jvm.Cond → Bool} (h1 : L.all (fun c => isCode c || P c) = true) (h2 : ∀ c ∈ L.filter isCode, P c = true) : L.all P = true := by
  refine List.all_eq_true.mpr fun c hc => ?_
  have h := List.all_eq_true.mp h1 c hc
  rcases Bool.eq_false_or_eq_true (isCode c) with hi | hi
  · exact h2 c (List.mem_filter.mpr ⟨hc, hi⟩)
  · simpa [hi] using h
set_option maxRecDepth 65536 in
theorem w_c0 : (Jvm.Cond.code x code maxLocals ret).before args0 about1 = true := code_word (m := ⟨1, 1⟩) (meth := k1m1) (c := k1c1) (by decide +kernel) rfl rfl rfl (by decide +kernel)
set_option maxRecDepth 65536 in
theorem w_c1 : (Jvm.Cond.code ({ cls := "com/example/rootline/rootline/reach/HolderSets", name := "<init>", desc := "()V" } : Jvm.MethodName) prog_179_method_1_code (1 : Nat) (Option.none : Option Jvm.ClassFile.FieldType)).before args0 about1 = true := code_word (m := ⟨2, 0⟩) (meth := k2m0) (c := k2c0) (by decide +kernel) rfl rfl rfl (by decide +kernel)
set_option maxRecDepth 65536 in
theorem w_c2 : (Jvm.Cond.code ({ cls := "java/lang/Object", name := "<init>", desc := "()V" } : Jvm.MethodName) object_method_1_code (1 : Nat) (Option.none : Option Jvm.ClassFile.FieldType)).before args0 about1 = true := code_word (m := ⟨0, 0⟩) (meth := k0m0) (c := k0c0) (by decide +kernel) rfl rfl rfl (by decide +kernel)
set_option maxRecDepth 65536 in
theorem w_c3 : (Jvm.Cond.code ({ cls := "com/example/rootline/rootline/heap/LongIntTable", name := "<init>", desc := "()V" } : Jvm.MethodName) prog_121_method_1_code (1 : Nat) (Option.none : Option Jvm.ClassFile.FieldType)).before args0 about1 = true := code_word (m := ⟨3, 0⟩) (meth := k3m0) (c := k3c0) (by decide +kernel) rfl rfl rfl (by decide +kernel)
set_option maxRecDepth 65536 in
theorem w_c4 : (Jvm.Cond.code ({ cls := "com/example/rootline/rootline/heap/LongIntTable", name := "free", desc := "(I)[I" } : Jvm.MethodName) prog_121_method_8_code (2 : Nat) (Option.some (Jvm.ClassFile.FieldType.array Jvm.ClassFile.FieldType.int))).before args0 about1 = true := code_word (m := ⟨3, 5⟩) (meth := k3m5) (c := k3c5) (by decide +kernel) rfl rfl rfl (by decide +kernel)
set_option maxRecDepth 65536 in
theorem w_c5 : (Jvm.Cond.code ({ cls := "java/util/Arrays", name := "fill", desc := "([II)V" } : Jvm.MethodName) jdk_65_method_103_code (4 : Nat) (Option.none : Option Jvm.ClassFile.FieldType)).before args0 about1 = true := code_word (m := ⟨4, 1⟩) (meth := k4m1) (c := k4c1) (by decide +kernel) rfl rfl rfl (by decide +kernel)
set_option maxRecDepth 65536 in
theorem w_c6 : (Jvm.Cond.code ({ cls := "com/example/rootline/rootline/reach/HolderSets", name := "with", desc := "(II)I" } : Jvm.MethodName) prog_179_method_3_code (5 : Nat) (Option.some Jvm.ClassFile.FieldType.int)).before args0 about1 = true := code_word (m := ⟨2, 1⟩) (meth := k2m1) (c := k2c1) (by decide +kernel) rfl rfl rfl (by decide +kernel)
set_option maxRecDepth 65536 in
theorem w_c7 : (Jvm.Cond.code ({ cls := "com/example/rootline/rootline/reach/HolderSets", name := "pair", desc := "(II)J" } : Jvm.MethodName) prog_179_method_7_code (2 : Nat) (Option.some Jvm.ClassFile.FieldType.long)).before args0 about1 = true := code_word (m := ⟨2, 3⟩) (meth := k2m3) (c := k2c3) (by decide +kernel) rfl rfl rfl (by decide +kernel)
set_option maxRecDepth 65536 in
theorem w_c8 : (Jvm.Cond.code ({ cls := "com/example/rootline/rootline/heap/LongIntTable", name := "get", desc := "(J)I" } : Jvm.MethodName) prog_121_method_2_code (3 : Nat) (Option.some Jvm.ClassFile.FieldType.int)).before args0 about1 = true := code_word (m := ⟨3, 1⟩) (meth := k3m1) (c := k3c1) (by decide +kernel) rfl rfl rfl (by decide +kernel)
set_option maxRecDepth 65536 in
theorem w_c9 : (Jvm.Cond.code ({ cls := "com/example/rootline/rootline/heap/LongIntTable", name := "slot", desc := "([J[IJ)I" } : Jvm.MethodName) prog_121_method_6_code (6 : Nat) (Option.some Jvm.ClassFile.FieldType.int)).before args0 about1 = true := code_word (m := ⟨3, 3⟩) (meth := k3m3) (c := k3c3) (by decide +kernel) rfl rfl rfl (by decide +kernel)
set_option maxRecDepth 65536 in
theorem w_c10 : (Jvm.Cond.code ({ cls := "com/example/rootline/rootline/heap/LongIntTable", name := "home", desc := "(JI)I" } : Jvm.MethodName) prog_121_method_7_code (3 : Nat) (Option.some Jvm.ClassFile.FieldType.int)).before args0 about1 = true := code_word (m := ⟨3, 4⟩) (meth := k3m4) (c := k3c4) (by decide +kernel) rfl rfl rfl (by decide +kernel)
set_option maxRecDepth 65536 in
theorem w_c11 : (Jvm.Cond.code ({ cls := "com/example/rootline/rootline/heap/LongIntTable", name := "put", desc := "(JI)V" } : Jvm.MethodName) prog_121_method_3_code (5 : Nat) (Option.none : Option Jvm.ClassFile.FieldType)).before args0 about1 = true := code_word (m := ⟨3, 2⟩) (meth := k3m2) (c := k3c2) (by decide +kernel) rfl rfl rfl (by decide +kernel)
set_option maxRecDepth 65536 in
theorem w_c12 : (Jvm.Cond.code ({ cls := "com/example/rootline/rootline/reach/HolderSets", name := "holders", desc := "(I)[I" } : Jvm.MethodName) prog_179_method_5_code (5 : Nat) (Option.some (Jvm.ClassFile.FieldType.array Jvm.ClassFile.FieldType.int))).before args0 about1 = true := code_word (m := ⟨2, 2⟩) (meth := k2m2) (c := k2c2) (by decide +kernel) rfl rfl rfl (by decide +kernel)
def codes1 : List Jvm.Cond := [Jvm.Cond.code x code maxLocals ret, Jvm.Cond.code ({ cls := "com/example/rootline/rootline/reach/HolderSets", name := "<init>", desc := "()V" } : Jvm.MethodName) prog_179_method_1_code (1 : Nat) (Option.none : Option Jvm.ClassFile.FieldType), Jvm.Cond.code ({ cls := "java/lang/Object", name := "<init>", desc := "()V" } : Jvm.MethodName) object_method_1_code (1 : Nat) (Option.none : Option Jvm.ClassFile.FieldType), Jvm.Cond.code ({ cls := "com/example/rootline/rootline/heap/LongIntTable", name := "<init>", desc := "()V" } : Jvm.MethodName) prog_121_method_1_code (1 : Nat) (Option.none : Option Jvm.ClassFile.FieldType), Jvm.Cond.code ({ cls := "com/example/rootline/rootline/heap/LongIntTable", name := "free", desc := "(I)[I" } : Jvm.MethodName) prog_121_method_8_code (2 : Nat) (Option.some (Jvm.ClassFile.FieldType.array Jvm.ClassFile.FieldType.int)), Jvm.Cond.code ({ cls := "java/util/Arrays", name := "fill", desc := "([II)V" } : Jvm.MethodName) jdk_65_method_103_code (4 : Nat) (Option.none : Option Jvm.ClassFile.FieldType), Jvm.Cond.code ({ cls := "com/example/rootline/rootline/reach/HolderSets", name := "with", desc := "(II)I" } : Jvm.MethodName) prog_179_method_3_code (5 : Nat) (Option.some Jvm.ClassFile.FieldType.int), Jvm.Cond.code ({ cls := "com/example/rootline/rootline/reach/HolderSets", name := "pair", desc := "(II)J" } : Jvm.MethodName) prog_179_method_7_code (2 : Nat) (Option.some Jvm.ClassFile.FieldType.long), Jvm.Cond.code ({ cls := "com/example/rootline/rootline/heap/LongIntTable", name := "get", desc := "(J)I" } : Jvm.MethodName) prog_121_method_2_code (3 : Nat) (Option.some Jvm.ClassFile.FieldType.int), Jvm.Cond.code ({ cls := "com/example/rootline/rootline/heap/LongIntTable", name := "slot", desc := "([J[IJ)I" } : Jvm.MethodName) prog_121_method_6_code (6 : Nat) (Option.some Jvm.ClassFile.FieldType.int), Jvm.Cond.code ({ cls := "com/example/rootline/rootline/heap/LongIntTable", name := "home", desc := "(JI)I" } : Jvm.MethodName) prog_121_method_7_code (3 : Nat) (Option.some Jvm.ClassFile.FieldType.int), Jvm.Cond.code ({ cls := "com/example/rootline/rootline/heap/LongIntTable", name := "put", desc := "(JI)V" } : Jvm.MethodName) prog_121_method_3_code (5 : Nat) (Option.none : Option Jvm.ClassFile.FieldType), Jvm.Cond.code ({ cls := "com/example/rootline/rootline/reach/HolderSets", name := "holders", desc := "(I)[I" } : Jvm.MethodName) prog_179_method_5_code (5 : Nat) (Option.some (Jvm.ClassFile.FieldType.array Jvm.ClassFile.FieldType.int))]
set_option maxRecDepth 65536 in
theorem codes_eq : words1.filter isCode = codes1 := rfl
theorem w_codes : ∀ c ∈ words1.filter isCode, c.before args0 about1 = true := by
  rw [codes_eq]
  intro c hc
  simp only [codes1, List.mem_cons, List.not_mem_nil, or_false] at hc
  rcases hc with rfl | rfl | rfl | rfl | rfl | rfl | rfl | rfl | rfl | rfl | rfl | rfl | rfl
  · exact w_c0
  · exact w_c1
  · exact w_c2
  · exact w_c3
  · exact w_c4
  · exact w_c5
  · exact w_c6
  · exact w_c7
  · exact w_c8
  · exact w_c9
  · exact w_c10
  · exact w_c11
  · exact w_c12
set_option maxRecDepth 65536 in
theorem w_t1 : (words1.take 24).all (fun c => isCode c || c.before args0 about1) = true := by decide +kernel
set_option maxRecDepth 65536 in
theorem w_t2 : ((words1.drop 24).take 24).all (fun c => isCode c || c.before args0 about1) = true := by decide +kernel
set_option maxRecDepth 65536 in
theorem w_t3 : (((words1.drop 24).drop 24).take 24).all (fun c => isCode c || c.before args0 about1) = true := by decide +kernel
set_option maxRecDepth 65536 in
theorem w_t4 : (((words1.drop 24).drop 24).drop 24).all (fun c => isCode c || c.before args0 about1) = true := by decide +kernel
theorem w_tables : (allAtoms (Jvm.Cond.code x code maxLocals ret :: tables_1)).before args0 about1 = true := by
  rw [allAtoms_all]
  show words1.all (fun c => c.before args0 about1) = true
  refine all_split ?_ w_codes
  rw [← List.take_append_drop 24 words1, List.all_append, w_t1, ← List.take_append_drop 24 (words1.drop 24), List.all_append, w_t2, ← List.take_append_drop 24 ((words1.drop 24).drop 24), List.all_append, w_t3, w_t4]
  rfl
set_option maxRecDepth 65536 in
theorem w_case : (Jvm.Cond.and given_1 narrow_1).before args0 about1 = true := by decide +kernel
theorem w_applies : (headSpec (Jvm.Cond.code x code maxLocals ret :: tables_1) room_1).applies x e0.platform about1 = true :=
  (Spec.applies_iff w_frames).mpr ⟨w_running, w_runnable, w_alone, w_named, w_hears, w_ripe, w_room, w_tables⟩
theorem atStart : AtStart classFile x code maxLocals ret World_1 tables_1 room_1 Calls_1 rest_1 Pre_1 launch0 p0 e0 about1 theMethod args0 below0 :=
  ⟨lists_1, trivial, launch0.admits_env _ _ _, launch0.least_env, fairChoices_fair.cas, fairChoices_fair.clock, w_frames, w_args, w_heap, w_applies, trivial, trivial, w_case⟩
end start1
theorem witness_1 : WitnessClaimed_1 := ⟨start1.p0, start1.e0, start1.about1, start1.theMethod, start1.args0, start1.below0, start1.atStart⟩
end Jvm.Pilot.@@N@@
