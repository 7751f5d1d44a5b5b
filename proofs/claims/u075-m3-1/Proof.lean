import JvmDerived
import JvmDerived.Pilot.@@N@@Statement
import JvmDerived.Pilot.@@N@@Code
set_option linter.unusedVariables false
set_option linter.unusedSimpArgs false
namespace Jvm.RoadKit
open Sem ClassFile Op Lib Jvm.Stand Jvm.Free Jvm.LawKit
section New
variable {p : Program} {l : Launch} {e : Env} {R : Room} {s : State} {m : MethodId} {args : Array Value} {below : List Frame} {meth : Method} {c : Code} {T : State} {locs : List Loc} {cells slots : Nat}
theorem retI (X : Stand p l e R s m args below meth c T locs cells slots) (hx : p.tables.exec = Jvm.exec) {pc : Nat} {Ls : Array Slot} {z : Int32} {rest : List Value} (hret : meth.sig.returnType = some .int) (hd : decode c.code pc = .ok (.ireturn, 1)) {fs : List Frame}
    (hl : ∀ (f : JFrame) (acts : List Action), f.method = m → f.locked = none → f.entered = [] → (doReturn e (T.setTop f) acts (some (.int z))).1 = T.setFrames fs) : Steps p.tables e below (T.setTop (mkF m pc Ls (.int z :: rest))) (T.setFrames fs) := by
  have hm' : T.vm.method? m = some meth := X.method'
  have hn : narrow .int (.int z) = .int z := rfl
  show Steps p.tables e below (T.setTop { method := m, pc := pc, locals := Ls, stack := _ :: rest, locked := none }) _
  jvm_step X.here [X.here.top, hx, hd, hm', hret, hn]
  first | (intro acts; rw [hl _ acts rfl rfl rfl]) | rw [hl _ _ rfl rfl rfl]
  exact Steps.refl _
end New
end Jvm.RoadKit
namespace Jvm.Pilot.@@N@@
open Jvm Jvm.ClassFile Sem Op Lib Jvm.Free Jvm.Stand Jvm.LawKit Jvm.RoadKit Bundle Jvm.Free.SB Jvm.Free.SBG Jvm.Pilot.@@N@@.Jvm.D
def QP (w : Option Value) (h0 : Heap) (n0 : Nat) (v : Option Value) (h : Heap) (L : List Loc) : Prop := v = w ∧ Fr n0 L ∧ h = h0
def QL (n0 : Nat) (v : Option Value) (h : Heap) (L : List Loc) : Prop := v = some (.int (1 : Int32)) ∧ Fr n0 L
theorem own_stJ {p : Program} {l : Launch} {e : Env} {R : Room} {s : State} {m : MethodId} {args : Array Value} {below : List Frame} {meth : Method} {c : Code} {T : State} {locs : List Loc} {cells slots : Nat} {Z : State} {h : Heap} {a : Addr} {k : ClassId} {z : Int32} {vs : List Value} {dv : Value} {n0 : Nat}
    (X : Stand p l e R s m args below meth c T locs cells slots) (hx : p.tables.exec = Jvm.exec) (hZ : Z.Warmed39 s.vm) (eT : T.heap = h) (V : Arv Z h a k .long z vs dv) {j : Int32} {x : Int64} (hj : ¬ j < 0 ∧ j < z) {i : Nat} (hi : j.toNatClampNeg = i) (hl : i < vs.length) (N : Fr n0 locs) (ga : n0 ≤ a) {g : JFrame} (hg : g.method = m) {rest : List Value} (hs : g.stack = .long x :: .int j :: .ref a :: rest) (hd : decode c.code g.pc = .ok (.lastore, 1)) :
    ∃ T' h' L', Stand p l e R s m args below meth c T' L' cells slots ∧ T'.heap = h' ∧ Fr n0 L' ∧ Wr h h' a j.toNatClampNeg (.long x) ∧ Arv Z h' a k .long z (vs.set i (.long x)) dv ∧ ∀ target, Steps p.tables e below (T'.setTop { g with pc := g.pc + 1, stack := rest }) target → Steps p.tables e below (T.setTop g) target := by
  obtain ⟨cl, A, q1, S, q3, H, G⟩ := V
  obtain ⟨T', h', X', e', W, st⟩ := stJ X hx hZ eT A (inb_of S hj) hg hs hd
  exact ⟨T', h', _, X', e', Fr.snoc X' N ga, W, Arv.set A q1 S q3 H G rfl W i hi hl, st⟩
theorem own_stI {p : Program} {l : Launch} {e : Env} {R : Room} {s : State} {m : MethodId} {args : Array Value} {below : List Frame} {meth : Method} {c : Code} {T : State} {locs : List Loc} {cells slots : Nat} {Z : State} {h : Heap} {a : Addr} {k : ClassId} {z : Int32} {vs : List Value} {dv : Value} {n0 : Nat}
    (X : Stand p l e R s m args below meth c T locs cells slots) (hx : p.tables.exec = Jvm.exec) (hZ : Z.Warmed39 s.vm) (eT : T.heap = h) (V : Arv Z h a k .int z vs dv) {j : Int32} {x : Int32} (hj : ¬ j < 0 ∧ j < z) {i : Nat} (hi : j.toNatClampNeg = i) (hl : i < vs.length) (N : Fr n0 locs) (ga : n0 ≤ a) {g : JFrame} (hg : g.method = m) {rest : List Value} (hs : g.stack = .int x :: .int j :: .ref a :: rest) (hd : decode c.code g.pc = .ok (.iastore, 1)) :
    ∃ T' h' L', Stand p l e R s m args below meth c T' L' cells slots ∧ T'.heap = h' ∧ Fr n0 L' ∧ Wr h h' a j.toNatClampNeg (.int x) ∧ Arv Z h' a k .int z (vs.set i (.int x)) dv ∧ ∀ target, Steps p.tables e below (T'.setTop { g with pc := g.pc + 1, stack := rest }) target → Steps p.tables e below (T.setTop g) target := by
  obtain ⟨cl, A, q1, S, q3, H, G⟩ := V
  obtain ⟨T', h', X', e', W, st⟩ := stI X hx hZ eT A (inb_of S hj) hg hs hd
  exact ⟨T', h', _, X', e', Fr.snoc X' N ga, W, Arv.set A q1 S q3 H G rfl W i hi hl, st⟩
theorem own_stB {p : Program} {l : Launch} {e : Env} {R : Room} {s : State} {m : MethodId} {args : Array Value} {below : List Frame} {meth : Method} {c : Code} {T : State} {locs : List Loc} {cells slots : Nat} {Z : State} {h : Heap} {a : Addr} {k : ClassId} {z : Int32} {vs : List Value} {dv : Value} {n0 : Nat}
    (X : Stand p l e R s m args below meth c T locs cells slots) (hx : p.tables.exec = Jvm.exec) (hZ : Z.Warmed39 s.vm) (eT : T.heap = h) (V : Arv Z h a k .byte z vs dv) {j : Int32} {x : Int32} (hj : ¬ j < 0 ∧ j < z) {i : Nat} (hi : j.toNatClampNeg = i) (hl : i < vs.length) (N : Fr n0 locs) (ga : n0 ≤ a) {g : JFrame} (hg : g.method = m) {rest : List Value} (hs : g.stack = .int x :: .int j :: .ref a :: rest) (hd : decode c.code g.pc = .ok (.bastore, 1)) :
    ∃ T' h' L', Stand p l e R s m args below meth c T' L' cells slots ∧ T'.heap = h' ∧ Fr n0 L' ∧ Wr h h' a j.toNatClampNeg (.int (nar .byte x)) ∧ Arv Z h' a k .byte z (vs.set i (.int (nar .byte x))) dv ∧ ∀ target, Steps p.tables e below (T'.setTop { g with pc := g.pc + 1, stack := rest }) target → Steps p.tables e below (T.setTop g) target := by
  obtain ⟨cl, A, q1, S, q3, H, G⟩ := V
  obtain ⟨T', h', X', e', W, st⟩ := stB X hx hZ eT A (inb_of S hj) hg hs hd
  exact ⟨T', h', _, X', e', Fr.snoc X' N ga, W, Arv.set A q1 S q3 H G (fits_nar_byte _) W i hi hl, st⟩
theorem own_stC {p : Program} {l : Launch} {e : Env} {R : Room} {s : State} {m : MethodId} {args : Array Value} {below : List Frame} {meth : Method} {c : Code} {T : State} {locs : List Loc} {cells slots : Nat} {Z : State} {h : Heap} {a : Addr} {k : ClassId} {z : Int32} {vs : List Value} {dv : Value} {n0 : Nat}
    (X : Stand p l e R s m args below meth c T locs cells slots) (hx : p.tables.exec = Jvm.exec) (hZ : Z.Warmed39 s.vm) (eT : T.heap = h) (V : Arv Z h a k .char z vs dv) {j : Int32} {x : Int32} (hj : ¬ j < 0 ∧ j < z) {i : Nat} (hi : j.toNatClampNeg = i) (hl : i < vs.length) (N : Fr n0 locs) (ga : n0 ≤ a) {g : JFrame} (hg : g.method = m) {rest : List Value} (hs : g.stack = .int x :: .int j :: .ref a :: rest) (hd : decode c.code g.pc = .ok (.castore, 1)) :
    ∃ T' h' L', Stand p l e R s m args below meth c T' L' cells slots ∧ T'.heap = h' ∧ Fr n0 L' ∧ Wr h h' a j.toNatClampNeg (.int (nar .char x)) ∧ Arv Z h' a k .char z (vs.set i (.int (nar .char x))) dv ∧ ∀ target, Steps p.tables e below (T'.setTop { g with pc := g.pc + 1, stack := rest }) target → Steps p.tables e below (T.setTop g) target := by
  obtain ⟨cl, A, q1, S, q3, H, G⟩ := V
  obtain ⟨T', h', X', e', W, st⟩ := stC X hx hZ eT A (inb_of S hj) hg hs hd
  exact ⟨T', h', _, X', e', Fr.snoc X' N ga, W, Arv.set A q1 S q3 H G (fits_nar_char _) W i hi hl, st⟩
theorem own_ldJ {p : Program} {l : Launch} {e : Env} {R : Room} {s : State} {m : MethodId} {args : Array Value} {below : List Frame} {meth : Method} {c : Code} {T : State} {locs : List Loc} {cells slots : Nat} {Z : State} {h : Heap} {a : Addr} {k : ClassId} {z : Int32} {vs : List Value} {dv : Value} {w : Int64}
    (X : Stand p l e R s m args below meth c T locs cells slots) (hx : p.tables.exec = Jvm.exec) (hZ : Z.Warmed39 s.vm) (eT : T.heap = h) (V : Arv Z h a k .long z vs dv) {j : Int32} (hj : ¬ j < 0 ∧ j < z) (hv : vs.getD j.toNatClampNeg dv = .long w) {g : JFrame} (hg : g.method = m) {rest : List Value} (hs : g.stack = .int j :: .ref a :: rest) (hd : decode c.code g.pc = .ok (.laload, 1)) {target : State} (hr : Steps p.tables e below (T.setTop { g with pc := g.pc + 1, stack := .long w :: rest }) target) : Steps p.tables e below (T.setTop g) target := by
  obtain ⟨cl, A, q1, S, q3, H, G⟩ := V
  have hin := inb_of S hj
  exact X.laload hx (j := j) (v := .long w) (by rw [eT]; exact A.1) (State.isArrayOf_alike hZ.alike A.2.1) A.2.2 hin (H.at hin hv) (g := g) hg hs hd _ hr
theorem own_ldI {p : Program} {l : Launch} {e : Env} {R : Room} {s : State} {m : MethodId} {args : Array Value} {below : List Frame} {meth : Method} {c : Code} {T : State} {locs : List Loc} {cells slots : Nat} {Z : State} {h : Heap} {a : Addr} {k : ClassId} {z : Int32} {vs : List Value} {dv : Value} {w : Int32}
    (X : Stand p l e R s m args below meth c T locs cells slots) (hx : p.tables.exec = Jvm.exec) (hZ : Z.Warmed39 s.vm) (eT : T.heap = h) (V : Arv Z h a k .int z vs dv) {j : Int32} (hj : ¬ j < 0 ∧ j < z) (hv : vs.getD j.toNatClampNeg dv = .int w) {g : JFrame} (hg : g.method = m) {rest : List Value} (hs : g.stack = .int j :: .ref a :: rest) (hd : decode c.code g.pc = .ok (.iaload, 1)) {target : State} (hr : Steps p.tables e below (T.setTop { g with pc := g.pc + 1, stack := .int w :: rest }) target) : Steps p.tables e below (T.setTop g) target := by
  obtain ⟨cl, A, q1, S, q3, H, G⟩ := V
  have hin := inb_of S hj
  exact X.iaload hx (j := j) (v := .int w) (by rw [eT]; exact A.1) (State.isArrayOf_alike hZ.alike A.2.1) A.2.2 hin (H.at hin hv) (g := g) hg hs hd _ hr
theorem own_ldB {p : Program} {l : Launch} {e : Env} {R : Room} {s : State} {m : MethodId} {args : Array Value} {below : List Frame} {meth : Method} {c : Code} {T : State} {locs : List Loc} {cells slots : Nat} {Z : State} {h : Heap} {a : Addr} {k : ClassId} {z : Int32} {vs : List Value} {dv : Value} {w : Int32}
    (X : Stand p l e R s m args below meth c T locs cells slots) (hx : p.tables.exec = Jvm.exec) (hZ : Z.Warmed39 s.vm) (eT : T.heap = h) (V : Arv Z h a k .byte z vs dv) {j : Int32} (hj : ¬ j < 0 ∧ j < z) (hv : vs.getD j.toNatClampNeg dv = .int w) {g : JFrame} (hg : g.method = m) {rest : List Value} (hs : g.stack = .int j :: .ref a :: rest) (hd : decode c.code g.pc = .ok (.baload, 1)) {target : State} (hr : Steps p.tables e below (T.setTop { g with pc := g.pc + 1, stack := .int w :: rest }) target) : Steps p.tables e below (T.setTop g) target := by
  obtain ⟨cl, A, q1, S, q3, H, G⟩ := V
  have hin := inb_of S hj
  exact X.baloadBytes hx (j := j) (v := .int w) (by rw [eT]; exact A.1) (State.isArrayOf_alike hZ.alike A.2.1) A.2.2 hin (H.at hin hv) (g := g) hg hs hd _ hr
theorem own_ldC {p : Program} {l : Launch} {e : Env} {R : Room} {s : State} {m : MethodId} {args : Array Value} {below : List Frame} {meth : Method} {c : Code} {T : State} {locs : List Loc} {cells slots : Nat} {Z : State} {h : Heap} {a : Addr} {k : ClassId} {z : Int32} {vs : List Value} {dv : Value} {w : Int32}
    (X : Stand p l e R s m args below meth c T locs cells slots) (hx : p.tables.exec = Jvm.exec) (hZ : Z.Warmed39 s.vm) (eT : T.heap = h) (V : Arv Z h a k .char z vs dv) {j : Int32} (hj : ¬ j < 0 ∧ j < z) (hv : vs.getD j.toNatClampNeg dv = .int w) {g : JFrame} (hg : g.method = m) {rest : List Value} (hs : g.stack = .int j :: .ref a :: rest) (hd : decode c.code g.pc = .ok (.caload, 1)) {target : State} (hr : Steps p.tables e below (T.setTop { g with pc := g.pc + 1, stack := .int w :: rest }) target) : Steps p.tables e below (T.setTop g) target := by
  obtain ⟨cl, A, q1, S, q3, H, G⟩ := V
  have hin := inb_of S hj
  exact X.caload hx (j := j) (v := .int w) (by rw [eT]; exact A.1) (State.isArrayOf_alike hZ.alike A.2.1) A.2.2 hin (H.at hin hv) (g := g) hg hs hd _ hr
theorem own_len {p : Program} {l : Launch} {e : Env} {R : Room} {s : State} {m : MethodId} {args : Array Value} {below : List Frame} {meth : Method} {c : Code} {T : State} {locs : List Loc} {cells slots : Nat} {Z : State} {h : Heap} {a : Addr} {k : ClassId} {ty : FieldType} {z : Int32} {vs : List Value} {dv : Value}
    (X : Stand p l e R s m args below meth c T locs cells slots) (hx : p.tables.exec = Jvm.exec) (hZ : Z.Warmed39 s.vm) (eT : T.heap = h) (V : Arv Z h a k ty z vs dv) {g : JFrame} (hg : g.method = m) {rest : List Value} (hs : g.stack = .ref a :: rest) (hd : decode c.code g.pc = .ok (.arraylength, 1)) {target : State} (hr : Steps p.tables e below (T.setTop { g with pc := g.pc + 1, stack := .int z :: rest }) target) : Steps p.tables e below (T.setTop g) target := by
  obtain ⟨cl, A, q1, S, q3, H, G⟩ := V
  refine X.arraylength hx (by rw [eT]; exact A.1) (State.isArrayOf_alike hZ.alike A.2.1) (g := g) hg hs hd _ ?_
  rw [len_of S q3]; exact hr
theorem own_wS {Z : State} {a0 : Array Value} (hw : ∀ d ∈ tables_1, d.before a0 Z = true) : ∀ a ∈ Bundle.stringAtoms, a.before a0 Z = true := by
  intro a ha
  simp only [Bundle.stringAtoms, Bundle.sN, List.mem_cons, List.not_mem_nil, or_false] at ha
  rcases ha with rfl | rfl | rfl | rfl | rfl | rfl | rfl
  · exact hw _ (List.mem_of_getElem? (i := 3) rfl)
  · exact hw _ (List.mem_of_getElem? (i := 2) rfl)
  · exact hw _ (List.mem_of_getElem? (i := 15) rfl)
  · exact hw _ (List.mem_of_getElem? (i := 16) rfl)
  · exact hw _ (List.mem_of_getElem? (i := 17) rfl)
  · exact hw _ (List.mem_of_getElem? (i := 18) rfl)
  · exact hw _ (List.mem_of_getElem? (i := 19) rfl)
theorem own_EL {Z : State} {a0 : Array Value} (hw : ∀ d ∈ tables_1, d.before a0 Z = true) : EW Z a0 consts_1 := EW.cons (hw _ (List.mem_of_getElem? (i := 26) rfl)) (by decide) (EW.cons (hw _ (List.mem_of_getElem? (i := 59) rfl)) (by decide) (EW.cons (hw _ (List.mem_of_getElem? (i := 81) rfl)) (by decide) (EW.cons (hw _ (List.mem_of_getElem? (i := 14) rfl)) (by decide) (EW.nil))))
theorem own_Sta_old {Z : State} {h : Heap} {n0 : Nat} {C f d : String} {v : Value} (S : Sta Z Z.heap C f d v) (O : Old Z n0 h) : Sta Z h C f d v := by
  obtain ⟨cf, i, k, fl, st, cell, h1, h2, h3, h4, h5, h6, h7⟩ := S
  exact ⟨cf, i, k, fl, st, cell, h1, h2, h3, h4, O.2.2 st cell h5, h6, h7⟩
theorem own_safe_arr {Z : State} {EL : List (String × Nat)} {vm : Vm} {h : Heap} {a : Addr} {k : ClassId} {z : Int32} {vs : List Value} {dv : Value} (hal : Z.vm.Alike vm) (V : Arv Z h a k .char z vs dv) : Safe Z EL vm h a := by
  obtain ⟨c, A, -⟩ := V
  exact Safe.arr hal A (by decide)
theorem own_safe {Z : State} {EL : List (String × Nat)} {vm : Vm} {h : Heap} {x : Addr} (hal : Z.vm.Alike vm) (E : Exa Z h x "java/lang/String") (F : Fld Z h x "java/lang/String" "value" "[B" .null) : Safe Z EL vm h x := by
  rintro ⟨p, hp, u, a, hb, q, hq, S, hy⟩
  obtain ⟨ce, ke, e1, e2, e3, e4, -⟩ := E
  rcases hy with rfl | rfl
  · obtain ⟨cell, cf, k, i, f, f1, f2, f3, f4, f5, f6, f7⟩ := F
    have ha := S.ha
    cases (show h[q.sa]? = some q.sC from ha).symm.trans f1
    obtain ⟨cS, ⟨⟨-, -, -, ⟨c1, k1, i1, g1, -⟩, -, -, -, v1, -⟩, -⟩, -⟩ := S
    obtain ⟨k3, g3, -⟩ := State.fieldFound?_setVm (s := ({ Z with heap := h } : State)) hal (show ({ Z with heap := h } : State).fieldFound? "java/lang/String" "value" "[B" = _ from f2)
    have g4 := (show (Wst Z vm h).fieldFound? "java/lang/String" "value" "[B" = _ from g3).symm.trans g1
    simp only [Option.some.injEq, Prod.mk.injEq] at g4
    rw [← g4.2.2.2, f7] at v1
    cases v1
  · have hd := S.hd
    cases (show h[q.sd]? = some q.SA from hd).symm.trans e1
    obtain ⟨cS, -, -, hB, -⟩ := S
    have hB2 : Z.vm.findClass "[B" = some q.SA.cls := by rw [← hal.findClass]; exact hB
    exact ids_ne hB2 e2 (by decide) rfl
theorem own_Arv_same {Z : State} {h : Heap} {a : Addr} {k k' : ClassId} {ty ty' : FieldType} {z z' : Int32} {vs vs' : List Value} {d d' : Value} (V : Arv Z h a k ty z vs d) (V' : Arv Z h a k' ty' z' vs' d') : z = z' ∧ ∀ j, j < z.toNatClampNeg → vs.getD j d = vs'.getD j d' := by
  obtain ⟨c, A, -, S, M, H, -⟩ := V
  obtain ⟨c', A', -, S', M', H', -⟩ := V'
  cases A.1.symm.trans A'.1
  refine ⟨?_, fun j hj => ?_⟩
  · have e1 := len_of S M
    have e2 := len_of S' M'
    rw [← e1, ← e2]
  · have q1 := H j (by omega)
    have q2 := H' j (by omega)
    exact Option.some.inj (q1.symm.trans q2)
theorem own_str_same {Z : State} {h : Heap} {x y va vb : Addr} {k k' : ClassId} {z z' : Int32} {vs vs' : List Value} {d d' : Value} (F : Fld Z h x "java/lang/String" "value" "[B" (.ref va)) (G : Fld Z h y "java/lang/String" "value" "[B" (.ref vb)) (V : Arv Z h va k .byte z vs d) (V' : Arv Z h vb k' .byte z' vs' d') (q : x = y) : z = z' ∧ ∀ j, j < z.toNatClampNeg → vs.getD j d = vs'.getD j d' := by
  have e : va = vb := by
    apply Classical.byContradiction
    intro n
    exact Fld.ne F G (fun z => n (Value.ref.inj z)) q
  subst e
  exact own_Arv_same V V'
def own_b (c : Int32) : Int32 := nar .byte (c.toInt8.toInt32)
def own_c (u : Int32) : Int32 := ((u &&& (255 : Int32)).toUInt32.toUInt16.toUInt32.toInt32)
theorem own_cb (c : Int32) (h0 : ¬ ((255 : Int32) < c)) (h1 : ¬ (c < (0 : Int32))) : own_c (own_b c) = c ∧ (own_b c = (45 : Int32) ↔ c = (45 : Int32)) := by
  rw [Int32.lt_iff_toInt_lt] at h0 h1
  have c0 : (0 : Int32).toInt = 0 := rfl
  have c255 : (255 : Int32).toInt = 255 := rfl
  have c45 : (45 : Int32).toInt = 45 := rfl
  have q1 := c_i2b c
  have q2 := c_i2b (c.toInt8.toInt32)
  have q3 : own_b c = (c.toInt8.toInt32).toInt8.toInt32 := rfl
  have q4 := c_mask (own_b c) (255 : Int32) 8 (by decide) (by decide)
  rw [show ((2 ^ 8 : Nat) : Int) = 256 from rfl] at q4
  have q5 := c_i2c (own_b c &&& (255 : Int32))
  rw [← q3] at q2
  refine ⟨?_, ?_⟩
  · unfold own_c; rw [← Int32.toInt_inj]; omega
  · rw [← Int32.toInt_inj, ← Int32.toInt_inj]; omega
def QC5 (Z : State) (a : Addr) (k : ClassId) (n : Int32) (vs : List Value) (h0 : Heap) (n0 : Nat) (v : Option Value) (h : Heap) (L : List Loc) : Prop := v = some (.int n) ∧ Fr n0 L ∧ Keep h0 h [a] ∧ Arv Z h a k .byte n vs (.int (0 : Int32))
def QC3 (Z : State) (n : Int32) (vs : List Value) (h0 : Heap) (n0 : Nat) (v : Option Value) (h : Heap) (L : List Loc) : Prop := ∃ (r : Addr) (k : ClassId), v = some (.ref r) ∧ Fr n0 L ∧ Keep h0 h [] ∧ h0.size ≤ r ∧ Arv Z h r k .byte n vs (.int (0 : Int32))
def QSI (Z : State) (a : Addr) (n : Int32) (vs : List Value) (h0 : Heap) (n0 : Nat) (v : Option Value) (h : Heap) (L : List Loc) : Prop := v = none ∧ Fr n0 L ∧ Keep h0 h [a] ∧ Exa Z h a "java/lang/String" ∧ ∃ (va : Addr) (k : ClassId), Fld Z h a "java/lang/String" "value" "[B" (.ref va) ∧ Fld Z h a "java/lang/String" "coder" "B" (.int (0 : Int32)) ∧ Arv Z h va k .byte n vs (.int (0 : Int32))
def QNM (Z : State) (a : Addr) (h0 : Heap) (n0 : Nat) (v : Option Value) (h : Heap) (L : List Loc) : Prop := v = some (.ref a) ∧ Fr n0 L ∧ Keep h0 h []
def QND (Z : State) (n : Int32) (vs : List Value) (h0 : Heap) (n0 : Nat) (v : Option Value) (h : Heap) (L : List Loc) : Prop := ∃ (r b : Addr) (k : ClassId), v = some (.ref r) ∧ Fr n0 L ∧ Keep h0 h [] ∧ Exa Z h r "java/lang/String" ∧ Fld Z h r "java/lang/String" "coder" "B" (.int (0 : Int32)) ∧ Fld Z h r "java/lang/String" "value" "[B" (.ref b) ∧ Arv Z h b k .byte n vs (.int (0 : Int32))
theorem d10_0 : decode jdk_52_method_21_code 0 = .ok (.iconst 0, 1) := by decide +kernel
theorem d10_1 : decode jdk_52_method_21_code 1 = .ok (.istore 5, 2) := by decide +kernel
theorem d10_3 : decode jdk_52_method_21_code 3 = .ok (.iload 5, 2) := by decide +kernel
theorem d10_5 : decode jdk_52_method_21_code 5 = .ok (.iload 4, 2) := by decide +kernel
theorem d10_7 : decode jdk_52_method_21_code 7 = .ok (.if_icmp .ge 37, 3) := by decide +kernel
theorem d10_10 : decode jdk_52_method_21_code 10 = .ok (.aload_n 0, 1) := by decide +kernel
theorem d10_11 : decode jdk_52_method_21_code 11 = .ok (.iload_n 1, 1) := by decide +kernel
theorem d10_12 : decode jdk_52_method_21_code 12 = .ok (.caload, 1) := by decide +kernel
theorem d10_13 : decode jdk_52_method_21_code 13 = .ok (.istore 6, 2) := by decide +kernel
theorem d10_15 : decode jdk_52_method_21_code 15 = .ok (.iload 6, 2) := by decide +kernel
theorem d10_17 : decode jdk_52_method_21_code 17 = .ok (.sipush 255, 3) := by decide +kernel
theorem d10_20 : decode jdk_52_method_21_code 20 = .ok (.if_icmp .le 6, 3) := by decide +kernel
theorem d10_23 : decode jdk_52_method_21_code 23 = .ok (.iload 5, 2) := by decide +kernel
theorem d10_25 : decode jdk_52_method_21_code 25 = .ok (.ireturn, 1) := by decide +kernel
theorem d10_26 : decode jdk_52_method_21_code 26 = .ok (.aload_n 2, 1) := by decide +kernel
theorem d10_27 : decode jdk_52_method_21_code 27 = .ok (.iload_n 3, 1) := by decide +kernel
theorem d10_28 : decode jdk_52_method_21_code 28 = .ok (.iload 6, 2) := by decide +kernel
theorem d10_30 : decode jdk_52_method_21_code 30 = .ok (.i2b, 1) := by decide +kernel
theorem d10_31 : decode jdk_52_method_21_code 31 = .ok (.bastore, 1) := by decide +kernel
theorem d10_32 : decode jdk_52_method_21_code 32 = .ok (.iinc 1 1, 3) := by decide +kernel
theorem d10_35 : decode jdk_52_method_21_code 35 = .ok (.iinc 3 1, 3) := by decide +kernel
theorem d10_38 : decode jdk_52_method_21_code 38 = .ok (.iinc 5 1, 3) := by decide +kernel
theorem d10_41 : decode jdk_52_method_21_code 41 = .ok (.goto (-38), 3) := by decide +kernel
theorem d10_44 : decode jdk_52_method_21_code 44 = .ok (.iload 4, 2) := by decide +kernel
theorem d10_46 : decode jdk_52_method_21_code 46 = .ok (.ireturn, 1) := by decide +kernel
theorem pn_10 : plainName "java/lang/StringUTF16" = true := by first | (simp [plainName, overriddenIn]; done) | decide +kernel
theorem ef_10 (m : MethodId) (x0 : Addr) (x1 : Int32) (x2 : Addr) (x3 : Int32) (x4 : Int32) : entryFrame m #[(.ref x0), (.int x1), (.ref x2), (.int x3), (.int x4)] 7 = mkF m 0 #[.val (.ref x0), .val (.int x1), .val (.ref x2), .val (.int x3), .val (.int x4), .unset, .unset] [] := by first | (simp [entryFrame, mkF, argsToLocals, Value.category]; done) | rfl
theorem d9_0 : decode jdk_52_method_16_code 0 = .ok (.iload_n 2, 1) := by decide +kernel
theorem d9_1 : decode jdk_52_method_16_code 1 = .ok (.newarray .byte, 2) := by decide +kernel
theorem d9_3 : decode jdk_52_method_16_code 3 = .ok (.astore_n 3, 1) := by decide +kernel
theorem d9_4 : decode jdk_52_method_16_code 4 = .ok (.aload_n 0, 1) := by decide +kernel
theorem d9_5 : decode jdk_52_method_16_code 5 = .ok (.iload_n 1, 1) := by decide +kernel
theorem d9_6 : decode jdk_52_method_16_code 6 = .ok (.aload_n 3, 1) := by decide +kernel
theorem d9_7 : decode jdk_52_method_16_code 7 = .ok (.iconst 0, 1) := by decide +kernel
theorem d9_8 : decode jdk_52_method_16_code 8 = .ok (.iload_n 2, 1) := by decide +kernel
theorem d9_9 : decode jdk_52_method_16_code 9 = .ok (.invokestatic 115, 3) := by decide +kernel
theorem d9_12 : decode jdk_52_method_16_code 12 = .ok (.istore 4, 2) := by decide +kernel
theorem d9_14 : decode jdk_52_method_16_code 14 = .ok (.iload 4, 2) := by decide +kernel
theorem d9_16 : decode jdk_52_method_16_code 16 = .ok (.iload_n 2, 1) := by decide +kernel
theorem d9_17 : decode jdk_52_method_16_code 17 = .ok (.if_icmp .eq 40, 3) := by decide +kernel
theorem d9_20 : decode jdk_52_method_16_code 20 = .ok (.aload_n 0, 1) := by decide +kernel
theorem d9_21 : decode jdk_52_method_16_code 21 = .ok (.iload_n 1, 1) := by decide +kernel
theorem d9_22 : decode jdk_52_method_16_code 22 = .ok (.iload_n 2, 1) := by decide +kernel
theorem d9_23 : decode jdk_52_method_16_code 23 = .ok (.invokestatic 119, 3) := by decide +kernel
theorem d9_26 : decode jdk_52_method_16_code 26 = .ok (.astore 5, 2) := by decide +kernel
theorem d9_28 : decode jdk_52_method_16_code 28 = .ok (.aload 5, 2) := by decide +kernel
theorem d9_30 : decode jdk_52_method_16_code 30 = .ok (.iload 4, 2) := by decide +kernel
theorem d9_32 : decode jdk_52_method_16_code 32 = .ok (.invokestatic 71, 3) := by decide +kernel
theorem d9_35 : decode jdk_52_method_16_code 35 = .ok (.sipush 255, 3) := by decide +kernel
theorem d9_38 : decode jdk_52_method_16_code 38 = .ok (.if_icmp .gt 16, 3) := by decide +kernel
theorem d9_41 : decode jdk_52_method_16_code 41 = .ok (.aload 5, 2) := by decide +kernel
theorem d9_43 : decode jdk_52_method_16_code 43 = .ok (.iconst 0, 1) := by decide +kernel
theorem d9_44 : decode jdk_52_method_16_code 44 = .ok (.aload_n 3, 1) := by decide +kernel
theorem d9_45 : decode jdk_52_method_16_code 45 = .ok (.iconst 0, 1) := by decide +kernel
theorem d9_46 : decode jdk_52_method_16_code 46 = .ok (.iload_n 2, 1) := by decide +kernel
theorem d9_47 : decode jdk_52_method_16_code 47 = .ok (.invokestatic 123, 3) := by decide +kernel
theorem d9_50 : decode jdk_52_method_16_code 50 = .ok (.iload_n 2, 1) := by decide +kernel
theorem d9_51 : decode jdk_52_method_16_code 51 = .ok (.if_icmp .eq 6, 3) := by decide +kernel
theorem d9_54 : decode jdk_52_method_16_code 54 = .ok (.aload 5, 2) := by decide +kernel
theorem d9_56 : decode jdk_52_method_16_code 56 = .ok (.areturn, 1) := by decide +kernel
theorem d9_57 : decode jdk_52_method_16_code 57 = .ok (.aload_n 3, 1) := by decide +kernel
theorem d9_58 : decode jdk_52_method_16_code 58 = .ok (.areturn, 1) := by decide +kernel
theorem pn_9 : plainName "java/lang/StringUTF16" = true := by first | (simp [plainName, overriddenIn]; done) | decide +kernel
theorem ef_9 (m : MethodId) (x0 : Addr) (x1 : Int32) (x2 : Int32) : entryFrame m #[(.ref x0), (.int x1), (.int x2)] 6 = mkF m 0 #[.val (.ref x0), .val (.int x1), .val (.int x2), .unset, .unset, .unset] [] := by first | (simp [entryFrame, mkF, argsToLocals, Value.category]; done) | rfl
theorem d11_0 : decode jdk_52_method_15_code 0 = .ok (.iload_n 1, 1) := by decide +kernel
theorem d11_1 : decode jdk_52_method_15_code 1 = .ok (.aload_n 0, 1) := by decide +kernel
theorem d11_2 : decode jdk_52_method_15_code 2 = .ok (.arraylength, 1) := by decide +kernel
theorem d11_3 : decode jdk_52_method_15_code 3 = .ok (.isub, 1) := by decide +kernel
theorem d11_4 : decode jdk_52_method_15_code 4 = .ok (.bipush 31, 2) := by decide +kernel
theorem d11_6 : decode jdk_52_method_15_code 6 = .ok (.iushr, 1) := by decide +kernel
theorem d11_7 : decode jdk_52_method_15_code 7 = .ok (.i2b, 1) := by decide +kernel
theorem d11_8 : decode jdk_52_method_15_code 8 = .ok (.ireturn, 1) := by decide +kernel
theorem pn_11 : plainName "java/lang/StringUTF16" = true := by first | (simp [plainName, overriddenIn]; done) | decide +kernel
theorem ef_11 (m : MethodId) (x0 : Addr) (x1 : Int32) : entryFrame m #[(.ref x0), (.int x1)] 2 = mkF m 0 #[.val (.ref x0), .val (.int x1)] [] := by first | (simp [entryFrame, mkF, argsToLocals, Value.category]; done) | rfl
theorem d2_0 : decode jdk_42_method_149_code 0 = .ok (.aload_n 0, 1) := by decide +kernel
theorem d2_1 : decode jdk_42_method_149_code 1 = .ok (.invokespecial 1, 3) := by decide +kernel
theorem d2_4 : decode jdk_42_method_149_code 4 = .ok (.iload_n 3, 1) := by decide +kernel
theorem d2_5 : decode jdk_42_method_149_code 5 = .ok (.ifCond .ne 22, 3) := by decide +kernel
theorem d2_8 : decode jdk_42_method_149_code 8 = .ok (.aload_n 0, 1) := by decide +kernel
theorem d2_9 : decode jdk_42_method_149_code 9 = .ok (.ldc 7, 2) := by decide +kernel
theorem d2_11 : decode jdk_42_method_149_code 11 = .ok (.getfield 9, 3) := by decide +kernel
theorem d2_14 : decode jdk_42_method_149_code 14 = .ok (.putfield 9, 3) := by decide +kernel
theorem d2_17 : decode jdk_42_method_149_code 17 = .ok (.aload_n 0, 1) := by decide +kernel
theorem d2_18 : decode jdk_42_method_149_code 18 = .ok (.ldc 7, 2) := by decide +kernel
theorem d2_20 : decode jdk_42_method_149_code 20 = .ok (.getfield 15, 3) := by decide +kernel
theorem d2_23 : decode jdk_42_method_149_code 23 = .ok (.putfield 15, 3) := by decide +kernel
theorem d2_26 : decode jdk_42_method_149_code 26 = .ok (.return_, 1) := by decide +kernel
theorem d2_27 : decode jdk_42_method_149_code 27 = .ok (.getstatic 38, 3) := by decide +kernel
theorem d2_30 : decode jdk_42_method_149_code 30 = .ok (.ifCond .eq 28, 3) := by decide +kernel
theorem d2_33 : decode jdk_42_method_149_code 33 = .ok (.aload_n 1, 1) := by decide +kernel
theorem d2_34 : decode jdk_42_method_149_code 34 = .ok (.iload_n 2, 1) := by decide +kernel
theorem d2_35 : decode jdk_42_method_149_code 35 = .ok (.iload_n 3, 1) := by decide +kernel
theorem d2_36 : decode jdk_42_method_149_code 36 = .ok (.invokestatic 177, 3) := by decide +kernel
theorem d2_39 : decode jdk_42_method_149_code 39 = .ok (.astore 5, 2) := by decide +kernel
theorem d2_41 : decode jdk_42_method_149_code 41 = .ok (.aload_n 0, 1) := by decide +kernel
theorem d2_42 : decode jdk_42_method_149_code 42 = .ok (.aload 5, 2) := by decide +kernel
theorem d2_44 : decode jdk_42_method_149_code 44 = .ok (.iload_n 3, 1) := by decide +kernel
theorem d2_45 : decode jdk_42_method_149_code 45 = .ok (.invokestatic 47, 3) := by decide +kernel
theorem d2_48 : decode jdk_42_method_149_code 48 = .ok (.putfield 15, 3) := by decide +kernel
theorem d2_51 : decode jdk_42_method_149_code 51 = .ok (.aload_n 0, 1) := by decide +kernel
theorem d2_52 : decode jdk_42_method_149_code 52 = .ok (.aload 5, 2) := by decide +kernel
theorem d2_54 : decode jdk_42_method_149_code 54 = .ok (.putfield 9, 3) := by decide +kernel
theorem d2_57 : decode jdk_42_method_149_code 57 = .ok (.return_, 1) := by decide +kernel
theorem d2_58 : decode jdk_42_method_149_code 58 = .ok (.aload_n 0, 1) := by decide +kernel
theorem d2_59 : decode jdk_42_method_149_code 59 = .ok (.iconst 1, 1) := by decide +kernel
theorem d2_60 : decode jdk_42_method_149_code 60 = .ok (.putfield 15, 3) := by decide +kernel
theorem d2_63 : decode jdk_42_method_149_code 63 = .ok (.aload_n 0, 1) := by decide +kernel
theorem d2_64 : decode jdk_42_method_149_code 64 = .ok (.aload_n 1, 1) := by decide +kernel
theorem d2_65 : decode jdk_42_method_149_code 65 = .ok (.iload_n 2, 1) := by decide +kernel
theorem d2_66 : decode jdk_42_method_149_code 66 = .ok (.iload_n 3, 1) := by decide +kernel
theorem d2_67 : decode jdk_42_method_149_code 67 = .ok (.invokestatic 180, 3) := by decide +kernel
theorem d2_70 : decode jdk_42_method_149_code 70 = .ok (.putfield 9, 3) := by decide +kernel
theorem d2_73 : decode jdk_42_method_149_code 73 = .ok (.return_, 1) := by decide +kernel
theorem pn_2 : plainName "java/lang/String" = true := by first | (simp [plainName, overriddenIn]; done) | decide +kernel
theorem ef_2 (m : MethodId) (x0 : Addr) (x1 : Addr) (x2 : Int32) (x3 : Int32) (x4 : Addr) : entryFrame m #[(.ref x0), (.ref x1), (.int x2), (.int x3), (.ref x4)] 6 = mkF m 0 #[.val (.ref x0), .val (.ref x1), .val (.int x2), .val (.int x3), .val (.ref x4), .unset] [] := by first | (simp [entryFrame, mkF, argsToLocals, Value.category]; done) | rfl
theorem d1_0 : decode jdk_42_method_3_code 0 = .ok (.aload_n 0, 1) := by decide +kernel
theorem d1_1 : decode jdk_42_method_3_code 1 = .ok (.aload_n 1, 1) := by decide +kernel
theorem d1_2 : decode jdk_42_method_3_code 2 = .ok (.iconst 0, 1) := by decide +kernel
theorem d1_3 : decode jdk_42_method_3_code 3 = .ok (.aload_n 1, 1) := by decide +kernel
theorem d1_4 : decode jdk_42_method_3_code 4 = .ok (.arraylength, 1) := by decide +kernel
theorem d1_5 : decode jdk_42_method_3_code 5 = .ok (.aconst_null, 1) := by decide +kernel
theorem d1_6 : decode jdk_42_method_3_code 6 = .ok (.invokespecial 27, 3) := by decide +kernel
theorem d1_9 : decode jdk_42_method_3_code 9 = .ok (.return_, 1) := by decide +kernel
theorem pn_1 : plainName "java/lang/String" = true := by first | (simp [plainName, overriddenIn]; done) | decide +kernel
theorem ef_1 (m : MethodId) (x0 : Addr) (x1 : Addr) : entryFrame m #[(.ref x0), (.ref x1)] 2 = mkF m 0 #[.val (.ref x0), .val (.ref x1)] [] := by first | (simp [entryFrame, mkF, argsToLocals, Value.category]; done) | rfl
theorem d4_0 : decode prog_20_method_3_code 0 = .ok (.aload_n 0, 1) := by decide +kernel
theorem d4_1 : decode prog_20_method_3_code 1 = .ok (.ldc 7, 2) := by decide +kernel
theorem d4_3 : decode prog_20_method_3_code 3 = .ok (.invokevirtual 9, 3) := by decide +kernel
theorem d4_6 : decode prog_20_method_3_code 6 = .ok (.ifCond .eq 8, 3) := by decide +kernel
theorem d4_9 : decode prog_20_method_3_code 9 = .ok (.ldc 65, 2) := by decide +kernel
theorem d4_11 : decode prog_20_method_3_code 11 = .ok (.goto 4, 3) := by decide +kernel
theorem d4_14 : decode prog_20_method_3_code 14 = .ok (.aload_n 0, 1) := by decide +kernel
theorem d4_15 : decode prog_20_method_3_code 15 = .ok (.areturn, 1) := by decide +kernel
theorem pn_4 : plainName "com/example/skylattice/skylattice/cli/InputArgument" = true := by first | (simp [plainName, overriddenIn]; done) | decide +kernel
theorem ef_4 (m : MethodId) (x0 : Addr) : entryFrame m #[(.ref x0)] 1 = mkF m 0 #[.val (.ref x0)] [] := by first | (simp [entryFrame, mkF, argsToLocals, Value.category]; done) | rfl
theorem d5_0 : decode jdk_42_method_66_code 0 = .ok (.aload_n 0, 1) := by decide +kernel
theorem d5_1 : decode jdk_42_method_66_code 1 = .ok (.aload_n 1, 1) := by decide +kernel
theorem d5_2 : decode jdk_42_method_66_code 2 = .ok (.if_acmp .ne 5, 3) := by decide +kernel
theorem d5_5 : decode jdk_42_method_66_code 5 = .ok (.iconst 1, 1) := by decide +kernel
theorem d5_6 : decode jdk_42_method_66_code 6 = .ok (.ireturn, 1) := by decide +kernel
theorem d5_7 : decode jdk_42_method_66_code 7 = .ok (.aload_n 1, 1) := by decide +kernel
theorem d5_8 : decode jdk_42_method_66_code 8 = .ok (.instanceof 10, 3) := by decide +kernel
theorem d5_11 : decode jdk_42_method_66_code 11 = .ok (.ifCond .eq 43, 3) := by decide +kernel
theorem d5_14 : decode jdk_42_method_66_code 14 = .ok (.aload_n 1, 1) := by decide +kernel
theorem d5_15 : decode jdk_42_method_66_code 15 = .ok (.checkcast 10, 3) := by decide +kernel
theorem d5_18 : decode jdk_42_method_66_code 18 = .ok (.astore_n 2, 1) := by decide +kernel
theorem d5_19 : decode jdk_42_method_66_code 19 = .ok (.getstatic 38, 3) := by decide +kernel
theorem d5_22 : decode jdk_42_method_66_code 22 = .ok (.ifCond .eq 14, 3) := by decide +kernel
theorem d5_25 : decode jdk_42_method_66_code 25 = .ok (.aload_n 0, 1) := by decide +kernel
theorem d5_26 : decode jdk_42_method_66_code 26 = .ok (.getfield 15, 3) := by decide +kernel
theorem d5_29 : decode jdk_42_method_66_code 29 = .ok (.aload_n 2, 1) := by decide +kernel
theorem d5_30 : decode jdk_42_method_66_code 30 = .ok (.getfield 15, 3) := by decide +kernel
theorem d5_33 : decode jdk_42_method_66_code 33 = .ok (.if_icmp .ne 21, 3) := by decide +kernel
theorem d5_36 : decode jdk_42_method_66_code 36 = .ok (.aload_n 0, 1) := by decide +kernel
theorem d5_37 : decode jdk_42_method_66_code 37 = .ok (.getfield 9, 3) := by decide +kernel
theorem d5_40 : decode jdk_42_method_66_code 40 = .ok (.aload_n 2, 1) := by decide +kernel
theorem d5_41 : decode jdk_42_method_66_code 41 = .ok (.getfield 9, 3) := by decide +kernel
theorem d5_44 : decode jdk_42_method_66_code 44 = .ok (.invokestatic 541, 3) := by decide +kernel
theorem d5_47 : decode jdk_42_method_66_code 47 = .ok (.ifCond .eq 7, 3) := by decide +kernel
theorem d5_50 : decode jdk_42_method_66_code 50 = .ok (.iconst 1, 1) := by decide +kernel
theorem d5_51 : decode jdk_42_method_66_code 51 = .ok (.goto 4, 3) := by decide +kernel
theorem d5_54 : decode jdk_42_method_66_code 54 = .ok (.iconst 0, 1) := by decide +kernel
theorem d5_55 : decode jdk_42_method_66_code 55 = .ok (.ireturn, 1) := by decide +kernel
theorem pn_5 : plainName "java/lang/String" = true := by first | (simp [plainName, overriddenIn]; done) | decide +kernel
theorem ef_5 (m : MethodId) (x0 : Addr) (x1 : Addr) : entryFrame m #[(.ref x0), (.ref x1)] 3 = mkF m 0 #[.val (.ref x0), .val (.ref x1), .unset] [] := by first | (simp [entryFrame, mkF, argsToLocals, Value.category]; done) | rfl
theorem d6_0 : decode jdk_43_method_13_code 0 = .ok (.aload_n 0, 1) := by decide +kernel
theorem d6_1 : decode jdk_43_method_13_code 1 = .ok (.arraylength, 1) := by decide +kernel
theorem d6_2 : decode jdk_43_method_13_code 2 = .ok (.aload_n 1, 1) := by decide +kernel
theorem d6_3 : decode jdk_43_method_13_code 3 = .ok (.arraylength, 1) := by decide +kernel
theorem d6_4 : decode jdk_43_method_13_code 4 = .ok (.if_icmp .ne 30, 3) := by decide +kernel
theorem d6_7 : decode jdk_43_method_13_code 7 = .ok (.iconst 0, 1) := by decide +kernel
theorem d6_8 : decode jdk_43_method_13_code 8 = .ok (.istore_n 2, 1) := by decide +kernel
theorem d6_9 : decode jdk_43_method_13_code 9 = .ok (.iload_n 2, 1) := by decide +kernel
theorem d6_10 : decode jdk_43_method_13_code 10 = .ok (.aload_n 0, 1) := by decide +kernel
theorem d6_11 : decode jdk_43_method_13_code 11 = .ok (.arraylength, 1) := by decide +kernel
theorem d6_12 : decode jdk_43_method_13_code 12 = .ok (.if_icmp .ge 20, 3) := by decide +kernel
theorem d6_15 : decode jdk_43_method_13_code 15 = .ok (.aload_n 0, 1) := by decide +kernel
theorem d6_16 : decode jdk_43_method_13_code 16 = .ok (.iload_n 2, 1) := by decide +kernel
theorem d6_17 : decode jdk_43_method_13_code 17 = .ok (.baload, 1) := by decide +kernel
theorem d6_18 : decode jdk_43_method_13_code 18 = .ok (.aload_n 1, 1) := by decide +kernel
theorem d6_19 : decode jdk_43_method_13_code 19 = .ok (.iload_n 2, 1) := by decide +kernel
theorem d6_20 : decode jdk_43_method_13_code 20 = .ok (.baload, 1) := by decide +kernel
theorem d6_21 : decode jdk_43_method_13_code 21 = .ok (.if_icmp .eq 5, 3) := by decide +kernel
theorem d6_24 : decode jdk_43_method_13_code 24 = .ok (.iconst 0, 1) := by decide +kernel
theorem d6_25 : decode jdk_43_method_13_code 25 = .ok (.ireturn, 1) := by decide +kernel
theorem d6_26 : decode jdk_43_method_13_code 26 = .ok (.iinc 2 1, 3) := by decide +kernel
theorem d6_29 : decode jdk_43_method_13_code 29 = .ok (.goto (-20), 3) := by decide +kernel
theorem d6_32 : decode jdk_43_method_13_code 32 = .ok (.iconst 1, 1) := by decide +kernel
theorem d6_33 : decode jdk_43_method_13_code 33 = .ok (.ireturn, 1) := by decide +kernel
theorem d6_34 : decode jdk_43_method_13_code 34 = .ok (.iconst 0, 1) := by decide +kernel
theorem d6_35 : decode jdk_43_method_13_code 35 = .ok (.ireturn, 1) := by decide +kernel
theorem pn_6 : plainName "java/lang/StringLatin1" = true := by first | (simp [plainName, overriddenIn]; done) | decide +kernel
theorem ef_6 (m : MethodId) (x0 : Addr) (x1 : Addr) : entryFrame m #[(.ref x0), (.ref x1)] 3 = mkF m 0 #[.val (.ref x0), .val (.ref x1), .unset] [] := by first | (simp [entryFrame, mkF, argsToLocals, Value.category]; done) | rfl
theorem d7_0 : decode jdk_42_method_54_code 0 = .ok (.aload_n 0, 1) := by decide +kernel
theorem d7_1 : decode jdk_42_method_54_code 1 = .ok (.getfield 9, 3) := by decide +kernel
theorem d7_4 : decode jdk_42_method_54_code 4 = .ok (.arraylength, 1) := by decide +kernel
theorem d7_5 : decode jdk_42_method_54_code 5 = .ok (.aload_n 0, 1) := by decide +kernel
theorem d7_6 : decode jdk_42_method_54_code 6 = .ok (.invokevirtual 335, 3) := by decide +kernel
theorem d7_9 : decode jdk_42_method_54_code 9 = .ok (.ishr, 1) := by decide +kernel
theorem d7_10 : decode jdk_42_method_54_code 10 = .ok (.ireturn, 1) := by decide +kernel
theorem pn_7 : plainName "java/lang/String" = true := by first | (simp [plainName, overriddenIn]; done) | decide +kernel
theorem ef_7 (m : MethodId) (x0 : Addr) : entryFrame m #[(.ref x0)] 1 = mkF m 0 #[.val (.ref x0)] [] := by first | (simp [entryFrame, mkF, argsToLocals, Value.category]; done) | rfl
theorem d8_0 : decode jdk_42_method_152_code 0 = .ok (.getstatic 38, 3) := by decide +kernel
theorem d8_3 : decode jdk_42_method_152_code 3 = .ok (.ifCond .eq 10, 3) := by decide +kernel
theorem d8_6 : decode jdk_42_method_152_code 6 = .ok (.aload_n 0, 1) := by decide +kernel
theorem d8_7 : decode jdk_42_method_152_code 7 = .ok (.getfield 15, 3) := by decide +kernel
theorem d8_10 : decode jdk_42_method_152_code 10 = .ok (.goto 4, 3) := by decide +kernel
theorem d8_13 : decode jdk_42_method_152_code 13 = .ok (.iconst 1, 1) := by decide +kernel
theorem d8_14 : decode jdk_42_method_152_code 14 = .ok (.ireturn, 1) := by decide +kernel
theorem pn_8 : plainName "java/lang/String" = true := by first | (simp [plainName, overriddenIn]; done) | decide +kernel
theorem ef_8 (m : MethodId) (x0 : Addr) : entryFrame m #[(.ref x0)] 1 = mkF m 0 #[.val (.ref x0)] [] := by first | (simp [entryFrame, mkF, argsToLocals, Value.category]; done) | rfl
theorem d12_0 : decode jdk_42_method_56_code 0 = .ok (.aload_n 0, 1) := by decide +kernel
theorem d12_1 : decode jdk_42_method_56_code 1 = .ok (.invokevirtual 492, 3) := by decide +kernel
theorem d12_4 : decode jdk_42_method_56_code 4 = .ok (.ifCond .eq 12, 3) := by decide +kernel
theorem d12_7 : decode jdk_42_method_56_code 7 = .ok (.aload_n 0, 1) := by decide +kernel
theorem d12_8 : decode jdk_42_method_56_code 8 = .ok (.getfield 9, 3) := by decide +kernel
theorem d12_11 : decode jdk_42_method_56_code 11 = .ok (.iload_n 1, 1) := by decide +kernel
theorem d12_12 : decode jdk_42_method_56_code 12 = .ok (.invokestatic 495, 3) := by decide +kernel
theorem d12_15 : decode jdk_42_method_56_code 15 = .ok (.ireturn, 1) := by decide +kernel
theorem d12_16 : decode jdk_42_method_56_code 16 = .ok (.aload_n 0, 1) := by decide +kernel
theorem d12_17 : decode jdk_42_method_56_code 17 = .ok (.getfield 9, 3) := by decide +kernel
theorem d12_20 : decode jdk_42_method_56_code 20 = .ok (.iload_n 1, 1) := by decide +kernel
theorem d12_21 : decode jdk_42_method_56_code 21 = .ok (.invokestatic 498, 3) := by decide +kernel
theorem d12_24 : decode jdk_42_method_56_code 24 = .ok (.ireturn, 1) := by decide +kernel
theorem pn_12 : plainName "java/lang/String" = true := by first | (simp [plainName, overriddenIn]; done) | decide +kernel
theorem ef_12 (m : MethodId) (x0 : Addr) (x1 : Int32) : entryFrame m #[(.ref x0), (.int x1)] 2 = mkF m 0 #[.val (.ref x0), .val (.int x1)] [] := by first | (simp [entryFrame, mkF, argsToLocals, Value.category]; done) | rfl
theorem d13_0 : decode jdk_42_method_154_code 0 = .ok (.getstatic 38, 3) := by decide +kernel
theorem d13_3 : decode jdk_42_method_154_code 3 = .ok (.ifCond .eq 14, 3) := by decide +kernel
theorem d13_6 : decode jdk_42_method_154_code 6 = .ok (.aload_n 0, 1) := by decide +kernel
theorem d13_7 : decode jdk_42_method_154_code 7 = .ok (.getfield 15, 3) := by decide +kernel
theorem d13_10 : decode jdk_42_method_154_code 10 = .ok (.ifCond .ne 7, 3) := by decide +kernel
theorem d13_13 : decode jdk_42_method_154_code 13 = .ok (.iconst 1, 1) := by decide +kernel
theorem d13_14 : decode jdk_42_method_154_code 14 = .ok (.goto 4, 3) := by decide +kernel
theorem d13_17 : decode jdk_42_method_154_code 17 = .ok (.iconst 0, 1) := by decide +kernel
theorem d13_18 : decode jdk_42_method_154_code 18 = .ok (.ireturn, 1) := by decide +kernel
theorem pn_13 : plainName "java/lang/String" = true := by first | (simp [plainName, overriddenIn]; done) | decide +kernel
theorem ef_13 (m : MethodId) (x0 : Addr) : entryFrame m #[(.ref x0)] 1 = mkF m 0 #[.val (.ref x0)] [] := by first | (simp [entryFrame, mkF, argsToLocals, Value.category]; done) | rfl
theorem d14_0 : decode jdk_43_method_2_code 0 = .ok (.iload_n 1, 1) := by decide +kernel
theorem d14_1 : decode jdk_43_method_2_code 1 = .ok (.aload_n 0, 1) := by decide +kernel
theorem d14_2 : decode jdk_43_method_2_code 2 = .ok (.arraylength, 1) := by decide +kernel
theorem d14_3 : decode jdk_43_method_2_code 3 = .ok (.invokestatic 9, 3) := by decide +kernel
theorem d14_6 : decode jdk_43_method_2_code 6 = .ok (.aload_n 0, 1) := by decide +kernel
theorem d14_7 : decode jdk_43_method_2_code 7 = .ok (.iload_n 1, 1) := by decide +kernel
theorem d14_8 : decode jdk_43_method_2_code 8 = .ok (.baload, 1) := by decide +kernel
theorem d14_9 : decode jdk_43_method_2_code 9 = .ok (.sipush 255, 3) := by decide +kernel
theorem d14_12 : decode jdk_43_method_2_code 12 = .ok (.iand, 1) := by decide +kernel
theorem d14_13 : decode jdk_43_method_2_code 13 = .ok (.i2c, 1) := by decide +kernel
theorem d14_14 : decode jdk_43_method_2_code 14 = .ok (.ireturn, 1) := by decide +kernel
theorem pn_14 : plainName "java/lang/StringLatin1" = true := by first | (simp [plainName, overriddenIn]; done) | decide +kernel
theorem ef_14 (m : MethodId) (x0 : Addr) (x1 : Int32) : entryFrame m #[(.ref x0), (.int x1)] 2 = mkF m 0 #[.val (.ref x0), .val (.int x1)] [] := by first | (simp [entryFrame, mkF, argsToLocals, Value.category]; done) | rfl
theorem d15_0 : decode jdk_42_method_155_code 0 = .ok (.iload_n 0, 1) := by decide +kernel
theorem d15_1 : decode jdk_42_method_155_code 1 = .ok (.iload_n 1, 1) := by decide +kernel
theorem d15_2 : decode jdk_42_method_155_code 2 = .ok (.getstatic 1053, 3) := by decide +kernel
theorem d15_5 : decode jdk_42_method_155_code 5 = .ok (.invokestatic 1059, 3) := by decide +kernel
theorem d15_8 : decode jdk_42_method_155_code 8 = .ok (.pop, 1) := by decide +kernel
theorem d15_9 : decode jdk_42_method_155_code 9 = .ok (.return_, 1) := by decide +kernel
theorem pn_15 : plainName "java/lang/String" = true := by first | (simp [plainName, overriddenIn]; done) | decide +kernel
theorem ef_15 (m : MethodId) (x0 : Int32) (x1 : Int32) : entryFrame m #[(.int x0), (.int x1)] 2 = mkF m 0 #[.val (.int x0), .val (.int x1)] [] := by first | (simp [entryFrame, mkF, argsToLocals, Value.category]; done) | rfl
theorem d16_0 : decode jdk_41_method_11_code 0 = .ok (.iload_n 0, 1) := by decide +kernel
theorem d16_1 : decode jdk_41_method_11_code 1 = .ok (.ifCond .lt 8, 3) := by decide +kernel
theorem d16_4 : decode jdk_41_method_11_code 4 = .ok (.iload_n 0, 1) := by decide +kernel
theorem d16_5 : decode jdk_41_method_11_code 5 = .ok (.iload_n 1, 1) := by decide +kernel
theorem d16_6 : decode jdk_41_method_11_code 6 = .ok (.if_icmp .lt 10, 3) := by decide +kernel
theorem d16_9 : decode jdk_41_method_11_code 9 = .ok (.aload_n 2, 1) := by decide +kernel
theorem d16_10 : decode jdk_41_method_11_code 10 = .ok (.iload_n 0, 1) := by decide +kernel
theorem d16_11 : decode jdk_41_method_11_code 11 = .ok (.iload_n 1, 1) := by decide +kernel
theorem d16_12 : decode jdk_41_method_11_code 12 = .ok (.invokestatic 95, 3) := by decide +kernel
theorem d16_15 : decode jdk_41_method_11_code 15 = .ok (.athrow, 1) := by decide +kernel
theorem d16_16 : decode jdk_41_method_11_code 16 = .ok (.iload_n 0, 1) := by decide +kernel
theorem d16_17 : decode jdk_41_method_11_code 17 = .ok (.ireturn, 1) := by decide +kernel
theorem pn_16 : plainName "jdk/internal/util/Preconditions" = true := by first | (simp [plainName, overriddenIn]; done) | decide +kernel
theorem ef_16 (m : MethodId) (x0 : Int32) (x1 : Int32) (x2 : Addr) : entryFrame m #[(.int x0), (.int x1), (.ref x2)] 3 = mkF m 0 #[.val (.int x0), .val (.int x1), .val (.ref x2)] [] := by first | (simp [entryFrame, mkF, argsToLocals, Value.category]; done) | rfl
theorem pn_0 : plainName "com/example/skylattice/skylattice/cli/InputArgumentNamePinLaw" = true := by first | (simp [plainName, overriddenIn]; done) | decide +kernel
theorem ef_0 (m : MethodId) (x0 : Int32) (x1 : Int32) (x2 : Int32) (x3 : Int32) (x4 : Int32) : entryFrame m #[(.int x0), (.int x1), (.int x2), (.int x3), (.int x4)] maxLocals = mkF m 0 #[.val (.int x0), .val (.int x1), .val (.int x2), .val (.int x3), .val (.int x4), .unset, .unset, .unset, .unset, .unset, .unset, .unset, .unset] [] := by first | (simp [entryFrame, mkF, argsToLocals, Value.category, maxLocals]; done) | rfl
theorem ef_2_null (m : MethodId) (x0 : Addr) (x1 : Addr) (x2 : Int32) (x3 : Int32) : entryFrame m #[(.ref x0), (.ref x1), (.int x2), (.int x3), .null] 6 = mkF m 0 #[.val (.ref x0), .val (.ref x1), .val (.int x2), .val (.int x3), .val .null, .unset] [] := by first | (simp [entryFrame, mkF, argsToLocals, Value.category]; done) | rfl
theorem ef_16_null (m : MethodId) (x0 : Int32) (x1 : Int32) : entryFrame m #[(.int x0), (.int x1), .null] 3 = mkF m 0 #[.val (.int x0), .val (.int x1), .val .null] [] := by first | (simp [entryFrame, mkF, argsToLocals, Value.category]; done) | rfl
set_option maxRecDepth 65536 in
set_option maxHeartbeats 40000000 in
theorem rmc5_1 (l : Launch) (Z : State) (a0 : Array Value) (hw : ∀ d ∈ tables_1, d.before a0 Z = true) (ws : List Jvm.Cond) (x0 : Addr) (x2 : Addr) (k0 k2 : ClassId) (c0 : Int32) (h0 : Heap) (n0 : Nat) (Z0 : n0 ≤ h0.size) (V_x0 : Arv Z h0 x0 k0 .char (1 : Int32) [(.int c0)] (.int (0 : Int32))) (V_x2 : Arv Z h0 x2 k2 .byte (1 : Int32) [(.int (0 : Int32))] (.int (0 : Int32))) (g_x2 : n0 ≤ x2) (ne02 : x0 ≠ x2) (hc0 : ¬ ((255 : Int32) < c0)) :
    MetFree l (⟨"java/lang/StringUTF16", "compress", "([CI[BII)I"⟩ : MethodName) (head1 (Jvm.Cond.code (⟨"java/lang/StringUTF16", "compress", "([CI[BII)I"⟩ : MethodName) jdk_52_method_21_code 7 (some .int) :: ws) ({ frames := 0, cells := 0, slots := 0, locals := 0 } : Room)) (fun a U => a = #[(.ref x0), (.int (0 : Int32)), (.ref x2), (.int (0 : Int32)), (.int (1 : Int32))] ∧ Z.Warmed39 U.vm ∧ U.heap = h0) (fun _ _ _ _ _ => True) (fun _ U o U' => ∃ v L, o = .returned v ∧ (QC5 Z x2 k2 (1 : Int32) [(.int (own_b c0))] h0 n0 v U'.heap L) ∧ FrameEnd U o U' L ({ frames := 0, cells := 0, slots := 0, locals := 0 } : Room).cells ({ frames := 0, cells := 0, slots := 0, locals := 0 } : Room).slots) := by
  refine MetFree.of_bodySF (plainFor_of_name pn_10) hisR ?_
  intro p e s m args below meth c s₁ Bd hml0 hP hK
  obtain ⟨rfl, hZ, hh⟩ := hP
  have hx := Bd.exec
  have hby := Bd.bytes
  have hml : c.maxLocals = 7 := hml0
  have hown : s.vm.findClass "java/lang/StringUTF16" = some m.cls := findClass_of_methodNamed Bd.named
  have hnm := (name_of_methodNamed Bd.named Bd.method).1
  have X0 : Stand p l e ({ frames := 0, cells := 0, slots := 0, locals := 0 } : Room) s m #[(.ref x0), (.int (0 : Int32)), (.ref x2), (.int (0 : Int32)), (.int (1 : Int32))] below meth c s₁ [] 0 0 := Stand.of_body Bd
  have e0 : s₁.heap = h0 := by rw [← hh, Bd.state]; rfl
  have N0 := Fr.nil n0
  have pre0 : ∀ t, Steps p.tables e below (s₁.setTop (mkF m 0 #[.val (.ref x0), .val (.int (0 : Int32)), .val (.ref x2), .val (.int (0 : Int32)), .val (.int (1 : Int32)), .unset, .unset] [])) t → Steps p.tables e below (s₁.setTop (entryFrame m #[(.ref x0), (.int (0 : Int32)), (.ref x2), (.int (0 : Int32)), (.int (1 : Int32))] 7)) t := fun t k => castTop (ef_10 m x0 (0 : Int32) x2 (0 : Int32) (1 : Int32)) k
  have K0 : Keep h0 h0 [x2] := Keep.refl h0 [x2]
  obtain ⟨T1, h1, L1, X1, e1, N1, W1, V1, st1⟩ := own_stB X0 hx hZ e0 V_x2 (j := (0 : Int32)) ⟨by decide, by decide⟩ (i := 0) rfl (Nat.le_of_ble_eq_true rfl) N0 g_x2 (g := (mkF m 31 #[.val (.ref x0), .val (.int (0 : Int32)), .val (.ref x2), .val (.int (0 : Int32)), .val (.int (1 : Int32)), .val (.int (0 : Int32)), .val (.int c0)] [(.int (c0.toInt8.toInt32)), (.int (0 : Int32)), (.ref x2)])) rfl rfl (hb hby d10_31)
  have keep_2 : Keep h0 h1 [x2] := K0.wr W1 (Or.inl (List.mem_of_getElem? (i := 0) rfl))
  have V_x0_2 : Arv Z h1 x0 k0 .char (1 : Int32) [(.int c0)] (.int (0 : Int32)) := V_x0.other W1 ne02
  have siz_2 : n0 ≤ h1.size := Nat.le_trans Z0 (Keep.of_wr W1).1
  have V_x2_1 : Arv Z h1 x2 k2 .byte (1 : Int32) [(.int (nar .byte (c0.toInt8.toInt32)))] (.int (0 : Int32)) := V1
  obtain ⟨fs, hr, hrun, hended, hW, hsame⟩ := X1.leave (v := some (.int (1 : Int32))) (fun h => by rw [Bd.returns] at h; cases h)
  refine ⟨_, _, pre0 _ ?_, hrun, hended, _, _, rfl, ?_, ⟨_, rfl⟩, hW, hsame.mono (by decide) (by decide)⟩
  · show Steps p.tables e below (s₁.setTop (mkF m 0 #[.val (.ref x0), .val (.int (0 : Int32)), .val (.ref x2), .val (.int (0 : Int32)), .val (.int (1 : Int32)), .unset, .unset] [])) _
    refine XS.iconst X0.here hx rfl (hb hby d10_0) ?_
    show Steps p.tables e below (s₁.setTop (mkF m 1 #[.val (.ref x0), .val (.int (0 : Int32)), .val (.ref x2), .val (.int (0 : Int32)), .val (.int (1 : Int32)), .unset, .unset] [(.int (0 : Int32))])) _
    refine XS.istore X0.here hx rfl (hb hby d10_1) rfl (l' := #[.val (.ref x0), .val (.int (0 : Int32)), .val (.ref x2), .val (.int (0 : Int32)), .val (.int (1 : Int32)), .val (.int (0 : Int32)), .unset]) rfl ?_
    show Steps p.tables e below (s₁.setTop (mkF m 3 #[.val (.ref x0), .val (.int (0 : Int32)), .val (.ref x2), .val (.int (0 : Int32)), .val (.int (1 : Int32)), .val (.int (0 : Int32)), .unset] [])) _
    refine XS.iload X0.here hx rfl (hb hby d10_3) rfl ?_
    show Steps p.tables e below (s₁.setTop (mkF m 5 #[.val (.ref x0), .val (.int (0 : Int32)), .val (.ref x2), .val (.int (0 : Int32)), .val (.int (1 : Int32)), .val (.int (0 : Int32)), .unset] [(.int (0 : Int32))])) _
    refine XS.iload X0.here hx rfl (hb hby d10_5) rfl ?_
    show Steps p.tables e below (s₁.setTop (mkF m 7 #[.val (.ref x0), .val (.int (0 : Int32)), .val (.ref x2), .val (.int (0 : Int32)), .val (.int (1 : Int32)), .val (.int (0 : Int32)), .unset] [(.int (1 : Int32)), (.int (0 : Int32))])) _
    refine XS.icmpNo X0.here hx rfl (hb hby d10_7) rfl (tlt (by decide : (0 : Int32) < (1 : Int32))).2.1 ?_
    show Steps p.tables e below (s₁.setTop (mkF m 10 #[.val (.ref x0), .val (.int (0 : Int32)), .val (.ref x2), .val (.int (0 : Int32)), .val (.int (1 : Int32)), .val (.int (0 : Int32)), .unset] [])) _
    refine XS.aloadN X0.here hx rfl (hb hby d10_10) rfl rfl ?_
    show Steps p.tables e below (s₁.setTop (mkF m 11 #[.val (.ref x0), .val (.int (0 : Int32)), .val (.ref x2), .val (.int (0 : Int32)), .val (.int (1 : Int32)), .val (.int (0 : Int32)), .unset] [(.ref x0)])) _
    refine XS.iloadN X0.here hx rfl (hb hby d10_11) rfl ?_
    show Steps p.tables e below (s₁.setTop (mkF m 12 #[.val (.ref x0), .val (.int (0 : Int32)), .val (.ref x2), .val (.int (0 : Int32)), .val (.int (1 : Int32)), .val (.int (0 : Int32)), .unset] [(.int (0 : Int32)), (.ref x0)])) _
    refine own_ldC X0 hx hZ e0 V_x0 (j := (0 : Int32)) (w := c0) ⟨by decide, by decide⟩ rfl (g := (mkF m 12 #[.val (.ref x0), .val (.int (0 : Int32)), .val (.ref x2), .val (.int (0 : Int32)), .val (.int (1 : Int32)), .val (.int (0 : Int32)), .unset] [(.int (0 : Int32)), (.ref x0)])) rfl rfl (hb hby d10_12) ?_
    show Steps p.tables e below (s₁.setTop (mkF m 13 #[.val (.ref x0), .val (.int (0 : Int32)), .val (.ref x2), .val (.int (0 : Int32)), .val (.int (1 : Int32)), .val (.int (0 : Int32)), .unset] [(.int c0)])) _
    refine XS.istore X0.here hx rfl (hb hby d10_13) rfl (l' := #[.val (.ref x0), .val (.int (0 : Int32)), .val (.ref x2), .val (.int (0 : Int32)), .val (.int (1 : Int32)), .val (.int (0 : Int32)), .val (.int c0)]) rfl ?_
    show Steps p.tables e below (s₁.setTop (mkF m 15 #[.val (.ref x0), .val (.int (0 : Int32)), .val (.ref x2), .val (.int (0 : Int32)), .val (.int (1 : Int32)), .val (.int (0 : Int32)), .val (.int c0)] [])) _
    refine XS.iload X0.here hx rfl (hb hby d10_15) rfl ?_
    show Steps p.tables e below (s₁.setTop (mkF m 17 #[.val (.ref x0), .val (.int (0 : Int32)), .val (.ref x2), .val (.int (0 : Int32)), .val (.int (1 : Int32)), .val (.int (0 : Int32)), .val (.int c0)] [(.int c0)])) _
    refine XS.sipush X0.here hx rfl (hb hby d10_17) ?_
    show Steps p.tables e below (s₁.setTop (mkF m 20 #[.val (.ref x0), .val (.int (0 : Int32)), .val (.ref x2), .val (.int (0 : Int32)), .val (.int (1 : Int32)), .val (.int (0 : Int32)), .val (.int c0)] [(.int (255 : Int32)), (.int c0)])) _
    refine XS.icmpYes X0.here hx rfl (pc0 := 20) (pc' := 26) rfl (hb hby d10_20) rfl (flt hc0).2.2.2 (by decide) (by decide) ?_
    show Steps p.tables e below (s₁.setTop (mkF m 26 #[.val (.ref x0), .val (.int (0 : Int32)), .val (.ref x2), .val (.int (0 : Int32)), .val (.int (1 : Int32)), .val (.int (0 : Int32)), .val (.int c0)] [])) _
    refine XS.aloadN X0.here hx rfl (hb hby d10_26) rfl rfl ?_
    show Steps p.tables e below (s₁.setTop (mkF m 27 #[.val (.ref x0), .val (.int (0 : Int32)), .val (.ref x2), .val (.int (0 : Int32)), .val (.int (1 : Int32)), .val (.int (0 : Int32)), .val (.int c0)] [(.ref x2)])) _
    refine XS.iloadN X0.here hx rfl (hb hby d10_27) rfl ?_
    show Steps p.tables e below (s₁.setTop (mkF m 28 #[.val (.ref x0), .val (.int (0 : Int32)), .val (.ref x2), .val (.int (0 : Int32)), .val (.int (1 : Int32)), .val (.int (0 : Int32)), .val (.int c0)] [(.int (0 : Int32)), (.ref x2)])) _
    refine XS.iload X0.here hx rfl (hb hby d10_28) rfl ?_
    show Steps p.tables e below (s₁.setTop (mkF m 30 #[.val (.ref x0), .val (.int (0 : Int32)), .val (.ref x2), .val (.int (0 : Int32)), .val (.int (1 : Int32)), .val (.int (0 : Int32)), .val (.int c0)] [(.int c0), (.int (0 : Int32)), (.ref x2)])) _
    refine XS.i2b X0.here hx rfl (hb hby d10_30) rfl ?_
    show Steps p.tables e below (s₁.setTop (mkF m 31 #[.val (.ref x0), .val (.int (0 : Int32)), .val (.ref x2), .val (.int (0 : Int32)), .val (.int (1 : Int32)), .val (.int (0 : Int32)), .val (.int c0)] [(.int (c0.toInt8.toInt32)), (.int (0 : Int32)), (.ref x2)])) _
    refine st1 _ ?_
    show Steps p.tables e below (T1.setTop (mkF m 32 #[.val (.ref x0), .val (.int (0 : Int32)), .val (.ref x2), .val (.int (0 : Int32)), .val (.int (1 : Int32)), .val (.int (0 : Int32)), .val (.int c0)] [])) _
    refine XS.iinc X1.here hx rfl (hb hby d10_32) rfl (l' := #[.val (.ref x0), .val (.int ((0 : Int32) + (1 : Int32))), .val (.ref x2), .val (.int (0 : Int32)), .val (.int (1 : Int32)), .val (.int (0 : Int32)), .val (.int c0)]) rfl ?_
    show Steps p.tables e below (T1.setTop (mkF m 35 #[.val (.ref x0), .val (.int ((0 : Int32) + (1 : Int32))), .val (.ref x2), .val (.int (0 : Int32)), .val (.int (1 : Int32)), .val (.int (0 : Int32)), .val (.int c0)] [])) _
    rw [show ((0 : Int32) + (1 : Int32)) = (1 : Int32) from by decide]
    show Steps p.tables e below (T1.setTop (mkF m 35 #[.val (.ref x0), .val (.int (1 : Int32)), .val (.ref x2), .val (.int (0 : Int32)), .val (.int (1 : Int32)), .val (.int (0 : Int32)), .val (.int c0)] [])) _
    refine XS.iinc X1.here hx rfl (hb hby d10_35) rfl (l' := #[.val (.ref x0), .val (.int (1 : Int32)), .val (.ref x2), .val (.int ((0 : Int32) + (1 : Int32))), .val (.int (1 : Int32)), .val (.int (0 : Int32)), .val (.int c0)]) rfl ?_
    show Steps p.tables e below (T1.setTop (mkF m 38 #[.val (.ref x0), .val (.int (1 : Int32)), .val (.ref x2), .val (.int ((0 : Int32) + (1 : Int32))), .val (.int (1 : Int32)), .val (.int (0 : Int32)), .val (.int c0)] [])) _
    rw [show ((0 : Int32) + (1 : Int32)) = (1 : Int32) from by decide]
    show Steps p.tables e below (T1.setTop (mkF m 38 #[.val (.ref x0), .val (.int (1 : Int32)), .val (.ref x2), .val (.int (1 : Int32)), .val (.int (1 : Int32)), .val (.int (0 : Int32)), .val (.int c0)] [])) _
    refine XS.iinc X1.here hx rfl (hb hby d10_38) rfl (l' := #[.val (.ref x0), .val (.int (1 : Int32)), .val (.ref x2), .val (.int (1 : Int32)), .val (.int (1 : Int32)), .val (.int ((0 : Int32) + (1 : Int32))), .val (.int c0)]) rfl ?_
    show Steps p.tables e below (T1.setTop (mkF m 41 #[.val (.ref x0), .val (.int (1 : Int32)), .val (.ref x2), .val (.int (1 : Int32)), .val (.int (1 : Int32)), .val (.int ((0 : Int32) + (1 : Int32))), .val (.int c0)] [])) _
    rw [show ((0 : Int32) + (1 : Int32)) = (1 : Int32) from by decide]
    show Steps p.tables e below (T1.setTop (mkF m 41 #[.val (.ref x0), .val (.int (1 : Int32)), .val (.ref x2), .val (.int (1 : Int32)), .val (.int (1 : Int32)), .val (.int (1 : Int32)), .val (.int c0)] [])) _
    refine XS.goto X1.here hx rfl (pc0 := 41) (pc' := 3) rfl (hb hby d10_41) (by decide) (by decide) ?_
    show Steps p.tables e below (T1.setTop (mkF m 3 #[.val (.ref x0), .val (.int (1 : Int32)), .val (.ref x2), .val (.int (1 : Int32)), .val (.int (1 : Int32)), .val (.int (1 : Int32)), .val (.int c0)] [])) _
    refine XS.iload X1.here hx rfl (hb hby d10_3) rfl ?_
    show Steps p.tables e below (T1.setTop (mkF m 5 #[.val (.ref x0), .val (.int (1 : Int32)), .val (.ref x2), .val (.int (1 : Int32)), .val (.int (1 : Int32)), .val (.int (1 : Int32)), .val (.int c0)] [(.int (1 : Int32))])) _
    refine XS.iload X1.here hx rfl (hb hby d10_5) rfl ?_
    show Steps p.tables e below (T1.setTop (mkF m 7 #[.val (.ref x0), .val (.int (1 : Int32)), .val (.ref x2), .val (.int (1 : Int32)), .val (.int (1 : Int32)), .val (.int (1 : Int32)), .val (.int c0)] [(.int (1 : Int32)), (.int (1 : Int32))])) _
    refine XS.icmpYes X1.here hx rfl (pc0 := 7) (pc' := 44) rfl (hb hby d10_7) rfl (flt (by decide : ¬ ((1 : Int32) < (1 : Int32)))).2.1 (by decide) (by decide) ?_
    show Steps p.tables e below (T1.setTop (mkF m 44 #[.val (.ref x0), .val (.int (1 : Int32)), .val (.ref x2), .val (.int (1 : Int32)), .val (.int (1 : Int32)), .val (.int (1 : Int32)), .val (.int c0)] [])) _
    refine XS.iload X1.here hx rfl (hb hby d10_44) rfl ?_
    show Steps p.tables e below (T1.setTop (mkF m 46 #[.val (.ref x0), .val (.int (1 : Int32)), .val (.ref x2), .val (.int (1 : Int32)), .val (.int (1 : Int32)), .val (.int (1 : Int32)), .val (.int c0)] [(.int (1 : Int32))])) _
    exact retI X1 hx Bd.returns (hb hby d10_46) hr
  · exact (by
      have eT : (T1.setFrames fs).heap = h1 := e1
      rw [eT]; exact ⟨rfl, N1, keep_2, V_x2_1⟩)
theorem pd___CI_BII_I : parseMethodDescriptor "([CI[BII)I" = some ⟨[(.array .char), .int, (.array .byte), .int, .int], some .int⟩ := by decide +kernel
set_option maxRecDepth 65536 in
set_option maxHeartbeats 40000000 in
theorem rmc3_1 (l : Launch) (Z : State) (a0 : Array Value) (hw : ∀ d ∈ tables_1, d.before a0 Z = true) (ws : List Jvm.Cond) (x0 : Addr) (k0 : ClassId) (c0 : Int32) (h0 : Heap) (n0 : Nat) (Z0 : n0 ≤ h0.size) (V_x0 : Arv Z h0 x0 k0 .char (1 : Int32) [(.int c0)] (.int (0 : Int32))) (hc0 : ¬ ((255 : Int32) < c0)) :
    MetFree l (⟨"java/lang/StringUTF16", "compress", "([CII)[B"⟩ : MethodName) (head1 (Jvm.Cond.code (⟨"java/lang/StringUTF16", "compress", "([CII)[B"⟩ : MethodName) jdk_52_method_16_code 6 (some (.array .byte)) :: ws) ({ frames := 1, cells := 1, slots := 1, locals := 18 } : Room)) (fun a U => a = #[(.ref x0), (.int (0 : Int32)), (.int (1 : Int32))] ∧ Z.Warmed39 U.vm ∧ U.heap = h0) (fun _ _ _ _ _ => True) (fun _ U o U' => ∃ v L, o = .returned v ∧ (QC3 Z (1 : Int32) [(.int (own_b c0))] h0 n0 v U'.heap L) ∧ FrameEnd U o U' L ({ frames := 1, cells := 1, slots := 1, locals := 18 } : Room).cells ({ frames := 1, cells := 1, slots := 1, locals := 18 } : Room).slots) := by
  refine MetFree.of_bodySF (plainFor_of_name pn_9) hisR ?_
  intro p e s m args below meth c s₁ Bd hml0 hP hK
  obtain ⟨rfl, hZ, hh⟩ := hP
  have hx := Bd.exec
  have hby := Bd.bytes
  have hml : c.maxLocals = 6 := hml0
  have hown : s.vm.findClass "java/lang/StringUTF16" = some m.cls := findClass_of_methodNamed Bd.named
  have hnm := (name_of_methodNamed Bd.named Bd.method).1
  have X0 : Stand p l e ({ frames := 1, cells := 1, slots := 1, locals := 18 } : Room) s m #[(.ref x0), (.int (0 : Int32)), (.int (1 : Int32))] below meth c s₁ [] 0 0 := Stand.of_body Bd
  have e0 : s₁.heap = h0 := by rw [← hh, Bd.state]; rfl
  have N0 := Fr.nil n0
  have pre0 : ∀ t, Steps p.tables e below (s₁.setTop (mkF m 0 #[.val (.ref x0), .val (.int (0 : Int32)), .val (.int (1 : Int32)), .unset, .unset, .unset] [])) t → Steps p.tables e below (s₁.setTop (entryFrame m #[(.ref x0), (.int (0 : Int32)), (.int (1 : Int32))] 6)) t := fun t k => castTop (ef_9 m x0 (0 : Int32) (1 : Int32)) k
  have K0 : Keep h0 h0 [] := Keep.refl h0 []
  obtain ⟨T1, h1, k1, X1, e1, E1, A1, st1⟩ := newP X0 hx hZ (hw _ (List.mem_of_getElem? (i := 15) rfl)) e0 (g := (mkF m 1 #[.val (.ref x0), .val (.int (0 : Int32)), .val (.int (1 : Int32)), .unset, .unset, .unset] [(.int (1 : Int32))])) rfl (hb hby d9_1) rfl (by decide) (cap := 1) (by decide) (by decide) (by decide) (by decide)
  obtain ⟨r, g1⟩ : ∃ z, z = h0.size := ⟨_, rfl⟩
  rw [← g1] at A1 st1
  have V_r_1 : Arv Z h1 r k1 .byte (1 : Int32) [(.int (0 : Int32))] (.int (0 : Int32)) := (Arv.new A1 (by decide)).pad (pad_rep [] (.int (0 : Int32)) 1)
  have lt_x0_r : x0 < r := Nat.lt_of_lt_of_le V_x0.lt (Nat.le_of_eq g1.symm)
  have g_r : n0 ≤ r := Nat.le_trans Z0 (Nat.le_of_eq g1.symm)
  have sz_r : h0.size ≤ r := Nat.le_trans K0.1 (Nat.le_of_eq g1.symm)
  have keep_2 : Keep h0 h1 [] := K0.ext E1
  have V_x0_2 : Arv Z h1 x0 k0 .char (1 : Int32) [(.int c0)] (.int (0 : Int32)) := V_x0.ext E1
  have siz_2 : n0 ≤ h1.size := Nat.le_trans Z0 E1.1
  obtain ⟨_, _, ⟨T3, L3, k3, n3⟩, -, X3, ⟨Lc3, hQ3, l3, y3, z3⟩, st3⟩ := Jvm.LawKit.callS X1 hx (y := (⟨"java/lang/StringUTF16", "compress", "([CI[BII)I"⟩ : MethodName)) hown (mvT hZ (hw _ (List.mem_of_getElem? (i := 53) rfl))) (mvT hZ (hw _ (List.mem_of_getElem? (i := 54) rfl))) (mvT hZ (hw _ (List.mem_of_getElem? (i := 51) rfl))) (mvT hZ (hw _ (List.mem_of_getElem? (i := 55) rfl))) (by decide) (backOf (W := 0) (rmc5_1 l Z a0 hw [] x0 r k0 k1 c0 h1 n0 siz_2 V_x0_2 V_r_1 g_r (Nat.ne_of_lt lt_x0_r) hc0) hZ (hw _ (List.mem_of_getElem? (i := 55) rfl)) (hw _ (List.mem_of_getElem? (i := 51) rfl)) (by decide) (by decide)) (g := (mkF m 9 #[.val (.ref x0), .val (.int (0 : Int32)), .val (.int (1 : Int32)), .val (.ref r), .unset, .unset] [(.int (1 : Int32)), (.int (0 : Int32)), (.ref r), (.int (0 : Int32)), (.ref x0)])) rfl (by rw [hml]; rfl) (argsL := [(.ref x0), (.int (0 : Int32)), (.ref r), (.int (0 : Int32)), (.int (1 : Int32))]) (rest := []) (lenOf pd___CI_BII_I rfl) rfl (by show 2 * 0 + _ ≤ _; exact Nat.le_of_eq rfl) (hb hby d9_9) (fun _ _ => ⟨rfl, e1, (by decide : 1 + 0 ≤ _), (by decide : 1 + 0 ≤ _)⟩)
  dsimp only [Pt.U, Pt.locs, Pt.cells, Pt.slots] at X3 l3 y3 z3 st3 hQ3
  subst l3 y3 z3
  obtain ⟨rfl, N3q, K3, Vq3⟩ := hQ3
  have keep_4 : Keep h0 T3.heap [] := keep_2.trans K3 (allS (Or.inr sz_r) (all0))
  have V_x0_4 : Arv Z T3.heap x0 k0 .char (1 : Int32) [(.int c0)] (.int (0 : Int32)) := V_x0_2.keep K3 (ninS (Nat.ne_of_lt lt_x0_r) nin0)
  have siz_4 : n0 ≤ T3.heap.size := Nat.le_trans siz_2 K3.1
  have N3 := Fr.app N0 N3q
  obtain ⟨fs, hr, hrun, hended, hW, hsame⟩ := X3.leave (v := some (.ref r)) (fun h => by rw [Bd.returns] at h; cases h)
  refine ⟨_, _, pre0 _ ?_, hrun, hended, _, _, rfl, ?_, ⟨_, rfl⟩, hW, hsame.mono (by decide) (by decide)⟩
  · show Steps p.tables e below (s₁.setTop (mkF m 0 #[.val (.ref x0), .val (.int (0 : Int32)), .val (.int (1 : Int32)), .unset, .unset, .unset] [])) _
    refine XS.iloadN X0.here hx rfl (hb hby d9_0) rfl ?_
    show Steps p.tables e below (s₁.setTop (mkF m 1 #[.val (.ref x0), .val (.int (0 : Int32)), .val (.int (1 : Int32)), .unset, .unset, .unset] [(.int (1 : Int32))])) _
    refine st1 _ ?_
    show Steps p.tables e below (T1.setTop (mkF m 3 #[.val (.ref x0), .val (.int (0 : Int32)), .val (.int (1 : Int32)), .unset, .unset, .unset] [(.ref r)])) _
    refine XS.astoreN X1.here hx rfl (hb hby d9_3) rfl rfl (l' := #[.val (.ref x0), .val (.int (0 : Int32)), .val (.int (1 : Int32)), .val (.ref r), .unset, .unset]) rfl ?_
    show Steps p.tables e below (T1.setTop (mkF m 4 #[.val (.ref x0), .val (.int (0 : Int32)), .val (.int (1 : Int32)), .val (.ref r), .unset, .unset] [])) _
    refine XS.aloadN X1.here hx rfl (hb hby d9_4) rfl rfl ?_
    show Steps p.tables e below (T1.setTop (mkF m 5 #[.val (.ref x0), .val (.int (0 : Int32)), .val (.int (1 : Int32)), .val (.ref r), .unset, .unset] [(.ref x0)])) _
    refine XS.iloadN X1.here hx rfl (hb hby d9_5) rfl ?_
    show Steps p.tables e below (T1.setTop (mkF m 6 #[.val (.ref x0), .val (.int (0 : Int32)), .val (.int (1 : Int32)), .val (.ref r), .unset, .unset] [(.int (0 : Int32)), (.ref x0)])) _
    refine XS.aloadN X1.here hx rfl (hb hby d9_6) rfl rfl ?_
    show Steps p.tables e below (T1.setTop (mkF m 7 #[.val (.ref x0), .val (.int (0 : Int32)), .val (.int (1 : Int32)), .val (.ref r), .unset, .unset] [(.ref r), (.int (0 : Int32)), (.ref x0)])) _
    refine XS.iconst X1.here hx rfl (hb hby d9_7) ?_
    show Steps p.tables e below (T1.setTop (mkF m 8 #[.val (.ref x0), .val (.int (0 : Int32)), .val (.int (1 : Int32)), .val (.ref r), .unset, .unset] [(.int (0 : Int32)), (.ref r), (.int (0 : Int32)), (.ref x0)])) _
    refine XS.iloadN X1.here hx rfl (hb hby d9_8) rfl ?_
    show Steps p.tables e below (T1.setTop (mkF m 9 #[.val (.ref x0), .val (.int (0 : Int32)), .val (.int (1 : Int32)), .val (.ref r), .unset, .unset] [(.int (1 : Int32)), (.int (0 : Int32)), (.ref r), (.int (0 : Int32)), (.ref x0)])) _
    refine st3 _ ?_
    show Steps p.tables e below (T3.setTop (mkF m 12 #[.val (.ref x0), .val (.int (0 : Int32)), .val (.int (1 : Int32)), .val (.ref r), .unset, .unset] [(.int (1 : Int32))])) _
    refine XS.istore X3.here hx rfl (hb hby d9_12) rfl (l' := #[.val (.ref x0), .val (.int (0 : Int32)), .val (.int (1 : Int32)), .val (.ref r), .val (.int (1 : Int32)), .unset]) rfl ?_
    show Steps p.tables e below (T3.setTop (mkF m 14 #[.val (.ref x0), .val (.int (0 : Int32)), .val (.int (1 : Int32)), .val (.ref r), .val (.int (1 : Int32)), .unset] [])) _
    refine XS.iload X3.here hx rfl (hb hby d9_14) rfl ?_
    show Steps p.tables e below (T3.setTop (mkF m 16 #[.val (.ref x0), .val (.int (0 : Int32)), .val (.int (1 : Int32)), .val (.ref r), .val (.int (1 : Int32)), .unset] [(.int (1 : Int32))])) _
    refine XS.iloadN X3.here hx rfl (hb hby d9_16) rfl ?_
    show Steps p.tables e below (T3.setTop (mkF m 17 #[.val (.ref x0), .val (.int (0 : Int32)), .val (.int (1 : Int32)), .val (.ref r), .val (.int (1 : Int32)), .unset] [(.int (1 : Int32)), (.int (1 : Int32))])) _
    refine XS.icmpYes X3.here hx rfl (pc0 := 17) (pc' := 57) rfl (hb hby d9_17) rfl (teq (by decide : (1 : Int32) = (1 : Int32))).1 (by decide) (by decide) ?_
    show Steps p.tables e below (T3.setTop (mkF m 57 #[.val (.ref x0), .val (.int (0 : Int32)), .val (.int (1 : Int32)), .val (.ref r), .val (.int (1 : Int32)), .unset] [])) _
    refine XS.aloadN X3.here hx rfl (hb hby d9_57) rfl rfl ?_
    show Steps p.tables e below (T3.setTop (mkF m 58 #[.val (.ref x0), .val (.int (0 : Int32)), .val (.int (1 : Int32)), .val (.ref r), .val (.int (1 : Int32)), .unset] [(.ref r)])) _
    exact retOut X3 hx (t := (.array .byte)) (i := .areturn) Bd.returns rfl (Or.inr (Or.inr (Or.inr (Or.inr ⟨rfl, rfl, rfl⟩)))) (hb hby d9_58) hr
  · exact (by
      have eT : (T3.setFrames fs).heap = T3.heap := rfl
      rw [eT]; exact ⟨r, _, rfl, N3, keep_4, sz_r, Vq3⟩)
set_option maxRecDepth 65536 in
set_option maxHeartbeats 40000000 in
theorem rmcf_1 (l : Launch) (Z : State) (a0 : Array Value) (hw : ∀ d ∈ tables_1, d.before a0 Z = true) (ws : List Jvm.Cond) (x0 : Addr) (k0 : ClassId) (u0 : Int32) (h0 : Heap) (n0 : Nat) (Z0 : n0 ≤ h0.size) (V_x0 : Arv Z h0 x0 k0 .byte (1 : Int32) [(.int u0)] (.int (0 : Int32))) :
    MetFree l (⟨"java/lang/StringUTF16", "coderFromArrayLen", "([BI)B"⟩ : MethodName) (head1 (Jvm.Cond.code (⟨"java/lang/StringUTF16", "coderFromArrayLen", "([BI)B"⟩ : MethodName) jdk_52_method_15_code 2 (some .byte) :: ws) ({ frames := 0, cells := 0, slots := 0, locals := 0 } : Room)) (fun a U => a = #[(.ref x0), (.int (1 : Int32))] ∧ Z.Warmed39 U.vm ∧ U.heap = h0) (fun _ _ _ _ _ => True) (fun _ U o U' => ∃ v L, o = .returned v ∧ (QP (some (.int (0 : Int32))) h0 n0 v U'.heap L) ∧ FrameEnd U o U' L ({ frames := 0, cells := 0, slots := 0, locals := 0 } : Room).cells ({ frames := 0, cells := 0, slots := 0, locals := 0 } : Room).slots) := by
  refine MetFree.of_bodySF (plainFor_of_name pn_11) hisR ?_
  intro p e s m args below meth c s₁ Bd hml0 hP hK
  obtain ⟨rfl, hZ, hh⟩ := hP
  have hx := Bd.exec
  have hby := Bd.bytes
  have hml : c.maxLocals = 2 := hml0
  have hown : s.vm.findClass "java/lang/StringUTF16" = some m.cls := findClass_of_methodNamed Bd.named
  have hnm := (name_of_methodNamed Bd.named Bd.method).1
  have X0 : Stand p l e ({ frames := 0, cells := 0, slots := 0, locals := 0 } : Room) s m #[(.ref x0), (.int (1 : Int32))] below meth c s₁ [] 0 0 := Stand.of_body Bd
  have e0 : s₁.heap = h0 := by rw [← hh, Bd.state]; rfl
  have N0 := Fr.nil n0
  have pre0 : ∀ t, Steps p.tables e below (s₁.setTop (mkF m 0 #[.val (.ref x0), .val (.int (1 : Int32))] [])) t → Steps p.tables e below (s₁.setTop (entryFrame m #[(.ref x0), (.int (1 : Int32))] 2)) t := fun t k => castTop (ef_11 m x0 (1 : Int32)) k
  obtain ⟨fs, hr, hrun, hended, hW, hsame⟩ := X0.leave (v := some (.int (0 : Int32))) (fun h => by rw [Bd.returns] at h; cases h)
  refine ⟨_, _, pre0 _ ?_, hrun, hended, _, _, rfl, ?_, ⟨_, rfl⟩, hW, hsame.mono (by decide) (by decide)⟩
  · show Steps p.tables e below (s₁.setTop (mkF m 0 #[.val (.ref x0), .val (.int (1 : Int32))] [])) _
    refine XS.iloadN X0.here hx rfl (hb hby d11_0) rfl ?_
    show Steps p.tables e below (s₁.setTop (mkF m 1 #[.val (.ref x0), .val (.int (1 : Int32))] [(.int (1 : Int32))])) _
    refine XS.aloadN X0.here hx rfl (hb hby d11_1) rfl rfl ?_
    show Steps p.tables e below (s₁.setTop (mkF m 2 #[.val (.ref x0), .val (.int (1 : Int32))] [(.ref x0), (.int (1 : Int32))])) _
    refine own_len X0 hx hZ e0 V_x0 (g := (mkF m 2 #[.val (.ref x0), .val (.int (1 : Int32))] [(.ref x0), (.int (1 : Int32))])) rfl rfl (hb hby d11_2) ?_
    show Steps p.tables e below (s₁.setTop (mkF m 3 #[.val (.ref x0), .val (.int (1 : Int32))] [(.int (1 : Int32)), (.int (1 : Int32))])) _
    refine XS.isub X0.here hx rfl (hb hby d11_3) rfl ?_
    show Steps p.tables e below (s₁.setTop (mkF m 4 #[.val (.ref x0), .val (.int (1 : Int32))] [(.int ((1 : Int32) - (1 : Int32)))])) _
    rw [show ((1 : Int32) - (1 : Int32)) = (0 : Int32) from by decide]
    show Steps p.tables e below (s₁.setTop (mkF m 4 #[.val (.ref x0), .val (.int (1 : Int32))] [(.int (0 : Int32))])) _
    refine XS.bipush X0.here hx rfl (hb hby d11_4) ?_
    show Steps p.tables e below (s₁.setTop (mkF m 6 #[.val (.ref x0), .val (.int (1 : Int32))] [(.int (31 : Int32)), (.int (0 : Int32))])) _
    refine XS.iushr X0.here hx rfl (hb hby d11_6) rfl ?_
    show Steps p.tables e below (s₁.setTop (mkF m 7 #[.val (.ref x0), .val (.int (1 : Int32))] [(.int (((0 : Int32).toUInt32 >>> ((31 : Int32) &&& 31).toUInt32).toInt32))])) _
    rw [show (((0 : Int32).toUInt32 >>> ((31 : Int32) &&& 31).toUInt32).toInt32) = (0 : Int32) from by decide]
    show Steps p.tables e below (s₁.setTop (mkF m 7 #[.val (.ref x0), .val (.int (1 : Int32))] [(.int (0 : Int32))])) _
    refine XS.i2b X0.here hx rfl (hb hby d11_7) rfl ?_
    show Steps p.tables e below (s₁.setTop (mkF m 8 #[.val (.ref x0), .val (.int (1 : Int32))] [(.int ((0 : Int32).toInt8.toInt32))])) _
    show Steps p.tables e below (s₁.setTop (mkF m 8 #[.val (.ref x0), .val (.int (1 : Int32))] [(.int (0 : Int32))])) _
    exact retN X0 hx (t := .byte) Bd.returns (by simp) (hb hby d11_8) hr
  · exact ⟨rfl, N0, e0⟩
theorem pd___V : parseMethodDescriptor "()V" = some ⟨[], none⟩ := by decide +kernel
theorem pd___CII__B : parseMethodDescriptor "([CII)[B" = some ⟨[(.array .char), .int, .int], some (.array .byte)⟩ := by decide +kernel
theorem pd___BI_B : parseMethodDescriptor "([BI)B" = some ⟨[(.array .byte), .int], some .byte⟩ := by decide +kernel
set_option maxRecDepth 65536 in
set_option maxHeartbeats 40000000 in
theorem rms4_1 (l : Launch) (Z : State) (a0 : Array Value) (hw : ∀ d ∈ tables_1, d.before a0 Z = true) (ws : List Jvm.Cond) (x0 : Addr) (x1 : Addr) (k1 : ClassId) (c0 : Int32) (cs : Int32) (h0 : Heap) (n0 : Nat) (Z0 : n0 ≤ h0.size) (E_x0 : Exa Z h0 x0 "java/lang/String") (F_value_x0 : Fld Z h0 x0 "java/lang/String" "value" "[B" .null) (F_coder_x0 : Fld Z h0 x0 "java/lang/String" "coder" "B" (.int (0 : Int32))) (V_x1 : Arv Z h0 x1 k1 .char (1 : Int32) [(.int c0)] (.int (0 : Int32))) (g_x0 : n0 ≤ x0) (ne01 : x0 ≠ x1) (hc0 : ¬ ((255 : Int32) < c0)) (O0 : Old Z n0 h0) (S_CS : Sta Z Z.heap "java/lang/String" "COMPACT_STRINGS" "Z" (.int cs)) (hcs : ¬ (cs = (0 : Int32))) :
    MetFree l (⟨"java/lang/String", "<init>", "([CIILjava/lang/Void;)V"⟩ : MethodName) (head1 (Jvm.Cond.code (⟨"java/lang/String", "<init>", "([CIILjava/lang/Void;)V"⟩ : MethodName) jdk_42_method_149_code 6 none :: ws) ({ frames := 2, cells := 1, slots := 1, locals := 35 } : Room)) (fun a U => a = #[(.ref x0), (.ref x1), (.int (0 : Int32)), (.int (1 : Int32)), .null] ∧ Z.Warmed39 U.vm ∧ U.heap = h0) (fun _ _ _ _ _ => True) (fun _ U o U' => ∃ v L, o = .returned v ∧ (QSI Z x0 (1 : Int32) [(.int (own_b c0))] h0 n0 v U'.heap L) ∧ FrameEnd U o U' L ({ frames := 2, cells := 1, slots := 1, locals := 35 } : Room).cells ({ frames := 2, cells := 1, slots := 1, locals := 35 } : Room).slots) := by
  refine MetFree.of_bodySF (plainFor_of_name pn_2) hisR ?_
  intro p e s m args below meth c s₁ Bd hml0 hP hK
  obtain ⟨rfl, hZ, hh⟩ := hP
  have hx := Bd.exec
  have hby := Bd.bytes
  have hml : c.maxLocals = 6 := hml0
  have hown : s.vm.findClass "java/lang/String" = some m.cls := findClass_of_methodNamed Bd.named
  have hnm := (name_of_methodNamed Bd.named Bd.method).1
  have X0 : Stand p l e ({ frames := 2, cells := 1, slots := 1, locals := 35 } : Room) s m #[(.ref x0), (.ref x1), (.int (0 : Int32)), (.int (1 : Int32)), .null] below meth c s₁ [] 0 0 := Stand.of_body Bd
  have e0 : s₁.heap = h0 := by rw [← hh, Bd.state]; rfl
  have N0 := Fr.nil n0
  have pre0 : ∀ t, Steps p.tables e below (s₁.setTop (mkF m 0 #[.val (.ref x0), .val (.ref x1), .val (.int (0 : Int32)), .val (.int (1 : Int32)), .val .null, .unset] [])) t → Steps p.tables e below (s₁.setTop (entryFrame m #[(.ref x0), (.ref x1), (.int (0 : Int32)), (.int (1 : Int32)), .null] 6)) t := fun t k => castTop (ef_2_null m x0 x1 (0 : Int32) (1 : Int32)) k
  have K0 : Keep h0 h0 [x0] := Keep.refl h0 [x0]
  obtain ⟨T1, X1, e1, st1⟩ := initO X0 hx hZ hown (hw _ (List.mem_of_getElem? (i := 11) rfl)) (hw _ (List.mem_of_getElem? (i := 12) rfl)) (hw _ (List.mem_of_getElem? (i := 13) rfl)) e0 (g := (mkF m 1 #[.val (.ref x0), .val (.ref x1), .val (.int (0 : Int32)), .val (.int (1 : Int32)), .val .null, .unset] [(.ref x0)])) rfl (by rw [hml]; rfl) rfl (hb hby d2_1) (by decide) (W := 0) (by show 2 * 0 + _ ≤ _; exact Nat.le_of_eq rfl) (by decide)
  obtain ⟨T2, X2, e2, st2⟩ := getS2 X1 hx hZ hown (host := "") (Or.inl (hw _ (List.mem_of_getElem? (i := 33) rfl))) Via.refl e1 (own_Sta_old S_CS O0) (g := (mkF m 27 #[.val (.ref x0), .val (.ref x1), .val (.int (0 : Int32)), .val (.int (1 : Int32)), .val .null, .unset] [])) rfl (hb hby d2_27)
  obtain ⟨_, _, ⟨T3, L3, k3, n3⟩, -, X3, ⟨Lc3, hQ3, l3, y3, z3⟩, st3⟩ := Jvm.LawKit.callS X2 hx (y := (⟨"java/lang/StringUTF16", "compress", "([CII)[B"⟩ : MethodName)) hown (mvT hZ (hw _ (List.mem_of_getElem? (i := 49) rfl))) (mvT hZ (hw _ (List.mem_of_getElem? (i := 50) rfl))) (mvT hZ (hw _ (List.mem_of_getElem? (i := 51) rfl))) (mvT hZ (hw _ (List.mem_of_getElem? (i := 52) rfl))) (by decide) (backOf (W := 0) (rmc3_1 l Z a0 hw [] x1 k1 c0 h0 n0 Z0 V_x1 hc0) hZ (hw _ (List.mem_of_getElem? (i := 52) rfl)) (hw _ (List.mem_of_getElem? (i := 51) rfl)) (by decide) (by decide)) (g := (mkF m 36 #[.val (.ref x0), .val (.ref x1), .val (.int (0 : Int32)), .val (.int (1 : Int32)), .val .null, .unset] [(.int (1 : Int32)), (.int (0 : Int32)), (.ref x1)])) rfl (by rw [hml]; rfl) (argsL := [(.ref x1), (.int (0 : Int32)), (.int (1 : Int32))]) (rest := []) (lenOf pd___CII__B rfl) rfl (by show 2 * 0 + _ ≤ _; exact Nat.le_of_eq rfl) (hb hby d2_36) (fun _ _ => ⟨rfl, e2, (by decide : 0 + 1 ≤ _), (by decide : 0 + 1 ≤ _)⟩)
  dsimp only [Pt.U, Pt.locs, Pt.cells, Pt.slots] at X3 l3 y3 z3 st3 hQ3
  subst l3 y3 z3
  obtain ⟨va, kv, rfl, N3q, K3, sv3, Vq3⟩ := hQ3
  have lt_x0_va : x0 < va := Nat.lt_of_lt_of_le E_x0.lt sv3
  have lt_x1_va : x1 < va := Nat.lt_of_lt_of_le V_x1.lt sv3
  have keep_4 : Keep h0 T3.heap [x0] := K0.trans K3 (all0)
  have V_x1_4 : Arv Z T3.heap x1 k1 .char (1 : Int32) [(.int c0)] (.int (0 : Int32)) := V_x1.keep K3 nin0
  have E_x0_4 : Exa Z T3.heap x0 "java/lang/String" := E_x0.keep K3
  have F_value_x0_4 : Fld Z T3.heap x0 "java/lang/String" "value" "[B" .null := F_value_x0.keep K3 nin0
  have F_coder_x0_4 : Fld Z T3.heap x0 "java/lang/String" "coder" "B" (.int (0 : Int32)) := F_coder_x0.keep K3 nin0
  have old_4 : Old Z n0 T3.heap := O0.keep K3 (all0)
  have siz_4 : n0 ≤ T3.heap.size := Nat.le_trans Z0 K3.1
  have N3 := Fr.app N0 N3q
  obtain ⟨_, _, ⟨T5, L5, k5, n5⟩, -, X5, ⟨Lc5, hQ5, l5, y5, z5⟩, st5⟩ := Jvm.LawKit.callS X3 hx (y := (⟨"java/lang/StringUTF16", "coderFromArrayLen", "([BI)B"⟩ : MethodName)) hown (mvT hZ (hw _ (List.mem_of_getElem? (i := 56) rfl))) (mvT hZ (hw _ (List.mem_of_getElem? (i := 57) rfl))) (mvT hZ (hw _ (List.mem_of_getElem? (i := 51) rfl))) (mvT hZ (hw _ (List.mem_of_getElem? (i := 58) rfl))) (by decide) (backOf (W := 1) (rmcf_1 l Z a0 hw [] va kv (own_b c0) T3.heap n0 siz_4 Vq3) hZ (hw _ (List.mem_of_getElem? (i := 58) rfl)) (hw _ (List.mem_of_getElem? (i := 51) rfl)) (by decide) (by decide)) (g := (mkF m 45 #[.val (.ref x0), .val (.ref x1), .val (.int (0 : Int32)), .val (.int (1 : Int32)), .val .null, .val (.ref va)] [(.int (1 : Int32)), (.ref va), (.ref x0)])) rfl (by rw [hml]; rfl) (argsL := [(.ref va), (.int (1 : Int32))]) (rest := [(.ref x0)]) (lenOf pd___BI_B rfl) rfl (by show 2 * 0 + _ ≤ _; exact Nat.le_of_eq rfl) (hb hby d2_45) (fun _ _ => ⟨rfl, rfl, (by decide : 1 + 0 ≤ _), (by decide : 1 + 0 ≤ _)⟩)
  dsimp only [Pt.U, Pt.locs, Pt.cells, Pt.slots] at X5 l5 y5 z5 st5 hQ5
  subst l5 y5 z5
  obtain ⟨rfl, N5q, e5⟩ := hQ5
  have N5 := Fr.app N3 N5q
  obtain ⟨T6, h6, X6, e6, W6, st6⟩ := putFN X5 hx hZ hown (hw _ (List.mem_of_getElem? (i := 21) rfl)) Via.refl e5 F_coder_x0_4 E_x0_4 (Or.inr ⟨(hw _ (List.mem_of_getElem? (i := 17) rfl)), rfl, hnm⟩) (hw _ (List.mem_of_getElem? (i := 2) rfl)) (ty := .byte) (v' := (.int ((0 : Int32).toInt8.toInt32))) (by decide) rfl (fits_nar_byte _) (g := (mkF m 48 #[.val (.ref x0), .val (.ref x1), .val (.int (0 : Int32)), .val (.int (1 : Int32)), .val .null, .val (.ref va)] [(.int (0 : Int32)), (.ref x0)])) rfl rfl (hb hby d2_48)
  have N6 := Fr.snoc X6 N5 g_x0
  have keep_7 : Keep h0 h6 [x0] := keep_4.wr W6 (Or.inl (List.mem_of_getElem? (i := 0) rfl))
  have V_x1_7 : Arv Z h6 x1 k1 .char (1 : Int32) [(.int c0)] (.int (0 : Int32)) := V_x1_4.other W6 (Ne.symm ne01)
  have E_x0_7 : Exa Z h6 x0 "java/lang/String" := E_x0_4.wr W6
  have old_7 : Old Z n0 h6 := old_4.wr W6 g_x0
  have siz_7 : n0 ≤ h6.size := Nat.le_trans siz_4 (Keep.of_wr W6).1
  have V_va_7 : Arv Z h6 va kv .byte (1 : Int32) [(.int (own_b c0))] (.int (0 : Int32)) := Vq3.other W6 (Ne.symm (Nat.ne_of_lt lt_x0_va))
  have F_value_x0_6 : Fld Z h6 x0 "java/lang/String" "value" "[B" .null := F_value_x0_4.other W6 (Or.inr (slot_ne (Or.inr (hw _ (List.mem_of_getElem? (i := 16) rfl))) (Or.inr (hw _ (List.mem_of_getElem? (i := 17) rfl))) (by decide) (t := (.array .byte)) (t' := .byte) (by decide) (by decide)))
  have F_coder_x0_6 : Fld Z h6 x0 "java/lang/String" "coder" "B" (.int ((0 : Int32).toInt8.toInt32)) := F_coder_x0_4.same W6
  obtain ⟨T8, h8, X8, e8, W8, st8⟩ := putF X6 hx hZ hown (host := "") (Or.inl (hw _ (List.mem_of_getElem? (i := 20) rfl))) Via.refl e6 F_value_x0_6 E_x0_7 (Or.inr ⟨(hw _ (List.mem_of_getElem? (i := 16) rfl)), rfl, hnm⟩) (hw _ (List.mem_of_getElem? (i := 2) rfl)) (ty := (.array .byte)) (by decide) rfl rfl (g := (mkF m 54 #[.val (.ref x0), .val (.ref x1), .val (.int (0 : Int32)), .val (.int (1 : Int32)), .val .null, .val (.ref va)] [(.ref va), (.ref x0)])) rfl rfl (hb hby d2_54)
  have N8 := Fr.snoc X8 N6 g_x0
  have keep_9 : Keep h0 h8 [x0] := keep_7.wr W8 (Or.inl (List.mem_of_getElem? (i := 0) rfl))
  have V_x1_9 : Arv Z h8 x1 k1 .char (1 : Int32) [(.int c0)] (.int (0 : Int32)) := V_x1_7.other W8 (Ne.symm ne01)
  have E_x0_9 : Exa Z h8 x0 "java/lang/String" := E_x0_7.wr W8
  have old_9 : Old Z n0 h8 := old_7.wr W8 g_x0
  have siz_9 : n0 ≤ h8.size := Nat.le_trans siz_7 (Keep.of_wr W8).1
  have V_va_9 : Arv Z h8 va kv .byte (1 : Int32) [(.int (own_b c0))] (.int (0 : Int32)) := V_va_7.other W8 (Ne.symm (Nat.ne_of_lt lt_x0_va))
  have F_value_x0_8 : Fld Z h8 x0 "java/lang/String" "value" "[B" (.ref va) := F_value_x0_6.same W8
  have F_coder_x0_8 : Fld Z h8 x0 "java/lang/String" "coder" "B" (.int ((0 : Int32).toInt8.toInt32)) := F_coder_x0_6.other W8 (Or.inr (slot_ne (Or.inr (hw _ (List.mem_of_getElem? (i := 17) rfl))) (Or.inr (hw _ (List.mem_of_getElem? (i := 16) rfl))) (by decide) (t := .byte) (t' := (.array .byte)) (by decide) (by decide)))
  obtain ⟨fs, hr, hrun, hended, hW, hsame⟩ := X8.leave (v := none) (fun _ => rfl)
  refine ⟨_, _, pre0 _ ?_, hrun, hended, _, _, rfl, ?_, ⟨_, rfl⟩, hW, hsame.mono (by decide) (by decide)⟩
  · show Steps p.tables e below (s₁.setTop (mkF m 0 #[.val (.ref x0), .val (.ref x1), .val (.int (0 : Int32)), .val (.int (1 : Int32)), .val .null, .unset] [])) _
    refine XS.aloadN X0.here hx rfl (hb hby d2_0) rfl rfl ?_
    show Steps p.tables e below (s₁.setTop (mkF m 1 #[.val (.ref x0), .val (.ref x1), .val (.int (0 : Int32)), .val (.int (1 : Int32)), .val .null, .unset] [(.ref x0)])) _
    refine st1 _ ?_
    show Steps p.tables e below (T1.setTop (mkF m 4 #[.val (.ref x0), .val (.ref x1), .val (.int (0 : Int32)), .val (.int (1 : Int32)), .val .null, .unset] [])) _
    refine XS.iloadN X1.here hx rfl (hb hby d2_4) rfl ?_
    show Steps p.tables e below (T1.setTop (mkF m 5 #[.val (.ref x0), .val (.ref x1), .val (.int (0 : Int32)), .val (.int (1 : Int32)), .val .null, .unset] [(.int (1 : Int32))])) _
    refine XS.ifYes X1.here hx rfl (pc0 := 5) (pc' := 27) rfl (hb hby d2_5) rfl ((if0 _ _).trans (feq (by decide : ¬ ((1 : Int32) = (0 : Int32)))).2) (by decide) (by decide) ?_
    show Steps p.tables e below (T1.setTop (mkF m 27 #[.val (.ref x0), .val (.ref x1), .val (.int (0 : Int32)), .val (.int (1 : Int32)), .val .null, .unset] [])) _
    refine st2 _ ?_
    show Steps p.tables e below (T2.setTop (mkF m 30 #[.val (.ref x0), .val (.ref x1), .val (.int (0 : Int32)), .val (.int (1 : Int32)), .val .null, .unset] [(.int cs)])) _
    refine XS.ifNo X2.here hx rfl (hb hby d2_30) rfl ((if0 _ _).trans (feq hcs).1) ?_
    show Steps p.tables e below (T2.setTop (mkF m 33 #[.val (.ref x0), .val (.ref x1), .val (.int (0 : Int32)), .val (.int (1 : Int32)), .val .null, .unset] [])) _
    refine XS.aloadN X2.here hx rfl (hb hby d2_33) rfl rfl ?_
    show Steps p.tables e below (T2.setTop (mkF m 34 #[.val (.ref x0), .val (.ref x1), .val (.int (0 : Int32)), .val (.int (1 : Int32)), .val .null, .unset] [(.ref x1)])) _
    refine XS.iloadN X2.here hx rfl (hb hby d2_34) rfl ?_
    show Steps p.tables e below (T2.setTop (mkF m 35 #[.val (.ref x0), .val (.ref x1), .val (.int (0 : Int32)), .val (.int (1 : Int32)), .val .null, .unset] [(.int (0 : Int32)), (.ref x1)])) _
    refine XS.iloadN X2.here hx rfl (hb hby d2_35) rfl ?_
    show Steps p.tables e below (T2.setTop (mkF m 36 #[.val (.ref x0), .val (.ref x1), .val (.int (0 : Int32)), .val (.int (1 : Int32)), .val .null, .unset] [(.int (1 : Int32)), (.int (0 : Int32)), (.ref x1)])) _
    refine st3 _ ?_
    show Steps p.tables e below (T3.setTop (mkF m 39 #[.val (.ref x0), .val (.ref x1), .val (.int (0 : Int32)), .val (.int (1 : Int32)), .val .null, .unset] [(.ref va)])) _
    refine XS.astore X3.here hx rfl (hb hby d2_39) rfl rfl (l' := #[.val (.ref x0), .val (.ref x1), .val (.int (0 : Int32)), .val (.int (1 : Int32)), .val .null, .val (.ref va)]) rfl ?_
    show Steps p.tables e below (T3.setTop (mkF m 41 #[.val (.ref x0), .val (.ref x1), .val (.int (0 : Int32)), .val (.int (1 : Int32)), .val .null, .val (.ref va)] [])) _
    refine XS.aloadN X3.here hx rfl (hb hby d2_41) rfl rfl ?_
    show Steps p.tables e below (T3.setTop (mkF m 42 #[.val (.ref x0), .val (.ref x1), .val (.int (0 : Int32)), .val (.int (1 : Int32)), .val .null, .val (.ref va)] [(.ref x0)])) _
    refine XS.aload X3.here hx rfl (hb hby d2_42) rfl rfl ?_
    show Steps p.tables e below (T3.setTop (mkF m 44 #[.val (.ref x0), .val (.ref x1), .val (.int (0 : Int32)), .val (.int (1 : Int32)), .val .null, .val (.ref va)] [(.ref va), (.ref x0)])) _
    refine XS.iloadN X3.here hx rfl (hb hby d2_44) rfl ?_
    show Steps p.tables e below (T3.setTop (mkF m 45 #[.val (.ref x0), .val (.ref x1), .val (.int (0 : Int32)), .val (.int (1 : Int32)), .val .null, .val (.ref va)] [(.int (1 : Int32)), (.ref va), (.ref x0)])) _
    refine st5 _ ?_
    show Steps p.tables e below (T5.setTop (mkF m 48 #[.val (.ref x0), .val (.ref x1), .val (.int (0 : Int32)), .val (.int (1 : Int32)), .val .null, .val (.ref va)] [(.int (0 : Int32)), (.ref x0)])) _
    refine st6 _ ?_
    show Steps p.tables e below (T6.setTop (mkF m 51 #[.val (.ref x0), .val (.ref x1), .val (.int (0 : Int32)), .val (.int (1 : Int32)), .val .null, .val (.ref va)] [])) _
    refine XS.aloadN X6.here hx rfl (hb hby d2_51) rfl rfl ?_
    show Steps p.tables e below (T6.setTop (mkF m 52 #[.val (.ref x0), .val (.ref x1), .val (.int (0 : Int32)), .val (.int (1 : Int32)), .val .null, .val (.ref va)] [(.ref x0)])) _
    refine XS.aload X6.here hx rfl (hb hby d2_52) rfl rfl ?_
    show Steps p.tables e below (T6.setTop (mkF m 54 #[.val (.ref x0), .val (.ref x1), .val (.int (0 : Int32)), .val (.int (1 : Int32)), .val .null, .val (.ref va)] [(.ref va), (.ref x0)])) _
    refine st8 _ ?_
    show Steps p.tables e below (T8.setTop (mkF m 57 #[.val (.ref x0), .val (.ref x1), .val (.int (0 : Int32)), .val (.int (1 : Int32)), .val .null, .val (.ref va)] [])) _
    exact X8.returnOut hx Bd.returns (hb hby d2_57) hr
  · exact (by
      have eT : (T8.setFrames fs).heap = h8 := e8
      rw [eT]; exact ⟨rfl, N8, keep_9, E_x0_9, va, kv, F_value_x0_8, F_coder_x0_8, V_va_9⟩)
theorem pd___CIILjava_lang_Void__V : parseMethodDescriptor "([CIILjava/lang/Void;)V" = some ⟨[(.array .char), .int, .int, (.object "java/lang/Void")], none⟩ := by decide +kernel
set_option maxRecDepth 65536 in
set_option maxHeartbeats 40000000 in
theorem rms1_1 (l : Launch) (Z : State) (a0 : Array Value) (hw : ∀ d ∈ tables_1, d.before a0 Z = true) (ws : List Jvm.Cond) (x0 : Addr) (x1 : Addr) (k1 : ClassId) (c0 : Int32) (cs : Int32) (h0 : Heap) (n0 : Nat) (Z0 : n0 ≤ h0.size) (E_x0 : Exa Z h0 x0 "java/lang/String") (F_value_x0 : Fld Z h0 x0 "java/lang/String" "value" "[B" .null) (F_coder_x0 : Fld Z h0 x0 "java/lang/String" "coder" "B" (.int (0 : Int32))) (V_x1 : Arv Z h0 x1 k1 .char (1 : Int32) [(.int c0)] (.int (0 : Int32))) (g_x0 : n0 ≤ x0) (ne01 : x0 ≠ x1) (hc0 : ¬ ((255 : Int32) < c0)) (O0 : Old Z n0 h0) (S_CS : Sta Z Z.heap "java/lang/String" "COMPACT_STRINGS" "Z" (.int cs)) (hcs : ¬ (cs = (0 : Int32))) :
    MetFree l (⟨"java/lang/String", "<init>", "([C)V"⟩ : MethodName) (head1 (Jvm.Cond.code (⟨"java/lang/String", "<init>", "([C)V"⟩ : MethodName) jdk_42_method_3_code 2 none :: ws) ({ frames := 3, cells := 1, slots := 1, locals := 52 } : Room)) (fun a U => a = #[(.ref x0), (.ref x1)] ∧ Z.Warmed39 U.vm ∧ U.heap = h0) (fun _ _ _ _ _ => True) (fun _ U o U' => ∃ v L, o = .returned v ∧ (QSI Z x0 (1 : Int32) [(.int (own_b c0))] h0 n0 v U'.heap L) ∧ FrameEnd U o U' L ({ frames := 3, cells := 1, slots := 1, locals := 52 } : Room).cells ({ frames := 3, cells := 1, slots := 1, locals := 52 } : Room).slots) := by
  refine MetFree.of_bodySF (plainFor_of_name pn_1) hisR ?_
  intro p e s m args below meth c s₁ Bd hml0 hP hK
  obtain ⟨rfl, hZ, hh⟩ := hP
  have hx := Bd.exec
  have hby := Bd.bytes
  have hml : c.maxLocals = 2 := hml0
  have hown : s.vm.findClass "java/lang/String" = some m.cls := findClass_of_methodNamed Bd.named
  have hnm := (name_of_methodNamed Bd.named Bd.method).1
  have X0 : Stand p l e ({ frames := 3, cells := 1, slots := 1, locals := 52 } : Room) s m #[(.ref x0), (.ref x1)] below meth c s₁ [] 0 0 := Stand.of_body Bd
  have e0 : s₁.heap = h0 := by rw [← hh, Bd.state]; rfl
  have N0 := Fr.nil n0
  have pre0 : ∀ t, Steps p.tables e below (s₁.setTop (mkF m 0 #[.val (.ref x0), .val (.ref x1)] [])) t → Steps p.tables e below (s₁.setTop (entryFrame m #[(.ref x0), (.ref x1)] 2)) t := fun t k => castTop (ef_1 m x0 x1) k
  have K0 : Keep h0 h0 [x0] := Keep.refl h0 [x0]
  obtain ⟨_, _, ⟨T1, L1, k1, n1⟩, -, X1, ⟨Lc1, hQ1, l1, y1, z1⟩, st1⟩ := X0.specialBack hx (y := (⟨"java/lang/String", "<init>", "([CIILjava/lang/Void;)V"⟩ : MethodName)) rfl hown (mvT hZ (hw _ (List.mem_of_getElem? (i := 7) rfl))) (mvT hZ (hw _ (List.mem_of_getElem? (i := 8) rfl))) (mvT hZ (hw _ (List.mem_of_getElem? (i := 10) rfl))) (by decide) (backOf (W := 0) (rms4_1 l Z a0 hw [] x0 x1 k1 c0 cs h0 n0 Z0 E_x0 F_value_x0 F_coder_x0 V_x1 g_x0 ne01 hc0 O0 S_CS hcs) hZ (hw _ (List.mem_of_getElem? (i := 10) rfl)) (hw _ (List.mem_of_getElem? (i := 3) rfl)) (by decide) (by decide)) (g := (mkF m 6 #[.val (.ref x0), .val (.ref x1)] [.null, (.int (1 : Int32)), (.int (0 : Int32)), (.ref x1), (.ref x0)])) rfl (by rw [hml]; rfl) (Steps.refl _) (a := x0) (argsL := [(.ref x1), (.int (0 : Int32)), (.int (1 : Int32)), .null]) (rest := []) (lenOf pd___CIILjava_lang_Void__V rfl) rfl (by show 2 * 0 + _ ≤ _; exact Nat.le_of_eq rfl) (hb hby d1_6) (fun _ _ => ⟨rfl, e0, (by decide : 0 + 1 ≤ _), (by decide : 0 + 1 ≤ _)⟩)
  dsimp only [Pt.U, Pt.locs, Pt.cells, Pt.slots] at X1 l1 y1 z1 st1 hQ1
  subst l1 y1 z1
  obtain ⟨rfl, N1q, K1, Eq1, va, kv, Fq1, Fr1, Vq1⟩ := hQ1
  have keep_2 : Keep h0 T1.heap [x0] := K0.trans K1 (allS (Or.inl (List.mem_of_getElem? (i := 0) rfl)) (all0))
  have V_x1_2 : Arv Z T1.heap x1 k1 .char (1 : Int32) [(.int c0)] (.int (0 : Int32)) := V_x1.keep K1 (ninS (Ne.symm ne01) nin0)
  have old_2 : Old Z n0 T1.heap := O0.keep K1 (allS g_x0 (all0))
  have siz_2 : n0 ≤ T1.heap.size := Nat.le_trans Z0 K1.1
  have N1 := Fr.app N0 N1q
  obtain ⟨fs, hr, hrun, hended, hW, hsame⟩ := X1.leave (v := none) (fun _ => rfl)
  refine ⟨_, _, pre0 _ ?_, hrun, hended, _, _, rfl, ?_, ⟨_, rfl⟩, hW, hsame.mono (by decide) (by decide)⟩
  · show Steps p.tables e below (s₁.setTop (mkF m 0 #[.val (.ref x0), .val (.ref x1)] [])) _
    refine XS.aloadN X0.here hx rfl (hb hby d1_0) rfl rfl ?_
    show Steps p.tables e below (s₁.setTop (mkF m 1 #[.val (.ref x0), .val (.ref x1)] [(.ref x0)])) _
    refine XS.aloadN X0.here hx rfl (hb hby d1_1) rfl rfl ?_
    show Steps p.tables e below (s₁.setTop (mkF m 2 #[.val (.ref x0), .val (.ref x1)] [(.ref x1), (.ref x0)])) _
    refine XS.iconst X0.here hx rfl (hb hby d1_2) ?_
    show Steps p.tables e below (s₁.setTop (mkF m 3 #[.val (.ref x0), .val (.ref x1)] [(.int (0 : Int32)), (.ref x1), (.ref x0)])) _
    refine XS.aloadN X0.here hx rfl (hb hby d1_3) rfl rfl ?_
    show Steps p.tables e below (s₁.setTop (mkF m 4 #[.val (.ref x0), .val (.ref x1)] [(.ref x1), (.int (0 : Int32)), (.ref x1), (.ref x0)])) _
    refine own_len X0 hx hZ e0 V_x1 (g := (mkF m 4 #[.val (.ref x0), .val (.ref x1)] [(.ref x1), (.int (0 : Int32)), (.ref x1), (.ref x0)])) rfl rfl (hb hby d1_4) ?_
    show Steps p.tables e below (s₁.setTop (mkF m 5 #[.val (.ref x0), .val (.ref x1)] [(.int (1 : Int32)), (.int (0 : Int32)), (.ref x1), (.ref x0)])) _
    refine XS.aconstNull X0.here hx rfl (hb hby d1_5) ?_
    show Steps p.tables e below (s₁.setTop (mkF m 6 #[.val (.ref x0), .val (.ref x1)] [.null, (.int (1 : Int32)), (.int (0 : Int32)), (.ref x1), (.ref x0)])) _
    refine st1.trans ?_
    show Steps p.tables e below (T1.setTop (mkF m 9 #[.val (.ref x0), .val (.ref x1)] [])) _
    exact X1.returnOut hx Bd.returns (hb hby d1_9) hr
  · exact (by
      have eT : (T1.setFrames fs).heap = T1.heap := rfl
      rw [eT]; exact ⟨rfl, N1, keep_2, Eq1, va, kv, Fq1, Fr1, Vq1⟩)
set_option maxRecDepth 65536 in
set_option maxHeartbeats 40000000 in
theorem rmc5_2 (l : Launch) (Z : State) (a0 : Array Value) (hw : ∀ d ∈ tables_1, d.before a0 Z = true) (ws : List Jvm.Cond) (x0 : Addr) (x2 : Addr) (k0 k2 : ClassId) (c0 : Int32) (c1 : Int32) (h0 : Heap) (n0 : Nat) (Z0 : n0 ≤ h0.size) (V_x0 : Arv Z h0 x0 k0 .char (2 : Int32) [(.int c0), (.int c1)] (.int (0 : Int32))) (V_x2 : Arv Z h0 x2 k2 .byte (2 : Int32) [(.int (0 : Int32)), (.int (0 : Int32))] (.int (0 : Int32))) (g_x2 : n0 ≤ x2) (ne02 : x0 ≠ x2) (hc0 : ¬ ((255 : Int32) < c0)) (hc1 : ¬ ((255 : Int32) < c1)) :
    MetFree l (⟨"java/lang/StringUTF16", "compress", "([CI[BII)I"⟩ : MethodName) (head1 (Jvm.Cond.code (⟨"java/lang/StringUTF16", "compress", "([CI[BII)I"⟩ : MethodName) jdk_52_method_21_code 7 (some .int) :: ws) ({ frames := 0, cells := 0, slots := 0, locals := 0 } : Room)) (fun a U => a = #[(.ref x0), (.int (0 : Int32)), (.ref x2), (.int (0 : Int32)), (.int (2 : Int32))] ∧ Z.Warmed39 U.vm ∧ U.heap = h0) (fun _ _ _ _ _ => True) (fun _ U o U' => ∃ v L, o = .returned v ∧ (QC5 Z x2 k2 (2 : Int32) [(.int (own_b c0)), (.int (own_b c1))] h0 n0 v U'.heap L) ∧ FrameEnd U o U' L ({ frames := 0, cells := 0, slots := 0, locals := 0 } : Room).cells ({ frames := 0, cells := 0, slots := 0, locals := 0 } : Room).slots) := by
  refine MetFree.of_bodySF (plainFor_of_name pn_10) hisR ?_
  intro p e s m args below meth c s₁ Bd hml0 hP hK
  obtain ⟨rfl, hZ, hh⟩ := hP
  have hx := Bd.exec
  have hby := Bd.bytes
  have hml : c.maxLocals = 7 := hml0
  have hown : s.vm.findClass "java/lang/StringUTF16" = some m.cls := findClass_of_methodNamed Bd.named
  have hnm := (name_of_methodNamed Bd.named Bd.method).1
  have X0 : Stand p l e ({ frames := 0, cells := 0, slots := 0, locals := 0 } : Room) s m #[(.ref x0), (.int (0 : Int32)), (.ref x2), (.int (0 : Int32)), (.int (2 : Int32))] below meth c s₁ [] 0 0 := Stand.of_body Bd
  have e0 : s₁.heap = h0 := by rw [← hh, Bd.state]; rfl
  have N0 := Fr.nil n0
  have pre0 : ∀ t, Steps p.tables e below (s₁.setTop (mkF m 0 #[.val (.ref x0), .val (.int (0 : Int32)), .val (.ref x2), .val (.int (0 : Int32)), .val (.int (2 : Int32)), .unset, .unset] [])) t → Steps p.tables e below (s₁.setTop (entryFrame m #[(.ref x0), (.int (0 : Int32)), (.ref x2), (.int (0 : Int32)), (.int (2 : Int32))] 7)) t := fun t k => castTop (ef_10 m x0 (0 : Int32) x2 (0 : Int32) (2 : Int32)) k
  have K0 : Keep h0 h0 [x2] := Keep.refl h0 [x2]
  obtain ⟨T1, h1, L1, X1, e1, N1, W1, V1, st1⟩ := own_stB X0 hx hZ e0 V_x2 (j := (0 : Int32)) ⟨by decide, by decide⟩ (i := 0) rfl (Nat.le_of_ble_eq_true rfl) N0 g_x2 (g := (mkF m 31 #[.val (.ref x0), .val (.int (0 : Int32)), .val (.ref x2), .val (.int (0 : Int32)), .val (.int (2 : Int32)), .val (.int (0 : Int32)), .val (.int c0)] [(.int (c0.toInt8.toInt32)), (.int (0 : Int32)), (.ref x2)])) rfl rfl (hb hby d10_31)
  have keep_2 : Keep h0 h1 [x2] := K0.wr W1 (Or.inl (List.mem_of_getElem? (i := 0) rfl))
  have V_x0_2 : Arv Z h1 x0 k0 .char (2 : Int32) [(.int c0), (.int c1)] (.int (0 : Int32)) := V_x0.other W1 ne02
  have siz_2 : n0 ≤ h1.size := Nat.le_trans Z0 (Keep.of_wr W1).1
  have V_x2_1 : Arv Z h1 x2 k2 .byte (2 : Int32) [(.int (nar .byte (c0.toInt8.toInt32))), (.int (0 : Int32))] (.int (0 : Int32)) := V1
  obtain ⟨T3, h3, L3, X3, e3, N3, W3, V3, st3⟩ := own_stB X1 hx hZ e1 V_x2_1 (j := (1 : Int32)) ⟨by decide, by decide⟩ (i := 1) rfl (Nat.le_of_ble_eq_true rfl) N1 g_x2 (g := (mkF m 31 #[.val (.ref x0), .val (.int (1 : Int32)), .val (.ref x2), .val (.int (1 : Int32)), .val (.int (2 : Int32)), .val (.int (1 : Int32)), .val (.int c1)] [(.int (c1.toInt8.toInt32)), (.int (1 : Int32)), (.ref x2)])) rfl rfl (hb hby d10_31)
  have keep_4 : Keep h0 h3 [x2] := keep_2.wr W3 (Or.inl (List.mem_of_getElem? (i := 0) rfl))
  have V_x0_4 : Arv Z h3 x0 k0 .char (2 : Int32) [(.int c0), (.int c1)] (.int (0 : Int32)) := V_x0_2.other W3 ne02
  have siz_4 : n0 ≤ h3.size := Nat.le_trans siz_2 (Keep.of_wr W3).1
  have V_x2_3 : Arv Z h3 x2 k2 .byte (2 : Int32) [(.int (nar .byte (c0.toInt8.toInt32))), (.int (nar .byte (c1.toInt8.toInt32)))] (.int (0 : Int32)) := V3
  obtain ⟨fs, hr, hrun, hended, hW, hsame⟩ := X3.leave (v := some (.int (2 : Int32))) (fun h => by rw [Bd.returns] at h; cases h)
  refine ⟨_, _, pre0 _ ?_, hrun, hended, _, _, rfl, ?_, ⟨_, rfl⟩, hW, hsame.mono (by decide) (by decide)⟩
  · show Steps p.tables e below (s₁.setTop (mkF m 0 #[.val (.ref x0), .val (.int (0 : Int32)), .val (.ref x2), .val (.int (0 : Int32)), .val (.int (2 : Int32)), .unset, .unset] [])) _
    refine XS.iconst X0.here hx rfl (hb hby d10_0) ?_
    show Steps p.tables e below (s₁.setTop (mkF m 1 #[.val (.ref x0), .val (.int (0 : Int32)), .val (.ref x2), .val (.int (0 : Int32)), .val (.int (2 : Int32)), .unset, .unset] [(.int (0 : Int32))])) _
    refine XS.istore X0.here hx rfl (hb hby d10_1) rfl (l' := #[.val (.ref x0), .val (.int (0 : Int32)), .val (.ref x2), .val (.int (0 : Int32)), .val (.int (2 : Int32)), .val (.int (0 : Int32)), .unset]) rfl ?_
    show Steps p.tables e below (s₁.setTop (mkF m 3 #[.val (.ref x0), .val (.int (0 : Int32)), .val (.ref x2), .val (.int (0 : Int32)), .val (.int (2 : Int32)), .val (.int (0 : Int32)), .unset] [])) _
    refine XS.iload X0.here hx rfl (hb hby d10_3) rfl ?_
    show Steps p.tables e below (s₁.setTop (mkF m 5 #[.val (.ref x0), .val (.int (0 : Int32)), .val (.ref x2), .val (.int (0 : Int32)), .val (.int (2 : Int32)), .val (.int (0 : Int32)), .unset] [(.int (0 : Int32))])) _
    refine XS.iload X0.here hx rfl (hb hby d10_5) rfl ?_
    show Steps p.tables e below (s₁.setTop (mkF m 7 #[.val (.ref x0), .val (.int (0 : Int32)), .val (.ref x2), .val (.int (0 : Int32)), .val (.int (2 : Int32)), .val (.int (0 : Int32)), .unset] [(.int (2 : Int32)), (.int (0 : Int32))])) _
    refine XS.icmpNo X0.here hx rfl (hb hby d10_7) rfl (tlt (by decide : (0 : Int32) < (2 : Int32))).2.1 ?_
    show Steps p.tables e below (s₁.setTop (mkF m 10 #[.val (.ref x0), .val (.int (0 : Int32)), .val (.ref x2), .val (.int (0 : Int32)), .val (.int (2 : Int32)), .val (.int (0 : Int32)), .unset] [])) _
    refine XS.aloadN X0.here hx rfl (hb hby d10_10) rfl rfl ?_
    show Steps p.tables e below (s₁.setTop (mkF m 11 #[.val (.ref x0), .val (.int (0 : Int32)), .val (.ref x2), .val (.int (0 : Int32)), .val (.int (2 : Int32)), .val (.int (0 : Int32)), .unset] [(.ref x0)])) _
    refine XS.iloadN X0.here hx rfl (hb hby d10_11) rfl ?_
    show Steps p.tables e below (s₁.setTop (mkF m 12 #[.val (.ref x0), .val (.int (0 : Int32)), .val (.ref x2), .val (.int (0 : Int32)), .val (.int (2 : Int32)), .val (.int (0 : Int32)), .unset] [(.int (0 : Int32)), (.ref x0)])) _
    refine own_ldC X0 hx hZ e0 V_x0 (j := (0 : Int32)) (w := c0) ⟨by decide, by decide⟩ rfl (g := (mkF m 12 #[.val (.ref x0), .val (.int (0 : Int32)), .val (.ref x2), .val (.int (0 : Int32)), .val (.int (2 : Int32)), .val (.int (0 : Int32)), .unset] [(.int (0 : Int32)), (.ref x0)])) rfl rfl (hb hby d10_12) ?_
    show Steps p.tables e below (s₁.setTop (mkF m 13 #[.val (.ref x0), .val (.int (0 : Int32)), .val (.ref x2), .val (.int (0 : Int32)), .val (.int (2 : Int32)), .val (.int (0 : Int32)), .unset] [(.int c0)])) _
    refine XS.istore X0.here hx rfl (hb hby d10_13) rfl (l' := #[.val (.ref x0), .val (.int (0 : Int32)), .val (.ref x2), .val (.int (0 : Int32)), .val (.int (2 : Int32)), .val (.int (0 : Int32)), .val (.int c0)]) rfl ?_
    show Steps p.tables e below (s₁.setTop (mkF m 15 #[.val (.ref x0), .val (.int (0 : Int32)), .val (.ref x2), .val (.int (0 : Int32)), .val (.int (2 : Int32)), .val (.int (0 : Int32)), .val (.int c0)] [])) _
    refine XS.iload X0.here hx rfl (hb hby d10_15) rfl ?_
    show Steps p.tables e below (s₁.setTop (mkF m 17 #[.val (.ref x0), .val (.int (0 : Int32)), .val (.ref x2), .val (.int (0 : Int32)), .val (.int (2 : Int32)), .val (.int (0 : Int32)), .val (.int c0)] [(.int c0)])) _
    refine XS.sipush X0.here hx rfl (hb hby d10_17) ?_
    show Steps p.tables e below (s₁.setTop (mkF m 20 #[.val (.ref x0), .val (.int (0 : Int32)), .val (.ref x2), .val (.int (0 : Int32)), .val (.int (2 : Int32)), .val (.int (0 : Int32)), .val (.int c0)] [(.int (255 : Int32)), (.int c0)])) _
    refine XS.icmpYes X0.here hx rfl (pc0 := 20) (pc' := 26) rfl (hb hby d10_20) rfl (flt hc0).2.2.2 (by decide) (by decide) ?_
    show Steps p.tables e below (s₁.setTop (mkF m 26 #[.val (.ref x0), .val (.int (0 : Int32)), .val (.ref x2), .val (.int (0 : Int32)), .val (.int (2 : Int32)), .val (.int (0 : Int32)), .val (.int c0)] [])) _
    refine XS.aloadN X0.here hx rfl (hb hby d10_26) rfl rfl ?_
    show Steps p.tables e below (s₁.setTop (mkF m 27 #[.val (.ref x0), .val (.int (0 : Int32)), .val (.ref x2), .val (.int (0 : Int32)), .val (.int (2 : Int32)), .val (.int (0 : Int32)), .val (.int c0)] [(.ref x2)])) _
    refine XS.iloadN X0.here hx rfl (hb hby d10_27) rfl ?_
    show Steps p.tables e below (s₁.setTop (mkF m 28 #[.val (.ref x0), .val (.int (0 : Int32)), .val (.ref x2), .val (.int (0 : Int32)), .val (.int (2 : Int32)), .val (.int (0 : Int32)), .val (.int c0)] [(.int (0 : Int32)), (.ref x2)])) _
    refine XS.iload X0.here hx rfl (hb hby d10_28) rfl ?_
    show Steps p.tables e below (s₁.setTop (mkF m 30 #[.val (.ref x0), .val (.int (0 : Int32)), .val (.ref x2), .val (.int (0 : Int32)), .val (.int (2 : Int32)), .val (.int (0 : Int32)), .val (.int c0)] [(.int c0), (.int (0 : Int32)), (.ref x2)])) _
    refine XS.i2b X0.here hx rfl (hb hby d10_30) rfl ?_
    show Steps p.tables e below (s₁.setTop (mkF m 31 #[.val (.ref x0), .val (.int (0 : Int32)), .val (.ref x2), .val (.int (0 : Int32)), .val (.int (2 : Int32)), .val (.int (0 : Int32)), .val (.int c0)] [(.int (c0.toInt8.toInt32)), (.int (0 : Int32)), (.ref x2)])) _
    refine st1 _ ?_
    show Steps p.tables e below (T1.setTop (mkF m 32 #[.val (.ref x0), .val (.int (0 : Int32)), .val (.ref x2), .val (.int (0 : Int32)), .val (.int (2 : Int32)), .val (.int (0 : Int32)), .val (.int c0)] [])) _
    refine XS.iinc X1.here hx rfl (hb hby d10_32) rfl (l' := #[.val (.ref x0), .val (.int ((0 : Int32) + (1 : Int32))), .val (.ref x2), .val (.int (0 : Int32)), .val (.int (2 : Int32)), .val (.int (0 : Int32)), .val (.int c0)]) rfl ?_
    show Steps p.tables e below (T1.setTop (mkF m 35 #[.val (.ref x0), .val (.int ((0 : Int32) + (1 : Int32))), .val (.ref x2), .val (.int (0 : Int32)), .val (.int (2 : Int32)), .val (.int (0 : Int32)), .val (.int c0)] [])) _
    rw [show ((0 : Int32) + (1 : Int32)) = (1 : Int32) from by decide]
    show Steps p.tables e below (T1.setTop (mkF m 35 #[.val (.ref x0), .val (.int (1 : Int32)), .val (.ref x2), .val (.int (0 : Int32)), .val (.int (2 : Int32)), .val (.int (0 : Int32)), .val (.int c0)] [])) _
    refine XS.iinc X1.here hx rfl (hb hby d10_35) rfl (l' := #[.val (.ref x0), .val (.int (1 : Int32)), .val (.ref x2), .val (.int ((0 : Int32) + (1 : Int32))), .val (.int (2 : Int32)), .val (.int (0 : Int32)), .val (.int c0)]) rfl ?_
    show Steps p.tables e below (T1.setTop (mkF m 38 #[.val (.ref x0), .val (.int (1 : Int32)), .val (.ref x2), .val (.int ((0 : Int32) + (1 : Int32))), .val (.int (2 : Int32)), .val (.int (0 : Int32)), .val (.int c0)] [])) _
    rw [show ((0 : Int32) + (1 : Int32)) = (1 : Int32) from by decide]
    show Steps p.tables e below (T1.setTop (mkF m 38 #[.val (.ref x0), .val (.int (1 : Int32)), .val (.ref x2), .val (.int (1 : Int32)), .val (.int (2 : Int32)), .val (.int (0 : Int32)), .val (.int c0)] [])) _
    refine XS.iinc X1.here hx rfl (hb hby d10_38) rfl (l' := #[.val (.ref x0), .val (.int (1 : Int32)), .val (.ref x2), .val (.int (1 : Int32)), .val (.int (2 : Int32)), .val (.int ((0 : Int32) + (1 : Int32))), .val (.int c0)]) rfl ?_
    show Steps p.tables e below (T1.setTop (mkF m 41 #[.val (.ref x0), .val (.int (1 : Int32)), .val (.ref x2), .val (.int (1 : Int32)), .val (.int (2 : Int32)), .val (.int ((0 : Int32) + (1 : Int32))), .val (.int c0)] [])) _
    rw [show ((0 : Int32) + (1 : Int32)) = (1 : Int32) from by decide]
    show Steps p.tables e below (T1.setTop (mkF m 41 #[.val (.ref x0), .val (.int (1 : Int32)), .val (.ref x2), .val (.int (1 : Int32)), .val (.int (2 : Int32)), .val (.int (1 : Int32)), .val (.int c0)] [])) _
    refine XS.goto X1.here hx rfl (pc0 := 41) (pc' := 3) rfl (hb hby d10_41) (by decide) (by decide) ?_
    show Steps p.tables e below (T1.setTop (mkF m 3 #[.val (.ref x0), .val (.int (1 : Int32)), .val (.ref x2), .val (.int (1 : Int32)), .val (.int (2 : Int32)), .val (.int (1 : Int32)), .val (.int c0)] [])) _
    refine XS.iload X1.here hx rfl (hb hby d10_3) rfl ?_
    show Steps p.tables e below (T1.setTop (mkF m 5 #[.val (.ref x0), .val (.int (1 : Int32)), .val (.ref x2), .val (.int (1 : Int32)), .val (.int (2 : Int32)), .val (.int (1 : Int32)), .val (.int c0)] [(.int (1 : Int32))])) _
    refine XS.iload X1.here hx rfl (hb hby d10_5) rfl ?_
    show Steps p.tables e below (T1.setTop (mkF m 7 #[.val (.ref x0), .val (.int (1 : Int32)), .val (.ref x2), .val (.int (1 : Int32)), .val (.int (2 : Int32)), .val (.int (1 : Int32)), .val (.int c0)] [(.int (2 : Int32)), (.int (1 : Int32))])) _
    refine XS.icmpNo X1.here hx rfl (hb hby d10_7) rfl (tlt (by decide : (1 : Int32) < (2 : Int32))).2.1 ?_
    show Steps p.tables e below (T1.setTop (mkF m 10 #[.val (.ref x0), .val (.int (1 : Int32)), .val (.ref x2), .val (.int (1 : Int32)), .val (.int (2 : Int32)), .val (.int (1 : Int32)), .val (.int c0)] [])) _
    refine XS.aloadN X1.here hx rfl (hb hby d10_10) rfl rfl ?_
    show Steps p.tables e below (T1.setTop (mkF m 11 #[.val (.ref x0), .val (.int (1 : Int32)), .val (.ref x2), .val (.int (1 : Int32)), .val (.int (2 : Int32)), .val (.int (1 : Int32)), .val (.int c0)] [(.ref x0)])) _
    refine XS.iloadN X1.here hx rfl (hb hby d10_11) rfl ?_
    show Steps p.tables e below (T1.setTop (mkF m 12 #[.val (.ref x0), .val (.int (1 : Int32)), .val (.ref x2), .val (.int (1 : Int32)), .val (.int (2 : Int32)), .val (.int (1 : Int32)), .val (.int c0)] [(.int (1 : Int32)), (.ref x0)])) _
    refine own_ldC X1 hx hZ e1 V_x0_2 (j := (1 : Int32)) (w := c1) ⟨by decide, by decide⟩ rfl (g := (mkF m 12 #[.val (.ref x0), .val (.int (1 : Int32)), .val (.ref x2), .val (.int (1 : Int32)), .val (.int (2 : Int32)), .val (.int (1 : Int32)), .val (.int c0)] [(.int (1 : Int32)), (.ref x0)])) rfl rfl (hb hby d10_12) ?_
    show Steps p.tables e below (T1.setTop (mkF m 13 #[.val (.ref x0), .val (.int (1 : Int32)), .val (.ref x2), .val (.int (1 : Int32)), .val (.int (2 : Int32)), .val (.int (1 : Int32)), .val (.int c0)] [(.int c1)])) _
    refine XS.istore X1.here hx rfl (hb hby d10_13) rfl (l' := #[.val (.ref x0), .val (.int (1 : Int32)), .val (.ref x2), .val (.int (1 : Int32)), .val (.int (2 : Int32)), .val (.int (1 : Int32)), .val (.int c1)]) rfl ?_
    show Steps p.tables e below (T1.setTop (mkF m 15 #[.val (.ref x0), .val (.int (1 : Int32)), .val (.ref x2), .val (.int (1 : Int32)), .val (.int (2 : Int32)), .val (.int (1 : Int32)), .val (.int c1)] [])) _
    refine XS.iload X1.here hx rfl (hb hby d10_15) rfl ?_
    show Steps p.tables e below (T1.setTop (mkF m 17 #[.val (.ref x0), .val (.int (1 : Int32)), .val (.ref x2), .val (.int (1 : Int32)), .val (.int (2 : Int32)), .val (.int (1 : Int32)), .val (.int c1)] [(.int c1)])) _
    refine XS.sipush X1.here hx rfl (hb hby d10_17) ?_
    show Steps p.tables e below (T1.setTop (mkF m 20 #[.val (.ref x0), .val (.int (1 : Int32)), .val (.ref x2), .val (.int (1 : Int32)), .val (.int (2 : Int32)), .val (.int (1 : Int32)), .val (.int c1)] [(.int (255 : Int32)), (.int c1)])) _
    refine XS.icmpYes X1.here hx rfl (pc0 := 20) (pc' := 26) rfl (hb hby d10_20) rfl (flt hc1).2.2.2 (by decide) (by decide) ?_
    show Steps p.tables e below (T1.setTop (mkF m 26 #[.val (.ref x0), .val (.int (1 : Int32)), .val (.ref x2), .val (.int (1 : Int32)), .val (.int (2 : Int32)), .val (.int (1 : Int32)), .val (.int c1)] [])) _
    refine XS.aloadN X1.here hx rfl (hb hby d10_26) rfl rfl ?_
    show Steps p.tables e below (T1.setTop (mkF m 27 #[.val (.ref x0), .val (.int (1 : Int32)), .val (.ref x2), .val (.int (1 : Int32)), .val (.int (2 : Int32)), .val (.int (1 : Int32)), .val (.int c1)] [(.ref x2)])) _
    refine XS.iloadN X1.here hx rfl (hb hby d10_27) rfl ?_
    show Steps p.tables e below (T1.setTop (mkF m 28 #[.val (.ref x0), .val (.int (1 : Int32)), .val (.ref x2), .val (.int (1 : Int32)), .val (.int (2 : Int32)), .val (.int (1 : Int32)), .val (.int c1)] [(.int (1 : Int32)), (.ref x2)])) _
    refine XS.iload X1.here hx rfl (hb hby d10_28) rfl ?_
    show Steps p.tables e below (T1.setTop (mkF m 30 #[.val (.ref x0), .val (.int (1 : Int32)), .val (.ref x2), .val (.int (1 : Int32)), .val (.int (2 : Int32)), .val (.int (1 : Int32)), .val (.int c1)] [(.int c1), (.int (1 : Int32)), (.ref x2)])) _
    refine XS.i2b X1.here hx rfl (hb hby d10_30) rfl ?_
    show Steps p.tables e below (T1.setTop (mkF m 31 #[.val (.ref x0), .val (.int (1 : Int32)), .val (.ref x2), .val (.int (1 : Int32)), .val (.int (2 : Int32)), .val (.int (1 : Int32)), .val (.int c1)] [(.int (c1.toInt8.toInt32)), (.int (1 : Int32)), (.ref x2)])) _
    refine st3 _ ?_
    show Steps p.tables e below (T3.setTop (mkF m 32 #[.val (.ref x0), .val (.int (1 : Int32)), .val (.ref x2), .val (.int (1 : Int32)), .val (.int (2 : Int32)), .val (.int (1 : Int32)), .val (.int c1)] [])) _
    refine XS.iinc X3.here hx rfl (hb hby d10_32) rfl (l' := #[.val (.ref x0), .val (.int ((1 : Int32) + (1 : Int32))), .val (.ref x2), .val (.int (1 : Int32)), .val (.int (2 : Int32)), .val (.int (1 : Int32)), .val (.int c1)]) rfl ?_
    show Steps p.tables e below (T3.setTop (mkF m 35 #[.val (.ref x0), .val (.int ((1 : Int32) + (1 : Int32))), .val (.ref x2), .val (.int (1 : Int32)), .val (.int (2 : Int32)), .val (.int (1 : Int32)), .val (.int c1)] [])) _
    rw [show ((1 : Int32) + (1 : Int32)) = (2 : Int32) from by decide]
    show Steps p.tables e below (T3.setTop (mkF m 35 #[.val (.ref x0), .val (.int (2 : Int32)), .val (.ref x2), .val (.int (1 : Int32)), .val (.int (2 : Int32)), .val (.int (1 : Int32)), .val (.int c1)] [])) _
    refine XS.iinc X3.here hx rfl (hb hby d10_35) rfl (l' := #[.val (.ref x0), .val (.int (2 : Int32)), .val (.ref x2), .val (.int ((1 : Int32) + (1 : Int32))), .val (.int (2 : Int32)), .val (.int (1 : Int32)), .val (.int c1)]) rfl ?_
    show Steps p.tables e below (T3.setTop (mkF m 38 #[.val (.ref x0), .val (.int (2 : Int32)), .val (.ref x2), .val (.int ((1 : Int32) + (1 : Int32))), .val (.int (2 : Int32)), .val (.int (1 : Int32)), .val (.int c1)] [])) _
    rw [show ((1 : Int32) + (1 : Int32)) = (2 : Int32) from by decide]
    show Steps p.tables e below (T3.setTop (mkF m 38 #[.val (.ref x0), .val (.int (2 : Int32)), .val (.ref x2), .val (.int (2 : Int32)), .val (.int (2 : Int32)), .val (.int (1 : Int32)), .val (.int c1)] [])) _
    refine XS.iinc X3.here hx rfl (hb hby d10_38) rfl (l' := #[.val (.ref x0), .val (.int (2 : Int32)), .val (.ref x2), .val (.int (2 : Int32)), .val (.int (2 : Int32)), .val (.int ((1 : Int32) + (1 : Int32))), .val (.int c1)]) rfl ?_
    show Steps p.tables e below (T3.setTop (mkF m 41 #[.val (.ref x0), .val (.int (2 : Int32)), .val (.ref x2), .val (.int (2 : Int32)), .val (.int (2 : Int32)), .val (.int ((1 : Int32) + (1 : Int32))), .val (.int c1)] [])) _
    rw [show ((1 : Int32) + (1 : Int32)) = (2 : Int32) from by decide]
    show Steps p.tables e below (T3.setTop (mkF m 41 #[.val (.ref x0), .val (.int (2 : Int32)), .val (.ref x2), .val (.int (2 : Int32)), .val (.int (2 : Int32)), .val (.int (2 : Int32)), .val (.int c1)] [])) _
    refine XS.goto X3.here hx rfl (pc0 := 41) (pc' := 3) rfl (hb hby d10_41) (by decide) (by decide) ?_
    show Steps p.tables e below (T3.setTop (mkF m 3 #[.val (.ref x0), .val (.int (2 : Int32)), .val (.ref x2), .val (.int (2 : Int32)), .val (.int (2 : Int32)), .val (.int (2 : Int32)), .val (.int c1)] [])) _
    refine XS.iload X3.here hx rfl (hb hby d10_3) rfl ?_
    show Steps p.tables e below (T3.setTop (mkF m 5 #[.val (.ref x0), .val (.int (2 : Int32)), .val (.ref x2), .val (.int (2 : Int32)), .val (.int (2 : Int32)), .val (.int (2 : Int32)), .val (.int c1)] [(.int (2 : Int32))])) _
    refine XS.iload X3.here hx rfl (hb hby d10_5) rfl ?_
    show Steps p.tables e below (T3.setTop (mkF m 7 #[.val (.ref x0), .val (.int (2 : Int32)), .val (.ref x2), .val (.int (2 : Int32)), .val (.int (2 : Int32)), .val (.int (2 : Int32)), .val (.int c1)] [(.int (2 : Int32)), (.int (2 : Int32))])) _
    refine XS.icmpYes X3.here hx rfl (pc0 := 7) (pc' := 44) rfl (hb hby d10_7) rfl (flt (by decide : ¬ ((2 : Int32) < (2 : Int32)))).2.1 (by decide) (by decide) ?_
    show Steps p.tables e below (T3.setTop (mkF m 44 #[.val (.ref x0), .val (.int (2 : Int32)), .val (.ref x2), .val (.int (2 : Int32)), .val (.int (2 : Int32)), .val (.int (2 : Int32)), .val (.int c1)] [])) _
    refine XS.iload X3.here hx rfl (hb hby d10_44) rfl ?_
    show Steps p.tables e below (T3.setTop (mkF m 46 #[.val (.ref x0), .val (.int (2 : Int32)), .val (.ref x2), .val (.int (2 : Int32)), .val (.int (2 : Int32)), .val (.int (2 : Int32)), .val (.int c1)] [(.int (2 : Int32))])) _
    exact retI X3 hx Bd.returns (hb hby d10_46) hr
  · exact (by
      have eT : (T3.setFrames fs).heap = h3 := e3
      rw [eT]; exact ⟨rfl, N3, keep_4, V_x2_3⟩)
set_option maxRecDepth 65536 in
set_option maxHeartbeats 40000000 in
theorem rmc3_2 (l : Launch) (Z : State) (a0 : Array Value) (hw : ∀ d ∈ tables_1, d.before a0 Z = true) (ws : List Jvm.Cond) (x0 : Addr) (k0 : ClassId) (c0 : Int32) (c1 : Int32) (h0 : Heap) (n0 : Nat) (Z0 : n0 ≤ h0.size) (V_x0 : Arv Z h0 x0 k0 .char (2 : Int32) [(.int c0), (.int c1)] (.int (0 : Int32))) (hc0 : ¬ ((255 : Int32) < c0)) (hc1 : ¬ ((255 : Int32) < c1)) :
    MetFree l (⟨"java/lang/StringUTF16", "compress", "([CII)[B"⟩ : MethodName) (head1 (Jvm.Cond.code (⟨"java/lang/StringUTF16", "compress", "([CII)[B"⟩ : MethodName) jdk_52_method_16_code 6 (some (.array .byte)) :: ws) ({ frames := 1, cells := 1, slots := 2, locals := 18 } : Room)) (fun a U => a = #[(.ref x0), (.int (0 : Int32)), (.int (2 : Int32))] ∧ Z.Warmed39 U.vm ∧ U.heap = h0) (fun _ _ _ _ _ => True) (fun _ U o U' => ∃ v L, o = .returned v ∧ (QC3 Z (2 : Int32) [(.int (own_b c0)), (.int (own_b c1))] h0 n0 v U'.heap L) ∧ FrameEnd U o U' L ({ frames := 1, cells := 1, slots := 2, locals := 18 } : Room).cells ({ frames := 1, cells := 1, slots := 2, locals := 18 } : Room).slots) := by
  refine MetFree.of_bodySF (plainFor_of_name pn_9) hisR ?_
  intro p e s m args below meth c s₁ Bd hml0 hP hK
  obtain ⟨rfl, hZ, hh⟩ := hP
  have hx := Bd.exec
  have hby := Bd.bytes
  have hml : c.maxLocals = 6 := hml0
  have hown : s.vm.findClass "java/lang/StringUTF16" = some m.cls := findClass_of_methodNamed Bd.named
  have hnm := (name_of_methodNamed Bd.named Bd.method).1
  have X0 : Stand p l e ({ frames := 1, cells := 1, slots := 2, locals := 18 } : Room) s m #[(.ref x0), (.int (0 : Int32)), (.int (2 : Int32))] below meth c s₁ [] 0 0 := Stand.of_body Bd
  have e0 : s₁.heap = h0 := by rw [← hh, Bd.state]; rfl
  have N0 := Fr.nil n0
  have pre0 : ∀ t, Steps p.tables e below (s₁.setTop (mkF m 0 #[.val (.ref x0), .val (.int (0 : Int32)), .val (.int (2 : Int32)), .unset, .unset, .unset] [])) t → Steps p.tables e below (s₁.setTop (entryFrame m #[(.ref x0), (.int (0 : Int32)), (.int (2 : Int32))] 6)) t := fun t k => castTop (ef_9 m x0 (0 : Int32) (2 : Int32)) k
  have K0 : Keep h0 h0 [] := Keep.refl h0 []
  obtain ⟨T1, h1, k1, X1, e1, E1, A1, st1⟩ := newP X0 hx hZ (hw _ (List.mem_of_getElem? (i := 15) rfl)) e0 (g := (mkF m 1 #[.val (.ref x0), .val (.int (0 : Int32)), .val (.int (2 : Int32)), .unset, .unset, .unset] [(.int (2 : Int32))])) rfl (hb hby d9_1) rfl (by decide) (cap := 2) (by decide) (by decide) (by decide) (by decide)
  obtain ⟨r, g1⟩ : ∃ z, z = h0.size := ⟨_, rfl⟩
  rw [← g1] at A1 st1
  have V_r_1 : Arv Z h1 r k1 .byte (2 : Int32) [(.int (0 : Int32)), (.int (0 : Int32))] (.int (0 : Int32)) := (Arv.new A1 (by decide)).pad (pad_rep [] (.int (0 : Int32)) 2)
  have lt_x0_r : x0 < r := Nat.lt_of_lt_of_le V_x0.lt (Nat.le_of_eq g1.symm)
  have g_r : n0 ≤ r := Nat.le_trans Z0 (Nat.le_of_eq g1.symm)
  have sz_r : h0.size ≤ r := Nat.le_trans K0.1 (Nat.le_of_eq g1.symm)
  have keep_2 : Keep h0 h1 [] := K0.ext E1
  have V_x0_2 : Arv Z h1 x0 k0 .char (2 : Int32) [(.int c0), (.int c1)] (.int (0 : Int32)) := V_x0.ext E1
  have siz_2 : n0 ≤ h1.size := Nat.le_trans Z0 E1.1
  obtain ⟨_, _, ⟨T3, L3, k3, n3⟩, -, X3, ⟨Lc3, hQ3, l3, y3, z3⟩, st3⟩ := Jvm.LawKit.callS X1 hx (y := (⟨"java/lang/StringUTF16", "compress", "([CI[BII)I"⟩ : MethodName)) hown (mvT hZ (hw _ (List.mem_of_getElem? (i := 53) rfl))) (mvT hZ (hw _ (List.mem_of_getElem? (i := 54) rfl))) (mvT hZ (hw _ (List.mem_of_getElem? (i := 51) rfl))) (mvT hZ (hw _ (List.mem_of_getElem? (i := 55) rfl))) (by decide) (backOf (W := 0) (rmc5_2 l Z a0 hw [] x0 r k0 k1 c0 c1 h1 n0 siz_2 V_x0_2 V_r_1 g_r (Nat.ne_of_lt lt_x0_r) hc0 hc1) hZ (hw _ (List.mem_of_getElem? (i := 55) rfl)) (hw _ (List.mem_of_getElem? (i := 51) rfl)) (by decide) (by decide)) (g := (mkF m 9 #[.val (.ref x0), .val (.int (0 : Int32)), .val (.int (2 : Int32)), .val (.ref r), .unset, .unset] [(.int (2 : Int32)), (.int (0 : Int32)), (.ref r), (.int (0 : Int32)), (.ref x0)])) rfl (by rw [hml]; rfl) (argsL := [(.ref x0), (.int (0 : Int32)), (.ref r), (.int (0 : Int32)), (.int (2 : Int32))]) (rest := []) (lenOf pd___CI_BII_I rfl) rfl (by show 2 * 0 + _ ≤ _; exact Nat.le_of_eq rfl) (hb hby d9_9) (fun _ _ => ⟨rfl, e1, (by decide : 1 + 0 ≤ _), (by decide : 2 + 0 ≤ _)⟩)
  dsimp only [Pt.U, Pt.locs, Pt.cells, Pt.slots] at X3 l3 y3 z3 st3 hQ3
  subst l3 y3 z3
  obtain ⟨rfl, N3q, K3, Vq3⟩ := hQ3
  have keep_4 : Keep h0 T3.heap [] := keep_2.trans K3 (allS (Or.inr sz_r) (all0))
  have V_x0_4 : Arv Z T3.heap x0 k0 .char (2 : Int32) [(.int c0), (.int c1)] (.int (0 : Int32)) := V_x0_2.keep K3 (ninS (Nat.ne_of_lt lt_x0_r) nin0)
  have siz_4 : n0 ≤ T3.heap.size := Nat.le_trans siz_2 K3.1
  have N3 := Fr.app N0 N3q
  obtain ⟨fs, hr, hrun, hended, hW, hsame⟩ := X3.leave (v := some (.ref r)) (fun h => by rw [Bd.returns] at h; cases h)
  refine ⟨_, _, pre0 _ ?_, hrun, hended, _, _, rfl, ?_, ⟨_, rfl⟩, hW, hsame.mono (by decide) (by decide)⟩
  · show Steps p.tables e below (s₁.setTop (mkF m 0 #[.val (.ref x0), .val (.int (0 : Int32)), .val (.int (2 : Int32)), .unset, .unset, .unset] [])) _
    refine XS.iloadN X0.here hx rfl (hb hby d9_0) rfl ?_
    show Steps p.tables e below (s₁.setTop (mkF m 1 #[.val (.ref x0), .val (.int (0 : Int32)), .val (.int (2 : Int32)), .unset, .unset, .unset] [(.int (2 : Int32))])) _
    refine st1 _ ?_
    show Steps p.tables e below (T1.setTop (mkF m 3 #[.val (.ref x0), .val (.int (0 : Int32)), .val (.int (2 : Int32)), .unset, .unset, .unset] [(.ref r)])) _
    refine XS.astoreN X1.here hx rfl (hb hby d9_3) rfl rfl (l' := #[.val (.ref x0), .val (.int (0 : Int32)), .val (.int (2 : Int32)), .val (.ref r), .unset, .unset]) rfl ?_
    show Steps p.tables e below (T1.setTop (mkF m 4 #[.val (.ref x0), .val (.int (0 : Int32)), .val (.int (2 : Int32)), .val (.ref r), .unset, .unset] [])) _
    refine XS.aloadN X1.here hx rfl (hb hby d9_4) rfl rfl ?_
    show Steps p.tables e below (T1.setTop (mkF m 5 #[.val (.ref x0), .val (.int (0 : Int32)), .val (.int (2 : Int32)), .val (.ref r), .unset, .unset] [(.ref x0)])) _
    refine XS.iloadN X1.here hx rfl (hb hby d9_5) rfl ?_
    show Steps p.tables e below (T1.setTop (mkF m 6 #[.val (.ref x0), .val (.int (0 : Int32)), .val (.int (2 : Int32)), .val (.ref r), .unset, .unset] [(.int (0 : Int32)), (.ref x0)])) _
    refine XS.aloadN X1.here hx rfl (hb hby d9_6) rfl rfl ?_
    show Steps p.tables e below (T1.setTop (mkF m 7 #[.val (.ref x0), .val (.int (0 : Int32)), .val (.int (2 : Int32)), .val (.ref r), .unset, .unset] [(.ref r), (.int (0 : Int32)), (.ref x0)])) _
    refine XS.iconst X1.here hx rfl (hb hby d9_7) ?_
    show Steps p.tables e below (T1.setTop (mkF m 8 #[.val (.ref x0), .val (.int (0 : Int32)), .val (.int (2 : Int32)), .val (.ref r), .unset, .unset] [(.int (0 : Int32)), (.ref r), (.int (0 : Int32)), (.ref x0)])) _
    refine XS.iloadN X1.here hx rfl (hb hby d9_8) rfl ?_
    show Steps p.tables e below (T1.setTop (mkF m 9 #[.val (.ref x0), .val (.int (0 : Int32)), .val (.int (2 : Int32)), .val (.ref r), .unset, .unset] [(.int (2 : Int32)), (.int (0 : Int32)), (.ref r), (.int (0 : Int32)), (.ref x0)])) _
    refine st3 _ ?_
    show Steps p.tables e below (T3.setTop (mkF m 12 #[.val (.ref x0), .val (.int (0 : Int32)), .val (.int (2 : Int32)), .val (.ref r), .unset, .unset] [(.int (2 : Int32))])) _
    refine XS.istore X3.here hx rfl (hb hby d9_12) rfl (l' := #[.val (.ref x0), .val (.int (0 : Int32)), .val (.int (2 : Int32)), .val (.ref r), .val (.int (2 : Int32)), .unset]) rfl ?_
    show Steps p.tables e below (T3.setTop (mkF m 14 #[.val (.ref x0), .val (.int (0 : Int32)), .val (.int (2 : Int32)), .val (.ref r), .val (.int (2 : Int32)), .unset] [])) _
    refine XS.iload X3.here hx rfl (hb hby d9_14) rfl ?_
    show Steps p.tables e below (T3.setTop (mkF m 16 #[.val (.ref x0), .val (.int (0 : Int32)), .val (.int (2 : Int32)), .val (.ref r), .val (.int (2 : Int32)), .unset] [(.int (2 : Int32))])) _
    refine XS.iloadN X3.here hx rfl (hb hby d9_16) rfl ?_
    show Steps p.tables e below (T3.setTop (mkF m 17 #[.val (.ref x0), .val (.int (0 : Int32)), .val (.int (2 : Int32)), .val (.ref r), .val (.int (2 : Int32)), .unset] [(.int (2 : Int32)), (.int (2 : Int32))])) _
    refine XS.icmpYes X3.here hx rfl (pc0 := 17) (pc' := 57) rfl (hb hby d9_17) rfl (teq (by decide : (2 : Int32) = (2 : Int32))).1 (by decide) (by decide) ?_
    show Steps p.tables e below (T3.setTop (mkF m 57 #[.val (.ref x0), .val (.int (0 : Int32)), .val (.int (2 : Int32)), .val (.ref r), .val (.int (2 : Int32)), .unset] [])) _
    refine XS.aloadN X3.here hx rfl (hb hby d9_57) rfl rfl ?_
    show Steps p.tables e below (T3.setTop (mkF m 58 #[.val (.ref x0), .val (.int (0 : Int32)), .val (.int (2 : Int32)), .val (.ref r), .val (.int (2 : Int32)), .unset] [(.ref r)])) _
    exact retOut X3 hx (t := (.array .byte)) (i := .areturn) Bd.returns rfl (Or.inr (Or.inr (Or.inr (Or.inr ⟨rfl, rfl, rfl⟩)))) (hb hby d9_58) hr
  · exact (by
      have eT : (T3.setFrames fs).heap = T3.heap := rfl
      rw [eT]; exact ⟨r, _, rfl, N3, keep_4, sz_r, Vq3⟩)
set_option maxRecDepth 65536 in
set_option maxHeartbeats 40000000 in
theorem rmcf_2 (l : Launch) (Z : State) (a0 : Array Value) (hw : ∀ d ∈ tables_1, d.before a0 Z = true) (ws : List Jvm.Cond) (x0 : Addr) (k0 : ClassId) (u0 : Int32) (u1 : Int32) (h0 : Heap) (n0 : Nat) (Z0 : n0 ≤ h0.size) (V_x0 : Arv Z h0 x0 k0 .byte (2 : Int32) [(.int u0), (.int u1)] (.int (0 : Int32))) :
    MetFree l (⟨"java/lang/StringUTF16", "coderFromArrayLen", "([BI)B"⟩ : MethodName) (head1 (Jvm.Cond.code (⟨"java/lang/StringUTF16", "coderFromArrayLen", "([BI)B"⟩ : MethodName) jdk_52_method_15_code 2 (some .byte) :: ws) ({ frames := 0, cells := 0, slots := 0, locals := 0 } : Room)) (fun a U => a = #[(.ref x0), (.int (2 : Int32))] ∧ Z.Warmed39 U.vm ∧ U.heap = h0) (fun _ _ _ _ _ => True) (fun _ U o U' => ∃ v L, o = .returned v ∧ (QP (some (.int (0 : Int32))) h0 n0 v U'.heap L) ∧ FrameEnd U o U' L ({ frames := 0, cells := 0, slots := 0, locals := 0 } : Room).cells ({ frames := 0, cells := 0, slots := 0, locals := 0 } : Room).slots) := by
  refine MetFree.of_bodySF (plainFor_of_name pn_11) hisR ?_
  intro p e s m args below meth c s₁ Bd hml0 hP hK
  obtain ⟨rfl, hZ, hh⟩ := hP
  have hx := Bd.exec
  have hby := Bd.bytes
  have hml : c.maxLocals = 2 := hml0
  have hown : s.vm.findClass "java/lang/StringUTF16" = some m.cls := findClass_of_methodNamed Bd.named
  have hnm := (name_of_methodNamed Bd.named Bd.method).1
  have X0 : Stand p l e ({ frames := 0, cells := 0, slots := 0, locals := 0 } : Room) s m #[(.ref x0), (.int (2 : Int32))] below meth c s₁ [] 0 0 := Stand.of_body Bd
  have e0 : s₁.heap = h0 := by rw [← hh, Bd.state]; rfl
  have N0 := Fr.nil n0
  have pre0 : ∀ t, Steps p.tables e below (s₁.setTop (mkF m 0 #[.val (.ref x0), .val (.int (2 : Int32))] [])) t → Steps p.tables e below (s₁.setTop (entryFrame m #[(.ref x0), (.int (2 : Int32))] 2)) t := fun t k => castTop (ef_11 m x0 (2 : Int32)) k
  obtain ⟨fs, hr, hrun, hended, hW, hsame⟩ := X0.leave (v := some (.int (0 : Int32))) (fun h => by rw [Bd.returns] at h; cases h)
  refine ⟨_, _, pre0 _ ?_, hrun, hended, _, _, rfl, ?_, ⟨_, rfl⟩, hW, hsame.mono (by decide) (by decide)⟩
  · show Steps p.tables e below (s₁.setTop (mkF m 0 #[.val (.ref x0), .val (.int (2 : Int32))] [])) _
    refine XS.iloadN X0.here hx rfl (hb hby d11_0) rfl ?_
    show Steps p.tables e below (s₁.setTop (mkF m 1 #[.val (.ref x0), .val (.int (2 : Int32))] [(.int (2 : Int32))])) _
    refine XS.aloadN X0.here hx rfl (hb hby d11_1) rfl rfl ?_
    show Steps p.tables e below (s₁.setTop (mkF m 2 #[.val (.ref x0), .val (.int (2 : Int32))] [(.ref x0), (.int (2 : Int32))])) _
    refine own_len X0 hx hZ e0 V_x0 (g := (mkF m 2 #[.val (.ref x0), .val (.int (2 : Int32))] [(.ref x0), (.int (2 : Int32))])) rfl rfl (hb hby d11_2) ?_
    show Steps p.tables e below (s₁.setTop (mkF m 3 #[.val (.ref x0), .val (.int (2 : Int32))] [(.int (2 : Int32)), (.int (2 : Int32))])) _
    refine XS.isub X0.here hx rfl (hb hby d11_3) rfl ?_
    show Steps p.tables e below (s₁.setTop (mkF m 4 #[.val (.ref x0), .val (.int (2 : Int32))] [(.int ((2 : Int32) - (2 : Int32)))])) _
    rw [show ((2 : Int32) - (2 : Int32)) = (0 : Int32) from by decide]
    show Steps p.tables e below (s₁.setTop (mkF m 4 #[.val (.ref x0), .val (.int (2 : Int32))] [(.int (0 : Int32))])) _
    refine XS.bipush X0.here hx rfl (hb hby d11_4) ?_
    show Steps p.tables e below (s₁.setTop (mkF m 6 #[.val (.ref x0), .val (.int (2 : Int32))] [(.int (31 : Int32)), (.int (0 : Int32))])) _
    refine XS.iushr X0.here hx rfl (hb hby d11_6) rfl ?_
    show Steps p.tables e below (s₁.setTop (mkF m 7 #[.val (.ref x0), .val (.int (2 : Int32))] [(.int (((0 : Int32).toUInt32 >>> ((31 : Int32) &&& 31).toUInt32).toInt32))])) _
    rw [show (((0 : Int32).toUInt32 >>> ((31 : Int32) &&& 31).toUInt32).toInt32) = (0 : Int32) from by decide]
    show Steps p.tables e below (s₁.setTop (mkF m 7 #[.val (.ref x0), .val (.int (2 : Int32))] [(.int (0 : Int32))])) _
    refine XS.i2b X0.here hx rfl (hb hby d11_7) rfl ?_
    show Steps p.tables e below (s₁.setTop (mkF m 8 #[.val (.ref x0), .val (.int (2 : Int32))] [(.int ((0 : Int32).toInt8.toInt32))])) _
    show Steps p.tables e below (s₁.setTop (mkF m 8 #[.val (.ref x0), .val (.int (2 : Int32))] [(.int (0 : Int32))])) _
    exact retN X0 hx (t := .byte) Bd.returns (by simp) (hb hby d11_8) hr
  · exact ⟨rfl, N0, e0⟩
set_option maxRecDepth 65536 in
set_option maxHeartbeats 40000000 in
theorem rms4_2 (l : Launch) (Z : State) (a0 : Array Value) (hw : ∀ d ∈ tables_1, d.before a0 Z = true) (ws : List Jvm.Cond) (x0 : Addr) (x1 : Addr) (k1 : ClassId) (c0 : Int32) (c1 : Int32) (cs : Int32) (h0 : Heap) (n0 : Nat) (Z0 : n0 ≤ h0.size) (E_x0 : Exa Z h0 x0 "java/lang/String") (F_value_x0 : Fld Z h0 x0 "java/lang/String" "value" "[B" .null) (F_coder_x0 : Fld Z h0 x0 "java/lang/String" "coder" "B" (.int (0 : Int32))) (V_x1 : Arv Z h0 x1 k1 .char (2 : Int32) [(.int c0), (.int c1)] (.int (0 : Int32))) (g_x0 : n0 ≤ x0) (ne01 : x0 ≠ x1) (hc0 : ¬ ((255 : Int32) < c0)) (hc1 : ¬ ((255 : Int32) < c1)) (O0 : Old Z n0 h0) (S_CS : Sta Z Z.heap "java/lang/String" "COMPACT_STRINGS" "Z" (.int cs)) (hcs : ¬ (cs = (0 : Int32))) :
    MetFree l (⟨"java/lang/String", "<init>", "([CIILjava/lang/Void;)V"⟩ : MethodName) (head1 (Jvm.Cond.code (⟨"java/lang/String", "<init>", "([CIILjava/lang/Void;)V"⟩ : MethodName) jdk_42_method_149_code 6 none :: ws) ({ frames := 2, cells := 1, slots := 2, locals := 35 } : Room)) (fun a U => a = #[(.ref x0), (.ref x1), (.int (0 : Int32)), (.int (2 : Int32)), .null] ∧ Z.Warmed39 U.vm ∧ U.heap = h0) (fun _ _ _ _ _ => True) (fun _ U o U' => ∃ v L, o = .returned v ∧ (QSI Z x0 (2 : Int32) [(.int (own_b c0)), (.int (own_b c1))] h0 n0 v U'.heap L) ∧ FrameEnd U o U' L ({ frames := 2, cells := 1, slots := 2, locals := 35 } : Room).cells ({ frames := 2, cells := 1, slots := 2, locals := 35 } : Room).slots) := by
  refine MetFree.of_bodySF (plainFor_of_name pn_2) hisR ?_
  intro p e s m args below meth c s₁ Bd hml0 hP hK
  obtain ⟨rfl, hZ, hh⟩ := hP
  have hx := Bd.exec
  have hby := Bd.bytes
  have hml : c.maxLocals = 6 := hml0
  have hown : s.vm.findClass "java/lang/String" = some m.cls := findClass_of_methodNamed Bd.named
  have hnm := (name_of_methodNamed Bd.named Bd.method).1
  have X0 : Stand p l e ({ frames := 2, cells := 1, slots := 2, locals := 35 } : Room) s m #[(.ref x0), (.ref x1), (.int (0 : Int32)), (.int (2 : Int32)), .null] below meth c s₁ [] 0 0 := Stand.of_body Bd
  have e0 : s₁.heap = h0 := by rw [← hh, Bd.state]; rfl
  have N0 := Fr.nil n0
  have pre0 : ∀ t, Steps p.tables e below (s₁.setTop (mkF m 0 #[.val (.ref x0), .val (.ref x1), .val (.int (0 : Int32)), .val (.int (2 : Int32)), .val .null, .unset] [])) t → Steps p.tables e below (s₁.setTop (entryFrame m #[(.ref x0), (.ref x1), (.int (0 : Int32)), (.int (2 : Int32)), .null] 6)) t := fun t k => castTop (ef_2_null m x0 x1 (0 : Int32) (2 : Int32)) k
  have K0 : Keep h0 h0 [x0] := Keep.refl h0 [x0]
  obtain ⟨T1, X1, e1, st1⟩ := initO X0 hx hZ hown (hw _ (List.mem_of_getElem? (i := 11) rfl)) (hw _ (List.mem_of_getElem? (i := 12) rfl)) (hw _ (List.mem_of_getElem? (i := 13) rfl)) e0 (g := (mkF m 1 #[.val (.ref x0), .val (.ref x1), .val (.int (0 : Int32)), .val (.int (2 : Int32)), .val .null, .unset] [(.ref x0)])) rfl (by rw [hml]; rfl) rfl (hb hby d2_1) (by decide) (W := 0) (by show 2 * 0 + _ ≤ _; exact Nat.le_of_eq rfl) (by decide)
  obtain ⟨T2, X2, e2, st2⟩ := getS2 X1 hx hZ hown (host := "") (Or.inl (hw _ (List.mem_of_getElem? (i := 33) rfl))) Via.refl e1 (own_Sta_old S_CS O0) (g := (mkF m 27 #[.val (.ref x0), .val (.ref x1), .val (.int (0 : Int32)), .val (.int (2 : Int32)), .val .null, .unset] [])) rfl (hb hby d2_27)
  obtain ⟨_, _, ⟨T3, L3, k3, n3⟩, -, X3, ⟨Lc3, hQ3, l3, y3, z3⟩, st3⟩ := Jvm.LawKit.callS X2 hx (y := (⟨"java/lang/StringUTF16", "compress", "([CII)[B"⟩ : MethodName)) hown (mvT hZ (hw _ (List.mem_of_getElem? (i := 49) rfl))) (mvT hZ (hw _ (List.mem_of_getElem? (i := 50) rfl))) (mvT hZ (hw _ (List.mem_of_getElem? (i := 51) rfl))) (mvT hZ (hw _ (List.mem_of_getElem? (i := 52) rfl))) (by decide) (backOf (W := 0) (rmc3_2 l Z a0 hw [] x1 k1 c0 c1 h0 n0 Z0 V_x1 hc0 hc1) hZ (hw _ (List.mem_of_getElem? (i := 52) rfl)) (hw _ (List.mem_of_getElem? (i := 51) rfl)) (by decide) (by decide)) (g := (mkF m 36 #[.val (.ref x0), .val (.ref x1), .val (.int (0 : Int32)), .val (.int (2 : Int32)), .val .null, .unset] [(.int (2 : Int32)), (.int (0 : Int32)), (.ref x1)])) rfl (by rw [hml]; rfl) (argsL := [(.ref x1), (.int (0 : Int32)), (.int (2 : Int32))]) (rest := []) (lenOf pd___CII__B rfl) rfl (by show 2 * 0 + _ ≤ _; exact Nat.le_of_eq rfl) (hb hby d2_36) (fun _ _ => ⟨rfl, e2, (by decide : 0 + 1 ≤ _), (by decide : 0 + 2 ≤ _)⟩)
  dsimp only [Pt.U, Pt.locs, Pt.cells, Pt.slots] at X3 l3 y3 z3 st3 hQ3
  subst l3 y3 z3
  obtain ⟨va, kv, rfl, N3q, K3, sv3, Vq3⟩ := hQ3
  have lt_x0_va : x0 < va := Nat.lt_of_lt_of_le E_x0.lt sv3
  have lt_x1_va : x1 < va := Nat.lt_of_lt_of_le V_x1.lt sv3
  have keep_4 : Keep h0 T3.heap [x0] := K0.trans K3 (all0)
  have V_x1_4 : Arv Z T3.heap x1 k1 .char (2 : Int32) [(.int c0), (.int c1)] (.int (0 : Int32)) := V_x1.keep K3 nin0
  have E_x0_4 : Exa Z T3.heap x0 "java/lang/String" := E_x0.keep K3
  have F_value_x0_4 : Fld Z T3.heap x0 "java/lang/String" "value" "[B" .null := F_value_x0.keep K3 nin0
  have F_coder_x0_4 : Fld Z T3.heap x0 "java/lang/String" "coder" "B" (.int (0 : Int32)) := F_coder_x0.keep K3 nin0
  have old_4 : Old Z n0 T3.heap := O0.keep K3 (all0)
  have siz_4 : n0 ≤ T3.heap.size := Nat.le_trans Z0 K3.1
  have N3 := Fr.app N0 N3q
  obtain ⟨_, _, ⟨T5, L5, k5, n5⟩, -, X5, ⟨Lc5, hQ5, l5, y5, z5⟩, st5⟩ := Jvm.LawKit.callS X3 hx (y := (⟨"java/lang/StringUTF16", "coderFromArrayLen", "([BI)B"⟩ : MethodName)) hown (mvT hZ (hw _ (List.mem_of_getElem? (i := 56) rfl))) (mvT hZ (hw _ (List.mem_of_getElem? (i := 57) rfl))) (mvT hZ (hw _ (List.mem_of_getElem? (i := 51) rfl))) (mvT hZ (hw _ (List.mem_of_getElem? (i := 58) rfl))) (by decide) (backOf (W := 1) (rmcf_2 l Z a0 hw [] va kv (own_b c0) (own_b c1) T3.heap n0 siz_4 Vq3) hZ (hw _ (List.mem_of_getElem? (i := 58) rfl)) (hw _ (List.mem_of_getElem? (i := 51) rfl)) (by decide) (by decide)) (g := (mkF m 45 #[.val (.ref x0), .val (.ref x1), .val (.int (0 : Int32)), .val (.int (2 : Int32)), .val .null, .val (.ref va)] [(.int (2 : Int32)), (.ref va), (.ref x0)])) rfl (by rw [hml]; rfl) (argsL := [(.ref va), (.int (2 : Int32))]) (rest := [(.ref x0)]) (lenOf pd___BI_B rfl) rfl (by show 2 * 0 + _ ≤ _; exact Nat.le_of_eq rfl) (hb hby d2_45) (fun _ _ => ⟨rfl, rfl, (by decide : 1 + 0 ≤ _), (by decide : 2 + 0 ≤ _)⟩)
  dsimp only [Pt.U, Pt.locs, Pt.cells, Pt.slots] at X5 l5 y5 z5 st5 hQ5
  subst l5 y5 z5
  obtain ⟨rfl, N5q, e5⟩ := hQ5
  have N5 := Fr.app N3 N5q
  obtain ⟨T6, h6, X6, e6, W6, st6⟩ := putFN X5 hx hZ hown (hw _ (List.mem_of_getElem? (i := 21) rfl)) Via.refl e5 F_coder_x0_4 E_x0_4 (Or.inr ⟨(hw _ (List.mem_of_getElem? (i := 17) rfl)), rfl, hnm⟩) (hw _ (List.mem_of_getElem? (i := 2) rfl)) (ty := .byte) (v' := (.int ((0 : Int32).toInt8.toInt32))) (by decide) rfl (fits_nar_byte _) (g := (mkF m 48 #[.val (.ref x0), .val (.ref x1), .val (.int (0 : Int32)), .val (.int (2 : Int32)), .val .null, .val (.ref va)] [(.int (0 : Int32)), (.ref x0)])) rfl rfl (hb hby d2_48)
  have N6 := Fr.snoc X6 N5 g_x0
  have keep_7 : Keep h0 h6 [x0] := keep_4.wr W6 (Or.inl (List.mem_of_getElem? (i := 0) rfl))
  have V_x1_7 : Arv Z h6 x1 k1 .char (2 : Int32) [(.int c0), (.int c1)] (.int (0 : Int32)) := V_x1_4.other W6 (Ne.symm ne01)
  have E_x0_7 : Exa Z h6 x0 "java/lang/String" := E_x0_4.wr W6
  have old_7 : Old Z n0 h6 := old_4.wr W6 g_x0
  have siz_7 : n0 ≤ h6.size := Nat.le_trans siz_4 (Keep.of_wr W6).1
  have V_va_7 : Arv Z h6 va kv .byte (2 : Int32) [(.int (own_b c0)), (.int (own_b c1))] (.int (0 : Int32)) := Vq3.other W6 (Ne.symm (Nat.ne_of_lt lt_x0_va))
  have F_value_x0_6 : Fld Z h6 x0 "java/lang/String" "value" "[B" .null := F_value_x0_4.other W6 (Or.inr (slot_ne (Or.inr (hw _ (List.mem_of_getElem? (i := 16) rfl))) (Or.inr (hw _ (List.mem_of_getElem? (i := 17) rfl))) (by decide) (t := (.array .byte)) (t' := .byte) (by decide) (by decide)))
  have F_coder_x0_6 : Fld Z h6 x0 "java/lang/String" "coder" "B" (.int ((0 : Int32).toInt8.toInt32)) := F_coder_x0_4.same W6
  obtain ⟨T8, h8, X8, e8, W8, st8⟩ := putF X6 hx hZ hown (host := "") (Or.inl (hw _ (List.mem_of_getElem? (i := 20) rfl))) Via.refl e6 F_value_x0_6 E_x0_7 (Or.inr ⟨(hw _ (List.mem_of_getElem? (i := 16) rfl)), rfl, hnm⟩) (hw _ (List.mem_of_getElem? (i := 2) rfl)) (ty := (.array .byte)) (by decide) rfl rfl (g := (mkF m 54 #[.val (.ref x0), .val (.ref x1), .val (.int (0 : Int32)), .val (.int (2 : Int32)), .val .null, .val (.ref va)] [(.ref va), (.ref x0)])) rfl rfl (hb hby d2_54)
  have N8 := Fr.snoc X8 N6 g_x0
  have keep_9 : Keep h0 h8 [x0] := keep_7.wr W8 (Or.inl (List.mem_of_getElem? (i := 0) rfl))
  have V_x1_9 : Arv Z h8 x1 k1 .char (2 : Int32) [(.int c0), (.int c1)] (.int (0 : Int32)) := V_x1_7.other W8 (Ne.symm ne01)
  have E_x0_9 : Exa Z h8 x0 "java/lang/String" := E_x0_7.wr W8
  have old_9 : Old Z n0 h8 := old_7.wr W8 g_x0
  have siz_9 : n0 ≤ h8.size := Nat.le_trans siz_7 (Keep.of_wr W8).1
  have V_va_9 : Arv Z h8 va kv .byte (2 : Int32) [(.int (own_b c0)), (.int (own_b c1))] (.int (0 : Int32)) := V_va_7.other W8 (Ne.symm (Nat.ne_of_lt lt_x0_va))
  have F_value_x0_8 : Fld Z h8 x0 "java/lang/String" "value" "[B" (.ref va) := F_value_x0_6.same W8
  have F_coder_x0_8 : Fld Z h8 x0 "java/lang/String" "coder" "B" (.int ((0 : Int32).toInt8.toInt32)) := F_coder_x0_6.other W8 (Or.inr (slot_ne (Or.inr (hw _ (List.mem_of_getElem? (i := 17) rfl))) (Or.inr (hw _ (List.mem_of_getElem? (i := 16) rfl))) (by decide) (t := .byte) (t' := (.array .byte)) (by decide) (by decide)))
  obtain ⟨fs, hr, hrun, hended, hW, hsame⟩ := X8.leave (v := none) (fun _ => rfl)
  refine ⟨_, _, pre0 _ ?_, hrun, hended, _, _, rfl, ?_, ⟨_, rfl⟩, hW, hsame.mono (by decide) (by decide)⟩
  · show Steps p.tables e below (s₁.setTop (mkF m 0 #[.val (.ref x0), .val (.ref x1), .val (.int (0 : Int32)), .val (.int (2 : Int32)), .val .null, .unset] [])) _
    refine XS.aloadN X0.here hx rfl (hb hby d2_0) rfl rfl ?_
    show Steps p.tables e below (s₁.setTop (mkF m 1 #[.val (.ref x0), .val (.ref x1), .val (.int (0 : Int32)), .val (.int (2 : Int32)), .val .null, .unset] [(.ref x0)])) _
    refine st1 _ ?_
    show Steps p.tables e below (T1.setTop (mkF m 4 #[.val (.ref x0), .val (.ref x1), .val (.int (0 : Int32)), .val (.int (2 : Int32)), .val .null, .unset] [])) _
    refine XS.iloadN X1.here hx rfl (hb hby d2_4) rfl ?_
    show Steps p.tables e below (T1.setTop (mkF m 5 #[.val (.ref x0), .val (.ref x1), .val (.int (0 : Int32)), .val (.int (2 : Int32)), .val .null, .unset] [(.int (2 : Int32))])) _
    refine XS.ifYes X1.here hx rfl (pc0 := 5) (pc' := 27) rfl (hb hby d2_5) rfl ((if0 _ _).trans (feq (by decide : ¬ ((2 : Int32) = (0 : Int32)))).2) (by decide) (by decide) ?_
    show Steps p.tables e below (T1.setTop (mkF m 27 #[.val (.ref x0), .val (.ref x1), .val (.int (0 : Int32)), .val (.int (2 : Int32)), .val .null, .unset] [])) _
    refine st2 _ ?_
    show Steps p.tables e below (T2.setTop (mkF m 30 #[.val (.ref x0), .val (.ref x1), .val (.int (0 : Int32)), .val (.int (2 : Int32)), .val .null, .unset] [(.int cs)])) _
    refine XS.ifNo X2.here hx rfl (hb hby d2_30) rfl ((if0 _ _).trans (feq hcs).1) ?_
    show Steps p.tables e below (T2.setTop (mkF m 33 #[.val (.ref x0), .val (.ref x1), .val (.int (0 : Int32)), .val (.int (2 : Int32)), .val .null, .unset] [])) _
    refine XS.aloadN X2.here hx rfl (hb hby d2_33) rfl rfl ?_
    show Steps p.tables e below (T2.setTop (mkF m 34 #[.val (.ref x0), .val (.ref x1), .val (.int (0 : Int32)), .val (.int (2 : Int32)), .val .null, .unset] [(.ref x1)])) _
    refine XS.iloadN X2.here hx rfl (hb hby d2_34) rfl ?_
    show Steps p.tables e below (T2.setTop (mkF m 35 #[.val (.ref x0), .val (.ref x1), .val (.int (0 : Int32)), .val (.int (2 : Int32)), .val .null, .unset] [(.int (0 : Int32)), (.ref x1)])) _
    refine XS.iloadN X2.here hx rfl (hb hby d2_35) rfl ?_
    show Steps p.tables e below (T2.setTop (mkF m 36 #[.val (.ref x0), .val (.ref x1), .val (.int (0 : Int32)), .val (.int (2 : Int32)), .val .null, .unset] [(.int (2 : Int32)), (.int (0 : Int32)), (.ref x1)])) _
    refine st3 _ ?_
    show Steps p.tables e below (T3.setTop (mkF m 39 #[.val (.ref x0), .val (.ref x1), .val (.int (0 : Int32)), .val (.int (2 : Int32)), .val .null, .unset] [(.ref va)])) _
    refine XS.astore X3.here hx rfl (hb hby d2_39) rfl rfl (l' := #[.val (.ref x0), .val (.ref x1), .val (.int (0 : Int32)), .val (.int (2 : Int32)), .val .null, .val (.ref va)]) rfl ?_
    show Steps p.tables e below (T3.setTop (mkF m 41 #[.val (.ref x0), .val (.ref x1), .val (.int (0 : Int32)), .val (.int (2 : Int32)), .val .null, .val (.ref va)] [])) _
    refine XS.aloadN X3.here hx rfl (hb hby d2_41) rfl rfl ?_
    show Steps p.tables e below (T3.setTop (mkF m 42 #[.val (.ref x0), .val (.ref x1), .val (.int (0 : Int32)), .val (.int (2 : Int32)), .val .null, .val (.ref va)] [(.ref x0)])) _
    refine XS.aload X3.here hx rfl (hb hby d2_42) rfl rfl ?_
    show Steps p.tables e below (T3.setTop (mkF m 44 #[.val (.ref x0), .val (.ref x1), .val (.int (0 : Int32)), .val (.int (2 : Int32)), .val .null, .val (.ref va)] [(.ref va), (.ref x0)])) _
    refine XS.iloadN X3.here hx rfl (hb hby d2_44) rfl ?_
    show Steps p.tables e below (T3.setTop (mkF m 45 #[.val (.ref x0), .val (.ref x1), .val (.int (0 : Int32)), .val (.int (2 : Int32)), .val .null, .val (.ref va)] [(.int (2 : Int32)), (.ref va), (.ref x0)])) _
    refine st5 _ ?_
    show Steps p.tables e below (T5.setTop (mkF m 48 #[.val (.ref x0), .val (.ref x1), .val (.int (0 : Int32)), .val (.int (2 : Int32)), .val .null, .val (.ref va)] [(.int (0 : Int32)), (.ref x0)])) _
    refine st6 _ ?_
    show Steps p.tables e below (T6.setTop (mkF m 51 #[.val (.ref x0), .val (.ref x1), .val (.int (0 : Int32)), .val (.int (2 : Int32)), .val .null, .val (.ref va)] [])) _
    refine XS.aloadN X6.here hx rfl (hb hby d2_51) rfl rfl ?_
    show Steps p.tables e below (T6.setTop (mkF m 52 #[.val (.ref x0), .val (.ref x1), .val (.int (0 : Int32)), .val (.int (2 : Int32)), .val .null, .val (.ref va)] [(.ref x0)])) _
    refine XS.aload X6.here hx rfl (hb hby d2_52) rfl rfl ?_
    show Steps p.tables e below (T6.setTop (mkF m 54 #[.val (.ref x0), .val (.ref x1), .val (.int (0 : Int32)), .val (.int (2 : Int32)), .val .null, .val (.ref va)] [(.ref va), (.ref x0)])) _
    refine st8 _ ?_
    show Steps p.tables e below (T8.setTop (mkF m 57 #[.val (.ref x0), .val (.ref x1), .val (.int (0 : Int32)), .val (.int (2 : Int32)), .val .null, .val (.ref va)] [])) _
    exact X8.returnOut hx Bd.returns (hb hby d2_57) hr
  · exact (by
      have eT : (T8.setFrames fs).heap = h8 := e8
      rw [eT]; exact ⟨rfl, N8, keep_9, E_x0_9, va, kv, F_value_x0_8, F_coder_x0_8, V_va_9⟩)
set_option maxRecDepth 65536 in
set_option maxHeartbeats 40000000 in
theorem rms1_2 (l : Launch) (Z : State) (a0 : Array Value) (hw : ∀ d ∈ tables_1, d.before a0 Z = true) (ws : List Jvm.Cond) (x0 : Addr) (x1 : Addr) (k1 : ClassId) (c0 : Int32) (c1 : Int32) (cs : Int32) (h0 : Heap) (n0 : Nat) (Z0 : n0 ≤ h0.size) (E_x0 : Exa Z h0 x0 "java/lang/String") (F_value_x0 : Fld Z h0 x0 "java/lang/String" "value" "[B" .null) (F_coder_x0 : Fld Z h0 x0 "java/lang/String" "coder" "B" (.int (0 : Int32))) (V_x1 : Arv Z h0 x1 k1 .char (2 : Int32) [(.int c0), (.int c1)] (.int (0 : Int32))) (g_x0 : n0 ≤ x0) (ne01 : x0 ≠ x1) (hc0 : ¬ ((255 : Int32) < c0)) (hc1 : ¬ ((255 : Int32) < c1)) (O0 : Old Z n0 h0) (S_CS : Sta Z Z.heap "java/lang/String" "COMPACT_STRINGS" "Z" (.int cs)) (hcs : ¬ (cs = (0 : Int32))) :
    MetFree l (⟨"java/lang/String", "<init>", "([C)V"⟩ : MethodName) (head1 (Jvm.Cond.code (⟨"java/lang/String", "<init>", "([C)V"⟩ : MethodName) jdk_42_method_3_code 2 none :: ws) ({ frames := 3, cells := 1, slots := 2, locals := 52 } : Room)) (fun a U => a = #[(.ref x0), (.ref x1)] ∧ Z.Warmed39 U.vm ∧ U.heap = h0) (fun _ _ _ _ _ => True) (fun _ U o U' => ∃ v L, o = .returned v ∧ (QSI Z x0 (2 : Int32) [(.int (own_b c0)), (.int (own_b c1))] h0 n0 v U'.heap L) ∧ FrameEnd U o U' L ({ frames := 3, cells := 1, slots := 2, locals := 52 } : Room).cells ({ frames := 3, cells := 1, slots := 2, locals := 52 } : Room).slots) := by
  refine MetFree.of_bodySF (plainFor_of_name pn_1) hisR ?_
  intro p e s m args below meth c s₁ Bd hml0 hP hK
  obtain ⟨rfl, hZ, hh⟩ := hP
  have hx := Bd.exec
  have hby := Bd.bytes
  have hml : c.maxLocals = 2 := hml0
  have hown : s.vm.findClass "java/lang/String" = some m.cls := findClass_of_methodNamed Bd.named
  have hnm := (name_of_methodNamed Bd.named Bd.method).1
  have X0 : Stand p l e ({ frames := 3, cells := 1, slots := 2, locals := 52 } : Room) s m #[(.ref x0), (.ref x1)] below meth c s₁ [] 0 0 := Stand.of_body Bd
  have e0 : s₁.heap = h0 := by rw [← hh, Bd.state]; rfl
  have N0 := Fr.nil n0
  have pre0 : ∀ t, Steps p.tables e below (s₁.setTop (mkF m 0 #[.val (.ref x0), .val (.ref x1)] [])) t → Steps p.tables e below (s₁.setTop (entryFrame m #[(.ref x0), (.ref x1)] 2)) t := fun t k => castTop (ef_1 m x0 x1) k
  have K0 : Keep h0 h0 [x0] := Keep.refl h0 [x0]
  obtain ⟨_, _, ⟨T1, L1, k1, n1⟩, -, X1, ⟨Lc1, hQ1, l1, y1, z1⟩, st1⟩ := X0.specialBack hx (y := (⟨"java/lang/String", "<init>", "([CIILjava/lang/Void;)V"⟩ : MethodName)) rfl hown (mvT hZ (hw _ (List.mem_of_getElem? (i := 7) rfl))) (mvT hZ (hw _ (List.mem_of_getElem? (i := 8) rfl))) (mvT hZ (hw _ (List.mem_of_getElem? (i := 10) rfl))) (by decide) (backOf (W := 0) (rms4_2 l Z a0 hw [] x0 x1 k1 c0 c1 cs h0 n0 Z0 E_x0 F_value_x0 F_coder_x0 V_x1 g_x0 ne01 hc0 hc1 O0 S_CS hcs) hZ (hw _ (List.mem_of_getElem? (i := 10) rfl)) (hw _ (List.mem_of_getElem? (i := 3) rfl)) (by decide) (by decide)) (g := (mkF m 6 #[.val (.ref x0), .val (.ref x1)] [.null, (.int (2 : Int32)), (.int (0 : Int32)), (.ref x1), (.ref x0)])) rfl (by rw [hml]; rfl) (Steps.refl _) (a := x0) (argsL := [(.ref x1), (.int (0 : Int32)), (.int (2 : Int32)), .null]) (rest := []) (lenOf pd___CIILjava_lang_Void__V rfl) rfl (by show 2 * 0 + _ ≤ _; exact Nat.le_of_eq rfl) (hb hby d1_6) (fun _ _ => ⟨rfl, e0, (by decide : 0 + 1 ≤ _), (by decide : 0 + 2 ≤ _)⟩)
  dsimp only [Pt.U, Pt.locs, Pt.cells, Pt.slots] at X1 l1 y1 z1 st1 hQ1
  subst l1 y1 z1
  obtain ⟨rfl, N1q, K1, Eq1, va, kv, Fq1, Fr1, Vq1⟩ := hQ1
  have keep_2 : Keep h0 T1.heap [x0] := K0.trans K1 (allS (Or.inl (List.mem_of_getElem? (i := 0) rfl)) (all0))
  have V_x1_2 : Arv Z T1.heap x1 k1 .char (2 : Int32) [(.int c0), (.int c1)] (.int (0 : Int32)) := V_x1.keep K1 (ninS (Ne.symm ne01) nin0)
  have old_2 : Old Z n0 T1.heap := O0.keep K1 (allS g_x0 (all0))
  have siz_2 : n0 ≤ T1.heap.size := Nat.le_trans Z0 K1.1
  have N1 := Fr.app N0 N1q
  obtain ⟨fs, hr, hrun, hended, hW, hsame⟩ := X1.leave (v := none) (fun _ => rfl)
  refine ⟨_, _, pre0 _ ?_, hrun, hended, _, _, rfl, ?_, ⟨_, rfl⟩, hW, hsame.mono (by decide) (by decide)⟩
  · show Steps p.tables e below (s₁.setTop (mkF m 0 #[.val (.ref x0), .val (.ref x1)] [])) _
    refine XS.aloadN X0.here hx rfl (hb hby d1_0) rfl rfl ?_
    show Steps p.tables e below (s₁.setTop (mkF m 1 #[.val (.ref x0), .val (.ref x1)] [(.ref x0)])) _
    refine XS.aloadN X0.here hx rfl (hb hby d1_1) rfl rfl ?_
    show Steps p.tables e below (s₁.setTop (mkF m 2 #[.val (.ref x0), .val (.ref x1)] [(.ref x1), (.ref x0)])) _
    refine XS.iconst X0.here hx rfl (hb hby d1_2) ?_
    show Steps p.tables e below (s₁.setTop (mkF m 3 #[.val (.ref x0), .val (.ref x1)] [(.int (0 : Int32)), (.ref x1), (.ref x0)])) _
    refine XS.aloadN X0.here hx rfl (hb hby d1_3) rfl rfl ?_
    show Steps p.tables e below (s₁.setTop (mkF m 4 #[.val (.ref x0), .val (.ref x1)] [(.ref x1), (.int (0 : Int32)), (.ref x1), (.ref x0)])) _
    refine own_len X0 hx hZ e0 V_x1 (g := (mkF m 4 #[.val (.ref x0), .val (.ref x1)] [(.ref x1), (.int (0 : Int32)), (.ref x1), (.ref x0)])) rfl rfl (hb hby d1_4) ?_
    show Steps p.tables e below (s₁.setTop (mkF m 5 #[.val (.ref x0), .val (.ref x1)] [(.int (2 : Int32)), (.int (0 : Int32)), (.ref x1), (.ref x0)])) _
    refine XS.aconstNull X0.here hx rfl (hb hby d1_5) ?_
    show Steps p.tables e below (s₁.setTop (mkF m 6 #[.val (.ref x0), .val (.ref x1)] [.null, (.int (2 : Int32)), (.int (0 : Int32)), (.ref x1), (.ref x0)])) _
    refine st1.trans ?_
    show Steps p.tables e below (T1.setTop (mkF m 9 #[.val (.ref x0), .val (.ref x1)] [])) _
    exact X1.returnOut hx Bd.returns (hb hby d1_9) hr
  · exact (by
      have eT : (T1.setFrames fs).heap = T1.heap := rfl
      rw [eT]; exact ⟨rfl, N1, keep_2, Eq1, va, kv, Fq1, Fr1, Vq1⟩)
set_option maxRecDepth 65536 in
set_option maxHeartbeats 40000000 in
theorem rmc5_3 (l : Launch) (Z : State) (a0 : Array Value) (hw : ∀ d ∈ tables_1, d.before a0 Z = true) (ws : List Jvm.Cond) (x0 : Addr) (x2 : Addr) (k0 k2 : ClassId) (c0 : Int32) (c1 : Int32) (c2 : Int32) (h0 : Heap) (n0 : Nat) (Z0 : n0 ≤ h0.size) (V_x0 : Arv Z h0 x0 k0 .char (3 : Int32) [(.int c0), (.int c1), (.int c2)] (.int (0 : Int32))) (V_x2 : Arv Z h0 x2 k2 .byte (3 : Int32) [(.int (0 : Int32)), (.int (0 : Int32)), (.int (0 : Int32))] (.int (0 : Int32))) (g_x2 : n0 ≤ x2) (ne02 : x0 ≠ x2) (hc0 : ¬ ((255 : Int32) < c0)) (hc1 : ¬ ((255 : Int32) < c1)) (hc2 : ¬ ((255 : Int32) < c2)) :
    MetFree l (⟨"java/lang/StringUTF16", "compress", "([CI[BII)I"⟩ : MethodName) (head1 (Jvm.Cond.code (⟨"java/lang/StringUTF16", "compress", "([CI[BII)I"⟩ : MethodName) jdk_52_method_21_code 7 (some .int) :: ws) ({ frames := 0, cells := 0, slots := 0, locals := 0 } : Room)) (fun a U => a = #[(.ref x0), (.int (0 : Int32)), (.ref x2), (.int (0 : Int32)), (.int (3 : Int32))] ∧ Z.Warmed39 U.vm ∧ U.heap = h0) (fun _ _ _ _ _ => True) (fun _ U o U' => ∃ v L, o = .returned v ∧ (QC5 Z x2 k2 (3 : Int32) [(.int (own_b c0)), (.int (own_b c1)), (.int (own_b c2))] h0 n0 v U'.heap L) ∧ FrameEnd U o U' L ({ frames := 0, cells := 0, slots := 0, locals := 0 } : Room).cells ({ frames := 0, cells := 0, slots := 0, locals := 0 } : Room).slots) := by
  refine MetFree.of_bodySF (plainFor_of_name pn_10) hisR ?_
  intro p e s m args below meth c s₁ Bd hml0 hP hK
  obtain ⟨rfl, hZ, hh⟩ := hP
  have hx := Bd.exec
  have hby := Bd.bytes
  have hml : c.maxLocals = 7 := hml0
  have hown : s.vm.findClass "java/lang/StringUTF16" = some m.cls := findClass_of_methodNamed Bd.named
  have hnm := (name_of_methodNamed Bd.named Bd.method).1
  have X0 : Stand p l e ({ frames := 0, cells := 0, slots := 0, locals := 0 } : Room) s m #[(.ref x0), (.int (0 : Int32)), (.ref x2), (.int (0 : Int32)), (.int (3 : Int32))] below meth c s₁ [] 0 0 := Stand.of_body Bd
  have e0 : s₁.heap = h0 := by rw [← hh, Bd.state]; rfl
  have N0 := Fr.nil n0
  have pre0 : ∀ t, Steps p.tables e below (s₁.setTop (mkF m 0 #[.val (.ref x0), .val (.int (0 : Int32)), .val (.ref x2), .val (.int (0 : Int32)), .val (.int (3 : Int32)), .unset, .unset] [])) t → Steps p.tables e below (s₁.setTop (entryFrame m #[(.ref x0), (.int (0 : Int32)), (.ref x2), (.int (0 : Int32)), (.int (3 : Int32))] 7)) t := fun t k => castTop (ef_10 m x0 (0 : Int32) x2 (0 : Int32) (3 : Int32)) k
  have K0 : Keep h0 h0 [x2] := Keep.refl h0 [x2]
  obtain ⟨T1, h1, L1, X1, e1, N1, W1, V1, st1⟩ := own_stB X0 hx hZ e0 V_x2 (j := (0 : Int32)) ⟨by decide, by decide⟩ (i := 0) rfl (Nat.le_of_ble_eq_true rfl) N0 g_x2 (g := (mkF m 31 #[.val (.ref x0), .val (.int (0 : Int32)), .val (.ref x2), .val (.int (0 : Int32)), .val (.int (3 : Int32)), .val (.int (0 : Int32)), .val (.int c0)] [(.int (c0.toInt8.toInt32)), (.int (0 : Int32)), (.ref x2)])) rfl rfl (hb hby d10_31)
  have keep_2 : Keep h0 h1 [x2] := K0.wr W1 (Or.inl (List.mem_of_getElem? (i := 0) rfl))
  have V_x0_2 : Arv Z h1 x0 k0 .char (3 : Int32) [(.int c0), (.int c1), (.int c2)] (.int (0 : Int32)) := V_x0.other W1 ne02
  have siz_2 : n0 ≤ h1.size := Nat.le_trans Z0 (Keep.of_wr W1).1
  have V_x2_1 : Arv Z h1 x2 k2 .byte (3 : Int32) [(.int (nar .byte (c0.toInt8.toInt32))), (.int (0 : Int32)), (.int (0 : Int32))] (.int (0 : Int32)) := V1
  obtain ⟨T3, h3, L3, X3, e3, N3, W3, V3, st3⟩ := own_stB X1 hx hZ e1 V_x2_1 (j := (1 : Int32)) ⟨by decide, by decide⟩ (i := 1) rfl (Nat.le_of_ble_eq_true rfl) N1 g_x2 (g := (mkF m 31 #[.val (.ref x0), .val (.int (1 : Int32)), .val (.ref x2), .val (.int (1 : Int32)), .val (.int (3 : Int32)), .val (.int (1 : Int32)), .val (.int c1)] [(.int (c1.toInt8.toInt32)), (.int (1 : Int32)), (.ref x2)])) rfl rfl (hb hby d10_31)
  have keep_4 : Keep h0 h3 [x2] := keep_2.wr W3 (Or.inl (List.mem_of_getElem? (i := 0) rfl))
  have V_x0_4 : Arv Z h3 x0 k0 .char (3 : Int32) [(.int c0), (.int c1), (.int c2)] (.int (0 : Int32)) := V_x0_2.other W3 ne02
  have siz_4 : n0 ≤ h3.size := Nat.le_trans siz_2 (Keep.of_wr W3).1
  have V_x2_3 : Arv Z h3 x2 k2 .byte (3 : Int32) [(.int (nar .byte (c0.toInt8.toInt32))), (.int (nar .byte (c1.toInt8.toInt32))), (.int (0 : Int32))] (.int (0 : Int32)) := V3
  obtain ⟨T5, h5, L5, X5, e5, N5, W5, V5, st5⟩ := own_stB X3 hx hZ e3 V_x2_3 (j := (2 : Int32)) ⟨by decide, by decide⟩ (i := 2) rfl (Nat.le_of_ble_eq_true rfl) N3 g_x2 (g := (mkF m 31 #[.val (.ref x0), .val (.int (2 : Int32)), .val (.ref x2), .val (.int (2 : Int32)), .val (.int (3 : Int32)), .val (.int (2 : Int32)), .val (.int c2)] [(.int (c2.toInt8.toInt32)), (.int (2 : Int32)), (.ref x2)])) rfl rfl (hb hby d10_31)
  have keep_6 : Keep h0 h5 [x2] := keep_4.wr W5 (Or.inl (List.mem_of_getElem? (i := 0) rfl))
  have V_x0_6 : Arv Z h5 x0 k0 .char (3 : Int32) [(.int c0), (.int c1), (.int c2)] (.int (0 : Int32)) := V_x0_4.other W5 ne02
  have siz_6 : n0 ≤ h5.size := Nat.le_trans siz_4 (Keep.of_wr W5).1
  have V_x2_5 : Arv Z h5 x2 k2 .byte (3 : Int32) [(.int (nar .byte (c0.toInt8.toInt32))), (.int (nar .byte (c1.toInt8.toInt32))), (.int (nar .byte (c2.toInt8.toInt32)))] (.int (0 : Int32)) := V5
  obtain ⟨fs, hr, hrun, hended, hW, hsame⟩ := X5.leave (v := some (.int (3 : Int32))) (fun h => by rw [Bd.returns] at h; cases h)
  refine ⟨_, _, pre0 _ ?_, hrun, hended, _, _, rfl, ?_, ⟨_, rfl⟩, hW, hsame.mono (by decide) (by decide)⟩
  · show Steps p.tables e below (s₁.setTop (mkF m 0 #[.val (.ref x0), .val (.int (0 : Int32)), .val (.ref x2), .val (.int (0 : Int32)), .val (.int (3 : Int32)), .unset, .unset] [])) _
    refine XS.iconst X0.here hx rfl (hb hby d10_0) ?_
    show Steps p.tables e below (s₁.setTop (mkF m 1 #[.val (.ref x0), .val (.int (0 : Int32)), .val (.ref x2), .val (.int (0 : Int32)), .val (.int (3 : Int32)), .unset, .unset] [(.int (0 : Int32))])) _
    refine XS.istore X0.here hx rfl (hb hby d10_1) rfl (l' := #[.val (.ref x0), .val (.int (0 : Int32)), .val (.ref x2), .val (.int (0 : Int32)), .val (.int (3 : Int32)), .val (.int (0 : Int32)), .unset]) rfl ?_
    show Steps p.tables e below (s₁.setTop (mkF m 3 #[.val (.ref x0), .val (.int (0 : Int32)), .val (.ref x2), .val (.int (0 : Int32)), .val (.int (3 : Int32)), .val (.int (0 : Int32)), .unset] [])) _
    refine XS.iload X0.here hx rfl (hb hby d10_3) rfl ?_
    show Steps p.tables e below (s₁.setTop (mkF m 5 #[.val (.ref x0), .val (.int (0 : Int32)), .val (.ref x2), .val (.int (0 : Int32)), .val (.int (3 : Int32)), .val (.int (0 : Int32)), .unset] [(.int (0 : Int32))])) _
    refine XS.iload X0.here hx rfl (hb hby d10_5) rfl ?_
    show Steps p.tables e below (s₁.setTop (mkF m 7 #[.val (.ref x0), .val (.int (0 : Int32)), .val (.ref x2), .val (.int (0 : Int32)), .val (.int (3 : Int32)), .val (.int (0 : Int32)), .unset] [(.int (3 : Int32)), (.int (0 : Int32))])) _
    refine XS.icmpNo X0.here hx rfl (hb hby d10_7) rfl (tlt (by decide : (0 : Int32) < (3 : Int32))).2.1 ?_
    show Steps p.tables e below (s₁.setTop (mkF m 10 #[.val (.ref x0), .val (.int (0 : Int32)), .val (.ref x2), .val (.int (0 : Int32)), .val (.int (3 : Int32)), .val (.int (0 : Int32)), .unset] [])) _
    refine XS.aloadN X0.here hx rfl (hb hby d10_10) rfl rfl ?_
    show Steps p.tables e below (s₁.setTop (mkF m 11 #[.val (.ref x0), .val (.int (0 : Int32)), .val (.ref x2), .val (.int (0 : Int32)), .val (.int (3 : Int32)), .val (.int (0 : Int32)), .unset] [(.ref x0)])) _
    refine XS.iloadN X0.here hx rfl (hb hby d10_11) rfl ?_
    show Steps p.tables e below (s₁.setTop (mkF m 12 #[.val (.ref x0), .val (.int (0 : Int32)), .val (.ref x2), .val (.int (0 : Int32)), .val (.int (3 : Int32)), .val (.int (0 : Int32)), .unset] [(.int (0 : Int32)), (.ref x0)])) _
    refine own_ldC X0 hx hZ e0 V_x0 (j := (0 : Int32)) (w := c0) ⟨by decide, by decide⟩ rfl (g := (mkF m 12 #[.val (.ref x0), .val (.int (0 : Int32)), .val (.ref x2), .val (.int (0 : Int32)), .val (.int (3 : Int32)), .val (.int (0 : Int32)), .unset] [(.int (0 : Int32)), (.ref x0)])) rfl rfl (hb hby d10_12) ?_
    show Steps p.tables e below (s₁.setTop (mkF m 13 #[.val (.ref x0), .val (.int (0 : Int32)), .val (.ref x2), .val (.int (0 : Int32)), .val (.int (3 : Int32)), .val (.int (0 : Int32)), .unset] [(.int c0)])) _
    refine XS.istore X0.here hx rfl (hb hby d10_13) rfl (l' := #[.val (.ref x0), .val (.int (0 : Int32)), .val (.ref x2), .val (.int (0 : Int32)), .val (.int (3 : Int32)), .val (.int (0 : Int32)), .val (.int c0)]) rfl ?_
    show Steps p.tables e below (s₁.setTop (mkF m 15 #[.val (.ref x0), .val (.int (0 : Int32)), .val (.ref x2), .val (.int (0 : Int32)), .val (.int (3 : Int32)), .val (.int (0 : Int32)), .val (.int c0)] [])) _
    refine XS.iload X0.here hx rfl (hb hby d10_15) rfl ?_
    show Steps p.tables e below (s₁.setTop (mkF m 17 #[.val (.ref x0), .val (.int (0 : Int32)), .val (.ref x2), .val (.int (0 : Int32)), .val (.int (3 : Int32)), .val (.int (0 : Int32)), .val (.int c0)] [(.int c0)])) _
    refine XS.sipush X0.here hx rfl (hb hby d10_17) ?_
    show Steps p.tables e below (s₁.setTop (mkF m 20 #[.val (.ref x0), .val (.int (0 : Int32)), .val (.ref x2), .val (.int (0 : Int32)), .val (.int (3 : Int32)), .val (.int (0 : Int32)), .val (.int c0)] [(.int (255 : Int32)), (.int c0)])) _
    refine XS.icmpYes X0.here hx rfl (pc0 := 20) (pc' := 26) rfl (hb hby d10_20) rfl (flt hc0).2.2.2 (by decide) (by decide) ?_
    show Steps p.tables e below (s₁.setTop (mkF m 26 #[.val (.ref x0), .val (.int (0 : Int32)), .val (.ref x2), .val (.int (0 : Int32)), .val (.int (3 : Int32)), .val (.int (0 : Int32)), .val (.int c0)] [])) _
    refine XS.aloadN X0.here hx rfl (hb hby d10_26) rfl rfl ?_
    show Steps p.tables e below (s₁.setTop (mkF m 27 #[.val (.ref x0), .val (.int (0 : Int32)), .val (.ref x2), .val (.int (0 : Int32)), .val (.int (3 : Int32)), .val (.int (0 : Int32)), .val (.int c0)] [(.ref x2)])) _
    refine XS.iloadN X0.here hx rfl (hb hby d10_27) rfl ?_
    show Steps p.tables e below (s₁.setTop (mkF m 28 #[.val (.ref x0), .val (.int (0 : Int32)), .val (.ref x2), .val (.int (0 : Int32)), .val (.int (3 : Int32)), .val (.int (0 : Int32)), .val (.int c0)] [(.int (0 : Int32)), (.ref x2)])) _
    refine XS.iload X0.here hx rfl (hb hby d10_28) rfl ?_
    show Steps p.tables e below (s₁.setTop (mkF m 30 #[.val (.ref x0), .val (.int (0 : Int32)), .val (.ref x2), .val (.int (0 : Int32)), .val (.int (3 : Int32)), .val (.int (0 : Int32)), .val (.int c0)] [(.int c0), (.int (0 : Int32)), (.ref x2)])) _
    refine XS.i2b X0.here hx rfl (hb hby d10_30) rfl ?_
    show Steps p.tables e below (s₁.setTop (mkF m 31 #[.val (.ref x0), .val (.int (0 : Int32)), .val (.ref x2), .val (.int (0 : Int32)), .val (.int (3 : Int32)), .val (.int (0 : Int32)), .val (.int c0)] [(.int (c0.toInt8.toInt32)), (.int (0 : Int32)), (.ref x2)])) _
    refine st1 _ ?_
    show Steps p.tables e below (T1.setTop (mkF m 32 #[.val (.ref x0), .val (.int (0 : Int32)), .val (.ref x2), .val (.int (0 : Int32)), .val (.int (3 : Int32)), .val (.int (0 : Int32)), .val (.int c0)] [])) _
    refine XS.iinc X1.here hx rfl (hb hby d10_32) rfl (l' := #[.val (.ref x0), .val (.int ((0 : Int32) + (1 : Int32))), .val (.ref x2), .val (.int (0 : Int32)), .val (.int (3 : Int32)), .val (.int (0 : Int32)), .val (.int c0)]) rfl ?_
    show Steps p.tables e below (T1.setTop (mkF m 35 #[.val (.ref x0), .val (.int ((0 : Int32) + (1 : Int32))), .val (.ref x2), .val (.int (0 : Int32)), .val (.int (3 : Int32)), .val (.int (0 : Int32)), .val (.int c0)] [])) _
    rw [show ((0 : Int32) + (1 : Int32)) = (1 : Int32) from by decide]
    show Steps p.tables e below (T1.setTop (mkF m 35 #[.val (.ref x0), .val (.int (1 : Int32)), .val (.ref x2), .val (.int (0 : Int32)), .val (.int (3 : Int32)), .val (.int (0 : Int32)), .val (.int c0)] [])) _
    refine XS.iinc X1.here hx rfl (hb hby d10_35) rfl (l' := #[.val (.ref x0), .val (.int (1 : Int32)), .val (.ref x2), .val (.int ((0 : Int32) + (1 : Int32))), .val (.int (3 : Int32)), .val (.int (0 : Int32)), .val (.int c0)]) rfl ?_
    show Steps p.tables e below (T1.setTop (mkF m 38 #[.val (.ref x0), .val (.int (1 : Int32)), .val (.ref x2), .val (.int ((0 : Int32) + (1 : Int32))), .val (.int (3 : Int32)), .val (.int (0 : Int32)), .val (.int c0)] [])) _
    rw [show ((0 : Int32) + (1 : Int32)) = (1 : Int32) from by decide]
    show Steps p.tables e below (T1.setTop (mkF m 38 #[.val (.ref x0), .val (.int (1 : Int32)), .val (.ref x2), .val (.int (1 : Int32)), .val (.int (3 : Int32)), .val (.int (0 : Int32)), .val (.int c0)] [])) _
    refine XS.iinc X1.here hx rfl (hb hby d10_38) rfl (l' := #[.val (.ref x0), .val (.int (1 : Int32)), .val (.ref x2), .val (.int (1 : Int32)), .val (.int (3 : Int32)), .val (.int ((0 : Int32) + (1 : Int32))), .val (.int c0)]) rfl ?_
    show Steps p.tables e below (T1.setTop (mkF m 41 #[.val (.ref x0), .val (.int (1 : Int32)), .val (.ref x2), .val (.int (1 : Int32)), .val (.int (3 : Int32)), .val (.int ((0 : Int32) + (1 : Int32))), .val (.int c0)] [])) _
    rw [show ((0 : Int32) + (1 : Int32)) = (1 : Int32) from by decide]
    show Steps p.tables e below (T1.setTop (mkF m 41 #[.val (.ref x0), .val (.int (1 : Int32)), .val (.ref x2), .val (.int (1 : Int32)), .val (.int (3 : Int32)), .val (.int (1 : Int32)), .val (.int c0)] [])) _
    refine XS.goto X1.here hx rfl (pc0 := 41) (pc' := 3) rfl (hb hby d10_41) (by decide) (by decide) ?_
    show Steps p.tables e below (T1.setTop (mkF m 3 #[.val (.ref x0), .val (.int (1 : Int32)), .val (.ref x2), .val (.int (1 : Int32)), .val (.int (3 : Int32)), .val (.int (1 : Int32)), .val (.int c0)] [])) _
    refine XS.iload X1.here hx rfl (hb hby d10_3) rfl ?_
    show Steps p.tables e below (T1.setTop (mkF m 5 #[.val (.ref x0), .val (.int (1 : Int32)), .val (.ref x2), .val (.int (1 : Int32)), .val (.int (3 : Int32)), .val (.int (1 : Int32)), .val (.int c0)] [(.int (1 : Int32))])) _
    refine XS.iload X1.here hx rfl (hb hby d10_5) rfl ?_
    show Steps p.tables e below (T1.setTop (mkF m 7 #[.val (.ref x0), .val (.int (1 : Int32)), .val (.ref x2), .val (.int (1 : Int32)), .val (.int (3 : Int32)), .val (.int (1 : Int32)), .val (.int c0)] [(.int (3 : Int32)), (.int (1 : Int32))])) _
    refine XS.icmpNo X1.here hx rfl (hb hby d10_7) rfl (tlt (by decide : (1 : Int32) < (3 : Int32))).2.1 ?_
    show Steps p.tables e below (T1.setTop (mkF m 10 #[.val (.ref x0), .val (.int (1 : Int32)), .val (.ref x2), .val (.int (1 : Int32)), .val (.int (3 : Int32)), .val (.int (1 : Int32)), .val (.int c0)] [])) _
    refine XS.aloadN X1.here hx rfl (hb hby d10_10) rfl rfl ?_
    show Steps p.tables e below (T1.setTop (mkF m 11 #[.val (.ref x0), .val (.int (1 : Int32)), .val (.ref x2), .val (.int (1 : Int32)), .val (.int (3 : Int32)), .val (.int (1 : Int32)), .val (.int c0)] [(.ref x0)])) _
    refine XS.iloadN X1.here hx rfl (hb hby d10_11) rfl ?_
    show Steps p.tables e below (T1.setTop (mkF m 12 #[.val (.ref x0), .val (.int (1 : Int32)), .val (.ref x2), .val (.int (1 : Int32)), .val (.int (3 : Int32)), .val (.int (1 : Int32)), .val (.int c0)] [(.int (1 : Int32)), (.ref x0)])) _
    refine own_ldC X1 hx hZ e1 V_x0_2 (j := (1 : Int32)) (w := c1) ⟨by decide, by decide⟩ rfl (g := (mkF m 12 #[.val (.ref x0), .val (.int (1 : Int32)), .val (.ref x2), .val (.int (1 : Int32)), .val (.int (3 : Int32)), .val (.int (1 : Int32)), .val (.int c0)] [(.int (1 : Int32)), (.ref x0)])) rfl rfl (hb hby d10_12) ?_
    show Steps p.tables e below (T1.setTop (mkF m 13 #[.val (.ref x0), .val (.int (1 : Int32)), .val (.ref x2), .val (.int (1 : Int32)), .val (.int (3 : Int32)), .val (.int (1 : Int32)), .val (.int c0)] [(.int c1)])) _
    refine XS.istore X1.here hx rfl (hb hby d10_13) rfl (l' := #[.val (.ref x0), .val (.int (1 : Int32)), .val (.ref x2), .val (.int (1 : Int32)), .val (.int (3 : Int32)), .val (.int (1 : Int32)), .val (.int c1)]) rfl ?_
    show Steps p.tables e below (T1.setTop (mkF m 15 #[.val (.ref x0), .val (.int (1 : Int32)), .val (.ref x2), .val (.int (1 : Int32)), .val (.int (3 : Int32)), .val (.int (1 : Int32)), .val (.int c1)] [])) _
    refine XS.iload X1.here hx rfl (hb hby d10_15) rfl ?_
    show Steps p.tables e below (T1.setTop (mkF m 17 #[.val (.ref x0), .val (.int (1 : Int32)), .val (.ref x2), .val (.int (1 : Int32)), .val (.int (3 : Int32)), .val (.int (1 : Int32)), .val (.int c1)] [(.int c1)])) _
    refine XS.sipush X1.here hx rfl (hb hby d10_17) ?_
    show Steps p.tables e below (T1.setTop (mkF m 20 #[.val (.ref x0), .val (.int (1 : Int32)), .val (.ref x2), .val (.int (1 : Int32)), .val (.int (3 : Int32)), .val (.int (1 : Int32)), .val (.int c1)] [(.int (255 : Int32)), (.int c1)])) _
    refine XS.icmpYes X1.here hx rfl (pc0 := 20) (pc' := 26) rfl (hb hby d10_20) rfl (flt hc1).2.2.2 (by decide) (by decide) ?_
    show Steps p.tables e below (T1.setTop (mkF m 26 #[.val (.ref x0), .val (.int (1 : Int32)), .val (.ref x2), .val (.int (1 : Int32)), .val (.int (3 : Int32)), .val (.int (1 : Int32)), .val (.int c1)] [])) _
    refine XS.aloadN X1.here hx rfl (hb hby d10_26) rfl rfl ?_
    show Steps p.tables e below (T1.setTop (mkF m 27 #[.val (.ref x0), .val (.int (1 : Int32)), .val (.ref x2), .val (.int (1 : Int32)), .val (.int (3 : Int32)), .val (.int (1 : Int32)), .val (.int c1)] [(.ref x2)])) _
    refine XS.iloadN X1.here hx rfl (hb hby d10_27) rfl ?_
    show Steps p.tables e below (T1.setTop (mkF m 28 #[.val (.ref x0), .val (.int (1 : Int32)), .val (.ref x2), .val (.int (1 : Int32)), .val (.int (3 : Int32)), .val (.int (1 : Int32)), .val (.int c1)] [(.int (1 : Int32)), (.ref x2)])) _
    refine XS.iload X1.here hx rfl (hb hby d10_28) rfl ?_
    show Steps p.tables e below (T1.setTop (mkF m 30 #[.val (.ref x0), .val (.int (1 : Int32)), .val (.ref x2), .val (.int (1 : Int32)), .val (.int (3 : Int32)), .val (.int (1 : Int32)), .val (.int c1)] [(.int c1), (.int (1 : Int32)), (.ref x2)])) _
    refine XS.i2b X1.here hx rfl (hb hby d10_30) rfl ?_
    show Steps p.tables e below (T1.setTop (mkF m 31 #[.val (.ref x0), .val (.int (1 : Int32)), .val (.ref x2), .val (.int (1 : Int32)), .val (.int (3 : Int32)), .val (.int (1 : Int32)), .val (.int c1)] [(.int (c1.toInt8.toInt32)), (.int (1 : Int32)), (.ref x2)])) _
    refine st3 _ ?_
    show Steps p.tables e below (T3.setTop (mkF m 32 #[.val (.ref x0), .val (.int (1 : Int32)), .val (.ref x2), .val (.int (1 : Int32)), .val (.int (3 : Int32)), .val (.int (1 : Int32)), .val (.int c1)] [])) _
    refine XS.iinc X3.here hx rfl (hb hby d10_32) rfl (l' := #[.val (.ref x0), .val (.int ((1 : Int32) + (1 : Int32))), .val (.ref x2), .val (.int (1 : Int32)), .val (.int (3 : Int32)), .val (.int (1 : Int32)), .val (.int c1)]) rfl ?_
    show Steps p.tables e below (T3.setTop (mkF m 35 #[.val (.ref x0), .val (.int ((1 : Int32) + (1 : Int32))), .val (.ref x2), .val (.int (1 : Int32)), .val (.int (3 : Int32)), .val (.int (1 : Int32)), .val (.int c1)] [])) _
    rw [show ((1 : Int32) + (1 : Int32)) = (2 : Int32) from by decide]
    show Steps p.tables e below (T3.setTop (mkF m 35 #[.val (.ref x0), .val (.int (2 : Int32)), .val (.ref x2), .val (.int (1 : Int32)), .val (.int (3 : Int32)), .val (.int (1 : Int32)), .val (.int c1)] [])) _
    refine XS.iinc X3.here hx rfl (hb hby d10_35) rfl (l' := #[.val (.ref x0), .val (.int (2 : Int32)), .val (.ref x2), .val (.int ((1 : Int32) + (1 : Int32))), .val (.int (3 : Int32)), .val (.int (1 : Int32)), .val (.int c1)]) rfl ?_
    show Steps p.tables e below (T3.setTop (mkF m 38 #[.val (.ref x0), .val (.int (2 : Int32)), .val (.ref x2), .val (.int ((1 : Int32) + (1 : Int32))), .val (.int (3 : Int32)), .val (.int (1 : Int32)), .val (.int c1)] [])) _
    rw [show ((1 : Int32) + (1 : Int32)) = (2 : Int32) from by decide]
    show Steps p.tables e below (T3.setTop (mkF m 38 #[.val (.ref x0), .val (.int (2 : Int32)), .val (.ref x2), .val (.int (2 : Int32)), .val (.int (3 : Int32)), .val (.int (1 : Int32)), .val (.int c1)] [])) _
    refine XS.iinc X3.here hx rfl (hb hby d10_38) rfl (l' := #[.val (.ref x0), .val (.int (2 : Int32)), .val (.ref x2), .val (.int (2 : Int32)), .val (.int (3 : Int32)), .val (.int ((1 : Int32) + (1 : Int32))), .val (.int c1)]) rfl ?_
    show Steps p.tables e below (T3.setTop (mkF m 41 #[.val (.ref x0), .val (.int (2 : Int32)), .val (.ref x2), .val (.int (2 : Int32)), .val (.int (3 : Int32)), .val (.int ((1 : Int32) + (1 : Int32))), .val (.int c1)] [])) _
    rw [show ((1 : Int32) + (1 : Int32)) = (2 : Int32) from by decide]
    show Steps p.tables e below (T3.setTop (mkF m 41 #[.val (.ref x0), .val (.int (2 : Int32)), .val (.ref x2), .val (.int (2 : Int32)), .val (.int (3 : Int32)), .val (.int (2 : Int32)), .val (.int c1)] [])) _
    refine XS.goto X3.here hx rfl (pc0 := 41) (pc' := 3) rfl (hb hby d10_41) (by decide) (by decide) ?_
    show Steps p.tables e below (T3.setTop (mkF m 3 #[.val (.ref x0), .val (.int (2 : Int32)), .val (.ref x2), .val (.int (2 : Int32)), .val (.int (3 : Int32)), .val (.int (2 : Int32)), .val (.int c1)] [])) _
    refine XS.iload X3.here hx rfl (hb hby d10_3) rfl ?_
    show Steps p.tables e below (T3.setTop (mkF m 5 #[.val (.ref x0), .val (.int (2 : Int32)), .val (.ref x2), .val (.int (2 : Int32)), .val (.int (3 : Int32)), .val (.int (2 : Int32)), .val (.int c1)] [(.int (2 : Int32))])) _
    refine XS.iload X3.here hx rfl (hb hby d10_5) rfl ?_
    show Steps p.tables e below (T3.setTop (mkF m 7 #[.val (.ref x0), .val (.int (2 : Int32)), .val (.ref x2), .val (.int (2 : Int32)), .val (.int (3 : Int32)), .val (.int (2 : Int32)), .val (.int c1)] [(.int (3 : Int32)), (.int (2 : Int32))])) _
    refine XS.icmpNo X3.here hx rfl (hb hby d10_7) rfl (tlt (by decide : (2 : Int32) < (3 : Int32))).2.1 ?_
    show Steps p.tables e below (T3.setTop (mkF m 10 #[.val (.ref x0), .val (.int (2 : Int32)), .val (.ref x2), .val (.int (2 : Int32)), .val (.int (3 : Int32)), .val (.int (2 : Int32)), .val (.int c1)] [])) _
    refine XS.aloadN X3.here hx rfl (hb hby d10_10) rfl rfl ?_
    show Steps p.tables e below (T3.setTop (mkF m 11 #[.val (.ref x0), .val (.int (2 : Int32)), .val (.ref x2), .val (.int (2 : Int32)), .val (.int (3 : Int32)), .val (.int (2 : Int32)), .val (.int c1)] [(.ref x0)])) _
    refine XS.iloadN X3.here hx rfl (hb hby d10_11) rfl ?_
    show Steps p.tables e below (T3.setTop (mkF m 12 #[.val (.ref x0), .val (.int (2 : Int32)), .val (.ref x2), .val (.int (2 : Int32)), .val (.int (3 : Int32)), .val (.int (2 : Int32)), .val (.int c1)] [(.int (2 : Int32)), (.ref x0)])) _
    refine own_ldC X3 hx hZ e3 V_x0_4 (j := (2 : Int32)) (w := c2) ⟨by decide, by decide⟩ rfl (g := (mkF m 12 #[.val (.ref x0), .val (.int (2 : Int32)), .val (.ref x2), .val (.int (2 : Int32)), .val (.int (3 : Int32)), .val (.int (2 : Int32)), .val (.int c1)] [(.int (2 : Int32)), (.ref x0)])) rfl rfl (hb hby d10_12) ?_
    show Steps p.tables e below (T3.setTop (mkF m 13 #[.val (.ref x0), .val (.int (2 : Int32)), .val (.ref x2), .val (.int (2 : Int32)), .val (.int (3 : Int32)), .val (.int (2 : Int32)), .val (.int c1)] [(.int c2)])) _
    refine XS.istore X3.here hx rfl (hb hby d10_13) rfl (l' := #[.val (.ref x0), .val (.int (2 : Int32)), .val (.ref x2), .val (.int (2 : Int32)), .val (.int (3 : Int32)), .val (.int (2 : Int32)), .val (.int c2)]) rfl ?_
    show Steps p.tables e below (T3.setTop (mkF m 15 #[.val (.ref x0), .val (.int (2 : Int32)), .val (.ref x2), .val (.int (2 : Int32)), .val (.int (3 : Int32)), .val (.int (2 : Int32)), .val (.int c2)] [])) _
    refine XS.iload X3.here hx rfl (hb hby d10_15) rfl ?_
    show Steps p.tables e below (T3.setTop (mkF m 17 #[.val (.ref x0), .val (.int (2 : Int32)), .val (.ref x2), .val (.int (2 : Int32)), .val (.int (3 : Int32)), .val (.int (2 : Int32)), .val (.int c2)] [(.int c2)])) _
    refine XS.sipush X3.here hx rfl (hb hby d10_17) ?_
    show Steps p.tables e below (T3.setTop (mkF m 20 #[.val (.ref x0), .val (.int (2 : Int32)), .val (.ref x2), .val (.int (2 : Int32)), .val (.int (3 : Int32)), .val (.int (2 : Int32)), .val (.int c2)] [(.int (255 : Int32)), (.int c2)])) _
    refine XS.icmpYes X3.here hx rfl (pc0 := 20) (pc' := 26) rfl (hb hby d10_20) rfl (flt hc2).2.2.2 (by decide) (by decide) ?_
    show Steps p.tables e below (T3.setTop (mkF m 26 #[.val (.ref x0), .val (.int (2 : Int32)), .val (.ref x2), .val (.int (2 : Int32)), .val (.int (3 : Int32)), .val (.int (2 : Int32)), .val (.int c2)] [])) _
    refine XS.aloadN X3.here hx rfl (hb hby d10_26) rfl rfl ?_
    show Steps p.tables e below (T3.setTop (mkF m 27 #[.val (.ref x0), .val (.int (2 : Int32)), .val (.ref x2), .val (.int (2 : Int32)), .val (.int (3 : Int32)), .val (.int (2 : Int32)), .val (.int c2)] [(.ref x2)])) _
    refine XS.iloadN X3.here hx rfl (hb hby d10_27) rfl ?_
    show Steps p.tables e below (T3.setTop (mkF m 28 #[.val (.ref x0), .val (.int (2 : Int32)), .val (.ref x2), .val (.int (2 : Int32)), .val (.int (3 : Int32)), .val (.int (2 : Int32)), .val (.int c2)] [(.int (2 : Int32)), (.ref x2)])) _
    refine XS.iload X3.here hx rfl (hb hby d10_28) rfl ?_
    show Steps p.tables e below (T3.setTop (mkF m 30 #[.val (.ref x0), .val (.int (2 : Int32)), .val (.ref x2), .val (.int (2 : Int32)), .val (.int (3 : Int32)), .val (.int (2 : Int32)), .val (.int c2)] [(.int c2), (.int (2 : Int32)), (.ref x2)])) _
    refine XS.i2b X3.here hx rfl (hb hby d10_30) rfl ?_
    show Steps p.tables e below (T3.setTop (mkF m 31 #[.val (.ref x0), .val (.int (2 : Int32)), .val (.ref x2), .val (.int (2 : Int32)), .val (.int (3 : Int32)), .val (.int (2 : Int32)), .val (.int c2)] [(.int (c2.toInt8.toInt32)), (.int (2 : Int32)), (.ref x2)])) _
    refine st5 _ ?_
    show Steps p.tables e below (T5.setTop (mkF m 32 #[.val (.ref x0), .val (.int (2 : Int32)), .val (.ref x2), .val (.int (2 : Int32)), .val (.int (3 : Int32)), .val (.int (2 : Int32)), .val (.int c2)] [])) _
    refine XS.iinc X5.here hx rfl (hb hby d10_32) rfl (l' := #[.val (.ref x0), .val (.int ((2 : Int32) + (1 : Int32))), .val (.ref x2), .val (.int (2 : Int32)), .val (.int (3 : Int32)), .val (.int (2 : Int32)), .val (.int c2)]) rfl ?_
    show Steps p.tables e below (T5.setTop (mkF m 35 #[.val (.ref x0), .val (.int ((2 : Int32) + (1 : Int32))), .val (.ref x2), .val (.int (2 : Int32)), .val (.int (3 : Int32)), .val (.int (2 : Int32)), .val (.int c2)] [])) _
    rw [show ((2 : Int32) + (1 : Int32)) = (3 : Int32) from by decide]
    show Steps p.tables e below (T5.setTop (mkF m 35 #[.val (.ref x0), .val (.int (3 : Int32)), .val (.ref x2), .val (.int (2 : Int32)), .val (.int (3 : Int32)), .val (.int (2 : Int32)), .val (.int c2)] [])) _
    refine XS.iinc X5.here hx rfl (hb hby d10_35) rfl (l' := #[.val (.ref x0), .val (.int (3 : Int32)), .val (.ref x2), .val (.int ((2 : Int32) + (1 : Int32))), .val (.int (3 : Int32)), .val (.int (2 : Int32)), .val (.int c2)]) rfl ?_
    show Steps p.tables e below (T5.setTop (mkF m 38 #[.val (.ref x0), .val (.int (3 : Int32)), .val (.ref x2), .val (.int ((2 : Int32) + (1 : Int32))), .val (.int (3 : Int32)), .val (.int (2 : Int32)), .val (.int c2)] [])) _
    rw [show ((2 : Int32) + (1 : Int32)) = (3 : Int32) from by decide]
    show Steps p.tables e below (T5.setTop (mkF m 38 #[.val (.ref x0), .val (.int (3 : Int32)), .val (.ref x2), .val (.int (3 : Int32)), .val (.int (3 : Int32)), .val (.int (2 : Int32)), .val (.int c2)] [])) _
    refine XS.iinc X5.here hx rfl (hb hby d10_38) rfl (l' := #[.val (.ref x0), .val (.int (3 : Int32)), .val (.ref x2), .val (.int (3 : Int32)), .val (.int (3 : Int32)), .val (.int ((2 : Int32) + (1 : Int32))), .val (.int c2)]) rfl ?_
    show Steps p.tables e below (T5.setTop (mkF m 41 #[.val (.ref x0), .val (.int (3 : Int32)), .val (.ref x2), .val (.int (3 : Int32)), .val (.int (3 : Int32)), .val (.int ((2 : Int32) + (1 : Int32))), .val (.int c2)] [])) _
    rw [show ((2 : Int32) + (1 : Int32)) = (3 : Int32) from by decide]
    show Steps p.tables e below (T5.setTop (mkF m 41 #[.val (.ref x0), .val (.int (3 : Int32)), .val (.ref x2), .val (.int (3 : Int32)), .val (.int (3 : Int32)), .val (.int (3 : Int32)), .val (.int c2)] [])) _
    refine XS.goto X5.here hx rfl (pc0 := 41) (pc' := 3) rfl (hb hby d10_41) (by decide) (by decide) ?_
    show Steps p.tables e below (T5.setTop (mkF m 3 #[.val (.ref x0), .val (.int (3 : Int32)), .val (.ref x2), .val (.int (3 : Int32)), .val (.int (3 : Int32)), .val (.int (3 : Int32)), .val (.int c2)] [])) _
    refine XS.iload X5.here hx rfl (hb hby d10_3) rfl ?_
    show Steps p.tables e below (T5.setTop (mkF m 5 #[.val (.ref x0), .val (.int (3 : Int32)), .val (.ref x2), .val (.int (3 : Int32)), .val (.int (3 : Int32)), .val (.int (3 : Int32)), .val (.int c2)] [(.int (3 : Int32))])) _
    refine XS.iload X5.here hx rfl (hb hby d10_5) rfl ?_
    show Steps p.tables e below (T5.setTop (mkF m 7 #[.val (.ref x0), .val (.int (3 : Int32)), .val (.ref x2), .val (.int (3 : Int32)), .val (.int (3 : Int32)), .val (.int (3 : Int32)), .val (.int c2)] [(.int (3 : Int32)), (.int (3 : Int32))])) _
    refine XS.icmpYes X5.here hx rfl (pc0 := 7) (pc' := 44) rfl (hb hby d10_7) rfl (flt (by decide : ¬ ((3 : Int32) < (3 : Int32)))).2.1 (by decide) (by decide) ?_
    show Steps p.tables e below (T5.setTop (mkF m 44 #[.val (.ref x0), .val (.int (3 : Int32)), .val (.ref x2), .val (.int (3 : Int32)), .val (.int (3 : Int32)), .val (.int (3 : Int32)), .val (.int c2)] [])) _
    refine XS.iload X5.here hx rfl (hb hby d10_44) rfl ?_
    show Steps p.tables e below (T5.setTop (mkF m 46 #[.val (.ref x0), .val (.int (3 : Int32)), .val (.ref x2), .val (.int (3 : Int32)), .val (.int (3 : Int32)), .val (.int (3 : Int32)), .val (.int c2)] [(.int (3 : Int32))])) _
    exact retI X5 hx Bd.returns (hb hby d10_46) hr
  · exact (by
      have eT : (T5.setFrames fs).heap = h5 := e5
      rw [eT]; exact ⟨rfl, N5, keep_6, V_x2_5⟩)
set_option maxRecDepth 65536 in
set_option maxHeartbeats 40000000 in
theorem rmc3_3 (l : Launch) (Z : State) (a0 : Array Value) (hw : ∀ d ∈ tables_1, d.before a0 Z = true) (ws : List Jvm.Cond) (x0 : Addr) (k0 : ClassId) (c0 : Int32) (c1 : Int32) (c2 : Int32) (h0 : Heap) (n0 : Nat) (Z0 : n0 ≤ h0.size) (V_x0 : Arv Z h0 x0 k0 .char (3 : Int32) [(.int c0), (.int c1), (.int c2)] (.int (0 : Int32))) (hc0 : ¬ ((255 : Int32) < c0)) (hc1 : ¬ ((255 : Int32) < c1)) (hc2 : ¬ ((255 : Int32) < c2)) :
    MetFree l (⟨"java/lang/StringUTF16", "compress", "([CII)[B"⟩ : MethodName) (head1 (Jvm.Cond.code (⟨"java/lang/StringUTF16", "compress", "([CII)[B"⟩ : MethodName) jdk_52_method_16_code 6 (some (.array .byte)) :: ws) ({ frames := 1, cells := 1, slots := 3, locals := 18 } : Room)) (fun a U => a = #[(.ref x0), (.int (0 : Int32)), (.int (3 : Int32))] ∧ Z.Warmed39 U.vm ∧ U.heap = h0) (fun _ _ _ _ _ => True) (fun _ U o U' => ∃ v L, o = .returned v ∧ (QC3 Z (3 : Int32) [(.int (own_b c0)), (.int (own_b c1)), (.int (own_b c2))] h0 n0 v U'.heap L) ∧ FrameEnd U o U' L ({ frames := 1, cells := 1, slots := 3, locals := 18 } : Room).cells ({ frames := 1, cells := 1, slots := 3, locals := 18 } : Room).slots) := by
  refine MetFree.of_bodySF (plainFor_of_name pn_9) hisR ?_
  intro p e s m args below meth c s₁ Bd hml0 hP hK
  obtain ⟨rfl, hZ, hh⟩ := hP
  have hx := Bd.exec
  have hby := Bd.bytes
  have hml : c.maxLocals = 6 := hml0
  have hown : s.vm.findClass "java/lang/StringUTF16" = some m.cls := findClass_of_methodNamed Bd.named
  have hnm := (name_of_methodNamed Bd.named Bd.method).1
  have X0 : Stand p l e ({ frames := 1, cells := 1, slots := 3, locals := 18 } : Room) s m #[(.ref x0), (.int (0 : Int32)), (.int (3 : Int32))] below meth c s₁ [] 0 0 := Stand.of_body Bd
  have e0 : s₁.heap = h0 := by rw [← hh, Bd.state]; rfl
  have N0 := Fr.nil n0
  have pre0 : ∀ t, Steps p.tables e below (s₁.setTop (mkF m 0 #[.val (.ref x0), .val (.int (0 : Int32)), .val (.int (3 : Int32)), .unset, .unset, .unset] [])) t → Steps p.tables e below (s₁.setTop (entryFrame m #[(.ref x0), (.int (0 : Int32)), (.int (3 : Int32))] 6)) t := fun t k => castTop (ef_9 m x0 (0 : Int32) (3 : Int32)) k
  have K0 : Keep h0 h0 [] := Keep.refl h0 []
  obtain ⟨T1, h1, k1, X1, e1, E1, A1, st1⟩ := newP X0 hx hZ (hw _ (List.mem_of_getElem? (i := 15) rfl)) e0 (g := (mkF m 1 #[.val (.ref x0), .val (.int (0 : Int32)), .val (.int (3 : Int32)), .unset, .unset, .unset] [(.int (3 : Int32))])) rfl (hb hby d9_1) rfl (by decide) (cap := 3) (by decide) (by decide) (by decide) (by decide)
  obtain ⟨r, g1⟩ : ∃ z, z = h0.size := ⟨_, rfl⟩
  rw [← g1] at A1 st1
  have V_r_1 : Arv Z h1 r k1 .byte (3 : Int32) [(.int (0 : Int32)), (.int (0 : Int32)), (.int (0 : Int32))] (.int (0 : Int32)) := (Arv.new A1 (by decide)).pad (pad_rep [] (.int (0 : Int32)) 3)
  have lt_x0_r : x0 < r := Nat.lt_of_lt_of_le V_x0.lt (Nat.le_of_eq g1.symm)
  have g_r : n0 ≤ r := Nat.le_trans Z0 (Nat.le_of_eq g1.symm)
  have sz_r : h0.size ≤ r := Nat.le_trans K0.1 (Nat.le_of_eq g1.symm)
  have keep_2 : Keep h0 h1 [] := K0.ext E1
  have V_x0_2 : Arv Z h1 x0 k0 .char (3 : Int32) [(.int c0), (.int c1), (.int c2)] (.int (0 : Int32)) := V_x0.ext E1
  have siz_2 : n0 ≤ h1.size := Nat.le_trans Z0 E1.1
  obtain ⟨_, _, ⟨T3, L3, k3, n3⟩, -, X3, ⟨Lc3, hQ3, l3, y3, z3⟩, st3⟩ := Jvm.LawKit.callS X1 hx (y := (⟨"java/lang/StringUTF16", "compress", "([CI[BII)I"⟩ : MethodName)) hown (mvT hZ (hw _ (List.mem_of_getElem? (i := 53) rfl))) (mvT hZ (hw _ (List.mem_of_getElem? (i := 54) rfl))) (mvT hZ (hw _ (List.mem_of_getElem? (i := 51) rfl))) (mvT hZ (hw _ (List.mem_of_getElem? (i := 55) rfl))) (by decide) (backOf (W := 0) (rmc5_3 l Z a0 hw [] x0 r k0 k1 c0 c1 c2 h1 n0 siz_2 V_x0_2 V_r_1 g_r (Nat.ne_of_lt lt_x0_r) hc0 hc1 hc2) hZ (hw _ (List.mem_of_getElem? (i := 55) rfl)) (hw _ (List.mem_of_getElem? (i := 51) rfl)) (by decide) (by decide)) (g := (mkF m 9 #[.val (.ref x0), .val (.int (0 : Int32)), .val (.int (3 : Int32)), .val (.ref r), .unset, .unset] [(.int (3 : Int32)), (.int (0 : Int32)), (.ref r), (.int (0 : Int32)), (.ref x0)])) rfl (by rw [hml]; rfl) (argsL := [(.ref x0), (.int (0 : Int32)), (.ref r), (.int (0 : Int32)), (.int (3 : Int32))]) (rest := []) (lenOf pd___CI_BII_I rfl) rfl (by show 2 * 0 + _ ≤ _; exact Nat.le_of_eq rfl) (hb hby d9_9) (fun _ _ => ⟨rfl, e1, (by decide : 1 + 0 ≤ _), (by decide : 3 + 0 ≤ _)⟩)
  dsimp only [Pt.U, Pt.locs, Pt.cells, Pt.slots] at X3 l3 y3 z3 st3 hQ3
  subst l3 y3 z3
  obtain ⟨rfl, N3q, K3, Vq3⟩ := hQ3
  have keep_4 : Keep h0 T3.heap [] := keep_2.trans K3 (allS (Or.inr sz_r) (all0))
  have V_x0_4 : Arv Z T3.heap x0 k0 .char (3 : Int32) [(.int c0), (.int c1), (.int c2)] (.int (0 : Int32)) := V_x0_2.keep K3 (ninS (Nat.ne_of_lt lt_x0_r) nin0)
  have siz_4 : n0 ≤ T3.heap.size := Nat.le_trans siz_2 K3.1
  have N3 := Fr.app N0 N3q
  obtain ⟨fs, hr, hrun, hended, hW, hsame⟩ := X3.leave (v := some (.ref r)) (fun h => by rw [Bd.returns] at h; cases h)
  refine ⟨_, _, pre0 _ ?_, hrun, hended, _, _, rfl, ?_, ⟨_, rfl⟩, hW, hsame.mono (by decide) (by decide)⟩
  · show Steps p.tables e below (s₁.setTop (mkF m 0 #[.val (.ref x0), .val (.int (0 : Int32)), .val (.int (3 : Int32)), .unset, .unset, .unset] [])) _
    refine XS.iloadN X0.here hx rfl (hb hby d9_0) rfl ?_
    show Steps p.tables e below (s₁.setTop (mkF m 1 #[.val (.ref x0), .val (.int (0 : Int32)), .val (.int (3 : Int32)), .unset, .unset, .unset] [(.int (3 : Int32))])) _
    refine st1 _ ?_
    show Steps p.tables e below (T1.setTop (mkF m 3 #[.val (.ref x0), .val (.int (0 : Int32)), .val (.int (3 : Int32)), .unset, .unset, .unset] [(.ref r)])) _
    refine XS.astoreN X1.here hx rfl (hb hby d9_3) rfl rfl (l' := #[.val (.ref x0), .val (.int (0 : Int32)), .val (.int (3 : Int32)), .val (.ref r), .unset, .unset]) rfl ?_
    show Steps p.tables e below (T1.setTop (mkF m 4 #[.val (.ref x0), .val (.int (0 : Int32)), .val (.int (3 : Int32)), .val (.ref r), .unset, .unset] [])) _
    refine XS.aloadN X1.here hx rfl (hb hby d9_4) rfl rfl ?_
    show Steps p.tables e below (T1.setTop (mkF m 5 #[.val (.ref x0), .val (.int (0 : Int32)), .val (.int (3 : Int32)), .val (.ref r), .unset, .unset] [(.ref x0)])) _
    refine XS.iloadN X1.here hx rfl (hb hby d9_5) rfl ?_
    show Steps p.tables e below (T1.setTop (mkF m 6 #[.val (.ref x0), .val (.int (0 : Int32)), .val (.int (3 : Int32)), .val (.ref r), .unset, .unset] [(.int (0 : Int32)), (.ref x0)])) _
    refine XS.aloadN X1.here hx rfl (hb hby d9_6) rfl rfl ?_
    show Steps p.tables e below (T1.setTop (mkF m 7 #[.val (.ref x0), .val (.int (0 : Int32)), .val (.int (3 : Int32)), .val (.ref r), .unset, .unset] [(.ref r), (.int (0 : Int32)), (.ref x0)])) _
    refine XS.iconst X1.here hx rfl (hb hby d9_7) ?_
    show Steps p.tables e below (T1.setTop (mkF m 8 #[.val (.ref x0), .val (.int (0 : Int32)), .val (.int (3 : Int32)), .val (.ref r), .unset, .unset] [(.int (0 : Int32)), (.ref r), (.int (0 : Int32)), (.ref x0)])) _
    refine XS.iloadN X1.here hx rfl (hb hby d9_8) rfl ?_
    show Steps p.tables e below (T1.setTop (mkF m 9 #[.val (.ref x0), .val (.int (0 : Int32)), .val (.int (3 : Int32)), .val (.ref r), .unset, .unset] [(.int (3 : Int32)), (.int (0 : Int32)), (.ref r), (.int (0 : Int32)), (.ref x0)])) _
    refine st3 _ ?_
    show Steps p.tables e below (T3.setTop (mkF m 12 #[.val (.ref x0), .val (.int (0 : Int32)), .val (.int (3 : Int32)), .val (.ref r), .unset, .unset] [(.int (3 : Int32))])) _
    refine XS.istore X3.here hx rfl (hb hby d9_12) rfl (l' := #[.val (.ref x0), .val (.int (0 : Int32)), .val (.int (3 : Int32)), .val (.ref r), .val (.int (3 : Int32)), .unset]) rfl ?_
    show Steps p.tables e below (T3.setTop (mkF m 14 #[.val (.ref x0), .val (.int (0 : Int32)), .val (.int (3 : Int32)), .val (.ref r), .val (.int (3 : Int32)), .unset] [])) _
    refine XS.iload X3.here hx rfl (hb hby d9_14) rfl ?_
    show Steps p.tables e below (T3.setTop (mkF m 16 #[.val (.ref x0), .val (.int (0 : Int32)), .val (.int (3 : Int32)), .val (.ref r), .val (.int (3 : Int32)), .unset] [(.int (3 : Int32))])) _
    refine XS.iloadN X3.here hx rfl (hb hby d9_16) rfl ?_
    show Steps p.tables e below (T3.setTop (mkF m 17 #[.val (.ref x0), .val (.int (0 : Int32)), .val (.int (3 : Int32)), .val (.ref r), .val (.int (3 : Int32)), .unset] [(.int (3 : Int32)), (.int (3 : Int32))])) _
    refine XS.icmpYes X3.here hx rfl (pc0 := 17) (pc' := 57) rfl (hb hby d9_17) rfl (teq (by decide : (3 : Int32) = (3 : Int32))).1 (by decide) (by decide) ?_
    show Steps p.tables e below (T3.setTop (mkF m 57 #[.val (.ref x0), .val (.int (0 : Int32)), .val (.int (3 : Int32)), .val (.ref r), .val (.int (3 : Int32)), .unset] [])) _
    refine XS.aloadN X3.here hx rfl (hb hby d9_57) rfl rfl ?_
    show Steps p.tables e below (T3.setTop (mkF m 58 #[.val (.ref x0), .val (.int (0 : Int32)), .val (.int (3 : Int32)), .val (.ref r), .val (.int (3 : Int32)), .unset] [(.ref r)])) _
    exact retOut X3 hx (t := (.array .byte)) (i := .areturn) Bd.returns rfl (Or.inr (Or.inr (Or.inr (Or.inr ⟨rfl, rfl, rfl⟩)))) (hb hby d9_58) hr
  · exact (by
      have eT : (T3.setFrames fs).heap = T3.heap := rfl
      rw [eT]; exact ⟨r, _, rfl, N3, keep_4, sz_r, Vq3⟩)
set_option maxRecDepth 65536 in
set_option maxHeartbeats 40000000 in
theorem rmcf_3 (l : Launch) (Z : State) (a0 : Array Value) (hw : ∀ d ∈ tables_1, d.before a0 Z = true) (ws : List Jvm.Cond) (x0 : Addr) (k0 : ClassId) (u0 : Int32) (u1 : Int32) (u2 : Int32) (h0 : Heap) (n0 : Nat) (Z0 : n0 ≤ h0.size) (V_x0 : Arv Z h0 x0 k0 .byte (3 : Int32) [(.int u0), (.int u1), (.int u2)] (.int (0 : Int32))) :
    MetFree l (⟨"java/lang/StringUTF16", "coderFromArrayLen", "([BI)B"⟩ : MethodName) (head1 (Jvm.Cond.code (⟨"java/lang/StringUTF16", "coderFromArrayLen", "([BI)B"⟩ : MethodName) jdk_52_method_15_code 2 (some .byte) :: ws) ({ frames := 0, cells := 0, slots := 0, locals := 0 } : Room)) (fun a U => a = #[(.ref x0), (.int (3 : Int32))] ∧ Z.Warmed39 U.vm ∧ U.heap = h0) (fun _ _ _ _ _ => True) (fun _ U o U' => ∃ v L, o = .returned v ∧ (QP (some (.int (0 : Int32))) h0 n0 v U'.heap L) ∧ FrameEnd U o U' L ({ frames := 0, cells := 0, slots := 0, locals := 0 } : Room).cells ({ frames := 0, cells := 0, slots := 0, locals := 0 } : Room).slots) := by
  refine MetFree.of_bodySF (plainFor_of_name pn_11) hisR ?_
  intro p e s m args below meth c s₁ Bd hml0 hP hK
  obtain ⟨rfl, hZ, hh⟩ := hP
  have hx := Bd.exec
  have hby := Bd.bytes
  have hml : c.maxLocals = 2 := hml0
  have hown : s.vm.findClass "java/lang/StringUTF16" = some m.cls := findClass_of_methodNamed Bd.named
  have hnm := (name_of_methodNamed Bd.named Bd.method).1
  have X0 : Stand p l e ({ frames := 0, cells := 0, slots := 0, locals := 0 } : Room) s m #[(.ref x0), (.int (3 : Int32))] below meth c s₁ [] 0 0 := Stand.of_body Bd
  have e0 : s₁.heap = h0 := by rw [← hh, Bd.state]; rfl
  have N0 := Fr.nil n0
  have pre0 : ∀ t, Steps p.tables e below (s₁.setTop (mkF m 0 #[.val (.ref x0), .val (.int (3 : Int32))] [])) t → Steps p.tables e below (s₁.setTop (entryFrame m #[(.ref x0), (.int (3 : Int32))] 2)) t := fun t k => castTop (ef_11 m x0 (3 : Int32)) k
  obtain ⟨fs, hr, hrun, hended, hW, hsame⟩ := X0.leave (v := some (.int (0 : Int32))) (fun h => by rw [Bd.returns] at h; cases h)
  refine ⟨_, _, pre0 _ ?_, hrun, hended, _, _, rfl, ?_, ⟨_, rfl⟩, hW, hsame.mono (by decide) (by decide)⟩
  · show Steps p.tables e below (s₁.setTop (mkF m 0 #[.val (.ref x0), .val (.int (3 : Int32))] [])) _
    refine XS.iloadN X0.here hx rfl (hb hby d11_0) rfl ?_
    show Steps p.tables e below (s₁.setTop (mkF m 1 #[.val (.ref x0), .val (.int (3 : Int32))] [(.int (3 : Int32))])) _
    refine XS.aloadN X0.here hx rfl (hb hby d11_1) rfl rfl ?_
    show Steps p.tables e below (s₁.setTop (mkF m 2 #[.val (.ref x0), .val (.int (3 : Int32))] [(.ref x0), (.int (3 : Int32))])) _
    refine own_len X0 hx hZ e0 V_x0 (g := (mkF m 2 #[.val (.ref x0), .val (.int (3 : Int32))] [(.ref x0), (.int (3 : Int32))])) rfl rfl (hb hby d11_2) ?_
    show Steps p.tables e below (s₁.setTop (mkF m 3 #[.val (.ref x0), .val (.int (3 : Int32))] [(.int (3 : Int32)), (.int (3 : Int32))])) _
    refine XS.isub X0.here hx rfl (hb hby d11_3) rfl ?_
    show Steps p.tables e below (s₁.setTop (mkF m 4 #[.val (.ref x0), .val (.int (3 : Int32))] [(.int ((3 : Int32) - (3 : Int32)))])) _
    rw [show ((3 : Int32) - (3 : Int32)) = (0 : Int32) from by decide]
    show Steps p.tables e below (s₁.setTop (mkF m 4 #[.val (.ref x0), .val (.int (3 : Int32))] [(.int (0 : Int32))])) _
    refine XS.bipush X0.here hx rfl (hb hby d11_4) ?_
    show Steps p.tables e below (s₁.setTop (mkF m 6 #[.val (.ref x0), .val (.int (3 : Int32))] [(.int (31 : Int32)), (.int (0 : Int32))])) _
    refine XS.iushr X0.here hx rfl (hb hby d11_6) rfl ?_
    show Steps p.tables e below (s₁.setTop (mkF m 7 #[.val (.ref x0), .val (.int (3 : Int32))] [(.int (((0 : Int32).toUInt32 >>> ((31 : Int32) &&& 31).toUInt32).toInt32))])) _
    rw [show (((0 : Int32).toUInt32 >>> ((31 : Int32) &&& 31).toUInt32).toInt32) = (0 : Int32) from by decide]
    show Steps p.tables e below (s₁.setTop (mkF m 7 #[.val (.ref x0), .val (.int (3 : Int32))] [(.int (0 : Int32))])) _
    refine XS.i2b X0.here hx rfl (hb hby d11_7) rfl ?_
    show Steps p.tables e below (s₁.setTop (mkF m 8 #[.val (.ref x0), .val (.int (3 : Int32))] [(.int ((0 : Int32).toInt8.toInt32))])) _
    show Steps p.tables e below (s₁.setTop (mkF m 8 #[.val (.ref x0), .val (.int (3 : Int32))] [(.int (0 : Int32))])) _
    exact retN X0 hx (t := .byte) Bd.returns (by simp) (hb hby d11_8) hr
  · exact ⟨rfl, N0, e0⟩
set_option maxRecDepth 65536 in
set_option maxHeartbeats 40000000 in
theorem rms4_3 (l : Launch) (Z : State) (a0 : Array Value) (hw : ∀ d ∈ tables_1, d.before a0 Z = true) (ws : List Jvm.Cond) (x0 : Addr) (x1 : Addr) (k1 : ClassId) (c0 : Int32) (c1 : Int32) (c2 : Int32) (cs : Int32) (h0 : Heap) (n0 : Nat) (Z0 : n0 ≤ h0.size) (E_x0 : Exa Z h0 x0 "java/lang/String") (F_value_x0 : Fld Z h0 x0 "java/lang/String" "value" "[B" .null) (F_coder_x0 : Fld Z h0 x0 "java/lang/String" "coder" "B" (.int (0 : Int32))) (V_x1 : Arv Z h0 x1 k1 .char (3 : Int32) [(.int c0), (.int c1), (.int c2)] (.int (0 : Int32))) (g_x0 : n0 ≤ x0) (ne01 : x0 ≠ x1) (hc0 : ¬ ((255 : Int32) < c0)) (hc1 : ¬ ((255 : Int32) < c1)) (hc2 : ¬ ((255 : Int32) < c2)) (O0 : Old Z n0 h0) (S_CS : Sta Z Z.heap "java/lang/String" "COMPACT_STRINGS" "Z" (.int cs)) (hcs : ¬ (cs = (0 : Int32))) :
    MetFree l (⟨"java/lang/String", "<init>", "([CIILjava/lang/Void;)V"⟩ : MethodName) (head1 (Jvm.Cond.code (⟨"java/lang/String", "<init>", "([CIILjava/lang/Void;)V"⟩ : MethodName) jdk_42_method_149_code 6 none :: ws) ({ frames := 2, cells := 1, slots := 3, locals := 35 } : Room)) (fun a U => a = #[(.ref x0), (.ref x1), (.int (0 : Int32)), (.int (3 : Int32)), .null] ∧ Z.Warmed39 U.vm ∧ U.heap = h0) (fun _ _ _ _ _ => True) (fun _ U o U' => ∃ v L, o = .returned v ∧ (QSI Z x0 (3 : Int32) [(.int (own_b c0)), (.int (own_b c1)), (.int (own_b c2))] h0 n0 v U'.heap L) ∧ FrameEnd U o U' L ({ frames := 2, cells := 1, slots := 3, locals := 35 } : Room).cells ({ frames := 2, cells := 1, slots := 3, locals := 35 } : Room).slots) := by
  refine MetFree.of_bodySF (plainFor_of_name pn_2) hisR ?_
  intro p e s m args below meth c s₁ Bd hml0 hP hK
  obtain ⟨rfl, hZ, hh⟩ := hP
  have hx := Bd.exec
  have hby := Bd.bytes
  have hml : c.maxLocals = 6 := hml0
  have hown : s.vm.findClass "java/lang/String" = some m.cls := findClass_of_methodNamed Bd.named
  have hnm := (name_of_methodNamed Bd.named Bd.method).1
  have X0 : Stand p l e ({ frames := 2, cells := 1, slots := 3, locals := 35 } : Room) s m #[(.ref x0), (.ref x1), (.int (0 : Int32)), (.int (3 : Int32)), .null] below meth c s₁ [] 0 0 := Stand.of_body Bd
  have e0 : s₁.heap = h0 := by rw [← hh, Bd.state]; rfl
  have N0 := Fr.nil n0
  have pre0 : ∀ t, Steps p.tables e below (s₁.setTop (mkF m 0 #[.val (.ref x0), .val (.ref x1), .val (.int (0 : Int32)), .val (.int (3 : Int32)), .val .null, .unset] [])) t → Steps p.tables e below (s₁.setTop (entryFrame m #[(.ref x0), (.ref x1), (.int (0 : Int32)), (.int (3 : Int32)), .null] 6)) t := fun t k => castTop (ef_2_null m x0 x1 (0 : Int32) (3 : Int32)) k
  have K0 : Keep h0 h0 [x0] := Keep.refl h0 [x0]
  obtain ⟨T1, X1, e1, st1⟩ := initO X0 hx hZ hown (hw _ (List.mem_of_getElem? (i := 11) rfl)) (hw _ (List.mem_of_getElem? (i := 12) rfl)) (hw _ (List.mem_of_getElem? (i := 13) rfl)) e0 (g := (mkF m 1 #[.val (.ref x0), .val (.ref x1), .val (.int (0 : Int32)), .val (.int (3 : Int32)), .val .null, .unset] [(.ref x0)])) rfl (by rw [hml]; rfl) rfl (hb hby d2_1) (by decide) (W := 0) (by show 2 * 0 + _ ≤ _; exact Nat.le_of_eq rfl) (by decide)
  obtain ⟨T2, X2, e2, st2⟩ := getS2 X1 hx hZ hown (host := "") (Or.inl (hw _ (List.mem_of_getElem? (i := 33) rfl))) Via.refl e1 (own_Sta_old S_CS O0) (g := (mkF m 27 #[.val (.ref x0), .val (.ref x1), .val (.int (0 : Int32)), .val (.int (3 : Int32)), .val .null, .unset] [])) rfl (hb hby d2_27)
  obtain ⟨_, _, ⟨T3, L3, k3, n3⟩, -, X3, ⟨Lc3, hQ3, l3, y3, z3⟩, st3⟩ := Jvm.LawKit.callS X2 hx (y := (⟨"java/lang/StringUTF16", "compress", "([CII)[B"⟩ : MethodName)) hown (mvT hZ (hw _ (List.mem_of_getElem? (i := 49) rfl))) (mvT hZ (hw _ (List.mem_of_getElem? (i := 50) rfl))) (mvT hZ (hw _ (List.mem_of_getElem? (i := 51) rfl))) (mvT hZ (hw _ (List.mem_of_getElem? (i := 52) rfl))) (by decide) (backOf (W := 0) (rmc3_3 l Z a0 hw [] x1 k1 c0 c1 c2 h0 n0 Z0 V_x1 hc0 hc1 hc2) hZ (hw _ (List.mem_of_getElem? (i := 52) rfl)) (hw _ (List.mem_of_getElem? (i := 51) rfl)) (by decide) (by decide)) (g := (mkF m 36 #[.val (.ref x0), .val (.ref x1), .val (.int (0 : Int32)), .val (.int (3 : Int32)), .val .null, .unset] [(.int (3 : Int32)), (.int (0 : Int32)), (.ref x1)])) rfl (by rw [hml]; rfl) (argsL := [(.ref x1), (.int (0 : Int32)), (.int (3 : Int32))]) (rest := []) (lenOf pd___CII__B rfl) rfl (by show 2 * 0 + _ ≤ _; exact Nat.le_of_eq rfl) (hb hby d2_36) (fun _ _ => ⟨rfl, e2, (by decide : 0 + 1 ≤ _), (by decide : 0 + 3 ≤ _)⟩)
  dsimp only [Pt.U, Pt.locs, Pt.cells, Pt.slots] at X3 l3 y3 z3 st3 hQ3
  subst l3 y3 z3
  obtain ⟨va, kv, rfl, N3q, K3, sv3, Vq3⟩ := hQ3
  have lt_x0_va : x0 < va := Nat.lt_of_lt_of_le E_x0.lt sv3
  have lt_x1_va : x1 < va := Nat.lt_of_lt_of_le V_x1.lt sv3
  have keep_4 : Keep h0 T3.heap [x0] := K0.trans K3 (all0)
  have V_x1_4 : Arv Z T3.heap x1 k1 .char (3 : Int32) [(.int c0), (.int c1), (.int c2)] (.int (0 : Int32)) := V_x1.keep K3 nin0
  have E_x0_4 : Exa Z T3.heap x0 "java/lang/String" := E_x0.keep K3
  have F_value_x0_4 : Fld Z T3.heap x0 "java/lang/String" "value" "[B" .null := F_value_x0.keep K3 nin0
  have F_coder_x0_4 : Fld Z T3.heap x0 "java/lang/String" "coder" "B" (.int (0 : Int32)) := F_coder_x0.keep K3 nin0
  have old_4 : Old Z n0 T3.heap := O0.keep K3 (all0)
  have siz_4 : n0 ≤ T3.heap.size := Nat.le_trans Z0 K3.1
  have N3 := Fr.app N0 N3q
  obtain ⟨_, _, ⟨T5, L5, k5, n5⟩, -, X5, ⟨Lc5, hQ5, l5, y5, z5⟩, st5⟩ := Jvm.LawKit.callS X3 hx (y := (⟨"java/lang/StringUTF16", "coderFromArrayLen", "([BI)B"⟩ : MethodName)) hown (mvT hZ (hw _ (List.mem_of_getElem? (i := 56) rfl))) (mvT hZ (hw _ (List.mem_of_getElem? (i := 57) rfl))) (mvT hZ (hw _ (List.mem_of_getElem? (i := 51) rfl))) (mvT hZ (hw _ (List.mem_of_getElem? (i := 58) rfl))) (by decide) (backOf (W := 1) (rmcf_3 l Z a0 hw [] va kv (own_b c0) (own_b c1) (own_b c2) T3.heap n0 siz_4 Vq3) hZ (hw _ (List.mem_of_getElem? (i := 58) rfl)) (hw _ (List.mem_of_getElem? (i := 51) rfl)) (by decide) (by decide)) (g := (mkF m 45 #[.val (.ref x0), .val (.ref x1), .val (.int (0 : Int32)), .val (.int (3 : Int32)), .val .null, .val (.ref va)] [(.int (3 : Int32)), (.ref va), (.ref x0)])) rfl (by rw [hml]; rfl) (argsL := [(.ref va), (.int (3 : Int32))]) (rest := [(.ref x0)]) (lenOf pd___BI_B rfl) rfl (by show 2 * 0 + _ ≤ _; exact Nat.le_of_eq rfl) (hb hby d2_45) (fun _ _ => ⟨rfl, rfl, (by decide : 1 + 0 ≤ _), (by decide : 3 + 0 ≤ _)⟩)
  dsimp only [Pt.U, Pt.locs, Pt.cells, Pt.slots] at X5 l5 y5 z5 st5 hQ5
  subst l5 y5 z5
  obtain ⟨rfl, N5q, e5⟩ := hQ5
  have N5 := Fr.app N3 N5q
  obtain ⟨T6, h6, X6, e6, W6, st6⟩ := putFN X5 hx hZ hown (hw _ (List.mem_of_getElem? (i := 21) rfl)) Via.refl e5 F_coder_x0_4 E_x0_4 (Or.inr ⟨(hw _ (List.mem_of_getElem? (i := 17) rfl)), rfl, hnm⟩) (hw _ (List.mem_of_getElem? (i := 2) rfl)) (ty := .byte) (v' := (.int ((0 : Int32).toInt8.toInt32))) (by decide) rfl (fits_nar_byte _) (g := (mkF m 48 #[.val (.ref x0), .val (.ref x1), .val (.int (0 : Int32)), .val (.int (3 : Int32)), .val .null, .val (.ref va)] [(.int (0 : Int32)), (.ref x0)])) rfl rfl (hb hby d2_48)
  have N6 := Fr.snoc X6 N5 g_x0
  have keep_7 : Keep h0 h6 [x0] := keep_4.wr W6 (Or.inl (List.mem_of_getElem? (i := 0) rfl))
  have V_x1_7 : Arv Z h6 x1 k1 .char (3 : Int32) [(.int c0), (.int c1), (.int c2)] (.int (0 : Int32)) := V_x1_4.other W6 (Ne.symm ne01)
  have E_x0_7 : Exa Z h6 x0 "java/lang/String" := E_x0_4.wr W6
  have old_7 : Old Z n0 h6 := old_4.wr W6 g_x0
  have siz_7 : n0 ≤ h6.size := Nat.le_trans siz_4 (Keep.of_wr W6).1
  have V_va_7 : Arv Z h6 va kv .byte (3 : Int32) [(.int (own_b c0)), (.int (own_b c1)), (.int (own_b c2))] (.int (0 : Int32)) := Vq3.other W6 (Ne.symm (Nat.ne_of_lt lt_x0_va))
  have F_value_x0_6 : Fld Z h6 x0 "java/lang/String" "value" "[B" .null := F_value_x0_4.other W6 (Or.inr (slot_ne (Or.inr (hw _ (List.mem_of_getElem? (i := 16) rfl))) (Or.inr (hw _ (List.mem_of_getElem? (i := 17) rfl))) (by decide) (t := (.array .byte)) (t' := .byte) (by decide) (by decide)))
  have F_coder_x0_6 : Fld Z h6 x0 "java/lang/String" "coder" "B" (.int ((0 : Int32).toInt8.toInt32)) := F_coder_x0_4.same W6
  obtain ⟨T8, h8, X8, e8, W8, st8⟩ := putF X6 hx hZ hown (host := "") (Or.inl (hw _ (List.mem_of_getElem? (i := 20) rfl))) Via.refl e6 F_value_x0_6 E_x0_7 (Or.inr ⟨(hw _ (List.mem_of_getElem? (i := 16) rfl)), rfl, hnm⟩) (hw _ (List.mem_of_getElem? (i := 2) rfl)) (ty := (.array .byte)) (by decide) rfl rfl (g := (mkF m 54 #[.val (.ref x0), .val (.ref x1), .val (.int (0 : Int32)), .val (.int (3 : Int32)), .val .null, .val (.ref va)] [(.ref va), (.ref x0)])) rfl rfl (hb hby d2_54)
  have N8 := Fr.snoc X8 N6 g_x0
  have keep_9 : Keep h0 h8 [x0] := keep_7.wr W8 (Or.inl (List.mem_of_getElem? (i := 0) rfl))
  have V_x1_9 : Arv Z h8 x1 k1 .char (3 : Int32) [(.int c0), (.int c1), (.int c2)] (.int (0 : Int32)) := V_x1_7.other W8 (Ne.symm ne01)
  have E_x0_9 : Exa Z h8 x0 "java/lang/String" := E_x0_7.wr W8
  have old_9 : Old Z n0 h8 := old_7.wr W8 g_x0
  have siz_9 : n0 ≤ h8.size := Nat.le_trans siz_7 (Keep.of_wr W8).1
  have V_va_9 : Arv Z h8 va kv .byte (3 : Int32) [(.int (own_b c0)), (.int (own_b c1)), (.int (own_b c2))] (.int (0 : Int32)) := V_va_7.other W8 (Ne.symm (Nat.ne_of_lt lt_x0_va))
  have F_value_x0_8 : Fld Z h8 x0 "java/lang/String" "value" "[B" (.ref va) := F_value_x0_6.same W8
  have F_coder_x0_8 : Fld Z h8 x0 "java/lang/String" "coder" "B" (.int ((0 : Int32).toInt8.toInt32)) := F_coder_x0_6.other W8 (Or.inr (slot_ne (Or.inr (hw _ (List.mem_of_getElem? (i := 17) rfl))) (Or.inr (hw _ (List.mem_of_getElem? (i := 16) rfl))) (by decide) (t := .byte) (t' := (.array .byte)) (by decide) (by decide)))
  obtain ⟨fs, hr, hrun, hended, hW, hsame⟩ := X8.leave (v := none) (fun _ => rfl)
  refine ⟨_, _, pre0 _ ?_, hrun, hended, _, _, rfl, ?_, ⟨_, rfl⟩, hW, hsame.mono (by decide) (by decide)⟩
  · show Steps p.tables e below (s₁.setTop (mkF m 0 #[.val (.ref x0), .val (.ref x1), .val (.int (0 : Int32)), .val (.int (3 : Int32)), .val .null, .unset] [])) _
    refine XS.aloadN X0.here hx rfl (hb hby d2_0) rfl rfl ?_
    show Steps p.tables e below (s₁.setTop (mkF m 1 #[.val (.ref x0), .val (.ref x1), .val (.int (0 : Int32)), .val (.int (3 : Int32)), .val .null, .unset] [(.ref x0)])) _
    refine st1 _ ?_
    show Steps p.tables e below (T1.setTop (mkF m 4 #[.val (.ref x0), .val (.ref x1), .val (.int (0 : Int32)), .val (.int (3 : Int32)), .val .null, .unset] [])) _
    refine XS.iloadN X1.here hx rfl (hb hby d2_4) rfl ?_
    show Steps p.tables e below (T1.setTop (mkF m 5 #[.val (.ref x0), .val (.ref x1), .val (.int (0 : Int32)), .val (.int (3 : Int32)), .val .null, .unset] [(.int (3 : Int32))])) _
    refine XS.ifYes X1.here hx rfl (pc0 := 5) (pc' := 27) rfl (hb hby d2_5) rfl ((if0 _ _).trans (feq (by decide : ¬ ((3 : Int32) = (0 : Int32)))).2) (by decide) (by decide) ?_
    show Steps p.tables e below (T1.setTop (mkF m 27 #[.val (.ref x0), .val (.ref x1), .val (.int (0 : Int32)), .val (.int (3 : Int32)), .val .null, .unset] [])) _
    refine st2 _ ?_
    show Steps p.tables e below (T2.setTop (mkF m 30 #[.val (.ref x0), .val (.ref x1), .val (.int (0 : Int32)), .val (.int (3 : Int32)), .val .null, .unset] [(.int cs)])) _
    refine XS.ifNo X2.here hx rfl (hb hby d2_30) rfl ((if0 _ _).trans (feq hcs).1) ?_
    show Steps p.tables e below (T2.setTop (mkF m 33 #[.val (.ref x0), .val (.ref x1), .val (.int (0 : Int32)), .val (.int (3 : Int32)), .val .null, .unset] [])) _
    refine XS.aloadN X2.here hx rfl (hb hby d2_33) rfl rfl ?_
    show Steps p.tables e below (T2.setTop (mkF m 34 #[.val (.ref x0), .val (.ref x1), .val (.int (0 : Int32)), .val (.int (3 : Int32)), .val .null, .unset] [(.ref x1)])) _
    refine XS.iloadN X2.here hx rfl (hb hby d2_34) rfl ?_
    show Steps p.tables e below (T2.setTop (mkF m 35 #[.val (.ref x0), .val (.ref x1), .val (.int (0 : Int32)), .val (.int (3 : Int32)), .val .null, .unset] [(.int (0 : Int32)), (.ref x1)])) _
    refine XS.iloadN X2.here hx rfl (hb hby d2_35) rfl ?_
    show Steps p.tables e below (T2.setTop (mkF m 36 #[.val (.ref x0), .val (.ref x1), .val (.int (0 : Int32)), .val (.int (3 : Int32)), .val .null, .unset] [(.int (3 : Int32)), (.int (0 : Int32)), (.ref x1)])) _
    refine st3 _ ?_
    show Steps p.tables e below (T3.setTop (mkF m 39 #[.val (.ref x0), .val (.ref x1), .val (.int (0 : Int32)), .val (.int (3 : Int32)), .val .null, .unset] [(.ref va)])) _
    refine XS.astore X3.here hx rfl (hb hby d2_39) rfl rfl (l' := #[.val (.ref x0), .val (.ref x1), .val (.int (0 : Int32)), .val (.int (3 : Int32)), .val .null, .val (.ref va)]) rfl ?_
    show Steps p.tables e below (T3.setTop (mkF m 41 #[.val (.ref x0), .val (.ref x1), .val (.int (0 : Int32)), .val (.int (3 : Int32)), .val .null, .val (.ref va)] [])) _
    refine XS.aloadN X3.here hx rfl (hb hby d2_41) rfl rfl ?_
    show Steps p.tables e below (T3.setTop (mkF m 42 #[.val (.ref x0), .val (.ref x1), .val (.int (0 : Int32)), .val (.int (3 : Int32)), .val .null, .val (.ref va)] [(.ref x0)])) _
    refine XS.aload X3.here hx rfl (hb hby d2_42) rfl rfl ?_
    show Steps p.tables e below (T3.setTop (mkF m 44 #[.val (.ref x0), .val (.ref x1), .val (.int (0 : Int32)), .val (.int (3 : Int32)), .val .null, .val (.ref va)] [(.ref va), (.ref x0)])) _
    refine XS.iloadN X3.here hx rfl (hb hby d2_44) rfl ?_
    show Steps p.tables e below (T3.setTop (mkF m 45 #[.val (.ref x0), .val (.ref x1), .val (.int (0 : Int32)), .val (.int (3 : Int32)), .val .null, .val (.ref va)] [(.int (3 : Int32)), (.ref va), (.ref x0)])) _
    refine st5 _ ?_
    show Steps p.tables e below (T5.setTop (mkF m 48 #[.val (.ref x0), .val (.ref x1), .val (.int (0 : Int32)), .val (.int (3 : Int32)), .val .null, .val (.ref va)] [(.int (0 : Int32)), (.ref x0)])) _
    refine st6 _ ?_
    show Steps p.tables e below (T6.setTop (mkF m 51 #[.val (.ref x0), .val (.ref x1), .val (.int (0 : Int32)), .val (.int (3 : Int32)), .val .null, .val (.ref va)] [])) _
    refine XS.aloadN X6.here hx rfl (hb hby d2_51) rfl rfl ?_
    show Steps p.tables e below (T6.setTop (mkF m 52 #[.val (.ref x0), .val (.ref x1), .val (.int (0 : Int32)), .val (.int (3 : Int32)), .val .null, .val (.ref va)] [(.ref x0)])) _
    refine XS.aload X6.here hx rfl (hb hby d2_52) rfl rfl ?_
    show Steps p.tables e below (T6.setTop (mkF m 54 #[.val (.ref x0), .val (.ref x1), .val (.int (0 : Int32)), .val (.int (3 : Int32)), .val .null, .val (.ref va)] [(.ref va), (.ref x0)])) _
    refine st8 _ ?_
    show Steps p.tables e below (T8.setTop (mkF m 57 #[.val (.ref x0), .val (.ref x1), .val (.int (0 : Int32)), .val (.int (3 : Int32)), .val .null, .val (.ref va)] [])) _
    exact X8.returnOut hx Bd.returns (hb hby d2_57) hr
  · exact (by
      have eT : (T8.setFrames fs).heap = h8 := e8
      rw [eT]; exact ⟨rfl, N8, keep_9, E_x0_9, va, kv, F_value_x0_8, F_coder_x0_8, V_va_9⟩)
set_option maxRecDepth 65536 in
set_option maxHeartbeats 40000000 in
theorem rms1_3 (l : Launch) (Z : State) (a0 : Array Value) (hw : ∀ d ∈ tables_1, d.before a0 Z = true) (ws : List Jvm.Cond) (x0 : Addr) (x1 : Addr) (k1 : ClassId) (c0 : Int32) (c1 : Int32) (c2 : Int32) (cs : Int32) (h0 : Heap) (n0 : Nat) (Z0 : n0 ≤ h0.size) (E_x0 : Exa Z h0 x0 "java/lang/String") (F_value_x0 : Fld Z h0 x0 "java/lang/String" "value" "[B" .null) (F_coder_x0 : Fld Z h0 x0 "java/lang/String" "coder" "B" (.int (0 : Int32))) (V_x1 : Arv Z h0 x1 k1 .char (3 : Int32) [(.int c0), (.int c1), (.int c2)] (.int (0 : Int32))) (g_x0 : n0 ≤ x0) (ne01 : x0 ≠ x1) (hc0 : ¬ ((255 : Int32) < c0)) (hc1 : ¬ ((255 : Int32) < c1)) (hc2 : ¬ ((255 : Int32) < c2)) (O0 : Old Z n0 h0) (S_CS : Sta Z Z.heap "java/lang/String" "COMPACT_STRINGS" "Z" (.int cs)) (hcs : ¬ (cs = (0 : Int32))) :
    MetFree l (⟨"java/lang/String", "<init>", "([C)V"⟩ : MethodName) (head1 (Jvm.Cond.code (⟨"java/lang/String", "<init>", "([C)V"⟩ : MethodName) jdk_42_method_3_code 2 none :: ws) ({ frames := 3, cells := 1, slots := 3, locals := 52 } : Room)) (fun a U => a = #[(.ref x0), (.ref x1)] ∧ Z.Warmed39 U.vm ∧ U.heap = h0) (fun _ _ _ _ _ => True) (fun _ U o U' => ∃ v L, o = .returned v ∧ (QSI Z x0 (3 : Int32) [(.int (own_b c0)), (.int (own_b c1)), (.int (own_b c2))] h0 n0 v U'.heap L) ∧ FrameEnd U o U' L ({ frames := 3, cells := 1, slots := 3, locals := 52 } : Room).cells ({ frames := 3, cells := 1, slots := 3, locals := 52 } : Room).slots) := by
  refine MetFree.of_bodySF (plainFor_of_name pn_1) hisR ?_
  intro p e s m args below meth c s₁ Bd hml0 hP hK
  obtain ⟨rfl, hZ, hh⟩ := hP
  have hx := Bd.exec
  have hby := Bd.bytes
  have hml : c.maxLocals = 2 := hml0
  have hown : s.vm.findClass "java/lang/String" = some m.cls := findClass_of_methodNamed Bd.named
  have hnm := (name_of_methodNamed Bd.named Bd.method).1
  have X0 : Stand p l e ({ frames := 3, cells := 1, slots := 3, locals := 52 } : Room) s m #[(.ref x0), (.ref x1)] below meth c s₁ [] 0 0 := Stand.of_body Bd
  have e0 : s₁.heap = h0 := by rw [← hh, Bd.state]; rfl
  have N0 := Fr.nil n0
  have pre0 : ∀ t, Steps p.tables e below (s₁.setTop (mkF m 0 #[.val (.ref x0), .val (.ref x1)] [])) t → Steps p.tables e below (s₁.setTop (entryFrame m #[(.ref x0), (.ref x1)] 2)) t := fun t k => castTop (ef_1 m x0 x1) k
  have K0 : Keep h0 h0 [x0] := Keep.refl h0 [x0]
  obtain ⟨_, _, ⟨T1, L1, k1, n1⟩, -, X1, ⟨Lc1, hQ1, l1, y1, z1⟩, st1⟩ := X0.specialBack hx (y := (⟨"java/lang/String", "<init>", "([CIILjava/lang/Void;)V"⟩ : MethodName)) rfl hown (mvT hZ (hw _ (List.mem_of_getElem? (i := 7) rfl))) (mvT hZ (hw _ (List.mem_of_getElem? (i := 8) rfl))) (mvT hZ (hw _ (List.mem_of_getElem? (i := 10) rfl))) (by decide) (backOf (W := 0) (rms4_3 l Z a0 hw [] x0 x1 k1 c0 c1 c2 cs h0 n0 Z0 E_x0 F_value_x0 F_coder_x0 V_x1 g_x0 ne01 hc0 hc1 hc2 O0 S_CS hcs) hZ (hw _ (List.mem_of_getElem? (i := 10) rfl)) (hw _ (List.mem_of_getElem? (i := 3) rfl)) (by decide) (by decide)) (g := (mkF m 6 #[.val (.ref x0), .val (.ref x1)] [.null, (.int (3 : Int32)), (.int (0 : Int32)), (.ref x1), (.ref x0)])) rfl (by rw [hml]; rfl) (Steps.refl _) (a := x0) (argsL := [(.ref x1), (.int (0 : Int32)), (.int (3 : Int32)), .null]) (rest := []) (lenOf pd___CIILjava_lang_Void__V rfl) rfl (by show 2 * 0 + _ ≤ _; exact Nat.le_of_eq rfl) (hb hby d1_6) (fun _ _ => ⟨rfl, e0, (by decide : 0 + 1 ≤ _), (by decide : 0 + 3 ≤ _)⟩)
  dsimp only [Pt.U, Pt.locs, Pt.cells, Pt.slots] at X1 l1 y1 z1 st1 hQ1
  subst l1 y1 z1
  obtain ⟨rfl, N1q, K1, Eq1, va, kv, Fq1, Fr1, Vq1⟩ := hQ1
  have keep_2 : Keep h0 T1.heap [x0] := K0.trans K1 (allS (Or.inl (List.mem_of_getElem? (i := 0) rfl)) (all0))
  have V_x1_2 : Arv Z T1.heap x1 k1 .char (3 : Int32) [(.int c0), (.int c1), (.int c2)] (.int (0 : Int32)) := V_x1.keep K1 (ninS (Ne.symm ne01) nin0)
  have old_2 : Old Z n0 T1.heap := O0.keep K1 (allS g_x0 (all0))
  have siz_2 : n0 ≤ T1.heap.size := Nat.le_trans Z0 K1.1
  have N1 := Fr.app N0 N1q
  obtain ⟨fs, hr, hrun, hended, hW, hsame⟩ := X1.leave (v := none) (fun _ => rfl)
  refine ⟨_, _, pre0 _ ?_, hrun, hended, _, _, rfl, ?_, ⟨_, rfl⟩, hW, hsame.mono (by decide) (by decide)⟩
  · show Steps p.tables e below (s₁.setTop (mkF m 0 #[.val (.ref x0), .val (.ref x1)] [])) _
    refine XS.aloadN X0.here hx rfl (hb hby d1_0) rfl rfl ?_
    show Steps p.tables e below (s₁.setTop (mkF m 1 #[.val (.ref x0), .val (.ref x1)] [(.ref x0)])) _
    refine XS.aloadN X0.here hx rfl (hb hby d1_1) rfl rfl ?_
    show Steps p.tables e below (s₁.setTop (mkF m 2 #[.val (.ref x0), .val (.ref x1)] [(.ref x1), (.ref x0)])) _
    refine XS.iconst X0.here hx rfl (hb hby d1_2) ?_
    show Steps p.tables e below (s₁.setTop (mkF m 3 #[.val (.ref x0), .val (.ref x1)] [(.int (0 : Int32)), (.ref x1), (.ref x0)])) _
    refine XS.aloadN X0.here hx rfl (hb hby d1_3) rfl rfl ?_
    show Steps p.tables e below (s₁.setTop (mkF m 4 #[.val (.ref x0), .val (.ref x1)] [(.ref x1), (.int (0 : Int32)), (.ref x1), (.ref x0)])) _
    refine own_len X0 hx hZ e0 V_x1 (g := (mkF m 4 #[.val (.ref x0), .val (.ref x1)] [(.ref x1), (.int (0 : Int32)), (.ref x1), (.ref x0)])) rfl rfl (hb hby d1_4) ?_
    show Steps p.tables e below (s₁.setTop (mkF m 5 #[.val (.ref x0), .val (.ref x1)] [(.int (3 : Int32)), (.int (0 : Int32)), (.ref x1), (.ref x0)])) _
    refine XS.aconstNull X0.here hx rfl (hb hby d1_5) ?_
    show Steps p.tables e below (s₁.setTop (mkF m 6 #[.val (.ref x0), .val (.ref x1)] [.null, (.int (3 : Int32)), (.int (0 : Int32)), (.ref x1), (.ref x0)])) _
    refine st1.trans ?_
    show Steps p.tables e below (T1.setTop (mkF m 9 #[.val (.ref x0), .val (.ref x1)] [])) _
    exact X1.returnOut hx Bd.returns (hb hby d1_9) hr
  · exact (by
      have eT : (T1.setFrames fs).heap = T1.heap := rfl
      rw [eT]; exact ⟨rfl, N1, keep_2, Eq1, va, kv, Fq1, Fr1, Vq1⟩)
set_option maxRecDepth 65536 in
set_option maxHeartbeats 40000000 in
theorem rms4_0 (l : Launch) (Z : State) (a0 : Array Value) (hw : ∀ d ∈ tables_1, d.before a0 Z = true) (ws : List Jvm.Cond) (x0 : Addr) (x1 : Addr)  (h0 : Heap) (n0 : Nat) (Z0 : n0 ≤ h0.size) (E_x0 : Exa Z h0 x0 "java/lang/String") (F_value_x0 : Fld Z h0 x0 "java/lang/String" "value" "[B" .null) (F_coder_x0 : Fld Z h0 x0 "java/lang/String" "coder" "B" (.int (0 : Int32))) (g_x0 : n0 ≤ x0) :
    MetFree l (⟨"java/lang/String", "<init>", "([CIILjava/lang/Void;)V"⟩ : MethodName) (head1 (Jvm.Cond.code (⟨"java/lang/String", "<init>", "([CIILjava/lang/Void;)V"⟩ : MethodName) jdk_42_method_149_code 6 none :: ws) ({ frames := 1, cells := 4, slots := 8, locals := 12 } : Room)) (fun a U => a = #[(.ref x0), (.ref x1), (.int (0 : Int32)), (.int (0 : Int32)), .null] ∧ Z.Warmed39 U.vm ∧ U.heap = h0 ∧ CHv Z consts_1 U.vm h0) (fun _ _ _ _ _ => True) (fun _ U o U' => ∃ v L, o = .returned v ∧ (QSI Z x0 (0 : Int32) [] h0 n0 v U'.heap L) ∧ CHr Z consts_1 U.vm U.heap U'.vm U'.heap ∧ ReturnedEndW U o U' L ({ frames := 1, cells := 4, slots := 8, locals := 12 } : Room).cells ({ frames := 1, cells := 4, slots := 8, locals := 12 } : Room).slots) := by
  refine MetFree.of_bodySF (plainFor_of_name pn_2) hisR ?_
  intro p e s m args below meth c s₁ Bd hml0 hP hK
  obtain ⟨rfl, hZ, hh, C0v⟩ := hP
  have hx := Bd.exec
  have hby := Bd.bytes
  have hml : c.maxLocals = 6 := hml0
  have hown : (s.setVm s.vm).vm.findClass "java/lang/String" = some m.cls := findClass_of_methodNamed Bd.named
  have hnm := (name_of_methodNamed Bd.named Bd.method).1
  have X0 : Stand p l e ({ frames := 1, cells := 4, slots := 8, locals := 12 } : Room) (s.setVm s.vm) m #[(.ref x0), (.ref x1), (.int (0 : Int32)), (.int (0 : Int32)), .null] below meth c s₁ [] 0 0 := Stand.of_body Bd
  have e0 : s₁.heap = h0 := by rw [← hh, Bd.state]; rfl
  have N0 := Fr.nil n0
  have hS0 : s.Since s.vm 0 := (State.WarmedH.refl s).since 0
  have hk0 : 0 ≤ h0.size := Nat.zero_le _
  have R0v := CHr.refl C0v
  have pre0 : ∀ t, Steps p.tables e below (s₁.setTop (mkF m 0 #[.val (.ref x0), .val (.ref x1), .val (.int (0 : Int32)), .val (.int (0 : Int32)), .val .null, .unset] [])) t → Steps p.tables e below (s₁.setTop (entryFrame m #[(.ref x0), (.ref x1), (.int (0 : Int32)), (.int (0 : Int32)), .null] 6)) t := fun t k => castTop (ef_2_null m x0 x1 (0 : Int32) (0 : Int32)) k
  have K0 : Keep h0 h0 [x0] := Keep.refl h0 [x0]
  have Sf0 : Safe Z consts_1 s.vm h0 x0 := own_safe (show Z.vm.Alike s.vm from hZ.alike) E_x0 F_value_x0
  obtain ⟨T1, X1, e1, st1⟩ := initO X0 hx hZ hown (hw _ (List.mem_of_getElem? (i := 11) rfl)) (hw _ (List.mem_of_getElem? (i := 12) rfl)) (hw _ (List.mem_of_getElem? (i := 13) rfl)) e0 (g := (mkF m 1 #[.val (.ref x0), .val (.ref x1), .val (.int (0 : Int32)), .val (.int (0 : Int32)), .val .null, .unset] [(.ref x0)])) rfl (by rw [hml]; rfl) rfl (hb hby d2_1) (by decide) (W := 0) (by show 2 * 0 + _ ≤ _; exact Nat.le_of_eq rfl) (by decide)
  obtain ⟨la2, T2, h2, k12, lb2, kl2, X2, e2, E2, hS2, hk2, hZ2, hown2, EX2, FC2, FV2, AV2, lq2, lr2, Cc2, Li2, sf2, st2⟩ := ldcCH X1 hx hZ hown (hw _ (List.mem_of_getElem? (i := 14) rfl)) (own_wS hw) e1 hS0 hk0 (own_EL hw) (List.mem_of_getElem? (i := 3) rfl) C0v (vs := []) (z := (0 : Int32)) ⟨by decide, by decide⟩ (by decide) rfl (g := (mkF m 9 #[.val (.ref x0), .val (.ref x1), .val (.int (0 : Int32)), .val (.int (0 : Int32)), .val .null, .unset] [(.ref x0)])) rfl (hb hby d2_9) (n := 0) (by decide) (by decide) (by decide) (by decide)
  have lt0_x0_2 : x0 < h0.size := E_x0.lt
  have keep_3 : Keep h0 h2 [x0] := K0.ext E2
  have E_x0_3 : Exa Z h2 x0 "java/lang/String" := E_x0.ext E2
  have F_value_x0_3 : Fld Z h2 x0 "java/lang/String" "value" "[B" .null := F_value_x0.ext E2
  have F_coder_x0_3 : Fld Z h2 x0 "java/lang/String" "coder" "B" (.int (0 : Int32)) := F_coder_x0.ext E2
  have siz_3 : n0 ≤ h2.size := Nat.le_trans Z0 E2.1
  have Sl_x0_2 := Cc2.safe lt0_x0_2 Sf0
  have nel_x0_2 := sf2 x0 Sl_x0_2
  have C2v := Cc2.1
  have R2v := R0v.trans Cc2
  obtain ⟨T4, X4, e4, st4⟩ := getF X2 hx hZ2 hown2 (host := "") (Or.inl (hw _ (List.mem_of_getElem? (i := 20) rfl))) Via.refl e2 FV2 (g := (mkF m 11 #[.val (.ref x0), .val (.ref x1), .val (.int (0 : Int32)), .val (.int (0 : Int32)), .val .null, .unset] [(.ref la2), (.ref x0)])) rfl rfl (hb hby d2_11)
  obtain ⟨T5, h5, X5, e5, W5, st5⟩ := putF X4 hx hZ2 hown2 (host := "") (Or.inl (hw _ (List.mem_of_getElem? (i := 20) rfl))) Via.refl e4 F_value_x0_3 E_x0_3 (Or.inr ⟨(hw _ (List.mem_of_getElem? (i := 16) rfl)), rfl, hnm⟩) (hw _ (List.mem_of_getElem? (i := 2) rfl)) (ty := (.array .byte)) (by decide) rfl rfl (g := (mkF m 14 #[.val (.ref x0), .val (.ref x1), .val (.int (0 : Int32)), .val (.int (0 : Int32)), .val .null, .unset] [(.ref lb2), (.ref x0)])) rfl rfl (hb hby d2_14)
  have N5 := Fr.snoc X5 N0 g_x0
  have Cr7 := CHr.wr W5 Sl_x0_2 C2v
  have Sf_x0_7 := Safe.wr W5 Sl_x0_2 C2v Sl_x0_2
  have C7v := Cr7.1
  have R7v := R2v.trans Cr7
  have hk7 := Nat.le_trans hk2 (Keep.of_wr W5).1
  have keep_6 : Keep h0 h5 [x0] := keep_3.wr W5 (Or.inl (List.mem_of_getElem? (i := 0) rfl))
  have E_x0_6 : Exa Z h5 x0 "java/lang/String" := E_x0_3.wr W5
  have siz_6 : n0 ≤ h5.size := Nat.le_trans siz_3 (Keep.of_wr W5).1
  have E_la2_6 : Exa Z h5 la2 "java/lang/String" := EX2.wr W5
  have F_coder_la2_6 : Fld Z h5 la2 "java/lang/String" "coder" "B" (.int (0 : Int32)) := FC2.other W5 (Or.inl (Ne.symm nel_x0_2.1))
  have F_value_la2_6 : Fld Z h5 la2 "java/lang/String" "value" "[B" (.ref lb2) := FV2.other W5 (Or.inl (Ne.symm nel_x0_2.1))
  have V_lb2_6 : Arv Z h5 lb2 kl2 .byte (0 : Int32) [] (.int (0 : Int32)) := AV2.other W5 (Ne.symm nel_x0_2.2)
  have F_value_x0_5 : Fld Z h5 x0 "java/lang/String" "value" "[B" (.ref lb2) := F_value_x0_3.same W5
  have F_coder_x0_5 : Fld Z h5 x0 "java/lang/String" "coder" "B" (.int (0 : Int32)) := F_coder_x0_3.other W5 (Or.inr (slot_ne (Or.inr (hw _ (List.mem_of_getElem? (i := 17) rfl))) (Or.inr (hw _ (List.mem_of_getElem? (i := 16) rfl))) (by decide) (t := .byte) (t' := (.array .byte)) (by decide) (by decide)))
  obtain ⟨la8, T8, h8, k18, lb8, kl8, X8, e8, E8, hS8, hk8, hZ8, hown8, EX8, FC8, FV8, AV8, lq8, lr8, Cc8, Li8, sf8, st8⟩ := ldcCH X5 hx hZ2 hown2 (hw _ (List.mem_of_getElem? (i := 14) rfl)) (own_wS hw) e5 hS2 hk7 (own_EL hw) (List.mem_of_getElem? (i := 3) rfl) C7v (vs := []) (z := (0 : Int32)) ⟨by decide, by decide⟩ (by decide) rfl (g := (mkF m 18 #[.val (.ref x0), .val (.ref x1), .val (.int (0 : Int32)), .val (.int (0 : Int32)), .val .null, .unset] [(.ref x0)])) rfl (hb hby d2_18) (n := 0) (by decide) (by decide) (by decide) (by decide)
  have lt0_x0_8 : x0 < h5.size := E_x0_6.lt
  have keep_9 : Keep h0 h8 [x0] := keep_6.ext E8
  have E_x0_9 : Exa Z h8 x0 "java/lang/String" := E_x0_6.ext E8
  have F_value_x0_9 : Fld Z h8 x0 "java/lang/String" "value" "[B" (.ref lb2) := F_value_x0_5.ext E8
  have F_coder_x0_9 : Fld Z h8 x0 "java/lang/String" "coder" "B" (.int (0 : Int32)) := F_coder_x0_5.ext E8
  have siz_9 : n0 ≤ h8.size := Nat.le_trans siz_6 E8.1
  have E_la2_9 : Exa Z h8 la2 "java/lang/String" := E_la2_6.ext E8
  have F_coder_la2_9 : Fld Z h8 la2 "java/lang/String" "coder" "B" (.int (0 : Int32)) := F_coder_la2_6.ext E8
  have F_value_la2_9 : Fld Z h8 la2 "java/lang/String" "value" "[B" (.ref lb2) := F_value_la2_6.ext E8
  have V_lb2_9 : Arv Z h8 lb2 kl2 .byte (0 : Int32) [] (.int (0 : Int32)) := V_lb2_6.ext E8
  have Sl_x0_8 := Cc8.safe lt0_x0_8 Sf_x0_7
  have nel_x0_8 := sf8 x0 Sl_x0_8
  have C8v := Cc8.1
  have R8v := R7v.trans Cc8
  obtain ⟨T10, X10, e10, st10⟩ := getF X8 hx hZ8 hown8 (host := "") (Or.inl (hw _ (List.mem_of_getElem? (i := 21) rfl))) Via.refl e8 FC8 (g := (mkF m 20 #[.val (.ref x0), .val (.ref x1), .val (.int (0 : Int32)), .val (.int (0 : Int32)), .val .null, .unset] [(.ref la8), (.ref x0)])) rfl rfl (hb hby d2_20)
  obtain ⟨T11, h11, X11, e11, W11, st11⟩ := putFN X10 hx hZ8 hown8 (hw _ (List.mem_of_getElem? (i := 21) rfl)) Via.refl e10 F_coder_x0_9 E_x0_9 (Or.inr ⟨(hw _ (List.mem_of_getElem? (i := 17) rfl)), rfl, hnm⟩) (hw _ (List.mem_of_getElem? (i := 2) rfl)) (ty := .byte) (v' := (.int ((0 : Int32).toInt8.toInt32))) (by decide) rfl (fits_nar_byte _) (g := (mkF m 23 #[.val (.ref x0), .val (.ref x1), .val (.int (0 : Int32)), .val (.int (0 : Int32)), .val .null, .unset] [(.int (0 : Int32)), (.ref x0)])) rfl rfl (hb hby d2_23)
  have N11 := Fr.snoc X11 N5 g_x0
  have Cr13 := CHr.wr W11 Sl_x0_8 C8v
  have Sf_x0_13 := Safe.wr W11 Sl_x0_8 C8v Sl_x0_8
  have C13v := Cr13.1
  have R13v := R8v.trans Cr13
  have hk13 := Nat.le_trans hk8 (Keep.of_wr W11).1
  have keep_12 : Keep h0 h11 [x0] := keep_9.wr W11 (Or.inl (List.mem_of_getElem? (i := 0) rfl))
  have E_x0_12 : Exa Z h11 x0 "java/lang/String" := E_x0_9.wr W11
  have siz_12 : n0 ≤ h11.size := Nat.le_trans siz_9 (Keep.of_wr W11).1
  have E_la2_12 : Exa Z h11 la2 "java/lang/String" := E_la2_9.wr W11
  have F_coder_la2_12 : Fld Z h11 la2 "java/lang/String" "coder" "B" (.int (0 : Int32)) := F_coder_la2_9.other W11 (Or.inl (Ne.symm nel_x0_2.1))
  have F_value_la2_12 : Fld Z h11 la2 "java/lang/String" "value" "[B" (.ref lb2) := F_value_la2_9.other W11 (Or.inl (Ne.symm nel_x0_2.1))
  have V_lb2_12 : Arv Z h11 lb2 kl2 .byte (0 : Int32) [] (.int (0 : Int32)) := V_lb2_9.other W11 (Ne.symm nel_x0_2.2)
  have E_la8_12 : Exa Z h11 la8 "java/lang/String" := EX8.wr W11
  have F_coder_la8_12 : Fld Z h11 la8 "java/lang/String" "coder" "B" (.int (0 : Int32)) := FC8.other W11 (Or.inl (Ne.symm nel_x0_8.1))
  have F_value_la8_12 : Fld Z h11 la8 "java/lang/String" "value" "[B" (.ref lb8) := FV8.other W11 (Or.inl (Ne.symm nel_x0_8.1))
  have V_lb8_12 : Arv Z h11 lb8 kl8 .byte (0 : Int32) [] (.int (0 : Int32)) := AV8.other W11 (Ne.symm nel_x0_8.2)
  have F_value_x0_11 : Fld Z h11 x0 "java/lang/String" "value" "[B" (.ref lb2) := F_value_x0_9.other W11 (Or.inr (slot_ne (Or.inr (hw _ (List.mem_of_getElem? (i := 16) rfl))) (Or.inr (hw _ (List.mem_of_getElem? (i := 17) rfl))) (by decide) (t := (.array .byte)) (t' := .byte) (by decide) (by decide)))
  have F_coder_x0_11 : Fld Z h11 x0 "java/lang/String" "coder" "B" (.int ((0 : Int32).toInt8.toInt32)) := F_coder_x0_9.same W11
  have Rend := R13v.trans (CHv.at X11 hZ8 (own_EL hw) C13v)
  obtain ⟨fs, hr, hrun, hended, hRW⟩ := X11.leaveW hS8 (by rw [e11]; exact hk13) (v := none) (fun _ => rfl)
  refine ⟨_, _, pre0 _ ?_, hrun, hended, _, _, rfl, ?_, ?_, hRW.1, hRW.2.1, hRW.2.2.1, hRW.2.2.2.mono (by decide) (by decide)⟩
  · show Steps p.tables e below (s₁.setTop (mkF m 0 #[.val (.ref x0), .val (.ref x1), .val (.int (0 : Int32)), .val (.int (0 : Int32)), .val .null, .unset] [])) _
    refine XS.aloadN X0.here hx rfl (hb hby d2_0) rfl rfl ?_
    show Steps p.tables e below (s₁.setTop (mkF m 1 #[.val (.ref x0), .val (.ref x1), .val (.int (0 : Int32)), .val (.int (0 : Int32)), .val .null, .unset] [(.ref x0)])) _
    refine st1 _ ?_
    show Steps p.tables e below (T1.setTop (mkF m 4 #[.val (.ref x0), .val (.ref x1), .val (.int (0 : Int32)), .val (.int (0 : Int32)), .val .null, .unset] [])) _
    refine XS.iloadN X1.here hx rfl (hb hby d2_4) rfl ?_
    show Steps p.tables e below (T1.setTop (mkF m 5 #[.val (.ref x0), .val (.ref x1), .val (.int (0 : Int32)), .val (.int (0 : Int32)), .val .null, .unset] [(.int (0 : Int32))])) _
    refine XS.ifNo X1.here hx rfl (hb hby d2_5) rfl ((if0 _ _).trans (teq (by decide : (0 : Int32) = (0 : Int32))).2) ?_
    show Steps p.tables e below (T1.setTop (mkF m 8 #[.val (.ref x0), .val (.ref x1), .val (.int (0 : Int32)), .val (.int (0 : Int32)), .val .null, .unset] [])) _
    refine XS.aloadN X1.here hx rfl (hb hby d2_8) rfl rfl ?_
    show Steps p.tables e below (T1.setTop (mkF m 9 #[.val (.ref x0), .val (.ref x1), .val (.int (0 : Int32)), .val (.int (0 : Int32)), .val .null, .unset] [(.ref x0)])) _
    refine st2 _ ?_
    show Steps p.tables e below (T2.setTop (mkF m 11 #[.val (.ref x0), .val (.ref x1), .val (.int (0 : Int32)), .val (.int (0 : Int32)), .val .null, .unset] [(.ref la2), (.ref x0)])) _
    refine st4 _ ?_
    show Steps p.tables e below (T4.setTop (mkF m 14 #[.val (.ref x0), .val (.ref x1), .val (.int (0 : Int32)), .val (.int (0 : Int32)), .val .null, .unset] [(.ref lb2), (.ref x0)])) _
    refine st5 _ ?_
    show Steps p.tables e below (T5.setTop (mkF m 17 #[.val (.ref x0), .val (.ref x1), .val (.int (0 : Int32)), .val (.int (0 : Int32)), .val .null, .unset] [])) _
    refine XS.aloadN X5.here hx rfl (hb hby d2_17) rfl rfl ?_
    show Steps p.tables e below (T5.setTop (mkF m 18 #[.val (.ref x0), .val (.ref x1), .val (.int (0 : Int32)), .val (.int (0 : Int32)), .val .null, .unset] [(.ref x0)])) _
    refine st8 _ ?_
    show Steps p.tables e below (T8.setTop (mkF m 20 #[.val (.ref x0), .val (.ref x1), .val (.int (0 : Int32)), .val (.int (0 : Int32)), .val .null, .unset] [(.ref la8), (.ref x0)])) _
    refine st10 _ ?_
    show Steps p.tables e below (T10.setTop (mkF m 23 #[.val (.ref x0), .val (.ref x1), .val (.int (0 : Int32)), .val (.int (0 : Int32)), .val .null, .unset] [(.int (0 : Int32)), (.ref x0)])) _
    refine st11 _ ?_
    show Steps p.tables e below (T11.setTop (mkF m 26 #[.val (.ref x0), .val (.ref x1), .val (.int (0 : Int32)), .val (.int (0 : Int32)), .val .null, .unset] [])) _
    exact X11.returnOut hx Bd.returns (hb hby d2_26) hr
  · exact (by
      have eT : (T11.setFrames fs).heap = h11 := e11
      rw [eT]; exact ⟨rfl, N11, keep_12, E_x0_12, lb2, _, F_value_x0_11, F_coder_x0_11, V_lb2_12⟩)
  · have eT : (T11.setFrames fs).heap = h11 := e11
    rw [eT, hh]; exact Rend
set_option maxRecDepth 65536 in
set_option maxHeartbeats 40000000 in
theorem rms1_0 (l : Launch) (Z : State) (a0 : Array Value) (hw : ∀ d ∈ tables_1, d.before a0 Z = true) (ws : List Jvm.Cond) (x0 : Addr) (x1 : Addr) (k1 : ClassId) (h0 : Heap) (n0 : Nat) (Z0 : n0 ≤ h0.size) (E_x0 : Exa Z h0 x0 "java/lang/String") (F_value_x0 : Fld Z h0 x0 "java/lang/String" "value" "[B" .null) (F_coder_x0 : Fld Z h0 x0 "java/lang/String" "coder" "B" (.int (0 : Int32))) (g_x0 : n0 ≤ x0) (V_x1 : Arv Z h0 x1 k1 .char (0 : Int32) [] (.int (0 : Int32))) (ne01 : x0 ≠ x1) :
    MetFree l (⟨"java/lang/String", "<init>", "([C)V"⟩ : MethodName) (head1 (Jvm.Cond.code (⟨"java/lang/String", "<init>", "([C)V"⟩ : MethodName) jdk_42_method_3_code 2 none :: ws) ({ frames := 2, cells := 4, slots := 8, locals := 29 } : Room)) (fun a U => a = #[(.ref x0), (.ref x1)] ∧ Z.Warmed39 U.vm ∧ U.heap = h0 ∧ CHv Z consts_1 U.vm h0) (fun _ _ _ _ _ => True) (fun _ U o U' => ∃ v L, o = .returned v ∧ (QSI Z x0 (0 : Int32) [] h0 n0 v U'.heap L) ∧ CHr Z consts_1 U.vm U.heap U'.vm U'.heap ∧ ReturnedEndW U o U' L ({ frames := 2, cells := 4, slots := 8, locals := 29 } : Room).cells ({ frames := 2, cells := 4, slots := 8, locals := 29 } : Room).slots) := by
  refine MetFree.of_bodySF (plainFor_of_name pn_1) hisR ?_
  intro p e s m args below meth c s₁ Bd hml0 hP hK
  obtain ⟨rfl, hZ, hh, C0v⟩ := hP
  have hx := Bd.exec
  have hby := Bd.bytes
  have hml : c.maxLocals = 2 := hml0
  have hown : (s.setVm s.vm).vm.findClass "java/lang/String" = some m.cls := findClass_of_methodNamed Bd.named
  have hnm := (name_of_methodNamed Bd.named Bd.method).1
  have X0 : Stand p l e ({ frames := 2, cells := 4, slots := 8, locals := 29 } : Room) (s.setVm s.vm) m #[(.ref x0), (.ref x1)] below meth c s₁ [] 0 0 := Stand.of_body Bd
  have e0 : s₁.heap = h0 := by rw [← hh, Bd.state]; rfl
  have N0 := Fr.nil n0
  have hS0 : s.Since s.vm 0 := (State.WarmedH.refl s).since 0
  have hk0 : 0 ≤ h0.size := Nat.zero_le _
  have R0v := CHr.refl C0v
  have pre0 : ∀ t, Steps p.tables e below (s₁.setTop (mkF m 0 #[.val (.ref x0), .val (.ref x1)] [])) t → Steps p.tables e below (s₁.setTop (entryFrame m #[(.ref x0), (.ref x1)] 2)) t := fun t k => castTop (ef_1 m x0 x1) k
  have K0 : Keep h0 h0 [x0] := Keep.refl h0 [x0]
  obtain ⟨_, _, ⟨T1, L1, k1, n1⟩, -, Xr1, hSr1, hgr1, ⟨Lc1, hQ1, l1, y1, z1, Cc1⟩, st1⟩ := X0.specialBackS hx (y := (⟨"java/lang/String", "<init>", "([CIILjava/lang/Void;)V"⟩ : MethodName)) rfl hown (mvT hZ (hw _ (List.mem_of_getElem? (i := 7) rfl))) (mvT hZ (hw _ (List.mem_of_getElem? (i := 8) rfl))) (mvT hZ (hw _ (List.mem_of_getElem? (i := 10) rfl))) (by decide) (backOfSH (s := s) (W := 0) (rms4_0 l Z a0 hw [] x0 x1 h0 n0 Z0 E_x0 F_value_x0 F_coder_x0 g_x0) hZ (hw _ (List.mem_of_getElem? (i := 10) rfl)) (hw _ (List.mem_of_getElem? (i := 3) rfl)) (by decide) (by decide) (own_EL hw) C0v) (g := (mkF m 6 #[.val (.ref x0), .val (.ref x1)] [.null, (.int (0 : Int32)), (.int (0 : Int32)), (.ref x1), (.ref x0)])) rfl (by rw [hml]; rfl) (Steps.refl _) (a := x0) (argsL := [(.ref x1), (.int (0 : Int32)), (.int (0 : Int32)), .null]) (rest := []) (lenOf pd___CIILjava_lang_Void__V rfl) rfl (by show 2 * 0 + _ ≤ _; exact Nat.le_of_eq rfl) (hb hby d1_6) (fun _ _ => ⟨rfl, e0, (by decide : 0 + 4 ≤ _), (by decide : 0 + 8 ≤ _)⟩)
  dsimp only [Pt.U, Pt.locs, Pt.cells, Pt.slots] at Xr1 hSr1 hgr1 l1 y1 z1 st1 hQ1 Cc1
  subst l1 y1 z1
  obtain ⟨X1, hS1, hZ1, hown1⟩ := rebS (own := "java/lang/String") hS0 (show _ ≤ s₁.heap.size by rw [e0]; exact hk0) Xr1 hSr1 hgr1 hZ hown
  obtain ⟨rfl, N1q, K1, Eq1, va, kv, Fq1, Fr1, Vq1⟩ := hQ1
  have keep_2 : Keep h0 T1.heap [x0] := K0.trans K1 (allS (Or.inl (List.mem_of_getElem? (i := 0) rfl)) (all0))
  have V_x1_2 : Arv Z T1.heap x1 k1 .char (0 : Int32) [] (.int (0 : Int32)) := V_x1.keep K1 (ninS (Ne.symm ne01) nin0)
  have siz_2 : n0 ≤ T1.heap.size := Nat.le_trans Z0 K1.1
  have C1v := Cc1.1
  have R1v := R0v.trans Cc1
  have N1 := Fr.app N0 N1q
  have hk1 := Nat.le_refl T1.heap.size
  have Rend := R1v.trans (CHv.at X1 hZ1 (own_EL hw) C1v)
  obtain ⟨fs, hr, hrun, hended, hRW⟩ := X1.leaveW hS1 hk1 (v := none) (fun _ => rfl)
  refine ⟨_, _, pre0 _ ?_, hrun, hended, _, _, rfl, ?_, ?_, hRW.1, hRW.2.1, hRW.2.2.1, hRW.2.2.2.mono (by decide) (by decide)⟩
  · show Steps p.tables e below (s₁.setTop (mkF m 0 #[.val (.ref x0), .val (.ref x1)] [])) _
    refine XS.aloadN X0.here hx rfl (hb hby d1_0) rfl rfl ?_
    show Steps p.tables e below (s₁.setTop (mkF m 1 #[.val (.ref x0), .val (.ref x1)] [(.ref x0)])) _
    refine XS.aloadN X0.here hx rfl (hb hby d1_1) rfl rfl ?_
    show Steps p.tables e below (s₁.setTop (mkF m 2 #[.val (.ref x0), .val (.ref x1)] [(.ref x1), (.ref x0)])) _
    refine XS.iconst X0.here hx rfl (hb hby d1_2) ?_
    show Steps p.tables e below (s₁.setTop (mkF m 3 #[.val (.ref x0), .val (.ref x1)] [(.int (0 : Int32)), (.ref x1), (.ref x0)])) _
    refine XS.aloadN X0.here hx rfl (hb hby d1_3) rfl rfl ?_
    show Steps p.tables e below (s₁.setTop (mkF m 4 #[.val (.ref x0), .val (.ref x1)] [(.ref x1), (.int (0 : Int32)), (.ref x1), (.ref x0)])) _
    refine own_len X0 hx hZ e0 V_x1 (g := (mkF m 4 #[.val (.ref x0), .val (.ref x1)] [(.ref x1), (.int (0 : Int32)), (.ref x1), (.ref x0)])) rfl rfl (hb hby d1_4) ?_
    show Steps p.tables e below (s₁.setTop (mkF m 5 #[.val (.ref x0), .val (.ref x1)] [(.int (0 : Int32)), (.int (0 : Int32)), (.ref x1), (.ref x0)])) _
    refine XS.aconstNull X0.here hx rfl (hb hby d1_5) ?_
    show Steps p.tables e below (s₁.setTop (mkF m 6 #[.val (.ref x0), .val (.ref x1)] [.null, (.int (0 : Int32)), (.int (0 : Int32)), (.ref x1), (.ref x0)])) _
    refine st1.trans ?_
    show Steps p.tables e below (T1.setTop (mkF m 9 #[.val (.ref x0), .val (.ref x1)] [])) _
    exact X1.returnOut hx Bd.returns (hb hby d1_9) hr
  · exact (by
      have eT : (T1.setFrames fs).heap = T1.heap := rfl
      rw [eT]; exact ⟨rfl, N1, keep_2, Eq1, va, kv, Fq1, Fr1, Vq1⟩)
  · have eT : (T1.setFrames fs).heap = T1.heap := rfl
    rw [eT, hh]; exact Rend
set_option maxRecDepth 65536 in
set_option maxHeartbeats 40000000 in
theorem rmle_0 (l : Launch) (Z : State) (a0 : Array Value) (hw : ∀ d ∈ tables_1, d.before a0 Z = true) (ws : List Jvm.Cond) (x0 : Addr) (x1 : Addr) (k0 k1 : ClassId)  (h0 : Heap) (n0 : Nat) (Z0 : n0 ≤ h0.size) (V_x0 : Arv Z h0 x0 k0 .byte (0 : Int32) [] (.int (0 : Int32))) (V_x1 : Arv Z h0 x1 k1 .byte (1 : Int32) [(.int (45 : Int32))] (.int (0 : Int32)))  :
    MetFree l (⟨"java/lang/StringLatin1", "equals", "([B[B)Z"⟩ : MethodName) (head1 (Jvm.Cond.code (⟨"java/lang/StringLatin1", "equals", "([B[B)Z"⟩ : MethodName) jdk_43_method_13_code 3 (some .boolean) :: ws) ({ frames := 0, cells := 0, slots := 0, locals := 0 } : Room)) (fun a U => a = #[(.ref x0), (.ref x1)] ∧ Z.Warmed39 U.vm ∧ U.heap = h0) (fun _ _ _ _ _ => True) (fun _ U o U' => ∃ v L, o = .returned v ∧ (QP (some (.int (0 : Int32))) h0 n0 v U'.heap L) ∧ FrameEnd U o U' L ({ frames := 0, cells := 0, slots := 0, locals := 0 } : Room).cells ({ frames := 0, cells := 0, slots := 0, locals := 0 } : Room).slots) := by
  refine MetFree.of_bodySF (plainFor_of_name pn_6) hisR ?_
  intro p e s m args below meth c s₁ Bd hml0 hP hK
  obtain ⟨rfl, hZ, hh⟩ := hP
  have hx := Bd.exec
  have hby := Bd.bytes
  have hml : c.maxLocals = 3 := hml0
  have hown : s.vm.findClass "java/lang/StringLatin1" = some m.cls := findClass_of_methodNamed Bd.named
  have hnm := (name_of_methodNamed Bd.named Bd.method).1
  have X0 : Stand p l e ({ frames := 0, cells := 0, slots := 0, locals := 0 } : Room) s m #[(.ref x0), (.ref x1)] below meth c s₁ [] 0 0 := Stand.of_body Bd
  have e0 : s₁.heap = h0 := by rw [← hh, Bd.state]; rfl
  have N0 := Fr.nil n0
  have pre0 : ∀ t, Steps p.tables e below (s₁.setTop (mkF m 0 #[.val (.ref x0), .val (.ref x1), .unset] [])) t → Steps p.tables e below (s₁.setTop (entryFrame m #[(.ref x0), (.ref x1)] 3)) t := fun t k => castTop (ef_6 m x0 x1) k
  obtain ⟨fs, hr, hrun, hended, hW, hsame⟩ := X0.leave (v := some (.int (0 : Int32))) (fun h => by rw [Bd.returns] at h; cases h)
  refine ⟨_, _, pre0 _ ?_, hrun, hended, _, _, rfl, ?_, ⟨_, rfl⟩, hW, hsame.mono (by decide) (by decide)⟩
  · show Steps p.tables e below (s₁.setTop (mkF m 0 #[.val (.ref x0), .val (.ref x1), .unset] [])) _
    refine XS.aloadN X0.here hx rfl (hb hby d6_0) rfl rfl ?_
    show Steps p.tables e below (s₁.setTop (mkF m 1 #[.val (.ref x0), .val (.ref x1), .unset] [(.ref x0)])) _
    refine own_len X0 hx hZ e0 V_x0 (g := (mkF m 1 #[.val (.ref x0), .val (.ref x1), .unset] [(.ref x0)])) rfl rfl (hb hby d6_1) ?_
    show Steps p.tables e below (s₁.setTop (mkF m 2 #[.val (.ref x0), .val (.ref x1), .unset] [(.int (0 : Int32))])) _
    refine XS.aloadN X0.here hx rfl (hb hby d6_2) rfl rfl ?_
    show Steps p.tables e below (s₁.setTop (mkF m 3 #[.val (.ref x0), .val (.ref x1), .unset] [(.ref x1), (.int (0 : Int32))])) _
    refine own_len X0 hx hZ e0 V_x1 (g := (mkF m 3 #[.val (.ref x0), .val (.ref x1), .unset] [(.ref x1), (.int (0 : Int32))])) rfl rfl (hb hby d6_3) ?_
    show Steps p.tables e below (s₁.setTop (mkF m 4 #[.val (.ref x0), .val (.ref x1), .unset] [(.int (1 : Int32)), (.int (0 : Int32))])) _
    refine XS.icmpYes X0.here hx rfl (pc0 := 4) (pc' := 34) rfl (hb hby d6_4) rfl (feq (by decide : ¬ ((0 : Int32) = (1 : Int32)))).2 (by decide) (by decide) ?_
    show Steps p.tables e below (s₁.setTop (mkF m 34 #[.val (.ref x0), .val (.ref x1), .unset] [])) _
    refine XS.iconst X0.here hx rfl (hb hby d6_34) ?_
    show Steps p.tables e below (s₁.setTop (mkF m 35 #[.val (.ref x0), .val (.ref x1), .unset] [(.int (0 : Int32))])) _
    exact retN X0 hx (t := .boolean) Bd.returns (by simp) (hb hby d6_35) hr
  · exact ⟨rfl, N0, e0⟩
theorem pd___B_B_Z : parseMethodDescriptor "([B[B)Z" = some ⟨[(.array .byte), (.array .byte)], some .boolean⟩ := by decide +kernel
set_option maxRecDepth 65536 in
set_option maxHeartbeats 40000000 in
theorem rmeq_0 (l : Launch) (Z : State) (a0 : Array Value) (hw : ∀ d ∈ tables_1, d.before a0 Z = true) (ws : List Jvm.Cond) (x0 : Addr) (x1 : Addr) (va vb : Addr) (kv kb : ClassId) (cs : Int32)  (h0 : Heap) (n0 : Nat) (Z0 : n0 ≤ h0.size) (E_x0 : Exa Z h0 x0 "java/lang/String") (F_value_x0 : Fld Z h0 x0 "java/lang/String" "value" "[B" (.ref va)) (F_coder_x0 : Fld Z h0 x0 "java/lang/String" "coder" "B" (.int (0 : Int32))) (V_va : Arv Z h0 va kv .byte (0 : Int32) [] (.int (0 : Int32))) (E_x1 : Exa Z h0 x1 "java/lang/String") (F_value_x1 : Fld Z h0 x1 "java/lang/String" "value" "[B" (.ref vb)) (F_coder_x1 : Fld Z h0 x1 "java/lang/String" "coder" "B" (.int (0 : Int32))) (V_vb : Arv Z h0 vb kb .byte (1 : Int32) [(.int (45 : Int32))] (.int (0 : Int32))) (O0 : Old Z n0 h0) (S_CS : Sta Z Z.heap "java/lang/String" "COMPACT_STRINGS" "Z" (.int cs)) (hcs : ¬ (cs = (0 : Int32))) (hne : ¬ (x0 = x1))  :
    MetFree l (⟨"java/lang/String", "equals", "(Ljava/lang/Object;)Z"⟩ : MethodName) (head1 (Jvm.Cond.code (⟨"java/lang/String", "equals", "(Ljava/lang/Object;)Z"⟩ : MethodName) jdk_42_method_66_code 3 (some .boolean) :: ws) ({ frames := 1, cells := 0, slots := 0, locals := 14 } : Room)) (fun a U => a = #[(.ref x0), (.ref x1)] ∧ Z.Warmed39 U.vm ∧ U.heap = h0) (fun _ _ _ _ _ => True) (fun _ U o U' => ∃ v L, o = .returned v ∧ (QP (some (.int (0 : Int32))) h0 n0 v U'.heap L) ∧ FrameEnd U o U' L ({ frames := 1, cells := 0, slots := 0, locals := 14 } : Room).cells ({ frames := 1, cells := 0, slots := 0, locals := 14 } : Room).slots) := by
  refine MetFree.of_bodySF (plainFor_of_name pn_5) hisR ?_
  intro p e s m args below meth c s₁ Bd hml0 hP hK
  obtain ⟨rfl, hZ, hh⟩ := hP
  have hx := Bd.exec
  have hby := Bd.bytes
  have hml : c.maxLocals = 3 := hml0
  have hown : s.vm.findClass "java/lang/String" = some m.cls := findClass_of_methodNamed Bd.named
  have hnm := (name_of_methodNamed Bd.named Bd.method).1
  have X0 : Stand p l e ({ frames := 1, cells := 0, slots := 0, locals := 14 } : Room) s m #[(.ref x0), (.ref x1)] below meth c s₁ [] 0 0 := Stand.of_body Bd
  have e0 : s₁.heap = h0 := by rw [← hh, Bd.state]; rfl
  have N0 := Fr.nil n0
  have pre0 : ∀ t, Steps p.tables e below (s₁.setTop (mkF m 0 #[.val (.ref x0), .val (.ref x1), .unset] [])) t → Steps p.tables e below (s₁.setTop (entryFrame m #[(.ref x0), (.ref x1)] 3)) t := fun t k => castTop (ef_5 m x0 x1) k
  obtain ⟨T1, X1, e1, st1⟩ := instY X0 hx hZ hown (hw _ (List.mem_of_getElem? (i := 32) rfl)) e0 (Ins.self E_x1) (g := (mkF m 8 #[.val (.ref x0), .val (.ref x1), .unset] [(.ref x1)])) rfl rfl (hb hby d5_8)
  obtain ⟨T2, X2, e2, st2⟩ := castY X1 hx hZ hown (hw _ (List.mem_of_getElem? (i := 32) rfl)) e1 (Ins.self E_x1) (g := (mkF m 15 #[.val (.ref x0), .val (.ref x1), .unset] [(.ref x1)])) rfl rfl (hb hby d5_15)
  obtain ⟨T3, X3, e3, st3⟩ := getS2 X2 hx hZ hown (host := "") (Or.inl (hw _ (List.mem_of_getElem? (i := 33) rfl))) Via.refl e2 (own_Sta_old S_CS O0) (g := (mkF m 19 #[.val (.ref x0), .val (.ref x1), .val (.ref x1)] [])) rfl (hb hby d5_19)
  obtain ⟨T4, X4, e4, st4⟩ := getF X3 hx hZ hown (host := "") (Or.inl (hw _ (List.mem_of_getElem? (i := 21) rfl))) Via.refl e3 F_coder_x0 (g := (mkF m 26 #[.val (.ref x0), .val (.ref x1), .val (.ref x1)] [(.ref x0)])) rfl rfl (hb hby d5_26)
  obtain ⟨T5, X5, e5, st5⟩ := getF X4 hx hZ hown (host := "") (Or.inl (hw _ (List.mem_of_getElem? (i := 21) rfl))) Via.refl e4 F_coder_x1 (g := (mkF m 30 #[.val (.ref x0), .val (.ref x1), .val (.ref x1)] [(.ref x1), (.int (0 : Int32))])) rfl rfl (hb hby d5_30)
  obtain ⟨T6, X6, e6, st6⟩ := getF X5 hx hZ hown (host := "") (Or.inl (hw _ (List.mem_of_getElem? (i := 20) rfl))) Via.refl e5 F_value_x0 (g := (mkF m 37 #[.val (.ref x0), .val (.ref x1), .val (.ref x1)] [(.ref x0)])) rfl rfl (hb hby d5_37)
  obtain ⟨T7, X7, e7, st7⟩ := getF X6 hx hZ hown (host := "") (Or.inl (hw _ (List.mem_of_getElem? (i := 20) rfl))) Via.refl e6 F_value_x1 (g := (mkF m 41 #[.val (.ref x0), .val (.ref x1), .val (.ref x1)] [(.ref x1), (.ref va)])) rfl rfl (hb hby d5_41)
  obtain ⟨_, _, ⟨T8, L8, k8, n8⟩, -, X8, ⟨Lc8, hQ8, l8, y8, z8⟩, st8⟩ := Jvm.LawKit.callS X7 hx (y := (⟨"java/lang/StringLatin1", "equals", "([B[B)Z"⟩ : MethodName)) hown (mvT hZ (hw _ (List.mem_of_getElem? (i := 34) rfl))) (mvT hZ (hw _ (List.mem_of_getElem? (i := 35) rfl))) (mvT hZ (hw _ (List.mem_of_getElem? (i := 36) rfl))) (mvT hZ (hw _ (List.mem_of_getElem? (i := 37) rfl))) (by decide) (backOf (W := 0) (rmle_0 l Z a0 hw [] va vb kv kb  h0 n0 Z0 V_va V_vb ) hZ (hw _ (List.mem_of_getElem? (i := 37) rfl)) (hw _ (List.mem_of_getElem? (i := 36) rfl)) (by decide) (by decide)) (g := (mkF m 44 #[.val (.ref x0), .val (.ref x1), .val (.ref x1)] [(.ref vb), (.ref va)])) rfl (by rw [hml]; rfl) (argsL := [(.ref va), (.ref vb)]) (rest := []) (lenOf pd___B_B_Z rfl) rfl (by show 2 * 0 + _ ≤ _; exact Nat.le_of_eq rfl) (hb hby d5_44) (fun _ _ => ⟨rfl, e7, (by decide : 0 + 0 ≤ _), (by decide : 0 + 0 ≤ _)⟩)
  dsimp only [Pt.U, Pt.locs, Pt.cells, Pt.slots] at X8 l8 y8 z8 st8 hQ8
  subst l8 y8 z8
  obtain ⟨rfl, N8q, e8⟩ := hQ8
  have N8 := Fr.app N0 N8q
  obtain ⟨fs, hr, hrun, hended, hW, hsame⟩ := X8.leave (v := some (.int (0 : Int32))) (fun h => by rw [Bd.returns] at h; cases h)
  refine ⟨_, _, pre0 _ ?_, hrun, hended, _, _, rfl, ?_, ⟨_, rfl⟩, hW, hsame.mono (by decide) (by decide)⟩
  · show Steps p.tables e below (s₁.setTop (mkF m 0 #[.val (.ref x0), .val (.ref x1), .unset] [])) _
    refine XS.aloadN X0.here hx rfl (hb hby d5_0) rfl rfl ?_
    show Steps p.tables e below (s₁.setTop (mkF m 1 #[.val (.ref x0), .val (.ref x1), .unset] [(.ref x0)])) _
    refine XS.aloadN X0.here hx rfl (hb hby d5_1) rfl rfl ?_
    show Steps p.tables e below (s₁.setTop (mkF m 2 #[.val (.ref x0), .val (.ref x1), .unset] [(.ref x1), (.ref x0)])) _
    refine Jvm.RoadKit.acmp (g := (mkF m 2 #[.val (.ref x0), .val (.ref x1), .unset] [(.ref x1), (.ref x0)])) X0 hx rfl rfl rfl (pc0 := 2) (pc' := 7) (same := false) rfl (hb hby d5_2) rfl (decide_eq_false fun q => hne (Value.ref.inj q)) (by decide) (by decide) ?_
    show Steps p.tables e below (s₁.setTop (mkF m 7 #[.val (.ref x0), .val (.ref x1), .unset] [])) _
    refine XS.aloadN X0.here hx rfl (hb hby d5_7) rfl rfl ?_
    show Steps p.tables e below (s₁.setTop (mkF m 8 #[.val (.ref x0), .val (.ref x1), .unset] [(.ref x1)])) _
    refine st1 _ ?_
    show Steps p.tables e below (T1.setTop (mkF m 11 #[.val (.ref x0), .val (.ref x1), .unset] [(.int (1 : Int32))])) _
    refine XS.ifNo X1.here hx rfl (hb hby d5_11) rfl ((if0 _ _).trans (feq (by decide : ¬ ((1 : Int32) = (0 : Int32)))).1) ?_
    show Steps p.tables e below (T1.setTop (mkF m 14 #[.val (.ref x0), .val (.ref x1), .unset] [])) _
    refine XS.aloadN X1.here hx rfl (hb hby d5_14) rfl rfl ?_
    show Steps p.tables e below (T1.setTop (mkF m 15 #[.val (.ref x0), .val (.ref x1), .unset] [(.ref x1)])) _
    refine st2 _ ?_
    show Steps p.tables e below (T2.setTop (mkF m 18 #[.val (.ref x0), .val (.ref x1), .unset] [(.ref x1)])) _
    refine XS.astoreN X2.here hx rfl (hb hby d5_18) rfl rfl (l' := #[.val (.ref x0), .val (.ref x1), .val (.ref x1)]) rfl ?_
    show Steps p.tables e below (T2.setTop (mkF m 19 #[.val (.ref x0), .val (.ref x1), .val (.ref x1)] [])) _
    refine st3 _ ?_
    show Steps p.tables e below (T3.setTop (mkF m 22 #[.val (.ref x0), .val (.ref x1), .val (.ref x1)] [(.int cs)])) _
    refine XS.ifNo X3.here hx rfl (hb hby d5_22) rfl ((if0 _ _).trans (feq hcs).1) ?_
    show Steps p.tables e below (T3.setTop (mkF m 25 #[.val (.ref x0), .val (.ref x1), .val (.ref x1)] [])) _
    refine XS.aloadN X3.here hx rfl (hb hby d5_25) rfl rfl ?_
    show Steps p.tables e below (T3.setTop (mkF m 26 #[.val (.ref x0), .val (.ref x1), .val (.ref x1)] [(.ref x0)])) _
    refine st4 _ ?_
    show Steps p.tables e below (T4.setTop (mkF m 29 #[.val (.ref x0), .val (.ref x1), .val (.ref x1)] [(.int (0 : Int32))])) _
    refine XS.aloadN X4.here hx rfl (hb hby d5_29) rfl rfl ?_
    show Steps p.tables e below (T4.setTop (mkF m 30 #[.val (.ref x0), .val (.ref x1), .val (.ref x1)] [(.ref x1), (.int (0 : Int32))])) _
    refine st5 _ ?_
    show Steps p.tables e below (T5.setTop (mkF m 33 #[.val (.ref x0), .val (.ref x1), .val (.ref x1)] [(.int (0 : Int32)), (.int (0 : Int32))])) _
    refine XS.icmpNo X5.here hx rfl (hb hby d5_33) rfl (teq (by decide : (0 : Int32) = (0 : Int32))).2 ?_
    show Steps p.tables e below (T5.setTop (mkF m 36 #[.val (.ref x0), .val (.ref x1), .val (.ref x1)] [])) _
    refine XS.aloadN X5.here hx rfl (hb hby d5_36) rfl rfl ?_
    show Steps p.tables e below (T5.setTop (mkF m 37 #[.val (.ref x0), .val (.ref x1), .val (.ref x1)] [(.ref x0)])) _
    refine st6 _ ?_
    show Steps p.tables e below (T6.setTop (mkF m 40 #[.val (.ref x0), .val (.ref x1), .val (.ref x1)] [(.ref va)])) _
    refine XS.aloadN X6.here hx rfl (hb hby d5_40) rfl rfl ?_
    show Steps p.tables e below (T6.setTop (mkF m 41 #[.val (.ref x0), .val (.ref x1), .val (.ref x1)] [(.ref x1), (.ref va)])) _
    refine st7 _ ?_
    show Steps p.tables e below (T7.setTop (mkF m 44 #[.val (.ref x0), .val (.ref x1), .val (.ref x1)] [(.ref vb), (.ref va)])) _
    refine st8 _ ?_
    show Steps p.tables e below (T8.setTop (mkF m 47 #[.val (.ref x0), .val (.ref x1), .val (.ref x1)] [(.int (0 : Int32))])) _
    refine XS.ifYes X8.here hx rfl (pc0 := 47) (pc' := 54) rfl (hb hby d5_47) rfl ((if0 _ _).trans (teq (by decide : (0 : Int32) = (0 : Int32))).1) (by decide) (by decide) ?_
    show Steps p.tables e below (T8.setTop (mkF m 54 #[.val (.ref x0), .val (.ref x1), .val (.ref x1)] [])) _
    refine XS.iconst X8.here hx rfl (hb hby d5_54) ?_
    show Steps p.tables e below (T8.setTop (mkF m 55 #[.val (.ref x0), .val (.ref x1), .val (.ref x1)] [(.int (0 : Int32))])) _
    exact retN X8 hx (t := .boolean) Bd.returns (by simp) (hb hby d5_55) hr
  · exact ⟨rfl, N8, e8⟩
set_option maxRecDepth 65536 in
set_option maxHeartbeats 40000000 in
theorem rmle_2 (l : Launch) (Z : State) (a0 : Array Value) (hw : ∀ d ∈ tables_1, d.before a0 Z = true) (ws : List Jvm.Cond) (x0 : Addr) (x1 : Addr) (k0 k1 : ClassId) (u0 : Int32) (u1 : Int32) (h0 : Heap) (n0 : Nat) (Z0 : n0 ≤ h0.size) (V_x0 : Arv Z h0 x0 k0 .byte (2 : Int32) [(.int u0), (.int u1)] (.int (0 : Int32))) (V_x1 : Arv Z h0 x1 k1 .byte (1 : Int32) [(.int (45 : Int32))] (.int (0 : Int32)))  :
    MetFree l (⟨"java/lang/StringLatin1", "equals", "([B[B)Z"⟩ : MethodName) (head1 (Jvm.Cond.code (⟨"java/lang/StringLatin1", "equals", "([B[B)Z"⟩ : MethodName) jdk_43_method_13_code 3 (some .boolean) :: ws) ({ frames := 0, cells := 0, slots := 0, locals := 0 } : Room)) (fun a U => a = #[(.ref x0), (.ref x1)] ∧ Z.Warmed39 U.vm ∧ U.heap = h0) (fun _ _ _ _ _ => True) (fun _ U o U' => ∃ v L, o = .returned v ∧ (QP (some (.int (0 : Int32))) h0 n0 v U'.heap L) ∧ FrameEnd U o U' L ({ frames := 0, cells := 0, slots := 0, locals := 0 } : Room).cells ({ frames := 0, cells := 0, slots := 0, locals := 0 } : Room).slots) := by
  refine MetFree.of_bodySF (plainFor_of_name pn_6) hisR ?_
  intro p e s m args below meth c s₁ Bd hml0 hP hK
  obtain ⟨rfl, hZ, hh⟩ := hP
  have hx := Bd.exec
  have hby := Bd.bytes
  have hml : c.maxLocals = 3 := hml0
  have hown : s.vm.findClass "java/lang/StringLatin1" = some m.cls := findClass_of_methodNamed Bd.named
  have hnm := (name_of_methodNamed Bd.named Bd.method).1
  have X0 : Stand p l e ({ frames := 0, cells := 0, slots := 0, locals := 0 } : Room) s m #[(.ref x0), (.ref x1)] below meth c s₁ [] 0 0 := Stand.of_body Bd
  have e0 : s₁.heap = h0 := by rw [← hh, Bd.state]; rfl
  have N0 := Fr.nil n0
  have pre0 : ∀ t, Steps p.tables e below (s₁.setTop (mkF m 0 #[.val (.ref x0), .val (.ref x1), .unset] [])) t → Steps p.tables e below (s₁.setTop (entryFrame m #[(.ref x0), (.ref x1)] 3)) t := fun t k => castTop (ef_6 m x0 x1) k
  obtain ⟨fs, hr, hrun, hended, hW, hsame⟩ := X0.leave (v := some (.int (0 : Int32))) (fun h => by rw [Bd.returns] at h; cases h)
  refine ⟨_, _, pre0 _ ?_, hrun, hended, _, _, rfl, ?_, ⟨_, rfl⟩, hW, hsame.mono (by decide) (by decide)⟩
  · show Steps p.tables e below (s₁.setTop (mkF m 0 #[.val (.ref x0), .val (.ref x1), .unset] [])) _
    refine XS.aloadN X0.here hx rfl (hb hby d6_0) rfl rfl ?_
    show Steps p.tables e below (s₁.setTop (mkF m 1 #[.val (.ref x0), .val (.ref x1), .unset] [(.ref x0)])) _
    refine own_len X0 hx hZ e0 V_x0 (g := (mkF m 1 #[.val (.ref x0), .val (.ref x1), .unset] [(.ref x0)])) rfl rfl (hb hby d6_1) ?_
    show Steps p.tables e below (s₁.setTop (mkF m 2 #[.val (.ref x0), .val (.ref x1), .unset] [(.int (2 : Int32))])) _
    refine XS.aloadN X0.here hx rfl (hb hby d6_2) rfl rfl ?_
    show Steps p.tables e below (s₁.setTop (mkF m 3 #[.val (.ref x0), .val (.ref x1), .unset] [(.ref x1), (.int (2 : Int32))])) _
    refine own_len X0 hx hZ e0 V_x1 (g := (mkF m 3 #[.val (.ref x0), .val (.ref x1), .unset] [(.ref x1), (.int (2 : Int32))])) rfl rfl (hb hby d6_3) ?_
    show Steps p.tables e below (s₁.setTop (mkF m 4 #[.val (.ref x0), .val (.ref x1), .unset] [(.int (1 : Int32)), (.int (2 : Int32))])) _
    refine XS.icmpYes X0.here hx rfl (pc0 := 4) (pc' := 34) rfl (hb hby d6_4) rfl (feq (by decide : ¬ ((2 : Int32) = (1 : Int32)))).2 (by decide) (by decide) ?_
    show Steps p.tables e below (s₁.setTop (mkF m 34 #[.val (.ref x0), .val (.ref x1), .unset] [])) _
    refine XS.iconst X0.here hx rfl (hb hby d6_34) ?_
    show Steps p.tables e below (s₁.setTop (mkF m 35 #[.val (.ref x0), .val (.ref x1), .unset] [(.int (0 : Int32))])) _
    exact retN X0 hx (t := .boolean) Bd.returns (by simp) (hb hby d6_35) hr
  · exact ⟨rfl, N0, e0⟩
set_option maxRecDepth 65536 in
set_option maxHeartbeats 40000000 in
theorem rmeq_2 (l : Launch) (Z : State) (a0 : Array Value) (hw : ∀ d ∈ tables_1, d.before a0 Z = true) (ws : List Jvm.Cond) (x0 : Addr) (x1 : Addr) (va vb : Addr) (kv kb : ClassId) (cs : Int32) (u0 : Int32) (u1 : Int32) (h0 : Heap) (n0 : Nat) (Z0 : n0 ≤ h0.size) (E_x0 : Exa Z h0 x0 "java/lang/String") (F_value_x0 : Fld Z h0 x0 "java/lang/String" "value" "[B" (.ref va)) (F_coder_x0 : Fld Z h0 x0 "java/lang/String" "coder" "B" (.int (0 : Int32))) (V_va : Arv Z h0 va kv .byte (2 : Int32) [(.int u0), (.int u1)] (.int (0 : Int32))) (E_x1 : Exa Z h0 x1 "java/lang/String") (F_value_x1 : Fld Z h0 x1 "java/lang/String" "value" "[B" (.ref vb)) (F_coder_x1 : Fld Z h0 x1 "java/lang/String" "coder" "B" (.int (0 : Int32))) (V_vb : Arv Z h0 vb kb .byte (1 : Int32) [(.int (45 : Int32))] (.int (0 : Int32))) (O0 : Old Z n0 h0) (S_CS : Sta Z Z.heap "java/lang/String" "COMPACT_STRINGS" "Z" (.int cs)) (hcs : ¬ (cs = (0 : Int32))) (hne : ¬ (x0 = x1))  :
    MetFree l (⟨"java/lang/String", "equals", "(Ljava/lang/Object;)Z"⟩ : MethodName) (head1 (Jvm.Cond.code (⟨"java/lang/String", "equals", "(Ljava/lang/Object;)Z"⟩ : MethodName) jdk_42_method_66_code 3 (some .boolean) :: ws) ({ frames := 1, cells := 0, slots := 0, locals := 14 } : Room)) (fun a U => a = #[(.ref x0), (.ref x1)] ∧ Z.Warmed39 U.vm ∧ U.heap = h0) (fun _ _ _ _ _ => True) (fun _ U o U' => ∃ v L, o = .returned v ∧ (QP (some (.int (0 : Int32))) h0 n0 v U'.heap L) ∧ FrameEnd U o U' L ({ frames := 1, cells := 0, slots := 0, locals := 14 } : Room).cells ({ frames := 1, cells := 0, slots := 0, locals := 14 } : Room).slots) := by
  refine MetFree.of_bodySF (plainFor_of_name pn_5) hisR ?_
  intro p e s m args below meth c s₁ Bd hml0 hP hK
  obtain ⟨rfl, hZ, hh⟩ := hP
  have hx := Bd.exec
  have hby := Bd.bytes
  have hml : c.maxLocals = 3 := hml0
  have hown : s.vm.findClass "java/lang/String" = some m.cls := findClass_of_methodNamed Bd.named
  have hnm := (name_of_methodNamed Bd.named Bd.method).1
  have X0 : Stand p l e ({ frames := 1, cells := 0, slots := 0, locals := 14 } : Room) s m #[(.ref x0), (.ref x1)] below meth c s₁ [] 0 0 := Stand.of_body Bd
  have e0 : s₁.heap = h0 := by rw [← hh, Bd.state]; rfl
  have N0 := Fr.nil n0
  have pre0 : ∀ t, Steps p.tables e below (s₁.setTop (mkF m 0 #[.val (.ref x0), .val (.ref x1), .unset] [])) t → Steps p.tables e below (s₁.setTop (entryFrame m #[(.ref x0), (.ref x1)] 3)) t := fun t k => castTop (ef_5 m x0 x1) k
  obtain ⟨T1, X1, e1, st1⟩ := instY X0 hx hZ hown (hw _ (List.mem_of_getElem? (i := 32) rfl)) e0 (Ins.self E_x1) (g := (mkF m 8 #[.val (.ref x0), .val (.ref x1), .unset] [(.ref x1)])) rfl rfl (hb hby d5_8)
  obtain ⟨T2, X2, e2, st2⟩ := castY X1 hx hZ hown (hw _ (List.mem_of_getElem? (i := 32) rfl)) e1 (Ins.self E_x1) (g := (mkF m 15 #[.val (.ref x0), .val (.ref x1), .unset] [(.ref x1)])) rfl rfl (hb hby d5_15)
  obtain ⟨T3, X3, e3, st3⟩ := getS2 X2 hx hZ hown (host := "") (Or.inl (hw _ (List.mem_of_getElem? (i := 33) rfl))) Via.refl e2 (own_Sta_old S_CS O0) (g := (mkF m 19 #[.val (.ref x0), .val (.ref x1), .val (.ref x1)] [])) rfl (hb hby d5_19)
  obtain ⟨T4, X4, e4, st4⟩ := getF X3 hx hZ hown (host := "") (Or.inl (hw _ (List.mem_of_getElem? (i := 21) rfl))) Via.refl e3 F_coder_x0 (g := (mkF m 26 #[.val (.ref x0), .val (.ref x1), .val (.ref x1)] [(.ref x0)])) rfl rfl (hb hby d5_26)
  obtain ⟨T5, X5, e5, st5⟩ := getF X4 hx hZ hown (host := "") (Or.inl (hw _ (List.mem_of_getElem? (i := 21) rfl))) Via.refl e4 F_coder_x1 (g := (mkF m 30 #[.val (.ref x0), .val (.ref x1), .val (.ref x1)] [(.ref x1), (.int (0 : Int32))])) rfl rfl (hb hby d5_30)
  obtain ⟨T6, X6, e6, st6⟩ := getF X5 hx hZ hown (host := "") (Or.inl (hw _ (List.mem_of_getElem? (i := 20) rfl))) Via.refl e5 F_value_x0 (g := (mkF m 37 #[.val (.ref x0), .val (.ref x1), .val (.ref x1)] [(.ref x0)])) rfl rfl (hb hby d5_37)
  obtain ⟨T7, X7, e7, st7⟩ := getF X6 hx hZ hown (host := "") (Or.inl (hw _ (List.mem_of_getElem? (i := 20) rfl))) Via.refl e6 F_value_x1 (g := (mkF m 41 #[.val (.ref x0), .val (.ref x1), .val (.ref x1)] [(.ref x1), (.ref va)])) rfl rfl (hb hby d5_41)
  obtain ⟨_, _, ⟨T8, L8, k8, n8⟩, -, X8, ⟨Lc8, hQ8, l8, y8, z8⟩, st8⟩ := Jvm.LawKit.callS X7 hx (y := (⟨"java/lang/StringLatin1", "equals", "([B[B)Z"⟩ : MethodName)) hown (mvT hZ (hw _ (List.mem_of_getElem? (i := 34) rfl))) (mvT hZ (hw _ (List.mem_of_getElem? (i := 35) rfl))) (mvT hZ (hw _ (List.mem_of_getElem? (i := 36) rfl))) (mvT hZ (hw _ (List.mem_of_getElem? (i := 37) rfl))) (by decide) (backOf (W := 0) (rmle_2 l Z a0 hw [] va vb kv kb u0 u1 h0 n0 Z0 V_va V_vb ) hZ (hw _ (List.mem_of_getElem? (i := 37) rfl)) (hw _ (List.mem_of_getElem? (i := 36) rfl)) (by decide) (by decide)) (g := (mkF m 44 #[.val (.ref x0), .val (.ref x1), .val (.ref x1)] [(.ref vb), (.ref va)])) rfl (by rw [hml]; rfl) (argsL := [(.ref va), (.ref vb)]) (rest := []) (lenOf pd___B_B_Z rfl) rfl (by show 2 * 0 + _ ≤ _; exact Nat.le_of_eq rfl) (hb hby d5_44) (fun _ _ => ⟨rfl, e7, (by decide : 0 + 0 ≤ _), (by decide : 0 + 0 ≤ _)⟩)
  dsimp only [Pt.U, Pt.locs, Pt.cells, Pt.slots] at X8 l8 y8 z8 st8 hQ8
  subst l8 y8 z8
  obtain ⟨rfl, N8q, e8⟩ := hQ8
  have N8 := Fr.app N0 N8q
  obtain ⟨fs, hr, hrun, hended, hW, hsame⟩ := X8.leave (v := some (.int (0 : Int32))) (fun h => by rw [Bd.returns] at h; cases h)
  refine ⟨_, _, pre0 _ ?_, hrun, hended, _, _, rfl, ?_, ⟨_, rfl⟩, hW, hsame.mono (by decide) (by decide)⟩
  · show Steps p.tables e below (s₁.setTop (mkF m 0 #[.val (.ref x0), .val (.ref x1), .unset] [])) _
    refine XS.aloadN X0.here hx rfl (hb hby d5_0) rfl rfl ?_
    show Steps p.tables e below (s₁.setTop (mkF m 1 #[.val (.ref x0), .val (.ref x1), .unset] [(.ref x0)])) _
    refine XS.aloadN X0.here hx rfl (hb hby d5_1) rfl rfl ?_
    show Steps p.tables e below (s₁.setTop (mkF m 2 #[.val (.ref x0), .val (.ref x1), .unset] [(.ref x1), (.ref x0)])) _
    refine Jvm.RoadKit.acmp (g := (mkF m 2 #[.val (.ref x0), .val (.ref x1), .unset] [(.ref x1), (.ref x0)])) X0 hx rfl rfl rfl (pc0 := 2) (pc' := 7) (same := false) rfl (hb hby d5_2) rfl (decide_eq_false fun q => hne (Value.ref.inj q)) (by decide) (by decide) ?_
    show Steps p.tables e below (s₁.setTop (mkF m 7 #[.val (.ref x0), .val (.ref x1), .unset] [])) _
    refine XS.aloadN X0.here hx rfl (hb hby d5_7) rfl rfl ?_
    show Steps p.tables e below (s₁.setTop (mkF m 8 #[.val (.ref x0), .val (.ref x1), .unset] [(.ref x1)])) _
    refine st1 _ ?_
    show Steps p.tables e below (T1.setTop (mkF m 11 #[.val (.ref x0), .val (.ref x1), .unset] [(.int (1 : Int32))])) _
    refine XS.ifNo X1.here hx rfl (hb hby d5_11) rfl ((if0 _ _).trans (feq (by decide : ¬ ((1 : Int32) = (0 : Int32)))).1) ?_
    show Steps p.tables e below (T1.setTop (mkF m 14 #[.val (.ref x0), .val (.ref x1), .unset] [])) _
    refine XS.aloadN X1.here hx rfl (hb hby d5_14) rfl rfl ?_
    show Steps p.tables e below (T1.setTop (mkF m 15 #[.val (.ref x0), .val (.ref x1), .unset] [(.ref x1)])) _
    refine st2 _ ?_
    show Steps p.tables e below (T2.setTop (mkF m 18 #[.val (.ref x0), .val (.ref x1), .unset] [(.ref x1)])) _
    refine XS.astoreN X2.here hx rfl (hb hby d5_18) rfl rfl (l' := #[.val (.ref x0), .val (.ref x1), .val (.ref x1)]) rfl ?_
    show Steps p.tables e below (T2.setTop (mkF m 19 #[.val (.ref x0), .val (.ref x1), .val (.ref x1)] [])) _
    refine st3 _ ?_
    show Steps p.tables e below (T3.setTop (mkF m 22 #[.val (.ref x0), .val (.ref x1), .val (.ref x1)] [(.int cs)])) _
    refine XS.ifNo X3.here hx rfl (hb hby d5_22) rfl ((if0 _ _).trans (feq hcs).1) ?_
    show Steps p.tables e below (T3.setTop (mkF m 25 #[.val (.ref x0), .val (.ref x1), .val (.ref x1)] [])) _
    refine XS.aloadN X3.here hx rfl (hb hby d5_25) rfl rfl ?_
    show Steps p.tables e below (T3.setTop (mkF m 26 #[.val (.ref x0), .val (.ref x1), .val (.ref x1)] [(.ref x0)])) _
    refine st4 _ ?_
    show Steps p.tables e below (T4.setTop (mkF m 29 #[.val (.ref x0), .val (.ref x1), .val (.ref x1)] [(.int (0 : Int32))])) _
    refine XS.aloadN X4.here hx rfl (hb hby d5_29) rfl rfl ?_
    show Steps p.tables e below (T4.setTop (mkF m 30 #[.val (.ref x0), .val (.ref x1), .val (.ref x1)] [(.ref x1), (.int (0 : Int32))])) _
    refine st5 _ ?_
    show Steps p.tables e below (T5.setTop (mkF m 33 #[.val (.ref x0), .val (.ref x1), .val (.ref x1)] [(.int (0 : Int32)), (.int (0 : Int32))])) _
    refine XS.icmpNo X5.here hx rfl (hb hby d5_33) rfl (teq (by decide : (0 : Int32) = (0 : Int32))).2 ?_
    show Steps p.tables e below (T5.setTop (mkF m 36 #[.val (.ref x0), .val (.ref x1), .val (.ref x1)] [])) _
    refine XS.aloadN X5.here hx rfl (hb hby d5_36) rfl rfl ?_
    show Steps p.tables e below (T5.setTop (mkF m 37 #[.val (.ref x0), .val (.ref x1), .val (.ref x1)] [(.ref x0)])) _
    refine st6 _ ?_
    show Steps p.tables e below (T6.setTop (mkF m 40 #[.val (.ref x0), .val (.ref x1), .val (.ref x1)] [(.ref va)])) _
    refine XS.aloadN X6.here hx rfl (hb hby d5_40) rfl rfl ?_
    show Steps p.tables e below (T6.setTop (mkF m 41 #[.val (.ref x0), .val (.ref x1), .val (.ref x1)] [(.ref x1), (.ref va)])) _
    refine st7 _ ?_
    show Steps p.tables e below (T7.setTop (mkF m 44 #[.val (.ref x0), .val (.ref x1), .val (.ref x1)] [(.ref vb), (.ref va)])) _
    refine st8 _ ?_
    show Steps p.tables e below (T8.setTop (mkF m 47 #[.val (.ref x0), .val (.ref x1), .val (.ref x1)] [(.int (0 : Int32))])) _
    refine XS.ifYes X8.here hx rfl (pc0 := 47) (pc' := 54) rfl (hb hby d5_47) rfl ((if0 _ _).trans (teq (by decide : (0 : Int32) = (0 : Int32))).1) (by decide) (by decide) ?_
    show Steps p.tables e below (T8.setTop (mkF m 54 #[.val (.ref x0), .val (.ref x1), .val (.ref x1)] [])) _
    refine XS.iconst X8.here hx rfl (hb hby d5_54) ?_
    show Steps p.tables e below (T8.setTop (mkF m 55 #[.val (.ref x0), .val (.ref x1), .val (.ref x1)] [(.int (0 : Int32))])) _
    exact retN X8 hx (t := .boolean) Bd.returns (by simp) (hb hby d5_55) hr
  · exact ⟨rfl, N8, e8⟩
set_option maxRecDepth 65536 in
set_option maxHeartbeats 40000000 in
theorem rmle_3 (l : Launch) (Z : State) (a0 : Array Value) (hw : ∀ d ∈ tables_1, d.before a0 Z = true) (ws : List Jvm.Cond) (x0 : Addr) (x1 : Addr) (k0 k1 : ClassId) (u0 : Int32) (u1 : Int32) (u2 : Int32) (h0 : Heap) (n0 : Nat) (Z0 : n0 ≤ h0.size) (V_x0 : Arv Z h0 x0 k0 .byte (3 : Int32) [(.int u0), (.int u1), (.int u2)] (.int (0 : Int32))) (V_x1 : Arv Z h0 x1 k1 .byte (1 : Int32) [(.int (45 : Int32))] (.int (0 : Int32)))  :
    MetFree l (⟨"java/lang/StringLatin1", "equals", "([B[B)Z"⟩ : MethodName) (head1 (Jvm.Cond.code (⟨"java/lang/StringLatin1", "equals", "([B[B)Z"⟩ : MethodName) jdk_43_method_13_code 3 (some .boolean) :: ws) ({ frames := 0, cells := 0, slots := 0, locals := 0 } : Room)) (fun a U => a = #[(.ref x0), (.ref x1)] ∧ Z.Warmed39 U.vm ∧ U.heap = h0) (fun _ _ _ _ _ => True) (fun _ U o U' => ∃ v L, o = .returned v ∧ (QP (some (.int (0 : Int32))) h0 n0 v U'.heap L) ∧ FrameEnd U o U' L ({ frames := 0, cells := 0, slots := 0, locals := 0 } : Room).cells ({ frames := 0, cells := 0, slots := 0, locals := 0 } : Room).slots) := by
  refine MetFree.of_bodySF (plainFor_of_name pn_6) hisR ?_
  intro p e s m args below meth c s₁ Bd hml0 hP hK
  obtain ⟨rfl, hZ, hh⟩ := hP
  have hx := Bd.exec
  have hby := Bd.bytes
  have hml : c.maxLocals = 3 := hml0
  have hown : s.vm.findClass "java/lang/StringLatin1" = some m.cls := findClass_of_methodNamed Bd.named
  have hnm := (name_of_methodNamed Bd.named Bd.method).1
  have X0 : Stand p l e ({ frames := 0, cells := 0, slots := 0, locals := 0 } : Room) s m #[(.ref x0), (.ref x1)] below meth c s₁ [] 0 0 := Stand.of_body Bd
  have e0 : s₁.heap = h0 := by rw [← hh, Bd.state]; rfl
  have N0 := Fr.nil n0
  have pre0 : ∀ t, Steps p.tables e below (s₁.setTop (mkF m 0 #[.val (.ref x0), .val (.ref x1), .unset] [])) t → Steps p.tables e below (s₁.setTop (entryFrame m #[(.ref x0), (.ref x1)] 3)) t := fun t k => castTop (ef_6 m x0 x1) k
  obtain ⟨fs, hr, hrun, hended, hW, hsame⟩ := X0.leave (v := some (.int (0 : Int32))) (fun h => by rw [Bd.returns] at h; cases h)
  refine ⟨_, _, pre0 _ ?_, hrun, hended, _, _, rfl, ?_, ⟨_, rfl⟩, hW, hsame.mono (by decide) (by decide)⟩
  · show Steps p.tables e below (s₁.setTop (mkF m 0 #[.val (.ref x0), .val (.ref x1), .unset] [])) _
    refine XS.aloadN X0.here hx rfl (hb hby d6_0) rfl rfl ?_
    show Steps p.tables e below (s₁.setTop (mkF m 1 #[.val (.ref x0), .val (.ref x1), .unset] [(.ref x0)])) _
    refine own_len X0 hx hZ e0 V_x0 (g := (mkF m 1 #[.val (.ref x0), .val (.ref x1), .unset] [(.ref x0)])) rfl rfl (hb hby d6_1) ?_
    show Steps p.tables e below (s₁.setTop (mkF m 2 #[.val (.ref x0), .val (.ref x1), .unset] [(.int (3 : Int32))])) _
    refine XS.aloadN X0.here hx rfl (hb hby d6_2) rfl rfl ?_
    show Steps p.tables e below (s₁.setTop (mkF m 3 #[.val (.ref x0), .val (.ref x1), .unset] [(.ref x1), (.int (3 : Int32))])) _
    refine own_len X0 hx hZ e0 V_x1 (g := (mkF m 3 #[.val (.ref x0), .val (.ref x1), .unset] [(.ref x1), (.int (3 : Int32))])) rfl rfl (hb hby d6_3) ?_
    show Steps p.tables e below (s₁.setTop (mkF m 4 #[.val (.ref x0), .val (.ref x1), .unset] [(.int (1 : Int32)), (.int (3 : Int32))])) _
    refine XS.icmpYes X0.here hx rfl (pc0 := 4) (pc' := 34) rfl (hb hby d6_4) rfl (feq (by decide : ¬ ((3 : Int32) = (1 : Int32)))).2 (by decide) (by decide) ?_
    show Steps p.tables e below (s₁.setTop (mkF m 34 #[.val (.ref x0), .val (.ref x1), .unset] [])) _
    refine XS.iconst X0.here hx rfl (hb hby d6_34) ?_
    show Steps p.tables e below (s₁.setTop (mkF m 35 #[.val (.ref x0), .val (.ref x1), .unset] [(.int (0 : Int32))])) _
    exact retN X0 hx (t := .boolean) Bd.returns (by simp) (hb hby d6_35) hr
  · exact ⟨rfl, N0, e0⟩
set_option maxRecDepth 65536 in
set_option maxHeartbeats 40000000 in
theorem rmeq_3 (l : Launch) (Z : State) (a0 : Array Value) (hw : ∀ d ∈ tables_1, d.before a0 Z = true) (ws : List Jvm.Cond) (x0 : Addr) (x1 : Addr) (va vb : Addr) (kv kb : ClassId) (cs : Int32) (u0 : Int32) (u1 : Int32) (u2 : Int32) (h0 : Heap) (n0 : Nat) (Z0 : n0 ≤ h0.size) (E_x0 : Exa Z h0 x0 "java/lang/String") (F_value_x0 : Fld Z h0 x0 "java/lang/String" "value" "[B" (.ref va)) (F_coder_x0 : Fld Z h0 x0 "java/lang/String" "coder" "B" (.int (0 : Int32))) (V_va : Arv Z h0 va kv .byte (3 : Int32) [(.int u0), (.int u1), (.int u2)] (.int (0 : Int32))) (E_x1 : Exa Z h0 x1 "java/lang/String") (F_value_x1 : Fld Z h0 x1 "java/lang/String" "value" "[B" (.ref vb)) (F_coder_x1 : Fld Z h0 x1 "java/lang/String" "coder" "B" (.int (0 : Int32))) (V_vb : Arv Z h0 vb kb .byte (1 : Int32) [(.int (45 : Int32))] (.int (0 : Int32))) (O0 : Old Z n0 h0) (S_CS : Sta Z Z.heap "java/lang/String" "COMPACT_STRINGS" "Z" (.int cs)) (hcs : ¬ (cs = (0 : Int32))) (hne : ¬ (x0 = x1))  :
    MetFree l (⟨"java/lang/String", "equals", "(Ljava/lang/Object;)Z"⟩ : MethodName) (head1 (Jvm.Cond.code (⟨"java/lang/String", "equals", "(Ljava/lang/Object;)Z"⟩ : MethodName) jdk_42_method_66_code 3 (some .boolean) :: ws) ({ frames := 1, cells := 0, slots := 0, locals := 14 } : Room)) (fun a U => a = #[(.ref x0), (.ref x1)] ∧ Z.Warmed39 U.vm ∧ U.heap = h0) (fun _ _ _ _ _ => True) (fun _ U o U' => ∃ v L, o = .returned v ∧ (QP (some (.int (0 : Int32))) h0 n0 v U'.heap L) ∧ FrameEnd U o U' L ({ frames := 1, cells := 0, slots := 0, locals := 14 } : Room).cells ({ frames := 1, cells := 0, slots := 0, locals := 14 } : Room).slots) := by
  refine MetFree.of_bodySF (plainFor_of_name pn_5) hisR ?_
  intro p e s m args below meth c s₁ Bd hml0 hP hK
  obtain ⟨rfl, hZ, hh⟩ := hP
  have hx := Bd.exec
  have hby := Bd.bytes
  have hml : c.maxLocals = 3 := hml0
  have hown : s.vm.findClass "java/lang/String" = some m.cls := findClass_of_methodNamed Bd.named
  have hnm := (name_of_methodNamed Bd.named Bd.method).1
  have X0 : Stand p l e ({ frames := 1, cells := 0, slots := 0, locals := 14 } : Room) s m #[(.ref x0), (.ref x1)] below meth c s₁ [] 0 0 := Stand.of_body Bd
  have e0 : s₁.heap = h0 := by rw [← hh, Bd.state]; rfl
  have N0 := Fr.nil n0
  have pre0 : ∀ t, Steps p.tables e below (s₁.setTop (mkF m 0 #[.val (.ref x0), .val (.ref x1), .unset] [])) t → Steps p.tables e below (s₁.setTop (entryFrame m #[(.ref x0), (.ref x1)] 3)) t := fun t k => castTop (ef_5 m x0 x1) k
  obtain ⟨T1, X1, e1, st1⟩ := instY X0 hx hZ hown (hw _ (List.mem_of_getElem? (i := 32) rfl)) e0 (Ins.self E_x1) (g := (mkF m 8 #[.val (.ref x0), .val (.ref x1), .unset] [(.ref x1)])) rfl rfl (hb hby d5_8)
  obtain ⟨T2, X2, e2, st2⟩ := castY X1 hx hZ hown (hw _ (List.mem_of_getElem? (i := 32) rfl)) e1 (Ins.self E_x1) (g := (mkF m 15 #[.val (.ref x0), .val (.ref x1), .unset] [(.ref x1)])) rfl rfl (hb hby d5_15)
  obtain ⟨T3, X3, e3, st3⟩ := getS2 X2 hx hZ hown (host := "") (Or.inl (hw _ (List.mem_of_getElem? (i := 33) rfl))) Via.refl e2 (own_Sta_old S_CS O0) (g := (mkF m 19 #[.val (.ref x0), .val (.ref x1), .val (.ref x1)] [])) rfl (hb hby d5_19)
  obtain ⟨T4, X4, e4, st4⟩ := getF X3 hx hZ hown (host := "") (Or.inl (hw _ (List.mem_of_getElem? (i := 21) rfl))) Via.refl e3 F_coder_x0 (g := (mkF m 26 #[.val (.ref x0), .val (.ref x1), .val (.ref x1)] [(.ref x0)])) rfl rfl (hb hby d5_26)
  obtain ⟨T5, X5, e5, st5⟩ := getF X4 hx hZ hown (host := "") (Or.inl (hw _ (List.mem_of_getElem? (i := 21) rfl))) Via.refl e4 F_coder_x1 (g := (mkF m 30 #[.val (.ref x0), .val (.ref x1), .val (.ref x1)] [(.ref x1), (.int (0 : Int32))])) rfl rfl (hb hby d5_30)
  obtain ⟨T6, X6, e6, st6⟩ := getF X5 hx hZ hown (host := "") (Or.inl (hw _ (List.mem_of_getElem? (i := 20) rfl))) Via.refl e5 F_value_x0 (g := (mkF m 37 #[.val (.ref x0), .val (.ref x1), .val (.ref x1)] [(.ref x0)])) rfl rfl (hb hby d5_37)
  obtain ⟨T7, X7, e7, st7⟩ := getF X6 hx hZ hown (host := "") (Or.inl (hw _ (List.mem_of_getElem? (i := 20) rfl))) Via.refl e6 F_value_x1 (g := (mkF m 41 #[.val (.ref x0), .val (.ref x1), .val (.ref x1)] [(.ref x1), (.ref va)])) rfl rfl (hb hby d5_41)
  obtain ⟨_, _, ⟨T8, L8, k8, n8⟩, -, X8, ⟨Lc8, hQ8, l8, y8, z8⟩, st8⟩ := Jvm.LawKit.callS X7 hx (y := (⟨"java/lang/StringLatin1", "equals", "([B[B)Z"⟩ : MethodName)) hown (mvT hZ (hw _ (List.mem_of_getElem? (i := 34) rfl))) (mvT hZ (hw _ (List.mem_of_getElem? (i := 35) rfl))) (mvT hZ (hw _ (List.mem_of_getElem? (i := 36) rfl))) (mvT hZ (hw _ (List.mem_of_getElem? (i := 37) rfl))) (by decide) (backOf (W := 0) (rmle_3 l Z a0 hw [] va vb kv kb u0 u1 u2 h0 n0 Z0 V_va V_vb ) hZ (hw _ (List.mem_of_getElem? (i := 37) rfl)) (hw _ (List.mem_of_getElem? (i := 36) rfl)) (by decide) (by decide)) (g := (mkF m 44 #[.val (.ref x0), .val (.ref x1), .val (.ref x1)] [(.ref vb), (.ref va)])) rfl (by rw [hml]; rfl) (argsL := [(.ref va), (.ref vb)]) (rest := []) (lenOf pd___B_B_Z rfl) rfl (by show 2 * 0 + _ ≤ _; exact Nat.le_of_eq rfl) (hb hby d5_44) (fun _ _ => ⟨rfl, e7, (by decide : 0 + 0 ≤ _), (by decide : 0 + 0 ≤ _)⟩)
  dsimp only [Pt.U, Pt.locs, Pt.cells, Pt.slots] at X8 l8 y8 z8 st8 hQ8
  subst l8 y8 z8
  obtain ⟨rfl, N8q, e8⟩ := hQ8
  have N8 := Fr.app N0 N8q
  obtain ⟨fs, hr, hrun, hended, hW, hsame⟩ := X8.leave (v := some (.int (0 : Int32))) (fun h => by rw [Bd.returns] at h; cases h)
  refine ⟨_, _, pre0 _ ?_, hrun, hended, _, _, rfl, ?_, ⟨_, rfl⟩, hW, hsame.mono (by decide) (by decide)⟩
  · show Steps p.tables e below (s₁.setTop (mkF m 0 #[.val (.ref x0), .val (.ref x1), .unset] [])) _
    refine XS.aloadN X0.here hx rfl (hb hby d5_0) rfl rfl ?_
    show Steps p.tables e below (s₁.setTop (mkF m 1 #[.val (.ref x0), .val (.ref x1), .unset] [(.ref x0)])) _
    refine XS.aloadN X0.here hx rfl (hb hby d5_1) rfl rfl ?_
    show Steps p.tables e below (s₁.setTop (mkF m 2 #[.val (.ref x0), .val (.ref x1), .unset] [(.ref x1), (.ref x0)])) _
    refine Jvm.RoadKit.acmp (g := (mkF m 2 #[.val (.ref x0), .val (.ref x1), .unset] [(.ref x1), (.ref x0)])) X0 hx rfl rfl rfl (pc0 := 2) (pc' := 7) (same := false) rfl (hb hby d5_2) rfl (decide_eq_false fun q => hne (Value.ref.inj q)) (by decide) (by decide) ?_
    show Steps p.tables e below (s₁.setTop (mkF m 7 #[.val (.ref x0), .val (.ref x1), .unset] [])) _
    refine XS.aloadN X0.here hx rfl (hb hby d5_7) rfl rfl ?_
    show Steps p.tables e below (s₁.setTop (mkF m 8 #[.val (.ref x0), .val (.ref x1), .unset] [(.ref x1)])) _
    refine st1 _ ?_
    show Steps p.tables e below (T1.setTop (mkF m 11 #[.val (.ref x0), .val (.ref x1), .unset] [(.int (1 : Int32))])) _
    refine XS.ifNo X1.here hx rfl (hb hby d5_11) rfl ((if0 _ _).trans (feq (by decide : ¬ ((1 : Int32) = (0 : Int32)))).1) ?_
    show Steps p.tables e below (T1.setTop (mkF m 14 #[.val (.ref x0), .val (.ref x1), .unset] [])) _
    refine XS.aloadN X1.here hx rfl (hb hby d5_14) rfl rfl ?_
    show Steps p.tables e below (T1.setTop (mkF m 15 #[.val (.ref x0), .val (.ref x1), .unset] [(.ref x1)])) _
    refine st2 _ ?_
    show Steps p.tables e below (T2.setTop (mkF m 18 #[.val (.ref x0), .val (.ref x1), .unset] [(.ref x1)])) _
    refine XS.astoreN X2.here hx rfl (hb hby d5_18) rfl rfl (l' := #[.val (.ref x0), .val (.ref x1), .val (.ref x1)]) rfl ?_
    show Steps p.tables e below (T2.setTop (mkF m 19 #[.val (.ref x0), .val (.ref x1), .val (.ref x1)] [])) _
    refine st3 _ ?_
    show Steps p.tables e below (T3.setTop (mkF m 22 #[.val (.ref x0), .val (.ref x1), .val (.ref x1)] [(.int cs)])) _
    refine XS.ifNo X3.here hx rfl (hb hby d5_22) rfl ((if0 _ _).trans (feq hcs).1) ?_
    show Steps p.tables e below (T3.setTop (mkF m 25 #[.val (.ref x0), .val (.ref x1), .val (.ref x1)] [])) _
    refine XS.aloadN X3.here hx rfl (hb hby d5_25) rfl rfl ?_
    show Steps p.tables e below (T3.setTop (mkF m 26 #[.val (.ref x0), .val (.ref x1), .val (.ref x1)] [(.ref x0)])) _
    refine st4 _ ?_
    show Steps p.tables e below (T4.setTop (mkF m 29 #[.val (.ref x0), .val (.ref x1), .val (.ref x1)] [(.int (0 : Int32))])) _
    refine XS.aloadN X4.here hx rfl (hb hby d5_29) rfl rfl ?_
    show Steps p.tables e below (T4.setTop (mkF m 30 #[.val (.ref x0), .val (.ref x1), .val (.ref x1)] [(.ref x1), (.int (0 : Int32))])) _
    refine st5 _ ?_
    show Steps p.tables e below (T5.setTop (mkF m 33 #[.val (.ref x0), .val (.ref x1), .val (.ref x1)] [(.int (0 : Int32)), (.int (0 : Int32))])) _
    refine XS.icmpNo X5.here hx rfl (hb hby d5_33) rfl (teq (by decide : (0 : Int32) = (0 : Int32))).2 ?_
    show Steps p.tables e below (T5.setTop (mkF m 36 #[.val (.ref x0), .val (.ref x1), .val (.ref x1)] [])) _
    refine XS.aloadN X5.here hx rfl (hb hby d5_36) rfl rfl ?_
    show Steps p.tables e below (T5.setTop (mkF m 37 #[.val (.ref x0), .val (.ref x1), .val (.ref x1)] [(.ref x0)])) _
    refine st6 _ ?_
    show Steps p.tables e below (T6.setTop (mkF m 40 #[.val (.ref x0), .val (.ref x1), .val (.ref x1)] [(.ref va)])) _
    refine XS.aloadN X6.here hx rfl (hb hby d5_40) rfl rfl ?_
    show Steps p.tables e below (T6.setTop (mkF m 41 #[.val (.ref x0), .val (.ref x1), .val (.ref x1)] [(.ref x1), (.ref va)])) _
    refine st7 _ ?_
    show Steps p.tables e below (T7.setTop (mkF m 44 #[.val (.ref x0), .val (.ref x1), .val (.ref x1)] [(.ref vb), (.ref va)])) _
    refine st8 _ ?_
    show Steps p.tables e below (T8.setTop (mkF m 47 #[.val (.ref x0), .val (.ref x1), .val (.ref x1)] [(.int (0 : Int32))])) _
    refine XS.ifYes X8.here hx rfl (pc0 := 47) (pc' := 54) rfl (hb hby d5_47) rfl ((if0 _ _).trans (teq (by decide : (0 : Int32) = (0 : Int32))).1) (by decide) (by decide) ?_
    show Steps p.tables e below (T8.setTop (mkF m 54 #[.val (.ref x0), .val (.ref x1), .val (.ref x1)] [])) _
    refine XS.iconst X8.here hx rfl (hb hby d5_54) ?_
    show Steps p.tables e below (T8.setTop (mkF m 55 #[.val (.ref x0), .val (.ref x1), .val (.ref x1)] [(.int (0 : Int32))])) _
    exact retN X8 hx (t := .boolean) Bd.returns (by simp) (hb hby d5_55) hr
  · exact ⟨rfl, N8, e8⟩
set_option maxRecDepth 65536 in
set_option maxHeartbeats 40000000 in
theorem rmle_1y (l : Launch) (Z : State) (a0 : Array Value) (hw : ∀ d ∈ tables_1, d.before a0 Z = true) (ws : List Jvm.Cond) (x0 : Addr) (x1 : Addr) (k0 k1 : ClassId) (u0 : Int32) (h0 : Heap) (n0 : Nat) (Z0 : n0 ≤ h0.size) (V_x0 : Arv Z h0 x0 k0 .byte (1 : Int32) [(.int u0)] (.int (0 : Int32))) (V_x1 : Arv Z h0 x1 k1 .byte (1 : Int32) [(.int (45 : Int32))] (.int (0 : Int32))) (hu : u0 = (45 : Int32)) :
    MetFree l (⟨"java/lang/StringLatin1", "equals", "([B[B)Z"⟩ : MethodName) (head1 (Jvm.Cond.code (⟨"java/lang/StringLatin1", "equals", "([B[B)Z"⟩ : MethodName) jdk_43_method_13_code 3 (some .boolean) :: ws) ({ frames := 0, cells := 0, slots := 0, locals := 0 } : Room)) (fun a U => a = #[(.ref x0), (.ref x1)] ∧ Z.Warmed39 U.vm ∧ U.heap = h0) (fun _ _ _ _ _ => True) (fun _ U o U' => ∃ v L, o = .returned v ∧ (QP (some (.int (1 : Int32))) h0 n0 v U'.heap L) ∧ FrameEnd U o U' L ({ frames := 0, cells := 0, slots := 0, locals := 0 } : Room).cells ({ frames := 0, cells := 0, slots := 0, locals := 0 } : Room).slots) := by
  refine MetFree.of_bodySF (plainFor_of_name pn_6) hisR ?_
  intro p e s m args below meth c s₁ Bd hml0 hP hK
  obtain ⟨rfl, hZ, hh⟩ := hP
  have hx := Bd.exec
  have hby := Bd.bytes
  have hml : c.maxLocals = 3 := hml0
  have hown : s.vm.findClass "java/lang/StringLatin1" = some m.cls := findClass_of_methodNamed Bd.named
  have hnm := (name_of_methodNamed Bd.named Bd.method).1
  have X0 : Stand p l e ({ frames := 0, cells := 0, slots := 0, locals := 0 } : Room) s m #[(.ref x0), (.ref x1)] below meth c s₁ [] 0 0 := Stand.of_body Bd
  have e0 : s₁.heap = h0 := by rw [← hh, Bd.state]; rfl
  have N0 := Fr.nil n0
  have pre0 : ∀ t, Steps p.tables e below (s₁.setTop (mkF m 0 #[.val (.ref x0), .val (.ref x1), .unset] [])) t → Steps p.tables e below (s₁.setTop (entryFrame m #[(.ref x0), (.ref x1)] 3)) t := fun t k => castTop (ef_6 m x0 x1) k
  obtain ⟨fs, hr, hrun, hended, hW, hsame⟩ := X0.leave (v := some (.int (1 : Int32))) (fun h => by rw [Bd.returns] at h; cases h)
  refine ⟨_, _, pre0 _ ?_, hrun, hended, _, _, rfl, ?_, ⟨_, rfl⟩, hW, hsame.mono (by decide) (by decide)⟩
  · show Steps p.tables e below (s₁.setTop (mkF m 0 #[.val (.ref x0), .val (.ref x1), .unset] [])) _
    refine XS.aloadN X0.here hx rfl (hb hby d6_0) rfl rfl ?_
    show Steps p.tables e below (s₁.setTop (mkF m 1 #[.val (.ref x0), .val (.ref x1), .unset] [(.ref x0)])) _
    refine own_len X0 hx hZ e0 V_x0 (g := (mkF m 1 #[.val (.ref x0), .val (.ref x1), .unset] [(.ref x0)])) rfl rfl (hb hby d6_1) ?_
    show Steps p.tables e below (s₁.setTop (mkF m 2 #[.val (.ref x0), .val (.ref x1), .unset] [(.int (1 : Int32))])) _
    refine XS.aloadN X0.here hx rfl (hb hby d6_2) rfl rfl ?_
    show Steps p.tables e below (s₁.setTop (mkF m 3 #[.val (.ref x0), .val (.ref x1), .unset] [(.ref x1), (.int (1 : Int32))])) _
    refine own_len X0 hx hZ e0 V_x1 (g := (mkF m 3 #[.val (.ref x0), .val (.ref x1), .unset] [(.ref x1), (.int (1 : Int32))])) rfl rfl (hb hby d6_3) ?_
    show Steps p.tables e below (s₁.setTop (mkF m 4 #[.val (.ref x0), .val (.ref x1), .unset] [(.int (1 : Int32)), (.int (1 : Int32))])) _
    refine XS.icmpNo X0.here hx rfl (hb hby d6_4) rfl (teq (by decide : (1 : Int32) = (1 : Int32))).2 ?_
    show Steps p.tables e below (s₁.setTop (mkF m 7 #[.val (.ref x0), .val (.ref x1), .unset] [])) _
    refine XS.iconst X0.here hx rfl (hb hby d6_7) ?_
    show Steps p.tables e below (s₁.setTop (mkF m 8 #[.val (.ref x0), .val (.ref x1), .unset] [(.int (0 : Int32))])) _
    refine XS.istoreN X0.here hx rfl (hb hby d6_8) rfl (l' := #[.val (.ref x0), .val (.ref x1), .val (.int (0 : Int32))]) rfl ?_
    show Steps p.tables e below (s₁.setTop (mkF m 9 #[.val (.ref x0), .val (.ref x1), .val (.int (0 : Int32))] [])) _
    refine XS.iloadN X0.here hx rfl (hb hby d6_9) rfl ?_
    show Steps p.tables e below (s₁.setTop (mkF m 10 #[.val (.ref x0), .val (.ref x1), .val (.int (0 : Int32))] [(.int (0 : Int32))])) _
    refine XS.aloadN X0.here hx rfl (hb hby d6_10) rfl rfl ?_
    show Steps p.tables e below (s₁.setTop (mkF m 11 #[.val (.ref x0), .val (.ref x1), .val (.int (0 : Int32))] [(.ref x0), (.int (0 : Int32))])) _
    refine own_len X0 hx hZ e0 V_x0 (g := (mkF m 11 #[.val (.ref x0), .val (.ref x1), .val (.int (0 : Int32))] [(.ref x0), (.int (0 : Int32))])) rfl rfl (hb hby d6_11) ?_
    show Steps p.tables e below (s₁.setTop (mkF m 12 #[.val (.ref x0), .val (.ref x1), .val (.int (0 : Int32))] [(.int (1 : Int32)), (.int (0 : Int32))])) _
    refine XS.icmpNo X0.here hx rfl (hb hby d6_12) rfl (tlt (by decide : (0 : Int32) < (1 : Int32))).2.1 ?_
    show Steps p.tables e below (s₁.setTop (mkF m 15 #[.val (.ref x0), .val (.ref x1), .val (.int (0 : Int32))] [])) _
    refine XS.aloadN X0.here hx rfl (hb hby d6_15) rfl rfl ?_
    show Steps p.tables e below (s₁.setTop (mkF m 16 #[.val (.ref x0), .val (.ref x1), .val (.int (0 : Int32))] [(.ref x0)])) _
    refine XS.iloadN X0.here hx rfl (hb hby d6_16) rfl ?_
    show Steps p.tables e below (s₁.setTop (mkF m 17 #[.val (.ref x0), .val (.ref x1), .val (.int (0 : Int32))] [(.int (0 : Int32)), (.ref x0)])) _
    refine own_ldB X0 hx hZ e0 V_x0 (j := (0 : Int32)) (w := u0) ⟨by decide, by decide⟩ rfl (g := (mkF m 17 #[.val (.ref x0), .val (.ref x1), .val (.int (0 : Int32))] [(.int (0 : Int32)), (.ref x0)])) rfl rfl (hb hby d6_17) ?_
    show Steps p.tables e below (s₁.setTop (mkF m 18 #[.val (.ref x0), .val (.ref x1), .val (.int (0 : Int32))] [(.int u0)])) _
    refine XS.aloadN X0.here hx rfl (hb hby d6_18) rfl rfl ?_
    show Steps p.tables e below (s₁.setTop (mkF m 19 #[.val (.ref x0), .val (.ref x1), .val (.int (0 : Int32))] [(.ref x1), (.int u0)])) _
    refine XS.iloadN X0.here hx rfl (hb hby d6_19) rfl ?_
    show Steps p.tables e below (s₁.setTop (mkF m 20 #[.val (.ref x0), .val (.ref x1), .val (.int (0 : Int32))] [(.int (0 : Int32)), (.ref x1), (.int u0)])) _
    refine own_ldB X0 hx hZ e0 V_x1 (j := (0 : Int32)) (w := (45 : Int32)) ⟨by decide, by decide⟩ rfl (g := (mkF m 20 #[.val (.ref x0), .val (.ref x1), .val (.int (0 : Int32))] [(.int (0 : Int32)), (.ref x1), (.int u0)])) rfl rfl (hb hby d6_20) ?_
    show Steps p.tables e below (s₁.setTop (mkF m 21 #[.val (.ref x0), .val (.ref x1), .val (.int (0 : Int32))] [(.int (45 : Int32)), (.int u0)])) _
    refine XS.icmpYes X0.here hx rfl (pc0 := 21) (pc' := 26) rfl (hb hby d6_21) rfl (teq hu).1 (by decide) (by decide) ?_
    show Steps p.tables e below (s₁.setTop (mkF m 26 #[.val (.ref x0), .val (.ref x1), .val (.int (0 : Int32))] [])) _
    refine XS.iinc X0.here hx rfl (hb hby d6_26) rfl (l' := #[.val (.ref x0), .val (.ref x1), .val (.int ((0 : Int32) + (1 : Int32)))]) rfl ?_
    show Steps p.tables e below (s₁.setTop (mkF m 29 #[.val (.ref x0), .val (.ref x1), .val (.int ((0 : Int32) + (1 : Int32)))] [])) _
    rw [show ((0 : Int32) + (1 : Int32)) = (1 : Int32) from by decide]
    show Steps p.tables e below (s₁.setTop (mkF m 29 #[.val (.ref x0), .val (.ref x1), .val (.int (1 : Int32))] [])) _
    refine XS.goto X0.here hx rfl (pc0 := 29) (pc' := 9) rfl (hb hby d6_29) (by decide) (by decide) ?_
    show Steps p.tables e below (s₁.setTop (mkF m 9 #[.val (.ref x0), .val (.ref x1), .val (.int (1 : Int32))] [])) _
    refine XS.iloadN X0.here hx rfl (hb hby d6_9) rfl ?_
    show Steps p.tables e below (s₁.setTop (mkF m 10 #[.val (.ref x0), .val (.ref x1), .val (.int (1 : Int32))] [(.int (1 : Int32))])) _
    refine XS.aloadN X0.here hx rfl (hb hby d6_10) rfl rfl ?_
    show Steps p.tables e below (s₁.setTop (mkF m 11 #[.val (.ref x0), .val (.ref x1), .val (.int (1 : Int32))] [(.ref x0), (.int (1 : Int32))])) _
    refine own_len X0 hx hZ e0 V_x0 (g := (mkF m 11 #[.val (.ref x0), .val (.ref x1), .val (.int (1 : Int32))] [(.ref x0), (.int (1 : Int32))])) rfl rfl (hb hby d6_11) ?_
    show Steps p.tables e below (s₁.setTop (mkF m 12 #[.val (.ref x0), .val (.ref x1), .val (.int (1 : Int32))] [(.int (1 : Int32)), (.int (1 : Int32))])) _
    refine XS.icmpYes X0.here hx rfl (pc0 := 12) (pc' := 32) rfl (hb hby d6_12) rfl (flt (by decide : ¬ ((1 : Int32) < (1 : Int32)))).2.1 (by decide) (by decide) ?_
    show Steps p.tables e below (s₁.setTop (mkF m 32 #[.val (.ref x0), .val (.ref x1), .val (.int (1 : Int32))] [])) _
    refine XS.iconst X0.here hx rfl (hb hby d6_32) ?_
    show Steps p.tables e below (s₁.setTop (mkF m 33 #[.val (.ref x0), .val (.ref x1), .val (.int (1 : Int32))] [(.int (1 : Int32))])) _
    exact retN X0 hx (t := .boolean) Bd.returns (by simp) (hb hby d6_33) hr
  · exact ⟨rfl, N0, e0⟩
set_option maxRecDepth 65536 in
set_option maxHeartbeats 40000000 in
theorem rmeq_1y (l : Launch) (Z : State) (a0 : Array Value) (hw : ∀ d ∈ tables_1, d.before a0 Z = true) (ws : List Jvm.Cond) (x0 : Addr) (x1 : Addr) (va vb : Addr) (kv kb : ClassId) (cs : Int32) (u0 : Int32) (h0 : Heap) (n0 : Nat) (Z0 : n0 ≤ h0.size) (E_x0 : Exa Z h0 x0 "java/lang/String") (F_value_x0 : Fld Z h0 x0 "java/lang/String" "value" "[B" (.ref va)) (F_coder_x0 : Fld Z h0 x0 "java/lang/String" "coder" "B" (.int (0 : Int32))) (V_va : Arv Z h0 va kv .byte (1 : Int32) [(.int u0)] (.int (0 : Int32))) (E_x1 : Exa Z h0 x1 "java/lang/String") (F_value_x1 : Fld Z h0 x1 "java/lang/String" "value" "[B" (.ref vb)) (F_coder_x1 : Fld Z h0 x1 "java/lang/String" "coder" "B" (.int (0 : Int32))) (V_vb : Arv Z h0 vb kb .byte (1 : Int32) [(.int (45 : Int32))] (.int (0 : Int32))) (O0 : Old Z n0 h0) (S_CS : Sta Z Z.heap "java/lang/String" "COMPACT_STRINGS" "Z" (.int cs)) (hcs : ¬ (cs = (0 : Int32))) (hne : ¬ (x0 = x1)) (hu : u0 = (45 : Int32)) :
    MetFree l (⟨"java/lang/String", "equals", "(Ljava/lang/Object;)Z"⟩ : MethodName) (head1 (Jvm.Cond.code (⟨"java/lang/String", "equals", "(Ljava/lang/Object;)Z"⟩ : MethodName) jdk_42_method_66_code 3 (some .boolean) :: ws) ({ frames := 1, cells := 0, slots := 0, locals := 14 } : Room)) (fun a U => a = #[(.ref x0), (.ref x1)] ∧ Z.Warmed39 U.vm ∧ U.heap = h0) (fun _ _ _ _ _ => True) (fun _ U o U' => ∃ v L, o = .returned v ∧ (QP (some (.int (1 : Int32))) h0 n0 v U'.heap L) ∧ FrameEnd U o U' L ({ frames := 1, cells := 0, slots := 0, locals := 14 } : Room).cells ({ frames := 1, cells := 0, slots := 0, locals := 14 } : Room).slots) := by
  refine MetFree.of_bodySF (plainFor_of_name pn_5) hisR ?_
  intro p e s m args below meth c s₁ Bd hml0 hP hK
  obtain ⟨rfl, hZ, hh⟩ := hP
  have hx := Bd.exec
  have hby := Bd.bytes
  have hml : c.maxLocals = 3 := hml0
  have hown : s.vm.findClass "java/lang/String" = some m.cls := findClass_of_methodNamed Bd.named
  have hnm := (name_of_methodNamed Bd.named Bd.method).1
  have X0 : Stand p l e ({ frames := 1, cells := 0, slots := 0, locals := 14 } : Room) s m #[(.ref x0), (.ref x1)] below meth c s₁ [] 0 0 := Stand.of_body Bd
  have e0 : s₁.heap = h0 := by rw [← hh, Bd.state]; rfl
  have N0 := Fr.nil n0
  have pre0 : ∀ t, Steps p.tables e below (s₁.setTop (mkF m 0 #[.val (.ref x0), .val (.ref x1), .unset] [])) t → Steps p.tables e below (s₁.setTop (entryFrame m #[(.ref x0), (.ref x1)] 3)) t := fun t k => castTop (ef_5 m x0 x1) k
  obtain ⟨T1, X1, e1, st1⟩ := instY X0 hx hZ hown (hw _ (List.mem_of_getElem? (i := 32) rfl)) e0 (Ins.self E_x1) (g := (mkF m 8 #[.val (.ref x0), .val (.ref x1), .unset] [(.ref x1)])) rfl rfl (hb hby d5_8)
  obtain ⟨T2, X2, e2, st2⟩ := castY X1 hx hZ hown (hw _ (List.mem_of_getElem? (i := 32) rfl)) e1 (Ins.self E_x1) (g := (mkF m 15 #[.val (.ref x0), .val (.ref x1), .unset] [(.ref x1)])) rfl rfl (hb hby d5_15)
  obtain ⟨T3, X3, e3, st3⟩ := getS2 X2 hx hZ hown (host := "") (Or.inl (hw _ (List.mem_of_getElem? (i := 33) rfl))) Via.refl e2 (own_Sta_old S_CS O0) (g := (mkF m 19 #[.val (.ref x0), .val (.ref x1), .val (.ref x1)] [])) rfl (hb hby d5_19)
  obtain ⟨T4, X4, e4, st4⟩ := getF X3 hx hZ hown (host := "") (Or.inl (hw _ (List.mem_of_getElem? (i := 21) rfl))) Via.refl e3 F_coder_x0 (g := (mkF m 26 #[.val (.ref x0), .val (.ref x1), .val (.ref x1)] [(.ref x0)])) rfl rfl (hb hby d5_26)
  obtain ⟨T5, X5, e5, st5⟩ := getF X4 hx hZ hown (host := "") (Or.inl (hw _ (List.mem_of_getElem? (i := 21) rfl))) Via.refl e4 F_coder_x1 (g := (mkF m 30 #[.val (.ref x0), .val (.ref x1), .val (.ref x1)] [(.ref x1), (.int (0 : Int32))])) rfl rfl (hb hby d5_30)
  obtain ⟨T6, X6, e6, st6⟩ := getF X5 hx hZ hown (host := "") (Or.inl (hw _ (List.mem_of_getElem? (i := 20) rfl))) Via.refl e5 F_value_x0 (g := (mkF m 37 #[.val (.ref x0), .val (.ref x1), .val (.ref x1)] [(.ref x0)])) rfl rfl (hb hby d5_37)
  obtain ⟨T7, X7, e7, st7⟩ := getF X6 hx hZ hown (host := "") (Or.inl (hw _ (List.mem_of_getElem? (i := 20) rfl))) Via.refl e6 F_value_x1 (g := (mkF m 41 #[.val (.ref x0), .val (.ref x1), .val (.ref x1)] [(.ref x1), (.ref va)])) rfl rfl (hb hby d5_41)
  obtain ⟨_, _, ⟨T8, L8, k8, n8⟩, -, X8, ⟨Lc8, hQ8, l8, y8, z8⟩, st8⟩ := Jvm.LawKit.callS X7 hx (y := (⟨"java/lang/StringLatin1", "equals", "([B[B)Z"⟩ : MethodName)) hown (mvT hZ (hw _ (List.mem_of_getElem? (i := 34) rfl))) (mvT hZ (hw _ (List.mem_of_getElem? (i := 35) rfl))) (mvT hZ (hw _ (List.mem_of_getElem? (i := 36) rfl))) (mvT hZ (hw _ (List.mem_of_getElem? (i := 37) rfl))) (by decide) (backOf (W := 0) (rmle_1y l Z a0 hw [] va vb kv kb u0 h0 n0 Z0 V_va V_vb hu) hZ (hw _ (List.mem_of_getElem? (i := 37) rfl)) (hw _ (List.mem_of_getElem? (i := 36) rfl)) (by decide) (by decide)) (g := (mkF m 44 #[.val (.ref x0), .val (.ref x1), .val (.ref x1)] [(.ref vb), (.ref va)])) rfl (by rw [hml]; rfl) (argsL := [(.ref va), (.ref vb)]) (rest := []) (lenOf pd___B_B_Z rfl) rfl (by show 2 * 0 + _ ≤ _; exact Nat.le_of_eq rfl) (hb hby d5_44) (fun _ _ => ⟨rfl, e7, (by decide : 0 + 0 ≤ _), (by decide : 0 + 0 ≤ _)⟩)
  dsimp only [Pt.U, Pt.locs, Pt.cells, Pt.slots] at X8 l8 y8 z8 st8 hQ8
  subst l8 y8 z8
  obtain ⟨rfl, N8q, e8⟩ := hQ8
  have N8 := Fr.app N0 N8q
  obtain ⟨fs, hr, hrun, hended, hW, hsame⟩ := X8.leave (v := some (.int (1 : Int32))) (fun h => by rw [Bd.returns] at h; cases h)
  refine ⟨_, _, pre0 _ ?_, hrun, hended, _, _, rfl, ?_, ⟨_, rfl⟩, hW, hsame.mono (by decide) (by decide)⟩
  · show Steps p.tables e below (s₁.setTop (mkF m 0 #[.val (.ref x0), .val (.ref x1), .unset] [])) _
    refine XS.aloadN X0.here hx rfl (hb hby d5_0) rfl rfl ?_
    show Steps p.tables e below (s₁.setTop (mkF m 1 #[.val (.ref x0), .val (.ref x1), .unset] [(.ref x0)])) _
    refine XS.aloadN X0.here hx rfl (hb hby d5_1) rfl rfl ?_
    show Steps p.tables e below (s₁.setTop (mkF m 2 #[.val (.ref x0), .val (.ref x1), .unset] [(.ref x1), (.ref x0)])) _
    refine Jvm.RoadKit.acmp (g := (mkF m 2 #[.val (.ref x0), .val (.ref x1), .unset] [(.ref x1), (.ref x0)])) X0 hx rfl rfl rfl (pc0 := 2) (pc' := 7) (same := false) rfl (hb hby d5_2) rfl (decide_eq_false fun q => hne (Value.ref.inj q)) (by decide) (by decide) ?_
    show Steps p.tables e below (s₁.setTop (mkF m 7 #[.val (.ref x0), .val (.ref x1), .unset] [])) _
    refine XS.aloadN X0.here hx rfl (hb hby d5_7) rfl rfl ?_
    show Steps p.tables e below (s₁.setTop (mkF m 8 #[.val (.ref x0), .val (.ref x1), .unset] [(.ref x1)])) _
    refine st1 _ ?_
    show Steps p.tables e below (T1.setTop (mkF m 11 #[.val (.ref x0), .val (.ref x1), .unset] [(.int (1 : Int32))])) _
    refine XS.ifNo X1.here hx rfl (hb hby d5_11) rfl ((if0 _ _).trans (feq (by decide : ¬ ((1 : Int32) = (0 : Int32)))).1) ?_
    show Steps p.tables e below (T1.setTop (mkF m 14 #[.val (.ref x0), .val (.ref x1), .unset] [])) _
    refine XS.aloadN X1.here hx rfl (hb hby d5_14) rfl rfl ?_
    show Steps p.tables e below (T1.setTop (mkF m 15 #[.val (.ref x0), .val (.ref x1), .unset] [(.ref x1)])) _
    refine st2 _ ?_
    show Steps p.tables e below (T2.setTop (mkF m 18 #[.val (.ref x0), .val (.ref x1), .unset] [(.ref x1)])) _
    refine XS.astoreN X2.here hx rfl (hb hby d5_18) rfl rfl (l' := #[.val (.ref x0), .val (.ref x1), .val (.ref x1)]) rfl ?_
    show Steps p.tables e below (T2.setTop (mkF m 19 #[.val (.ref x0), .val (.ref x1), .val (.ref x1)] [])) _
    refine st3 _ ?_
    show Steps p.tables e below (T3.setTop (mkF m 22 #[.val (.ref x0), .val (.ref x1), .val (.ref x1)] [(.int cs)])) _
    refine XS.ifNo X3.here hx rfl (hb hby d5_22) rfl ((if0 _ _).trans (feq hcs).1) ?_
    show Steps p.tables e below (T3.setTop (mkF m 25 #[.val (.ref x0), .val (.ref x1), .val (.ref x1)] [])) _
    refine XS.aloadN X3.here hx rfl (hb hby d5_25) rfl rfl ?_
    show Steps p.tables e below (T3.setTop (mkF m 26 #[.val (.ref x0), .val (.ref x1), .val (.ref x1)] [(.ref x0)])) _
    refine st4 _ ?_
    show Steps p.tables e below (T4.setTop (mkF m 29 #[.val (.ref x0), .val (.ref x1), .val (.ref x1)] [(.int (0 : Int32))])) _
    refine XS.aloadN X4.here hx rfl (hb hby d5_29) rfl rfl ?_
    show Steps p.tables e below (T4.setTop (mkF m 30 #[.val (.ref x0), .val (.ref x1), .val (.ref x1)] [(.ref x1), (.int (0 : Int32))])) _
    refine st5 _ ?_
    show Steps p.tables e below (T5.setTop (mkF m 33 #[.val (.ref x0), .val (.ref x1), .val (.ref x1)] [(.int (0 : Int32)), (.int (0 : Int32))])) _
    refine XS.icmpNo X5.here hx rfl (hb hby d5_33) rfl (teq (by decide : (0 : Int32) = (0 : Int32))).2 ?_
    show Steps p.tables e below (T5.setTop (mkF m 36 #[.val (.ref x0), .val (.ref x1), .val (.ref x1)] [])) _
    refine XS.aloadN X5.here hx rfl (hb hby d5_36) rfl rfl ?_
    show Steps p.tables e below (T5.setTop (mkF m 37 #[.val (.ref x0), .val (.ref x1), .val (.ref x1)] [(.ref x0)])) _
    refine st6 _ ?_
    show Steps p.tables e below (T6.setTop (mkF m 40 #[.val (.ref x0), .val (.ref x1), .val (.ref x1)] [(.ref va)])) _
    refine XS.aloadN X6.here hx rfl (hb hby d5_40) rfl rfl ?_
    show Steps p.tables e below (T6.setTop (mkF m 41 #[.val (.ref x0), .val (.ref x1), .val (.ref x1)] [(.ref x1), (.ref va)])) _
    refine st7 _ ?_
    show Steps p.tables e below (T7.setTop (mkF m 44 #[.val (.ref x0), .val (.ref x1), .val (.ref x1)] [(.ref vb), (.ref va)])) _
    refine st8 _ ?_
    show Steps p.tables e below (T8.setTop (mkF m 47 #[.val (.ref x0), .val (.ref x1), .val (.ref x1)] [(.int (1 : Int32))])) _
    refine XS.ifNo X8.here hx rfl (hb hby d5_47) rfl ((if0 _ _).trans (feq (by decide : ¬ ((1 : Int32) = (0 : Int32)))).1) ?_
    show Steps p.tables e below (T8.setTop (mkF m 50 #[.val (.ref x0), .val (.ref x1), .val (.ref x1)] [])) _
    refine XS.iconst X8.here hx rfl (hb hby d5_50) ?_
    show Steps p.tables e below (T8.setTop (mkF m 51 #[.val (.ref x0), .val (.ref x1), .val (.ref x1)] [(.int (1 : Int32))])) _
    refine XS.goto X8.here hx rfl (pc0 := 51) (pc' := 55) rfl (hb hby d5_51) (by decide) (by decide) ?_
    show Steps p.tables e below (T8.setTop (mkF m 55 #[.val (.ref x0), .val (.ref x1), .val (.ref x1)] [(.int (1 : Int32))])) _
    exact retN X8 hx (t := .boolean) Bd.returns (by simp) (hb hby d5_55) hr
  · exact ⟨rfl, N8, e8⟩
set_option maxRecDepth 65536 in
set_option maxHeartbeats 40000000 in
theorem rmle_1n (l : Launch) (Z : State) (a0 : Array Value) (hw : ∀ d ∈ tables_1, d.before a0 Z = true) (ws : List Jvm.Cond) (x0 : Addr) (x1 : Addr) (k0 k1 : ClassId) (u0 : Int32) (h0 : Heap) (n0 : Nat) (Z0 : n0 ≤ h0.size) (V_x0 : Arv Z h0 x0 k0 .byte (1 : Int32) [(.int u0)] (.int (0 : Int32))) (V_x1 : Arv Z h0 x1 k1 .byte (1 : Int32) [(.int (45 : Int32))] (.int (0 : Int32))) (hu : ¬ (u0 = (45 : Int32))) :
    MetFree l (⟨"java/lang/StringLatin1", "equals", "([B[B)Z"⟩ : MethodName) (head1 (Jvm.Cond.code (⟨"java/lang/StringLatin1", "equals", "([B[B)Z"⟩ : MethodName) jdk_43_method_13_code 3 (some .boolean) :: ws) ({ frames := 0, cells := 0, slots := 0, locals := 0 } : Room)) (fun a U => a = #[(.ref x0), (.ref x1)] ∧ Z.Warmed39 U.vm ∧ U.heap = h0) (fun _ _ _ _ _ => True) (fun _ U o U' => ∃ v L, o = .returned v ∧ (QP (some (.int (0 : Int32))) h0 n0 v U'.heap L) ∧ FrameEnd U o U' L ({ frames := 0, cells := 0, slots := 0, locals := 0 } : Room).cells ({ frames := 0, cells := 0, slots := 0, locals := 0 } : Room).slots) := by
  refine MetFree.of_bodySF (plainFor_of_name pn_6) hisR ?_
  intro p e s m args below meth c s₁ Bd hml0 hP hK
  obtain ⟨rfl, hZ, hh⟩ := hP
  have hx := Bd.exec
  have hby := Bd.bytes
  have hml : c.maxLocals = 3 := hml0
  have hown : s.vm.findClass "java/lang/StringLatin1" = some m.cls := findClass_of_methodNamed Bd.named
  have hnm := (name_of_methodNamed Bd.named Bd.method).1
  have X0 : Stand p l e ({ frames := 0, cells := 0, slots := 0, locals := 0 } : Room) s m #[(.ref x0), (.ref x1)] below meth c s₁ [] 0 0 := Stand.of_body Bd
  have e0 : s₁.heap = h0 := by rw [← hh, Bd.state]; rfl
  have N0 := Fr.nil n0
  have pre0 : ∀ t, Steps p.tables e below (s₁.setTop (mkF m 0 #[.val (.ref x0), .val (.ref x1), .unset] [])) t → Steps p.tables e below (s₁.setTop (entryFrame m #[(.ref x0), (.ref x1)] 3)) t := fun t k => castTop (ef_6 m x0 x1) k
  obtain ⟨fs, hr, hrun, hended, hW, hsame⟩ := X0.leave (v := some (.int (0 : Int32))) (fun h => by rw [Bd.returns] at h; cases h)
  refine ⟨_, _, pre0 _ ?_, hrun, hended, _, _, rfl, ?_, ⟨_, rfl⟩, hW, hsame.mono (by decide) (by decide)⟩
  · show Steps p.tables e below (s₁.setTop (mkF m 0 #[.val (.ref x0), .val (.ref x1), .unset] [])) _
    refine XS.aloadN X0.here hx rfl (hb hby d6_0) rfl rfl ?_
    show Steps p.tables e below (s₁.setTop (mkF m 1 #[.val (.ref x0), .val (.ref x1), .unset] [(.ref x0)])) _
    refine own_len X0 hx hZ e0 V_x0 (g := (mkF m 1 #[.val (.ref x0), .val (.ref x1), .unset] [(.ref x0)])) rfl rfl (hb hby d6_1) ?_
    show Steps p.tables e below (s₁.setTop (mkF m 2 #[.val (.ref x0), .val (.ref x1), .unset] [(.int (1 : Int32))])) _
    refine XS.aloadN X0.here hx rfl (hb hby d6_2) rfl rfl ?_
    show Steps p.tables e below (s₁.setTop (mkF m 3 #[.val (.ref x0), .val (.ref x1), .unset] [(.ref x1), (.int (1 : Int32))])) _
    refine own_len X0 hx hZ e0 V_x1 (g := (mkF m 3 #[.val (.ref x0), .val (.ref x1), .unset] [(.ref x1), (.int (1 : Int32))])) rfl rfl (hb hby d6_3) ?_
    show Steps p.tables e below (s₁.setTop (mkF m 4 #[.val (.ref x0), .val (.ref x1), .unset] [(.int (1 : Int32)), (.int (1 : Int32))])) _
    refine XS.icmpNo X0.here hx rfl (hb hby d6_4) rfl (teq (by decide : (1 : Int32) = (1 : Int32))).2 ?_
    show Steps p.tables e below (s₁.setTop (mkF m 7 #[.val (.ref x0), .val (.ref x1), .unset] [])) _
    refine XS.iconst X0.here hx rfl (hb hby d6_7) ?_
    show Steps p.tables e below (s₁.setTop (mkF m 8 #[.val (.ref x0), .val (.ref x1), .unset] [(.int (0 : Int32))])) _
    refine XS.istoreN X0.here hx rfl (hb hby d6_8) rfl (l' := #[.val (.ref x0), .val (.ref x1), .val (.int (0 : Int32))]) rfl ?_
    show Steps p.tables e below (s₁.setTop (mkF m 9 #[.val (.ref x0), .val (.ref x1), .val (.int (0 : Int32))] [])) _
    refine XS.iloadN X0.here hx rfl (hb hby d6_9) rfl ?_
    show Steps p.tables e below (s₁.setTop (mkF m 10 #[.val (.ref x0), .val (.ref x1), .val (.int (0 : Int32))] [(.int (0 : Int32))])) _
    refine XS.aloadN X0.here hx rfl (hb hby d6_10) rfl rfl ?_
    show Steps p.tables e below (s₁.setTop (mkF m 11 #[.val (.ref x0), .val (.ref x1), .val (.int (0 : Int32))] [(.ref x0), (.int (0 : Int32))])) _
    refine own_len X0 hx hZ e0 V_x0 (g := (mkF m 11 #[.val (.ref x0), .val (.ref x1), .val (.int (0 : Int32))] [(.ref x0), (.int (0 : Int32))])) rfl rfl (hb hby d6_11) ?_
    show Steps p.tables e below (s₁.setTop (mkF m 12 #[.val (.ref x0), .val (.ref x1), .val (.int (0 : Int32))] [(.int (1 : Int32)), (.int (0 : Int32))])) _
    refine XS.icmpNo X0.here hx rfl (hb hby d6_12) rfl (tlt (by decide : (0 : Int32) < (1 : Int32))).2.1 ?_
    show Steps p.tables e below (s₁.setTop (mkF m 15 #[.val (.ref x0), .val (.ref x1), .val (.int (0 : Int32))] [])) _
    refine XS.aloadN X0.here hx rfl (hb hby d6_15) rfl rfl ?_
    show Steps p.tables e below (s₁.setTop (mkF m 16 #[.val (.ref x0), .val (.ref x1), .val (.int (0 : Int32))] [(.ref x0)])) _
    refine XS.iloadN X0.here hx rfl (hb hby d6_16) rfl ?_
    show Steps p.tables e below (s₁.setTop (mkF m 17 #[.val (.ref x0), .val (.ref x1), .val (.int (0 : Int32))] [(.int (0 : Int32)), (.ref x0)])) _
    refine own_ldB X0 hx hZ e0 V_x0 (j := (0 : Int32)) (w := u0) ⟨by decide, by decide⟩ rfl (g := (mkF m 17 #[.val (.ref x0), .val (.ref x1), .val (.int (0 : Int32))] [(.int (0 : Int32)), (.ref x0)])) rfl rfl (hb hby d6_17) ?_
    show Steps p.tables e below (s₁.setTop (mkF m 18 #[.val (.ref x0), .val (.ref x1), .val (.int (0 : Int32))] [(.int u0)])) _
    refine XS.aloadN X0.here hx rfl (hb hby d6_18) rfl rfl ?_
    show Steps p.tables e below (s₁.setTop (mkF m 19 #[.val (.ref x0), .val (.ref x1), .val (.int (0 : Int32))] [(.ref x1), (.int u0)])) _
    refine XS.iloadN X0.here hx rfl (hb hby d6_19) rfl ?_
    show Steps p.tables e below (s₁.setTop (mkF m 20 #[.val (.ref x0), .val (.ref x1), .val (.int (0 : Int32))] [(.int (0 : Int32)), (.ref x1), (.int u0)])) _
    refine own_ldB X0 hx hZ e0 V_x1 (j := (0 : Int32)) (w := (45 : Int32)) ⟨by decide, by decide⟩ rfl (g := (mkF m 20 #[.val (.ref x0), .val (.ref x1), .val (.int (0 : Int32))] [(.int (0 : Int32)), (.ref x1), (.int u0)])) rfl rfl (hb hby d6_20) ?_
    show Steps p.tables e below (s₁.setTop (mkF m 21 #[.val (.ref x0), .val (.ref x1), .val (.int (0 : Int32))] [(.int (45 : Int32)), (.int u0)])) _
    refine XS.icmpNo X0.here hx rfl (hb hby d6_21) rfl (feq hu).1 ?_
    show Steps p.tables e below (s₁.setTop (mkF m 24 #[.val (.ref x0), .val (.ref x1), .val (.int (0 : Int32))] [])) _
    refine XS.iconst X0.here hx rfl (hb hby d6_24) ?_
    show Steps p.tables e below (s₁.setTop (mkF m 25 #[.val (.ref x0), .val (.ref x1), .val (.int (0 : Int32))] [(.int (0 : Int32))])) _
    exact retN X0 hx (t := .boolean) Bd.returns (by simp) (hb hby d6_25) hr
  · exact ⟨rfl, N0, e0⟩
set_option maxRecDepth 65536 in
set_option maxHeartbeats 40000000 in
theorem rmeq_1n (l : Launch) (Z : State) (a0 : Array Value) (hw : ∀ d ∈ tables_1, d.before a0 Z = true) (ws : List Jvm.Cond) (x0 : Addr) (x1 : Addr) (va vb : Addr) (kv kb : ClassId) (cs : Int32) (u0 : Int32) (h0 : Heap) (n0 : Nat) (Z0 : n0 ≤ h0.size) (E_x0 : Exa Z h0 x0 "java/lang/String") (F_value_x0 : Fld Z h0 x0 "java/lang/String" "value" "[B" (.ref va)) (F_coder_x0 : Fld Z h0 x0 "java/lang/String" "coder" "B" (.int (0 : Int32))) (V_va : Arv Z h0 va kv .byte (1 : Int32) [(.int u0)] (.int (0 : Int32))) (E_x1 : Exa Z h0 x1 "java/lang/String") (F_value_x1 : Fld Z h0 x1 "java/lang/String" "value" "[B" (.ref vb)) (F_coder_x1 : Fld Z h0 x1 "java/lang/String" "coder" "B" (.int (0 : Int32))) (V_vb : Arv Z h0 vb kb .byte (1 : Int32) [(.int (45 : Int32))] (.int (0 : Int32))) (O0 : Old Z n0 h0) (S_CS : Sta Z Z.heap "java/lang/String" "COMPACT_STRINGS" "Z" (.int cs)) (hcs : ¬ (cs = (0 : Int32))) (hne : ¬ (x0 = x1)) (hu : ¬ (u0 = (45 : Int32))) :
    MetFree l (⟨"java/lang/String", "equals", "(Ljava/lang/Object;)Z"⟩ : MethodName) (head1 (Jvm.Cond.code (⟨"java/lang/String", "equals", "(Ljava/lang/Object;)Z"⟩ : MethodName) jdk_42_method_66_code 3 (some .boolean) :: ws) ({ frames := 1, cells := 0, slots := 0, locals := 14 } : Room)) (fun a U => a = #[(.ref x0), (.ref x1)] ∧ Z.Warmed39 U.vm ∧ U.heap = h0) (fun _ _ _ _ _ => True) (fun _ U o U' => ∃ v L, o = .returned v ∧ (QP (some (.int (0 : Int32))) h0 n0 v U'.heap L) ∧ FrameEnd U o U' L ({ frames := 1, cells := 0, slots := 0, locals := 14 } : Room).cells ({ frames := 1, cells := 0, slots := 0, locals := 14 } : Room).slots) := by
  refine MetFree.of_bodySF (plainFor_of_name pn_5) hisR ?_
  intro p e s m args below meth c s₁ Bd hml0 hP hK
  obtain ⟨rfl, hZ, hh⟩ := hP
  have hx := Bd.exec
  have hby := Bd.bytes
  have hml : c.maxLocals = 3 := hml0
  have hown : s.vm.findClass "java/lang/String" = some m.cls := findClass_of_methodNamed Bd.named
  have hnm := (name_of_methodNamed Bd.named Bd.method).1
  have X0 : Stand p l e ({ frames := 1, cells := 0, slots := 0, locals := 14 } : Room) s m #[(.ref x0), (.ref x1)] below meth c s₁ [] 0 0 := Stand.of_body Bd
  have e0 : s₁.heap = h0 := by rw [← hh, Bd.state]; rfl
  have N0 := Fr.nil n0
  have pre0 : ∀ t, Steps p.tables e below (s₁.setTop (mkF m 0 #[.val (.ref x0), .val (.ref x1), .unset] [])) t → Steps p.tables e below (s₁.setTop (entryFrame m #[(.ref x0), (.ref x1)] 3)) t := fun t k => castTop (ef_5 m x0 x1) k
  obtain ⟨T1, X1, e1, st1⟩ := instY X0 hx hZ hown (hw _ (List.mem_of_getElem? (i := 32) rfl)) e0 (Ins.self E_x1) (g := (mkF m 8 #[.val (.ref x0), .val (.ref x1), .unset] [(.ref x1)])) rfl rfl (hb hby d5_8)
  obtain ⟨T2, X2, e2, st2⟩ := castY X1 hx hZ hown (hw _ (List.mem_of_getElem? (i := 32) rfl)) e1 (Ins.self E_x1) (g := (mkF m 15 #[.val (.ref x0), .val (.ref x1), .unset] [(.ref x1)])) rfl rfl (hb hby d5_15)
  obtain ⟨T3, X3, e3, st3⟩ := getS2 X2 hx hZ hown (host := "") (Or.inl (hw _ (List.mem_of_getElem? (i := 33) rfl))) Via.refl e2 (own_Sta_old S_CS O0) (g := (mkF m 19 #[.val (.ref x0), .val (.ref x1), .val (.ref x1)] [])) rfl (hb hby d5_19)
  obtain ⟨T4, X4, e4, st4⟩ := getF X3 hx hZ hown (host := "") (Or.inl (hw _ (List.mem_of_getElem? (i := 21) rfl))) Via.refl e3 F_coder_x0 (g := (mkF m 26 #[.val (.ref x0), .val (.ref x1), .val (.ref x1)] [(.ref x0)])) rfl rfl (hb hby d5_26)
  obtain ⟨T5, X5, e5, st5⟩ := getF X4 hx hZ hown (host := "") (Or.inl (hw _ (List.mem_of_getElem? (i := 21) rfl))) Via.refl e4 F_coder_x1 (g := (mkF m 30 #[.val (.ref x0), .val (.ref x1), .val (.ref x1)] [(.ref x1), (.int (0 : Int32))])) rfl rfl (hb hby d5_30)
  obtain ⟨T6, X6, e6, st6⟩ := getF X5 hx hZ hown (host := "") (Or.inl (hw _ (List.mem_of_getElem? (i := 20) rfl))) Via.refl e5 F_value_x0 (g := (mkF m 37 #[.val (.ref x0), .val (.ref x1), .val (.ref x1)] [(.ref x0)])) rfl rfl (hb hby d5_37)
  obtain ⟨T7, X7, e7, st7⟩ := getF X6 hx hZ hown (host := "") (Or.inl (hw _ (List.mem_of_getElem? (i := 20) rfl))) Via.refl e6 F_value_x1 (g := (mkF m 41 #[.val (.ref x0), .val (.ref x1), .val (.ref x1)] [(.ref x1), (.ref va)])) rfl rfl (hb hby d5_41)
  obtain ⟨_, _, ⟨T8, L8, k8, n8⟩, -, X8, ⟨Lc8, hQ8, l8, y8, z8⟩, st8⟩ := Jvm.LawKit.callS X7 hx (y := (⟨"java/lang/StringLatin1", "equals", "([B[B)Z"⟩ : MethodName)) hown (mvT hZ (hw _ (List.mem_of_getElem? (i := 34) rfl))) (mvT hZ (hw _ (List.mem_of_getElem? (i := 35) rfl))) (mvT hZ (hw _ (List.mem_of_getElem? (i := 36) rfl))) (mvT hZ (hw _ (List.mem_of_getElem? (i := 37) rfl))) (by decide) (backOf (W := 0) (rmle_1n l Z a0 hw [] va vb kv kb u0 h0 n0 Z0 V_va V_vb hu) hZ (hw _ (List.mem_of_getElem? (i := 37) rfl)) (hw _ (List.mem_of_getElem? (i := 36) rfl)) (by decide) (by decide)) (g := (mkF m 44 #[.val (.ref x0), .val (.ref x1), .val (.ref x1)] [(.ref vb), (.ref va)])) rfl (by rw [hml]; rfl) (argsL := [(.ref va), (.ref vb)]) (rest := []) (lenOf pd___B_B_Z rfl) rfl (by show 2 * 0 + _ ≤ _; exact Nat.le_of_eq rfl) (hb hby d5_44) (fun _ _ => ⟨rfl, e7, (by decide : 0 + 0 ≤ _), (by decide : 0 + 0 ≤ _)⟩)
  dsimp only [Pt.U, Pt.locs, Pt.cells, Pt.slots] at X8 l8 y8 z8 st8 hQ8
  subst l8 y8 z8
  obtain ⟨rfl, N8q, e8⟩ := hQ8
  have N8 := Fr.app N0 N8q
  obtain ⟨fs, hr, hrun, hended, hW, hsame⟩ := X8.leave (v := some (.int (0 : Int32))) (fun h => by rw [Bd.returns] at h; cases h)
  refine ⟨_, _, pre0 _ ?_, hrun, hended, _, _, rfl, ?_, ⟨_, rfl⟩, hW, hsame.mono (by decide) (by decide)⟩
  · show Steps p.tables e below (s₁.setTop (mkF m 0 #[.val (.ref x0), .val (.ref x1), .unset] [])) _
    refine XS.aloadN X0.here hx rfl (hb hby d5_0) rfl rfl ?_
    show Steps p.tables e below (s₁.setTop (mkF m 1 #[.val (.ref x0), .val (.ref x1), .unset] [(.ref x0)])) _
    refine XS.aloadN X0.here hx rfl (hb hby d5_1) rfl rfl ?_
    show Steps p.tables e below (s₁.setTop (mkF m 2 #[.val (.ref x0), .val (.ref x1), .unset] [(.ref x1), (.ref x0)])) _
    refine Jvm.RoadKit.acmp (g := (mkF m 2 #[.val (.ref x0), .val (.ref x1), .unset] [(.ref x1), (.ref x0)])) X0 hx rfl rfl rfl (pc0 := 2) (pc' := 7) (same := false) rfl (hb hby d5_2) rfl (decide_eq_false fun q => hne (Value.ref.inj q)) (by decide) (by decide) ?_
    show Steps p.tables e below (s₁.setTop (mkF m 7 #[.val (.ref x0), .val (.ref x1), .unset] [])) _
    refine XS.aloadN X0.here hx rfl (hb hby d5_7) rfl rfl ?_
    show Steps p.tables e below (s₁.setTop (mkF m 8 #[.val (.ref x0), .val (.ref x1), .unset] [(.ref x1)])) _
    refine st1 _ ?_
    show Steps p.tables e below (T1.setTop (mkF m 11 #[.val (.ref x0), .val (.ref x1), .unset] [(.int (1 : Int32))])) _
    refine XS.ifNo X1.here hx rfl (hb hby d5_11) rfl ((if0 _ _).trans (feq (by decide : ¬ ((1 : Int32) = (0 : Int32)))).1) ?_
    show Steps p.tables e below (T1.setTop (mkF m 14 #[.val (.ref x0), .val (.ref x1), .unset] [])) _
    refine XS.aloadN X1.here hx rfl (hb hby d5_14) rfl rfl ?_
    show Steps p.tables e below (T1.setTop (mkF m 15 #[.val (.ref x0), .val (.ref x1), .unset] [(.ref x1)])) _
    refine st2 _ ?_
    show Steps p.tables e below (T2.setTop (mkF m 18 #[.val (.ref x0), .val (.ref x1), .unset] [(.ref x1)])) _
    refine XS.astoreN X2.here hx rfl (hb hby d5_18) rfl rfl (l' := #[.val (.ref x0), .val (.ref x1), .val (.ref x1)]) rfl ?_
    show Steps p.tables e below (T2.setTop (mkF m 19 #[.val (.ref x0), .val (.ref x1), .val (.ref x1)] [])) _
    refine st3 _ ?_
    show Steps p.tables e below (T3.setTop (mkF m 22 #[.val (.ref x0), .val (.ref x1), .val (.ref x1)] [(.int cs)])) _
    refine XS.ifNo X3.here hx rfl (hb hby d5_22) rfl ((if0 _ _).trans (feq hcs).1) ?_
    show Steps p.tables e below (T3.setTop (mkF m 25 #[.val (.ref x0), .val (.ref x1), .val (.ref x1)] [])) _
    refine XS.aloadN X3.here hx rfl (hb hby d5_25) rfl rfl ?_
    show Steps p.tables e below (T3.setTop (mkF m 26 #[.val (.ref x0), .val (.ref x1), .val (.ref x1)] [(.ref x0)])) _
    refine st4 _ ?_
    show Steps p.tables e below (T4.setTop (mkF m 29 #[.val (.ref x0), .val (.ref x1), .val (.ref x1)] [(.int (0 : Int32))])) _
    refine XS.aloadN X4.here hx rfl (hb hby d5_29) rfl rfl ?_
    show Steps p.tables e below (T4.setTop (mkF m 30 #[.val (.ref x0), .val (.ref x1), .val (.ref x1)] [(.ref x1), (.int (0 : Int32))])) _
    refine st5 _ ?_
    show Steps p.tables e below (T5.setTop (mkF m 33 #[.val (.ref x0), .val (.ref x1), .val (.ref x1)] [(.int (0 : Int32)), (.int (0 : Int32))])) _
    refine XS.icmpNo X5.here hx rfl (hb hby d5_33) rfl (teq (by decide : (0 : Int32) = (0 : Int32))).2 ?_
    show Steps p.tables e below (T5.setTop (mkF m 36 #[.val (.ref x0), .val (.ref x1), .val (.ref x1)] [])) _
    refine XS.aloadN X5.here hx rfl (hb hby d5_36) rfl rfl ?_
    show Steps p.tables e below (T5.setTop (mkF m 37 #[.val (.ref x0), .val (.ref x1), .val (.ref x1)] [(.ref x0)])) _
    refine st6 _ ?_
    show Steps p.tables e below (T6.setTop (mkF m 40 #[.val (.ref x0), .val (.ref x1), .val (.ref x1)] [(.ref va)])) _
    refine XS.aloadN X6.here hx rfl (hb hby d5_40) rfl rfl ?_
    show Steps p.tables e below (T6.setTop (mkF m 41 #[.val (.ref x0), .val (.ref x1), .val (.ref x1)] [(.ref x1), (.ref va)])) _
    refine st7 _ ?_
    show Steps p.tables e below (T7.setTop (mkF m 44 #[.val (.ref x0), .val (.ref x1), .val (.ref x1)] [(.ref vb), (.ref va)])) _
    refine st8 _ ?_
    show Steps p.tables e below (T8.setTop (mkF m 47 #[.val (.ref x0), .val (.ref x1), .val (.ref x1)] [(.int (0 : Int32))])) _
    refine XS.ifYes X8.here hx rfl (pc0 := 47) (pc' := 54) rfl (hb hby d5_47) rfl ((if0 _ _).trans (teq (by decide : (0 : Int32) = (0 : Int32))).1) (by decide) (by decide) ?_
    show Steps p.tables e below (T8.setTop (mkF m 54 #[.val (.ref x0), .val (.ref x1), .val (.ref x1)] [])) _
    refine XS.iconst X8.here hx rfl (hb hby d5_54) ?_
    show Steps p.tables e below (T8.setTop (mkF m 55 #[.val (.ref x0), .val (.ref x1), .val (.ref x1)] [(.int (0 : Int32))])) _
    exact retN X8 hx (t := .boolean) Bd.returns (by simp) (hb hby d5_55) hr
  · exact ⟨rfl, N8, e8⟩
set_option maxRecDepth 65536 in
set_option maxHeartbeats 40000000 in
theorem rmle_14 (l : Launch) (Z : State) (a0 : Array Value) (hw : ∀ d ∈ tables_1, d.before a0 Z = true) (ws : List Jvm.Cond) (x0 : Addr) (x1 : Addr) (k0 k1 : ClassId)  (h0 : Heap) (n0 : Nat) (Z0 : n0 ≤ h0.size) (V_x0 : Arv Z h0 x0 k0 .byte (14 : Int32) [(.int (115 : Int32)), (.int (116 : Int32)), (.int (97 : Int32)), (.int (110 : Int32)), (.int (100 : Int32)), (.int (97 : Int32)), (.int (114 : Int32)), (.int (100 : Int32)), (.int (32 : Int32)), (.int (105 : Int32)), (.int (110 : Int32)), (.int (112 : Int32)), (.int (117 : Int32)), (.int (116 : Int32))] (.int (0 : Int32))) (V_x1 : Arv Z h0 x1 k1 .byte (14 : Int32) [(.int (115 : Int32)), (.int (116 : Int32)), (.int (97 : Int32)), (.int (110 : Int32)), (.int (100 : Int32)), (.int (97 : Int32)), (.int (114 : Int32)), (.int (100 : Int32)), (.int (32 : Int32)), (.int (105 : Int32)), (.int (110 : Int32)), (.int (112 : Int32)), (.int (117 : Int32)), (.int (116 : Int32))] (.int (0 : Int32)))  :
    MetFree l (⟨"java/lang/StringLatin1", "equals", "([B[B)Z"⟩ : MethodName) (head1 (Jvm.Cond.code (⟨"java/lang/StringLatin1", "equals", "([B[B)Z"⟩ : MethodName) jdk_43_method_13_code 3 (some .boolean) :: ws) ({ frames := 0, cells := 0, slots := 0, locals := 0 } : Room)) (fun a U => a = #[(.ref x0), (.ref x1)] ∧ Z.Warmed39 U.vm ∧ U.heap = h0) (fun _ _ _ _ _ => True) (fun _ U o U' => ∃ v L, o = .returned v ∧ (QP (some (.int (1 : Int32))) h0 n0 v U'.heap L) ∧ FrameEnd U o U' L ({ frames := 0, cells := 0, slots := 0, locals := 0 } : Room).cells ({ frames := 0, cells := 0, slots := 0, locals := 0 } : Room).slots) := by
  refine MetFree.of_bodySF (plainFor_of_name pn_6) hisR ?_
  intro p e s m args below meth c s₁ Bd hml0 hP hK
  obtain ⟨rfl, hZ, hh⟩ := hP
  have hx := Bd.exec
  have hby := Bd.bytes
  have hml : c.maxLocals = 3 := hml0
  have hown : s.vm.findClass "java/lang/StringLatin1" = some m.cls := findClass_of_methodNamed Bd.named
  have hnm := (name_of_methodNamed Bd.named Bd.method).1
  have X0 : Stand p l e ({ frames := 0, cells := 0, slots := 0, locals := 0 } : Room) s m #[(.ref x0), (.ref x1)] below meth c s₁ [] 0 0 := Stand.of_body Bd
  have e0 : s₁.heap = h0 := by rw [← hh, Bd.state]; rfl
  have N0 := Fr.nil n0
  have pre0 : ∀ t, Steps p.tables e below (s₁.setTop (mkF m 0 #[.val (.ref x0), .val (.ref x1), .unset] [])) t → Steps p.tables e below (s₁.setTop (entryFrame m #[(.ref x0), (.ref x1)] 3)) t := fun t k => castTop (ef_6 m x0 x1) k
  obtain ⟨fs, hr, hrun, hended, hW, hsame⟩ := X0.leave (v := some (.int (1 : Int32))) (fun h => by rw [Bd.returns] at h; cases h)
  refine ⟨_, _, pre0 _ ?_, hrun, hended, _, _, rfl, ?_, ⟨_, rfl⟩, hW, hsame.mono (by decide) (by decide)⟩
  · show Steps p.tables e below (s₁.setTop (mkF m 0 #[.val (.ref x0), .val (.ref x1), .unset] [])) _
    refine XS.aloadN X0.here hx rfl (hb hby d6_0) rfl rfl ?_
    show Steps p.tables e below (s₁.setTop (mkF m 1 #[.val (.ref x0), .val (.ref x1), .unset] [(.ref x0)])) _
    refine own_len X0 hx hZ e0 V_x0 (g := (mkF m 1 #[.val (.ref x0), .val (.ref x1), .unset] [(.ref x0)])) rfl rfl (hb hby d6_1) ?_
    show Steps p.tables e below (s₁.setTop (mkF m 2 #[.val (.ref x0), .val (.ref x1), .unset] [(.int (14 : Int32))])) _
    refine XS.aloadN X0.here hx rfl (hb hby d6_2) rfl rfl ?_
    show Steps p.tables e below (s₁.setTop (mkF m 3 #[.val (.ref x0), .val (.ref x1), .unset] [(.ref x1), (.int (14 : Int32))])) _
    refine own_len X0 hx hZ e0 V_x1 (g := (mkF m 3 #[.val (.ref x0), .val (.ref x1), .unset] [(.ref x1), (.int (14 : Int32))])) rfl rfl (hb hby d6_3) ?_
    show Steps p.tables e below (s₁.setTop (mkF m 4 #[.val (.ref x0), .val (.ref x1), .unset] [(.int (14 : Int32)), (.int (14 : Int32))])) _
    refine XS.icmpNo X0.here hx rfl (hb hby d6_4) rfl (teq (by decide : (14 : Int32) = (14 : Int32))).2 ?_
    show Steps p.tables e below (s₁.setTop (mkF m 7 #[.val (.ref x0), .val (.ref x1), .unset] [])) _
    refine XS.iconst X0.here hx rfl (hb hby d6_7) ?_
    show Steps p.tables e below (s₁.setTop (mkF m 8 #[.val (.ref x0), .val (.ref x1), .unset] [(.int (0 : Int32))])) _
    refine XS.istoreN X0.here hx rfl (hb hby d6_8) rfl (l' := #[.val (.ref x0), .val (.ref x1), .val (.int (0 : Int32))]) rfl ?_
    show Steps p.tables e below (s₁.setTop (mkF m 9 #[.val (.ref x0), .val (.ref x1), .val (.int (0 : Int32))] [])) _
    refine XS.iloadN X0.here hx rfl (hb hby d6_9) rfl ?_
    show Steps p.tables e below (s₁.setTop (mkF m 10 #[.val (.ref x0), .val (.ref x1), .val (.int (0 : Int32))] [(.int (0 : Int32))])) _
    refine XS.aloadN X0.here hx rfl (hb hby d6_10) rfl rfl ?_
    show Steps p.tables e below (s₁.setTop (mkF m 11 #[.val (.ref x0), .val (.ref x1), .val (.int (0 : Int32))] [(.ref x0), (.int (0 : Int32))])) _
    refine own_len X0 hx hZ e0 V_x0 (g := (mkF m 11 #[.val (.ref x0), .val (.ref x1), .val (.int (0 : Int32))] [(.ref x0), (.int (0 : Int32))])) rfl rfl (hb hby d6_11) ?_
    show Steps p.tables e below (s₁.setTop (mkF m 12 #[.val (.ref x0), .val (.ref x1), .val (.int (0 : Int32))] [(.int (14 : Int32)), (.int (0 : Int32))])) _
    refine XS.icmpNo X0.here hx rfl (hb hby d6_12) rfl (tlt (by decide : (0 : Int32) < (14 : Int32))).2.1 ?_
    show Steps p.tables e below (s₁.setTop (mkF m 15 #[.val (.ref x0), .val (.ref x1), .val (.int (0 : Int32))] [])) _
    refine XS.aloadN X0.here hx rfl (hb hby d6_15) rfl rfl ?_
    show Steps p.tables e below (s₁.setTop (mkF m 16 #[.val (.ref x0), .val (.ref x1), .val (.int (0 : Int32))] [(.ref x0)])) _
    refine XS.iloadN X0.here hx rfl (hb hby d6_16) rfl ?_
    show Steps p.tables e below (s₁.setTop (mkF m 17 #[.val (.ref x0), .val (.ref x1), .val (.int (0 : Int32))] [(.int (0 : Int32)), (.ref x0)])) _
    refine own_ldB X0 hx hZ e0 V_x0 (j := (0 : Int32)) (w := (115 : Int32)) ⟨by decide, by decide⟩ rfl (g := (mkF m 17 #[.val (.ref x0), .val (.ref x1), .val (.int (0 : Int32))] [(.int (0 : Int32)), (.ref x0)])) rfl rfl (hb hby d6_17) ?_
    show Steps p.tables e below (s₁.setTop (mkF m 18 #[.val (.ref x0), .val (.ref x1), .val (.int (0 : Int32))] [(.int (115 : Int32))])) _
    refine XS.aloadN X0.here hx rfl (hb hby d6_18) rfl rfl ?_
    show Steps p.tables e below (s₁.setTop (mkF m 19 #[.val (.ref x0), .val (.ref x1), .val (.int (0 : Int32))] [(.ref x1), (.int (115 : Int32))])) _
    refine XS.iloadN X0.here hx rfl (hb hby d6_19) rfl ?_
    show Steps p.tables e below (s₁.setTop (mkF m 20 #[.val (.ref x0), .val (.ref x1), .val (.int (0 : Int32))] [(.int (0 : Int32)), (.ref x1), (.int (115 : Int32))])) _
    refine own_ldB X0 hx hZ e0 V_x1 (j := (0 : Int32)) (w := (115 : Int32)) ⟨by decide, by decide⟩ rfl (g := (mkF m 20 #[.val (.ref x0), .val (.ref x1), .val (.int (0 : Int32))] [(.int (0 : Int32)), (.ref x1), (.int (115 : Int32))])) rfl rfl (hb hby d6_20) ?_
    show Steps p.tables e below (s₁.setTop (mkF m 21 #[.val (.ref x0), .val (.ref x1), .val (.int (0 : Int32))] [(.int (115 : Int32)), (.int (115 : Int32))])) _
    refine XS.icmpYes X0.here hx rfl (pc0 := 21) (pc' := 26) rfl (hb hby d6_21) rfl (teq (by decide : (115 : Int32) = (115 : Int32))).1 (by decide) (by decide) ?_
    show Steps p.tables e below (s₁.setTop (mkF m 26 #[.val (.ref x0), .val (.ref x1), .val (.int (0 : Int32))] [])) _
    refine XS.iinc X0.here hx rfl (hb hby d6_26) rfl (l' := #[.val (.ref x0), .val (.ref x1), .val (.int ((0 : Int32) + (1 : Int32)))]) rfl ?_
    show Steps p.tables e below (s₁.setTop (mkF m 29 #[.val (.ref x0), .val (.ref x1), .val (.int ((0 : Int32) + (1 : Int32)))] [])) _
    rw [show ((0 : Int32) + (1 : Int32)) = (1 : Int32) from by decide]
    show Steps p.tables e below (s₁.setTop (mkF m 29 #[.val (.ref x0), .val (.ref x1), .val (.int (1 : Int32))] [])) _
    refine XS.goto X0.here hx rfl (pc0 := 29) (pc' := 9) rfl (hb hby d6_29) (by decide) (by decide) ?_
    show Steps p.tables e below (s₁.setTop (mkF m 9 #[.val (.ref x0), .val (.ref x1), .val (.int (1 : Int32))] [])) _
    refine XS.iloadN X0.here hx rfl (hb hby d6_9) rfl ?_
    show Steps p.tables e below (s₁.setTop (mkF m 10 #[.val (.ref x0), .val (.ref x1), .val (.int (1 : Int32))] [(.int (1 : Int32))])) _
    refine XS.aloadN X0.here hx rfl (hb hby d6_10) rfl rfl ?_
    show Steps p.tables e below (s₁.setTop (mkF m 11 #[.val (.ref x0), .val (.ref x1), .val (.int (1 : Int32))] [(.ref x0), (.int (1 : Int32))])) _
    refine own_len X0 hx hZ e0 V_x0 (g := (mkF m 11 #[.val (.ref x0), .val (.ref x1), .val (.int (1 : Int32))] [(.ref x0), (.int (1 : Int32))])) rfl rfl (hb hby d6_11) ?_
    show Steps p.tables e below (s₁.setTop (mkF m 12 #[.val (.ref x0), .val (.ref x1), .val (.int (1 : Int32))] [(.int (14 : Int32)), (.int (1 : Int32))])) _
    refine XS.icmpNo X0.here hx rfl (hb hby d6_12) rfl (tlt (by decide : (1 : Int32) < (14 : Int32))).2.1 ?_
    show Steps p.tables e below (s₁.setTop (mkF m 15 #[.val (.ref x0), .val (.ref x1), .val (.int (1 : Int32))] [])) _
    refine XS.aloadN X0.here hx rfl (hb hby d6_15) rfl rfl ?_
    show Steps p.tables e below (s₁.setTop (mkF m 16 #[.val (.ref x0), .val (.ref x1), .val (.int (1 : Int32))] [(.ref x0)])) _
    refine XS.iloadN X0.here hx rfl (hb hby d6_16) rfl ?_
    show Steps p.tables e below (s₁.setTop (mkF m 17 #[.val (.ref x0), .val (.ref x1), .val (.int (1 : Int32))] [(.int (1 : Int32)), (.ref x0)])) _
    refine own_ldB X0 hx hZ e0 V_x0 (j := (1 : Int32)) (w := (116 : Int32)) ⟨by decide, by decide⟩ rfl (g := (mkF m 17 #[.val (.ref x0), .val (.ref x1), .val (.int (1 : Int32))] [(.int (1 : Int32)), (.ref x0)])) rfl rfl (hb hby d6_17) ?_
    show Steps p.tables e below (s₁.setTop (mkF m 18 #[.val (.ref x0), .val (.ref x1), .val (.int (1 : Int32))] [(.int (116 : Int32))])) _
    refine XS.aloadN X0.here hx rfl (hb hby d6_18) rfl rfl ?_
    show Steps p.tables e below (s₁.setTop (mkF m 19 #[.val (.ref x0), .val (.ref x1), .val (.int (1 : Int32))] [(.ref x1), (.int (116 : Int32))])) _
    refine XS.iloadN X0.here hx rfl (hb hby d6_19) rfl ?_
    show Steps p.tables e below (s₁.setTop (mkF m 20 #[.val (.ref x0), .val (.ref x1), .val (.int (1 : Int32))] [(.int (1 : Int32)), (.ref x1), (.int (116 : Int32))])) _
    refine own_ldB X0 hx hZ e0 V_x1 (j := (1 : Int32)) (w := (116 : Int32)) ⟨by decide, by decide⟩ rfl (g := (mkF m 20 #[.val (.ref x0), .val (.ref x1), .val (.int (1 : Int32))] [(.int (1 : Int32)), (.ref x1), (.int (116 : Int32))])) rfl rfl (hb hby d6_20) ?_
    show Steps p.tables e below (s₁.setTop (mkF m 21 #[.val (.ref x0), .val (.ref x1), .val (.int (1 : Int32))] [(.int (116 : Int32)), (.int (116 : Int32))])) _
    refine XS.icmpYes X0.here hx rfl (pc0 := 21) (pc' := 26) rfl (hb hby d6_21) rfl (teq (by decide : (116 : Int32) = (116 : Int32))).1 (by decide) (by decide) ?_
    show Steps p.tables e below (s₁.setTop (mkF m 26 #[.val (.ref x0), .val (.ref x1), .val (.int (1 : Int32))] [])) _
    refine XS.iinc X0.here hx rfl (hb hby d6_26) rfl (l' := #[.val (.ref x0), .val (.ref x1), .val (.int ((1 : Int32) + (1 : Int32)))]) rfl ?_
    show Steps p.tables e below (s₁.setTop (mkF m 29 #[.val (.ref x0), .val (.ref x1), .val (.int ((1 : Int32) + (1 : Int32)))] [])) _
    rw [show ((1 : Int32) + (1 : Int32)) = (2 : Int32) from by decide]
    show Steps p.tables e below (s₁.setTop (mkF m 29 #[.val (.ref x0), .val (.ref x1), .val (.int (2 : Int32))] [])) _
    refine XS.goto X0.here hx rfl (pc0 := 29) (pc' := 9) rfl (hb hby d6_29) (by decide) (by decide) ?_
    show Steps p.tables e below (s₁.setTop (mkF m 9 #[.val (.ref x0), .val (.ref x1), .val (.int (2 : Int32))] [])) _
    refine XS.iloadN X0.here hx rfl (hb hby d6_9) rfl ?_
    show Steps p.tables e below (s₁.setTop (mkF m 10 #[.val (.ref x0), .val (.ref x1), .val (.int (2 : Int32))] [(.int (2 : Int32))])) _
    refine XS.aloadN X0.here hx rfl (hb hby d6_10) rfl rfl ?_
    show Steps p.tables e below (s₁.setTop (mkF m 11 #[.val (.ref x0), .val (.ref x1), .val (.int (2 : Int32))] [(.ref x0), (.int (2 : Int32))])) _
    refine own_len X0 hx hZ e0 V_x0 (g := (mkF m 11 #[.val (.ref x0), .val (.ref x1), .val (.int (2 : Int32))] [(.ref x0), (.int (2 : Int32))])) rfl rfl (hb hby d6_11) ?_
    show Steps p.tables e below (s₁.setTop (mkF m 12 #[.val (.ref x0), .val (.ref x1), .val (.int (2 : Int32))] [(.int (14 : Int32)), (.int (2 : Int32))])) _
    refine XS.icmpNo X0.here hx rfl (hb hby d6_12) rfl (tlt (by decide : (2 : Int32) < (14 : Int32))).2.1 ?_
    show Steps p.tables e below (s₁.setTop (mkF m 15 #[.val (.ref x0), .val (.ref x1), .val (.int (2 : Int32))] [])) _
    refine XS.aloadN X0.here hx rfl (hb hby d6_15) rfl rfl ?_
    show Steps p.tables e below (s₁.setTop (mkF m 16 #[.val (.ref x0), .val (.ref x1), .val (.int (2 : Int32))] [(.ref x0)])) _
    refine XS.iloadN X0.here hx rfl (hb hby d6_16) rfl ?_
    show Steps p.tables e below (s₁.setTop (mkF m 17 #[.val (.ref x0), .val (.ref x1), .val (.int (2 : Int32))] [(.int (2 : Int32)), (.ref x0)])) _
    refine own_ldB X0 hx hZ e0 V_x0 (j := (2 : Int32)) (w := (97 : Int32)) ⟨by decide, by decide⟩ rfl (g := (mkF m 17 #[.val (.ref x0), .val (.ref x1), .val (.int (2 : Int32))] [(.int (2 : Int32)), (.ref x0)])) rfl rfl (hb hby d6_17) ?_
    show Steps p.tables e below (s₁.setTop (mkF m 18 #[.val (.ref x0), .val (.ref x1), .val (.int (2 : Int32))] [(.int (97 : Int32))])) _
    refine XS.aloadN X0.here hx rfl (hb hby d6_18) rfl rfl ?_
    show Steps p.tables e below (s₁.setTop (mkF m 19 #[.val (.ref x0), .val (.ref x1), .val (.int (2 : Int32))] [(.ref x1), (.int (97 : Int32))])) _
    refine XS.iloadN X0.here hx rfl (hb hby d6_19) rfl ?_
    show Steps p.tables e below (s₁.setTop (mkF m 20 #[.val (.ref x0), .val (.ref x1), .val (.int (2 : Int32))] [(.int (2 : Int32)), (.ref x1), (.int (97 : Int32))])) _
    refine own_ldB X0 hx hZ e0 V_x1 (j := (2 : Int32)) (w := (97 : Int32)) ⟨by decide, by decide⟩ rfl (g := (mkF m 20 #[.val (.ref x0), .val (.ref x1), .val (.int (2 : Int32))] [(.int (2 : Int32)), (.ref x1), (.int (97 : Int32))])) rfl rfl (hb hby d6_20) ?_
    show Steps p.tables e below (s₁.setTop (mkF m 21 #[.val (.ref x0), .val (.ref x1), .val (.int (2 : Int32))] [(.int (97 : Int32)), (.int (97 : Int32))])) _
    refine XS.icmpYes X0.here hx rfl (pc0 := 21) (pc' := 26) rfl (hb hby d6_21) rfl (teq (by decide : (97 : Int32) = (97 : Int32))).1 (by decide) (by decide) ?_
    show Steps p.tables e below (s₁.setTop (mkF m 26 #[.val (.ref x0), .val (.ref x1), .val (.int (2 : Int32))] [])) _
    refine XS.iinc X0.here hx rfl (hb hby d6_26) rfl (l' := #[.val (.ref x0), .val (.ref x1), .val (.int ((2 : Int32) + (1 : Int32)))]) rfl ?_
    show Steps p.tables e below (s₁.setTop (mkF m 29 #[.val (.ref x0), .val (.ref x1), .val (.int ((2 : Int32) + (1 : Int32)))] [])) _
    rw [show ((2 : Int32) + (1 : Int32)) = (3 : Int32) from by decide]
    show Steps p.tables e below (s₁.setTop (mkF m 29 #[.val (.ref x0), .val (.ref x1), .val (.int (3 : Int32))] [])) _
    refine XS.goto X0.here hx rfl (pc0 := 29) (pc' := 9) rfl (hb hby d6_29) (by decide) (by decide) ?_
    show Steps p.tables e below (s₁.setTop (mkF m 9 #[.val (.ref x0), .val (.ref x1), .val (.int (3 : Int32))] [])) _
    refine XS.iloadN X0.here hx rfl (hb hby d6_9) rfl ?_
    show Steps p.tables e below (s₁.setTop (mkF m 10 #[.val (.ref x0), .val (.ref x1), .val (.int (3 : Int32))] [(.int (3 : Int32))])) _
    refine XS.aloadN X0.here hx rfl (hb hby d6_10) rfl rfl ?_
    show Steps p.tables e below (s₁.setTop (mkF m 11 #[.val (.ref x0), .val (.ref x1), .val (.int (3 : Int32))] [(.ref x0), (.int (3 : Int32))])) _
    refine own_len X0 hx hZ e0 V_x0 (g := (mkF m 11 #[.val (.ref x0), .val (.ref x1), .val (.int (3 : Int32))] [(.ref x0), (.int (3 : Int32))])) rfl rfl (hb hby d6_11) ?_
    show Steps p.tables e below (s₁.setTop (mkF m 12 #[.val (.ref x0), .val (.ref x1), .val (.int (3 : Int32))] [(.int (14 : Int32)), (.int (3 : Int32))])) _
    refine XS.icmpNo X0.here hx rfl (hb hby d6_12) rfl (tlt (by decide : (3 : Int32) < (14 : Int32))).2.1 ?_
    show Steps p.tables e below (s₁.setTop (mkF m 15 #[.val (.ref x0), .val (.ref x1), .val (.int (3 : Int32))] [])) _
    refine XS.aloadN X0.here hx rfl (hb hby d6_15) rfl rfl ?_
    show Steps p.tables e below (s₁.setTop (mkF m 16 #[.val (.ref x0), .val (.ref x1), .val (.int (3 : Int32))] [(.ref x0)])) _
    refine XS.iloadN X0.here hx rfl (hb hby d6_16) rfl ?_
    show Steps p.tables e below (s₁.setTop (mkF m 17 #[.val (.ref x0), .val (.ref x1), .val (.int (3 : Int32))] [(.int (3 : Int32)), (.ref x0)])) _
    refine own_ldB X0 hx hZ e0 V_x0 (j := (3 : Int32)) (w := (110 : Int32)) ⟨by decide, by decide⟩ rfl (g := (mkF m 17 #[.val (.ref x0), .val (.ref x1), .val (.int (3 : Int32))] [(.int (3 : Int32)), (.ref x0)])) rfl rfl (hb hby d6_17) ?_
    show Steps p.tables e below (s₁.setTop (mkF m 18 #[.val (.ref x0), .val (.ref x1), .val (.int (3 : Int32))] [(.int (110 : Int32))])) _
    refine XS.aloadN X0.here hx rfl (hb hby d6_18) rfl rfl ?_
    show Steps p.tables e below (s₁.setTop (mkF m 19 #[.val (.ref x0), .val (.ref x1), .val (.int (3 : Int32))] [(.ref x1), (.int (110 : Int32))])) _
    refine XS.iloadN X0.here hx rfl (hb hby d6_19) rfl ?_
    show Steps p.tables e below (s₁.setTop (mkF m 20 #[.val (.ref x0), .val (.ref x1), .val (.int (3 : Int32))] [(.int (3 : Int32)), (.ref x1), (.int (110 : Int32))])) _
    refine own_ldB X0 hx hZ e0 V_x1 (j := (3 : Int32)) (w := (110 : Int32)) ⟨by decide, by decide⟩ rfl (g := (mkF m 20 #[.val (.ref x0), .val (.ref x1), .val (.int (3 : Int32))] [(.int (3 : Int32)), (.ref x1), (.int (110 : Int32))])) rfl rfl (hb hby d6_20) ?_
    show Steps p.tables e below (s₁.setTop (mkF m 21 #[.val (.ref x0), .val (.ref x1), .val (.int (3 : Int32))] [(.int (110 : Int32)), (.int (110 : Int32))])) _
    refine XS.icmpYes X0.here hx rfl (pc0 := 21) (pc' := 26) rfl (hb hby d6_21) rfl (teq (by decide : (110 : Int32) = (110 : Int32))).1 (by decide) (by decide) ?_
    show Steps p.tables e below (s₁.setTop (mkF m 26 #[.val (.ref x0), .val (.ref x1), .val (.int (3 : Int32))] [])) _
    refine XS.iinc X0.here hx rfl (hb hby d6_26) rfl (l' := #[.val (.ref x0), .val (.ref x1), .val (.int ((3 : Int32) + (1 : Int32)))]) rfl ?_
    show Steps p.tables e below (s₁.setTop (mkF m 29 #[.val (.ref x0), .val (.ref x1), .val (.int ((3 : Int32) + (1 : Int32)))] [])) _
    rw [show ((3 : Int32) + (1 : Int32)) = (4 : Int32) from by decide]
    show Steps p.tables e below (s₁.setTop (mkF m 29 #[.val (.ref x0), .val (.ref x1), .val (.int (4 : Int32))] [])) _
    refine XS.goto X0.here hx rfl (pc0 := 29) (pc' := 9) rfl (hb hby d6_29) (by decide) (by decide) ?_
    show Steps p.tables e below (s₁.setTop (mkF m 9 #[.val (.ref x0), .val (.ref x1), .val (.int (4 : Int32))] [])) _
    refine XS.iloadN X0.here hx rfl (hb hby d6_9) rfl ?_
    show Steps p.tables e below (s₁.setTop (mkF m 10 #[.val (.ref x0), .val (.ref x1), .val (.int (4 : Int32))] [(.int (4 : Int32))])) _
    refine XS.aloadN X0.here hx rfl (hb hby d6_10) rfl rfl ?_
    show Steps p.tables e below (s₁.setTop (mkF m 11 #[.val (.ref x0), .val (.ref x1), .val (.int (4 : Int32))] [(.ref x0), (.int (4 : Int32))])) _
    refine own_len X0 hx hZ e0 V_x0 (g := (mkF m 11 #[.val (.ref x0), .val (.ref x1), .val (.int (4 : Int32))] [(.ref x0), (.int (4 : Int32))])) rfl rfl (hb hby d6_11) ?_
    show Steps p.tables e below (s₁.setTop (mkF m 12 #[.val (.ref x0), .val (.ref x1), .val (.int (4 : Int32))] [(.int (14 : Int32)), (.int (4 : Int32))])) _
    refine XS.icmpNo X0.here hx rfl (hb hby d6_12) rfl (tlt (by decide : (4 : Int32) < (14 : Int32))).2.1 ?_
    show Steps p.tables e below (s₁.setTop (mkF m 15 #[.val (.ref x0), .val (.ref x1), .val (.int (4 : Int32))] [])) _
    refine XS.aloadN X0.here hx rfl (hb hby d6_15) rfl rfl ?_
    show Steps p.tables e below (s₁.setTop (mkF m 16 #[.val (.ref x0), .val (.ref x1), .val (.int (4 : Int32))] [(.ref x0)])) _
    refine XS.iloadN X0.here hx rfl (hb hby d6_16) rfl ?_
    show Steps p.tables e below (s₁.setTop (mkF m 17 #[.val (.ref x0), .val (.ref x1), .val (.int (4 : Int32))] [(.int (4 : Int32)), (.ref x0)])) _
    refine own_ldB X0 hx hZ e0 V_x0 (j := (4 : Int32)) (w := (100 : Int32)) ⟨by decide, by decide⟩ rfl (g := (mkF m 17 #[.val (.ref x0), .val (.ref x1), .val (.int (4 : Int32))] [(.int (4 : Int32)), (.ref x0)])) rfl rfl (hb hby d6_17) ?_
    show Steps p.tables e below (s₁.setTop (mkF m 18 #[.val (.ref x0), .val (.ref x1), .val (.int (4 : Int32))] [(.int (100 : Int32))])) _
    refine XS.aloadN X0.here hx rfl (hb hby d6_18) rfl rfl ?_
    show Steps p.tables e below (s₁.setTop (mkF m 19 #[.val (.ref x0), .val (.ref x1), .val (.int (4 : Int32))] [(.ref x1), (.int (100 : Int32))])) _
    refine XS.iloadN X0.here hx rfl (hb hby d6_19) rfl ?_
    show Steps p.tables e below (s₁.setTop (mkF m 20 #[.val (.ref x0), .val (.ref x1), .val (.int (4 : Int32))] [(.int (4 : Int32)), (.ref x1), (.int (100 : Int32))])) _
    refine own_ldB X0 hx hZ e0 V_x1 (j := (4 : Int32)) (w := (100 : Int32)) ⟨by decide, by decide⟩ rfl (g := (mkF m 20 #[.val (.ref x0), .val (.ref x1), .val (.int (4 : Int32))] [(.int (4 : Int32)), (.ref x1), (.int (100 : Int32))])) rfl rfl (hb hby d6_20) ?_
    show Steps p.tables e below (s₁.setTop (mkF m 21 #[.val (.ref x0), .val (.ref x1), .val (.int (4 : Int32))] [(.int (100 : Int32)), (.int (100 : Int32))])) _
    refine XS.icmpYes X0.here hx rfl (pc0 := 21) (pc' := 26) rfl (hb hby d6_21) rfl (teq (by decide : (100 : Int32) = (100 : Int32))).1 (by decide) (by decide) ?_
    show Steps p.tables e below (s₁.setTop (mkF m 26 #[.val (.ref x0), .val (.ref x1), .val (.int (4 : Int32))] [])) _
    refine XS.iinc X0.here hx rfl (hb hby d6_26) rfl (l' := #[.val (.ref x0), .val (.ref x1), .val (.int ((4 : Int32) + (1 : Int32)))]) rfl ?_
    show Steps p.tables e below (s₁.setTop (mkF m 29 #[.val (.ref x0), .val (.ref x1), .val (.int ((4 : Int32) + (1 : Int32)))] [])) _
    rw [show ((4 : Int32) + (1 : Int32)) = (5 : Int32) from by decide]
    show Steps p.tables e below (s₁.setTop (mkF m 29 #[.val (.ref x0), .val (.ref x1), .val (.int (5 : Int32))] [])) _
    refine XS.goto X0.here hx rfl (pc0 := 29) (pc' := 9) rfl (hb hby d6_29) (by decide) (by decide) ?_
    show Steps p.tables e below (s₁.setTop (mkF m 9 #[.val (.ref x0), .val (.ref x1), .val (.int (5 : Int32))] [])) _
    refine XS.iloadN X0.here hx rfl (hb hby d6_9) rfl ?_
    show Steps p.tables e below (s₁.setTop (mkF m 10 #[.val (.ref x0), .val (.ref x1), .val (.int (5 : Int32))] [(.int (5 : Int32))])) _
    refine XS.aloadN X0.here hx rfl (hb hby d6_10) rfl rfl ?_
    show Steps p.tables e below (s₁.setTop (mkF m 11 #[.val (.ref x0), .val (.ref x1), .val (.int (5 : Int32))] [(.ref x0), (.int (5 : Int32))])) _
    refine own_len X0 hx hZ e0 V_x0 (g := (mkF m 11 #[.val (.ref x0), .val (.ref x1), .val (.int (5 : Int32))] [(.ref x0), (.int (5 : Int32))])) rfl rfl (hb hby d6_11) ?_
    show Steps p.tables e below (s₁.setTop (mkF m 12 #[.val (.ref x0), .val (.ref x1), .val (.int (5 : Int32))] [(.int (14 : Int32)), (.int (5 : Int32))])) _
    refine XS.icmpNo X0.here hx rfl (hb hby d6_12) rfl (tlt (by decide : (5 : Int32) < (14 : Int32))).2.1 ?_
    show Steps p.tables e below (s₁.setTop (mkF m 15 #[.val (.ref x0), .val (.ref x1), .val (.int (5 : Int32))] [])) _
    refine XS.aloadN X0.here hx rfl (hb hby d6_15) rfl rfl ?_
    show Steps p.tables e below (s₁.setTop (mkF m 16 #[.val (.ref x0), .val (.ref x1), .val (.int (5 : Int32))] [(.ref x0)])) _
    refine XS.iloadN X0.here hx rfl (hb hby d6_16) rfl ?_
    show Steps p.tables e below (s₁.setTop (mkF m 17 #[.val (.ref x0), .val (.ref x1), .val (.int (5 : Int32))] [(.int (5 : Int32)), (.ref x0)])) _
    refine own_ldB X0 hx hZ e0 V_x0 (j := (5 : Int32)) (w := (97 : Int32)) ⟨by decide, by decide⟩ rfl (g := (mkF m 17 #[.val (.ref x0), .val (.ref x1), .val (.int (5 : Int32))] [(.int (5 : Int32)), (.ref x0)])) rfl rfl (hb hby d6_17) ?_
    show Steps p.tables e below (s₁.setTop (mkF m 18 #[.val (.ref x0), .val (.ref x1), .val (.int (5 : Int32))] [(.int (97 : Int32))])) _
    refine XS.aloadN X0.here hx rfl (hb hby d6_18) rfl rfl ?_
    show Steps p.tables e below (s₁.setTop (mkF m 19 #[.val (.ref x0), .val (.ref x1), .val (.int (5 : Int32))] [(.ref x1), (.int (97 : Int32))])) _
    refine XS.iloadN X0.here hx rfl (hb hby d6_19) rfl ?_
    show Steps p.tables e below (s₁.setTop (mkF m 20 #[.val (.ref x0), .val (.ref x1), .val (.int (5 : Int32))] [(.int (5 : Int32)), (.ref x1), (.int (97 : Int32))])) _
    refine own_ldB X0 hx hZ e0 V_x1 (j := (5 : Int32)) (w := (97 : Int32)) ⟨by decide, by decide⟩ rfl (g := (mkF m 20 #[.val (.ref x0), .val (.ref x1), .val (.int (5 : Int32))] [(.int (5 : Int32)), (.ref x1), (.int (97 : Int32))])) rfl rfl (hb hby d6_20) ?_
    show Steps p.tables e below (s₁.setTop (mkF m 21 #[.val (.ref x0), .val (.ref x1), .val (.int (5 : Int32))] [(.int (97 : Int32)), (.int (97 : Int32))])) _
    refine XS.icmpYes X0.here hx rfl (pc0 := 21) (pc' := 26) rfl (hb hby d6_21) rfl (teq (by decide : (97 : Int32) = (97 : Int32))).1 (by decide) (by decide) ?_
    show Steps p.tables e below (s₁.setTop (mkF m 26 #[.val (.ref x0), .val (.ref x1), .val (.int (5 : Int32))] [])) _
    refine XS.iinc X0.here hx rfl (hb hby d6_26) rfl (l' := #[.val (.ref x0), .val (.ref x1), .val (.int ((5 : Int32) + (1 : Int32)))]) rfl ?_
    show Steps p.tables e below (s₁.setTop (mkF m 29 #[.val (.ref x0), .val (.ref x1), .val (.int ((5 : Int32) + (1 : Int32)))] [])) _
    rw [show ((5 : Int32) + (1 : Int32)) = (6 : Int32) from by decide]
    show Steps p.tables e below (s₁.setTop (mkF m 29 #[.val (.ref x0), .val (.ref x1), .val (.int (6 : Int32))] [])) _
    refine XS.goto X0.here hx rfl (pc0 := 29) (pc' := 9) rfl (hb hby d6_29) (by decide) (by decide) ?_
    show Steps p.tables e below (s₁.setTop (mkF m 9 #[.val (.ref x0), .val (.ref x1), .val (.int (6 : Int32))] [])) _
    refine XS.iloadN X0.here hx rfl (hb hby d6_9) rfl ?_
    show Steps p.tables e below (s₁.setTop (mkF m 10 #[.val (.ref x0), .val (.ref x1), .val (.int (6 : Int32))] [(.int (6 : Int32))])) _
    refine XS.aloadN X0.here hx rfl (hb hby d6_10) rfl rfl ?_
    show Steps p.tables e below (s₁.setTop (mkF m 11 #[.val (.ref x0), .val (.ref x1), .val (.int (6 : Int32))] [(.ref x0), (.int (6 : Int32))])) _
    refine own_len X0 hx hZ e0 V_x0 (g := (mkF m 11 #[.val (.ref x0), .val (.ref x1), .val (.int (6 : Int32))] [(.ref x0), (.int (6 : Int32))])) rfl rfl (hb hby d6_11) ?_
    show Steps p.tables e below (s₁.setTop (mkF m 12 #[.val (.ref x0), .val (.ref x1), .val (.int (6 : Int32))] [(.int (14 : Int32)), (.int (6 : Int32))])) _
    refine XS.icmpNo X0.here hx rfl (hb hby d6_12) rfl (tlt (by decide : (6 : Int32) < (14 : Int32))).2.1 ?_
    show Steps p.tables e below (s₁.setTop (mkF m 15 #[.val (.ref x0), .val (.ref x1), .val (.int (6 : Int32))] [])) _
    refine XS.aloadN X0.here hx rfl (hb hby d6_15) rfl rfl ?_
    show Steps p.tables e below (s₁.setTop (mkF m 16 #[.val (.ref x0), .val (.ref x1), .val (.int (6 : Int32))] [(.ref x0)])) _
    refine XS.iloadN X0.here hx rfl (hb hby d6_16) rfl ?_
    show Steps p.tables e below (s₁.setTop (mkF m 17 #[.val (.ref x0), .val (.ref x1), .val (.int (6 : Int32))] [(.int (6 : Int32)), (.ref x0)])) _
    refine own_ldB X0 hx hZ e0 V_x0 (j := (6 : Int32)) (w := (114 : Int32)) ⟨by decide, by decide⟩ rfl (g := (mkF m 17 #[.val (.ref x0), .val (.ref x1), .val (.int (6 : Int32))] [(.int (6 : Int32)), (.ref x0)])) rfl rfl (hb hby d6_17) ?_
    show Steps p.tables e below (s₁.setTop (mkF m 18 #[.val (.ref x0), .val (.ref x1), .val (.int (6 : Int32))] [(.int (114 : Int32))])) _
    refine XS.aloadN X0.here hx rfl (hb hby d6_18) rfl rfl ?_
    show Steps p.tables e below (s₁.setTop (mkF m 19 #[.val (.ref x0), .val (.ref x1), .val (.int (6 : Int32))] [(.ref x1), (.int (114 : Int32))])) _
    refine XS.iloadN X0.here hx rfl (hb hby d6_19) rfl ?_
    show Steps p.tables e below (s₁.setTop (mkF m 20 #[.val (.ref x0), .val (.ref x1), .val (.int (6 : Int32))] [(.int (6 : Int32)), (.ref x1), (.int (114 : Int32))])) _
    refine own_ldB X0 hx hZ e0 V_x1 (j := (6 : Int32)) (w := (114 : Int32)) ⟨by decide, by decide⟩ rfl (g := (mkF m 20 #[.val (.ref x0), .val (.ref x1), .val (.int (6 : Int32))] [(.int (6 : Int32)), (.ref x1), (.int (114 : Int32))])) rfl rfl (hb hby d6_20) ?_
    show Steps p.tables e below (s₁.setTop (mkF m 21 #[.val (.ref x0), .val (.ref x1), .val (.int (6 : Int32))] [(.int (114 : Int32)), (.int (114 : Int32))])) _
    refine XS.icmpYes X0.here hx rfl (pc0 := 21) (pc' := 26) rfl (hb hby d6_21) rfl (teq (by decide : (114 : Int32) = (114 : Int32))).1 (by decide) (by decide) ?_
    show Steps p.tables e below (s₁.setTop (mkF m 26 #[.val (.ref x0), .val (.ref x1), .val (.int (6 : Int32))] [])) _
    refine XS.iinc X0.here hx rfl (hb hby d6_26) rfl (l' := #[.val (.ref x0), .val (.ref x1), .val (.int ((6 : Int32) + (1 : Int32)))]) rfl ?_
    show Steps p.tables e below (s₁.setTop (mkF m 29 #[.val (.ref x0), .val (.ref x1), .val (.int ((6 : Int32) + (1 : Int32)))] [])) _
    rw [show ((6 : Int32) + (1 : Int32)) = (7 : Int32) from by decide]
    show Steps p.tables e below (s₁.setTop (mkF m 29 #[.val (.ref x0), .val (.ref x1), .val (.int (7 : Int32))] [])) _
    refine XS.goto X0.here hx rfl (pc0 := 29) (pc' := 9) rfl (hb hby d6_29) (by decide) (by decide) ?_
    show Steps p.tables e below (s₁.setTop (mkF m 9 #[.val (.ref x0), .val (.ref x1), .val (.int (7 : Int32))] [])) _
    refine XS.iloadN X0.here hx rfl (hb hby d6_9) rfl ?_
    show Steps p.tables e below (s₁.setTop (mkF m 10 #[.val (.ref x0), .val (.ref x1), .val (.int (7 : Int32))] [(.int (7 : Int32))])) _
    refine XS.aloadN X0.here hx rfl (hb hby d6_10) rfl rfl ?_
    show Steps p.tables e below (s₁.setTop (mkF m 11 #[.val (.ref x0), .val (.ref x1), .val (.int (7 : Int32))] [(.ref x0), (.int (7 : Int32))])) _
    refine own_len X0 hx hZ e0 V_x0 (g := (mkF m 11 #[.val (.ref x0), .val (.ref x1), .val (.int (7 : Int32))] [(.ref x0), (.int (7 : Int32))])) rfl rfl (hb hby d6_11) ?_
    show Steps p.tables e below (s₁.setTop (mkF m 12 #[.val (.ref x0), .val (.ref x1), .val (.int (7 : Int32))] [(.int (14 : Int32)), (.int (7 : Int32))])) _
    refine XS.icmpNo X0.here hx rfl (hb hby d6_12) rfl (tlt (by decide : (7 : Int32) < (14 : Int32))).2.1 ?_
    show Steps p.tables e below (s₁.setTop (mkF m 15 #[.val (.ref x0), .val (.ref x1), .val (.int (7 : Int32))] [])) _
    refine XS.aloadN X0.here hx rfl (hb hby d6_15) rfl rfl ?_
    show Steps p.tables e below (s₁.setTop (mkF m 16 #[.val (.ref x0), .val (.ref x1), .val (.int (7 : Int32))] [(.ref x0)])) _
    refine XS.iloadN X0.here hx rfl (hb hby d6_16) rfl ?_
    show Steps p.tables e below (s₁.setTop (mkF m 17 #[.val (.ref x0), .val (.ref x1), .val (.int (7 : Int32))] [(.int (7 : Int32)), (.ref x0)])) _
    refine own_ldB X0 hx hZ e0 V_x0 (j := (7 : Int32)) (w := (100 : Int32)) ⟨by decide, by decide⟩ rfl (g := (mkF m 17 #[.val (.ref x0), .val (.ref x1), .val (.int (7 : Int32))] [(.int (7 : Int32)), (.ref x0)])) rfl rfl (hb hby d6_17) ?_
    show Steps p.tables e below (s₁.setTop (mkF m 18 #[.val (.ref x0), .val (.ref x1), .val (.int (7 : Int32))] [(.int (100 : Int32))])) _
    refine XS.aloadN X0.here hx rfl (hb hby d6_18) rfl rfl ?_
    show Steps p.tables e below (s₁.setTop (mkF m 19 #[.val (.ref x0), .val (.ref x1), .val (.int (7 : Int32))] [(.ref x1), (.int (100 : Int32))])) _
    refine XS.iloadN X0.here hx rfl (hb hby d6_19) rfl ?_
    show Steps p.tables e below (s₁.setTop (mkF m 20 #[.val (.ref x0), .val (.ref x1), .val (.int (7 : Int32))] [(.int (7 : Int32)), (.ref x1), (.int (100 : Int32))])) _
    refine own_ldB X0 hx hZ e0 V_x1 (j := (7 : Int32)) (w := (100 : Int32)) ⟨by decide, by decide⟩ rfl (g := (mkF m 20 #[.val (.ref x0), .val (.ref x1), .val (.int (7 : Int32))] [(.int (7 : Int32)), (.ref x1), (.int (100 : Int32))])) rfl rfl (hb hby d6_20) ?_
    show Steps p.tables e below (s₁.setTop (mkF m 21 #[.val (.ref x0), .val (.ref x1), .val (.int (7 : Int32))] [(.int (100 : Int32)), (.int (100 : Int32))])) _
    refine XS.icmpYes X0.here hx rfl (pc0 := 21) (pc' := 26) rfl (hb hby d6_21) rfl (teq (by decide : (100 : Int32) = (100 : Int32))).1 (by decide) (by decide) ?_
    show Steps p.tables e below (s₁.setTop (mkF m 26 #[.val (.ref x0), .val (.ref x1), .val (.int (7 : Int32))] [])) _
    refine XS.iinc X0.here hx rfl (hb hby d6_26) rfl (l' := #[.val (.ref x0), .val (.ref x1), .val (.int ((7 : Int32) + (1 : Int32)))]) rfl ?_
    show Steps p.tables e below (s₁.setTop (mkF m 29 #[.val (.ref x0), .val (.ref x1), .val (.int ((7 : Int32) + (1 : Int32)))] [])) _
    rw [show ((7 : Int32) + (1 : Int32)) = (8 : Int32) from by decide]
    show Steps p.tables e below (s₁.setTop (mkF m 29 #[.val (.ref x0), .val (.ref x1), .val (.int (8 : Int32))] [])) _
    refine XS.goto X0.here hx rfl (pc0 := 29) (pc' := 9) rfl (hb hby d6_29) (by decide) (by decide) ?_
    show Steps p.tables e below (s₁.setTop (mkF m 9 #[.val (.ref x0), .val (.ref x1), .val (.int (8 : Int32))] [])) _
    refine XS.iloadN X0.here hx rfl (hb hby d6_9) rfl ?_
    show Steps p.tables e below (s₁.setTop (mkF m 10 #[.val (.ref x0), .val (.ref x1), .val (.int (8 : Int32))] [(.int (8 : Int32))])) _
    refine XS.aloadN X0.here hx rfl (hb hby d6_10) rfl rfl ?_
    show Steps p.tables e below (s₁.setTop (mkF m 11 #[.val (.ref x0), .val (.ref x1), .val (.int (8 : Int32))] [(.ref x0), (.int (8 : Int32))])) _
    refine own_len X0 hx hZ e0 V_x0 (g := (mkF m 11 #[.val (.ref x0), .val (.ref x1), .val (.int (8 : Int32))] [(.ref x0), (.int (8 : Int32))])) rfl rfl (hb hby d6_11) ?_
    show Steps p.tables e below (s₁.setTop (mkF m 12 #[.val (.ref x0), .val (.ref x1), .val (.int (8 : Int32))] [(.int (14 : Int32)), (.int (8 : Int32))])) _
    refine XS.icmpNo X0.here hx rfl (hb hby d6_12) rfl (tlt (by decide : (8 : Int32) < (14 : Int32))).2.1 ?_
    show Steps p.tables e below (s₁.setTop (mkF m 15 #[.val (.ref x0), .val (.ref x1), .val (.int (8 : Int32))] [])) _
    refine XS.aloadN X0.here hx rfl (hb hby d6_15) rfl rfl ?_
    show Steps p.tables e below (s₁.setTop (mkF m 16 #[.val (.ref x0), .val (.ref x1), .val (.int (8 : Int32))] [(.ref x0)])) _
    refine XS.iloadN X0.here hx rfl (hb hby d6_16) rfl ?_
    show Steps p.tables e below (s₁.setTop (mkF m 17 #[.val (.ref x0), .val (.ref x1), .val (.int (8 : Int32))] [(.int (8 : Int32)), (.ref x0)])) _
    refine own_ldB X0 hx hZ e0 V_x0 (j := (8 : Int32)) (w := (32 : Int32)) ⟨by decide, by decide⟩ rfl (g := (mkF m 17 #[.val (.ref x0), .val (.ref x1), .val (.int (8 : Int32))] [(.int (8 : Int32)), (.ref x0)])) rfl rfl (hb hby d6_17) ?_
    show Steps p.tables e below (s₁.setTop (mkF m 18 #[.val (.ref x0), .val (.ref x1), .val (.int (8 : Int32))] [(.int (32 : Int32))])) _
    refine XS.aloadN X0.here hx rfl (hb hby d6_18) rfl rfl ?_
    show Steps p.tables e below (s₁.setTop (mkF m 19 #[.val (.ref x0), .val (.ref x1), .val (.int (8 : Int32))] [(.ref x1), (.int (32 : Int32))])) _
    refine XS.iloadN X0.here hx rfl (hb hby d6_19) rfl ?_
    show Steps p.tables e below (s₁.setTop (mkF m 20 #[.val (.ref x0), .val (.ref x1), .val (.int (8 : Int32))] [(.int (8 : Int32)), (.ref x1), (.int (32 : Int32))])) _
    refine own_ldB X0 hx hZ e0 V_x1 (j := (8 : Int32)) (w := (32 : Int32)) ⟨by decide, by decide⟩ rfl (g := (mkF m 20 #[.val (.ref x0), .val (.ref x1), .val (.int (8 : Int32))] [(.int (8 : Int32)), (.ref x1), (.int (32 : Int32))])) rfl rfl (hb hby d6_20) ?_
    show Steps p.tables e below (s₁.setTop (mkF m 21 #[.val (.ref x0), .val (.ref x1), .val (.int (8 : Int32))] [(.int (32 : Int32)), (.int (32 : Int32))])) _
    refine XS.icmpYes X0.here hx rfl (pc0 := 21) (pc' := 26) rfl (hb hby d6_21) rfl (teq (by decide : (32 : Int32) = (32 : Int32))).1 (by decide) (by decide) ?_
    show Steps p.tables e below (s₁.setTop (mkF m 26 #[.val (.ref x0), .val (.ref x1), .val (.int (8 : Int32))] [])) _
    refine XS.iinc X0.here hx rfl (hb hby d6_26) rfl (l' := #[.val (.ref x0), .val (.ref x1), .val (.int ((8 : Int32) + (1 : Int32)))]) rfl ?_
    show Steps p.tables e below (s₁.setTop (mkF m 29 #[.val (.ref x0), .val (.ref x1), .val (.int ((8 : Int32) + (1 : Int32)))] [])) _
    rw [show ((8 : Int32) + (1 : Int32)) = (9 : Int32) from by decide]
    show Steps p.tables e below (s₁.setTop (mkF m 29 #[.val (.ref x0), .val (.ref x1), .val (.int (9 : Int32))] [])) _
    refine XS.goto X0.here hx rfl (pc0 := 29) (pc' := 9) rfl (hb hby d6_29) (by decide) (by decide) ?_
    show Steps p.tables e below (s₁.setTop (mkF m 9 #[.val (.ref x0), .val (.ref x1), .val (.int (9 : Int32))] [])) _
    refine XS.iloadN X0.here hx rfl (hb hby d6_9) rfl ?_
    show Steps p.tables e below (s₁.setTop (mkF m 10 #[.val (.ref x0), .val (.ref x1), .val (.int (9 : Int32))] [(.int (9 : Int32))])) _
    refine XS.aloadN X0.here hx rfl (hb hby d6_10) rfl rfl ?_
    show Steps p.tables e below (s₁.setTop (mkF m 11 #[.val (.ref x0), .val (.ref x1), .val (.int (9 : Int32))] [(.ref x0), (.int (9 : Int32))])) _
    refine own_len X0 hx hZ e0 V_x0 (g := (mkF m 11 #[.val (.ref x0), .val (.ref x1), .val (.int (9 : Int32))] [(.ref x0), (.int (9 : Int32))])) rfl rfl (hb hby d6_11) ?_
    show Steps p.tables e below (s₁.setTop (mkF m 12 #[.val (.ref x0), .val (.ref x1), .val (.int (9 : Int32))] [(.int (14 : Int32)), (.int (9 : Int32))])) _
    refine XS.icmpNo X0.here hx rfl (hb hby d6_12) rfl (tlt (by decide : (9 : Int32) < (14 : Int32))).2.1 ?_
    show Steps p.tables e below (s₁.setTop (mkF m 15 #[.val (.ref x0), .val (.ref x1), .val (.int (9 : Int32))] [])) _
    refine XS.aloadN X0.here hx rfl (hb hby d6_15) rfl rfl ?_
    show Steps p.tables e below (s₁.setTop (mkF m 16 #[.val (.ref x0), .val (.ref x1), .val (.int (9 : Int32))] [(.ref x0)])) _
    refine XS.iloadN X0.here hx rfl (hb hby d6_16) rfl ?_
    show Steps p.tables e below (s₁.setTop (mkF m 17 #[.val (.ref x0), .val (.ref x1), .val (.int (9 : Int32))] [(.int (9 : Int32)), (.ref x0)])) _
    refine own_ldB X0 hx hZ e0 V_x0 (j := (9 : Int32)) (w := (105 : Int32)) ⟨by decide, by decide⟩ rfl (g := (mkF m 17 #[.val (.ref x0), .val (.ref x1), .val (.int (9 : Int32))] [(.int (9 : Int32)), (.ref x0)])) rfl rfl (hb hby d6_17) ?_
    show Steps p.tables e below (s₁.setTop (mkF m 18 #[.val (.ref x0), .val (.ref x1), .val (.int (9 : Int32))] [(.int (105 : Int32))])) _
    refine XS.aloadN X0.here hx rfl (hb hby d6_18) rfl rfl ?_
    show Steps p.tables e below (s₁.setTop (mkF m 19 #[.val (.ref x0), .val (.ref x1), .val (.int (9 : Int32))] [(.ref x1), (.int (105 : Int32))])) _
    refine XS.iloadN X0.here hx rfl (hb hby d6_19) rfl ?_
    show Steps p.tables e below (s₁.setTop (mkF m 20 #[.val (.ref x0), .val (.ref x1), .val (.int (9 : Int32))] [(.int (9 : Int32)), (.ref x1), (.int (105 : Int32))])) _
    refine own_ldB X0 hx hZ e0 V_x1 (j := (9 : Int32)) (w := (105 : Int32)) ⟨by decide, by decide⟩ rfl (g := (mkF m 20 #[.val (.ref x0), .val (.ref x1), .val (.int (9 : Int32))] [(.int (9 : Int32)), (.ref x1), (.int (105 : Int32))])) rfl rfl (hb hby d6_20) ?_
    show Steps p.tables e below (s₁.setTop (mkF m 21 #[.val (.ref x0), .val (.ref x1), .val (.int (9 : Int32))] [(.int (105 : Int32)), (.int (105 : Int32))])) _
    refine XS.icmpYes X0.here hx rfl (pc0 := 21) (pc' := 26) rfl (hb hby d6_21) rfl (teq (by decide : (105 : Int32) = (105 : Int32))).1 (by decide) (by decide) ?_
    show Steps p.tables e below (s₁.setTop (mkF m 26 #[.val (.ref x0), .val (.ref x1), .val (.int (9 : Int32))] [])) _
    refine XS.iinc X0.here hx rfl (hb hby d6_26) rfl (l' := #[.val (.ref x0), .val (.ref x1), .val (.int ((9 : Int32) + (1 : Int32)))]) rfl ?_
    show Steps p.tables e below (s₁.setTop (mkF m 29 #[.val (.ref x0), .val (.ref x1), .val (.int ((9 : Int32) + (1 : Int32)))] [])) _
    rw [show ((9 : Int32) + (1 : Int32)) = (10 : Int32) from by decide]
    show Steps p.tables e below (s₁.setTop (mkF m 29 #[.val (.ref x0), .val (.ref x1), .val (.int (10 : Int32))] [])) _
    refine XS.goto X0.here hx rfl (pc0 := 29) (pc' := 9) rfl (hb hby d6_29) (by decide) (by decide) ?_
    show Steps p.tables e below (s₁.setTop (mkF m 9 #[.val (.ref x0), .val (.ref x1), .val (.int (10 : Int32))] [])) _
    refine XS.iloadN X0.here hx rfl (hb hby d6_9) rfl ?_
    show Steps p.tables e below (s₁.setTop (mkF m 10 #[.val (.ref x0), .val (.ref x1), .val (.int (10 : Int32))] [(.int (10 : Int32))])) _
    refine XS.aloadN X0.here hx rfl (hb hby d6_10) rfl rfl ?_
    show Steps p.tables e below (s₁.setTop (mkF m 11 #[.val (.ref x0), .val (.ref x1), .val (.int (10 : Int32))] [(.ref x0), (.int (10 : Int32))])) _
    refine own_len X0 hx hZ e0 V_x0 (g := (mkF m 11 #[.val (.ref x0), .val (.ref x1), .val (.int (10 : Int32))] [(.ref x0), (.int (10 : Int32))])) rfl rfl (hb hby d6_11) ?_
    show Steps p.tables e below (s₁.setTop (mkF m 12 #[.val (.ref x0), .val (.ref x1), .val (.int (10 : Int32))] [(.int (14 : Int32)), (.int (10 : Int32))])) _
    refine XS.icmpNo X0.here hx rfl (hb hby d6_12) rfl (tlt (by decide : (10 : Int32) < (14 : Int32))).2.1 ?_
    show Steps p.tables e below (s₁.setTop (mkF m 15 #[.val (.ref x0), .val (.ref x1), .val (.int (10 : Int32))] [])) _
    refine XS.aloadN X0.here hx rfl (hb hby d6_15) rfl rfl ?_
    show Steps p.tables e below (s₁.setTop (mkF m 16 #[.val (.ref x0), .val (.ref x1), .val (.int (10 : Int32))] [(.ref x0)])) _
    refine XS.iloadN X0.here hx rfl (hb hby d6_16) rfl ?_
    show Steps p.tables e below (s₁.setTop (mkF m 17 #[.val (.ref x0), .val (.ref x1), .val (.int (10 : Int32))] [(.int (10 : Int32)), (.ref x0)])) _
    refine own_ldB X0 hx hZ e0 V_x0 (j := (10 : Int32)) (w := (110 : Int32)) ⟨by decide, by decide⟩ rfl (g := (mkF m 17 #[.val (.ref x0), .val (.ref x1), .val (.int (10 : Int32))] [(.int (10 : Int32)), (.ref x0)])) rfl rfl (hb hby d6_17) ?_
    show Steps p.tables e below (s₁.setTop (mkF m 18 #[.val (.ref x0), .val (.ref x1), .val (.int (10 : Int32))] [(.int (110 : Int32))])) _
    refine XS.aloadN X0.here hx rfl (hb hby d6_18) rfl rfl ?_
    show Steps p.tables e below (s₁.setTop (mkF m 19 #[.val (.ref x0), .val (.ref x1), .val (.int (10 : Int32))] [(.ref x1), (.int (110 : Int32))])) _
    refine XS.iloadN X0.here hx rfl (hb hby d6_19) rfl ?_
    show Steps p.tables e below (s₁.setTop (mkF m 20 #[.val (.ref x0), .val (.ref x1), .val (.int (10 : Int32))] [(.int (10 : Int32)), (.ref x1), (.int (110 : Int32))])) _
    refine own_ldB X0 hx hZ e0 V_x1 (j := (10 : Int32)) (w := (110 : Int32)) ⟨by decide, by decide⟩ rfl (g := (mkF m 20 #[.val (.ref x0), .val (.ref x1), .val (.int (10 : Int32))] [(.int (10 : Int32)), (.ref x1), (.int (110 : Int32))])) rfl rfl (hb hby d6_20) ?_
    show Steps p.tables e below (s₁.setTop (mkF m 21 #[.val (.ref x0), .val (.ref x1), .val (.int (10 : Int32))] [(.int (110 : Int32)), (.int (110 : Int32))])) _
    refine XS.icmpYes X0.here hx rfl (pc0 := 21) (pc' := 26) rfl (hb hby d6_21) rfl (teq (by decide : (110 : Int32) = (110 : Int32))).1 (by decide) (by decide) ?_
    show Steps p.tables e below (s₁.setTop (mkF m 26 #[.val (.ref x0), .val (.ref x1), .val (.int (10 : Int32))] [])) _
    refine XS.iinc X0.here hx rfl (hb hby d6_26) rfl (l' := #[.val (.ref x0), .val (.ref x1), .val (.int ((10 : Int32) + (1 : Int32)))]) rfl ?_
    show Steps p.tables e below (s₁.setTop (mkF m 29 #[.val (.ref x0), .val (.ref x1), .val (.int ((10 : Int32) + (1 : Int32)))] [])) _
    rw [show ((10 : Int32) + (1 : Int32)) = (11 : Int32) from by decide]
    show Steps p.tables e below (s₁.setTop (mkF m 29 #[.val (.ref x0), .val (.ref x1), .val (.int (11 : Int32))] [])) _
    refine XS.goto X0.here hx rfl (pc0 := 29) (pc' := 9) rfl (hb hby d6_29) (by decide) (by decide) ?_
    show Steps p.tables e below (s₁.setTop (mkF m 9 #[.val (.ref x0), .val (.ref x1), .val (.int (11 : Int32))] [])) _
    refine XS.iloadN X0.here hx rfl (hb hby d6_9) rfl ?_
    show Steps p.tables e below (s₁.setTop (mkF m 10 #[.val (.ref x0), .val (.ref x1), .val (.int (11 : Int32))] [(.int (11 : Int32))])) _
    refine XS.aloadN X0.here hx rfl (hb hby d6_10) rfl rfl ?_
    show Steps p.tables e below (s₁.setTop (mkF m 11 #[.val (.ref x0), .val (.ref x1), .val (.int (11 : Int32))] [(.ref x0), (.int (11 : Int32))])) _
    refine own_len X0 hx hZ e0 V_x0 (g := (mkF m 11 #[.val (.ref x0), .val (.ref x1), .val (.int (11 : Int32))] [(.ref x0), (.int (11 : Int32))])) rfl rfl (hb hby d6_11) ?_
    show Steps p.tables e below (s₁.setTop (mkF m 12 #[.val (.ref x0), .val (.ref x1), .val (.int (11 : Int32))] [(.int (14 : Int32)), (.int (11 : Int32))])) _
    refine XS.icmpNo X0.here hx rfl (hb hby d6_12) rfl (tlt (by decide : (11 : Int32) < (14 : Int32))).2.1 ?_
    show Steps p.tables e below (s₁.setTop (mkF m 15 #[.val (.ref x0), .val (.ref x1), .val (.int (11 : Int32))] [])) _
    refine XS.aloadN X0.here hx rfl (hb hby d6_15) rfl rfl ?_
    show Steps p.tables e below (s₁.setTop (mkF m 16 #[.val (.ref x0), .val (.ref x1), .val (.int (11 : Int32))] [(.ref x0)])) _
    refine XS.iloadN X0.here hx rfl (hb hby d6_16) rfl ?_
    show Steps p.tables e below (s₁.setTop (mkF m 17 #[.val (.ref x0), .val (.ref x1), .val (.int (11 : Int32))] [(.int (11 : Int32)), (.ref x0)])) _
    refine own_ldB X0 hx hZ e0 V_x0 (j := (11 : Int32)) (w := (112 : Int32)) ⟨by decide, by decide⟩ rfl (g := (mkF m 17 #[.val (.ref x0), .val (.ref x1), .val (.int (11 : Int32))] [(.int (11 : Int32)), (.ref x0)])) rfl rfl (hb hby d6_17) ?_
    show Steps p.tables e below (s₁.setTop (mkF m 18 #[.val (.ref x0), .val (.ref x1), .val (.int (11 : Int32))] [(.int (112 : Int32))])) _
    refine XS.aloadN X0.here hx rfl (hb hby d6_18) rfl rfl ?_
    show Steps p.tables e below (s₁.setTop (mkF m 19 #[.val (.ref x0), .val (.ref x1), .val (.int (11 : Int32))] [(.ref x1), (.int (112 : Int32))])) _
    refine XS.iloadN X0.here hx rfl (hb hby d6_19) rfl ?_
    show Steps p.tables e below (s₁.setTop (mkF m 20 #[.val (.ref x0), .val (.ref x1), .val (.int (11 : Int32))] [(.int (11 : Int32)), (.ref x1), (.int (112 : Int32))])) _
    refine own_ldB X0 hx hZ e0 V_x1 (j := (11 : Int32)) (w := (112 : Int32)) ⟨by decide, by decide⟩ rfl (g := (mkF m 20 #[.val (.ref x0), .val (.ref x1), .val (.int (11 : Int32))] [(.int (11 : Int32)), (.ref x1), (.int (112 : Int32))])) rfl rfl (hb hby d6_20) ?_
    show Steps p.tables e below (s₁.setTop (mkF m 21 #[.val (.ref x0), .val (.ref x1), .val (.int (11 : Int32))] [(.int (112 : Int32)), (.int (112 : Int32))])) _
    refine XS.icmpYes X0.here hx rfl (pc0 := 21) (pc' := 26) rfl (hb hby d6_21) rfl (teq (by decide : (112 : Int32) = (112 : Int32))).1 (by decide) (by decide) ?_
    show Steps p.tables e below (s₁.setTop (mkF m 26 #[.val (.ref x0), .val (.ref x1), .val (.int (11 : Int32))] [])) _
    refine XS.iinc X0.here hx rfl (hb hby d6_26) rfl (l' := #[.val (.ref x0), .val (.ref x1), .val (.int ((11 : Int32) + (1 : Int32)))]) rfl ?_
    show Steps p.tables e below (s₁.setTop (mkF m 29 #[.val (.ref x0), .val (.ref x1), .val (.int ((11 : Int32) + (1 : Int32)))] [])) _
    rw [show ((11 : Int32) + (1 : Int32)) = (12 : Int32) from by decide]
    show Steps p.tables e below (s₁.setTop (mkF m 29 #[.val (.ref x0), .val (.ref x1), .val (.int (12 : Int32))] [])) _
    refine XS.goto X0.here hx rfl (pc0 := 29) (pc' := 9) rfl (hb hby d6_29) (by decide) (by decide) ?_
    show Steps p.tables e below (s₁.setTop (mkF m 9 #[.val (.ref x0), .val (.ref x1), .val (.int (12 : Int32))] [])) _
    refine XS.iloadN X0.here hx rfl (hb hby d6_9) rfl ?_
    show Steps p.tables e below (s₁.setTop (mkF m 10 #[.val (.ref x0), .val (.ref x1), .val (.int (12 : Int32))] [(.int (12 : Int32))])) _
    refine XS.aloadN X0.here hx rfl (hb hby d6_10) rfl rfl ?_
    show Steps p.tables e below (s₁.setTop (mkF m 11 #[.val (.ref x0), .val (.ref x1), .val (.int (12 : Int32))] [(.ref x0), (.int (12 : Int32))])) _
    refine own_len X0 hx hZ e0 V_x0 (g := (mkF m 11 #[.val (.ref x0), .val (.ref x1), .val (.int (12 : Int32))] [(.ref x0), (.int (12 : Int32))])) rfl rfl (hb hby d6_11) ?_
    show Steps p.tables e below (s₁.setTop (mkF m 12 #[.val (.ref x0), .val (.ref x1), .val (.int (12 : Int32))] [(.int (14 : Int32)), (.int (12 : Int32))])) _
    refine XS.icmpNo X0.here hx rfl (hb hby d6_12) rfl (tlt (by decide : (12 : Int32) < (14 : Int32))).2.1 ?_
    show Steps p.tables e below (s₁.setTop (mkF m 15 #[.val (.ref x0), .val (.ref x1), .val (.int (12 : Int32))] [])) _
    refine XS.aloadN X0.here hx rfl (hb hby d6_15) rfl rfl ?_
    show Steps p.tables e below (s₁.setTop (mkF m 16 #[.val (.ref x0), .val (.ref x1), .val (.int (12 : Int32))] [(.ref x0)])) _
    refine XS.iloadN X0.here hx rfl (hb hby d6_16) rfl ?_
    show Steps p.tables e below (s₁.setTop (mkF m 17 #[.val (.ref x0), .val (.ref x1), .val (.int (12 : Int32))] [(.int (12 : Int32)), (.ref x0)])) _
    refine own_ldB X0 hx hZ e0 V_x0 (j := (12 : Int32)) (w := (117 : Int32)) ⟨by decide, by decide⟩ rfl (g := (mkF m 17 #[.val (.ref x0), .val (.ref x1), .val (.int (12 : Int32))] [(.int (12 : Int32)), (.ref x0)])) rfl rfl (hb hby d6_17) ?_
    show Steps p.tables e below (s₁.setTop (mkF m 18 #[.val (.ref x0), .val (.ref x1), .val (.int (12 : Int32))] [(.int (117 : Int32))])) _
    refine XS.aloadN X0.here hx rfl (hb hby d6_18) rfl rfl ?_
    show Steps p.tables e below (s₁.setTop (mkF m 19 #[.val (.ref x0), .val (.ref x1), .val (.int (12 : Int32))] [(.ref x1), (.int (117 : Int32))])) _
    refine XS.iloadN X0.here hx rfl (hb hby d6_19) rfl ?_
    show Steps p.tables e below (s₁.setTop (mkF m 20 #[.val (.ref x0), .val (.ref x1), .val (.int (12 : Int32))] [(.int (12 : Int32)), (.ref x1), (.int (117 : Int32))])) _
    refine own_ldB X0 hx hZ e0 V_x1 (j := (12 : Int32)) (w := (117 : Int32)) ⟨by decide, by decide⟩ rfl (g := (mkF m 20 #[.val (.ref x0), .val (.ref x1), .val (.int (12 : Int32))] [(.int (12 : Int32)), (.ref x1), (.int (117 : Int32))])) rfl rfl (hb hby d6_20) ?_
    show Steps p.tables e below (s₁.setTop (mkF m 21 #[.val (.ref x0), .val (.ref x1), .val (.int (12 : Int32))] [(.int (117 : Int32)), (.int (117 : Int32))])) _
    refine XS.icmpYes X0.here hx rfl (pc0 := 21) (pc' := 26) rfl (hb hby d6_21) rfl (teq (by decide : (117 : Int32) = (117 : Int32))).1 (by decide) (by decide) ?_
    show Steps p.tables e below (s₁.setTop (mkF m 26 #[.val (.ref x0), .val (.ref x1), .val (.int (12 : Int32))] [])) _
    refine XS.iinc X0.here hx rfl (hb hby d6_26) rfl (l' := #[.val (.ref x0), .val (.ref x1), .val (.int ((12 : Int32) + (1 : Int32)))]) rfl ?_
    show Steps p.tables e below (s₁.setTop (mkF m 29 #[.val (.ref x0), .val (.ref x1), .val (.int ((12 : Int32) + (1 : Int32)))] [])) _
    rw [show ((12 : Int32) + (1 : Int32)) = (13 : Int32) from by decide]
    show Steps p.tables e below (s₁.setTop (mkF m 29 #[.val (.ref x0), .val (.ref x1), .val (.int (13 : Int32))] [])) _
    refine XS.goto X0.here hx rfl (pc0 := 29) (pc' := 9) rfl (hb hby d6_29) (by decide) (by decide) ?_
    show Steps p.tables e below (s₁.setTop (mkF m 9 #[.val (.ref x0), .val (.ref x1), .val (.int (13 : Int32))] [])) _
    refine XS.iloadN X0.here hx rfl (hb hby d6_9) rfl ?_
    show Steps p.tables e below (s₁.setTop (mkF m 10 #[.val (.ref x0), .val (.ref x1), .val (.int (13 : Int32))] [(.int (13 : Int32))])) _
    refine XS.aloadN X0.here hx rfl (hb hby d6_10) rfl rfl ?_
    show Steps p.tables e below (s₁.setTop (mkF m 11 #[.val (.ref x0), .val (.ref x1), .val (.int (13 : Int32))] [(.ref x0), (.int (13 : Int32))])) _
    refine own_len X0 hx hZ e0 V_x0 (g := (mkF m 11 #[.val (.ref x0), .val (.ref x1), .val (.int (13 : Int32))] [(.ref x0), (.int (13 : Int32))])) rfl rfl (hb hby d6_11) ?_
    show Steps p.tables e below (s₁.setTop (mkF m 12 #[.val (.ref x0), .val (.ref x1), .val (.int (13 : Int32))] [(.int (14 : Int32)), (.int (13 : Int32))])) _
    refine XS.icmpNo X0.here hx rfl (hb hby d6_12) rfl (tlt (by decide : (13 : Int32) < (14 : Int32))).2.1 ?_
    show Steps p.tables e below (s₁.setTop (mkF m 15 #[.val (.ref x0), .val (.ref x1), .val (.int (13 : Int32))] [])) _
    refine XS.aloadN X0.here hx rfl (hb hby d6_15) rfl rfl ?_
    show Steps p.tables e below (s₁.setTop (mkF m 16 #[.val (.ref x0), .val (.ref x1), .val (.int (13 : Int32))] [(.ref x0)])) _
    refine XS.iloadN X0.here hx rfl (hb hby d6_16) rfl ?_
    show Steps p.tables e below (s₁.setTop (mkF m 17 #[.val (.ref x0), .val (.ref x1), .val (.int (13 : Int32))] [(.int (13 : Int32)), (.ref x0)])) _
    refine own_ldB X0 hx hZ e0 V_x0 (j := (13 : Int32)) (w := (116 : Int32)) ⟨by decide, by decide⟩ rfl (g := (mkF m 17 #[.val (.ref x0), .val (.ref x1), .val (.int (13 : Int32))] [(.int (13 : Int32)), (.ref x0)])) rfl rfl (hb hby d6_17) ?_
    show Steps p.tables e below (s₁.setTop (mkF m 18 #[.val (.ref x0), .val (.ref x1), .val (.int (13 : Int32))] [(.int (116 : Int32))])) _
    refine XS.aloadN X0.here hx rfl (hb hby d6_18) rfl rfl ?_
    show Steps p.tables e below (s₁.setTop (mkF m 19 #[.val (.ref x0), .val (.ref x1), .val (.int (13 : Int32))] [(.ref x1), (.int (116 : Int32))])) _
    refine XS.iloadN X0.here hx rfl (hb hby d6_19) rfl ?_
    show Steps p.tables e below (s₁.setTop (mkF m 20 #[.val (.ref x0), .val (.ref x1), .val (.int (13 : Int32))] [(.int (13 : Int32)), (.ref x1), (.int (116 : Int32))])) _
    refine own_ldB X0 hx hZ e0 V_x1 (j := (13 : Int32)) (w := (116 : Int32)) ⟨by decide, by decide⟩ rfl (g := (mkF m 20 #[.val (.ref x0), .val (.ref x1), .val (.int (13 : Int32))] [(.int (13 : Int32)), (.ref x1), (.int (116 : Int32))])) rfl rfl (hb hby d6_20) ?_
    show Steps p.tables e below (s₁.setTop (mkF m 21 #[.val (.ref x0), .val (.ref x1), .val (.int (13 : Int32))] [(.int (116 : Int32)), (.int (116 : Int32))])) _
    refine XS.icmpYes X0.here hx rfl (pc0 := 21) (pc' := 26) rfl (hb hby d6_21) rfl (teq (by decide : (116 : Int32) = (116 : Int32))).1 (by decide) (by decide) ?_
    show Steps p.tables e below (s₁.setTop (mkF m 26 #[.val (.ref x0), .val (.ref x1), .val (.int (13 : Int32))] [])) _
    refine XS.iinc X0.here hx rfl (hb hby d6_26) rfl (l' := #[.val (.ref x0), .val (.ref x1), .val (.int ((13 : Int32) + (1 : Int32)))]) rfl ?_
    show Steps p.tables e below (s₁.setTop (mkF m 29 #[.val (.ref x0), .val (.ref x1), .val (.int ((13 : Int32) + (1 : Int32)))] [])) _
    rw [show ((13 : Int32) + (1 : Int32)) = (14 : Int32) from by decide]
    show Steps p.tables e below (s₁.setTop (mkF m 29 #[.val (.ref x0), .val (.ref x1), .val (.int (14 : Int32))] [])) _
    refine XS.goto X0.here hx rfl (pc0 := 29) (pc' := 9) rfl (hb hby d6_29) (by decide) (by decide) ?_
    show Steps p.tables e below (s₁.setTop (mkF m 9 #[.val (.ref x0), .val (.ref x1), .val (.int (14 : Int32))] [])) _
    refine XS.iloadN X0.here hx rfl (hb hby d6_9) rfl ?_
    show Steps p.tables e below (s₁.setTop (mkF m 10 #[.val (.ref x0), .val (.ref x1), .val (.int (14 : Int32))] [(.int (14 : Int32))])) _
    refine XS.aloadN X0.here hx rfl (hb hby d6_10) rfl rfl ?_
    show Steps p.tables e below (s₁.setTop (mkF m 11 #[.val (.ref x0), .val (.ref x1), .val (.int (14 : Int32))] [(.ref x0), (.int (14 : Int32))])) _
    refine own_len X0 hx hZ e0 V_x0 (g := (mkF m 11 #[.val (.ref x0), .val (.ref x1), .val (.int (14 : Int32))] [(.ref x0), (.int (14 : Int32))])) rfl rfl (hb hby d6_11) ?_
    show Steps p.tables e below (s₁.setTop (mkF m 12 #[.val (.ref x0), .val (.ref x1), .val (.int (14 : Int32))] [(.int (14 : Int32)), (.int (14 : Int32))])) _
    refine XS.icmpYes X0.here hx rfl (pc0 := 12) (pc' := 32) rfl (hb hby d6_12) rfl (flt (by decide : ¬ ((14 : Int32) < (14 : Int32)))).2.1 (by decide) (by decide) ?_
    show Steps p.tables e below (s₁.setTop (mkF m 32 #[.val (.ref x0), .val (.ref x1), .val (.int (14 : Int32))] [])) _
    refine XS.iconst X0.here hx rfl (hb hby d6_32) ?_
    show Steps p.tables e below (s₁.setTop (mkF m 33 #[.val (.ref x0), .val (.ref x1), .val (.int (14 : Int32))] [(.int (1 : Int32))])) _
    exact retN X0 hx (t := .boolean) Bd.returns (by simp) (hb hby d6_33) hr
  · exact ⟨rfl, N0, e0⟩
set_option maxRecDepth 65536 in
set_option maxHeartbeats 40000000 in
theorem rmeq_14 (l : Launch) (Z : State) (a0 : Array Value) (hw : ∀ d ∈ tables_1, d.before a0 Z = true) (ws : List Jvm.Cond) (x0 : Addr) (x1 : Addr) (va vb : Addr) (kv kb : ClassId) (cs : Int32)  (h0 : Heap) (n0 : Nat) (Z0 : n0 ≤ h0.size) (E_x0 : Exa Z h0 x0 "java/lang/String") (F_value_x0 : Fld Z h0 x0 "java/lang/String" "value" "[B" (.ref va)) (F_coder_x0 : Fld Z h0 x0 "java/lang/String" "coder" "B" (.int (0 : Int32))) (V_va : Arv Z h0 va kv .byte (14 : Int32) [(.int (115 : Int32)), (.int (116 : Int32)), (.int (97 : Int32)), (.int (110 : Int32)), (.int (100 : Int32)), (.int (97 : Int32)), (.int (114 : Int32)), (.int (100 : Int32)), (.int (32 : Int32)), (.int (105 : Int32)), (.int (110 : Int32)), (.int (112 : Int32)), (.int (117 : Int32)), (.int (116 : Int32))] (.int (0 : Int32))) (E_x1 : Exa Z h0 x1 "java/lang/String") (F_value_x1 : Fld Z h0 x1 "java/lang/String" "value" "[B" (.ref vb)) (F_coder_x1 : Fld Z h0 x1 "java/lang/String" "coder" "B" (.int (0 : Int32))) (V_vb : Arv Z h0 vb kb .byte (14 : Int32) [(.int (115 : Int32)), (.int (116 : Int32)), (.int (97 : Int32)), (.int (110 : Int32)), (.int (100 : Int32)), (.int (97 : Int32)), (.int (114 : Int32)), (.int (100 : Int32)), (.int (32 : Int32)), (.int (105 : Int32)), (.int (110 : Int32)), (.int (112 : Int32)), (.int (117 : Int32)), (.int (116 : Int32))] (.int (0 : Int32))) (O0 : Old Z n0 h0) (S_CS : Sta Z Z.heap "java/lang/String" "COMPACT_STRINGS" "Z" (.int cs)) (hcs : ¬ (cs = (0 : Int32))) (hne : ¬ (x0 = x1))  :
    MetFree l (⟨"java/lang/String", "equals", "(Ljava/lang/Object;)Z"⟩ : MethodName) (head1 (Jvm.Cond.code (⟨"java/lang/String", "equals", "(Ljava/lang/Object;)Z"⟩ : MethodName) jdk_42_method_66_code 3 (some .boolean) :: ws) ({ frames := 1, cells := 0, slots := 0, locals := 14 } : Room)) (fun a U => a = #[(.ref x0), (.ref x1)] ∧ Z.Warmed39 U.vm ∧ U.heap = h0) (fun _ _ _ _ _ => True) (fun _ U o U' => ∃ v L, o = .returned v ∧ (QP (some (.int (1 : Int32))) h0 n0 v U'.heap L) ∧ FrameEnd U o U' L ({ frames := 1, cells := 0, slots := 0, locals := 14 } : Room).cells ({ frames := 1, cells := 0, slots := 0, locals := 14 } : Room).slots) := by
  refine MetFree.of_bodySF (plainFor_of_name pn_5) hisR ?_
  intro p e s m args below meth c s₁ Bd hml0 hP hK
  obtain ⟨rfl, hZ, hh⟩ := hP
  have hx := Bd.exec
  have hby := Bd.bytes
  have hml : c.maxLocals = 3 := hml0
  have hown : s.vm.findClass "java/lang/String" = some m.cls := findClass_of_methodNamed Bd.named
  have hnm := (name_of_methodNamed Bd.named Bd.method).1
  have X0 : Stand p l e ({ frames := 1, cells := 0, slots := 0, locals := 14 } : Room) s m #[(.ref x0), (.ref x1)] below meth c s₁ [] 0 0 := Stand.of_body Bd
  have e0 : s₁.heap = h0 := by rw [← hh, Bd.state]; rfl
  have N0 := Fr.nil n0
  have pre0 : ∀ t, Steps p.tables e below (s₁.setTop (mkF m 0 #[.val (.ref x0), .val (.ref x1), .unset] [])) t → Steps p.tables e below (s₁.setTop (entryFrame m #[(.ref x0), (.ref x1)] 3)) t := fun t k => castTop (ef_5 m x0 x1) k
  obtain ⟨T1, X1, e1, st1⟩ := instY X0 hx hZ hown (hw _ (List.mem_of_getElem? (i := 32) rfl)) e0 (Ins.self E_x1) (g := (mkF m 8 #[.val (.ref x0), .val (.ref x1), .unset] [(.ref x1)])) rfl rfl (hb hby d5_8)
  obtain ⟨T2, X2, e2, st2⟩ := castY X1 hx hZ hown (hw _ (List.mem_of_getElem? (i := 32) rfl)) e1 (Ins.self E_x1) (g := (mkF m 15 #[.val (.ref x0), .val (.ref x1), .unset] [(.ref x1)])) rfl rfl (hb hby d5_15)
  obtain ⟨T3, X3, e3, st3⟩ := getS2 X2 hx hZ hown (host := "") (Or.inl (hw _ (List.mem_of_getElem? (i := 33) rfl))) Via.refl e2 (own_Sta_old S_CS O0) (g := (mkF m 19 #[.val (.ref x0), .val (.ref x1), .val (.ref x1)] [])) rfl (hb hby d5_19)
  obtain ⟨T4, X4, e4, st4⟩ := getF X3 hx hZ hown (host := "") (Or.inl (hw _ (List.mem_of_getElem? (i := 21) rfl))) Via.refl e3 F_coder_x0 (g := (mkF m 26 #[.val (.ref x0), .val (.ref x1), .val (.ref x1)] [(.ref x0)])) rfl rfl (hb hby d5_26)
  obtain ⟨T5, X5, e5, st5⟩ := getF X4 hx hZ hown (host := "") (Or.inl (hw _ (List.mem_of_getElem? (i := 21) rfl))) Via.refl e4 F_coder_x1 (g := (mkF m 30 #[.val (.ref x0), .val (.ref x1), .val (.ref x1)] [(.ref x1), (.int (0 : Int32))])) rfl rfl (hb hby d5_30)
  obtain ⟨T6, X6, e6, st6⟩ := getF X5 hx hZ hown (host := "") (Or.inl (hw _ (List.mem_of_getElem? (i := 20) rfl))) Via.refl e5 F_value_x0 (g := (mkF m 37 #[.val (.ref x0), .val (.ref x1), .val (.ref x1)] [(.ref x0)])) rfl rfl (hb hby d5_37)
  obtain ⟨T7, X7, e7, st7⟩ := getF X6 hx hZ hown (host := "") (Or.inl (hw _ (List.mem_of_getElem? (i := 20) rfl))) Via.refl e6 F_value_x1 (g := (mkF m 41 #[.val (.ref x0), .val (.ref x1), .val (.ref x1)] [(.ref x1), (.ref va)])) rfl rfl (hb hby d5_41)
  obtain ⟨_, _, ⟨T8, L8, k8, n8⟩, -, X8, ⟨Lc8, hQ8, l8, y8, z8⟩, st8⟩ := Jvm.LawKit.callS X7 hx (y := (⟨"java/lang/StringLatin1", "equals", "([B[B)Z"⟩ : MethodName)) hown (mvT hZ (hw _ (List.mem_of_getElem? (i := 34) rfl))) (mvT hZ (hw _ (List.mem_of_getElem? (i := 35) rfl))) (mvT hZ (hw _ (List.mem_of_getElem? (i := 36) rfl))) (mvT hZ (hw _ (List.mem_of_getElem? (i := 37) rfl))) (by decide) (backOf (W := 0) (rmle_14 l Z a0 hw [] va vb kv kb  h0 n0 Z0 V_va V_vb ) hZ (hw _ (List.mem_of_getElem? (i := 37) rfl)) (hw _ (List.mem_of_getElem? (i := 36) rfl)) (by decide) (by decide)) (g := (mkF m 44 #[.val (.ref x0), .val (.ref x1), .val (.ref x1)] [(.ref vb), (.ref va)])) rfl (by rw [hml]; rfl) (argsL := [(.ref va), (.ref vb)]) (rest := []) (lenOf pd___B_B_Z rfl) rfl (by show 2 * 0 + _ ≤ _; exact Nat.le_of_eq rfl) (hb hby d5_44) (fun _ _ => ⟨rfl, e7, (by decide : 0 + 0 ≤ _), (by decide : 0 + 0 ≤ _)⟩)
  dsimp only [Pt.U, Pt.locs, Pt.cells, Pt.slots] at X8 l8 y8 z8 st8 hQ8
  subst l8 y8 z8
  obtain ⟨rfl, N8q, e8⟩ := hQ8
  have N8 := Fr.app N0 N8q
  obtain ⟨fs, hr, hrun, hended, hW, hsame⟩ := X8.leave (v := some (.int (1 : Int32))) (fun h => by rw [Bd.returns] at h; cases h)
  refine ⟨_, _, pre0 _ ?_, hrun, hended, _, _, rfl, ?_, ⟨_, rfl⟩, hW, hsame.mono (by decide) (by decide)⟩
  · show Steps p.tables e below (s₁.setTop (mkF m 0 #[.val (.ref x0), .val (.ref x1), .unset] [])) _
    refine XS.aloadN X0.here hx rfl (hb hby d5_0) rfl rfl ?_
    show Steps p.tables e below (s₁.setTop (mkF m 1 #[.val (.ref x0), .val (.ref x1), .unset] [(.ref x0)])) _
    refine XS.aloadN X0.here hx rfl (hb hby d5_1) rfl rfl ?_
    show Steps p.tables e below (s₁.setTop (mkF m 2 #[.val (.ref x0), .val (.ref x1), .unset] [(.ref x1), (.ref x0)])) _
    refine Jvm.RoadKit.acmp (g := (mkF m 2 #[.val (.ref x0), .val (.ref x1), .unset] [(.ref x1), (.ref x0)])) X0 hx rfl rfl rfl (pc0 := 2) (pc' := 7) (same := false) rfl (hb hby d5_2) rfl (decide_eq_false fun q => hne (Value.ref.inj q)) (by decide) (by decide) ?_
    show Steps p.tables e below (s₁.setTop (mkF m 7 #[.val (.ref x0), .val (.ref x1), .unset] [])) _
    refine XS.aloadN X0.here hx rfl (hb hby d5_7) rfl rfl ?_
    show Steps p.tables e below (s₁.setTop (mkF m 8 #[.val (.ref x0), .val (.ref x1), .unset] [(.ref x1)])) _
    refine st1 _ ?_
    show Steps p.tables e below (T1.setTop (mkF m 11 #[.val (.ref x0), .val (.ref x1), .unset] [(.int (1 : Int32))])) _
    refine XS.ifNo X1.here hx rfl (hb hby d5_11) rfl ((if0 _ _).trans (feq (by decide : ¬ ((1 : Int32) = (0 : Int32)))).1) ?_
    show Steps p.tables e below (T1.setTop (mkF m 14 #[.val (.ref x0), .val (.ref x1), .unset] [])) _
    refine XS.aloadN X1.here hx rfl (hb hby d5_14) rfl rfl ?_
    show Steps p.tables e below (T1.setTop (mkF m 15 #[.val (.ref x0), .val (.ref x1), .unset] [(.ref x1)])) _
    refine st2 _ ?_
    show Steps p.tables e below (T2.setTop (mkF m 18 #[.val (.ref x0), .val (.ref x1), .unset] [(.ref x1)])) _
    refine XS.astoreN X2.here hx rfl (hb hby d5_18) rfl rfl (l' := #[.val (.ref x0), .val (.ref x1), .val (.ref x1)]) rfl ?_
    show Steps p.tables e below (T2.setTop (mkF m 19 #[.val (.ref x0), .val (.ref x1), .val (.ref x1)] [])) _
    refine st3 _ ?_
    show Steps p.tables e below (T3.setTop (mkF m 22 #[.val (.ref x0), .val (.ref x1), .val (.ref x1)] [(.int cs)])) _
    refine XS.ifNo X3.here hx rfl (hb hby d5_22) rfl ((if0 _ _).trans (feq hcs).1) ?_
    show Steps p.tables e below (T3.setTop (mkF m 25 #[.val (.ref x0), .val (.ref x1), .val (.ref x1)] [])) _
    refine XS.aloadN X3.here hx rfl (hb hby d5_25) rfl rfl ?_
    show Steps p.tables e below (T3.setTop (mkF m 26 #[.val (.ref x0), .val (.ref x1), .val (.ref x1)] [(.ref x0)])) _
    refine st4 _ ?_
    show Steps p.tables e below (T4.setTop (mkF m 29 #[.val (.ref x0), .val (.ref x1), .val (.ref x1)] [(.int (0 : Int32))])) _
    refine XS.aloadN X4.here hx rfl (hb hby d5_29) rfl rfl ?_
    show Steps p.tables e below (T4.setTop (mkF m 30 #[.val (.ref x0), .val (.ref x1), .val (.ref x1)] [(.ref x1), (.int (0 : Int32))])) _
    refine st5 _ ?_
    show Steps p.tables e below (T5.setTop (mkF m 33 #[.val (.ref x0), .val (.ref x1), .val (.ref x1)] [(.int (0 : Int32)), (.int (0 : Int32))])) _
    refine XS.icmpNo X5.here hx rfl (hb hby d5_33) rfl (teq (by decide : (0 : Int32) = (0 : Int32))).2 ?_
    show Steps p.tables e below (T5.setTop (mkF m 36 #[.val (.ref x0), .val (.ref x1), .val (.ref x1)] [])) _
    refine XS.aloadN X5.here hx rfl (hb hby d5_36) rfl rfl ?_
    show Steps p.tables e below (T5.setTop (mkF m 37 #[.val (.ref x0), .val (.ref x1), .val (.ref x1)] [(.ref x0)])) _
    refine st6 _ ?_
    show Steps p.tables e below (T6.setTop (mkF m 40 #[.val (.ref x0), .val (.ref x1), .val (.ref x1)] [(.ref va)])) _
    refine XS.aloadN X6.here hx rfl (hb hby d5_40) rfl rfl ?_
    show Steps p.tables e below (T6.setTop (mkF m 41 #[.val (.ref x0), .val (.ref x1), .val (.ref x1)] [(.ref x1), (.ref va)])) _
    refine st7 _ ?_
    show Steps p.tables e below (T7.setTop (mkF m 44 #[.val (.ref x0), .val (.ref x1), .val (.ref x1)] [(.ref vb), (.ref va)])) _
    refine st8 _ ?_
    show Steps p.tables e below (T8.setTop (mkF m 47 #[.val (.ref x0), .val (.ref x1), .val (.ref x1)] [(.int (1 : Int32))])) _
    refine XS.ifNo X8.here hx rfl (hb hby d5_47) rfl ((if0 _ _).trans (feq (by decide : ¬ ((1 : Int32) = (0 : Int32)))).1) ?_
    show Steps p.tables e below (T8.setTop (mkF m 50 #[.val (.ref x0), .val (.ref x1), .val (.ref x1)] [])) _
    refine XS.iconst X8.here hx rfl (hb hby d5_50) ?_
    show Steps p.tables e below (T8.setTop (mkF m 51 #[.val (.ref x0), .val (.ref x1), .val (.ref x1)] [(.int (1 : Int32))])) _
    refine XS.goto X8.here hx rfl (pc0 := 51) (pc' := 55) rfl (hb hby d5_51) (by decide) (by decide) ?_
    show Steps p.tables e below (T8.setTop (mkF m 55 #[.val (.ref x0), .val (.ref x1), .val (.ref x1)] [(.int (1 : Int32))])) _
    exact retN X8 hx (t := .boolean) Bd.returns (by simp) (hb hby d5_55) hr
  · exact ⟨rfl, N8, e8⟩
set_option maxRecDepth 65536 in
set_option maxHeartbeats 40000000 in
theorem rmeq_same (l : Launch) (Z : State) (a0 : Array Value) (hw : ∀ d ∈ tables_1, d.before a0 Z = true) (ws : List Jvm.Cond) (x0 : Addr)  (h0 : Heap) (n0 : Nat) (Z0 : n0 ≤ h0.size)  :
    MetFree l (⟨"java/lang/String", "equals", "(Ljava/lang/Object;)Z"⟩ : MethodName) (head1 (Jvm.Cond.code (⟨"java/lang/String", "equals", "(Ljava/lang/Object;)Z"⟩ : MethodName) jdk_42_method_66_code 3 (some .boolean) :: ws) ({ frames := 1, cells := 0, slots := 0, locals := 14 } : Room)) (fun a U => a = #[(.ref x0), (.ref x0)] ∧ Z.Warmed39 U.vm ∧ U.heap = h0) (fun _ _ _ _ _ => True) (fun _ U o U' => ∃ v L, o = .returned v ∧ (QP (some (.int (1 : Int32))) h0 n0 v U'.heap L) ∧ FrameEnd U o U' L ({ frames := 1, cells := 0, slots := 0, locals := 14 } : Room).cells ({ frames := 1, cells := 0, slots := 0, locals := 14 } : Room).slots) := by
  refine MetFree.of_bodySF (plainFor_of_name pn_5) hisR ?_
  intro p e s m args below meth c s₁ Bd hml0 hP hK
  obtain ⟨rfl, hZ, hh⟩ := hP
  have hx := Bd.exec
  have hby := Bd.bytes
  have hml : c.maxLocals = 3 := hml0
  have hown : s.vm.findClass "java/lang/String" = some m.cls := findClass_of_methodNamed Bd.named
  have hnm := (name_of_methodNamed Bd.named Bd.method).1
  have X0 : Stand p l e ({ frames := 1, cells := 0, slots := 0, locals := 14 } : Room) s m #[(.ref x0), (.ref x0)] below meth c s₁ [] 0 0 := Stand.of_body Bd
  have e0 : s₁.heap = h0 := by rw [← hh, Bd.state]; rfl
  have N0 := Fr.nil n0
  have pre0 : ∀ t, Steps p.tables e below (s₁.setTop (mkF m 0 #[.val (.ref x0), .val (.ref x0), .unset] [])) t → Steps p.tables e below (s₁.setTop (entryFrame m #[(.ref x0), (.ref x0)] 3)) t := fun t k => castTop (ef_5 m x0 x0) k
  obtain ⟨fs, hr, hrun, hended, hW, hsame⟩ := X0.leave (v := some (.int (1 : Int32))) (fun h => by rw [Bd.returns] at h; cases h)
  refine ⟨_, _, pre0 _ ?_, hrun, hended, _, _, rfl, ?_, ⟨_, rfl⟩, hW, hsame.mono (by decide) (by decide)⟩
  · show Steps p.tables e below (s₁.setTop (mkF m 0 #[.val (.ref x0), .val (.ref x0), .unset] [])) _
    refine XS.aloadN X0.here hx rfl (hb hby d5_0) rfl rfl ?_
    show Steps p.tables e below (s₁.setTop (mkF m 1 #[.val (.ref x0), .val (.ref x0), .unset] [(.ref x0)])) _
    refine XS.aloadN X0.here hx rfl (hb hby d5_1) rfl rfl ?_
    show Steps p.tables e below (s₁.setTop (mkF m 2 #[.val (.ref x0), .val (.ref x0), .unset] [(.ref x0), (.ref x0)])) _
    refine Jvm.RoadKit.acmp (g := (mkF m 2 #[.val (.ref x0), .val (.ref x0), .unset] [(.ref x0), (.ref x0)])) X0 hx rfl rfl rfl (pc0 := 2) (pc' := 5) (same := true) rfl (hb hby d5_2) rfl (decide_eq_true rfl) (by decide) (by decide) ?_
    show Steps p.tables e below (s₁.setTop (mkF m 5 #[.val (.ref x0), .val (.ref x0), .unset] [])) _
    refine XS.iconst X0.here hx rfl (hb hby d5_5) ?_
    show Steps p.tables e below (s₁.setTop (mkF m 6 #[.val (.ref x0), .val (.ref x0), .unset] [(.int (1 : Int32))])) _
    exact retN X0 hx (t := .boolean) Bd.returns (by simp) (hb hby d5_6) hr
  · exact ⟨rfl, N0, e0⟩
theorem rmeqa_1y (l : Launch) (Z : State) (a0 : Array Value) (hw : ∀ d ∈ tables_1, d.before a0 Z = true) (ws : List Jvm.Cond) (x0 : Addr) (x1 : Addr) (va vb : Addr) (kv kb : ClassId) (cs : Int32) (u0 : Int32) (h0 : Heap) (n0 : Nat) (Z0 : n0 ≤ h0.size) (E_x0 : Exa Z h0 x0 "java/lang/String") (F_value_x0 : Fld Z h0 x0 "java/lang/String" "value" "[B" (.ref va)) (F_coder_x0 : Fld Z h0 x0 "java/lang/String" "coder" "B" (.int (0 : Int32))) (V_va : Arv Z h0 va kv .byte (1 : Int32) [(.int u0)] (.int (0 : Int32))) (E_x1 : Exa Z h0 x1 "java/lang/String") (F_value_x1 : Fld Z h0 x1 "java/lang/String" "value" "[B" (.ref vb)) (F_coder_x1 : Fld Z h0 x1 "java/lang/String" "coder" "B" (.int (0 : Int32))) (V_vb : Arv Z h0 vb kb .byte (1 : Int32) [(.int (45 : Int32))] (.int (0 : Int32))) (O0 : Old Z n0 h0) (S_CS : Sta Z Z.heap "java/lang/String" "COMPACT_STRINGS" "Z" (.int cs)) (hcs : ¬ (cs = (0 : Int32))) (hu : u0 = (45 : Int32)) :
    MetFree l (⟨"java/lang/String", "equals", "(Ljava/lang/Object;)Z"⟩ : MethodName) (head1 (Jvm.Cond.code (⟨"java/lang/String", "equals", "(Ljava/lang/Object;)Z"⟩ : MethodName) jdk_42_method_66_code 3 (some .boolean) :: ws) ({ frames := 1, cells := 0, slots := 0, locals := 14 } : Room)) (fun a U => a = #[(.ref x0), (.ref x1)] ∧ Z.Warmed39 U.vm ∧ U.heap = h0) (fun _ _ _ _ _ => True) (fun _ U o U' => ∃ v L, o = .returned v ∧ (QP (some (.int (1 : Int32))) h0 n0 v U'.heap L) ∧ FrameEnd U o U' L ({ frames := 1, cells := 0, slots := 0, locals := 14 } : Room).cells ({ frames := 1, cells := 0, slots := 0, locals := 14 } : Room).slots) := by
  by_cases hq : x0 = x1
  · subst hq; exact rmeq_same l Z a0 hw ws x0 h0 n0 Z0
  · exact rmeq_1y l Z a0 hw ws x0 x1 va vb kv kb cs u0 h0 n0 Z0 E_x0 F_value_x0 F_coder_x0 V_va E_x1 F_value_x1 F_coder_x1 V_vb O0 S_CS hcs hq hu
theorem rmeqa_14 (l : Launch) (Z : State) (a0 : Array Value) (hw : ∀ d ∈ tables_1, d.before a0 Z = true) (ws : List Jvm.Cond) (x0 : Addr) (x1 : Addr) (va vb : Addr) (kv kb : ClassId) (cs : Int32)  (h0 : Heap) (n0 : Nat) (Z0 : n0 ≤ h0.size) (E_x0 : Exa Z h0 x0 "java/lang/String") (F_value_x0 : Fld Z h0 x0 "java/lang/String" "value" "[B" (.ref va)) (F_coder_x0 : Fld Z h0 x0 "java/lang/String" "coder" "B" (.int (0 : Int32))) (V_va : Arv Z h0 va kv .byte (14 : Int32) [(.int (115 : Int32)), (.int (116 : Int32)), (.int (97 : Int32)), (.int (110 : Int32)), (.int (100 : Int32)), (.int (97 : Int32)), (.int (114 : Int32)), (.int (100 : Int32)), (.int (32 : Int32)), (.int (105 : Int32)), (.int (110 : Int32)), (.int (112 : Int32)), (.int (117 : Int32)), (.int (116 : Int32))] (.int (0 : Int32))) (E_x1 : Exa Z h0 x1 "java/lang/String") (F_value_x1 : Fld Z h0 x1 "java/lang/String" "value" "[B" (.ref vb)) (F_coder_x1 : Fld Z h0 x1 "java/lang/String" "coder" "B" (.int (0 : Int32))) (V_vb : Arv Z h0 vb kb .byte (14 : Int32) [(.int (115 : Int32)), (.int (116 : Int32)), (.int (97 : Int32)), (.int (110 : Int32)), (.int (100 : Int32)), (.int (97 : Int32)), (.int (114 : Int32)), (.int (100 : Int32)), (.int (32 : Int32)), (.int (105 : Int32)), (.int (110 : Int32)), (.int (112 : Int32)), (.int (117 : Int32)), (.int (116 : Int32))] (.int (0 : Int32))) (O0 : Old Z n0 h0) (S_CS : Sta Z Z.heap "java/lang/String" "COMPACT_STRINGS" "Z" (.int cs)) (hcs : ¬ (cs = (0 : Int32)))  :
    MetFree l (⟨"java/lang/String", "equals", "(Ljava/lang/Object;)Z"⟩ : MethodName) (head1 (Jvm.Cond.code (⟨"java/lang/String", "equals", "(Ljava/lang/Object;)Z"⟩ : MethodName) jdk_42_method_66_code 3 (some .boolean) :: ws) ({ frames := 1, cells := 0, slots := 0, locals := 14 } : Room)) (fun a U => a = #[(.ref x0), (.ref x1)] ∧ Z.Warmed39 U.vm ∧ U.heap = h0) (fun _ _ _ _ _ => True) (fun _ U o U' => ∃ v L, o = .returned v ∧ (QP (some (.int (1 : Int32))) h0 n0 v U'.heap L) ∧ FrameEnd U o U' L ({ frames := 1, cells := 0, slots := 0, locals := 14 } : Room).cells ({ frames := 1, cells := 0, slots := 0, locals := 14 } : Room).slots) := by
  by_cases hq : x0 = x1
  · subst hq; exact rmeq_same l Z a0 hw ws x0 h0 n0 Z0
  · exact rmeq_14 l Z a0 hw ws x0 x1 va vb kv kb cs  h0 n0 Z0 E_x0 F_value_x0 F_coder_x0 V_va E_x1 F_value_x1 F_coder_x1 V_vb O0 S_CS hcs hq 
set_option maxRecDepth 65536 in
set_option maxHeartbeats 40000000 in
theorem rm8 (l : Launch) (Z : State) (a0 : Array Value) (hw : ∀ d ∈ tables_1, d.before a0 Z = true) (ws : List Jvm.Cond) (x0 : Addr) (cs : Int32) (h0 : Heap) (n0 : Nat) (Z0 : n0 ≤ h0.size) (F_coder_x0 : Fld Z h0 x0 "java/lang/String" "coder" "B" (.int (0 : Int32))) (O0 : Old Z n0 h0) (S_CS : Sta Z Z.heap "java/lang/String" "COMPACT_STRINGS" "Z" (.int cs)) (hcs : ¬ (cs = (0 : Int32))) :
    MetFree l (⟨"java/lang/String", "coder", "()B"⟩ : MethodName) (head1 (Jvm.Cond.code (⟨"java/lang/String", "coder", "()B"⟩ : MethodName) jdk_42_method_152_code 1 (some .byte) :: ws) ({ frames := 0, cells := 0, slots := 0, locals := 0 } : Room)) (fun a U => a = #[(.ref x0)] ∧ Z.Warmed39 U.vm ∧ U.heap = h0) (fun _ _ _ _ _ => True) (fun _ U o U' => ∃ v L, o = .returned v ∧ (QP (some (.int (0 : Int32))) h0 n0 v U'.heap L) ∧ FrameEnd U o U' L ({ frames := 0, cells := 0, slots := 0, locals := 0 } : Room).cells ({ frames := 0, cells := 0, slots := 0, locals := 0 } : Room).slots) := by
  refine MetFree.of_bodySF (plainFor_of_name pn_8) hisR ?_
  intro p e s m args below meth c s₁ Bd hml0 hP hK
  obtain ⟨rfl, hZ, hh⟩ := hP
  have hx := Bd.exec
  have hby := Bd.bytes
  have hml : c.maxLocals = 1 := hml0
  have hown : s.vm.findClass "java/lang/String" = some m.cls := findClass_of_methodNamed Bd.named
  have hnm := (name_of_methodNamed Bd.named Bd.method).1
  have X0 : Stand p l e ({ frames := 0, cells := 0, slots := 0, locals := 0 } : Room) s m #[(.ref x0)] below meth c s₁ [] 0 0 := Stand.of_body Bd
  have e0 : s₁.heap = h0 := by rw [← hh, Bd.state]; rfl
  have N0 := Fr.nil n0
  have pre0 : ∀ t, Steps p.tables e below (s₁.setTop (mkF m 0 #[.val (.ref x0)] [])) t → Steps p.tables e below (s₁.setTop (entryFrame m #[(.ref x0)] 1)) t := fun t k => castTop (ef_8 m x0) k
  obtain ⟨T1, X1, e1, st1⟩ := getS2 X0 hx hZ hown (host := "") (Or.inl (hw _ (List.mem_of_getElem? (i := 33) rfl))) Via.refl e0 (own_Sta_old S_CS O0) (g := (mkF m 0 #[.val (.ref x0)] [])) rfl (hb hby d8_0)
  obtain ⟨T2, X2, e2, st2⟩ := getF X1 hx hZ hown (host := "") (Or.inl (hw _ (List.mem_of_getElem? (i := 21) rfl))) Via.refl e1 F_coder_x0 (g := (mkF m 7 #[.val (.ref x0)] [(.ref x0)])) rfl rfl (hb hby d8_7)
  obtain ⟨fs, hr, hrun, hended, hW, hsame⟩ := X2.leave (v := some (.int (0 : Int32))) (fun h => by rw [Bd.returns] at h; cases h)
  refine ⟨_, _, pre0 _ ?_, hrun, hended, _, _, rfl, ?_, ⟨_, rfl⟩, hW, hsame.mono (by decide) (by decide)⟩
  · show Steps p.tables e below (s₁.setTop (mkF m 0 #[.val (.ref x0)] [])) _
    refine st1 _ ?_
    show Steps p.tables e below (T1.setTop (mkF m 3 #[.val (.ref x0)] [(.int cs)])) _
    refine XS.ifNo X1.here hx rfl (hb hby d8_3) rfl ((if0 _ _).trans (feq hcs).1) ?_
    show Steps p.tables e below (T1.setTop (mkF m 6 #[.val (.ref x0)] [])) _
    refine XS.aloadN X1.here hx rfl (hb hby d8_6) rfl rfl ?_
    show Steps p.tables e below (T1.setTop (mkF m 7 #[.val (.ref x0)] [(.ref x0)])) _
    refine st2 _ ?_
    show Steps p.tables e below (T2.setTop (mkF m 10 #[.val (.ref x0)] [(.int (0 : Int32))])) _
    refine XS.goto X2.here hx rfl (pc0 := 10) (pc' := 14) rfl (hb hby d8_10) (by decide) (by decide) ?_
    show Steps p.tables e below (T2.setTop (mkF m 14 #[.val (.ref x0)] [(.int (0 : Int32))])) _
    exact retN X2 hx (t := .byte) Bd.returns (by simp) (hb hby d8_14) hr
  · exact ⟨rfl, N0, e2⟩
theorem pd___B : parseMethodDescriptor "()B" = some ⟨[], some .byte⟩ := by decide +kernel
set_option maxRecDepth 65536 in
set_option maxHeartbeats 40000000 in
theorem rmln_0 (l : Launch) (Z : State) (a0 : Array Value) (hw : ∀ d ∈ tables_1, d.before a0 Z = true) (ws : List Jvm.Cond) (x0 : Addr) (va : Addr) (kv : ClassId) (cs : Int32)  (h0 : Heap) (n0 : Nat) (Z0 : n0 ≤ h0.size) (E_x0 : Exa Z h0 x0 "java/lang/String") (F_value_x0 : Fld Z h0 x0 "java/lang/String" "value" "[B" (.ref va)) (F_coder_x0 : Fld Z h0 x0 "java/lang/String" "coder" "B" (.int (0 : Int32))) (V_va : Arv Z h0 va kv .byte (0 : Int32) [] (.int (0 : Int32))) (O0 : Old Z n0 h0) (S_CS : Sta Z Z.heap "java/lang/String" "COMPACT_STRINGS" "Z" (.int cs)) (hcs : ¬ (cs = (0 : Int32))) :
    MetFree l (⟨"java/lang/String", "length", "()I"⟩ : MethodName) (head1 (Jvm.Cond.code (⟨"java/lang/String", "length", "()I"⟩ : MethodName) jdk_42_method_54_code 1 (some .int) :: ws) ({ frames := 1, cells := 0, slots := 0, locals := 13 } : Room)) (fun a U => a = #[(.ref x0)] ∧ Z.Warmed39 U.vm ∧ U.heap = h0) (fun _ _ _ _ _ => True) (fun _ U o U' => ∃ v L, o = .returned v ∧ (QP (some (.int (0 : Int32))) h0 n0 v U'.heap L) ∧ FrameEnd U o U' L ({ frames := 1, cells := 0, slots := 0, locals := 13 } : Room).cells ({ frames := 1, cells := 0, slots := 0, locals := 13 } : Room).slots) := by
  refine MetFree.of_bodySF (plainFor_of_name pn_7) hisR ?_
  intro p e s m args below meth c s₁ Bd hml0 hP hK
  obtain ⟨rfl, hZ, hh⟩ := hP
  have hx := Bd.exec
  have hby := Bd.bytes
  have hml : c.maxLocals = 1 := hml0
  have hown : s.vm.findClass "java/lang/String" = some m.cls := findClass_of_methodNamed Bd.named
  have hnm := (name_of_methodNamed Bd.named Bd.method).1
  have X0 : Stand p l e ({ frames := 1, cells := 0, slots := 0, locals := 13 } : Room) s m #[(.ref x0)] below meth c s₁ [] 0 0 := Stand.of_body Bd
  have e0 : s₁.heap = h0 := by rw [← hh, Bd.state]; rfl
  have N0 := Fr.nil n0
  have pre0 : ∀ t, Steps p.tables e below (s₁.setTop (mkF m 0 #[.val (.ref x0)] [])) t → Steps p.tables e below (s₁.setTop (entryFrame m #[(.ref x0)] 1)) t := fun t k => castTop (ef_7 m x0) k
  obtain ⟨T1, X1, e1, st1⟩ := getF X0 hx hZ hown (host := "") (Or.inl (hw _ (List.mem_of_getElem? (i := 20) rfl))) Via.refl e0 F_value_x0 (g := (mkF m 1 #[.val (.ref x0)] [(.ref x0)])) rfl rfl (hb hby d7_1)
  obtain ⟨cq2, kq2, q2a, q2b, q2c⟩ := isOf hZ e1 E_x0
  obtain ⟨_, _, ⟨T2, L2, k2, n2⟩, -, X2, ⟨Lc2, hQ2, l2, y2, z2⟩, st2⟩ := X1.virtualBack hx (y := (⟨"java/lang/String", "coder", "()B"⟩ : MethodName)) (z := (⟨"java/lang/String", "coder", "()B"⟩ : MethodName)) hown (mvT hZ (hw _ (List.mem_of_getElem? (i := 43) rfl))) (mvT hZ (hw _ (List.mem_of_getElem? (i := 44) rfl))) (notFace_of_selects (args := #[]) (mvT hZ (hw _ (List.mem_of_getElem? (i := 46) rfl)))) (mvT hZ (hw _ (List.mem_of_getElem? (i := 46) rfl))) (mvT hZ (hw _ (List.mem_of_getElem? (i := 45) rfl))) (by decide) (backOf (W := 1) (rm8 l Z a0 hw [] x0 cs h0 n0 Z0 F_coder_x0 O0 S_CS hcs) hZ (hw _ (List.mem_of_getElem? (i := 47) rfl)) (hw _ (List.mem_of_getElem? (i := 3) rfl)) (by decide) (by decide)) q2a q2c (g := (mkF m 6 #[.val (.ref x0)] [(.ref x0), (.int (0 : Int32))])) rfl (by rw [hml]; rfl) (Steps.refl _) (argsL := []) (rest := [(.int (0 : Int32))]) (lenOf pd___B rfl) rfl (by show 2 * 0 + _ ≤ _; exact Nat.le_of_eq rfl) (hb hby d7_6) (fun _ _ => ⟨rfl, e1, (by decide : 0 + 0 ≤ _), (by decide : 0 + 0 ≤ _)⟩)
  dsimp only [Pt.U, Pt.locs, Pt.cells, Pt.slots] at X2 l2 y2 z2 st2 hQ2
  subst l2 y2 z2
  obtain ⟨rfl, N2q, e2⟩ := hQ2
  have N2 := Fr.app N0 N2q
  obtain ⟨fs, hr, hrun, hended, hW, hsame⟩ := X2.leave (v := some (.int (0 : Int32))) (fun h => by rw [Bd.returns] at h; cases h)
  refine ⟨_, _, pre0 _ ?_, hrun, hended, _, _, rfl, ?_, ⟨_, rfl⟩, hW, hsame.mono (by decide) (by decide)⟩
  · show Steps p.tables e below (s₁.setTop (mkF m 0 #[.val (.ref x0)] [])) _
    refine XS.aloadN X0.here hx rfl (hb hby d7_0) rfl rfl ?_
    show Steps p.tables e below (s₁.setTop (mkF m 1 #[.val (.ref x0)] [(.ref x0)])) _
    refine st1 _ ?_
    show Steps p.tables e below (T1.setTop (mkF m 4 #[.val (.ref x0)] [(.ref va)])) _
    refine own_len X1 hx hZ e1 V_va (g := (mkF m 4 #[.val (.ref x0)] [(.ref va)])) rfl rfl (hb hby d7_4) ?_
    show Steps p.tables e below (T1.setTop (mkF m 5 #[.val (.ref x0)] [(.int (0 : Int32))])) _
    refine XS.aloadN X1.here hx rfl (hb hby d7_5) rfl rfl ?_
    show Steps p.tables e below (T1.setTop (mkF m 6 #[.val (.ref x0)] [(.ref x0), (.int (0 : Int32))])) _
    refine st2.trans ?_
    show Steps p.tables e below (T2.setTop (mkF m 9 #[.val (.ref x0)] [(.int (0 : Int32)), (.int (0 : Int32))])) _
    refine XS.ishr X2.here hx rfl (hb hby d7_9) rfl ?_
    show Steps p.tables e below (T2.setTop (mkF m 10 #[.val (.ref x0)] [(.int ((0 : Int32) >>> ((0 : Int32) &&& 31)))])) _
    show Steps p.tables e below (T2.setTop (mkF m 10 #[.val (.ref x0)] [(.int (0 : Int32))])) _
    exact retI X2 hx Bd.returns (hb hby d7_10) hr
  · exact ⟨rfl, N2, e2⟩
set_option maxRecDepth 65536 in
set_option maxHeartbeats 40000000 in
theorem rmln_1 (l : Launch) (Z : State) (a0 : Array Value) (hw : ∀ d ∈ tables_1, d.before a0 Z = true) (ws : List Jvm.Cond) (x0 : Addr) (va : Addr) (kv : ClassId) (cs : Int32) (u0 : Int32) (h0 : Heap) (n0 : Nat) (Z0 : n0 ≤ h0.size) (E_x0 : Exa Z h0 x0 "java/lang/String") (F_value_x0 : Fld Z h0 x0 "java/lang/String" "value" "[B" (.ref va)) (F_coder_x0 : Fld Z h0 x0 "java/lang/String" "coder" "B" (.int (0 : Int32))) (V_va : Arv Z h0 va kv .byte (1 : Int32) [(.int u0)] (.int (0 : Int32))) (O0 : Old Z n0 h0) (S_CS : Sta Z Z.heap "java/lang/String" "COMPACT_STRINGS" "Z" (.int cs)) (hcs : ¬ (cs = (0 : Int32))) :
    MetFree l (⟨"java/lang/String", "length", "()I"⟩ : MethodName) (head1 (Jvm.Cond.code (⟨"java/lang/String", "length", "()I"⟩ : MethodName) jdk_42_method_54_code 1 (some .int) :: ws) ({ frames := 1, cells := 0, slots := 0, locals := 13 } : Room)) (fun a U => a = #[(.ref x0)] ∧ Z.Warmed39 U.vm ∧ U.heap = h0) (fun _ _ _ _ _ => True) (fun _ U o U' => ∃ v L, o = .returned v ∧ (QP (some (.int (1 : Int32))) h0 n0 v U'.heap L) ∧ FrameEnd U o U' L ({ frames := 1, cells := 0, slots := 0, locals := 13 } : Room).cells ({ frames := 1, cells := 0, slots := 0, locals := 13 } : Room).slots) := by
  refine MetFree.of_bodySF (plainFor_of_name pn_7) hisR ?_
  intro p e s m args below meth c s₁ Bd hml0 hP hK
  obtain ⟨rfl, hZ, hh⟩ := hP
  have hx := Bd.exec
  have hby := Bd.bytes
  have hml : c.maxLocals = 1 := hml0
  have hown : s.vm.findClass "java/lang/String" = some m.cls := findClass_of_methodNamed Bd.named
  have hnm := (name_of_methodNamed Bd.named Bd.method).1
  have X0 : Stand p l e ({ frames := 1, cells := 0, slots := 0, locals := 13 } : Room) s m #[(.ref x0)] below meth c s₁ [] 0 0 := Stand.of_body Bd
  have e0 : s₁.heap = h0 := by rw [← hh, Bd.state]; rfl
  have N0 := Fr.nil n0
  have pre0 : ∀ t, Steps p.tables e below (s₁.setTop (mkF m 0 #[.val (.ref x0)] [])) t → Steps p.tables e below (s₁.setTop (entryFrame m #[(.ref x0)] 1)) t := fun t k => castTop (ef_7 m x0) k
  obtain ⟨T1, X1, e1, st1⟩ := getF X0 hx hZ hown (host := "") (Or.inl (hw _ (List.mem_of_getElem? (i := 20) rfl))) Via.refl e0 F_value_x0 (g := (mkF m 1 #[.val (.ref x0)] [(.ref x0)])) rfl rfl (hb hby d7_1)
  obtain ⟨cq2, kq2, q2a, q2b, q2c⟩ := isOf hZ e1 E_x0
  obtain ⟨_, _, ⟨T2, L2, k2, n2⟩, -, X2, ⟨Lc2, hQ2, l2, y2, z2⟩, st2⟩ := X1.virtualBack hx (y := (⟨"java/lang/String", "coder", "()B"⟩ : MethodName)) (z := (⟨"java/lang/String", "coder", "()B"⟩ : MethodName)) hown (mvT hZ (hw _ (List.mem_of_getElem? (i := 43) rfl))) (mvT hZ (hw _ (List.mem_of_getElem? (i := 44) rfl))) (notFace_of_selects (args := #[]) (mvT hZ (hw _ (List.mem_of_getElem? (i := 46) rfl)))) (mvT hZ (hw _ (List.mem_of_getElem? (i := 46) rfl))) (mvT hZ (hw _ (List.mem_of_getElem? (i := 45) rfl))) (by decide) (backOf (W := 1) (rm8 l Z a0 hw [] x0 cs h0 n0 Z0 F_coder_x0 O0 S_CS hcs) hZ (hw _ (List.mem_of_getElem? (i := 47) rfl)) (hw _ (List.mem_of_getElem? (i := 3) rfl)) (by decide) (by decide)) q2a q2c (g := (mkF m 6 #[.val (.ref x0)] [(.ref x0), (.int (1 : Int32))])) rfl (by rw [hml]; rfl) (Steps.refl _) (argsL := []) (rest := [(.int (1 : Int32))]) (lenOf pd___B rfl) rfl (by show 2 * 0 + _ ≤ _; exact Nat.le_of_eq rfl) (hb hby d7_6) (fun _ _ => ⟨rfl, e1, (by decide : 0 + 0 ≤ _), (by decide : 0 + 0 ≤ _)⟩)
  dsimp only [Pt.U, Pt.locs, Pt.cells, Pt.slots] at X2 l2 y2 z2 st2 hQ2
  subst l2 y2 z2
  obtain ⟨rfl, N2q, e2⟩ := hQ2
  have N2 := Fr.app N0 N2q
  obtain ⟨fs, hr, hrun, hended, hW, hsame⟩ := X2.leave (v := some (.int (1 : Int32))) (fun h => by rw [Bd.returns] at h; cases h)
  refine ⟨_, _, pre0 _ ?_, hrun, hended, _, _, rfl, ?_, ⟨_, rfl⟩, hW, hsame.mono (by decide) (by decide)⟩
  · show Steps p.tables e below (s₁.setTop (mkF m 0 #[.val (.ref x0)] [])) _
    refine XS.aloadN X0.here hx rfl (hb hby d7_0) rfl rfl ?_
    show Steps p.tables e below (s₁.setTop (mkF m 1 #[.val (.ref x0)] [(.ref x0)])) _
    refine st1 _ ?_
    show Steps p.tables e below (T1.setTop (mkF m 4 #[.val (.ref x0)] [(.ref va)])) _
    refine own_len X1 hx hZ e1 V_va (g := (mkF m 4 #[.val (.ref x0)] [(.ref va)])) rfl rfl (hb hby d7_4) ?_
    show Steps p.tables e below (T1.setTop (mkF m 5 #[.val (.ref x0)] [(.int (1 : Int32))])) _
    refine XS.aloadN X1.here hx rfl (hb hby d7_5) rfl rfl ?_
    show Steps p.tables e below (T1.setTop (mkF m 6 #[.val (.ref x0)] [(.ref x0), (.int (1 : Int32))])) _
    refine st2.trans ?_
    show Steps p.tables e below (T2.setTop (mkF m 9 #[.val (.ref x0)] [(.int (0 : Int32)), (.int (1 : Int32))])) _
    refine XS.ishr X2.here hx rfl (hb hby d7_9) rfl ?_
    show Steps p.tables e below (T2.setTop (mkF m 10 #[.val (.ref x0)] [(.int ((1 : Int32) >>> ((0 : Int32) &&& 31)))])) _
    show Steps p.tables e below (T2.setTop (mkF m 10 #[.val (.ref x0)] [(.int (1 : Int32))])) _
    exact retI X2 hx Bd.returns (hb hby d7_10) hr
  · exact ⟨rfl, N2, e2⟩
set_option maxRecDepth 65536 in
set_option maxHeartbeats 40000000 in
theorem rmln_2 (l : Launch) (Z : State) (a0 : Array Value) (hw : ∀ d ∈ tables_1, d.before a0 Z = true) (ws : List Jvm.Cond) (x0 : Addr) (va : Addr) (kv : ClassId) (cs : Int32) (u0 : Int32) (u1 : Int32) (h0 : Heap) (n0 : Nat) (Z0 : n0 ≤ h0.size) (E_x0 : Exa Z h0 x0 "java/lang/String") (F_value_x0 : Fld Z h0 x0 "java/lang/String" "value" "[B" (.ref va)) (F_coder_x0 : Fld Z h0 x0 "java/lang/String" "coder" "B" (.int (0 : Int32))) (V_va : Arv Z h0 va kv .byte (2 : Int32) [(.int u0), (.int u1)] (.int (0 : Int32))) (O0 : Old Z n0 h0) (S_CS : Sta Z Z.heap "java/lang/String" "COMPACT_STRINGS" "Z" (.int cs)) (hcs : ¬ (cs = (0 : Int32))) :
    MetFree l (⟨"java/lang/String", "length", "()I"⟩ : MethodName) (head1 (Jvm.Cond.code (⟨"java/lang/String", "length", "()I"⟩ : MethodName) jdk_42_method_54_code 1 (some .int) :: ws) ({ frames := 1, cells := 0, slots := 0, locals := 13 } : Room)) (fun a U => a = #[(.ref x0)] ∧ Z.Warmed39 U.vm ∧ U.heap = h0) (fun _ _ _ _ _ => True) (fun _ U o U' => ∃ v L, o = .returned v ∧ (QP (some (.int (2 : Int32))) h0 n0 v U'.heap L) ∧ FrameEnd U o U' L ({ frames := 1, cells := 0, slots := 0, locals := 13 } : Room).cells ({ frames := 1, cells := 0, slots := 0, locals := 13 } : Room).slots) := by
  refine MetFree.of_bodySF (plainFor_of_name pn_7) hisR ?_
  intro p e s m args below meth c s₁ Bd hml0 hP hK
  obtain ⟨rfl, hZ, hh⟩ := hP
  have hx := Bd.exec
  have hby := Bd.bytes
  have hml : c.maxLocals = 1 := hml0
  have hown : s.vm.findClass "java/lang/String" = some m.cls := findClass_of_methodNamed Bd.named
  have hnm := (name_of_methodNamed Bd.named Bd.method).1
  have X0 : Stand p l e ({ frames := 1, cells := 0, slots := 0, locals := 13 } : Room) s m #[(.ref x0)] below meth c s₁ [] 0 0 := Stand.of_body Bd
  have e0 : s₁.heap = h0 := by rw [← hh, Bd.state]; rfl
  have N0 := Fr.nil n0
  have pre0 : ∀ t, Steps p.tables e below (s₁.setTop (mkF m 0 #[.val (.ref x0)] [])) t → Steps p.tables e below (s₁.setTop (entryFrame m #[(.ref x0)] 1)) t := fun t k => castTop (ef_7 m x0) k
  obtain ⟨T1, X1, e1, st1⟩ := getF X0 hx hZ hown (host := "") (Or.inl (hw _ (List.mem_of_getElem? (i := 20) rfl))) Via.refl e0 F_value_x0 (g := (mkF m 1 #[.val (.ref x0)] [(.ref x0)])) rfl rfl (hb hby d7_1)
  obtain ⟨cq2, kq2, q2a, q2b, q2c⟩ := isOf hZ e1 E_x0
  obtain ⟨_, _, ⟨T2, L2, k2, n2⟩, -, X2, ⟨Lc2, hQ2, l2, y2, z2⟩, st2⟩ := X1.virtualBack hx (y := (⟨"java/lang/String", "coder", "()B"⟩ : MethodName)) (z := (⟨"java/lang/String", "coder", "()B"⟩ : MethodName)) hown (mvT hZ (hw _ (List.mem_of_getElem? (i := 43) rfl))) (mvT hZ (hw _ (List.mem_of_getElem? (i := 44) rfl))) (notFace_of_selects (args := #[]) (mvT hZ (hw _ (List.mem_of_getElem? (i := 46) rfl)))) (mvT hZ (hw _ (List.mem_of_getElem? (i := 46) rfl))) (mvT hZ (hw _ (List.mem_of_getElem? (i := 45) rfl))) (by decide) (backOf (W := 1) (rm8 l Z a0 hw [] x0 cs h0 n0 Z0 F_coder_x0 O0 S_CS hcs) hZ (hw _ (List.mem_of_getElem? (i := 47) rfl)) (hw _ (List.mem_of_getElem? (i := 3) rfl)) (by decide) (by decide)) q2a q2c (g := (mkF m 6 #[.val (.ref x0)] [(.ref x0), (.int (2 : Int32))])) rfl (by rw [hml]; rfl) (Steps.refl _) (argsL := []) (rest := [(.int (2 : Int32))]) (lenOf pd___B rfl) rfl (by show 2 * 0 + _ ≤ _; exact Nat.le_of_eq rfl) (hb hby d7_6) (fun _ _ => ⟨rfl, e1, (by decide : 0 + 0 ≤ _), (by decide : 0 + 0 ≤ _)⟩)
  dsimp only [Pt.U, Pt.locs, Pt.cells, Pt.slots] at X2 l2 y2 z2 st2 hQ2
  subst l2 y2 z2
  obtain ⟨rfl, N2q, e2⟩ := hQ2
  have N2 := Fr.app N0 N2q
  obtain ⟨fs, hr, hrun, hended, hW, hsame⟩ := X2.leave (v := some (.int (2 : Int32))) (fun h => by rw [Bd.returns] at h; cases h)
  refine ⟨_, _, pre0 _ ?_, hrun, hended, _, _, rfl, ?_, ⟨_, rfl⟩, hW, hsame.mono (by decide) (by decide)⟩
  · show Steps p.tables e below (s₁.setTop (mkF m 0 #[.val (.ref x0)] [])) _
    refine XS.aloadN X0.here hx rfl (hb hby d7_0) rfl rfl ?_
    show Steps p.tables e below (s₁.setTop (mkF m 1 #[.val (.ref x0)] [(.ref x0)])) _
    refine st1 _ ?_
    show Steps p.tables e below (T1.setTop (mkF m 4 #[.val (.ref x0)] [(.ref va)])) _
    refine own_len X1 hx hZ e1 V_va (g := (mkF m 4 #[.val (.ref x0)] [(.ref va)])) rfl rfl (hb hby d7_4) ?_
    show Steps p.tables e below (T1.setTop (mkF m 5 #[.val (.ref x0)] [(.int (2 : Int32))])) _
    refine XS.aloadN X1.here hx rfl (hb hby d7_5) rfl rfl ?_
    show Steps p.tables e below (T1.setTop (mkF m 6 #[.val (.ref x0)] [(.ref x0), (.int (2 : Int32))])) _
    refine st2.trans ?_
    show Steps p.tables e below (T2.setTop (mkF m 9 #[.val (.ref x0)] [(.int (0 : Int32)), (.int (2 : Int32))])) _
    refine XS.ishr X2.here hx rfl (hb hby d7_9) rfl ?_
    show Steps p.tables e below (T2.setTop (mkF m 10 #[.val (.ref x0)] [(.int ((2 : Int32) >>> ((0 : Int32) &&& 31)))])) _
    show Steps p.tables e below (T2.setTop (mkF m 10 #[.val (.ref x0)] [(.int (2 : Int32))])) _
    exact retI X2 hx Bd.returns (hb hby d7_10) hr
  · exact ⟨rfl, N2, e2⟩
set_option maxRecDepth 65536 in
set_option maxHeartbeats 40000000 in
theorem rmln_3 (l : Launch) (Z : State) (a0 : Array Value) (hw : ∀ d ∈ tables_1, d.before a0 Z = true) (ws : List Jvm.Cond) (x0 : Addr) (va : Addr) (kv : ClassId) (cs : Int32) (u0 : Int32) (u1 : Int32) (u2 : Int32) (h0 : Heap) (n0 : Nat) (Z0 : n0 ≤ h0.size) (E_x0 : Exa Z h0 x0 "java/lang/String") (F_value_x0 : Fld Z h0 x0 "java/lang/String" "value" "[B" (.ref va)) (F_coder_x0 : Fld Z h0 x0 "java/lang/String" "coder" "B" (.int (0 : Int32))) (V_va : Arv Z h0 va kv .byte (3 : Int32) [(.int u0), (.int u1), (.int u2)] (.int (0 : Int32))) (O0 : Old Z n0 h0) (S_CS : Sta Z Z.heap "java/lang/String" "COMPACT_STRINGS" "Z" (.int cs)) (hcs : ¬ (cs = (0 : Int32))) :
    MetFree l (⟨"java/lang/String", "length", "()I"⟩ : MethodName) (head1 (Jvm.Cond.code (⟨"java/lang/String", "length", "()I"⟩ : MethodName) jdk_42_method_54_code 1 (some .int) :: ws) ({ frames := 1, cells := 0, slots := 0, locals := 13 } : Room)) (fun a U => a = #[(.ref x0)] ∧ Z.Warmed39 U.vm ∧ U.heap = h0) (fun _ _ _ _ _ => True) (fun _ U o U' => ∃ v L, o = .returned v ∧ (QP (some (.int (3 : Int32))) h0 n0 v U'.heap L) ∧ FrameEnd U o U' L ({ frames := 1, cells := 0, slots := 0, locals := 13 } : Room).cells ({ frames := 1, cells := 0, slots := 0, locals := 13 } : Room).slots) := by
  refine MetFree.of_bodySF (plainFor_of_name pn_7) hisR ?_
  intro p e s m args below meth c s₁ Bd hml0 hP hK
  obtain ⟨rfl, hZ, hh⟩ := hP
  have hx := Bd.exec
  have hby := Bd.bytes
  have hml : c.maxLocals = 1 := hml0
  have hown : s.vm.findClass "java/lang/String" = some m.cls := findClass_of_methodNamed Bd.named
  have hnm := (name_of_methodNamed Bd.named Bd.method).1
  have X0 : Stand p l e ({ frames := 1, cells := 0, slots := 0, locals := 13 } : Room) s m #[(.ref x0)] below meth c s₁ [] 0 0 := Stand.of_body Bd
  have e0 : s₁.heap = h0 := by rw [← hh, Bd.state]; rfl
  have N0 := Fr.nil n0
  have pre0 : ∀ t, Steps p.tables e below (s₁.setTop (mkF m 0 #[.val (.ref x0)] [])) t → Steps p.tables e below (s₁.setTop (entryFrame m #[(.ref x0)] 1)) t := fun t k => castTop (ef_7 m x0) k
  obtain ⟨T1, X1, e1, st1⟩ := getF X0 hx hZ hown (host := "") (Or.inl (hw _ (List.mem_of_getElem? (i := 20) rfl))) Via.refl e0 F_value_x0 (g := (mkF m 1 #[.val (.ref x0)] [(.ref x0)])) rfl rfl (hb hby d7_1)
  obtain ⟨cq2, kq2, q2a, q2b, q2c⟩ := isOf hZ e1 E_x0
  obtain ⟨_, _, ⟨T2, L2, k2, n2⟩, -, X2, ⟨Lc2, hQ2, l2, y2, z2⟩, st2⟩ := X1.virtualBack hx (y := (⟨"java/lang/String", "coder", "()B"⟩ : MethodName)) (z := (⟨"java/lang/String", "coder", "()B"⟩ : MethodName)) hown (mvT hZ (hw _ (List.mem_of_getElem? (i := 43) rfl))) (mvT hZ (hw _ (List.mem_of_getElem? (i := 44) rfl))) (notFace_of_selects (args := #[]) (mvT hZ (hw _ (List.mem_of_getElem? (i := 46) rfl)))) (mvT hZ (hw _ (List.mem_of_getElem? (i := 46) rfl))) (mvT hZ (hw _ (List.mem_of_getElem? (i := 45) rfl))) (by decide) (backOf (W := 1) (rm8 l Z a0 hw [] x0 cs h0 n0 Z0 F_coder_x0 O0 S_CS hcs) hZ (hw _ (List.mem_of_getElem? (i := 47) rfl)) (hw _ (List.mem_of_getElem? (i := 3) rfl)) (by decide) (by decide)) q2a q2c (g := (mkF m 6 #[.val (.ref x0)] [(.ref x0), (.int (3 : Int32))])) rfl (by rw [hml]; rfl) (Steps.refl _) (argsL := []) (rest := [(.int (3 : Int32))]) (lenOf pd___B rfl) rfl (by show 2 * 0 + _ ≤ _; exact Nat.le_of_eq rfl) (hb hby d7_6) (fun _ _ => ⟨rfl, e1, (by decide : 0 + 0 ≤ _), (by decide : 0 + 0 ≤ _)⟩)
  dsimp only [Pt.U, Pt.locs, Pt.cells, Pt.slots] at X2 l2 y2 z2 st2 hQ2
  subst l2 y2 z2
  obtain ⟨rfl, N2q, e2⟩ := hQ2
  have N2 := Fr.app N0 N2q
  obtain ⟨fs, hr, hrun, hended, hW, hsame⟩ := X2.leave (v := some (.int (3 : Int32))) (fun h => by rw [Bd.returns] at h; cases h)
  refine ⟨_, _, pre0 _ ?_, hrun, hended, _, _, rfl, ?_, ⟨_, rfl⟩, hW, hsame.mono (by decide) (by decide)⟩
  · show Steps p.tables e below (s₁.setTop (mkF m 0 #[.val (.ref x0)] [])) _
    refine XS.aloadN X0.here hx rfl (hb hby d7_0) rfl rfl ?_
    show Steps p.tables e below (s₁.setTop (mkF m 1 #[.val (.ref x0)] [(.ref x0)])) _
    refine st1 _ ?_
    show Steps p.tables e below (T1.setTop (mkF m 4 #[.val (.ref x0)] [(.ref va)])) _
    refine own_len X1 hx hZ e1 V_va (g := (mkF m 4 #[.val (.ref x0)] [(.ref va)])) rfl rfl (hb hby d7_4) ?_
    show Steps p.tables e below (T1.setTop (mkF m 5 #[.val (.ref x0)] [(.int (3 : Int32))])) _
    refine XS.aloadN X1.here hx rfl (hb hby d7_5) rfl rfl ?_
    show Steps p.tables e below (T1.setTop (mkF m 6 #[.val (.ref x0)] [(.ref x0), (.int (3 : Int32))])) _
    refine st2.trans ?_
    show Steps p.tables e below (T2.setTop (mkF m 9 #[.val (.ref x0)] [(.int (0 : Int32)), (.int (3 : Int32))])) _
    refine XS.ishr X2.here hx rfl (hb hby d7_9) rfl ?_
    show Steps p.tables e below (T2.setTop (mkF m 10 #[.val (.ref x0)] [(.int ((3 : Int32) >>> ((0 : Int32) &&& 31)))])) _
    show Steps p.tables e below (T2.setTop (mkF m 10 #[.val (.ref x0)] [(.int (3 : Int32))])) _
    exact retI X2 hx Bd.returns (hb hby d7_10) hr
  · exact ⟨rfl, N2, e2⟩
set_option maxRecDepth 65536 in
set_option maxHeartbeats 40000000 in
theorem rm13 (l : Launch) (Z : State) (a0 : Array Value) (hw : ∀ d ∈ tables_1, d.before a0 Z = true) (ws : List Jvm.Cond) (x0 : Addr) (cs : Int32) (h0 : Heap) (n0 : Nat) (Z0 : n0 ≤ h0.size) (F_coder_x0 : Fld Z h0 x0 "java/lang/String" "coder" "B" (.int (0 : Int32))) (O0 : Old Z n0 h0) (S_CS : Sta Z Z.heap "java/lang/String" "COMPACT_STRINGS" "Z" (.int cs)) (hcs : ¬ (cs = (0 : Int32))) :
    MetFree l (⟨"java/lang/String", "isLatin1", "()Z"⟩ : MethodName) (head1 (Jvm.Cond.code (⟨"java/lang/String", "isLatin1", "()Z"⟩ : MethodName) jdk_42_method_154_code 1 (some .boolean) :: ws) ({ frames := 0, cells := 0, slots := 0, locals := 0 } : Room)) (fun a U => a = #[(.ref x0)] ∧ Z.Warmed39 U.vm ∧ U.heap = h0) (fun _ _ _ _ _ => True) (fun _ U o U' => ∃ v L, o = .returned v ∧ (QP (some (.int (1 : Int32))) h0 n0 v U'.heap L) ∧ FrameEnd U o U' L ({ frames := 0, cells := 0, slots := 0, locals := 0 } : Room).cells ({ frames := 0, cells := 0, slots := 0, locals := 0 } : Room).slots) := by
  refine MetFree.of_bodySF (plainFor_of_name pn_13) hisR ?_
  intro p e s m args below meth c s₁ Bd hml0 hP hK
  obtain ⟨rfl, hZ, hh⟩ := hP
  have hx := Bd.exec
  have hby := Bd.bytes
  have hml : c.maxLocals = 1 := hml0
  have hown : s.vm.findClass "java/lang/String" = some m.cls := findClass_of_methodNamed Bd.named
  have hnm := (name_of_methodNamed Bd.named Bd.method).1
  have X0 : Stand p l e ({ frames := 0, cells := 0, slots := 0, locals := 0 } : Room) s m #[(.ref x0)] below meth c s₁ [] 0 0 := Stand.of_body Bd
  have e0 : s₁.heap = h0 := by rw [← hh, Bd.state]; rfl
  have N0 := Fr.nil n0
  have pre0 : ∀ t, Steps p.tables e below (s₁.setTop (mkF m 0 #[.val (.ref x0)] [])) t → Steps p.tables e below (s₁.setTop (entryFrame m #[(.ref x0)] 1)) t := fun t k => castTop (ef_13 m x0) k
  obtain ⟨T1, X1, e1, st1⟩ := getS2 X0 hx hZ hown (host := "") (Or.inl (hw _ (List.mem_of_getElem? (i := 33) rfl))) Via.refl e0 (own_Sta_old S_CS O0) (g := (mkF m 0 #[.val (.ref x0)] [])) rfl (hb hby d13_0)
  obtain ⟨T2, X2, e2, st2⟩ := getF X1 hx hZ hown (host := "") (Or.inl (hw _ (List.mem_of_getElem? (i := 21) rfl))) Via.refl e1 F_coder_x0 (g := (mkF m 7 #[.val (.ref x0)] [(.ref x0)])) rfl rfl (hb hby d13_7)
  obtain ⟨fs, hr, hrun, hended, hW, hsame⟩ := X2.leave (v := some (.int (1 : Int32))) (fun h => by rw [Bd.returns] at h; cases h)
  refine ⟨_, _, pre0 _ ?_, hrun, hended, _, _, rfl, ?_, ⟨_, rfl⟩, hW, hsame.mono (by decide) (by decide)⟩
  · show Steps p.tables e below (s₁.setTop (mkF m 0 #[.val (.ref x0)] [])) _
    refine st1 _ ?_
    show Steps p.tables e below (T1.setTop (mkF m 3 #[.val (.ref x0)] [(.int cs)])) _
    refine XS.ifNo X1.here hx rfl (hb hby d13_3) rfl ((if0 _ _).trans (feq hcs).1) ?_
    show Steps p.tables e below (T1.setTop (mkF m 6 #[.val (.ref x0)] [])) _
    refine XS.aloadN X1.here hx rfl (hb hby d13_6) rfl rfl ?_
    show Steps p.tables e below (T1.setTop (mkF m 7 #[.val (.ref x0)] [(.ref x0)])) _
    refine st2 _ ?_
    show Steps p.tables e below (T2.setTop (mkF m 10 #[.val (.ref x0)] [(.int (0 : Int32))])) _
    refine XS.ifNo X2.here hx rfl (hb hby d13_10) rfl ((if0 _ _).trans (teq (by decide : (0 : Int32) = (0 : Int32))).2) ?_
    show Steps p.tables e below (T2.setTop (mkF m 13 #[.val (.ref x0)] [])) _
    refine XS.iconst X2.here hx rfl (hb hby d13_13) ?_
    show Steps p.tables e below (T2.setTop (mkF m 14 #[.val (.ref x0)] [(.int (1 : Int32))])) _
    refine XS.goto X2.here hx rfl (pc0 := 14) (pc' := 18) rfl (hb hby d13_14) (by decide) (by decide) ?_
    show Steps p.tables e below (T2.setTop (mkF m 18 #[.val (.ref x0)] [(.int (1 : Int32))])) _
    exact retN X2 hx (t := .boolean) Bd.returns (by simp) (hb hby d13_18) hr
  · exact ⟨rfl, N0, e2⟩
set_option maxRecDepth 65536 in
set_option maxHeartbeats 40000000 in
theorem rmpc_n (l : Launch) (Z : State) (a0 : Array Value) (hw : ∀ d ∈ tables_1, d.before a0 Z = true) (ws : List Jvm.Cond)  (h0 : Heap) (n0 : Nat) (Z0 : n0 ≤ h0.size)  :
    MetFree l (⟨"jdk/internal/util/Preconditions", "checkIndex", "(IILjava/util/function/BiFunction;)I"⟩ : MethodName) (head1 (Jvm.Cond.code (⟨"jdk/internal/util/Preconditions", "checkIndex", "(IILjava/util/function/BiFunction;)I"⟩ : MethodName) jdk_41_method_11_code 3 (some .int) :: ws) ({ frames := 0, cells := 0, slots := 0, locals := 0 } : Room)) (fun a U => a = #[(.int (0 : Int32)), (.int (1 : Int32)), .null] ∧ Z.Warmed39 U.vm ∧ U.heap = h0) (fun _ _ _ _ _ => True) (fun _ U o U' => ∃ v L, o = .returned v ∧ (QP (some (.int (0 : Int32))) h0 n0 v U'.heap L) ∧ FrameEnd U o U' L ({ frames := 0, cells := 0, slots := 0, locals := 0 } : Room).cells ({ frames := 0, cells := 0, slots := 0, locals := 0 } : Room).slots) := by
  refine MetFree.of_bodySF (plainFor_of_name pn_16) hisR ?_
  intro p e s m args below meth c s₁ Bd hml0 hP hK
  obtain ⟨rfl, hZ, hh⟩ := hP
  have hx := Bd.exec
  have hby := Bd.bytes
  have hml : c.maxLocals = 3 := hml0
  have hown : s.vm.findClass "jdk/internal/util/Preconditions" = some m.cls := findClass_of_methodNamed Bd.named
  have hnm := (name_of_methodNamed Bd.named Bd.method).1
  have X0 : Stand p l e ({ frames := 0, cells := 0, slots := 0, locals := 0 } : Room) s m #[(.int (0 : Int32)), (.int (1 : Int32)), .null] below meth c s₁ [] 0 0 := Stand.of_body Bd
  have e0 : s₁.heap = h0 := by rw [← hh, Bd.state]; rfl
  have N0 := Fr.nil n0
  have pre0 : ∀ t, Steps p.tables e below (s₁.setTop (mkF m 0 #[.val (.int (0 : Int32)), .val (.int (1 : Int32)), .val .null] [])) t → Steps p.tables e below (s₁.setTop (entryFrame m #[(.int (0 : Int32)), (.int (1 : Int32)), .null] 3)) t := fun t k => castTop (ef_16_null m (0 : Int32) (1 : Int32)) k
  obtain ⟨fs, hr, hrun, hended, hW, hsame⟩ := X0.leave (v := some (.int (0 : Int32))) (fun h => by rw [Bd.returns] at h; cases h)
  refine ⟨_, _, pre0 _ ?_, hrun, hended, _, _, rfl, ?_, ⟨_, rfl⟩, hW, hsame.mono (by decide) (by decide)⟩
  · show Steps p.tables e below (s₁.setTop (mkF m 0 #[.val (.int (0 : Int32)), .val (.int (1 : Int32)), .val .null] [])) _
    refine XS.iloadN X0.here hx rfl (hb hby d16_0) rfl ?_
    show Steps p.tables e below (s₁.setTop (mkF m 1 #[.val (.int (0 : Int32)), .val (.int (1 : Int32)), .val .null] [(.int (0 : Int32))])) _
    refine XS.ifNo X0.here hx rfl (hb hby d16_1) rfl ((if0 _ _).trans (flt (by decide : ¬ ((0 : Int32) < (0 : Int32)))).1) ?_
    show Steps p.tables e below (s₁.setTop (mkF m 4 #[.val (.int (0 : Int32)), .val (.int (1 : Int32)), .val .null] [])) _
    refine XS.iloadN X0.here hx rfl (hb hby d16_4) rfl ?_
    show Steps p.tables e below (s₁.setTop (mkF m 5 #[.val (.int (0 : Int32)), .val (.int (1 : Int32)), .val .null] [(.int (0 : Int32))])) _
    refine XS.iloadN X0.here hx rfl (hb hby d16_5) rfl ?_
    show Steps p.tables e below (s₁.setTop (mkF m 6 #[.val (.int (0 : Int32)), .val (.int (1 : Int32)), .val .null] [(.int (1 : Int32)), (.int (0 : Int32))])) _
    refine XS.icmpYes X0.here hx rfl (pc0 := 6) (pc' := 16) rfl (hb hby d16_6) rfl (tlt (by decide : (0 : Int32) < (1 : Int32))).1 (by decide) (by decide) ?_
    show Steps p.tables e below (s₁.setTop (mkF m 16 #[.val (.int (0 : Int32)), .val (.int (1 : Int32)), .val .null] [])) _
    refine XS.iloadN X0.here hx rfl (hb hby d16_16) rfl ?_
    show Steps p.tables e below (s₁.setTop (mkF m 17 #[.val (.int (0 : Int32)), .val (.int (1 : Int32)), .val .null] [(.int (0 : Int32))])) _
    exact retI X0 hx Bd.returns (hb hby d16_17) hr
  · exact ⟨rfl, N0, e0⟩
theorem pd__IILjava_util_function_BiFunction__I : parseMethodDescriptor "(IILjava/util/function/BiFunction;)I" = some ⟨[.int, .int, (.object "java/util/function/BiFunction")], some .int⟩ := by decide +kernel
set_option maxRecDepth 65536 in
set_option maxHeartbeats 40000000 in
theorem rmck_n (l : Launch) (Z : State) (a0 : Array Value) (hw : ∀ d ∈ tables_1, d.before a0 Z = true) (ws : List Jvm.Cond)  (h0 : Heap) (n0 : Nat) (Z0 : n0 ≤ h0.size) (O0 : Old Z n0 h0) (S_FM : Sta Z Z.heap "jdk/internal/util/Preconditions" "SIOOBE_FORMATTER" "Ljava/util/function/BiFunction;" .null) :
    MetFree l (⟨"java/lang/String", "checkIndex", "(II)V"⟩ : MethodName) (head1 (Jvm.Cond.code (⟨"java/lang/String", "checkIndex", "(II)V"⟩ : MethodName) jdk_42_method_155_code 2 none :: ws) ({ frames := 1, cells := 0, slots := 0, locals := 14 } : Room)) (fun a U => a = #[(.int (0 : Int32)), (.int (1 : Int32))] ∧ Z.Warmed39 U.vm ∧ U.heap = h0) (fun _ _ _ _ _ => True) (fun _ U o U' => ∃ v L, o = .returned v ∧ (QP (none) h0 n0 v U'.heap L) ∧ FrameEnd U o U' L ({ frames := 1, cells := 0, slots := 0, locals := 14 } : Room).cells ({ frames := 1, cells := 0, slots := 0, locals := 14 } : Room).slots) := by
  refine MetFree.of_bodySF (plainFor_of_name pn_15) hisR ?_
  intro p e s m args below meth c s₁ Bd hml0 hP hK
  obtain ⟨rfl, hZ, hh⟩ := hP
  have hx := Bd.exec
  have hby := Bd.bytes
  have hml : c.maxLocals = 2 := hml0
  have hown : s.vm.findClass "java/lang/String" = some m.cls := findClass_of_methodNamed Bd.named
  have hnm := (name_of_methodNamed Bd.named Bd.method).1
  have X0 : Stand p l e ({ frames := 1, cells := 0, slots := 0, locals := 14 } : Room) s m #[(.int (0 : Int32)), (.int (1 : Int32))] below meth c s₁ [] 0 0 := Stand.of_body Bd
  have e0 : s₁.heap = h0 := by rw [← hh, Bd.state]; rfl
  have N0 := Fr.nil n0
  have pre0 : ∀ t, Steps p.tables e below (s₁.setTop (mkF m 0 #[.val (.int (0 : Int32)), .val (.int (1 : Int32))] [])) t → Steps p.tables e below (s₁.setTop (entryFrame m #[(.int (0 : Int32)), (.int (1 : Int32))] 2)) t := fun t k => castTop (ef_15 m (0 : Int32) (1 : Int32)) k
  obtain ⟨T1, X1, e1, st1⟩ := getS2 X0 hx hZ hown (host := "") (Or.inl (hw _ (List.mem_of_getElem? (i := 76) rfl))) Via.refl e0 (own_Sta_old S_FM O0) (g := (mkF m 2 #[.val (.int (0 : Int32)), .val (.int (1 : Int32))] [(.int (1 : Int32)), (.int (0 : Int32))])) rfl (hb hby d15_2)
  obtain ⟨_, _, ⟨T2, L2, k2, n2⟩, -, X2, ⟨Lc2, hQ2, l2, y2, z2⟩, st2⟩ := Jvm.LawKit.callS X1 hx (y := (⟨"jdk/internal/util/Preconditions", "checkIndex", "(IILjava/util/function/BiFunction;)I"⟩ : MethodName)) hown (mvT hZ (hw _ (List.mem_of_getElem? (i := 78) rfl))) (mvT hZ (hw _ (List.mem_of_getElem? (i := 79) rfl))) (mvT hZ (hw _ (List.mem_of_getElem? (i := 77) rfl))) (mvT hZ (hw _ (List.mem_of_getElem? (i := 80) rfl))) (by decide) (backOf (W := 0) (rmpc_n l Z a0 hw []  h0 n0 Z0) hZ (hw _ (List.mem_of_getElem? (i := 80) rfl)) (hw _ (List.mem_of_getElem? (i := 77) rfl)) (by decide) (by decide)) (g := (mkF m 5 #[.val (.int (0 : Int32)), .val (.int (1 : Int32))] [.null, (.int (1 : Int32)), (.int (0 : Int32))])) rfl (by rw [hml]; rfl) (argsL := [(.int (0 : Int32)), (.int (1 : Int32)), .null]) (rest := []) (lenOf pd__IILjava_util_function_BiFunction__I rfl) rfl (by show 2 * 0 + _ ≤ _; exact Nat.le_of_eq rfl) (hb hby d15_5) (fun _ _ => ⟨rfl, e1, (by decide : 0 + 0 ≤ _), (by decide : 0 + 0 ≤ _)⟩)
  dsimp only [Pt.U, Pt.locs, Pt.cells, Pt.slots] at X2 l2 y2 z2 st2 hQ2
  subst l2 y2 z2
  obtain ⟨rfl, N2q, e2⟩ := hQ2
  have N2 := Fr.app N0 N2q
  obtain ⟨fs, hr, hrun, hended, hW, hsame⟩ := X2.leave (v := none) (fun _ => rfl)
  refine ⟨_, _, pre0 _ ?_, hrun, hended, _, _, rfl, ?_, ⟨_, rfl⟩, hW, hsame.mono (by decide) (by decide)⟩
  · show Steps p.tables e below (s₁.setTop (mkF m 0 #[.val (.int (0 : Int32)), .val (.int (1 : Int32))] [])) _
    refine XS.iloadN X0.here hx rfl (hb hby d15_0) rfl ?_
    show Steps p.tables e below (s₁.setTop (mkF m 1 #[.val (.int (0 : Int32)), .val (.int (1 : Int32))] [(.int (0 : Int32))])) _
    refine XS.iloadN X0.here hx rfl (hb hby d15_1) rfl ?_
    show Steps p.tables e below (s₁.setTop (mkF m 2 #[.val (.int (0 : Int32)), .val (.int (1 : Int32))] [(.int (1 : Int32)), (.int (0 : Int32))])) _
    refine st1 _ ?_
    show Steps p.tables e below (T1.setTop (mkF m 5 #[.val (.int (0 : Int32)), .val (.int (1 : Int32))] [.null, (.int (1 : Int32)), (.int (0 : Int32))])) _
    refine st2 _ ?_
    show Steps p.tables e below (T2.setTop (mkF m 8 #[.val (.int (0 : Int32)), .val (.int (1 : Int32))] [(.int (0 : Int32))])) _
    refine XS.pop X2.here hx rfl (hb hby d15_8) rfl rfl ?_
    show Steps p.tables e below (T2.setTop (mkF m 9 #[.val (.int (0 : Int32)), .val (.int (1 : Int32))] [])) _
    exact X2.returnOut hx Bd.returns (hb hby d15_9) hr
  · exact ⟨rfl, N2, e2⟩
theorem own_cn (u : Int32) : own_c u = nar .char ((u &&& (255 : Int32)).toUInt32.toUInt16.toUInt32.toInt32) := by
  have q1 := c_i2c (u &&& (255 : Int32))
  have q2 := c_i2c ((u &&& (255 : Int32)).toUInt32.toUInt16.toUInt32.toInt32)
  show (u &&& (255 : Int32)).toUInt32.toUInt16.toUInt32.toInt32 = ((u &&& (255 : Int32)).toUInt32.toUInt16.toUInt32.toInt32).toUInt32.toUInt16.toUInt32.toInt32
  rw [← Int32.toInt_inj]; omega
theorem pd__II_V : parseMethodDescriptor "(II)V" = some ⟨[.int, .int], none⟩ := by decide +kernel
set_option maxRecDepth 65536 in
set_option maxHeartbeats 40000000 in
theorem rmlc_n (l : Launch) (Z : State) (a0 : Array Value) (hw : ∀ d ∈ tables_1, d.before a0 Z = true) (ws : List Jvm.Cond) (x0 : Addr) (k0 : ClassId) (u0 : Int32)  (h0 : Heap) (n0 : Nat) (Z0 : n0 ≤ h0.size) (V_x0 : Arv Z h0 x0 k0 .byte (1 : Int32) [(.int u0)] (.int (0 : Int32))) (O0 : Old Z n0 h0) (S_FM : Sta Z Z.heap "jdk/internal/util/Preconditions" "SIOOBE_FORMATTER" "Ljava/util/function/BiFunction;" .null) :
    MetFree l (⟨"java/lang/StringLatin1", "charAt", "([BI)C"⟩ : MethodName) (head1 (Jvm.Cond.code (⟨"java/lang/StringLatin1", "charAt", "([BI)C"⟩ : MethodName) jdk_43_method_2_code 2 (some .char) :: ws) ({ frames := 2, cells := 0, slots := 0, locals := 27 } : Room)) (fun a U => a = #[(.ref x0), (.int (0 : Int32))] ∧ Z.Warmed39 U.vm ∧ U.heap = h0) (fun _ _ _ _ _ => True) (fun _ U o U' => ∃ v L, o = .returned v ∧ (QP (some (.int (own_c u0))) h0 n0 v U'.heap L) ∧ FrameEnd U o U' L ({ frames := 2, cells := 0, slots := 0, locals := 27 } : Room).cells ({ frames := 2, cells := 0, slots := 0, locals := 27 } : Room).slots) := by
  refine MetFree.of_bodySF (plainFor_of_name pn_14) hisR ?_
  intro p e s m args below meth c s₁ Bd hml0 hP hK
  obtain ⟨rfl, hZ, hh⟩ := hP
  have hx := Bd.exec
  have hby := Bd.bytes
  have hml : c.maxLocals = 2 := hml0
  have hown : s.vm.findClass "java/lang/StringLatin1" = some m.cls := findClass_of_methodNamed Bd.named
  have hnm := (name_of_methodNamed Bd.named Bd.method).1
  have X0 : Stand p l e ({ frames := 2, cells := 0, slots := 0, locals := 27 } : Room) s m #[(.ref x0), (.int (0 : Int32))] below meth c s₁ [] 0 0 := Stand.of_body Bd
  have e0 : s₁.heap = h0 := by rw [← hh, Bd.state]; rfl
  have N0 := Fr.nil n0
  have pre0 : ∀ t, Steps p.tables e below (s₁.setTop (mkF m 0 #[.val (.ref x0), .val (.int (0 : Int32))] [])) t → Steps p.tables e below (s₁.setTop (entryFrame m #[(.ref x0), (.int (0 : Int32))] 2)) t := fun t k => castTop (ef_14 m x0 (0 : Int32)) k
  obtain ⟨_, _, ⟨T1, L1, k1, n1⟩, -, X1, ⟨Lc1, hQ1, l1, y1, z1⟩, st1⟩ := Jvm.LawKit.callS X0 hx (y := (⟨"java/lang/String", "checkIndex", "(II)V"⟩ : MethodName)) hown (mvT hZ (hw _ (List.mem_of_getElem? (i := 73) rfl))) (mvT hZ (hw _ (List.mem_of_getElem? (i := 74) rfl))) (mvT hZ (hw _ (List.mem_of_getElem? (i := 3) rfl))) (mvT hZ (hw _ (List.mem_of_getElem? (i := 75) rfl))) (by decide) (backOf (W := 0) (rmck_n l Z a0 hw []  h0 n0 Z0 O0 S_FM) hZ (hw _ (List.mem_of_getElem? (i := 75) rfl)) (hw _ (List.mem_of_getElem? (i := 3) rfl)) (by decide) (by decide)) (g := (mkF m 3 #[.val (.ref x0), .val (.int (0 : Int32))] [(.int (1 : Int32)), (.int (0 : Int32))])) rfl (by rw [hml]; rfl) (argsL := [(.int (0 : Int32)), (.int (1 : Int32))]) (rest := []) (lenOf pd__II_V rfl) rfl (by show 2 * 0 + _ ≤ _; exact Nat.le_of_eq rfl) (hb hby d14_3) (fun _ _ => ⟨rfl, e0, (by decide : 0 + 0 ≤ _), (by decide : 0 + 0 ≤ _)⟩)
  dsimp only [Pt.U, Pt.locs, Pt.cells, Pt.slots] at X1 l1 y1 z1 st1 hQ1
  subst l1 y1 z1
  obtain ⟨rfl, N1q, e1⟩ := hQ1
  have N1 := Fr.app N0 N1q
  obtain ⟨fs, hr, hrun, hended, hW, hsame⟩ := X1.leave (v := some (.int (own_c u0))) (fun h => by rw [Bd.returns] at h; cases h)
  refine ⟨_, _, pre0 _ ?_, hrun, hended, _, _, rfl, ?_, ⟨_, rfl⟩, hW, hsame.mono (by decide) (by decide)⟩
  · show Steps p.tables e below (s₁.setTop (mkF m 0 #[.val (.ref x0), .val (.int (0 : Int32))] [])) _
    refine XS.iloadN X0.here hx rfl (hb hby d14_0) rfl ?_
    show Steps p.tables e below (s₁.setTop (mkF m 1 #[.val (.ref x0), .val (.int (0 : Int32))] [(.int (0 : Int32))])) _
    refine XS.aloadN X0.here hx rfl (hb hby d14_1) rfl rfl ?_
    show Steps p.tables e below (s₁.setTop (mkF m 2 #[.val (.ref x0), .val (.int (0 : Int32))] [(.ref x0), (.int (0 : Int32))])) _
    refine own_len X0 hx hZ e0 V_x0 (g := (mkF m 2 #[.val (.ref x0), .val (.int (0 : Int32))] [(.ref x0), (.int (0 : Int32))])) rfl rfl (hb hby d14_2) ?_
    show Steps p.tables e below (s₁.setTop (mkF m 3 #[.val (.ref x0), .val (.int (0 : Int32))] [(.int (1 : Int32)), (.int (0 : Int32))])) _
    refine st1 _ ?_
    show Steps p.tables e below (T1.setTop (mkF m 6 #[.val (.ref x0), .val (.int (0 : Int32))] [])) _
    refine XS.aloadN X1.here hx rfl (hb hby d14_6) rfl rfl ?_
    show Steps p.tables e below (T1.setTop (mkF m 7 #[.val (.ref x0), .val (.int (0 : Int32))] [(.ref x0)])) _
    refine XS.iloadN X1.here hx rfl (hb hby d14_7) rfl ?_
    show Steps p.tables e below (T1.setTop (mkF m 8 #[.val (.ref x0), .val (.int (0 : Int32))] [(.int (0 : Int32)), (.ref x0)])) _
    refine own_ldB X1 hx hZ e1 V_x0 (j := (0 : Int32)) (w := u0) ⟨by decide, by decide⟩ rfl (g := (mkF m 8 #[.val (.ref x0), .val (.int (0 : Int32))] [(.int (0 : Int32)), (.ref x0)])) rfl rfl (hb hby d14_8) ?_
    show Steps p.tables e below (T1.setTop (mkF m 9 #[.val (.ref x0), .val (.int (0 : Int32))] [(.int u0)])) _
    refine XS.sipush X1.here hx rfl (hb hby d14_9) ?_
    show Steps p.tables e below (T1.setTop (mkF m 12 #[.val (.ref x0), .val (.int (0 : Int32))] [(.int (255 : Int32)), (.int u0)])) _
    refine XS.iand X1.here hx rfl (hb hby d14_12) rfl ?_
    show Steps p.tables e below (T1.setTop (mkF m 13 #[.val (.ref x0), .val (.int (0 : Int32))] [(.int (u0 &&& (255 : Int32)))])) _
    refine XS.i2c X1.here hx rfl (hb hby d14_13) rfl ?_
    show Steps p.tables e below (T1.setTop (mkF m 14 #[.val (.ref x0), .val (.int (0 : Int32))] [(.int ((u0 &&& (255 : Int32)).toUInt32.toUInt16.toUInt32.toInt32))])) _
    have hv : own_c u0 = nar .char ((u0 &&& (255 : Int32)).toUInt32.toUInt16.toUInt32.toInt32) := own_cn u0
    rw [hv] at hr
    exact retN X1 hx (t := .char) Bd.returns (by simp) (hb hby d14_14) hr
  · exact ⟨rfl, N1, e1⟩
theorem pd___Z : parseMethodDescriptor "()Z" = some ⟨[], some .boolean⟩ := by decide +kernel
theorem pd___BI_C : parseMethodDescriptor "([BI)C" = some ⟨[(.array .byte), .int], some .char⟩ := by decide +kernel
set_option maxRecDepth 65536 in
set_option maxHeartbeats 40000000 in
theorem rmca_n (l : Launch) (Z : State) (a0 : Array Value) (hw : ∀ d ∈ tables_1, d.before a0 Z = true) (ws : List Jvm.Cond) (x0 : Addr) (va : Addr) (kv : ClassId) (u0 cs : Int32)  (h0 : Heap) (n0 : Nat) (Z0 : n0 ≤ h0.size) (E_x0 : Exa Z h0 x0 "java/lang/String") (F_value_x0 : Fld Z h0 x0 "java/lang/String" "value" "[B" (.ref va)) (F_coder_x0 : Fld Z h0 x0 "java/lang/String" "coder" "B" (.int (0 : Int32))) (V_va : Arv Z h0 va kv .byte (1 : Int32) [(.int u0)] (.int (0 : Int32))) (O0 : Old Z n0 h0) (S_CS : Sta Z Z.heap "java/lang/String" "COMPACT_STRINGS" "Z" (.int cs)) (hcs : ¬ (cs = (0 : Int32))) (S_FM : Sta Z Z.heap "jdk/internal/util/Preconditions" "SIOOBE_FORMATTER" "Ljava/util/function/BiFunction;" .null) :
    MetFree l (⟨"java/lang/String", "charAt", "(I)C"⟩ : MethodName) (head1 (Jvm.Cond.code (⟨"java/lang/String", "charAt", "(I)C"⟩ : MethodName) jdk_42_method_56_code 2 (some .char) :: ws) ({ frames := 3, cells := 0, slots := 0, locals := 40 } : Room)) (fun a U => a = #[(.ref x0), (.int (0 : Int32))] ∧ Z.Warmed39 U.vm ∧ U.heap = h0) (fun _ _ _ _ _ => True) (fun _ U o U' => ∃ v L, o = .returned v ∧ (QP (some (.int (own_c u0))) h0 n0 v U'.heap L) ∧ FrameEnd U o U' L ({ frames := 3, cells := 0, slots := 0, locals := 40 } : Room).cells ({ frames := 3, cells := 0, slots := 0, locals := 40 } : Room).slots) := by
  refine MetFree.of_bodySF (plainFor_of_name pn_12) hisR ?_
  intro p e s m args below meth c s₁ Bd hml0 hP hK
  obtain ⟨rfl, hZ, hh⟩ := hP
  have hx := Bd.exec
  have hby := Bd.bytes
  have hml : c.maxLocals = 2 := hml0
  have hown : s.vm.findClass "java/lang/String" = some m.cls := findClass_of_methodNamed Bd.named
  have hnm := (name_of_methodNamed Bd.named Bd.method).1
  have X0 : Stand p l e ({ frames := 3, cells := 0, slots := 0, locals := 40 } : Room) s m #[(.ref x0), (.int (0 : Int32))] below meth c s₁ [] 0 0 := Stand.of_body Bd
  have e0 : s₁.heap = h0 := by rw [← hh, Bd.state]; rfl
  have N0 := Fr.nil n0
  have pre0 : ∀ t, Steps p.tables e below (s₁.setTop (mkF m 0 #[.val (.ref x0), .val (.int (0 : Int32))] [])) t → Steps p.tables e below (s₁.setTop (entryFrame m #[(.ref x0), (.int (0 : Int32))] 2)) t := fun t k => castTop (ef_12 m x0 (0 : Int32)) k
  obtain ⟨cq1, kq1, q1a, q1b, q1c⟩ := isOf hZ e0 E_x0
  obtain ⟨_, _, ⟨T1, L1, k1, n1⟩, -, X1, ⟨Lc1, hQ1, l1, y1, z1⟩, st1⟩ := X0.virtualBack hx (y := (⟨"java/lang/String", "isLatin1", "()Z"⟩ : MethodName)) (z := (⟨"java/lang/String", "isLatin1", "()Z"⟩ : MethodName)) hown (mvT hZ (hw _ (List.mem_of_getElem? (i := 65) rfl))) (mvT hZ (hw _ (List.mem_of_getElem? (i := 66) rfl))) (notFace_of_selects (args := #[]) (mvT hZ (hw _ (List.mem_of_getElem? (i := 68) rfl)))) (mvT hZ (hw _ (List.mem_of_getElem? (i := 68) rfl))) (mvT hZ (hw _ (List.mem_of_getElem? (i := 67) rfl))) (by decide) (backOf (W := 0) (rm13 l Z a0 hw [] x0 cs h0 n0 Z0 F_coder_x0 O0 S_CS hcs) hZ (hw _ (List.mem_of_getElem? (i := 69) rfl)) (hw _ (List.mem_of_getElem? (i := 3) rfl)) (by decide) (by decide)) q1a q1c (g := (mkF m 1 #[.val (.ref x0), .val (.int (0 : Int32))] [(.ref x0)])) rfl (by rw [hml]; rfl) (Steps.refl _) (argsL := []) (rest := []) (lenOf pd___Z rfl) rfl (by show 2 * 0 + _ ≤ _; exact Nat.le_of_eq rfl) (hb hby d12_1) (fun _ _ => ⟨rfl, e0, (by decide : 0 + 0 ≤ _), (by decide : 0 + 0 ≤ _)⟩)
  dsimp only [Pt.U, Pt.locs, Pt.cells, Pt.slots] at X1 l1 y1 z1 st1 hQ1
  subst l1 y1 z1
  obtain ⟨rfl, N1q, e1⟩ := hQ1
  have N1 := Fr.app N0 N1q
  obtain ⟨T2, X2, e2, st2⟩ := getF X1 hx hZ hown (host := "") (Or.inl (hw _ (List.mem_of_getElem? (i := 20) rfl))) Via.refl e1 F_value_x0 (g := (mkF m 8 #[.val (.ref x0), .val (.int (0 : Int32))] [(.ref x0)])) rfl rfl (hb hby d12_8)
  obtain ⟨_, _, ⟨T3, L3, k3, n3⟩, -, X3, ⟨Lc3, hQ3, l3, y3, z3⟩, st3⟩ := Jvm.LawKit.callS X2 hx (y := (⟨"java/lang/StringLatin1", "charAt", "([BI)C"⟩ : MethodName)) hown (mvT hZ (hw _ (List.mem_of_getElem? (i := 70) rfl))) (mvT hZ (hw _ (List.mem_of_getElem? (i := 71) rfl))) (mvT hZ (hw _ (List.mem_of_getElem? (i := 36) rfl))) (mvT hZ (hw _ (List.mem_of_getElem? (i := 72) rfl))) (by decide) (backOf (W := 0) (rmlc_n l Z a0 hw [] va kv u0  h0 n0 Z0 V_va O0 S_FM) hZ (hw _ (List.mem_of_getElem? (i := 72) rfl)) (hw _ (List.mem_of_getElem? (i := 36) rfl)) (by decide) (by decide)) (g := (mkF m 12 #[.val (.ref x0), .val (.int (0 : Int32))] [(.int (0 : Int32)), (.ref va)])) rfl (by rw [hml]; rfl) (argsL := [(.ref va), (.int (0 : Int32))]) (rest := []) (lenOf pd___BI_C rfl) rfl (by show 2 * 0 + _ ≤ _; exact Nat.le_of_eq rfl) (hb hby d12_12) (fun _ _ => ⟨rfl, e2, (by decide : 0 + 0 ≤ _), (by decide : 0 + 0 ≤ _)⟩)
  dsimp only [Pt.U, Pt.locs, Pt.cells, Pt.slots] at X3 l3 y3 z3 st3 hQ3
  subst l3 y3 z3
  obtain ⟨rfl, N3q, e3⟩ := hQ3
  have N3 := Fr.app N1 N3q
  obtain ⟨fs, hr, hrun, hended, hW, hsame⟩ := X3.leave (v := some (.int (own_c u0))) (fun h => by rw [Bd.returns] at h; cases h)
  refine ⟨_, _, pre0 _ ?_, hrun, hended, _, _, rfl, ?_, ⟨_, rfl⟩, hW, hsame.mono (by decide) (by decide)⟩
  · show Steps p.tables e below (s₁.setTop (mkF m 0 #[.val (.ref x0), .val (.int (0 : Int32))] [])) _
    refine XS.aloadN X0.here hx rfl (hb hby d12_0) rfl rfl ?_
    show Steps p.tables e below (s₁.setTop (mkF m 1 #[.val (.ref x0), .val (.int (0 : Int32))] [(.ref x0)])) _
    refine st1.trans ?_
    show Steps p.tables e below (T1.setTop (mkF m 4 #[.val (.ref x0), .val (.int (0 : Int32))] [(.int (1 : Int32))])) _
    refine XS.ifNo X1.here hx rfl (hb hby d12_4) rfl ((if0 _ _).trans (feq (by decide : ¬ ((1 : Int32) = (0 : Int32)))).1) ?_
    show Steps p.tables e below (T1.setTop (mkF m 7 #[.val (.ref x0), .val (.int (0 : Int32))] [])) _
    refine XS.aloadN X1.here hx rfl (hb hby d12_7) rfl rfl ?_
    show Steps p.tables e below (T1.setTop (mkF m 8 #[.val (.ref x0), .val (.int (0 : Int32))] [(.ref x0)])) _
    refine st2 _ ?_
    show Steps p.tables e below (T2.setTop (mkF m 11 #[.val (.ref x0), .val (.int (0 : Int32))] [(.ref va)])) _
    refine XS.iloadN X2.here hx rfl (hb hby d12_11) rfl ?_
    show Steps p.tables e below (T2.setTop (mkF m 12 #[.val (.ref x0), .val (.int (0 : Int32))] [(.int (0 : Int32)), (.ref va)])) _
    refine st3 _ ?_
    show Steps p.tables e below (T3.setTop (mkF m 15 #[.val (.ref x0), .val (.int (0 : Int32))] [(.int (own_c u0))])) _
    have hv : own_c u0 = nar .char (own_c u0) := own_cn u0
    rw [hv] at hr
    exact retN X3 hx (t := .char) Bd.returns (by simp) (hb hby d12_15) hr
  · exact ⟨rfl, N3, e3⟩
set_option maxRecDepth 65536 in
set_option maxHeartbeats 40000000 in
theorem rmpc_r (l : Launch) (Z : State) (a0 : Array Value) (hw : ∀ d ∈ tables_1, d.before a0 Z = true) (ws : List Jvm.Cond) (x2 : Addr)  (h0 : Heap) (n0 : Nat) (Z0 : n0 ≤ h0.size)  :
    MetFree l (⟨"jdk/internal/util/Preconditions", "checkIndex", "(IILjava/util/function/BiFunction;)I"⟩ : MethodName) (head1 (Jvm.Cond.code (⟨"jdk/internal/util/Preconditions", "checkIndex", "(IILjava/util/function/BiFunction;)I"⟩ : MethodName) jdk_41_method_11_code 3 (some .int) :: ws) ({ frames := 0, cells := 0, slots := 0, locals := 0 } : Room)) (fun a U => a = #[(.int (0 : Int32)), (.int (1 : Int32)), (.ref x2)] ∧ Z.Warmed39 U.vm ∧ U.heap = h0) (fun _ _ _ _ _ => True) (fun _ U o U' => ∃ v L, o = .returned v ∧ (QP (some (.int (0 : Int32))) h0 n0 v U'.heap L) ∧ FrameEnd U o U' L ({ frames := 0, cells := 0, slots := 0, locals := 0 } : Room).cells ({ frames := 0, cells := 0, slots := 0, locals := 0 } : Room).slots) := by
  refine MetFree.of_bodySF (plainFor_of_name pn_16) hisR ?_
  intro p e s m args below meth c s₁ Bd hml0 hP hK
  obtain ⟨rfl, hZ, hh⟩ := hP
  have hx := Bd.exec
  have hby := Bd.bytes
  have hml : c.maxLocals = 3 := hml0
  have hown : s.vm.findClass "jdk/internal/util/Preconditions" = some m.cls := findClass_of_methodNamed Bd.named
  have hnm := (name_of_methodNamed Bd.named Bd.method).1
  have X0 : Stand p l e ({ frames := 0, cells := 0, slots := 0, locals := 0 } : Room) s m #[(.int (0 : Int32)), (.int (1 : Int32)), (.ref x2)] below meth c s₁ [] 0 0 := Stand.of_body Bd
  have e0 : s₁.heap = h0 := by rw [← hh, Bd.state]; rfl
  have N0 := Fr.nil n0
  have pre0 : ∀ t, Steps p.tables e below (s₁.setTop (mkF m 0 #[.val (.int (0 : Int32)), .val (.int (1 : Int32)), .val (.ref x2)] [])) t → Steps p.tables e below (s₁.setTop (entryFrame m #[(.int (0 : Int32)), (.int (1 : Int32)), (.ref x2)] 3)) t := fun t k => castTop (ef_16 m (0 : Int32) (1 : Int32) x2) k
  obtain ⟨fs, hr, hrun, hended, hW, hsame⟩ := X0.leave (v := some (.int (0 : Int32))) (fun h => by rw [Bd.returns] at h; cases h)
  refine ⟨_, _, pre0 _ ?_, hrun, hended, _, _, rfl, ?_, ⟨_, rfl⟩, hW, hsame.mono (by decide) (by decide)⟩
  · show Steps p.tables e below (s₁.setTop (mkF m 0 #[.val (.int (0 : Int32)), .val (.int (1 : Int32)), .val (.ref x2)] [])) _
    refine XS.iloadN X0.here hx rfl (hb hby d16_0) rfl ?_
    show Steps p.tables e below (s₁.setTop (mkF m 1 #[.val (.int (0 : Int32)), .val (.int (1 : Int32)), .val (.ref x2)] [(.int (0 : Int32))])) _
    refine XS.ifNo X0.here hx rfl (hb hby d16_1) rfl ((if0 _ _).trans (flt (by decide : ¬ ((0 : Int32) < (0 : Int32)))).1) ?_
    show Steps p.tables e below (s₁.setTop (mkF m 4 #[.val (.int (0 : Int32)), .val (.int (1 : Int32)), .val (.ref x2)] [])) _
    refine XS.iloadN X0.here hx rfl (hb hby d16_4) rfl ?_
    show Steps p.tables e below (s₁.setTop (mkF m 5 #[.val (.int (0 : Int32)), .val (.int (1 : Int32)), .val (.ref x2)] [(.int (0 : Int32))])) _
    refine XS.iloadN X0.here hx rfl (hb hby d16_5) rfl ?_
    show Steps p.tables e below (s₁.setTop (mkF m 6 #[.val (.int (0 : Int32)), .val (.int (1 : Int32)), .val (.ref x2)] [(.int (1 : Int32)), (.int (0 : Int32))])) _
    refine XS.icmpYes X0.here hx rfl (pc0 := 6) (pc' := 16) rfl (hb hby d16_6) rfl (tlt (by decide : (0 : Int32) < (1 : Int32))).1 (by decide) (by decide) ?_
    show Steps p.tables e below (s₁.setTop (mkF m 16 #[.val (.int (0 : Int32)), .val (.int (1 : Int32)), .val (.ref x2)] [])) _
    refine XS.iloadN X0.here hx rfl (hb hby d16_16) rfl ?_
    show Steps p.tables e below (s₁.setTop (mkF m 17 #[.val (.int (0 : Int32)), .val (.int (1 : Int32)), .val (.ref x2)] [(.int (0 : Int32))])) _
    exact retI X0 hx Bd.returns (hb hby d16_17) hr
  · exact ⟨rfl, N0, e0⟩
set_option maxRecDepth 65536 in
set_option maxHeartbeats 40000000 in
theorem rmck_r (l : Launch) (Z : State) (a0 : Array Value) (hw : ∀ d ∈ tables_1, d.before a0 Z = true) (ws : List Jvm.Cond) (fm : Addr) (h0 : Heap) (n0 : Nat) (Z0 : n0 ≤ h0.size) (O0 : Old Z n0 h0) (S_FM : Sta Z Z.heap "jdk/internal/util/Preconditions" "SIOOBE_FORMATTER" "Ljava/util/function/BiFunction;" (.ref fm)) :
    MetFree l (⟨"java/lang/String", "checkIndex", "(II)V"⟩ : MethodName) (head1 (Jvm.Cond.code (⟨"java/lang/String", "checkIndex", "(II)V"⟩ : MethodName) jdk_42_method_155_code 2 none :: ws) ({ frames := 1, cells := 0, slots := 0, locals := 14 } : Room)) (fun a U => a = #[(.int (0 : Int32)), (.int (1 : Int32))] ∧ Z.Warmed39 U.vm ∧ U.heap = h0) (fun _ _ _ _ _ => True) (fun _ U o U' => ∃ v L, o = .returned v ∧ (QP (none) h0 n0 v U'.heap L) ∧ FrameEnd U o U' L ({ frames := 1, cells := 0, slots := 0, locals := 14 } : Room).cells ({ frames := 1, cells := 0, slots := 0, locals := 14 } : Room).slots) := by
  refine MetFree.of_bodySF (plainFor_of_name pn_15) hisR ?_
  intro p e s m args below meth c s₁ Bd hml0 hP hK
  obtain ⟨rfl, hZ, hh⟩ := hP
  have hx := Bd.exec
  have hby := Bd.bytes
  have hml : c.maxLocals = 2 := hml0
  have hown : s.vm.findClass "java/lang/String" = some m.cls := findClass_of_methodNamed Bd.named
  have hnm := (name_of_methodNamed Bd.named Bd.method).1
  have X0 : Stand p l e ({ frames := 1, cells := 0, slots := 0, locals := 14 } : Room) s m #[(.int (0 : Int32)), (.int (1 : Int32))] below meth c s₁ [] 0 0 := Stand.of_body Bd
  have e0 : s₁.heap = h0 := by rw [← hh, Bd.state]; rfl
  have N0 := Fr.nil n0
  have pre0 : ∀ t, Steps p.tables e below (s₁.setTop (mkF m 0 #[.val (.int (0 : Int32)), .val (.int (1 : Int32))] [])) t → Steps p.tables e below (s₁.setTop (entryFrame m #[(.int (0 : Int32)), (.int (1 : Int32))] 2)) t := fun t k => castTop (ef_15 m (0 : Int32) (1 : Int32)) k
  obtain ⟨T1, X1, e1, st1⟩ := getS2 X0 hx hZ hown (host := "") (Or.inl (hw _ (List.mem_of_getElem? (i := 76) rfl))) Via.refl e0 (own_Sta_old S_FM O0) (g := (mkF m 2 #[.val (.int (0 : Int32)), .val (.int (1 : Int32))] [(.int (1 : Int32)), (.int (0 : Int32))])) rfl (hb hby d15_2)
  obtain ⟨_, _, ⟨T2, L2, k2, n2⟩, -, X2, ⟨Lc2, hQ2, l2, y2, z2⟩, st2⟩ := Jvm.LawKit.callS X1 hx (y := (⟨"jdk/internal/util/Preconditions", "checkIndex", "(IILjava/util/function/BiFunction;)I"⟩ : MethodName)) hown (mvT hZ (hw _ (List.mem_of_getElem? (i := 78) rfl))) (mvT hZ (hw _ (List.mem_of_getElem? (i := 79) rfl))) (mvT hZ (hw _ (List.mem_of_getElem? (i := 77) rfl))) (mvT hZ (hw _ (List.mem_of_getElem? (i := 80) rfl))) (by decide) (backOf (W := 0) (rmpc_r l Z a0 hw [] fm h0 n0 Z0) hZ (hw _ (List.mem_of_getElem? (i := 80) rfl)) (hw _ (List.mem_of_getElem? (i := 77) rfl)) (by decide) (by decide)) (g := (mkF m 5 #[.val (.int (0 : Int32)), .val (.int (1 : Int32))] [(.ref fm), (.int (1 : Int32)), (.int (0 : Int32))])) rfl (by rw [hml]; rfl) (argsL := [(.int (0 : Int32)), (.int (1 : Int32)), (.ref fm)]) (rest := []) (lenOf pd__IILjava_util_function_BiFunction__I rfl) rfl (by show 2 * 0 + _ ≤ _; exact Nat.le_of_eq rfl) (hb hby d15_5) (fun _ _ => ⟨rfl, e1, (by decide : 0 + 0 ≤ _), (by decide : 0 + 0 ≤ _)⟩)
  dsimp only [Pt.U, Pt.locs, Pt.cells, Pt.slots] at X2 l2 y2 z2 st2 hQ2
  subst l2 y2 z2
  obtain ⟨rfl, N2q, e2⟩ := hQ2
  have N2 := Fr.app N0 N2q
  obtain ⟨fs, hr, hrun, hended, hW, hsame⟩ := X2.leave (v := none) (fun _ => rfl)
  refine ⟨_, _, pre0 _ ?_, hrun, hended, _, _, rfl, ?_, ⟨_, rfl⟩, hW, hsame.mono (by decide) (by decide)⟩
  · show Steps p.tables e below (s₁.setTop (mkF m 0 #[.val (.int (0 : Int32)), .val (.int (1 : Int32))] [])) _
    refine XS.iloadN X0.here hx rfl (hb hby d15_0) rfl ?_
    show Steps p.tables e below (s₁.setTop (mkF m 1 #[.val (.int (0 : Int32)), .val (.int (1 : Int32))] [(.int (0 : Int32))])) _
    refine XS.iloadN X0.here hx rfl (hb hby d15_1) rfl ?_
    show Steps p.tables e below (s₁.setTop (mkF m 2 #[.val (.int (0 : Int32)), .val (.int (1 : Int32))] [(.int (1 : Int32)), (.int (0 : Int32))])) _
    refine st1 _ ?_
    show Steps p.tables e below (T1.setTop (mkF m 5 #[.val (.int (0 : Int32)), .val (.int (1 : Int32))] [(.ref fm), (.int (1 : Int32)), (.int (0 : Int32))])) _
    refine st2 _ ?_
    show Steps p.tables e below (T2.setTop (mkF m 8 #[.val (.int (0 : Int32)), .val (.int (1 : Int32))] [(.int (0 : Int32))])) _
    refine XS.pop X2.here hx rfl (hb hby d15_8) rfl rfl ?_
    show Steps p.tables e below (T2.setTop (mkF m 9 #[.val (.int (0 : Int32)), .val (.int (1 : Int32))] [])) _
    exact X2.returnOut hx Bd.returns (hb hby d15_9) hr
  · exact ⟨rfl, N2, e2⟩
set_option maxRecDepth 65536 in
set_option maxHeartbeats 40000000 in
theorem rmlc_r (l : Launch) (Z : State) (a0 : Array Value) (hw : ∀ d ∈ tables_1, d.before a0 Z = true) (ws : List Jvm.Cond) (x0 : Addr) (k0 : ClassId) (u0 : Int32) (fm : Addr) (h0 : Heap) (n0 : Nat) (Z0 : n0 ≤ h0.size) (V_x0 : Arv Z h0 x0 k0 .byte (1 : Int32) [(.int u0)] (.int (0 : Int32))) (O0 : Old Z n0 h0) (S_FM : Sta Z Z.heap "jdk/internal/util/Preconditions" "SIOOBE_FORMATTER" "Ljava/util/function/BiFunction;" (.ref fm)) :
    MetFree l (⟨"java/lang/StringLatin1", "charAt", "([BI)C"⟩ : MethodName) (head1 (Jvm.Cond.code (⟨"java/lang/StringLatin1", "charAt", "([BI)C"⟩ : MethodName) jdk_43_method_2_code 2 (some .char) :: ws) ({ frames := 2, cells := 0, slots := 0, locals := 27 } : Room)) (fun a U => a = #[(.ref x0), (.int (0 : Int32))] ∧ Z.Warmed39 U.vm ∧ U.heap = h0) (fun _ _ _ _ _ => True) (fun _ U o U' => ∃ v L, o = .returned v ∧ (QP (some (.int (own_c u0))) h0 n0 v U'.heap L) ∧ FrameEnd U o U' L ({ frames := 2, cells := 0, slots := 0, locals := 27 } : Room).cells ({ frames := 2, cells := 0, slots := 0, locals := 27 } : Room).slots) := by
  refine MetFree.of_bodySF (plainFor_of_name pn_14) hisR ?_
  intro p e s m args below meth c s₁ Bd hml0 hP hK
  obtain ⟨rfl, hZ, hh⟩ := hP
  have hx := Bd.exec
  have hby := Bd.bytes
  have hml : c.maxLocals = 2 := hml0
  have hown : s.vm.findClass "java/lang/StringLatin1" = some m.cls := findClass_of_methodNamed Bd.named
  have hnm := (name_of_methodNamed Bd.named Bd.method).1
  have X0 : Stand p l e ({ frames := 2, cells := 0, slots := 0, locals := 27 } : Room) s m #[(.ref x0), (.int (0 : Int32))] below meth c s₁ [] 0 0 := Stand.of_body Bd
  have e0 : s₁.heap = h0 := by rw [← hh, Bd.state]; rfl
  have N0 := Fr.nil n0
  have pre0 : ∀ t, Steps p.tables e below (s₁.setTop (mkF m 0 #[.val (.ref x0), .val (.int (0 : Int32))] [])) t → Steps p.tables e below (s₁.setTop (entryFrame m #[(.ref x0), (.int (0 : Int32))] 2)) t := fun t k => castTop (ef_14 m x0 (0 : Int32)) k
  obtain ⟨_, _, ⟨T1, L1, k1, n1⟩, -, X1, ⟨Lc1, hQ1, l1, y1, z1⟩, st1⟩ := Jvm.LawKit.callS X0 hx (y := (⟨"java/lang/String", "checkIndex", "(II)V"⟩ : MethodName)) hown (mvT hZ (hw _ (List.mem_of_getElem? (i := 73) rfl))) (mvT hZ (hw _ (List.mem_of_getElem? (i := 74) rfl))) (mvT hZ (hw _ (List.mem_of_getElem? (i := 3) rfl))) (mvT hZ (hw _ (List.mem_of_getElem? (i := 75) rfl))) (by decide) (backOf (W := 0) (rmck_r l Z a0 hw [] fm h0 n0 Z0 O0 S_FM) hZ (hw _ (List.mem_of_getElem? (i := 75) rfl)) (hw _ (List.mem_of_getElem? (i := 3) rfl)) (by decide) (by decide)) (g := (mkF m 3 #[.val (.ref x0), .val (.int (0 : Int32))] [(.int (1 : Int32)), (.int (0 : Int32))])) rfl (by rw [hml]; rfl) (argsL := [(.int (0 : Int32)), (.int (1 : Int32))]) (rest := []) (lenOf pd__II_V rfl) rfl (by show 2 * 0 + _ ≤ _; exact Nat.le_of_eq rfl) (hb hby d14_3) (fun _ _ => ⟨rfl, e0, (by decide : 0 + 0 ≤ _), (by decide : 0 + 0 ≤ _)⟩)
  dsimp only [Pt.U, Pt.locs, Pt.cells, Pt.slots] at X1 l1 y1 z1 st1 hQ1
  subst l1 y1 z1
  obtain ⟨rfl, N1q, e1⟩ := hQ1
  have N1 := Fr.app N0 N1q
  obtain ⟨fs, hr, hrun, hended, hW, hsame⟩ := X1.leave (v := some (.int (own_c u0))) (fun h => by rw [Bd.returns] at h; cases h)
  refine ⟨_, _, pre0 _ ?_, hrun, hended, _, _, rfl, ?_, ⟨_, rfl⟩, hW, hsame.mono (by decide) (by decide)⟩
  · show Steps p.tables e below (s₁.setTop (mkF m 0 #[.val (.ref x0), .val (.int (0 : Int32))] [])) _
    refine XS.iloadN X0.here hx rfl (hb hby d14_0) rfl ?_
    show Steps p.tables e below (s₁.setTop (mkF m 1 #[.val (.ref x0), .val (.int (0 : Int32))] [(.int (0 : Int32))])) _
    refine XS.aloadN X0.here hx rfl (hb hby d14_1) rfl rfl ?_
    show Steps p.tables e below (s₁.setTop (mkF m 2 #[.val (.ref x0), .val (.int (0 : Int32))] [(.ref x0), (.int (0 : Int32))])) _
    refine own_len X0 hx hZ e0 V_x0 (g := (mkF m 2 #[.val (.ref x0), .val (.int (0 : Int32))] [(.ref x0), (.int (0 : Int32))])) rfl rfl (hb hby d14_2) ?_
    show Steps p.tables e below (s₁.setTop (mkF m 3 #[.val (.ref x0), .val (.int (0 : Int32))] [(.int (1 : Int32)), (.int (0 : Int32))])) _
    refine st1 _ ?_
    show Steps p.tables e below (T1.setTop (mkF m 6 #[.val (.ref x0), .val (.int (0 : Int32))] [])) _
    refine XS.aloadN X1.here hx rfl (hb hby d14_6) rfl rfl ?_
    show Steps p.tables e below (T1.setTop (mkF m 7 #[.val (.ref x0), .val (.int (0 : Int32))] [(.ref x0)])) _
    refine XS.iloadN X1.here hx rfl (hb hby d14_7) rfl ?_
    show Steps p.tables e below (T1.setTop (mkF m 8 #[.val (.ref x0), .val (.int (0 : Int32))] [(.int (0 : Int32)), (.ref x0)])) _
    refine own_ldB X1 hx hZ e1 V_x0 (j := (0 : Int32)) (w := u0) ⟨by decide, by decide⟩ rfl (g := (mkF m 8 #[.val (.ref x0), .val (.int (0 : Int32))] [(.int (0 : Int32)), (.ref x0)])) rfl rfl (hb hby d14_8) ?_
    show Steps p.tables e below (T1.setTop (mkF m 9 #[.val (.ref x0), .val (.int (0 : Int32))] [(.int u0)])) _
    refine XS.sipush X1.here hx rfl (hb hby d14_9) ?_
    show Steps p.tables e below (T1.setTop (mkF m 12 #[.val (.ref x0), .val (.int (0 : Int32))] [(.int (255 : Int32)), (.int u0)])) _
    refine XS.iand X1.here hx rfl (hb hby d14_12) rfl ?_
    show Steps p.tables e below (T1.setTop (mkF m 13 #[.val (.ref x0), .val (.int (0 : Int32))] [(.int (u0 &&& (255 : Int32)))])) _
    refine XS.i2c X1.here hx rfl (hb hby d14_13) rfl ?_
    show Steps p.tables e below (T1.setTop (mkF m 14 #[.val (.ref x0), .val (.int (0 : Int32))] [(.int ((u0 &&& (255 : Int32)).toUInt32.toUInt16.toUInt32.toInt32))])) _
    have hv : own_c u0 = nar .char ((u0 &&& (255 : Int32)).toUInt32.toUInt16.toUInt32.toInt32) := own_cn u0
    rw [hv] at hr
    exact retN X1 hx (t := .char) Bd.returns (by simp) (hb hby d14_14) hr
  · exact ⟨rfl, N1, e1⟩
set_option maxRecDepth 65536 in
set_option maxHeartbeats 40000000 in
theorem rmca_r (l : Launch) (Z : State) (a0 : Array Value) (hw : ∀ d ∈ tables_1, d.before a0 Z = true) (ws : List Jvm.Cond) (x0 : Addr) (va : Addr) (kv : ClassId) (u0 cs : Int32) (fm : Addr) (h0 : Heap) (n0 : Nat) (Z0 : n0 ≤ h0.size) (E_x0 : Exa Z h0 x0 "java/lang/String") (F_value_x0 : Fld Z h0 x0 "java/lang/String" "value" "[B" (.ref va)) (F_coder_x0 : Fld Z h0 x0 "java/lang/String" "coder" "B" (.int (0 : Int32))) (V_va : Arv Z h0 va kv .byte (1 : Int32) [(.int u0)] (.int (0 : Int32))) (O0 : Old Z n0 h0) (S_CS : Sta Z Z.heap "java/lang/String" "COMPACT_STRINGS" "Z" (.int cs)) (hcs : ¬ (cs = (0 : Int32))) (S_FM : Sta Z Z.heap "jdk/internal/util/Preconditions" "SIOOBE_FORMATTER" "Ljava/util/function/BiFunction;" (.ref fm)) :
    MetFree l (⟨"java/lang/String", "charAt", "(I)C"⟩ : MethodName) (head1 (Jvm.Cond.code (⟨"java/lang/String", "charAt", "(I)C"⟩ : MethodName) jdk_42_method_56_code 2 (some .char) :: ws) ({ frames := 3, cells := 0, slots := 0, locals := 40 } : Room)) (fun a U => a = #[(.ref x0), (.int (0 : Int32))] ∧ Z.Warmed39 U.vm ∧ U.heap = h0) (fun _ _ _ _ _ => True) (fun _ U o U' => ∃ v L, o = .returned v ∧ (QP (some (.int (own_c u0))) h0 n0 v U'.heap L) ∧ FrameEnd U o U' L ({ frames := 3, cells := 0, slots := 0, locals := 40 } : Room).cells ({ frames := 3, cells := 0, slots := 0, locals := 40 } : Room).slots) := by
  refine MetFree.of_bodySF (plainFor_of_name pn_12) hisR ?_
  intro p e s m args below meth c s₁ Bd hml0 hP hK
  obtain ⟨rfl, hZ, hh⟩ := hP
  have hx := Bd.exec
  have hby := Bd.bytes
  have hml : c.maxLocals = 2 := hml0
  have hown : s.vm.findClass "java/lang/String" = some m.cls := findClass_of_methodNamed Bd.named
  have hnm := (name_of_methodNamed Bd.named Bd.method).1
  have X0 : Stand p l e ({ frames := 3, cells := 0, slots := 0, locals := 40 } : Room) s m #[(.ref x0), (.int (0 : Int32))] below meth c s₁ [] 0 0 := Stand.of_body Bd
  have e0 : s₁.heap = h0 := by rw [← hh, Bd.state]; rfl
  have N0 := Fr.nil n0
  have pre0 : ∀ t, Steps p.tables e below (s₁.setTop (mkF m 0 #[.val (.ref x0), .val (.int (0 : Int32))] [])) t → Steps p.tables e below (s₁.setTop (entryFrame m #[(.ref x0), (.int (0 : Int32))] 2)) t := fun t k => castTop (ef_12 m x0 (0 : Int32)) k
  obtain ⟨cq1, kq1, q1a, q1b, q1c⟩ := isOf hZ e0 E_x0
  obtain ⟨_, _, ⟨T1, L1, k1, n1⟩, -, X1, ⟨Lc1, hQ1, l1, y1, z1⟩, st1⟩ := X0.virtualBack hx (y := (⟨"java/lang/String", "isLatin1", "()Z"⟩ : MethodName)) (z := (⟨"java/lang/String", "isLatin1", "()Z"⟩ : MethodName)) hown (mvT hZ (hw _ (List.mem_of_getElem? (i := 65) rfl))) (mvT hZ (hw _ (List.mem_of_getElem? (i := 66) rfl))) (notFace_of_selects (args := #[]) (mvT hZ (hw _ (List.mem_of_getElem? (i := 68) rfl)))) (mvT hZ (hw _ (List.mem_of_getElem? (i := 68) rfl))) (mvT hZ (hw _ (List.mem_of_getElem? (i := 67) rfl))) (by decide) (backOf (W := 0) (rm13 l Z a0 hw [] x0 cs h0 n0 Z0 F_coder_x0 O0 S_CS hcs) hZ (hw _ (List.mem_of_getElem? (i := 69) rfl)) (hw _ (List.mem_of_getElem? (i := 3) rfl)) (by decide) (by decide)) q1a q1c (g := (mkF m 1 #[.val (.ref x0), .val (.int (0 : Int32))] [(.ref x0)])) rfl (by rw [hml]; rfl) (Steps.refl _) (argsL := []) (rest := []) (lenOf pd___Z rfl) rfl (by show 2 * 0 + _ ≤ _; exact Nat.le_of_eq rfl) (hb hby d12_1) (fun _ _ => ⟨rfl, e0, (by decide : 0 + 0 ≤ _), (by decide : 0 + 0 ≤ _)⟩)
  dsimp only [Pt.U, Pt.locs, Pt.cells, Pt.slots] at X1 l1 y1 z1 st1 hQ1
  subst l1 y1 z1
  obtain ⟨rfl, N1q, e1⟩ := hQ1
  have N1 := Fr.app N0 N1q
  obtain ⟨T2, X2, e2, st2⟩ := getF X1 hx hZ hown (host := "") (Or.inl (hw _ (List.mem_of_getElem? (i := 20) rfl))) Via.refl e1 F_value_x0 (g := (mkF m 8 #[.val (.ref x0), .val (.int (0 : Int32))] [(.ref x0)])) rfl rfl (hb hby d12_8)
  obtain ⟨_, _, ⟨T3, L3, k3, n3⟩, -, X3, ⟨Lc3, hQ3, l3, y3, z3⟩, st3⟩ := Jvm.LawKit.callS X2 hx (y := (⟨"java/lang/StringLatin1", "charAt", "([BI)C"⟩ : MethodName)) hown (mvT hZ (hw _ (List.mem_of_getElem? (i := 70) rfl))) (mvT hZ (hw _ (List.mem_of_getElem? (i := 71) rfl))) (mvT hZ (hw _ (List.mem_of_getElem? (i := 36) rfl))) (mvT hZ (hw _ (List.mem_of_getElem? (i := 72) rfl))) (by decide) (backOf (W := 0) (rmlc_r l Z a0 hw [] va kv u0 fm h0 n0 Z0 V_va O0 S_FM) hZ (hw _ (List.mem_of_getElem? (i := 72) rfl)) (hw _ (List.mem_of_getElem? (i := 36) rfl)) (by decide) (by decide)) (g := (mkF m 12 #[.val (.ref x0), .val (.int (0 : Int32))] [(.int (0 : Int32)), (.ref va)])) rfl (by rw [hml]; rfl) (argsL := [(.ref va), (.int (0 : Int32))]) (rest := []) (lenOf pd___BI_C rfl) rfl (by show 2 * 0 + _ ≤ _; exact Nat.le_of_eq rfl) (hb hby d12_12) (fun _ _ => ⟨rfl, e2, (by decide : 0 + 0 ≤ _), (by decide : 0 + 0 ≤ _)⟩)
  dsimp only [Pt.U, Pt.locs, Pt.cells, Pt.slots] at X3 l3 y3 z3 st3 hQ3
  subst l3 y3 z3
  obtain ⟨rfl, N3q, e3⟩ := hQ3
  have N3 := Fr.app N1 N3q
  obtain ⟨fs, hr, hrun, hended, hW, hsame⟩ := X3.leave (v := some (.int (own_c u0))) (fun h => by rw [Bd.returns] at h; cases h)
  refine ⟨_, _, pre0 _ ?_, hrun, hended, _, _, rfl, ?_, ⟨_, rfl⟩, hW, hsame.mono (by decide) (by decide)⟩
  · show Steps p.tables e below (s₁.setTop (mkF m 0 #[.val (.ref x0), .val (.int (0 : Int32))] [])) _
    refine XS.aloadN X0.here hx rfl (hb hby d12_0) rfl rfl ?_
    show Steps p.tables e below (s₁.setTop (mkF m 1 #[.val (.ref x0), .val (.int (0 : Int32))] [(.ref x0)])) _
    refine st1.trans ?_
    show Steps p.tables e below (T1.setTop (mkF m 4 #[.val (.ref x0), .val (.int (0 : Int32))] [(.int (1 : Int32))])) _
    refine XS.ifNo X1.here hx rfl (hb hby d12_4) rfl ((if0 _ _).trans (feq (by decide : ¬ ((1 : Int32) = (0 : Int32)))).1) ?_
    show Steps p.tables e below (T1.setTop (mkF m 7 #[.val (.ref x0), .val (.int (0 : Int32))] [])) _
    refine XS.aloadN X1.here hx rfl (hb hby d12_7) rfl rfl ?_
    show Steps p.tables e below (T1.setTop (mkF m 8 #[.val (.ref x0), .val (.int (0 : Int32))] [(.ref x0)])) _
    refine st2 _ ?_
    show Steps p.tables e below (T2.setTop (mkF m 11 #[.val (.ref x0), .val (.int (0 : Int32))] [(.ref va)])) _
    refine XS.iloadN X2.here hx rfl (hb hby d12_11) rfl ?_
    show Steps p.tables e below (T2.setTop (mkF m 12 #[.val (.ref x0), .val (.int (0 : Int32))] [(.int (0 : Int32)), (.ref va)])) _
    refine st3 _ ?_
    show Steps p.tables e below (T3.setTop (mkF m 15 #[.val (.ref x0), .val (.int (0 : Int32))] [(.int (own_c u0))])) _
    have hv : own_c u0 = nar .char (own_c u0) := own_cn u0
    rw [hv] at hr
    exact retN X3 hx (t := .char) Bd.returns (by simp) (hb hby d12_15) hr
  · exact ⟨rfl, N3, e3⟩
theorem rmca (l : Launch) (Z : State) (a0 : Array Value) (hw : ∀ d ∈ tables_1, d.before a0 Z = true) (ws : List Jvm.Cond) (x0 : Addr) (va : Addr) (kv : ClassId) (u0 cs : Int32) (fmv : Value) (h0 : Heap) (n0 : Nat) (Z0 : n0 ≤ h0.size) (E_x0 : Exa Z h0 x0 "java/lang/String") (F_value_x0 : Fld Z h0 x0 "java/lang/String" "value" "[B" (.ref va)) (F_coder_x0 : Fld Z h0 x0 "java/lang/String" "coder" "B" (.int (0 : Int32))) (V_va : Arv Z h0 va kv .byte (1 : Int32) [(.int u0)] (.int (0 : Int32))) (O0 : Old Z n0 h0) (S_CS : Sta Z Z.heap "java/lang/String" "COMPACT_STRINGS" "Z" (.int cs)) (hcs : ¬ (cs = (0 : Int32))) (S_FM : Sta Z Z.heap "jdk/internal/util/Preconditions" "SIOOBE_FORMATTER" "Ljava/util/function/BiFunction;" fmv) (hfm : fmv.isRef = true) :
    MetFree l (⟨"java/lang/String", "charAt", "(I)C"⟩ : MethodName) (head1 (Jvm.Cond.code (⟨"java/lang/String", "charAt", "(I)C"⟩ : MethodName) jdk_42_method_56_code 2 (some .char) :: ws) ({ frames := 3, cells := 0, slots := 0, locals := 40 } : Room)) (fun a U => a = #[(.ref x0), (.int (0 : Int32))] ∧ Z.Warmed39 U.vm ∧ U.heap = h0) (fun _ _ _ _ _ => True) (fun _ U o U' => ∃ v L, o = .returned v ∧ (QP (some (.int (own_c u0))) h0 n0 v U'.heap L) ∧ FrameEnd U o U' L ({ frames := 3, cells := 0, slots := 0, locals := 40 } : Room).cells ({ frames := 3, cells := 0, slots := 0, locals := 40 } : Room).slots) := by
  rcases ref_cases hfm with rfl | ⟨fm, rfl⟩
  · exact rmca_n l Z a0 hw ws x0 va kv u0 cs h0 n0 Z0 E_x0 F_value_x0 F_coder_x0 V_va O0 S_CS hcs S_FM
  · exact rmca_r l Z a0 hw ws x0 va kv u0 cs fm h0 n0 Z0 E_x0 F_value_x0 F_coder_x0 V_va O0 S_CS hcs S_FM
theorem pd__Ljava_lang_Object__Z : parseMethodDescriptor "(Ljava/lang/Object;)Z" = some ⟨[(.object "java/lang/Object")], some .boolean⟩ := by decide +kernel
set_option maxRecDepth 65536 in
set_option maxHeartbeats 40000000 in
theorem rmnm_0 (l : Launch) (Z : State) (a0 : Array Value) (hw : ∀ d ∈ tables_1, d.before a0 Z = true) (ws : List Jvm.Cond) (x0 : Addr) (va : Addr) (kv : ClassId) (cs : Int32)  (h0 : Heap) (n0 : Nat) (Z0 : n0 ≤ h0.size) (E_x0 : Exa Z h0 x0 "java/lang/String") (F_value_x0 : Fld Z h0 x0 "java/lang/String" "value" "[B" (.ref va)) (F_coder_x0 : Fld Z h0 x0 "java/lang/String" "coder" "B" (.int (0 : Int32))) (V_va : Arv Z h0 va kv .byte (0 : Int32) [] (.int (0 : Int32))) (O0 : Old Z n0 h0) (S_CS : Sta Z Z.heap "java/lang/String" "COMPACT_STRINGS" "Z" (.int cs)) (hcs : ¬ (cs = (0 : Int32)))  :
    MetFree l (⟨"com/example/skylattice/skylattice/cli/InputArgument", "name", "(Ljava/lang/String;)Ljava/lang/String;"⟩ : MethodName) (head1 (Jvm.Cond.code (⟨"com/example/skylattice/skylattice/cli/InputArgument", "name", "(Ljava/lang/String;)Ljava/lang/String;"⟩ : MethodName) prog_20_method_3_code 1 (some (.object "java/lang/String")) :: ws) ({ frames := 2, cells := 4, slots := 68, locals := 28 } : Room)) (fun a U => a = #[(.ref x0)] ∧ Z.Warmed39 U.vm ∧ U.heap = h0 ∧ CHv Z consts_1 U.vm h0) (fun _ _ _ _ _ => True) (fun _ U o U' => ∃ v L, o = .returned v ∧ (QNM Z x0 h0 n0 v U'.heap L) ∧ CHr Z consts_1 U.vm U.heap U'.vm U'.heap ∧ ReturnedEndW U o U' L ({ frames := 2, cells := 4, slots := 68, locals := 28 } : Room).cells ({ frames := 2, cells := 4, slots := 68, locals := 28 } : Room).slots) := by
  refine MetFree.of_bodySF (plainFor_of_name pn_4) hisR ?_
  intro p e s m args below meth c s₁ Bd hml0 hP hK
  obtain ⟨rfl, hZ, hh, C0v⟩ := hP
  have hx := Bd.exec
  have hby := Bd.bytes
  have hml : c.maxLocals = 1 := hml0
  have hown : (s.setVm s.vm).vm.findClass "com/example/skylattice/skylattice/cli/InputArgument" = some m.cls := findClass_of_methodNamed Bd.named
  have hnm := (name_of_methodNamed Bd.named Bd.method).1
  have X0 : Stand p l e ({ frames := 2, cells := 4, slots := 68, locals := 28 } : Room) (s.setVm s.vm) m #[(.ref x0)] below meth c s₁ [] 0 0 := Stand.of_body Bd
  have e0 : s₁.heap = h0 := by rw [← hh, Bd.state]; rfl
  have N0 := Fr.nil n0
  have hS0 : s.Since s.vm 0 := (State.WarmedH.refl s).since 0
  have hk0 : 0 ≤ h0.size := Nat.zero_le _
  have R0v := CHr.refl C0v
  have pre0 : ∀ t, Steps p.tables e below (s₁.setTop (mkF m 0 #[.val (.ref x0)] [])) t → Steps p.tables e below (s₁.setTop (entryFrame m #[(.ref x0)] 1)) t := fun t k => castTop (ef_4 m x0) k
  have K0 : Keep h0 h0 [] := Keep.refl h0 []
  obtain ⟨la, T1, h1, k11, lb, kl1, X1, e1, E1, hS1, hk1, hZ1, hown1, EX1, FC1, FV1, AV1, lq1, lr1, Cc1, Li1, sf1, st1⟩ := ldcCH X0 hx hZ hown (hw _ (List.mem_of_getElem? (i := 26) rfl)) (own_wS hw) e0 hS0 hk0 (own_EL hw) (List.mem_of_getElem? (i := 0) rfl) C0v (vs := [(.int (45 : Int32))]) (z := (1 : Int32)) ⟨by decide, by decide⟩ (by decide) rfl (g := (mkF m 1 #[.val (.ref x0)] [(.ref x0)])) rfl (hb hby d4_1) (n := 4) (by decide) (by decide) (by decide) (by decide)
  have keep_2 : Keep h0 h1 [] := K0.ext E1
  have V_va_2 : Arv Z h1 va kv .byte (0 : Int32) [] (.int (0 : Int32)) := V_va.ext E1
  have E_x0_2 : Exa Z h1 x0 "java/lang/String" := E_x0.ext E1
  have F_value_x0_2 : Fld Z h1 x0 "java/lang/String" "value" "[B" (.ref va) := F_value_x0.ext E1
  have F_coder_x0_2 : Fld Z h1 x0 "java/lang/String" "coder" "B" (.int (0 : Int32)) := F_coder_x0.ext E1
  have old_2 : Old Z n0 h1 := O0.ext E1
  have siz_2 : n0 ≤ h1.size := Nat.le_trans Z0 E1.1
  have C1v := Cc1.1
  have R1v := R0v.trans Cc1
  have hne : ¬ (x0 = la) := fun q => absurd (own_str_same F_value_x0_2 FV1 V_va_2 AV1 q).1 (by decide)
  obtain ⟨cq3, kq3, q3a, q3b, q3c⟩ := isOf hZ1 e1 E_x0_2
  obtain ⟨_, _, ⟨T3, L3, k3, n3⟩, -, X3, ⟨Lc3, hQ3, l3, y3, z3⟩, st3⟩ := X1.virtualBack hx (y := (⟨"java/lang/String", "equals", "(Ljava/lang/Object;)Z"⟩ : MethodName)) (z := (⟨"java/lang/String", "equals", "(Ljava/lang/Object;)Z"⟩ : MethodName)) hown1 (mvT hZ1 (hw _ (List.mem_of_getElem? (i := 27) rfl))) (mvT hZ1 (hw _ (List.mem_of_getElem? (i := 28) rfl))) (notFace_of_selects (args := #[]) (mvT hZ1 (hw _ (List.mem_of_getElem? (i := 30) rfl)))) (mvT hZ1 (hw _ (List.mem_of_getElem? (i := 30) rfl))) (mvT hZ1 (hw _ (List.mem_of_getElem? (i := 29) rfl))) (by decide) (backOf (W := 0) (rmeq_0 l Z a0 hw [] x0 la va lb kv kl1 cs  h1 n0 siz_2 E_x0_2 F_value_x0_2 F_coder_x0_2 V_va_2 EX1 FV1 FC1 AV1 old_2 S_CS hcs hne ) hZ1 (hw _ (List.mem_of_getElem? (i := 31) rfl)) (hw _ (List.mem_of_getElem? (i := 3) rfl)) (by decide) (by decide)) q3a q3c (g := (mkF m 3 #[.val (.ref x0)] [(.ref la), (.ref x0)])) rfl (by rw [hml]; rfl) (Steps.refl _) (argsL := [(.ref la)]) (rest := []) (lenOf pd__Ljava_lang_Object__Z rfl) rfl (by show 2 * 0 + _ ≤ _; exact Nat.le_of_eq rfl) (hb hby d4_3) (fun _ _ => ⟨rfl, e1, (by decide : 2 + 0 ≤ _), (by decide : 8 + 0 ≤ _)⟩)
  dsimp only [Pt.U, Pt.locs, Pt.cells, Pt.slots] at X3 l3 y3 z3 st3 hQ3
  subst l3 y3 z3
  obtain ⟨rfl, N3q, e3⟩ := hQ3
  have N3 := Fr.app N0 N3q
  have Rend := R1v.trans (CHv.at X3 hZ1 (own_EL hw) C1v)
  obtain ⟨fs, hr, hrun, hended, hRW⟩ := X3.leaveW hS1 (by rw [e3]; exact hk1) (v := some (.ref x0)) (fun h => by rw [Bd.returns] at h; cases h)
  refine ⟨_, _, pre0 _ ?_, hrun, hended, _, _, rfl, ?_, ?_, hRW.1, hRW.2.1, hRW.2.2.1, hRW.2.2.2.mono (by decide) (by decide)⟩
  · show Steps p.tables e below (s₁.setTop (mkF m 0 #[.val (.ref x0)] [])) _
    refine XS.aloadN X0.here hx rfl (hb hby d4_0) rfl rfl ?_
    show Steps p.tables e below (s₁.setTop (mkF m 1 #[.val (.ref x0)] [(.ref x0)])) _
    refine st1 _ ?_
    show Steps p.tables e below (T1.setTop (mkF m 3 #[.val (.ref x0)] [(.ref la), (.ref x0)])) _
    refine st3.trans ?_
    show Steps p.tables e below (T3.setTop (mkF m 6 #[.val (.ref x0)] [(.int (0 : Int32))])) _
    refine XS.ifYes X3.here hx rfl (pc0 := 6) (pc' := 14) rfl (hb hby d4_6) rfl ((if0 _ _).trans (teq (by decide : (0 : Int32) = (0 : Int32))).1) (by decide) (by decide) ?_
    show Steps p.tables e below (T3.setTop (mkF m 14 #[.val (.ref x0)] [])) _
    refine XS.aloadN X3.here hx rfl (hb hby d4_14) rfl rfl ?_
    show Steps p.tables e below (T3.setTop (mkF m 15 #[.val (.ref x0)] [(.ref x0)])) _
    exact retOut X3 hx (t := (.object "java/lang/String")) (i := .areturn) Bd.returns rfl (Or.inr (Or.inr (Or.inr (Or.inr ⟨rfl, rfl, rfl⟩)))) (hb hby d4_15) hr
  · exact (by
      have eT : (T3.setFrames fs).heap = h1 := e3
      rw [eT]; exact ⟨rfl, N3, keep_2⟩)
  · have eT : (T3.setFrames fs).heap = h1 := e3
    rw [eT, hh]; exact Rend
set_option maxRecDepth 65536 in
set_option maxHeartbeats 40000000 in
theorem rmnm_1n (l : Launch) (Z : State) (a0 : Array Value) (hw : ∀ d ∈ tables_1, d.before a0 Z = true) (ws : List Jvm.Cond) (x0 : Addr) (va : Addr) (kv : ClassId) (cs : Int32) (u0 : Int32) (h0 : Heap) (n0 : Nat) (Z0 : n0 ≤ h0.size) (E_x0 : Exa Z h0 x0 "java/lang/String") (F_value_x0 : Fld Z h0 x0 "java/lang/String" "value" "[B" (.ref va)) (F_coder_x0 : Fld Z h0 x0 "java/lang/String" "coder" "B" (.int (0 : Int32))) (V_va : Arv Z h0 va kv .byte (1 : Int32) [(.int u0)] (.int (0 : Int32))) (O0 : Old Z n0 h0) (S_CS : Sta Z Z.heap "java/lang/String" "COMPACT_STRINGS" "Z" (.int cs)) (hcs : ¬ (cs = (0 : Int32))) (hu : ¬ (u0 = (45 : Int32))) :
    MetFree l (⟨"com/example/skylattice/skylattice/cli/InputArgument", "name", "(Ljava/lang/String;)Ljava/lang/String;"⟩ : MethodName) (head1 (Jvm.Cond.code (⟨"com/example/skylattice/skylattice/cli/InputArgument", "name", "(Ljava/lang/String;)Ljava/lang/String;"⟩ : MethodName) prog_20_method_3_code 1 (some (.object "java/lang/String")) :: ws) ({ frames := 2, cells := 4, slots := 68, locals := 28 } : Room)) (fun a U => a = #[(.ref x0)] ∧ Z.Warmed39 U.vm ∧ U.heap = h0 ∧ CHv Z consts_1 U.vm h0) (fun _ _ _ _ _ => True) (fun _ U o U' => ∃ v L, o = .returned v ∧ (QNM Z x0 h0 n0 v U'.heap L) ∧ CHr Z consts_1 U.vm U.heap U'.vm U'.heap ∧ ReturnedEndW U o U' L ({ frames := 2, cells := 4, slots := 68, locals := 28 } : Room).cells ({ frames := 2, cells := 4, slots := 68, locals := 28 } : Room).slots) := by
  refine MetFree.of_bodySF (plainFor_of_name pn_4) hisR ?_
  intro p e s m args below meth c s₁ Bd hml0 hP hK
  obtain ⟨rfl, hZ, hh, C0v⟩ := hP
  have hx := Bd.exec
  have hby := Bd.bytes
  have hml : c.maxLocals = 1 := hml0
  have hown : (s.setVm s.vm).vm.findClass "com/example/skylattice/skylattice/cli/InputArgument" = some m.cls := findClass_of_methodNamed Bd.named
  have hnm := (name_of_methodNamed Bd.named Bd.method).1
  have X0 : Stand p l e ({ frames := 2, cells := 4, slots := 68, locals := 28 } : Room) (s.setVm s.vm) m #[(.ref x0)] below meth c s₁ [] 0 0 := Stand.of_body Bd
  have e0 : s₁.heap = h0 := by rw [← hh, Bd.state]; rfl
  have N0 := Fr.nil n0
  have hS0 : s.Since s.vm 0 := (State.WarmedH.refl s).since 0
  have hk0 : 0 ≤ h0.size := Nat.zero_le _
  have R0v := CHr.refl C0v
  have pre0 : ∀ t, Steps p.tables e below (s₁.setTop (mkF m 0 #[.val (.ref x0)] [])) t → Steps p.tables e below (s₁.setTop (entryFrame m #[(.ref x0)] 1)) t := fun t k => castTop (ef_4 m x0) k
  have K0 : Keep h0 h0 [] := Keep.refl h0 []
  obtain ⟨la, T1, h1, k11, lb, kl1, X1, e1, E1, hS1, hk1, hZ1, hown1, EX1, FC1, FV1, AV1, lq1, lr1, Cc1, Li1, sf1, st1⟩ := ldcCH X0 hx hZ hown (hw _ (List.mem_of_getElem? (i := 26) rfl)) (own_wS hw) e0 hS0 hk0 (own_EL hw) (List.mem_of_getElem? (i := 0) rfl) C0v (vs := [(.int (45 : Int32))]) (z := (1 : Int32)) ⟨by decide, by decide⟩ (by decide) rfl (g := (mkF m 1 #[.val (.ref x0)] [(.ref x0)])) rfl (hb hby d4_1) (n := 4) (by decide) (by decide) (by decide) (by decide)
  have keep_2 : Keep h0 h1 [] := K0.ext E1
  have V_va_2 : Arv Z h1 va kv .byte (1 : Int32) [(.int u0)] (.int (0 : Int32)) := V_va.ext E1
  have E_x0_2 : Exa Z h1 x0 "java/lang/String" := E_x0.ext E1
  have F_value_x0_2 : Fld Z h1 x0 "java/lang/String" "value" "[B" (.ref va) := F_value_x0.ext E1
  have F_coder_x0_2 : Fld Z h1 x0 "java/lang/String" "coder" "B" (.int (0 : Int32)) := F_coder_x0.ext E1
  have old_2 : Old Z n0 h1 := O0.ext E1
  have siz_2 : n0 ≤ h1.size := Nat.le_trans Z0 E1.1
  have C1v := Cc1.1
  have R1v := R0v.trans Cc1
  have hne : ¬ (x0 = la) := fun q => hu (Value.int.inj ((own_str_same F_value_x0_2 FV1 V_va_2 AV1 q).2 0 (by decide)))
  obtain ⟨cq3, kq3, q3a, q3b, q3c⟩ := isOf hZ1 e1 E_x0_2
  obtain ⟨_, _, ⟨T3, L3, k3, n3⟩, -, X3, ⟨Lc3, hQ3, l3, y3, z3⟩, st3⟩ := X1.virtualBack hx (y := (⟨"java/lang/String", "equals", "(Ljava/lang/Object;)Z"⟩ : MethodName)) (z := (⟨"java/lang/String", "equals", "(Ljava/lang/Object;)Z"⟩ : MethodName)) hown1 (mvT hZ1 (hw _ (List.mem_of_getElem? (i := 27) rfl))) (mvT hZ1 (hw _ (List.mem_of_getElem? (i := 28) rfl))) (notFace_of_selects (args := #[]) (mvT hZ1 (hw _ (List.mem_of_getElem? (i := 30) rfl)))) (mvT hZ1 (hw _ (List.mem_of_getElem? (i := 30) rfl))) (mvT hZ1 (hw _ (List.mem_of_getElem? (i := 29) rfl))) (by decide) (backOf (W := 0) (rmeq_1n l Z a0 hw [] x0 la va lb kv kl1 cs u0 h1 n0 siz_2 E_x0_2 F_value_x0_2 F_coder_x0_2 V_va_2 EX1 FV1 FC1 AV1 old_2 S_CS hcs hne hu) hZ1 (hw _ (List.mem_of_getElem? (i := 31) rfl)) (hw _ (List.mem_of_getElem? (i := 3) rfl)) (by decide) (by decide)) q3a q3c (g := (mkF m 3 #[.val (.ref x0)] [(.ref la), (.ref x0)])) rfl (by rw [hml]; rfl) (Steps.refl _) (argsL := [(.ref la)]) (rest := []) (lenOf pd__Ljava_lang_Object__Z rfl) rfl (by show 2 * 0 + _ ≤ _; exact Nat.le_of_eq rfl) (hb hby d4_3) (fun _ _ => ⟨rfl, e1, (by decide : 2 + 0 ≤ _), (by decide : 8 + 0 ≤ _)⟩)
  dsimp only [Pt.U, Pt.locs, Pt.cells, Pt.slots] at X3 l3 y3 z3 st3 hQ3
  subst l3 y3 z3
  obtain ⟨rfl, N3q, e3⟩ := hQ3
  have N3 := Fr.app N0 N3q
  have Rend := R1v.trans (CHv.at X3 hZ1 (own_EL hw) C1v)
  obtain ⟨fs, hr, hrun, hended, hRW⟩ := X3.leaveW hS1 (by rw [e3]; exact hk1) (v := some (.ref x0)) (fun h => by rw [Bd.returns] at h; cases h)
  refine ⟨_, _, pre0 _ ?_, hrun, hended, _, _, rfl, ?_, ?_, hRW.1, hRW.2.1, hRW.2.2.1, hRW.2.2.2.mono (by decide) (by decide)⟩
  · show Steps p.tables e below (s₁.setTop (mkF m 0 #[.val (.ref x0)] [])) _
    refine XS.aloadN X0.here hx rfl (hb hby d4_0) rfl rfl ?_
    show Steps p.tables e below (s₁.setTop (mkF m 1 #[.val (.ref x0)] [(.ref x0)])) _
    refine st1 _ ?_
    show Steps p.tables e below (T1.setTop (mkF m 3 #[.val (.ref x0)] [(.ref la), (.ref x0)])) _
    refine st3.trans ?_
    show Steps p.tables e below (T3.setTop (mkF m 6 #[.val (.ref x0)] [(.int (0 : Int32))])) _
    refine XS.ifYes X3.here hx rfl (pc0 := 6) (pc' := 14) rfl (hb hby d4_6) rfl ((if0 _ _).trans (teq (by decide : (0 : Int32) = (0 : Int32))).1) (by decide) (by decide) ?_
    show Steps p.tables e below (T3.setTop (mkF m 14 #[.val (.ref x0)] [])) _
    refine XS.aloadN X3.here hx rfl (hb hby d4_14) rfl rfl ?_
    show Steps p.tables e below (T3.setTop (mkF m 15 #[.val (.ref x0)] [(.ref x0)])) _
    exact retOut X3 hx (t := (.object "java/lang/String")) (i := .areturn) Bd.returns rfl (Or.inr (Or.inr (Or.inr (Or.inr ⟨rfl, rfl, rfl⟩)))) (hb hby d4_15) hr
  · exact (by
      have eT : (T3.setFrames fs).heap = h1 := e3
      rw [eT]; exact ⟨rfl, N3, keep_2⟩)
  · have eT : (T3.setFrames fs).heap = h1 := e3
    rw [eT, hh]; exact Rend
set_option maxRecDepth 65536 in
set_option maxHeartbeats 40000000 in
theorem rmnm_2 (l : Launch) (Z : State) (a0 : Array Value) (hw : ∀ d ∈ tables_1, d.before a0 Z = true) (ws : List Jvm.Cond) (x0 : Addr) (va : Addr) (kv : ClassId) (cs : Int32) (u0 : Int32) (u1 : Int32) (h0 : Heap) (n0 : Nat) (Z0 : n0 ≤ h0.size) (E_x0 : Exa Z h0 x0 "java/lang/String") (F_value_x0 : Fld Z h0 x0 "java/lang/String" "value" "[B" (.ref va)) (F_coder_x0 : Fld Z h0 x0 "java/lang/String" "coder" "B" (.int (0 : Int32))) (V_va : Arv Z h0 va kv .byte (2 : Int32) [(.int u0), (.int u1)] (.int (0 : Int32))) (O0 : Old Z n0 h0) (S_CS : Sta Z Z.heap "java/lang/String" "COMPACT_STRINGS" "Z" (.int cs)) (hcs : ¬ (cs = (0 : Int32)))  :
    MetFree l (⟨"com/example/skylattice/skylattice/cli/InputArgument", "name", "(Ljava/lang/String;)Ljava/lang/String;"⟩ : MethodName) (head1 (Jvm.Cond.code (⟨"com/example/skylattice/skylattice/cli/InputArgument", "name", "(Ljava/lang/String;)Ljava/lang/String;"⟩ : MethodName) prog_20_method_3_code 1 (some (.object "java/lang/String")) :: ws) ({ frames := 2, cells := 4, slots := 68, locals := 28 } : Room)) (fun a U => a = #[(.ref x0)] ∧ Z.Warmed39 U.vm ∧ U.heap = h0 ∧ CHv Z consts_1 U.vm h0) (fun _ _ _ _ _ => True) (fun _ U o U' => ∃ v L, o = .returned v ∧ (QNM Z x0 h0 n0 v U'.heap L) ∧ CHr Z consts_1 U.vm U.heap U'.vm U'.heap ∧ ReturnedEndW U o U' L ({ frames := 2, cells := 4, slots := 68, locals := 28 } : Room).cells ({ frames := 2, cells := 4, slots := 68, locals := 28 } : Room).slots) := by
  refine MetFree.of_bodySF (plainFor_of_name pn_4) hisR ?_
  intro p e s m args below meth c s₁ Bd hml0 hP hK
  obtain ⟨rfl, hZ, hh, C0v⟩ := hP
  have hx := Bd.exec
  have hby := Bd.bytes
  have hml : c.maxLocals = 1 := hml0
  have hown : (s.setVm s.vm).vm.findClass "com/example/skylattice/skylattice/cli/InputArgument" = some m.cls := findClass_of_methodNamed Bd.named
  have hnm := (name_of_methodNamed Bd.named Bd.method).1
  have X0 : Stand p l e ({ frames := 2, cells := 4, slots := 68, locals := 28 } : Room) (s.setVm s.vm) m #[(.ref x0)] below meth c s₁ [] 0 0 := Stand.of_body Bd
  have e0 : s₁.heap = h0 := by rw [← hh, Bd.state]; rfl
  have N0 := Fr.nil n0
  have hS0 : s.Since s.vm 0 := (State.WarmedH.refl s).since 0
  have hk0 : 0 ≤ h0.size := Nat.zero_le _
  have R0v := CHr.refl C0v
  have pre0 : ∀ t, Steps p.tables e below (s₁.setTop (mkF m 0 #[.val (.ref x0)] [])) t → Steps p.tables e below (s₁.setTop (entryFrame m #[(.ref x0)] 1)) t := fun t k => castTop (ef_4 m x0) k
  have K0 : Keep h0 h0 [] := Keep.refl h0 []
  obtain ⟨la, T1, h1, k11, lb, kl1, X1, e1, E1, hS1, hk1, hZ1, hown1, EX1, FC1, FV1, AV1, lq1, lr1, Cc1, Li1, sf1, st1⟩ := ldcCH X0 hx hZ hown (hw _ (List.mem_of_getElem? (i := 26) rfl)) (own_wS hw) e0 hS0 hk0 (own_EL hw) (List.mem_of_getElem? (i := 0) rfl) C0v (vs := [(.int (45 : Int32))]) (z := (1 : Int32)) ⟨by decide, by decide⟩ (by decide) rfl (g := (mkF m 1 #[.val (.ref x0)] [(.ref x0)])) rfl (hb hby d4_1) (n := 4) (by decide) (by decide) (by decide) (by decide)
  have keep_2 : Keep h0 h1 [] := K0.ext E1
  have V_va_2 : Arv Z h1 va kv .byte (2 : Int32) [(.int u0), (.int u1)] (.int (0 : Int32)) := V_va.ext E1
  have E_x0_2 : Exa Z h1 x0 "java/lang/String" := E_x0.ext E1
  have F_value_x0_2 : Fld Z h1 x0 "java/lang/String" "value" "[B" (.ref va) := F_value_x0.ext E1
  have F_coder_x0_2 : Fld Z h1 x0 "java/lang/String" "coder" "B" (.int (0 : Int32)) := F_coder_x0.ext E1
  have old_2 : Old Z n0 h1 := O0.ext E1
  have siz_2 : n0 ≤ h1.size := Nat.le_trans Z0 E1.1
  have C1v := Cc1.1
  have R1v := R0v.trans Cc1
  have hne : ¬ (x0 = la) := fun q => absurd (own_str_same F_value_x0_2 FV1 V_va_2 AV1 q).1 (by decide)
  obtain ⟨cq3, kq3, q3a, q3b, q3c⟩ := isOf hZ1 e1 E_x0_2
  obtain ⟨_, _, ⟨T3, L3, k3, n3⟩, -, X3, ⟨Lc3, hQ3, l3, y3, z3⟩, st3⟩ := X1.virtualBack hx (y := (⟨"java/lang/String", "equals", "(Ljava/lang/Object;)Z"⟩ : MethodName)) (z := (⟨"java/lang/String", "equals", "(Ljava/lang/Object;)Z"⟩ : MethodName)) hown1 (mvT hZ1 (hw _ (List.mem_of_getElem? (i := 27) rfl))) (mvT hZ1 (hw _ (List.mem_of_getElem? (i := 28) rfl))) (notFace_of_selects (args := #[]) (mvT hZ1 (hw _ (List.mem_of_getElem? (i := 30) rfl)))) (mvT hZ1 (hw _ (List.mem_of_getElem? (i := 30) rfl))) (mvT hZ1 (hw _ (List.mem_of_getElem? (i := 29) rfl))) (by decide) (backOf (W := 0) (rmeq_2 l Z a0 hw [] x0 la va lb kv kl1 cs u0 u1 h1 n0 siz_2 E_x0_2 F_value_x0_2 F_coder_x0_2 V_va_2 EX1 FV1 FC1 AV1 old_2 S_CS hcs hne ) hZ1 (hw _ (List.mem_of_getElem? (i := 31) rfl)) (hw _ (List.mem_of_getElem? (i := 3) rfl)) (by decide) (by decide)) q3a q3c (g := (mkF m 3 #[.val (.ref x0)] [(.ref la), (.ref x0)])) rfl (by rw [hml]; rfl) (Steps.refl _) (argsL := [(.ref la)]) (rest := []) (lenOf pd__Ljava_lang_Object__Z rfl) rfl (by show 2 * 0 + _ ≤ _; exact Nat.le_of_eq rfl) (hb hby d4_3) (fun _ _ => ⟨rfl, e1, (by decide : 2 + 0 ≤ _), (by decide : 8 + 0 ≤ _)⟩)
  dsimp only [Pt.U, Pt.locs, Pt.cells, Pt.slots] at X3 l3 y3 z3 st3 hQ3
  subst l3 y3 z3
  obtain ⟨rfl, N3q, e3⟩ := hQ3
  have N3 := Fr.app N0 N3q
  have Rend := R1v.trans (CHv.at X3 hZ1 (own_EL hw) C1v)
  obtain ⟨fs, hr, hrun, hended, hRW⟩ := X3.leaveW hS1 (by rw [e3]; exact hk1) (v := some (.ref x0)) (fun h => by rw [Bd.returns] at h; cases h)
  refine ⟨_, _, pre0 _ ?_, hrun, hended, _, _, rfl, ?_, ?_, hRW.1, hRW.2.1, hRW.2.2.1, hRW.2.2.2.mono (by decide) (by decide)⟩
  · show Steps p.tables e below (s₁.setTop (mkF m 0 #[.val (.ref x0)] [])) _
    refine XS.aloadN X0.here hx rfl (hb hby d4_0) rfl rfl ?_
    show Steps p.tables e below (s₁.setTop (mkF m 1 #[.val (.ref x0)] [(.ref x0)])) _
    refine st1 _ ?_
    show Steps p.tables e below (T1.setTop (mkF m 3 #[.val (.ref x0)] [(.ref la), (.ref x0)])) _
    refine st3.trans ?_
    show Steps p.tables e below (T3.setTop (mkF m 6 #[.val (.ref x0)] [(.int (0 : Int32))])) _
    refine XS.ifYes X3.here hx rfl (pc0 := 6) (pc' := 14) rfl (hb hby d4_6) rfl ((if0 _ _).trans (teq (by decide : (0 : Int32) = (0 : Int32))).1) (by decide) (by decide) ?_
    show Steps p.tables e below (T3.setTop (mkF m 14 #[.val (.ref x0)] [])) _
    refine XS.aloadN X3.here hx rfl (hb hby d4_14) rfl rfl ?_
    show Steps p.tables e below (T3.setTop (mkF m 15 #[.val (.ref x0)] [(.ref x0)])) _
    exact retOut X3 hx (t := (.object "java/lang/String")) (i := .areturn) Bd.returns rfl (Or.inr (Or.inr (Or.inr (Or.inr ⟨rfl, rfl, rfl⟩)))) (hb hby d4_15) hr
  · exact (by
      have eT : (T3.setFrames fs).heap = h1 := e3
      rw [eT]; exact ⟨rfl, N3, keep_2⟩)
  · have eT : (T3.setFrames fs).heap = h1 := e3
    rw [eT, hh]; exact Rend
set_option maxRecDepth 65536 in
set_option maxHeartbeats 40000000 in
theorem rmnm_3 (l : Launch) (Z : State) (a0 : Array Value) (hw : ∀ d ∈ tables_1, d.before a0 Z = true) (ws : List Jvm.Cond) (x0 : Addr) (va : Addr) (kv : ClassId) (cs : Int32) (u0 : Int32) (u1 : Int32) (u2 : Int32) (h0 : Heap) (n0 : Nat) (Z0 : n0 ≤ h0.size) (E_x0 : Exa Z h0 x0 "java/lang/String") (F_value_x0 : Fld Z h0 x0 "java/lang/String" "value" "[B" (.ref va)) (F_coder_x0 : Fld Z h0 x0 "java/lang/String" "coder" "B" (.int (0 : Int32))) (V_va : Arv Z h0 va kv .byte (3 : Int32) [(.int u0), (.int u1), (.int u2)] (.int (0 : Int32))) (O0 : Old Z n0 h0) (S_CS : Sta Z Z.heap "java/lang/String" "COMPACT_STRINGS" "Z" (.int cs)) (hcs : ¬ (cs = (0 : Int32)))  :
    MetFree l (⟨"com/example/skylattice/skylattice/cli/InputArgument", "name", "(Ljava/lang/String;)Ljava/lang/String;"⟩ : MethodName) (head1 (Jvm.Cond.code (⟨"com/example/skylattice/skylattice/cli/InputArgument", "name", "(Ljava/lang/String;)Ljava/lang/String;"⟩ : MethodName) prog_20_method_3_code 1 (some (.object "java/lang/String")) :: ws) ({ frames := 2, cells := 4, slots := 68, locals := 28 } : Room)) (fun a U => a = #[(.ref x0)] ∧ Z.Warmed39 U.vm ∧ U.heap = h0 ∧ CHv Z consts_1 U.vm h0) (fun _ _ _ _ _ => True) (fun _ U o U' => ∃ v L, o = .returned v ∧ (QNM Z x0 h0 n0 v U'.heap L) ∧ CHr Z consts_1 U.vm U.heap U'.vm U'.heap ∧ ReturnedEndW U o U' L ({ frames := 2, cells := 4, slots := 68, locals := 28 } : Room).cells ({ frames := 2, cells := 4, slots := 68, locals := 28 } : Room).slots) := by
  refine MetFree.of_bodySF (plainFor_of_name pn_4) hisR ?_
  intro p e s m args below meth c s₁ Bd hml0 hP hK
  obtain ⟨rfl, hZ, hh, C0v⟩ := hP
  have hx := Bd.exec
  have hby := Bd.bytes
  have hml : c.maxLocals = 1 := hml0
  have hown : (s.setVm s.vm).vm.findClass "com/example/skylattice/skylattice/cli/InputArgument" = some m.cls := findClass_of_methodNamed Bd.named
  have hnm := (name_of_methodNamed Bd.named Bd.method).1
  have X0 : Stand p l e ({ frames := 2, cells := 4, slots := 68, locals := 28 } : Room) (s.setVm s.vm) m #[(.ref x0)] below meth c s₁ [] 0 0 := Stand.of_body Bd
  have e0 : s₁.heap = h0 := by rw [← hh, Bd.state]; rfl
  have N0 := Fr.nil n0
  have hS0 : s.Since s.vm 0 := (State.WarmedH.refl s).since 0
  have hk0 : 0 ≤ h0.size := Nat.zero_le _
  have R0v := CHr.refl C0v
  have pre0 : ∀ t, Steps p.tables e below (s₁.setTop (mkF m 0 #[.val (.ref x0)] [])) t → Steps p.tables e below (s₁.setTop (entryFrame m #[(.ref x0)] 1)) t := fun t k => castTop (ef_4 m x0) k
  have K0 : Keep h0 h0 [] := Keep.refl h0 []
  obtain ⟨la, T1, h1, k11, lb, kl1, X1, e1, E1, hS1, hk1, hZ1, hown1, EX1, FC1, FV1, AV1, lq1, lr1, Cc1, Li1, sf1, st1⟩ := ldcCH X0 hx hZ hown (hw _ (List.mem_of_getElem? (i := 26) rfl)) (own_wS hw) e0 hS0 hk0 (own_EL hw) (List.mem_of_getElem? (i := 0) rfl) C0v (vs := [(.int (45 : Int32))]) (z := (1 : Int32)) ⟨by decide, by decide⟩ (by decide) rfl (g := (mkF m 1 #[.val (.ref x0)] [(.ref x0)])) rfl (hb hby d4_1) (n := 4) (by decide) (by decide) (by decide) (by decide)
  have keep_2 : Keep h0 h1 [] := K0.ext E1
  have V_va_2 : Arv Z h1 va kv .byte (3 : Int32) [(.int u0), (.int u1), (.int u2)] (.int (0 : Int32)) := V_va.ext E1
  have E_x0_2 : Exa Z h1 x0 "java/lang/String" := E_x0.ext E1
  have F_value_x0_2 : Fld Z h1 x0 "java/lang/String" "value" "[B" (.ref va) := F_value_x0.ext E1
  have F_coder_x0_2 : Fld Z h1 x0 "java/lang/String" "coder" "B" (.int (0 : Int32)) := F_coder_x0.ext E1
  have old_2 : Old Z n0 h1 := O0.ext E1
  have siz_2 : n0 ≤ h1.size := Nat.le_trans Z0 E1.1
  have C1v := Cc1.1
  have R1v := R0v.trans Cc1
  have hne : ¬ (x0 = la) := fun q => absurd (own_str_same F_value_x0_2 FV1 V_va_2 AV1 q).1 (by decide)
  obtain ⟨cq3, kq3, q3a, q3b, q3c⟩ := isOf hZ1 e1 E_x0_2
  obtain ⟨_, _, ⟨T3, L3, k3, n3⟩, -, X3, ⟨Lc3, hQ3, l3, y3, z3⟩, st3⟩ := X1.virtualBack hx (y := (⟨"java/lang/String", "equals", "(Ljava/lang/Object;)Z"⟩ : MethodName)) (z := (⟨"java/lang/String", "equals", "(Ljava/lang/Object;)Z"⟩ : MethodName)) hown1 (mvT hZ1 (hw _ (List.mem_of_getElem? (i := 27) rfl))) (mvT hZ1 (hw _ (List.mem_of_getElem? (i := 28) rfl))) (notFace_of_selects (args := #[]) (mvT hZ1 (hw _ (List.mem_of_getElem? (i := 30) rfl)))) (mvT hZ1 (hw _ (List.mem_of_getElem? (i := 30) rfl))) (mvT hZ1 (hw _ (List.mem_of_getElem? (i := 29) rfl))) (by decide) (backOf (W := 0) (rmeq_3 l Z a0 hw [] x0 la va lb kv kl1 cs u0 u1 u2 h1 n0 siz_2 E_x0_2 F_value_x0_2 F_coder_x0_2 V_va_2 EX1 FV1 FC1 AV1 old_2 S_CS hcs hne ) hZ1 (hw _ (List.mem_of_getElem? (i := 31) rfl)) (hw _ (List.mem_of_getElem? (i := 3) rfl)) (by decide) (by decide)) q3a q3c (g := (mkF m 3 #[.val (.ref x0)] [(.ref la), (.ref x0)])) rfl (by rw [hml]; rfl) (Steps.refl _) (argsL := [(.ref la)]) (rest := []) (lenOf pd__Ljava_lang_Object__Z rfl) rfl (by show 2 * 0 + _ ≤ _; exact Nat.le_of_eq rfl) (hb hby d4_3) (fun _ _ => ⟨rfl, e1, (by decide : 2 + 0 ≤ _), (by decide : 8 + 0 ≤ _)⟩)
  dsimp only [Pt.U, Pt.locs, Pt.cells, Pt.slots] at X3 l3 y3 z3 st3 hQ3
  subst l3 y3 z3
  obtain ⟨rfl, N3q, e3⟩ := hQ3
  have N3 := Fr.app N0 N3q
  have Rend := R1v.trans (CHv.at X3 hZ1 (own_EL hw) C1v)
  obtain ⟨fs, hr, hrun, hended, hRW⟩ := X3.leaveW hS1 (by rw [e3]; exact hk1) (v := some (.ref x0)) (fun h => by rw [Bd.returns] at h; cases h)
  refine ⟨_, _, pre0 _ ?_, hrun, hended, _, _, rfl, ?_, ?_, hRW.1, hRW.2.1, hRW.2.2.1, hRW.2.2.2.mono (by decide) (by decide)⟩
  · show Steps p.tables e below (s₁.setTop (mkF m 0 #[.val (.ref x0)] [])) _
    refine XS.aloadN X0.here hx rfl (hb hby d4_0) rfl rfl ?_
    show Steps p.tables e below (s₁.setTop (mkF m 1 #[.val (.ref x0)] [(.ref x0)])) _
    refine st1 _ ?_
    show Steps p.tables e below (T1.setTop (mkF m 3 #[.val (.ref x0)] [(.ref la), (.ref x0)])) _
    refine st3.trans ?_
    show Steps p.tables e below (T3.setTop (mkF m 6 #[.val (.ref x0)] [(.int (0 : Int32))])) _
    refine XS.ifYes X3.here hx rfl (pc0 := 6) (pc' := 14) rfl (hb hby d4_6) rfl ((if0 _ _).trans (teq (by decide : (0 : Int32) = (0 : Int32))).1) (by decide) (by decide) ?_
    show Steps p.tables e below (T3.setTop (mkF m 14 #[.val (.ref x0)] [])) _
    refine XS.aloadN X3.here hx rfl (hb hby d4_14) rfl rfl ?_
    show Steps p.tables e below (T3.setTop (mkF m 15 #[.val (.ref x0)] [(.ref x0)])) _
    exact retOut X3 hx (t := (.object "java/lang/String")) (i := .areturn) Bd.returns rfl (Or.inr (Or.inr (Or.inr (Or.inr ⟨rfl, rfl, rfl⟩)))) (hb hby d4_15) hr
  · exact (by
      have eT : (T3.setFrames fs).heap = h1 := e3
      rw [eT]; exact ⟨rfl, N3, keep_2⟩)
  · have eT : (T3.setFrames fs).heap = h1 := e3
    rw [eT, hh]; exact Rend
set_option maxRecDepth 65536 in
set_option maxHeartbeats 40000000 in
theorem rmnm_1y (l : Launch) (Z : State) (a0 : Array Value) (hw : ∀ d ∈ tables_1, d.before a0 Z = true) (ws : List Jvm.Cond) (x0 : Addr) (va : Addr) (kv : ClassId) (cs : Int32) (u0 : Int32) (h0 : Heap) (n0 : Nat) (Z0 : n0 ≤ h0.size) (E_x0 : Exa Z h0 x0 "java/lang/String") (F_value_x0 : Fld Z h0 x0 "java/lang/String" "value" "[B" (.ref va)) (F_coder_x0 : Fld Z h0 x0 "java/lang/String" "coder" "B" (.int (0 : Int32))) (V_va : Arv Z h0 va kv .byte (1 : Int32) [(.int u0)] (.int (0 : Int32))) (O0 : Old Z n0 h0) (S_CS : Sta Z Z.heap "java/lang/String" "COMPACT_STRINGS" "Z" (.int cs)) (hcs : ¬ (cs = (0 : Int32))) (hu : u0 = (45 : Int32)) :
    MetFree l (⟨"com/example/skylattice/skylattice/cli/InputArgument", "name", "(Ljava/lang/String;)Ljava/lang/String;"⟩ : MethodName) (head1 (Jvm.Cond.code (⟨"com/example/skylattice/skylattice/cli/InputArgument", "name", "(Ljava/lang/String;)Ljava/lang/String;"⟩ : MethodName) prog_20_method_3_code 1 (some (.object "java/lang/String")) :: ws) ({ frames := 2, cells := 4, slots := 68, locals := 28 } : Room)) (fun a U => a = #[(.ref x0)] ∧ Z.Warmed39 U.vm ∧ U.heap = h0 ∧ CHv Z consts_1 U.vm h0) (fun _ _ _ _ _ => True) (fun _ U o U' => ∃ v L, o = .returned v ∧ (QND Z (14 : Int32) [(.int (115 : Int32)), (.int (116 : Int32)), (.int (97 : Int32)), (.int (110 : Int32)), (.int (100 : Int32)), (.int (97 : Int32)), (.int (114 : Int32)), (.int (100 : Int32)), (.int (32 : Int32)), (.int (105 : Int32)), (.int (110 : Int32)), (.int (112 : Int32)), (.int (117 : Int32)), (.int (116 : Int32))] h0 n0 v U'.heap L) ∧ CHr Z consts_1 U.vm U.heap U'.vm U'.heap ∧ ReturnedEndW U o U' L ({ frames := 2, cells := 4, slots := 68, locals := 28 } : Room).cells ({ frames := 2, cells := 4, slots := 68, locals := 28 } : Room).slots) := by
  refine MetFree.of_bodySF (plainFor_of_name pn_4) hisR ?_
  intro p e s m args below meth c s₁ Bd hml0 hP hK
  obtain ⟨rfl, hZ, hh, C0v⟩ := hP
  have hx := Bd.exec
  have hby := Bd.bytes
  have hml : c.maxLocals = 1 := hml0
  have hown : (s.setVm s.vm).vm.findClass "com/example/skylattice/skylattice/cli/InputArgument" = some m.cls := findClass_of_methodNamed Bd.named
  have hnm := (name_of_methodNamed Bd.named Bd.method).1
  have X0 : Stand p l e ({ frames := 2, cells := 4, slots := 68, locals := 28 } : Room) (s.setVm s.vm) m #[(.ref x0)] below meth c s₁ [] 0 0 := Stand.of_body Bd
  have e0 : s₁.heap = h0 := by rw [← hh, Bd.state]; rfl
  have N0 := Fr.nil n0
  have hS0 : s.Since s.vm 0 := (State.WarmedH.refl s).since 0
  have hk0 : 0 ≤ h0.size := Nat.zero_le _
  have R0v := CHr.refl C0v
  have pre0 : ∀ t, Steps p.tables e below (s₁.setTop (mkF m 0 #[.val (.ref x0)] [])) t → Steps p.tables e below (s₁.setTop (entryFrame m #[(.ref x0)] 1)) t := fun t k => castTop (ef_4 m x0) k
  have K0 : Keep h0 h0 [] := Keep.refl h0 []
  obtain ⟨la, T1, h1, k11, lb, kl1, X1, e1, E1, hS1, hk1, hZ1, hown1, EX1, FC1, FV1, AV1, lq1, lr1, Cc1, Li1, sf1, st1⟩ := ldcCH X0 hx hZ hown (hw _ (List.mem_of_getElem? (i := 26) rfl)) (own_wS hw) e0 hS0 hk0 (own_EL hw) (List.mem_of_getElem? (i := 0) rfl) C0v (vs := [(.int (45 : Int32))]) (z := (1 : Int32)) ⟨by decide, by decide⟩ (by decide) rfl (g := (mkF m 1 #[.val (.ref x0)] [(.ref x0)])) rfl (hb hby d4_1) (n := 4) (by decide) (by decide) (by decide) (by decide)
  have keep_2 : Keep h0 h1 [] := K0.ext E1
  have V_va_2 : Arv Z h1 va kv .byte (1 : Int32) [(.int u0)] (.int (0 : Int32)) := V_va.ext E1
  have E_x0_2 : Exa Z h1 x0 "java/lang/String" := E_x0.ext E1
  have F_value_x0_2 : Fld Z h1 x0 "java/lang/String" "value" "[B" (.ref va) := F_value_x0.ext E1
  have F_coder_x0_2 : Fld Z h1 x0 "java/lang/String" "coder" "B" (.int (0 : Int32)) := F_coder_x0.ext E1
  have old_2 : Old Z n0 h1 := O0.ext E1
  have siz_2 : n0 ≤ h1.size := Nat.le_trans Z0 E1.1
  have C1v := Cc1.1
  have R1v := R0v.trans Cc1
  obtain ⟨cq3, kq3, q3a, q3b, q3c⟩ := isOf hZ1 e1 E_x0_2
  obtain ⟨_, _, ⟨T3, L3, k3, n3⟩, -, X3, ⟨Lc3, hQ3, l3, y3, z3⟩, st3⟩ := X1.virtualBack hx (y := (⟨"java/lang/String", "equals", "(Ljava/lang/Object;)Z"⟩ : MethodName)) (z := (⟨"java/lang/String", "equals", "(Ljava/lang/Object;)Z"⟩ : MethodName)) hown1 (mvT hZ1 (hw _ (List.mem_of_getElem? (i := 27) rfl))) (mvT hZ1 (hw _ (List.mem_of_getElem? (i := 28) rfl))) (notFace_of_selects (args := #[]) (mvT hZ1 (hw _ (List.mem_of_getElem? (i := 30) rfl)))) (mvT hZ1 (hw _ (List.mem_of_getElem? (i := 30) rfl))) (mvT hZ1 (hw _ (List.mem_of_getElem? (i := 29) rfl))) (by decide) (backOf (W := 0) (rmeqa_1y l Z a0 hw [] x0 la va lb kv kl1 cs u0 h1 n0 siz_2 E_x0_2 F_value_x0_2 F_coder_x0_2 V_va_2 EX1 FV1 FC1 AV1 old_2 S_CS hcs  hu) hZ1 (hw _ (List.mem_of_getElem? (i := 31) rfl)) (hw _ (List.mem_of_getElem? (i := 3) rfl)) (by decide) (by decide)) q3a q3c (g := (mkF m 3 #[.val (.ref x0)] [(.ref la), (.ref x0)])) rfl (by rw [hml]; rfl) (Steps.refl _) (argsL := [(.ref la)]) (rest := []) (lenOf pd__Ljava_lang_Object__Z rfl) rfl (by show 2 * 0 + _ ≤ _; exact Nat.le_of_eq rfl) (hb hby d4_3) (fun _ _ => ⟨rfl, e1, (by decide : 2 + 0 ≤ _), (by decide : 8 + 0 ≤ _)⟩)
  dsimp only [Pt.U, Pt.locs, Pt.cells, Pt.slots] at X3 l3 y3 z3 st3 hQ3
  subst l3 y3 z3
  obtain ⟨rfl, N3q, e3⟩ := hQ3
  have N3 := Fr.app N0 N3q
  obtain ⟨ma, T4, h4, k14, mb, kl4, X4, e4, E4, hS4, hk4, hZ4, hown4, EX4, FC4, FV4, AV4, lq4, lr4, Cc4, Li4, sf4, st4⟩ := ldcCH X3 hx hZ1 hown1 (hw _ (List.mem_of_getElem? (i := 59) rfl)) (own_wS hw) e3 hS1 hk1 (own_EL hw) (List.mem_of_getElem? (i := 1) rfl) C1v (vs := [(.int (115 : Int32)), (.int (116 : Int32)), (.int (97 : Int32)), (.int (110 : Int32)), (.int (100 : Int32)), (.int (97 : Int32)), (.int (114 : Int32)), (.int (100 : Int32)), (.int (32 : Int32)), (.int (105 : Int32)), (.int (110 : Int32)), (.int (112 : Int32)), (.int (117 : Int32)), (.int (116 : Int32))]) (z := (14 : Int32)) ⟨by decide, by decide⟩ (by decide) rfl (g := (mkF m 9 #[.val (.ref x0)] [])) rfl (hb hby d4_9) (n := 56) (by decide) (by decide) (by decide) (by decide)
  have keep_5 : Keep h0 h4 [] := keep_2.ext E4
  have V_va_5 : Arv Z h4 va kv .byte (1 : Int32) [(.int u0)] (.int (0 : Int32)) := V_va_2.ext E4
  have E_x0_5 : Exa Z h4 x0 "java/lang/String" := E_x0_2.ext E4
  have F_value_x0_5 : Fld Z h4 x0 "java/lang/String" "value" "[B" (.ref va) := F_value_x0_2.ext E4
  have F_coder_x0_5 : Fld Z h4 x0 "java/lang/String" "coder" "B" (.int (0 : Int32)) := F_coder_x0_2.ext E4
  have old_5 : Old Z n0 h4 := old_2.ext E4
  have siz_5 : n0 ≤ h4.size := Nat.le_trans siz_2 E4.1
  have E_la_5 : Exa Z h4 la "java/lang/String" := EX1.ext E4
  have F_coder_la_5 : Fld Z h4 la "java/lang/String" "coder" "B" (.int (0 : Int32)) := FC1.ext E4
  have F_value_la_5 : Fld Z h4 la "java/lang/String" "value" "[B" (.ref lb) := FV1.ext E4
  have V_lb_5 : Arv Z h4 lb kl1 .byte (1 : Int32) [(.int (45 : Int32))] (.int (0 : Int32)) := AV1.ext E4
  have C4v := Cc4.1
  have R4v := R1v.trans Cc4
  have Rend := R4v.trans (CHv.at X4 hZ4 (own_EL hw) C4v)
  obtain ⟨fs, hr, hrun, hended, hRW⟩ := X4.leaveW hS4 (by rw [e4]; exact hk4) (v := some (.ref ma)) (fun h => by rw [Bd.returns] at h; cases h)
  refine ⟨_, _, pre0 _ ?_, hrun, hended, _, _, rfl, ?_, ?_, hRW.1, hRW.2.1, hRW.2.2.1, hRW.2.2.2.mono (by decide) (by decide)⟩
  · show Steps p.tables e below (s₁.setTop (mkF m 0 #[.val (.ref x0)] [])) _
    refine XS.aloadN X0.here hx rfl (hb hby d4_0) rfl rfl ?_
    show Steps p.tables e below (s₁.setTop (mkF m 1 #[.val (.ref x0)] [(.ref x0)])) _
    refine st1 _ ?_
    show Steps p.tables e below (T1.setTop (mkF m 3 #[.val (.ref x0)] [(.ref la), (.ref x0)])) _
    refine st3.trans ?_
    show Steps p.tables e below (T3.setTop (mkF m 6 #[.val (.ref x0)] [(.int (1 : Int32))])) _
    refine XS.ifNo X3.here hx rfl (hb hby d4_6) rfl ((if0 _ _).trans (feq (by decide : ¬ ((1 : Int32) = (0 : Int32)))).1) ?_
    show Steps p.tables e below (T3.setTop (mkF m 9 #[.val (.ref x0)] [])) _
    refine st4 _ ?_
    show Steps p.tables e below (T4.setTop (mkF m 11 #[.val (.ref x0)] [(.ref ma)])) _
    refine XS.goto X4.here hx rfl (pc0 := 11) (pc' := 15) rfl (hb hby d4_11) (by decide) (by decide) ?_
    show Steps p.tables e below (T4.setTop (mkF m 15 #[.val (.ref x0)] [(.ref ma)])) _
    exact retOut X4 hx (t := (.object "java/lang/String")) (i := .areturn) Bd.returns rfl (Or.inr (Or.inr (Or.inr (Or.inr ⟨rfl, rfl, rfl⟩)))) (hb hby d4_15) hr
  · exact (by
      have eT : (T4.setFrames fs).heap = h4 := e4
      rw [eT]; exact ⟨ma, mb, _, rfl, N3, keep_5, EX4, FC4, FV4, AV4⟩)
  · have eT : (T4.setFrames fs).heap = h4 := e4
    rw [eT, hh]; exact Rend
theorem own_chr (x : Int32) : 0 ≤ ((x &&& (255 : Int32)).toUInt32.toUInt16.toUInt32.toInt32).toInt ∧ ((x &&& (255 : Int32)).toUInt32.toUInt16.toUInt32.toInt32).toInt ≤ 255 := by
  have q1 := c_mask x (255 : Int32) 8 (by decide) (by decide)
  rw [show ((2 ^ 8 : Nat) : Int) = 256 from rfl] at q1
  have q2 := c_i2c (x &&& (255 : Int32))
  omega
theorem own_narc (c : Int32) (h : 0 ≤ c.toInt ∧ c.toInt ≤ 255) : nar .char c = c ∧ ¬ ((255 : Int32) < c) ∧ ¬ (c < (0 : Int32)) := by
  have q2 := c_i2c c
  have c0 : (0 : Int32).toInt = 0 := rfl
  have c255 : (255 : Int32).toInt = 255 := rfl
  refine ⟨?_, ?_, ?_⟩
  · show c.toUInt32.toUInt16.toUInt32.toInt32 = c
    rw [← Int32.toInt_inj]; omega
  · rw [Int32.lt_iff_toInt_lt]; omega
  · rw [Int32.lt_iff_toInt_lt]; omega
theorem own_four (x : Int32) : (x &&& (3 : Int32)) = (0 : Int32) ∨ (x &&& (3 : Int32)) = (1 : Int32) ∨ (x &&& (3 : Int32)) = (2 : Int32) ∨ (x &&& (3 : Int32)) = (3 : Int32) := by
  have h1 := c_mask x (3 : Int32) 2 (by decide) (by decide)
  have c0 : (0 : Int32).toInt = 0 := rfl
  have c1 : (1 : Int32).toInt = 1 := rfl
  have c2 : (2 : Int32).toInt = 2 := rfl
  have c3 : (3 : Int32).toInt = 3 := rfl
  rw [← Int32.toInt_inj, ← Int32.toInt_inj, ← Int32.toInt_inj, ← Int32.toInt_inj]; omega
theorem pd___C_V : parseMethodDescriptor "([C)V" = some ⟨[(.array .char)], none⟩ := by decide +kernel
theorem pd__Ljava_lang_String__Ljava_lang_String_ : parseMethodDescriptor "(Ljava/lang/String;)Ljava/lang/String;" = some ⟨[(.object "java/lang/String")], some (.object "java/lang/String")⟩ := by decide +kernel
theorem pd___I : parseMethodDescriptor "()I" = some ⟨[], some .int⟩ := by decide +kernel
set_option maxRecDepth 65536 in
set_option maxHeartbeats 40000000 in
theorem rm0_0 (l : Launch) (Z : State) (a0 : Array Value) (hw : ∀ d ∈ tables_1, d.before a0 Z = true) (ws : List Jvm.Cond) (x0 : Int32) (x1 : Int32) (x2 : Int32) (x3 : Int32) (x4 : Int32) (cs C0 C1 : Int32) (fmv : Value) (h0 : Heap) (n0 : Nat) (Z0 : n0 ≤ h0.size) (hn : (if (x4 &&& (2 : Int32)) = (0 : Int32) then (x0 &&& (3 : Int32)) else (1 : Int32)) = (0 : Int32)) (O0 : Old Z n0 h0) (S_CS : Sta Z Z.heap "java/lang/String" "COMPACT_STRINGS" "Z" (.int cs)) (hcs : ¬ (cs = (0 : Int32))) (S_FM : Sta Z Z.heap "jdk/internal/util/Preconditions" "SIOOBE_FORMATTER" "Ljava/util/function/BiFunction;" fmv) (hfm : fmv.isRef = true) (eC0 : C0 = (if (x4 &&& (1 : Int32)) = (0 : Int32) then ((x1 &&& (255 : Int32)).toUInt32.toUInt16.toUInt32.toInt32) else (45 : Int32))) (eC1 : C1 = (if (x4 &&& (4 : Int32)) = (0 : Int32) then ((x2 &&& (255 : Int32)).toUInt32.toUInt16.toUInt32.toInt32) else (45 : Int32))) :
    MetFree l x (head1 (Jvm.Cond.code x code maxLocals ret :: ws) room_1) (fun a U => a = #[(.int x0), (.int x1), (.int x2), (.int x3), (.int x4)] ∧ Z.Warmed39 U.vm ∧ U.heap = h0 ∧ CHv Z consts_1 U.vm h0) (fun _ _ _ _ _ => True) (fun _ U o U' => ∃ v L, o = .returned v ∧ (QL n0 v U'.heap L) ∧ CHr Z consts_1 U.vm U.heap U'.vm U'.heap ∧ ReturnedEndW U o U' L room_1.cells room_1.slots) := by
  refine MetFree.of_bodySF (plainFor_of_name pn_0) hisR ?_
  intro p e s m args below meth c s₁ Bd hml0 hP hK
  obtain ⟨rfl, hZ, hh, C0v⟩ := hP
  have hx := Bd.exec
  have hby := Bd.bytes
  have hml : c.maxLocals = 13 := hml0
  have hown : (s.setVm s.vm).vm.findClass "com/example/skylattice/skylattice/cli/InputArgumentNamePinLaw" = some m.cls := findClass_of_methodNamed Bd.named
  have hnm := (name_of_methodNamed Bd.named Bd.method).1
  have X0 : Stand p l e room_1 (s.setVm s.vm) m #[(.int x0), (.int x1), (.int x2), (.int x3), (.int x4)] below meth c s₁ [] 0 0 := Stand.of_body Bd
  have e0 : s₁.heap = h0 := by rw [← hh, Bd.state]; rfl
  have N0 := Fr.nil n0
  have hS0 : s.Since s.vm 0 := (State.WarmedH.refl s).since 0
  have hk0 : 0 ≤ h0.size := Nat.zero_le _
  have R0v := CHr.refl C0v
  have pre0 : ∀ t, Steps p.tables e below (s₁.setTop (mkF m 0 #[.val (.int x0), .val (.int x1), .val (.int x2), .val (.int x3), .val (.int x4), .unset, .unset, .unset, .unset, .unset, .unset, .unset, .unset] [])) t → Steps p.tables e below (s₁.setTop (entryFrame m #[(.int x0), (.int x1), (.int x2), (.int x3), (.int x4)] maxLocals)) t := fun t k => castTop (ef_0 m x0 x1 x2 x3 x4) k
  have hC0 : 0 ≤ C0.toInt ∧ C0.toInt ≤ 255 := by
    rw [eC0]; split
    · exact own_chr _
    · decide
  have hC1 : 0 ≤ C1.toInt ∧ C1.toInt ≤ 255 := by
    rw [eC1]; split
    · exact own_chr _
    · decide
  obtain ⟨nC0, hc0, hz0⟩ := own_narc C0 hC0
  obtain ⟨nC1, hc1, hz1⟩ := own_narc C1 hC1
  obtain ⟨cb1, cb2⟩ := own_cb C0 hc0 hz0
  obtain ⟨m1_l5, em1_l5⟩ : ∃ z : Int32, z = (if (x4 &&& (2 : Int32)) = (0 : Int32) then (x0 &&& (3 : Int32)) else (1 : Int32)) := ⟨_, rfl⟩
  obtain ⟨m2_l6, em2_l6⟩ : ∃ z : Int32, z = (if (x4 &&& (1 : Int32)) = (0 : Int32) then ((x1 &&& (255 : Int32)).toUInt32.toUInt16.toUInt32.toInt32) else (45 : Int32)) := ⟨_, rfl⟩
  obtain ⟨m3_l7, em3_l7⟩ : ∃ z : Int32, z = (if (x4 &&& (4 : Int32)) = (0 : Int32) then ((x2 &&& (255 : Int32)).toUInt32.toUInt16.toUInt32.toInt32) else (45 : Int32)) := ⟨_, rfl⟩
  obtain ⟨C2, e_C2⟩ : ∃ z : Int32, z = ((x3 &&& (255 : Int32)).toUInt32.toUInt16.toUInt32.toInt32) := ⟨_, rfl⟩
  have hC2 : 0 ≤ C2.toInt ∧ C2.toInt ≤ 255 := by rw [e_C2]; exact own_chr _
  obtain ⟨nC2, hc2, hz2⟩ := own_narc C2 hC2
  obtain ⟨T4, h4, k4, X4, e4, E4, A4, st4⟩ := newP X0 hx hZ (hw _ (List.mem_of_getElem? (i := 0) rfl)) e0 (g := (mkF m 63 #[.val (.int x0), .val (.int x1), .val (.int x2), .val (.int x3), .val (.int x4), .val (.int (0 : Int32)), .val (.int C0), .val (.int C1), .val (.int C2), .unset, .unset, .unset, .unset] [(.int (0 : Int32))])) rfl (hb hby at_63) rfl (by decide) (cap := 0) (by decide) (by decide) (by decide) (by decide)
  obtain ⟨ch, g4⟩ : ∃ z, z = h0.size := ⟨_, rfl⟩
  rw [← g4] at A4 st4
  have V_ch_4 : Arv Z h4 ch k4 .char (0 : Int32) [] (.int (0 : Int32)) := Arv.new A4 (by decide)
  have g_ch : n0 ≤ ch := Nat.le_trans Z0 (Nat.le_of_eq g4.symm)
  have Cr6 := CHr.ext E4 C0v
  have C6v := Cr6.1
  have R6v := R0v.trans Cr6
  have hk6 := Nat.le_trans hk0 E4.1
  have old_5 : Old Z n0 h4 := O0.ext E4
  have siz_5 : n0 ≤ h4.size := Nat.le_trans Z0 E4.1
  have SfC : Safe Z consts_1 s.vm h4 ch := own_safe_arr (show Z.vm.Alike s.vm from hZ.alike) V_ch_4
  obtain ⟨T7, h7, X7, e7, E7, A7, D7, -, st7⟩ := newO X4 hx hZ hown (hw _ (List.mem_of_getElem? (i := 1) rfl)) (hw _ (List.mem_of_getElem? (i := 2) rfl)) (hw _ (List.mem_of_getElem? (i := 3) rfl)) e4 (g := (mkF m 102 #[.val (.int x0), .val (.int x1), .val (.int x2), .val (.int x3), .val (.int x4), .val (.int (0 : Int32)), .val (.int C0), .val (.int C1), .val (.int C2), .val (.ref ch), .unset, .unset, .unset] [])) rfl (hb hby at_102) (by decide) (by decide)
  obtain ⟨so, g7⟩ : ∃ z, z = h4.size := ⟨_, rfl⟩
  rw [← g7] at A7 D7 st7
  have E_so_7 : Exa Z h7 so "java/lang/String" := A7
  have F_value_so_7 : Fld Z h7 so "java/lang/String" "value" "[B" .null := D7 (Or.inr (hw _ (List.mem_of_getElem? (i := 16) rfl))) (ty := (.array .byte)) (by decide)
  have F_coder_so_7 : Fld Z h7 so "java/lang/String" "coder" "B" (.int (0 : Int32)) := D7 (Or.inr (hw _ (List.mem_of_getElem? (i := 17) rfl))) (ty := .byte) (by decide)
  have lt_ch_so : ch < so := Nat.lt_of_lt_of_le V_ch_4.lt (Nat.le_of_eq g7.symm)
  have g_so : n0 ≤ so := Nat.le_trans siz_5 (Nat.le_of_eq g7.symm)
  have Cr9 := CHr.ext E7 C6v
  have Sf_ch_9 := Safe.ext E7 C6v SfC
  have C9v := Cr9.1
  have R9v := R6v.trans Cr9
  have hk9 := Nat.le_trans hk6 E7.1
  have old_8 : Old Z n0 h7 := old_5.ext E7
  have siz_8 : n0 ≤ h7.size := Nat.le_trans siz_5 E7.1
  have V_ch_8 : Arv Z h7 ch k4 .char (0 : Int32) [] (.int (0 : Int32)) := V_ch_4.ext E7
  have SfS : Safe Z consts_1 s.vm h7 so := own_safe (show Z.vm.Alike s.vm from hZ.alike) E_so_7 F_value_so_7
  obtain ⟨_, _, ⟨T10, L10, k10, n10⟩, -, Xr10, hSr10, hgr10, ⟨Lc10, hQ10, l10, y10, z10, Cc10⟩, st10⟩ := X7.specialBackS hx (y := (⟨"java/lang/String", "<init>", "([C)V"⟩ : MethodName)) rfl hown (mvT hZ (hw _ (List.mem_of_getElem? (i := 4) rfl))) (mvT hZ (hw _ (List.mem_of_getElem? (i := 5) rfl))) (mvT hZ (hw _ (List.mem_of_getElem? (i := 6) rfl))) (by decide) (backOfSH (s := s) (W := 1) (rms1_0 l Z a0 hw [] so ch k4 h7 n0 siz_8 E_so_7 F_value_so_7 F_coder_so_7 g_so V_ch_8 (Ne.symm (Nat.ne_of_lt lt_ch_so))) hZ (hw _ (List.mem_of_getElem? (i := 6) rfl)) (hw _ (List.mem_of_getElem? (i := 3) rfl)) (by decide) (by decide) (own_EL hw) C9v) (g := (mkF m 108 #[.val (.int x0), .val (.int x1), .val (.int x2), .val (.int x3), .val (.int x4), .val (.int (0 : Int32)), .val (.int C0), .val (.int C1), .val (.int C2), .val (.ref ch), .unset, .unset, .unset] [(.ref ch), (.ref so), (.ref so)])) rfl (by rw [hml]; rfl) (Steps.refl _) (a := so) (argsL := [(.ref ch)]) (rest := [(.ref so)]) (lenOf pd___C_V rfl) rfl (by show 2 * 0 + _ ≤ _; exact Nat.le_of_eq rfl) (hb hby at_108) (fun _ _ => ⟨rfl, e7, (by decide : 2 + 4 ≤ _), (by decide : 4 + 8 ≤ _)⟩)
  dsimp only [Pt.U, Pt.locs, Pt.cells, Pt.slots] at Xr10 hSr10 hgr10 l10 y10 z10 st10 hQ10 Cc10
  subst l10 y10 z10
  obtain ⟨X10, hS10, hZ10, hown10⟩ := rebS (own := "com/example/skylattice/skylattice/cli/InputArgumentNamePinLaw") hS0 (show _ ≤ T7.heap.size by rw [e7]; exact hk9) Xr10 hSr10 hgr10 hZ hown
  have lt0_ch_10 : ch < h7.size := V_ch_8.lt
  have lt0_so_10 : so < h7.size := E_so_7.lt
  obtain ⟨rfl, N10q, K10, Eq10, va, kv, Fq10, Fc10, Vq10⟩ := hQ10
  have old_11 : Old Z n0 T10.heap := old_8.keep K10 (allS g_so (all0))
  have siz_11 : n0 ≤ T10.heap.size := Nat.le_trans siz_8 K10.1
  have V_ch_11 : Arv Z T10.heap ch k4 .char (0 : Int32) [] (.int (0 : Int32)) := V_ch_8.keep K10 (ninS (Nat.ne_of_lt lt_ch_so) nin0)
  have Sl_ch_10 := Cc10.safe lt0_ch_10 Sf_ch_9
  have Sl_so_10 := Cc10.safe lt0_so_10 SfS
  have C10v := Cc10.1
  have R10v := R9v.trans Cc10
  have N10 := Fr.app N0 N10q
  have hk10 := Nat.le_refl T10.heap.size
  obtain ⟨_, _, ⟨T12, L12, k12, n12⟩, -, Xr12, hSr12, hgr12, ⟨Lc12, hQ12, l12, y12, z12, Cc12⟩, st12⟩ := callSS X10 hx (y := (⟨"com/example/skylattice/skylattice/cli/InputArgument", "name", "(Ljava/lang/String;)Ljava/lang/String;"⟩ : MethodName)) hown10 (mvT hZ10 (hw _ (List.mem_of_getElem? (i := 22) rfl))) (mvT hZ10 (hw _ (List.mem_of_getElem? (i := 23) rfl))) (mvT hZ10 (hw _ (List.mem_of_getElem? (i := 24) rfl))) (mvT hZ10 (hw _ (List.mem_of_getElem? (i := 25) rfl))) (by decide) (backOfSH (s := s) (W := 0) (rmnm_0 l Z a0 hw [] so va kv cs  T10.heap n0 siz_11 Eq10 Fq10 Fc10 Vq10 old_11 S_CS hcs) hZ10 (hw _ (List.mem_of_getElem? (i := 25) rfl)) (hw _ (List.mem_of_getElem? (i := 24) rfl)) (by decide) (by decide) (own_EL hw) C10v) (g := (mkF m 115 #[.val (.int x0), .val (.int x1), .val (.int x2), .val (.int x3), .val (.int x4), .val (.int (0 : Int32)), .val (.int C0), .val (.int C1), .val (.int C2), .val (.ref ch), .val (.ref so), .unset, .unset] [(.ref so)])) rfl (by rw [hml]; rfl) (argsL := [(.ref so)]) (rest := []) (lenOf pd__Ljava_lang_String__Ljava_lang_String_ rfl) rfl (by show 2 * 0 + _ ≤ _; exact Nat.le_of_eq rfl) (hb hby at_115) (fun _ _ => ⟨rfl, rfl, (by decide : 6 + 4 ≤ _), (by decide : 12 + 68 ≤ _)⟩)
  dsimp only [Pt.U, Pt.locs, Pt.cells, Pt.slots] at Xr12 hSr12 hgr12 l12 y12 z12 st12 hQ12 Cc12
  subst l12 y12 z12
  obtain ⟨X12, hS12, hZ12, hown12⟩ := rebS (own := "com/example/skylattice/skylattice/cli/InputArgumentNamePinLaw") hS10 hk10 Xr12 hSr12 hgr12 hZ10 hown10
  obtain ⟨rfl, N12q, K12⟩ := hQ12
  have old_13 : Old Z n0 T12.heap := old_11.keep K12 (all0)
  have siz_13 : n0 ≤ T12.heap.size := Nat.le_trans siz_11 K12.1
  have E_so_13 : Exa Z T12.heap so "java/lang/String" := Eq10.keep K12
  have F_value_so_13 : Fld Z T12.heap so "java/lang/String" "value" "[B" (.ref va) := Fq10.keep K12 nin0
  have F_coder_so_13 : Fld Z T12.heap so "java/lang/String" "coder" "B" (.int (0 : Int32)) := Fc10.keep K12 nin0
  have V_va_13 : Arv Z T12.heap va kv .byte (0 : Int32) [] (.int (0 : Int32)) := Vq10.keep K12 nin0
  have C12v := Cc12.1
  have R12v := R10v.trans Cc12
  have N12 := Fr.app N10 N12q
  have hk12 := Nat.le_refl T12.heap.size
  obtain ⟨cq14, kq14, q14a, q14b, q14c⟩ := isOf hZ12 rfl E_so_13
  obtain ⟨_, _, ⟨T14, L14, k14, n14⟩, -, X14, ⟨Lc14, hQ14, l14, y14, z14⟩, st14⟩ := X12.virtualBack hx (y := (⟨"java/lang/String", "length", "()I"⟩ : MethodName)) (z := (⟨"java/lang/String", "length", "()I"⟩ : MethodName)) hown12 (mvT hZ12 (hw _ (List.mem_of_getElem? (i := 38) rfl))) (mvT hZ12 (hw _ (List.mem_of_getElem? (i := 39) rfl))) (notFace_of_selects (args := #[]) (mvT hZ12 (hw _ (List.mem_of_getElem? (i := 41) rfl)))) (mvT hZ12 (hw _ (List.mem_of_getElem? (i := 41) rfl))) (mvT hZ12 (hw _ (List.mem_of_getElem? (i := 40) rfl))) (by decide) (backOf (W := 0) (rmln_0 l Z a0 hw [] so va kv cs  T12.heap n0 siz_13 E_so_13 F_value_so_13 F_coder_so_13 V_va_13 old_13 S_CS hcs) hZ12 (hw _ (List.mem_of_getElem? (i := 42) rfl)) (hw _ (List.mem_of_getElem? (i := 3) rfl)) (by decide) (by decide)) q14a q14c (g := (mkF m 129 #[.val (.int x0), .val (.int x1), .val (.int x2), .val (.int x3), .val (.int x4), .val (.int (0 : Int32)), .val (.int C0), .val (.int C1), .val (.int C2), .val (.ref ch), .val (.ref so), .val (.ref so), .unset] [(.ref so)])) rfl (by rw [hml]; rfl) (Steps.refl _) (argsL := []) (rest := []) (lenOf pd___I rfl) rfl (by show 2 * 0 + _ ≤ _; exact Nat.le_of_eq rfl) (hb hby at_129) (fun _ _ => ⟨rfl, rfl, (by decide : 10 + 0 ≤ _), (by decide : 80 + 0 ≤ _)⟩)
  dsimp only [Pt.U, Pt.locs, Pt.cells, Pt.slots] at X14 l14 y14 z14 st14 hQ14
  subst l14 y14 z14
  obtain ⟨rfl, N14q, e14⟩ := hQ14
  have N14 := Fr.app N12 N14q
  obtain ⟨cq15, kq15, q15a, q15b, q15c⟩ := isOf hZ12 e14 E_so_13
  obtain ⟨_, _, ⟨T15, L15, k15, n15⟩, -, X15, ⟨Lc15, hQ15, l15, y15, z15⟩, st15⟩ := X14.virtualBack hx (y := (⟨"java/lang/String", "equals", "(Ljava/lang/Object;)Z"⟩ : MethodName)) (z := (⟨"java/lang/String", "equals", "(Ljava/lang/Object;)Z"⟩ : MethodName)) hown12 (mvT hZ12 (hw _ (List.mem_of_getElem? (i := 48) rfl))) (mvT hZ12 (hw _ (List.mem_of_getElem? (i := 28) rfl))) (notFace_of_selects (args := #[]) (mvT hZ12 (hw _ (List.mem_of_getElem? (i := 30) rfl)))) (mvT hZ12 (hw _ (List.mem_of_getElem? (i := 30) rfl))) (mvT hZ12 (hw _ (List.mem_of_getElem? (i := 29) rfl))) (by decide) (backOf (W := 0) (rmeq_same l Z a0 hw [] so T12.heap n0 siz_13) hZ12 (hw _ (List.mem_of_getElem? (i := 31) rfl)) (hw _ (List.mem_of_getElem? (i := 3) rfl)) (by decide) (by decide)) q15a q15c (g := (mkF m 171 #[.val (.int x0), .val (.int x1), .val (.int x2), .val (.int x3), .val (.int x4), .val (.int (0 : Int32)), .val (.int C0), .val (.int C1), .val (.int C2), .val (.ref ch), .val (.ref so), .val (.ref so), .val (.int (0 : Int32))] [(.ref so), (.ref so)])) rfl (by rw [hml]; rfl) (Steps.refl _) (argsL := [(.ref so)]) (rest := []) (lenOf pd__Ljava_lang_Object__Z rfl) rfl (by show 2 * 0 + _ ≤ _; exact Nat.le_of_eq rfl) (hb hby at_171) (fun _ _ => ⟨rfl, e14, (by decide : 10 + 0 ≤ _), (by decide : 80 + 0 ≤ _)⟩)
  dsimp only [Pt.U, Pt.locs, Pt.cells, Pt.slots] at X15 l15 y15 z15 st15 hQ15
  subst l15 y15 z15
  obtain ⟨rfl, N15q, e15⟩ := hQ15
  have N15 := Fr.app N14 N15q
  have Rend := R12v.trans (CHv.at X15 hZ12 (own_EL hw) C12v)
  obtain ⟨fs, hr, hrun, hended, hRW⟩ := X15.leaveW hS12 (by rw [e15]; exact hk12) (v := some (.int (1 : Int32))) (fun h => by rw [Bd.returns] at h; cases h)
  refine ⟨_, _, pre0 _ ?_, hrun, hended, _, _, rfl, ?_, ?_, hRW.1, hRW.2.1, hRW.2.2.1, hRW.2.2.2.mono (by decide) (by decide)⟩
  · show Steps p.tables e below (s₁.setTop (mkF m 0 #[.val (.int x0), .val (.int x1), .val (.int x2), .val (.int x3), .val (.int x4), .unset, .unset, .unset, .unset, .unset, .unset, .unset, .unset] [])) _
    refine XS.iloadN X0.here hx rfl (hb hby at_0) rfl ?_
    show Steps p.tables e below (s₁.setTop (mkF m 1 #[.val (.int x0), .val (.int x1), .val (.int x2), .val (.int x3), .val (.int x4), .unset, .unset, .unset, .unset, .unset, .unset, .unset, .unset] [(.int x0)])) _
    refine XS.iconst X0.here hx rfl (hb hby at_1) ?_
    show Steps p.tables e below (s₁.setTop (mkF m 2 #[.val (.int x0), .val (.int x1), .val (.int x2), .val (.int x3), .val (.int x4), .unset, .unset, .unset, .unset, .unset, .unset, .unset, .unset] [(.int (3 : Int32)), (.int x0)])) _
    refine XS.iand X0.here hx rfl (hb hby at_2) rfl ?_
    show Steps p.tables e below (s₁.setTop (mkF m 3 #[.val (.int x0), .val (.int x1), .val (.int x2), .val (.int x3), .val (.int x4), .unset, .unset, .unset, .unset, .unset, .unset, .unset, .unset] [(.int (x0 &&& (3 : Int32)))])) _
    refine XS.istore X0.here hx rfl (hb hby at_3) rfl (l' := #[.val (.int x0), .val (.int x1), .val (.int x2), .val (.int x3), .val (.int x4), .val (.int (x0 &&& (3 : Int32))), .unset, .unset, .unset, .unset, .unset, .unset, .unset]) rfl ?_
    show Steps p.tables e below (s₁.setTop (mkF m 5 #[.val (.int x0), .val (.int x1), .val (.int x2), .val (.int x3), .val (.int x4), .val (.int (x0 &&& (3 : Int32))), .unset, .unset, .unset, .unset, .unset, .unset, .unset] [])) _
    refine XS.iload X0.here hx rfl (hb hby at_5) rfl ?_
    show Steps p.tables e below (s₁.setTop (mkF m 7 #[.val (.int x0), .val (.int x1), .val (.int x2), .val (.int x3), .val (.int x4), .val (.int (x0 &&& (3 : Int32))), .unset, .unset, .unset, .unset, .unset, .unset, .unset] [(.int x4)])) _
    refine XS.iconst X0.here hx rfl (hb hby at_7) ?_
    show Steps p.tables e below (s₁.setTop (mkF m 8 #[.val (.int x0), .val (.int x1), .val (.int x2), .val (.int x3), .val (.int x4), .val (.int (x0 &&& (3 : Int32))), .unset, .unset, .unset, .unset, .unset, .unset, .unset] [(.int (2 : Int32)), (.int x4)])) _
    refine XS.iand X0.here hx rfl (hb hby at_8) rfl ?_
    show Steps p.tables e below (s₁.setTop (mkF m 9 #[.val (.int x0), .val (.int x1), .val (.int x2), .val (.int x3), .val (.int x4), .val (.int (x0 &&& (3 : Int32))), .unset, .unset, .unset, .unset, .unset, .unset, .unset] [(.int (x4 &&& (2 : Int32)))])) _
    have k1 : ∀ (m1_l5 : Int32) t, ((x4 &&& (2 : Int32)) = (0 : Int32) → m1_l5 = (x0 &&& (3 : Int32))) → (¬ ((x4 &&& (2 : Int32)) = (0 : Int32)) → m1_l5 = (1 : Int32)) → Steps p.tables e below (s₁.setTop (mkF m 15 #[.val (.int x0), .val (.int x1), .val (.int x2), .val (.int x3), .val (.int x4), .val (.int m1_l5), .unset, .unset, .unset, .unset, .unset, .unset, .unset] [])) t → Steps p.tables e below (s₁.setTop (mkF m 9 #[.val (.int x0), .val (.int x1), .val (.int x2), .val (.int x3), .val (.int x4), .val (.int (x0 &&& (3 : Int32))), .unset, .unset, .unset, .unset, .unset, .unset, .unset] [(.int (x4 &&& (2 : Int32)))])) t := by
      intro m1_l5 t hAm1_l5 hBm1_l5 kk
      by_cases hq9 : (x4 &&& (2 : Int32)) = (0 : Int32)
      · rw [hAm1_l5 hq9] at kk
        refine XS.ifYes X0.here hx rfl (pc0 := 9) (pc' := 15) rfl (hb hby at_9) rfl ((if0 _ _).trans (teq hq9).1) (by decide) (by decide) ?_
        exact kk
      · rw [hBm1_l5 hq9] at kk
        refine XS.ifNo X0.here hx rfl (hb hby at_9) rfl ((if0 _ _).trans (feq hq9).1) ?_
        show Steps p.tables e below (s₁.setTop (mkF m 12 #[.val (.int x0), .val (.int x1), .val (.int x2), .val (.int x3), .val (.int x4), .val (.int (x0 &&& (3 : Int32))), .unset, .unset, .unset, .unset, .unset, .unset, .unset] [])) _
        refine XS.iconst X0.here hx rfl (hb hby at_12) ?_
        show Steps p.tables e below (s₁.setTop (mkF m 13 #[.val (.int x0), .val (.int x1), .val (.int x2), .val (.int x3), .val (.int x4), .val (.int (x0 &&& (3 : Int32))), .unset, .unset, .unset, .unset, .unset, .unset, .unset] [(.int (1 : Int32))])) _
        refine XS.istore X0.here hx rfl (hb hby at_13) rfl (l' := #[.val (.int x0), .val (.int x1), .val (.int x2), .val (.int x3), .val (.int x4), .val (.int (1 : Int32)), .unset, .unset, .unset, .unset, .unset, .unset, .unset]) rfl ?_
        exact kk
    refine k1 m1_l5 _ (fun h => by rw [em1_l5, if_pos h]) (fun h => by rw [em1_l5, if_neg h]) ?_
    show Steps p.tables e below (s₁.setTop (mkF m 15 #[.val (.int x0), .val (.int x1), .val (.int x2), .val (.int x3), .val (.int x4), .val (.int m1_l5), .unset, .unset, .unset, .unset, .unset, .unset, .unset] [])) _
    rw [show m1_l5 = (0 : Int32) from em1_l5.trans hn]
    show Steps p.tables e below (s₁.setTop (mkF m 15 #[.val (.int x0), .val (.int x1), .val (.int x2), .val (.int x3), .val (.int x4), .val (.int (0 : Int32)), .unset, .unset, .unset, .unset, .unset, .unset, .unset] [])) _
    refine XS.iloadN X0.here hx rfl (hb hby at_15) rfl ?_
    show Steps p.tables e below (s₁.setTop (mkF m 16 #[.val (.int x0), .val (.int x1), .val (.int x2), .val (.int x3), .val (.int x4), .val (.int (0 : Int32)), .unset, .unset, .unset, .unset, .unset, .unset, .unset] [(.int x1)])) _
    refine XS.sipush X0.here hx rfl (hb hby at_16) ?_
    show Steps p.tables e below (s₁.setTop (mkF m 19 #[.val (.int x0), .val (.int x1), .val (.int x2), .val (.int x3), .val (.int x4), .val (.int (0 : Int32)), .unset, .unset, .unset, .unset, .unset, .unset, .unset] [(.int (255 : Int32)), (.int x1)])) _
    refine XS.iand X0.here hx rfl (hb hby at_19) rfl ?_
    show Steps p.tables e below (s₁.setTop (mkF m 20 #[.val (.int x0), .val (.int x1), .val (.int x2), .val (.int x3), .val (.int x4), .val (.int (0 : Int32)), .unset, .unset, .unset, .unset, .unset, .unset, .unset] [(.int (x1 &&& (255 : Int32)))])) _
    refine XS.i2c X0.here hx rfl (hb hby at_20) rfl ?_
    show Steps p.tables e below (s₁.setTop (mkF m 21 #[.val (.int x0), .val (.int x1), .val (.int x2), .val (.int x3), .val (.int x4), .val (.int (0 : Int32)), .unset, .unset, .unset, .unset, .unset, .unset, .unset] [(.int ((x1 &&& (255 : Int32)).toUInt32.toUInt16.toUInt32.toInt32))])) _
    refine XS.istore X0.here hx rfl (hb hby at_21) rfl (l' := #[.val (.int x0), .val (.int x1), .val (.int x2), .val (.int x3), .val (.int x4), .val (.int (0 : Int32)), .val (.int ((x1 &&& (255 : Int32)).toUInt32.toUInt16.toUInt32.toInt32)), .unset, .unset, .unset, .unset, .unset, .unset]) rfl ?_
    show Steps p.tables e below (s₁.setTop (mkF m 23 #[.val (.int x0), .val (.int x1), .val (.int x2), .val (.int x3), .val (.int x4), .val (.int (0 : Int32)), .val (.int ((x1 &&& (255 : Int32)).toUInt32.toUInt16.toUInt32.toInt32)), .unset, .unset, .unset, .unset, .unset, .unset] [])) _
    refine XS.iload X0.here hx rfl (hb hby at_23) rfl ?_
    show Steps p.tables e below (s₁.setTop (mkF m 25 #[.val (.int x0), .val (.int x1), .val (.int x2), .val (.int x3), .val (.int x4), .val (.int (0 : Int32)), .val (.int ((x1 &&& (255 : Int32)).toUInt32.toUInt16.toUInt32.toInt32)), .unset, .unset, .unset, .unset, .unset, .unset] [(.int x4)])) _
    refine XS.iconst X0.here hx rfl (hb hby at_25) ?_
    show Steps p.tables e below (s₁.setTop (mkF m 26 #[.val (.int x0), .val (.int x1), .val (.int x2), .val (.int x3), .val (.int x4), .val (.int (0 : Int32)), .val (.int ((x1 &&& (255 : Int32)).toUInt32.toUInt16.toUInt32.toInt32)), .unset, .unset, .unset, .unset, .unset, .unset] [(.int (1 : Int32)), (.int x4)])) _
    refine XS.iand X0.here hx rfl (hb hby at_26) rfl ?_
    show Steps p.tables e below (s₁.setTop (mkF m 27 #[.val (.int x0), .val (.int x1), .val (.int x2), .val (.int x3), .val (.int x4), .val (.int (0 : Int32)), .val (.int ((x1 &&& (255 : Int32)).toUInt32.toUInt16.toUInt32.toInt32)), .unset, .unset, .unset, .unset, .unset, .unset] [(.int (x4 &&& (1 : Int32)))])) _
    have k2 : ∀ (m2_l6 : Int32) t, ((x4 &&& (1 : Int32)) = (0 : Int32) → m2_l6 = ((x1 &&& (255 : Int32)).toUInt32.toUInt16.toUInt32.toInt32)) → (¬ ((x4 &&& (1 : Int32)) = (0 : Int32)) → m2_l6 = (45 : Int32)) → Steps p.tables e below (s₁.setTop (mkF m 34 #[.val (.int x0), .val (.int x1), .val (.int x2), .val (.int x3), .val (.int x4), .val (.int (0 : Int32)), .val (.int m2_l6), .unset, .unset, .unset, .unset, .unset, .unset] [])) t → Steps p.tables e below (s₁.setTop (mkF m 27 #[.val (.int x0), .val (.int x1), .val (.int x2), .val (.int x3), .val (.int x4), .val (.int (0 : Int32)), .val (.int ((x1 &&& (255 : Int32)).toUInt32.toUInt16.toUInt32.toInt32)), .unset, .unset, .unset, .unset, .unset, .unset] [(.int (x4 &&& (1 : Int32)))])) t := by
      intro m2_l6 t hAm2_l6 hBm2_l6 kk
      by_cases hq27 : (x4 &&& (1 : Int32)) = (0 : Int32)
      · rw [hAm2_l6 hq27] at kk
        refine XS.ifYes X0.here hx rfl (pc0 := 27) (pc' := 34) rfl (hb hby at_27) rfl ((if0 _ _).trans (teq hq27).1) (by decide) (by decide) ?_
        exact kk
      · rw [hBm2_l6 hq27] at kk
        refine XS.ifNo X0.here hx rfl (hb hby at_27) rfl ((if0 _ _).trans (feq hq27).1) ?_
        show Steps p.tables e below (s₁.setTop (mkF m 30 #[.val (.int x0), .val (.int x1), .val (.int x2), .val (.int x3), .val (.int x4), .val (.int (0 : Int32)), .val (.int ((x1 &&& (255 : Int32)).toUInt32.toUInt16.toUInt32.toInt32)), .unset, .unset, .unset, .unset, .unset, .unset] [])) _
        refine XS.bipush X0.here hx rfl (hb hby at_30) ?_
        show Steps p.tables e below (s₁.setTop (mkF m 32 #[.val (.int x0), .val (.int x1), .val (.int x2), .val (.int x3), .val (.int x4), .val (.int (0 : Int32)), .val (.int ((x1 &&& (255 : Int32)).toUInt32.toUInt16.toUInt32.toInt32)), .unset, .unset, .unset, .unset, .unset, .unset] [(.int (45 : Int32))])) _
        refine XS.istore X0.here hx rfl (hb hby at_32) rfl (l' := #[.val (.int x0), .val (.int x1), .val (.int x2), .val (.int x3), .val (.int x4), .val (.int (0 : Int32)), .val (.int (45 : Int32)), .unset, .unset, .unset, .unset, .unset, .unset]) rfl ?_
        exact kk
    refine k2 m2_l6 _ (fun h => by rw [em2_l6, if_pos h]) (fun h => by rw [em2_l6, if_neg h]) ?_
    show Steps p.tables e below (s₁.setTop (mkF m 34 #[.val (.int x0), .val (.int x1), .val (.int x2), .val (.int x3), .val (.int x4), .val (.int (0 : Int32)), .val (.int m2_l6), .unset, .unset, .unset, .unset, .unset, .unset] [])) _
    rw [show m2_l6 = C0 from em2_l6.trans eC0.symm]
    show Steps p.tables e below (s₁.setTop (mkF m 34 #[.val (.int x0), .val (.int x1), .val (.int x2), .val (.int x3), .val (.int x4), .val (.int (0 : Int32)), .val (.int C0), .unset, .unset, .unset, .unset, .unset, .unset] [])) _
    refine XS.iloadN X0.here hx rfl (hb hby at_34) rfl ?_
    show Steps p.tables e below (s₁.setTop (mkF m 35 #[.val (.int x0), .val (.int x1), .val (.int x2), .val (.int x3), .val (.int x4), .val (.int (0 : Int32)), .val (.int C0), .unset, .unset, .unset, .unset, .unset, .unset] [(.int x2)])) _
    refine XS.sipush X0.here hx rfl (hb hby at_35) ?_
    show Steps p.tables e below (s₁.setTop (mkF m 38 #[.val (.int x0), .val (.int x1), .val (.int x2), .val (.int x3), .val (.int x4), .val (.int (0 : Int32)), .val (.int C0), .unset, .unset, .unset, .unset, .unset, .unset] [(.int (255 : Int32)), (.int x2)])) _
    refine XS.iand X0.here hx rfl (hb hby at_38) rfl ?_
    show Steps p.tables e below (s₁.setTop (mkF m 39 #[.val (.int x0), .val (.int x1), .val (.int x2), .val (.int x3), .val (.int x4), .val (.int (0 : Int32)), .val (.int C0), .unset, .unset, .unset, .unset, .unset, .unset] [(.int (x2 &&& (255 : Int32)))])) _
    refine XS.i2c X0.here hx rfl (hb hby at_39) rfl ?_
    show Steps p.tables e below (s₁.setTop (mkF m 40 #[.val (.int x0), .val (.int x1), .val (.int x2), .val (.int x3), .val (.int x4), .val (.int (0 : Int32)), .val (.int C0), .unset, .unset, .unset, .unset, .unset, .unset] [(.int ((x2 &&& (255 : Int32)).toUInt32.toUInt16.toUInt32.toInt32))])) _
    refine XS.istore X0.here hx rfl (hb hby at_40) rfl (l' := #[.val (.int x0), .val (.int x1), .val (.int x2), .val (.int x3), .val (.int x4), .val (.int (0 : Int32)), .val (.int C0), .val (.int ((x2 &&& (255 : Int32)).toUInt32.toUInt16.toUInt32.toInt32)), .unset, .unset, .unset, .unset, .unset]) rfl ?_
    show Steps p.tables e below (s₁.setTop (mkF m 42 #[.val (.int x0), .val (.int x1), .val (.int x2), .val (.int x3), .val (.int x4), .val (.int (0 : Int32)), .val (.int C0), .val (.int ((x2 &&& (255 : Int32)).toUInt32.toUInt16.toUInt32.toInt32)), .unset, .unset, .unset, .unset, .unset] [])) _
    refine XS.iload X0.here hx rfl (hb hby at_42) rfl ?_
    show Steps p.tables e below (s₁.setTop (mkF m 44 #[.val (.int x0), .val (.int x1), .val (.int x2), .val (.int x3), .val (.int x4), .val (.int (0 : Int32)), .val (.int C0), .val (.int ((x2 &&& (255 : Int32)).toUInt32.toUInt16.toUInt32.toInt32)), .unset, .unset, .unset, .unset, .unset] [(.int x4)])) _
    refine XS.iconst X0.here hx rfl (hb hby at_44) ?_
    show Steps p.tables e below (s₁.setTop (mkF m 45 #[.val (.int x0), .val (.int x1), .val (.int x2), .val (.int x3), .val (.int x4), .val (.int (0 : Int32)), .val (.int C0), .val (.int ((x2 &&& (255 : Int32)).toUInt32.toUInt16.toUInt32.toInt32)), .unset, .unset, .unset, .unset, .unset] [(.int (4 : Int32)), (.int x4)])) _
    refine XS.iand X0.here hx rfl (hb hby at_45) rfl ?_
    show Steps p.tables e below (s₁.setTop (mkF m 46 #[.val (.int x0), .val (.int x1), .val (.int x2), .val (.int x3), .val (.int x4), .val (.int (0 : Int32)), .val (.int C0), .val (.int ((x2 &&& (255 : Int32)).toUInt32.toUInt16.toUInt32.toInt32)), .unset, .unset, .unset, .unset, .unset] [(.int (x4 &&& (4 : Int32)))])) _
    have k3 : ∀ (m3_l7 : Int32) t, ((x4 &&& (4 : Int32)) = (0 : Int32) → m3_l7 = ((x2 &&& (255 : Int32)).toUInt32.toUInt16.toUInt32.toInt32)) → (¬ ((x4 &&& (4 : Int32)) = (0 : Int32)) → m3_l7 = (45 : Int32)) → Steps p.tables e below (s₁.setTop (mkF m 53 #[.val (.int x0), .val (.int x1), .val (.int x2), .val (.int x3), .val (.int x4), .val (.int (0 : Int32)), .val (.int C0), .val (.int m3_l7), .unset, .unset, .unset, .unset, .unset] [])) t → Steps p.tables e below (s₁.setTop (mkF m 46 #[.val (.int x0), .val (.int x1), .val (.int x2), .val (.int x3), .val (.int x4), .val (.int (0 : Int32)), .val (.int C0), .val (.int ((x2 &&& (255 : Int32)).toUInt32.toUInt16.toUInt32.toInt32)), .unset, .unset, .unset, .unset, .unset] [(.int (x4 &&& (4 : Int32)))])) t := by
      intro m3_l7 t hAm3_l7 hBm3_l7 kk
      by_cases hq46 : (x4 &&& (4 : Int32)) = (0 : Int32)
      · rw [hAm3_l7 hq46] at kk
        refine XS.ifYes X0.here hx rfl (pc0 := 46) (pc' := 53) rfl (hb hby at_46) rfl ((if0 _ _).trans (teq hq46).1) (by decide) (by decide) ?_
        exact kk
      · rw [hBm3_l7 hq46] at kk
        refine XS.ifNo X0.here hx rfl (hb hby at_46) rfl ((if0 _ _).trans (feq hq46).1) ?_
        show Steps p.tables e below (s₁.setTop (mkF m 49 #[.val (.int x0), .val (.int x1), .val (.int x2), .val (.int x3), .val (.int x4), .val (.int (0 : Int32)), .val (.int C0), .val (.int ((x2 &&& (255 : Int32)).toUInt32.toUInt16.toUInt32.toInt32)), .unset, .unset, .unset, .unset, .unset] [])) _
        refine XS.bipush X0.here hx rfl (hb hby at_49) ?_
        show Steps p.tables e below (s₁.setTop (mkF m 51 #[.val (.int x0), .val (.int x1), .val (.int x2), .val (.int x3), .val (.int x4), .val (.int (0 : Int32)), .val (.int C0), .val (.int ((x2 &&& (255 : Int32)).toUInt32.toUInt16.toUInt32.toInt32)), .unset, .unset, .unset, .unset, .unset] [(.int (45 : Int32))])) _
        refine XS.istore X0.here hx rfl (hb hby at_51) rfl (l' := #[.val (.int x0), .val (.int x1), .val (.int x2), .val (.int x3), .val (.int x4), .val (.int (0 : Int32)), .val (.int C0), .val (.int (45 : Int32)), .unset, .unset, .unset, .unset, .unset]) rfl ?_
        exact kk
    refine k3 m3_l7 _ (fun h => by rw [em3_l7, if_pos h]) (fun h => by rw [em3_l7, if_neg h]) ?_
    show Steps p.tables e below (s₁.setTop (mkF m 53 #[.val (.int x0), .val (.int x1), .val (.int x2), .val (.int x3), .val (.int x4), .val (.int (0 : Int32)), .val (.int C0), .val (.int m3_l7), .unset, .unset, .unset, .unset, .unset] [])) _
    rw [show m3_l7 = C1 from em3_l7.trans eC1.symm]
    show Steps p.tables e below (s₁.setTop (mkF m 53 #[.val (.int x0), .val (.int x1), .val (.int x2), .val (.int x3), .val (.int x4), .val (.int (0 : Int32)), .val (.int C0), .val (.int C1), .unset, .unset, .unset, .unset, .unset] [])) _
    refine XS.iloadN X0.here hx rfl (hb hby at_53) rfl ?_
    show Steps p.tables e below (s₁.setTop (mkF m 54 #[.val (.int x0), .val (.int x1), .val (.int x2), .val (.int x3), .val (.int x4), .val (.int (0 : Int32)), .val (.int C0), .val (.int C1), .unset, .unset, .unset, .unset, .unset] [(.int x3)])) _
    refine XS.sipush X0.here hx rfl (hb hby at_54) ?_
    show Steps p.tables e below (s₁.setTop (mkF m 57 #[.val (.int x0), .val (.int x1), .val (.int x2), .val (.int x3), .val (.int x4), .val (.int (0 : Int32)), .val (.int C0), .val (.int C1), .unset, .unset, .unset, .unset, .unset] [(.int (255 : Int32)), (.int x3)])) _
    refine XS.iand X0.here hx rfl (hb hby at_57) rfl ?_
    show Steps p.tables e below (s₁.setTop (mkF m 58 #[.val (.int x0), .val (.int x1), .val (.int x2), .val (.int x3), .val (.int x4), .val (.int (0 : Int32)), .val (.int C0), .val (.int C1), .unset, .unset, .unset, .unset, .unset] [(.int (x3 &&& (255 : Int32)))])) _
    refine XS.i2c X0.here hx rfl (hb hby at_58) rfl ?_
    show Steps p.tables e below (s₁.setTop (mkF m 59 #[.val (.int x0), .val (.int x1), .val (.int x2), .val (.int x3), .val (.int x4), .val (.int (0 : Int32)), .val (.int C0), .val (.int C1), .unset, .unset, .unset, .unset, .unset] [(.int ((x3 &&& (255 : Int32)).toUInt32.toUInt16.toUInt32.toInt32))])) _
    rw [← e_C2]
    show Steps p.tables e below (s₁.setTop (mkF m 59 #[.val (.int x0), .val (.int x1), .val (.int x2), .val (.int x3), .val (.int x4), .val (.int (0 : Int32)), .val (.int C0), .val (.int C1), .unset, .unset, .unset, .unset, .unset] [(.int C2)])) _
    refine XS.istore X0.here hx rfl (hb hby at_59) rfl (l' := #[.val (.int x0), .val (.int x1), .val (.int x2), .val (.int x3), .val (.int x4), .val (.int (0 : Int32)), .val (.int C0), .val (.int C1), .val (.int C2), .unset, .unset, .unset, .unset]) rfl ?_
    show Steps p.tables e below (s₁.setTop (mkF m 61 #[.val (.int x0), .val (.int x1), .val (.int x2), .val (.int x3), .val (.int x4), .val (.int (0 : Int32)), .val (.int C0), .val (.int C1), .val (.int C2), .unset, .unset, .unset, .unset] [])) _
    refine XS.iload X0.here hx rfl (hb hby at_61) rfl ?_
    show Steps p.tables e below (s₁.setTop (mkF m 63 #[.val (.int x0), .val (.int x1), .val (.int x2), .val (.int x3), .val (.int x4), .val (.int (0 : Int32)), .val (.int C0), .val (.int C1), .val (.int C2), .unset, .unset, .unset, .unset] [(.int (0 : Int32))])) _
    refine st4 _ ?_
    show Steps p.tables e below (T4.setTop (mkF m 65 #[.val (.int x0), .val (.int x1), .val (.int x2), .val (.int x3), .val (.int x4), .val (.int (0 : Int32)), .val (.int C0), .val (.int C1), .val (.int C2), .unset, .unset, .unset, .unset] [(.ref ch)])) _
    refine XS.astore X4.here hx rfl (hb hby at_65) rfl rfl (l' := #[.val (.int x0), .val (.int x1), .val (.int x2), .val (.int x3), .val (.int x4), .val (.int (0 : Int32)), .val (.int C0), .val (.int C1), .val (.int C2), .val (.ref ch), .unset, .unset, .unset]) rfl ?_
    show Steps p.tables e below (T4.setTop (mkF m 67 #[.val (.int x0), .val (.int x1), .val (.int x2), .val (.int x3), .val (.int x4), .val (.int (0 : Int32)), .val (.int C0), .val (.int C1), .val (.int C2), .val (.ref ch), .unset, .unset, .unset] [])) _
    refine XS.iload X4.here hx rfl (hb hby at_67) rfl ?_
    show Steps p.tables e below (T4.setTop (mkF m 69 #[.val (.int x0), .val (.int x1), .val (.int x2), .val (.int x3), .val (.int x4), .val (.int (0 : Int32)), .val (.int C0), .val (.int C1), .val (.int C2), .val (.ref ch), .unset, .unset, .unset] [(.int (0 : Int32))])) _
    refine XS.ifYes X4.here hx rfl (pc0 := 69) (pc' := 78) rfl (hb hby at_69) rfl ((if0 _ _).trans (flt (by decide : ¬ ((0 : Int32) < (0 : Int32)))).2.2.2) (by decide) (by decide) ?_
    show Steps p.tables e below (T4.setTop (mkF m 78 #[.val (.int x0), .val (.int x1), .val (.int x2), .val (.int x3), .val (.int x4), .val (.int (0 : Int32)), .val (.int C0), .val (.int C1), .val (.int C2), .val (.ref ch), .unset, .unset, .unset] [])) _
    refine XS.iload X4.here hx rfl (hb hby at_78) rfl ?_
    show Steps p.tables e below (T4.setTop (mkF m 80 #[.val (.int x0), .val (.int x1), .val (.int x2), .val (.int x3), .val (.int x4), .val (.int (0 : Int32)), .val (.int C0), .val (.int C1), .val (.int C2), .val (.ref ch), .unset, .unset, .unset] [(.int (0 : Int32))])) _
    refine XS.iconst X4.here hx rfl (hb hby at_80) ?_
    show Steps p.tables e below (T4.setTop (mkF m 81 #[.val (.int x0), .val (.int x1), .val (.int x2), .val (.int x3), .val (.int x4), .val (.int (0 : Int32)), .val (.int C0), .val (.int C1), .val (.int C2), .val (.ref ch), .unset, .unset, .unset] [(.int (1 : Int32)), (.int (0 : Int32))])) _
    refine XS.icmpYes X4.here hx rfl (pc0 := 81) (pc' := 90) rfl (hb hby at_81) rfl (flt (by decide : ¬ ((1 : Int32) < (0 : Int32)))).2.2.2 (by decide) (by decide) ?_
    show Steps p.tables e below (T4.setTop (mkF m 90 #[.val (.int x0), .val (.int x1), .val (.int x2), .val (.int x3), .val (.int x4), .val (.int (0 : Int32)), .val (.int C0), .val (.int C1), .val (.int C2), .val (.ref ch), .unset, .unset, .unset] [])) _
    refine XS.iload X4.here hx rfl (hb hby at_90) rfl ?_
    show Steps p.tables e below (T4.setTop (mkF m 92 #[.val (.int x0), .val (.int x1), .val (.int x2), .val (.int x3), .val (.int x4), .val (.int (0 : Int32)), .val (.int C0), .val (.int C1), .val (.int C2), .val (.ref ch), .unset, .unset, .unset] [(.int (0 : Int32))])) _
    refine XS.iconst X4.here hx rfl (hb hby at_92) ?_
    show Steps p.tables e below (T4.setTop (mkF m 93 #[.val (.int x0), .val (.int x1), .val (.int x2), .val (.int x3), .val (.int x4), .val (.int (0 : Int32)), .val (.int C0), .val (.int C1), .val (.int C2), .val (.ref ch), .unset, .unset, .unset] [(.int (2 : Int32)), (.int (0 : Int32))])) _
    refine XS.icmpYes X4.here hx rfl (pc0 := 93) (pc' := 102) rfl (hb hby at_93) rfl (flt (by decide : ¬ ((2 : Int32) < (0 : Int32)))).2.2.2 (by decide) (by decide) ?_
    show Steps p.tables e below (T4.setTop (mkF m 102 #[.val (.int x0), .val (.int x1), .val (.int x2), .val (.int x3), .val (.int x4), .val (.int (0 : Int32)), .val (.int C0), .val (.int C1), .val (.int C2), .val (.ref ch), .unset, .unset, .unset] [])) _
    refine st7 _ ?_
    show Steps p.tables e below (T7.setTop (mkF m 105 #[.val (.int x0), .val (.int x1), .val (.int x2), .val (.int x3), .val (.int x4), .val (.int (0 : Int32)), .val (.int C0), .val (.int C1), .val (.int C2), .val (.ref ch), .unset, .unset, .unset] [(.ref so)])) _
    refine XS.dup X7.here hx rfl (hb hby at_105) rfl rfl ?_
    show Steps p.tables e below (T7.setTop (mkF m 106 #[.val (.int x0), .val (.int x1), .val (.int x2), .val (.int x3), .val (.int x4), .val (.int (0 : Int32)), .val (.int C0), .val (.int C1), .val (.int C2), .val (.ref ch), .unset, .unset, .unset] [(.ref so), (.ref so)])) _
    refine XS.aload X7.here hx rfl (hb hby at_106) rfl rfl ?_
    show Steps p.tables e below (T7.setTop (mkF m 108 #[.val (.int x0), .val (.int x1), .val (.int x2), .val (.int x3), .val (.int x4), .val (.int (0 : Int32)), .val (.int C0), .val (.int C1), .val (.int C2), .val (.ref ch), .unset, .unset, .unset] [(.ref ch), (.ref so), (.ref so)])) _
    refine st10.trans ?_
    show Steps p.tables e below (T10.setTop (mkF m 111 #[.val (.int x0), .val (.int x1), .val (.int x2), .val (.int x3), .val (.int x4), .val (.int (0 : Int32)), .val (.int C0), .val (.int C1), .val (.int C2), .val (.ref ch), .unset, .unset, .unset] [(.ref so)])) _
    refine XS.astore X10.here hx rfl (hb hby at_111) rfl rfl (l' := #[.val (.int x0), .val (.int x1), .val (.int x2), .val (.int x3), .val (.int x4), .val (.int (0 : Int32)), .val (.int C0), .val (.int C1), .val (.int C2), .val (.ref ch), .val (.ref so), .unset, .unset]) rfl ?_
    show Steps p.tables e below (T10.setTop (mkF m 113 #[.val (.int x0), .val (.int x1), .val (.int x2), .val (.int x3), .val (.int x4), .val (.int (0 : Int32)), .val (.int C0), .val (.int C1), .val (.int C2), .val (.ref ch), .val (.ref so), .unset, .unset] [])) _
    refine XS.aload X10.here hx rfl (hb hby at_113) rfl rfl ?_
    show Steps p.tables e below (T10.setTop (mkF m 115 #[.val (.int x0), .val (.int x1), .val (.int x2), .val (.int x3), .val (.int x4), .val (.int (0 : Int32)), .val (.int C0), .val (.int C1), .val (.int C2), .val (.ref ch), .val (.ref so), .unset, .unset] [(.ref so)])) _
    refine st12.trans ?_
    show Steps p.tables e below (T12.setTop (mkF m 118 #[.val (.int x0), .val (.int x1), .val (.int x2), .val (.int x3), .val (.int x4), .val (.int (0 : Int32)), .val (.int C0), .val (.int C1), .val (.int C2), .val (.ref ch), .val (.ref so), .unset, .unset] [(.ref so)])) _
    refine XS.astore X12.here hx rfl (hb hby at_118) rfl rfl (l' := #[.val (.int x0), .val (.int x1), .val (.int x2), .val (.int x3), .val (.int x4), .val (.int (0 : Int32)), .val (.int C0), .val (.int C1), .val (.int C2), .val (.ref ch), .val (.ref so), .val (.ref so), .unset]) rfl ?_
    show Steps p.tables e below (T12.setTop (mkF m 120 #[.val (.int x0), .val (.int x1), .val (.int x2), .val (.int x3), .val (.int x4), .val (.int (0 : Int32)), .val (.int C0), .val (.int C1), .val (.int C2), .val (.ref ch), .val (.ref so), .val (.ref so), .unset] [])) _
    refine XS.aload X12.here hx rfl (hb hby at_120) rfl rfl ?_
    show Steps p.tables e below (T12.setTop (mkF m 122 #[.val (.int x0), .val (.int x1), .val (.int x2), .val (.int x3), .val (.int x4), .val (.int (0 : Int32)), .val (.int C0), .val (.int C1), .val (.int C2), .val (.ref ch), .val (.ref so), .val (.ref so), .unset] [(.ref so)])) _
    refine XS.ifnonnullYes X12.here hx rfl (pc0 := 122) (pc' := 127) rfl (hb hby at_122) rfl (by decide) (by decide) ?_
    show Steps p.tables e below (T12.setTop (mkF m 127 #[.val (.int x0), .val (.int x1), .val (.int x2), .val (.int x3), .val (.int x4), .val (.int (0 : Int32)), .val (.int C0), .val (.int C1), .val (.int C2), .val (.ref ch), .val (.ref so), .val (.ref so), .unset] [])) _
    refine XS.aload X12.here hx rfl (hb hby at_127) rfl rfl ?_
    show Steps p.tables e below (T12.setTop (mkF m 129 #[.val (.int x0), .val (.int x1), .val (.int x2), .val (.int x3), .val (.int x4), .val (.int (0 : Int32)), .val (.int C0), .val (.int C1), .val (.int C2), .val (.ref ch), .val (.ref so), .val (.ref so), .unset] [(.ref so)])) _
    refine st14.trans ?_
    show Steps p.tables e below (T14.setTop (mkF m 132 #[.val (.int x0), .val (.int x1), .val (.int x2), .val (.int x3), .val (.int x4), .val (.int (0 : Int32)), .val (.int C0), .val (.int C1), .val (.int C2), .val (.ref ch), .val (.ref so), .val (.ref so), .unset] [(.int (0 : Int32))])) _
    refine XS.iconst X14.here hx rfl (hb hby at_132) ?_
    show Steps p.tables e below (T14.setTop (mkF m 133 #[.val (.int x0), .val (.int x1), .val (.int x2), .val (.int x3), .val (.int x4), .val (.int (0 : Int32)), .val (.int C0), .val (.int C1), .val (.int C2), .val (.ref ch), .val (.ref so), .val (.ref so), .unset] [(.int (1 : Int32)), (.int (0 : Int32))])) _
    refine XS.icmpYes X14.here hx rfl (pc0 := 133) (pc' := 151) rfl (hb hby at_133) rfl (feq (by decide : ¬ ((0 : Int32) = (1 : Int32)))).2 (by decide) (by decide) ?_
    show Steps p.tables e below (T14.setTop (mkF m 151 #[.val (.int x0), .val (.int x1), .val (.int x2), .val (.int x3), .val (.int x4), .val (.int (0 : Int32)), .val (.int C0), .val (.int C1), .val (.int C2), .val (.ref ch), .val (.ref so), .val (.ref so), .unset] [])) _
    refine XS.iconst X14.here hx rfl (hb hby at_151) ?_
    show Steps p.tables e below (T14.setTop (mkF m 152 #[.val (.int x0), .val (.int x1), .val (.int x2), .val (.int x3), .val (.int x4), .val (.int (0 : Int32)), .val (.int C0), .val (.int C1), .val (.int C2), .val (.ref ch), .val (.ref so), .val (.ref so), .unset] [(.int (0 : Int32))])) _
    refine XS.istore X14.here hx rfl (hb hby at_152) rfl (l' := #[.val (.int x0), .val (.int x1), .val (.int x2), .val (.int x3), .val (.int x4), .val (.int (0 : Int32)), .val (.int C0), .val (.int C1), .val (.int C2), .val (.ref ch), .val (.ref so), .val (.ref so), .val (.int (0 : Int32))]) rfl ?_
    show Steps p.tables e below (T14.setTop (mkF m 154 #[.val (.int x0), .val (.int x1), .val (.int x2), .val (.int x3), .val (.int x4), .val (.int (0 : Int32)), .val (.int C0), .val (.int C1), .val (.int C2), .val (.ref ch), .val (.ref so), .val (.ref so), .val (.int (0 : Int32))] [])) _
    refine XS.iload X14.here hx rfl (hb hby at_154) rfl ?_
    show Steps p.tables e below (T14.setTop (mkF m 156 #[.val (.int x0), .val (.int x1), .val (.int x2), .val (.int x3), .val (.int x4), .val (.int (0 : Int32)), .val (.int C0), .val (.int C1), .val (.int C2), .val (.ref ch), .val (.ref so), .val (.ref so), .val (.int (0 : Int32))] [(.int (0 : Int32))])) _
    refine XS.ifYes X14.here hx rfl (pc0 := 156) (pc' := 167) rfl (hb hby at_156) rfl ((if0 _ _).trans (teq (by decide : (0 : Int32) = (0 : Int32))).1) (by decide) (by decide) ?_
    show Steps p.tables e below (T14.setTop (mkF m 167 #[.val (.int x0), .val (.int x1), .val (.int x2), .val (.int x3), .val (.int x4), .val (.int (0 : Int32)), .val (.int C0), .val (.int C1), .val (.int C2), .val (.ref ch), .val (.ref so), .val (.ref so), .val (.int (0 : Int32))] [])) _
    refine XS.aload X14.here hx rfl (hb hby at_167) rfl rfl ?_
    show Steps p.tables e below (T14.setTop (mkF m 169 #[.val (.int x0), .val (.int x1), .val (.int x2), .val (.int x3), .val (.int x4), .val (.int (0 : Int32)), .val (.int C0), .val (.int C1), .val (.int C2), .val (.ref ch), .val (.ref so), .val (.ref so), .val (.int (0 : Int32))] [(.ref so)])) _
    refine XS.aload X14.here hx rfl (hb hby at_169) rfl rfl ?_
    show Steps p.tables e below (T14.setTop (mkF m 171 #[.val (.int x0), .val (.int x1), .val (.int x2), .val (.int x3), .val (.int x4), .val (.int (0 : Int32)), .val (.int C0), .val (.int C1), .val (.int C2), .val (.ref ch), .val (.ref so), .val (.ref so), .val (.int (0 : Int32))] [(.ref so), (.ref so)])) _
    refine st15.trans ?_
    show Steps p.tables e below (T15.setTop (mkF m 174 #[.val (.int x0), .val (.int x1), .val (.int x2), .val (.int x3), .val (.int x4), .val (.int (0 : Int32)), .val (.int C0), .val (.int C1), .val (.int C2), .val (.ref ch), .val (.ref so), .val (.ref so), .val (.int (0 : Int32))] [(.int (1 : Int32))])) _
    exact retN X15 hx (t := .boolean) Bd.returns (by simp) (hb hby at_174) hr
  · exact ⟨rfl, N15⟩
  · have eT : (T15.setFrames fs).heap = T12.heap := e15
    rw [eT, hh]; exact Rend
theorem pd__I_C : parseMethodDescriptor "(I)C" = some ⟨[.int], some .char⟩ := by decide +kernel
set_option maxRecDepth 65536 in
set_option maxHeartbeats 40000000 in
theorem rm0_1y (l : Launch) (Z : State) (a0 : Array Value) (hw : ∀ d ∈ tables_1, d.before a0 Z = true) (ws : List Jvm.Cond) (x0 : Int32) (x1 : Int32) (x2 : Int32) (x3 : Int32) (x4 : Int32) (cs C0 C1 : Int32) (fmv : Value) (h0 : Heap) (n0 : Nat) (Z0 : n0 ≤ h0.size) (hn : (if (x4 &&& (2 : Int32)) = (0 : Int32) then (x0 &&& (3 : Int32)) else (1 : Int32)) = (1 : Int32)) (hd : C0 = (45 : Int32)) (O0 : Old Z n0 h0) (S_CS : Sta Z Z.heap "java/lang/String" "COMPACT_STRINGS" "Z" (.int cs)) (hcs : ¬ (cs = (0 : Int32))) (S_FM : Sta Z Z.heap "jdk/internal/util/Preconditions" "SIOOBE_FORMATTER" "Ljava/util/function/BiFunction;" fmv) (hfm : fmv.isRef = true) (eC0 : C0 = (if (x4 &&& (1 : Int32)) = (0 : Int32) then ((x1 &&& (255 : Int32)).toUInt32.toUInt16.toUInt32.toInt32) else (45 : Int32))) (eC1 : C1 = (if (x4 &&& (4 : Int32)) = (0 : Int32) then ((x2 &&& (255 : Int32)).toUInt32.toUInt16.toUInt32.toInt32) else (45 : Int32))) :
    MetFree l x (head1 (Jvm.Cond.code x code maxLocals ret :: ws) room_1) (fun a U => a = #[(.int x0), (.int x1), (.int x2), (.int x3), (.int x4)] ∧ Z.Warmed39 U.vm ∧ U.heap = h0 ∧ CHv Z consts_1 U.vm h0) (fun _ _ _ _ _ => True) (fun _ U o U' => ∃ v L, o = .returned v ∧ (QL n0 v U'.heap L) ∧ CHr Z consts_1 U.vm U.heap U'.vm U'.heap ∧ ReturnedEndW U o U' L room_1.cells room_1.slots) := by
  refine MetFree.of_bodySF (plainFor_of_name pn_0) hisR ?_
  intro p e s m args below meth c s₁ Bd hml0 hP hK
  obtain ⟨rfl, hZ, hh, C0v⟩ := hP
  have hx := Bd.exec
  have hby := Bd.bytes
  have hml : c.maxLocals = 13 := hml0
  have hown : (s.setVm s.vm).vm.findClass "com/example/skylattice/skylattice/cli/InputArgumentNamePinLaw" = some m.cls := findClass_of_methodNamed Bd.named
  have hnm := (name_of_methodNamed Bd.named Bd.method).1
  have X0 : Stand p l e room_1 (s.setVm s.vm) m #[(.int x0), (.int x1), (.int x2), (.int x3), (.int x4)] below meth c s₁ [] 0 0 := Stand.of_body Bd
  have e0 : s₁.heap = h0 := by rw [← hh, Bd.state]; rfl
  have N0 := Fr.nil n0
  have hS0 : s.Since s.vm 0 := (State.WarmedH.refl s).since 0
  have hk0 : 0 ≤ h0.size := Nat.zero_le _
  have R0v := CHr.refl C0v
  have pre0 : ∀ t, Steps p.tables e below (s₁.setTop (mkF m 0 #[.val (.int x0), .val (.int x1), .val (.int x2), .val (.int x3), .val (.int x4), .unset, .unset, .unset, .unset, .unset, .unset, .unset, .unset] [])) t → Steps p.tables e below (s₁.setTop (entryFrame m #[(.int x0), (.int x1), (.int x2), (.int x3), (.int x4)] maxLocals)) t := fun t k => castTop (ef_0 m x0 x1 x2 x3 x4) k
  have hC0 : 0 ≤ C0.toInt ∧ C0.toInt ≤ 255 := by
    rw [eC0]; split
    · exact own_chr _
    · decide
  have hC1 : 0 ≤ C1.toInt ∧ C1.toInt ≤ 255 := by
    rw [eC1]; split
    · exact own_chr _
    · decide
  obtain ⟨nC0, hc0, hz0⟩ := own_narc C0 hC0
  obtain ⟨nC1, hc1, hz1⟩ := own_narc C1 hC1
  obtain ⟨cb1, cb2⟩ := own_cb C0 hc0 hz0
  have hu : own_b C0 = (45 : Int32) := cb2.mpr hd
  have hcc : own_c (own_b C0) = (45 : Int32) := cb1.trans hd
  obtain ⟨m1_l5, em1_l5⟩ : ∃ z : Int32, z = (if (x4 &&& (2 : Int32)) = (0 : Int32) then (x0 &&& (3 : Int32)) else (1 : Int32)) := ⟨_, rfl⟩
  obtain ⟨m2_l6, em2_l6⟩ : ∃ z : Int32, z = (if (x4 &&& (1 : Int32)) = (0 : Int32) then ((x1 &&& (255 : Int32)).toUInt32.toUInt16.toUInt32.toInt32) else (45 : Int32)) := ⟨_, rfl⟩
  obtain ⟨m3_l7, em3_l7⟩ : ∃ z : Int32, z = (if (x4 &&& (4 : Int32)) = (0 : Int32) then ((x2 &&& (255 : Int32)).toUInt32.toUInt16.toUInt32.toInt32) else (45 : Int32)) := ⟨_, rfl⟩
  obtain ⟨C2, e_C2⟩ : ∃ z : Int32, z = ((x3 &&& (255 : Int32)).toUInt32.toUInt16.toUInt32.toInt32) := ⟨_, rfl⟩
  have hC2 : 0 ≤ C2.toInt ∧ C2.toInt ≤ 255 := by rw [e_C2]; exact own_chr _
  obtain ⟨nC2, hc2, hz2⟩ := own_narc C2 hC2
  obtain ⟨T4, h4, k4, X4, e4, E4, A4, st4⟩ := newP X0 hx hZ (hw _ (List.mem_of_getElem? (i := 0) rfl)) e0 (g := (mkF m 63 #[.val (.int x0), .val (.int x1), .val (.int x2), .val (.int x3), .val (.int x4), .val (.int (1 : Int32)), .val (.int C0), .val (.int C1), .val (.int C2), .unset, .unset, .unset, .unset] [(.int (1 : Int32))])) rfl (hb hby at_63) rfl (by decide) (cap := 1) (by decide) (by decide) (by decide) (by decide)
  obtain ⟨ch, g4⟩ : ∃ z, z = h0.size := ⟨_, rfl⟩
  rw [← g4] at A4 st4
  have V_ch_4 : Arv Z h4 ch k4 .char (1 : Int32) [(.int (0 : Int32))] (.int (0 : Int32)) := (Arv.new A4 (by decide)).pad (pad_rep [] (.int (0 : Int32)) 1)
  have g_ch : n0 ≤ ch := Nat.le_trans Z0 (Nat.le_of_eq g4.symm)
  have Cr6 := CHr.ext E4 C0v
  have C6v := Cr6.1
  have R6v := R0v.trans Cr6
  have hk6 := Nat.le_trans hk0 E4.1
  have old_5 : Old Z n0 h4 := O0.ext E4
  have siz_5 : n0 ≤ h4.size := Nat.le_trans Z0 E4.1
  have SfC : Safe Z consts_1 s.vm h4 ch := own_safe_arr (show Z.vm.Alike s.vm from hZ.alike) V_ch_4
  obtain ⟨T7, h7, L7, X7, e7, N7, W7, V7, st7⟩ := own_stC X4 hx hZ e4 V_ch_4 (j := (0 : Int32)) ⟨by decide, by decide⟩ (i := 0) rfl (Nat.le_of_ble_eq_true rfl) N0 g_ch (g := (mkF m 77 #[.val (.int x0), .val (.int x1), .val (.int x2), .val (.int x3), .val (.int x4), .val (.int (1 : Int32)), .val (.int C0), .val (.int C1), .val (.int C2), .val (.ref ch), .unset, .unset, .unset] [(.int C0), (.int (0 : Int32)), (.ref ch)])) rfl rfl (hb hby at_77)
  have Cr9 := CHr.wr W7 SfC C6v
  have Sf_ch_9 := Safe.wr W7 SfC C6v SfC
  have C9v := Cr9.1
  have R9v := R6v.trans Cr9
  have hk9 := Nat.le_trans hk6 (Keep.of_wr W7).1
  have old_8 : Old Z n0 h7 := old_5.wr W7 g_ch
  have siz_8 : n0 ≤ h7.size := Nat.le_trans siz_5 (Keep.of_wr W7).1
  have V_ch_7 : Arv Z h7 ch k4 .char (1 : Int32) [(.int (nar .char C0))] (.int (0 : Int32)) := V7
  rw [nC0] at V_ch_7
  obtain ⟨T10, h10, X10, e10, E10, A10, D10, -, st10⟩ := newO X7 hx hZ hown (hw _ (List.mem_of_getElem? (i := 1) rfl)) (hw _ (List.mem_of_getElem? (i := 2) rfl)) (hw _ (List.mem_of_getElem? (i := 3) rfl)) e7 (g := (mkF m 102 #[.val (.int x0), .val (.int x1), .val (.int x2), .val (.int x3), .val (.int x4), .val (.int (1 : Int32)), .val (.int C0), .val (.int C1), .val (.int C2), .val (.ref ch), .unset, .unset, .unset] [])) rfl (hb hby at_102) (by decide) (by decide)
  obtain ⟨so, g10⟩ : ∃ z, z = h7.size := ⟨_, rfl⟩
  rw [← g10] at A10 D10 st10
  have E_so_10 : Exa Z h10 so "java/lang/String" := A10
  have F_value_so_10 : Fld Z h10 so "java/lang/String" "value" "[B" .null := D10 (Or.inr (hw _ (List.mem_of_getElem? (i := 16) rfl))) (ty := (.array .byte)) (by decide)
  have F_coder_so_10 : Fld Z h10 so "java/lang/String" "coder" "B" (.int (0 : Int32)) := D10 (Or.inr (hw _ (List.mem_of_getElem? (i := 17) rfl))) (ty := .byte) (by decide)
  have lt_ch_so : ch < so := Nat.lt_of_lt_of_le V_ch_7.lt (Nat.le_of_eq g10.symm)
  have g_so : n0 ≤ so := Nat.le_trans siz_8 (Nat.le_of_eq g10.symm)
  have Cr12 := CHr.ext E10 C9v
  have Sf_ch_12 := Safe.ext E10 C9v Sf_ch_9
  have C12v := Cr12.1
  have R12v := R9v.trans Cr12
  have hk12 := Nat.le_trans hk9 E10.1
  have old_11 : Old Z n0 h10 := old_8.ext E10
  have siz_11 : n0 ≤ h10.size := Nat.le_trans siz_8 E10.1
  have V_ch_11 : Arv Z h10 ch k4 .char (1 : Int32) [(.int C0)] (.int (0 : Int32)) := V_ch_7.ext E10
  have SfS : Safe Z consts_1 s.vm h10 so := own_safe (show Z.vm.Alike s.vm from hZ.alike) E_so_10 F_value_so_10
  obtain ⟨_, _, ⟨T13, L13, k13, n13⟩, -, X13, ⟨Lc13, hQ13, l13, y13, z13⟩, st13⟩ := X10.specialBack hx (y := (⟨"java/lang/String", "<init>", "([C)V"⟩ : MethodName)) rfl hown (mvT hZ (hw _ (List.mem_of_getElem? (i := 4) rfl))) (mvT hZ (hw _ (List.mem_of_getElem? (i := 5) rfl))) (mvT hZ (hw _ (List.mem_of_getElem? (i := 6) rfl))) (by decide) (backOf (W := 1) (rms1_1 l Z a0 hw [] so ch k4 C0 cs h10 n0 siz_11 E_so_10 F_value_so_10 F_coder_so_10 V_ch_11 g_so (Ne.symm (Nat.ne_of_lt lt_ch_so)) hc0 old_11 S_CS hcs) hZ (hw _ (List.mem_of_getElem? (i := 6) rfl)) (hw _ (List.mem_of_getElem? (i := 3) rfl)) (by decide) (by decide)) (g := (mkF m 108 #[.val (.int x0), .val (.int x1), .val (.int x2), .val (.int x3), .val (.int x4), .val (.int (1 : Int32)), .val (.int C0), .val (.int C1), .val (.int C2), .val (.ref ch), .unset, .unset, .unset] [(.ref ch), (.ref so), (.ref so)])) rfl (by rw [hml]; rfl) (Steps.refl _) (a := so) (argsL := [(.ref ch)]) (rest := [(.ref so)]) (lenOf pd___C_V rfl) rfl (by show 2 * 0 + _ ≤ _; exact Nat.le_of_eq rfl) (hb hby at_108) (fun _ _ => ⟨rfl, e10, (by decide : 2 + 1 ≤ _), (by decide : 5 + 1 ≤ _)⟩)
  dsimp only [Pt.U, Pt.locs, Pt.cells, Pt.slots] at X13 l13 y13 z13 st13 hQ13
  subst l13 y13 z13
  obtain ⟨rfl, N13q, K13, Eq13, va, kv, Fq13, Fc13, Vq13⟩ := hQ13
  have Cr15 := CHr.keep K13 (allS SfS (all0)) C12v
  have Sf_ch_15 := Safe.keep K13 (allS SfS (all0)) C12v Sf_ch_12
  have Sf_so_15 := Safe.keep K13 (allS SfS (all0)) C12v SfS
  have C15v := Cr15.1
  have R15v := R12v.trans Cr15
  have hk15 := Nat.le_trans hk12 K13.1
  have old_14 : Old Z n0 T13.heap := old_11.keep K13 (allS g_so (all0))
  have siz_14 : n0 ≤ T13.heap.size := Nat.le_trans siz_11 K13.1
  have V_ch_14 : Arv Z T13.heap ch k4 .char (1 : Int32) [(.int C0)] (.int (0 : Int32)) := V_ch_11.keep K13 (ninS (Nat.ne_of_lt lt_ch_so) nin0)
  have N13 := Fr.app N7 N13q
  obtain ⟨_, _, ⟨T16, L16, k16, n16⟩, -, Xr16, hSr16, hgr16, ⟨Lc16, hQ16, l16, y16, z16, Cc16⟩, st16⟩ := callSS X13 hx (y := (⟨"com/example/skylattice/skylattice/cli/InputArgument", "name", "(Ljava/lang/String;)Ljava/lang/String;"⟩ : MethodName)) hown (mvT hZ (hw _ (List.mem_of_getElem? (i := 22) rfl))) (mvT hZ (hw _ (List.mem_of_getElem? (i := 23) rfl))) (mvT hZ (hw _ (List.mem_of_getElem? (i := 24) rfl))) (mvT hZ (hw _ (List.mem_of_getElem? (i := 25) rfl))) (by decide) (backOfSH (s := s) (W := 0) (rmnm_1y l Z a0 hw [] so va kv cs (own_b C0) T13.heap n0 siz_14 Eq13 Fq13 Fc13 Vq13 old_14 S_CS hcs hu) hZ (hw _ (List.mem_of_getElem? (i := 25) rfl)) (hw _ (List.mem_of_getElem? (i := 24) rfl)) (by decide) (by decide) (own_EL hw) C15v) (g := (mkF m 115 #[.val (.int x0), .val (.int x1), .val (.int x2), .val (.int x3), .val (.int x4), .val (.int (1 : Int32)), .val (.int C0), .val (.int C1), .val (.int C2), .val (.ref ch), .val (.ref so), .unset, .unset] [(.ref so)])) rfl (by rw [hml]; rfl) (argsL := [(.ref so)]) (rest := []) (lenOf pd__Ljava_lang_String__Ljava_lang_String_ rfl) rfl (by show 2 * 0 + _ ≤ _; exact Nat.le_of_eq rfl) (hb hby at_115) (fun _ _ => ⟨rfl, rfl, (by decide : 3 + 4 ≤ _), (by decide : 6 + 68 ≤ _)⟩)
  dsimp only [Pt.U, Pt.locs, Pt.cells, Pt.slots] at Xr16 hSr16 hgr16 l16 y16 z16 st16 hQ16 Cc16
  subst l16 y16 z16
  obtain ⟨X16, hS16, hZ16, hown16⟩ := rebS (own := "com/example/skylattice/skylattice/cli/InputArgumentNamePinLaw") hS0 hk15 Xr16 hSr16 hgr16 hZ hown
  obtain ⟨rn, rb, kr, rfl, N16q, K16, Er16, Fc16, Fv16, Vr16⟩ := hQ16
  have old_17 : Old Z n0 T16.heap := old_14.keep K16 (all0)
  have siz_17 : n0 ≤ T16.heap.size := Nat.le_trans siz_14 K16.1
  have E_so_17 : Exa Z T16.heap so "java/lang/String" := Eq13.keep K16
  have F_value_so_17 : Fld Z T16.heap so "java/lang/String" "value" "[B" (.ref va) := Fq13.keep K16 nin0
  have F_coder_so_17 : Fld Z T16.heap so "java/lang/String" "coder" "B" (.int (0 : Int32)) := Fc13.keep K16 nin0
  have V_va_17 : Arv Z T16.heap va kv .byte (1 : Int32) [(.int (own_b C0))] (.int (0 : Int32)) := Vq13.keep K16 nin0
  have C16v := Cc16.1
  have R16v := R15v.trans Cc16
  have N16 := Fr.app N13 N16q
  have hk16 := Nat.le_refl T16.heap.size
  obtain ⟨cq18, kq18, q18a, q18b, q18c⟩ := isOf hZ16 rfl E_so_17
  obtain ⟨_, _, ⟨T18, L18, k18, n18⟩, -, X18, ⟨Lc18, hQ18, l18, y18, z18⟩, st18⟩ := X16.virtualBack hx (y := (⟨"java/lang/String", "length", "()I"⟩ : MethodName)) (z := (⟨"java/lang/String", "length", "()I"⟩ : MethodName)) hown16 (mvT hZ16 (hw _ (List.mem_of_getElem? (i := 38) rfl))) (mvT hZ16 (hw _ (List.mem_of_getElem? (i := 39) rfl))) (notFace_of_selects (args := #[]) (mvT hZ16 (hw _ (List.mem_of_getElem? (i := 41) rfl)))) (mvT hZ16 (hw _ (List.mem_of_getElem? (i := 41) rfl))) (mvT hZ16 (hw _ (List.mem_of_getElem? (i := 40) rfl))) (by decide) (backOf (W := 0) (rmln_1 l Z a0 hw [] so va kv cs (own_b C0) T16.heap n0 siz_17 E_so_17 F_value_so_17 F_coder_so_17 V_va_17 old_17 S_CS hcs) hZ16 (hw _ (List.mem_of_getElem? (i := 42) rfl)) (hw _ (List.mem_of_getElem? (i := 3) rfl)) (by decide) (by decide)) q18a q18c (g := (mkF m 129 #[.val (.int x0), .val (.int x1), .val (.int x2), .val (.int x3), .val (.int x4), .val (.int (1 : Int32)), .val (.int C0), .val (.int C1), .val (.int C2), .val (.ref ch), .val (.ref so), .val (.ref rn), .unset] [(.ref so)])) rfl (by rw [hml]; rfl) (Steps.refl _) (argsL := []) (rest := []) (lenOf pd___I rfl) rfl (by show 2 * 0 + _ ≤ _; exact Nat.le_of_eq rfl) (hb hby at_129) (fun _ _ => ⟨rfl, rfl, (by decide : 7 + 0 ≤ _), (by decide : 74 + 0 ≤ _)⟩)
  dsimp only [Pt.U, Pt.locs, Pt.cells, Pt.slots] at X18 l18 y18 z18 st18 hQ18
  subst l18 y18 z18
  obtain ⟨rfl, N18q, e18⟩ := hQ18
  have N18 := Fr.app N16 N18q
  obtain ⟨cq19, kq19, q19a, q19b, q19c⟩ := isOf hZ16 e18 E_so_17
  obtain ⟨_, _, ⟨T19, L19, k19, n19⟩, -, X19, ⟨Lc19, hQ19, l19, y19, z19⟩, st19⟩ := X18.virtualBack hx (y := (⟨"java/lang/String", "charAt", "(I)C"⟩ : MethodName)) (z := (⟨"java/lang/String", "charAt", "(I)C"⟩ : MethodName)) hown16 (mvT hZ16 (hw _ (List.mem_of_getElem? (i := 60) rfl))) (mvT hZ16 (hw _ (List.mem_of_getElem? (i := 61) rfl))) (notFace_of_selects (args := #[]) (mvT hZ16 (hw _ (List.mem_of_getElem? (i := 63) rfl)))) (mvT hZ16 (hw _ (List.mem_of_getElem? (i := 63) rfl))) (mvT hZ16 (hw _ (List.mem_of_getElem? (i := 62) rfl))) (by decide) (backOf (W := 0) (rmca l Z a0 hw [] so va kv (own_b C0) cs fmv T16.heap n0 siz_17 E_so_17 F_value_so_17 F_coder_so_17 V_va_17 old_17 S_CS hcs S_FM hfm) hZ16 (hw _ (List.mem_of_getElem? (i := 64) rfl)) (hw _ (List.mem_of_getElem? (i := 3) rfl)) (by decide) (by decide)) q19a q19c (g := (mkF m 139 #[.val (.int x0), .val (.int x1), .val (.int x2), .val (.int x3), .val (.int x4), .val (.int (1 : Int32)), .val (.int C0), .val (.int C1), .val (.int C2), .val (.ref ch), .val (.ref so), .val (.ref rn), .unset] [(.int (0 : Int32)), (.ref so)])) rfl (by rw [hml]; rfl) (Steps.refl _) (argsL := [(.int (0 : Int32))]) (rest := []) (lenOf pd__I_C rfl) rfl (by show 2 * 0 + _ ≤ _; exact Nat.le_of_eq rfl) (hb hby at_139) (fun _ _ => ⟨rfl, e18, (by decide : 7 + 0 ≤ _), (by decide : 74 + 0 ≤ _)⟩)
  dsimp only [Pt.U, Pt.locs, Pt.cells, Pt.slots] at X19 l19 y19 z19 st19 hQ19
  subst l19 y19 z19
  obtain ⟨rfl, N19q, e19⟩ := hQ19
  have N19 := Fr.app N18 N19q
  obtain ⟨lc, T20, h20, k120, ld, kl20, X20, e20, E20, hS20, hk20, hZ20, hown20, EX20, FC20, FV20, AV20, lq20, lr20, Cc20, Li20, sf20, st20⟩ := ldcCH X19 hx hZ16 hown16 (hw _ (List.mem_of_getElem? (i := 81) rfl)) (own_wS hw) e19 hS16 hk16 (own_EL hw) (List.mem_of_getElem? (i := 2) rfl) C16v (vs := [(.int (115 : Int32)), (.int (116 : Int32)), (.int (97 : Int32)), (.int (110 : Int32)), (.int (100 : Int32)), (.int (97 : Int32)), (.int (114 : Int32)), (.int (100 : Int32)), (.int (32 : Int32)), (.int (105 : Int32)), (.int (110 : Int32)), (.int (112 : Int32)), (.int (117 : Int32)), (.int (116 : Int32))]) (z := (14 : Int32)) ⟨by decide, by decide⟩ (by decide) rfl (g := (mkF m 161 #[.val (.int x0), .val (.int x1), .val (.int x2), .val (.int x3), .val (.int x4), .val (.int (1 : Int32)), .val (.int C0), .val (.int C1), .val (.int C2), .val (.ref ch), .val (.ref so), .val (.ref rn), .val (.int (1 : Int32))] [(.ref rn)])) rfl (hb hby at_161) (n := 56) (by decide) (by decide) (by decide) (by decide)
  have old_21 : Old Z n0 h20 := old_17.ext E20
  have siz_21 : n0 ≤ h20.size := Nat.le_trans siz_17 E20.1
  have E_so_21 : Exa Z h20 so "java/lang/String" := E_so_17.ext E20
  have F_value_so_21 : Fld Z h20 so "java/lang/String" "value" "[B" (.ref va) := F_value_so_17.ext E20
  have F_coder_so_21 : Fld Z h20 so "java/lang/String" "coder" "B" (.int (0 : Int32)) := F_coder_so_17.ext E20
  have V_va_21 : Arv Z h20 va kv .byte (1 : Int32) [(.int (own_b C0))] (.int (0 : Int32)) := V_va_17.ext E20
  have E_rn_21 : Exa Z h20 rn "java/lang/String" := Er16.ext E20
  have F_value_rn_21 : Fld Z h20 rn "java/lang/String" "value" "[B" (.ref rb) := Fv16.ext E20
  have F_coder_rn_21 : Fld Z h20 rn "java/lang/String" "coder" "B" (.int (0 : Int32)) := Fc16.ext E20
  have V_rb_21 : Arv Z h20 rb kr .byte (14 : Int32) [(.int (115 : Int32)), (.int (116 : Int32)), (.int (97 : Int32)), (.int (110 : Int32)), (.int (100 : Int32)), (.int (97 : Int32)), (.int (114 : Int32)), (.int (100 : Int32)), (.int (32 : Int32)), (.int (105 : Int32)), (.int (110 : Int32)), (.int (112 : Int32)), (.int (117 : Int32)), (.int (116 : Int32))] (.int (0 : Int32)) := Vr16.ext E20
  have C20v := Cc20.1
  have R20v := R16v.trans Cc20
  obtain ⟨cq22, kq22, q22a, q22b, q22c⟩ := isOf hZ20 e20 E_rn_21
  obtain ⟨_, _, ⟨T22, L22, k22, n22⟩, -, X22, ⟨Lc22, hQ22, l22, y22, z22⟩, st22⟩ := X20.virtualBack hx (y := (⟨"java/lang/String", "equals", "(Ljava/lang/Object;)Z"⟩ : MethodName)) (z := (⟨"java/lang/String", "equals", "(Ljava/lang/Object;)Z"⟩ : MethodName)) hown20 (mvT hZ20 (hw _ (List.mem_of_getElem? (i := 48) rfl))) (mvT hZ20 (hw _ (List.mem_of_getElem? (i := 28) rfl))) (notFace_of_selects (args := #[]) (mvT hZ20 (hw _ (List.mem_of_getElem? (i := 30) rfl)))) (mvT hZ20 (hw _ (List.mem_of_getElem? (i := 30) rfl))) (mvT hZ20 (hw _ (List.mem_of_getElem? (i := 29) rfl))) (by decide) (backOf (W := 0) (rmeqa_14 l Z a0 hw [] rn lc rb ld kr kl20 cs h20 n0 siz_21 E_rn_21 F_value_rn_21 F_coder_rn_21 V_rb_21 EX20 FV20 FC20 AV20 old_21 S_CS hcs) hZ20 (hw _ (List.mem_of_getElem? (i := 31) rfl)) (hw _ (List.mem_of_getElem? (i := 3) rfl)) (by decide) (by decide)) q22a q22c (g := (mkF m 163 #[.val (.int x0), .val (.int x1), .val (.int x2), .val (.int x3), .val (.int x4), .val (.int (1 : Int32)), .val (.int C0), .val (.int C1), .val (.int C2), .val (.ref ch), .val (.ref so), .val (.ref rn), .val (.int (1 : Int32))] [(.ref lc), (.ref rn)])) rfl (by rw [hml]; rfl) (Steps.refl _) (argsL := [(.ref lc)]) (rest := []) (lenOf pd__Ljava_lang_Object__Z rfl) rfl (by show 2 * 0 + _ ≤ _; exact Nat.le_of_eq rfl) (hb hby at_163) (fun _ _ => ⟨rfl, e20, (by decide : 9 + 0 ≤ _), (by decide : 134 + 0 ≤ _)⟩)
  dsimp only [Pt.U, Pt.locs, Pt.cells, Pt.slots] at X22 l22 y22 z22 st22 hQ22
  subst l22 y22 z22
  obtain ⟨rfl, N22q, e22⟩ := hQ22
  have N22 := Fr.app N19 N22q
  have Rend := R20v.trans (CHv.at X22 hZ20 (own_EL hw) C20v)
  obtain ⟨fs, hr, hrun, hended, hRW⟩ := X22.leaveW hS20 (by rw [e22]; exact hk20) (v := some (.int (1 : Int32))) (fun h => by rw [Bd.returns] at h; cases h)
  refine ⟨_, _, pre0 _ ?_, hrun, hended, _, _, rfl, ?_, ?_, hRW.1, hRW.2.1, hRW.2.2.1, hRW.2.2.2.mono (by decide) (by decide)⟩
  · show Steps p.tables e below (s₁.setTop (mkF m 0 #[.val (.int x0), .val (.int x1), .val (.int x2), .val (.int x3), .val (.int x4), .unset, .unset, .unset, .unset, .unset, .unset, .unset, .unset] [])) _
    refine XS.iloadN X0.here hx rfl (hb hby at_0) rfl ?_
    show Steps p.tables e below (s₁.setTop (mkF m 1 #[.val (.int x0), .val (.int x1), .val (.int x2), .val (.int x3), .val (.int x4), .unset, .unset, .unset, .unset, .unset, .unset, .unset, .unset] [(.int x0)])) _
    refine XS.iconst X0.here hx rfl (hb hby at_1) ?_
    show Steps p.tables e below (s₁.setTop (mkF m 2 #[.val (.int x0), .val (.int x1), .val (.int x2), .val (.int x3), .val (.int x4), .unset, .unset, .unset, .unset, .unset, .unset, .unset, .unset] [(.int (3 : Int32)), (.int x0)])) _
    refine XS.iand X0.here hx rfl (hb hby at_2) rfl ?_
    show Steps p.tables e below (s₁.setTop (mkF m 3 #[.val (.int x0), .val (.int x1), .val (.int x2), .val (.int x3), .val (.int x4), .unset, .unset, .unset, .unset, .unset, .unset, .unset, .unset] [(.int (x0 &&& (3 : Int32)))])) _
    refine XS.istore X0.here hx rfl (hb hby at_3) rfl (l' := #[.val (.int x0), .val (.int x1), .val (.int x2), .val (.int x3), .val (.int x4), .val (.int (x0 &&& (3 : Int32))), .unset, .unset, .unset, .unset, .unset, .unset, .unset]) rfl ?_
    show Steps p.tables e below (s₁.setTop (mkF m 5 #[.val (.int x0), .val (.int x1), .val (.int x2), .val (.int x3), .val (.int x4), .val (.int (x0 &&& (3 : Int32))), .unset, .unset, .unset, .unset, .unset, .unset, .unset] [])) _
    refine XS.iload X0.here hx rfl (hb hby at_5) rfl ?_
    show Steps p.tables e below (s₁.setTop (mkF m 7 #[.val (.int x0), .val (.int x1), .val (.int x2), .val (.int x3), .val (.int x4), .val (.int (x0 &&& (3 : Int32))), .unset, .unset, .unset, .unset, .unset, .unset, .unset] [(.int x4)])) _
    refine XS.iconst X0.here hx rfl (hb hby at_7) ?_
    show Steps p.tables e below (s₁.setTop (mkF m 8 #[.val (.int x0), .val (.int x1), .val (.int x2), .val (.int x3), .val (.int x4), .val (.int (x0 &&& (3 : Int32))), .unset, .unset, .unset, .unset, .unset, .unset, .unset] [(.int (2 : Int32)), (.int x4)])) _
    refine XS.iand X0.here hx rfl (hb hby at_8) rfl ?_
    show Steps p.tables e below (s₁.setTop (mkF m 9 #[.val (.int x0), .val (.int x1), .val (.int x2), .val (.int x3), .val (.int x4), .val (.int (x0 &&& (3 : Int32))), .unset, .unset, .unset, .unset, .unset, .unset, .unset] [(.int (x4 &&& (2 : Int32)))])) _
    have k1 : ∀ (m1_l5 : Int32) t, ((x4 &&& (2 : Int32)) = (0 : Int32) → m1_l5 = (x0 &&& (3 : Int32))) → (¬ ((x4 &&& (2 : Int32)) = (0 : Int32)) → m1_l5 = (1 : Int32)) → Steps p.tables e below (s₁.setTop (mkF m 15 #[.val (.int x0), .val (.int x1), .val (.int x2), .val (.int x3), .val (.int x4), .val (.int m1_l5), .unset, .unset, .unset, .unset, .unset, .unset, .unset] [])) t → Steps p.tables e below (s₁.setTop (mkF m 9 #[.val (.int x0), .val (.int x1), .val (.int x2), .val (.int x3), .val (.int x4), .val (.int (x0 &&& (3 : Int32))), .unset, .unset, .unset, .unset, .unset, .unset, .unset] [(.int (x4 &&& (2 : Int32)))])) t := by
      intro m1_l5 t hAm1_l5 hBm1_l5 kk
      by_cases hq9 : (x4 &&& (2 : Int32)) = (0 : Int32)
      · rw [hAm1_l5 hq9] at kk
        refine XS.ifYes X0.here hx rfl (pc0 := 9) (pc' := 15) rfl (hb hby at_9) rfl ((if0 _ _).trans (teq hq9).1) (by decide) (by decide) ?_
        exact kk
      · rw [hBm1_l5 hq9] at kk
        refine XS.ifNo X0.here hx rfl (hb hby at_9) rfl ((if0 _ _).trans (feq hq9).1) ?_
        show Steps p.tables e below (s₁.setTop (mkF m 12 #[.val (.int x0), .val (.int x1), .val (.int x2), .val (.int x3), .val (.int x4), .val (.int (x0 &&& (3 : Int32))), .unset, .unset, .unset, .unset, .unset, .unset, .unset] [])) _
        refine XS.iconst X0.here hx rfl (hb hby at_12) ?_
        show Steps p.tables e below (s₁.setTop (mkF m 13 #[.val (.int x0), .val (.int x1), .val (.int x2), .val (.int x3), .val (.int x4), .val (.int (x0 &&& (3 : Int32))), .unset, .unset, .unset, .unset, .unset, .unset, .unset] [(.int (1 : Int32))])) _
        refine XS.istore X0.here hx rfl (hb hby at_13) rfl (l' := #[.val (.int x0), .val (.int x1), .val (.int x2), .val (.int x3), .val (.int x4), .val (.int (1 : Int32)), .unset, .unset, .unset, .unset, .unset, .unset, .unset]) rfl ?_
        exact kk
    refine k1 m1_l5 _ (fun h => by rw [em1_l5, if_pos h]) (fun h => by rw [em1_l5, if_neg h]) ?_
    show Steps p.tables e below (s₁.setTop (mkF m 15 #[.val (.int x0), .val (.int x1), .val (.int x2), .val (.int x3), .val (.int x4), .val (.int m1_l5), .unset, .unset, .unset, .unset, .unset, .unset, .unset] [])) _
    rw [show m1_l5 = (1 : Int32) from em1_l5.trans hn]
    show Steps p.tables e below (s₁.setTop (mkF m 15 #[.val (.int x0), .val (.int x1), .val (.int x2), .val (.int x3), .val (.int x4), .val (.int (1 : Int32)), .unset, .unset, .unset, .unset, .unset, .unset, .unset] [])) _
    refine XS.iloadN X0.here hx rfl (hb hby at_15) rfl ?_
    show Steps p.tables e below (s₁.setTop (mkF m 16 #[.val (.int x0), .val (.int x1), .val (.int x2), .val (.int x3), .val (.int x4), .val (.int (1 : Int32)), .unset, .unset, .unset, .unset, .unset, .unset, .unset] [(.int x1)])) _
    refine XS.sipush X0.here hx rfl (hb hby at_16) ?_
    show Steps p.tables e below (s₁.setTop (mkF m 19 #[.val (.int x0), .val (.int x1), .val (.int x2), .val (.int x3), .val (.int x4), .val (.int (1 : Int32)), .unset, .unset, .unset, .unset, .unset, .unset, .unset] [(.int (255 : Int32)), (.int x1)])) _
    refine XS.iand X0.here hx rfl (hb hby at_19) rfl ?_
    show Steps p.tables e below (s₁.setTop (mkF m 20 #[.val (.int x0), .val (.int x1), .val (.int x2), .val (.int x3), .val (.int x4), .val (.int (1 : Int32)), .unset, .unset, .unset, .unset, .unset, .unset, .unset] [(.int (x1 &&& (255 : Int32)))])) _
    refine XS.i2c X0.here hx rfl (hb hby at_20) rfl ?_
    show Steps p.tables e below (s₁.setTop (mkF m 21 #[.val (.int x0), .val (.int x1), .val (.int x2), .val (.int x3), .val (.int x4), .val (.int (1 : Int32)), .unset, .unset, .unset, .unset, .unset, .unset, .unset] [(.int ((x1 &&& (255 : Int32)).toUInt32.toUInt16.toUInt32.toInt32))])) _
    refine XS.istore X0.here hx rfl (hb hby at_21) rfl (l' := #[.val (.int x0), .val (.int x1), .val (.int x2), .val (.int x3), .val (.int x4), .val (.int (1 : Int32)), .val (.int ((x1 &&& (255 : Int32)).toUInt32.toUInt16.toUInt32.toInt32)), .unset, .unset, .unset, .unset, .unset, .unset]) rfl ?_
    show Steps p.tables e below (s₁.setTop (mkF m 23 #[.val (.int x0), .val (.int x1), .val (.int x2), .val (.int x3), .val (.int x4), .val (.int (1 : Int32)), .val (.int ((x1 &&& (255 : Int32)).toUInt32.toUInt16.toUInt32.toInt32)), .unset, .unset, .unset, .unset, .unset, .unset] [])) _
    refine XS.iload X0.here hx rfl (hb hby at_23) rfl ?_
    show Steps p.tables e below (s₁.setTop (mkF m 25 #[.val (.int x0), .val (.int x1), .val (.int x2), .val (.int x3), .val (.int x4), .val (.int (1 : Int32)), .val (.int ((x1 &&& (255 : Int32)).toUInt32.toUInt16.toUInt32.toInt32)), .unset, .unset, .unset, .unset, .unset, .unset] [(.int x4)])) _
    refine XS.iconst X0.here hx rfl (hb hby at_25) ?_
    show Steps p.tables e below (s₁.setTop (mkF m 26 #[.val (.int x0), .val (.int x1), .val (.int x2), .val (.int x3), .val (.int x4), .val (.int (1 : Int32)), .val (.int ((x1 &&& (255 : Int32)).toUInt32.toUInt16.toUInt32.toInt32)), .unset, .unset, .unset, .unset, .unset, .unset] [(.int (1 : Int32)), (.int x4)])) _
    refine XS.iand X0.here hx rfl (hb hby at_26) rfl ?_
    show Steps p.tables e below (s₁.setTop (mkF m 27 #[.val (.int x0), .val (.int x1), .val (.int x2), .val (.int x3), .val (.int x4), .val (.int (1 : Int32)), .val (.int ((x1 &&& (255 : Int32)).toUInt32.toUInt16.toUInt32.toInt32)), .unset, .unset, .unset, .unset, .unset, .unset] [(.int (x4 &&& (1 : Int32)))])) _
    have k2 : ∀ (m2_l6 : Int32) t, ((x4 &&& (1 : Int32)) = (0 : Int32) → m2_l6 = ((x1 &&& (255 : Int32)).toUInt32.toUInt16.toUInt32.toInt32)) → (¬ ((x4 &&& (1 : Int32)) = (0 : Int32)) → m2_l6 = (45 : Int32)) → Steps p.tables e below (s₁.setTop (mkF m 34 #[.val (.int x0), .val (.int x1), .val (.int x2), .val (.int x3), .val (.int x4), .val (.int (1 : Int32)), .val (.int m2_l6), .unset, .unset, .unset, .unset, .unset, .unset] [])) t → Steps p.tables e below (s₁.setTop (mkF m 27 #[.val (.int x0), .val (.int x1), .val (.int x2), .val (.int x3), .val (.int x4), .val (.int (1 : Int32)), .val (.int ((x1 &&& (255 : Int32)).toUInt32.toUInt16.toUInt32.toInt32)), .unset, .unset, .unset, .unset, .unset, .unset] [(.int (x4 &&& (1 : Int32)))])) t := by
      intro m2_l6 t hAm2_l6 hBm2_l6 kk
      by_cases hq27 : (x4 &&& (1 : Int32)) = (0 : Int32)
      · rw [hAm2_l6 hq27] at kk
        refine XS.ifYes X0.here hx rfl (pc0 := 27) (pc' := 34) rfl (hb hby at_27) rfl ((if0 _ _).trans (teq hq27).1) (by decide) (by decide) ?_
        exact kk
      · rw [hBm2_l6 hq27] at kk
        refine XS.ifNo X0.here hx rfl (hb hby at_27) rfl ((if0 _ _).trans (feq hq27).1) ?_
        show Steps p.tables e below (s₁.setTop (mkF m 30 #[.val (.int x0), .val (.int x1), .val (.int x2), .val (.int x3), .val (.int x4), .val (.int (1 : Int32)), .val (.int ((x1 &&& (255 : Int32)).toUInt32.toUInt16.toUInt32.toInt32)), .unset, .unset, .unset, .unset, .unset, .unset] [])) _
        refine XS.bipush X0.here hx rfl (hb hby at_30) ?_
        show Steps p.tables e below (s₁.setTop (mkF m 32 #[.val (.int x0), .val (.int x1), .val (.int x2), .val (.int x3), .val (.int x4), .val (.int (1 : Int32)), .val (.int ((x1 &&& (255 : Int32)).toUInt32.toUInt16.toUInt32.toInt32)), .unset, .unset, .unset, .unset, .unset, .unset] [(.int (45 : Int32))])) _
        refine XS.istore X0.here hx rfl (hb hby at_32) rfl (l' := #[.val (.int x0), .val (.int x1), .val (.int x2), .val (.int x3), .val (.int x4), .val (.int (1 : Int32)), .val (.int (45 : Int32)), .unset, .unset, .unset, .unset, .unset, .unset]) rfl ?_
        exact kk
    refine k2 m2_l6 _ (fun h => by rw [em2_l6, if_pos h]) (fun h => by rw [em2_l6, if_neg h]) ?_
    show Steps p.tables e below (s₁.setTop (mkF m 34 #[.val (.int x0), .val (.int x1), .val (.int x2), .val (.int x3), .val (.int x4), .val (.int (1 : Int32)), .val (.int m2_l6), .unset, .unset, .unset, .unset, .unset, .unset] [])) _
    rw [show m2_l6 = C0 from em2_l6.trans eC0.symm]
    show Steps p.tables e below (s₁.setTop (mkF m 34 #[.val (.int x0), .val (.int x1), .val (.int x2), .val (.int x3), .val (.int x4), .val (.int (1 : Int32)), .val (.int C0), .unset, .unset, .unset, .unset, .unset, .unset] [])) _
    refine XS.iloadN X0.here hx rfl (hb hby at_34) rfl ?_
    show Steps p.tables e below (s₁.setTop (mkF m 35 #[.val (.int x0), .val (.int x1), .val (.int x2), .val (.int x3), .val (.int x4), .val (.int (1 : Int32)), .val (.int C0), .unset, .unset, .unset, .unset, .unset, .unset] [(.int x2)])) _
    refine XS.sipush X0.here hx rfl (hb hby at_35) ?_
    show Steps p.tables e below (s₁.setTop (mkF m 38 #[.val (.int x0), .val (.int x1), .val (.int x2), .val (.int x3), .val (.int x4), .val (.int (1 : Int32)), .val (.int C0), .unset, .unset, .unset, .unset, .unset, .unset] [(.int (255 : Int32)), (.int x2)])) _
    refine XS.iand X0.here hx rfl (hb hby at_38) rfl ?_
    show Steps p.tables e below (s₁.setTop (mkF m 39 #[.val (.int x0), .val (.int x1), .val (.int x2), .val (.int x3), .val (.int x4), .val (.int (1 : Int32)), .val (.int C0), .unset, .unset, .unset, .unset, .unset, .unset] [(.int (x2 &&& (255 : Int32)))])) _
    refine XS.i2c X0.here hx rfl (hb hby at_39) rfl ?_
    show Steps p.tables e below (s₁.setTop (mkF m 40 #[.val (.int x0), .val (.int x1), .val (.int x2), .val (.int x3), .val (.int x4), .val (.int (1 : Int32)), .val (.int C0), .unset, .unset, .unset, .unset, .unset, .unset] [(.int ((x2 &&& (255 : Int32)).toUInt32.toUInt16.toUInt32.toInt32))])) _
    refine XS.istore X0.here hx rfl (hb hby at_40) rfl (l' := #[.val (.int x0), .val (.int x1), .val (.int x2), .val (.int x3), .val (.int x4), .val (.int (1 : Int32)), .val (.int C0), .val (.int ((x2 &&& (255 : Int32)).toUInt32.toUInt16.toUInt32.toInt32)), .unset, .unset, .unset, .unset, .unset]) rfl ?_
    show Steps p.tables e below (s₁.setTop (mkF m 42 #[.val (.int x0), .val (.int x1), .val (.int x2), .val (.int x3), .val (.int x4), .val (.int (1 : Int32)), .val (.int C0), .val (.int ((x2 &&& (255 : Int32)).toUInt32.toUInt16.toUInt32.toInt32)), .unset, .unset, .unset, .unset, .unset] [])) _
    refine XS.iload X0.here hx rfl (hb hby at_42) rfl ?_
    show Steps p.tables e below (s₁.setTop (mkF m 44 #[.val (.int x0), .val (.int x1), .val (.int x2), .val (.int x3), .val (.int x4), .val (.int (1 : Int32)), .val (.int C0), .val (.int ((x2 &&& (255 : Int32)).toUInt32.toUInt16.toUInt32.toInt32)), .unset, .unset, .unset, .unset, .unset] [(.int x4)])) _
    refine XS.iconst X0.here hx rfl (hb hby at_44) ?_
    show Steps p.tables e below (s₁.setTop (mkF m 45 #[.val (.int x0), .val (.int x1), .val (.int x2), .val (.int x3), .val (.int x4), .val (.int (1 : Int32)), .val (.int C0), .val (.int ((x2 &&& (255 : Int32)).toUInt32.toUInt16.toUInt32.toInt32)), .unset, .unset, .unset, .unset, .unset] [(.int (4 : Int32)), (.int x4)])) _
    refine XS.iand X0.here hx rfl (hb hby at_45) rfl ?_
    show Steps p.tables e below (s₁.setTop (mkF m 46 #[.val (.int x0), .val (.int x1), .val (.int x2), .val (.int x3), .val (.int x4), .val (.int (1 : Int32)), .val (.int C0), .val (.int ((x2 &&& (255 : Int32)).toUInt32.toUInt16.toUInt32.toInt32)), .unset, .unset, .unset, .unset, .unset] [(.int (x4 &&& (4 : Int32)))])) _
    have k3 : ∀ (m3_l7 : Int32) t, ((x4 &&& (4 : Int32)) = (0 : Int32) → m3_l7 = ((x2 &&& (255 : Int32)).toUInt32.toUInt16.toUInt32.toInt32)) → (¬ ((x4 &&& (4 : Int32)) = (0 : Int32)) → m3_l7 = (45 : Int32)) → Steps p.tables e below (s₁.setTop (mkF m 53 #[.val (.int x0), .val (.int x1), .val (.int x2), .val (.int x3), .val (.int x4), .val (.int (1 : Int32)), .val (.int C0), .val (.int m3_l7), .unset, .unset, .unset, .unset, .unset] [])) t → Steps p.tables e below (s₁.setTop (mkF m 46 #[.val (.int x0), .val (.int x1), .val (.int x2), .val (.int x3), .val (.int x4), .val (.int (1 : Int32)), .val (.int C0), .val (.int ((x2 &&& (255 : Int32)).toUInt32.toUInt16.toUInt32.toInt32)), .unset, .unset, .unset, .unset, .unset] [(.int (x4 &&& (4 : Int32)))])) t := by
      intro m3_l7 t hAm3_l7 hBm3_l7 kk
      by_cases hq46 : (x4 &&& (4 : Int32)) = (0 : Int32)
      · rw [hAm3_l7 hq46] at kk
        refine XS.ifYes X0.here hx rfl (pc0 := 46) (pc' := 53) rfl (hb hby at_46) rfl ((if0 _ _).trans (teq hq46).1) (by decide) (by decide) ?_
        exact kk
      · rw [hBm3_l7 hq46] at kk
        refine XS.ifNo X0.here hx rfl (hb hby at_46) rfl ((if0 _ _).trans (feq hq46).1) ?_
        show Steps p.tables e below (s₁.setTop (mkF m 49 #[.val (.int x0), .val (.int x1), .val (.int x2), .val (.int x3), .val (.int x4), .val (.int (1 : Int32)), .val (.int C0), .val (.int ((x2 &&& (255 : Int32)).toUInt32.toUInt16.toUInt32.toInt32)), .unset, .unset, .unset, .unset, .unset] [])) _
        refine XS.bipush X0.here hx rfl (hb hby at_49) ?_
        show Steps p.tables e below (s₁.setTop (mkF m 51 #[.val (.int x0), .val (.int x1), .val (.int x2), .val (.int x3), .val (.int x4), .val (.int (1 : Int32)), .val (.int C0), .val (.int ((x2 &&& (255 : Int32)).toUInt32.toUInt16.toUInt32.toInt32)), .unset, .unset, .unset, .unset, .unset] [(.int (45 : Int32))])) _
        refine XS.istore X0.here hx rfl (hb hby at_51) rfl (l' := #[.val (.int x0), .val (.int x1), .val (.int x2), .val (.int x3), .val (.int x4), .val (.int (1 : Int32)), .val (.int C0), .val (.int (45 : Int32)), .unset, .unset, .unset, .unset, .unset]) rfl ?_
        exact kk
    refine k3 m3_l7 _ (fun h => by rw [em3_l7, if_pos h]) (fun h => by rw [em3_l7, if_neg h]) ?_
    show Steps p.tables e below (s₁.setTop (mkF m 53 #[.val (.int x0), .val (.int x1), .val (.int x2), .val (.int x3), .val (.int x4), .val (.int (1 : Int32)), .val (.int C0), .val (.int m3_l7), .unset, .unset, .unset, .unset, .unset] [])) _
    rw [show m3_l7 = C1 from em3_l7.trans eC1.symm]
    show Steps p.tables e below (s₁.setTop (mkF m 53 #[.val (.int x0), .val (.int x1), .val (.int x2), .val (.int x3), .val (.int x4), .val (.int (1 : Int32)), .val (.int C0), .val (.int C1), .unset, .unset, .unset, .unset, .unset] [])) _
    refine XS.iloadN X0.here hx rfl (hb hby at_53) rfl ?_
    show Steps p.tables e below (s₁.setTop (mkF m 54 #[.val (.int x0), .val (.int x1), .val (.int x2), .val (.int x3), .val (.int x4), .val (.int (1 : Int32)), .val (.int C0), .val (.int C1), .unset, .unset, .unset, .unset, .unset] [(.int x3)])) _
    refine XS.sipush X0.here hx rfl (hb hby at_54) ?_
    show Steps p.tables e below (s₁.setTop (mkF m 57 #[.val (.int x0), .val (.int x1), .val (.int x2), .val (.int x3), .val (.int x4), .val (.int (1 : Int32)), .val (.int C0), .val (.int C1), .unset, .unset, .unset, .unset, .unset] [(.int (255 : Int32)), (.int x3)])) _
    refine XS.iand X0.here hx rfl (hb hby at_57) rfl ?_
    show Steps p.tables e below (s₁.setTop (mkF m 58 #[.val (.int x0), .val (.int x1), .val (.int x2), .val (.int x3), .val (.int x4), .val (.int (1 : Int32)), .val (.int C0), .val (.int C1), .unset, .unset, .unset, .unset, .unset] [(.int (x3 &&& (255 : Int32)))])) _
    refine XS.i2c X0.here hx rfl (hb hby at_58) rfl ?_
    show Steps p.tables e below (s₁.setTop (mkF m 59 #[.val (.int x0), .val (.int x1), .val (.int x2), .val (.int x3), .val (.int x4), .val (.int (1 : Int32)), .val (.int C0), .val (.int C1), .unset, .unset, .unset, .unset, .unset] [(.int ((x3 &&& (255 : Int32)).toUInt32.toUInt16.toUInt32.toInt32))])) _
    rw [← e_C2]
    show Steps p.tables e below (s₁.setTop (mkF m 59 #[.val (.int x0), .val (.int x1), .val (.int x2), .val (.int x3), .val (.int x4), .val (.int (1 : Int32)), .val (.int C0), .val (.int C1), .unset, .unset, .unset, .unset, .unset] [(.int C2)])) _
    refine XS.istore X0.here hx rfl (hb hby at_59) rfl (l' := #[.val (.int x0), .val (.int x1), .val (.int x2), .val (.int x3), .val (.int x4), .val (.int (1 : Int32)), .val (.int C0), .val (.int C1), .val (.int C2), .unset, .unset, .unset, .unset]) rfl ?_
    show Steps p.tables e below (s₁.setTop (mkF m 61 #[.val (.int x0), .val (.int x1), .val (.int x2), .val (.int x3), .val (.int x4), .val (.int (1 : Int32)), .val (.int C0), .val (.int C1), .val (.int C2), .unset, .unset, .unset, .unset] [])) _
    refine XS.iload X0.here hx rfl (hb hby at_61) rfl ?_
    show Steps p.tables e below (s₁.setTop (mkF m 63 #[.val (.int x0), .val (.int x1), .val (.int x2), .val (.int x3), .val (.int x4), .val (.int (1 : Int32)), .val (.int C0), .val (.int C1), .val (.int C2), .unset, .unset, .unset, .unset] [(.int (1 : Int32))])) _
    refine st4 _ ?_
    show Steps p.tables e below (T4.setTop (mkF m 65 #[.val (.int x0), .val (.int x1), .val (.int x2), .val (.int x3), .val (.int x4), .val (.int (1 : Int32)), .val (.int C0), .val (.int C1), .val (.int C2), .unset, .unset, .unset, .unset] [(.ref ch)])) _
    refine XS.astore X4.here hx rfl (hb hby at_65) rfl rfl (l' := #[.val (.int x0), .val (.int x1), .val (.int x2), .val (.int x3), .val (.int x4), .val (.int (1 : Int32)), .val (.int C0), .val (.int C1), .val (.int C2), .val (.ref ch), .unset, .unset, .unset]) rfl ?_
    show Steps p.tables e below (T4.setTop (mkF m 67 #[.val (.int x0), .val (.int x1), .val (.int x2), .val (.int x3), .val (.int x4), .val (.int (1 : Int32)), .val (.int C0), .val (.int C1), .val (.int C2), .val (.ref ch), .unset, .unset, .unset] [])) _
    refine XS.iload X4.here hx rfl (hb hby at_67) rfl ?_
    show Steps p.tables e below (T4.setTop (mkF m 69 #[.val (.int x0), .val (.int x1), .val (.int x2), .val (.int x3), .val (.int x4), .val (.int (1 : Int32)), .val (.int C0), .val (.int C1), .val (.int C2), .val (.ref ch), .unset, .unset, .unset] [(.int (1 : Int32))])) _
    refine XS.ifNo X4.here hx rfl (hb hby at_69) rfl ((if0 _ _).trans (tlt (by decide : (0 : Int32) < (1 : Int32))).2.2.2) ?_
    show Steps p.tables e below (T4.setTop (mkF m 72 #[.val (.int x0), .val (.int x1), .val (.int x2), .val (.int x3), .val (.int x4), .val (.int (1 : Int32)), .val (.int C0), .val (.int C1), .val (.int C2), .val (.ref ch), .unset, .unset, .unset] [])) _
    refine XS.aload X4.here hx rfl (hb hby at_72) rfl rfl ?_
    show Steps p.tables e below (T4.setTop (mkF m 74 #[.val (.int x0), .val (.int x1), .val (.int x2), .val (.int x3), .val (.int x4), .val (.int (1 : Int32)), .val (.int C0), .val (.int C1), .val (.int C2), .val (.ref ch), .unset, .unset, .unset] [(.ref ch)])) _
    refine XS.iconst X4.here hx rfl (hb hby at_74) ?_
    show Steps p.tables e below (T4.setTop (mkF m 75 #[.val (.int x0), .val (.int x1), .val (.int x2), .val (.int x3), .val (.int x4), .val (.int (1 : Int32)), .val (.int C0), .val (.int C1), .val (.int C2), .val (.ref ch), .unset, .unset, .unset] [(.int (0 : Int32)), (.ref ch)])) _
    refine XS.iload X4.here hx rfl (hb hby at_75) rfl ?_
    show Steps p.tables e below (T4.setTop (mkF m 77 #[.val (.int x0), .val (.int x1), .val (.int x2), .val (.int x3), .val (.int x4), .val (.int (1 : Int32)), .val (.int C0), .val (.int C1), .val (.int C2), .val (.ref ch), .unset, .unset, .unset] [(.int C0), (.int (0 : Int32)), (.ref ch)])) _
    refine st7 _ ?_
    show Steps p.tables e below (T7.setTop (mkF m 78 #[.val (.int x0), .val (.int x1), .val (.int x2), .val (.int x3), .val (.int x4), .val (.int (1 : Int32)), .val (.int C0), .val (.int C1), .val (.int C2), .val (.ref ch), .unset, .unset, .unset] [])) _
    refine XS.iload X7.here hx rfl (hb hby at_78) rfl ?_
    show Steps p.tables e below (T7.setTop (mkF m 80 #[.val (.int x0), .val (.int x1), .val (.int x2), .val (.int x3), .val (.int x4), .val (.int (1 : Int32)), .val (.int C0), .val (.int C1), .val (.int C2), .val (.ref ch), .unset, .unset, .unset] [(.int (1 : Int32))])) _
    refine XS.iconst X7.here hx rfl (hb hby at_80) ?_
    show Steps p.tables e below (T7.setTop (mkF m 81 #[.val (.int x0), .val (.int x1), .val (.int x2), .val (.int x3), .val (.int x4), .val (.int (1 : Int32)), .val (.int C0), .val (.int C1), .val (.int C2), .val (.ref ch), .unset, .unset, .unset] [(.int (1 : Int32)), (.int (1 : Int32))])) _
    refine XS.icmpYes X7.here hx rfl (pc0 := 81) (pc' := 90) rfl (hb hby at_81) rfl (flt (by decide : ¬ ((1 : Int32) < (1 : Int32)))).2.2.2 (by decide) (by decide) ?_
    show Steps p.tables e below (T7.setTop (mkF m 90 #[.val (.int x0), .val (.int x1), .val (.int x2), .val (.int x3), .val (.int x4), .val (.int (1 : Int32)), .val (.int C0), .val (.int C1), .val (.int C2), .val (.ref ch), .unset, .unset, .unset] [])) _
    refine XS.iload X7.here hx rfl (hb hby at_90) rfl ?_
    show Steps p.tables e below (T7.setTop (mkF m 92 #[.val (.int x0), .val (.int x1), .val (.int x2), .val (.int x3), .val (.int x4), .val (.int (1 : Int32)), .val (.int C0), .val (.int C1), .val (.int C2), .val (.ref ch), .unset, .unset, .unset] [(.int (1 : Int32))])) _
    refine XS.iconst X7.here hx rfl (hb hby at_92) ?_
    show Steps p.tables e below (T7.setTop (mkF m 93 #[.val (.int x0), .val (.int x1), .val (.int x2), .val (.int x3), .val (.int x4), .val (.int (1 : Int32)), .val (.int C0), .val (.int C1), .val (.int C2), .val (.ref ch), .unset, .unset, .unset] [(.int (2 : Int32)), (.int (1 : Int32))])) _
    refine XS.icmpYes X7.here hx rfl (pc0 := 93) (pc' := 102) rfl (hb hby at_93) rfl (flt (by decide : ¬ ((2 : Int32) < (1 : Int32)))).2.2.2 (by decide) (by decide) ?_
    show Steps p.tables e below (T7.setTop (mkF m 102 #[.val (.int x0), .val (.int x1), .val (.int x2), .val (.int x3), .val (.int x4), .val (.int (1 : Int32)), .val (.int C0), .val (.int C1), .val (.int C2), .val (.ref ch), .unset, .unset, .unset] [])) _
    refine st10 _ ?_
    show Steps p.tables e below (T10.setTop (mkF m 105 #[.val (.int x0), .val (.int x1), .val (.int x2), .val (.int x3), .val (.int x4), .val (.int (1 : Int32)), .val (.int C0), .val (.int C1), .val (.int C2), .val (.ref ch), .unset, .unset, .unset] [(.ref so)])) _
    refine XS.dup X10.here hx rfl (hb hby at_105) rfl rfl ?_
    show Steps p.tables e below (T10.setTop (mkF m 106 #[.val (.int x0), .val (.int x1), .val (.int x2), .val (.int x3), .val (.int x4), .val (.int (1 : Int32)), .val (.int C0), .val (.int C1), .val (.int C2), .val (.ref ch), .unset, .unset, .unset] [(.ref so), (.ref so)])) _
    refine XS.aload X10.here hx rfl (hb hby at_106) rfl rfl ?_
    show Steps p.tables e below (T10.setTop (mkF m 108 #[.val (.int x0), .val (.int x1), .val (.int x2), .val (.int x3), .val (.int x4), .val (.int (1 : Int32)), .val (.int C0), .val (.int C1), .val (.int C2), .val (.ref ch), .unset, .unset, .unset] [(.ref ch), (.ref so), (.ref so)])) _
    refine st13.trans ?_
    show Steps p.tables e below (T13.setTop (mkF m 111 #[.val (.int x0), .val (.int x1), .val (.int x2), .val (.int x3), .val (.int x4), .val (.int (1 : Int32)), .val (.int C0), .val (.int C1), .val (.int C2), .val (.ref ch), .unset, .unset, .unset] [(.ref so)])) _
    refine XS.astore X13.here hx rfl (hb hby at_111) rfl rfl (l' := #[.val (.int x0), .val (.int x1), .val (.int x2), .val (.int x3), .val (.int x4), .val (.int (1 : Int32)), .val (.int C0), .val (.int C1), .val (.int C2), .val (.ref ch), .val (.ref so), .unset, .unset]) rfl ?_
    show Steps p.tables e below (T13.setTop (mkF m 113 #[.val (.int x0), .val (.int x1), .val (.int x2), .val (.int x3), .val (.int x4), .val (.int (1 : Int32)), .val (.int C0), .val (.int C1), .val (.int C2), .val (.ref ch), .val (.ref so), .unset, .unset] [])) _
    refine XS.aload X13.here hx rfl (hb hby at_113) rfl rfl ?_
    show Steps p.tables e below (T13.setTop (mkF m 115 #[.val (.int x0), .val (.int x1), .val (.int x2), .val (.int x3), .val (.int x4), .val (.int (1 : Int32)), .val (.int C0), .val (.int C1), .val (.int C2), .val (.ref ch), .val (.ref so), .unset, .unset] [(.ref so)])) _
    refine st16.trans ?_
    show Steps p.tables e below (T16.setTop (mkF m 118 #[.val (.int x0), .val (.int x1), .val (.int x2), .val (.int x3), .val (.int x4), .val (.int (1 : Int32)), .val (.int C0), .val (.int C1), .val (.int C2), .val (.ref ch), .val (.ref so), .unset, .unset] [(.ref rn)])) _
    refine XS.astore X16.here hx rfl (hb hby at_118) rfl rfl (l' := #[.val (.int x0), .val (.int x1), .val (.int x2), .val (.int x3), .val (.int x4), .val (.int (1 : Int32)), .val (.int C0), .val (.int C1), .val (.int C2), .val (.ref ch), .val (.ref so), .val (.ref rn), .unset]) rfl ?_
    show Steps p.tables e below (T16.setTop (mkF m 120 #[.val (.int x0), .val (.int x1), .val (.int x2), .val (.int x3), .val (.int x4), .val (.int (1 : Int32)), .val (.int C0), .val (.int C1), .val (.int C2), .val (.ref ch), .val (.ref so), .val (.ref rn), .unset] [])) _
    refine XS.aload X16.here hx rfl (hb hby at_120) rfl rfl ?_
    show Steps p.tables e below (T16.setTop (mkF m 122 #[.val (.int x0), .val (.int x1), .val (.int x2), .val (.int x3), .val (.int x4), .val (.int (1 : Int32)), .val (.int C0), .val (.int C1), .val (.int C2), .val (.ref ch), .val (.ref so), .val (.ref rn), .unset] [(.ref rn)])) _
    refine XS.ifnonnullYes X16.here hx rfl (pc0 := 122) (pc' := 127) rfl (hb hby at_122) rfl (by decide) (by decide) ?_
    show Steps p.tables e below (T16.setTop (mkF m 127 #[.val (.int x0), .val (.int x1), .val (.int x2), .val (.int x3), .val (.int x4), .val (.int (1 : Int32)), .val (.int C0), .val (.int C1), .val (.int C2), .val (.ref ch), .val (.ref so), .val (.ref rn), .unset] [])) _
    refine XS.aload X16.here hx rfl (hb hby at_127) rfl rfl ?_
    show Steps p.tables e below (T16.setTop (mkF m 129 #[.val (.int x0), .val (.int x1), .val (.int x2), .val (.int x3), .val (.int x4), .val (.int (1 : Int32)), .val (.int C0), .val (.int C1), .val (.int C2), .val (.ref ch), .val (.ref so), .val (.ref rn), .unset] [(.ref so)])) _
    refine st18.trans ?_
    show Steps p.tables e below (T18.setTop (mkF m 132 #[.val (.int x0), .val (.int x1), .val (.int x2), .val (.int x3), .val (.int x4), .val (.int (1 : Int32)), .val (.int C0), .val (.int C1), .val (.int C2), .val (.ref ch), .val (.ref so), .val (.ref rn), .unset] [(.int (1 : Int32))])) _
    refine XS.iconst X18.here hx rfl (hb hby at_132) ?_
    show Steps p.tables e below (T18.setTop (mkF m 133 #[.val (.int x0), .val (.int x1), .val (.int x2), .val (.int x3), .val (.int x4), .val (.int (1 : Int32)), .val (.int C0), .val (.int C1), .val (.int C2), .val (.ref ch), .val (.ref so), .val (.ref rn), .unset] [(.int (1 : Int32)), (.int (1 : Int32))])) _
    refine XS.icmpNo X18.here hx rfl (hb hby at_133) rfl (teq (by decide : (1 : Int32) = (1 : Int32))).2 ?_
    show Steps p.tables e below (T18.setTop (mkF m 136 #[.val (.int x0), .val (.int x1), .val (.int x2), .val (.int x3), .val (.int x4), .val (.int (1 : Int32)), .val (.int C0), .val (.int C1), .val (.int C2), .val (.ref ch), .val (.ref so), .val (.ref rn), .unset] [])) _
    refine XS.aload X18.here hx rfl (hb hby at_136) rfl rfl ?_
    show Steps p.tables e below (T18.setTop (mkF m 138 #[.val (.int x0), .val (.int x1), .val (.int x2), .val (.int x3), .val (.int x4), .val (.int (1 : Int32)), .val (.int C0), .val (.int C1), .val (.int C2), .val (.ref ch), .val (.ref so), .val (.ref rn), .unset] [(.ref so)])) _
    refine XS.iconst X18.here hx rfl (hb hby at_138) ?_
    show Steps p.tables e below (T18.setTop (mkF m 139 #[.val (.int x0), .val (.int x1), .val (.int x2), .val (.int x3), .val (.int x4), .val (.int (1 : Int32)), .val (.int C0), .val (.int C1), .val (.int C2), .val (.ref ch), .val (.ref so), .val (.ref rn), .unset] [(.int (0 : Int32)), (.ref so)])) _
    refine st19.trans ?_
    show Steps p.tables e below (T19.setTop (mkF m 142 #[.val (.int x0), .val (.int x1), .val (.int x2), .val (.int x3), .val (.int x4), .val (.int (1 : Int32)), .val (.int C0), .val (.int C1), .val (.int C2), .val (.ref ch), .val (.ref so), .val (.ref rn), .unset] [(.int (own_c (own_b C0)))])) _
    refine XS.bipush X19.here hx rfl (hb hby at_142) ?_
    show Steps p.tables e below (T19.setTop (mkF m 144 #[.val (.int x0), .val (.int x1), .val (.int x2), .val (.int x3), .val (.int x4), .val (.int (1 : Int32)), .val (.int C0), .val (.int C1), .val (.int C2), .val (.ref ch), .val (.ref so), .val (.ref rn), .unset] [(.int (45 : Int32)), (.int (own_c (own_b C0)))])) _
    refine XS.icmpNo X19.here hx rfl (hb hby at_144) rfl (teq hcc).2 ?_
    show Steps p.tables e below (T19.setTop (mkF m 147 #[.val (.int x0), .val (.int x1), .val (.int x2), .val (.int x3), .val (.int x4), .val (.int (1 : Int32)), .val (.int C0), .val (.int C1), .val (.int C2), .val (.ref ch), .val (.ref so), .val (.ref rn), .unset] [])) _
    refine XS.iconst X19.here hx rfl (hb hby at_147) ?_
    show Steps p.tables e below (T19.setTop (mkF m 148 #[.val (.int x0), .val (.int x1), .val (.int x2), .val (.int x3), .val (.int x4), .val (.int (1 : Int32)), .val (.int C0), .val (.int C1), .val (.int C2), .val (.ref ch), .val (.ref so), .val (.ref rn), .unset] [(.int (1 : Int32))])) _
    refine XS.goto X19.here hx rfl (pc0 := 148) (pc' := 152) rfl (hb hby at_148) (by decide) (by decide) ?_
    show Steps p.tables e below (T19.setTop (mkF m 152 #[.val (.int x0), .val (.int x1), .val (.int x2), .val (.int x3), .val (.int x4), .val (.int (1 : Int32)), .val (.int C0), .val (.int C1), .val (.int C2), .val (.ref ch), .val (.ref so), .val (.ref rn), .unset] [(.int (1 : Int32))])) _
    refine XS.istore X19.here hx rfl (hb hby at_152) rfl (l' := #[.val (.int x0), .val (.int x1), .val (.int x2), .val (.int x3), .val (.int x4), .val (.int (1 : Int32)), .val (.int C0), .val (.int C1), .val (.int C2), .val (.ref ch), .val (.ref so), .val (.ref rn), .val (.int (1 : Int32))]) rfl ?_
    show Steps p.tables e below (T19.setTop (mkF m 154 #[.val (.int x0), .val (.int x1), .val (.int x2), .val (.int x3), .val (.int x4), .val (.int (1 : Int32)), .val (.int C0), .val (.int C1), .val (.int C2), .val (.ref ch), .val (.ref so), .val (.ref rn), .val (.int (1 : Int32))] [])) _
    refine XS.iload X19.here hx rfl (hb hby at_154) rfl ?_
    show Steps p.tables e below (T19.setTop (mkF m 156 #[.val (.int x0), .val (.int x1), .val (.int x2), .val (.int x3), .val (.int x4), .val (.int (1 : Int32)), .val (.int C0), .val (.int C1), .val (.int C2), .val (.ref ch), .val (.ref so), .val (.ref rn), .val (.int (1 : Int32))] [(.int (1 : Int32))])) _
    refine XS.ifNo X19.here hx rfl (hb hby at_156) rfl ((if0 _ _).trans (feq (by decide : ¬ ((1 : Int32) = (0 : Int32)))).1) ?_
    show Steps p.tables e below (T19.setTop (mkF m 159 #[.val (.int x0), .val (.int x1), .val (.int x2), .val (.int x3), .val (.int x4), .val (.int (1 : Int32)), .val (.int C0), .val (.int C1), .val (.int C2), .val (.ref ch), .val (.ref so), .val (.ref rn), .val (.int (1 : Int32))] [])) _
    refine XS.aload X19.here hx rfl (hb hby at_159) rfl rfl ?_
    show Steps p.tables e below (T19.setTop (mkF m 161 #[.val (.int x0), .val (.int x1), .val (.int x2), .val (.int x3), .val (.int x4), .val (.int (1 : Int32)), .val (.int C0), .val (.int C1), .val (.int C2), .val (.ref ch), .val (.ref so), .val (.ref rn), .val (.int (1 : Int32))] [(.ref rn)])) _
    refine st20 _ ?_
    show Steps p.tables e below (T20.setTop (mkF m 163 #[.val (.int x0), .val (.int x1), .val (.int x2), .val (.int x3), .val (.int x4), .val (.int (1 : Int32)), .val (.int C0), .val (.int C1), .val (.int C2), .val (.ref ch), .val (.ref so), .val (.ref rn), .val (.int (1 : Int32))] [(.ref lc), (.ref rn)])) _
    refine st22.trans ?_
    show Steps p.tables e below (T22.setTop (mkF m 166 #[.val (.int x0), .val (.int x1), .val (.int x2), .val (.int x3), .val (.int x4), .val (.int (1 : Int32)), .val (.int C0), .val (.int C1), .val (.int C2), .val (.ref ch), .val (.ref so), .val (.ref rn), .val (.int (1 : Int32))] [(.int (1 : Int32))])) _
    exact retN X22 hx (t := .boolean) Bd.returns (by simp) (hb hby at_166) hr
  · exact ⟨rfl, N22⟩
  · have eT : (T22.setFrames fs).heap = h20 := e22
    rw [eT, hh]; exact Rend
set_option maxRecDepth 65536 in
set_option maxHeartbeats 40000000 in
theorem rm0_1n (l : Launch) (Z : State) (a0 : Array Value) (hw : ∀ d ∈ tables_1, d.before a0 Z = true) (ws : List Jvm.Cond) (x0 : Int32) (x1 : Int32) (x2 : Int32) (x3 : Int32) (x4 : Int32) (cs C0 C1 : Int32) (fmv : Value) (h0 : Heap) (n0 : Nat) (Z0 : n0 ≤ h0.size) (hn : (if (x4 &&& (2 : Int32)) = (0 : Int32) then (x0 &&& (3 : Int32)) else (1 : Int32)) = (1 : Int32)) (hd : ¬ (C0 = (45 : Int32))) (O0 : Old Z n0 h0) (S_CS : Sta Z Z.heap "java/lang/String" "COMPACT_STRINGS" "Z" (.int cs)) (hcs : ¬ (cs = (0 : Int32))) (S_FM : Sta Z Z.heap "jdk/internal/util/Preconditions" "SIOOBE_FORMATTER" "Ljava/util/function/BiFunction;" fmv) (hfm : fmv.isRef = true) (eC0 : C0 = (if (x4 &&& (1 : Int32)) = (0 : Int32) then ((x1 &&& (255 : Int32)).toUInt32.toUInt16.toUInt32.toInt32) else (45 : Int32))) (eC1 : C1 = (if (x4 &&& (4 : Int32)) = (0 : Int32) then ((x2 &&& (255 : Int32)).toUInt32.toUInt16.toUInt32.toInt32) else (45 : Int32))) :
    MetFree l x (head1 (Jvm.Cond.code x code maxLocals ret :: ws) room_1) (fun a U => a = #[(.int x0), (.int x1), (.int x2), (.int x3), (.int x4)] ∧ Z.Warmed39 U.vm ∧ U.heap = h0 ∧ CHv Z consts_1 U.vm h0) (fun _ _ _ _ _ => True) (fun _ U o U' => ∃ v L, o = .returned v ∧ (QL n0 v U'.heap L) ∧ CHr Z consts_1 U.vm U.heap U'.vm U'.heap ∧ ReturnedEndW U o U' L room_1.cells room_1.slots) := by
  refine MetFree.of_bodySF (plainFor_of_name pn_0) hisR ?_
  intro p e s m args below meth c s₁ Bd hml0 hP hK
  obtain ⟨rfl, hZ, hh, C0v⟩ := hP
  have hx := Bd.exec
  have hby := Bd.bytes
  have hml : c.maxLocals = 13 := hml0
  have hown : (s.setVm s.vm).vm.findClass "com/example/skylattice/skylattice/cli/InputArgumentNamePinLaw" = some m.cls := findClass_of_methodNamed Bd.named
  have hnm := (name_of_methodNamed Bd.named Bd.method).1
  have X0 : Stand p l e room_1 (s.setVm s.vm) m #[(.int x0), (.int x1), (.int x2), (.int x3), (.int x4)] below meth c s₁ [] 0 0 := Stand.of_body Bd
  have e0 : s₁.heap = h0 := by rw [← hh, Bd.state]; rfl
  have N0 := Fr.nil n0
  have hS0 : s.Since s.vm 0 := (State.WarmedH.refl s).since 0
  have hk0 : 0 ≤ h0.size := Nat.zero_le _
  have R0v := CHr.refl C0v
  have pre0 : ∀ t, Steps p.tables e below (s₁.setTop (mkF m 0 #[.val (.int x0), .val (.int x1), .val (.int x2), .val (.int x3), .val (.int x4), .unset, .unset, .unset, .unset, .unset, .unset, .unset, .unset] [])) t → Steps p.tables e below (s₁.setTop (entryFrame m #[(.int x0), (.int x1), (.int x2), (.int x3), (.int x4)] maxLocals)) t := fun t k => castTop (ef_0 m x0 x1 x2 x3 x4) k
  have hC0 : 0 ≤ C0.toInt ∧ C0.toInt ≤ 255 := by
    rw [eC0]; split
    · exact own_chr _
    · decide
  have hC1 : 0 ≤ C1.toInt ∧ C1.toInt ≤ 255 := by
    rw [eC1]; split
    · exact own_chr _
    · decide
  obtain ⟨nC0, hc0, hz0⟩ := own_narc C0 hC0
  obtain ⟨nC1, hc1, hz1⟩ := own_narc C1 hC1
  obtain ⟨cb1, cb2⟩ := own_cb C0 hc0 hz0
  have hu : ¬ (own_b C0 = (45 : Int32)) := fun q => hd (cb2.mp q)
  have hcc : ¬ (own_c (own_b C0) = (45 : Int32)) := fun q => hd (cb1.symm.trans q)
  obtain ⟨m1_l5, em1_l5⟩ : ∃ z : Int32, z = (if (x4 &&& (2 : Int32)) = (0 : Int32) then (x0 &&& (3 : Int32)) else (1 : Int32)) := ⟨_, rfl⟩
  obtain ⟨m2_l6, em2_l6⟩ : ∃ z : Int32, z = (if (x4 &&& (1 : Int32)) = (0 : Int32) then ((x1 &&& (255 : Int32)).toUInt32.toUInt16.toUInt32.toInt32) else (45 : Int32)) := ⟨_, rfl⟩
  obtain ⟨m3_l7, em3_l7⟩ : ∃ z : Int32, z = (if (x4 &&& (4 : Int32)) = (0 : Int32) then ((x2 &&& (255 : Int32)).toUInt32.toUInt16.toUInt32.toInt32) else (45 : Int32)) := ⟨_, rfl⟩
  obtain ⟨C2, e_C2⟩ : ∃ z : Int32, z = ((x3 &&& (255 : Int32)).toUInt32.toUInt16.toUInt32.toInt32) := ⟨_, rfl⟩
  have hC2 : 0 ≤ C2.toInt ∧ C2.toInt ≤ 255 := by rw [e_C2]; exact own_chr _
  obtain ⟨nC2, hc2, hz2⟩ := own_narc C2 hC2
  obtain ⟨T4, h4, k4, X4, e4, E4, A4, st4⟩ := newP X0 hx hZ (hw _ (List.mem_of_getElem? (i := 0) rfl)) e0 (g := (mkF m 63 #[.val (.int x0), .val (.int x1), .val (.int x2), .val (.int x3), .val (.int x4), .val (.int (1 : Int32)), .val (.int C0), .val (.int C1), .val (.int C2), .unset, .unset, .unset, .unset] [(.int (1 : Int32))])) rfl (hb hby at_63) rfl (by decide) (cap := 1) (by decide) (by decide) (by decide) (by decide)
  obtain ⟨ch, g4⟩ : ∃ z, z = h0.size := ⟨_, rfl⟩
  rw [← g4] at A4 st4
  have V_ch_4 : Arv Z h4 ch k4 .char (1 : Int32) [(.int (0 : Int32))] (.int (0 : Int32)) := (Arv.new A4 (by decide)).pad (pad_rep [] (.int (0 : Int32)) 1)
  have g_ch : n0 ≤ ch := Nat.le_trans Z0 (Nat.le_of_eq g4.symm)
  have Cr6 := CHr.ext E4 C0v
  have C6v := Cr6.1
  have R6v := R0v.trans Cr6
  have hk6 := Nat.le_trans hk0 E4.1
  have old_5 : Old Z n0 h4 := O0.ext E4
  have siz_5 : n0 ≤ h4.size := Nat.le_trans Z0 E4.1
  have SfC : Safe Z consts_1 s.vm h4 ch := own_safe_arr (show Z.vm.Alike s.vm from hZ.alike) V_ch_4
  obtain ⟨T7, h7, L7, X7, e7, N7, W7, V7, st7⟩ := own_stC X4 hx hZ e4 V_ch_4 (j := (0 : Int32)) ⟨by decide, by decide⟩ (i := 0) rfl (Nat.le_of_ble_eq_true rfl) N0 g_ch (g := (mkF m 77 #[.val (.int x0), .val (.int x1), .val (.int x2), .val (.int x3), .val (.int x4), .val (.int (1 : Int32)), .val (.int C0), .val (.int C1), .val (.int C2), .val (.ref ch), .unset, .unset, .unset] [(.int C0), (.int (0 : Int32)), (.ref ch)])) rfl rfl (hb hby at_77)
  have Cr9 := CHr.wr W7 SfC C6v
  have Sf_ch_9 := Safe.wr W7 SfC C6v SfC
  have C9v := Cr9.1
  have R9v := R6v.trans Cr9
  have hk9 := Nat.le_trans hk6 (Keep.of_wr W7).1
  have old_8 : Old Z n0 h7 := old_5.wr W7 g_ch
  have siz_8 : n0 ≤ h7.size := Nat.le_trans siz_5 (Keep.of_wr W7).1
  have V_ch_7 : Arv Z h7 ch k4 .char (1 : Int32) [(.int (nar .char C0))] (.int (0 : Int32)) := V7
  rw [nC0] at V_ch_7
  obtain ⟨T10, h10, X10, e10, E10, A10, D10, -, st10⟩ := newO X7 hx hZ hown (hw _ (List.mem_of_getElem? (i := 1) rfl)) (hw _ (List.mem_of_getElem? (i := 2) rfl)) (hw _ (List.mem_of_getElem? (i := 3) rfl)) e7 (g := (mkF m 102 #[.val (.int x0), .val (.int x1), .val (.int x2), .val (.int x3), .val (.int x4), .val (.int (1 : Int32)), .val (.int C0), .val (.int C1), .val (.int C2), .val (.ref ch), .unset, .unset, .unset] [])) rfl (hb hby at_102) (by decide) (by decide)
  obtain ⟨so, g10⟩ : ∃ z, z = h7.size := ⟨_, rfl⟩
  rw [← g10] at A10 D10 st10
  have E_so_10 : Exa Z h10 so "java/lang/String" := A10
  have F_value_so_10 : Fld Z h10 so "java/lang/String" "value" "[B" .null := D10 (Or.inr (hw _ (List.mem_of_getElem? (i := 16) rfl))) (ty := (.array .byte)) (by decide)
  have F_coder_so_10 : Fld Z h10 so "java/lang/String" "coder" "B" (.int (0 : Int32)) := D10 (Or.inr (hw _ (List.mem_of_getElem? (i := 17) rfl))) (ty := .byte) (by decide)
  have lt_ch_so : ch < so := Nat.lt_of_lt_of_le V_ch_7.lt (Nat.le_of_eq g10.symm)
  have g_so : n0 ≤ so := Nat.le_trans siz_8 (Nat.le_of_eq g10.symm)
  have Cr12 := CHr.ext E10 C9v
  have Sf_ch_12 := Safe.ext E10 C9v Sf_ch_9
  have C12v := Cr12.1
  have R12v := R9v.trans Cr12
  have hk12 := Nat.le_trans hk9 E10.1
  have old_11 : Old Z n0 h10 := old_8.ext E10
  have siz_11 : n0 ≤ h10.size := Nat.le_trans siz_8 E10.1
  have V_ch_11 : Arv Z h10 ch k4 .char (1 : Int32) [(.int C0)] (.int (0 : Int32)) := V_ch_7.ext E10
  have SfS : Safe Z consts_1 s.vm h10 so := own_safe (show Z.vm.Alike s.vm from hZ.alike) E_so_10 F_value_so_10
  obtain ⟨_, _, ⟨T13, L13, k13, n13⟩, -, X13, ⟨Lc13, hQ13, l13, y13, z13⟩, st13⟩ := X10.specialBack hx (y := (⟨"java/lang/String", "<init>", "([C)V"⟩ : MethodName)) rfl hown (mvT hZ (hw _ (List.mem_of_getElem? (i := 4) rfl))) (mvT hZ (hw _ (List.mem_of_getElem? (i := 5) rfl))) (mvT hZ (hw _ (List.mem_of_getElem? (i := 6) rfl))) (by decide) (backOf (W := 1) (rms1_1 l Z a0 hw [] so ch k4 C0 cs h10 n0 siz_11 E_so_10 F_value_so_10 F_coder_so_10 V_ch_11 g_so (Ne.symm (Nat.ne_of_lt lt_ch_so)) hc0 old_11 S_CS hcs) hZ (hw _ (List.mem_of_getElem? (i := 6) rfl)) (hw _ (List.mem_of_getElem? (i := 3) rfl)) (by decide) (by decide)) (g := (mkF m 108 #[.val (.int x0), .val (.int x1), .val (.int x2), .val (.int x3), .val (.int x4), .val (.int (1 : Int32)), .val (.int C0), .val (.int C1), .val (.int C2), .val (.ref ch), .unset, .unset, .unset] [(.ref ch), (.ref so), (.ref so)])) rfl (by rw [hml]; rfl) (Steps.refl _) (a := so) (argsL := [(.ref ch)]) (rest := [(.ref so)]) (lenOf pd___C_V rfl) rfl (by show 2 * 0 + _ ≤ _; exact Nat.le_of_eq rfl) (hb hby at_108) (fun _ _ => ⟨rfl, e10, (by decide : 2 + 1 ≤ _), (by decide : 5 + 1 ≤ _)⟩)
  dsimp only [Pt.U, Pt.locs, Pt.cells, Pt.slots] at X13 l13 y13 z13 st13 hQ13
  subst l13 y13 z13
  obtain ⟨rfl, N13q, K13, Eq13, va, kv, Fq13, Fc13, Vq13⟩ := hQ13
  have Cr15 := CHr.keep K13 (allS SfS (all0)) C12v
  have Sf_ch_15 := Safe.keep K13 (allS SfS (all0)) C12v Sf_ch_12
  have Sf_so_15 := Safe.keep K13 (allS SfS (all0)) C12v SfS
  have C15v := Cr15.1
  have R15v := R12v.trans Cr15
  have hk15 := Nat.le_trans hk12 K13.1
  have old_14 : Old Z n0 T13.heap := old_11.keep K13 (allS g_so (all0))
  have siz_14 : n0 ≤ T13.heap.size := Nat.le_trans siz_11 K13.1
  have V_ch_14 : Arv Z T13.heap ch k4 .char (1 : Int32) [(.int C0)] (.int (0 : Int32)) := V_ch_11.keep K13 (ninS (Nat.ne_of_lt lt_ch_so) nin0)
  have N13 := Fr.app N7 N13q
  obtain ⟨_, _, ⟨T16, L16, k16, n16⟩, -, Xr16, hSr16, hgr16, ⟨Lc16, hQ16, l16, y16, z16, Cc16⟩, st16⟩ := callSS X13 hx (y := (⟨"com/example/skylattice/skylattice/cli/InputArgument", "name", "(Ljava/lang/String;)Ljava/lang/String;"⟩ : MethodName)) hown (mvT hZ (hw _ (List.mem_of_getElem? (i := 22) rfl))) (mvT hZ (hw _ (List.mem_of_getElem? (i := 23) rfl))) (mvT hZ (hw _ (List.mem_of_getElem? (i := 24) rfl))) (mvT hZ (hw _ (List.mem_of_getElem? (i := 25) rfl))) (by decide) (backOfSH (s := s) (W := 0) (rmnm_1n l Z a0 hw [] so va kv cs (own_b C0) T13.heap n0 siz_14 Eq13 Fq13 Fc13 Vq13 old_14 S_CS hcs hu) hZ (hw _ (List.mem_of_getElem? (i := 25) rfl)) (hw _ (List.mem_of_getElem? (i := 24) rfl)) (by decide) (by decide) (own_EL hw) C15v) (g := (mkF m 115 #[.val (.int x0), .val (.int x1), .val (.int x2), .val (.int x3), .val (.int x4), .val (.int (1 : Int32)), .val (.int C0), .val (.int C1), .val (.int C2), .val (.ref ch), .val (.ref so), .unset, .unset] [(.ref so)])) rfl (by rw [hml]; rfl) (argsL := [(.ref so)]) (rest := []) (lenOf pd__Ljava_lang_String__Ljava_lang_String_ rfl) rfl (by show 2 * 0 + _ ≤ _; exact Nat.le_of_eq rfl) (hb hby at_115) (fun _ _ => ⟨rfl, rfl, (by decide : 3 + 4 ≤ _), (by decide : 6 + 68 ≤ _)⟩)
  dsimp only [Pt.U, Pt.locs, Pt.cells, Pt.slots] at Xr16 hSr16 hgr16 l16 y16 z16 st16 hQ16 Cc16
  subst l16 y16 z16
  obtain ⟨X16, hS16, hZ16, hown16⟩ := rebS (own := "com/example/skylattice/skylattice/cli/InputArgumentNamePinLaw") hS0 hk15 Xr16 hSr16 hgr16 hZ hown
  obtain ⟨rfl, N16q, K16⟩ := hQ16
  have old_17 : Old Z n0 T16.heap := old_14.keep K16 (all0)
  have siz_17 : n0 ≤ T16.heap.size := Nat.le_trans siz_14 K16.1
  have E_so_17 : Exa Z T16.heap so "java/lang/String" := Eq13.keep K16
  have F_value_so_17 : Fld Z T16.heap so "java/lang/String" "value" "[B" (.ref va) := Fq13.keep K16 nin0
  have F_coder_so_17 : Fld Z T16.heap so "java/lang/String" "coder" "B" (.int (0 : Int32)) := Fc13.keep K16 nin0
  have V_va_17 : Arv Z T16.heap va kv .byte (1 : Int32) [(.int (own_b C0))] (.int (0 : Int32)) := Vq13.keep K16 nin0
  have C16v := Cc16.1
  have R16v := R15v.trans Cc16
  have N16 := Fr.app N13 N16q
  have hk16 := Nat.le_refl T16.heap.size
  obtain ⟨cq18, kq18, q18a, q18b, q18c⟩ := isOf hZ16 rfl E_so_17
  obtain ⟨_, _, ⟨T18, L18, k18, n18⟩, -, X18, ⟨Lc18, hQ18, l18, y18, z18⟩, st18⟩ := X16.virtualBack hx (y := (⟨"java/lang/String", "length", "()I"⟩ : MethodName)) (z := (⟨"java/lang/String", "length", "()I"⟩ : MethodName)) hown16 (mvT hZ16 (hw _ (List.mem_of_getElem? (i := 38) rfl))) (mvT hZ16 (hw _ (List.mem_of_getElem? (i := 39) rfl))) (notFace_of_selects (args := #[]) (mvT hZ16 (hw _ (List.mem_of_getElem? (i := 41) rfl)))) (mvT hZ16 (hw _ (List.mem_of_getElem? (i := 41) rfl))) (mvT hZ16 (hw _ (List.mem_of_getElem? (i := 40) rfl))) (by decide) (backOf (W := 0) (rmln_1 l Z a0 hw [] so va kv cs (own_b C0) T16.heap n0 siz_17 E_so_17 F_value_so_17 F_coder_so_17 V_va_17 old_17 S_CS hcs) hZ16 (hw _ (List.mem_of_getElem? (i := 42) rfl)) (hw _ (List.mem_of_getElem? (i := 3) rfl)) (by decide) (by decide)) q18a q18c (g := (mkF m 129 #[.val (.int x0), .val (.int x1), .val (.int x2), .val (.int x3), .val (.int x4), .val (.int (1 : Int32)), .val (.int C0), .val (.int C1), .val (.int C2), .val (.ref ch), .val (.ref so), .val (.ref so), .unset] [(.ref so)])) rfl (by rw [hml]; rfl) (Steps.refl _) (argsL := []) (rest := []) (lenOf pd___I rfl) rfl (by show 2 * 0 + _ ≤ _; exact Nat.le_of_eq rfl) (hb hby at_129) (fun _ _ => ⟨rfl, rfl, (by decide : 7 + 0 ≤ _), (by decide : 74 + 0 ≤ _)⟩)
  dsimp only [Pt.U, Pt.locs, Pt.cells, Pt.slots] at X18 l18 y18 z18 st18 hQ18
  subst l18 y18 z18
  obtain ⟨rfl, N18q, e18⟩ := hQ18
  have N18 := Fr.app N16 N18q
  obtain ⟨cq19, kq19, q19a, q19b, q19c⟩ := isOf hZ16 e18 E_so_17
  obtain ⟨_, _, ⟨T19, L19, k19, n19⟩, -, X19, ⟨Lc19, hQ19, l19, y19, z19⟩, st19⟩ := X18.virtualBack hx (y := (⟨"java/lang/String", "charAt", "(I)C"⟩ : MethodName)) (z := (⟨"java/lang/String", "charAt", "(I)C"⟩ : MethodName)) hown16 (mvT hZ16 (hw _ (List.mem_of_getElem? (i := 60) rfl))) (mvT hZ16 (hw _ (List.mem_of_getElem? (i := 61) rfl))) (notFace_of_selects (args := #[]) (mvT hZ16 (hw _ (List.mem_of_getElem? (i := 63) rfl)))) (mvT hZ16 (hw _ (List.mem_of_getElem? (i := 63) rfl))) (mvT hZ16 (hw _ (List.mem_of_getElem? (i := 62) rfl))) (by decide) (backOf (W := 0) (rmca l Z a0 hw [] so va kv (own_b C0) cs fmv T16.heap n0 siz_17 E_so_17 F_value_so_17 F_coder_so_17 V_va_17 old_17 S_CS hcs S_FM hfm) hZ16 (hw _ (List.mem_of_getElem? (i := 64) rfl)) (hw _ (List.mem_of_getElem? (i := 3) rfl)) (by decide) (by decide)) q19a q19c (g := (mkF m 139 #[.val (.int x0), .val (.int x1), .val (.int x2), .val (.int x3), .val (.int x4), .val (.int (1 : Int32)), .val (.int C0), .val (.int C1), .val (.int C2), .val (.ref ch), .val (.ref so), .val (.ref so), .unset] [(.int (0 : Int32)), (.ref so)])) rfl (by rw [hml]; rfl) (Steps.refl _) (argsL := [(.int (0 : Int32))]) (rest := []) (lenOf pd__I_C rfl) rfl (by show 2 * 0 + _ ≤ _; exact Nat.le_of_eq rfl) (hb hby at_139) (fun _ _ => ⟨rfl, e18, (by decide : 7 + 0 ≤ _), (by decide : 74 + 0 ≤ _)⟩)
  dsimp only [Pt.U, Pt.locs, Pt.cells, Pt.slots] at X19 l19 y19 z19 st19 hQ19
  subst l19 y19 z19
  obtain ⟨rfl, N19q, e19⟩ := hQ19
  have N19 := Fr.app N18 N19q
  obtain ⟨cq20, kq20, q20a, q20b, q20c⟩ := isOf hZ16 e19 E_so_17
  obtain ⟨_, _, ⟨T20, L20, k20, n20⟩, -, X20, ⟨Lc20, hQ20, l20, y20, z20⟩, st20⟩ := X19.virtualBack hx (y := (⟨"java/lang/String", "equals", "(Ljava/lang/Object;)Z"⟩ : MethodName)) (z := (⟨"java/lang/String", "equals", "(Ljava/lang/Object;)Z"⟩ : MethodName)) hown16 (mvT hZ16 (hw _ (List.mem_of_getElem? (i := 48) rfl))) (mvT hZ16 (hw _ (List.mem_of_getElem? (i := 28) rfl))) (notFace_of_selects (args := #[]) (mvT hZ16 (hw _ (List.mem_of_getElem? (i := 30) rfl)))) (mvT hZ16 (hw _ (List.mem_of_getElem? (i := 30) rfl))) (mvT hZ16 (hw _ (List.mem_of_getElem? (i := 29) rfl))) (by decide) (backOf (W := 0) (rmeq_same l Z a0 hw [] so T16.heap n0 siz_17) hZ16 (hw _ (List.mem_of_getElem? (i := 31) rfl)) (hw _ (List.mem_of_getElem? (i := 3) rfl)) (by decide) (by decide)) q20a q20c (g := (mkF m 171 #[.val (.int x0), .val (.int x1), .val (.int x2), .val (.int x3), .val (.int x4), .val (.int (1 : Int32)), .val (.int C0), .val (.int C1), .val (.int C2), .val (.ref ch), .val (.ref so), .val (.ref so), .val (.int (0 : Int32))] [(.ref so), (.ref so)])) rfl (by rw [hml]; rfl) (Steps.refl _) (argsL := [(.ref so)]) (rest := []) (lenOf pd__Ljava_lang_Object__Z rfl) rfl (by show 2 * 0 + _ ≤ _; exact Nat.le_of_eq rfl) (hb hby at_171) (fun _ _ => ⟨rfl, e19, (by decide : 7 + 0 ≤ _), (by decide : 74 + 0 ≤ _)⟩)
  dsimp only [Pt.U, Pt.locs, Pt.cells, Pt.slots] at X20 l20 y20 z20 st20 hQ20
  subst l20 y20 z20
  obtain ⟨rfl, N20q, e20⟩ := hQ20
  have N20 := Fr.app N19 N20q
  have Rend := R16v.trans (CHv.at X20 hZ16 (own_EL hw) C16v)
  obtain ⟨fs, hr, hrun, hended, hRW⟩ := X20.leaveW hS16 (by rw [e20]; exact hk16) (v := some (.int (1 : Int32))) (fun h => by rw [Bd.returns] at h; cases h)
  refine ⟨_, _, pre0 _ ?_, hrun, hended, _, _, rfl, ?_, ?_, hRW.1, hRW.2.1, hRW.2.2.1, hRW.2.2.2.mono (by decide) (by decide)⟩
  · show Steps p.tables e below (s₁.setTop (mkF m 0 #[.val (.int x0), .val (.int x1), .val (.int x2), .val (.int x3), .val (.int x4), .unset, .unset, .unset, .unset, .unset, .unset, .unset, .unset] [])) _
    refine XS.iloadN X0.here hx rfl (hb hby at_0) rfl ?_
    show Steps p.tables e below (s₁.setTop (mkF m 1 #[.val (.int x0), .val (.int x1), .val (.int x2), .val (.int x3), .val (.int x4), .unset, .unset, .unset, .unset, .unset, .unset, .unset, .unset] [(.int x0)])) _
    refine XS.iconst X0.here hx rfl (hb hby at_1) ?_
    show Steps p.tables e below (s₁.setTop (mkF m 2 #[.val (.int x0), .val (.int x1), .val (.int x2), .val (.int x3), .val (.int x4), .unset, .unset, .unset, .unset, .unset, .unset, .unset, .unset] [(.int (3 : Int32)), (.int x0)])) _
    refine XS.iand X0.here hx rfl (hb hby at_2) rfl ?_
    show Steps p.tables e below (s₁.setTop (mkF m 3 #[.val (.int x0), .val (.int x1), .val (.int x2), .val (.int x3), .val (.int x4), .unset, .unset, .unset, .unset, .unset, .unset, .unset, .unset] [(.int (x0 &&& (3 : Int32)))])) _
    refine XS.istore X0.here hx rfl (hb hby at_3) rfl (l' := #[.val (.int x0), .val (.int x1), .val (.int x2), .val (.int x3), .val (.int x4), .val (.int (x0 &&& (3 : Int32))), .unset, .unset, .unset, .unset, .unset, .unset, .unset]) rfl ?_
    show Steps p.tables e below (s₁.setTop (mkF m 5 #[.val (.int x0), .val (.int x1), .val (.int x2), .val (.int x3), .val (.int x4), .val (.int (x0 &&& (3 : Int32))), .unset, .unset, .unset, .unset, .unset, .unset, .unset] [])) _
    refine XS.iload X0.here hx rfl (hb hby at_5) rfl ?_
    show Steps p.tables e below (s₁.setTop (mkF m 7 #[.val (.int x0), .val (.int x1), .val (.int x2), .val (.int x3), .val (.int x4), .val (.int (x0 &&& (3 : Int32))), .unset, .unset, .unset, .unset, .unset, .unset, .unset] [(.int x4)])) _
    refine XS.iconst X0.here hx rfl (hb hby at_7) ?_
    show Steps p.tables e below (s₁.setTop (mkF m 8 #[.val (.int x0), .val (.int x1), .val (.int x2), .val (.int x3), .val (.int x4), .val (.int (x0 &&& (3 : Int32))), .unset, .unset, .unset, .unset, .unset, .unset, .unset] [(.int (2 : Int32)), (.int x4)])) _
    refine XS.iand X0.here hx rfl (hb hby at_8) rfl ?_
    show Steps p.tables e below (s₁.setTop (mkF m 9 #[.val (.int x0), .val (.int x1), .val (.int x2), .val (.int x3), .val (.int x4), .val (.int (x0 &&& (3 : Int32))), .unset, .unset, .unset, .unset, .unset, .unset, .unset] [(.int (x4 &&& (2 : Int32)))])) _
    have k1 : ∀ (m1_l5 : Int32) t, ((x4 &&& (2 : Int32)) = (0 : Int32) → m1_l5 = (x0 &&& (3 : Int32))) → (¬ ((x4 &&& (2 : Int32)) = (0 : Int32)) → m1_l5 = (1 : Int32)) → Steps p.tables e below (s₁.setTop (mkF m 15 #[.val (.int x0), .val (.int x1), .val (.int x2), .val (.int x3), .val (.int x4), .val (.int m1_l5), .unset, .unset, .unset, .unset, .unset, .unset, .unset] [])) t → Steps p.tables e below (s₁.setTop (mkF m 9 #[.val (.int x0), .val (.int x1), .val (.int x2), .val (.int x3), .val (.int x4), .val (.int (x0 &&& (3 : Int32))), .unset, .unset, .unset, .unset, .unset, .unset, .unset] [(.int (x4 &&& (2 : Int32)))])) t := by
      intro m1_l5 t hAm1_l5 hBm1_l5 kk
      by_cases hq9 : (x4 &&& (2 : Int32)) = (0 : Int32)
      · rw [hAm1_l5 hq9] at kk
        refine XS.ifYes X0.here hx rfl (pc0 := 9) (pc' := 15) rfl (hb hby at_9) rfl ((if0 _ _).trans (teq hq9).1) (by decide) (by decide) ?_
        exact kk
      · rw [hBm1_l5 hq9] at kk
        refine XS.ifNo X0.here hx rfl (hb hby at_9) rfl ((if0 _ _).trans (feq hq9).1) ?_
        show Steps p.tables e below (s₁.setTop (mkF m 12 #[.val (.int x0), .val (.int x1), .val (.int x2), .val (.int x3), .val (.int x4), .val (.int (x0 &&& (3 : Int32))), .unset, .unset, .unset, .unset, .unset, .unset, .unset] [])) _
        refine XS.iconst X0.here hx rfl (hb hby at_12) ?_
        show Steps p.tables e below (s₁.setTop (mkF m 13 #[.val (.int x0), .val (.int x1), .val (.int x2), .val (.int x3), .val (.int x4), .val (.int (x0 &&& (3 : Int32))), .unset, .unset, .unset, .unset, .unset, .unset, .unset] [(.int (1 : Int32))])) _
        refine XS.istore X0.here hx rfl (hb hby at_13) rfl (l' := #[.val (.int x0), .val (.int x1), .val (.int x2), .val (.int x3), .val (.int x4), .val (.int (1 : Int32)), .unset, .unset, .unset, .unset, .unset, .unset, .unset]) rfl ?_
        exact kk
    refine k1 m1_l5 _ (fun h => by rw [em1_l5, if_pos h]) (fun h => by rw [em1_l5, if_neg h]) ?_
    show Steps p.tables e below (s₁.setTop (mkF m 15 #[.val (.int x0), .val (.int x1), .val (.int x2), .val (.int x3), .val (.int x4), .val (.int m1_l5), .unset, .unset, .unset, .unset, .unset, .unset, .unset] [])) _
    rw [show m1_l5 = (1 : Int32) from em1_l5.trans hn]
    show Steps p.tables e below (s₁.setTop (mkF m 15 #[.val (.int x0), .val (.int x1), .val (.int x2), .val (.int x3), .val (.int x4), .val (.int (1 : Int32)), .unset, .unset, .unset, .unset, .unset, .unset, .unset] [])) _
    refine XS.iloadN X0.here hx rfl (hb hby at_15) rfl ?_
    show Steps p.tables e below (s₁.setTop (mkF m 16 #[.val (.int x0), .val (.int x1), .val (.int x2), .val (.int x3), .val (.int x4), .val (.int (1 : Int32)), .unset, .unset, .unset, .unset, .unset, .unset, .unset] [(.int x1)])) _
    refine XS.sipush X0.here hx rfl (hb hby at_16) ?_
    show Steps p.tables e below (s₁.setTop (mkF m 19 #[.val (.int x0), .val (.int x1), .val (.int x2), .val (.int x3), .val (.int x4), .val (.int (1 : Int32)), .unset, .unset, .unset, .unset, .unset, .unset, .unset] [(.int (255 : Int32)), (.int x1)])) _
    refine XS.iand X0.here hx rfl (hb hby at_19) rfl ?_
    show Steps p.tables e below (s₁.setTop (mkF m 20 #[.val (.int x0), .val (.int x1), .val (.int x2), .val (.int x3), .val (.int x4), .val (.int (1 : Int32)), .unset, .unset, .unset, .unset, .unset, .unset, .unset] [(.int (x1 &&& (255 : Int32)))])) _
    refine XS.i2c X0.here hx rfl (hb hby at_20) rfl ?_
    show Steps p.tables e below (s₁.setTop (mkF m 21 #[.val (.int x0), .val (.int x1), .val (.int x2), .val (.int x3), .val (.int x4), .val (.int (1 : Int32)), .unset, .unset, .unset, .unset, .unset, .unset, .unset] [(.int ((x1 &&& (255 : Int32)).toUInt32.toUInt16.toUInt32.toInt32))])) _
    refine XS.istore X0.here hx rfl (hb hby at_21) rfl (l' := #[.val (.int x0), .val (.int x1), .val (.int x2), .val (.int x3), .val (.int x4), .val (.int (1 : Int32)), .val (.int ((x1 &&& (255 : Int32)).toUInt32.toUInt16.toUInt32.toInt32)), .unset, .unset, .unset, .unset, .unset, .unset]) rfl ?_
    show Steps p.tables e below (s₁.setTop (mkF m 23 #[.val (.int x0), .val (.int x1), .val (.int x2), .val (.int x3), .val (.int x4), .val (.int (1 : Int32)), .val (.int ((x1 &&& (255 : Int32)).toUInt32.toUInt16.toUInt32.toInt32)), .unset, .unset, .unset, .unset, .unset, .unset] [])) _
    refine XS.iload X0.here hx rfl (hb hby at_23) rfl ?_
    show Steps p.tables e below (s₁.setTop (mkF m 25 #[.val (.int x0), .val (.int x1), .val (.int x2), .val (.int x3), .val (.int x4), .val (.int (1 : Int32)), .val (.int ((x1 &&& (255 : Int32)).toUInt32.toUInt16.toUInt32.toInt32)), .unset, .unset, .unset, .unset, .unset, .unset] [(.int x4)])) _
    refine XS.iconst X0.here hx rfl (hb hby at_25) ?_
    show Steps p.tables e below (s₁.setTop (mkF m 26 #[.val (.int x0), .val (.int x1), .val (.int x2), .val (.int x3), .val (.int x4), .val (.int (1 : Int32)), .val (.int ((x1 &&& (255 : Int32)).toUInt32.toUInt16.toUInt32.toInt32)), .unset, .unset, .unset, .unset, .unset, .unset] [(.int (1 : Int32)), (.int x4)])) _
    refine XS.iand X0.here hx rfl (hb hby at_26) rfl ?_
    show Steps p.tables e below (s₁.setTop (mkF m 27 #[.val (.int x0), .val (.int x1), .val (.int x2), .val (.int x3), .val (.int x4), .val (.int (1 : Int32)), .val (.int ((x1 &&& (255 : Int32)).toUInt32.toUInt16.toUInt32.toInt32)), .unset, .unset, .unset, .unset, .unset, .unset] [(.int (x4 &&& (1 : Int32)))])) _
    have k2 : ∀ (m2_l6 : Int32) t, ((x4 &&& (1 : Int32)) = (0 : Int32) → m2_l6 = ((x1 &&& (255 : Int32)).toUInt32.toUInt16.toUInt32.toInt32)) → (¬ ((x4 &&& (1 : Int32)) = (0 : Int32)) → m2_l6 = (45 : Int32)) → Steps p.tables e below (s₁.setTop (mkF m 34 #[.val (.int x0), .val (.int x1), .val (.int x2), .val (.int x3), .val (.int x4), .val (.int (1 : Int32)), .val (.int m2_l6), .unset, .unset, .unset, .unset, .unset, .unset] [])) t → Steps p.tables e below (s₁.setTop (mkF m 27 #[.val (.int x0), .val (.int x1), .val (.int x2), .val (.int x3), .val (.int x4), .val (.int (1 : Int32)), .val (.int ((x1 &&& (255 : Int32)).toUInt32.toUInt16.toUInt32.toInt32)), .unset, .unset, .unset, .unset, .unset, .unset] [(.int (x4 &&& (1 : Int32)))])) t := by
      intro m2_l6 t hAm2_l6 hBm2_l6 kk
      by_cases hq27 : (x4 &&& (1 : Int32)) = (0 : Int32)
      · rw [hAm2_l6 hq27] at kk
        refine XS.ifYes X0.here hx rfl (pc0 := 27) (pc' := 34) rfl (hb hby at_27) rfl ((if0 _ _).trans (teq hq27).1) (by decide) (by decide) ?_
        exact kk
      · rw [hBm2_l6 hq27] at kk
        refine XS.ifNo X0.here hx rfl (hb hby at_27) rfl ((if0 _ _).trans (feq hq27).1) ?_
        show Steps p.tables e below (s₁.setTop (mkF m 30 #[.val (.int x0), .val (.int x1), .val (.int x2), .val (.int x3), .val (.int x4), .val (.int (1 : Int32)), .val (.int ((x1 &&& (255 : Int32)).toUInt32.toUInt16.toUInt32.toInt32)), .unset, .unset, .unset, .unset, .unset, .unset] [])) _
        refine XS.bipush X0.here hx rfl (hb hby at_30) ?_
        show Steps p.tables e below (s₁.setTop (mkF m 32 #[.val (.int x0), .val (.int x1), .val (.int x2), .val (.int x3), .val (.int x4), .val (.int (1 : Int32)), .val (.int ((x1 &&& (255 : Int32)).toUInt32.toUInt16.toUInt32.toInt32)), .unset, .unset, .unset, .unset, .unset, .unset] [(.int (45 : Int32))])) _
        refine XS.istore X0.here hx rfl (hb hby at_32) rfl (l' := #[.val (.int x0), .val (.int x1), .val (.int x2), .val (.int x3), .val (.int x4), .val (.int (1 : Int32)), .val (.int (45 : Int32)), .unset, .unset, .unset, .unset, .unset, .unset]) rfl ?_
        exact kk
    refine k2 m2_l6 _ (fun h => by rw [em2_l6, if_pos h]) (fun h => by rw [em2_l6, if_neg h]) ?_
    show Steps p.tables e below (s₁.setTop (mkF m 34 #[.val (.int x0), .val (.int x1), .val (.int x2), .val (.int x3), .val (.int x4), .val (.int (1 : Int32)), .val (.int m2_l6), .unset, .unset, .unset, .unset, .unset, .unset] [])) _
    rw [show m2_l6 = C0 from em2_l6.trans eC0.symm]
    show Steps p.tables e below (s₁.setTop (mkF m 34 #[.val (.int x0), .val (.int x1), .val (.int x2), .val (.int x3), .val (.int x4), .val (.int (1 : Int32)), .val (.int C0), .unset, .unset, .unset, .unset, .unset, .unset] [])) _
    refine XS.iloadN X0.here hx rfl (hb hby at_34) rfl ?_
    show Steps p.tables e below (s₁.setTop (mkF m 35 #[.val (.int x0), .val (.int x1), .val (.int x2), .val (.int x3), .val (.int x4), .val (.int (1 : Int32)), .val (.int C0), .unset, .unset, .unset, .unset, .unset, .unset] [(.int x2)])) _
    refine XS.sipush X0.here hx rfl (hb hby at_35) ?_
    show Steps p.tables e below (s₁.setTop (mkF m 38 #[.val (.int x0), .val (.int x1), .val (.int x2), .val (.int x3), .val (.int x4), .val (.int (1 : Int32)), .val (.int C0), .unset, .unset, .unset, .unset, .unset, .unset] [(.int (255 : Int32)), (.int x2)])) _
    refine XS.iand X0.here hx rfl (hb hby at_38) rfl ?_
    show Steps p.tables e below (s₁.setTop (mkF m 39 #[.val (.int x0), .val (.int x1), .val (.int x2), .val (.int x3), .val (.int x4), .val (.int (1 : Int32)), .val (.int C0), .unset, .unset, .unset, .unset, .unset, .unset] [(.int (x2 &&& (255 : Int32)))])) _
    refine XS.i2c X0.here hx rfl (hb hby at_39) rfl ?_
    show Steps p.tables e below (s₁.setTop (mkF m 40 #[.val (.int x0), .val (.int x1), .val (.int x2), .val (.int x3), .val (.int x4), .val (.int (1 : Int32)), .val (.int C0), .unset, .unset, .unset, .unset, .unset, .unset] [(.int ((x2 &&& (255 : Int32)).toUInt32.toUInt16.toUInt32.toInt32))])) _
    refine XS.istore X0.here hx rfl (hb hby at_40) rfl (l' := #[.val (.int x0), .val (.int x1), .val (.int x2), .val (.int x3), .val (.int x4), .val (.int (1 : Int32)), .val (.int C0), .val (.int ((x2 &&& (255 : Int32)).toUInt32.toUInt16.toUInt32.toInt32)), .unset, .unset, .unset, .unset, .unset]) rfl ?_
    show Steps p.tables e below (s₁.setTop (mkF m 42 #[.val (.int x0), .val (.int x1), .val (.int x2), .val (.int x3), .val (.int x4), .val (.int (1 : Int32)), .val (.int C0), .val (.int ((x2 &&& (255 : Int32)).toUInt32.toUInt16.toUInt32.toInt32)), .unset, .unset, .unset, .unset, .unset] [])) _
    refine XS.iload X0.here hx rfl (hb hby at_42) rfl ?_
    show Steps p.tables e below (s₁.setTop (mkF m 44 #[.val (.int x0), .val (.int x1), .val (.int x2), .val (.int x3), .val (.int x4), .val (.int (1 : Int32)), .val (.int C0), .val (.int ((x2 &&& (255 : Int32)).toUInt32.toUInt16.toUInt32.toInt32)), .unset, .unset, .unset, .unset, .unset] [(.int x4)])) _
    refine XS.iconst X0.here hx rfl (hb hby at_44) ?_
    show Steps p.tables e below (s₁.setTop (mkF m 45 #[.val (.int x0), .val (.int x1), .val (.int x2), .val (.int x3), .val (.int x4), .val (.int (1 : Int32)), .val (.int C0), .val (.int ((x2 &&& (255 : Int32)).toUInt32.toUInt16.toUInt32.toInt32)), .unset, .unset, .unset, .unset, .unset] [(.int (4 : Int32)), (.int x4)])) _
    refine XS.iand X0.here hx rfl (hb hby at_45) rfl ?_
    show Steps p.tables e below (s₁.setTop (mkF m 46 #[.val (.int x0), .val (.int x1), .val (.int x2), .val (.int x3), .val (.int x4), .val (.int (1 : Int32)), .val (.int C0), .val (.int ((x2 &&& (255 : Int32)).toUInt32.toUInt16.toUInt32.toInt32)), .unset, .unset, .unset, .unset, .unset] [(.int (x4 &&& (4 : Int32)))])) _
    have k3 : ∀ (m3_l7 : Int32) t, ((x4 &&& (4 : Int32)) = (0 : Int32) → m3_l7 = ((x2 &&& (255 : Int32)).toUInt32.toUInt16.toUInt32.toInt32)) → (¬ ((x4 &&& (4 : Int32)) = (0 : Int32)) → m3_l7 = (45 : Int32)) → Steps p.tables e below (s₁.setTop (mkF m 53 #[.val (.int x0), .val (.int x1), .val (.int x2), .val (.int x3), .val (.int x4), .val (.int (1 : Int32)), .val (.int C0), .val (.int m3_l7), .unset, .unset, .unset, .unset, .unset] [])) t → Steps p.tables e below (s₁.setTop (mkF m 46 #[.val (.int x0), .val (.int x1), .val (.int x2), .val (.int x3), .val (.int x4), .val (.int (1 : Int32)), .val (.int C0), .val (.int ((x2 &&& (255 : Int32)).toUInt32.toUInt16.toUInt32.toInt32)), .unset, .unset, .unset, .unset, .unset] [(.int (x4 &&& (4 : Int32)))])) t := by
      intro m3_l7 t hAm3_l7 hBm3_l7 kk
      by_cases hq46 : (x4 &&& (4 : Int32)) = (0 : Int32)
      · rw [hAm3_l7 hq46] at kk
        refine XS.ifYes X0.here hx rfl (pc0 := 46) (pc' := 53) rfl (hb hby at_46) rfl ((if0 _ _).trans (teq hq46).1) (by decide) (by decide) ?_
        exact kk
      · rw [hBm3_l7 hq46] at kk
        refine XS.ifNo X0.here hx rfl (hb hby at_46) rfl ((if0 _ _).trans (feq hq46).1) ?_
        show Steps p.tables e below (s₁.setTop (mkF m 49 #[.val (.int x0), .val (.int x1), .val (.int x2), .val (.int x3), .val (.int x4), .val (.int (1 : Int32)), .val (.int C0), .val (.int ((x2 &&& (255 : Int32)).toUInt32.toUInt16.toUInt32.toInt32)), .unset, .unset, .unset, .unset, .unset] [])) _
        refine XS.bipush X0.here hx rfl (hb hby at_49) ?_
        show Steps p.tables e below (s₁.setTop (mkF m 51 #[.val (.int x0), .val (.int x1), .val (.int x2), .val (.int x3), .val (.int x4), .val (.int (1 : Int32)), .val (.int C0), .val (.int ((x2 &&& (255 : Int32)).toUInt32.toUInt16.toUInt32.toInt32)), .unset, .unset, .unset, .unset, .unset] [(.int (45 : Int32))])) _
        refine XS.istore X0.here hx rfl (hb hby at_51) rfl (l' := #[.val (.int x0), .val (.int x1), .val (.int x2), .val (.int x3), .val (.int x4), .val (.int (1 : Int32)), .val (.int C0), .val (.int (45 : Int32)), .unset, .unset, .unset, .unset, .unset]) rfl ?_
        exact kk
    refine k3 m3_l7 _ (fun h => by rw [em3_l7, if_pos h]) (fun h => by rw [em3_l7, if_neg h]) ?_
    show Steps p.tables e below (s₁.setTop (mkF m 53 #[.val (.int x0), .val (.int x1), .val (.int x2), .val (.int x3), .val (.int x4), .val (.int (1 : Int32)), .val (.int C0), .val (.int m3_l7), .unset, .unset, .unset, .unset, .unset] [])) _
    rw [show m3_l7 = C1 from em3_l7.trans eC1.symm]
    show Steps p.tables e below (s₁.setTop (mkF m 53 #[.val (.int x0), .val (.int x1), .val (.int x2), .val (.int x3), .val (.int x4), .val (.int (1 : Int32)), .val (.int C0), .val (.int C1), .unset, .unset, .unset, .unset, .unset] [])) _
    refine XS.iloadN X0.here hx rfl (hb hby at_53) rfl ?_
    show Steps p.tables e below (s₁.setTop (mkF m 54 #[.val (.int x0), .val (.int x1), .val (.int x2), .val (.int x3), .val (.int x4), .val (.int (1 : Int32)), .val (.int C0), .val (.int C1), .unset, .unset, .unset, .unset, .unset] [(.int x3)])) _
    refine XS.sipush X0.here hx rfl (hb hby at_54) ?_
    show Steps p.tables e below (s₁.setTop (mkF m 57 #[.val (.int x0), .val (.int x1), .val (.int x2), .val (.int x3), .val (.int x4), .val (.int (1 : Int32)), .val (.int C0), .val (.int C1), .unset, .unset, .unset, .unset, .unset] [(.int (255 : Int32)), (.int x3)])) _
    refine XS.iand X0.here hx rfl (hb hby at_57) rfl ?_
    show Steps p.tables e below (s₁.setTop (mkF m 58 #[.val (.int x0), .val (.int x1), .val (.int x2), .val (.int x3), .val (.int x4), .val (.int (1 : Int32)), .val (.int C0), .val (.int C1), .unset, .unset, .unset, .unset, .unset] [(.int (x3 &&& (255 : Int32)))])) _
    refine XS.i2c X0.here hx rfl (hb hby at_58) rfl ?_
    show Steps p.tables e below (s₁.setTop (mkF m 59 #[.val (.int x0), .val (.int x1), .val (.int x2), .val (.int x3), .val (.int x4), .val (.int (1 : Int32)), .val (.int C0), .val (.int C1), .unset, .unset, .unset, .unset, .unset] [(.int ((x3 &&& (255 : Int32)).toUInt32.toUInt16.toUInt32.toInt32))])) _
    rw [← e_C2]
    show Steps p.tables e below (s₁.setTop (mkF m 59 #[.val (.int x0), .val (.int x1), .val (.int x2), .val (.int x3), .val (.int x4), .val (.int (1 : Int32)), .val (.int C0), .val (.int C1), .unset, .unset, .unset, .unset, .unset] [(.int C2)])) _
    refine XS.istore X0.here hx rfl (hb hby at_59) rfl (l' := #[.val (.int x0), .val (.int x1), .val (.int x2), .val (.int x3), .val (.int x4), .val (.int (1 : Int32)), .val (.int C0), .val (.int C1), .val (.int C2), .unset, .unset, .unset, .unset]) rfl ?_
    show Steps p.tables e below (s₁.setTop (mkF m 61 #[.val (.int x0), .val (.int x1), .val (.int x2), .val (.int x3), .val (.int x4), .val (.int (1 : Int32)), .val (.int C0), .val (.int C1), .val (.int C2), .unset, .unset, .unset, .unset] [])) _
    refine XS.iload X0.here hx rfl (hb hby at_61) rfl ?_
    show Steps p.tables e below (s₁.setTop (mkF m 63 #[.val (.int x0), .val (.int x1), .val (.int x2), .val (.int x3), .val (.int x4), .val (.int (1 : Int32)), .val (.int C0), .val (.int C1), .val (.int C2), .unset, .unset, .unset, .unset] [(.int (1 : Int32))])) _
    refine st4 _ ?_
    show Steps p.tables e below (T4.setTop (mkF m 65 #[.val (.int x0), .val (.int x1), .val (.int x2), .val (.int x3), .val (.int x4), .val (.int (1 : Int32)), .val (.int C0), .val (.int C1), .val (.int C2), .unset, .unset, .unset, .unset] [(.ref ch)])) _
    refine XS.astore X4.here hx rfl (hb hby at_65) rfl rfl (l' := #[.val (.int x0), .val (.int x1), .val (.int x2), .val (.int x3), .val (.int x4), .val (.int (1 : Int32)), .val (.int C0), .val (.int C1), .val (.int C2), .val (.ref ch), .unset, .unset, .unset]) rfl ?_
    show Steps p.tables e below (T4.setTop (mkF m 67 #[.val (.int x0), .val (.int x1), .val (.int x2), .val (.int x3), .val (.int x4), .val (.int (1 : Int32)), .val (.int C0), .val (.int C1), .val (.int C2), .val (.ref ch), .unset, .unset, .unset] [])) _
    refine XS.iload X4.here hx rfl (hb hby at_67) rfl ?_
    show Steps p.tables e below (T4.setTop (mkF m 69 #[.val (.int x0), .val (.int x1), .val (.int x2), .val (.int x3), .val (.int x4), .val (.int (1 : Int32)), .val (.int C0), .val (.int C1), .val (.int C2), .val (.ref ch), .unset, .unset, .unset] [(.int (1 : Int32))])) _
    refine XS.ifNo X4.here hx rfl (hb hby at_69) rfl ((if0 _ _).trans (tlt (by decide : (0 : Int32) < (1 : Int32))).2.2.2) ?_
    show Steps p.tables e below (T4.setTop (mkF m 72 #[.val (.int x0), .val (.int x1), .val (.int x2), .val (.int x3), .val (.int x4), .val (.int (1 : Int32)), .val (.int C0), .val (.int C1), .val (.int C2), .val (.ref ch), .unset, .unset, .unset] [])) _
    refine XS.aload X4.here hx rfl (hb hby at_72) rfl rfl ?_
    show Steps p.tables e below (T4.setTop (mkF m 74 #[.val (.int x0), .val (.int x1), .val (.int x2), .val (.int x3), .val (.int x4), .val (.int (1 : Int32)), .val (.int C0), .val (.int C1), .val (.int C2), .val (.ref ch), .unset, .unset, .unset] [(.ref ch)])) _
    refine XS.iconst X4.here hx rfl (hb hby at_74) ?_
    show Steps p.tables e below (T4.setTop (mkF m 75 #[.val (.int x0), .val (.int x1), .val (.int x2), .val (.int x3), .val (.int x4), .val (.int (1 : Int32)), .val (.int C0), .val (.int C1), .val (.int C2), .val (.ref ch), .unset, .unset, .unset] [(.int (0 : Int32)), (.ref ch)])) _
    refine XS.iload X4.here hx rfl (hb hby at_75) rfl ?_
    show Steps p.tables e below (T4.setTop (mkF m 77 #[.val (.int x0), .val (.int x1), .val (.int x2), .val (.int x3), .val (.int x4), .val (.int (1 : Int32)), .val (.int C0), .val (.int C1), .val (.int C2), .val (.ref ch), .unset, .unset, .unset] [(.int C0), (.int (0 : Int32)), (.ref ch)])) _
    refine st7 _ ?_
    show Steps p.tables e below (T7.setTop (mkF m 78 #[.val (.int x0), .val (.int x1), .val (.int x2), .val (.int x3), .val (.int x4), .val (.int (1 : Int32)), .val (.int C0), .val (.int C1), .val (.int C2), .val (.ref ch), .unset, .unset, .unset] [])) _
    refine XS.iload X7.here hx rfl (hb hby at_78) rfl ?_
    show Steps p.tables e below (T7.setTop (mkF m 80 #[.val (.int x0), .val (.int x1), .val (.int x2), .val (.int x3), .val (.int x4), .val (.int (1 : Int32)), .val (.int C0), .val (.int C1), .val (.int C2), .val (.ref ch), .unset, .unset, .unset] [(.int (1 : Int32))])) _
    refine XS.iconst X7.here hx rfl (hb hby at_80) ?_
    show Steps p.tables e below (T7.setTop (mkF m 81 #[.val (.int x0), .val (.int x1), .val (.int x2), .val (.int x3), .val (.int x4), .val (.int (1 : Int32)), .val (.int C0), .val (.int C1), .val (.int C2), .val (.ref ch), .unset, .unset, .unset] [(.int (1 : Int32)), (.int (1 : Int32))])) _
    refine XS.icmpYes X7.here hx rfl (pc0 := 81) (pc' := 90) rfl (hb hby at_81) rfl (flt (by decide : ¬ ((1 : Int32) < (1 : Int32)))).2.2.2 (by decide) (by decide) ?_
    show Steps p.tables e below (T7.setTop (mkF m 90 #[.val (.int x0), .val (.int x1), .val (.int x2), .val (.int x3), .val (.int x4), .val (.int (1 : Int32)), .val (.int C0), .val (.int C1), .val (.int C2), .val (.ref ch), .unset, .unset, .unset] [])) _
    refine XS.iload X7.here hx rfl (hb hby at_90) rfl ?_
    show Steps p.tables e below (T7.setTop (mkF m 92 #[.val (.int x0), .val (.int x1), .val (.int x2), .val (.int x3), .val (.int x4), .val (.int (1 : Int32)), .val (.int C0), .val (.int C1), .val (.int C2), .val (.ref ch), .unset, .unset, .unset] [(.int (1 : Int32))])) _
    refine XS.iconst X7.here hx rfl (hb hby at_92) ?_
    show Steps p.tables e below (T7.setTop (mkF m 93 #[.val (.int x0), .val (.int x1), .val (.int x2), .val (.int x3), .val (.int x4), .val (.int (1 : Int32)), .val (.int C0), .val (.int C1), .val (.int C2), .val (.ref ch), .unset, .unset, .unset] [(.int (2 : Int32)), (.int (1 : Int32))])) _
    refine XS.icmpYes X7.here hx rfl (pc0 := 93) (pc' := 102) rfl (hb hby at_93) rfl (flt (by decide : ¬ ((2 : Int32) < (1 : Int32)))).2.2.2 (by decide) (by decide) ?_
    show Steps p.tables e below (T7.setTop (mkF m 102 #[.val (.int x0), .val (.int x1), .val (.int x2), .val (.int x3), .val (.int x4), .val (.int (1 : Int32)), .val (.int C0), .val (.int C1), .val (.int C2), .val (.ref ch), .unset, .unset, .unset] [])) _
    refine st10 _ ?_
    show Steps p.tables e below (T10.setTop (mkF m 105 #[.val (.int x0), .val (.int x1), .val (.int x2), .val (.int x3), .val (.int x4), .val (.int (1 : Int32)), .val (.int C0), .val (.int C1), .val (.int C2), .val (.ref ch), .unset, .unset, .unset] [(.ref so)])) _
    refine XS.dup X10.here hx rfl (hb hby at_105) rfl rfl ?_
    show Steps p.tables e below (T10.setTop (mkF m 106 #[.val (.int x0), .val (.int x1), .val (.int x2), .val (.int x3), .val (.int x4), .val (.int (1 : Int32)), .val (.int C0), .val (.int C1), .val (.int C2), .val (.ref ch), .unset, .unset, .unset] [(.ref so), (.ref so)])) _
    refine XS.aload X10.here hx rfl (hb hby at_106) rfl rfl ?_
    show Steps p.tables e below (T10.setTop (mkF m 108 #[.val (.int x0), .val (.int x1), .val (.int x2), .val (.int x3), .val (.int x4), .val (.int (1 : Int32)), .val (.int C0), .val (.int C1), .val (.int C2), .val (.ref ch), .unset, .unset, .unset] [(.ref ch), (.ref so), (.ref so)])) _
    refine st13.trans ?_
    show Steps p.tables e below (T13.setTop (mkF m 111 #[.val (.int x0), .val (.int x1), .val (.int x2), .val (.int x3), .val (.int x4), .val (.int (1 : Int32)), .val (.int C0), .val (.int C1), .val (.int C2), .val (.ref ch), .unset, .unset, .unset] [(.ref so)])) _
    refine XS.astore X13.here hx rfl (hb hby at_111) rfl rfl (l' := #[.val (.int x0), .val (.int x1), .val (.int x2), .val (.int x3), .val (.int x4), .val (.int (1 : Int32)), .val (.int C0), .val (.int C1), .val (.int C2), .val (.ref ch), .val (.ref so), .unset, .unset]) rfl ?_
    show Steps p.tables e below (T13.setTop (mkF m 113 #[.val (.int x0), .val (.int x1), .val (.int x2), .val (.int x3), .val (.int x4), .val (.int (1 : Int32)), .val (.int C0), .val (.int C1), .val (.int C2), .val (.ref ch), .val (.ref so), .unset, .unset] [])) _
    refine XS.aload X13.here hx rfl (hb hby at_113) rfl rfl ?_
    show Steps p.tables e below (T13.setTop (mkF m 115 #[.val (.int x0), .val (.int x1), .val (.int x2), .val (.int x3), .val (.int x4), .val (.int (1 : Int32)), .val (.int C0), .val (.int C1), .val (.int C2), .val (.ref ch), .val (.ref so), .unset, .unset] [(.ref so)])) _
    refine st16.trans ?_
    show Steps p.tables e below (T16.setTop (mkF m 118 #[.val (.int x0), .val (.int x1), .val (.int x2), .val (.int x3), .val (.int x4), .val (.int (1 : Int32)), .val (.int C0), .val (.int C1), .val (.int C2), .val (.ref ch), .val (.ref so), .unset, .unset] [(.ref so)])) _
    refine XS.astore X16.here hx rfl (hb hby at_118) rfl rfl (l' := #[.val (.int x0), .val (.int x1), .val (.int x2), .val (.int x3), .val (.int x4), .val (.int (1 : Int32)), .val (.int C0), .val (.int C1), .val (.int C2), .val (.ref ch), .val (.ref so), .val (.ref so), .unset]) rfl ?_
    show Steps p.tables e below (T16.setTop (mkF m 120 #[.val (.int x0), .val (.int x1), .val (.int x2), .val (.int x3), .val (.int x4), .val (.int (1 : Int32)), .val (.int C0), .val (.int C1), .val (.int C2), .val (.ref ch), .val (.ref so), .val (.ref so), .unset] [])) _
    refine XS.aload X16.here hx rfl (hb hby at_120) rfl rfl ?_
    show Steps p.tables e below (T16.setTop (mkF m 122 #[.val (.int x0), .val (.int x1), .val (.int x2), .val (.int x3), .val (.int x4), .val (.int (1 : Int32)), .val (.int C0), .val (.int C1), .val (.int C2), .val (.ref ch), .val (.ref so), .val (.ref so), .unset] [(.ref so)])) _
    refine XS.ifnonnullYes X16.here hx rfl (pc0 := 122) (pc' := 127) rfl (hb hby at_122) rfl (by decide) (by decide) ?_
    show Steps p.tables e below (T16.setTop (mkF m 127 #[.val (.int x0), .val (.int x1), .val (.int x2), .val (.int x3), .val (.int x4), .val (.int (1 : Int32)), .val (.int C0), .val (.int C1), .val (.int C2), .val (.ref ch), .val (.ref so), .val (.ref so), .unset] [])) _
    refine XS.aload X16.here hx rfl (hb hby at_127) rfl rfl ?_
    show Steps p.tables e below (T16.setTop (mkF m 129 #[.val (.int x0), .val (.int x1), .val (.int x2), .val (.int x3), .val (.int x4), .val (.int (1 : Int32)), .val (.int C0), .val (.int C1), .val (.int C2), .val (.ref ch), .val (.ref so), .val (.ref so), .unset] [(.ref so)])) _
    refine st18.trans ?_
    show Steps p.tables e below (T18.setTop (mkF m 132 #[.val (.int x0), .val (.int x1), .val (.int x2), .val (.int x3), .val (.int x4), .val (.int (1 : Int32)), .val (.int C0), .val (.int C1), .val (.int C2), .val (.ref ch), .val (.ref so), .val (.ref so), .unset] [(.int (1 : Int32))])) _
    refine XS.iconst X18.here hx rfl (hb hby at_132) ?_
    show Steps p.tables e below (T18.setTop (mkF m 133 #[.val (.int x0), .val (.int x1), .val (.int x2), .val (.int x3), .val (.int x4), .val (.int (1 : Int32)), .val (.int C0), .val (.int C1), .val (.int C2), .val (.ref ch), .val (.ref so), .val (.ref so), .unset] [(.int (1 : Int32)), (.int (1 : Int32))])) _
    refine XS.icmpNo X18.here hx rfl (hb hby at_133) rfl (teq (by decide : (1 : Int32) = (1 : Int32))).2 ?_
    show Steps p.tables e below (T18.setTop (mkF m 136 #[.val (.int x0), .val (.int x1), .val (.int x2), .val (.int x3), .val (.int x4), .val (.int (1 : Int32)), .val (.int C0), .val (.int C1), .val (.int C2), .val (.ref ch), .val (.ref so), .val (.ref so), .unset] [])) _
    refine XS.aload X18.here hx rfl (hb hby at_136) rfl rfl ?_
    show Steps p.tables e below (T18.setTop (mkF m 138 #[.val (.int x0), .val (.int x1), .val (.int x2), .val (.int x3), .val (.int x4), .val (.int (1 : Int32)), .val (.int C0), .val (.int C1), .val (.int C2), .val (.ref ch), .val (.ref so), .val (.ref so), .unset] [(.ref so)])) _
    refine XS.iconst X18.here hx rfl (hb hby at_138) ?_
    show Steps p.tables e below (T18.setTop (mkF m 139 #[.val (.int x0), .val (.int x1), .val (.int x2), .val (.int x3), .val (.int x4), .val (.int (1 : Int32)), .val (.int C0), .val (.int C1), .val (.int C2), .val (.ref ch), .val (.ref so), .val (.ref so), .unset] [(.int (0 : Int32)), (.ref so)])) _
    refine st19.trans ?_
    show Steps p.tables e below (T19.setTop (mkF m 142 #[.val (.int x0), .val (.int x1), .val (.int x2), .val (.int x3), .val (.int x4), .val (.int (1 : Int32)), .val (.int C0), .val (.int C1), .val (.int C2), .val (.ref ch), .val (.ref so), .val (.ref so), .unset] [(.int (own_c (own_b C0)))])) _
    refine XS.bipush X19.here hx rfl (hb hby at_142) ?_
    show Steps p.tables e below (T19.setTop (mkF m 144 #[.val (.int x0), .val (.int x1), .val (.int x2), .val (.int x3), .val (.int x4), .val (.int (1 : Int32)), .val (.int C0), .val (.int C1), .val (.int C2), .val (.ref ch), .val (.ref so), .val (.ref so), .unset] [(.int (45 : Int32)), (.int (own_c (own_b C0)))])) _
    refine XS.icmpYes X19.here hx rfl (pc0 := 144) (pc' := 151) rfl (hb hby at_144) rfl (feq hcc).2 (by decide) (by decide) ?_
    show Steps p.tables e below (T19.setTop (mkF m 151 #[.val (.int x0), .val (.int x1), .val (.int x2), .val (.int x3), .val (.int x4), .val (.int (1 : Int32)), .val (.int C0), .val (.int C1), .val (.int C2), .val (.ref ch), .val (.ref so), .val (.ref so), .unset] [])) _
    refine XS.iconst X19.here hx rfl (hb hby at_151) ?_
    show Steps p.tables e below (T19.setTop (mkF m 152 #[.val (.int x0), .val (.int x1), .val (.int x2), .val (.int x3), .val (.int x4), .val (.int (1 : Int32)), .val (.int C0), .val (.int C1), .val (.int C2), .val (.ref ch), .val (.ref so), .val (.ref so), .unset] [(.int (0 : Int32))])) _
    refine XS.istore X19.here hx rfl (hb hby at_152) rfl (l' := #[.val (.int x0), .val (.int x1), .val (.int x2), .val (.int x3), .val (.int x4), .val (.int (1 : Int32)), .val (.int C0), .val (.int C1), .val (.int C2), .val (.ref ch), .val (.ref so), .val (.ref so), .val (.int (0 : Int32))]) rfl ?_
    show Steps p.tables e below (T19.setTop (mkF m 154 #[.val (.int x0), .val (.int x1), .val (.int x2), .val (.int x3), .val (.int x4), .val (.int (1 : Int32)), .val (.int C0), .val (.int C1), .val (.int C2), .val (.ref ch), .val (.ref so), .val (.ref so), .val (.int (0 : Int32))] [])) _
    refine XS.iload X19.here hx rfl (hb hby at_154) rfl ?_
    show Steps p.tables e below (T19.setTop (mkF m 156 #[.val (.int x0), .val (.int x1), .val (.int x2), .val (.int x3), .val (.int x4), .val (.int (1 : Int32)), .val (.int C0), .val (.int C1), .val (.int C2), .val (.ref ch), .val (.ref so), .val (.ref so), .val (.int (0 : Int32))] [(.int (0 : Int32))])) _
    refine XS.ifYes X19.here hx rfl (pc0 := 156) (pc' := 167) rfl (hb hby at_156) rfl ((if0 _ _).trans (teq (by decide : (0 : Int32) = (0 : Int32))).1) (by decide) (by decide) ?_
    show Steps p.tables e below (T19.setTop (mkF m 167 #[.val (.int x0), .val (.int x1), .val (.int x2), .val (.int x3), .val (.int x4), .val (.int (1 : Int32)), .val (.int C0), .val (.int C1), .val (.int C2), .val (.ref ch), .val (.ref so), .val (.ref so), .val (.int (0 : Int32))] [])) _
    refine XS.aload X19.here hx rfl (hb hby at_167) rfl rfl ?_
    show Steps p.tables e below (T19.setTop (mkF m 169 #[.val (.int x0), .val (.int x1), .val (.int x2), .val (.int x3), .val (.int x4), .val (.int (1 : Int32)), .val (.int C0), .val (.int C1), .val (.int C2), .val (.ref ch), .val (.ref so), .val (.ref so), .val (.int (0 : Int32))] [(.ref so)])) _
    refine XS.aload X19.here hx rfl (hb hby at_169) rfl rfl ?_
    show Steps p.tables e below (T19.setTop (mkF m 171 #[.val (.int x0), .val (.int x1), .val (.int x2), .val (.int x3), .val (.int x4), .val (.int (1 : Int32)), .val (.int C0), .val (.int C1), .val (.int C2), .val (.ref ch), .val (.ref so), .val (.ref so), .val (.int (0 : Int32))] [(.ref so), (.ref so)])) _
    refine st20.trans ?_
    show Steps p.tables e below (T20.setTop (mkF m 174 #[.val (.int x0), .val (.int x1), .val (.int x2), .val (.int x3), .val (.int x4), .val (.int (1 : Int32)), .val (.int C0), .val (.int C1), .val (.int C2), .val (.ref ch), .val (.ref so), .val (.ref so), .val (.int (0 : Int32))] [(.int (1 : Int32))])) _
    exact retN X20 hx (t := .boolean) Bd.returns (by simp) (hb hby at_174) hr
  · exact ⟨rfl, N20⟩
  · have eT : (T20.setFrames fs).heap = T16.heap := e20
    rw [eT, hh]; exact Rend
set_option maxRecDepth 65536 in
set_option maxHeartbeats 40000000 in
theorem rm0_2 (l : Launch) (Z : State) (a0 : Array Value) (hw : ∀ d ∈ tables_1, d.before a0 Z = true) (ws : List Jvm.Cond) (x0 : Int32) (x1 : Int32) (x2 : Int32) (x3 : Int32) (x4 : Int32) (cs C0 C1 : Int32) (fmv : Value) (h0 : Heap) (n0 : Nat) (Z0 : n0 ≤ h0.size) (hn : (if (x4 &&& (2 : Int32)) = (0 : Int32) then (x0 &&& (3 : Int32)) else (1 : Int32)) = (2 : Int32)) (O0 : Old Z n0 h0) (S_CS : Sta Z Z.heap "java/lang/String" "COMPACT_STRINGS" "Z" (.int cs)) (hcs : ¬ (cs = (0 : Int32))) (S_FM : Sta Z Z.heap "jdk/internal/util/Preconditions" "SIOOBE_FORMATTER" "Ljava/util/function/BiFunction;" fmv) (hfm : fmv.isRef = true) (eC0 : C0 = (if (x4 &&& (1 : Int32)) = (0 : Int32) then ((x1 &&& (255 : Int32)).toUInt32.toUInt16.toUInt32.toInt32) else (45 : Int32))) (eC1 : C1 = (if (x4 &&& (4 : Int32)) = (0 : Int32) then ((x2 &&& (255 : Int32)).toUInt32.toUInt16.toUInt32.toInt32) else (45 : Int32))) :
    MetFree l x (head1 (Jvm.Cond.code x code maxLocals ret :: ws) room_1) (fun a U => a = #[(.int x0), (.int x1), (.int x2), (.int x3), (.int x4)] ∧ Z.Warmed39 U.vm ∧ U.heap = h0 ∧ CHv Z consts_1 U.vm h0) (fun _ _ _ _ _ => True) (fun _ U o U' => ∃ v L, o = .returned v ∧ (QL n0 v U'.heap L) ∧ CHr Z consts_1 U.vm U.heap U'.vm U'.heap ∧ ReturnedEndW U o U' L room_1.cells room_1.slots) := by
  refine MetFree.of_bodySF (plainFor_of_name pn_0) hisR ?_
  intro p e s m args below meth c s₁ Bd hml0 hP hK
  obtain ⟨rfl, hZ, hh, C0v⟩ := hP
  have hx := Bd.exec
  have hby := Bd.bytes
  have hml : c.maxLocals = 13 := hml0
  have hown : (s.setVm s.vm).vm.findClass "com/example/skylattice/skylattice/cli/InputArgumentNamePinLaw" = some m.cls := findClass_of_methodNamed Bd.named
  have hnm := (name_of_methodNamed Bd.named Bd.method).1
  have X0 : Stand p l e room_1 (s.setVm s.vm) m #[(.int x0), (.int x1), (.int x2), (.int x3), (.int x4)] below meth c s₁ [] 0 0 := Stand.of_body Bd
  have e0 : s₁.heap = h0 := by rw [← hh, Bd.state]; rfl
  have N0 := Fr.nil n0
  have hS0 : s.Since s.vm 0 := (State.WarmedH.refl s).since 0
  have hk0 : 0 ≤ h0.size := Nat.zero_le _
  have R0v := CHr.refl C0v
  have pre0 : ∀ t, Steps p.tables e below (s₁.setTop (mkF m 0 #[.val (.int x0), .val (.int x1), .val (.int x2), .val (.int x3), .val (.int x4), .unset, .unset, .unset, .unset, .unset, .unset, .unset, .unset] [])) t → Steps p.tables e below (s₁.setTop (entryFrame m #[(.int x0), (.int x1), (.int x2), (.int x3), (.int x4)] maxLocals)) t := fun t k => castTop (ef_0 m x0 x1 x2 x3 x4) k
  have hC0 : 0 ≤ C0.toInt ∧ C0.toInt ≤ 255 := by
    rw [eC0]; split
    · exact own_chr _
    · decide
  have hC1 : 0 ≤ C1.toInt ∧ C1.toInt ≤ 255 := by
    rw [eC1]; split
    · exact own_chr _
    · decide
  obtain ⟨nC0, hc0, hz0⟩ := own_narc C0 hC0
  obtain ⟨nC1, hc1, hz1⟩ := own_narc C1 hC1
  obtain ⟨cb1, cb2⟩ := own_cb C0 hc0 hz0
  obtain ⟨m1_l5, em1_l5⟩ : ∃ z : Int32, z = (if (x4 &&& (2 : Int32)) = (0 : Int32) then (x0 &&& (3 : Int32)) else (1 : Int32)) := ⟨_, rfl⟩
  obtain ⟨m2_l6, em2_l6⟩ : ∃ z : Int32, z = (if (x4 &&& (1 : Int32)) = (0 : Int32) then ((x1 &&& (255 : Int32)).toUInt32.toUInt16.toUInt32.toInt32) else (45 : Int32)) := ⟨_, rfl⟩
  obtain ⟨m3_l7, em3_l7⟩ : ∃ z : Int32, z = (if (x4 &&& (4 : Int32)) = (0 : Int32) then ((x2 &&& (255 : Int32)).toUInt32.toUInt16.toUInt32.toInt32) else (45 : Int32)) := ⟨_, rfl⟩
  obtain ⟨C2, e_C2⟩ : ∃ z : Int32, z = ((x3 &&& (255 : Int32)).toUInt32.toUInt16.toUInt32.toInt32) := ⟨_, rfl⟩
  have hC2 : 0 ≤ C2.toInt ∧ C2.toInt ≤ 255 := by rw [e_C2]; exact own_chr _
  obtain ⟨nC2, hc2, hz2⟩ := own_narc C2 hC2
  obtain ⟨T4, h4, k4, X4, e4, E4, A4, st4⟩ := newP X0 hx hZ (hw _ (List.mem_of_getElem? (i := 0) rfl)) e0 (g := (mkF m 63 #[.val (.int x0), .val (.int x1), .val (.int x2), .val (.int x3), .val (.int x4), .val (.int (2 : Int32)), .val (.int C0), .val (.int C1), .val (.int C2), .unset, .unset, .unset, .unset] [(.int (2 : Int32))])) rfl (hb hby at_63) rfl (by decide) (cap := 2) (by decide) (by decide) (by decide) (by decide)
  obtain ⟨ch, g4⟩ : ∃ z, z = h0.size := ⟨_, rfl⟩
  rw [← g4] at A4 st4
  have V_ch_4 : Arv Z h4 ch k4 .char (2 : Int32) [(.int (0 : Int32)), (.int (0 : Int32))] (.int (0 : Int32)) := (Arv.new A4 (by decide)).pad (pad_rep [] (.int (0 : Int32)) 2)
  have g_ch : n0 ≤ ch := Nat.le_trans Z0 (Nat.le_of_eq g4.symm)
  have Cr6 := CHr.ext E4 C0v
  have C6v := Cr6.1
  have R6v := R0v.trans Cr6
  have hk6 := Nat.le_trans hk0 E4.1
  have old_5 : Old Z n0 h4 := O0.ext E4
  have siz_5 : n0 ≤ h4.size := Nat.le_trans Z0 E4.1
  have SfC : Safe Z consts_1 s.vm h4 ch := own_safe_arr (show Z.vm.Alike s.vm from hZ.alike) V_ch_4
  obtain ⟨T7, h7, L7, X7, e7, N7, W7, V7, st7⟩ := own_stC X4 hx hZ e4 V_ch_4 (j := (0 : Int32)) ⟨by decide, by decide⟩ (i := 0) rfl (Nat.le_of_ble_eq_true rfl) N0 g_ch (g := (mkF m 77 #[.val (.int x0), .val (.int x1), .val (.int x2), .val (.int x3), .val (.int x4), .val (.int (2 : Int32)), .val (.int C0), .val (.int C1), .val (.int C2), .val (.ref ch), .unset, .unset, .unset] [(.int C0), (.int (0 : Int32)), (.ref ch)])) rfl rfl (hb hby at_77)
  have Cr9 := CHr.wr W7 SfC C6v
  have Sf_ch_9 := Safe.wr W7 SfC C6v SfC
  have C9v := Cr9.1
  have R9v := R6v.trans Cr9
  have hk9 := Nat.le_trans hk6 (Keep.of_wr W7).1
  have old_8 : Old Z n0 h7 := old_5.wr W7 g_ch
  have siz_8 : n0 ≤ h7.size := Nat.le_trans siz_5 (Keep.of_wr W7).1
  have V_ch_7 : Arv Z h7 ch k4 .char (2 : Int32) [(.int (nar .char C0)), (.int (0 : Int32))] (.int (0 : Int32)) := V7
  rw [nC0] at V_ch_7
  obtain ⟨T10, h10, L10, X10, e10, N10, W10, V10, st10⟩ := own_stC X7 hx hZ e7 V_ch_7 (j := (1 : Int32)) ⟨by decide, by decide⟩ (i := 1) rfl (Nat.le_of_ble_eq_true rfl) N7 g_ch (g := (mkF m 89 #[.val (.int x0), .val (.int x1), .val (.int x2), .val (.int x3), .val (.int x4), .val (.int (2 : Int32)), .val (.int C0), .val (.int C1), .val (.int C2), .val (.ref ch), .unset, .unset, .unset] [(.int C1), (.int (1 : Int32)), (.ref ch)])) rfl rfl (hb hby at_89)
  have Cr12 := CHr.wr W10 Sf_ch_9 C9v
  have Sf_ch_12 := Safe.wr W10 Sf_ch_9 C9v Sf_ch_9
  have C12v := Cr12.1
  have R12v := R9v.trans Cr12
  have hk12 := Nat.le_trans hk9 (Keep.of_wr W10).1
  have old_11 : Old Z n0 h10 := old_8.wr W10 g_ch
  have siz_11 : n0 ≤ h10.size := Nat.le_trans siz_8 (Keep.of_wr W10).1
  have V_ch_10 : Arv Z h10 ch k4 .char (2 : Int32) [(.int C0), (.int (nar .char C1))] (.int (0 : Int32)) := V10
  rw [nC1] at V_ch_10
  obtain ⟨T13, h13, X13, e13, E13, A13, D13, -, st13⟩ := newO X10 hx hZ hown (hw _ (List.mem_of_getElem? (i := 1) rfl)) (hw _ (List.mem_of_getElem? (i := 2) rfl)) (hw _ (List.mem_of_getElem? (i := 3) rfl)) e10 (g := (mkF m 102 #[.val (.int x0), .val (.int x1), .val (.int x2), .val (.int x3), .val (.int x4), .val (.int (2 : Int32)), .val (.int C0), .val (.int C1), .val (.int C2), .val (.ref ch), .unset, .unset, .unset] [])) rfl (hb hby at_102) (by decide) (by decide)
  obtain ⟨so, g13⟩ : ∃ z, z = h10.size := ⟨_, rfl⟩
  rw [← g13] at A13 D13 st13
  have E_so_13 : Exa Z h13 so "java/lang/String" := A13
  have F_value_so_13 : Fld Z h13 so "java/lang/String" "value" "[B" .null := D13 (Or.inr (hw _ (List.mem_of_getElem? (i := 16) rfl))) (ty := (.array .byte)) (by decide)
  have F_coder_so_13 : Fld Z h13 so "java/lang/String" "coder" "B" (.int (0 : Int32)) := D13 (Or.inr (hw _ (List.mem_of_getElem? (i := 17) rfl))) (ty := .byte) (by decide)
  have lt_ch_so : ch < so := Nat.lt_of_lt_of_le V_ch_10.lt (Nat.le_of_eq g13.symm)
  have g_so : n0 ≤ so := Nat.le_trans siz_11 (Nat.le_of_eq g13.symm)
  have Cr15 := CHr.ext E13 C12v
  have Sf_ch_15 := Safe.ext E13 C12v Sf_ch_12
  have C15v := Cr15.1
  have R15v := R12v.trans Cr15
  have hk15 := Nat.le_trans hk12 E13.1
  have old_14 : Old Z n0 h13 := old_11.ext E13
  have siz_14 : n0 ≤ h13.size := Nat.le_trans siz_11 E13.1
  have V_ch_14 : Arv Z h13 ch k4 .char (2 : Int32) [(.int C0), (.int C1)] (.int (0 : Int32)) := V_ch_10.ext E13
  have SfS : Safe Z consts_1 s.vm h13 so := own_safe (show Z.vm.Alike s.vm from hZ.alike) E_so_13 F_value_so_13
  obtain ⟨_, _, ⟨T16, L16, k16, n16⟩, -, X16, ⟨Lc16, hQ16, l16, y16, z16⟩, st16⟩ := X13.specialBack hx (y := (⟨"java/lang/String", "<init>", "([C)V"⟩ : MethodName)) rfl hown (mvT hZ (hw _ (List.mem_of_getElem? (i := 4) rfl))) (mvT hZ (hw _ (List.mem_of_getElem? (i := 5) rfl))) (mvT hZ (hw _ (List.mem_of_getElem? (i := 6) rfl))) (by decide) (backOf (W := 1) (rms1_2 l Z a0 hw [] so ch k4 C0 C1 cs h13 n0 siz_14 E_so_13 F_value_so_13 F_coder_so_13 V_ch_14 g_so (Ne.symm (Nat.ne_of_lt lt_ch_so)) hc0 hc1 old_14 S_CS hcs) hZ (hw _ (List.mem_of_getElem? (i := 6) rfl)) (hw _ (List.mem_of_getElem? (i := 3) rfl)) (by decide) (by decide)) (g := (mkF m 108 #[.val (.int x0), .val (.int x1), .val (.int x2), .val (.int x3), .val (.int x4), .val (.int (2 : Int32)), .val (.int C0), .val (.int C1), .val (.int C2), .val (.ref ch), .unset, .unset, .unset] [(.ref ch), (.ref so), (.ref so)])) rfl (by rw [hml]; rfl) (Steps.refl _) (a := so) (argsL := [(.ref ch)]) (rest := [(.ref so)]) (lenOf pd___C_V rfl) rfl (by show 2 * 0 + _ ≤ _; exact Nat.le_of_eq rfl) (hb hby at_108) (fun _ _ => ⟨rfl, e13, (by decide : 2 + 1 ≤ _), (by decide : 6 + 2 ≤ _)⟩)
  dsimp only [Pt.U, Pt.locs, Pt.cells, Pt.slots] at X16 l16 y16 z16 st16 hQ16
  subst l16 y16 z16
  obtain ⟨rfl, N16q, K16, Eq16, va, kv, Fq16, Fc16, Vq16⟩ := hQ16
  have Cr18 := CHr.keep K16 (allS SfS (all0)) C15v
  have Sf_ch_18 := Safe.keep K16 (allS SfS (all0)) C15v Sf_ch_15
  have Sf_so_18 := Safe.keep K16 (allS SfS (all0)) C15v SfS
  have C18v := Cr18.1
  have R18v := R15v.trans Cr18
  have hk18 := Nat.le_trans hk15 K16.1
  have old_17 : Old Z n0 T16.heap := old_14.keep K16 (allS g_so (all0))
  have siz_17 : n0 ≤ T16.heap.size := Nat.le_trans siz_14 K16.1
  have V_ch_17 : Arv Z T16.heap ch k4 .char (2 : Int32) [(.int C0), (.int C1)] (.int (0 : Int32)) := V_ch_14.keep K16 (ninS (Nat.ne_of_lt lt_ch_so) nin0)
  have N16 := Fr.app N10 N16q
  obtain ⟨_, _, ⟨T19, L19, k19, n19⟩, -, Xr19, hSr19, hgr19, ⟨Lc19, hQ19, l19, y19, z19, Cc19⟩, st19⟩ := callSS X16 hx (y := (⟨"com/example/skylattice/skylattice/cli/InputArgument", "name", "(Ljava/lang/String;)Ljava/lang/String;"⟩ : MethodName)) hown (mvT hZ (hw _ (List.mem_of_getElem? (i := 22) rfl))) (mvT hZ (hw _ (List.mem_of_getElem? (i := 23) rfl))) (mvT hZ (hw _ (List.mem_of_getElem? (i := 24) rfl))) (mvT hZ (hw _ (List.mem_of_getElem? (i := 25) rfl))) (by decide) (backOfSH (s := s) (W := 0) (rmnm_2 l Z a0 hw [] so va kv cs (own_b C0) (own_b C1) T16.heap n0 siz_17 Eq16 Fq16 Fc16 Vq16 old_17 S_CS hcs) hZ (hw _ (List.mem_of_getElem? (i := 25) rfl)) (hw _ (List.mem_of_getElem? (i := 24) rfl)) (by decide) (by decide) (own_EL hw) C18v) (g := (mkF m 115 #[.val (.int x0), .val (.int x1), .val (.int x2), .val (.int x3), .val (.int x4), .val (.int (2 : Int32)), .val (.int C0), .val (.int C1), .val (.int C2), .val (.ref ch), .val (.ref so), .unset, .unset] [(.ref so)])) rfl (by rw [hml]; rfl) (argsL := [(.ref so)]) (rest := []) (lenOf pd__Ljava_lang_String__Ljava_lang_String_ rfl) rfl (by show 2 * 0 + _ ≤ _; exact Nat.le_of_eq rfl) (hb hby at_115) (fun _ _ => ⟨rfl, rfl, (by decide : 3 + 4 ≤ _), (by decide : 8 + 68 ≤ _)⟩)
  dsimp only [Pt.U, Pt.locs, Pt.cells, Pt.slots] at Xr19 hSr19 hgr19 l19 y19 z19 st19 hQ19 Cc19
  subst l19 y19 z19
  obtain ⟨X19, hS19, hZ19, hown19⟩ := rebS (own := "com/example/skylattice/skylattice/cli/InputArgumentNamePinLaw") hS0 hk18 Xr19 hSr19 hgr19 hZ hown
  obtain ⟨rfl, N19q, K19⟩ := hQ19
  have old_20 : Old Z n0 T19.heap := old_17.keep K19 (all0)
  have siz_20 : n0 ≤ T19.heap.size := Nat.le_trans siz_17 K19.1
  have E_so_20 : Exa Z T19.heap so "java/lang/String" := Eq16.keep K19
  have F_value_so_20 : Fld Z T19.heap so "java/lang/String" "value" "[B" (.ref va) := Fq16.keep K19 nin0
  have F_coder_so_20 : Fld Z T19.heap so "java/lang/String" "coder" "B" (.int (0 : Int32)) := Fc16.keep K19 nin0
  have V_va_20 : Arv Z T19.heap va kv .byte (2 : Int32) [(.int (own_b C0)), (.int (own_b C1))] (.int (0 : Int32)) := Vq16.keep K19 nin0
  have C19v := Cc19.1
  have R19v := R18v.trans Cc19
  have N19 := Fr.app N16 N19q
  have hk19 := Nat.le_refl T19.heap.size
  obtain ⟨cq21, kq21, q21a, q21b, q21c⟩ := isOf hZ19 rfl E_so_20
  obtain ⟨_, _, ⟨T21, L21, k21, n21⟩, -, X21, ⟨Lc21, hQ21, l21, y21, z21⟩, st21⟩ := X19.virtualBack hx (y := (⟨"java/lang/String", "length", "()I"⟩ : MethodName)) (z := (⟨"java/lang/String", "length", "()I"⟩ : MethodName)) hown19 (mvT hZ19 (hw _ (List.mem_of_getElem? (i := 38) rfl))) (mvT hZ19 (hw _ (List.mem_of_getElem? (i := 39) rfl))) (notFace_of_selects (args := #[]) (mvT hZ19 (hw _ (List.mem_of_getElem? (i := 41) rfl)))) (mvT hZ19 (hw _ (List.mem_of_getElem? (i := 41) rfl))) (mvT hZ19 (hw _ (List.mem_of_getElem? (i := 40) rfl))) (by decide) (backOf (W := 0) (rmln_2 l Z a0 hw [] so va kv cs (own_b C0) (own_b C1) T19.heap n0 siz_20 E_so_20 F_value_so_20 F_coder_so_20 V_va_20 old_20 S_CS hcs) hZ19 (hw _ (List.mem_of_getElem? (i := 42) rfl)) (hw _ (List.mem_of_getElem? (i := 3) rfl)) (by decide) (by decide)) q21a q21c (g := (mkF m 129 #[.val (.int x0), .val (.int x1), .val (.int x2), .val (.int x3), .val (.int x4), .val (.int (2 : Int32)), .val (.int C0), .val (.int C1), .val (.int C2), .val (.ref ch), .val (.ref so), .val (.ref so), .unset] [(.ref so)])) rfl (by rw [hml]; rfl) (Steps.refl _) (argsL := []) (rest := []) (lenOf pd___I rfl) rfl (by show 2 * 0 + _ ≤ _; exact Nat.le_of_eq rfl) (hb hby at_129) (fun _ _ => ⟨rfl, rfl, (by decide : 7 + 0 ≤ _), (by decide : 76 + 0 ≤ _)⟩)
  dsimp only [Pt.U, Pt.locs, Pt.cells, Pt.slots] at X21 l21 y21 z21 st21 hQ21
  subst l21 y21 z21
  obtain ⟨rfl, N21q, e21⟩ := hQ21
  have N21 := Fr.app N19 N21q
  obtain ⟨cq22, kq22, q22a, q22b, q22c⟩ := isOf hZ19 e21 E_so_20
  obtain ⟨_, _, ⟨T22, L22, k22, n22⟩, -, X22, ⟨Lc22, hQ22, l22, y22, z22⟩, st22⟩ := X21.virtualBack hx (y := (⟨"java/lang/String", "equals", "(Ljava/lang/Object;)Z"⟩ : MethodName)) (z := (⟨"java/lang/String", "equals", "(Ljava/lang/Object;)Z"⟩ : MethodName)) hown19 (mvT hZ19 (hw _ (List.mem_of_getElem? (i := 48) rfl))) (mvT hZ19 (hw _ (List.mem_of_getElem? (i := 28) rfl))) (notFace_of_selects (args := #[]) (mvT hZ19 (hw _ (List.mem_of_getElem? (i := 30) rfl)))) (mvT hZ19 (hw _ (List.mem_of_getElem? (i := 30) rfl))) (mvT hZ19 (hw _ (List.mem_of_getElem? (i := 29) rfl))) (by decide) (backOf (W := 0) (rmeq_same l Z a0 hw [] so T19.heap n0 siz_20) hZ19 (hw _ (List.mem_of_getElem? (i := 31) rfl)) (hw _ (List.mem_of_getElem? (i := 3) rfl)) (by decide) (by decide)) q22a q22c (g := (mkF m 171 #[.val (.int x0), .val (.int x1), .val (.int x2), .val (.int x3), .val (.int x4), .val (.int (2 : Int32)), .val (.int C0), .val (.int C1), .val (.int C2), .val (.ref ch), .val (.ref so), .val (.ref so), .val (.int (0 : Int32))] [(.ref so), (.ref so)])) rfl (by rw [hml]; rfl) (Steps.refl _) (argsL := [(.ref so)]) (rest := []) (lenOf pd__Ljava_lang_Object__Z rfl) rfl (by show 2 * 0 + _ ≤ _; exact Nat.le_of_eq rfl) (hb hby at_171) (fun _ _ => ⟨rfl, e21, (by decide : 7 + 0 ≤ _), (by decide : 76 + 0 ≤ _)⟩)
  dsimp only [Pt.U, Pt.locs, Pt.cells, Pt.slots] at X22 l22 y22 z22 st22 hQ22
  subst l22 y22 z22
  obtain ⟨rfl, N22q, e22⟩ := hQ22
  have N22 := Fr.app N21 N22q
  have Rend := R19v.trans (CHv.at X22 hZ19 (own_EL hw) C19v)
  obtain ⟨fs, hr, hrun, hended, hRW⟩ := X22.leaveW hS19 (by rw [e22]; exact hk19) (v := some (.int (1 : Int32))) (fun h => by rw [Bd.returns] at h; cases h)
  refine ⟨_, _, pre0 _ ?_, hrun, hended, _, _, rfl, ?_, ?_, hRW.1, hRW.2.1, hRW.2.2.1, hRW.2.2.2.mono (by decide) (by decide)⟩
  · show Steps p.tables e below (s₁.setTop (mkF m 0 #[.val (.int x0), .val (.int x1), .val (.int x2), .val (.int x3), .val (.int x4), .unset, .unset, .unset, .unset, .unset, .unset, .unset, .unset] [])) _
    refine XS.iloadN X0.here hx rfl (hb hby at_0) rfl ?_
    show Steps p.tables e below (s₁.setTop (mkF m 1 #[.val (.int x0), .val (.int x1), .val (.int x2), .val (.int x3), .val (.int x4), .unset, .unset, .unset, .unset, .unset, .unset, .unset, .unset] [(.int x0)])) _
    refine XS.iconst X0.here hx rfl (hb hby at_1) ?_
    show Steps p.tables e below (s₁.setTop (mkF m 2 #[.val (.int x0), .val (.int x1), .val (.int x2), .val (.int x3), .val (.int x4), .unset, .unset, .unset, .unset, .unset, .unset, .unset, .unset] [(.int (3 : Int32)), (.int x0)])) _
    refine XS.iand X0.here hx rfl (hb hby at_2) rfl ?_
    show Steps p.tables e below (s₁.setTop (mkF m 3 #[.val (.int x0), .val (.int x1), .val (.int x2), .val (.int x3), .val (.int x4), .unset, .unset, .unset, .unset, .unset, .unset, .unset, .unset] [(.int (x0 &&& (3 : Int32)))])) _
    refine XS.istore X0.here hx rfl (hb hby at_3) rfl (l' := #[.val (.int x0), .val (.int x1), .val (.int x2), .val (.int x3), .val (.int x4), .val (.int (x0 &&& (3 : Int32))), .unset, .unset, .unset, .unset, .unset, .unset, .unset]) rfl ?_
    show Steps p.tables e below (s₁.setTop (mkF m 5 #[.val (.int x0), .val (.int x1), .val (.int x2), .val (.int x3), .val (.int x4), .val (.int (x0 &&& (3 : Int32))), .unset, .unset, .unset, .unset, .unset, .unset, .unset] [])) _
    refine XS.iload X0.here hx rfl (hb hby at_5) rfl ?_
    show Steps p.tables e below (s₁.setTop (mkF m 7 #[.val (.int x0), .val (.int x1), .val (.int x2), .val (.int x3), .val (.int x4), .val (.int (x0 &&& (3 : Int32))), .unset, .unset, .unset, .unset, .unset, .unset, .unset] [(.int x4)])) _
    refine XS.iconst X0.here hx rfl (hb hby at_7) ?_
    show Steps p.tables e below (s₁.setTop (mkF m 8 #[.val (.int x0), .val (.int x1), .val (.int x2), .val (.int x3), .val (.int x4), .val (.int (x0 &&& (3 : Int32))), .unset, .unset, .unset, .unset, .unset, .unset, .unset] [(.int (2 : Int32)), (.int x4)])) _
    refine XS.iand X0.here hx rfl (hb hby at_8) rfl ?_
    show Steps p.tables e below (s₁.setTop (mkF m 9 #[.val (.int x0), .val (.int x1), .val (.int x2), .val (.int x3), .val (.int x4), .val (.int (x0 &&& (3 : Int32))), .unset, .unset, .unset, .unset, .unset, .unset, .unset] [(.int (x4 &&& (2 : Int32)))])) _
    have k1 : ∀ (m1_l5 : Int32) t, ((x4 &&& (2 : Int32)) = (0 : Int32) → m1_l5 = (x0 &&& (3 : Int32))) → (¬ ((x4 &&& (2 : Int32)) = (0 : Int32)) → m1_l5 = (1 : Int32)) → Steps p.tables e below (s₁.setTop (mkF m 15 #[.val (.int x0), .val (.int x1), .val (.int x2), .val (.int x3), .val (.int x4), .val (.int m1_l5), .unset, .unset, .unset, .unset, .unset, .unset, .unset] [])) t → Steps p.tables e below (s₁.setTop (mkF m 9 #[.val (.int x0), .val (.int x1), .val (.int x2), .val (.int x3), .val (.int x4), .val (.int (x0 &&& (3 : Int32))), .unset, .unset, .unset, .unset, .unset, .unset, .unset] [(.int (x4 &&& (2 : Int32)))])) t := by
      intro m1_l5 t hAm1_l5 hBm1_l5 kk
      by_cases hq9 : (x4 &&& (2 : Int32)) = (0 : Int32)
      · rw [hAm1_l5 hq9] at kk
        refine XS.ifYes X0.here hx rfl (pc0 := 9) (pc' := 15) rfl (hb hby at_9) rfl ((if0 _ _).trans (teq hq9).1) (by decide) (by decide) ?_
        exact kk
      · rw [hBm1_l5 hq9] at kk
        refine XS.ifNo X0.here hx rfl (hb hby at_9) rfl ((if0 _ _).trans (feq hq9).1) ?_
        show Steps p.tables e below (s₁.setTop (mkF m 12 #[.val (.int x0), .val (.int x1), .val (.int x2), .val (.int x3), .val (.int x4), .val (.int (x0 &&& (3 : Int32))), .unset, .unset, .unset, .unset, .unset, .unset, .unset] [])) _
        refine XS.iconst X0.here hx rfl (hb hby at_12) ?_
        show Steps p.tables e below (s₁.setTop (mkF m 13 #[.val (.int x0), .val (.int x1), .val (.int x2), .val (.int x3), .val (.int x4), .val (.int (x0 &&& (3 : Int32))), .unset, .unset, .unset, .unset, .unset, .unset, .unset] [(.int (1 : Int32))])) _
        refine XS.istore X0.here hx rfl (hb hby at_13) rfl (l' := #[.val (.int x0), .val (.int x1), .val (.int x2), .val (.int x3), .val (.int x4), .val (.int (1 : Int32)), .unset, .unset, .unset, .unset, .unset, .unset, .unset]) rfl ?_
        exact kk
    refine k1 m1_l5 _ (fun h => by rw [em1_l5, if_pos h]) (fun h => by rw [em1_l5, if_neg h]) ?_
    show Steps p.tables e below (s₁.setTop (mkF m 15 #[.val (.int x0), .val (.int x1), .val (.int x2), .val (.int x3), .val (.int x4), .val (.int m1_l5), .unset, .unset, .unset, .unset, .unset, .unset, .unset] [])) _
    rw [show m1_l5 = (2 : Int32) from em1_l5.trans hn]
    show Steps p.tables e below (s₁.setTop (mkF m 15 #[.val (.int x0), .val (.int x1), .val (.int x2), .val (.int x3), .val (.int x4), .val (.int (2 : Int32)), .unset, .unset, .unset, .unset, .unset, .unset, .unset] [])) _
    refine XS.iloadN X0.here hx rfl (hb hby at_15) rfl ?_
    show Steps p.tables e below (s₁.setTop (mkF m 16 #[.val (.int x0), .val (.int x1), .val (.int x2), .val (.int x3), .val (.int x4), .val (.int (2 : Int32)), .unset, .unset, .unset, .unset, .unset, .unset, .unset] [(.int x1)])) _
    refine XS.sipush X0.here hx rfl (hb hby at_16) ?_
    show Steps p.tables e below (s₁.setTop (mkF m 19 #[.val (.int x0), .val (.int x1), .val (.int x2), .val (.int x3), .val (.int x4), .val (.int (2 : Int32)), .unset, .unset, .unset, .unset, .unset, .unset, .unset] [(.int (255 : Int32)), (.int x1)])) _
    refine XS.iand X0.here hx rfl (hb hby at_19) rfl ?_
    show Steps p.tables e below (s₁.setTop (mkF m 20 #[.val (.int x0), .val (.int x1), .val (.int x2), .val (.int x3), .val (.int x4), .val (.int (2 : Int32)), .unset, .unset, .unset, .unset, .unset, .unset, .unset] [(.int (x1 &&& (255 : Int32)))])) _
    refine XS.i2c X0.here hx rfl (hb hby at_20) rfl ?_
    show Steps p.tables e below (s₁.setTop (mkF m 21 #[.val (.int x0), .val (.int x1), .val (.int x2), .val (.int x3), .val (.int x4), .val (.int (2 : Int32)), .unset, .unset, .unset, .unset, .unset, .unset, .unset] [(.int ((x1 &&& (255 : Int32)).toUInt32.toUInt16.toUInt32.toInt32))])) _
    refine XS.istore X0.here hx rfl (hb hby at_21) rfl (l' := #[.val (.int x0), .val (.int x1), .val (.int x2), .val (.int x3), .val (.int x4), .val (.int (2 : Int32)), .val (.int ((x1 &&& (255 : Int32)).toUInt32.toUInt16.toUInt32.toInt32)), .unset, .unset, .unset, .unset, .unset, .unset]) rfl ?_
    show Steps p.tables e below (s₁.setTop (mkF m 23 #[.val (.int x0), .val (.int x1), .val (.int x2), .val (.int x3), .val (.int x4), .val (.int (2 : Int32)), .val (.int ((x1 &&& (255 : Int32)).toUInt32.toUInt16.toUInt32.toInt32)), .unset, .unset, .unset, .unset, .unset, .unset] [])) _
    refine XS.iload X0.here hx rfl (hb hby at_23) rfl ?_
    show Steps p.tables e below (s₁.setTop (mkF m 25 #[.val (.int x0), .val (.int x1), .val (.int x2), .val (.int x3), .val (.int x4), .val (.int (2 : Int32)), .val (.int ((x1 &&& (255 : Int32)).toUInt32.toUInt16.toUInt32.toInt32)), .unset, .unset, .unset, .unset, .unset, .unset] [(.int x4)])) _
    refine XS.iconst X0.here hx rfl (hb hby at_25) ?_
    show Steps p.tables e below (s₁.setTop (mkF m 26 #[.val (.int x0), .val (.int x1), .val (.int x2), .val (.int x3), .val (.int x4), .val (.int (2 : Int32)), .val (.int ((x1 &&& (255 : Int32)).toUInt32.toUInt16.toUInt32.toInt32)), .unset, .unset, .unset, .unset, .unset, .unset] [(.int (1 : Int32)), (.int x4)])) _
    refine XS.iand X0.here hx rfl (hb hby at_26) rfl ?_
    show Steps p.tables e below (s₁.setTop (mkF m 27 #[.val (.int x0), .val (.int x1), .val (.int x2), .val (.int x3), .val (.int x4), .val (.int (2 : Int32)), .val (.int ((x1 &&& (255 : Int32)).toUInt32.toUInt16.toUInt32.toInt32)), .unset, .unset, .unset, .unset, .unset, .unset] [(.int (x4 &&& (1 : Int32)))])) _
    have k2 : ∀ (m2_l6 : Int32) t, ((x4 &&& (1 : Int32)) = (0 : Int32) → m2_l6 = ((x1 &&& (255 : Int32)).toUInt32.toUInt16.toUInt32.toInt32)) → (¬ ((x4 &&& (1 : Int32)) = (0 : Int32)) → m2_l6 = (45 : Int32)) → Steps p.tables e below (s₁.setTop (mkF m 34 #[.val (.int x0), .val (.int x1), .val (.int x2), .val (.int x3), .val (.int x4), .val (.int (2 : Int32)), .val (.int m2_l6), .unset, .unset, .unset, .unset, .unset, .unset] [])) t → Steps p.tables e below (s₁.setTop (mkF m 27 #[.val (.int x0), .val (.int x1), .val (.int x2), .val (.int x3), .val (.int x4), .val (.int (2 : Int32)), .val (.int ((x1 &&& (255 : Int32)).toUInt32.toUInt16.toUInt32.toInt32)), .unset, .unset, .unset, .unset, .unset, .unset] [(.int (x4 &&& (1 : Int32)))])) t := by
      intro m2_l6 t hAm2_l6 hBm2_l6 kk
      by_cases hq27 : (x4 &&& (1 : Int32)) = (0 : Int32)
      · rw [hAm2_l6 hq27] at kk
        refine XS.ifYes X0.here hx rfl (pc0 := 27) (pc' := 34) rfl (hb hby at_27) rfl ((if0 _ _).trans (teq hq27).1) (by decide) (by decide) ?_
        exact kk
      · rw [hBm2_l6 hq27] at kk
        refine XS.ifNo X0.here hx rfl (hb hby at_27) rfl ((if0 _ _).trans (feq hq27).1) ?_
        show Steps p.tables e below (s₁.setTop (mkF m 30 #[.val (.int x0), .val (.int x1), .val (.int x2), .val (.int x3), .val (.int x4), .val (.int (2 : Int32)), .val (.int ((x1 &&& (255 : Int32)).toUInt32.toUInt16.toUInt32.toInt32)), .unset, .unset, .unset, .unset, .unset, .unset] [])) _
        refine XS.bipush X0.here hx rfl (hb hby at_30) ?_
        show Steps p.tables e below (s₁.setTop (mkF m 32 #[.val (.int x0), .val (.int x1), .val (.int x2), .val (.int x3), .val (.int x4), .val (.int (2 : Int32)), .val (.int ((x1 &&& (255 : Int32)).toUInt32.toUInt16.toUInt32.toInt32)), .unset, .unset, .unset, .unset, .unset, .unset] [(.int (45 : Int32))])) _
        refine XS.istore X0.here hx rfl (hb hby at_32) rfl (l' := #[.val (.int x0), .val (.int x1), .val (.int x2), .val (.int x3), .val (.int x4), .val (.int (2 : Int32)), .val (.int (45 : Int32)), .unset, .unset, .unset, .unset, .unset, .unset]) rfl ?_
        exact kk
    refine k2 m2_l6 _ (fun h => by rw [em2_l6, if_pos h]) (fun h => by rw [em2_l6, if_neg h]) ?_
    show Steps p.tables e below (s₁.setTop (mkF m 34 #[.val (.int x0), .val (.int x1), .val (.int x2), .val (.int x3), .val (.int x4), .val (.int (2 : Int32)), .val (.int m2_l6), .unset, .unset, .unset, .unset, .unset, .unset] [])) _
    rw [show m2_l6 = C0 from em2_l6.trans eC0.symm]
    show Steps p.tables e below (s₁.setTop (mkF m 34 #[.val (.int x0), .val (.int x1), .val (.int x2), .val (.int x3), .val (.int x4), .val (.int (2 : Int32)), .val (.int C0), .unset, .unset, .unset, .unset, .unset, .unset] [])) _
    refine XS.iloadN X0.here hx rfl (hb hby at_34) rfl ?_
    show Steps p.tables e below (s₁.setTop (mkF m 35 #[.val (.int x0), .val (.int x1), .val (.int x2), .val (.int x3), .val (.int x4), .val (.int (2 : Int32)), .val (.int C0), .unset, .unset, .unset, .unset, .unset, .unset] [(.int x2)])) _
    refine XS.sipush X0.here hx rfl (hb hby at_35) ?_
    show Steps p.tables e below (s₁.setTop (mkF m 38 #[.val (.int x0), .val (.int x1), .val (.int x2), .val (.int x3), .val (.int x4), .val (.int (2 : Int32)), .val (.int C0), .unset, .unset, .unset, .unset, .unset, .unset] [(.int (255 : Int32)), (.int x2)])) _
    refine XS.iand X0.here hx rfl (hb hby at_38) rfl ?_
    show Steps p.tables e below (s₁.setTop (mkF m 39 #[.val (.int x0), .val (.int x1), .val (.int x2), .val (.int x3), .val (.int x4), .val (.int (2 : Int32)), .val (.int C0), .unset, .unset, .unset, .unset, .unset, .unset] [(.int (x2 &&& (255 : Int32)))])) _
    refine XS.i2c X0.here hx rfl (hb hby at_39) rfl ?_
    show Steps p.tables e below (s₁.setTop (mkF m 40 #[.val (.int x0), .val (.int x1), .val (.int x2), .val (.int x3), .val (.int x4), .val (.int (2 : Int32)), .val (.int C0), .unset, .unset, .unset, .unset, .unset, .unset] [(.int ((x2 &&& (255 : Int32)).toUInt32.toUInt16.toUInt32.toInt32))])) _
    refine XS.istore X0.here hx rfl (hb hby at_40) rfl (l' := #[.val (.int x0), .val (.int x1), .val (.int x2), .val (.int x3), .val (.int x4), .val (.int (2 : Int32)), .val (.int C0), .val (.int ((x2 &&& (255 : Int32)).toUInt32.toUInt16.toUInt32.toInt32)), .unset, .unset, .unset, .unset, .unset]) rfl ?_
    show Steps p.tables e below (s₁.setTop (mkF m 42 #[.val (.int x0), .val (.int x1), .val (.int x2), .val (.int x3), .val (.int x4), .val (.int (2 : Int32)), .val (.int C0), .val (.int ((x2 &&& (255 : Int32)).toUInt32.toUInt16.toUInt32.toInt32)), .unset, .unset, .unset, .unset, .unset] [])) _
    refine XS.iload X0.here hx rfl (hb hby at_42) rfl ?_
    show Steps p.tables e below (s₁.setTop (mkF m 44 #[.val (.int x0), .val (.int x1), .val (.int x2), .val (.int x3), .val (.int x4), .val (.int (2 : Int32)), .val (.int C0), .val (.int ((x2 &&& (255 : Int32)).toUInt32.toUInt16.toUInt32.toInt32)), .unset, .unset, .unset, .unset, .unset] [(.int x4)])) _
    refine XS.iconst X0.here hx rfl (hb hby at_44) ?_
    show Steps p.tables e below (s₁.setTop (mkF m 45 #[.val (.int x0), .val (.int x1), .val (.int x2), .val (.int x3), .val (.int x4), .val (.int (2 : Int32)), .val (.int C0), .val (.int ((x2 &&& (255 : Int32)).toUInt32.toUInt16.toUInt32.toInt32)), .unset, .unset, .unset, .unset, .unset] [(.int (4 : Int32)), (.int x4)])) _
    refine XS.iand X0.here hx rfl (hb hby at_45) rfl ?_
    show Steps p.tables e below (s₁.setTop (mkF m 46 #[.val (.int x0), .val (.int x1), .val (.int x2), .val (.int x3), .val (.int x4), .val (.int (2 : Int32)), .val (.int C0), .val (.int ((x2 &&& (255 : Int32)).toUInt32.toUInt16.toUInt32.toInt32)), .unset, .unset, .unset, .unset, .unset] [(.int (x4 &&& (4 : Int32)))])) _
    have k3 : ∀ (m3_l7 : Int32) t, ((x4 &&& (4 : Int32)) = (0 : Int32) → m3_l7 = ((x2 &&& (255 : Int32)).toUInt32.toUInt16.toUInt32.toInt32)) → (¬ ((x4 &&& (4 : Int32)) = (0 : Int32)) → m3_l7 = (45 : Int32)) → Steps p.tables e below (s₁.setTop (mkF m 53 #[.val (.int x0), .val (.int x1), .val (.int x2), .val (.int x3), .val (.int x4), .val (.int (2 : Int32)), .val (.int C0), .val (.int m3_l7), .unset, .unset, .unset, .unset, .unset] [])) t → Steps p.tables e below (s₁.setTop (mkF m 46 #[.val (.int x0), .val (.int x1), .val (.int x2), .val (.int x3), .val (.int x4), .val (.int (2 : Int32)), .val (.int C0), .val (.int ((x2 &&& (255 : Int32)).toUInt32.toUInt16.toUInt32.toInt32)), .unset, .unset, .unset, .unset, .unset] [(.int (x4 &&& (4 : Int32)))])) t := by
      intro m3_l7 t hAm3_l7 hBm3_l7 kk
      by_cases hq46 : (x4 &&& (4 : Int32)) = (0 : Int32)
      · rw [hAm3_l7 hq46] at kk
        refine XS.ifYes X0.here hx rfl (pc0 := 46) (pc' := 53) rfl (hb hby at_46) rfl ((if0 _ _).trans (teq hq46).1) (by decide) (by decide) ?_
        exact kk
      · rw [hBm3_l7 hq46] at kk
        refine XS.ifNo X0.here hx rfl (hb hby at_46) rfl ((if0 _ _).trans (feq hq46).1) ?_
        show Steps p.tables e below (s₁.setTop (mkF m 49 #[.val (.int x0), .val (.int x1), .val (.int x2), .val (.int x3), .val (.int x4), .val (.int (2 : Int32)), .val (.int C0), .val (.int ((x2 &&& (255 : Int32)).toUInt32.toUInt16.toUInt32.toInt32)), .unset, .unset, .unset, .unset, .unset] [])) _
        refine XS.bipush X0.here hx rfl (hb hby at_49) ?_
        show Steps p.tables e below (s₁.setTop (mkF m 51 #[.val (.int x0), .val (.int x1), .val (.int x2), .val (.int x3), .val (.int x4), .val (.int (2 : Int32)), .val (.int C0), .val (.int ((x2 &&& (255 : Int32)).toUInt32.toUInt16.toUInt32.toInt32)), .unset, .unset, .unset, .unset, .unset] [(.int (45 : Int32))])) _
        refine XS.istore X0.here hx rfl (hb hby at_51) rfl (l' := #[.val (.int x0), .val (.int x1), .val (.int x2), .val (.int x3), .val (.int x4), .val (.int (2 : Int32)), .val (.int C0), .val (.int (45 : Int32)), .unset, .unset, .unset, .unset, .unset]) rfl ?_
        exact kk
    refine k3 m3_l7 _ (fun h => by rw [em3_l7, if_pos h]) (fun h => by rw [em3_l7, if_neg h]) ?_
    show Steps p.tables e below (s₁.setTop (mkF m 53 #[.val (.int x0), .val (.int x1), .val (.int x2), .val (.int x3), .val (.int x4), .val (.int (2 : Int32)), .val (.int C0), .val (.int m3_l7), .unset, .unset, .unset, .unset, .unset] [])) _
    rw [show m3_l7 = C1 from em3_l7.trans eC1.symm]
    show Steps p.tables e below (s₁.setTop (mkF m 53 #[.val (.int x0), .val (.int x1), .val (.int x2), .val (.int x3), .val (.int x4), .val (.int (2 : Int32)), .val (.int C0), .val (.int C1), .unset, .unset, .unset, .unset, .unset] [])) _
    refine XS.iloadN X0.here hx rfl (hb hby at_53) rfl ?_
    show Steps p.tables e below (s₁.setTop (mkF m 54 #[.val (.int x0), .val (.int x1), .val (.int x2), .val (.int x3), .val (.int x4), .val (.int (2 : Int32)), .val (.int C0), .val (.int C1), .unset, .unset, .unset, .unset, .unset] [(.int x3)])) _
    refine XS.sipush X0.here hx rfl (hb hby at_54) ?_
    show Steps p.tables e below (s₁.setTop (mkF m 57 #[.val (.int x0), .val (.int x1), .val (.int x2), .val (.int x3), .val (.int x4), .val (.int (2 : Int32)), .val (.int C0), .val (.int C1), .unset, .unset, .unset, .unset, .unset] [(.int (255 : Int32)), (.int x3)])) _
    refine XS.iand X0.here hx rfl (hb hby at_57) rfl ?_
    show Steps p.tables e below (s₁.setTop (mkF m 58 #[.val (.int x0), .val (.int x1), .val (.int x2), .val (.int x3), .val (.int x4), .val (.int (2 : Int32)), .val (.int C0), .val (.int C1), .unset, .unset, .unset, .unset, .unset] [(.int (x3 &&& (255 : Int32)))])) _
    refine XS.i2c X0.here hx rfl (hb hby at_58) rfl ?_
    show Steps p.tables e below (s₁.setTop (mkF m 59 #[.val (.int x0), .val (.int x1), .val (.int x2), .val (.int x3), .val (.int x4), .val (.int (2 : Int32)), .val (.int C0), .val (.int C1), .unset, .unset, .unset, .unset, .unset] [(.int ((x3 &&& (255 : Int32)).toUInt32.toUInt16.toUInt32.toInt32))])) _
    rw [← e_C2]
    show Steps p.tables e below (s₁.setTop (mkF m 59 #[.val (.int x0), .val (.int x1), .val (.int x2), .val (.int x3), .val (.int x4), .val (.int (2 : Int32)), .val (.int C0), .val (.int C1), .unset, .unset, .unset, .unset, .unset] [(.int C2)])) _
    refine XS.istore X0.here hx rfl (hb hby at_59) rfl (l' := #[.val (.int x0), .val (.int x1), .val (.int x2), .val (.int x3), .val (.int x4), .val (.int (2 : Int32)), .val (.int C0), .val (.int C1), .val (.int C2), .unset, .unset, .unset, .unset]) rfl ?_
    show Steps p.tables e below (s₁.setTop (mkF m 61 #[.val (.int x0), .val (.int x1), .val (.int x2), .val (.int x3), .val (.int x4), .val (.int (2 : Int32)), .val (.int C0), .val (.int C1), .val (.int C2), .unset, .unset, .unset, .unset] [])) _
    refine XS.iload X0.here hx rfl (hb hby at_61) rfl ?_
    show Steps p.tables e below (s₁.setTop (mkF m 63 #[.val (.int x0), .val (.int x1), .val (.int x2), .val (.int x3), .val (.int x4), .val (.int (2 : Int32)), .val (.int C0), .val (.int C1), .val (.int C2), .unset, .unset, .unset, .unset] [(.int (2 : Int32))])) _
    refine st4 _ ?_
    show Steps p.tables e below (T4.setTop (mkF m 65 #[.val (.int x0), .val (.int x1), .val (.int x2), .val (.int x3), .val (.int x4), .val (.int (2 : Int32)), .val (.int C0), .val (.int C1), .val (.int C2), .unset, .unset, .unset, .unset] [(.ref ch)])) _
    refine XS.astore X4.here hx rfl (hb hby at_65) rfl rfl (l' := #[.val (.int x0), .val (.int x1), .val (.int x2), .val (.int x3), .val (.int x4), .val (.int (2 : Int32)), .val (.int C0), .val (.int C1), .val (.int C2), .val (.ref ch), .unset, .unset, .unset]) rfl ?_
    show Steps p.tables e below (T4.setTop (mkF m 67 #[.val (.int x0), .val (.int x1), .val (.int x2), .val (.int x3), .val (.int x4), .val (.int (2 : Int32)), .val (.int C0), .val (.int C1), .val (.int C2), .val (.ref ch), .unset, .unset, .unset] [])) _
    refine XS.iload X4.here hx rfl (hb hby at_67) rfl ?_
    show Steps p.tables e below (T4.setTop (mkF m 69 #[.val (.int x0), .val (.int x1), .val (.int x2), .val (.int x3), .val (.int x4), .val (.int (2 : Int32)), .val (.int C0), .val (.int C1), .val (.int C2), .val (.ref ch), .unset, .unset, .unset] [(.int (2 : Int32))])) _
    refine XS.ifNo X4.here hx rfl (hb hby at_69) rfl ((if0 _ _).trans (tlt (by decide : (0 : Int32) < (2 : Int32))).2.2.2) ?_
    show Steps p.tables e below (T4.setTop (mkF m 72 #[.val (.int x0), .val (.int x1), .val (.int x2), .val (.int x3), .val (.int x4), .val (.int (2 : Int32)), .val (.int C0), .val (.int C1), .val (.int C2), .val (.ref ch), .unset, .unset, .unset] [])) _
    refine XS.aload X4.here hx rfl (hb hby at_72) rfl rfl ?_
    show Steps p.tables e below (T4.setTop (mkF m 74 #[.val (.int x0), .val (.int x1), .val (.int x2), .val (.int x3), .val (.int x4), .val (.int (2 : Int32)), .val (.int C0), .val (.int C1), .val (.int C2), .val (.ref ch), .unset, .unset, .unset] [(.ref ch)])) _
    refine XS.iconst X4.here hx rfl (hb hby at_74) ?_
    show Steps p.tables e below (T4.setTop (mkF m 75 #[.val (.int x0), .val (.int x1), .val (.int x2), .val (.int x3), .val (.int x4), .val (.int (2 : Int32)), .val (.int C0), .val (.int C1), .val (.int C2), .val (.ref ch), .unset, .unset, .unset] [(.int (0 : Int32)), (.ref ch)])) _
    refine XS.iload X4.here hx rfl (hb hby at_75) rfl ?_
    show Steps p.tables e below (T4.setTop (mkF m 77 #[.val (.int x0), .val (.int x1), .val (.int x2), .val (.int x3), .val (.int x4), .val (.int (2 : Int32)), .val (.int C0), .val (.int C1), .val (.int C2), .val (.ref ch), .unset, .unset, .unset] [(.int C0), (.int (0 : Int32)), (.ref ch)])) _
    refine st7 _ ?_
    show Steps p.tables e below (T7.setTop (mkF m 78 #[.val (.int x0), .val (.int x1), .val (.int x2), .val (.int x3), .val (.int x4), .val (.int (2 : Int32)), .val (.int C0), .val (.int C1), .val (.int C2), .val (.ref ch), .unset, .unset, .unset] [])) _
    refine XS.iload X7.here hx rfl (hb hby at_78) rfl ?_
    show Steps p.tables e below (T7.setTop (mkF m 80 #[.val (.int x0), .val (.int x1), .val (.int x2), .val (.int x3), .val (.int x4), .val (.int (2 : Int32)), .val (.int C0), .val (.int C1), .val (.int C2), .val (.ref ch), .unset, .unset, .unset] [(.int (2 : Int32))])) _
    refine XS.iconst X7.here hx rfl (hb hby at_80) ?_
    show Steps p.tables e below (T7.setTop (mkF m 81 #[.val (.int x0), .val (.int x1), .val (.int x2), .val (.int x3), .val (.int x4), .val (.int (2 : Int32)), .val (.int C0), .val (.int C1), .val (.int C2), .val (.ref ch), .unset, .unset, .unset] [(.int (1 : Int32)), (.int (2 : Int32))])) _
    refine XS.icmpNo X7.here hx rfl (hb hby at_81) rfl (tlt (by decide : (1 : Int32) < (2 : Int32))).2.2.2 ?_
    show Steps p.tables e below (T7.setTop (mkF m 84 #[.val (.int x0), .val (.int x1), .val (.int x2), .val (.int x3), .val (.int x4), .val (.int (2 : Int32)), .val (.int C0), .val (.int C1), .val (.int C2), .val (.ref ch), .unset, .unset, .unset] [])) _
    refine XS.aload X7.here hx rfl (hb hby at_84) rfl rfl ?_
    show Steps p.tables e below (T7.setTop (mkF m 86 #[.val (.int x0), .val (.int x1), .val (.int x2), .val (.int x3), .val (.int x4), .val (.int (2 : Int32)), .val (.int C0), .val (.int C1), .val (.int C2), .val (.ref ch), .unset, .unset, .unset] [(.ref ch)])) _
    refine XS.iconst X7.here hx rfl (hb hby at_86) ?_
    show Steps p.tables e below (T7.setTop (mkF m 87 #[.val (.int x0), .val (.int x1), .val (.int x2), .val (.int x3), .val (.int x4), .val (.int (2 : Int32)), .val (.int C0), .val (.int C1), .val (.int C2), .val (.ref ch), .unset, .unset, .unset] [(.int (1 : Int32)), (.ref ch)])) _
    refine XS.iload X7.here hx rfl (hb hby at_87) rfl ?_
    show Steps p.tables e below (T7.setTop (mkF m 89 #[.val (.int x0), .val (.int x1), .val (.int x2), .val (.int x3), .val (.int x4), .val (.int (2 : Int32)), .val (.int C0), .val (.int C1), .val (.int C2), .val (.ref ch), .unset, .unset, .unset] [(.int C1), (.int (1 : Int32)), (.ref ch)])) _
    refine st10 _ ?_
    show Steps p.tables e below (T10.setTop (mkF m 90 #[.val (.int x0), .val (.int x1), .val (.int x2), .val (.int x3), .val (.int x4), .val (.int (2 : Int32)), .val (.int C0), .val (.int C1), .val (.int C2), .val (.ref ch), .unset, .unset, .unset] [])) _
    refine XS.iload X10.here hx rfl (hb hby at_90) rfl ?_
    show Steps p.tables e below (T10.setTop (mkF m 92 #[.val (.int x0), .val (.int x1), .val (.int x2), .val (.int x3), .val (.int x4), .val (.int (2 : Int32)), .val (.int C0), .val (.int C1), .val (.int C2), .val (.ref ch), .unset, .unset, .unset] [(.int (2 : Int32))])) _
    refine XS.iconst X10.here hx rfl (hb hby at_92) ?_
    show Steps p.tables e below (T10.setTop (mkF m 93 #[.val (.int x0), .val (.int x1), .val (.int x2), .val (.int x3), .val (.int x4), .val (.int (2 : Int32)), .val (.int C0), .val (.int C1), .val (.int C2), .val (.ref ch), .unset, .unset, .unset] [(.int (2 : Int32)), (.int (2 : Int32))])) _
    refine XS.icmpYes X10.here hx rfl (pc0 := 93) (pc' := 102) rfl (hb hby at_93) rfl (flt (by decide : ¬ ((2 : Int32) < (2 : Int32)))).2.2.2 (by decide) (by decide) ?_
    show Steps p.tables e below (T10.setTop (mkF m 102 #[.val (.int x0), .val (.int x1), .val (.int x2), .val (.int x3), .val (.int x4), .val (.int (2 : Int32)), .val (.int C0), .val (.int C1), .val (.int C2), .val (.ref ch), .unset, .unset, .unset] [])) _
    refine st13 _ ?_
    show Steps p.tables e below (T13.setTop (mkF m 105 #[.val (.int x0), .val (.int x1), .val (.int x2), .val (.int x3), .val (.int x4), .val (.int (2 : Int32)), .val (.int C0), .val (.int C1), .val (.int C2), .val (.ref ch), .unset, .unset, .unset] [(.ref so)])) _
    refine XS.dup X13.here hx rfl (hb hby at_105) rfl rfl ?_
    show Steps p.tables e below (T13.setTop (mkF m 106 #[.val (.int x0), .val (.int x1), .val (.int x2), .val (.int x3), .val (.int x4), .val (.int (2 : Int32)), .val (.int C0), .val (.int C1), .val (.int C2), .val (.ref ch), .unset, .unset, .unset] [(.ref so), (.ref so)])) _
    refine XS.aload X13.here hx rfl (hb hby at_106) rfl rfl ?_
    show Steps p.tables e below (T13.setTop (mkF m 108 #[.val (.int x0), .val (.int x1), .val (.int x2), .val (.int x3), .val (.int x4), .val (.int (2 : Int32)), .val (.int C0), .val (.int C1), .val (.int C2), .val (.ref ch), .unset, .unset, .unset] [(.ref ch), (.ref so), (.ref so)])) _
    refine st16.trans ?_
    show Steps p.tables e below (T16.setTop (mkF m 111 #[.val (.int x0), .val (.int x1), .val (.int x2), .val (.int x3), .val (.int x4), .val (.int (2 : Int32)), .val (.int C0), .val (.int C1), .val (.int C2), .val (.ref ch), .unset, .unset, .unset] [(.ref so)])) _
    refine XS.astore X16.here hx rfl (hb hby at_111) rfl rfl (l' := #[.val (.int x0), .val (.int x1), .val (.int x2), .val (.int x3), .val (.int x4), .val (.int (2 : Int32)), .val (.int C0), .val (.int C1), .val (.int C2), .val (.ref ch), .val (.ref so), .unset, .unset]) rfl ?_
    show Steps p.tables e below (T16.setTop (mkF m 113 #[.val (.int x0), .val (.int x1), .val (.int x2), .val (.int x3), .val (.int x4), .val (.int (2 : Int32)), .val (.int C0), .val (.int C1), .val (.int C2), .val (.ref ch), .val (.ref so), .unset, .unset] [])) _
    refine XS.aload X16.here hx rfl (hb hby at_113) rfl rfl ?_
    show Steps p.tables e below (T16.setTop (mkF m 115 #[.val (.int x0), .val (.int x1), .val (.int x2), .val (.int x3), .val (.int x4), .val (.int (2 : Int32)), .val (.int C0), .val (.int C1), .val (.int C2), .val (.ref ch), .val (.ref so), .unset, .unset] [(.ref so)])) _
    refine st19.trans ?_
    show Steps p.tables e below (T19.setTop (mkF m 118 #[.val (.int x0), .val (.int x1), .val (.int x2), .val (.int x3), .val (.int x4), .val (.int (2 : Int32)), .val (.int C0), .val (.int C1), .val (.int C2), .val (.ref ch), .val (.ref so), .unset, .unset] [(.ref so)])) _
    refine XS.astore X19.here hx rfl (hb hby at_118) rfl rfl (l' := #[.val (.int x0), .val (.int x1), .val (.int x2), .val (.int x3), .val (.int x4), .val (.int (2 : Int32)), .val (.int C0), .val (.int C1), .val (.int C2), .val (.ref ch), .val (.ref so), .val (.ref so), .unset]) rfl ?_
    show Steps p.tables e below (T19.setTop (mkF m 120 #[.val (.int x0), .val (.int x1), .val (.int x2), .val (.int x3), .val (.int x4), .val (.int (2 : Int32)), .val (.int C0), .val (.int C1), .val (.int C2), .val (.ref ch), .val (.ref so), .val (.ref so), .unset] [])) _
    refine XS.aload X19.here hx rfl (hb hby at_120) rfl rfl ?_
    show Steps p.tables e below (T19.setTop (mkF m 122 #[.val (.int x0), .val (.int x1), .val (.int x2), .val (.int x3), .val (.int x4), .val (.int (2 : Int32)), .val (.int C0), .val (.int C1), .val (.int C2), .val (.ref ch), .val (.ref so), .val (.ref so), .unset] [(.ref so)])) _
    refine XS.ifnonnullYes X19.here hx rfl (pc0 := 122) (pc' := 127) rfl (hb hby at_122) rfl (by decide) (by decide) ?_
    show Steps p.tables e below (T19.setTop (mkF m 127 #[.val (.int x0), .val (.int x1), .val (.int x2), .val (.int x3), .val (.int x4), .val (.int (2 : Int32)), .val (.int C0), .val (.int C1), .val (.int C2), .val (.ref ch), .val (.ref so), .val (.ref so), .unset] [])) _
    refine XS.aload X19.here hx rfl (hb hby at_127) rfl rfl ?_
    show Steps p.tables e below (T19.setTop (mkF m 129 #[.val (.int x0), .val (.int x1), .val (.int x2), .val (.int x3), .val (.int x4), .val (.int (2 : Int32)), .val (.int C0), .val (.int C1), .val (.int C2), .val (.ref ch), .val (.ref so), .val (.ref so), .unset] [(.ref so)])) _
    refine st21.trans ?_
    show Steps p.tables e below (T21.setTop (mkF m 132 #[.val (.int x0), .val (.int x1), .val (.int x2), .val (.int x3), .val (.int x4), .val (.int (2 : Int32)), .val (.int C0), .val (.int C1), .val (.int C2), .val (.ref ch), .val (.ref so), .val (.ref so), .unset] [(.int (2 : Int32))])) _
    refine XS.iconst X21.here hx rfl (hb hby at_132) ?_
    show Steps p.tables e below (T21.setTop (mkF m 133 #[.val (.int x0), .val (.int x1), .val (.int x2), .val (.int x3), .val (.int x4), .val (.int (2 : Int32)), .val (.int C0), .val (.int C1), .val (.int C2), .val (.ref ch), .val (.ref so), .val (.ref so), .unset] [(.int (1 : Int32)), (.int (2 : Int32))])) _
    refine XS.icmpYes X21.here hx rfl (pc0 := 133) (pc' := 151) rfl (hb hby at_133) rfl (feq (by decide : ¬ ((2 : Int32) = (1 : Int32)))).2 (by decide) (by decide) ?_
    show Steps p.tables e below (T21.setTop (mkF m 151 #[.val (.int x0), .val (.int x1), .val (.int x2), .val (.int x3), .val (.int x4), .val (.int (2 : Int32)), .val (.int C0), .val (.int C1), .val (.int C2), .val (.ref ch), .val (.ref so), .val (.ref so), .unset] [])) _
    refine XS.iconst X21.here hx rfl (hb hby at_151) ?_
    show Steps p.tables e below (T21.setTop (mkF m 152 #[.val (.int x0), .val (.int x1), .val (.int x2), .val (.int x3), .val (.int x4), .val (.int (2 : Int32)), .val (.int C0), .val (.int C1), .val (.int C2), .val (.ref ch), .val (.ref so), .val (.ref so), .unset] [(.int (0 : Int32))])) _
    refine XS.istore X21.here hx rfl (hb hby at_152) rfl (l' := #[.val (.int x0), .val (.int x1), .val (.int x2), .val (.int x3), .val (.int x4), .val (.int (2 : Int32)), .val (.int C0), .val (.int C1), .val (.int C2), .val (.ref ch), .val (.ref so), .val (.ref so), .val (.int (0 : Int32))]) rfl ?_
    show Steps p.tables e below (T21.setTop (mkF m 154 #[.val (.int x0), .val (.int x1), .val (.int x2), .val (.int x3), .val (.int x4), .val (.int (2 : Int32)), .val (.int C0), .val (.int C1), .val (.int C2), .val (.ref ch), .val (.ref so), .val (.ref so), .val (.int (0 : Int32))] [])) _
    refine XS.iload X21.here hx rfl (hb hby at_154) rfl ?_
    show Steps p.tables e below (T21.setTop (mkF m 156 #[.val (.int x0), .val (.int x1), .val (.int x2), .val (.int x3), .val (.int x4), .val (.int (2 : Int32)), .val (.int C0), .val (.int C1), .val (.int C2), .val (.ref ch), .val (.ref so), .val (.ref so), .val (.int (0 : Int32))] [(.int (0 : Int32))])) _
    refine XS.ifYes X21.here hx rfl (pc0 := 156) (pc' := 167) rfl (hb hby at_156) rfl ((if0 _ _).trans (teq (by decide : (0 : Int32) = (0 : Int32))).1) (by decide) (by decide) ?_
    show Steps p.tables e below (T21.setTop (mkF m 167 #[.val (.int x0), .val (.int x1), .val (.int x2), .val (.int x3), .val (.int x4), .val (.int (2 : Int32)), .val (.int C0), .val (.int C1), .val (.int C2), .val (.ref ch), .val (.ref so), .val (.ref so), .val (.int (0 : Int32))] [])) _
    refine XS.aload X21.here hx rfl (hb hby at_167) rfl rfl ?_
    show Steps p.tables e below (T21.setTop (mkF m 169 #[.val (.int x0), .val (.int x1), .val (.int x2), .val (.int x3), .val (.int x4), .val (.int (2 : Int32)), .val (.int C0), .val (.int C1), .val (.int C2), .val (.ref ch), .val (.ref so), .val (.ref so), .val (.int (0 : Int32))] [(.ref so)])) _
    refine XS.aload X21.here hx rfl (hb hby at_169) rfl rfl ?_
    show Steps p.tables e below (T21.setTop (mkF m 171 #[.val (.int x0), .val (.int x1), .val (.int x2), .val (.int x3), .val (.int x4), .val (.int (2 : Int32)), .val (.int C0), .val (.int C1), .val (.int C2), .val (.ref ch), .val (.ref so), .val (.ref so), .val (.int (0 : Int32))] [(.ref so), (.ref so)])) _
    refine st22.trans ?_
    show Steps p.tables e below (T22.setTop (mkF m 174 #[.val (.int x0), .val (.int x1), .val (.int x2), .val (.int x3), .val (.int x4), .val (.int (2 : Int32)), .val (.int C0), .val (.int C1), .val (.int C2), .val (.ref ch), .val (.ref so), .val (.ref so), .val (.int (0 : Int32))] [(.int (1 : Int32))])) _
    exact retN X22 hx (t := .boolean) Bd.returns (by simp) (hb hby at_174) hr
  · exact ⟨rfl, N22⟩
  · have eT : (T22.setFrames fs).heap = T19.heap := e22
    rw [eT, hh]; exact Rend
set_option maxRecDepth 65536 in
set_option maxHeartbeats 40000000 in
theorem rm0_3 (l : Launch) (Z : State) (a0 : Array Value) (hw : ∀ d ∈ tables_1, d.before a0 Z = true) (ws : List Jvm.Cond) (x0 : Int32) (x1 : Int32) (x2 : Int32) (x3 : Int32) (x4 : Int32) (cs C0 C1 : Int32) (fmv : Value) (h0 : Heap) (n0 : Nat) (Z0 : n0 ≤ h0.size) (hn : (if (x4 &&& (2 : Int32)) = (0 : Int32) then (x0 &&& (3 : Int32)) else (1 : Int32)) = (3 : Int32)) (O0 : Old Z n0 h0) (S_CS : Sta Z Z.heap "java/lang/String" "COMPACT_STRINGS" "Z" (.int cs)) (hcs : ¬ (cs = (0 : Int32))) (S_FM : Sta Z Z.heap "jdk/internal/util/Preconditions" "SIOOBE_FORMATTER" "Ljava/util/function/BiFunction;" fmv) (hfm : fmv.isRef = true) (eC0 : C0 = (if (x4 &&& (1 : Int32)) = (0 : Int32) then ((x1 &&& (255 : Int32)).toUInt32.toUInt16.toUInt32.toInt32) else (45 : Int32))) (eC1 : C1 = (if (x4 &&& (4 : Int32)) = (0 : Int32) then ((x2 &&& (255 : Int32)).toUInt32.toUInt16.toUInt32.toInt32) else (45 : Int32))) :
    MetFree l x (head1 (Jvm.Cond.code x code maxLocals ret :: ws) room_1) (fun a U => a = #[(.int x0), (.int x1), (.int x2), (.int x3), (.int x4)] ∧ Z.Warmed39 U.vm ∧ U.heap = h0 ∧ CHv Z consts_1 U.vm h0) (fun _ _ _ _ _ => True) (fun _ U o U' => ∃ v L, o = .returned v ∧ (QL n0 v U'.heap L) ∧ CHr Z consts_1 U.vm U.heap U'.vm U'.heap ∧ ReturnedEndW U o U' L room_1.cells room_1.slots) := by
  refine MetFree.of_bodySF (plainFor_of_name pn_0) hisR ?_
  intro p e s m args below meth c s₁ Bd hml0 hP hK
  obtain ⟨rfl, hZ, hh, C0v⟩ := hP
  have hx := Bd.exec
  have hby := Bd.bytes
  have hml : c.maxLocals = 13 := hml0
  have hown : (s.setVm s.vm).vm.findClass "com/example/skylattice/skylattice/cli/InputArgumentNamePinLaw" = some m.cls := findClass_of_methodNamed Bd.named
  have hnm := (name_of_methodNamed Bd.named Bd.method).1
  have X0 : Stand p l e room_1 (s.setVm s.vm) m #[(.int x0), (.int x1), (.int x2), (.int x3), (.int x4)] below meth c s₁ [] 0 0 := Stand.of_body Bd
  have e0 : s₁.heap = h0 := by rw [← hh, Bd.state]; rfl
  have N0 := Fr.nil n0
  have hS0 : s.Since s.vm 0 := (State.WarmedH.refl s).since 0
  have hk0 : 0 ≤ h0.size := Nat.zero_le _
  have R0v := CHr.refl C0v
  have pre0 : ∀ t, Steps p.tables e below (s₁.setTop (mkF m 0 #[.val (.int x0), .val (.int x1), .val (.int x2), .val (.int x3), .val (.int x4), .unset, .unset, .unset, .unset, .unset, .unset, .unset, .unset] [])) t → Steps p.tables e below (s₁.setTop (entryFrame m #[(.int x0), (.int x1), (.int x2), (.int x3), (.int x4)] maxLocals)) t := fun t k => castTop (ef_0 m x0 x1 x2 x3 x4) k
  have hC0 : 0 ≤ C0.toInt ∧ C0.toInt ≤ 255 := by
    rw [eC0]; split
    · exact own_chr _
    · decide
  have hC1 : 0 ≤ C1.toInt ∧ C1.toInt ≤ 255 := by
    rw [eC1]; split
    · exact own_chr _
    · decide
  obtain ⟨nC0, hc0, hz0⟩ := own_narc C0 hC0
  obtain ⟨nC1, hc1, hz1⟩ := own_narc C1 hC1
  obtain ⟨cb1, cb2⟩ := own_cb C0 hc0 hz0
  obtain ⟨m1_l5, em1_l5⟩ : ∃ z : Int32, z = (if (x4 &&& (2 : Int32)) = (0 : Int32) then (x0 &&& (3 : Int32)) else (1 : Int32)) := ⟨_, rfl⟩
  obtain ⟨m2_l6, em2_l6⟩ : ∃ z : Int32, z = (if (x4 &&& (1 : Int32)) = (0 : Int32) then ((x1 &&& (255 : Int32)).toUInt32.toUInt16.toUInt32.toInt32) else (45 : Int32)) := ⟨_, rfl⟩
  obtain ⟨m3_l7, em3_l7⟩ : ∃ z : Int32, z = (if (x4 &&& (4 : Int32)) = (0 : Int32) then ((x2 &&& (255 : Int32)).toUInt32.toUInt16.toUInt32.toInt32) else (45 : Int32)) := ⟨_, rfl⟩
  obtain ⟨C2, e_C2⟩ : ∃ z : Int32, z = ((x3 &&& (255 : Int32)).toUInt32.toUInt16.toUInt32.toInt32) := ⟨_, rfl⟩
  have hC2 : 0 ≤ C2.toInt ∧ C2.toInt ≤ 255 := by rw [e_C2]; exact own_chr _
  obtain ⟨nC2, hc2, hz2⟩ := own_narc C2 hC2
  obtain ⟨T4, h4, k4, X4, e4, E4, A4, st4⟩ := newP X0 hx hZ (hw _ (List.mem_of_getElem? (i := 0) rfl)) e0 (g := (mkF m 63 #[.val (.int x0), .val (.int x1), .val (.int x2), .val (.int x3), .val (.int x4), .val (.int (3 : Int32)), .val (.int C0), .val (.int C1), .val (.int C2), .unset, .unset, .unset, .unset] [(.int (3 : Int32))])) rfl (hb hby at_63) rfl (by decide) (cap := 3) (by decide) (by decide) (by decide) (by decide)
  obtain ⟨ch, g4⟩ : ∃ z, z = h0.size := ⟨_, rfl⟩
  rw [← g4] at A4 st4
  have V_ch_4 : Arv Z h4 ch k4 .char (3 : Int32) [(.int (0 : Int32)), (.int (0 : Int32)), (.int (0 : Int32))] (.int (0 : Int32)) := (Arv.new A4 (by decide)).pad (pad_rep [] (.int (0 : Int32)) 3)
  have g_ch : n0 ≤ ch := Nat.le_trans Z0 (Nat.le_of_eq g4.symm)
  have Cr6 := CHr.ext E4 C0v
  have C6v := Cr6.1
  have R6v := R0v.trans Cr6
  have hk6 := Nat.le_trans hk0 E4.1
  have old_5 : Old Z n0 h4 := O0.ext E4
  have siz_5 : n0 ≤ h4.size := Nat.le_trans Z0 E4.1
  have SfC : Safe Z consts_1 s.vm h4 ch := own_safe_arr (show Z.vm.Alike s.vm from hZ.alike) V_ch_4
  obtain ⟨T7, h7, L7, X7, e7, N7, W7, V7, st7⟩ := own_stC X4 hx hZ e4 V_ch_4 (j := (0 : Int32)) ⟨by decide, by decide⟩ (i := 0) rfl (Nat.le_of_ble_eq_true rfl) N0 g_ch (g := (mkF m 77 #[.val (.int x0), .val (.int x1), .val (.int x2), .val (.int x3), .val (.int x4), .val (.int (3 : Int32)), .val (.int C0), .val (.int C1), .val (.int C2), .val (.ref ch), .unset, .unset, .unset] [(.int C0), (.int (0 : Int32)), (.ref ch)])) rfl rfl (hb hby at_77)
  have Cr9 := CHr.wr W7 SfC C6v
  have Sf_ch_9 := Safe.wr W7 SfC C6v SfC
  have C9v := Cr9.1
  have R9v := R6v.trans Cr9
  have hk9 := Nat.le_trans hk6 (Keep.of_wr W7).1
  have old_8 : Old Z n0 h7 := old_5.wr W7 g_ch
  have siz_8 : n0 ≤ h7.size := Nat.le_trans siz_5 (Keep.of_wr W7).1
  have V_ch_7 : Arv Z h7 ch k4 .char (3 : Int32) [(.int (nar .char C0)), (.int (0 : Int32)), (.int (0 : Int32))] (.int (0 : Int32)) := V7
  rw [nC0] at V_ch_7
  obtain ⟨T10, h10, L10, X10, e10, N10, W10, V10, st10⟩ := own_stC X7 hx hZ e7 V_ch_7 (j := (1 : Int32)) ⟨by decide, by decide⟩ (i := 1) rfl (Nat.le_of_ble_eq_true rfl) N7 g_ch (g := (mkF m 89 #[.val (.int x0), .val (.int x1), .val (.int x2), .val (.int x3), .val (.int x4), .val (.int (3 : Int32)), .val (.int C0), .val (.int C1), .val (.int C2), .val (.ref ch), .unset, .unset, .unset] [(.int C1), (.int (1 : Int32)), (.ref ch)])) rfl rfl (hb hby at_89)
  have Cr12 := CHr.wr W10 Sf_ch_9 C9v
  have Sf_ch_12 := Safe.wr W10 Sf_ch_9 C9v Sf_ch_9
  have C12v := Cr12.1
  have R12v := R9v.trans Cr12
  have hk12 := Nat.le_trans hk9 (Keep.of_wr W10).1
  have old_11 : Old Z n0 h10 := old_8.wr W10 g_ch
  have siz_11 : n0 ≤ h10.size := Nat.le_trans siz_8 (Keep.of_wr W10).1
  have V_ch_10 : Arv Z h10 ch k4 .char (3 : Int32) [(.int C0), (.int (nar .char C1)), (.int (0 : Int32))] (.int (0 : Int32)) := V10
  rw [nC1] at V_ch_10
  obtain ⟨T13, h13, L13, X13, e13, N13, W13, V13, st13⟩ := own_stC X10 hx hZ e10 V_ch_10 (j := (2 : Int32)) ⟨by decide, by decide⟩ (i := 2) rfl (Nat.le_of_ble_eq_true rfl) N10 g_ch (g := (mkF m 101 #[.val (.int x0), .val (.int x1), .val (.int x2), .val (.int x3), .val (.int x4), .val (.int (3 : Int32)), .val (.int C0), .val (.int C1), .val (.int C2), .val (.ref ch), .unset, .unset, .unset] [(.int C2), (.int (2 : Int32)), (.ref ch)])) rfl rfl (hb hby at_101)
  have Cr15 := CHr.wr W13 Sf_ch_12 C12v
  have Sf_ch_15 := Safe.wr W13 Sf_ch_12 C12v Sf_ch_12
  have C15v := Cr15.1
  have R15v := R12v.trans Cr15
  have hk15 := Nat.le_trans hk12 (Keep.of_wr W13).1
  have old_14 : Old Z n0 h13 := old_11.wr W13 g_ch
  have siz_14 : n0 ≤ h13.size := Nat.le_trans siz_11 (Keep.of_wr W13).1
  have V_ch_13 : Arv Z h13 ch k4 .char (3 : Int32) [(.int C0), (.int C1), (.int (nar .char C2))] (.int (0 : Int32)) := V13
  rw [nC2] at V_ch_13
  obtain ⟨T16, h16, X16, e16, E16, A16, D16, -, st16⟩ := newO X13 hx hZ hown (hw _ (List.mem_of_getElem? (i := 1) rfl)) (hw _ (List.mem_of_getElem? (i := 2) rfl)) (hw _ (List.mem_of_getElem? (i := 3) rfl)) e13 (g := (mkF m 102 #[.val (.int x0), .val (.int x1), .val (.int x2), .val (.int x3), .val (.int x4), .val (.int (3 : Int32)), .val (.int C0), .val (.int C1), .val (.int C2), .val (.ref ch), .unset, .unset, .unset] [])) rfl (hb hby at_102) (by decide) (by decide)
  obtain ⟨so, g16⟩ : ∃ z, z = h13.size := ⟨_, rfl⟩
  rw [← g16] at A16 D16 st16
  have E_so_16 : Exa Z h16 so "java/lang/String" := A16
  have F_value_so_16 : Fld Z h16 so "java/lang/String" "value" "[B" .null := D16 (Or.inr (hw _ (List.mem_of_getElem? (i := 16) rfl))) (ty := (.array .byte)) (by decide)
  have F_coder_so_16 : Fld Z h16 so "java/lang/String" "coder" "B" (.int (0 : Int32)) := D16 (Or.inr (hw _ (List.mem_of_getElem? (i := 17) rfl))) (ty := .byte) (by decide)
  have lt_ch_so : ch < so := Nat.lt_of_lt_of_le V_ch_13.lt (Nat.le_of_eq g16.symm)
  have g_so : n0 ≤ so := Nat.le_trans siz_14 (Nat.le_of_eq g16.symm)
  have Cr18 := CHr.ext E16 C15v
  have Sf_ch_18 := Safe.ext E16 C15v Sf_ch_15
  have C18v := Cr18.1
  have R18v := R15v.trans Cr18
  have hk18 := Nat.le_trans hk15 E16.1
  have old_17 : Old Z n0 h16 := old_14.ext E16
  have siz_17 : n0 ≤ h16.size := Nat.le_trans siz_14 E16.1
  have V_ch_17 : Arv Z h16 ch k4 .char (3 : Int32) [(.int C0), (.int C1), (.int C2)] (.int (0 : Int32)) := V_ch_13.ext E16
  have SfS : Safe Z consts_1 s.vm h16 so := own_safe (show Z.vm.Alike s.vm from hZ.alike) E_so_16 F_value_so_16
  obtain ⟨_, _, ⟨T19, L19, k19, n19⟩, -, X19, ⟨Lc19, hQ19, l19, y19, z19⟩, st19⟩ := X16.specialBack hx (y := (⟨"java/lang/String", "<init>", "([C)V"⟩ : MethodName)) rfl hown (mvT hZ (hw _ (List.mem_of_getElem? (i := 4) rfl))) (mvT hZ (hw _ (List.mem_of_getElem? (i := 5) rfl))) (mvT hZ (hw _ (List.mem_of_getElem? (i := 6) rfl))) (by decide) (backOf (W := 1) (rms1_3 l Z a0 hw [] so ch k4 C0 C1 C2 cs h16 n0 siz_17 E_so_16 F_value_so_16 F_coder_so_16 V_ch_17 g_so (Ne.symm (Nat.ne_of_lt lt_ch_so)) hc0 hc1 hc2 old_17 S_CS hcs) hZ (hw _ (List.mem_of_getElem? (i := 6) rfl)) (hw _ (List.mem_of_getElem? (i := 3) rfl)) (by decide) (by decide)) (g := (mkF m 108 #[.val (.int x0), .val (.int x1), .val (.int x2), .val (.int x3), .val (.int x4), .val (.int (3 : Int32)), .val (.int C0), .val (.int C1), .val (.int C2), .val (.ref ch), .unset, .unset, .unset] [(.ref ch), (.ref so), (.ref so)])) rfl (by rw [hml]; rfl) (Steps.refl _) (a := so) (argsL := [(.ref ch)]) (rest := [(.ref so)]) (lenOf pd___C_V rfl) rfl (by show 2 * 0 + _ ≤ _; exact Nat.le_of_eq rfl) (hb hby at_108) (fun _ _ => ⟨rfl, e16, (by decide : 2 + 1 ≤ _), (by decide : 7 + 3 ≤ _)⟩)
  dsimp only [Pt.U, Pt.locs, Pt.cells, Pt.slots] at X19 l19 y19 z19 st19 hQ19
  subst l19 y19 z19
  obtain ⟨rfl, N19q, K19, Eq19, va, kv, Fq19, Fc19, Vq19⟩ := hQ19
  have Cr21 := CHr.keep K19 (allS SfS (all0)) C18v
  have Sf_ch_21 := Safe.keep K19 (allS SfS (all0)) C18v Sf_ch_18
  have Sf_so_21 := Safe.keep K19 (allS SfS (all0)) C18v SfS
  have C21v := Cr21.1
  have R21v := R18v.trans Cr21
  have hk21 := Nat.le_trans hk18 K19.1
  have old_20 : Old Z n0 T19.heap := old_17.keep K19 (allS g_so (all0))
  have siz_20 : n0 ≤ T19.heap.size := Nat.le_trans siz_17 K19.1
  have V_ch_20 : Arv Z T19.heap ch k4 .char (3 : Int32) [(.int C0), (.int C1), (.int C2)] (.int (0 : Int32)) := V_ch_17.keep K19 (ninS (Nat.ne_of_lt lt_ch_so) nin0)
  have N19 := Fr.app N13 N19q
  obtain ⟨_, _, ⟨T22, L22, k22, n22⟩, -, Xr22, hSr22, hgr22, ⟨Lc22, hQ22, l22, y22, z22, Cc22⟩, st22⟩ := callSS X19 hx (y := (⟨"com/example/skylattice/skylattice/cli/InputArgument", "name", "(Ljava/lang/String;)Ljava/lang/String;"⟩ : MethodName)) hown (mvT hZ (hw _ (List.mem_of_getElem? (i := 22) rfl))) (mvT hZ (hw _ (List.mem_of_getElem? (i := 23) rfl))) (mvT hZ (hw _ (List.mem_of_getElem? (i := 24) rfl))) (mvT hZ (hw _ (List.mem_of_getElem? (i := 25) rfl))) (by decide) (backOfSH (s := s) (W := 0) (rmnm_3 l Z a0 hw [] so va kv cs (own_b C0) (own_b C1) (own_b C2) T19.heap n0 siz_20 Eq19 Fq19 Fc19 Vq19 old_20 S_CS hcs) hZ (hw _ (List.mem_of_getElem? (i := 25) rfl)) (hw _ (List.mem_of_getElem? (i := 24) rfl)) (by decide) (by decide) (own_EL hw) C21v) (g := (mkF m 115 #[.val (.int x0), .val (.int x1), .val (.int x2), .val (.int x3), .val (.int x4), .val (.int (3 : Int32)), .val (.int C0), .val (.int C1), .val (.int C2), .val (.ref ch), .val (.ref so), .unset, .unset] [(.ref so)])) rfl (by rw [hml]; rfl) (argsL := [(.ref so)]) (rest := []) (lenOf pd__Ljava_lang_String__Ljava_lang_String_ rfl) rfl (by show 2 * 0 + _ ≤ _; exact Nat.le_of_eq rfl) (hb hby at_115) (fun _ _ => ⟨rfl, rfl, (by decide : 3 + 4 ≤ _), (by decide : 10 + 68 ≤ _)⟩)
  dsimp only [Pt.U, Pt.locs, Pt.cells, Pt.slots] at Xr22 hSr22 hgr22 l22 y22 z22 st22 hQ22 Cc22
  subst l22 y22 z22
  obtain ⟨X22, hS22, hZ22, hown22⟩ := rebS (own := "com/example/skylattice/skylattice/cli/InputArgumentNamePinLaw") hS0 hk21 Xr22 hSr22 hgr22 hZ hown
  obtain ⟨rfl, N22q, K22⟩ := hQ22
  have old_23 : Old Z n0 T22.heap := old_20.keep K22 (all0)
  have siz_23 : n0 ≤ T22.heap.size := Nat.le_trans siz_20 K22.1
  have E_so_23 : Exa Z T22.heap so "java/lang/String" := Eq19.keep K22
  have F_value_so_23 : Fld Z T22.heap so "java/lang/String" "value" "[B" (.ref va) := Fq19.keep K22 nin0
  have F_coder_so_23 : Fld Z T22.heap so "java/lang/String" "coder" "B" (.int (0 : Int32)) := Fc19.keep K22 nin0
  have V_va_23 : Arv Z T22.heap va kv .byte (3 : Int32) [(.int (own_b C0)), (.int (own_b C1)), (.int (own_b C2))] (.int (0 : Int32)) := Vq19.keep K22 nin0
  have C22v := Cc22.1
  have R22v := R21v.trans Cc22
  have N22 := Fr.app N19 N22q
  have hk22 := Nat.le_refl T22.heap.size
  obtain ⟨cq24, kq24, q24a, q24b, q24c⟩ := isOf hZ22 rfl E_so_23
  obtain ⟨_, _, ⟨T24, L24, k24, n24⟩, -, X24, ⟨Lc24, hQ24, l24, y24, z24⟩, st24⟩ := X22.virtualBack hx (y := (⟨"java/lang/String", "length", "()I"⟩ : MethodName)) (z := (⟨"java/lang/String", "length", "()I"⟩ : MethodName)) hown22 (mvT hZ22 (hw _ (List.mem_of_getElem? (i := 38) rfl))) (mvT hZ22 (hw _ (List.mem_of_getElem? (i := 39) rfl))) (notFace_of_selects (args := #[]) (mvT hZ22 (hw _ (List.mem_of_getElem? (i := 41) rfl)))) (mvT hZ22 (hw _ (List.mem_of_getElem? (i := 41) rfl))) (mvT hZ22 (hw _ (List.mem_of_getElem? (i := 40) rfl))) (by decide) (backOf (W := 0) (rmln_3 l Z a0 hw [] so va kv cs (own_b C0) (own_b C1) (own_b C2) T22.heap n0 siz_23 E_so_23 F_value_so_23 F_coder_so_23 V_va_23 old_23 S_CS hcs) hZ22 (hw _ (List.mem_of_getElem? (i := 42) rfl)) (hw _ (List.mem_of_getElem? (i := 3) rfl)) (by decide) (by decide)) q24a q24c (g := (mkF m 129 #[.val (.int x0), .val (.int x1), .val (.int x2), .val (.int x3), .val (.int x4), .val (.int (3 : Int32)), .val (.int C0), .val (.int C1), .val (.int C2), .val (.ref ch), .val (.ref so), .val (.ref so), .unset] [(.ref so)])) rfl (by rw [hml]; rfl) (Steps.refl _) (argsL := []) (rest := []) (lenOf pd___I rfl) rfl (by show 2 * 0 + _ ≤ _; exact Nat.le_of_eq rfl) (hb hby at_129) (fun _ _ => ⟨rfl, rfl, (by decide : 7 + 0 ≤ _), (by decide : 78 + 0 ≤ _)⟩)
  dsimp only [Pt.U, Pt.locs, Pt.cells, Pt.slots] at X24 l24 y24 z24 st24 hQ24
  subst l24 y24 z24
  obtain ⟨rfl, N24q, e24⟩ := hQ24
  have N24 := Fr.app N22 N24q
  obtain ⟨cq25, kq25, q25a, q25b, q25c⟩ := isOf hZ22 e24 E_so_23
  obtain ⟨_, _, ⟨T25, L25, k25, n25⟩, -, X25, ⟨Lc25, hQ25, l25, y25, z25⟩, st25⟩ := X24.virtualBack hx (y := (⟨"java/lang/String", "equals", "(Ljava/lang/Object;)Z"⟩ : MethodName)) (z := (⟨"java/lang/String", "equals", "(Ljava/lang/Object;)Z"⟩ : MethodName)) hown22 (mvT hZ22 (hw _ (List.mem_of_getElem? (i := 48) rfl))) (mvT hZ22 (hw _ (List.mem_of_getElem? (i := 28) rfl))) (notFace_of_selects (args := #[]) (mvT hZ22 (hw _ (List.mem_of_getElem? (i := 30) rfl)))) (mvT hZ22 (hw _ (List.mem_of_getElem? (i := 30) rfl))) (mvT hZ22 (hw _ (List.mem_of_getElem? (i := 29) rfl))) (by decide) (backOf (W := 0) (rmeq_same l Z a0 hw [] so T22.heap n0 siz_23) hZ22 (hw _ (List.mem_of_getElem? (i := 31) rfl)) (hw _ (List.mem_of_getElem? (i := 3) rfl)) (by decide) (by decide)) q25a q25c (g := (mkF m 171 #[.val (.int x0), .val (.int x1), .val (.int x2), .val (.int x3), .val (.int x4), .val (.int (3 : Int32)), .val (.int C0), .val (.int C1), .val (.int C2), .val (.ref ch), .val (.ref so), .val (.ref so), .val (.int (0 : Int32))] [(.ref so), (.ref so)])) rfl (by rw [hml]; rfl) (Steps.refl _) (argsL := [(.ref so)]) (rest := []) (lenOf pd__Ljava_lang_Object__Z rfl) rfl (by show 2 * 0 + _ ≤ _; exact Nat.le_of_eq rfl) (hb hby at_171) (fun _ _ => ⟨rfl, e24, (by decide : 7 + 0 ≤ _), (by decide : 78 + 0 ≤ _)⟩)
  dsimp only [Pt.U, Pt.locs, Pt.cells, Pt.slots] at X25 l25 y25 z25 st25 hQ25
  subst l25 y25 z25
  obtain ⟨rfl, N25q, e25⟩ := hQ25
  have N25 := Fr.app N24 N25q
  have Rend := R22v.trans (CHv.at X25 hZ22 (own_EL hw) C22v)
  obtain ⟨fs, hr, hrun, hended, hRW⟩ := X25.leaveW hS22 (by rw [e25]; exact hk22) (v := some (.int (1 : Int32))) (fun h => by rw [Bd.returns] at h; cases h)
  refine ⟨_, _, pre0 _ ?_, hrun, hended, _, _, rfl, ?_, ?_, hRW.1, hRW.2.1, hRW.2.2.1, hRW.2.2.2.mono (by decide) (by decide)⟩
  · show Steps p.tables e below (s₁.setTop (mkF m 0 #[.val (.int x0), .val (.int x1), .val (.int x2), .val (.int x3), .val (.int x4), .unset, .unset, .unset, .unset, .unset, .unset, .unset, .unset] [])) _
    refine XS.iloadN X0.here hx rfl (hb hby at_0) rfl ?_
    show Steps p.tables e below (s₁.setTop (mkF m 1 #[.val (.int x0), .val (.int x1), .val (.int x2), .val (.int x3), .val (.int x4), .unset, .unset, .unset, .unset, .unset, .unset, .unset, .unset] [(.int x0)])) _
    refine XS.iconst X0.here hx rfl (hb hby at_1) ?_
    show Steps p.tables e below (s₁.setTop (mkF m 2 #[.val (.int x0), .val (.int x1), .val (.int x2), .val (.int x3), .val (.int x4), .unset, .unset, .unset, .unset, .unset, .unset, .unset, .unset] [(.int (3 : Int32)), (.int x0)])) _
    refine XS.iand X0.here hx rfl (hb hby at_2) rfl ?_
    show Steps p.tables e below (s₁.setTop (mkF m 3 #[.val (.int x0), .val (.int x1), .val (.int x2), .val (.int x3), .val (.int x4), .unset, .unset, .unset, .unset, .unset, .unset, .unset, .unset] [(.int (x0 &&& (3 : Int32)))])) _
    refine XS.istore X0.here hx rfl (hb hby at_3) rfl (l' := #[.val (.int x0), .val (.int x1), .val (.int x2), .val (.int x3), .val (.int x4), .val (.int (x0 &&& (3 : Int32))), .unset, .unset, .unset, .unset, .unset, .unset, .unset]) rfl ?_
    show Steps p.tables e below (s₁.setTop (mkF m 5 #[.val (.int x0), .val (.int x1), .val (.int x2), .val (.int x3), .val (.int x4), .val (.int (x0 &&& (3 : Int32))), .unset, .unset, .unset, .unset, .unset, .unset, .unset] [])) _
    refine XS.iload X0.here hx rfl (hb hby at_5) rfl ?_
    show Steps p.tables e below (s₁.setTop (mkF m 7 #[.val (.int x0), .val (.int x1), .val (.int x2), .val (.int x3), .val (.int x4), .val (.int (x0 &&& (3 : Int32))), .unset, .unset, .unset, .unset, .unset, .unset, .unset] [(.int x4)])) _
    refine XS.iconst X0.here hx rfl (hb hby at_7) ?_
    show Steps p.tables e below (s₁.setTop (mkF m 8 #[.val (.int x0), .val (.int x1), .val (.int x2), .val (.int x3), .val (.int x4), .val (.int (x0 &&& (3 : Int32))), .unset, .unset, .unset, .unset, .unset, .unset, .unset] [(.int (2 : Int32)), (.int x4)])) _
    refine XS.iand X0.here hx rfl (hb hby at_8) rfl ?_
    show Steps p.tables e below (s₁.setTop (mkF m 9 #[.val (.int x0), .val (.int x1), .val (.int x2), .val (.int x3), .val (.int x4), .val (.int (x0 &&& (3 : Int32))), .unset, .unset, .unset, .unset, .unset, .unset, .unset] [(.int (x4 &&& (2 : Int32)))])) _
    have k1 : ∀ (m1_l5 : Int32) t, ((x4 &&& (2 : Int32)) = (0 : Int32) → m1_l5 = (x0 &&& (3 : Int32))) → (¬ ((x4 &&& (2 : Int32)) = (0 : Int32)) → m1_l5 = (1 : Int32)) → Steps p.tables e below (s₁.setTop (mkF m 15 #[.val (.int x0), .val (.int x1), .val (.int x2), .val (.int x3), .val (.int x4), .val (.int m1_l5), .unset, .unset, .unset, .unset, .unset, .unset, .unset] [])) t → Steps p.tables e below (s₁.setTop (mkF m 9 #[.val (.int x0), .val (.int x1), .val (.int x2), .val (.int x3), .val (.int x4), .val (.int (x0 &&& (3 : Int32))), .unset, .unset, .unset, .unset, .unset, .unset, .unset] [(.int (x4 &&& (2 : Int32)))])) t := by
      intro m1_l5 t hAm1_l5 hBm1_l5 kk
      by_cases hq9 : (x4 &&& (2 : Int32)) = (0 : Int32)
      · rw [hAm1_l5 hq9] at kk
        refine XS.ifYes X0.here hx rfl (pc0 := 9) (pc' := 15) rfl (hb hby at_9) rfl ((if0 _ _).trans (teq hq9).1) (by decide) (by decide) ?_
        exact kk
      · rw [hBm1_l5 hq9] at kk
        refine XS.ifNo X0.here hx rfl (hb hby at_9) rfl ((if0 _ _).trans (feq hq9).1) ?_
        show Steps p.tables e below (s₁.setTop (mkF m 12 #[.val (.int x0), .val (.int x1), .val (.int x2), .val (.int x3), .val (.int x4), .val (.int (x0 &&& (3 : Int32))), .unset, .unset, .unset, .unset, .unset, .unset, .unset] [])) _
        refine XS.iconst X0.here hx rfl (hb hby at_12) ?_
        show Steps p.tables e below (s₁.setTop (mkF m 13 #[.val (.int x0), .val (.int x1), .val (.int x2), .val (.int x3), .val (.int x4), .val (.int (x0 &&& (3 : Int32))), .unset, .unset, .unset, .unset, .unset, .unset, .unset] [(.int (1 : Int32))])) _
        refine XS.istore X0.here hx rfl (hb hby at_13) rfl (l' := #[.val (.int x0), .val (.int x1), .val (.int x2), .val (.int x3), .val (.int x4), .val (.int (1 : Int32)), .unset, .unset, .unset, .unset, .unset, .unset, .unset]) rfl ?_
        exact kk
    refine k1 m1_l5 _ (fun h => by rw [em1_l5, if_pos h]) (fun h => by rw [em1_l5, if_neg h]) ?_
    show Steps p.tables e below (s₁.setTop (mkF m 15 #[.val (.int x0), .val (.int x1), .val (.int x2), .val (.int x3), .val (.int x4), .val (.int m1_l5), .unset, .unset, .unset, .unset, .unset, .unset, .unset] [])) _
    rw [show m1_l5 = (3 : Int32) from em1_l5.trans hn]
    show Steps p.tables e below (s₁.setTop (mkF m 15 #[.val (.int x0), .val (.int x1), .val (.int x2), .val (.int x3), .val (.int x4), .val (.int (3 : Int32)), .unset, .unset, .unset, .unset, .unset, .unset, .unset] [])) _
    refine XS.iloadN X0.here hx rfl (hb hby at_15) rfl ?_
    show Steps p.tables e below (s₁.setTop (mkF m 16 #[.val (.int x0), .val (.int x1), .val (.int x2), .val (.int x3), .val (.int x4), .val (.int (3 : Int32)), .unset, .unset, .unset, .unset, .unset, .unset, .unset] [(.int x1)])) _
    refine XS.sipush X0.here hx rfl (hb hby at_16) ?_
    show Steps p.tables e below (s₁.setTop (mkF m 19 #[.val (.int x0), .val (.int x1), .val (.int x2), .val (.int x3), .val (.int x4), .val (.int (3 : Int32)), .unset, .unset, .unset, .unset, .unset, .unset, .unset] [(.int (255 : Int32)), (.int x1)])) _
    refine XS.iand X0.here hx rfl (hb hby at_19) rfl ?_
    show Steps p.tables e below (s₁.setTop (mkF m 20 #[.val (.int x0), .val (.int x1), .val (.int x2), .val (.int x3), .val (.int x4), .val (.int (3 : Int32)), .unset, .unset, .unset, .unset, .unset, .unset, .unset] [(.int (x1 &&& (255 : Int32)))])) _
    refine XS.i2c X0.here hx rfl (hb hby at_20) rfl ?_
    show Steps p.tables e below (s₁.setTop (mkF m 21 #[.val (.int x0), .val (.int x1), .val (.int x2), .val (.int x3), .val (.int x4), .val (.int (3 : Int32)), .unset, .unset, .unset, .unset, .unset, .unset, .unset] [(.int ((x1 &&& (255 : Int32)).toUInt32.toUInt16.toUInt32.toInt32))])) _
    refine XS.istore X0.here hx rfl (hb hby at_21) rfl (l' := #[.val (.int x0), .val (.int x1), .val (.int x2), .val (.int x3), .val (.int x4), .val (.int (3 : Int32)), .val (.int ((x1 &&& (255 : Int32)).toUInt32.toUInt16.toUInt32.toInt32)), .unset, .unset, .unset, .unset, .unset, .unset]) rfl ?_
    show Steps p.tables e below (s₁.setTop (mkF m 23 #[.val (.int x0), .val (.int x1), .val (.int x2), .val (.int x3), .val (.int x4), .val (.int (3 : Int32)), .val (.int ((x1 &&& (255 : Int32)).toUInt32.toUInt16.toUInt32.toInt32)), .unset, .unset, .unset, .unset, .unset, .unset] [])) _
    refine XS.iload X0.here hx rfl (hb hby at_23) rfl ?_
    show Steps p.tables e below (s₁.setTop (mkF m 25 #[.val (.int x0), .val (.int x1), .val (.int x2), .val (.int x3), .val (.int x4), .val (.int (3 : Int32)), .val (.int ((x1 &&& (255 : Int32)).toUInt32.toUInt16.toUInt32.toInt32)), .unset, .unset, .unset, .unset, .unset, .unset] [(.int x4)])) _
    refine XS.iconst X0.here hx rfl (hb hby at_25) ?_
    show Steps p.tables e below (s₁.setTop (mkF m 26 #[.val (.int x0), .val (.int x1), .val (.int x2), .val (.int x3), .val (.int x4), .val (.int (3 : Int32)), .val (.int ((x1 &&& (255 : Int32)).toUInt32.toUInt16.toUInt32.toInt32)), .unset, .unset, .unset, .unset, .unset, .unset] [(.int (1 : Int32)), (.int x4)])) _
    refine XS.iand X0.here hx rfl (hb hby at_26) rfl ?_
    show Steps p.tables e below (s₁.setTop (mkF m 27 #[.val (.int x0), .val (.int x1), .val (.int x2), .val (.int x3), .val (.int x4), .val (.int (3 : Int32)), .val (.int ((x1 &&& (255 : Int32)).toUInt32.toUInt16.toUInt32.toInt32)), .unset, .unset, .unset, .unset, .unset, .unset] [(.int (x4 &&& (1 : Int32)))])) _
    have k2 : ∀ (m2_l6 : Int32) t, ((x4 &&& (1 : Int32)) = (0 : Int32) → m2_l6 = ((x1 &&& (255 : Int32)).toUInt32.toUInt16.toUInt32.toInt32)) → (¬ ((x4 &&& (1 : Int32)) = (0 : Int32)) → m2_l6 = (45 : Int32)) → Steps p.tables e below (s₁.setTop (mkF m 34 #[.val (.int x0), .val (.int x1), .val (.int x2), .val (.int x3), .val (.int x4), .val (.int (3 : Int32)), .val (.int m2_l6), .unset, .unset, .unset, .unset, .unset, .unset] [])) t → Steps p.tables e below (s₁.setTop (mkF m 27 #[.val (.int x0), .val (.int x1), .val (.int x2), .val (.int x3), .val (.int x4), .val (.int (3 : Int32)), .val (.int ((x1 &&& (255 : Int32)).toUInt32.toUInt16.toUInt32.toInt32)), .unset, .unset, .unset, .unset, .unset, .unset] [(.int (x4 &&& (1 : Int32)))])) t := by
      intro m2_l6 t hAm2_l6 hBm2_l6 kk
      by_cases hq27 : (x4 &&& (1 : Int32)) = (0 : Int32)
      · rw [hAm2_l6 hq27] at kk
        refine XS.ifYes X0.here hx rfl (pc0 := 27) (pc' := 34) rfl (hb hby at_27) rfl ((if0 _ _).trans (teq hq27).1) (by decide) (by decide) ?_
        exact kk
      · rw [hBm2_l6 hq27] at kk
        refine XS.ifNo X0.here hx rfl (hb hby at_27) rfl ((if0 _ _).trans (feq hq27).1) ?_
        show Steps p.tables e below (s₁.setTop (mkF m 30 #[.val (.int x0), .val (.int x1), .val (.int x2), .val (.int x3), .val (.int x4), .val (.int (3 : Int32)), .val (.int ((x1 &&& (255 : Int32)).toUInt32.toUInt16.toUInt32.toInt32)), .unset, .unset, .unset, .unset, .unset, .unset] [])) _
        refine XS.bipush X0.here hx rfl (hb hby at_30) ?_
        show Steps p.tables e below (s₁.setTop (mkF m 32 #[.val (.int x0), .val (.int x1), .val (.int x2), .val (.int x3), .val (.int x4), .val (.int (3 : Int32)), .val (.int ((x1 &&& (255 : Int32)).toUInt32.toUInt16.toUInt32.toInt32)), .unset, .unset, .unset, .unset, .unset, .unset] [(.int (45 : Int32))])) _
        refine XS.istore X0.here hx rfl (hb hby at_32) rfl (l' := #[.val (.int x0), .val (.int x1), .val (.int x2), .val (.int x3), .val (.int x4), .val (.int (3 : Int32)), .val (.int (45 : Int32)), .unset, .unset, .unset, .unset, .unset, .unset]) rfl ?_
        exact kk
    refine k2 m2_l6 _ (fun h => by rw [em2_l6, if_pos h]) (fun h => by rw [em2_l6, if_neg h]) ?_
    show Steps p.tables e below (s₁.setTop (mkF m 34 #[.val (.int x0), .val (.int x1), .val (.int x2), .val (.int x3), .val (.int x4), .val (.int (3 : Int32)), .val (.int m2_l6), .unset, .unset, .unset, .unset, .unset, .unset] [])) _
    rw [show m2_l6 = C0 from em2_l6.trans eC0.symm]
    show Steps p.tables e below (s₁.setTop (mkF m 34 #[.val (.int x0), .val (.int x1), .val (.int x2), .val (.int x3), .val (.int x4), .val (.int (3 : Int32)), .val (.int C0), .unset, .unset, .unset, .unset, .unset, .unset] [])) _
    refine XS.iloadN X0.here hx rfl (hb hby at_34) rfl ?_
    show Steps p.tables e below (s₁.setTop (mkF m 35 #[.val (.int x0), .val (.int x1), .val (.int x2), .val (.int x3), .val (.int x4), .val (.int (3 : Int32)), .val (.int C0), .unset, .unset, .unset, .unset, .unset, .unset] [(.int x2)])) _
    refine XS.sipush X0.here hx rfl (hb hby at_35) ?_
    show Steps p.tables e below (s₁.setTop (mkF m 38 #[.val (.int x0), .val (.int x1), .val (.int x2), .val (.int x3), .val (.int x4), .val (.int (3 : Int32)), .val (.int C0), .unset, .unset, .unset, .unset, .unset, .unset] [(.int (255 : Int32)), (.int x2)])) _
    refine XS.iand X0.here hx rfl (hb hby at_38) rfl ?_
    show Steps p.tables e below (s₁.setTop (mkF m 39 #[.val (.int x0), .val (.int x1), .val (.int x2), .val (.int x3), .val (.int x4), .val (.int (3 : Int32)), .val (.int C0), .unset, .unset, .unset, .unset, .unset, .unset] [(.int (x2 &&& (255 : Int32)))])) _
    refine XS.i2c X0.here hx rfl (hb hby at_39) rfl ?_
    show Steps p.tables e below (s₁.setTop (mkF m 40 #[.val (.int x0), .val (.int x1), .val (.int x2), .val (.int x3), .val (.int x4), .val (.int (3 : Int32)), .val (.int C0), .unset, .unset, .unset, .unset, .unset, .unset] [(.int ((x2 &&& (255 : Int32)).toUInt32.toUInt16.toUInt32.toInt32))])) _
    refine XS.istore X0.here hx rfl (hb hby at_40) rfl (l' := #[.val (.int x0), .val (.int x1), .val (.int x2), .val (.int x3), .val (.int x4), .val (.int (3 : Int32)), .val (.int C0), .val (.int ((x2 &&& (255 : Int32)).toUInt32.toUInt16.toUInt32.toInt32)), .unset, .unset, .unset, .unset, .unset]) rfl ?_
    show Steps p.tables e below (s₁.setTop (mkF m 42 #[.val (.int x0), .val (.int x1), .val (.int x2), .val (.int x3), .val (.int x4), .val (.int (3 : Int32)), .val (.int C0), .val (.int ((x2 &&& (255 : Int32)).toUInt32.toUInt16.toUInt32.toInt32)), .unset, .unset, .unset, .unset, .unset] [])) _
    refine XS.iload X0.here hx rfl (hb hby at_42) rfl ?_
    show Steps p.tables e below (s₁.setTop (mkF m 44 #[.val (.int x0), .val (.int x1), .val (.int x2), .val (.int x3), .val (.int x4), .val (.int (3 : Int32)), .val (.int C0), .val (.int ((x2 &&& (255 : Int32)).toUInt32.toUInt16.toUInt32.toInt32)), .unset, .unset, .unset, .unset, .unset] [(.int x4)])) _
    refine XS.iconst X0.here hx rfl (hb hby at_44) ?_
    show Steps p.tables e below (s₁.setTop (mkF m 45 #[.val (.int x0), .val (.int x1), .val (.int x2), .val (.int x3), .val (.int x4), .val (.int (3 : Int32)), .val (.int C0), .val (.int ((x2 &&& (255 : Int32)).toUInt32.toUInt16.toUInt32.toInt32)), .unset, .unset, .unset, .unset, .unset] [(.int (4 : Int32)), (.int x4)])) _
    refine XS.iand X0.here hx rfl (hb hby at_45) rfl ?_
    show Steps p.tables e below (s₁.setTop (mkF m 46 #[.val (.int x0), .val (.int x1), .val (.int x2), .val (.int x3), .val (.int x4), .val (.int (3 : Int32)), .val (.int C0), .val (.int ((x2 &&& (255 : Int32)).toUInt32.toUInt16.toUInt32.toInt32)), .unset, .unset, .unset, .unset, .unset] [(.int (x4 &&& (4 : Int32)))])) _
    have k3 : ∀ (m3_l7 : Int32) t, ((x4 &&& (4 : Int32)) = (0 : Int32) → m3_l7 = ((x2 &&& (255 : Int32)).toUInt32.toUInt16.toUInt32.toInt32)) → (¬ ((x4 &&& (4 : Int32)) = (0 : Int32)) → m3_l7 = (45 : Int32)) → Steps p.tables e below (s₁.setTop (mkF m 53 #[.val (.int x0), .val (.int x1), .val (.int x2), .val (.int x3), .val (.int x4), .val (.int (3 : Int32)), .val (.int C0), .val (.int m3_l7), .unset, .unset, .unset, .unset, .unset] [])) t → Steps p.tables e below (s₁.setTop (mkF m 46 #[.val (.int x0), .val (.int x1), .val (.int x2), .val (.int x3), .val (.int x4), .val (.int (3 : Int32)), .val (.int C0), .val (.int ((x2 &&& (255 : Int32)).toUInt32.toUInt16.toUInt32.toInt32)), .unset, .unset, .unset, .unset, .unset] [(.int (x4 &&& (4 : Int32)))])) t := by
      intro m3_l7 t hAm3_l7 hBm3_l7 kk
      by_cases hq46 : (x4 &&& (4 : Int32)) = (0 : Int32)
      · rw [hAm3_l7 hq46] at kk
        refine XS.ifYes X0.here hx rfl (pc0 := 46) (pc' := 53) rfl (hb hby at_46) rfl ((if0 _ _).trans (teq hq46).1) (by decide) (by decide) ?_
        exact kk
      · rw [hBm3_l7 hq46] at kk
        refine XS.ifNo X0.here hx rfl (hb hby at_46) rfl ((if0 _ _).trans (feq hq46).1) ?_
        show Steps p.tables e below (s₁.setTop (mkF m 49 #[.val (.int x0), .val (.int x1), .val (.int x2), .val (.int x3), .val (.int x4), .val (.int (3 : Int32)), .val (.int C0), .val (.int ((x2 &&& (255 : Int32)).toUInt32.toUInt16.toUInt32.toInt32)), .unset, .unset, .unset, .unset, .unset] [])) _
        refine XS.bipush X0.here hx rfl (hb hby at_49) ?_
        show Steps p.tables e below (s₁.setTop (mkF m 51 #[.val (.int x0), .val (.int x1), .val (.int x2), .val (.int x3), .val (.int x4), .val (.int (3 : Int32)), .val (.int C0), .val (.int ((x2 &&& (255 : Int32)).toUInt32.toUInt16.toUInt32.toInt32)), .unset, .unset, .unset, .unset, .unset] [(.int (45 : Int32))])) _
        refine XS.istore X0.here hx rfl (hb hby at_51) rfl (l' := #[.val (.int x0), .val (.int x1), .val (.int x2), .val (.int x3), .val (.int x4), .val (.int (3 : Int32)), .val (.int C0), .val (.int (45 : Int32)), .unset, .unset, .unset, .unset, .unset]) rfl ?_
        exact kk
    refine k3 m3_l7 _ (fun h => by rw [em3_l7, if_pos h]) (fun h => by rw [em3_l7, if_neg h]) ?_
    show Steps p.tables e below (s₁.setTop (mkF m 53 #[.val (.int x0), .val (.int x1), .val (.int x2), .val (.int x3), .val (.int x4), .val (.int (3 : Int32)), .val (.int C0), .val (.int m3_l7), .unset, .unset, .unset, .unset, .unset] [])) _
    rw [show m3_l7 = C1 from em3_l7.trans eC1.symm]
    show Steps p.tables e below (s₁.setTop (mkF m 53 #[.val (.int x0), .val (.int x1), .val (.int x2), .val (.int x3), .val (.int x4), .val (.int (3 : Int32)), .val (.int C0), .val (.int C1), .unset, .unset, .unset, .unset, .unset] [])) _
    refine XS.iloadN X0.here hx rfl (hb hby at_53) rfl ?_
    show Steps p.tables e below (s₁.setTop (mkF m 54 #[.val (.int x0), .val (.int x1), .val (.int x2), .val (.int x3), .val (.int x4), .val (.int (3 : Int32)), .val (.int C0), .val (.int C1), .unset, .unset, .unset, .unset, .unset] [(.int x3)])) _
    refine XS.sipush X0.here hx rfl (hb hby at_54) ?_
    show Steps p.tables e below (s₁.setTop (mkF m 57 #[.val (.int x0), .val (.int x1), .val (.int x2), .val (.int x3), .val (.int x4), .val (.int (3 : Int32)), .val (.int C0), .val (.int C1), .unset, .unset, .unset, .unset, .unset] [(.int (255 : Int32)), (.int x3)])) _
    refine XS.iand X0.here hx rfl (hb hby at_57) rfl ?_
    show Steps p.tables e below (s₁.setTop (mkF m 58 #[.val (.int x0), .val (.int x1), .val (.int x2), .val (.int x3), .val (.int x4), .val (.int (3 : Int32)), .val (.int C0), .val (.int C1), .unset, .unset, .unset, .unset, .unset] [(.int (x3 &&& (255 : Int32)))])) _
    refine XS.i2c X0.here hx rfl (hb hby at_58) rfl ?_
    show Steps p.tables e below (s₁.setTop (mkF m 59 #[.val (.int x0), .val (.int x1), .val (.int x2), .val (.int x3), .val (.int x4), .val (.int (3 : Int32)), .val (.int C0), .val (.int C1), .unset, .unset, .unset, .unset, .unset] [(.int ((x3 &&& (255 : Int32)).toUInt32.toUInt16.toUInt32.toInt32))])) _
    rw [← e_C2]
    show Steps p.tables e below (s₁.setTop (mkF m 59 #[.val (.int x0), .val (.int x1), .val (.int x2), .val (.int x3), .val (.int x4), .val (.int (3 : Int32)), .val (.int C0), .val (.int C1), .unset, .unset, .unset, .unset, .unset] [(.int C2)])) _
    refine XS.istore X0.here hx rfl (hb hby at_59) rfl (l' := #[.val (.int x0), .val (.int x1), .val (.int x2), .val (.int x3), .val (.int x4), .val (.int (3 : Int32)), .val (.int C0), .val (.int C1), .val (.int C2), .unset, .unset, .unset, .unset]) rfl ?_
    show Steps p.tables e below (s₁.setTop (mkF m 61 #[.val (.int x0), .val (.int x1), .val (.int x2), .val (.int x3), .val (.int x4), .val (.int (3 : Int32)), .val (.int C0), .val (.int C1), .val (.int C2), .unset, .unset, .unset, .unset] [])) _
    refine XS.iload X0.here hx rfl (hb hby at_61) rfl ?_
    show Steps p.tables e below (s₁.setTop (mkF m 63 #[.val (.int x0), .val (.int x1), .val (.int x2), .val (.int x3), .val (.int x4), .val (.int (3 : Int32)), .val (.int C0), .val (.int C1), .val (.int C2), .unset, .unset, .unset, .unset] [(.int (3 : Int32))])) _
    refine st4 _ ?_
    show Steps p.tables e below (T4.setTop (mkF m 65 #[.val (.int x0), .val (.int x1), .val (.int x2), .val (.int x3), .val (.int x4), .val (.int (3 : Int32)), .val (.int C0), .val (.int C1), .val (.int C2), .unset, .unset, .unset, .unset] [(.ref ch)])) _
    refine XS.astore X4.here hx rfl (hb hby at_65) rfl rfl (l' := #[.val (.int x0), .val (.int x1), .val (.int x2), .val (.int x3), .val (.int x4), .val (.int (3 : Int32)), .val (.int C0), .val (.int C1), .val (.int C2), .val (.ref ch), .unset, .unset, .unset]) rfl ?_
    show Steps p.tables e below (T4.setTop (mkF m 67 #[.val (.int x0), .val (.int x1), .val (.int x2), .val (.int x3), .val (.int x4), .val (.int (3 : Int32)), .val (.int C0), .val (.int C1), .val (.int C2), .val (.ref ch), .unset, .unset, .unset] [])) _
    refine XS.iload X4.here hx rfl (hb hby at_67) rfl ?_
    show Steps p.tables e below (T4.setTop (mkF m 69 #[.val (.int x0), .val (.int x1), .val (.int x2), .val (.int x3), .val (.int x4), .val (.int (3 : Int32)), .val (.int C0), .val (.int C1), .val (.int C2), .val (.ref ch), .unset, .unset, .unset] [(.int (3 : Int32))])) _
    refine XS.ifNo X4.here hx rfl (hb hby at_69) rfl ((if0 _ _).trans (tlt (by decide : (0 : Int32) < (3 : Int32))).2.2.2) ?_
    show Steps p.tables e below (T4.setTop (mkF m 72 #[.val (.int x0), .val (.int x1), .val (.int x2), .val (.int x3), .val (.int x4), .val (.int (3 : Int32)), .val (.int C0), .val (.int C1), .val (.int C2), .val (.ref ch), .unset, .unset, .unset] [])) _
    refine XS.aload X4.here hx rfl (hb hby at_72) rfl rfl ?_
    show Steps p.tables e below (T4.setTop (mkF m 74 #[.val (.int x0), .val (.int x1), .val (.int x2), .val (.int x3), .val (.int x4), .val (.int (3 : Int32)), .val (.int C0), .val (.int C1), .val (.int C2), .val (.ref ch), .unset, .unset, .unset] [(.ref ch)])) _
    refine XS.iconst X4.here hx rfl (hb hby at_74) ?_
    show Steps p.tables e below (T4.setTop (mkF m 75 #[.val (.int x0), .val (.int x1), .val (.int x2), .val (.int x3), .val (.int x4), .val (.int (3 : Int32)), .val (.int C0), .val (.int C1), .val (.int C2), .val (.ref ch), .unset, .unset, .unset] [(.int (0 : Int32)), (.ref ch)])) _
    refine XS.iload X4.here hx rfl (hb hby at_75) rfl ?_
    show Steps p.tables e below (T4.setTop (mkF m 77 #[.val (.int x0), .val (.int x1), .val (.int x2), .val (.int x3), .val (.int x4), .val (.int (3 : Int32)), .val (.int C0), .val (.int C1), .val (.int C2), .val (.ref ch), .unset, .unset, .unset] [(.int C0), (.int (0 : Int32)), (.ref ch)])) _
    refine st7 _ ?_
    show Steps p.tables e below (T7.setTop (mkF m 78 #[.val (.int x0), .val (.int x1), .val (.int x2), .val (.int x3), .val (.int x4), .val (.int (3 : Int32)), .val (.int C0), .val (.int C1), .val (.int C2), .val (.ref ch), .unset, .unset, .unset] [])) _
    refine XS.iload X7.here hx rfl (hb hby at_78) rfl ?_
    show Steps p.tables e below (T7.setTop (mkF m 80 #[.val (.int x0), .val (.int x1), .val (.int x2), .val (.int x3), .val (.int x4), .val (.int (3 : Int32)), .val (.int C0), .val (.int C1), .val (.int C2), .val (.ref ch), .unset, .unset, .unset] [(.int (3 : Int32))])) _
    refine XS.iconst X7.here hx rfl (hb hby at_80) ?_
    show Steps p.tables e below (T7.setTop (mkF m 81 #[.val (.int x0), .val (.int x1), .val (.int x2), .val (.int x3), .val (.int x4), .val (.int (3 : Int32)), .val (.int C0), .val (.int C1), .val (.int C2), .val (.ref ch), .unset, .unset, .unset] [(.int (1 : Int32)), (.int (3 : Int32))])) _
    refine XS.icmpNo X7.here hx rfl (hb hby at_81) rfl (tlt (by decide : (1 : Int32) < (3 : Int32))).2.2.2 ?_
    show Steps p.tables e below (T7.setTop (mkF m 84 #[.val (.int x0), .val (.int x1), .val (.int x2), .val (.int x3), .val (.int x4), .val (.int (3 : Int32)), .val (.int C0), .val (.int C1), .val (.int C2), .val (.ref ch), .unset, .unset, .unset] [])) _
    refine XS.aload X7.here hx rfl (hb hby at_84) rfl rfl ?_
    show Steps p.tables e below (T7.setTop (mkF m 86 #[.val (.int x0), .val (.int x1), .val (.int x2), .val (.int x3), .val (.int x4), .val (.int (3 : Int32)), .val (.int C0), .val (.int C1), .val (.int C2), .val (.ref ch), .unset, .unset, .unset] [(.ref ch)])) _
    refine XS.iconst X7.here hx rfl (hb hby at_86) ?_
    show Steps p.tables e below (T7.setTop (mkF m 87 #[.val (.int x0), .val (.int x1), .val (.int x2), .val (.int x3), .val (.int x4), .val (.int (3 : Int32)), .val (.int C0), .val (.int C1), .val (.int C2), .val (.ref ch), .unset, .unset, .unset] [(.int (1 : Int32)), (.ref ch)])) _
    refine XS.iload X7.here hx rfl (hb hby at_87) rfl ?_
    show Steps p.tables e below (T7.setTop (mkF m 89 #[.val (.int x0), .val (.int x1), .val (.int x2), .val (.int x3), .val (.int x4), .val (.int (3 : Int32)), .val (.int C0), .val (.int C1), .val (.int C2), .val (.ref ch), .unset, .unset, .unset] [(.int C1), (.int (1 : Int32)), (.ref ch)])) _
    refine st10 _ ?_
    show Steps p.tables e below (T10.setTop (mkF m 90 #[.val (.int x0), .val (.int x1), .val (.int x2), .val (.int x3), .val (.int x4), .val (.int (3 : Int32)), .val (.int C0), .val (.int C1), .val (.int C2), .val (.ref ch), .unset, .unset, .unset] [])) _
    refine XS.iload X10.here hx rfl (hb hby at_90) rfl ?_
    show Steps p.tables e below (T10.setTop (mkF m 92 #[.val (.int x0), .val (.int x1), .val (.int x2), .val (.int x3), .val (.int x4), .val (.int (3 : Int32)), .val (.int C0), .val (.int C1), .val (.int C2), .val (.ref ch), .unset, .unset, .unset] [(.int (3 : Int32))])) _
    refine XS.iconst X10.here hx rfl (hb hby at_92) ?_
    show Steps p.tables e below (T10.setTop (mkF m 93 #[.val (.int x0), .val (.int x1), .val (.int x2), .val (.int x3), .val (.int x4), .val (.int (3 : Int32)), .val (.int C0), .val (.int C1), .val (.int C2), .val (.ref ch), .unset, .unset, .unset] [(.int (2 : Int32)), (.int (3 : Int32))])) _
    refine XS.icmpNo X10.here hx rfl (hb hby at_93) rfl (tlt (by decide : (2 : Int32) < (3 : Int32))).2.2.2 ?_
    show Steps p.tables e below (T10.setTop (mkF m 96 #[.val (.int x0), .val (.int x1), .val (.int x2), .val (.int x3), .val (.int x4), .val (.int (3 : Int32)), .val (.int C0), .val (.int C1), .val (.int C2), .val (.ref ch), .unset, .unset, .unset] [])) _
    refine XS.aload X10.here hx rfl (hb hby at_96) rfl rfl ?_
    show Steps p.tables e below (T10.setTop (mkF m 98 #[.val (.int x0), .val (.int x1), .val (.int x2), .val (.int x3), .val (.int x4), .val (.int (3 : Int32)), .val (.int C0), .val (.int C1), .val (.int C2), .val (.ref ch), .unset, .unset, .unset] [(.ref ch)])) _
    refine XS.iconst X10.here hx rfl (hb hby at_98) ?_
    show Steps p.tables e below (T10.setTop (mkF m 99 #[.val (.int x0), .val (.int x1), .val (.int x2), .val (.int x3), .val (.int x4), .val (.int (3 : Int32)), .val (.int C0), .val (.int C1), .val (.int C2), .val (.ref ch), .unset, .unset, .unset] [(.int (2 : Int32)), (.ref ch)])) _
    refine XS.iload X10.here hx rfl (hb hby at_99) rfl ?_
    show Steps p.tables e below (T10.setTop (mkF m 101 #[.val (.int x0), .val (.int x1), .val (.int x2), .val (.int x3), .val (.int x4), .val (.int (3 : Int32)), .val (.int C0), .val (.int C1), .val (.int C2), .val (.ref ch), .unset, .unset, .unset] [(.int C2), (.int (2 : Int32)), (.ref ch)])) _
    refine st13 _ ?_
    show Steps p.tables e below (T13.setTop (mkF m 102 #[.val (.int x0), .val (.int x1), .val (.int x2), .val (.int x3), .val (.int x4), .val (.int (3 : Int32)), .val (.int C0), .val (.int C1), .val (.int C2), .val (.ref ch), .unset, .unset, .unset] [])) _
    refine st16 _ ?_
    show Steps p.tables e below (T16.setTop (mkF m 105 #[.val (.int x0), .val (.int x1), .val (.int x2), .val (.int x3), .val (.int x4), .val (.int (3 : Int32)), .val (.int C0), .val (.int C1), .val (.int C2), .val (.ref ch), .unset, .unset, .unset] [(.ref so)])) _
    refine XS.dup X16.here hx rfl (hb hby at_105) rfl rfl ?_
    show Steps p.tables e below (T16.setTop (mkF m 106 #[.val (.int x0), .val (.int x1), .val (.int x2), .val (.int x3), .val (.int x4), .val (.int (3 : Int32)), .val (.int C0), .val (.int C1), .val (.int C2), .val (.ref ch), .unset, .unset, .unset] [(.ref so), (.ref so)])) _
    refine XS.aload X16.here hx rfl (hb hby at_106) rfl rfl ?_
    show Steps p.tables e below (T16.setTop (mkF m 108 #[.val (.int x0), .val (.int x1), .val (.int x2), .val (.int x3), .val (.int x4), .val (.int (3 : Int32)), .val (.int C0), .val (.int C1), .val (.int C2), .val (.ref ch), .unset, .unset, .unset] [(.ref ch), (.ref so), (.ref so)])) _
    refine st19.trans ?_
    show Steps p.tables e below (T19.setTop (mkF m 111 #[.val (.int x0), .val (.int x1), .val (.int x2), .val (.int x3), .val (.int x4), .val (.int (3 : Int32)), .val (.int C0), .val (.int C1), .val (.int C2), .val (.ref ch), .unset, .unset, .unset] [(.ref so)])) _
    refine XS.astore X19.here hx rfl (hb hby at_111) rfl rfl (l' := #[.val (.int x0), .val (.int x1), .val (.int x2), .val (.int x3), .val (.int x4), .val (.int (3 : Int32)), .val (.int C0), .val (.int C1), .val (.int C2), .val (.ref ch), .val (.ref so), .unset, .unset]) rfl ?_
    show Steps p.tables e below (T19.setTop (mkF m 113 #[.val (.int x0), .val (.int x1), .val (.int x2), .val (.int x3), .val (.int x4), .val (.int (3 : Int32)), .val (.int C0), .val (.int C1), .val (.int C2), .val (.ref ch), .val (.ref so), .unset, .unset] [])) _
    refine XS.aload X19.here hx rfl (hb hby at_113) rfl rfl ?_
    show Steps p.tables e below (T19.setTop (mkF m 115 #[.val (.int x0), .val (.int x1), .val (.int x2), .val (.int x3), .val (.int x4), .val (.int (3 : Int32)), .val (.int C0), .val (.int C1), .val (.int C2), .val (.ref ch), .val (.ref so), .unset, .unset] [(.ref so)])) _
    refine st22.trans ?_
    show Steps p.tables e below (T22.setTop (mkF m 118 #[.val (.int x0), .val (.int x1), .val (.int x2), .val (.int x3), .val (.int x4), .val (.int (3 : Int32)), .val (.int C0), .val (.int C1), .val (.int C2), .val (.ref ch), .val (.ref so), .unset, .unset] [(.ref so)])) _
    refine XS.astore X22.here hx rfl (hb hby at_118) rfl rfl (l' := #[.val (.int x0), .val (.int x1), .val (.int x2), .val (.int x3), .val (.int x4), .val (.int (3 : Int32)), .val (.int C0), .val (.int C1), .val (.int C2), .val (.ref ch), .val (.ref so), .val (.ref so), .unset]) rfl ?_
    show Steps p.tables e below (T22.setTop (mkF m 120 #[.val (.int x0), .val (.int x1), .val (.int x2), .val (.int x3), .val (.int x4), .val (.int (3 : Int32)), .val (.int C0), .val (.int C1), .val (.int C2), .val (.ref ch), .val (.ref so), .val (.ref so), .unset] [])) _
    refine XS.aload X22.here hx rfl (hb hby at_120) rfl rfl ?_
    show Steps p.tables e below (T22.setTop (mkF m 122 #[.val (.int x0), .val (.int x1), .val (.int x2), .val (.int x3), .val (.int x4), .val (.int (3 : Int32)), .val (.int C0), .val (.int C1), .val (.int C2), .val (.ref ch), .val (.ref so), .val (.ref so), .unset] [(.ref so)])) _
    refine XS.ifnonnullYes X22.here hx rfl (pc0 := 122) (pc' := 127) rfl (hb hby at_122) rfl (by decide) (by decide) ?_
    show Steps p.tables e below (T22.setTop (mkF m 127 #[.val (.int x0), .val (.int x1), .val (.int x2), .val (.int x3), .val (.int x4), .val (.int (3 : Int32)), .val (.int C0), .val (.int C1), .val (.int C2), .val (.ref ch), .val (.ref so), .val (.ref so), .unset] [])) _
    refine XS.aload X22.here hx rfl (hb hby at_127) rfl rfl ?_
    show Steps p.tables e below (T22.setTop (mkF m 129 #[.val (.int x0), .val (.int x1), .val (.int x2), .val (.int x3), .val (.int x4), .val (.int (3 : Int32)), .val (.int C0), .val (.int C1), .val (.int C2), .val (.ref ch), .val (.ref so), .val (.ref so), .unset] [(.ref so)])) _
    refine st24.trans ?_
    show Steps p.tables e below (T24.setTop (mkF m 132 #[.val (.int x0), .val (.int x1), .val (.int x2), .val (.int x3), .val (.int x4), .val (.int (3 : Int32)), .val (.int C0), .val (.int C1), .val (.int C2), .val (.ref ch), .val (.ref so), .val (.ref so), .unset] [(.int (3 : Int32))])) _
    refine XS.iconst X24.here hx rfl (hb hby at_132) ?_
    show Steps p.tables e below (T24.setTop (mkF m 133 #[.val (.int x0), .val (.int x1), .val (.int x2), .val (.int x3), .val (.int x4), .val (.int (3 : Int32)), .val (.int C0), .val (.int C1), .val (.int C2), .val (.ref ch), .val (.ref so), .val (.ref so), .unset] [(.int (1 : Int32)), (.int (3 : Int32))])) _
    refine XS.icmpYes X24.here hx rfl (pc0 := 133) (pc' := 151) rfl (hb hby at_133) rfl (feq (by decide : ¬ ((3 : Int32) = (1 : Int32)))).2 (by decide) (by decide) ?_
    show Steps p.tables e below (T24.setTop (mkF m 151 #[.val (.int x0), .val (.int x1), .val (.int x2), .val (.int x3), .val (.int x4), .val (.int (3 : Int32)), .val (.int C0), .val (.int C1), .val (.int C2), .val (.ref ch), .val (.ref so), .val (.ref so), .unset] [])) _
    refine XS.iconst X24.here hx rfl (hb hby at_151) ?_
    show Steps p.tables e below (T24.setTop (mkF m 152 #[.val (.int x0), .val (.int x1), .val (.int x2), .val (.int x3), .val (.int x4), .val (.int (3 : Int32)), .val (.int C0), .val (.int C1), .val (.int C2), .val (.ref ch), .val (.ref so), .val (.ref so), .unset] [(.int (0 : Int32))])) _
    refine XS.istore X24.here hx rfl (hb hby at_152) rfl (l' := #[.val (.int x0), .val (.int x1), .val (.int x2), .val (.int x3), .val (.int x4), .val (.int (3 : Int32)), .val (.int C0), .val (.int C1), .val (.int C2), .val (.ref ch), .val (.ref so), .val (.ref so), .val (.int (0 : Int32))]) rfl ?_
    show Steps p.tables e below (T24.setTop (mkF m 154 #[.val (.int x0), .val (.int x1), .val (.int x2), .val (.int x3), .val (.int x4), .val (.int (3 : Int32)), .val (.int C0), .val (.int C1), .val (.int C2), .val (.ref ch), .val (.ref so), .val (.ref so), .val (.int (0 : Int32))] [])) _
    refine XS.iload X24.here hx rfl (hb hby at_154) rfl ?_
    show Steps p.tables e below (T24.setTop (mkF m 156 #[.val (.int x0), .val (.int x1), .val (.int x2), .val (.int x3), .val (.int x4), .val (.int (3 : Int32)), .val (.int C0), .val (.int C1), .val (.int C2), .val (.ref ch), .val (.ref so), .val (.ref so), .val (.int (0 : Int32))] [(.int (0 : Int32))])) _
    refine XS.ifYes X24.here hx rfl (pc0 := 156) (pc' := 167) rfl (hb hby at_156) rfl ((if0 _ _).trans (teq (by decide : (0 : Int32) = (0 : Int32))).1) (by decide) (by decide) ?_
    show Steps p.tables e below (T24.setTop (mkF m 167 #[.val (.int x0), .val (.int x1), .val (.int x2), .val (.int x3), .val (.int x4), .val (.int (3 : Int32)), .val (.int C0), .val (.int C1), .val (.int C2), .val (.ref ch), .val (.ref so), .val (.ref so), .val (.int (0 : Int32))] [])) _
    refine XS.aload X24.here hx rfl (hb hby at_167) rfl rfl ?_
    show Steps p.tables e below (T24.setTop (mkF m 169 #[.val (.int x0), .val (.int x1), .val (.int x2), .val (.int x3), .val (.int x4), .val (.int (3 : Int32)), .val (.int C0), .val (.int C1), .val (.int C2), .val (.ref ch), .val (.ref so), .val (.ref so), .val (.int (0 : Int32))] [(.ref so)])) _
    refine XS.aload X24.here hx rfl (hb hby at_169) rfl rfl ?_
    show Steps p.tables e below (T24.setTop (mkF m 171 #[.val (.int x0), .val (.int x1), .val (.int x2), .val (.int x3), .val (.int x4), .val (.int (3 : Int32)), .val (.int C0), .val (.int C1), .val (.int C2), .val (.ref ch), .val (.ref so), .val (.ref so), .val (.int (0 : Int32))] [(.ref so), (.ref so)])) _
    refine st25.trans ?_
    show Steps p.tables e below (T25.setTop (mkF m 174 #[.val (.int x0), .val (.int x1), .val (.int x2), .val (.int x3), .val (.int x4), .val (.int (3 : Int32)), .val (.int C0), .val (.int C1), .val (.int C2), .val (.ref ch), .val (.ref so), .val (.ref so), .val (.int (0 : Int32))] [(.int (1 : Int32))])) _
    exact retN X25 hx (t := .boolean) Bd.returns (by simp) (hb hby at_174) hr
  · exact ⟨rfl, N25⟩
  · have eT : (T25.setFrames fs).heap = T22.heap := e25
    rw [eT, hh]; exact Rend
theorem rm0 (l : Launch) (Z : State) (a0 : Array Value) (hw : ∀ d ∈ tables_1, d.before a0 Z = true) (ws : List Jvm.Cond) (x0 : Int32) (x1 : Int32) (x2 : Int32) (x3 : Int32) (x4 : Int32) (cs : Int32) (fmv : Value) (h0 : Heap) (n0 : Nat) (Z0 : n0 ≤ h0.size) (O0 : Old Z n0 h0) (S_CS : Sta Z Z.heap "java/lang/String" "COMPACT_STRINGS" "Z" (.int cs)) (hcs : ¬ (cs = (0 : Int32))) (S_FM : Sta Z Z.heap "jdk/internal/util/Preconditions" "SIOOBE_FORMATTER" "Ljava/util/function/BiFunction;" fmv) (hfm : fmv.isRef = true) :
    MetFree l x (head1 (Jvm.Cond.code x code maxLocals ret :: ws) room_1) (fun a U => a = #[(.int x0), (.int x1), (.int x2), (.int x3), (.int x4)] ∧ Z.Warmed39 U.vm ∧ U.heap = h0 ∧ CHv Z consts_1 U.vm h0) (fun _ _ _ _ _ => True) (fun _ U o U' => ∃ v L, o = .returned v ∧ (QL n0 v U'.heap L) ∧ CHr Z consts_1 U.vm U.heap U'.vm U'.heap ∧ ReturnedEndW U o U' L room_1.cells room_1.slots) := by
  obtain ⟨C0, eC0⟩ : ∃ z : Int32, z = (if (x4 &&& (1 : Int32)) = (0 : Int32) then ((x1 &&& (255 : Int32)).toUInt32.toUInt16.toUInt32.toInt32) else (45 : Int32)) := ⟨_, rfl⟩
  obtain ⟨C1, eC1⟩ : ∃ z : Int32, z = (if (x4 &&& (4 : Int32)) = (0 : Int32) then ((x2 &&& (255 : Int32)).toUInt32.toUInt16.toUInt32.toInt32) else (45 : Int32)) := ⟨_, rfl⟩
  by_cases q4 : (x4 &&& (2 : Int32)) = (0 : Int32)
  · rcases own_four x0 with q | q | q | q
    · exact rm0_0 l Z a0 hw ws x0 x1 x2 x3 x4 cs C0 C1 fmv h0 n0 Z0 (by rw [if_pos q4]; exact q) O0 S_CS hcs S_FM hfm eC0 eC1
    · by_cases hd : C0 = (45 : Int32)
      · exact rm0_1y l Z a0 hw ws x0 x1 x2 x3 x4 cs C0 C1 fmv h0 n0 Z0 (by rw [if_pos q4]; exact q) hd O0 S_CS hcs S_FM hfm eC0 eC1
      · exact rm0_1n l Z a0 hw ws x0 x1 x2 x3 x4 cs C0 C1 fmv h0 n0 Z0 (by rw [if_pos q4]; exact q) hd O0 S_CS hcs S_FM hfm eC0 eC1
    · exact rm0_2 l Z a0 hw ws x0 x1 x2 x3 x4 cs C0 C1 fmv h0 n0 Z0 (by rw [if_pos q4]; exact q) O0 S_CS hcs S_FM hfm eC0 eC1
    · exact rm0_3 l Z a0 hw ws x0 x1 x2 x3 x4 cs C0 C1 fmv h0 n0 Z0 (by rw [if_pos q4]; exact q) O0 S_CS hcs S_FM hfm eC0 eC1
  · by_cases hd : C0 = (45 : Int32)
    · exact rm0_1y l Z a0 hw ws x0 x1 x2 x3 x4 cs C0 C1 fmv h0 n0 Z0 (by rw [if_neg q4]) hd O0 S_CS hcs S_FM hfm eC0 eC1
    · exact rm0_1n l Z a0 hw ws x0 x1 x2 x3 x4 cs C0 C1 fmv h0 n0 Z0 (by rw [if_neg q4]) hd O0 S_CS hcs S_FM hfm eC0 eC1
set_option maxRecDepth 65536 in
set_option maxHeartbeats 40000000 in
theorem comes_1 {Post : Tables → Env → Array Value → State → Outcome → State → Prop} (hpost : ∀ tb e args s v u, (limb_1_1.after args s (.returned v) u = true ∧ limb_1_2.after args s (.returned v) u = true ∧ True) → FramedW s (.returned v) u (Jvm.fieldLocs frame_1_writes args s ++ Jvm.arrayLocs frame_1_arrays args s ++ Jvm.staticLocs frame_1_statics s) 24 4224 → Post tb e args s (.returned v) u) :
    ArmFor flags0 classFile x code maxLocals ret World_1 tables_1 room_1 Calls_1 rest_1 Pre_1 Post := by
  intro l hfl _ _ p e ha hc hk s m args below hf hA hF happ hP
  obtain ⟨hcalls, hrest, hpre⟩ := hP
  obtain ⟨-, -, -, hnamed, -, -, -, hat⟩ := (Spec.applies_iff hf).mp happ
  obtain ⟨hg, hn⟩ := and_e (Cond.before_iff.mp (show (Jvm.Cond.and given_1 narrow_1).before args s = true from hpre))
  obtain ⟨g1, g2⟩ := and_e hg
  obtain ⟨g3, g4⟩ := and_e g2
  obtain ⟨g5, g6⟩ := and_e g4
  obtain ⟨g7, g8⟩ := and_e g6
  obtain ⟨g9, g10⟩ := and_e g8
  obtain ⟨w0, w1, w2, w3, w4, rfl⟩ : ∃ w0 w1 w2 w3 w4 : Value, args = #[w0, w1, w2, w3, w4] := by
    have hs : args.size = 5 := by simpa [Cond.value, given_1] using g1
    obtain ⟨L⟩ := args
    match L, hs with
    | [w0, w1, w2, w3, w4], _ => exact ⟨w0, w1, w2, w3, w4, rfl⟩
  have hw := fun d (hd : d ∈ tables_1) => atoms_spec (ws := Jvm.Cond.code x code maxLocals ret :: tables_1) hat d (List.mem_cons_of_mem _ hd)
  have hfit : Fit s := fun {y c} hc i hi => by
    obtain ⟨ha, rfl⟩ := Array.getElem?_eq_some_iff.mp hc
    have q := List.all_eq_true.mp ((Array.all_eq_true_iff_forall_mem.mp hF) _ (Array.getElem_mem ha)) i (List.mem_range.mpr hi)
    simpa [Array.getElem?_eq_getElem hi] using q
  obtain ⟨hsets, hown0⟩ := atoms_of _ (rest_1_c_eq ▸ (show rest_1_c.before _ s = true from hrest))
  have hr0 := Cond.before_iff.mp hown0
  obtain ⟨i0, ei0⟩ := is_v g3
  obtain rfl : w0 = (.int i0) := Option.some.inj ei0
  obtain ⟨i1, ei1⟩ := is_v g5
  obtain rfl : w1 = (.int i1) := Option.some.inj ei1
  obtain ⟨i2, ei2⟩ := is_v g7
  obtain rfl : w2 = (.int i2) := Option.some.inj ei2
  obtain ⟨i3, ei3⟩ := is_v g9
  obtain rfl : w3 = (.int i3) := Option.some.inj ei3
  obtain ⟨i4, ei4⟩ := is_v g10
  obtain rfl : w4 = (.int i4) := Option.some.inj ei4
  obtain ⟨cs, ecs⟩ := is_v (Cond.before_iff.mp (hsets _ (List.mem_of_getElem? (i := 1) rfl)))
  have S_CS : Sta s s.heap "java/lang/String" "COMPACT_STRINGS" "Z" (.int cs) := Sta.start ecs (Or.inl (hsets _ (List.mem_of_getElem? (i := 0) rfl)))
  have hcs : ¬ (cs = (0 : Int32)) := gotF (Cond.eq_ints ecs (Term.int_eval (0))) (not_v (Cond.before_iff.mp (hsets _ (List.mem_of_getElem? (i := 2) rfl))))
  obtain ⟨fmv, efm, hfm⟩ := isR_v (Cond.before_iff.mp (hsets _ (List.mem_of_getElem? (i := 8) rfl)))
  have S_FM : Sta s s.heap "jdk/internal/util/Preconditions" "SIOOBE_FORMATTER" "Ljava/util/function/BiFunction;" fmv := Sta.start efm (Or.inl (hsets _ (List.mem_of_getElem? (i := 7) rfl)))
  have C0v : CHv s consts_1 s.vm s.heap := CHv.start (own_EL hw) (fun p hp => hcalls.1 p hp) (hsets _ (List.mem_of_getElem? (i := 2) rfl)) (hw _ (List.mem_of_getElem? (i := 15) rfl)) (hw _ (List.mem_of_getElem? (i := 2) rfl))
  obtain ⟨n, o, h1, h2, h3, _, L, rfl, ⟨rfl, N⟩, -, hq⟩ := rm0 l s _ hw tables_1 i0 i1 i2 i3 i4 cs fmv s.heap s.heap.size (Nat.le_refl _) (Old.start s) S_CS hcs S_FM hfm p e ha hc hk s m _ below hf ((Spec.applies_iff_loose hf).mp happ).1 ⟨rfl, State.Warmed39.refl s, rfl, C0v⟩ trivial
  refine ⟨n, _, h1, h2, h3, hpost _ _ _ _ _ _ ⟨Cond.after_iff.mpr rfl, Cond.after_iff.mpr (eq_i res_at (Term.int_eval (1)) rfl), trivial⟩ ⟨hq.1, hq.2.1, hq.2.2.1, (hq.2.2.2.sift fun y hy => Or.inr (N y hy)).mono (by decide) (by decide)⟩⟩
theorem main_1_1 : Claimed_1_1 := comes_1 fun _ _ _ _ _ _ h hF => ⟨h.1, hF⟩
theorem main_1_2 : Claimed_1_2 := comes_1 fun _ _ _ _ _ _ h hF => ⟨h.2.1, hF⟩
end Jvm.Pilot.@@N@@
namespace Jvm.Pilot.@@N@@
open Jvm Jvm.ClassFile Sem Op Lib Jvm.Free Jvm.Stand Jvm.Pilot.@@N@@.Jvm.D
/-! MADE BY PROGRAM (witnessworld.py) out of the Statement's table words and the real class files: 20 classes; the members and pool entries that the words name. The judged class is class 1, her method 1. -/
namespace start1
open Jvm.ClassFile
def u (s : String) : CpInfo := .utf8 (stringToUtf16 s)
/-- a pool by its gaps: so many unusable entries, then the entry; so many at the end -/
def gap : Nat → List CpInfo → List CpInfo
  | 0, r => r
  | n + 1, r => .unusable :: gap n r
def poolList (es : List (Nat × CpInfo)) (last : Nat) : List CpInfo := es.foldr (fun e r => gap e.1 (e.2 :: r)) (gap last [])
def pool (es : List (Nat × CpInfo)) (last : Nat) : Array CpInfo := ⟨poolList es last⟩
def fileOf (pool : Array CpInfo) (this : Nat) (attrs : Array Attribute := #[]) (ms : Array MethodInfo := #[]) (fl : Nat := 33) (sup : Nat := 0) (ifs : Array Nat := #[]) (fds : Array FieldInfo := #[]) : ClassFile where
  minorVersion := 0
  majorVersion := 65
  constantPool := pool
  accessFlags := fl
  thisClass := this
  superClass := sup
  interfaces := ifs
  fields := fds
  methods := ms
  attributes := attrs
def plain (name : String) (sup : Option ClassId) : Class where
  name := name
  kind := .ordinary
  loader := none
  accessFlags := 33
  super := sup
  interfaces := #[]
  cf := none
  fields := #[]
  methods := #[]
  instanceTypes := #[]
  staticTypes := #[]
  resolved := #[]
  callSites := []
  init := .initialized
  statics := none
  mirror := none

def pool0 : Array CpInfo := pool [(5, u "<init>"), (0, u "()V"), (1, .class_ 10), (1, u "java/lang/Object")] 113

def k0c0 : Code := { maxStack := 0, maxLocals := 1, code := object_method_1_code, exceptionTable := #[], attributes := #[] }
def k0m0 : Method := { name := "<init>", desc := "()V", sig := { parameters := [], returnType := none }, accessFlags := 1, code := some k0c0 }
/-- java/lang/Object -/
def k0 : Class := { plain "java/lang/Object" none with
  accessFlags := 33
  interfaces := #[]
  cf := some (fileOf pool0 8 #[] #[{ accessFlags := 1, nameIndex := 5, descriptorIndex := 6, attributes := #[] }] 33 0 #[] #[])
  fields := #[]
  methods := #[k0m0]
  instanceTypes := #[]
  staticTypes := #[]
  resolved := Array.replicate 124 none
  statics := none }

def pool1 : Array CpInfo := pool [(2, .class_ 4), (1, u "java/lang/Object"), (0, u "<init>"), (0, u "()V"), (0, .class_ 8), (0, u "java/lang/String"), (0, .methodref 7 10), (0, .nameAndType 5 11), (0, u "([C)V"), (0, .methodref 13 14), (0, .class_ 15), (0, .nameAndType 16 17), (0, u "com/example/skylattice/skylattice/cli/InputArgument"), (0, u "name"), (0, u "(Ljava/lang/String;)Ljava/lang/String;"), (0, .methodref 7 19), (0, .nameAndType 20 21), (0, u "length"), (0, u "()I"), (0, .methodref 7 23), (0, .nameAndType 24 25), (0, u "charAt"), (0, u "(I)C"), (0, .string 27), (0, u "standard input"), (0, .methodref 7 29), (0, .nameAndType 30 31), (0, u "equals"), (0, u "(Ljava/lang/Object;)Z"), (0, .class_ 33), (0, u "com/example/skylattice/skylattice/cli/InputArgumentNamePinLaw"), (2, u "law"), (0, u "(IIIII)Z")] 5

def k1m0 : Method := { name := "<init>", desc := "()V", sig := { parameters := [], returnType := none }, accessFlags := 2, code := none }
def k1c1 : Code := { maxStack := 3, maxLocals := 13, code := code, exceptionTable := #[], attributes := #[] }
def k1m1 : Method := { name := "law", desc := "(IIIII)Z", sig := { parameters := [.int, .int, .int, .int, .int], returnType := some .boolean }, accessFlags := 9, code := some k1c1 }
/-- com/example/skylattice/skylattice/cli/InputArgumentNamePinLaw -/
def k1 : Class := { plain "com/example/skylattice/skylattice/cli/InputArgumentNamePinLaw" (some 0) with
  accessFlags := 49
  interfaces := #[]
  cf := some (fileOf pool1 32 #[] #[{ accessFlags := 2, nameIndex := 5, descriptorIndex := 6, attributes := #[] }, { accessFlags := 9, nameIndex := 36, descriptorIndex := 37, attributes := #[] }] 49 2 #[] #[])
  fields := #[]
  methods := #[k1m0, k1m1]
  instanceTypes := #[]
  staticTypes := #[]
  resolved := Array.replicate 43 none
  statics := none }

def pool2 : Array CpInfo := pool [(1, .class_ 2), (0, u "java/io/Serializable"), (0, .class_ 4), (0, u "java/lang/Object")] 2

/-- java/io/Serializable -/
def k2 : Class := { plain "java/io/Serializable" (some 0) with
  accessFlags := 1537
  interfaces := #[]
  cf := some (fileOf pool2 1 #[] #[] 1537 3 #[] #[])
  fields := #[]
  methods := #[]
  instanceTypes := #[]
  staticTypes := #[]
  resolved := Array.replicate 7 none
  statics := none }

def pool3 : Array CpInfo := pool [(1, .class_ 2), (0, u "java/lang/Comparable"), (0, .class_ 4), (0, u "java/lang/Object")] 7

/-- java/lang/Comparable -/
def k3 : Class := { plain "java/lang/Comparable" (some 0) with
  accessFlags := 1537
  interfaces := #[]
  cf := some (fileOf pool3 1 #[] #[] 1537 3 #[] #[])
  fields := #[]
  methods := #[]
  instanceTypes := #[]
  staticTypes := #[]
  resolved := Array.replicate 12 none
  statics := none }

def pool4 : Array CpInfo := pool [(2, .class_ 4), (1, u "java/lang/CharSequence"), (42, .class_ 48), (0, u "java/lang/CharSequence$1CodePointIterator"), (10, .class_ 60), (0, u "java/lang/CharSequence$1CharIterator"), (5, .class_ 67), (0, u "java/lang/Object")] 63

/-- java/lang/CharSequence -/
def k4 : Class := { plain "java/lang/CharSequence" (some 0) with
  accessFlags := 1537
  interfaces := #[]
  cf := some (fileOf pool4 2 #[.nestMembers #[47, 59]] #[] 1537 66 #[] #[])
  fields := #[]
  methods := #[]
  instanceTypes := #[]
  staticTypes := #[]
  resolved := Array.replicate 131 none
  statics := none }

def pool5 : Array CpInfo := pool [(1, .class_ 2), (0, u "java/lang/constant/Constable"), (0, .class_ 4), (0, u "java/lang/Object")] 6

/-- java/lang/constant/Constable -/
def k5 : Class := { plain "java/lang/constant/Constable" (some 0) with
  accessFlags := 1537
  interfaces := #[]
  cf := some (fileOf pool5 1 #[] #[] 1537 3 #[] #[])
  fields := #[]
  methods := #[]
  instanceTypes := #[]
  staticTypes := #[]
  resolved := Array.replicate 11 none
  statics := none }

def pool6 : Array CpInfo := pool [(1, .class_ 2), (0, u "java/lang/constant/ConstantDesc"), (0, .class_ 4), (0, u "java/lang/Object")] 32

/-- java/lang/constant/ConstantDesc -/
def k6 : Class := { plain "java/lang/constant/ConstantDesc" (some 0) with
  accessFlags := 1537
  interfaces := #[]
  cf := some (fileOf pool6 1 #[] #[] 1537 3 #[] #[])
  fields := #[]
  methods := #[]
  instanceTypes := #[]
  staticTypes := #[]
  resolved := Array.replicate 37 none
  statics := none }

def pool7 : Array CpInfo := pool [(1, .methodref 2 3), (0, .class_ 4), (0, .nameAndType 5 6), (0, u "java/lang/Object"), (0, u "<init>"), (0, u "()V"), (0, .string 8), (0, u ""), (0, .fieldref 10 11), (0, .class_ 12), (0, .nameAndType 13 14), (0, u "java/lang/String"), (0, u "value"), (0, u "[B"), (0, .fieldref 10 16), (0, .nameAndType 17 18), (0, u "coder"), (0, u "B"), (2, u "hash"), (0, u "I"), (2, u "hashIsZero"), (0, u "Z"), (0, .methodref 10 28), (0, .nameAndType 5 29), (0, u "([CIILjava/lang/Void;)V"), (8, .fieldref 10 39), (0, .nameAndType 40 26), (0, u "COMPACT_STRINGS"), (1, .class_ 44), (1, u "java/lang/StringUTF16"), (0, u "compress"), (1, .methodref 42 48), (0, .nameAndType 49 50), (0, u "coderFromArrayLen"), (0, u "([BI)B"), (56, .class_ 109), (1, u "java/lang/StringLatin1"), (32, u "()Z"), (34, .methodref 42 178), (0, .nameAndType 45 179), (0, u "([CII)[B"), (154, u "()I"), (0, .methodref 10 336), (0, .nameAndType 17 337), (0, u "()B"), (25, u "([BI)C"), (27, u "(II)V"), (35, u "(I)C"), (64, .methodref 10 493), (0, .nameAndType 494 142), (0, u "isLatin1"), (0, .methodref 107 496), (0, .nameAndType 497 363), (0, u "charAt"), (3, u "checkIndex"), (5, u "length"), (33, .methodref 107 542), (0, .nameAndType 543 544), (0, u "equals"), (0, u "([B[B)Z"), (28, u "(Ljava/lang/Object;)Z"), (1, .class_ 576), (0, u "java/lang/CharSequence"), (22, u "CASE_INSENSITIVE_ORDER"), (0, u "Ljava/util/Comparator;"), (409, u "([C)V"), (42, .fieldref 1054 1055), (0, .class_ 1056), (0, .nameAndType 1057 1058), (0, u "jdk/internal/util/Preconditions"), (0, u "SIOOBE_FORMATTER"), (0, u "Ljava/util/function/BiFunction;"), (0, .methodref 1054 1060), (0, .nameAndType 501 1061), (0, u "(IILjava/util/function/BiFunction;)I"), (39, u "serialPersistentFields"), (0, u "[Ljava/io/ObjectStreamField;"), (0, .class_ 1104), (0, u "java/lang/String$CaseInsensitiveComparator"), (1, .class_ 1107), (0, u "java/io/Serializable"), (0, .class_ 1109), (0, u "java/lang/Comparable"), (0, .class_ 1111), (0, u "java/lang/constant/Constable"), (0, .class_ 1113), (0, u "java/lang/constant/ConstantDesc"), (2, u "serialVersionUID"), (0, u "J"), (3, u "REPL"), (0, u "C"), (2, u "LATIN1"), (1, u "UTF16")] 323

def k7m0 : Method := { name := "<init>", desc := "()V", sig := { parameters := [], returnType := none }, accessFlags := 1, code := none }
def k7c1 : Code := { maxStack := 5, maxLocals := 2, code := jdk_42_method_3_code, exceptionTable := #[], attributes := #[] }
def k7m1 : Method := { name := "<init>", desc := "([C)V", sig := { parameters := [(.array .char)], returnType := none }, accessFlags := 1, code := some k7c1 }
def k7c2 : Code := { maxStack := 2, maxLocals := 1, code := jdk_42_method_54_code, exceptionTable := #[], attributes := #[] }
def k7m2 : Method := { name := "length", desc := "()I", sig := { parameters := [], returnType := some .int }, accessFlags := 1, code := some k7c2 }
def k7c3 : Code := { maxStack := 2, maxLocals := 2, code := jdk_42_method_56_code, exceptionTable := #[], attributes := #[] }
def k7m3 : Method := { name := "charAt", desc := "(I)C", sig := { parameters := [.int], returnType := some .char }, accessFlags := 1, code := some k7c3 }
def k7c4 : Code := { maxStack := 2, maxLocals := 3, code := jdk_42_method_66_code, exceptionTable := #[], attributes := #[] }
def k7m4 : Method := { name := "equals", desc := "(Ljava/lang/Object;)Z", sig := { parameters := [(.object "java/lang/Object")], returnType := some .boolean }, accessFlags := 1, code := some k7c4 }
def k7c5 : Code := { maxStack := 4, maxLocals := 6, code := jdk_42_method_149_code, exceptionTable := #[], attributes := #[] }
def k7m5 : Method := { name := "<init>", desc := "([CIILjava/lang/Void;)V", sig := { parameters := [(.array .char), .int, .int, (.object "java/lang/Void")], returnType := none }, accessFlags := 2, code := some k7c5 }
def k7c6 : Code := { maxStack := 1, maxLocals := 1, code := jdk_42_method_152_code, exceptionTable := #[], attributes := #[] }
def k7m6 : Method := { name := "coder", desc := "()B", sig := { parameters := [], returnType := some .byte }, accessFlags := 0, code := some k7c6 }
def k7c7 : Code := { maxStack := 1, maxLocals := 1, code := jdk_42_method_154_code, exceptionTable := #[], attributes := #[] }
def k7m7 : Method := { name := "isLatin1", desc := "()Z", sig := { parameters := [], returnType := some .boolean }, accessFlags := 0, code := some k7c7 }
def k7c8 : Code := { maxStack := 3, maxLocals := 2, code := jdk_42_method_155_code, exceptionTable := #[], attributes := #[] }
def k7m8 : Method := { name := "checkIndex", desc := "(II)V", sig := { parameters := [.int, .int], returnType := none }, accessFlags := 8, code := some k7c8 }
/-- java/lang/String -/
def k7 : Class := { plain "java/lang/String" (some 0) with
  accessFlags := 49
  interfaces := #[2, 3, 4, 5, 6]
  cf := some (fileOf pool7 10 #[.nestMembers #[1103]] #[{ accessFlags := 1, nameIndex := 5, descriptorIndex := 6, attributes := #[] }, { accessFlags := 1, nameIndex := 5, descriptorIndex := 1010, attributes := #[] }, { accessFlags := 1, nameIndex := 507, descriptorIndex := 334, attributes := #[] }, { accessFlags := 1, nameIndex := 497, descriptorIndex := 427, attributes := #[] }, { accessFlags := 1, nameIndex := 543, descriptorIndex := 573, attributes := #[] }, { accessFlags := 2, nameIndex := 5, descriptorIndex := 29, attributes := #[] }, { accessFlags := 0, nameIndex := 17, descriptorIndex := 337, attributes := #[] }, { accessFlags := 0, nameIndex := 494, descriptorIndex := 142, attributes := #[] }, { accessFlags := 8, nameIndex := 501, descriptorIndex := 391, attributes := #[] }] 49 2 #[1106, 1108, 575, 1110, 1112] #[{ accessFlags := 18, nameIndex := 13, descriptorIndex := 14, attributes := #[] }, { accessFlags := 18, nameIndex := 17, descriptorIndex := 18, attributes := #[] }, { accessFlags := 2, nameIndex := 21, descriptorIndex := 22, attributes := #[] }, { accessFlags := 2, nameIndex := 25, descriptorIndex := 26, attributes := #[] }, { accessFlags := 26, nameIndex := 1116, descriptorIndex := 1117, attributes := #[] }, { accessFlags := 24, nameIndex := 40, descriptorIndex := 26, attributes := #[] }, { accessFlags := 26, nameIndex := 1101, descriptorIndex := 1102, attributes := #[] }, { accessFlags := 26, nameIndex := 1121, descriptorIndex := 1122, attributes := #[] }, { accessFlags := 25, nameIndex := 599, descriptorIndex := 600, attributes := #[] }, { accessFlags := 24, nameIndex := 1125, descriptorIndex := 18, attributes := #[] }, { accessFlags := 24, nameIndex := 1127, descriptorIndex := 18, attributes := #[] }])
  fields := #[{ name := "value", type := (.array .byte), accessFlags := 18, slot := 0, constantValue := 0 }, { name := "coder", type := .byte, accessFlags := 18, slot := 1, constantValue := 0 }, { name := "hash", type := .int, accessFlags := 2, slot := 2, constantValue := 0 }, { name := "hashIsZero", type := .boolean, accessFlags := 2, slot := 3, constantValue := 0 }, { name := "serialVersionUID", type := .long, accessFlags := 26, slot := 0, constantValue := 0 }, { name := "COMPACT_STRINGS", type := .boolean, accessFlags := 24, slot := 1, constantValue := 0 }, { name := "serialPersistentFields", type := (.array (.object "java/io/ObjectStreamField")), accessFlags := 26, slot := 2, constantValue := 0 }, { name := "REPL", type := .char, accessFlags := 26, slot := 3, constantValue := 0 }, { name := "CASE_INSENSITIVE_ORDER", type := (.object "java/util/Comparator"), accessFlags := 25, slot := 4, constantValue := 0 }, { name := "LATIN1", type := .byte, accessFlags := 24, slot := 5, constantValue := 0 }, { name := "UTF16", type := .byte, accessFlags := 24, slot := 6, constantValue := 0 }]
  methods := #[k7m0, k7m1, k7m2, k7m3, k7m4, k7m5, k7m6, k7m7, k7m8]
  instanceTypes := #[(.array .byte), .byte, .int, .boolean]
  staticTypes := #[.long, .boolean, (.array (.object "java/io/ObjectStreamField")), .char, (.object "java/util/Comparator"), .byte, .byte]
  resolved := Array.replicate 1451 none
  statics := some 0 }

def pool8 : Array CpInfo := pool [(2, .class_ 4), (1, u "java/lang/Object"), (0, u "<init>"), (0, u "()V"), (0, .string 8), (0, u "-"), (0, .methodref 10 11), (0, .class_ 12), (0, .nameAndType 13 14), (0, u "java/lang/String"), (0, u "equals"), (0, u "(Ljava/lang/Object;)Z"), (1, .class_ 18), (1, u "com/example/skylattice/skylattice/cli/InputArgument$Reader"), (5, .class_ 26), (1, u "com/example/skylattice/skylattice/cli/InputArgument"), (0, u "name"), (0, u "(Ljava/lang/String;)Ljava/lang/String;"), (12, .class_ 42), (0, u "com/example/skylattice/skylattice/cli/InputArgument$UnsizedInput"), (22, .string 66), (0, u "standard input")] 15

def k8m0 : Method := { name := "<init>", desc := "()V", sig := { parameters := [], returnType := none }, accessFlags := 2, code := none }
def k8c1 : Code := { maxStack := 2, maxLocals := 1, code := prog_20_method_3_code, exceptionTable := #[], attributes := #[] }
def k8m1 : Method := { name := "name", desc := "(Ljava/lang/String;)Ljava/lang/String;", sig := { parameters := [(.object "java/lang/String")], returnType := some (.object "java/lang/String") }, accessFlags := 8, code := some k8c1 }
/-- com/example/skylattice/skylattice/cli/InputArgument -/
def k8 : Class := { plain "com/example/skylattice/skylattice/cli/InputArgument" (some 0) with
  accessFlags := 48
  interfaces := #[]
  cf := some (fileOf pool8 24 #[.nestMembers #[41, 16]] #[{ accessFlags := 2, nameIndex := 5, descriptorIndex := 6, attributes := #[] }, { accessFlags := 8, nameIndex := 27, descriptorIndex := 28, attributes := #[] }] 48 2 #[] #[])
  fields := #[]
  methods := #[k8m0, k8m1]
  instanceTypes := #[]
  staticTypes := #[]
  resolved := Array.replicate 82 none
  statics := none }

def pool9 : Array CpInfo := pool [(1, .class_ 2), (0, u "java/lang/String"), (1, .class_ 6), (1, u "java/lang/Object"), (0, u "<init>"), (0, u "()V"), (0, .methodref 1 10), (0, .nameAndType 11 12), (0, u "checkIndex"), (0, u "(II)V"), (1, .class_ 16), (1, u "java/lang/StringLatin1"), (36, u "([BI)C"), (67, u "$assertionsDisabled"), (0, u "Z"), (98, .class_ 223), (1, u "java/lang/StringLatin1$LinesSpliterator"), (28, u "charAt"), (28, u "equals"), (0, u "([B[B)Z"), (107, .class_ 391), (0, u "java/lang/StringLatin1$CharsSpliterator")] 3

def k9m0 : Method := { name := "<init>", desc := "()V", sig := { parameters := [], returnType := none }, accessFlags := 0, code := none }
def k9c1 : Code := { maxStack := 2, maxLocals := 2, code := jdk_43_method_2_code, exceptionTable := #[], attributes := #[] }
def k9m1 : Method := { name := "charAt", desc := "([BI)C", sig := { parameters := [(.array .byte), .int], returnType := some .char }, accessFlags := 9, code := some k9c1 }
def k9c2 : Code := { maxStack := 3, maxLocals := 3, code := jdk_43_method_13_code, exceptionTable := #[], attributes := #[] }
def k9m2 : Method := { name := "equals", desc := "([B[B)Z", sig := { parameters := [(.array .byte), (.array .byte)], returnType := some .boolean }, accessFlags := 9, code := some k9c2 }
/-- java/lang/StringLatin1 -/
def k9 : Class := { plain "java/lang/StringLatin1" (some 0) with
  accessFlags := 48
  interfaces := #[]
  cf := some (fileOf pool9 14 #[.nestMembers #[390, 221]] #[{ accessFlags := 0, nameIndex := 7, descriptorIndex := 8, attributes := #[] }, { accessFlags := 9, nameIndex := 252, descriptorIndex := 53, attributes := #[] }, { accessFlags := 9, nameIndex := 281, descriptorIndex := 282, attributes := #[] }] 48 4 #[] #[{ accessFlags := 4120, nameIndex := 121, descriptorIndex := 122, attributes := #[] }])
  fields := #[{ name := "$assertionsDisabled", type := .boolean, accessFlags := 4120, slot := 0, constantValue := 0 }]
  methods := #[k9m0, k9m1, k9m2]
  instanceTypes := #[]
  staticTypes := #[.boolean]
  resolved := Array.replicate 395 none
  statics := none }

def pool10 : Array CpInfo := pool [(6, .class_ 8), (1, u "java/lang/Object"), (0, u "<init>"), (0, u "()V"), (1, .class_ 14), (1, u "java/lang/StringUTF16"), (31, u "$assertionsDisabled"), (0, u "Z"), (13, u "HI_BYTE_SHIFT"), (0, u "I"), (2, u "LO_BYTE_SHIFT"), (49, .methodref 12 116), (0, .nameAndType 117 118), (0, u "compress"), (0, u "([CI[BII)I"), (3, u "([CII)[B"), (138, u "coderFromArrayLen"), (0, u "([BI)B"), (106, .class_ 371), (1, u "java/lang/StringUTF16$LinesSpliterator"), (58, u "MAX_LENGTH"), (196, .class_ 628), (0, u "java/lang/StringUTF16$CodePointsSpliterator"), (0, .class_ 630), (0, u "java/lang/StringUTF16$CharsSpliterator")] 4

def k10m0 : Method := { name := "<init>", desc := "()V", sig := { parameters := [], returnType := none }, accessFlags := 0, code := none }
def k10c1 : Code := { maxStack := 2, maxLocals := 2, code := jdk_52_method_15_code, exceptionTable := #[], attributes := #[] }
def k10m1 : Method := { name := "coderFromArrayLen", desc := "([BI)B", sig := { parameters := [(.array .byte), .int], returnType := some .byte }, accessFlags := 8, code := some k10c1 }
def k10c2 : Code := { maxStack := 5, maxLocals := 6, code := jdk_52_method_16_code, exceptionTable := #[], attributes := #[] }
def k10m2 : Method := { name := "compress", desc := "([CII)[B", sig := { parameters := [(.array .char), .int, .int], returnType := some (.array .byte) }, accessFlags := 9, code := some k10c2 }
def k10c3 : Code := { maxStack := 3, maxLocals := 7, code := jdk_52_method_21_code, exceptionTable := #[], attributes := #[] }
def k10m3 : Method := { name := "compress", desc := "([CI[BII)I", sig := { parameters := [(.array .char), .int, (.array .byte), .int, .int], returnType := some .int }, accessFlags := 9, code := some k10c3 }
/-- java/lang/StringUTF16 -/
def k10 : Class := { plain "java/lang/StringUTF16" (some 0) with
  accessFlags := 48
  interfaces := #[]
  cf := some (fileOf pool10 12 #[.nestMembers #[627, 629, 369]] #[{ accessFlags := 0, nameIndex := 9, descriptorIndex := 10, attributes := #[] }, { accessFlags := 8, nameIndex := 261, descriptorIndex := 262, attributes := #[] }, { accessFlags := 9, nameIndex := 117, descriptorIndex := 122, attributes := #[] }, { accessFlags := 9, nameIndex := 117, descriptorIndex := 118, attributes := #[] }] 48 6 #[] #[{ accessFlags := 26, nameIndex := 61, descriptorIndex := 62, attributes := #[] }, { accessFlags := 26, nameIndex := 65, descriptorIndex := 62, attributes := #[] }, { accessFlags := 24, nameIndex := 430, descriptorIndex := 62, attributes := #[] }, { accessFlags := 4120, nameIndex := 46, descriptorIndex := 47, attributes := #[] }])
  fields := #[{ name := "HI_BYTE_SHIFT", type := .int, accessFlags := 26, slot := 0, constantValue := 0 }, { name := "LO_BYTE_SHIFT", type := .int, accessFlags := 26, slot := 1, constantValue := 0 }, { name := "MAX_LENGTH", type := .int, accessFlags := 24, slot := 2, constantValue := 0 }, { name := "$assertionsDisabled", type := .boolean, accessFlags := 4120, slot := 3, constantValue := 0 }]
  methods := #[k10m0, k10m1, k10m2, k10m3]
  instanceTypes := #[]
  staticTypes := #[.int, .int, .int, .boolean]
  resolved := Array.replicate 635 none
  statics := none }

def pool11 : Array CpInfo := pool [(2, .class_ 4), (1, u "java/lang/Object"), (0, u "<init>"), (0, u "()V"), (17, .class_ 26), (1, u "jdk/internal/util/Preconditions"), (6, u "checkIndex"), (21, .class_ 56), (0, u "jdk/internal/util/Preconditions$4"), (57, .class_ 115), (0, u "jdk/internal/util/Preconditions$1"), (7, u "SIOOBE_FORMATTER"), (0, u "Ljava/util/function/BiFunction;"), (0, .class_ 126), (0, u "jdk/internal/util/Preconditions$2"), (3, u "AIOOBE_FORMATTER"), (0, .class_ 132), (0, u "jdk/internal/util/Preconditions$3"), (3, u "IOOBE_FORMATTER"), (41, u "(IILjava/util/function/BiFunction;)I")] 15

def k11m0 : Method := { name := "<init>", desc := "()V", sig := { parameters := [], returnType := none }, accessFlags := 1, code := none }
def k11c1 : Code := { maxStack := 3, maxLocals := 3, code := jdk_41_method_11_code, exceptionTable := #[], attributes := #[] }
def k11m1 : Method := { name := "checkIndex", desc := "(IILjava/util/function/BiFunction;)I", sig := { parameters := [.int, .int, (.object "java/util/function/BiFunction")], returnType := some .int }, accessFlags := 9, code := some k11c1 }
/-- jdk/internal/util/Preconditions -/
def k11 : Class := { plain "jdk/internal/util/Preconditions" (some 0) with
  accessFlags := 33
  interfaces := #[]
  cf := some (fileOf pool11 24 #[.nestMembers #[55, 131, 125, 114]] #[{ accessFlags := 1, nameIndex := 5, descriptorIndex := 6, attributes := #[] }, { accessFlags := 9, nameIndex := 33, descriptorIndex := 178, attributes := #[] }] 33 2 #[] #[{ accessFlags := 25, nameIndex := 123, descriptorIndex := 124, attributes := #[] }, { accessFlags := 25, nameIndex := 130, descriptorIndex := 124, attributes := #[] }, { accessFlags := 25, nameIndex := 136, descriptorIndex := 124, attributes := #[] }])
  fields := #[{ name := "SIOOBE_FORMATTER", type := (.object "java/util/function/BiFunction"), accessFlags := 25, slot := 0, constantValue := 0 }, { name := "AIOOBE_FORMATTER", type := (.object "java/util/function/BiFunction"), accessFlags := 25, slot := 1, constantValue := 0 }, { name := "IOOBE_FORMATTER", type := (.object "java/util/function/BiFunction"), accessFlags := 25, slot := 2, constantValue := 0 }]
  methods := #[k11m0, k11m1]
  instanceTypes := #[]
  staticTypes := #[(.object "java/util/function/BiFunction"), (.object "java/util/function/BiFunction"), (.object "java/util/function/BiFunction")]
  resolved := Array.replicate 194 none
  statics := some 1 }

def pool12 : Array CpInfo := pool [(9, u "<init>"), (6, .class_ 18), (1, u "java/lang/Object"), (0, u "()V"), (1, .class_ 23), (1, u "jdk/internal/util/ArraysSupport"), (0, u "LOG2_ARRAY_LONG_INDEX_SCALE"), (0, u "I"), (2, u "U"), (0, u "Ljdk/internal/misc/Unsafe;"), (8, u "BIG_ENDIAN"), (0, u "Z"), (8, u "LOG2_BYTE_BIT_SIZE"), (4, u "LOG2_ARRAY_INT_INDEX_SCALE"), (54, u "JLA"), (0, u "Ljdk/internal/access/JavaLangAccess;"), (11, u "LOG2_ARRAY_BOOLEAN_INDEX_SCALE"), (9, u "LOG2_ARRAY_BYTE_INDEX_SCALE"), (5, u "LOG2_ARRAY_CHAR_INDEX_SCALE"), (5, u "LOG2_ARRAY_SHORT_INDEX_SCALE"), (18, u "LOG2_ARRAY_FLOAT_INDEX_SCALE"), (24, u "LOG2_ARRAY_DOUBLE_INDEX_SCALE"), (89, u "T_BOOLEAN"), (2, u "T_CHAR"), (1, u "T_FLOAT"), (1, u "T_DOUBLE"), (1, u "T_BYTE"), (1, u "T_SHORT"), (1, u "T_INT"), (1, u "T_LONG"), (1, u "SOFT_MAX_ARRAY_LENGTH")] 83

def k12m0 : Method := { name := "<init>", desc := "()V", sig := { parameters := [], returnType := none }, accessFlags := 2, code := none }
/-- jdk/internal/util/ArraysSupport -/
def k12 : Class := { plain "jdk/internal/util/ArraysSupport" (some 0) with
  accessFlags := 33
  interfaces := #[]
  cf := some (fileOf pool12 21 #[] #[{ accessFlags := 2, nameIndex := 9, descriptorIndex := 19, attributes := #[] }] 33 16 #[] #[{ accessFlags := 24, nameIndex := 28, descriptorIndex := 29, attributes := #[] }, { accessFlags := 26, nameIndex := 38, descriptorIndex := 39, attributes := #[] }, { accessFlags := 25, nameIndex := 121, descriptorIndex := 25, attributes := #[] }, { accessFlags := 25, nameIndex := 131, descriptorIndex := 25, attributes := #[] }, { accessFlags := 25, nameIndex := 137, descriptorIndex := 25, attributes := #[] }, { accessFlags := 25, nameIndex := 143, descriptorIndex := 25, attributes := #[] }, { accessFlags := 25, nameIndex := 53, descriptorIndex := 25, attributes := #[] }, { accessFlags := 25, nameIndex := 24, descriptorIndex := 25, attributes := #[] }, { accessFlags := 25, nameIndex := 162, descriptorIndex := 25, attributes := #[] }, { accessFlags := 25, nameIndex := 187, descriptorIndex := 25, attributes := #[] }, { accessFlags := 26, nameIndex := 48, descriptorIndex := 25, attributes := #[] }, { accessFlags := 25, nameIndex := 277, descriptorIndex := 25, attributes := #[] }, { accessFlags := 25, nameIndex := 280, descriptorIndex := 25, attributes := #[] }, { accessFlags := 25, nameIndex := 282, descriptorIndex := 25, attributes := #[] }, { accessFlags := 25, nameIndex := 284, descriptorIndex := 25, attributes := #[] }, { accessFlags := 25, nameIndex := 286, descriptorIndex := 25, attributes := #[] }, { accessFlags := 25, nameIndex := 288, descriptorIndex := 25, attributes := #[] }, { accessFlags := 25, nameIndex := 290, descriptorIndex := 25, attributes := #[] }, { accessFlags := 25, nameIndex := 292, descriptorIndex := 25, attributes := #[] }, { accessFlags := 26, nameIndex := 108, descriptorIndex := 109, attributes := #[] }, { accessFlags := 25, nameIndex := 294, descriptorIndex := 25, attributes := #[] }])
  fields := #[{ name := "U", type := (.object "jdk/internal/misc/Unsafe"), accessFlags := 24, slot := 0, constantValue := 0 }, { name := "BIG_ENDIAN", type := .boolean, accessFlags := 26, slot := 1, constantValue := 0 }, { name := "LOG2_ARRAY_BOOLEAN_INDEX_SCALE", type := .int, accessFlags := 25, slot := 2, constantValue := 0 }, { name := "LOG2_ARRAY_BYTE_INDEX_SCALE", type := .int, accessFlags := 25, slot := 3, constantValue := 0 }, { name := "LOG2_ARRAY_CHAR_INDEX_SCALE", type := .int, accessFlags := 25, slot := 4, constantValue := 0 }, { name := "LOG2_ARRAY_SHORT_INDEX_SCALE", type := .int, accessFlags := 25, slot := 5, constantValue := 0 }, { name := "LOG2_ARRAY_INT_INDEX_SCALE", type := .int, accessFlags := 25, slot := 6, constantValue := 0 }, { name := "LOG2_ARRAY_LONG_INDEX_SCALE", type := .int, accessFlags := 25, slot := 7, constantValue := 0 }, { name := "LOG2_ARRAY_FLOAT_INDEX_SCALE", type := .int, accessFlags := 25, slot := 8, constantValue := 0 }, { name := "LOG2_ARRAY_DOUBLE_INDEX_SCALE", type := .int, accessFlags := 25, slot := 9, constantValue := 0 }, { name := "LOG2_BYTE_BIT_SIZE", type := .int, accessFlags := 26, slot := 10, constantValue := 0 }, { name := "T_BOOLEAN", type := .int, accessFlags := 25, slot := 11, constantValue := 0 }, { name := "T_CHAR", type := .int, accessFlags := 25, slot := 12, constantValue := 0 }, { name := "T_FLOAT", type := .int, accessFlags := 25, slot := 13, constantValue := 0 }, { name := "T_DOUBLE", type := .int, accessFlags := 25, slot := 14, constantValue := 0 }, { name := "T_BYTE", type := .int, accessFlags := 25, slot := 15, constantValue := 0 }, { name := "T_SHORT", type := .int, accessFlags := 25, slot := 16, constantValue := 0 }, { name := "T_INT", type := .int, accessFlags := 25, slot := 17, constantValue := 0 }, { name := "T_LONG", type := .int, accessFlags := 25, slot := 18, constantValue := 0 }, { name := "JLA", type := (.object "jdk/internal/access/JavaLangAccess"), accessFlags := 26, slot := 19, constantValue := 0 }, { name := "SOFT_MAX_ARRAY_LENGTH", type := .int, accessFlags := 25, slot := 20, constantValue := 0 }]
  methods := #[k12m0]
  instanceTypes := #[]
  staticTypes := #[(.object "jdk/internal/misc/Unsafe"), .boolean, .int, .int, .int, .int, .int, .int, .int, .int, .int, .int, .int, .int, .int, .int, .int, .int, .int, (.object "jdk/internal/access/JavaLangAccess"), .int]
  resolved := Array.replicate 378 none
  statics := none }

def pool13 : Array CpInfo := pool [(1, u "java/lang/Cloneable"), (0, .class_ 1), (0, u "java/lang/Object"), (0, .class_ 3)] 3

/-- java/lang/Cloneable -/
def k13 : Class := { plain "java/lang/Cloneable" (some 0) with
  accessFlags := 1537
  interfaces := #[]
  cf := some (fileOf pool13 2 #[] #[] 1537 4 #[] #[])
  fields := #[]
  methods := #[]
  instanceTypes := #[]
  staticTypes := #[]
  resolved := Array.replicate 8 none
  statics := none }

/-- the primitive byte -/
def k14 : Class := { plain "byte" none with kind := .primitive 'B', accessFlags := 0x411 }
/-- [B -/
def k15 : Class := { plain "[B" (some 0) with kind := .array 14 .byte, interfaces := #[13, 2], accessFlags := 1041 }

/-- the primitive char -/
def k16 : Class := { plain "char" none with kind := .primitive 'C', accessFlags := 0x411 }
/-- [C -/
def k17 : Class := { plain "[C" (some 0) with kind := .array 16 .char, interfaces := #[13, 2], accessFlags := 1041 }

/-- the primitive int -/
def k18 : Class := { plain "int" none with kind := .primitive 'I', accessFlags := 0x411 }
/-- [I -/
def k19 : Class := { plain "[I" (some 0) with kind := .array 18 .int, interfaces := #[13, 2], accessFlags := 1041 }

def heap : Heap := #[{ cls := 7, slots := #[.long 0, .int 1, .null, .int 0, .null, .int 0, .int 0], vm := .statics 7 },
  { cls := 11, slots := #[.null, .null, .null], vm := .statics 11 }]
def classes : Array Class := #[k0, k1, k2, k3, k4, k5, k6, k7, k8, k9, k10, k11, k12, k13, k14, k15, k16, k17, k18, k19]
def interned : List (Array UInt16 × Addr) := []
def slotsUsed : Nat := 10
def theMethod : MethodId := ⟨1, 1⟩
def args0 : Array Value := #[.int 1, .int 65, .int 66, .int 67, .int 1]
def aboutOver (below : List Frame) : State where
  vm := { classes := classes, interned := interned.toArray }
  heap := heap
  slotsUsed := slotsUsed
  threads := #[{ frames := .invoking theMethod args0 :: below }]
def below0 : List Frame := [.native { method := ⟨0, 0⟩, args := #[] }]
def about1 : State := aboutOver below0
def p0 : Program := .bare "" "" ""
def e0 : Env := launch0.env 0 0 0
theorem w_frames : about1.frames = Frame.invoking theMethod args0 :: below0 := rfl
set_option maxRecDepth 65536 in
theorem w_args : argsFit about1.vm theMethod args0 = true := by decide +kernel
set_option maxRecDepth 65536 in
theorem w_heap : heapFits about1 = true := by decide +kernel
set_option maxRecDepth 65536 in
theorem w_runnable : about1.curStatus? = some .runnable := by decide +kernel
set_option maxRecDepth 65536 in
theorem w_alone : about1.alone = true := by decide +kernel
set_option maxRecDepth 65536 in
theorem w_named : about1.methodNamed? x = some theMethod := by decide +kernel
set_option maxRecDepth 65536 in
theorem w_hears : about1.hears theMethod below0 = true := by decide +kernel
set_option maxRecDepth 65536 in
theorem w_ripe : about1.ripe theMethod args0 below0 = true := by decide +kernel
theorem w_running : about1.status = .running := rfl
set_option maxRecDepth 65536 in
theorem w_room : about1.hasRoom e0.platform room_1 = true :=
  launch0.hasRoom_least _ room_1 (by decide +kernel) (by decide +kernel) (by decide +kernel) (by decide +kernel) (by decide +kernel) (by decide +kernel)
theorem allAtoms_all (ts : List Jvm.Cond) (a : Array Jvm.Value) (st : Jvm.State) : (allAtoms ts).before a st = ts.all (fun c => c.before a st) := by
  induction ts with
  | nil => rfl
  | cons c t ih =>
    show (Jvm.Cond.and c (allAtoms t)).before a st = _
    rw [Jvm.Cond.before_and, ih, List.all_cons]
def words1 : List Jvm.Cond := Jvm.Cond.code x code maxLocals ret :: tables_1
/-- a 'code' word, met by the world's own term for the bytes: nothing is compared byte by byte -/
theorem code_word {y : MethodName} {bytes : ByteArray} {mx : Nat} {rt : Option FieldType} {a : Array Value} {s : State} {m : MethodId} {meth : Method} {c : Code} (h1 : s.methodNamed? y = some m) (h2 : s.vm.method? m = some meth) (h3 : meth.code = some c) (h4 : c.code = bytes)
    (h5 : (c.maxLocals == mx && c.exceptionTable.isEmpty && decide (c.maxStack ≤ mostOperands) && decide (meth.sig.returnType = rt) && !meth.locks && decide (parseMethodDescriptor y.desc = some meth.sig)) = true) : (Jvm.Cond.code y bytes mx rt).before a s = true := by
  simp only [Bool.and_eq_true, beq_iff_eq, Bool.not_eq_true', decide_eq_true_eq] at h5
  obtain ⟨⟨⟨⟨⟨g1, g2⟩, g3⟩, g4⟩, g5⟩, g6⟩ := h5
  simp [Cond.before, Cond.holds, Cond.value, h1, h2, h3, h4, g1, g2, g3, g4, g5, g6]
def isCode : Jvm.Cond → Bool
  | .code _ _ _ _ => true
  | _ => false
theorem all_split {L : List Jvm.Cond} {P : Jvm.Cond → Bool} (h1 : L.all (fun c => isCode c || P c) = true) (h2 : ∀ c ∈ L.filter isCode, P c = true) : L.all P = true := by
  refine List.all_eq_true.mpr fun c hc => ?_
  have h := List.all_eq_true.mp h1 c hc
  rcases Bool.eq_false_or_eq_true (isCode c) with hi | hi
  · exact h2 c (List.mem_filter.mpr ⟨hc, hi⟩)
  · simpa [hi] using h
set_option maxRecDepth 65536 in
theorem w_c0 : (Jvm.Cond.code x code maxLocals ret).before args0 about1 = true := code_word (m := ⟨1, 1⟩) (meth := k1m1) (c := k1c1) (by decide +kernel) rfl rfl rfl (by decide +kernel)
set_option maxRecDepth 65536 in
theorem w_c1 : (Jvm.Cond.code ({ cls := "java/lang/String", name := "<init>", desc := "([C)V" } : Jvm.MethodName) jdk_42_method_3_code (2 : Nat) (Option.none : Option Jvm.ClassFile.FieldType)).before args0 about1 = true := code_word (m := ⟨7, 1⟩) (meth := k7m1) (c := k7c1) (by decide +kernel) rfl rfl rfl (by decide +kernel)
set_option maxRecDepth 65536 in
theorem w_c2 : (Jvm.Cond.code ({ cls := "java/lang/String", name := "<init>", desc := "([CIILjava/lang/Void;)V" } : Jvm.MethodName) jdk_42_method_149_code (6 : Nat) (Option.none : Option Jvm.ClassFile.FieldType)).before args0 about1 = true := code_word (m := ⟨7, 5⟩) (meth := k7m5) (c := k7c5) (by decide +kernel) rfl rfl rfl (by decide +kernel)
set_option maxRecDepth 65536 in
theorem w_c3 : (Jvm.Cond.code ({ cls := "java/lang/Object", name := "<init>", desc := "()V" } : Jvm.MethodName) object_method_1_code (1 : Nat) (Option.none : Option Jvm.ClassFile.FieldType)).before args0 about1 = true := code_word (m := ⟨0, 0⟩) (meth := k0m0) (c := k0c0) (by decide +kernel) rfl rfl rfl (by decide +kernel)
set_option maxRecDepth 65536 in
theorem w_c4 : (Jvm.Cond.code ({ cls := "com/example/skylattice/skylattice/cli/InputArgument", name := "name", desc := "(Ljava/lang/String;)Ljava/lang/String;" } : Jvm.MethodName) prog_20_method_3_code (1 : Nat) (Option.some (Jvm.ClassFile.FieldType.object "java/lang/String"))).before args0 about1 = true := code_word (m := ⟨8, 1⟩) (meth := k8m1) (c := k8c1) (by decide +kernel) rfl rfl rfl (by decide +kernel)
set_option maxRecDepth 65536 in
theorem w_c5 : (Jvm.Cond.code ({ cls := "java/lang/String", name := "equals", desc := "(Ljava/lang/Object;)Z" } : Jvm.MethodName) jdk_42_method_66_code (3 : Nat) (Option.some Jvm.ClassFile.FieldType.boolean)).before args0 about1 = true := code_word (m := ⟨7, 4⟩) (meth := k7m4) (c := k7c4) (by decide +kernel) rfl rfl rfl (by decide +kernel)
set_option maxRecDepth 65536 in
theorem w_c6 : (Jvm.Cond.code ({ cls := "java/lang/StringLatin1", name := "equals", desc := "([B[B)Z" } : Jvm.MethodName) jdk_43_method_13_code (3 : Nat) (Option.some Jvm.ClassFile.FieldType.boolean)).before args0 about1 = true := code_word (m := ⟨9, 2⟩) (meth := k9m2) (c := k9c2) (by decide +kernel) rfl rfl rfl (by decide +kernel)
set_option maxRecDepth 65536 in
theorem w_c7 : (Jvm.Cond.code ({ cls := "java/lang/String", name := "length", desc := "()I" } : Jvm.MethodName) jdk_42_method_54_code (1 : Nat) (Option.some Jvm.ClassFile.FieldType.int)).before args0 about1 = true := code_word (m := ⟨7, 2⟩) (meth := k7m2) (c := k7c2) (by decide +kernel) rfl rfl rfl (by decide +kernel)
set_option maxRecDepth 65536 in
theorem w_c8 : (Jvm.Cond.code ({ cls := "java/lang/String", name := "coder", desc := "()B" } : Jvm.MethodName) jdk_42_method_152_code (1 : Nat) (Option.some Jvm.ClassFile.FieldType.byte)).before args0 about1 = true := code_word (m := ⟨7, 6⟩) (meth := k7m6) (c := k7c6) (by decide +kernel) rfl rfl rfl (by decide +kernel)
set_option maxRecDepth 65536 in
theorem w_c9 : (Jvm.Cond.code ({ cls := "java/lang/StringUTF16", name := "compress", desc := "([CII)[B" } : Jvm.MethodName) jdk_52_method_16_code (6 : Nat) (Option.some (Jvm.ClassFile.FieldType.array Jvm.ClassFile.FieldType.byte))).before args0 about1 = true := code_word (m := ⟨10, 2⟩) (meth := k10m2) (c := k10c2) (by decide +kernel) rfl rfl rfl (by decide +kernel)
set_option maxRecDepth 65536 in
theorem w_c10 : (Jvm.Cond.code ({ cls := "java/lang/StringUTF16", name := "compress", desc := "([CI[BII)I" } : Jvm.MethodName) jdk_52_method_21_code (7 : Nat) (Option.some Jvm.ClassFile.FieldType.int)).before args0 about1 = true := code_word (m := ⟨10, 3⟩) (meth := k10m3) (c := k10c3) (by decide +kernel) rfl rfl rfl (by decide +kernel)
set_option maxRecDepth 65536 in
theorem w_c11 : (Jvm.Cond.code ({ cls := "java/lang/StringUTF16", name := "coderFromArrayLen", desc := "([BI)B" } : Jvm.MethodName) jdk_52_method_15_code (2 : Nat) (Option.some Jvm.ClassFile.FieldType.byte)).before args0 about1 = true := code_word (m := ⟨10, 1⟩) (meth := k10m1) (c := k10c1) (by decide +kernel) rfl rfl rfl (by decide +kernel)
set_option maxRecDepth 65536 in
theorem w_c12 : (Jvm.Cond.code ({ cls := "java/lang/String", name := "charAt", desc := "(I)C" } : Jvm.MethodName) jdk_42_method_56_code (2 : Nat) (Option.some Jvm.ClassFile.FieldType.char)).before args0 about1 = true := code_word (m := ⟨7, 3⟩) (meth := k7m3) (c := k7c3) (by decide +kernel) rfl rfl rfl (by decide +kernel)
set_option maxRecDepth 65536 in
theorem w_c13 : (Jvm.Cond.code ({ cls := "java/lang/String", name := "isLatin1", desc := "()Z" } : Jvm.MethodName) jdk_42_method_154_code (1 : Nat) (Option.some Jvm.ClassFile.FieldType.boolean)).before args0 about1 = true := code_word (m := ⟨7, 7⟩) (meth := k7m7) (c := k7c7) (by decide +kernel) rfl rfl rfl (by decide +kernel)
set_option maxRecDepth 65536 in
theorem w_c14 : (Jvm.Cond.code ({ cls := "java/lang/StringLatin1", name := "charAt", desc := "([BI)C" } : Jvm.MethodName) jdk_43_method_2_code (2 : Nat) (Option.some Jvm.ClassFile.FieldType.char)).before args0 about1 = true := code_word (m := ⟨9, 1⟩) (meth := k9m1) (c := k9c1) (by decide +kernel) rfl rfl rfl (by decide +kernel)
set_option maxRecDepth 65536 in
theorem w_c15 : (Jvm.Cond.code ({ cls := "java/lang/String", name := "checkIndex", desc := "(II)V" } : Jvm.MethodName) jdk_42_method_155_code (2 : Nat) (Option.none : Option Jvm.ClassFile.FieldType)).before args0 about1 = true := code_word (m := ⟨7, 8⟩) (meth := k7m8) (c := k7c8) (by decide +kernel) rfl rfl rfl (by decide +kernel)
set_option maxRecDepth 65536 in
theorem w_c16 : (Jvm.Cond.code ({ cls := "jdk/internal/util/Preconditions", name := "checkIndex", desc := "(IILjava/util/function/BiFunction;)I" } : Jvm.MethodName) jdk_41_method_11_code (3 : Nat) (Option.some Jvm.ClassFile.FieldType.int)).before args0 about1 = true := code_word (m := ⟨11, 1⟩) (meth := k11m1) (c := k11c1) (by decide +kernel) rfl rfl rfl (by decide +kernel)
def codes1 : List Jvm.Cond := [Jvm.Cond.code x code maxLocals ret, Jvm.Cond.code ({ cls := "java/lang/String", name := "<init>", desc := "([C)V" } : Jvm.MethodName) jdk_42_method_3_code (2 : Nat) (Option.none : Option Jvm.ClassFile.FieldType), Jvm.Cond.code ({ cls := "java/lang/String", name := "<init>", desc := "([CIILjava/lang/Void;)V" } : Jvm.MethodName) jdk_42_method_149_code (6 : Nat) (Option.none : Option Jvm.ClassFile.FieldType), Jvm.Cond.code ({ cls := "java/lang/Object", name := "<init>", desc := "()V" } : Jvm.MethodName) object_method_1_code (1 : Nat) (Option.none : Option Jvm.ClassFile.FieldType), Jvm.Cond.code ({ cls := "com/example/skylattice/skylattice/cli/InputArgument", name := "name", desc := "(Ljava/lang/String;)Ljava/lang/String;" } : Jvm.MethodName) prog_20_method_3_code (1 : Nat) (Option.some (Jvm.ClassFile.FieldType.object "java/lang/String")), Jvm.Cond.code ({ cls := "java/lang/String", name := "equals", desc := "(Ljava/lang/Object;)Z" } : Jvm.MethodName) jdk_42_method_66_code (3 : Nat) (Option.some Jvm.ClassFile.FieldType.boolean), Jvm.Cond.code ({ cls := "java/lang/StringLatin1", name := "equals", desc := "([B[B)Z" } : Jvm.MethodName) jdk_43_method_13_code (3 : Nat) (Option.some Jvm.ClassFile.FieldType.boolean), Jvm.Cond.code ({ cls := "java/lang/String", name := "length", desc := "()I" } : Jvm.MethodName) jdk_42_method_54_code (1 : Nat) (Option.some Jvm.ClassFile.FieldType.int), Jvm.Cond.code ({ cls := "java/lang/String", name := "coder", desc := "()B" } : Jvm.MethodName) jdk_42_method_152_code (1 : Nat) (Option.some Jvm.ClassFile.FieldType.byte), Jvm.Cond.code ({ cls := "java/lang/StringUTF16", name := "compress", desc := "([CII)[B" } : Jvm.MethodName) jdk_52_method_16_code (6 : Nat) (Option.some (Jvm.ClassFile.FieldType.array Jvm.ClassFile.FieldType.byte)), Jvm.Cond.code ({ cls := "java/lang/StringUTF16", name := "compress", desc := "([CI[BII)I" } : Jvm.MethodName) jdk_52_method_21_code (7 : Nat) (Option.some Jvm.ClassFile.FieldType.int), Jvm.Cond.code ({ cls := "java/lang/StringUTF16", name := "coderFromArrayLen", desc := "([BI)B" } : Jvm.MethodName) jdk_52_method_15_code (2 : Nat) (Option.some Jvm.ClassFile.FieldType.byte), Jvm.Cond.code ({ cls := "java/lang/String", name := "charAt", desc := "(I)C" } : Jvm.MethodName) jdk_42_method_56_code (2 : Nat) (Option.some Jvm.ClassFile.FieldType.char), Jvm.Cond.code ({ cls := "java/lang/String", name := "isLatin1", desc := "()Z" } : Jvm.MethodName) jdk_42_method_154_code (1 : Nat) (Option.some Jvm.ClassFile.FieldType.boolean), Jvm.Cond.code ({ cls := "java/lang/StringLatin1", name := "charAt", desc := "([BI)C" } : Jvm.MethodName) jdk_43_method_2_code (2 : Nat) (Option.some Jvm.ClassFile.FieldType.char), Jvm.Cond.code ({ cls := "java/lang/String", name := "checkIndex", desc := "(II)V" } : Jvm.MethodName) jdk_42_method_155_code (2 : Nat) (Option.none : Option Jvm.ClassFile.FieldType), Jvm.Cond.code ({ cls := "jdk/internal/util/Preconditions", name := "checkIndex", desc := "(IILjava/util/function/BiFunction;)I" } : Jvm.MethodName) jdk_41_method_11_code (3 : Nat) (Option.some Jvm.ClassFile.FieldType.int)]
set_option maxRecDepth 65536 in
theorem codes_eq : words1.filter isCode = codes1 := rfl
theorem w_codes : ∀ c ∈ words1.filter isCode, c.before args0 about1 = true := by
  rw [codes_eq]
  intro c hc
  simp only [codes1, List.mem_cons, List.not_mem_nil, or_false] at hc
  rcases hc with rfl | rfl | rfl | rfl | rfl | rfl | rfl | rfl | rfl | rfl | rfl | rfl | rfl | rfl | rfl | rfl | rfl
  · exact w_c0
  · exact w_c1
  · exact w_c2
  · exact w_c3
  · exact w_c4
  · exact w_c5
  · exact w_c6
  · exact w_c7
  · exact w_c8
  · exact w_c9
  · exact w_c10
  · exact w_c11
  · exact w_c12
  · exact w_c13
  · exact w_c14
  · exact w_c15
  · exact w_c16
set_option maxRecDepth 65536 in
theorem w_t1 : (words1.take 24).all (fun c => isCode c || c.before args0 about1) = true := by decide +kernel
set_option maxRecDepth 65536 in
theorem w_t2 : ((words1.drop 24).take 24).all (fun c => isCode c || c.before args0 about1) = true := by decide +kernel
set_option maxRecDepth 65536 in
theorem w_t3 : (((words1.drop 24).drop 24).take 24).all (fun c => isCode c || c.before args0 about1) = true := by decide +kernel
set_option maxRecDepth 65536 in
theorem w_t4 : (((words1.drop 24).drop 24).drop 24).all (fun c => isCode c || c.before args0 about1) = true := by decide +kernel
theorem w_tables : (allAtoms (Jvm.Cond.code x code maxLocals ret :: tables_1)).before args0 about1 = true := by
  rw [allAtoms_all]
  show words1.all (fun c => c.before args0 about1) = true
  refine all_split ?_ w_codes
  rw [← List.take_append_drop 24 words1, List.all_append, w_t1, ← List.take_append_drop 24 (words1.drop 24), List.all_append, w_t2, ← List.take_append_drop 24 ((words1.drop 24).drop 24), List.all_append, w_t3, w_t4]
  rfl
set_option maxRecDepth 65536 in
theorem w_rest : rest_1_c.before args0 about1 = true := by decide +kernel
set_option maxRecDepth 65536 in
theorem w_case : (Jvm.Cond.and given_1 narrow_1).before args0 about1 = true := by decide +kernel
set_option maxRecDepth 65536 in
theorem w_consts : constsHeld consts_1 about1 := Jvm.Lit.constsHeldB_iff.mp (by decide +kernel)
theorem w_applies : (headSpec (Jvm.Cond.code x code maxLocals ret :: tables_1) room_1).applies x e0.platform about1 = true :=
  (Spec.applies_iff w_frames).mpr ⟨w_running, w_runnable, w_alone, w_named, w_hears, w_ripe, w_room, w_tables⟩
theorem atStart : AtStart classFile x code maxLocals ret World_1 tables_1 room_1 Calls_1 rest_1 Pre_1 launch0 p0 e0 about1 theMethod args0 below0 :=
  ⟨lists_1, trivial, launch0.admits_env _ _ _, launch0.least_env, fairChoices_fair.cas, fairChoices_fair.clock, w_frames, w_args, w_heap, w_applies, ⟨w_consts, trivial⟩, w_rest, w_case⟩
end start1
theorem witness_1 : WitnessClaimed_1 := ⟨start1.p0, start1.e0, start1.about1, start1.theMethod, start1.args0, start1.below0, start1.atStart⟩
end Jvm.Pilot.@@N@@
