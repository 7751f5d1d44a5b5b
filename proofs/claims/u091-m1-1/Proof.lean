import JvmDerived
import JvmDerived.Pilot.@@N@@Statement
import JvmDerived.Pilot.@@N@@Code
set_option linter.unusedVariables false
set_option linter.unusedSimpArgs false
namespace Jvm.RoadKit
open Sem ClassFile Op Lib Jvm.Stand Jvm.Free Jvm.LawKit
section New
variable {p : Program} {l : Launch} {e : Env} {R : Room} {s : State} {m : MethodId} {args : Array Value} {below : List Frame} {meth : Method} {c : Code} {T : State} {locs : List Loc} {cells slots : Nat}
theorem retI (X : Stand p l e R s m args below meth c T locs cells slots) (hx : p.tables.exec = Jvm.exec) {pc : Nat} {Ls : Array Slot} {z : Int32} {rest : List Value} (hret : meth.sig.returnType = some .int) (hd : decode c.code pc = .ok (.ireturn, 1)) {fs : List Frame}
    (hl : ∀ (f : JFrame) (acts : List Action), f.method = m → f.locked = none → f.entered = [] → (doReturn e (T.setTop f) acts (some (.int z))).1 = T.setFrames fs) : Steps p.tables e below (T.setTop (mkF m pc Ls (.int z :: rest))) (T.setFrames fs) := by
  have hm' : T.vm.method? m = some meth := X.method'
  have hn : narrow .int (.int z) = .int z := rfl
  show Steps p.tables e below (T.setTop { method := m, pc := pc, locals := Ls, stack := _ :: rest, locked := none }) _
  jvm_step X.here [X.here.top, hx, hd, hm', hret, hn]
  first | (intro acts; rw [hl _ acts rfl rfl rfl]) | rw [hl _ _ rfl rfl rfl]
  exact Steps.refl _
end New
end Jvm.RoadKit
namespace Jvm.Pilot.@@N@@
open Jvm Jvm.ClassFile Sem Op Lib Jvm.Free Jvm.Stand Jvm.LawKit Jvm.RoadKit Bundle Jvm.Pilot.@@N@@.Jvm.D
def QP (w : Option Value) (h0 : Heap) (n0 : Nat) (v : Option Value) (h : Heap) (L : List Loc) : Prop := v = w ∧ Fr n0 L ∧ h = h0
def QL (n0 : Nat) (v : Option Value) (h : Heap) (L : List Loc) : Prop := v = some (.int (1 : Int32)) ∧ Fr n0 L
theorem own_stJ {p : Program} {l : Launch} {e : Env} {R : Room} {s : State} {m : MethodId} {args : Array Value} {below : List Frame} {meth : Method} {c : Code} {T : State} {locs : List Loc} {cells slots : Nat} {Z : State} {h : Heap} {a : Addr} {k : ClassId} {z : Int32} {vs : List Value} {dv : Value} {n0 : Nat}
    (X : Stand p l e R s m args below meth c T locs cells slots) (hx : p.tables.exec = Jvm.exec) (hZ : Z.Warmed39 s.vm) (eT : T.heap = h) (V : Arv Z h a k .long z vs dv) {j : Int32} {x : Int64} (hj : ¬ j < 0 ∧ j < z) {i : Nat} (hi : j.toNatClampNeg = i) (hl : i < vs.length) (N : Fr n0 locs) (ga : n0 ≤ a) {g : JFrame} (hg : g.method = m) {rest : List Value} (hs : g.stack = .long x :: .int j :: .ref a :: rest) (hd : decode c.code g.pc = .ok (.lastore, 1)) :
    ∃ T' h' L', Stand p l e R s m args below meth c T' L' cells slots ∧ T'.heap = h' ∧ Fr n0 L' ∧ Wr h h' a j.toNatClampNeg (.long x) ∧ Arv Z h' a k .long z (vs.set i (.long x)) dv ∧ ∀ target, Steps p.tables e below (T'.setTop { g with pc := g.pc + 1, stack := rest }) target → Steps p.tables e below (T.setTop g) target := by
  obtain ⟨cl, A, q1, S, q3, H, G⟩ := V
  obtain ⟨T', h', X', e', W, st⟩ := stJ X hx hZ eT A (inb_of S hj) hg hs hd
  exact ⟨T', h', _, X', e', Fr.snoc X' N ga, W, Arv.set A q1 S q3 H G rfl W i hi hl, st⟩
theorem own_stI {p : Program} {l : Launch} {e : Env} {R : Room} {s : State} {m : MethodId} {args : Array Value} {below : List Frame} {meth : Method} {c : Code} {T : State} {locs : List Loc} {cells slots : Nat} {Z : State} {h : Heap} {a : Addr} {k : ClassId} {z : Int32} {vs : List Value} {dv : Value} {n0 : Nat}
    (X : Stand p l e R s m args below meth c T locs cells slots) (hx : p.tables.exec = Jvm.exec) (hZ : Z.Warmed39 s.vm) (eT : T.heap = h) (V : Arv Z h a k .int z vs dv) {j : Int32} {x : Int32} (hj : ¬ j < 0 ∧ j < z) {i : Nat} (hi : j.toNatClampNeg = i) (hl : i < vs.length) (N : Fr n0 locs) (ga : n0 ≤ a) {g : JFrame} (hg : g.method = m) {rest : List Value} (hs : g.stack = .int x :: .int j :: .ref a :: rest) (hd : decode c.code g.pc = .ok (.iastore, 1)) :
    ∃ T' h' L', Stand p l e R s m args below meth c T' L' cells slots ∧ T'.heap = h' ∧ Fr n0 L' ∧ Wr h h' a j.toNatClampNeg (.int x) ∧ Arv Z h' a k .int z (vs.set i (.int x)) dv ∧ ∀ target, Steps p.tables e below (T'.setTop { g with pc := g.pc + 1, stack := rest }) target → Steps p.tables e below (T.setTop g) target := by
  obtain ⟨cl, A, q1, S, q3, H, G⟩ := V
  obtain ⟨T', h', X', e', W, st⟩ := stI X hx hZ eT A (inb_of S hj) hg hs hd
  exact ⟨T', h', _, X', e', Fr.snoc X' N ga, W, Arv.set A q1 S q3 H G rfl W i hi hl, st⟩
theorem own_stB {p : Program} {l : Launch} {e : Env} {R : Room} {s : State} {m : MethodId} {args : Array Value} {below : List Frame} {meth : Method} {c : Code} {T : State} {locs : List Loc} {cells slots : Nat} {Z : State} {h : Heap} {a : Addr} {k : ClassId} {z : Int32} {vs : List Value} {dv : Value} {n0 : Nat}
    (X : Stand p l e R s m args below meth c T locs cells slots) (hx : p.tables.exec = Jvm.exec) (hZ : Z.Warmed39 s.vm) (eT : T.heap = h) (V : Arv Z h a k .byte z vs dv) {j : Int32} {x : Int32} (hj : ¬ j < 0 ∧ j < z) {i : Nat} (hi : j.toNatClampNeg = i) (hl : i < vs.length) (N : Fr n0 locs) (ga : n0 ≤ a) {g : JFrame} (hg : g.method = m) {rest : List Value} (hs : g.stack = .int x :: .int j :: .ref a :: rest) (hd : decode c.code g.pc = .ok (.bastore, 1)) :
    ∃ T' h' L', Stand p l e R s m args below meth c T' L' cells slots ∧ T'.heap = h' ∧ Fr n0 L' ∧ Wr h h' a j.toNatClampNeg (.int (nar .byte x)) ∧ Arv Z h' a k .byte z (vs.set i (.int (nar .byte x))) dv ∧ ∀ target, Steps p.tables e below (T'.setTop { g with pc := g.pc + 1, stack := rest }) target → Steps p.tables e below (T.setTop g) target := by
  obtain ⟨cl, A, q1, S, q3, H, G⟩ := V
  obtain ⟨T', h', X', e', W, st⟩ := stB X hx hZ eT A (inb_of S hj) hg hs hd
  exact ⟨T', h', _, X', e', Fr.snoc X' N ga, W, Arv.set A q1 S q3 H G (fits_nar_byte _) W i hi hl, st⟩
theorem own_stC {p : Program} {l : Launch} {e : Env} {R : Room} {s : State} {m : MethodId} {args : Array Value} {below : List Frame} {meth : Method} {c : Code} {T : State} {locs : List Loc} {cells slots : Nat} {Z : State} {h : Heap} {a : Addr} {k : ClassId} {z : Int32} {vs : List Value} {dv : Value} {n0 : Nat}
    (X : Stand p l e R s m args below meth c T locs cells slots) (hx : p.tables.exec = Jvm.exec) (hZ : Z.Warmed39 s.vm) (eT : T.heap = h) (V : Arv Z h a k .char z vs dv) {j : Int32} {x : Int32} (hj : ¬ j < 0 ∧ j < z) {i : Nat} (hi : j.toNatClampNeg = i) (hl : i < vs.length) (N : Fr n0 locs) (ga : n0 ≤ a) {g : JFrame} (hg : g.method = m) {rest : List Value} (hs : g.stack = .int x :: .int j :: .ref a :: rest) (hd : decode c.code g.pc = .ok (.castore, 1)) :
    ∃ T' h' L', Stand p l e R s m args below meth c T' L' cells slots ∧ T'.heap = h' ∧ Fr n0 L' ∧ Wr h h' a j.toNatClampNeg (.int (nar .char x)) ∧ Arv Z h' a k .char z (vs.set i (.int (nar .char x))) dv ∧ ∀ target, Steps p.tables e below (T'.setTop { g with pc := g.pc + 1, stack := rest }) target → Steps p.tables e below (T.setTop g) target := by
  obtain ⟨cl, A, q1, S, q3, H, G⟩ := V
  obtain ⟨T', h', X', e', W, st⟩ := stC X hx hZ eT A (inb_of S hj) hg hs hd
  exact ⟨T', h', _, X', e', Fr.snoc X' N ga, W, Arv.set A q1 S q3 H G (fits_nar_char _) W i hi hl, st⟩
theorem own_ldJ {p : Program} {l : Launch} {e : Env} {R : Room} {s : State} {m : MethodId} {args : Array Value} {below : List Frame} {meth : Method} {c : Code} {T : State} {locs : List Loc} {cells slots : Nat} {Z : State} {h : Heap} {a : Addr} {k : ClassId} {z : Int32} {vs : List Value} {dv : Value} {w : Int64}
    (X : Stand p l e R s m args below meth c T locs cells slots) (hx : p.tables.exec = Jvm.exec) (hZ : Z.Warmed39 s.vm) (eT : T.heap = h) (V : Arv Z h a k .long z vs dv) {j : Int32} (hj : ¬ j < 0 ∧ j < z) (hv : vs.getD j.toNatClampNeg dv = .long w) {g : JFrame} (hg : g.method = m) {rest : List Value} (hs : g.stack = .int j :: .ref a :: rest) (hd : decode c.code g.pc = .ok (.laload, 1)) {target : State} (hr : Steps p.tables e below (T.setTop { g with pc := g.pc + 1, stack := .long w :: rest }) target) : Steps p.tables e below (T.setTop g) target := by
  obtain ⟨cl, A, q1, S, q3, H, G⟩ := V
  have hin := inb_of S hj
  exact X.laload hx (j := j) (v := .long w) (by rw [eT]; exact A.1) (State.isArrayOf_alike hZ.alike A.2.1) A.2.2 hin (H.at hin hv) (g := g) hg hs hd _ hr
theorem own_ldI {p : Program} {l : Launch} {e : Env} {R : Room} {s : State} {m : MethodId} {args : Array Value} {below : List Frame} {meth : Method} {c : Code} {T : State} {locs : List Loc} {cells slots : Nat} {Z : State} {h : Heap} {a : Addr} {k : ClassId} {z : Int32} {vs : List Value} {dv : Value} {w : Int32}
    (X : Stand p l e R s m args below meth c T locs cells slots) (hx : p.tables.exec = Jvm.exec) (hZ : Z.Warmed39 s.vm) (eT : T.heap = h) (V : Arv Z h a k .int z vs dv) {j : Int32} (hj : ¬ j < 0 ∧ j < z) (hv : vs.getD j.toNatClampNeg dv = .int w) {g : JFrame} (hg : g.method = m) {rest : List Value} (hs : g.stack = .int j :: .ref a :: rest) (hd : decode c.code g.pc = .ok (.iaload, 1)) {target : State} (hr : Steps p.tables e below (T.setTop { g with pc := g.pc + 1, stack := .int w :: rest }) target) : Steps p.tables e below (T.setTop g) target := by
  obtain ⟨cl, A, q1, S, q3, H, G⟩ := V
  have hin := inb_of S hj
  exact X.iaload hx (j := j) (v := .int w) (by rw [eT]; exact A.1) (State.isArrayOf_alike hZ.alike A.2.1) A.2.2 hin (H.at hin hv) (g := g) hg hs hd _ hr
theorem own_ldB {p : Program} {l : Launch} {e : Env} {R : Room} {s : State} {m : MethodId} {args : Array Value} {below : List Frame} {meth : Method} {c : Code} {T : State} {locs : List Loc} {cells slots : Nat} {Z : State} {h : Heap} {a : Addr} {k : ClassId} {z : Int32} {vs : List Value} {dv : Value} {w : Int32}
    (X : Stand p l e R s m args below meth c T locs cells slots) (hx : p.tables.exec = Jvm.exec) (hZ : Z.Warmed39 s.vm) (eT : T.heap = h) (V : Arv Z h a k .byte z vs dv) {j : Int32} (hj : ¬ j < 0 ∧ j < z) (hv : vs.getD j.toNatClampNeg dv = .int w) {g : JFrame} (hg : g.method = m) {rest : List Value} (hs : g.stack = .int j :: .ref a :: rest) (hd : decode c.code g.pc = .ok (.baload, 1)) {target : State} (hr : Steps p.tables e below (T.setTop { g with pc := g.pc + 1, stack := .int w :: rest }) target) : Steps p.tables e below (T.setTop g) target := by
  obtain ⟨cl, A, q1, S, q3, H, G⟩ := V
  have hin := inb_of S hj
  exact X.baloadBytes hx (j := j) (v := .int w) (by rw [eT]; exact A.1) (State.isArrayOf_alike hZ.alike A.2.1) A.2.2 hin (H.at hin hv) (g := g) hg hs hd _ hr
theorem own_len {p : Program} {l : Launch} {e : Env} {R : Room} {s : State} {m : MethodId} {args : Array Value} {below : List Frame} {meth : Method} {c : Code} {T : State} {locs : List Loc} {cells slots : Nat} {Z : State} {h : Heap} {a : Addr} {k : ClassId} {ty : FieldType} {z : Int32} {vs : List Value} {dv : Value}
    (X : Stand p l e R s m args below meth c T locs cells slots) (hx : p.tables.exec = Jvm.exec) (hZ : Z.Warmed39 s.vm) (eT : T.heap = h) (V : Arv Z h a k ty z vs dv) {g : JFrame} (hg : g.method = m) {rest : List Value} (hs : g.stack = .ref a :: rest) (hd : decode c.code g.pc = .ok (.arraylength, 1)) {target : State} (hr : Steps p.tables e below (T.setTop { g with pc := g.pc + 1, stack := .int z :: rest }) target) : Steps p.tables e below (T.setTop g) target := by
  obtain ⟨cl, A, q1, S, q3, H, G⟩ := V
  refine X.arraylength hx (by rw [eT]; exact A.1) (State.isArrayOf_alike hZ.alike A.2.1) (g := g) hg hs hd _ ?_
  rw [len_of S q3]; exact hr
def own_lo (a b : Int64) : Int64 := if (lcmpW b a) < (0 : Int32) then b else a
def own_hi (a b : Int64) : Int64 := if (lcmpW b a) < (0 : Int32) then a else b
def QA (Z : State) (a : Addr) (k : ClassId) (vs : List Value) (h0 : Heap) (n0 : Nat) (v : Option Value) (h : Heap) (L : List Loc) : Prop := v = none ∧ Fr n0 L ∧ Keep h0 h [a] ∧ Arv Z h a k .long (4 : Int32) vs (.long (0 : Int64))
def own_le (p : Int32) (x a : Int64) : Int32 := if p = (0 : Int32) then (0 : Int32) else if (0 : Int32) < (lcmpW x a) then (0 : Int32) else (1 : Int32)
def own_get (k : Int32) (a b c d : Int64) : Int64 := if k = (0 : Int32) then a else if k = (1 : Int32) then b else if k = (2 : Int32) then c else d
def own_ia0 (w0 w1 w2 w3 ad : Int64) : Int32 := (0 : Int32)
def own_ia1 (w0 w1 w2 w3 ad : Int64) : Int32 := (if (0 : Int32) < (lcmpW w0 ad) then (0 : Int32) else (1 : Int32))
def own_ia2 (w0 w1 w2 w3 ad : Int64) : Int32 := (if (0 : Int32) < (lcmpW w1 ad) then (if (0 : Int32) < (lcmpW w0 ad) then (0 : Int32) else (1 : Int32)) else (2 : Int32))
def own_ia3 (w0 w1 w2 w3 ad : Int64) : Int32 := (if (0 : Int32) < (lcmpW w1 ad) then (if (0 : Int32) < (lcmpW w0 ad) then (0 : Int32) else (1 : Int32)) else (if (0 : Int32) < (lcmpW w2 ad) then (2 : Int32) else (3 : Int32)))
def own_ia4 (w0 w1 w2 w3 ad : Int64) : Int32 := (if (0 : Int32) < (lcmpW w2 ad) then (if (0 : Int32) < (lcmpW w1 ad) then (if (0 : Int32) < (lcmpW w0 ad) then (0 : Int32) else (1 : Int32)) else (2 : Int32)) else (if (0 : Int32) < (lcmpW w3 ad) then (3 : Int32) else (4 : Int32)))
def own_ia (ct : Int32) (w0 w1 w2 w3 ad : Int64) : Int32 := if ct = (0 : Int32) then own_ia0 w0 w1 w2 w3 ad else if ct = (1 : Int32) then own_ia1 w0 w1 w2 w3 ad else if ct = (2 : Int32) then own_ia2 w0 w1 w2 w3 ad else if ct = (3 : Int32) then own_ia3 w0 w1 w2 w3 ad else own_ia4 w0 w1 w2 w3 ad
theorem own_comp (a b : Int64) : (own_lo a b).toInt ≤ (own_hi a b).toInt ∧ ((own_lo a b = a ∧ own_hi a b = b) ∨ (own_lo a b = b ∧ own_hi a b = a)) := by
  by_cases h : (lcmpW b a) < (0 : Int32)
  · have e1 : own_lo a b = b := by unfold own_lo; rw [if_pos h]
    have e2 : own_hi a b = a := by unfold own_hi; rw [if_pos h]
    rw [lw_lt, Int64.lt_iff_toInt_lt] at h
    rw [e1, e2]; exact ⟨by omega, Or.inr ⟨rfl, rfl⟩⟩
  · have e1 : own_lo a b = a := by unfold own_lo; rw [if_neg h]
    have e2 : own_hi a b = b := by unfold own_hi; rw [if_neg h]
    rw [lw_lt, Int64.lt_iff_toInt_lt] at h
    rw [e1, e2]; exact ⟨by omega, Or.inl ⟨rfl, rfl⟩⟩
theorem own_five (x : Int32) (h : 0 ≤ x.toInt ∧ x.toInt ≤ 4) : x = (0 : Int32) ∨ x = (1 : Int32) ∨ x = (2 : Int32) ∨ x = (3 : Int32) ∨ x = (4 : Int32) := by
  have c0 : (0 : Int32).toInt = 0 := rfl
  have c1 : (1 : Int32).toInt = 1 := rfl
  have c2 : (2 : Int32).toInt = 2 := rfl
  have c3 : (3 : Int32).toInt = 3 := rfl
  have c4 : (4 : Int32).toInt = 4 := rfl
  rw [← Int32.toInt_inj, ← Int32.toInt_inj, ← Int32.toInt_inj, ← Int32.toInt_inj, ← Int32.toInt_inj]; omega
theorem own_getv (k : Int32) (a b c d : Int64) (h : 0 ≤ k.toInt ∧ k.toInt ≤ 3) : (¬ k < 0 ∧ k < (4 : Int32)) ∧ [Value.long a, .long b, .long c, .long d].getD k.toNatClampNeg (.long (0 : Int64)) = .long (own_get k a b c d) := by
  rcases own_five k (by omega) with rfl | rfl | rfl | rfl | rfl
  · exact ⟨by decide, rfl⟩
  · exact ⟨by decide, rfl⟩
  · exact ⟨by decide, rfl⟩
  · exact ⟨by decide, rfl⟩
  · exact absurd h.2 (by decide)
theorem own_law (ct : Int32) (f t0 t1 t2 t3 ad : Int64) (h : 0 ≤ ct.toInt ∧ ct.toInt ≤ 4) (s0 : t0.toInt ≤ t1.toInt) (s1 : t1.toInt ≤ t2.toInt) (s2 : t2.toInt ≤ t3.toInt) :
    own_ia ct (if (0 : Int32) < ct then t0 else f) (if (1 : Int32) < ct then t1 else f) (if (2 : Int32) < ct then t2 else f) (if (3 : Int32) < ct then t3 else f) ad =
      (((own_le (if (0 : Int32) < ct then (1 : Int32) else (0 : Int32)) t0 ad + own_le (if (1 : Int32) < ct then (1 : Int32) else (0 : Int32)) t1 ad) + own_le (if (2 : Int32) < ct then (1 : Int32) else (0 : Int32)) t2 ad) + own_le (if (3 : Int32) < ct then (1 : Int32) else (0 : Int32)) t3 ad) := by
  have g : ∀ x : Int64, (0 : Int32) < lcmpW x ad ↔ ad.toInt < x.toInt := fun x => by rw [lw_gt, Int64.lt_iff_toInt_lt]
  have d : ∀ P : Prop, (P ∨ ¬ P) := fun P => Classical.em P
  simp only [own_ia, own_le, own_ia0, own_ia1, own_ia2, own_ia3, own_ia4, g]
  rcases own_five ct h with rfl | rfl | rfl | rfl | rfl
  all_goals
    by_cases b0 : ad.toInt < t0.toInt
    · have b1 : ad.toInt < t1.toInt := by omega
      have b2 : ad.toInt < t2.toInt := by omega
      have b3 : ad.toInt < t3.toInt := by omega
      simp [b0, b1, b2, b3]
    · by_cases b1 : ad.toInt < t1.toInt
      · have b2 : ad.toInt < t2.toInt := by omega
        have b3 : ad.toInt < t3.toInt := by omega
        simp [b0, b1, b2, b3]
      · by_cases b2 : ad.toInt < t2.toInt
        · have b3 : ad.toInt < t3.toInt := by omega
          simp [b0, b1, b2, b3]
        · by_cases b3 : ad.toInt < t3.toInt
          · simp [b0, b1, b2, b3]
          · simp [b0, b1, b2, b3]
theorem d1_0 : decode method_2_code 0 = .ok (.aload_n 0, 1) := by decide +kernel
theorem d1_1 : decode method_2_code 1 = .ok (.iload_n 2, 1) := by decide +kernel
theorem d1_2 : decode method_2_code 2 = .ok (.laload, 1) := by decide +kernel
theorem d1_3 : decode method_2_code 3 = .ok (.aload_n 0, 1) := by decide +kernel
theorem d1_4 : decode method_2_code 4 = .ok (.iload_n 1, 1) := by decide +kernel
theorem d1_5 : decode method_2_code 5 = .ok (.laload, 1) := by decide +kernel
theorem d1_6 : decode method_2_code 6 = .ok (.lcmp, 1) := by decide +kernel
theorem d1_7 : decode method_2_code 7 = .ok (.ifCond .ge 17, 3) := by decide +kernel
theorem d1_10 : decode method_2_code 10 = .ok (.aload_n 0, 1) := by decide +kernel
theorem d1_11 : decode method_2_code 11 = .ok (.iload_n 1, 1) := by decide +kernel
theorem d1_12 : decode method_2_code 12 = .ok (.laload, 1) := by decide +kernel
theorem d1_13 : decode method_2_code 13 = .ok (.lstore_n 3, 1) := by decide +kernel
theorem d1_14 : decode method_2_code 14 = .ok (.aload_n 0, 1) := by decide +kernel
theorem d1_15 : decode method_2_code 15 = .ok (.iload_n 1, 1) := by decide +kernel
theorem d1_16 : decode method_2_code 16 = .ok (.aload_n 0, 1) := by decide +kernel
theorem d1_17 : decode method_2_code 17 = .ok (.iload_n 2, 1) := by decide +kernel
theorem d1_18 : decode method_2_code 18 = .ok (.laload, 1) := by decide +kernel
theorem d1_19 : decode method_2_code 19 = .ok (.lastore, 1) := by decide +kernel
theorem d1_20 : decode method_2_code 20 = .ok (.aload_n 0, 1) := by decide +kernel
theorem d1_21 : decode method_2_code 21 = .ok (.iload_n 2, 1) := by decide +kernel
theorem d1_22 : decode method_2_code 22 = .ok (.lload_n 3, 1) := by decide +kernel
theorem d1_23 : decode method_2_code 23 = .ok (.lastore, 1) := by decide +kernel
theorem d1_24 : decode method_2_code 24 = .ok (.return_, 1) := by decide +kernel
theorem pn_1 : plainName "com/example/rootline/rootline/heap/ClassObjectsIndexAbovePinLaw" = true := by first | (simp [plainName, overriddenIn]; done) | decide +kernel
theorem ef_1 (m : MethodId) (x0 : Addr) (x1 : Int32) (x2 : Int32) : entryFrame m #[(.ref x0), (.int x1), (.int x2)] 5 = mkF m 0 #[.val (.ref x0), .val (.int x1), .val (.int x2), .unset, .unset] [] := by first | (simp [entryFrame, mkF, argsToLocals, Value.category]; done) | rfl
theorem d2_0 : decode method_3_code 0 = .ok (.iload_n 0, 1) := by decide +kernel
theorem d2_1 : decode method_3_code 1 = .ok (.ifCond .eq 13, 3) := by decide +kernel
theorem d2_4 : decode method_3_code 4 = .ok (.lload_n 1, 1) := by decide +kernel
theorem d2_5 : decode method_3_code 5 = .ok (.lload_n 3, 1) := by decide +kernel
theorem d2_6 : decode method_3_code 6 = .ok (.lcmp, 1) := by decide +kernel
theorem d2_7 : decode method_3_code 7 = .ok (.ifCond .gt 7, 3) := by decide +kernel
theorem d2_10 : decode method_3_code 10 = .ok (.iconst 1, 1) := by decide +kernel
theorem d2_11 : decode method_3_code 11 = .ok (.goto 4, 3) := by decide +kernel
theorem d2_14 : decode method_3_code 14 = .ok (.iconst 0, 1) := by decide +kernel
theorem d2_15 : decode method_3_code 15 = .ok (.ireturn, 1) := by decide +kernel
theorem pn_2 : plainName "com/example/rootline/rootline/heap/ClassObjectsIndexAbovePinLaw" = true := by first | (simp [plainName, overriddenIn]; done) | decide +kernel
theorem ef_2 (m : MethodId) (x0 : Int32) (x1 : Int64) (x2 : Int64) : entryFrame m #[(.int x0), (.long x1), (.long x2)] 5 = mkF m 0 #[.val (.int x0), .val (.long x1), .second, .val (.long x2), .second] [] := by first | (simp [entryFrame, mkF, argsToLocals, Value.category]; done) | rfl
theorem d3_0 : decode prog_88_method_6_code 0 = .ok (.iconst 0, 1) := by decide +kernel
theorem d3_1 : decode prog_88_method_6_code 1 = .ok (.istore 4, 2) := by decide +kernel
theorem d3_3 : decode prog_88_method_6_code 3 = .ok (.iload_n 1, 1) := by decide +kernel
theorem d3_4 : decode prog_88_method_6_code 4 = .ok (.istore 5, 2) := by decide +kernel
theorem d3_6 : decode prog_88_method_6_code 6 = .ok (.iload 4, 2) := by decide +kernel
theorem d3_8 : decode prog_88_method_6_code 8 = .ok (.iload 5, 2) := by decide +kernel
theorem d3_10 : decode prog_88_method_6_code 10 = .ok (.if_icmp .ge 37, 3) := by decide +kernel
theorem d3_13 : decode prog_88_method_6_code 13 = .ok (.iload 4, 2) := by decide +kernel
theorem d3_15 : decode prog_88_method_6_code 15 = .ok (.iload 5, 2) := by decide +kernel
theorem d3_17 : decode prog_88_method_6_code 17 = .ok (.iadd, 1) := by decide +kernel
theorem d3_18 : decode prog_88_method_6_code 18 = .ok (.iconst 1, 1) := by decide +kernel
theorem d3_19 : decode prog_88_method_6_code 19 = .ok (.iushr, 1) := by decide +kernel
theorem d3_20 : decode prog_88_method_6_code 20 = .ok (.istore 6, 2) := by decide +kernel
theorem d3_22 : decode prog_88_method_6_code 22 = .ok (.aload_n 0, 1) := by decide +kernel
theorem d3_23 : decode prog_88_method_6_code 23 = .ok (.iload 6, 2) := by decide +kernel
theorem d3_25 : decode prog_88_method_6_code 25 = .ok (.laload, 1) := by decide +kernel
theorem d3_26 : decode prog_88_method_6_code 26 = .ok (.lload_n 2, 1) := by decide +kernel
theorem d3_27 : decode prog_88_method_6_code 27 = .ok (.lcmp, 1) := by decide +kernel
theorem d3_28 : decode prog_88_method_6_code 28 = .ok (.ifCond .gt 12, 3) := by decide +kernel
theorem d3_31 : decode prog_88_method_6_code 31 = .ok (.iload 6, 2) := by decide +kernel
theorem d3_33 : decode prog_88_method_6_code 33 = .ok (.iconst 1, 1) := by decide +kernel
theorem d3_34 : decode prog_88_method_6_code 34 = .ok (.iadd, 1) := by decide +kernel
theorem d3_35 : decode prog_88_method_6_code 35 = .ok (.istore 4, 2) := by decide +kernel
theorem d3_37 : decode prog_88_method_6_code 37 = .ok (.goto 7, 3) := by decide +kernel
theorem d3_40 : decode prog_88_method_6_code 40 = .ok (.iload 6, 2) := by decide +kernel
theorem d3_42 : decode prog_88_method_6_code 42 = .ok (.istore 5, 2) := by decide +kernel
theorem d3_44 : decode prog_88_method_6_code 44 = .ok (.goto (-38), 3) := by decide +kernel
theorem d3_47 : decode prog_88_method_6_code 47 = .ok (.iload 4, 2) := by decide +kernel
theorem d3_49 : decode prog_88_method_6_code 49 = .ok (.ireturn, 1) := by decide +kernel
theorem pn_3 : plainName "com/example/rootline/rootline/heap/ClassObjects" = true := by first | (simp [plainName, overriddenIn]; done) | decide +kernel
theorem ef_3 (m : MethodId) (x0 : Addr) (x1 : Int32) (x2 : Int64) : entryFrame m #[(.ref x0), (.int x1), (.long x2)] 7 = mkF m 0 #[.val (.ref x0), .val (.int x1), .val (.long x2), .second, .unset, .unset, .unset] [] := by first | (simp [entryFrame, mkF, argsToLocals, Value.category]; done) | rfl
theorem pn_0 : plainName "com/example/rootline/rootline/heap/ClassObjectsIndexAbovePinLaw" = true := by first | (simp [plainName, overriddenIn]; done) | decide +kernel
theorem ef_0 (m : MethodId) (x0 : Int64) (x1 : Int64) (x2 : Int64) (x3 : Int64) (x4 : Int64) (x5 : Int32) : entryFrame m #[(.long x0), (.long x1), (.long x2), (.long x3), (.long x4), (.int x5)] maxLocals = mkF m 0 #[.val (.long x0), .second, .val (.long x1), .second, .val (.long x2), .second, .val (.long x3), .second, .val (.long x4), .second, .val (.int x5), .unset, .unset, .unset, .unset, .unset, .unset, .unset, .unset, .unset, .unset] [] := by first | (simp [entryFrame, mkF, argsToLocals, Value.category, maxLocals]; done) | rfl
set_option maxRecDepth 65536 in
set_option maxHeartbeats 40000000 in
theorem rmsw_01 (l : Launch) (Z : State) (a0 : Array Value) (hw : ∀ d ∈ tables_1, d.before a0 Z = true) (ws : List Jvm.Cond) (x0 : Addr) (k0 : ClassId) (v0 v1 v2 v3 : Int64) (h0 : Heap) (n0 : Nat) (Z0 : n0 ≤ h0.size) (V_x0 : Arv Z h0 x0 k0 .long (4 : Int32) [(.long v0), (.long v1), (.long v2), (.long v3)] (.long (0 : Int64))) (g_x0 : n0 ≤ x0) :
    MetFree l (⟨"com/example/rootline/rootline/heap/ClassObjectsIndexAbovePinLaw", "sw", "([JII)V"⟩ : MethodName) (head1 (Jvm.Cond.code (⟨"com/example/rootline/rootline/heap/ClassObjectsIndexAbovePinLaw", "sw", "([JII)V"⟩ : MethodName) method_2_code 5 none :: ws) ({ frames := 0, cells := 0, slots := 0, locals := 0 } : Room)) (fun a U => a = #[(.ref x0), (.int (0 : Int32)), (.int (1 : Int32))] ∧ Z.Warmed39 U.vm ∧ U.heap = h0) (fun _ _ _ _ _ => True) (fun _ U o U' => ∃ v L, o = .returned v ∧ (QA Z x0 k0 [(.long (own_lo v0 v1)), (.long (own_hi v0 v1)), (.long v2), (.long v3)] h0 n0 v U'.heap L) ∧ FrameEnd U o U' L ({ frames := 0, cells := 0, slots := 0, locals := 0 } : Room).cells ({ frames := 0, cells := 0, slots := 0, locals := 0 } : Room).slots) := by
  refine MetFree.of_bodySF (plainFor_of_name pn_1) hisR ?_
  intro p e s m args below meth c s₁ Bd hml0 hP hK
  obtain ⟨rfl, hZ, hh⟩ := hP
  have hx := Bd.exec
  have hby := Bd.bytes
  have hml : c.maxLocals = 5 := hml0
  have hown : s.vm.findClass "com/example/rootline/rootline/heap/ClassObjectsIndexAbovePinLaw" = some m.cls := findClass_of_methodNamed Bd.named
  have hnm := (name_of_methodNamed Bd.named Bd.method).1
  have X0 : Stand p l e ({ frames := 0, cells := 0, slots := 0, locals := 0 } : Room) s m #[(.ref x0), (.int (0 : Int32)), (.int (1 : Int32))] below meth c s₁ [] 0 0 := Stand.of_body Bd
  have e0 : s₁.heap = h0 := by rw [← hh, Bd.state]; rfl
  have N0 := Fr.nil n0
  have pre0 : ∀ t, Steps p.tables e below (s₁.setTop (mkF m 0 #[.val (.ref x0), .val (.int (0 : Int32)), .val (.int (1 : Int32)), .unset, .unset] [])) t → Steps p.tables e below (s₁.setTop (entryFrame m #[(.ref x0), (.int (0 : Int32)), (.int (1 : Int32))] 5)) t := fun t k => castTop (ef_1 m x0 (0 : Int32) (1 : Int32)) k
  have K0 : Keep h0 h0 [x0] := Keep.refl h0 [x0]
  obtain ⟨m1_l3, em1_l3⟩ : ∃ z : Slot, z = (if (lcmpW v1 v0) < (0 : Int32) then (.val (.long v0)) else (.unset)) := ⟨_, rfl⟩
  obtain ⟨m1_l4, em1_l4⟩ : ∃ z : Slot, z = (if (lcmpW v1 v0) < (0 : Int32) then (.second) else (.unset)) := ⟨_, rfl⟩
  obtain ⟨m1_V_x0_0, em1_V_x0_0⟩ : ∃ z : Int64, z = (if (lcmpW v1 v0) < (0 : Int32) then v1 else v0) := ⟨_, rfl⟩
  obtain ⟨m1_V_x0_1, em1_V_x0_1⟩ : ∃ z : Int64, z = (if (lcmpW v1 v0) < (0 : Int32) then v0 else v1) := ⟨_, rfl⟩
  obtain ⟨T1, h1, L1, X1, e1, N1, keep_1, V_x0_1, st1⟩ : ∃ (T' : State) (h' : Heap) (L' : List Loc), Stand p l e ({ frames := 0, cells := 0, slots := 0, locals := 0 } : Room) s m #[(.ref x0), (.int (0 : Int32)), (.int (1 : Int32))] below meth c T' L' (0) (0) ∧ T'.heap = h' ∧ Fr n0 L' ∧ Keep h0 h' [x0] ∧ Arv Z h' x0 k0 .long (4 : Int32) [(.long m1_V_x0_0), (.long m1_V_x0_1), (.long v2), (.long v3)] (.long (0 : Int64)) ∧ ∀ target, Steps p.tables e below (T'.setTop (mkF m 24 #[.val (.ref x0), .val (.int (0 : Int32)), .val (.int (1 : Int32)), m1_l3, m1_l4] [])) target → Steps p.tables e below (s₁.setTop (mkF m 7 #[.val (.ref x0), .val (.int (0 : Int32)), .val (.int (1 : Int32)), .unset, .unset] [(.int (lcmpW v1 v0))])) target := by
    by_cases hq7 : (lcmpW v1 v0) < (0 : Int32)
    · obtain ⟨T2, h2, L2, X2, e2, N2, W2, V2, st2⟩ := own_stJ X0 hx hZ e0 V_x0 (j := (0 : Int32)) ⟨by decide, by decide⟩ (i := 0) rfl (Nat.le_of_ble_eq_true rfl) N0 g_x0 (g := (mkF m 19 #[.val (.ref x0), .val (.int (0 : Int32)), .val (.int (1 : Int32)), .val (.long v0), .second] [(.long v1), (.int (0 : Int32)), (.ref x0)])) rfl rfl (hb hby d1_19)
      have keep_3 : Keep h0 h2 [x0] := K0.wr W2 (Or.inl (List.mem_of_getElem? (i := 0) rfl))
      have siz_3 : n0 ≤ h2.size := Nat.le_trans Z0 (Keep.of_wr W2).1
      have V_x0_2 : Arv Z h2 x0 k0 .long (4 : Int32) [(.long v1), (.long v1), (.long v2), (.long v3)] (.long (0 : Int64)) := V2
      obtain ⟨T4, h4, L4, X4, e4, N4, W4, V4, st4⟩ := own_stJ X2 hx hZ e2 V_x0_2 (j := (1 : Int32)) ⟨by decide, by decide⟩ (i := 1) rfl (Nat.le_of_ble_eq_true rfl) N2 g_x0 (g := (mkF m 23 #[.val (.ref x0), .val (.int (0 : Int32)), .val (.int (1 : Int32)), .val (.long v0), .second] [(.long v0), (.int (1 : Int32)), (.ref x0)])) rfl rfl (hb hby d1_23)
      have keep_5 : Keep h0 h4 [x0] := keep_3.wr W4 (Or.inl (List.mem_of_getElem? (i := 0) rfl))
      have siz_5 : n0 ≤ h4.size := Nat.le_trans siz_3 (Keep.of_wr W4).1
      have V_x0_4 : Arv Z h4 x0 k0 .long (4 : Int32) [(.long v1), (.long v0), (.long v2), (.long v3)] (.long (0 : Int64)) := V4
      refine ⟨T4, h4, _, X4, e4, N4, keep_5, (by rw [em1_V_x0_0, if_pos hq7, em1_V_x0_1, if_pos hq7]; exact V_x0_4), fun target kt => ?_⟩
      rw [em1_l3, if_pos hq7, em1_l4, if_pos hq7] at kt
      show Steps p.tables e below (s₁.setTop (mkF m 7 #[.val (.ref x0), .val (.int (0 : Int32)), .val (.int (1 : Int32)), .unset, .unset] [(.int (lcmpW v1 v0))])) _
      refine XS.ifNo X0.here hx rfl (hb hby d1_7) rfl ((if0 _ _).trans (tlt hq7).2.1) ?_
      show Steps p.tables e below (s₁.setTop (mkF m 10 #[.val (.ref x0), .val (.int (0 : Int32)), .val (.int (1 : Int32)), .unset, .unset] [])) _
      refine XS.aloadN X0.here hx rfl (hb hby d1_10) rfl rfl ?_
      show Steps p.tables e below (s₁.setTop (mkF m 11 #[.val (.ref x0), .val (.int (0 : Int32)), .val (.int (1 : Int32)), .unset, .unset] [(.ref x0)])) _
      refine XS.iloadN X0.here hx rfl (hb hby d1_11) rfl ?_
      show Steps p.tables e below (s₁.setTop (mkF m 12 #[.val (.ref x0), .val (.int (0 : Int32)), .val (.int (1 : Int32)), .unset, .unset] [(.int (0 : Int32)), (.ref x0)])) _
      refine own_ldJ X0 hx hZ e0 V_x0 (j := (0 : Int32)) (w := v0) ⟨by decide, by decide⟩ rfl (g := (mkF m 12 #[.val (.ref x0), .val (.int (0 : Int32)), .val (.int (1 : Int32)), .unset, .unset] [(.int (0 : Int32)), (.ref x0)])) rfl rfl (hb hby d1_12) ?_
      show Steps p.tables e below (s₁.setTop (mkF m 13 #[.val (.ref x0), .val (.int (0 : Int32)), .val (.int (1 : Int32)), .unset, .unset] [(.long v0)])) _
      refine XS.lstoreN X0.here hx rfl (hb hby d1_13) rfl (l' := #[.val (.ref x0), .val (.int (0 : Int32)), .val (.int (1 : Int32)), .val (.long v0), .second]) rfl ?_
      show Steps p.tables e below (s₁.setTop (mkF m 14 #[.val (.ref x0), .val (.int (0 : Int32)), .val (.int (1 : Int32)), .val (.long v0), .second] [])) _
      refine XS.aloadN X0.here hx rfl (hb hby d1_14) rfl rfl ?_
      show Steps p.tables e below (s₁.setTop (mkF m 15 #[.val (.ref x0), .val (.int (0 : Int32)), .val (.int (1 : Int32)), .val (.long v0), .second] [(.ref x0)])) _
      refine XS.iloadN X0.here hx rfl (hb hby d1_15) rfl ?_
      show Steps p.tables e below (s₁.setTop (mkF m 16 #[.val (.ref x0), .val (.int (0 : Int32)), .val (.int (1 : Int32)), .val (.long v0), .second] [(.int (0 : Int32)), (.ref x0)])) _
      refine XS.aloadN X0.here hx rfl (hb hby d1_16) rfl rfl ?_
      show Steps p.tables e below (s₁.setTop (mkF m 17 #[.val (.ref x0), .val (.int (0 : Int32)), .val (.int (1 : Int32)), .val (.long v0), .second] [(.ref x0), (.int (0 : Int32)), (.ref x0)])) _
      refine XS.iloadN X0.here hx rfl (hb hby d1_17) rfl ?_
      show Steps p.tables e below (s₁.setTop (mkF m 18 #[.val (.ref x0), .val (.int (0 : Int32)), .val (.int (1 : Int32)), .val (.long v0), .second] [(.int (1 : Int32)), (.ref x0), (.int (0 : Int32)), (.ref x0)])) _
      refine own_ldJ X0 hx hZ e0 V_x0 (j := (1 : Int32)) (w := v1) ⟨by decide, by decide⟩ rfl (g := (mkF m 18 #[.val (.ref x0), .val (.int (0 : Int32)), .val (.int (1 : Int32)), .val (.long v0), .second] [(.int (1 : Int32)), (.ref x0), (.int (0 : Int32)), (.ref x0)])) rfl rfl (hb hby d1_18) ?_
      show Steps p.tables e below (s₁.setTop (mkF m 19 #[.val (.ref x0), .val (.int (0 : Int32)), .val (.int (1 : Int32)), .val (.long v0), .second] [(.long v1), (.int (0 : Int32)), (.ref x0)])) _
      refine st2 _ ?_
      show Steps p.tables e below (T2.setTop (mkF m 20 #[.val (.ref x0), .val (.int (0 : Int32)), .val (.int (1 : Int32)), .val (.long v0), .second] [])) _
      refine XS.aloadN X2.here hx rfl (hb hby d1_20) rfl rfl ?_
      show Steps p.tables e below (T2.setTop (mkF m 21 #[.val (.ref x0), .val (.int (0 : Int32)), .val (.int (1 : Int32)), .val (.long v0), .second] [(.ref x0)])) _
      refine XS.iloadN X2.here hx rfl (hb hby d1_21) rfl ?_
      show Steps p.tables e below (T2.setTop (mkF m 22 #[.val (.ref x0), .val (.int (0 : Int32)), .val (.int (1 : Int32)), .val (.long v0), .second] [(.int (1 : Int32)), (.ref x0)])) _
      refine XS.lloadN X2.here hx rfl (hb hby d1_22) rfl ?_
      show Steps p.tables e below (T2.setTop (mkF m 23 #[.val (.ref x0), .val (.int (0 : Int32)), .val (.int (1 : Int32)), .val (.long v0), .second] [(.long v0), (.int (1 : Int32)), (.ref x0)])) _
      refine st4 _ ?_
      exact kt
    · skip
      refine ⟨s₁, h0, _, X0, e0, N0, K0, (by rw [em1_V_x0_0, if_neg hq7, em1_V_x0_1, if_neg hq7]; exact V_x0), fun target kt => ?_⟩
      rw [em1_l3, if_neg hq7, em1_l4, if_neg hq7] at kt
      show Steps p.tables e below (s₁.setTop (mkF m 7 #[.val (.ref x0), .val (.int (0 : Int32)), .val (.int (1 : Int32)), .unset, .unset] [(.int (lcmpW v1 v0))])) _
      refine XS.ifYes X0.here hx rfl (pc0 := 7) (pc' := 24) rfl (hb hby d1_7) rfl ((if0 _ _).trans (flt hq7).2.1) (by decide) (by decide) ?_
      exact kt
  obtain ⟨fs, hr, hrun, hended, hW, hsame⟩ := X1.leave (v := none) (fun _ => rfl)
  refine ⟨_, _, pre0 _ ?_, hrun, hended, _, _, rfl, ?_, ⟨_, rfl⟩, hW, hsame.mono (by decide) (by decide)⟩
  · show Steps p.tables e below (s₁.setTop (mkF m 0 #[.val (.ref x0), .val (.int (0 : Int32)), .val (.int (1 : Int32)), .unset, .unset] [])) _
    refine XS.aloadN X0.here hx rfl (hb hby d1_0) rfl rfl ?_
    show Steps p.tables e below (s₁.setTop (mkF m 1 #[.val (.ref x0), .val (.int (0 : Int32)), .val (.int (1 : Int32)), .unset, .unset] [(.ref x0)])) _
    refine XS.iloadN X0.here hx rfl (hb hby d1_1) rfl ?_
    show Steps p.tables e below (s₁.setTop (mkF m 2 #[.val (.ref x0), .val (.int (0 : Int32)), .val (.int (1 : Int32)), .unset, .unset] [(.int (1 : Int32)), (.ref x0)])) _
    refine own_ldJ X0 hx hZ e0 V_x0 (j := (1 : Int32)) (w := v1) ⟨by decide, by decide⟩ rfl (g := (mkF m 2 #[.val (.ref x0), .val (.int (0 : Int32)), .val (.int (1 : Int32)), .unset, .unset] [(.int (1 : Int32)), (.ref x0)])) rfl rfl (hb hby d1_2) ?_
    show Steps p.tables e below (s₁.setTop (mkF m 3 #[.val (.ref x0), .val (.int (0 : Int32)), .val (.int (1 : Int32)), .unset, .unset] [(.long v1)])) _
    refine XS.aloadN X0.here hx rfl (hb hby d1_3) rfl rfl ?_
    show Steps p.tables e below (s₁.setTop (mkF m 4 #[.val (.ref x0), .val (.int (0 : Int32)), .val (.int (1 : Int32)), .unset, .unset] [(.ref x0), (.long v1)])) _
    refine XS.iloadN X0.here hx rfl (hb hby d1_4) rfl ?_
    show Steps p.tables e below (s₁.setTop (mkF m 5 #[.val (.ref x0), .val (.int (0 : Int32)), .val (.int (1 : Int32)), .unset, .unset] [(.int (0 : Int32)), (.ref x0), (.long v1)])) _
    refine own_ldJ X0 hx hZ e0 V_x0 (j := (0 : Int32)) (w := v0) ⟨by decide, by decide⟩ rfl (g := (mkF m 5 #[.val (.ref x0), .val (.int (0 : Int32)), .val (.int (1 : Int32)), .unset, .unset] [(.int (0 : Int32)), (.ref x0), (.long v1)])) rfl rfl (hb hby d1_5) ?_
    show Steps p.tables e below (s₁.setTop (mkF m 6 #[.val (.ref x0), .val (.int (0 : Int32)), .val (.int (1 : Int32)), .unset, .unset] [(.long v0), (.long v1)])) _
    refine XS.lcmp X0.here hx rfl (hb hby d1_6) rfl ?_
    show Steps p.tables e below (s₁.setTop (mkF m 7 #[.val (.ref x0), .val (.int (0 : Int32)), .val (.int (1 : Int32)), .unset, .unset] [(.int (lcmpW v1 v0))])) _
    refine st1 _ ?_
    show Steps p.tables e below (T1.setTop (mkF m 24 #[.val (.ref x0), .val (.int (0 : Int32)), .val (.int (1 : Int32)), m1_l3, m1_l4] [])) _
    exact X1.returnOut hx Bd.returns (hb hby d1_24) hr
  · exact (by
      have hlo : own_lo v0 v1 = m1_V_x0_0 := by rw [em1_V_x0_0]; rfl
      have hhi : own_hi v0 v1 = m1_V_x0_1 := by rw [em1_V_x0_1]; rfl
      rw [hlo, hhi]; exact ⟨rfl, N1, by rw [show (T1.setFrames fs).heap = h1 from e1]; exact keep_1, by rw [show (T1.setFrames fs).heap = h1 from e1]; exact V_x0_1⟩)
set_option maxRecDepth 65536 in
set_option maxHeartbeats 40000000 in
theorem rmsw_23 (l : Launch) (Z : State) (a0 : Array Value) (hw : ∀ d ∈ tables_1, d.before a0 Z = true) (ws : List Jvm.Cond) (x0 : Addr) (k0 : ClassId) (v0 v1 v2 v3 : Int64) (h0 : Heap) (n0 : Nat) (Z0 : n0 ≤ h0.size) (V_x0 : Arv Z h0 x0 k0 .long (4 : Int32) [(.long v0), (.long v1), (.long v2), (.long v3)] (.long (0 : Int64))) (g_x0 : n0 ≤ x0) :
    MetFree l (⟨"com/example/rootline/rootline/heap/ClassObjectsIndexAbovePinLaw", "sw", "([JII)V"⟩ : MethodName) (head1 (Jvm.Cond.code (⟨"com/example/rootline/rootline/heap/ClassObjectsIndexAbovePinLaw", "sw", "([JII)V"⟩ : MethodName) method_2_code 5 none :: ws) ({ frames := 0, cells := 0, slots := 0, locals := 0 } : Room)) (fun a U => a = #[(.ref x0), (.int (2 : Int32)), (.int (3 : Int32))] ∧ Z.Warmed39 U.vm ∧ U.heap = h0) (fun _ _ _ _ _ => True) (fun _ U o U' => ∃ v L, o = .returned v ∧ (QA Z x0 k0 [(.long v0), (.long v1), (.long (own_lo v2 v3)), (.long (own_hi v2 v3))] h0 n0 v U'.heap L) ∧ FrameEnd U o U' L ({ frames := 0, cells := 0, slots := 0, locals := 0 } : Room).cells ({ frames := 0, cells := 0, slots := 0, locals := 0 } : Room).slots) := by
  refine MetFree.of_bodySF (plainFor_of_name pn_1) hisR ?_
  intro p e s m args below meth c s₁ Bd hml0 hP hK
  obtain ⟨rfl, hZ, hh⟩ := hP
  have hx := Bd.exec
  have hby := Bd.bytes
  have hml : c.maxLocals = 5 := hml0
  have hown : s.vm.findClass "com/example/rootline/rootline/heap/ClassObjectsIndexAbovePinLaw" = some m.cls := findClass_of_methodNamed Bd.named
  have hnm := (name_of_methodNamed Bd.named Bd.method).1
  have X0 : Stand p l e ({ frames := 0, cells := 0, slots := 0, locals := 0 } : Room) s m #[(.ref x0), (.int (2 : Int32)), (.int (3 : Int32))] below meth c s₁ [] 0 0 := Stand.of_body Bd
  have e0 : s₁.heap = h0 := by rw [← hh, Bd.state]; rfl
  have N0 := Fr.nil n0
  have pre0 : ∀ t, Steps p.tables e below (s₁.setTop (mkF m 0 #[.val (.ref x0), .val (.int (2 : Int32)), .val (.int (3 : Int32)), .unset, .unset] [])) t → Steps p.tables e below (s₁.setTop (entryFrame m #[(.ref x0), (.int (2 : Int32)), (.int (3 : Int32))] 5)) t := fun t k => castTop (ef_1 m x0 (2 : Int32) (3 : Int32)) k
  have K0 : Keep h0 h0 [x0] := Keep.refl h0 [x0]
  obtain ⟨m1_l3, em1_l3⟩ : ∃ z : Slot, z = (if (lcmpW v3 v2) < (0 : Int32) then (.val (.long v2)) else (.unset)) := ⟨_, rfl⟩
  obtain ⟨m1_l4, em1_l4⟩ : ∃ z : Slot, z = (if (lcmpW v3 v2) < (0 : Int32) then (.second) else (.unset)) := ⟨_, rfl⟩
  obtain ⟨m1_V_x0_2, em1_V_x0_2⟩ : ∃ z : Int64, z = (if (lcmpW v3 v2) < (0 : Int32) then v3 else v2) := ⟨_, rfl⟩
  obtain ⟨m1_V_x0_3, em1_V_x0_3⟩ : ∃ z : Int64, z = (if (lcmpW v3 v2) < (0 : Int32) then v2 else v3) := ⟨_, rfl⟩
  obtain ⟨T1, h1, L1, X1, e1, N1, keep_1, V_x0_1, st1⟩ : ∃ (T' : State) (h' : Heap) (L' : List Loc), Stand p l e ({ frames := 0, cells := 0, slots := 0, locals := 0 } : Room) s m #[(.ref x0), (.int (2 : Int32)), (.int (3 : Int32))] below meth c T' L' (0) (0) ∧ T'.heap = h' ∧ Fr n0 L' ∧ Keep h0 h' [x0] ∧ Arv Z h' x0 k0 .long (4 : Int32) [(.long v0), (.long v1), (.long m1_V_x0_2), (.long m1_V_x0_3)] (.long (0 : Int64)) ∧ ∀ target, Steps p.tables e below (T'.setTop (mkF m 24 #[.val (.ref x0), .val (.int (2 : Int32)), .val (.int (3 : Int32)), m1_l3, m1_l4] [])) target → Steps p.tables e below (s₁.setTop (mkF m 7 #[.val (.ref x0), .val (.int (2 : Int32)), .val (.int (3 : Int32)), .unset, .unset] [(.int (lcmpW v3 v2))])) target := by
    by_cases hq7 : (lcmpW v3 v2) < (0 : Int32)
    · obtain ⟨T2, h2, L2, X2, e2, N2, W2, V2, st2⟩ := own_stJ X0 hx hZ e0 V_x0 (j := (2 : Int32)) ⟨by decide, by decide⟩ (i := 2) rfl (Nat.le_of_ble_eq_true rfl) N0 g_x0 (g := (mkF m 19 #[.val (.ref x0), .val (.int (2 : Int32)), .val (.int (3 : Int32)), .val (.long v2), .second] [(.long v3), (.int (2 : Int32)), (.ref x0)])) rfl rfl (hb hby d1_19)
      have keep_3 : Keep h0 h2 [x0] := K0.wr W2 (Or.inl (List.mem_of_getElem? (i := 0) rfl))
      have siz_3 : n0 ≤ h2.size := Nat.le_trans Z0 (Keep.of_wr W2).1
      have V_x0_2 : Arv Z h2 x0 k0 .long (4 : Int32) [(.long v0), (.long v1), (.long v3), (.long v3)] (.long (0 : Int64)) := V2
      obtain ⟨T4, h4, L4, X4, e4, N4, W4, V4, st4⟩ := own_stJ X2 hx hZ e2 V_x0_2 (j := (3 : Int32)) ⟨by decide, by decide⟩ (i := 3) rfl (Nat.le_of_ble_eq_true rfl) N2 g_x0 (g := (mkF m 23 #[.val (.ref x0), .val (.int (2 : Int32)), .val (.int (3 : Int32)), .val (.long v2), .second] [(.long v2), (.int (3 : Int32)), (.ref x0)])) rfl rfl (hb hby d1_23)
      have keep_5 : Keep h0 h4 [x0] := keep_3.wr W4 (Or.inl (List.mem_of_getElem? (i := 0) rfl))
      have siz_5 : n0 ≤ h4.size := Nat.le_trans siz_3 (Keep.of_wr W4).1
      have V_x0_4 : Arv Z h4 x0 k0 .long (4 : Int32) [(.long v0), (.long v1), (.long v3), (.long v2)] (.long (0 : Int64)) := V4
      refine ⟨T4, h4, _, X4, e4, N4, keep_5, (by rw [em1_V_x0_2, if_pos hq7, em1_V_x0_3, if_pos hq7]; exact V_x0_4), fun target kt => ?_⟩
      rw [em1_l3, if_pos hq7, em1_l4, if_pos hq7] at kt
      show Steps p.tables e below (s₁.setTop (mkF m 7 #[.val (.ref x0), .val (.int (2 : Int32)), .val (.int (3 : Int32)), .unset, .unset] [(.int (lcmpW v3 v2))])) _
      refine XS.ifNo X0.here hx rfl (hb hby d1_7) rfl ((if0 _ _).trans (tlt hq7).2.1) ?_
      show Steps p.tables e below (s₁.setTop (mkF m 10 #[.val (.ref x0), .val (.int (2 : Int32)), .val (.int (3 : Int32)), .unset, .unset] [])) _
      refine XS.aloadN X0.here hx rfl (hb hby d1_10) rfl rfl ?_
      show Steps p.tables e below (s₁.setTop (mkF m 11 #[.val (.ref x0), .val (.int (2 : Int32)), .val (.int (3 : Int32)), .unset, .unset] [(.ref x0)])) _
      refine XS.iloadN X0.here hx rfl (hb hby d1_11) rfl ?_
      show Steps p.tables e below (s₁.setTop (mkF m 12 #[.val (.ref x0), .val (.int (2 : Int32)), .val (.int (3 : Int32)), .unset, .unset] [(.int (2 : Int32)), (.ref x0)])) _
      refine own_ldJ X0 hx hZ e0 V_x0 (j := (2 : Int32)) (w := v2) ⟨by decide, by decide⟩ rfl (g := (mkF m 12 #[.val (.ref x0), .val (.int (2 : Int32)), .val (.int (3 : Int32)), .unset, .unset] [(.int (2 : Int32)), (.ref x0)])) rfl rfl (hb hby d1_12) ?_
      show Steps p.tables e below (s₁.setTop (mkF m 13 #[.val (.ref x0), .val (.int (2 : Int32)), .val (.int (3 : Int32)), .unset, .unset] [(.long v2)])) _
      refine XS.lstoreN X0.here hx rfl (hb hby d1_13) rfl (l' := #[.val (.ref x0), .val (.int (2 : Int32)), .val (.int (3 : Int32)), .val (.long v2), .second]) rfl ?_
      show Steps p.tables e below (s₁.setTop (mkF m 14 #[.val (.ref x0), .val (.int (2 : Int32)), .val (.int (3 : Int32)), .val (.long v2), .second] [])) _
      refine XS.aloadN X0.here hx rfl (hb hby d1_14) rfl rfl ?_
      show Steps p.tables e below (s₁.setTop (mkF m 15 #[.val (.ref x0), .val (.int (2 : Int32)), .val (.int (3 : Int32)), .val (.long v2), .second] [(.ref x0)])) _
      refine XS.iloadN X0.here hx rfl (hb hby d1_15) rfl ?_
      show Steps p.tables e below (s₁.setTop (mkF m 16 #[.val (.ref x0), .val (.int (2 : Int32)), .val (.int (3 : Int32)), .val (.long v2), .second] [(.int (2 : Int32)), (.ref x0)])) _
      refine XS.aloadN X0.here hx rfl (hb hby d1_16) rfl rfl ?_
      show Steps p.tables e below (s₁.setTop (mkF m 17 #[.val (.ref x0), .val (.int (2 : Int32)), .val (.int (3 : Int32)), .val (.long v2), .second] [(.ref x0), (.int (2 : Int32)), (.ref x0)])) _
      refine XS.iloadN X0.here hx rfl (hb hby d1_17) rfl ?_
      show Steps p.tables e below (s₁.setTop (mkF m 18 #[.val (.ref x0), .val (.int (2 : Int32)), .val (.int (3 : Int32)), .val (.long v2), .second] [(.int (3 : Int32)), (.ref x0), (.int (2 : Int32)), (.ref x0)])) _
      refine own_ldJ X0 hx hZ e0 V_x0 (j := (3 : Int32)) (w := v3) ⟨by decide, by decide⟩ rfl (g := (mkF m 18 #[.val (.ref x0), .val (.int (2 : Int32)), .val (.int (3 : Int32)), .val (.long v2), .second] [(.int (3 : Int32)), (.ref x0), (.int (2 : Int32)), (.ref x0)])) rfl rfl (hb hby d1_18) ?_
      show Steps p.tables e below (s₁.setTop (mkF m 19 #[.val (.ref x0), .val (.int (2 : Int32)), .val (.int (3 : Int32)), .val (.long v2), .second] [(.long v3), (.int (2 : Int32)), (.ref x0)])) _
      refine st2 _ ?_
      show Steps p.tables e below (T2.setTop (mkF m 20 #[.val (.ref x0), .val (.int (2 : Int32)), .val (.int (3 : Int32)), .val (.long v2), .second] [])) _
      refine XS.aloadN X2.here hx rfl (hb hby d1_20) rfl rfl ?_
      show Steps p.tables e below (T2.setTop (mkF m 21 #[.val (.ref x0), .val (.int (2 : Int32)), .val (.int (3 : Int32)), .val (.long v2), .second] [(.ref x0)])) _
      refine XS.iloadN X2.here hx rfl (hb hby d1_21) rfl ?_
      show Steps p.tables e below (T2.setTop (mkF m 22 #[.val (.ref x0), .val (.int (2 : Int32)), .val (.int (3 : Int32)), .val (.long v2), .second] [(.int (3 : Int32)), (.ref x0)])) _
      refine XS.lloadN X2.here hx rfl (hb hby d1_22) rfl ?_
      show Steps p.tables e below (T2.setTop (mkF m 23 #[.val (.ref x0), .val (.int (2 : Int32)), .val (.int (3 : Int32)), .val (.long v2), .second] [(.long v2), (.int (3 : Int32)), (.ref x0)])) _
      refine st4 _ ?_
      exact kt
    · skip
      refine ⟨s₁, h0, _, X0, e0, N0, K0, (by rw [em1_V_x0_2, if_neg hq7, em1_V_x0_3, if_neg hq7]; exact V_x0), fun target kt => ?_⟩
      rw [em1_l3, if_neg hq7, em1_l4, if_neg hq7] at kt
      show Steps p.tables e below (s₁.setTop (mkF m 7 #[.val (.ref x0), .val (.int (2 : Int32)), .val (.int (3 : Int32)), .unset, .unset] [(.int (lcmpW v3 v2))])) _
      refine XS.ifYes X0.here hx rfl (pc0 := 7) (pc' := 24) rfl (hb hby d1_7) rfl ((if0 _ _).trans (flt hq7).2.1) (by decide) (by decide) ?_
      exact kt
  obtain ⟨fs, hr, hrun, hended, hW, hsame⟩ := X1.leave (v := none) (fun _ => rfl)
  refine ⟨_, _, pre0 _ ?_, hrun, hended, _, _, rfl, ?_, ⟨_, rfl⟩, hW, hsame.mono (by decide) (by decide)⟩
  · show Steps p.tables e below (s₁.setTop (mkF m 0 #[.val (.ref x0), .val (.int (2 : Int32)), .val (.int (3 : Int32)), .unset, .unset] [])) _
    refine XS.aloadN X0.here hx rfl (hb hby d1_0) rfl rfl ?_
    show Steps p.tables e below (s₁.setTop (mkF m 1 #[.val (.ref x0), .val (.int (2 : Int32)), .val (.int (3 : Int32)), .unset, .unset] [(.ref x0)])) _
    refine XS.iloadN X0.here hx rfl (hb hby d1_1) rfl ?_
    show Steps p.tables e below (s₁.setTop (mkF m 2 #[.val (.ref x0), .val (.int (2 : Int32)), .val (.int (3 : Int32)), .unset, .unset] [(.int (3 : Int32)), (.ref x0)])) _
    refine own_ldJ X0 hx hZ e0 V_x0 (j := (3 : Int32)) (w := v3) ⟨by decide, by decide⟩ rfl (g := (mkF m 2 #[.val (.ref x0), .val (.int (2 : Int32)), .val (.int (3 : Int32)), .unset, .unset] [(.int (3 : Int32)), (.ref x0)])) rfl rfl (hb hby d1_2) ?_
    show Steps p.tables e below (s₁.setTop (mkF m 3 #[.val (.ref x0), .val (.int (2 : Int32)), .val (.int (3 : Int32)), .unset, .unset] [(.long v3)])) _
    refine XS.aloadN X0.here hx rfl (hb hby d1_3) rfl rfl ?_
    show Steps p.tables e below (s₁.setTop (mkF m 4 #[.val (.ref x0), .val (.int (2 : Int32)), .val (.int (3 : Int32)), .unset, .unset] [(.ref x0), (.long v3)])) _
    refine XS.iloadN X0.here hx rfl (hb hby d1_4) rfl ?_
    show Steps p.tables e below (s₁.setTop (mkF m 5 #[.val (.ref x0), .val (.int (2 : Int32)), .val (.int (3 : Int32)), .unset, .unset] [(.int (2 : Int32)), (.ref x0), (.long v3)])) _
    refine own_ldJ X0 hx hZ e0 V_x0 (j := (2 : Int32)) (w := v2) ⟨by decide, by decide⟩ rfl (g := (mkF m 5 #[.val (.ref x0), .val (.int (2 : Int32)), .val (.int (3 : Int32)), .unset, .unset] [(.int (2 : Int32)), (.ref x0), (.long v3)])) rfl rfl (hb hby d1_5) ?_
    show Steps p.tables e below (s₁.setTop (mkF m 6 #[.val (.ref x0), .val (.int (2 : Int32)), .val (.int (3 : Int32)), .unset, .unset] [(.long v2), (.long v3)])) _
    refine XS.lcmp X0.here hx rfl (hb hby d1_6) rfl ?_
    show Steps p.tables e below (s₁.setTop (mkF m 7 #[.val (.ref x0), .val (.int (2 : Int32)), .val (.int (3 : Int32)), .unset, .unset] [(.int (lcmpW v3 v2))])) _
    refine st1 _ ?_
    show Steps p.tables e below (T1.setTop (mkF m 24 #[.val (.ref x0), .val (.int (2 : Int32)), .val (.int (3 : Int32)), m1_l3, m1_l4] [])) _
    exact X1.returnOut hx Bd.returns (hb hby d1_24) hr
  · exact (by
      have hlo : own_lo v2 v3 = m1_V_x0_2 := by rw [em1_V_x0_2]; rfl
      have hhi : own_hi v2 v3 = m1_V_x0_3 := by rw [em1_V_x0_3]; rfl
      rw [hlo, hhi]; exact ⟨rfl, N1, by rw [show (T1.setFrames fs).heap = h1 from e1]; exact keep_1, by rw [show (T1.setFrames fs).heap = h1 from e1]; exact V_x0_1⟩)
set_option maxRecDepth 65536 in
set_option maxHeartbeats 40000000 in
theorem rmsw_02 (l : Launch) (Z : State) (a0 : Array Value) (hw : ∀ d ∈ tables_1, d.before a0 Z = true) (ws : List Jvm.Cond) (x0 : Addr) (k0 : ClassId) (v0 v1 v2 v3 : Int64) (h0 : Heap) (n0 : Nat) (Z0 : n0 ≤ h0.size) (V_x0 : Arv Z h0 x0 k0 .long (4 : Int32) [(.long v0), (.long v1), (.long v2), (.long v3)] (.long (0 : Int64))) (g_x0 : n0 ≤ x0) :
    MetFree l (⟨"com/example/rootline/rootline/heap/ClassObjectsIndexAbovePinLaw", "sw", "([JII)V"⟩ : MethodName) (head1 (Jvm.Cond.code (⟨"com/example/rootline/rootline/heap/ClassObjectsIndexAbovePinLaw", "sw", "([JII)V"⟩ : MethodName) method_2_code 5 none :: ws) ({ frames := 0, cells := 0, slots := 0, locals := 0 } : Room)) (fun a U => a = #[(.ref x0), (.int (0 : Int32)), (.int (2 : Int32))] ∧ Z.Warmed39 U.vm ∧ U.heap = h0) (fun _ _ _ _ _ => True) (fun _ U o U' => ∃ v L, o = .returned v ∧ (QA Z x0 k0 [(.long (own_lo v0 v2)), (.long v1), (.long (own_hi v0 v2)), (.long v3)] h0 n0 v U'.heap L) ∧ FrameEnd U o U' L ({ frames := 0, cells := 0, slots := 0, locals := 0 } : Room).cells ({ frames := 0, cells := 0, slots := 0, locals := 0 } : Room).slots) := by
  refine MetFree.of_bodySF (plainFor_of_name pn_1) hisR ?_
  intro p e s m args below meth c s₁ Bd hml0 hP hK
  obtain ⟨rfl, hZ, hh⟩ := hP
  have hx := Bd.exec
  have hby := Bd.bytes
  have hml : c.maxLocals = 5 := hml0
  have hown : s.vm.findClass "com/example/rootline/rootline/heap/ClassObjectsIndexAbovePinLaw" = some m.cls := findClass_of_methodNamed Bd.named
  have hnm := (name_of_methodNamed Bd.named Bd.method).1
  have X0 : Stand p l e ({ frames := 0, cells := 0, slots := 0, locals := 0 } : Room) s m #[(.ref x0), (.int (0 : Int32)), (.int (2 : Int32))] below meth c s₁ [] 0 0 := Stand.of_body Bd
  have e0 : s₁.heap = h0 := by rw [← hh, Bd.state]; rfl
  have N0 := Fr.nil n0
  have pre0 : ∀ t, Steps p.tables e below (s₁.setTop (mkF m 0 #[.val (.ref x0), .val (.int (0 : Int32)), .val (.int (2 : Int32)), .unset, .unset] [])) t → Steps p.tables e below (s₁.setTop (entryFrame m #[(.ref x0), (.int (0 : Int32)), (.int (2 : Int32))] 5)) t := fun t k => castTop (ef_1 m x0 (0 : Int32) (2 : Int32)) k
  have K0 : Keep h0 h0 [x0] := Keep.refl h0 [x0]
  obtain ⟨m1_l3, em1_l3⟩ : ∃ z : Slot, z = (if (lcmpW v2 v0) < (0 : Int32) then (.val (.long v0)) else (.unset)) := ⟨_, rfl⟩
  obtain ⟨m1_l4, em1_l4⟩ : ∃ z : Slot, z = (if (lcmpW v2 v0) < (0 : Int32) then (.second) else (.unset)) := ⟨_, rfl⟩
  obtain ⟨m1_V_x0_0, em1_V_x0_0⟩ : ∃ z : Int64, z = (if (lcmpW v2 v0) < (0 : Int32) then v2 else v0) := ⟨_, rfl⟩
  obtain ⟨m1_V_x0_2, em1_V_x0_2⟩ : ∃ z : Int64, z = (if (lcmpW v2 v0) < (0 : Int32) then v0 else v2) := ⟨_, rfl⟩
  obtain ⟨T1, h1, L1, X1, e1, N1, keep_1, V_x0_1, st1⟩ : ∃ (T' : State) (h' : Heap) (L' : List Loc), Stand p l e ({ frames := 0, cells := 0, slots := 0, locals := 0 } : Room) s m #[(.ref x0), (.int (0 : Int32)), (.int (2 : Int32))] below meth c T' L' (0) (0) ∧ T'.heap = h' ∧ Fr n0 L' ∧ Keep h0 h' [x0] ∧ Arv Z h' x0 k0 .long (4 : Int32) [(.long m1_V_x0_0), (.long v1), (.long m1_V_x0_2), (.long v3)] (.long (0 : Int64)) ∧ ∀ target, Steps p.tables e below (T'.setTop (mkF m 24 #[.val (.ref x0), .val (.int (0 : Int32)), .val (.int (2 : Int32)), m1_l3, m1_l4] [])) target → Steps p.tables e below (s₁.setTop (mkF m 7 #[.val (.ref x0), .val (.int (0 : Int32)), .val (.int (2 : Int32)), .unset, .unset] [(.int (lcmpW v2 v0))])) target := by
    by_cases hq7 : (lcmpW v2 v0) < (0 : Int32)
    · obtain ⟨T2, h2, L2, X2, e2, N2, W2, V2, st2⟩ := own_stJ X0 hx hZ e0 V_x0 (j := (0 : Int32)) ⟨by decide, by decide⟩ (i := 0) rfl (Nat.le_of_ble_eq_true rfl) N0 g_x0 (g := (mkF m 19 #[.val (.ref x0), .val (.int (0 : Int32)), .val (.int (2 : Int32)), .val (.long v0), .second] [(.long v2), (.int (0 : Int32)), (.ref x0)])) rfl rfl (hb hby d1_19)
      have keep_3 : Keep h0 h2 [x0] := K0.wr W2 (Or.inl (List.mem_of_getElem? (i := 0) rfl))
      have siz_3 : n0 ≤ h2.size := Nat.le_trans Z0 (Keep.of_wr W2).1
      have V_x0_2 : Arv Z h2 x0 k0 .long (4 : Int32) [(.long v2), (.long v1), (.long v2), (.long v3)] (.long (0 : Int64)) := V2
      obtain ⟨T4, h4, L4, X4, e4, N4, W4, V4, st4⟩ := own_stJ X2 hx hZ e2 V_x0_2 (j := (2 : Int32)) ⟨by decide, by decide⟩ (i := 2) rfl (Nat.le_of_ble_eq_true rfl) N2 g_x0 (g := (mkF m 23 #[.val (.ref x0), .val (.int (0 : Int32)), .val (.int (2 : Int32)), .val (.long v0), .second] [(.long v0), (.int (2 : Int32)), (.ref x0)])) rfl rfl (hb hby d1_23)
      have keep_5 : Keep h0 h4 [x0] := keep_3.wr W4 (Or.inl (List.mem_of_getElem? (i := 0) rfl))
      have siz_5 : n0 ≤ h4.size := Nat.le_trans siz_3 (Keep.of_wr W4).1
      have V_x0_4 : Arv Z h4 x0 k0 .long (4 : Int32) [(.long v2), (.long v1), (.long v0), (.long v3)] (.long (0 : Int64)) := V4
      refine ⟨T4, h4, _, X4, e4, N4, keep_5, (by rw [em1_V_x0_0, if_pos hq7, em1_V_x0_2, if_pos hq7]; exact V_x0_4), fun target kt => ?_⟩
      rw [em1_l3, if_pos hq7, em1_l4, if_pos hq7] at kt
      show Steps p.tables e below (s₁.setTop (mkF m 7 #[.val (.ref x0), .val (.int (0 : Int32)), .val (.int (2 : Int32)), .unset, .unset] [(.int (lcmpW v2 v0))])) _
      refine XS.ifNo X0.here hx rfl (hb hby d1_7) rfl ((if0 _ _).trans (tlt hq7).2.1) ?_
      show Steps p.tables e below (s₁.setTop (mkF m 10 #[.val (.ref x0), .val (.int (0 : Int32)), .val (.int (2 : Int32)), .unset, .unset] [])) _
      refine XS.aloadN X0.here hx rfl (hb hby d1_10) rfl rfl ?_
      show Steps p.tables e below (s₁.setTop (mkF m 11 #[.val (.ref x0), .val (.int (0 : Int32)), .val (.int (2 : Int32)), .unset, .unset] [(.ref x0)])) _
      refine XS.iloadN X0.here hx rfl (hb hby d1_11) rfl ?_
      show Steps p.tables e below (s₁.setTop (mkF m 12 #[.val (.ref x0), .val (.int (0 : Int32)), .val (.int (2 : Int32)), .unset, .unset] [(.int (0 : Int32)), (.ref x0)])) _
      refine own_ldJ X0 hx hZ e0 V_x0 (j := (0 : Int32)) (w := v0) ⟨by decide, by decide⟩ rfl (g := (mkF m 12 #[.val (.ref x0), .val (.int (0 : Int32)), .val (.int (2 : Int32)), .unset, .unset] [(.int (0 : Int32)), (.ref x0)])) rfl rfl (hb hby d1_12) ?_
      show Steps p.tables e below (s₁.setTop (mkF m 13 #[.val (.ref x0), .val (.int (0 : Int32)), .val (.int (2 : Int32)), .unset, .unset] [(.long v0)])) _
      refine XS.lstoreN X0.here hx rfl (hb hby d1_13) rfl (l' := #[.val (.ref x0), .val (.int (0 : Int32)), .val (.int (2 : Int32)), .val (.long v0), .second]) rfl ?_
      show Steps p.tables e below (s₁.setTop (mkF m 14 #[.val (.ref x0), .val (.int (0 : Int32)), .val (.int (2 : Int32)), .val (.long v0), .second] [])) _
      refine XS.aloadN X0.here hx rfl (hb hby d1_14) rfl rfl ?_
      show Steps p.tables e below (s₁.setTop (mkF m 15 #[.val (.ref x0), .val (.int (0 : Int32)), .val (.int (2 : Int32)), .val (.long v0), .second] [(.ref x0)])) _
      refine XS.iloadN X0.here hx rfl (hb hby d1_15) rfl ?_
      show Steps p.tables e below (s₁.setTop (mkF m 16 #[.val (.ref x0), .val (.int (0 : Int32)), .val (.int (2 : Int32)), .val (.long v0), .second] [(.int (0 : Int32)), (.ref x0)])) _
      refine XS.aloadN X0.here hx rfl (hb hby d1_16) rfl rfl ?_
      show Steps p.tables e below (s₁.setTop (mkF m 17 #[.val (.ref x0), .val (.int (0 : Int32)), .val (.int (2 : Int32)), .val (.long v0), .second] [(.ref x0), (.int (0 : Int32)), (.ref x0)])) _
      refine XS.iloadN X0.here hx rfl (hb hby d1_17) rfl ?_
      show Steps p.tables e below (s₁.setTop (mkF m 18 #[.val (.ref x0), .val (.int (0 : Int32)), .val (.int (2 : Int32)), .val (.long v0), .second] [(.int (2 : Int32)), (.ref x0), (.int (0 : Int32)), (.ref x0)])) _
      refine own_ldJ X0 hx hZ e0 V_x0 (j := (2 : Int32)) (w := v2) ⟨by decide, by decide⟩ rfl (g := (mkF m 18 #[.val (.ref x0), .val (.int (0 : Int32)), .val (.int (2 : Int32)), .val (.long v0), .second] [(.int (2 : Int32)), (.ref x0), (.int (0 : Int32)), (.ref x0)])) rfl rfl (hb hby d1_18) ?_
      show Steps p.tables e below (s₁.setTop (mkF m 19 #[.val (.ref x0), .val (.int (0 : Int32)), .val (.int (2 : Int32)), .val (.long v0), .second] [(.long v2), (.int (0 : Int32)), (.ref x0)])) _
      refine st2 _ ?_
      show Steps p.tables e below (T2.setTop (mkF m 20 #[.val (.ref x0), .val (.int (0 : Int32)), .val (.int (2 : Int32)), .val (.long v0), .second] [])) _
      refine XS.aloadN X2.here hx rfl (hb hby d1_20) rfl rfl ?_
      show Steps p.tables e below (T2.setTop (mkF m 21 #[.val (.ref x0), .val (.int (0 : Int32)), .val (.int (2 : Int32)), .val (.long v0), .second] [(.ref x0)])) _
      refine XS.iloadN X2.here hx rfl (hb hby d1_21) rfl ?_
      show Steps p.tables e below (T2.setTop (mkF m 22 #[.val (.ref x0), .val (.int (0 : Int32)), .val (.int (2 : Int32)), .val (.long v0), .second] [(.int (2 : Int32)), (.ref x0)])) _
      refine XS.lloadN X2.here hx rfl (hb hby d1_22) rfl ?_
      show Steps p.tables e below (T2.setTop (mkF m 23 #[.val (.ref x0), .val (.int (0 : Int32)), .val (.int (2 : Int32)), .val (.long v0), .second] [(.long v0), (.int (2 : Int32)), (.ref x0)])) _
      refine st4 _ ?_
      exact kt
    · skip
      refine ⟨s₁, h0, _, X0, e0, N0, K0, (by rw [em1_V_x0_0, if_neg hq7, em1_V_x0_2, if_neg hq7]; exact V_x0), fun target kt => ?_⟩
      rw [em1_l3, if_neg hq7, em1_l4, if_neg hq7] at kt
      show Steps p.tables e below (s₁.setTop (mkF m 7 #[.val (.ref x0), .val (.int (0 : Int32)), .val (.int (2 : Int32)), .unset, .unset] [(.int (lcmpW v2 v0))])) _
      refine XS.ifYes X0.here hx rfl (pc0 := 7) (pc' := 24) rfl (hb hby d1_7) rfl ((if0 _ _).trans (flt hq7).2.1) (by decide) (by decide) ?_
      exact kt
  obtain ⟨fs, hr, hrun, hended, hW, hsame⟩ := X1.leave (v := none) (fun _ => rfl)
  refine ⟨_, _, pre0 _ ?_, hrun, hended, _, _, rfl, ?_, ⟨_, rfl⟩, hW, hsame.mono (by decide) (by decide)⟩
  · show Steps p.tables e below (s₁.setTop (mkF m 0 #[.val (.ref x0), .val (.int (0 : Int32)), .val (.int (2 : Int32)), .unset, .unset] [])) _
    refine XS.aloadN X0.here hx rfl (hb hby d1_0) rfl rfl ?_
    show Steps p.tables e below (s₁.setTop (mkF m 1 #[.val (.ref x0), .val (.int (0 : Int32)), .val (.int (2 : Int32)), .unset, .unset] [(.ref x0)])) _
    refine XS.iloadN X0.here hx rfl (hb hby d1_1) rfl ?_
    show Steps p.tables e below (s₁.setTop (mkF m 2 #[.val (.ref x0), .val (.int (0 : Int32)), .val (.int (2 : Int32)), .unset, .unset] [(.int (2 : Int32)), (.ref x0)])) _
    refine own_ldJ X0 hx hZ e0 V_x0 (j := (2 : Int32)) (w := v2) ⟨by decide, by decide⟩ rfl (g := (mkF m 2 #[.val (.ref x0), .val (.int (0 : Int32)), .val (.int (2 : Int32)), .unset, .unset] [(.int (2 : Int32)), (.ref x0)])) rfl rfl (hb hby d1_2) ?_
    show Steps p.tables e below (s₁.setTop (mkF m 3 #[.val (.ref x0), .val (.int (0 : Int32)), .val (.int (2 : Int32)), .unset, .unset] [(.long v2)])) _
    refine XS.aloadN X0.here hx rfl (hb hby d1_3) rfl rfl ?_
    show Steps p.tables e below (s₁.setTop (mkF m 4 #[.val (.ref x0), .val (.int (0 : Int32)), .val (.int (2 : Int32)), .unset, .unset] [(.ref x0), (.long v2)])) _
    refine XS.iloadN X0.here hx rfl (hb hby d1_4) rfl ?_
    show Steps p.tables e below (s₁.setTop (mkF m 5 #[.val (.ref x0), .val (.int (0 : Int32)), .val (.int (2 : Int32)), .unset, .unset] [(.int (0 : Int32)), (.ref x0), (.long v2)])) _
    refine own_ldJ X0 hx hZ e0 V_x0 (j := (0 : Int32)) (w := v0) ⟨by decide, by decide⟩ rfl (g := (mkF m 5 #[.val (.ref x0), .val (.int (0 : Int32)), .val (.int (2 : Int32)), .unset, .unset] [(.int (0 : Int32)), (.ref x0), (.long v2)])) rfl rfl (hb hby d1_5) ?_
    show Steps p.tables e below (s₁.setTop (mkF m 6 #[.val (.ref x0), .val (.int (0 : Int32)), .val (.int (2 : Int32)), .unset, .unset] [(.long v0), (.long v2)])) _
    refine XS.lcmp X0.here hx rfl (hb hby d1_6) rfl ?_
    show Steps p.tables e below (s₁.setTop (mkF m 7 #[.val (.ref x0), .val (.int (0 : Int32)), .val (.int (2 : Int32)), .unset, .unset] [(.int (lcmpW v2 v0))])) _
    refine st1 _ ?_
    show Steps p.tables e below (T1.setTop (mkF m 24 #[.val (.ref x0), .val (.int (0 : Int32)), .val (.int (2 : Int32)), m1_l3, m1_l4] [])) _
    exact X1.returnOut hx Bd.returns (hb hby d1_24) hr
  · exact (by
      have hlo : own_lo v0 v2 = m1_V_x0_0 := by rw [em1_V_x0_0]; rfl
      have hhi : own_hi v0 v2 = m1_V_x0_2 := by rw [em1_V_x0_2]; rfl
      rw [hlo, hhi]; exact ⟨rfl, N1, by rw [show (T1.setFrames fs).heap = h1 from e1]; exact keep_1, by rw [show (T1.setFrames fs).heap = h1 from e1]; exact V_x0_1⟩)
set_option maxRecDepth 65536 in
set_option maxHeartbeats 40000000 in
theorem rmsw_13 (l : Launch) (Z : State) (a0 : Array Value) (hw : ∀ d ∈ tables_1, d.before a0 Z = true) (ws : List Jvm.Cond) (x0 : Addr) (k0 : ClassId) (v0 v1 v2 v3 : Int64) (h0 : Heap) (n0 : Nat) (Z0 : n0 ≤ h0.size) (V_x0 : Arv Z h0 x0 k0 .long (4 : Int32) [(.long v0), (.long v1), (.long v2), (.long v3)] (.long (0 : Int64))) (g_x0 : n0 ≤ x0) :
    MetFree l (⟨"com/example/rootline/rootline/heap/ClassObjectsIndexAbovePinLaw", "sw", "([JII)V"⟩ : MethodName) (head1 (Jvm.Cond.code (⟨"com/example/rootline/rootline/heap/ClassObjectsIndexAbovePinLaw", "sw", "([JII)V"⟩ : MethodName) method_2_code 5 none :: ws) ({ frames := 0, cells := 0, slots := 0, locals := 0 } : Room)) (fun a U => a = #[(.ref x0), (.int (1 : Int32)), (.int (3 : Int32))] ∧ Z.Warmed39 U.vm ∧ U.heap = h0) (fun _ _ _ _ _ => True) (fun _ U o U' => ∃ v L, o = .returned v ∧ (QA Z x0 k0 [(.long v0), (.long (own_lo v1 v3)), (.long v2), (.long (own_hi v1 v3))] h0 n0 v U'.heap L) ∧ FrameEnd U o U' L ({ frames := 0, cells := 0, slots := 0, locals := 0 } : Room).cells ({ frames := 0, cells := 0, slots := 0, locals := 0 } : Room).slots) := by
  refine MetFree.of_bodySF (plainFor_of_name pn_1) hisR ?_
  intro p e s m args below meth c s₁ Bd hml0 hP hK
  obtain ⟨rfl, hZ, hh⟩ := hP
  have hx := Bd.exec
  have hby := Bd.bytes
  have hml : c.maxLocals = 5 := hml0
  have hown : s.vm.findClass "com/example/rootline/rootline/heap/ClassObjectsIndexAbovePinLaw" = some m.cls := findClass_of_methodNamed Bd.named
  have hnm := (name_of_methodNamed Bd.named Bd.method).1
  have X0 : Stand p l e ({ frames := 0, cells := 0, slots := 0, locals := 0 } : Room) s m #[(.ref x0), (.int (1 : Int32)), (.int (3 : Int32))] below meth c s₁ [] 0 0 := Stand.of_body Bd
  have e0 : s₁.heap = h0 := by rw [← hh, Bd.state]; rfl
  have N0 := Fr.nil n0
  have pre0 : ∀ t, Steps p.tables e below (s₁.setTop (mkF m 0 #[.val (.ref x0), .val (.int (1 : Int32)), .val (.int (3 : Int32)), .unset, .unset] [])) t → Steps p.tables e below (s₁.setTop (entryFrame m #[(.ref x0), (.int (1 : Int32)), (.int (3 : Int32))] 5)) t := fun t k => castTop (ef_1 m x0 (1 : Int32) (3 : Int32)) k
  have K0 : Keep h0 h0 [x0] := Keep.refl h0 [x0]
  obtain ⟨m1_l3, em1_l3⟩ : ∃ z : Slot, z = (if (lcmpW v3 v1) < (0 : Int32) then (.val (.long v1)) else (.unset)) := ⟨_, rfl⟩
  obtain ⟨m1_l4, em1_l4⟩ : ∃ z : Slot, z = (if (lcmpW v3 v1) < (0 : Int32) then (.second) else (.unset)) := ⟨_, rfl⟩
  obtain ⟨m1_V_x0_1, em1_V_x0_1⟩ : ∃ z : Int64, z = (if (lcmpW v3 v1) < (0 : Int32) then v3 else v1) := ⟨_, rfl⟩
  obtain ⟨m1_V_x0_3, em1_V_x0_3⟩ : ∃ z : Int64, z = (if (lcmpW v3 v1) < (0 : Int32) then v1 else v3) := ⟨_, rfl⟩
  obtain ⟨T1, h1, L1, X1, e1, N1, keep_1, V_x0_1, st1⟩ : ∃ (T' : State) (h' : Heap) (L' : List Loc), Stand p l e ({ frames := 0, cells := 0, slots := 0, locals := 0 } : Room) s m #[(.ref x0), (.int (1 : Int32)), (.int (3 : Int32))] below meth c T' L' (0) (0) ∧ T'.heap = h' ∧ Fr n0 L' ∧ Keep h0 h' [x0] ∧ Arv Z h' x0 k0 .long (4 : Int32) [(.long v0), (.long m1_V_x0_1), (.long v2), (.long m1_V_x0_3)] (.long (0 : Int64)) ∧ ∀ target, Steps p.tables e below (T'.setTop (mkF m 24 #[.val (.ref x0), .val (.int (1 : Int32)), .val (.int (3 : Int32)), m1_l3, m1_l4] [])) target → Steps p.tables e below (s₁.setTop (mkF m 7 #[.val (.ref x0), .val (.int (1 : Int32)), .val (.int (3 : Int32)), .unset, .unset] [(.int (lcmpW v3 v1))])) target := by
    by_cases hq7 : (lcmpW v3 v1) < (0 : Int32)
    · obtain ⟨T2, h2, L2, X2, e2, N2, W2, V2, st2⟩ := own_stJ X0 hx hZ e0 V_x0 (j := (1 : Int32)) ⟨by decide, by decide⟩ (i := 1) rfl (Nat.le_of_ble_eq_true rfl) N0 g_x0 (g := (mkF m 19 #[.val (.ref x0), .val (.int (1 : Int32)), .val (.int (3 : Int32)), .val (.long v1), .second] [(.long v3), (.int (1 : Int32)), (.ref x0)])) rfl rfl (hb hby d1_19)
      have keep_3 : Keep h0 h2 [x0] := K0.wr W2 (Or.inl (List.mem_of_getElem? (i := 0) rfl))
      have siz_3 : n0 ≤ h2.size := Nat.le_trans Z0 (Keep.of_wr W2).1
      have V_x0_2 : Arv Z h2 x0 k0 .long (4 : Int32) [(.long v0), (.long v3), (.long v2), (.long v3)] (.long (0 : Int64)) := V2
      obtain ⟨T4, h4, L4, X4, e4, N4, W4, V4, st4⟩ := own_stJ X2 hx hZ e2 V_x0_2 (j := (3 : Int32)) ⟨by decide, by decide⟩ (i := 3) rfl (Nat.le_of_ble_eq_true rfl) N2 g_x0 (g := (mkF m 23 #[.val (.ref x0), .val (.int (1 : Int32)), .val (.int (3 : Int32)), .val (.long v1), .second] [(.long v1), (.int (3 : Int32)), (.ref x0)])) rfl rfl (hb hby d1_23)
      have keep_5 : Keep h0 h4 [x0] := keep_3.wr W4 (Or.inl (List.mem_of_getElem? (i := 0) rfl))
      have siz_5 : n0 ≤ h4.size := Nat.le_trans siz_3 (Keep.of_wr W4).1
      have V_x0_4 : Arv Z h4 x0 k0 .long (4 : Int32) [(.long v0), (.long v3), (.long v2), (.long v1)] (.long (0 : Int64)) := V4
      refine ⟨T4, h4, _, X4, e4, N4, keep_5, (by rw [em1_V_x0_1, if_pos hq7, em1_V_x0_3, if_pos hq7]; exact V_x0_4), fun target kt => ?_⟩
      rw [em1_l3, if_pos hq7, em1_l4, if_pos hq7] at kt
      show Steps p.tables e below (s₁.setTop (mkF m 7 #[.val (.ref x0), .val (.int (1 : Int32)), .val (.int (3 : Int32)), .unset, .unset] [(.int (lcmpW v3 v1))])) _
      refine XS.ifNo X0.here hx rfl (hb hby d1_7) rfl ((if0 _ _).trans (tlt hq7).2.1) ?_
      show Steps p.tables e below (s₁.setTop (mkF m 10 #[.val (.ref x0), .val (.int (1 : Int32)), .val (.int (3 : Int32)), .unset, .unset] [])) _
      refine XS.aloadN X0.here hx rfl (hb hby d1_10) rfl rfl ?_
      show Steps p.tables e below (s₁.setTop (mkF m 11 #[.val (.ref x0), .val (.int (1 : Int32)), .val (.int (3 : Int32)), .unset, .unset] [(.ref x0)])) _
      refine XS.iloadN X0.here hx rfl (hb hby d1_11) rfl ?_
      show Steps p.tables e below (s₁.setTop (mkF m 12 #[.val (.ref x0), .val (.int (1 : Int32)), .val (.int (3 : Int32)), .unset, .unset] [(.int (1 : Int32)), (.ref x0)])) _
      refine own_ldJ X0 hx hZ e0 V_x0 (j := (1 : Int32)) (w := v1) ⟨by decide, by decide⟩ rfl (g := (mkF m 12 #[.val (.ref x0), .val (.int (1 : Int32)), .val (.int (3 : Int32)), .unset, .unset] [(.int (1 : Int32)), (.ref x0)])) rfl rfl (hb hby d1_12) ?_
      show Steps p.tables e below (s₁.setTop (mkF m 13 #[.val (.ref x0), .val (.int (1 : Int32)), .val (.int (3 : Int32)), .unset, .unset] [(.long v1)])) _
      refine XS.lstoreN X0.here hx rfl (hb hby d1_13) rfl (l' := #[.val (.ref x0), .val (.int (1 : Int32)), .val (.int (3 : Int32)), .val (.long v1), .second]) rfl ?_
      show Steps p.tables e below (s₁.setTop (mkF m 14 #[.val (.ref x0), .val (.int (1 : Int32)), .val (.int (3 : Int32)), .val (.long v1), .second] [])) _
      refine XS.aloadN X0.here hx rfl (hb hby d1_14) rfl rfl ?_
      show Steps p.tables e below (s₁.setTop (mkF m 15 #[.val (.ref x0), .val (.int (1 : Int32)), .val (.int (3 : Int32)), .val (.long v1), .second] [(.ref x0)])) _
      refine XS.iloadN X0.here hx rfl (hb hby d1_15) rfl ?_
      show Steps p.tables e below (s₁.setTop (mkF m 16 #[.val (.ref x0), .val (.int (1 : Int32)), .val (.int (3 : Int32)), .val (.long v1), .second] [(.int (1 : Int32)), (.ref x0)])) _
      refine XS.aloadN X0.here hx rfl (hb hby d1_16) rfl rfl ?_
      show Steps p.tables e below (s₁.setTop (mkF m 17 #[.val (.ref x0), .val (.int (1 : Int32)), .val (.int (3 : Int32)), .val (.long v1), .second] [(.ref x0), (.int (1 : Int32)), (.ref x0)])) _
      refine XS.iloadN X0.here hx rfl (hb hby d1_17) rfl ?_
      show Steps p.tables e below (s₁.setTop (mkF m 18 #[.val (.ref x0), .val (.int (1 : Int32)), .val (.int (3 : Int32)), .val (.long v1), .second] [(.int (3 : Int32)), (.ref x0), (.int (1 : Int32)), (.ref x0)])) _
      refine own_ldJ X0 hx hZ e0 V_x0 (j := (3 : Int32)) (w := v3) ⟨by decide, by decide⟩ rfl (g := (mkF m 18 #[.val (.ref x0), .val (.int (1 : Int32)), .val (.int (3 : Int32)), .val (.long v1), .second] [(.int (3 : Int32)), (.ref x0), (.int (1 : Int32)), (.ref x0)])) rfl rfl (hb hby d1_18) ?_
      show Steps p.tables e below (s₁.setTop (mkF m 19 #[.val (.ref x0), .val (.int (1 : Int32)), .val (.int (3 : Int32)), .val (.long v1), .second] [(.long v3), (.int (1 : Int32)), (.ref x0)])) _
      refine st2 _ ?_
      show Steps p.tables e below (T2.setTop (mkF m 20 #[.val (.ref x0), .val (.int (1 : Int32)), .val (.int (3 : Int32)), .val (.long v1), .second] [])) _
      refine XS.aloadN X2.here hx rfl (hb hby d1_20) rfl rfl ?_
      show Steps p.tables e below (T2.setTop (mkF m 21 #[.val (.ref x0), .val (.int (1 : Int32)), .val (.int (3 : Int32)), .val (.long v1), .second] [(.ref x0)])) _
      refine XS.iloadN X2.here hx rfl (hb hby d1_21) rfl ?_
      show Steps p.tables e below (T2.setTop (mkF m 22 #[.val (.ref x0), .val (.int (1 : Int32)), .val (.int (3 : Int32)), .val (.long v1), .second] [(.int (3 : Int32)), (.ref x0)])) _
      refine XS.lloadN X2.here hx rfl (hb hby d1_22) rfl ?_
      show Steps p.tables e below (T2.setTop (mkF m 23 #[.val (.ref x0), .val (.int (1 : Int32)), .val (.int (3 : Int32)), .val (.long v1), .second] [(.long v1), (.int (3 : Int32)), (.ref x0)])) _
      refine st4 _ ?_
      exact kt
    · skip
      refine ⟨s₁, h0, _, X0, e0, N0, K0, (by rw [em1_V_x0_1, if_neg hq7, em1_V_x0_3, if_neg hq7]; exact V_x0), fun target kt => ?_⟩
      rw [em1_l3, if_neg hq7, em1_l4, if_neg hq7] at kt
      show Steps p.tables e below (s₁.setTop (mkF m 7 #[.val (.ref x0), .val (.int (1 : Int32)), .val (.int (3 : Int32)), .unset, .unset] [(.int (lcmpW v3 v1))])) _
      refine XS.ifYes X0.here hx rfl (pc0 := 7) (pc' := 24) rfl (hb hby d1_7) rfl ((if0 _ _).trans (flt hq7).2.1) (by decide) (by decide) ?_
      exact kt
  obtain ⟨fs, hr, hrun, hended, hW, hsame⟩ := X1.leave (v := none) (fun _ => rfl)
  refine ⟨_, _, pre0 _ ?_, hrun, hended, _, _, rfl, ?_, ⟨_, rfl⟩, hW, hsame.mono (by decide) (by decide)⟩
  · show Steps p.tables e below (s₁.setTop (mkF m 0 #[.val (.ref x0), .val (.int (1 : Int32)), .val (.int (3 : Int32)), .unset, .unset] [])) _
    refine XS.aloadN X0.here hx rfl (hb hby d1_0) rfl rfl ?_
    show Steps p.tables e below (s₁.setTop (mkF m 1 #[.val (.ref x0), .val (.int (1 : Int32)), .val (.int (3 : Int32)), .unset, .unset] [(.ref x0)])) _
    refine XS.iloadN X0.here hx rfl (hb hby d1_1) rfl ?_
    show Steps p.tables e below (s₁.setTop (mkF m 2 #[.val (.ref x0), .val (.int (1 : Int32)), .val (.int (3 : Int32)), .unset, .unset] [(.int (3 : Int32)), (.ref x0)])) _
    refine own_ldJ X0 hx hZ e0 V_x0 (j := (3 : Int32)) (w := v3) ⟨by decide, by decide⟩ rfl (g := (mkF m 2 #[.val (.ref x0), .val (.int (1 : Int32)), .val (.int (3 : Int32)), .unset, .unset] [(.int (3 : Int32)), (.ref x0)])) rfl rfl (hb hby d1_2) ?_
    show Steps p.tables e below (s₁.setTop (mkF m 3 #[.val (.ref x0), .val (.int (1 : Int32)), .val (.int (3 : Int32)), .unset, .unset] [(.long v3)])) _
    refine XS.aloadN X0.here hx rfl (hb hby d1_3) rfl rfl ?_
    show Steps p.tables e below (s₁.setTop (mkF m 4 #[.val (.ref x0), .val (.int (1 : Int32)), .val (.int (3 : Int32)), .unset, .unset] [(.ref x0), (.long v3)])) _
    refine XS.iloadN X0.here hx rfl (hb hby d1_4) rfl ?_
    show Steps p.tables e below (s₁.setTop (mkF m 5 #[.val (.ref x0), .val (.int (1 : Int32)), .val (.int (3 : Int32)), .unset, .unset] [(.int (1 : Int32)), (.ref x0), (.long v3)])) _
    refine own_ldJ X0 hx hZ e0 V_x0 (j := (1 : Int32)) (w := v1) ⟨by decide, by decide⟩ rfl (g := (mkF m 5 #[.val (.ref x0), .val (.int (1 : Int32)), .val (.int (3 : Int32)), .unset, .unset] [(.int (1 : Int32)), (.ref x0), (.long v3)])) rfl rfl (hb hby d1_5) ?_
    show Steps p.tables e below (s₁.setTop (mkF m 6 #[.val (.ref x0), .val (.int (1 : Int32)), .val (.int (3 : Int32)), .unset, .unset] [(.long v1), (.long v3)])) _
    refine XS.lcmp X0.here hx rfl (hb hby d1_6) rfl ?_
    show Steps p.tables e below (s₁.setTop (mkF m 7 #[.val (.ref x0), .val (.int (1 : Int32)), .val (.int (3 : Int32)), .unset, .unset] [(.int (lcmpW v3 v1))])) _
    refine st1 _ ?_
    show Steps p.tables e below (T1.setTop (mkF m 24 #[.val (.ref x0), .val (.int (1 : Int32)), .val (.int (3 : Int32)), m1_l3, m1_l4] [])) _
    exact X1.returnOut hx Bd.returns (hb hby d1_24) hr
  · exact (by
      have hlo : own_lo v1 v3 = m1_V_x0_1 := by rw [em1_V_x0_1]; rfl
      have hhi : own_hi v1 v3 = m1_V_x0_3 := by rw [em1_V_x0_3]; rfl
      rw [hlo, hhi]; exact ⟨rfl, N1, by rw [show (T1.setFrames fs).heap = h1 from e1]; exact keep_1, by rw [show (T1.setFrames fs).heap = h1 from e1]; exact V_x0_1⟩)
set_option maxRecDepth 65536 in
set_option maxHeartbeats 40000000 in
theorem rmsw_12 (l : Launch) (Z : State) (a0 : Array Value) (hw : ∀ d ∈ tables_1, d.before a0 Z = true) (ws : List Jvm.Cond) (x0 : Addr) (k0 : ClassId) (v0 v1 v2 v3 : Int64) (h0 : Heap) (n0 : Nat) (Z0 : n0 ≤ h0.size) (V_x0 : Arv Z h0 x0 k0 .long (4 : Int32) [(.long v0), (.long v1), (.long v2), (.long v3)] (.long (0 : Int64))) (g_x0 : n0 ≤ x0) :
    MetFree l (⟨"com/example/rootline/rootline/heap/ClassObjectsIndexAbovePinLaw", "sw", "([JII)V"⟩ : MethodName) (head1 (Jvm.Cond.code (⟨"com/example/rootline/rootline/heap/ClassObjectsIndexAbovePinLaw", "sw", "([JII)V"⟩ : MethodName) method_2_code 5 none :: ws) ({ frames := 0, cells := 0, slots := 0, locals := 0 } : Room)) (fun a U => a = #[(.ref x0), (.int (1 : Int32)), (.int (2 : Int32))] ∧ Z.Warmed39 U.vm ∧ U.heap = h0) (fun _ _ _ _ _ => True) (fun _ U o U' => ∃ v L, o = .returned v ∧ (QA Z x0 k0 [(.long v0), (.long (own_lo v1 v2)), (.long (own_hi v1 v2)), (.long v3)] h0 n0 v U'.heap L) ∧ FrameEnd U o U' L ({ frames := 0, cells := 0, slots := 0, locals := 0 } : Room).cells ({ frames := 0, cells := 0, slots := 0, locals := 0 } : Room).slots) := by
  refine MetFree.of_bodySF (plainFor_of_name pn_1) hisR ?_
  intro p e s m args below meth c s₁ Bd hml0 hP hK
  obtain ⟨rfl, hZ, hh⟩ := hP
  have hx := Bd.exec
  have hby := Bd.bytes
  have hml : c.maxLocals = 5 := hml0
  have hown : s.vm.findClass "com/example/rootline/rootline/heap/ClassObjectsIndexAbovePinLaw" = some m.cls := findClass_of_methodNamed Bd.named
  have hnm := (name_of_methodNamed Bd.named Bd.method).1
  have X0 : Stand p l e ({ frames := 0, cells := 0, slots := 0, locals := 0 } : Room) s m #[(.ref x0), (.int (1 : Int32)), (.int (2 : Int32))] below meth c s₁ [] 0 0 := Stand.of_body Bd
  have e0 : s₁.heap = h0 := by rw [← hh, Bd.state]; rfl
  have N0 := Fr.nil n0
  have pre0 : ∀ t, Steps p.tables e below (s₁.setTop (mkF m 0 #[.val (.ref x0), .val (.int (1 : Int32)), .val (.int (2 : Int32)), .unset, .unset] [])) t → Steps p.tables e below (s₁.setTop (entryFrame m #[(.ref x0), (.int (1 : Int32)), (.int (2 : Int32))] 5)) t := fun t k => castTop (ef_1 m x0 (1 : Int32) (2 : Int32)) k
  have K0 : Keep h0 h0 [x0] := Keep.refl h0 [x0]
  obtain ⟨m1_l3, em1_l3⟩ : ∃ z : Slot, z = (if (lcmpW v2 v1) < (0 : Int32) then (.val (.long v1)) else (.unset)) := ⟨_, rfl⟩
  obtain ⟨m1_l4, em1_l4⟩ : ∃ z : Slot, z = (if (lcmpW v2 v1) < (0 : Int32) then (.second) else (.unset)) := ⟨_, rfl⟩
  obtain ⟨m1_V_x0_1, em1_V_x0_1⟩ : ∃ z : Int64, z = (if (lcmpW v2 v1) < (0 : Int32) then v2 else v1) := ⟨_, rfl⟩
  obtain ⟨m1_V_x0_2, em1_V_x0_2⟩ : ∃ z : Int64, z = (if (lcmpW v2 v1) < (0 : Int32) then v1 else v2) := ⟨_, rfl⟩
  obtain ⟨T1, h1, L1, X1, e1, N1, keep_1, V_x0_1, st1⟩ : ∃ (T' : State) (h' : Heap) (L' : List Loc), Stand p l e ({ frames := 0, cells := 0, slots := 0, locals := 0 } : Room) s m #[(.ref x0), (.int (1 : Int32)), (.int (2 : Int32))] below meth c T' L' (0) (0) ∧ T'.heap = h' ∧ Fr n0 L' ∧ Keep h0 h' [x0] ∧ Arv Z h' x0 k0 .long (4 : Int32) [(.long v0), (.long m1_V_x0_1), (.long m1_V_x0_2), (.long v3)] (.long (0 : Int64)) ∧ ∀ target, Steps p.tables e below (T'.setTop (mkF m 24 #[.val (.ref x0), .val (.int (1 : Int32)), .val (.int (2 : Int32)), m1_l3, m1_l4] [])) target → Steps p.tables e below (s₁.setTop (mkF m 7 #[.val (.ref x0), .val (.int (1 : Int32)), .val (.int (2 : Int32)), .unset, .unset] [(.int (lcmpW v2 v1))])) target := by
    by_cases hq7 : (lcmpW v2 v1) < (0 : Int32)
    · obtain ⟨T2, h2, L2, X2, e2, N2, W2, V2, st2⟩ := own_stJ X0 hx hZ e0 V_x0 (j := (1 : Int32)) ⟨by decide, by decide⟩ (i := 1) rfl (Nat.le_of_ble_eq_true rfl) N0 g_x0 (g := (mkF m 19 #[.val (.ref x0), .val (.int (1 : Int32)), .val (.int (2 : Int32)), .val (.long v1), .second] [(.long v2), (.int (1 : Int32)), (.ref x0)])) rfl rfl (hb hby d1_19)
      have keep_3 : Keep h0 h2 [x0] := K0.wr W2 (Or.inl (List.mem_of_getElem? (i := 0) rfl))
      have siz_3 : n0 ≤ h2.size := Nat.le_trans Z0 (Keep.of_wr W2).1
      have V_x0_2 : Arv Z h2 x0 k0 .long (4 : Int32) [(.long v0), (.long v2), (.long v2), (.long v3)] (.long (0 : Int64)) := V2
      obtain ⟨T4, h4, L4, X4, e4, N4, W4, V4, st4⟩ := own_stJ X2 hx hZ e2 V_x0_2 (j := (2 : Int32)) ⟨by decide, by decide⟩ (i := 2) rfl (Nat.le_of_ble_eq_true rfl) N2 g_x0 (g := (mkF m 23 #[.val (.ref x0), .val (.int (1 : Int32)), .val (.int (2 : Int32)), .val (.long v1), .second] [(.long v1), (.int (2 : Int32)), (.ref x0)])) rfl rfl (hb hby d1_23)
      have keep_5 : Keep h0 h4 [x0] := keep_3.wr W4 (Or.inl (List.mem_of_getElem? (i := 0) rfl))
      have siz_5 : n0 ≤ h4.size := Nat.le_trans siz_3 (Keep.of_wr W4).1
      have V_x0_4 : Arv Z h4 x0 k0 .long (4 : Int32) [(.long v0), (.long v2), (.long v1), (.long v3)] (.long (0 : Int64)) := V4
      refine ⟨T4, h4, _, X4, e4, N4, keep_5, (by rw [em1_V_x0_1, if_pos hq7, em1_V_x0_2, if_pos hq7]; exact V_x0_4), fun target kt => ?_⟩
      rw [em1_l3, if_pos hq7, em1_l4, if_pos hq7] at kt
      show Steps p.tables e below (s₁.setTop (mkF m 7 #[.val (.ref x0), .val (.int (1 : Int32)), .val (.int (2 : Int32)), .unset, .unset] [(.int (lcmpW v2 v1))])) _
      refine XS.ifNo X0.here hx rfl (hb hby d1_7) rfl ((if0 _ _).trans (tlt hq7).2.1) ?_
      show Steps p.tables e below (s₁.setTop (mkF m 10 #[.val (.ref x0), .val (.int (1 : Int32)), .val (.int (2 : Int32)), .unset, .unset] [])) _
      refine XS.aloadN X0.here hx rfl (hb hby d1_10) rfl rfl ?_
      show Steps p.tables e below (s₁.setTop (mkF m 11 #[.val (.ref x0), .val (.int (1 : Int32)), .val (.int (2 : Int32)), .unset, .unset] [(.ref x0)])) _
      refine XS.iloadN X0.here hx rfl (hb hby d1_11) rfl ?_
      show Steps p.tables e below (s₁.setTop (mkF m 12 #[.val (.ref x0), .val (.int (1 : Int32)), .val (.int (2 : Int32)), .unset, .unset] [(.int (1 : Int32)), (.ref x0)])) _
      refine own_ldJ X0 hx hZ e0 V_x0 (j := (1 : Int32)) (w := v1) ⟨by decide, by decide⟩ rfl (g := (mkF m 12 #[.val (.ref x0), .val (.int (1 : Int32)), .val (.int (2 : Int32)), .unset, .unset] [(.int (1 : Int32)), (.ref x0)])) rfl rfl (hb hby d1_12) ?_
      show Steps p.tables e below (s₁.setTop (mkF m 13 #[.val (.ref x0), .val (.int (1 : Int32)), .val (.int (2 : Int32)), .unset, .unset] [(.long v1)])) _
      refine XS.lstoreN X0.here hx rfl (hb hby d1_13) rfl (l' := #[.val (.ref x0), .val (.int (1 : Int32)), .val (.int (2 : Int32)), .val (.long v1), .second]) rfl ?_
      show Steps p.tables e below (s₁.setTop (mkF m 14 #[.val (.ref x0), .val (.int (1 : Int32)), .val (.int (2 : Int32)), .val (.long v1), .second] [])) _
      refine XS.aloadN X0.here hx rfl (hb hby d1_14) rfl rfl ?_
      show Steps p.tables e below (s₁.setTop (mkF m 15 #[.val (.ref x0), .val (.int (1 : Int32)), .val (.int (2 : Int32)), .val (.long v1), .second] [(.ref x0)])) _
      refine XS.iloadN X0.here hx rfl (hb hby d1_15) rfl ?_
      show Steps p.tables e below (s₁.setTop (mkF m 16 #[.val (.ref x0), .val (.int (1 : Int32)), .val (.int (2 : Int32)), .val (.long v1), .second] [(.int (1 : Int32)), (.ref x0)])) _
      refine XS.aloadN X0.here hx rfl (hb hby d1_16) rfl rfl ?_
      show Steps p.tables e below (s₁.setTop (mkF m 17 #[.val (.ref x0), .val (.int (1 : Int32)), .val (.int (2 : Int32)), .val (.long v1), .second] [(.ref x0), (.int (1 : Int32)), (.ref x0)])) _
      refine XS.iloadN X0.here hx rfl (hb hby d1_17) rfl ?_
      show Steps p.tables e below (s₁.setTop (mkF m 18 #[.val (.ref x0), .val (.int (1 : Int32)), .val (.int (2 : Int32)), .val (.long v1), .second] [(.int (2 : Int32)), (.ref x0), (.int (1 : Int32)), (.ref x0)])) _
      refine own_ldJ X0 hx hZ e0 V_x0 (j := (2 : Int32)) (w := v2) ⟨by decide, by decide⟩ rfl (g := (mkF m 18 #[.val (.ref x0), .val (.int (1 : Int32)), .val (.int (2 : Int32)), .val (.long v1), .second] [(.int (2 : Int32)), (.ref x0), (.int (1 : Int32)), (.ref x0)])) rfl rfl (hb hby d1_18) ?_
      show Steps p.tables e below (s₁.setTop (mkF m 19 #[.val (.ref x0), .val (.int (1 : Int32)), .val (.int (2 : Int32)), .val (.long v1), .second] [(.long v2), (.int (1 : Int32)), (.ref x0)])) _
      refine st2 _ ?_
      show Steps p.tables e below (T2.setTop (mkF m 20 #[.val (.ref x0), .val (.int (1 : Int32)), .val (.int (2 : Int32)), .val (.long v1), .second] [])) _
      refine XS.aloadN X2.here hx rfl (hb hby d1_20) rfl rfl ?_
      show Steps p.tables e below (T2.setTop (mkF m 21 #[.val (.ref x0), .val (.int (1 : Int32)), .val (.int (2 : Int32)), .val (.long v1), .second] [(.ref x0)])) _
      refine XS.iloadN X2.here hx rfl (hb hby d1_21) rfl ?_
      show Steps p.tables e below (T2.setTop (mkF m 22 #[.val (.ref x0), .val (.int (1 : Int32)), .val (.int (2 : Int32)), .val (.long v1), .second] [(.int (2 : Int32)), (.ref x0)])) _
      refine XS.lloadN X2.here hx rfl (hb hby d1_22) rfl ?_
      show Steps p.tables e below (T2.setTop (mkF m 23 #[.val (.ref x0), .val (.int (1 : Int32)), .val (.int (2 : Int32)), .val (.long v1), .second] [(.long v1), (.int (2 : Int32)), (.ref x0)])) _
      refine st4 _ ?_
      exact kt
    · skip
      refine ⟨s₁, h0, _, X0, e0, N0, K0, (by rw [em1_V_x0_1, if_neg hq7, em1_V_x0_2, if_neg hq7]; exact V_x0), fun target kt => ?_⟩
      rw [em1_l3, if_neg hq7, em1_l4, if_neg hq7] at kt
      show Steps p.tables e below (s₁.setTop (mkF m 7 #[.val (.ref x0), .val (.int (1 : Int32)), .val (.int (2 : Int32)), .unset, .unset] [(.int (lcmpW v2 v1))])) _
      refine XS.ifYes X0.here hx rfl (pc0 := 7) (pc' := 24) rfl (hb hby d1_7) rfl ((if0 _ _).trans (flt hq7).2.1) (by decide) (by decide) ?_
      exact kt
  obtain ⟨fs, hr, hrun, hended, hW, hsame⟩ := X1.leave (v := none) (fun _ => rfl)
  refine ⟨_, _, pre0 _ ?_, hrun, hended, _, _, rfl, ?_, ⟨_, rfl⟩, hW, hsame.mono (by decide) (by decide)⟩
  · show Steps p.tables e below (s₁.setTop (mkF m 0 #[.val (.ref x0), .val (.int (1 : Int32)), .val (.int (2 : Int32)), .unset, .unset] [])) _
    refine XS.aloadN X0.here hx rfl (hb hby d1_0) rfl rfl ?_
    show Steps p.tables e below (s₁.setTop (mkF m 1 #[.val (.ref x0), .val (.int (1 : Int32)), .val (.int (2 : Int32)), .unset, .unset] [(.ref x0)])) _
    refine XS.iloadN X0.here hx rfl (hb hby d1_1) rfl ?_
    show Steps p.tables e below (s₁.setTop (mkF m 2 #[.val (.ref x0), .val (.int (1 : Int32)), .val (.int (2 : Int32)), .unset, .unset] [(.int (2 : Int32)), (.ref x0)])) _
    refine own_ldJ X0 hx hZ e0 V_x0 (j := (2 : Int32)) (w := v2) ⟨by decide, by decide⟩ rfl (g := (mkF m 2 #[.val (.ref x0), .val (.int (1 : Int32)), .val (.int (2 : Int32)), .unset, .unset] [(.int (2 : Int32)), (.ref x0)])) rfl rfl (hb hby d1_2) ?_
    show Steps p.tables e below (s₁.setTop (mkF m 3 #[.val (.ref x0), .val (.int (1 : Int32)), .val (.int (2 : Int32)), .unset, .unset] [(.long v2)])) _
    refine XS.aloadN X0.here hx rfl (hb hby d1_3) rfl rfl ?_
    show Steps p.tables e below (s₁.setTop (mkF m 4 #[.val (.ref x0), .val (.int (1 : Int32)), .val (.int (2 : Int32)), .unset, .unset] [(.ref x0), (.long v2)])) _
    refine XS.iloadN X0.here hx rfl (hb hby d1_4) rfl ?_
    show Steps p.tables e below (s₁.setTop (mkF m 5 #[.val (.ref x0), .val (.int (1 : Int32)), .val (.int (2 : Int32)), .unset, .unset] [(.int (1 : Int32)), (.ref x0), (.long v2)])) _
    refine own_ldJ X0 hx hZ e0 V_x0 (j := (1 : Int32)) (w := v1) ⟨by decide, by decide⟩ rfl (g := (mkF m 5 #[.val (.ref x0), .val (.int (1 : Int32)), .val (.int (2 : Int32)), .unset, .unset] [(.int (1 : Int32)), (.ref x0), (.long v2)])) rfl rfl (hb hby d1_5) ?_
    show Steps p.tables e below (s₁.setTop (mkF m 6 #[.val (.ref x0), .val (.int (1 : Int32)), .val (.int (2 : Int32)), .unset, .unset] [(.long v1), (.long v2)])) _
    refine XS.lcmp X0.here hx rfl (hb hby d1_6) rfl ?_
    show Steps p.tables e below (s₁.setTop (mkF m 7 #[.val (.ref x0), .val (.int (1 : Int32)), .val (.int (2 : Int32)), .unset, .unset] [(.int (lcmpW v2 v1))])) _
    refine st1 _ ?_
    show Steps p.tables e below (T1.setTop (mkF m 24 #[.val (.ref x0), .val (.int (1 : Int32)), .val (.int (2 : Int32)), m1_l3, m1_l4] [])) _
    exact X1.returnOut hx Bd.returns (hb hby d1_24) hr
  · exact (by
      have hlo : own_lo v1 v2 = m1_V_x0_1 := by rw [em1_V_x0_1]; rfl
      have hhi : own_hi v1 v2 = m1_V_x0_2 := by rw [em1_V_x0_2]; rfl
      rw [hlo, hhi]; exact ⟨rfl, N1, by rw [show (T1.setFrames fs).heap = h1 from e1]; exact keep_1, by rw [show (T1.setFrames fs).heap = h1 from e1]; exact V_x0_1⟩)
set_option maxRecDepth 65536 in
set_option maxHeartbeats 40000000 in
theorem rm2 (l : Launch) (Z : State) (a0 : Array Value) (hw : ∀ d ∈ tables_1, d.before a0 Z = true) (ws : List Jvm.Cond) (x0 : Int32) (x1 : Int64) (x2 : Int64)  (h0 : Heap) (n0 : Nat) (Z0 : n0 ≤ h0.size)  :
    MetFree l (⟨"com/example/rootline/rootline/heap/ClassObjectsIndexAbovePinLaw", "le", "(ZJJ)I"⟩ : MethodName) (head1 (Jvm.Cond.code (⟨"com/example/rootline/rootline/heap/ClassObjectsIndexAbovePinLaw", "le", "(ZJJ)I"⟩ : MethodName) method_3_code 5 (some .int) :: ws) ({ frames := 0, cells := 0, slots := 0, locals := 0 } : Room)) (fun a U => a = #[(.int x0), (.long x1), (.long x2)] ∧ Z.Warmed39 U.vm ∧ U.heap = h0) (fun _ _ _ _ _ => True) (fun _ U o U' => ∃ v L, o = .returned v ∧ (QP (some (.int (own_le x0 x1 x2))) h0 n0 v U'.heap L) ∧ FrameEnd U o U' L ({ frames := 0, cells := 0, slots := 0, locals := 0 } : Room).cells ({ frames := 0, cells := 0, slots := 0, locals := 0 } : Room).slots) := by
  refine MetFree.of_bodySF (plainFor_of_name pn_2) hisR ?_
  intro p e s m args below meth c s₁ Bd hml0 hP hK
  obtain ⟨rfl, hZ, hh⟩ := hP
  have hx := Bd.exec
  have hby := Bd.bytes
  have hml : c.maxLocals = 5 := hml0
  have hown : s.vm.findClass "com/example/rootline/rootline/heap/ClassObjectsIndexAbovePinLaw" = some m.cls := findClass_of_methodNamed Bd.named
  have hnm := (name_of_methodNamed Bd.named Bd.method).1
  have X0 : Stand p l e ({ frames := 0, cells := 0, slots := 0, locals := 0 } : Room) s m #[(.int x0), (.long x1), (.long x2)] below meth c s₁ [] 0 0 := Stand.of_body Bd
  have e0 : s₁.heap = h0 := by rw [← hh, Bd.state]; rfl
  have N0 := Fr.nil n0
  have pre0 : ∀ t, Steps p.tables e below (s₁.setTop (mkF m 0 #[.val (.int x0), .val (.long x1), .second, .val (.long x2), .second] [])) t → Steps p.tables e below (s₁.setTop (entryFrame m #[(.int x0), (.long x1), (.long x2)] 5)) t := fun t k => castTop (ef_2 m x0 x1 x2) k
  obtain ⟨fs, hr, hrun, hended, hW, hsame⟩ := X0.leave (v := some (.int (own_le x0 x1 x2))) (fun h => by rw [Bd.returns] at h; cases h)
  refine ⟨_, _, pre0 _ ?_, hrun, hended, _, _, rfl, ?_, ⟨_, rfl⟩, hW, hsame.mono (by decide) (by decide)⟩
  · show Steps p.tables e below (s₁.setTop (mkF m 0 #[.val (.int x0), .val (.long x1), .second, .val (.long x2), .second] [])) _
    refine XS.iloadN X0.here hx rfl (hb hby d2_0) rfl ?_
    show Steps p.tables e below (s₁.setTop (mkF m 1 #[.val (.int x0), .val (.long x1), .second, .val (.long x2), .second] [(.int x0)])) _
    by_cases hc1 : x0 = (0 : Int32)
    · refine XS.ifYes X0.here hx rfl (pc0 := 1) (pc' := 14) rfl (hb hby d2_1) rfl ((if0 _ _).trans (teq hc1).1) (by decide) (by decide) ?_
      show Steps p.tables e below (s₁.setTop (mkF m 14 #[.val (.int x0), .val (.long x1), .second, .val (.long x2), .second] [])) _
      refine XS.iconst X0.here hx rfl (hb hby d2_14) ?_
      show Steps p.tables e below (s₁.setTop (mkF m 15 #[.val (.int x0), .val (.long x1), .second, .val (.long x2), .second] [(.int (0 : Int32))])) _
      have hv : own_le x0 x1 x2 = (0 : Int32) := by unfold own_le; rw [if_pos hc1]
      rw [hv] at hr
      exact retI X0 hx Bd.returns (hb hby d2_15) hr
    · refine XS.ifNo X0.here hx rfl (hb hby d2_1) rfl ((if0 _ _).trans (feq hc1).1) ?_
      show Steps p.tables e below (s₁.setTop (mkF m 4 #[.val (.int x0), .val (.long x1), .second, .val (.long x2), .second] [])) _
      refine XS.lloadN X0.here hx rfl (hb hby d2_4) rfl ?_
      show Steps p.tables e below (s₁.setTop (mkF m 5 #[.val (.int x0), .val (.long x1), .second, .val (.long x2), .second] [(.long x1)])) _
      refine XS.lloadN X0.here hx rfl (hb hby d2_5) rfl ?_
      show Steps p.tables e below (s₁.setTop (mkF m 6 #[.val (.int x0), .val (.long x1), .second, .val (.long x2), .second] [(.long x2), (.long x1)])) _
      refine XS.lcmp X0.here hx rfl (hb hby d2_6) rfl ?_
      show Steps p.tables e below (s₁.setTop (mkF m 7 #[.val (.int x0), .val (.long x1), .second, .val (.long x2), .second] [(.int (lcmpW x1 x2))])) _
      by_cases hc7 : (0 : Int32) < (lcmpW x1 x2)
      · refine XS.ifYes X0.here hx rfl (pc0 := 7) (pc' := 14) rfl (hb hby d2_7) rfl ((if0 _ _).trans (tlt hc7).2.2.1) (by decide) (by decide) ?_
        show Steps p.tables e below (s₁.setTop (mkF m 14 #[.val (.int x0), .val (.long x1), .second, .val (.long x2), .second] [])) _
        refine XS.iconst X0.here hx rfl (hb hby d2_14) ?_
        show Steps p.tables e below (s₁.setTop (mkF m 15 #[.val (.int x0), .val (.long x1), .second, .val (.long x2), .second] [(.int (0 : Int32))])) _
        have hv : own_le x0 x1 x2 = (0 : Int32) := by unfold own_le; rw [if_neg hc1, if_pos hc7]
        rw [hv] at hr
        exact retI X0 hx Bd.returns (hb hby d2_15) hr
      · refine XS.ifNo X0.here hx rfl (hb hby d2_7) rfl ((if0 _ _).trans (flt hc7).2.2.1) ?_
        show Steps p.tables e below (s₁.setTop (mkF m 10 #[.val (.int x0), .val (.long x1), .second, .val (.long x2), .second] [])) _
        refine XS.iconst X0.here hx rfl (hb hby d2_10) ?_
        show Steps p.tables e below (s₁.setTop (mkF m 11 #[.val (.int x0), .val (.long x1), .second, .val (.long x2), .second] [(.int (1 : Int32))])) _
        refine XS.goto X0.here hx rfl (pc0 := 11) (pc' := 15) rfl (hb hby d2_11) (by decide) (by decide) ?_
        show Steps p.tables e below (s₁.setTop (mkF m 15 #[.val (.int x0), .val (.long x1), .second, .val (.long x2), .second] [(.int (1 : Int32))])) _
        have hv : own_le x0 x1 x2 = (1 : Int32) := by unfold own_le; rw [if_neg hc1, if_neg hc7]
        rw [hv] at hr
        exact retI X0 hx Bd.returns (hb hby d2_15) hr
  · exact ⟨rfl, N0, e0⟩
set_option maxRecDepth 65536 in
set_option maxHeartbeats 40000000 in
theorem rmia_0 (l : Launch) (Z : State) (a0 : Array Value) (hw : ∀ d ∈ tables_1, d.before a0 Z = true) (ws : List Jvm.Cond) (x0 : Addr) (k0 : ClassId) (w0 w1 w2 w3 ad : Int64) (h0 : Heap) (n0 : Nat) (Z0 : n0 ≤ h0.size) (V_x0 : Arv Z h0 x0 k0 .long (4 : Int32) [(.long w0), (.long w1), (.long w2), (.long w3)] (.long (0 : Int64))) :
    MetFree l (⟨"com/example/rootline/rootline/heap/ClassObjects", "indexAbove", "([JIJ)I"⟩ : MethodName) (head1 (Jvm.Cond.code (⟨"com/example/rootline/rootline/heap/ClassObjects", "indexAbove", "([JIJ)I"⟩ : MethodName) prog_88_method_6_code 7 (some .int) :: ws) ({ frames := 0, cells := 0, slots := 0, locals := 0 } : Room)) (fun a U => a = #[(.ref x0), (.int (0 : Int32)), (.long ad)] ∧ Z.Warmed39 U.vm ∧ U.heap = h0) (fun _ _ _ _ _ => True) (fun _ U o U' => ∃ v L, o = .returned v ∧ (QP (some (.int (own_ia0 w0 w1 w2 w3 ad))) h0 n0 v U'.heap L) ∧ FrameEnd U o U' L ({ frames := 0, cells := 0, slots := 0, locals := 0 } : Room).cells ({ frames := 0, cells := 0, slots := 0, locals := 0 } : Room).slots) := by
  refine MetFree.of_bodySF (plainFor_of_name pn_3) hisR ?_
  intro p e s m args below meth c s₁ Bd hml0 hP hK
  obtain ⟨rfl, hZ, hh⟩ := hP
  have hx := Bd.exec
  have hby := Bd.bytes
  have hml : c.maxLocals = 7 := hml0
  have hown : s.vm.findClass "com/example/rootline/rootline/heap/ClassObjects" = some m.cls := findClass_of_methodNamed Bd.named
  have hnm := (name_of_methodNamed Bd.named Bd.method).1
  have X0 : Stand p l e ({ frames := 0, cells := 0, slots := 0, locals := 0 } : Room) s m #[(.ref x0), (.int (0 : Int32)), (.long ad)] below meth c s₁ [] 0 0 := Stand.of_body Bd
  have e0 : s₁.heap = h0 := by rw [← hh, Bd.state]; rfl
  have N0 := Fr.nil n0
  have pre0 : ∀ t, Steps p.tables e below (s₁.setTop (mkF m 0 #[.val (.ref x0), .val (.int (0 : Int32)), .val (.long ad), .second, .unset, .unset, .unset] [])) t → Steps p.tables e below (s₁.setTop (entryFrame m #[(.ref x0), (.int (0 : Int32)), (.long ad)] 7)) t := fun t k => castTop (ef_3 m x0 (0 : Int32) ad) k
  obtain ⟨fs, hr, hrun, hended, hW, hsame⟩ := X0.leave (v := some (.int (own_ia0 w0 w1 w2 w3 ad))) (fun h => by rw [Bd.returns] at h; cases h)
  refine ⟨_, _, pre0 _ ?_, hrun, hended, _, _, rfl, ?_, ⟨_, rfl⟩, hW, hsame.mono (by decide) (by decide)⟩
  · show Steps p.tables e below (s₁.setTop (mkF m 0 #[.val (.ref x0), .val (.int (0 : Int32)), .val (.long ad), .second, .unset, .unset, .unset] [])) _
    refine XS.iconst X0.here hx rfl (hb hby d3_0) ?_
    show Steps p.tables e below (s₁.setTop (mkF m 1 #[.val (.ref x0), .val (.int (0 : Int32)), .val (.long ad), .second, .unset, .unset, .unset] [(.int (0 : Int32))])) _
    refine XS.istore X0.here hx rfl (hb hby d3_1) rfl (l' := #[.val (.ref x0), .val (.int (0 : Int32)), .val (.long ad), .second, .val (.int (0 : Int32)), .unset, .unset]) rfl ?_
    show Steps p.tables e below (s₁.setTop (mkF m 3 #[.val (.ref x0), .val (.int (0 : Int32)), .val (.long ad), .second, .val (.int (0 : Int32)), .unset, .unset] [])) _
    refine XS.iloadN X0.here hx rfl (hb hby d3_3) rfl ?_
    show Steps p.tables e below (s₁.setTop (mkF m 4 #[.val (.ref x0), .val (.int (0 : Int32)), .val (.long ad), .second, .val (.int (0 : Int32)), .unset, .unset] [(.int (0 : Int32))])) _
    refine XS.istore X0.here hx rfl (hb hby d3_4) rfl (l' := #[.val (.ref x0), .val (.int (0 : Int32)), .val (.long ad), .second, .val (.int (0 : Int32)), .val (.int (0 : Int32)), .unset]) rfl ?_
    show Steps p.tables e below (s₁.setTop (mkF m 6 #[.val (.ref x0), .val (.int (0 : Int32)), .val (.long ad), .second, .val (.int (0 : Int32)), .val (.int (0 : Int32)), .unset] [])) _
    refine XS.iload X0.here hx rfl (hb hby d3_6) rfl ?_
    show Steps p.tables e below (s₁.setTop (mkF m 8 #[.val (.ref x0), .val (.int (0 : Int32)), .val (.long ad), .second, .val (.int (0 : Int32)), .val (.int (0 : Int32)), .unset] [(.int (0 : Int32))])) _
    refine XS.iload X0.here hx rfl (hb hby d3_8) rfl ?_
    show Steps p.tables e below (s₁.setTop (mkF m 10 #[.val (.ref x0), .val (.int (0 : Int32)), .val (.long ad), .second, .val (.int (0 : Int32)), .val (.int (0 : Int32)), .unset] [(.int (0 : Int32)), (.int (0 : Int32))])) _
    refine XS.icmpYes X0.here hx rfl (pc0 := 10) (pc' := 47) rfl (hb hby d3_10) rfl (flt (by decide : ¬ ((0 : Int32) < (0 : Int32)))).2.1 (by decide) (by decide) ?_
    show Steps p.tables e below (s₁.setTop (mkF m 47 #[.val (.ref x0), .val (.int (0 : Int32)), .val (.long ad), .second, .val (.int (0 : Int32)), .val (.int (0 : Int32)), .unset] [])) _
    refine XS.iload X0.here hx rfl (hb hby d3_47) rfl ?_
    show Steps p.tables e below (s₁.setTop (mkF m 49 #[.val (.ref x0), .val (.int (0 : Int32)), .val (.long ad), .second, .val (.int (0 : Int32)), .val (.int (0 : Int32)), .unset] [(.int (0 : Int32))])) _
    exact retI X0 hx Bd.returns (hb hby d3_49) hr
  · exact ⟨rfl, N0, e0⟩
set_option maxRecDepth 65536 in
set_option maxHeartbeats 40000000 in
theorem rmia_1 (l : Launch) (Z : State) (a0 : Array Value) (hw : ∀ d ∈ tables_1, d.before a0 Z = true) (ws : List Jvm.Cond) (x0 : Addr) (k0 : ClassId) (w0 w1 w2 w3 ad : Int64) (h0 : Heap) (n0 : Nat) (Z0 : n0 ≤ h0.size) (V_x0 : Arv Z h0 x0 k0 .long (4 : Int32) [(.long w0), (.long w1), (.long w2), (.long w3)] (.long (0 : Int64))) :
    MetFree l (⟨"com/example/rootline/rootline/heap/ClassObjects", "indexAbove", "([JIJ)I"⟩ : MethodName) (head1 (Jvm.Cond.code (⟨"com/example/rootline/rootline/heap/ClassObjects", "indexAbove", "([JIJ)I"⟩ : MethodName) prog_88_method_6_code 7 (some .int) :: ws) ({ frames := 0, cells := 0, slots := 0, locals := 0 } : Room)) (fun a U => a = #[(.ref x0), (.int (1 : Int32)), (.long ad)] ∧ Z.Warmed39 U.vm ∧ U.heap = h0) (fun _ _ _ _ _ => True) (fun _ U o U' => ∃ v L, o = .returned v ∧ (QP (some (.int (own_ia1 w0 w1 w2 w3 ad))) h0 n0 v U'.heap L) ∧ FrameEnd U o U' L ({ frames := 0, cells := 0, slots := 0, locals := 0 } : Room).cells ({ frames := 0, cells := 0, slots := 0, locals := 0 } : Room).slots) := by
  refine MetFree.of_bodySF (plainFor_of_name pn_3) hisR ?_
  intro p e s m args below meth c s₁ Bd hml0 hP hK
  obtain ⟨rfl, hZ, hh⟩ := hP
  have hx := Bd.exec
  have hby := Bd.bytes
  have hml : c.maxLocals = 7 := hml0
  have hown : s.vm.findClass "com/example/rootline/rootline/heap/ClassObjects" = some m.cls := findClass_of_methodNamed Bd.named
  have hnm := (name_of_methodNamed Bd.named Bd.method).1
  have X0 : Stand p l e ({ frames := 0, cells := 0, slots := 0, locals := 0 } : Room) s m #[(.ref x0), (.int (1 : Int32)), (.long ad)] below meth c s₁ [] 0 0 := Stand.of_body Bd
  have e0 : s₁.heap = h0 := by rw [← hh, Bd.state]; rfl
  have N0 := Fr.nil n0
  have pre0 : ∀ t, Steps p.tables e below (s₁.setTop (mkF m 0 #[.val (.ref x0), .val (.int (1 : Int32)), .val (.long ad), .second, .unset, .unset, .unset] [])) t → Steps p.tables e below (s₁.setTop (entryFrame m #[(.ref x0), (.int (1 : Int32)), (.long ad)] 7)) t := fun t k => castTop (ef_3 m x0 (1 : Int32) ad) k
  obtain ⟨fs, hr, hrun, hended, hW, hsame⟩ := X0.leave (v := some (.int (own_ia1 w0 w1 w2 w3 ad))) (fun h => by rw [Bd.returns] at h; cases h)
  refine ⟨_, _, pre0 _ ?_, hrun, hended, _, _, rfl, ?_, ⟨_, rfl⟩, hW, hsame.mono (by decide) (by decide)⟩
  · show Steps p.tables e below (s₁.setTop (mkF m 0 #[.val (.ref x0), .val (.int (1 : Int32)), .val (.long ad), .second, .unset, .unset, .unset] [])) _
    refine XS.iconst X0.here hx rfl (hb hby d3_0) ?_
    show Steps p.tables e below (s₁.setTop (mkF m 1 #[.val (.ref x0), .val (.int (1 : Int32)), .val (.long ad), .second, .unset, .unset, .unset] [(.int (0 : Int32))])) _
    refine XS.istore X0.here hx rfl (hb hby d3_1) rfl (l' := #[.val (.ref x0), .val (.int (1 : Int32)), .val (.long ad), .second, .val (.int (0 : Int32)), .unset, .unset]) rfl ?_
    show Steps p.tables e below (s₁.setTop (mkF m 3 #[.val (.ref x0), .val (.int (1 : Int32)), .val (.long ad), .second, .val (.int (0 : Int32)), .unset, .unset] [])) _
    refine XS.iloadN X0.here hx rfl (hb hby d3_3) rfl ?_
    show Steps p.tables e below (s₁.setTop (mkF m 4 #[.val (.ref x0), .val (.int (1 : Int32)), .val (.long ad), .second, .val (.int (0 : Int32)), .unset, .unset] [(.int (1 : Int32))])) _
    refine XS.istore X0.here hx rfl (hb hby d3_4) rfl (l' := #[.val (.ref x0), .val (.int (1 : Int32)), .val (.long ad), .second, .val (.int (0 : Int32)), .val (.int (1 : Int32)), .unset]) rfl ?_
    show Steps p.tables e below (s₁.setTop (mkF m 6 #[.val (.ref x0), .val (.int (1 : Int32)), .val (.long ad), .second, .val (.int (0 : Int32)), .val (.int (1 : Int32)), .unset] [])) _
    refine XS.iload X0.here hx rfl (hb hby d3_6) rfl ?_
    show Steps p.tables e below (s₁.setTop (mkF m 8 #[.val (.ref x0), .val (.int (1 : Int32)), .val (.long ad), .second, .val (.int (0 : Int32)), .val (.int (1 : Int32)), .unset] [(.int (0 : Int32))])) _
    refine XS.iload X0.here hx rfl (hb hby d3_8) rfl ?_
    show Steps p.tables e below (s₁.setTop (mkF m 10 #[.val (.ref x0), .val (.int (1 : Int32)), .val (.long ad), .second, .val (.int (0 : Int32)), .val (.int (1 : Int32)), .unset] [(.int (1 : Int32)), (.int (0 : Int32))])) _
    refine XS.icmpNo X0.here hx rfl (hb hby d3_10) rfl (tlt (by decide : (0 : Int32) < (1 : Int32))).2.1 ?_
    show Steps p.tables e below (s₁.setTop (mkF m 13 #[.val (.ref x0), .val (.int (1 : Int32)), .val (.long ad), .second, .val (.int (0 : Int32)), .val (.int (1 : Int32)), .unset] [])) _
    refine XS.iload X0.here hx rfl (hb hby d3_13) rfl ?_
    show Steps p.tables e below (s₁.setTop (mkF m 15 #[.val (.ref x0), .val (.int (1 : Int32)), .val (.long ad), .second, .val (.int (0 : Int32)), .val (.int (1 : Int32)), .unset] [(.int (0 : Int32))])) _
    refine XS.iload X0.here hx rfl (hb hby d3_15) rfl ?_
    show Steps p.tables e below (s₁.setTop (mkF m 17 #[.val (.ref x0), .val (.int (1 : Int32)), .val (.long ad), .second, .val (.int (0 : Int32)), .val (.int (1 : Int32)), .unset] [(.int (1 : Int32)), (.int (0 : Int32))])) _
    refine XS.iadd X0.here hx rfl (hb hby d3_17) rfl ?_
    show Steps p.tables e below (s₁.setTop (mkF m 18 #[.val (.ref x0), .val (.int (1 : Int32)), .val (.long ad), .second, .val (.int (0 : Int32)), .val (.int (1 : Int32)), .unset] [(.int ((0 : Int32) + (1 : Int32)))])) _
    rw [show ((0 : Int32) + (1 : Int32)) = (1 : Int32) from by decide]
    show Steps p.tables e below (s₁.setTop (mkF m 18 #[.val (.ref x0), .val (.int (1 : Int32)), .val (.long ad), .second, .val (.int (0 : Int32)), .val (.int (1 : Int32)), .unset] [(.int (1 : Int32))])) _
    refine XS.iconst X0.here hx rfl (hb hby d3_18) ?_
    show Steps p.tables e below (s₁.setTop (mkF m 19 #[.val (.ref x0), .val (.int (1 : Int32)), .val (.long ad), .second, .val (.int (0 : Int32)), .val (.int (1 : Int32)), .unset] [(.int (1 : Int32)), (.int (1 : Int32))])) _
    refine XS.iushr X0.here hx rfl (hb hby d3_19) rfl ?_
    show Steps p.tables e below (s₁.setTop (mkF m 20 #[.val (.ref x0), .val (.int (1 : Int32)), .val (.long ad), .second, .val (.int (0 : Int32)), .val (.int (1 : Int32)), .unset] [(.int (((1 : Int32).toUInt32 >>> ((1 : Int32) &&& 31).toUInt32).toInt32))])) _
    rw [show (((1 : Int32).toUInt32 >>> ((1 : Int32) &&& 31).toUInt32).toInt32) = (0 : Int32) from by decide]
    show Steps p.tables e below (s₁.setTop (mkF m 20 #[.val (.ref x0), .val (.int (1 : Int32)), .val (.long ad), .second, .val (.int (0 : Int32)), .val (.int (1 : Int32)), .unset] [(.int (0 : Int32))])) _
    refine XS.istore X0.here hx rfl (hb hby d3_20) rfl (l' := #[.val (.ref x0), .val (.int (1 : Int32)), .val (.long ad), .second, .val (.int (0 : Int32)), .val (.int (1 : Int32)), .val (.int (0 : Int32))]) rfl ?_
    show Steps p.tables e below (s₁.setTop (mkF m 22 #[.val (.ref x0), .val (.int (1 : Int32)), .val (.long ad), .second, .val (.int (0 : Int32)), .val (.int (1 : Int32)), .val (.int (0 : Int32))] [])) _
    refine XS.aloadN X0.here hx rfl (hb hby d3_22) rfl rfl ?_
    show Steps p.tables e below (s₁.setTop (mkF m 23 #[.val (.ref x0), .val (.int (1 : Int32)), .val (.long ad), .second, .val (.int (0 : Int32)), .val (.int (1 : Int32)), .val (.int (0 : Int32))] [(.ref x0)])) _
    refine XS.iload X0.here hx rfl (hb hby d3_23) rfl ?_
    show Steps p.tables e below (s₁.setTop (mkF m 25 #[.val (.ref x0), .val (.int (1 : Int32)), .val (.long ad), .second, .val (.int (0 : Int32)), .val (.int (1 : Int32)), .val (.int (0 : Int32))] [(.int (0 : Int32)), (.ref x0)])) _
    refine own_ldJ X0 hx hZ e0 V_x0 (j := (0 : Int32)) (w := w0) ⟨by decide, by decide⟩ rfl (g := (mkF m 25 #[.val (.ref x0), .val (.int (1 : Int32)), .val (.long ad), .second, .val (.int (0 : Int32)), .val (.int (1 : Int32)), .val (.int (0 : Int32))] [(.int (0 : Int32)), (.ref x0)])) rfl rfl (hb hby d3_25) ?_
    show Steps p.tables e below (s₁.setTop (mkF m 26 #[.val (.ref x0), .val (.int (1 : Int32)), .val (.long ad), .second, .val (.int (0 : Int32)), .val (.int (1 : Int32)), .val (.int (0 : Int32))] [(.long w0)])) _
    refine XS.lloadN X0.here hx rfl (hb hby d3_26) rfl ?_
    show Steps p.tables e below (s₁.setTop (mkF m 27 #[.val (.ref x0), .val (.int (1 : Int32)), .val (.long ad), .second, .val (.int (0 : Int32)), .val (.int (1 : Int32)), .val (.int (0 : Int32))] [(.long ad), (.long w0)])) _
    refine XS.lcmp X0.here hx rfl (hb hby d3_27) rfl ?_
    show Steps p.tables e below (s₁.setTop (mkF m 28 #[.val (.ref x0), .val (.int (1 : Int32)), .val (.long ad), .second, .val (.int (0 : Int32)), .val (.int (1 : Int32)), .val (.int (0 : Int32))] [(.int (lcmpW w0 ad))])) _
    by_cases hc28 : (0 : Int32) < (lcmpW w0 ad)
    · refine XS.ifYes X0.here hx rfl (pc0 := 28) (pc' := 40) rfl (hb hby d3_28) rfl ((if0 _ _).trans (tlt hc28).2.2.1) (by decide) (by decide) ?_
      show Steps p.tables e below (s₁.setTop (mkF m 40 #[.val (.ref x0), .val (.int (1 : Int32)), .val (.long ad), .second, .val (.int (0 : Int32)), .val (.int (1 : Int32)), .val (.int (0 : Int32))] [])) _
      refine XS.iload X0.here hx rfl (hb hby d3_40) rfl ?_
      show Steps p.tables e below (s₁.setTop (mkF m 42 #[.val (.ref x0), .val (.int (1 : Int32)), .val (.long ad), .second, .val (.int (0 : Int32)), .val (.int (1 : Int32)), .val (.int (0 : Int32))] [(.int (0 : Int32))])) _
      refine XS.istore X0.here hx rfl (hb hby d3_42) rfl (l' := #[.val (.ref x0), .val (.int (1 : Int32)), .val (.long ad), .second, .val (.int (0 : Int32)), .val (.int (0 : Int32)), .val (.int (0 : Int32))]) rfl ?_
      show Steps p.tables e below (s₁.setTop (mkF m 44 #[.val (.ref x0), .val (.int (1 : Int32)), .val (.long ad), .second, .val (.int (0 : Int32)), .val (.int (0 : Int32)), .val (.int (0 : Int32))] [])) _
      refine XS.goto X0.here hx rfl (pc0 := 44) (pc' := 6) rfl (hb hby d3_44) (by decide) (by decide) ?_
      show Steps p.tables e below (s₁.setTop (mkF m 6 #[.val (.ref x0), .val (.int (1 : Int32)), .val (.long ad), .second, .val (.int (0 : Int32)), .val (.int (0 : Int32)), .val (.int (0 : Int32))] [])) _
      refine XS.iload X0.here hx rfl (hb hby d3_6) rfl ?_
      show Steps p.tables e below (s₁.setTop (mkF m 8 #[.val (.ref x0), .val (.int (1 : Int32)), .val (.long ad), .second, .val (.int (0 : Int32)), .val (.int (0 : Int32)), .val (.int (0 : Int32))] [(.int (0 : Int32))])) _
      refine XS.iload X0.here hx rfl (hb hby d3_8) rfl ?_
      show Steps p.tables e below (s₁.setTop (mkF m 10 #[.val (.ref x0), .val (.int (1 : Int32)), .val (.long ad), .second, .val (.int (0 : Int32)), .val (.int (0 : Int32)), .val (.int (0 : Int32))] [(.int (0 : Int32)), (.int (0 : Int32))])) _
      refine XS.icmpYes X0.here hx rfl (pc0 := 10) (pc' := 47) rfl (hb hby d3_10) rfl (flt (by decide : ¬ ((0 : Int32) < (0 : Int32)))).2.1 (by decide) (by decide) ?_
      show Steps p.tables e below (s₁.setTop (mkF m 47 #[.val (.ref x0), .val (.int (1 : Int32)), .val (.long ad), .second, .val (.int (0 : Int32)), .val (.int (0 : Int32)), .val (.int (0 : Int32))] [])) _
      refine XS.iload X0.here hx rfl (hb hby d3_47) rfl ?_
      show Steps p.tables e below (s₁.setTop (mkF m 49 #[.val (.ref x0), .val (.int (1 : Int32)), .val (.long ad), .second, .val (.int (0 : Int32)), .val (.int (0 : Int32)), .val (.int (0 : Int32))] [(.int (0 : Int32))])) _
      have hv : own_ia1 w0 w1 w2 w3 ad = (0 : Int32) := by unfold own_ia1; rw [if_pos hc28]
      rw [hv] at hr
      exact retI X0 hx Bd.returns (hb hby d3_49) hr
    · refine XS.ifNo X0.here hx rfl (hb hby d3_28) rfl ((if0 _ _).trans (flt hc28).2.2.1) ?_
      show Steps p.tables e below (s₁.setTop (mkF m 31 #[.val (.ref x0), .val (.int (1 : Int32)), .val (.long ad), .second, .val (.int (0 : Int32)), .val (.int (1 : Int32)), .val (.int (0 : Int32))] [])) _
      refine XS.iload X0.here hx rfl (hb hby d3_31) rfl ?_
      show Steps p.tables e below (s₁.setTop (mkF m 33 #[.val (.ref x0), .val (.int (1 : Int32)), .val (.long ad), .second, .val (.int (0 : Int32)), .val (.int (1 : Int32)), .val (.int (0 : Int32))] [(.int (0 : Int32))])) _
      refine XS.iconst X0.here hx rfl (hb hby d3_33) ?_
      show Steps p.tables e below (s₁.setTop (mkF m 34 #[.val (.ref x0), .val (.int (1 : Int32)), .val (.long ad), .second, .val (.int (0 : Int32)), .val (.int (1 : Int32)), .val (.int (0 : Int32))] [(.int (1 : Int32)), (.int (0 : Int32))])) _
      refine XS.iadd X0.here hx rfl (hb hby d3_34) rfl ?_
      show Steps p.tables e below (s₁.setTop (mkF m 35 #[.val (.ref x0), .val (.int (1 : Int32)), .val (.long ad), .second, .val (.int (0 : Int32)), .val (.int (1 : Int32)), .val (.int (0 : Int32))] [(.int ((0 : Int32) + (1 : Int32)))])) _
      rw [show ((0 : Int32) + (1 : Int32)) = (1 : Int32) from by decide]
      show Steps p.tables e below (s₁.setTop (mkF m 35 #[.val (.ref x0), .val (.int (1 : Int32)), .val (.long ad), .second, .val (.int (0 : Int32)), .val (.int (1 : Int32)), .val (.int (0 : Int32))] [(.int (1 : Int32))])) _
      refine XS.istore X0.here hx rfl (hb hby d3_35) rfl (l' := #[.val (.ref x0), .val (.int (1 : Int32)), .val (.long ad), .second, .val (.int (1 : Int32)), .val (.int (1 : Int32)), .val (.int (0 : Int32))]) rfl ?_
      show Steps p.tables e below (s₁.setTop (mkF m 37 #[.val (.ref x0), .val (.int (1 : Int32)), .val (.long ad), .second, .val (.int (1 : Int32)), .val (.int (1 : Int32)), .val (.int (0 : Int32))] [])) _
      refine XS.goto X0.here hx rfl (pc0 := 37) (pc' := 44) rfl (hb hby d3_37) (by decide) (by decide) ?_
      show Steps p.tables e below (s₁.setTop (mkF m 44 #[.val (.ref x0), .val (.int (1 : Int32)), .val (.long ad), .second, .val (.int (1 : Int32)), .val (.int (1 : Int32)), .val (.int (0 : Int32))] [])) _
      refine XS.goto X0.here hx rfl (pc0 := 44) (pc' := 6) rfl (hb hby d3_44) (by decide) (by decide) ?_
      show Steps p.tables e below (s₁.setTop (mkF m 6 #[.val (.ref x0), .val (.int (1 : Int32)), .val (.long ad), .second, .val (.int (1 : Int32)), .val (.int (1 : Int32)), .val (.int (0 : Int32))] [])) _
      refine XS.iload X0.here hx rfl (hb hby d3_6) rfl ?_
      show Steps p.tables e below (s₁.setTop (mkF m 8 #[.val (.ref x0), .val (.int (1 : Int32)), .val (.long ad), .second, .val (.int (1 : Int32)), .val (.int (1 : Int32)), .val (.int (0 : Int32))] [(.int (1 : Int32))])) _
      refine XS.iload X0.here hx rfl (hb hby d3_8) rfl ?_
      show Steps p.tables e below (s₁.setTop (mkF m 10 #[.val (.ref x0), .val (.int (1 : Int32)), .val (.long ad), .second, .val (.int (1 : Int32)), .val (.int (1 : Int32)), .val (.int (0 : Int32))] [(.int (1 : Int32)), (.int (1 : Int32))])) _
      refine XS.icmpYes X0.here hx rfl (pc0 := 10) (pc' := 47) rfl (hb hby d3_10) rfl (flt (by decide : ¬ ((1 : Int32) < (1 : Int32)))).2.1 (by decide) (by decide) ?_
      show Steps p.tables e below (s₁.setTop (mkF m 47 #[.val (.ref x0), .val (.int (1 : Int32)), .val (.long ad), .second, .val (.int (1 : Int32)), .val (.int (1 : Int32)), .val (.int (0 : Int32))] [])) _
      refine XS.iload X0.here hx rfl (hb hby d3_47) rfl ?_
      show Steps p.tables e below (s₁.setTop (mkF m 49 #[.val (.ref x0), .val (.int (1 : Int32)), .val (.long ad), .second, .val (.int (1 : Int32)), .val (.int (1 : Int32)), .val (.int (0 : Int32))] [(.int (1 : Int32))])) _
      have hv : own_ia1 w0 w1 w2 w3 ad = (1 : Int32) := by unfold own_ia1; rw [if_neg hc28]
      rw [hv] at hr
      exact retI X0 hx Bd.returns (hb hby d3_49) hr
  · exact ⟨rfl, N0, e0⟩
set_option maxRecDepth 65536 in
set_option maxHeartbeats 40000000 in
theorem rmia_2 (l : Launch) (Z : State) (a0 : Array Value) (hw : ∀ d ∈ tables_1, d.before a0 Z = true) (ws : List Jvm.Cond) (x0 : Addr) (k0 : ClassId) (w0 w1 w2 w3 ad : Int64) (h0 : Heap) (n0 : Nat) (Z0 : n0 ≤ h0.size) (V_x0 : Arv Z h0 x0 k0 .long (4 : Int32) [(.long w0), (.long w1), (.long w2), (.long w3)] (.long (0 : Int64))) :
    MetFree l (⟨"com/example/rootline/rootline/heap/ClassObjects", "indexAbove", "([JIJ)I"⟩ : MethodName) (head1 (Jvm.Cond.code (⟨"com/example/rootline/rootline/heap/ClassObjects", "indexAbove", "([JIJ)I"⟩ : MethodName) prog_88_method_6_code 7 (some .int) :: ws) ({ frames := 0, cells := 0, slots := 0, locals := 0 } : Room)) (fun a U => a = #[(.ref x0), (.int (2 : Int32)), (.long ad)] ∧ Z.Warmed39 U.vm ∧ U.heap = h0) (fun _ _ _ _ _ => True) (fun _ U o U' => ∃ v L, o = .returned v ∧ (QP (some (.int (own_ia2 w0 w1 w2 w3 ad))) h0 n0 v U'.heap L) ∧ FrameEnd U o U' L ({ frames := 0, cells := 0, slots := 0, locals := 0 } : Room).cells ({ frames := 0, cells := 0, slots := 0, locals := 0 } : Room).slots) := by
  refine MetFree.of_bodySF (plainFor_of_name pn_3) hisR ?_
  intro p e s m args below meth c s₁ Bd hml0 hP hK
  obtain ⟨rfl, hZ, hh⟩ := hP
  have hx := Bd.exec
  have hby := Bd.bytes
  have hml : c.maxLocals = 7 := hml0
  have hown : s.vm.findClass "com/example/rootline/rootline/heap/ClassObjects" = some m.cls := findClass_of_methodNamed Bd.named
  have hnm := (name_of_methodNamed Bd.named Bd.method).1
  have X0 : Stand p l e ({ frames := 0, cells := 0, slots := 0, locals := 0 } : Room) s m #[(.ref x0), (.int (2 : Int32)), (.long ad)] below meth c s₁ [] 0 0 := Stand.of_body Bd
  have e0 : s₁.heap = h0 := by rw [← hh, Bd.state]; rfl
  have N0 := Fr.nil n0
  have pre0 : ∀ t, Steps p.tables e below (s₁.setTop (mkF m 0 #[.val (.ref x0), .val (.int (2 : Int32)), .val (.long ad), .second, .unset, .unset, .unset] [])) t → Steps p.tables e below (s₁.setTop (entryFrame m #[(.ref x0), (.int (2 : Int32)), (.long ad)] 7)) t := fun t k => castTop (ef_3 m x0 (2 : Int32) ad) k
  obtain ⟨fs, hr, hrun, hended, hW, hsame⟩ := X0.leave (v := some (.int (own_ia2 w0 w1 w2 w3 ad))) (fun h => by rw [Bd.returns] at h; cases h)
  refine ⟨_, _, pre0 _ ?_, hrun, hended, _, _, rfl, ?_, ⟨_, rfl⟩, hW, hsame.mono (by decide) (by decide)⟩
  · show Steps p.tables e below (s₁.setTop (mkF m 0 #[.val (.ref x0), .val (.int (2 : Int32)), .val (.long ad), .second, .unset, .unset, .unset] [])) _
    refine XS.iconst X0.here hx rfl (hb hby d3_0) ?_
    show Steps p.tables e below (s₁.setTop (mkF m 1 #[.val (.ref x0), .val (.int (2 : Int32)), .val (.long ad), .second, .unset, .unset, .unset] [(.int (0 : Int32))])) _
    refine XS.istore X0.here hx rfl (hb hby d3_1) rfl (l' := #[.val (.ref x0), .val (.int (2 : Int32)), .val (.long ad), .second, .val (.int (0 : Int32)), .unset, .unset]) rfl ?_
    show Steps p.tables e below (s₁.setTop (mkF m 3 #[.val (.ref x0), .val (.int (2 : Int32)), .val (.long ad), .second, .val (.int (0 : Int32)), .unset, .unset] [])) _
    refine XS.iloadN X0.here hx rfl (hb hby d3_3) rfl ?_
    show Steps p.tables e below (s₁.setTop (mkF m 4 #[.val (.ref x0), .val (.int (2 : Int32)), .val (.long ad), .second, .val (.int (0 : Int32)), .unset, .unset] [(.int (2 : Int32))])) _
    refine XS.istore X0.here hx rfl (hb hby d3_4) rfl (l' := #[.val (.ref x0), .val (.int (2 : Int32)), .val (.long ad), .second, .val (.int (0 : Int32)), .val (.int (2 : Int32)), .unset]) rfl ?_
    show Steps p.tables e below (s₁.setTop (mkF m 6 #[.val (.ref x0), .val (.int (2 : Int32)), .val (.long ad), .second, .val (.int (0 : Int32)), .val (.int (2 : Int32)), .unset] [])) _
    refine XS.iload X0.here hx rfl (hb hby d3_6) rfl ?_
    show Steps p.tables e below (s₁.setTop (mkF m 8 #[.val (.ref x0), .val (.int (2 : Int32)), .val (.long ad), .second, .val (.int (0 : Int32)), .val (.int (2 : Int32)), .unset] [(.int (0 : Int32))])) _
    refine XS.iload X0.here hx rfl (hb hby d3_8) rfl ?_
    show Steps p.tables e below (s₁.setTop (mkF m 10 #[.val (.ref x0), .val (.int (2 : Int32)), .val (.long ad), .second, .val (.int (0 : Int32)), .val (.int (2 : Int32)), .unset] [(.int (2 : Int32)), (.int (0 : Int32))])) _
    refine XS.icmpNo X0.here hx rfl (hb hby d3_10) rfl (tlt (by decide : (0 : Int32) < (2 : Int32))).2.1 ?_
    show Steps p.tables e below (s₁.setTop (mkF m 13 #[.val (.ref x0), .val (.int (2 : Int32)), .val (.long ad), .second, .val (.int (0 : Int32)), .val (.int (2 : Int32)), .unset] [])) _
    refine XS.iload X0.here hx rfl (hb hby d3_13) rfl ?_
    show Steps p.tables e below (s₁.setTop (mkF m 15 #[.val (.ref x0), .val (.int (2 : Int32)), .val (.long ad), .second, .val (.int (0 : Int32)), .val (.int (2 : Int32)), .unset] [(.int (0 : Int32))])) _
    refine XS.iload X0.here hx rfl (hb hby d3_15) rfl ?_
    show Steps p.tables e below (s₁.setTop (mkF m 17 #[.val (.ref x0), .val (.int (2 : Int32)), .val (.long ad), .second, .val (.int (0 : Int32)), .val (.int (2 : Int32)), .unset] [(.int (2 : Int32)), (.int (0 : Int32))])) _
    refine XS.iadd X0.here hx rfl (hb hby d3_17) rfl ?_
    show Steps p.tables e below (s₁.setTop (mkF m 18 #[.val (.ref x0), .val (.int (2 : Int32)), .val (.long ad), .second, .val (.int (0 : Int32)), .val (.int (2 : Int32)), .unset] [(.int ((0 : Int32) + (2 : Int32)))])) _
    rw [show ((0 : Int32) + (2 : Int32)) = (2 : Int32) from by decide]
    show Steps p.tables e below (s₁.setTop (mkF m 18 #[.val (.ref x0), .val (.int (2 : Int32)), .val (.long ad), .second, .val (.int (0 : Int32)), .val (.int (2 : Int32)), .unset] [(.int (2 : Int32))])) _
    refine XS.iconst X0.here hx rfl (hb hby d3_18) ?_
    show Steps p.tables e below (s₁.setTop (mkF m 19 #[.val (.ref x0), .val (.int (2 : Int32)), .val (.long ad), .second, .val (.int (0 : Int32)), .val (.int (2 : Int32)), .unset] [(.int (1 : Int32)), (.int (2 : Int32))])) _
    refine XS.iushr X0.here hx rfl (hb hby d3_19) rfl ?_
    show Steps p.tables e below (s₁.setTop (mkF m 20 #[.val (.ref x0), .val (.int (2 : Int32)), .val (.long ad), .second, .val (.int (0 : Int32)), .val (.int (2 : Int32)), .unset] [(.int (((2 : Int32).toUInt32 >>> ((1 : Int32) &&& 31).toUInt32).toInt32))])) _
    rw [show (((2 : Int32).toUInt32 >>> ((1 : Int32) &&& 31).toUInt32).toInt32) = (1 : Int32) from by decide]
    show Steps p.tables e below (s₁.setTop (mkF m 20 #[.val (.ref x0), .val (.int (2 : Int32)), .val (.long ad), .second, .val (.int (0 : Int32)), .val (.int (2 : Int32)), .unset] [(.int (1 : Int32))])) _
    refine XS.istore X0.here hx rfl (hb hby d3_20) rfl (l' := #[.val (.ref x0), .val (.int (2 : Int32)), .val (.long ad), .second, .val (.int (0 : Int32)), .val (.int (2 : Int32)), .val (.int (1 : Int32))]) rfl ?_
    show Steps p.tables e below (s₁.setTop (mkF m 22 #[.val (.ref x0), .val (.int (2 : Int32)), .val (.long ad), .second, .val (.int (0 : Int32)), .val (.int (2 : Int32)), .val (.int (1 : Int32))] [])) _
    refine XS.aloadN X0.here hx rfl (hb hby d3_22) rfl rfl ?_
    show Steps p.tables e below (s₁.setTop (mkF m 23 #[.val (.ref x0), .val (.int (2 : Int32)), .val (.long ad), .second, .val (.int (0 : Int32)), .val (.int (2 : Int32)), .val (.int (1 : Int32))] [(.ref x0)])) _
    refine XS.iload X0.here hx rfl (hb hby d3_23) rfl ?_
    show Steps p.tables e below (s₁.setTop (mkF m 25 #[.val (.ref x0), .val (.int (2 : Int32)), .val (.long ad), .second, .val (.int (0 : Int32)), .val (.int (2 : Int32)), .val (.int (1 : Int32))] [(.int (1 : Int32)), (.ref x0)])) _
    refine own_ldJ X0 hx hZ e0 V_x0 (j := (1 : Int32)) (w := w1) ⟨by decide, by decide⟩ rfl (g := (mkF m 25 #[.val (.ref x0), .val (.int (2 : Int32)), .val (.long ad), .second, .val (.int (0 : Int32)), .val (.int (2 : Int32)), .val (.int (1 : Int32))] [(.int (1 : Int32)), (.ref x0)])) rfl rfl (hb hby d3_25) ?_
    show Steps p.tables e below (s₁.setTop (mkF m 26 #[.val (.ref x0), .val (.int (2 : Int32)), .val (.long ad), .second, .val (.int (0 : Int32)), .val (.int (2 : Int32)), .val (.int (1 : Int32))] [(.long w1)])) _
    refine XS.lloadN X0.here hx rfl (hb hby d3_26) rfl ?_
    show Steps p.tables e below (s₁.setTop (mkF m 27 #[.val (.ref x0), .val (.int (2 : Int32)), .val (.long ad), .second, .val (.int (0 : Int32)), .val (.int (2 : Int32)), .val (.int (1 : Int32))] [(.long ad), (.long w1)])) _
    refine XS.lcmp X0.here hx rfl (hb hby d3_27) rfl ?_
    show Steps p.tables e below (s₁.setTop (mkF m 28 #[.val (.ref x0), .val (.int (2 : Int32)), .val (.long ad), .second, .val (.int (0 : Int32)), .val (.int (2 : Int32)), .val (.int (1 : Int32))] [(.int (lcmpW w1 ad))])) _
    by_cases hc28 : (0 : Int32) < (lcmpW w1 ad)
    · refine XS.ifYes X0.here hx rfl (pc0 := 28) (pc' := 40) rfl (hb hby d3_28) rfl ((if0 _ _).trans (tlt hc28).2.2.1) (by decide) (by decide) ?_
      show Steps p.tables e below (s₁.setTop (mkF m 40 #[.val (.ref x0), .val (.int (2 : Int32)), .val (.long ad), .second, .val (.int (0 : Int32)), .val (.int (2 : Int32)), .val (.int (1 : Int32))] [])) _
      refine XS.iload X0.here hx rfl (hb hby d3_40) rfl ?_
      show Steps p.tables e below (s₁.setTop (mkF m 42 #[.val (.ref x0), .val (.int (2 : Int32)), .val (.long ad), .second, .val (.int (0 : Int32)), .val (.int (2 : Int32)), .val (.int (1 : Int32))] [(.int (1 : Int32))])) _
      refine XS.istore X0.here hx rfl (hb hby d3_42) rfl (l' := #[.val (.ref x0), .val (.int (2 : Int32)), .val (.long ad), .second, .val (.int (0 : Int32)), .val (.int (1 : Int32)), .val (.int (1 : Int32))]) rfl ?_
      show Steps p.tables e below (s₁.setTop (mkF m 44 #[.val (.ref x0), .val (.int (2 : Int32)), .val (.long ad), .second, .val (.int (0 : Int32)), .val (.int (1 : Int32)), .val (.int (1 : Int32))] [])) _
      refine XS.goto X0.here hx rfl (pc0 := 44) (pc' := 6) rfl (hb hby d3_44) (by decide) (by decide) ?_
      show Steps p.tables e below (s₁.setTop (mkF m 6 #[.val (.ref x0), .val (.int (2 : Int32)), .val (.long ad), .second, .val (.int (0 : Int32)), .val (.int (1 : Int32)), .val (.int (1 : Int32))] [])) _
      refine XS.iload X0.here hx rfl (hb hby d3_6) rfl ?_
      show Steps p.tables e below (s₁.setTop (mkF m 8 #[.val (.ref x0), .val (.int (2 : Int32)), .val (.long ad), .second, .val (.int (0 : Int32)), .val (.int (1 : Int32)), .val (.int (1 : Int32))] [(.int (0 : Int32))])) _
      refine XS.iload X0.here hx rfl (hb hby d3_8) rfl ?_
      show Steps p.tables e below (s₁.setTop (mkF m 10 #[.val (.ref x0), .val (.int (2 : Int32)), .val (.long ad), .second, .val (.int (0 : Int32)), .val (.int (1 : Int32)), .val (.int (1 : Int32))] [(.int (1 : Int32)), (.int (0 : Int32))])) _
      refine XS.icmpNo X0.here hx rfl (hb hby d3_10) rfl (tlt (by decide : (0 : Int32) < (1 : Int32))).2.1 ?_
      show Steps p.tables e below (s₁.setTop (mkF m 13 #[.val (.ref x0), .val (.int (2 : Int32)), .val (.long ad), .second, .val (.int (0 : Int32)), .val (.int (1 : Int32)), .val (.int (1 : Int32))] [])) _
      refine XS.iload X0.here hx rfl (hb hby d3_13) rfl ?_
      show Steps p.tables e below (s₁.setTop (mkF m 15 #[.val (.ref x0), .val (.int (2 : Int32)), .val (.long ad), .second, .val (.int (0 : Int32)), .val (.int (1 : Int32)), .val (.int (1 : Int32))] [(.int (0 : Int32))])) _
      refine XS.iload X0.here hx rfl (hb hby d3_15) rfl ?_
      show Steps p.tables e below (s₁.setTop (mkF m 17 #[.val (.ref x0), .val (.int (2 : Int32)), .val (.long ad), .second, .val (.int (0 : Int32)), .val (.int (1 : Int32)), .val (.int (1 : Int32))] [(.int (1 : Int32)), (.int (0 : Int32))])) _
      refine XS.iadd X0.here hx rfl (hb hby d3_17) rfl ?_
      show Steps p.tables e below (s₁.setTop (mkF m 18 #[.val (.ref x0), .val (.int (2 : Int32)), .val (.long ad), .second, .val (.int (0 : Int32)), .val (.int (1 : Int32)), .val (.int (1 : Int32))] [(.int ((0 : Int32) + (1 : Int32)))])) _
      rw [show ((0 : Int32) + (1 : Int32)) = (1 : Int32) from by decide]
      show Steps p.tables e below (s₁.setTop (mkF m 18 #[.val (.ref x0), .val (.int (2 : Int32)), .val (.long ad), .second, .val (.int (0 : Int32)), .val (.int (1 : Int32)), .val (.int (1 : Int32))] [(.int (1 : Int32))])) _
      refine XS.iconst X0.here hx rfl (hb hby d3_18) ?_
      show Steps p.tables e below (s₁.setTop (mkF m 19 #[.val (.ref x0), .val (.int (2 : Int32)), .val (.long ad), .second, .val (.int (0 : Int32)), .val (.int (1 : Int32)), .val (.int (1 : Int32))] [(.int (1 : Int32)), (.int (1 : Int32))])) _
      refine XS.iushr X0.here hx rfl (hb hby d3_19) rfl ?_
      show Steps p.tables e below (s₁.setTop (mkF m 20 #[.val (.ref x0), .val (.int (2 : Int32)), .val (.long ad), .second, .val (.int (0 : Int32)), .val (.int (1 : Int32)), .val (.int (1 : Int32))] [(.int (((1 : Int32).toUInt32 >>> ((1 : Int32) &&& 31).toUInt32).toInt32))])) _
      rw [show (((1 : Int32).toUInt32 >>> ((1 : Int32) &&& 31).toUInt32).toInt32) = (0 : Int32) from by decide]
      show Steps p.tables e below (s₁.setTop (mkF m 20 #[.val (.ref x0), .val (.int (2 : Int32)), .val (.long ad), .second, .val (.int (0 : Int32)), .val (.int (1 : Int32)), .val (.int (1 : Int32))] [(.int (0 : Int32))])) _
      refine XS.istore X0.here hx rfl (hb hby d3_20) rfl (l' := #[.val (.ref x0), .val (.int (2 : Int32)), .val (.long ad), .second, .val (.int (0 : Int32)), .val (.int (1 : Int32)), .val (.int (0 : Int32))]) rfl ?_
      show Steps p.tables e below (s₁.setTop (mkF m 22 #[.val (.ref x0), .val (.int (2 : Int32)), .val (.long ad), .second, .val (.int (0 : Int32)), .val (.int (1 : Int32)), .val (.int (0 : Int32))] [])) _
      refine XS.aloadN X0.here hx rfl (hb hby d3_22) rfl rfl ?_
      show Steps p.tables e below (s₁.setTop (mkF m 23 #[.val (.ref x0), .val (.int (2 : Int32)), .val (.long ad), .second, .val (.int (0 : Int32)), .val (.int (1 : Int32)), .val (.int (0 : Int32))] [(.ref x0)])) _
      refine XS.iload X0.here hx rfl (hb hby d3_23) rfl ?_
      show Steps p.tables e below (s₁.setTop (mkF m 25 #[.val (.ref x0), .val (.int (2 : Int32)), .val (.long ad), .second, .val (.int (0 : Int32)), .val (.int (1 : Int32)), .val (.int (0 : Int32))] [(.int (0 : Int32)), (.ref x0)])) _
      refine own_ldJ X0 hx hZ e0 V_x0 (j := (0 : Int32)) (w := w0) ⟨by decide, by decide⟩ rfl (g := (mkF m 25 #[.val (.ref x0), .val (.int (2 : Int32)), .val (.long ad), .second, .val (.int (0 : Int32)), .val (.int (1 : Int32)), .val (.int (0 : Int32))] [(.int (0 : Int32)), (.ref x0)])) rfl rfl (hb hby d3_25) ?_
      show Steps p.tables e below (s₁.setTop (mkF m 26 #[.val (.ref x0), .val (.int (2 : Int32)), .val (.long ad), .second, .val (.int (0 : Int32)), .val (.int (1 : Int32)), .val (.int (0 : Int32))] [(.long w0)])) _
      refine XS.lloadN X0.here hx rfl (hb hby d3_26) rfl ?_
      show Steps p.tables e below (s₁.setTop (mkF m 27 #[.val (.ref x0), .val (.int (2 : Int32)), .val (.long ad), .second, .val (.int (0 : Int32)), .val (.int (1 : Int32)), .val (.int (0 : Int32))] [(.long ad), (.long w0)])) _
      refine XS.lcmp X0.here hx rfl (hb hby d3_27) rfl ?_
      show Steps p.tables e below (s₁.setTop (mkF m 28 #[.val (.ref x0), .val (.int (2 : Int32)), .val (.long ad), .second, .val (.int (0 : Int32)), .val (.int (1 : Int32)), .val (.int (0 : Int32))] [(.int (lcmpW w0 ad))])) _
      by_cases hc28_ : (0 : Int32) < (lcmpW w0 ad)
      · refine XS.ifYes X0.here hx rfl (pc0 := 28) (pc' := 40) rfl (hb hby d3_28) rfl ((if0 _ _).trans (tlt hc28_).2.2.1) (by decide) (by decide) ?_
        show Steps p.tables e below (s₁.setTop (mkF m 40 #[.val (.ref x0), .val (.int (2 : Int32)), .val (.long ad), .second, .val (.int (0 : Int32)), .val (.int (1 : Int32)), .val (.int (0 : Int32))] [])) _
        refine XS.iload X0.here hx rfl (hb hby d3_40) rfl ?_
        show Steps p.tables e below (s₁.setTop (mkF m 42 #[.val (.ref x0), .val (.int (2 : Int32)), .val (.long ad), .second, .val (.int (0 : Int32)), .val (.int (1 : Int32)), .val (.int (0 : Int32))] [(.int (0 : Int32))])) _
        refine XS.istore X0.here hx rfl (hb hby d3_42) rfl (l' := #[.val (.ref x0), .val (.int (2 : Int32)), .val (.long ad), .second, .val (.int (0 : Int32)), .val (.int (0 : Int32)), .val (.int (0 : Int32))]) rfl ?_
        show Steps p.tables e below (s₁.setTop (mkF m 44 #[.val (.ref x0), .val (.int (2 : Int32)), .val (.long ad), .second, .val (.int (0 : Int32)), .val (.int (0 : Int32)), .val (.int (0 : Int32))] [])) _
        refine XS.goto X0.here hx rfl (pc0 := 44) (pc' := 6) rfl (hb hby d3_44) (by decide) (by decide) ?_
        show Steps p.tables e below (s₁.setTop (mkF m 6 #[.val (.ref x0), .val (.int (2 : Int32)), .val (.long ad), .second, .val (.int (0 : Int32)), .val (.int (0 : Int32)), .val (.int (0 : Int32))] [])) _
        refine XS.iload X0.here hx rfl (hb hby d3_6) rfl ?_
        show Steps p.tables e below (s₁.setTop (mkF m 8 #[.val (.ref x0), .val (.int (2 : Int32)), .val (.long ad), .second, .val (.int (0 : Int32)), .val (.int (0 : Int32)), .val (.int (0 : Int32))] [(.int (0 : Int32))])) _
        refine XS.iload X0.here hx rfl (hb hby d3_8) rfl ?_
        show Steps p.tables e below (s₁.setTop (mkF m 10 #[.val (.ref x0), .val (.int (2 : Int32)), .val (.long ad), .second, .val (.int (0 : Int32)), .val (.int (0 : Int32)), .val (.int (0 : Int32))] [(.int (0 : Int32)), (.int (0 : Int32))])) _
        refine XS.icmpYes X0.here hx rfl (pc0 := 10) (pc' := 47) rfl (hb hby d3_10) rfl (flt (by decide : ¬ ((0 : Int32) < (0 : Int32)))).2.1 (by decide) (by decide) ?_
        show Steps p.tables e below (s₁.setTop (mkF m 47 #[.val (.ref x0), .val (.int (2 : Int32)), .val (.long ad), .second, .val (.int (0 : Int32)), .val (.int (0 : Int32)), .val (.int (0 : Int32))] [])) _
        refine XS.iload X0.here hx rfl (hb hby d3_47) rfl ?_
        show Steps p.tables e below (s₁.setTop (mkF m 49 #[.val (.ref x0), .val (.int (2 : Int32)), .val (.long ad), .second, .val (.int (0 : Int32)), .val (.int (0 : Int32)), .val (.int (0 : Int32))] [(.int (0 : Int32))])) _
        have hv : own_ia2 w0 w1 w2 w3 ad = (0 : Int32) := by unfold own_ia2; rw [if_pos hc28, if_pos hc28_]
        rw [hv] at hr
        exact retI X0 hx Bd.returns (hb hby d3_49) hr
      · refine XS.ifNo X0.here hx rfl (hb hby d3_28) rfl ((if0 _ _).trans (flt hc28_).2.2.1) ?_
        show Steps p.tables e below (s₁.setTop (mkF m 31 #[.val (.ref x0), .val (.int (2 : Int32)), .val (.long ad), .second, .val (.int (0 : Int32)), .val (.int (1 : Int32)), .val (.int (0 : Int32))] [])) _
        refine XS.iload X0.here hx rfl (hb hby d3_31) rfl ?_
        show Steps p.tables e below (s₁.setTop (mkF m 33 #[.val (.ref x0), .val (.int (2 : Int32)), .val (.long ad), .second, .val (.int (0 : Int32)), .val (.int (1 : Int32)), .val (.int (0 : Int32))] [(.int (0 : Int32))])) _
        refine XS.iconst X0.here hx rfl (hb hby d3_33) ?_
        show Steps p.tables e below (s₁.setTop (mkF m 34 #[.val (.ref x0), .val (.int (2 : Int32)), .val (.long ad), .second, .val (.int (0 : Int32)), .val (.int (1 : Int32)), .val (.int (0 : Int32))] [(.int (1 : Int32)), (.int (0 : Int32))])) _
        refine XS.iadd X0.here hx rfl (hb hby d3_34) rfl ?_
        show Steps p.tables e below (s₁.setTop (mkF m 35 #[.val (.ref x0), .val (.int (2 : Int32)), .val (.long ad), .second, .val (.int (0 : Int32)), .val (.int (1 : Int32)), .val (.int (0 : Int32))] [(.int ((0 : Int32) + (1 : Int32)))])) _
        rw [show ((0 : Int32) + (1 : Int32)) = (1 : Int32) from by decide]
        show Steps p.tables e below (s₁.setTop (mkF m 35 #[.val (.ref x0), .val (.int (2 : Int32)), .val (.long ad), .second, .val (.int (0 : Int32)), .val (.int (1 : Int32)), .val (.int (0 : Int32))] [(.int (1 : Int32))])) _
        refine XS.istore X0.here hx rfl (hb hby d3_35) rfl (l' := #[.val (.ref x0), .val (.int (2 : Int32)), .val (.long ad), .second, .val (.int (1 : Int32)), .val (.int (1 : Int32)), .val (.int (0 : Int32))]) rfl ?_
        show Steps p.tables e below (s₁.setTop (mkF m 37 #[.val (.ref x0), .val (.int (2 : Int32)), .val (.long ad), .second, .val (.int (1 : Int32)), .val (.int (1 : Int32)), .val (.int (0 : Int32))] [])) _
        refine XS.goto X0.here hx rfl (pc0 := 37) (pc' := 44) rfl (hb hby d3_37) (by decide) (by decide) ?_
        show Steps p.tables e below (s₁.setTop (mkF m 44 #[.val (.ref x0), .val (.int (2 : Int32)), .val (.long ad), .second, .val (.int (1 : Int32)), .val (.int (1 : Int32)), .val (.int (0 : Int32))] [])) _
        refine XS.goto X0.here hx rfl (pc0 := 44) (pc' := 6) rfl (hb hby d3_44) (by decide) (by decide) ?_
        show Steps p.tables e below (s₁.setTop (mkF m 6 #[.val (.ref x0), .val (.int (2 : Int32)), .val (.long ad), .second, .val (.int (1 : Int32)), .val (.int (1 : Int32)), .val (.int (0 : Int32))] [])) _
        refine XS.iload X0.here hx rfl (hb hby d3_6) rfl ?_
        show Steps p.tables e below (s₁.setTop (mkF m 8 #[.val (.ref x0), .val (.int (2 : Int32)), .val (.long ad), .second, .val (.int (1 : Int32)), .val (.int (1 : Int32)), .val (.int (0 : Int32))] [(.int (1 : Int32))])) _
        refine XS.iload X0.here hx rfl (hb hby d3_8) rfl ?_
        show Steps p.tables e below (s₁.setTop (mkF m 10 #[.val (.ref x0), .val (.int (2 : Int32)), .val (.long ad), .second, .val (.int (1 : Int32)), .val (.int (1 : Int32)), .val (.int (0 : Int32))] [(.int (1 : Int32)), (.int (1 : Int32))])) _
        refine XS.icmpYes X0.here hx rfl (pc0 := 10) (pc' := 47) rfl (hb hby d3_10) rfl (flt (by decide : ¬ ((1 : Int32) < (1 : Int32)))).2.1 (by decide) (by decide) ?_
        show Steps p.tables e below (s₁.setTop (mkF m 47 #[.val (.ref x0), .val (.int (2 : Int32)), .val (.long ad), .second, .val (.int (1 : Int32)), .val (.int (1 : Int32)), .val (.int (0 : Int32))] [])) _
        refine XS.iload X0.here hx rfl (hb hby d3_47) rfl ?_
        show Steps p.tables e below (s₁.setTop (mkF m 49 #[.val (.ref x0), .val (.int (2 : Int32)), .val (.long ad), .second, .val (.int (1 : Int32)), .val (.int (1 : Int32)), .val (.int (0 : Int32))] [(.int (1 : Int32))])) _
        have hv : own_ia2 w0 w1 w2 w3 ad = (1 : Int32) := by unfold own_ia2; rw [if_pos hc28, if_neg hc28_]
        rw [hv] at hr
        exact retI X0 hx Bd.returns (hb hby d3_49) hr
    · refine XS.ifNo X0.here hx rfl (hb hby d3_28) rfl ((if0 _ _).trans (flt hc28).2.2.1) ?_
      show Steps p.tables e below (s₁.setTop (mkF m 31 #[.val (.ref x0), .val (.int (2 : Int32)), .val (.long ad), .second, .val (.int (0 : Int32)), .val (.int (2 : Int32)), .val (.int (1 : Int32))] [])) _
      refine XS.iload X0.here hx rfl (hb hby d3_31) rfl ?_
      show Steps p.tables e below (s₁.setTop (mkF m 33 #[.val (.ref x0), .val (.int (2 : Int32)), .val (.long ad), .second, .val (.int (0 : Int32)), .val (.int (2 : Int32)), .val (.int (1 : Int32))] [(.int (1 : Int32))])) _
      refine XS.iconst X0.here hx rfl (hb hby d3_33) ?_
      show Steps p.tables e below (s₁.setTop (mkF m 34 #[.val (.ref x0), .val (.int (2 : Int32)), .val (.long ad), .second, .val (.int (0 : Int32)), .val (.int (2 : Int32)), .val (.int (1 : Int32))] [(.int (1 : Int32)), (.int (1 : Int32))])) _
      refine XS.iadd X0.here hx rfl (hb hby d3_34) rfl ?_
      show Steps p.tables e below (s₁.setTop (mkF m 35 #[.val (.ref x0), .val (.int (2 : Int32)), .val (.long ad), .second, .val (.int (0 : Int32)), .val (.int (2 : Int32)), .val (.int (1 : Int32))] [(.int ((1 : Int32) + (1 : Int32)))])) _
      rw [show ((1 : Int32) + (1 : Int32)) = (2 : Int32) from by decide]
      show Steps p.tables e below (s₁.setTop (mkF m 35 #[.val (.ref x0), .val (.int (2 : Int32)), .val (.long ad), .second, .val (.int (0 : Int32)), .val (.int (2 : Int32)), .val (.int (1 : Int32))] [(.int (2 : Int32))])) _
      refine XS.istore X0.here hx rfl (hb hby d3_35) rfl (l' := #[.val (.ref x0), .val (.int (2 : Int32)), .val (.long ad), .second, .val (.int (2 : Int32)), .val (.int (2 : Int32)), .val (.int (1 : Int32))]) rfl ?_
      show Steps p.tables e below (s₁.setTop (mkF m 37 #[.val (.ref x0), .val (.int (2 : Int32)), .val (.long ad), .second, .val (.int (2 : Int32)), .val (.int (2 : Int32)), .val (.int (1 : Int32))] [])) _
      refine XS.goto X0.here hx rfl (pc0 := 37) (pc' := 44) rfl (hb hby d3_37) (by decide) (by decide) ?_
      show Steps p.tables e below (s₁.setTop (mkF m 44 #[.val (.ref x0), .val (.int (2 : Int32)), .val (.long ad), .second, .val (.int (2 : Int32)), .val (.int (2 : Int32)), .val (.int (1 : Int32))] [])) _
      refine XS.goto X0.here hx rfl (pc0 := 44) (pc' := 6) rfl (hb hby d3_44) (by decide) (by decide) ?_
      show Steps p.tables e below (s₁.setTop (mkF m 6 #[.val (.ref x0), .val (.int (2 : Int32)), .val (.long ad), .second, .val (.int (2 : Int32)), .val (.int (2 : Int32)), .val (.int (1 : Int32))] [])) _
      refine XS.iload X0.here hx rfl (hb hby d3_6) rfl ?_
      show Steps p.tables e below (s₁.setTop (mkF m 8 #[.val (.ref x0), .val (.int (2 : Int32)), .val (.long ad), .second, .val (.int (2 : Int32)), .val (.int (2 : Int32)), .val (.int (1 : Int32))] [(.int (2 : Int32))])) _
      refine XS.iload X0.here hx rfl (hb hby d3_8) rfl ?_
      show Steps p.tables e below (s₁.setTop (mkF m 10 #[.val (.ref x0), .val (.int (2 : Int32)), .val (.long ad), .second, .val (.int (2 : Int32)), .val (.int (2 : Int32)), .val (.int (1 : Int32))] [(.int (2 : Int32)), (.int (2 : Int32))])) _
      refine XS.icmpYes X0.here hx rfl (pc0 := 10) (pc' := 47) rfl (hb hby d3_10) rfl (flt (by decide : ¬ ((2 : Int32) < (2 : Int32)))).2.1 (by decide) (by decide) ?_
      show Steps p.tables e below (s₁.setTop (mkF m 47 #[.val (.ref x0), .val (.int (2 : Int32)), .val (.long ad), .second, .val (.int (2 : Int32)), .val (.int (2 : Int32)), .val (.int (1 : Int32))] [])) _
      refine XS.iload X0.here hx rfl (hb hby d3_47) rfl ?_
      show Steps p.tables e below (s₁.setTop (mkF m 49 #[.val (.ref x0), .val (.int (2 : Int32)), .val (.long ad), .second, .val (.int (2 : Int32)), .val (.int (2 : Int32)), .val (.int (1 : Int32))] [(.int (2 : Int32))])) _
      have hv : own_ia2 w0 w1 w2 w3 ad = (2 : Int32) := by unfold own_ia2; rw [if_neg hc28]
      rw [hv] at hr
      exact retI X0 hx Bd.returns (hb hby d3_49) hr
  · exact ⟨rfl, N0, e0⟩
set_option maxRecDepth 65536 in
set_option maxHeartbeats 40000000 in
theorem rmia_3 (l : Launch) (Z : State) (a0 : Array Value) (hw : ∀ d ∈ tables_1, d.before a0 Z = true) (ws : List Jvm.Cond) (x0 : Addr) (k0 : ClassId) (w0 w1 w2 w3 ad : Int64) (h0 : Heap) (n0 : Nat) (Z0 : n0 ≤ h0.size) (V_x0 : Arv Z h0 x0 k0 .long (4 : Int32) [(.long w0), (.long w1), (.long w2), (.long w3)] (.long (0 : Int64))) :
    MetFree l (⟨"com/example/rootline/rootline/heap/ClassObjects", "indexAbove", "([JIJ)I"⟩ : MethodName) (head1 (Jvm.Cond.code (⟨"com/example/rootline/rootline/heap/ClassObjects", "indexAbove", "([JIJ)I"⟩ : MethodName) prog_88_method_6_code 7 (some .int) :: ws) ({ frames := 0, cells := 0, slots := 0, locals := 0 } : Room)) (fun a U => a = #[(.ref x0), (.int (3 : Int32)), (.long ad)] ∧ Z.Warmed39 U.vm ∧ U.heap = h0) (fun _ _ _ _ _ => True) (fun _ U o U' => ∃ v L, o = .returned v ∧ (QP (some (.int (own_ia3 w0 w1 w2 w3 ad))) h0 n0 v U'.heap L) ∧ FrameEnd U o U' L ({ frames := 0, cells := 0, slots := 0, locals := 0 } : Room).cells ({ frames := 0, cells := 0, slots := 0, locals := 0 } : Room).slots) := by
  refine MetFree.of_bodySF (plainFor_of_name pn_3) hisR ?_
  intro p e s m args below meth c s₁ Bd hml0 hP hK
  obtain ⟨rfl, hZ, hh⟩ := hP
  have hx := Bd.exec
  have hby := Bd.bytes
  have hml : c.maxLocals = 7 := hml0
  have hown : s.vm.findClass "com/example/rootline/rootline/heap/ClassObjects" = some m.cls := findClass_of_methodNamed Bd.named
  have hnm := (name_of_methodNamed Bd.named Bd.method).1
  have X0 : Stand p l e ({ frames := 0, cells := 0, slots := 0, locals := 0 } : Room) s m #[(.ref x0), (.int (3 : Int32)), (.long ad)] below meth c s₁ [] 0 0 := Stand.of_body Bd
  have e0 : s₁.heap = h0 := by rw [← hh, Bd.state]; rfl
  have N0 := Fr.nil n0
  have pre0 : ∀ t, Steps p.tables e below (s₁.setTop (mkF m 0 #[.val (.ref x0), .val (.int (3 : Int32)), .val (.long ad), .second, .unset, .unset, .unset] [])) t → Steps p.tables e below (s₁.setTop (entryFrame m #[(.ref x0), (.int (3 : Int32)), (.long ad)] 7)) t := fun t k => castTop (ef_3 m x0 (3 : Int32) ad) k
  obtain ⟨fs, hr, hrun, hended, hW, hsame⟩ := X0.leave (v := some (.int (own_ia3 w0 w1 w2 w3 ad))) (fun h => by rw [Bd.returns] at h; cases h)
  refine ⟨_, _, pre0 _ ?_, hrun, hended, _, _, rfl, ?_, ⟨_, rfl⟩, hW, hsame.mono (by decide) (by decide)⟩
  · show Steps p.tables e below (s₁.setTop (mkF m 0 #[.val (.ref x0), .val (.int (3 : Int32)), .val (.long ad), .second, .unset, .unset, .unset] [])) _
    refine XS.iconst X0.here hx rfl (hb hby d3_0) ?_
    show Steps p.tables e below (s₁.setTop (mkF m 1 #[.val (.ref x0), .val (.int (3 : Int32)), .val (.long ad), .second, .unset, .unset, .unset] [(.int (0 : Int32))])) _
    refine XS.istore X0.here hx rfl (hb hby d3_1) rfl (l' := #[.val (.ref x0), .val (.int (3 : Int32)), .val (.long ad), .second, .val (.int (0 : Int32)), .unset, .unset]) rfl ?_
    show Steps p.tables e below (s₁.setTop (mkF m 3 #[.val (.ref x0), .val (.int (3 : Int32)), .val (.long ad), .second, .val (.int (0 : Int32)), .unset, .unset] [])) _
    refine XS.iloadN X0.here hx rfl (hb hby d3_3) rfl ?_
    show Steps p.tables e below (s₁.setTop (mkF m 4 #[.val (.ref x0), .val (.int (3 : Int32)), .val (.long ad), .second, .val (.int (0 : Int32)), .unset, .unset] [(.int (3 : Int32))])) _
    refine XS.istore X0.here hx rfl (hb hby d3_4) rfl (l' := #[.val (.ref x0), .val (.int (3 : Int32)), .val (.long ad), .second, .val (.int (0 : Int32)), .val (.int (3 : Int32)), .unset]) rfl ?_
    show Steps p.tables e below (s₁.setTop (mkF m 6 #[.val (.ref x0), .val (.int (3 : Int32)), .val (.long ad), .second, .val (.int (0 : Int32)), .val (.int (3 : Int32)), .unset] [])) _
    refine XS.iload X0.here hx rfl (hb hby d3_6) rfl ?_
    show Steps p.tables e below (s₁.setTop (mkF m 8 #[.val (.ref x0), .val (.int (3 : Int32)), .val (.long ad), .second, .val (.int (0 : Int32)), .val (.int (3 : Int32)), .unset] [(.int (0 : Int32))])) _
    refine XS.iload X0.here hx rfl (hb hby d3_8) rfl ?_
    show Steps p.tables e below (s₁.setTop (mkF m 10 #[.val (.ref x0), .val (.int (3 : Int32)), .val (.long ad), .second, .val (.int (0 : Int32)), .val (.int (3 : Int32)), .unset] [(.int (3 : Int32)), (.int (0 : Int32))])) _
    refine XS.icmpNo X0.here hx rfl (hb hby d3_10) rfl (tlt (by decide : (0 : Int32) < (3 : Int32))).2.1 ?_
    show Steps p.tables e below (s₁.setTop (mkF m 13 #[.val (.ref x0), .val (.int (3 : Int32)), .val (.long ad), .second, .val (.int (0 : Int32)), .val (.int (3 : Int32)), .unset] [])) _
    refine XS.iload X0.here hx rfl (hb hby d3_13) rfl ?_
    show Steps p.tables e below (s₁.setTop (mkF m 15 #[.val (.ref x0), .val (.int (3 : Int32)), .val (.long ad), .second, .val (.int (0 : Int32)), .val (.int (3 : Int32)), .unset] [(.int (0 : Int32))])) _
    refine XS.iload X0.here hx rfl (hb hby d3_15) rfl ?_
    show Steps p.tables e below (s₁.setTop (mkF m 17 #[.val (.ref x0), .val (.int (3 : Int32)), .val (.long ad), .second, .val (.int (0 : Int32)), .val (.int (3 : Int32)), .unset] [(.int (3 : Int32)), (.int (0 : Int32))])) _
    refine XS.iadd X0.here hx rfl (hb hby d3_17) rfl ?_
    show Steps p.tables e below (s₁.setTop (mkF m 18 #[.val (.ref x0), .val (.int (3 : Int32)), .val (.long ad), .second, .val (.int (0 : Int32)), .val (.int (3 : Int32)), .unset] [(.int ((0 : Int32) + (3 : Int32)))])) _
    rw [show ((0 : Int32) + (3 : Int32)) = (3 : Int32) from by decide]
    show Steps p.tables e below (s₁.setTop (mkF m 18 #[.val (.ref x0), .val (.int (3 : Int32)), .val (.long ad), .second, .val (.int (0 : Int32)), .val (.int (3 : Int32)), .unset] [(.int (3 : Int32))])) _
    refine XS.iconst X0.here hx rfl (hb hby d3_18) ?_
    show Steps p.tables e below (s₁.setTop (mkF m 19 #[.val (.ref x0), .val (.int (3 : Int32)), .val (.long ad), .second, .val (.int (0 : Int32)), .val (.int (3 : Int32)), .unset] [(.int (1 : Int32)), (.int (3 : Int32))])) _
    refine XS.iushr X0.here hx rfl (hb hby d3_19) rfl ?_
    show Steps p.tables e below (s₁.setTop (mkF m 20 #[.val (.ref x0), .val (.int (3 : Int32)), .val (.long ad), .second, .val (.int (0 : Int32)), .val (.int (3 : Int32)), .unset] [(.int (((3 : Int32).toUInt32 >>> ((1 : Int32) &&& 31).toUInt32).toInt32))])) _
    rw [show (((3 : Int32).toUInt32 >>> ((1 : Int32) &&& 31).toUInt32).toInt32) = (1 : Int32) from by decide]
    show Steps p.tables e below (s₁.setTop (mkF m 20 #[.val (.ref x0), .val (.int (3 : Int32)), .val (.long ad), .second, .val (.int (0 : Int32)), .val (.int (3 : Int32)), .unset] [(.int (1 : Int32))])) _
    refine XS.istore X0.here hx rfl (hb hby d3_20) rfl (l' := #[.val (.ref x0), .val (.int (3 : Int32)), .val (.long ad), .second, .val (.int (0 : Int32)), .val (.int (3 : Int32)), .val (.int (1 : Int32))]) rfl ?_
    show Steps p.tables e below (s₁.setTop (mkF m 22 #[.val (.ref x0), .val (.int (3 : Int32)), .val (.long ad), .second, .val (.int (0 : Int32)), .val (.int (3 : Int32)), .val (.int (1 : Int32))] [])) _
    refine XS.aloadN X0.here hx rfl (hb hby d3_22) rfl rfl ?_
    show Steps p.tables e below (s₁.setTop (mkF m 23 #[.val (.ref x0), .val (.int (3 : Int32)), .val (.long ad), .second, .val (.int (0 : Int32)), .val (.int (3 : Int32)), .val (.int (1 : Int32))] [(.ref x0)])) _
    refine XS.iload X0.here hx rfl (hb hby d3_23) rfl ?_
    show Steps p.tables e below (s₁.setTop (mkF m 25 #[.val (.ref x0), .val (.int (3 : Int32)), .val (.long ad), .second, .val (.int (0 : Int32)), .val (.int (3 : Int32)), .val (.int (1 : Int32))] [(.int (1 : Int32)), (.ref x0)])) _
    refine own_ldJ X0 hx hZ e0 V_x0 (j := (1 : Int32)) (w := w1) ⟨by decide, by decide⟩ rfl (g := (mkF m 25 #[.val (.ref x0), .val (.int (3 : Int32)), .val (.long ad), .second, .val (.int (0 : Int32)), .val (.int (3 : Int32)), .val (.int (1 : Int32))] [(.int (1 : Int32)), (.ref x0)])) rfl rfl (hb hby d3_25) ?_
    show Steps p.tables e below (s₁.setTop (mkF m 26 #[.val (.ref x0), .val (.int (3 : Int32)), .val (.long ad), .second, .val (.int (0 : Int32)), .val (.int (3 : Int32)), .val (.int (1 : Int32))] [(.long w1)])) _
    refine XS.lloadN X0.here hx rfl (hb hby d3_26) rfl ?_
    show Steps p.tables e below (s₁.setTop (mkF m 27 #[.val (.ref x0), .val (.int (3 : Int32)), .val (.long ad), .second, .val (.int (0 : Int32)), .val (.int (3 : Int32)), .val (.int (1 : Int32))] [(.long ad), (.long w1)])) _
    refine XS.lcmp X0.here hx rfl (hb hby d3_27) rfl ?_
    show Steps p.tables e below (s₁.setTop (mkF m 28 #[.val (.ref x0), .val (.int (3 : Int32)), .val (.long ad), .second, .val (.int (0 : Int32)), .val (.int (3 : Int32)), .val (.int (1 : Int32))] [(.int (lcmpW w1 ad))])) _
    by_cases hc28 : (0 : Int32) < (lcmpW w1 ad)
    · refine XS.ifYes X0.here hx rfl (pc0 := 28) (pc' := 40) rfl (hb hby d3_28) rfl ((if0 _ _).trans (tlt hc28).2.2.1) (by decide) (by decide) ?_
      show Steps p.tables e below (s₁.setTop (mkF m 40 #[.val (.ref x0), .val (.int (3 : Int32)), .val (.long ad), .second, .val (.int (0 : Int32)), .val (.int (3 : Int32)), .val (.int (1 : Int32))] [])) _
      refine XS.iload X0.here hx rfl (hb hby d3_40) rfl ?_
      show Steps p.tables e below (s₁.setTop (mkF m 42 #[.val (.ref x0), .val (.int (3 : Int32)), .val (.long ad), .second, .val (.int (0 : Int32)), .val (.int (3 : Int32)), .val (.int (1 : Int32))] [(.int (1 : Int32))])) _
      refine XS.istore X0.here hx rfl (hb hby d3_42) rfl (l' := #[.val (.ref x0), .val (.int (3 : Int32)), .val (.long ad), .second, .val (.int (0 : Int32)), .val (.int (1 : Int32)), .val (.int (1 : Int32))]) rfl ?_
      show Steps p.tables e below (s₁.setTop (mkF m 44 #[.val (.ref x0), .val (.int (3 : Int32)), .val (.long ad), .second, .val (.int (0 : Int32)), .val (.int (1 : Int32)), .val (.int (1 : Int32))] [])) _
      refine XS.goto X0.here hx rfl (pc0 := 44) (pc' := 6) rfl (hb hby d3_44) (by decide) (by decide) ?_
      show Steps p.tables e below (s₁.setTop (mkF m 6 #[.val (.ref x0), .val (.int (3 : Int32)), .val (.long ad), .second, .val (.int (0 : Int32)), .val (.int (1 : Int32)), .val (.int (1 : Int32))] [])) _
      refine XS.iload X0.here hx rfl (hb hby d3_6) rfl ?_
      show Steps p.tables e below (s₁.setTop (mkF m 8 #[.val (.ref x0), .val (.int (3 : Int32)), .val (.long ad), .second, .val (.int (0 : Int32)), .val (.int (1 : Int32)), .val (.int (1 : Int32))] [(.int (0 : Int32))])) _
      refine XS.iload X0.here hx rfl (hb hby d3_8) rfl ?_
      show Steps p.tables e below (s₁.setTop (mkF m 10 #[.val (.ref x0), .val (.int (3 : Int32)), .val (.long ad), .second, .val (.int (0 : Int32)), .val (.int (1 : Int32)), .val (.int (1 : Int32))] [(.int (1 : Int32)), (.int (0 : Int32))])) _
      refine XS.icmpNo X0.here hx rfl (hb hby d3_10) rfl (tlt (by decide : (0 : Int32) < (1 : Int32))).2.1 ?_
      show Steps p.tables e below (s₁.setTop (mkF m 13 #[.val (.ref x0), .val (.int (3 : Int32)), .val (.long ad), .second, .val (.int (0 : Int32)), .val (.int (1 : Int32)), .val (.int (1 : Int32))] [])) _
      refine XS.iload X0.here hx rfl (hb hby d3_13) rfl ?_
      show Steps p.tables e below (s₁.setTop (mkF m 15 #[.val (.ref x0), .val (.int (3 : Int32)), .val (.long ad), .second, .val (.int (0 : Int32)), .val (.int (1 : Int32)), .val (.int (1 : Int32))] [(.int (0 : Int32))])) _
      refine XS.iload X0.here hx rfl (hb hby d3_15) rfl ?_
      show Steps p.tables e below (s₁.setTop (mkF m 17 #[.val (.ref x0), .val (.int (3 : Int32)), .val (.long ad), .second, .val (.int (0 : Int32)), .val (.int (1 : Int32)), .val (.int (1 : Int32))] [(.int (1 : Int32)), (.int (0 : Int32))])) _
      refine XS.iadd X0.here hx rfl (hb hby d3_17) rfl ?_
      show Steps p.tables e below (s₁.setTop (mkF m 18 #[.val (.ref x0), .val (.int (3 : Int32)), .val (.long ad), .second, .val (.int (0 : Int32)), .val (.int (1 : Int32)), .val (.int (1 : Int32))] [(.int ((0 : Int32) + (1 : Int32)))])) _
      rw [show ((0 : Int32) + (1 : Int32)) = (1 : Int32) from by decide]
      show Steps p.tables e below (s₁.setTop (mkF m 18 #[.val (.ref x0), .val (.int (3 : Int32)), .val (.long ad), .second, .val (.int (0 : Int32)), .val (.int (1 : Int32)), .val (.int (1 : Int32))] [(.int (1 : Int32))])) _
      refine XS.iconst X0.here hx rfl (hb hby d3_18) ?_
      show Steps p.tables e below (s₁.setTop (mkF m 19 #[.val (.ref x0), .val (.int (3 : Int32)), .val (.long ad), .second, .val (.int (0 : Int32)), .val (.int (1 : Int32)), .val (.int (1 : Int32))] [(.int (1 : Int32)), (.int (1 : Int32))])) _
      refine XS.iushr X0.here hx rfl (hb hby d3_19) rfl ?_
      show Steps p.tables e below (s₁.setTop (mkF m 20 #[.val (.ref x0), .val (.int (3 : Int32)), .val (.long ad), .second, .val (.int (0 : Int32)), .val (.int (1 : Int32)), .val (.int (1 : Int32))] [(.int (((1 : Int32).toUInt32 >>> ((1 : Int32) &&& 31).toUInt32).toInt32))])) _
      rw [show (((1 : Int32).toUInt32 >>> ((1 : Int32) &&& 31).toUInt32).toInt32) = (0 : Int32) from by decide]
      show Steps p.tables e below (s₁.setTop (mkF m 20 #[.val (.ref x0), .val (.int (3 : Int32)), .val (.long ad), .second, .val (.int (0 : Int32)), .val (.int (1 : Int32)), .val (.int (1 : Int32))] [(.int (0 : Int32))])) _
      refine XS.istore X0.here hx rfl (hb hby d3_20) rfl (l' := #[.val (.ref x0), .val (.int (3 : Int32)), .val (.long ad), .second, .val (.int (0 : Int32)), .val (.int (1 : Int32)), .val (.int (0 : Int32))]) rfl ?_
      show Steps p.tables e below (s₁.setTop (mkF m 22 #[.val (.ref x0), .val (.int (3 : Int32)), .val (.long ad), .second, .val (.int (0 : Int32)), .val (.int (1 : Int32)), .val (.int (0 : Int32))] [])) _
      refine XS.aloadN X0.here hx rfl (hb hby d3_22) rfl rfl ?_
      show Steps p.tables e below (s₁.setTop (mkF m 23 #[.val (.ref x0), .val (.int (3 : Int32)), .val (.long ad), .second, .val (.int (0 : Int32)), .val (.int (1 : Int32)), .val (.int (0 : Int32))] [(.ref x0)])) _
      refine XS.iload X0.here hx rfl (hb hby d3_23) rfl ?_
      show Steps p.tables e below (s₁.setTop (mkF m 25 #[.val (.ref x0), .val (.int (3 : Int32)), .val (.long ad), .second, .val (.int (0 : Int32)), .val (.int (1 : Int32)), .val (.int (0 : Int32))] [(.int (0 : Int32)), (.ref x0)])) _
      refine own_ldJ X0 hx hZ e0 V_x0 (j := (0 : Int32)) (w := w0) ⟨by decide, by decide⟩ rfl (g := (mkF m 25 #[.val (.ref x0), .val (.int (3 : Int32)), .val (.long ad), .second, .val (.int (0 : Int32)), .val (.int (1 : Int32)), .val (.int (0 : Int32))] [(.int (0 : Int32)), (.ref x0)])) rfl rfl (hb hby d3_25) ?_
      show Steps p.tables e below (s₁.setTop (mkF m 26 #[.val (.ref x0), .val (.int (3 : Int32)), .val (.long ad), .second, .val (.int (0 : Int32)), .val (.int (1 : Int32)), .val (.int (0 : Int32))] [(.long w0)])) _
      refine XS.lloadN X0.here hx rfl (hb hby d3_26) rfl ?_
      show Steps p.tables e below (s₁.setTop (mkF m 27 #[.val (.ref x0), .val (.int (3 : Int32)), .val (.long ad), .second, .val (.int (0 : Int32)), .val (.int (1 : Int32)), .val (.int (0 : Int32))] [(.long ad), (.long w0)])) _
      refine XS.lcmp X0.here hx rfl (hb hby d3_27) rfl ?_
      show Steps p.tables e below (s₁.setTop (mkF m 28 #[.val (.ref x0), .val (.int (3 : Int32)), .val (.long ad), .second, .val (.int (0 : Int32)), .val (.int (1 : Int32)), .val (.int (0 : Int32))] [(.int (lcmpW w0 ad))])) _
      by_cases hc28_ : (0 : Int32) < (lcmpW w0 ad)
      · refine XS.ifYes X0.here hx rfl (pc0 := 28) (pc' := 40) rfl (hb hby d3_28) rfl ((if0 _ _).trans (tlt hc28_).2.2.1) (by decide) (by decide) ?_
        show Steps p.tables e below (s₁.setTop (mkF m 40 #[.val (.ref x0), .val (.int (3 : Int32)), .val (.long ad), .second, .val (.int (0 : Int32)), .val (.int (1 : Int32)), .val (.int (0 : Int32))] [])) _
        refine XS.iload X0.here hx rfl (hb hby d3_40) rfl ?_
        show Steps p.tables e below (s₁.setTop (mkF m 42 #[.val (.ref x0), .val (.int (3 : Int32)), .val (.long ad), .second, .val (.int (0 : Int32)), .val (.int (1 : Int32)), .val (.int (0 : Int32))] [(.int (0 : Int32))])) _
        refine XS.istore X0.here hx rfl (hb hby d3_42) rfl (l' := #[.val (.ref x0), .val (.int (3 : Int32)), .val (.long ad), .second, .val (.int (0 : Int32)), .val (.int (0 : Int32)), .val (.int (0 : Int32))]) rfl ?_
        show Steps p.tables e below (s₁.setTop (mkF m 44 #[.val (.ref x0), .val (.int (3 : Int32)), .val (.long ad), .second, .val (.int (0 : Int32)), .val (.int (0 : Int32)), .val (.int (0 : Int32))] [])) _
        refine XS.goto X0.here hx rfl (pc0 := 44) (pc' := 6) rfl (hb hby d3_44) (by decide) (by decide) ?_
        show Steps p.tables e below (s₁.setTop (mkF m 6 #[.val (.ref x0), .val (.int (3 : Int32)), .val (.long ad), .second, .val (.int (0 : Int32)), .val (.int (0 : Int32)), .val (.int (0 : Int32))] [])) _
        refine XS.iload X0.here hx rfl (hb hby d3_6) rfl ?_
        show Steps p.tables e below (s₁.setTop (mkF m 8 #[.val (.ref x0), .val (.int (3 : Int32)), .val (.long ad), .second, .val (.int (0 : Int32)), .val (.int (0 : Int32)), .val (.int (0 : Int32))] [(.int (0 : Int32))])) _
        refine XS.iload X0.here hx rfl (hb hby d3_8) rfl ?_
        show Steps p.tables e below (s₁.setTop (mkF m 10 #[.val (.ref x0), .val (.int (3 : Int32)), .val (.long ad), .second, .val (.int (0 : Int32)), .val (.int (0 : Int32)), .val (.int (0 : Int32))] [(.int (0 : Int32)), (.int (0 : Int32))])) _
        refine XS.icmpYes X0.here hx rfl (pc0 := 10) (pc' := 47) rfl (hb hby d3_10) rfl (flt (by decide : ¬ ((0 : Int32) < (0 : Int32)))).2.1 (by decide) (by decide) ?_
        show Steps p.tables e below (s₁.setTop (mkF m 47 #[.val (.ref x0), .val (.int (3 : Int32)), .val (.long ad), .second, .val (.int (0 : Int32)), .val (.int (0 : Int32)), .val (.int (0 : Int32))] [])) _
        refine XS.iload X0.here hx rfl (hb hby d3_47) rfl ?_
        show Steps p.tables e below (s₁.setTop (mkF m 49 #[.val (.ref x0), .val (.int (3 : Int32)), .val (.long ad), .second, .val (.int (0 : Int32)), .val (.int (0 : Int32)), .val (.int (0 : Int32))] [(.int (0 : Int32))])) _
        have hv : own_ia3 w0 w1 w2 w3 ad = (0 : Int32) := by unfold own_ia3; rw [if_pos hc28, if_pos hc28_]
        rw [hv] at hr
        exact retI X0 hx Bd.returns (hb hby d3_49) hr
      · refine XS.ifNo X0.here hx rfl (hb hby d3_28) rfl ((if0 _ _).trans (flt hc28_).2.2.1) ?_
        show Steps p.tables e below (s₁.setTop (mkF m 31 #[.val (.ref x0), .val (.int (3 : Int32)), .val (.long ad), .second, .val (.int (0 : Int32)), .val (.int (1 : Int32)), .val (.int (0 : Int32))] [])) _
        refine XS.iload X0.here hx rfl (hb hby d3_31) rfl ?_
        show Steps p.tables e below (s₁.setTop (mkF m 33 #[.val (.ref x0), .val (.int (3 : Int32)), .val (.long ad), .second, .val (.int (0 : Int32)), .val (.int (1 : Int32)), .val (.int (0 : Int32))] [(.int (0 : Int32))])) _
        refine XS.iconst X0.here hx rfl (hb hby d3_33) ?_
        show Steps p.tables e below (s₁.setTop (mkF m 34 #[.val (.ref x0), .val (.int (3 : Int32)), .val (.long ad), .second, .val (.int (0 : Int32)), .val (.int (1 : Int32)), .val (.int (0 : Int32))] [(.int (1 : Int32)), (.int (0 : Int32))])) _
        refine XS.iadd X0.here hx rfl (hb hby d3_34) rfl ?_
        show Steps p.tables e below (s₁.setTop (mkF m 35 #[.val (.ref x0), .val (.int (3 : Int32)), .val (.long ad), .second, .val (.int (0 : Int32)), .val (.int (1 : Int32)), .val (.int (0 : Int32))] [(.int ((0 : Int32) + (1 : Int32)))])) _
        rw [show ((0 : Int32) + (1 : Int32)) = (1 : Int32) from by decide]
        show Steps p.tables e below (s₁.setTop (mkF m 35 #[.val (.ref x0), .val (.int (3 : Int32)), .val (.long ad), .second, .val (.int (0 : Int32)), .val (.int (1 : Int32)), .val (.int (0 : Int32))] [(.int (1 : Int32))])) _
        refine XS.istore X0.here hx rfl (hb hby d3_35) rfl (l' := #[.val (.ref x0), .val (.int (3 : Int32)), .val (.long ad), .second, .val (.int (1 : Int32)), .val (.int (1 : Int32)), .val (.int (0 : Int32))]) rfl ?_
        show Steps p.tables e below (s₁.setTop (mkF m 37 #[.val (.ref x0), .val (.int (3 : Int32)), .val (.long ad), .second, .val (.int (1 : Int32)), .val (.int (1 : Int32)), .val (.int (0 : Int32))] [])) _
        refine XS.goto X0.here hx rfl (pc0 := 37) (pc' := 44) rfl (hb hby d3_37) (by decide) (by decide) ?_
        show Steps p.tables e below (s₁.setTop (mkF m 44 #[.val (.ref x0), .val (.int (3 : Int32)), .val (.long ad), .second, .val (.int (1 : Int32)), .val (.int (1 : Int32)), .val (.int (0 : Int32))] [])) _
        refine XS.goto X0.here hx rfl (pc0 := 44) (pc' := 6) rfl (hb hby d3_44) (by decide) (by decide) ?_
        show Steps p.tables e below (s₁.setTop (mkF m 6 #[.val (.ref x0), .val (.int (3 : Int32)), .val (.long ad), .second, .val (.int (1 : Int32)), .val (.int (1 : Int32)), .val (.int (0 : Int32))] [])) _
        refine XS.iload X0.here hx rfl (hb hby d3_6) rfl ?_
        show Steps p.tables e below (s₁.setTop (mkF m 8 #[.val (.ref x0), .val (.int (3 : Int32)), .val (.long ad), .second, .val (.int (1 : Int32)), .val (.int (1 : Int32)), .val (.int (0 : Int32))] [(.int (1 : Int32))])) _
        refine XS.iload X0.here hx rfl (hb hby d3_8) rfl ?_
        show Steps p.tables e below (s₁.setTop (mkF m 10 #[.val (.ref x0), .val (.int (3 : Int32)), .val (.long ad), .second, .val (.int (1 : Int32)), .val (.int (1 : Int32)), .val (.int (0 : Int32))] [(.int (1 : Int32)), (.int (1 : Int32))])) _
        refine XS.icmpYes X0.here hx rfl (pc0 := 10) (pc' := 47) rfl (hb hby d3_10) rfl (flt (by decide : ¬ ((1 : Int32) < (1 : Int32)))).2.1 (by decide) (by decide) ?_
        show Steps p.tables e below (s₁.setTop (mkF m 47 #[.val (.ref x0), .val (.int (3 : Int32)), .val (.long ad), .second, .val (.int (1 : Int32)), .val (.int (1 : Int32)), .val (.int (0 : Int32))] [])) _
        refine XS.iload X0.here hx rfl (hb hby d3_47) rfl ?_
        show Steps p.tables e below (s₁.setTop (mkF m 49 #[.val (.ref x0), .val (.int (3 : Int32)), .val (.long ad), .second, .val (.int (1 : Int32)), .val (.int (1 : Int32)), .val (.int (0 : Int32))] [(.int (1 : Int32))])) _
        have hv : own_ia3 w0 w1 w2 w3 ad = (1 : Int32) := by unfold own_ia3; rw [if_pos hc28, if_neg hc28_]
        rw [hv] at hr
        exact retI X0 hx Bd.returns (hb hby d3_49) hr
    · refine XS.ifNo X0.here hx rfl (hb hby d3_28) rfl ((if0 _ _).trans (flt hc28).2.2.1) ?_
      show Steps p.tables e below (s₁.setTop (mkF m 31 #[.val (.ref x0), .val (.int (3 : Int32)), .val (.long ad), .second, .val (.int (0 : Int32)), .val (.int (3 : Int32)), .val (.int (1 : Int32))] [])) _
      refine XS.iload X0.here hx rfl (hb hby d3_31) rfl ?_
      show Steps p.tables e below (s₁.setTop (mkF m 33 #[.val (.ref x0), .val (.int (3 : Int32)), .val (.long ad), .second, .val (.int (0 : Int32)), .val (.int (3 : Int32)), .val (.int (1 : Int32))] [(.int (1 : Int32))])) _
      refine XS.iconst X0.here hx rfl (hb hby d3_33) ?_
      show Steps p.tables e below (s₁.setTop (mkF m 34 #[.val (.ref x0), .val (.int (3 : Int32)), .val (.long ad), .second, .val (.int (0 : Int32)), .val (.int (3 : Int32)), .val (.int (1 : Int32))] [(.int (1 : Int32)), (.int (1 : Int32))])) _
      refine XS.iadd X0.here hx rfl (hb hby d3_34) rfl ?_
      show Steps p.tables e below (s₁.setTop (mkF m 35 #[.val (.ref x0), .val (.int (3 : Int32)), .val (.long ad), .second, .val (.int (0 : Int32)), .val (.int (3 : Int32)), .val (.int (1 : Int32))] [(.int ((1 : Int32) + (1 : Int32)))])) _
      rw [show ((1 : Int32) + (1 : Int32)) = (2 : Int32) from by decide]
      show Steps p.tables e below (s₁.setTop (mkF m 35 #[.val (.ref x0), .val (.int (3 : Int32)), .val (.long ad), .second, .val (.int (0 : Int32)), .val (.int (3 : Int32)), .val (.int (1 : Int32))] [(.int (2 : Int32))])) _
      refine XS.istore X0.here hx rfl (hb hby d3_35) rfl (l' := #[.val (.ref x0), .val (.int (3 : Int32)), .val (.long ad), .second, .val (.int (2 : Int32)), .val (.int (3 : Int32)), .val (.int (1 : Int32))]) rfl ?_
      show Steps p.tables e below (s₁.setTop (mkF m 37 #[.val (.ref x0), .val (.int (3 : Int32)), .val (.long ad), .second, .val (.int (2 : Int32)), .val (.int (3 : Int32)), .val (.int (1 : Int32))] [])) _
      refine XS.goto X0.here hx rfl (pc0 := 37) (pc' := 44) rfl (hb hby d3_37) (by decide) (by decide) ?_
      show Steps p.tables e below (s₁.setTop (mkF m 44 #[.val (.ref x0), .val (.int (3 : Int32)), .val (.long ad), .second, .val (.int (2 : Int32)), .val (.int (3 : Int32)), .val (.int (1 : Int32))] [])) _
      refine XS.goto X0.here hx rfl (pc0 := 44) (pc' := 6) rfl (hb hby d3_44) (by decide) (by decide) ?_
      show Steps p.tables e below (s₁.setTop (mkF m 6 #[.val (.ref x0), .val (.int (3 : Int32)), .val (.long ad), .second, .val (.int (2 : Int32)), .val (.int (3 : Int32)), .val (.int (1 : Int32))] [])) _
      refine XS.iload X0.here hx rfl (hb hby d3_6) rfl ?_
      show Steps p.tables e below (s₁.setTop (mkF m 8 #[.val (.ref x0), .val (.int (3 : Int32)), .val (.long ad), .second, .val (.int (2 : Int32)), .val (.int (3 : Int32)), .val (.int (1 : Int32))] [(.int (2 : Int32))])) _
      refine XS.iload X0.here hx rfl (hb hby d3_8) rfl ?_
      show Steps p.tables e below (s₁.setTop (mkF m 10 #[.val (.ref x0), .val (.int (3 : Int32)), .val (.long ad), .second, .val (.int (2 : Int32)), .val (.int (3 : Int32)), .val (.int (1 : Int32))] [(.int (3 : Int32)), (.int (2 : Int32))])) _
      refine XS.icmpNo X0.here hx rfl (hb hby d3_10) rfl (tlt (by decide : (2 : Int32) < (3 : Int32))).2.1 ?_
      show Steps p.tables e below (s₁.setTop (mkF m 13 #[.val (.ref x0), .val (.int (3 : Int32)), .val (.long ad), .second, .val (.int (2 : Int32)), .val (.int (3 : Int32)), .val (.int (1 : Int32))] [])) _
      refine XS.iload X0.here hx rfl (hb hby d3_13) rfl ?_
      show Steps p.tables e below (s₁.setTop (mkF m 15 #[.val (.ref x0), .val (.int (3 : Int32)), .val (.long ad), .second, .val (.int (2 : Int32)), .val (.int (3 : Int32)), .val (.int (1 : Int32))] [(.int (2 : Int32))])) _
      refine XS.iload X0.here hx rfl (hb hby d3_15) rfl ?_
      show Steps p.tables e below (s₁.setTop (mkF m 17 #[.val (.ref x0), .val (.int (3 : Int32)), .val (.long ad), .second, .val (.int (2 : Int32)), .val (.int (3 : Int32)), .val (.int (1 : Int32))] [(.int (3 : Int32)), (.int (2 : Int32))])) _
      refine XS.iadd X0.here hx rfl (hb hby d3_17) rfl ?_
      show Steps p.tables e below (s₁.setTop (mkF m 18 #[.val (.ref x0), .val (.int (3 : Int32)), .val (.long ad), .second, .val (.int (2 : Int32)), .val (.int (3 : Int32)), .val (.int (1 : Int32))] [(.int ((2 : Int32) + (3 : Int32)))])) _
      rw [show ((2 : Int32) + (3 : Int32)) = (5 : Int32) from by decide]
      show Steps p.tables e below (s₁.setTop (mkF m 18 #[.val (.ref x0), .val (.int (3 : Int32)), .val (.long ad), .second, .val (.int (2 : Int32)), .val (.int (3 : Int32)), .val (.int (1 : Int32))] [(.int (5 : Int32))])) _
      refine XS.iconst X0.here hx rfl (hb hby d3_18) ?_
      show Steps p.tables e below (s₁.setTop (mkF m 19 #[.val (.ref x0), .val (.int (3 : Int32)), .val (.long ad), .second, .val (.int (2 : Int32)), .val (.int (3 : Int32)), .val (.int (1 : Int32))] [(.int (1 : Int32)), (.int (5 : Int32))])) _
      refine XS.iushr X0.here hx rfl (hb hby d3_19) rfl ?_
      show Steps p.tables e below (s₁.setTop (mkF m 20 #[.val (.ref x0), .val (.int (3 : Int32)), .val (.long ad), .second, .val (.int (2 : Int32)), .val (.int (3 : Int32)), .val (.int (1 : Int32))] [(.int (((5 : Int32).toUInt32 >>> ((1 : Int32) &&& 31).toUInt32).toInt32))])) _
      rw [show (((5 : Int32).toUInt32 >>> ((1 : Int32) &&& 31).toUInt32).toInt32) = (2 : Int32) from by decide]
      show Steps p.tables e below (s₁.setTop (mkF m 20 #[.val (.ref x0), .val (.int (3 : Int32)), .val (.long ad), .second, .val (.int (2 : Int32)), .val (.int (3 : Int32)), .val (.int (1 : Int32))] [(.int (2 : Int32))])) _
      refine XS.istore X0.here hx rfl (hb hby d3_20) rfl (l' := #[.val (.ref x0), .val (.int (3 : Int32)), .val (.long ad), .second, .val (.int (2 : Int32)), .val (.int (3 : Int32)), .val (.int (2 : Int32))]) rfl ?_
      show Steps p.tables e below (s₁.setTop (mkF m 22 #[.val (.ref x0), .val (.int (3 : Int32)), .val (.long ad), .second, .val (.int (2 : Int32)), .val (.int (3 : Int32)), .val (.int (2 : Int32))] [])) _
      refine XS.aloadN X0.here hx rfl (hb hby d3_22) rfl rfl ?_
      show Steps p.tables e below (s₁.setTop (mkF m 23 #[.val (.ref x0), .val (.int (3 : Int32)), .val (.long ad), .second, .val (.int (2 : Int32)), .val (.int (3 : Int32)), .val (.int (2 : Int32))] [(.ref x0)])) _
      refine XS.iload X0.here hx rfl (hb hby d3_23) rfl ?_
      show Steps p.tables e below (s₁.setTop (mkF m 25 #[.val (.ref x0), .val (.int (3 : Int32)), .val (.long ad), .second, .val (.int (2 : Int32)), .val (.int (3 : Int32)), .val (.int (2 : Int32))] [(.int (2 : Int32)), (.ref x0)])) _
      refine own_ldJ X0 hx hZ e0 V_x0 (j := (2 : Int32)) (w := w2) ⟨by decide, by decide⟩ rfl (g := (mkF m 25 #[.val (.ref x0), .val (.int (3 : Int32)), .val (.long ad), .second, .val (.int (2 : Int32)), .val (.int (3 : Int32)), .val (.int (2 : Int32))] [(.int (2 : Int32)), (.ref x0)])) rfl rfl (hb hby d3_25) ?_
      show Steps p.tables e below (s₁.setTop (mkF m 26 #[.val (.ref x0), .val (.int (3 : Int32)), .val (.long ad), .second, .val (.int (2 : Int32)), .val (.int (3 : Int32)), .val (.int (2 : Int32))] [(.long w2)])) _
      refine XS.lloadN X0.here hx rfl (hb hby d3_26) rfl ?_
      show Steps p.tables e below (s₁.setTop (mkF m 27 #[.val (.ref x0), .val (.int (3 : Int32)), .val (.long ad), .second, .val (.int (2 : Int32)), .val (.int (3 : Int32)), .val (.int (2 : Int32))] [(.long ad), (.long w2)])) _
      refine XS.lcmp X0.here hx rfl (hb hby d3_27) rfl ?_
      show Steps p.tables e below (s₁.setTop (mkF m 28 #[.val (.ref x0), .val (.int (3 : Int32)), .val (.long ad), .second, .val (.int (2 : Int32)), .val (.int (3 : Int32)), .val (.int (2 : Int32))] [(.int (lcmpW w2 ad))])) _
      by_cases hc28_ : (0 : Int32) < (lcmpW w2 ad)
      · refine XS.ifYes X0.here hx rfl (pc0 := 28) (pc' := 40) rfl (hb hby d3_28) rfl ((if0 _ _).trans (tlt hc28_).2.2.1) (by decide) (by decide) ?_
        show Steps p.tables e below (s₁.setTop (mkF m 40 #[.val (.ref x0), .val (.int (3 : Int32)), .val (.long ad), .second, .val (.int (2 : Int32)), .val (.int (3 : Int32)), .val (.int (2 : Int32))] [])) _
        refine XS.iload X0.here hx rfl (hb hby d3_40) rfl ?_
        show Steps p.tables e below (s₁.setTop (mkF m 42 #[.val (.ref x0), .val (.int (3 : Int32)), .val (.long ad), .second, .val (.int (2 : Int32)), .val (.int (3 : Int32)), .val (.int (2 : Int32))] [(.int (2 : Int32))])) _
        refine XS.istore X0.here hx rfl (hb hby d3_42) rfl (l' := #[.val (.ref x0), .val (.int (3 : Int32)), .val (.long ad), .second, .val (.int (2 : Int32)), .val (.int (2 : Int32)), .val (.int (2 : Int32))]) rfl ?_
        show Steps p.tables e below (s₁.setTop (mkF m 44 #[.val (.ref x0), .val (.int (3 : Int32)), .val (.long ad), .second, .val (.int (2 : Int32)), .val (.int (2 : Int32)), .val (.int (2 : Int32))] [])) _
        refine XS.goto X0.here hx rfl (pc0 := 44) (pc' := 6) rfl (hb hby d3_44) (by decide) (by decide) ?_
        show Steps p.tables e below (s₁.setTop (mkF m 6 #[.val (.ref x0), .val (.int (3 : Int32)), .val (.long ad), .second, .val (.int (2 : Int32)), .val (.int (2 : Int32)), .val (.int (2 : Int32))] [])) _
        refine XS.iload X0.here hx rfl (hb hby d3_6) rfl ?_
        show Steps p.tables e below (s₁.setTop (mkF m 8 #[.val (.ref x0), .val (.int (3 : Int32)), .val (.long ad), .second, .val (.int (2 : Int32)), .val (.int (2 : Int32)), .val (.int (2 : Int32))] [(.int (2 : Int32))])) _
        refine XS.iload X0.here hx rfl (hb hby d3_8) rfl ?_
        show Steps p.tables e below (s₁.setTop (mkF m 10 #[.val (.ref x0), .val (.int (3 : Int32)), .val (.long ad), .second, .val (.int (2 : Int32)), .val (.int (2 : Int32)), .val (.int (2 : Int32))] [(.int (2 : Int32)), (.int (2 : Int32))])) _
        refine XS.icmpYes X0.here hx rfl (pc0 := 10) (pc' := 47) rfl (hb hby d3_10) rfl (flt (by decide : ¬ ((2 : Int32) < (2 : Int32)))).2.1 (by decide) (by decide) ?_
        show Steps p.tables e below (s₁.setTop (mkF m 47 #[.val (.ref x0), .val (.int (3 : Int32)), .val (.long ad), .second, .val (.int (2 : Int32)), .val (.int (2 : Int32)), .val (.int (2 : Int32))] [])) _
        refine XS.iload X0.here hx rfl (hb hby d3_47) rfl ?_
        show Steps p.tables e below (s₁.setTop (mkF m 49 #[.val (.ref x0), .val (.int (3 : Int32)), .val (.long ad), .second, .val (.int (2 : Int32)), .val (.int (2 : Int32)), .val (.int (2 : Int32))] [(.int (2 : Int32))])) _
        have hv : own_ia3 w0 w1 w2 w3 ad = (2 : Int32) := by unfold own_ia3; rw [if_neg hc28, if_pos hc28_]
        rw [hv] at hr
        exact retI X0 hx Bd.returns (hb hby d3_49) hr
      · refine XS.ifNo X0.here hx rfl (hb hby d3_28) rfl ((if0 _ _).trans (flt hc28_).2.2.1) ?_
        show Steps p.tables e below (s₁.setTop (mkF m 31 #[.val (.ref x0), .val (.int (3 : Int32)), .val (.long ad), .second, .val (.int (2 : Int32)), .val (.int (3 : Int32)), .val (.int (2 : Int32))] [])) _
        refine XS.iload X0.here hx rfl (hb hby d3_31) rfl ?_
        show Steps p.tables e below (s₁.setTop (mkF m 33 #[.val (.ref x0), .val (.int (3 : Int32)), .val (.long ad), .second, .val (.int (2 : Int32)), .val (.int (3 : Int32)), .val (.int (2 : Int32))] [(.int (2 : Int32))])) _
        refine XS.iconst X0.here hx rfl (hb hby d3_33) ?_
        show Steps p.tables e below (s₁.setTop (mkF m 34 #[.val (.ref x0), .val (.int (3 : Int32)), .val (.long ad), .second, .val (.int (2 : Int32)), .val (.int (3 : Int32)), .val (.int (2 : Int32))] [(.int (1 : Int32)), (.int (2 : Int32))])) _
        refine XS.iadd X0.here hx rfl (hb hby d3_34) rfl ?_
        show Steps p.tables e below (s₁.setTop (mkF m 35 #[.val (.ref x0), .val (.int (3 : Int32)), .val (.long ad), .second, .val (.int (2 : Int32)), .val (.int (3 : Int32)), .val (.int (2 : Int32))] [(.int ((2 : Int32) + (1 : Int32)))])) _
        rw [show ((2 : Int32) + (1 : Int32)) = (3 : Int32) from by decide]
        show Steps p.tables e below (s₁.setTop (mkF m 35 #[.val (.ref x0), .val (.int (3 : Int32)), .val (.long ad), .second, .val (.int (2 : Int32)), .val (.int (3 : Int32)), .val (.int (2 : Int32))] [(.int (3 : Int32))])) _
        refine XS.istore X0.here hx rfl (hb hby d3_35) rfl (l' := #[.val (.ref x0), .val (.int (3 : Int32)), .val (.long ad), .second, .val (.int (3 : Int32)), .val (.int (3 : Int32)), .val (.int (2 : Int32))]) rfl ?_
        show Steps p.tables e below (s₁.setTop (mkF m 37 #[.val (.ref x0), .val (.int (3 : Int32)), .val (.long ad), .second, .val (.int (3 : Int32)), .val (.int (3 : Int32)), .val (.int (2 : Int32))] [])) _
        refine XS.goto X0.here hx rfl (pc0 := 37) (pc' := 44) rfl (hb hby d3_37) (by decide) (by decide) ?_
        show Steps p.tables e below (s₁.setTop (mkF m 44 #[.val (.ref x0), .val (.int (3 : Int32)), .val (.long ad), .second, .val (.int (3 : Int32)), .val (.int (3 : Int32)), .val (.int (2 : Int32))] [])) _
        refine XS.goto X0.here hx rfl (pc0 := 44) (pc' := 6) rfl (hb hby d3_44) (by decide) (by decide) ?_
        show Steps p.tables e below (s₁.setTop (mkF m 6 #[.val (.ref x0), .val (.int (3 : Int32)), .val (.long ad), .second, .val (.int (3 : Int32)), .val (.int (3 : Int32)), .val (.int (2 : Int32))] [])) _
        refine XS.iload X0.here hx rfl (hb hby d3_6) rfl ?_
        show Steps p.tables e below (s₁.setTop (mkF m 8 #[.val (.ref x0), .val (.int (3 : Int32)), .val (.long ad), .second, .val (.int (3 : Int32)), .val (.int (3 : Int32)), .val (.int (2 : Int32))] [(.int (3 : Int32))])) _
        refine XS.iload X0.here hx rfl (hb hby d3_8) rfl ?_
        show Steps p.tables e below (s₁.setTop (mkF m 10 #[.val (.ref x0), .val (.int (3 : Int32)), .val (.long ad), .second, .val (.int (3 : Int32)), .val (.int (3 : Int32)), .val (.int (2 : Int32))] [(.int (3 : Int32)), (.int (3 : Int32))])) _
        refine XS.icmpYes X0.here hx rfl (pc0 := 10) (pc' := 47) rfl (hb hby d3_10) rfl (flt (by decide : ¬ ((3 : Int32) < (3 : Int32)))).2.1 (by decide) (by decide) ?_
        show Steps p.tables e below (s₁.setTop (mkF m 47 #[.val (.ref x0), .val (.int (3 : Int32)), .val (.long ad), .second, .val (.int (3 : Int32)), .val (.int (3 : Int32)), .val (.int (2 : Int32))] [])) _
        refine XS.iload X0.here hx rfl (hb hby d3_47) rfl ?_
        show Steps p.tables e below (s₁.setTop (mkF m 49 #[.val (.ref x0), .val (.int (3 : Int32)), .val (.long ad), .second, .val (.int (3 : Int32)), .val (.int (3 : Int32)), .val (.int (2 : Int32))] [(.int (3 : Int32))])) _
        have hv : own_ia3 w0 w1 w2 w3 ad = (3 : Int32) := by unfold own_ia3; rw [if_neg hc28, if_neg hc28_]
        rw [hv] at hr
        exact retI X0 hx Bd.returns (hb hby d3_49) hr
  · exact ⟨rfl, N0, e0⟩
set_option maxRecDepth 65536 in
set_option maxHeartbeats 40000000 in
theorem rmia_4 (l : Launch) (Z : State) (a0 : Array Value) (hw : ∀ d ∈ tables_1, d.before a0 Z = true) (ws : List Jvm.Cond) (x0 : Addr) (k0 : ClassId) (w0 w1 w2 w3 ad : Int64) (h0 : Heap) (n0 : Nat) (Z0 : n0 ≤ h0.size) (V_x0 : Arv Z h0 x0 k0 .long (4 : Int32) [(.long w0), (.long w1), (.long w2), (.long w3)] (.long (0 : Int64))) :
    MetFree l (⟨"com/example/rootline/rootline/heap/ClassObjects", "indexAbove", "([JIJ)I"⟩ : MethodName) (head1 (Jvm.Cond.code (⟨"com/example/rootline/rootline/heap/ClassObjects", "indexAbove", "([JIJ)I"⟩ : MethodName) prog_88_method_6_code 7 (some .int) :: ws) ({ frames := 0, cells := 0, slots := 0, locals := 0 } : Room)) (fun a U => a = #[(.ref x0), (.int (4 : Int32)), (.long ad)] ∧ Z.Warmed39 U.vm ∧ U.heap = h0) (fun _ _ _ _ _ => True) (fun _ U o U' => ∃ v L, o = .returned v ∧ (QP (some (.int (own_ia4 w0 w1 w2 w3 ad))) h0 n0 v U'.heap L) ∧ FrameEnd U o U' L ({ frames := 0, cells := 0, slots := 0, locals := 0 } : Room).cells ({ frames := 0, cells := 0, slots := 0, locals := 0 } : Room).slots) := by
  refine MetFree.of_bodySF (plainFor_of_name pn_3) hisR ?_
  intro p e s m args below meth c s₁ Bd hml0 hP hK
  obtain ⟨rfl, hZ, hh⟩ := hP
  have hx := Bd.exec
  have hby := Bd.bytes
  have hml : c.maxLocals = 7 := hml0
  have hown : s.vm.findClass "com/example/rootline/rootline/heap/ClassObjects" = some m.cls := findClass_of_methodNamed Bd.named
  have hnm := (name_of_methodNamed Bd.named Bd.method).1
  have X0 : Stand p l e ({ frames := 0, cells := 0, slots := 0, locals := 0 } : Room) s m #[(.ref x0), (.int (4 : Int32)), (.long ad)] below meth c s₁ [] 0 0 := Stand.of_body Bd
  have e0 : s₁.heap = h0 := by rw [← hh, Bd.state]; rfl
  have N0 := Fr.nil n0
  have pre0 : ∀ t, Steps p.tables e below (s₁.setTop (mkF m 0 #[.val (.ref x0), .val (.int (4 : Int32)), .val (.long ad), .second, .unset, .unset, .unset] [])) t → Steps p.tables e below (s₁.setTop (entryFrame m #[(.ref x0), (.int (4 : Int32)), (.long ad)] 7)) t := fun t k => castTop (ef_3 m x0 (4 : Int32) ad) k
  obtain ⟨fs, hr, hrun, hended, hW, hsame⟩ := X0.leave (v := some (.int (own_ia4 w0 w1 w2 w3 ad))) (fun h => by rw [Bd.returns] at h; cases h)
  refine ⟨_, _, pre0 _ ?_, hrun, hended, _, _, rfl, ?_, ⟨_, rfl⟩, hW, hsame.mono (by decide) (by decide)⟩
  · show Steps p.tables e below (s₁.setTop (mkF m 0 #[.val (.ref x0), .val (.int (4 : Int32)), .val (.long ad), .second, .unset, .unset, .unset] [])) _
    refine XS.iconst X0.here hx rfl (hb hby d3_0) ?_
    show Steps p.tables e below (s₁.setTop (mkF m 1 #[.val (.ref x0), .val (.int (4 : Int32)), .val (.long ad), .second, .unset, .unset, .unset] [(.int (0 : Int32))])) _
    refine XS.istore X0.here hx rfl (hb hby d3_1) rfl (l' := #[.val (.ref x0), .val (.int (4 : Int32)), .val (.long ad), .second, .val (.int (0 : Int32)), .unset, .unset]) rfl ?_
    show Steps p.tables e below (s₁.setTop (mkF m 3 #[.val (.ref x0), .val (.int (4 : Int32)), .val (.long ad), .second, .val (.int (0 : Int32)), .unset, .unset] [])) _
    refine XS.iloadN X0.here hx rfl (hb hby d3_3) rfl ?_
    show Steps p.tables e below (s₁.setTop (mkF m 4 #[.val (.ref x0), .val (.int (4 : Int32)), .val (.long ad), .second, .val (.int (0 : Int32)), .unset, .unset] [(.int (4 : Int32))])) _
    refine XS.istore X0.here hx rfl (hb hby d3_4) rfl (l' := #[.val (.ref x0), .val (.int (4 : Int32)), .val (.long ad), .second, .val (.int (0 : Int32)), .val (.int (4 : Int32)), .unset]) rfl ?_
    show Steps p.tables e below (s₁.setTop (mkF m 6 #[.val (.ref x0), .val (.int (4 : Int32)), .val (.long ad), .second, .val (.int (0 : Int32)), .val (.int (4 : Int32)), .unset] [])) _
    refine XS.iload X0.here hx rfl (hb hby d3_6) rfl ?_
    show Steps p.tables e below (s₁.setTop (mkF m 8 #[.val (.ref x0), .val (.int (4 : Int32)), .val (.long ad), .second, .val (.int (0 : Int32)), .val (.int (4 : Int32)), .unset] [(.int (0 : Int32))])) _
    refine XS.iload X0.here hx rfl (hb hby d3_8) rfl ?_
    show Steps p.tables e below (s₁.setTop (mkF m 10 #[.val (.ref x0), .val (.int (4 : Int32)), .val (.long ad), .second, .val (.int (0 : Int32)), .val (.int (4 : Int32)), .unset] [(.int (4 : Int32)), (.int (0 : Int32))])) _
    refine XS.icmpNo X0.here hx rfl (hb hby d3_10) rfl (tlt (by decide : (0 : Int32) < (4 : Int32))).2.1 ?_
    show Steps p.tables e below (s₁.setTop (mkF m 13 #[.val (.ref x0), .val (.int (4 : Int32)), .val (.long ad), .second, .val (.int (0 : Int32)), .val (.int (4 : Int32)), .unset] [])) _
    refine XS.iload X0.here hx rfl (hb hby d3_13) rfl ?_
    show Steps p.tables e below (s₁.setTop (mkF m 15 #[.val (.ref x0), .val (.int (4 : Int32)), .val (.long ad), .second, .val (.int (0 : Int32)), .val (.int (4 : Int32)), .unset] [(.int (0 : Int32))])) _
    refine XS.iload X0.here hx rfl (hb hby d3_15) rfl ?_
    show Steps p.tables e below (s₁.setTop (mkF m 17 #[.val (.ref x0), .val (.int (4 : Int32)), .val (.long ad), .second, .val (.int (0 : Int32)), .val (.int (4 : Int32)), .unset] [(.int (4 : Int32)), (.int (0 : Int32))])) _
    refine XS.iadd X0.here hx rfl (hb hby d3_17) rfl ?_
    show Steps p.tables e below (s₁.setTop (mkF m 18 #[.val (.ref x0), .val (.int (4 : Int32)), .val (.long ad), .second, .val (.int (0 : Int32)), .val (.int (4 : Int32)), .unset] [(.int ((0 : Int32) + (4 : Int32)))])) _
    rw [show ((0 : Int32) + (4 : Int32)) = (4 : Int32) from by decide]
    show Steps p.tables e below (s₁.setTop (mkF m 18 #[.val (.ref x0), .val (.int (4 : Int32)), .val (.long ad), .second, .val (.int (0 : Int32)), .val (.int (4 : Int32)), .unset] [(.int (4 : Int32))])) _
    refine XS.iconst X0.here hx rfl (hb hby d3_18) ?_
    show Steps p.tables e below (s₁.setTop (mkF m 19 #[.val (.ref x0), .val (.int (4 : Int32)), .val (.long ad), .second, .val (.int (0 : Int32)), .val (.int (4 : Int32)), .unset] [(.int (1 : Int32)), (.int (4 : Int32))])) _
    refine XS.iushr X0.here hx rfl (hb hby d3_19) rfl ?_
    show Steps p.tables e below (s₁.setTop (mkF m 20 #[.val (.ref x0), .val (.int (4 : Int32)), .val (.long ad), .second, .val (.int (0 : Int32)), .val (.int (4 : Int32)), .unset] [(.int (((4 : Int32).toUInt32 >>> ((1 : Int32) &&& 31).toUInt32).toInt32))])) _
    rw [show (((4 : Int32).toUInt32 >>> ((1 : Int32) &&& 31).toUInt32).toInt32) = (2 : Int32) from by decide]
    show Steps p.tables e below (s₁.setTop (mkF m 20 #[.val (.ref x0), .val (.int (4 : Int32)), .val (.long ad), .second, .val (.int (0 : Int32)), .val (.int (4 : Int32)), .unset] [(.int (2 : Int32))])) _
    refine XS.istore X0.here hx rfl (hb hby d3_20) rfl (l' := #[.val (.ref x0), .val (.int (4 : Int32)), .val (.long ad), .second, .val (.int (0 : Int32)), .val (.int (4 : Int32)), .val (.int (2 : Int32))]) rfl ?_
    show Steps p.tables e below (s₁.setTop (mkF m 22 #[.val (.ref x0), .val (.int (4 : Int32)), .val (.long ad), .second, .val (.int (0 : Int32)), .val (.int (4 : Int32)), .val (.int (2 : Int32))] [])) _
    refine XS.aloadN X0.here hx rfl (hb hby d3_22) rfl rfl ?_
    show Steps p.tables e below (s₁.setTop (mkF m 23 #[.val (.ref x0), .val (.int (4 : Int32)), .val (.long ad), .second, .val (.int (0 : Int32)), .val (.int (4 : Int32)), .val (.int (2 : Int32))] [(.ref x0)])) _
    refine XS.iload X0.here hx rfl (hb hby d3_23) rfl ?_
    show Steps p.tables e below (s₁.setTop (mkF m 25 #[.val (.ref x0), .val (.int (4 : Int32)), .val (.long ad), .second, .val (.int (0 : Int32)), .val (.int (4 : Int32)), .val (.int (2 : Int32))] [(.int (2 : Int32)), (.ref x0)])) _
    refine own_ldJ X0 hx hZ e0 V_x0 (j := (2 : Int32)) (w := w2) ⟨by decide, by decide⟩ rfl (g := (mkF m 25 #[.val (.ref x0), .val (.int (4 : Int32)), .val (.long ad), .second, .val (.int (0 : Int32)), .val (.int (4 : Int32)), .val (.int (2 : Int32))] [(.int (2 : Int32)), (.ref x0)])) rfl rfl (hb hby d3_25) ?_
    show Steps p.tables e below (s₁.setTop (mkF m 26 #[.val (.ref x0), .val (.int (4 : Int32)), .val (.long ad), .second, .val (.int (0 : Int32)), .val (.int (4 : Int32)), .val (.int (2 : Int32))] [(.long w2)])) _
    refine XS.lloadN X0.here hx rfl (hb hby d3_26) rfl ?_
    show Steps p.tables e below (s₁.setTop (mkF m 27 #[.val (.ref x0), .val (.int (4 : Int32)), .val (.long ad), .second, .val (.int (0 : Int32)), .val (.int (4 : Int32)), .val (.int (2 : Int32))] [(.long ad), (.long w2)])) _
    refine XS.lcmp X0.here hx rfl (hb hby d3_27) rfl ?_
    show Steps p.tables e below (s₁.setTop (mkF m 28 #[.val (.ref x0), .val (.int (4 : Int32)), .val (.long ad), .second, .val (.int (0 : Int32)), .val (.int (4 : Int32)), .val (.int (2 : Int32))] [(.int (lcmpW w2 ad))])) _
    by_cases hc28 : (0 : Int32) < (lcmpW w2 ad)
    · refine XS.ifYes X0.here hx rfl (pc0 := 28) (pc' := 40) rfl (hb hby d3_28) rfl ((if0 _ _).trans (tlt hc28).2.2.1) (by decide) (by decide) ?_
      show Steps p.tables e below (s₁.setTop (mkF m 40 #[.val (.ref x0), .val (.int (4 : Int32)), .val (.long ad), .second, .val (.int (0 : Int32)), .val (.int (4 : Int32)), .val (.int (2 : Int32))] [])) _
      refine XS.iload X0.here hx rfl (hb hby d3_40) rfl ?_
      show Steps p.tables e below (s₁.setTop (mkF m 42 #[.val (.ref x0), .val (.int (4 : Int32)), .val (.long ad), .second, .val (.int (0 : Int32)), .val (.int (4 : Int32)), .val (.int (2 : Int32))] [(.int (2 : Int32))])) _
      refine XS.istore X0.here hx rfl (hb hby d3_42) rfl (l' := #[.val (.ref x0), .val (.int (4 : Int32)), .val (.long ad), .second, .val (.int (0 : Int32)), .val (.int (2 : Int32)), .val (.int (2 : Int32))]) rfl ?_
      show Steps p.tables e below (s₁.setTop (mkF m 44 #[.val (.ref x0), .val (.int (4 : Int32)), .val (.long ad), .second, .val (.int (0 : Int32)), .val (.int (2 : Int32)), .val (.int (2 : Int32))] [])) _
      refine XS.goto X0.here hx rfl (pc0 := 44) (pc' := 6) rfl (hb hby d3_44) (by decide) (by decide) ?_
      show Steps p.tables e below (s₁.setTop (mkF m 6 #[.val (.ref x0), .val (.int (4 : Int32)), .val (.long ad), .second, .val (.int (0 : Int32)), .val (.int (2 : Int32)), .val (.int (2 : Int32))] [])) _
      refine XS.iload X0.here hx rfl (hb hby d3_6) rfl ?_
      show Steps p.tables e below (s₁.setTop (mkF m 8 #[.val (.ref x0), .val (.int (4 : Int32)), .val (.long ad), .second, .val (.int (0 : Int32)), .val (.int (2 : Int32)), .val (.int (2 : Int32))] [(.int (0 : Int32))])) _
      refine XS.iload X0.here hx rfl (hb hby d3_8) rfl ?_
      show Steps p.tables e below (s₁.setTop (mkF m 10 #[.val (.ref x0), .val (.int (4 : Int32)), .val (.long ad), .second, .val (.int (0 : Int32)), .val (.int (2 : Int32)), .val (.int (2 : Int32))] [(.int (2 : Int32)), (.int (0 : Int32))])) _
      refine XS.icmpNo X0.here hx rfl (hb hby d3_10) rfl (tlt (by decide : (0 : Int32) < (2 : Int32))).2.1 ?_
      show Steps p.tables e below (s₁.setTop (mkF m 13 #[.val (.ref x0), .val (.int (4 : Int32)), .val (.long ad), .second, .val (.int (0 : Int32)), .val (.int (2 : Int32)), .val (.int (2 : Int32))] [])) _
      refine XS.iload X0.here hx rfl (hb hby d3_13) rfl ?_
      show Steps p.tables e below (s₁.setTop (mkF m 15 #[.val (.ref x0), .val (.int (4 : Int32)), .val (.long ad), .second, .val (.int (0 : Int32)), .val (.int (2 : Int32)), .val (.int (2 : Int32))] [(.int (0 : Int32))])) _
      refine XS.iload X0.here hx rfl (hb hby d3_15) rfl ?_
      show Steps p.tables e below (s₁.setTop (mkF m 17 #[.val (.ref x0), .val (.int (4 : Int32)), .val (.long ad), .second, .val (.int (0 : Int32)), .val (.int (2 : Int32)), .val (.int (2 : Int32))] [(.int (2 : Int32)), (.int (0 : Int32))])) _
      refine XS.iadd X0.here hx rfl (hb hby d3_17) rfl ?_
      show Steps p.tables e below (s₁.setTop (mkF m 18 #[.val (.ref x0), .val (.int (4 : Int32)), .val (.long ad), .second, .val (.int (0 : Int32)), .val (.int (2 : Int32)), .val (.int (2 : Int32))] [(.int ((0 : Int32) + (2 : Int32)))])) _
      rw [show ((0 : Int32) + (2 : Int32)) = (2 : Int32) from by decide]
      show Steps p.tables e below (s₁.setTop (mkF m 18 #[.val (.ref x0), .val (.int (4 : Int32)), .val (.long ad), .second, .val (.int (0 : Int32)), .val (.int (2 : Int32)), .val (.int (2 : Int32))] [(.int (2 : Int32))])) _
      refine XS.iconst X0.here hx rfl (hb hby d3_18) ?_
      show Steps p.tables e below (s₁.setTop (mkF m 19 #[.val (.ref x0), .val (.int (4 : Int32)), .val (.long ad), .second, .val (.int (0 : Int32)), .val (.int (2 : Int32)), .val (.int (2 : Int32))] [(.int (1 : Int32)), (.int (2 : Int32))])) _
      refine XS.iushr X0.here hx rfl (hb hby d3_19) rfl ?_
      show Steps p.tables e below (s₁.setTop (mkF m 20 #[.val (.ref x0), .val (.int (4 : Int32)), .val (.long ad), .second, .val (.int (0 : Int32)), .val (.int (2 : Int32)), .val (.int (2 : Int32))] [(.int (((2 : Int32).toUInt32 >>> ((1 : Int32) &&& 31).toUInt32).toInt32))])) _
      rw [show (((2 : Int32).toUInt32 >>> ((1 : Int32) &&& 31).toUInt32).toInt32) = (1 : Int32) from by decide]
      show Steps p.tables e below (s₁.setTop (mkF m 20 #[.val (.ref x0), .val (.int (4 : Int32)), .val (.long ad), .second, .val (.int (0 : Int32)), .val (.int (2 : Int32)), .val (.int (2 : Int32))] [(.int (1 : Int32))])) _
      refine XS.istore X0.here hx rfl (hb hby d3_20) rfl (l' := #[.val (.ref x0), .val (.int (4 : Int32)), .val (.long ad), .second, .val (.int (0 : Int32)), .val (.int (2 : Int32)), .val (.int (1 : Int32))]) rfl ?_
      show Steps p.tables e below (s₁.setTop (mkF m 22 #[.val (.ref x0), .val (.int (4 : Int32)), .val (.long ad), .second, .val (.int (0 : Int32)), .val (.int (2 : Int32)), .val (.int (1 : Int32))] [])) _
      refine XS.aloadN X0.here hx rfl (hb hby d3_22) rfl rfl ?_
      show Steps p.tables e below (s₁.setTop (mkF m 23 #[.val (.ref x0), .val (.int (4 : Int32)), .val (.long ad), .second, .val (.int (0 : Int32)), .val (.int (2 : Int32)), .val (.int (1 : Int32))] [(.ref x0)])) _
      refine XS.iload X0.here hx rfl (hb hby d3_23) rfl ?_
      show Steps p.tables e below (s₁.setTop (mkF m 25 #[.val (.ref x0), .val (.int (4 : Int32)), .val (.long ad), .second, .val (.int (0 : Int32)), .val (.int (2 : Int32)), .val (.int (1 : Int32))] [(.int (1 : Int32)), (.ref x0)])) _
      refine own_ldJ X0 hx hZ e0 V_x0 (j := (1 : Int32)) (w := w1) ⟨by decide, by decide⟩ rfl (g := (mkF m 25 #[.val (.ref x0), .val (.int (4 : Int32)), .val (.long ad), .second, .val (.int (0 : Int32)), .val (.int (2 : Int32)), .val (.int (1 : Int32))] [(.int (1 : Int32)), (.ref x0)])) rfl rfl (hb hby d3_25) ?_
      show Steps p.tables e below (s₁.setTop (mkF m 26 #[.val (.ref x0), .val (.int (4 : Int32)), .val (.long ad), .second, .val (.int (0 : Int32)), .val (.int (2 : Int32)), .val (.int (1 : Int32))] [(.long w1)])) _
      refine XS.lloadN X0.here hx rfl (hb hby d3_26) rfl ?_
      show Steps p.tables e below (s₁.setTop (mkF m 27 #[.val (.ref x0), .val (.int (4 : Int32)), .val (.long ad), .second, .val (.int (0 : Int32)), .val (.int (2 : Int32)), .val (.int (1 : Int32))] [(.long ad), (.long w1)])) _
      refine XS.lcmp X0.here hx rfl (hb hby d3_27) rfl ?_
      show Steps p.tables e below (s₁.setTop (mkF m 28 #[.val (.ref x0), .val (.int (4 : Int32)), .val (.long ad), .second, .val (.int (0 : Int32)), .val (.int (2 : Int32)), .val (.int (1 : Int32))] [(.int (lcmpW w1 ad))])) _
      by_cases hc28_ : (0 : Int32) < (lcmpW w1 ad)
      · refine XS.ifYes X0.here hx rfl (pc0 := 28) (pc' := 40) rfl (hb hby d3_28) rfl ((if0 _ _).trans (tlt hc28_).2.2.1) (by decide) (by decide) ?_
        show Steps p.tables e below (s₁.setTop (mkF m 40 #[.val (.ref x0), .val (.int (4 : Int32)), .val (.long ad), .second, .val (.int (0 : Int32)), .val (.int (2 : Int32)), .val (.int (1 : Int32))] [])) _
        refine XS.iload X0.here hx rfl (hb hby d3_40) rfl ?_
        show Steps p.tables e below (s₁.setTop (mkF m 42 #[.val (.ref x0), .val (.int (4 : Int32)), .val (.long ad), .second, .val (.int (0 : Int32)), .val (.int (2 : Int32)), .val (.int (1 : Int32))] [(.int (1 : Int32))])) _
        refine XS.istore X0.here hx rfl (hb hby d3_42) rfl (l' := #[.val (.ref x0), .val (.int (4 : Int32)), .val (.long ad), .second, .val (.int (0 : Int32)), .val (.int (1 : Int32)), .val (.int (1 : Int32))]) rfl ?_
        show Steps p.tables e below (s₁.setTop (mkF m 44 #[.val (.ref x0), .val (.int (4 : Int32)), .val (.long ad), .second, .val (.int (0 : Int32)), .val (.int (1 : Int32)), .val (.int (1 : Int32))] [])) _
        refine XS.goto X0.here hx rfl (pc0 := 44) (pc' := 6) rfl (hb hby d3_44) (by decide) (by decide) ?_
        show Steps p.tables e below (s₁.setTop (mkF m 6 #[.val (.ref x0), .val (.int (4 : Int32)), .val (.long ad), .second, .val (.int (0 : Int32)), .val (.int (1 : Int32)), .val (.int (1 : Int32))] [])) _
        refine XS.iload X0.here hx rfl (hb hby d3_6) rfl ?_
        show Steps p.tables e below (s₁.setTop (mkF m 8 #[.val (.ref x0), .val (.int (4 : Int32)), .val (.long ad), .second, .val (.int (0 : Int32)), .val (.int (1 : Int32)), .val (.int (1 : Int32))] [(.int (0 : Int32))])) _
        refine XS.iload X0.here hx rfl (hb hby d3_8) rfl ?_
        show Steps p.tables e below (s₁.setTop (mkF m 10 #[.val (.ref x0), .val (.int (4 : Int32)), .val (.long ad), .second, .val (.int (0 : Int32)), .val (.int (1 : Int32)), .val (.int (1 : Int32))] [(.int (1 : Int32)), (.int (0 : Int32))])) _
        refine XS.icmpNo X0.here hx rfl (hb hby d3_10) rfl (tlt (by decide : (0 : Int32) < (1 : Int32))).2.1 ?_
        show Steps p.tables e below (s₁.setTop (mkF m 13 #[.val (.ref x0), .val (.int (4 : Int32)), .val (.long ad), .second, .val (.int (0 : Int32)), .val (.int (1 : Int32)), .val (.int (1 : Int32))] [])) _
        refine XS.iload X0.here hx rfl (hb hby d3_13) rfl ?_
        show Steps p.tables e below (s₁.setTop (mkF m 15 #[.val (.ref x0), .val (.int (4 : Int32)), .val (.long ad), .second, .val (.int (0 : Int32)), .val (.int (1 : Int32)), .val (.int (1 : Int32))] [(.int (0 : Int32))])) _
        refine XS.iload X0.here hx rfl (hb hby d3_15) rfl ?_
        show Steps p.tables e below (s₁.setTop (mkF m 17 #[.val (.ref x0), .val (.int (4 : Int32)), .val (.long ad), .second, .val (.int (0 : Int32)), .val (.int (1 : Int32)), .val (.int (1 : Int32))] [(.int (1 : Int32)), (.int (0 : Int32))])) _
        refine XS.iadd X0.here hx rfl (hb hby d3_17) rfl ?_
        show Steps p.tables e below (s₁.setTop (mkF m 18 #[.val (.ref x0), .val (.int (4 : Int32)), .val (.long ad), .second, .val (.int (0 : Int32)), .val (.int (1 : Int32)), .val (.int (1 : Int32))] [(.int ((0 : Int32) + (1 : Int32)))])) _
        rw [show ((0 : Int32) + (1 : Int32)) = (1 : Int32) from by decide]
        show Steps p.tables e below (s₁.setTop (mkF m 18 #[.val (.ref x0), .val (.int (4 : Int32)), .val (.long ad), .second, .val (.int (0 : Int32)), .val (.int (1 : Int32)), .val (.int (1 : Int32))] [(.int (1 : Int32))])) _
        refine XS.iconst X0.here hx rfl (hb hby d3_18) ?_
        show Steps p.tables e below (s₁.setTop (mkF m 19 #[.val (.ref x0), .val (.int (4 : Int32)), .val (.long ad), .second, .val (.int (0 : Int32)), .val (.int (1 : Int32)), .val (.int (1 : Int32))] [(.int (1 : Int32)), (.int (1 : Int32))])) _
        refine XS.iushr X0.here hx rfl (hb hby d3_19) rfl ?_
        show Steps p.tables e below (s₁.setTop (mkF m 20 #[.val (.ref x0), .val (.int (4 : Int32)), .val (.long ad), .second, .val (.int (0 : Int32)), .val (.int (1 : Int32)), .val (.int (1 : Int32))] [(.int (((1 : Int32).toUInt32 >>> ((1 : Int32) &&& 31).toUInt32).toInt32))])) _
        rw [show (((1 : Int32).toUInt32 >>> ((1 : Int32) &&& 31).toUInt32).toInt32) = (0 : Int32) from by decide]
        show Steps p.tables e below (s₁.setTop (mkF m 20 #[.val (.ref x0), .val (.int (4 : Int32)), .val (.long ad), .second, .val (.int (0 : Int32)), .val (.int (1 : Int32)), .val (.int (1 : Int32))] [(.int (0 : Int32))])) _
        refine XS.istore X0.here hx rfl (hb hby d3_20) rfl (l' := #[.val (.ref x0), .val (.int (4 : Int32)), .val (.long ad), .second, .val (.int (0 : Int32)), .val (.int (1 : Int32)), .val (.int (0 : Int32))]) rfl ?_
        show Steps p.tables e below (s₁.setTop (mkF m 22 #[.val (.ref x0), .val (.int (4 : Int32)), .val (.long ad), .second, .val (.int (0 : Int32)), .val (.int (1 : Int32)), .val (.int (0 : Int32))] [])) _
        refine XS.aloadN X0.here hx rfl (hb hby d3_22) rfl rfl ?_
        show Steps p.tables e below (s₁.setTop (mkF m 23 #[.val (.ref x0), .val (.int (4 : Int32)), .val (.long ad), .second, .val (.int (0 : Int32)), .val (.int (1 : Int32)), .val (.int (0 : Int32))] [(.ref x0)])) _
        refine XS.iload X0.here hx rfl (hb hby d3_23) rfl ?_
        show Steps p.tables e below (s₁.setTop (mkF m 25 #[.val (.ref x0), .val (.int (4 : Int32)), .val (.long ad), .second, .val (.int (0 : Int32)), .val (.int (1 : Int32)), .val (.int (0 : Int32))] [(.int (0 : Int32)), (.ref x0)])) _
        refine own_ldJ X0 hx hZ e0 V_x0 (j := (0 : Int32)) (w := w0) ⟨by decide, by decide⟩ rfl (g := (mkF m 25 #[.val (.ref x0), .val (.int (4 : Int32)), .val (.long ad), .second, .val (.int (0 : Int32)), .val (.int (1 : Int32)), .val (.int (0 : Int32))] [(.int (0 : Int32)), (.ref x0)])) rfl rfl (hb hby d3_25) ?_
        show Steps p.tables e below (s₁.setTop (mkF m 26 #[.val (.ref x0), .val (.int (4 : Int32)), .val (.long ad), .second, .val (.int (0 : Int32)), .val (.int (1 : Int32)), .val (.int (0 : Int32))] [(.long w0)])) _
        refine XS.lloadN X0.here hx rfl (hb hby d3_26) rfl ?_
        show Steps p.tables e below (s₁.setTop (mkF m 27 #[.val (.ref x0), .val (.int (4 : Int32)), .val (.long ad), .second, .val (.int (0 : Int32)), .val (.int (1 : Int32)), .val (.int (0 : Int32))] [(.long ad), (.long w0)])) _
        refine XS.lcmp X0.here hx rfl (hb hby d3_27) rfl ?_
        show Steps p.tables e below (s₁.setTop (mkF m 28 #[.val (.ref x0), .val (.int (4 : Int32)), .val (.long ad), .second, .val (.int (0 : Int32)), .val (.int (1 : Int32)), .val (.int (0 : Int32))] [(.int (lcmpW w0 ad))])) _
        by_cases hc28__ : (0 : Int32) < (lcmpW w0 ad)
        · refine XS.ifYes X0.here hx rfl (pc0 := 28) (pc' := 40) rfl (hb hby d3_28) rfl ((if0 _ _).trans (tlt hc28__).2.2.1) (by decide) (by decide) ?_
          show Steps p.tables e below (s₁.setTop (mkF m 40 #[.val (.ref x0), .val (.int (4 : Int32)), .val (.long ad), .second, .val (.int (0 : Int32)), .val (.int (1 : Int32)), .val (.int (0 : Int32))] [])) _
          refine XS.iload X0.here hx rfl (hb hby d3_40) rfl ?_
          show Steps p.tables e below (s₁.setTop (mkF m 42 #[.val (.ref x0), .val (.int (4 : Int32)), .val (.long ad), .second, .val (.int (0 : Int32)), .val (.int (1 : Int32)), .val (.int (0 : Int32))] [(.int (0 : Int32))])) _
          refine XS.istore X0.here hx rfl (hb hby d3_42) rfl (l' := #[.val (.ref x0), .val (.int (4 : Int32)), .val (.long ad), .second, .val (.int (0 : Int32)), .val (.int (0 : Int32)), .val (.int (0 : Int32))]) rfl ?_
          show Steps p.tables e below (s₁.setTop (mkF m 44 #[.val (.ref x0), .val (.int (4 : Int32)), .val (.long ad), .second, .val (.int (0 : Int32)), .val (.int (0 : Int32)), .val (.int (0 : Int32))] [])) _
          refine XS.goto X0.here hx rfl (pc0 := 44) (pc' := 6) rfl (hb hby d3_44) (by decide) (by decide) ?_
          show Steps p.tables e below (s₁.setTop (mkF m 6 #[.val (.ref x0), .val (.int (4 : Int32)), .val (.long ad), .second, .val (.int (0 : Int32)), .val (.int (0 : Int32)), .val (.int (0 : Int32))] [])) _
          refine XS.iload X0.here hx rfl (hb hby d3_6) rfl ?_
          show Steps p.tables e below (s₁.setTop (mkF m 8 #[.val (.ref x0), .val (.int (4 : Int32)), .val (.long ad), .second, .val (.int (0 : Int32)), .val (.int (0 : Int32)), .val (.int (0 : Int32))] [(.int (0 : Int32))])) _
          refine XS.iload X0.here hx rfl (hb hby d3_8) rfl ?_
          show Steps p.tables e below (s₁.setTop (mkF m 10 #[.val (.ref x0), .val (.int (4 : Int32)), .val (.long ad), .second, .val (.int (0 : Int32)), .val (.int (0 : Int32)), .val (.int (0 : Int32))] [(.int (0 : Int32)), (.int (0 : Int32))])) _
          refine XS.icmpYes X0.here hx rfl (pc0 := 10) (pc' := 47) rfl (hb hby d3_10) rfl (flt (by decide : ¬ ((0 : Int32) < (0 : Int32)))).2.1 (by decide) (by decide) ?_
          show Steps p.tables e below (s₁.setTop (mkF m 47 #[.val (.ref x0), .val (.int (4 : Int32)), .val (.long ad), .second, .val (.int (0 : Int32)), .val (.int (0 : Int32)), .val (.int (0 : Int32))] [])) _
          refine XS.iload X0.here hx rfl (hb hby d3_47) rfl ?_
          show Steps p.tables e below (s₁.setTop (mkF m 49 #[.val (.ref x0), .val (.int (4 : Int32)), .val (.long ad), .second, .val (.int (0 : Int32)), .val (.int (0 : Int32)), .val (.int (0 : Int32))] [(.int (0 : Int32))])) _
          have hv : own_ia4 w0 w1 w2 w3 ad = (0 : Int32) := by unfold own_ia4; rw [if_pos hc28, if_pos hc28_, if_pos hc28__]
          rw [hv] at hr
          exact retI X0 hx Bd.returns (hb hby d3_49) hr
        · refine XS.ifNo X0.here hx rfl (hb hby d3_28) rfl ((if0 _ _).trans (flt hc28__).2.2.1) ?_
          show Steps p.tables e below (s₁.setTop (mkF m 31 #[.val (.ref x0), .val (.int (4 : Int32)), .val (.long ad), .second, .val (.int (0 : Int32)), .val (.int (1 : Int32)), .val (.int (0 : Int32))] [])) _
          refine XS.iload X0.here hx rfl (hb hby d3_31) rfl ?_
          show Steps p.tables e below (s₁.setTop (mkF m 33 #[.val (.ref x0), .val (.int (4 : Int32)), .val (.long ad), .second, .val (.int (0 : Int32)), .val (.int (1 : Int32)), .val (.int (0 : Int32))] [(.int (0 : Int32))])) _
          refine XS.iconst X0.here hx rfl (hb hby d3_33) ?_
          show Steps p.tables e below (s₁.setTop (mkF m 34 #[.val (.ref x0), .val (.int (4 : Int32)), .val (.long ad), .second, .val (.int (0 : Int32)), .val (.int (1 : Int32)), .val (.int (0 : Int32))] [(.int (1 : Int32)), (.int (0 : Int32))])) _
          refine XS.iadd X0.here hx rfl (hb hby d3_34) rfl ?_
          show Steps p.tables e below (s₁.setTop (mkF m 35 #[.val (.ref x0), .val (.int (4 : Int32)), .val (.long ad), .second, .val (.int (0 : Int32)), .val (.int (1 : Int32)), .val (.int (0 : Int32))] [(.int ((0 : Int32) + (1 : Int32)))])) _
          rw [show ((0 : Int32) + (1 : Int32)) = (1 : Int32) from by decide]
          show Steps p.tables e below (s₁.setTop (mkF m 35 #[.val (.ref x0), .val (.int (4 : Int32)), .val (.long ad), .second, .val (.int (0 : Int32)), .val (.int (1 : Int32)), .val (.int (0 : Int32))] [(.int (1 : Int32))])) _
          refine XS.istore X0.here hx rfl (hb hby d3_35) rfl (l' := #[.val (.ref x0), .val (.int (4 : Int32)), .val (.long ad), .second, .val (.int (1 : Int32)), .val (.int (1 : Int32)), .val (.int (0 : Int32))]) rfl ?_
          show Steps p.tables e below (s₁.setTop (mkF m 37 #[.val (.ref x0), .val (.int (4 : Int32)), .val (.long ad), .second, .val (.int (1 : Int32)), .val (.int (1 : Int32)), .val (.int (0 : Int32))] [])) _
          refine XS.goto X0.here hx rfl (pc0 := 37) (pc' := 44) rfl (hb hby d3_37) (by decide) (by decide) ?_
          show Steps p.tables e below (s₁.setTop (mkF m 44 #[.val (.ref x0), .val (.int (4 : Int32)), .val (.long ad), .second, .val (.int (1 : Int32)), .val (.int (1 : Int32)), .val (.int (0 : Int32))] [])) _
          refine XS.goto X0.here hx rfl (pc0 := 44) (pc' := 6) rfl (hb hby d3_44) (by decide) (by decide) ?_
          show Steps p.tables e below (s₁.setTop (mkF m 6 #[.val (.ref x0), .val (.int (4 : Int32)), .val (.long ad), .second, .val (.int (1 : Int32)), .val (.int (1 : Int32)), .val (.int (0 : Int32))] [])) _
          refine XS.iload X0.here hx rfl (hb hby d3_6) rfl ?_
          show Steps p.tables e below (s₁.setTop (mkF m 8 #[.val (.ref x0), .val (.int (4 : Int32)), .val (.long ad), .second, .val (.int (1 : Int32)), .val (.int (1 : Int32)), .val (.int (0 : Int32))] [(.int (1 : Int32))])) _
          refine XS.iload X0.here hx rfl (hb hby d3_8) rfl ?_
          show Steps p.tables e below (s₁.setTop (mkF m 10 #[.val (.ref x0), .val (.int (4 : Int32)), .val (.long ad), .second, .val (.int (1 : Int32)), .val (.int (1 : Int32)), .val (.int (0 : Int32))] [(.int (1 : Int32)), (.int (1 : Int32))])) _
          refine XS.icmpYes X0.here hx rfl (pc0 := 10) (pc' := 47) rfl (hb hby d3_10) rfl (flt (by decide : ¬ ((1 : Int32) < (1 : Int32)))).2.1 (by decide) (by decide) ?_
          show Steps p.tables e below (s₁.setTop (mkF m 47 #[.val (.ref x0), .val (.int (4 : Int32)), .val (.long ad), .second, .val (.int (1 : Int32)), .val (.int (1 : Int32)), .val (.int (0 : Int32))] [])) _
          refine XS.iload X0.here hx rfl (hb hby d3_47) rfl ?_
          show Steps p.tables e below (s₁.setTop (mkF m 49 #[.val (.ref x0), .val (.int (4 : Int32)), .val (.long ad), .second, .val (.int (1 : Int32)), .val (.int (1 : Int32)), .val (.int (0 : Int32))] [(.int (1 : Int32))])) _
          have hv : own_ia4 w0 w1 w2 w3 ad = (1 : Int32) := by unfold own_ia4; rw [if_pos hc28, if_pos hc28_, if_neg hc28__]
          rw [hv] at hr
          exact retI X0 hx Bd.returns (hb hby d3_49) hr
      · refine XS.ifNo X0.here hx rfl (hb hby d3_28) rfl ((if0 _ _).trans (flt hc28_).2.2.1) ?_
        show Steps p.tables e below (s₁.setTop (mkF m 31 #[.val (.ref x0), .val (.int (4 : Int32)), .val (.long ad), .second, .val (.int (0 : Int32)), .val (.int (2 : Int32)), .val (.int (1 : Int32))] [])) _
        refine XS.iload X0.here hx rfl (hb hby d3_31) rfl ?_
        show Steps p.tables e below (s₁.setTop (mkF m 33 #[.val (.ref x0), .val (.int (4 : Int32)), .val (.long ad), .second, .val (.int (0 : Int32)), .val (.int (2 : Int32)), .val (.int (1 : Int32))] [(.int (1 : Int32))])) _
        refine XS.iconst X0.here hx rfl (hb hby d3_33) ?_
        show Steps p.tables e below (s₁.setTop (mkF m 34 #[.val (.ref x0), .val (.int (4 : Int32)), .val (.long ad), .second, .val (.int (0 : Int32)), .val (.int (2 : Int32)), .val (.int (1 : Int32))] [(.int (1 : Int32)), (.int (1 : Int32))])) _
        refine XS.iadd X0.here hx rfl (hb hby d3_34) rfl ?_
        show Steps p.tables e below (s₁.setTop (mkF m 35 #[.val (.ref x0), .val (.int (4 : Int32)), .val (.long ad), .second, .val (.int (0 : Int32)), .val (.int (2 : Int32)), .val (.int (1 : Int32))] [(.int ((1 : Int32) + (1 : Int32)))])) _
        rw [show ((1 : Int32) + (1 : Int32)) = (2 : Int32) from by decide]
        show Steps p.tables e below (s₁.setTop (mkF m 35 #[.val (.ref x0), .val (.int (4 : Int32)), .val (.long ad), .second, .val (.int (0 : Int32)), .val (.int (2 : Int32)), .val (.int (1 : Int32))] [(.int (2 : Int32))])) _
        refine XS.istore X0.here hx rfl (hb hby d3_35) rfl (l' := #[.val (.ref x0), .val (.int (4 : Int32)), .val (.long ad), .second, .val (.int (2 : Int32)), .val (.int (2 : Int32)), .val (.int (1 : Int32))]) rfl ?_
        show Steps p.tables e below (s₁.setTop (mkF m 37 #[.val (.ref x0), .val (.int (4 : Int32)), .val (.long ad), .second, .val (.int (2 : Int32)), .val (.int (2 : Int32)), .val (.int (1 : Int32))] [])) _
        refine XS.goto X0.here hx rfl (pc0 := 37) (pc' := 44) rfl (hb hby d3_37) (by decide) (by decide) ?_
        show Steps p.tables e below (s₁.setTop (mkF m 44 #[.val (.ref x0), .val (.int (4 : Int32)), .val (.long ad), .second, .val (.int (2 : Int32)), .val (.int (2 : Int32)), .val (.int (1 : Int32))] [])) _
        refine XS.goto X0.here hx rfl (pc0 := 44) (pc' := 6) rfl (hb hby d3_44) (by decide) (by decide) ?_
        show Steps p.tables e below (s₁.setTop (mkF m 6 #[.val (.ref x0), .val (.int (4 : Int32)), .val (.long ad), .second, .val (.int (2 : Int32)), .val (.int (2 : Int32)), .val (.int (1 : Int32))] [])) _
        refine XS.iload X0.here hx rfl (hb hby d3_6) rfl ?_
        show Steps p.tables e below (s₁.setTop (mkF m 8 #[.val (.ref x0), .val (.int (4 : Int32)), .val (.long ad), .second, .val (.int (2 : Int32)), .val (.int (2 : Int32)), .val (.int (1 : Int32))] [(.int (2 : Int32))])) _
        refine XS.iload X0.here hx rfl (hb hby d3_8) rfl ?_
        show Steps p.tables e below (s₁.setTop (mkF m 10 #[.val (.ref x0), .val (.int (4 : Int32)), .val (.long ad), .second, .val (.int (2 : Int32)), .val (.int (2 : Int32)), .val (.int (1 : Int32))] [(.int (2 : Int32)), (.int (2 : Int32))])) _
        refine XS.icmpYes X0.here hx rfl (pc0 := 10) (pc' := 47) rfl (hb hby d3_10) rfl (flt (by decide : ¬ ((2 : Int32) < (2 : Int32)))).2.1 (by decide) (by decide) ?_
        show Steps p.tables e below (s₁.setTop (mkF m 47 #[.val (.ref x0), .val (.int (4 : Int32)), .val (.long ad), .second, .val (.int (2 : Int32)), .val (.int (2 : Int32)), .val (.int (1 : Int32))] [])) _
        refine XS.iload X0.here hx rfl (hb hby d3_47) rfl ?_
        show Steps p.tables e below (s₁.setTop (mkF m 49 #[.val (.ref x0), .val (.int (4 : Int32)), .val (.long ad), .second, .val (.int (2 : Int32)), .val (.int (2 : Int32)), .val (.int (1 : Int32))] [(.int (2 : Int32))])) _
        have hv : own_ia4 w0 w1 w2 w3 ad = (2 : Int32) := by unfold own_ia4; rw [if_pos hc28, if_neg hc28_]
        rw [hv] at hr
        exact retI X0 hx Bd.returns (hb hby d3_49) hr
    · refine XS.ifNo X0.here hx rfl (hb hby d3_28) rfl ((if0 _ _).trans (flt hc28).2.2.1) ?_
      show Steps p.tables e below (s₁.setTop (mkF m 31 #[.val (.ref x0), .val (.int (4 : Int32)), .val (.long ad), .second, .val (.int (0 : Int32)), .val (.int (4 : Int32)), .val (.int (2 : Int32))] [])) _
      refine XS.iload X0.here hx rfl (hb hby d3_31) rfl ?_
      show Steps p.tables e below (s₁.setTop (mkF m 33 #[.val (.ref x0), .val (.int (4 : Int32)), .val (.long ad), .second, .val (.int (0 : Int32)), .val (.int (4 : Int32)), .val (.int (2 : Int32))] [(.int (2 : Int32))])) _
      refine XS.iconst X0.here hx rfl (hb hby d3_33) ?_
      show Steps p.tables e below (s₁.setTop (mkF m 34 #[.val (.ref x0), .val (.int (4 : Int32)), .val (.long ad), .second, .val (.int (0 : Int32)), .val (.int (4 : Int32)), .val (.int (2 : Int32))] [(.int (1 : Int32)), (.int (2 : Int32))])) _
      refine XS.iadd X0.here hx rfl (hb hby d3_34) rfl ?_
      show Steps p.tables e below (s₁.setTop (mkF m 35 #[.val (.ref x0), .val (.int (4 : Int32)), .val (.long ad), .second, .val (.int (0 : Int32)), .val (.int (4 : Int32)), .val (.int (2 : Int32))] [(.int ((2 : Int32) + (1 : Int32)))])) _
      rw [show ((2 : Int32) + (1 : Int32)) = (3 : Int32) from by decide]
      show Steps p.tables e below (s₁.setTop (mkF m 35 #[.val (.ref x0), .val (.int (4 : Int32)), .val (.long ad), .second, .val (.int (0 : Int32)), .val (.int (4 : Int32)), .val (.int (2 : Int32))] [(.int (3 : Int32))])) _
      refine XS.istore X0.here hx rfl (hb hby d3_35) rfl (l' := #[.val (.ref x0), .val (.int (4 : Int32)), .val (.long ad), .second, .val (.int (3 : Int32)), .val (.int (4 : Int32)), .val (.int (2 : Int32))]) rfl ?_
      show Steps p.tables e below (s₁.setTop (mkF m 37 #[.val (.ref x0), .val (.int (4 : Int32)), .val (.long ad), .second, .val (.int (3 : Int32)), .val (.int (4 : Int32)), .val (.int (2 : Int32))] [])) _
      refine XS.goto X0.here hx rfl (pc0 := 37) (pc' := 44) rfl (hb hby d3_37) (by decide) (by decide) ?_
      show Steps p.tables e below (s₁.setTop (mkF m 44 #[.val (.ref x0), .val (.int (4 : Int32)), .val (.long ad), .second, .val (.int (3 : Int32)), .val (.int (4 : Int32)), .val (.int (2 : Int32))] [])) _
      refine XS.goto X0.here hx rfl (pc0 := 44) (pc' := 6) rfl (hb hby d3_44) (by decide) (by decide) ?_
      show Steps p.tables e below (s₁.setTop (mkF m 6 #[.val (.ref x0), .val (.int (4 : Int32)), .val (.long ad), .second, .val (.int (3 : Int32)), .val (.int (4 : Int32)), .val (.int (2 : Int32))] [])) _
      refine XS.iload X0.here hx rfl (hb hby d3_6) rfl ?_
      show Steps p.tables e below (s₁.setTop (mkF m 8 #[.val (.ref x0), .val (.int (4 : Int32)), .val (.long ad), .second, .val (.int (3 : Int32)), .val (.int (4 : Int32)), .val (.int (2 : Int32))] [(.int (3 : Int32))])) _
      refine XS.iload X0.here hx rfl (hb hby d3_8) rfl ?_
      show Steps p.tables e below (s₁.setTop (mkF m 10 #[.val (.ref x0), .val (.int (4 : Int32)), .val (.long ad), .second, .val (.int (3 : Int32)), .val (.int (4 : Int32)), .val (.int (2 : Int32))] [(.int (4 : Int32)), (.int (3 : Int32))])) _
      refine XS.icmpNo X0.here hx rfl (hb hby d3_10) rfl (tlt (by decide : (3 : Int32) < (4 : Int32))).2.1 ?_
      show Steps p.tables e below (s₁.setTop (mkF m 13 #[.val (.ref x0), .val (.int (4 : Int32)), .val (.long ad), .second, .val (.int (3 : Int32)), .val (.int (4 : Int32)), .val (.int (2 : Int32))] [])) _
      refine XS.iload X0.here hx rfl (hb hby d3_13) rfl ?_
      show Steps p.tables e below (s₁.setTop (mkF m 15 #[.val (.ref x0), .val (.int (4 : Int32)), .val (.long ad), .second, .val (.int (3 : Int32)), .val (.int (4 : Int32)), .val (.int (2 : Int32))] [(.int (3 : Int32))])) _
      refine XS.iload X0.here hx rfl (hb hby d3_15) rfl ?_
      show Steps p.tables e below (s₁.setTop (mkF m 17 #[.val (.ref x0), .val (.int (4 : Int32)), .val (.long ad), .second, .val (.int (3 : Int32)), .val (.int (4 : Int32)), .val (.int (2 : Int32))] [(.int (4 : Int32)), (.int (3 : Int32))])) _
      refine XS.iadd X0.here hx rfl (hb hby d3_17) rfl ?_
      show Steps p.tables e below (s₁.setTop (mkF m 18 #[.val (.ref x0), .val (.int (4 : Int32)), .val (.long ad), .second, .val (.int (3 : Int32)), .val (.int (4 : Int32)), .val (.int (2 : Int32))] [(.int ((3 : Int32) + (4 : Int32)))])) _
      rw [show ((3 : Int32) + (4 : Int32)) = (7 : Int32) from by decide]
      show Steps p.tables e below (s₁.setTop (mkF m 18 #[.val (.ref x0), .val (.int (4 : Int32)), .val (.long ad), .second, .val (.int (3 : Int32)), .val (.int (4 : Int32)), .val (.int (2 : Int32))] [(.int (7 : Int32))])) _
      refine XS.iconst X0.here hx rfl (hb hby d3_18) ?_
      show Steps p.tables e below (s₁.setTop (mkF m 19 #[.val (.ref x0), .val (.int (4 : Int32)), .val (.long ad), .second, .val (.int (3 : Int32)), .val (.int (4 : Int32)), .val (.int (2 : Int32))] [(.int (1 : Int32)), (.int (7 : Int32))])) _
      refine XS.iushr X0.here hx rfl (hb hby d3_19) rfl ?_
      show Steps p.tables e below (s₁.setTop (mkF m 20 #[.val (.ref x0), .val (.int (4 : Int32)), .val (.long ad), .second, .val (.int (3 : Int32)), .val (.int (4 : Int32)), .val (.int (2 : Int32))] [(.int (((7 : Int32).toUInt32 >>> ((1 : Int32) &&& 31).toUInt32).toInt32))])) _
      rw [show (((7 : Int32).toUInt32 >>> ((1 : Int32) &&& 31).toUInt32).toInt32) = (3 : Int32) from by decide]
      show Steps p.tables e below (s₁.setTop (mkF m 20 #[.val (.ref x0), .val (.int (4 : Int32)), .val (.long ad), .second, .val (.int (3 : Int32)), .val (.int (4 : Int32)), .val (.int (2 : Int32))] [(.int (3 : Int32))])) _
      refine XS.istore X0.here hx rfl (hb hby d3_20) rfl (l' := #[.val (.ref x0), .val (.int (4 : Int32)), .val (.long ad), .second, .val (.int (3 : Int32)), .val (.int (4 : Int32)), .val (.int (3 : Int32))]) rfl ?_
      show Steps p.tables e below (s₁.setTop (mkF m 22 #[.val (.ref x0), .val (.int (4 : Int32)), .val (.long ad), .second, .val (.int (3 : Int32)), .val (.int (4 : Int32)), .val (.int (3 : Int32))] [])) _
      refine XS.aloadN X0.here hx rfl (hb hby d3_22) rfl rfl ?_
      show Steps p.tables e below (s₁.setTop (mkF m 23 #[.val (.ref x0), .val (.int (4 : Int32)), .val (.long ad), .second, .val (.int (3 : Int32)), .val (.int (4 : Int32)), .val (.int (3 : Int32))] [(.ref x0)])) _
      refine XS.iload X0.here hx rfl (hb hby d3_23) rfl ?_
      show Steps p.tables e below (s₁.setTop (mkF m 25 #[.val (.ref x0), .val (.int (4 : Int32)), .val (.long ad), .second, .val (.int (3 : Int32)), .val (.int (4 : Int32)), .val (.int (3 : Int32))] [(.int (3 : Int32)), (.ref x0)])) _
      refine own_ldJ X0 hx hZ e0 V_x0 (j := (3 : Int32)) (w := w3) ⟨by decide, by decide⟩ rfl (g := (mkF m 25 #[.val (.ref x0), .val (.int (4 : Int32)), .val (.long ad), .second, .val (.int (3 : Int32)), .val (.int (4 : Int32)), .val (.int (3 : Int32))] [(.int (3 : Int32)), (.ref x0)])) rfl rfl (hb hby d3_25) ?_
      show Steps p.tables e below (s₁.setTop (mkF m 26 #[.val (.ref x0), .val (.int (4 : Int32)), .val (.long ad), .second, .val (.int (3 : Int32)), .val (.int (4 : Int32)), .val (.int (3 : Int32))] [(.long w3)])) _
      refine XS.lloadN X0.here hx rfl (hb hby d3_26) rfl ?_
      show Steps p.tables e below (s₁.setTop (mkF m 27 #[.val (.ref x0), .val (.int (4 : Int32)), .val (.long ad), .second, .val (.int (3 : Int32)), .val (.int (4 : Int32)), .val (.int (3 : Int32))] [(.long ad), (.long w3)])) _
      refine XS.lcmp X0.here hx rfl (hb hby d3_27) rfl ?_
      show Steps p.tables e below (s₁.setTop (mkF m 28 #[.val (.ref x0), .val (.int (4 : Int32)), .val (.long ad), .second, .val (.int (3 : Int32)), .val (.int (4 : Int32)), .val (.int (3 : Int32))] [(.int (lcmpW w3 ad))])) _
      by_cases hc28_ : (0 : Int32) < (lcmpW w3 ad)
      · refine XS.ifYes X0.here hx rfl (pc0 := 28) (pc' := 40) rfl (hb hby d3_28) rfl ((if0 _ _).trans (tlt hc28_).2.2.1) (by decide) (by decide) ?_
        show Steps p.tables e below (s₁.setTop (mkF m 40 #[.val (.ref x0), .val (.int (4 : Int32)), .val (.long ad), .second, .val (.int (3 : Int32)), .val (.int (4 : Int32)), .val (.int (3 : Int32))] [])) _
        refine XS.iload X0.here hx rfl (hb hby d3_40) rfl ?_
        show Steps p.tables e below (s₁.setTop (mkF m 42 #[.val (.ref x0), .val (.int (4 : Int32)), .val (.long ad), .second, .val (.int (3 : Int32)), .val (.int (4 : Int32)), .val (.int (3 : Int32))] [(.int (3 : Int32))])) _
        refine XS.istore X0.here hx rfl (hb hby d3_42) rfl (l' := #[.val (.ref x0), .val (.int (4 : Int32)), .val (.long ad), .second, .val (.int (3 : Int32)), .val (.int (3 : Int32)), .val (.int (3 : Int32))]) rfl ?_
        show Steps p.tables e below (s₁.setTop (mkF m 44 #[.val (.ref x0), .val (.int (4 : Int32)), .val (.long ad), .second, .val (.int (3 : Int32)), .val (.int (3 : Int32)), .val (.int (3 : Int32))] [])) _
        refine XS.goto X0.here hx rfl (pc0 := 44) (pc' := 6) rfl (hb hby d3_44) (by decide) (by decide) ?_
        show Steps p.tables e below (s₁.setTop (mkF m 6 #[.val (.ref x0), .val (.int (4 : Int32)), .val (.long ad), .second, .val (.int (3 : Int32)), .val (.int (3 : Int32)), .val (.int (3 : Int32))] [])) _
        refine XS.iload X0.here hx rfl (hb hby d3_6) rfl ?_
        show Steps p.tables e below (s₁.setTop (mkF m 8 #[.val (.ref x0), .val (.int (4 : Int32)), .val (.long ad), .second, .val (.int (3 : Int32)), .val (.int (3 : Int32)), .val (.int (3 : Int32))] [(.int (3 : Int32))])) _
        refine XS.iload X0.here hx rfl (hb hby d3_8) rfl ?_
        show Steps p.tables e below (s₁.setTop (mkF m 10 #[.val (.ref x0), .val (.int (4 : Int32)), .val (.long ad), .second, .val (.int (3 : Int32)), .val (.int (3 : Int32)), .val (.int (3 : Int32))] [(.int (3 : Int32)), (.int (3 : Int32))])) _
        refine XS.icmpYes X0.here hx rfl (pc0 := 10) (pc' := 47) rfl (hb hby d3_10) rfl (flt (by decide : ¬ ((3 : Int32) < (3 : Int32)))).2.1 (by decide) (by decide) ?_
        show Steps p.tables e below (s₁.setTop (mkF m 47 #[.val (.ref x0), .val (.int (4 : Int32)), .val (.long ad), .second, .val (.int (3 : Int32)), .val (.int (3 : Int32)), .val (.int (3 : Int32))] [])) _
        refine XS.iload X0.here hx rfl (hb hby d3_47) rfl ?_
        show Steps p.tables e below (s₁.setTop (mkF m 49 #[.val (.ref x0), .val (.int (4 : Int32)), .val (.long ad), .second, .val (.int (3 : Int32)), .val (.int (3 : Int32)), .val (.int (3 : Int32))] [(.int (3 : Int32))])) _
        have hv : own_ia4 w0 w1 w2 w3 ad = (3 : Int32) := by unfold own_ia4; rw [if_neg hc28, if_pos hc28_]
        rw [hv] at hr
        exact retI X0 hx Bd.returns (hb hby d3_49) hr
      · refine XS.ifNo X0.here hx rfl (hb hby d3_28) rfl ((if0 _ _).trans (flt hc28_).2.2.1) ?_
        show Steps p.tables e below (s₁.setTop (mkF m 31 #[.val (.ref x0), .val (.int (4 : Int32)), .val (.long ad), .second, .val (.int (3 : Int32)), .val (.int (4 : Int32)), .val (.int (3 : Int32))] [])) _
        refine XS.iload X0.here hx rfl (hb hby d3_31) rfl ?_
        show Steps p.tables e below (s₁.setTop (mkF m 33 #[.val (.ref x0), .val (.int (4 : Int32)), .val (.long ad), .second, .val (.int (3 : Int32)), .val (.int (4 : Int32)), .val (.int (3 : Int32))] [(.int (3 : Int32))])) _
        refine XS.iconst X0.here hx rfl (hb hby d3_33) ?_
        show Steps p.tables e below (s₁.setTop (mkF m 34 #[.val (.ref x0), .val (.int (4 : Int32)), .val (.long ad), .second, .val (.int (3 : Int32)), .val (.int (4 : Int32)), .val (.int (3 : Int32))] [(.int (1 : Int32)), (.int (3 : Int32))])) _
        refine XS.iadd X0.here hx rfl (hb hby d3_34) rfl ?_
        show Steps p.tables e below (s₁.setTop (mkF m 35 #[.val (.ref x0), .val (.int (4 : Int32)), .val (.long ad), .second, .val (.int (3 : Int32)), .val (.int (4 : Int32)), .val (.int (3 : Int32))] [(.int ((3 : Int32) + (1 : Int32)))])) _
        rw [show ((3 : Int32) + (1 : Int32)) = (4 : Int32) from by decide]
        show Steps p.tables e below (s₁.setTop (mkF m 35 #[.val (.ref x0), .val (.int (4 : Int32)), .val (.long ad), .second, .val (.int (3 : Int32)), .val (.int (4 : Int32)), .val (.int (3 : Int32))] [(.int (4 : Int32))])) _
        refine XS.istore X0.here hx rfl (hb hby d3_35) rfl (l' := #[.val (.ref x0), .val (.int (4 : Int32)), .val (.long ad), .second, .val (.int (4 : Int32)), .val (.int (4 : Int32)), .val (.int (3 : Int32))]) rfl ?_
        show Steps p.tables e below (s₁.setTop (mkF m 37 #[.val (.ref x0), .val (.int (4 : Int32)), .val (.long ad), .second, .val (.int (4 : Int32)), .val (.int (4 : Int32)), .val (.int (3 : Int32))] [])) _
        refine XS.goto X0.here hx rfl (pc0 := 37) (pc' := 44) rfl (hb hby d3_37) (by decide) (by decide) ?_
        show Steps p.tables e below (s₁.setTop (mkF m 44 #[.val (.ref x0), .val (.int (4 : Int32)), .val (.long ad), .second, .val (.int (4 : Int32)), .val (.int (4 : Int32)), .val (.int (3 : Int32))] [])) _
        refine XS.goto X0.here hx rfl (pc0 := 44) (pc' := 6) rfl (hb hby d3_44) (by decide) (by decide) ?_
        show Steps p.tables e below (s₁.setTop (mkF m 6 #[.val (.ref x0), .val (.int (4 : Int32)), .val (.long ad), .second, .val (.int (4 : Int32)), .val (.int (4 : Int32)), .val (.int (3 : Int32))] [])) _
        refine XS.iload X0.here hx rfl (hb hby d3_6) rfl ?_
        show Steps p.tables e below (s₁.setTop (mkF m 8 #[.val (.ref x0), .val (.int (4 : Int32)), .val (.long ad), .second, .val (.int (4 : Int32)), .val (.int (4 : Int32)), .val (.int (3 : Int32))] [(.int (4 : Int32))])) _
        refine XS.iload X0.here hx rfl (hb hby d3_8) rfl ?_
        show Steps p.tables e below (s₁.setTop (mkF m 10 #[.val (.ref x0), .val (.int (4 : Int32)), .val (.long ad), .second, .val (.int (4 : Int32)), .val (.int (4 : Int32)), .val (.int (3 : Int32))] [(.int (4 : Int32)), (.int (4 : Int32))])) _
        refine XS.icmpYes X0.here hx rfl (pc0 := 10) (pc' := 47) rfl (hb hby d3_10) rfl (flt (by decide : ¬ ((4 : Int32) < (4 : Int32)))).2.1 (by decide) (by decide) ?_
        show Steps p.tables e below (s₁.setTop (mkF m 47 #[.val (.ref x0), .val (.int (4 : Int32)), .val (.long ad), .second, .val (.int (4 : Int32)), .val (.int (4 : Int32)), .val (.int (3 : Int32))] [])) _
        refine XS.iload X0.here hx rfl (hb hby d3_47) rfl ?_
        show Steps p.tables e below (s₁.setTop (mkF m 49 #[.val (.ref x0), .val (.int (4 : Int32)), .val (.long ad), .second, .val (.int (4 : Int32)), .val (.int (4 : Int32)), .val (.int (3 : Int32))] [(.int (4 : Int32))])) _
        have hv : own_ia4 w0 w1 w2 w3 ad = (4 : Int32) := by unfold own_ia4; rw [if_neg hc28, if_neg hc28_]
        rw [hv] at hr
        exact retI X0 hx Bd.returns (hb hby d3_49) hr
  · exact ⟨rfl, N0, e0⟩
theorem rmia (l : Launch) (Z : State) (a0 : Array Value) (hw : ∀ d ∈ tables_1, d.before a0 Z = true) (ws : List Jvm.Cond) (x0 : Addr) (ct : Int32) (ad : Int64) (k0 : ClassId) (w0 w1 w2 w3 : Int64) (h0 : Heap) (n0 : Nat) (Z0 : n0 ≤ h0.size) (hct : 0 ≤ ct.toInt ∧ ct.toInt ≤ 4) (V_x0 : Arv Z h0 x0 k0 .long (4 : Int32) [(.long w0), (.long w1), (.long w2), (.long w3)] (.long (0 : Int64))) :
    MetFree l (⟨"com/example/rootline/rootline/heap/ClassObjects", "indexAbove", "([JIJ)I"⟩ : MethodName) (head1 (Jvm.Cond.code (⟨"com/example/rootline/rootline/heap/ClassObjects", "indexAbove", "([JIJ)I"⟩ : MethodName) prog_88_method_6_code 7 (some .int) :: ws) ({ frames := 0, cells := 0, slots := 0, locals := 0 } : Room)) (fun a U => a = #[(.ref x0), (.int ct), (.long ad)] ∧ Z.Warmed39 U.vm ∧ U.heap = h0) (fun _ _ _ _ _ => True) (fun _ U o U' => ∃ v L, o = .returned v ∧ (QP (some (.int (own_ia ct w0 w1 w2 w3 ad))) h0 n0 v U'.heap L) ∧ FrameEnd U o U' L ({ frames := 0, cells := 0, slots := 0, locals := 0 } : Room).cells ({ frames := 0, cells := 0, slots := 0, locals := 0 } : Room).slots) := by
  rcases own_five ct hct with rfl | rfl | rfl | rfl | rfl
  · rw [show own_ia (0 : Int32) w0 w1 w2 w3 ad = own_ia0 w0 w1 w2 w3 ad from by unfold own_ia; simp]; exact rmia_0 l Z a0 hw ws x0 k0 w0 w1 w2 w3 ad h0 n0 Z0 V_x0
  · rw [show own_ia (1 : Int32) w0 w1 w2 w3 ad = own_ia1 w0 w1 w2 w3 ad from by unfold own_ia; simp]; exact rmia_1 l Z a0 hw ws x0 k0 w0 w1 w2 w3 ad h0 n0 Z0 V_x0
  · rw [show own_ia (2 : Int32) w0 w1 w2 w3 ad = own_ia2 w0 w1 w2 w3 ad from by unfold own_ia; simp]; exact rmia_2 l Z a0 hw ws x0 k0 w0 w1 w2 w3 ad h0 n0 Z0 V_x0
  · rw [show own_ia (3 : Int32) w0 w1 w2 w3 ad = own_ia3 w0 w1 w2 w3 ad from by unfold own_ia; simp]; exact rmia_3 l Z a0 hw ws x0 k0 w0 w1 w2 w3 ad h0 n0 Z0 V_x0
  · rw [show own_ia (4 : Int32) w0 w1 w2 w3 ad = own_ia4 w0 w1 w2 w3 ad from by unfold own_ia; simp]; exact rmia_4 l Z a0 hw ws x0 k0 w0 w1 w2 w3 ad h0 n0 Z0 V_x0
theorem pd___JII_V : parseMethodDescriptor "([JII)V" = some ⟨[(.array .long), .int, .int], none⟩ := by decide +kernel
theorem pd__ZJJ_I : parseMethodDescriptor "(ZJJ)I" = some ⟨[.boolean, .long, .long], some .int⟩ := by decide +kernel
theorem pd___JIJ_I : parseMethodDescriptor "([JIJ)I" = some ⟨[(.array .long), .int, .long], some .int⟩ := by decide +kernel
set_option maxRecDepth 65536 in
set_option maxHeartbeats 40000000 in
theorem rm0 (l : Launch) (Z : State) (a0 : Array Value) (hw : ∀ d ∈ tables_1, d.before a0 Z = true) (ws : List Jvm.Cond) (x0 : Int64) (x1 : Int64) (x2 : Int64) (x3 : Int64) (x4 : Int64) (x5 : Int32)  (h0 : Heap) (n0 : Nat) (Z0 : n0 ≤ h0.size)  :
    MetFree l x (head1 (Jvm.Cond.code x code maxLocals ret :: ws) room_1) (fun a U => a = #[(.long x0), (.long x1), (.long x2), (.long x3), (.long x4), (.int x5)] ∧ Z.Warmed39 U.vm ∧ U.heap = h0) (fun _ _ _ _ _ => True) (fun _ U o U' => ∃ v L, o = .returned v ∧ (QL n0 v U'.heap L) ∧ FrameEnd U o U' L room_1.cells room_1.slots) := by
  refine MetFree.of_bodySF (plainFor_of_name pn_0) hisR ?_
  intro p e s m args below meth c s₁ Bd hml0 hP hK
  obtain ⟨rfl, hZ, hh⟩ := hP
  have hx := Bd.exec
  have hby := Bd.bytes
  have hml : c.maxLocals = 21 := hml0
  have hown : s.vm.findClass "com/example/rootline/rootline/heap/ClassObjectsIndexAbovePinLaw" = some m.cls := findClass_of_methodNamed Bd.named
  have hnm := (name_of_methodNamed Bd.named Bd.method).1
  have X0 : Stand p l e room_1 s m #[(.long x0), (.long x1), (.long x2), (.long x3), (.long x4), (.int x5)] below meth c s₁ [] 0 0 := Stand.of_body Bd
  have e0 : s₁.heap = h0 := by rw [← hh, Bd.state]; rfl
  have N0 := Fr.nil n0
  have pre0 : ∀ t, Steps p.tables e below (s₁.setTop (mkF m 0 #[.val (.long x0), .second, .val (.long x1), .second, .val (.long x2), .second, .val (.long x3), .second, .val (.long x4), .second, .val (.int x5), .unset, .unset, .unset, .unset, .unset, .unset, .unset, .unset, .unset, .unset] [])) t → Steps p.tables e below (s₁.setTop (entryFrame m #[(.long x0), (.long x1), (.long x2), (.long x3), (.long x4), (.int x5)] maxLocals)) t := fun t k => castTop (ef_0 m x0 x1 x2 x3 x4 x5) k
  obtain ⟨T1, h1, k1, X1, e1, E1, A1, st1⟩ := newP X0 hx hZ (hw _ (List.mem_of_getElem? (i := 0) rfl)) e0 (g := (mkF m 1 #[.val (.long x0), .second, .val (.long x1), .second, .val (.long x2), .second, .val (.long x3), .second, .val (.long x4), .second, .val (.int x5), .unset, .unset, .unset, .unset, .unset, .unset, .unset, .unset, .unset, .unset] [(.int (4 : Int32))])) rfl (hb hby at_1) rfl (by decide) (cap := 4) (by decide) (by decide) (by decide) (by decide)
  obtain ⟨v, g1⟩ : ∃ z, z = h0.size := ⟨_, rfl⟩
  rw [← g1] at A1 st1
  have V_v_1 : Arv Z h1 v k1 .long (4 : Int32) [(.long (0 : Int64)), (.long (0 : Int64)), (.long (0 : Int64)), (.long (0 : Int64))] (.long (0 : Int64)) := (Arv.new A1 (by decide)).pad (pad_rep [] (.long (0 : Int64)) 4)
  have g_v : n0 ≤ v := Nat.le_trans Z0 (Nat.le_of_eq g1.symm)
  have siz_2 : n0 ≤ h1.size := Nat.le_trans Z0 E1.1
  obtain ⟨T3, h3, L3, X3, e3, N3, W3, V3, st3⟩ := own_stJ X1 hx hZ e1 V_v_1 (j := (0 : Int32)) ⟨by decide, by decide⟩ (i := 0) rfl (Nat.le_of_ble_eq_true rfl) N0 g_v (g := (mkF m 9 #[.val (.long x0), .second, .val (.long x1), .second, .val (.long x2), .second, .val (.long x3), .second, .val (.long x4), .second, .val (.int x5), .val (.ref v), .unset, .unset, .unset, .unset, .unset, .unset, .unset, .unset, .unset] [(.long x0), (.int (0 : Int32)), (.ref v)])) rfl rfl (hb hby at_9)
  have siz_4 : n0 ≤ h3.size := Nat.le_trans siz_2 (Keep.of_wr W3).1
  have V_v_3 : Arv Z h3 v k1 .long (4 : Int32) [(.long x0), (.long (0 : Int64)), (.long (0 : Int64)), (.long (0 : Int64))] (.long (0 : Int64)) := V3
  obtain ⟨T5, h5, L5, X5, e5, N5, W5, V5, st5⟩ := own_stJ X3 hx hZ e3 V_v_3 (j := (1 : Int32)) ⟨by decide, by decide⟩ (i := 1) rfl (Nat.le_of_ble_eq_true rfl) N3 g_v (g := (mkF m 14 #[.val (.long x0), .second, .val (.long x1), .second, .val (.long x2), .second, .val (.long x3), .second, .val (.long x4), .second, .val (.int x5), .val (.ref v), .unset, .unset, .unset, .unset, .unset, .unset, .unset, .unset, .unset] [(.long x1), (.int (1 : Int32)), (.ref v)])) rfl rfl (hb hby at_14)
  have siz_6 : n0 ≤ h5.size := Nat.le_trans siz_4 (Keep.of_wr W5).1
  have V_v_5 : Arv Z h5 v k1 .long (4 : Int32) [(.long x0), (.long x1), (.long (0 : Int64)), (.long (0 : Int64))] (.long (0 : Int64)) := V5
  obtain ⟨T7, h7, L7, X7, e7, N7, W7, V7, st7⟩ := own_stJ X5 hx hZ e5 V_v_5 (j := (2 : Int32)) ⟨by decide, by decide⟩ (i := 2) rfl (Nat.le_of_ble_eq_true rfl) N5 g_v (g := (mkF m 20 #[.val (.long x0), .second, .val (.long x1), .second, .val (.long x2), .second, .val (.long x3), .second, .val (.long x4), .second, .val (.int x5), .val (.ref v), .unset, .unset, .unset, .unset, .unset, .unset, .unset, .unset, .unset] [(.long x2), (.int (2 : Int32)), (.ref v)])) rfl rfl (hb hby at_20)
  have siz_8 : n0 ≤ h7.size := Nat.le_trans siz_6 (Keep.of_wr W7).1
  have V_v_7 : Arv Z h7 v k1 .long (4 : Int32) [(.long x0), (.long x1), (.long x2), (.long (0 : Int64))] (.long (0 : Int64)) := V7
  obtain ⟨T9, h9, L9, X9, e9, N9, W9, V9, st9⟩ := own_stJ X7 hx hZ e7 V_v_7 (j := (3 : Int32)) ⟨by decide, by decide⟩ (i := 3) rfl (Nat.le_of_ble_eq_true rfl) N7 g_v (g := (mkF m 26 #[.val (.long x0), .second, .val (.long x1), .second, .val (.long x2), .second, .val (.long x3), .second, .val (.long x4), .second, .val (.int x5), .val (.ref v), .unset, .unset, .unset, .unset, .unset, .unset, .unset, .unset, .unset] [(.long x3), (.int (3 : Int32)), (.ref v)])) rfl rfl (hb hby at_26)
  have siz_10 : n0 ≤ h9.size := Nat.le_trans siz_8 (Keep.of_wr W9).1
  have V_v_9 : Arv Z h9 v k1 .long (4 : Int32) [(.long x0), (.long x1), (.long x2), (.long x3)] (.long (0 : Int64)) := V9
  obtain ⟨_, _, ⟨T11, L11, k11, n11⟩, -, X11, ⟨Lc11, hQ11, l11, y11, z11⟩, st11⟩ := Jvm.LawKit.callS X9 hx (y := (⟨"com/example/rootline/rootline/heap/ClassObjectsIndexAbovePinLaw", "sw", "([JII)V"⟩ : MethodName)) hown (mvT hZ (hw _ (List.mem_of_getElem? (i := 1) rfl))) (mvT hZ (hw _ (List.mem_of_getElem? (i := 2) rfl))) (mvT hZ (hw _ (List.mem_of_getElem? (i := 3) rfl))) (mvT hZ (hw _ (List.mem_of_getElem? (i := 4) rfl))) (by decide) (backOf (W := 0) (rmsw_01 l Z a0 hw [] v k1 x0 x1 x2 x3 h9 n0 siz_10 V_v_9 g_v) hZ (hw _ (List.mem_of_getElem? (i := 4) rfl)) (hw _ (List.mem_of_getElem? (i := 3) rfl)) (by decide) (by decide)) (g := (mkF m 31 #[.val (.long x0), .second, .val (.long x1), .second, .val (.long x2), .second, .val (.long x3), .second, .val (.long x4), .second, .val (.int x5), .val (.ref v), .unset, .unset, .unset, .unset, .unset, .unset, .unset, .unset, .unset] [(.int (1 : Int32)), (.int (0 : Int32)), (.ref v)])) rfl (by rw [hml]; rfl) (argsL := [(.ref v), (.int (0 : Int32)), (.int (1 : Int32))]) (rest := []) (lenOf pd___JII_V rfl) rfl (by show 2 * 0 + _ ≤ _; exact Nat.le_of_eq rfl) (hb hby at_31) (fun _ _ => ⟨rfl, e9, (by decide : 1 + 0 ≤ _), (by decide : 4 + 0 ≤ _)⟩)
  dsimp only [Pt.U, Pt.locs, Pt.cells, Pt.slots] at X11 l11 y11 z11 st11 hQ11
  subst l11 y11 z11
  obtain ⟨rfl, N11q, K11, Vq11⟩ := hQ11
  obtain ⟨p11, ep11⟩ : ∃ z : Int64, z = (own_lo x0 x1) := ⟨_, rfl⟩
  obtain ⟨r11, er11⟩ : ∃ z : Int64, z = (own_hi x0 x1) := ⟨_, rfl⟩
  rw [← ep11, ← er11] at Vq11
  have cmp11 := own_comp x0 x1
  rw [← ep11, ← er11] at cmp11
  have siz_12 : n0 ≤ T11.heap.size := Nat.le_trans siz_10 K11.1
  have N11 := Fr.app N9 N11q
  obtain ⟨_, _, ⟨T13, L13, k13, n13⟩, -, X13, ⟨Lc13, hQ13, l13, y13, z13⟩, st13⟩ := Jvm.LawKit.callS X11 hx (y := (⟨"com/example/rootline/rootline/heap/ClassObjectsIndexAbovePinLaw", "sw", "([JII)V"⟩ : MethodName)) hown (mvT hZ (hw _ (List.mem_of_getElem? (i := 1) rfl))) (mvT hZ (hw _ (List.mem_of_getElem? (i := 2) rfl))) (mvT hZ (hw _ (List.mem_of_getElem? (i := 3) rfl))) (mvT hZ (hw _ (List.mem_of_getElem? (i := 4) rfl))) (by decide) (backOf (W := 0) (rmsw_23 l Z a0 hw [] v k1 p11 r11 x2 x3 T11.heap n0 siz_12 Vq11 g_v) hZ (hw _ (List.mem_of_getElem? (i := 4) rfl)) (hw _ (List.mem_of_getElem? (i := 3) rfl)) (by decide) (by decide)) (g := (mkF m 38 #[.val (.long x0), .second, .val (.long x1), .second, .val (.long x2), .second, .val (.long x3), .second, .val (.long x4), .second, .val (.int x5), .val (.ref v), .unset, .unset, .unset, .unset, .unset, .unset, .unset, .unset, .unset] [(.int (3 : Int32)), (.int (2 : Int32)), (.ref v)])) rfl (by rw [hml]; rfl) (argsL := [(.ref v), (.int (2 : Int32)), (.int (3 : Int32))]) (rest := []) (lenOf pd___JII_V rfl) rfl (by show 2 * 0 + _ ≤ _; exact Nat.le_of_eq rfl) (hb hby at_38) (fun _ _ => ⟨rfl, rfl, (by decide : 1 + 0 ≤ _), (by decide : 4 + 0 ≤ _)⟩)
  dsimp only [Pt.U, Pt.locs, Pt.cells, Pt.slots] at X13 l13 y13 z13 st13 hQ13
  subst l13 y13 z13
  obtain ⟨rfl, N13q, K13, Vq13⟩ := hQ13
  obtain ⟨p13, ep13⟩ : ∃ z : Int64, z = (own_lo x2 x3) := ⟨_, rfl⟩
  obtain ⟨r13, er13⟩ : ∃ z : Int64, z = (own_hi x2 x3) := ⟨_, rfl⟩
  rw [← ep13, ← er13] at Vq13
  have cmp13 := own_comp x2 x3
  rw [← ep13, ← er13] at cmp13
  have siz_14 : n0 ≤ T13.heap.size := Nat.le_trans siz_12 K13.1
  have N13 := Fr.app N11 N13q
  obtain ⟨_, _, ⟨T15, L15, k15, n15⟩, -, X15, ⟨Lc15, hQ15, l15, y15, z15⟩, st15⟩ := Jvm.LawKit.callS X13 hx (y := (⟨"com/example/rootline/rootline/heap/ClassObjectsIndexAbovePinLaw", "sw", "([JII)V"⟩ : MethodName)) hown (mvT hZ (hw _ (List.mem_of_getElem? (i := 1) rfl))) (mvT hZ (hw _ (List.mem_of_getElem? (i := 2) rfl))) (mvT hZ (hw _ (List.mem_of_getElem? (i := 3) rfl))) (mvT hZ (hw _ (List.mem_of_getElem? (i := 4) rfl))) (by decide) (backOf (W := 0) (rmsw_02 l Z a0 hw [] v k1 p11 r11 p13 r13 T13.heap n0 siz_14 Vq13 g_v) hZ (hw _ (List.mem_of_getElem? (i := 4) rfl)) (hw _ (List.mem_of_getElem? (i := 3) rfl)) (by decide) (by decide)) (g := (mkF m 45 #[.val (.long x0), .second, .val (.long x1), .second, .val (.long x2), .second, .val (.long x3), .second, .val (.long x4), .second, .val (.int x5), .val (.ref v), .unset, .unset, .unset, .unset, .unset, .unset, .unset, .unset, .unset] [(.int (2 : Int32)), (.int (0 : Int32)), (.ref v)])) rfl (by rw [hml]; rfl) (argsL := [(.ref v), (.int (0 : Int32)), (.int (2 : Int32))]) (rest := []) (lenOf pd___JII_V rfl) rfl (by show 2 * 0 + _ ≤ _; exact Nat.le_of_eq rfl) (hb hby at_45) (fun _ _ => ⟨rfl, rfl, (by decide : 1 + 0 ≤ _), (by decide : 4 + 0 ≤ _)⟩)
  dsimp only [Pt.U, Pt.locs, Pt.cells, Pt.slots] at X15 l15 y15 z15 st15 hQ15
  subst l15 y15 z15
  obtain ⟨rfl, N15q, K15, Vq15⟩ := hQ15
  obtain ⟨p15, ep15⟩ : ∃ z : Int64, z = (own_lo p11 p13) := ⟨_, rfl⟩
  obtain ⟨r15, er15⟩ : ∃ z : Int64, z = (own_hi p11 p13) := ⟨_, rfl⟩
  rw [← ep15, ← er15] at Vq15
  have cmp15 := own_comp p11 p13
  rw [← ep15, ← er15] at cmp15
  have siz_16 : n0 ≤ T15.heap.size := Nat.le_trans siz_14 K15.1
  have N15 := Fr.app N13 N15q
  obtain ⟨_, _, ⟨T17, L17, k17, n17⟩, -, X17, ⟨Lc17, hQ17, l17, y17, z17⟩, st17⟩ := Jvm.LawKit.callS X15 hx (y := (⟨"com/example/rootline/rootline/heap/ClassObjectsIndexAbovePinLaw", "sw", "([JII)V"⟩ : MethodName)) hown (mvT hZ (hw _ (List.mem_of_getElem? (i := 1) rfl))) (mvT hZ (hw _ (List.mem_of_getElem? (i := 2) rfl))) (mvT hZ (hw _ (List.mem_of_getElem? (i := 3) rfl))) (mvT hZ (hw _ (List.mem_of_getElem? (i := 4) rfl))) (by decide) (backOf (W := 0) (rmsw_13 l Z a0 hw [] v k1 p15 r11 r15 r13 T15.heap n0 siz_16 Vq15 g_v) hZ (hw _ (List.mem_of_getElem? (i := 4) rfl)) (hw _ (List.mem_of_getElem? (i := 3) rfl)) (by decide) (by decide)) (g := (mkF m 52 #[.val (.long x0), .second, .val (.long x1), .second, .val (.long x2), .second, .val (.long x3), .second, .val (.long x4), .second, .val (.int x5), .val (.ref v), .unset, .unset, .unset, .unset, .unset, .unset, .unset, .unset, .unset] [(.int (3 : Int32)), (.int (1 : Int32)), (.ref v)])) rfl (by rw [hml]; rfl) (argsL := [(.ref v), (.int (1 : Int32)), (.int (3 : Int32))]) (rest := []) (lenOf pd___JII_V rfl) rfl (by show 2 * 0 + _ ≤ _; exact Nat.le_of_eq rfl) (hb hby at_52) (fun _ _ => ⟨rfl, rfl, (by decide : 1 + 0 ≤ _), (by decide : 4 + 0 ≤ _)⟩)
  dsimp only [Pt.U, Pt.locs, Pt.cells, Pt.slots] at X17 l17 y17 z17 st17 hQ17
  subst l17 y17 z17
  obtain ⟨rfl, N17q, K17, Vq17⟩ := hQ17
  obtain ⟨p17, ep17⟩ : ∃ z : Int64, z = (own_lo r11 r13) := ⟨_, rfl⟩
  obtain ⟨r17, er17⟩ : ∃ z : Int64, z = (own_hi r11 r13) := ⟨_, rfl⟩
  rw [← ep17, ← er17] at Vq17
  have cmp17 := own_comp r11 r13
  rw [← ep17, ← er17] at cmp17
  have siz_18 : n0 ≤ T17.heap.size := Nat.le_trans siz_16 K17.1
  have N17 := Fr.app N15 N17q
  obtain ⟨_, _, ⟨T19, L19, k19, n19⟩, -, X19, ⟨Lc19, hQ19, l19, y19, z19⟩, st19⟩ := Jvm.LawKit.callS X17 hx (y := (⟨"com/example/rootline/rootline/heap/ClassObjectsIndexAbovePinLaw", "sw", "([JII)V"⟩ : MethodName)) hown (mvT hZ (hw _ (List.mem_of_getElem? (i := 1) rfl))) (mvT hZ (hw _ (List.mem_of_getElem? (i := 2) rfl))) (mvT hZ (hw _ (List.mem_of_getElem? (i := 3) rfl))) (mvT hZ (hw _ (List.mem_of_getElem? (i := 4) rfl))) (by decide) (backOf (W := 0) (rmsw_12 l Z a0 hw [] v k1 p15 p17 r15 r17 T17.heap n0 siz_18 Vq17 g_v) hZ (hw _ (List.mem_of_getElem? (i := 4) rfl)) (hw _ (List.mem_of_getElem? (i := 3) rfl)) (by decide) (by decide)) (g := (mkF m 59 #[.val (.long x0), .second, .val (.long x1), .second, .val (.long x2), .second, .val (.long x3), .second, .val (.long x4), .second, .val (.int x5), .val (.ref v), .unset, .unset, .unset, .unset, .unset, .unset, .unset, .unset, .unset] [(.int (2 : Int32)), (.int (1 : Int32)), (.ref v)])) rfl (by rw [hml]; rfl) (argsL := [(.ref v), (.int (1 : Int32)), (.int (2 : Int32))]) (rest := []) (lenOf pd___JII_V rfl) rfl (by show 2 * 0 + _ ≤ _; exact Nat.le_of_eq rfl) (hb hby at_59) (fun _ _ => ⟨rfl, rfl, (by decide : 1 + 0 ≤ _), (by decide : 4 + 0 ≤ _)⟩)
  dsimp only [Pt.U, Pt.locs, Pt.cells, Pt.slots] at X19 l19 y19 z19 st19 hQ19
  subst l19 y19 z19
  obtain ⟨rfl, N19q, K19, Vq19⟩ := hQ19
  obtain ⟨p19, ep19⟩ : ∃ z : Int64, z = (own_lo p17 r15) := ⟨_, rfl⟩
  obtain ⟨r19, er19⟩ : ∃ z : Int64, z = (own_hi p17 r15) := ⟨_, rfl⟩
  rw [← ep19, ← er19] at Vq19
  have cmp19 := own_comp p17 r15
  rw [← ep19, ← er19] at cmp19
  have siz_20 : n0 ≤ T19.heap.size := Nat.le_trans siz_18 K19.1
  have N19 := Fr.app N17 N19q
  obtain ⟨m21_V_v_1, em21_V_v_1⟩ : ∃ z : Int64, z = (if (((x5.toUInt32 >>> ((3 : Int32) &&& 31).toUInt32).toInt32) &&& (1 : Int32)) = (0 : Int32) then p19 else p15) := ⟨_, rfl⟩
  obtain ⟨T21, h21, L21, X21, e21, N21, siz_21, V_v_21, st21⟩ : ∃ (T' : State) (h' : Heap) (L' : List Loc), Stand p l e room_1 s m #[(.long x0), (.long x1), (.long x2), (.long x3), (.long x4), (.int x5)] below meth c T' L' (1) (4) ∧ T'.heap = h' ∧ Fr n0 L' ∧ n0 ≤ h'.size ∧ Arv Z h' v k1 .long (4 : Int32) [(.long p15), (.long m21_V_v_1), (.long r19), (.long r17)] (.long (0 : Int64)) ∧ ∀ target, Steps p.tables e below (T'.setTop (mkF m 79 #[.val (.long x0), .second, .val (.long x1), .second, .val (.long x2), .second, .val (.long x3), .second, .val (.long x4), .second, .val (.int x5), .val (.ref v), .unset, .unset, .unset, .unset, .unset, .unset, .unset, .unset, .unset] [])) target → Steps p.tables e below (T19.setTop (mkF m 68 #[.val (.long x0), .second, .val (.long x1), .second, .val (.long x2), .second, .val (.long x3), .second, .val (.long x4), .second, .val (.int x5), .val (.ref v), .unset, .unset, .unset, .unset, .unset, .unset, .unset, .unset, .unset] [(.int (((x5.toUInt32 >>> ((3 : Int32) &&& 31).toUInt32).toInt32) &&& (1 : Int32)))])) target := by
    by_cases hq68 : (((x5.toUInt32 >>> ((3 : Int32) &&& 31).toUInt32).toInt32) &&& (1 : Int32)) = (0 : Int32)
    · skip
      refine ⟨T19, T19.heap, _, X19, rfl, N19, siz_20, (by rw [em21_V_v_1, if_pos hq68]; exact Vq19), fun target kt => ?_⟩
      show Steps p.tables e below (T19.setTop (mkF m 68 #[.val (.long x0), .second, .val (.long x1), .second, .val (.long x2), .second, .val (.long x3), .second, .val (.long x4), .second, .val (.int x5), .val (.ref v), .unset, .unset, .unset, .unset, .unset, .unset, .unset, .unset, .unset] [(.int (((x5.toUInt32 >>> ((3 : Int32) &&& 31).toUInt32).toInt32) &&& (1 : Int32)))])) _
      refine XS.ifYes X19.here hx rfl (pc0 := 68) (pc' := 79) rfl (hb hby at_68) rfl ((if0 _ _).trans (teq hq68).1) (by decide) (by decide) ?_
      exact kt
    · obtain ⟨T22, h22, L22, X22, e22, N22, W22, V22, st22⟩ := own_stJ X19 hx hZ rfl Vq19 (j := (1 : Int32)) ⟨by decide, by decide⟩ (i := 1) rfl (Nat.le_of_ble_eq_true rfl) N19 g_v (g := (mkF m 78 #[.val (.long x0), .second, .val (.long x1), .second, .val (.long x2), .second, .val (.long x3), .second, .val (.long x4), .second, .val (.int x5), .val (.ref v), .unset, .unset, .unset, .unset, .unset, .unset, .unset, .unset, .unset] [(.long p15), (.int (1 : Int32)), (.ref v)])) rfl rfl (hb hby at_78)
      have siz_23 : n0 ≤ h22.size := Nat.le_trans siz_20 (Keep.of_wr W22).1
      have V_v_22 : Arv Z h22 v k1 .long (4 : Int32) [(.long p15), (.long p15), (.long r19), (.long r17)] (.long (0 : Int64)) := V22
      refine ⟨T22, h22, _, X22, e22, N22, siz_23, (by rw [em21_V_v_1, if_neg hq68]; exact V_v_22), fun target kt => ?_⟩
      show Steps p.tables e below (T19.setTop (mkF m 68 #[.val (.long x0), .second, .val (.long x1), .second, .val (.long x2), .second, .val (.long x3), .second, .val (.long x4), .second, .val (.int x5), .val (.ref v), .unset, .unset, .unset, .unset, .unset, .unset, .unset, .unset, .unset] [(.int (((x5.toUInt32 >>> ((3 : Int32) &&& 31).toUInt32).toInt32) &&& (1 : Int32)))])) _
      refine XS.ifNo X19.here hx rfl (hb hby at_68) rfl ((if0 _ _).trans (feq hq68).1) ?_
      show Steps p.tables e below (T19.setTop (mkF m 71 #[.val (.long x0), .second, .val (.long x1), .second, .val (.long x2), .second, .val (.long x3), .second, .val (.long x4), .second, .val (.int x5), .val (.ref v), .unset, .unset, .unset, .unset, .unset, .unset, .unset, .unset, .unset] [])) _
      refine XS.aload X19.here hx rfl (hb hby at_71) rfl rfl ?_
      show Steps p.tables e below (T19.setTop (mkF m 73 #[.val (.long x0), .second, .val (.long x1), .second, .val (.long x2), .second, .val (.long x3), .second, .val (.long x4), .second, .val (.int x5), .val (.ref v), .unset, .unset, .unset, .unset, .unset, .unset, .unset, .unset, .unset] [(.ref v)])) _
      refine XS.iconst X19.here hx rfl (hb hby at_73) ?_
      show Steps p.tables e below (T19.setTop (mkF m 74 #[.val (.long x0), .second, .val (.long x1), .second, .val (.long x2), .second, .val (.long x3), .second, .val (.long x4), .second, .val (.int x5), .val (.ref v), .unset, .unset, .unset, .unset, .unset, .unset, .unset, .unset, .unset] [(.int (1 : Int32)), (.ref v)])) _
      refine XS.aload X19.here hx rfl (hb hby at_74) rfl rfl ?_
      show Steps p.tables e below (T19.setTop (mkF m 76 #[.val (.long x0), .second, .val (.long x1), .second, .val (.long x2), .second, .val (.long x3), .second, .val (.long x4), .second, .val (.int x5), .val (.ref v), .unset, .unset, .unset, .unset, .unset, .unset, .unset, .unset, .unset] [(.ref v), (.int (1 : Int32)), (.ref v)])) _
      refine XS.iconst X19.here hx rfl (hb hby at_76) ?_
      show Steps p.tables e below (T19.setTop (mkF m 77 #[.val (.long x0), .second, .val (.long x1), .second, .val (.long x2), .second, .val (.long x3), .second, .val (.long x4), .second, .val (.int x5), .val (.ref v), .unset, .unset, .unset, .unset, .unset, .unset, .unset, .unset, .unset] [(.int (0 : Int32)), (.ref v), (.int (1 : Int32)), (.ref v)])) _
      refine own_ldJ X19 hx hZ rfl Vq19 (j := (0 : Int32)) (w := p15) ⟨by decide, by decide⟩ rfl (g := (mkF m 77 #[.val (.long x0), .second, .val (.long x1), .second, .val (.long x2), .second, .val (.long x3), .second, .val (.long x4), .second, .val (.int x5), .val (.ref v), .unset, .unset, .unset, .unset, .unset, .unset, .unset, .unset, .unset] [(.int (0 : Int32)), (.ref v), (.int (1 : Int32)), (.ref v)])) rfl rfl (hb hby at_77) ?_
      show Steps p.tables e below (T19.setTop (mkF m 78 #[.val (.long x0), .second, .val (.long x1), .second, .val (.long x2), .second, .val (.long x3), .second, .val (.long x4), .second, .val (.int x5), .val (.ref v), .unset, .unset, .unset, .unset, .unset, .unset, .unset, .unset, .unset] [(.long p15), (.int (1 : Int32)), (.ref v)])) _
      refine st22 _ ?_
      exact kt
  obtain ⟨m24_V_v_2, em24_V_v_2⟩ : ∃ z : Int64, z = (if (((x5.toUInt32 >>> ((4 : Int32) &&& 31).toUInt32).toInt32) &&& (1 : Int32)) = (0 : Int32) then r19 else m21_V_v_1) := ⟨_, rfl⟩
  obtain ⟨T24, h24, L24, X24, e24, N24, siz_24, V_v_24, st24⟩ : ∃ (T' : State) (h' : Heap) (L' : List Loc), Stand p l e room_1 s m #[(.long x0), (.long x1), (.long x2), (.long x3), (.long x4), (.int x5)] below meth c T' L' (1) (4) ∧ T'.heap = h' ∧ Fr n0 L' ∧ n0 ≤ h'.size ∧ Arv Z h' v k1 .long (4 : Int32) [(.long p15), (.long m21_V_v_1), (.long m24_V_v_2), (.long r17)] (.long (0 : Int64)) ∧ ∀ target, Steps p.tables e below (T'.setTop (mkF m 96 #[.val (.long x0), .second, .val (.long x1), .second, .val (.long x2), .second, .val (.long x3), .second, .val (.long x4), .second, .val (.int x5), .val (.ref v), .unset, .unset, .unset, .unset, .unset, .unset, .unset, .unset, .unset] [])) target → Steps p.tables e below (T21.setTop (mkF m 85 #[.val (.long x0), .second, .val (.long x1), .second, .val (.long x2), .second, .val (.long x3), .second, .val (.long x4), .second, .val (.int x5), .val (.ref v), .unset, .unset, .unset, .unset, .unset, .unset, .unset, .unset, .unset] [(.int (((x5.toUInt32 >>> ((4 : Int32) &&& 31).toUInt32).toInt32) &&& (1 : Int32)))])) target := by
    by_cases hq85 : (((x5.toUInt32 >>> ((4 : Int32) &&& 31).toUInt32).toInt32) &&& (1 : Int32)) = (0 : Int32)
    · skip
      refine ⟨T21, h21, _, X21, e21, N21, siz_21, (by rw [em24_V_v_2, if_pos hq85]; exact V_v_21), fun target kt => ?_⟩
      show Steps p.tables e below (T21.setTop (mkF m 85 #[.val (.long x0), .second, .val (.long x1), .second, .val (.long x2), .second, .val (.long x3), .second, .val (.long x4), .second, .val (.int x5), .val (.ref v), .unset, .unset, .unset, .unset, .unset, .unset, .unset, .unset, .unset] [(.int (((x5.toUInt32 >>> ((4 : Int32) &&& 31).toUInt32).toInt32) &&& (1 : Int32)))])) _
      refine XS.ifYes X21.here hx rfl (pc0 := 85) (pc' := 96) rfl (hb hby at_85) rfl ((if0 _ _).trans (teq hq85).1) (by decide) (by decide) ?_
      exact kt
    · obtain ⟨T25, h25, L25, X25, e25, N25, W25, V25, st25⟩ := own_stJ X21 hx hZ e21 V_v_21 (j := (2 : Int32)) ⟨by decide, by decide⟩ (i := 2) rfl (Nat.le_of_ble_eq_true rfl) N21 g_v (g := (mkF m 95 #[.val (.long x0), .second, .val (.long x1), .second, .val (.long x2), .second, .val (.long x3), .second, .val (.long x4), .second, .val (.int x5), .val (.ref v), .unset, .unset, .unset, .unset, .unset, .unset, .unset, .unset, .unset] [(.long m21_V_v_1), (.int (2 : Int32)), (.ref v)])) rfl rfl (hb hby at_95)
      have siz_26 : n0 ≤ h25.size := Nat.le_trans siz_21 (Keep.of_wr W25).1
      have V_v_25 : Arv Z h25 v k1 .long (4 : Int32) [(.long p15), (.long m21_V_v_1), (.long m21_V_v_1), (.long r17)] (.long (0 : Int64)) := V25
      refine ⟨T25, h25, _, X25, e25, N25, siz_26, (by rw [em24_V_v_2, if_neg hq85]; exact V_v_25), fun target kt => ?_⟩
      show Steps p.tables e below (T21.setTop (mkF m 85 #[.val (.long x0), .second, .val (.long x1), .second, .val (.long x2), .second, .val (.long x3), .second, .val (.long x4), .second, .val (.int x5), .val (.ref v), .unset, .unset, .unset, .unset, .unset, .unset, .unset, .unset, .unset] [(.int (((x5.toUInt32 >>> ((4 : Int32) &&& 31).toUInt32).toInt32) &&& (1 : Int32)))])) _
      refine XS.ifNo X21.here hx rfl (hb hby at_85) rfl ((if0 _ _).trans (feq hq85).1) ?_
      show Steps p.tables e below (T21.setTop (mkF m 88 #[.val (.long x0), .second, .val (.long x1), .second, .val (.long x2), .second, .val (.long x3), .second, .val (.long x4), .second, .val (.int x5), .val (.ref v), .unset, .unset, .unset, .unset, .unset, .unset, .unset, .unset, .unset] [])) _
      refine XS.aload X21.here hx rfl (hb hby at_88) rfl rfl ?_
      show Steps p.tables e below (T21.setTop (mkF m 90 #[.val (.long x0), .second, .val (.long x1), .second, .val (.long x2), .second, .val (.long x3), .second, .val (.long x4), .second, .val (.int x5), .val (.ref v), .unset, .unset, .unset, .unset, .unset, .unset, .unset, .unset, .unset] [(.ref v)])) _
      refine XS.iconst X21.here hx rfl (hb hby at_90) ?_
      show Steps p.tables e below (T21.setTop (mkF m 91 #[.val (.long x0), .second, .val (.long x1), .second, .val (.long x2), .second, .val (.long x3), .second, .val (.long x4), .second, .val (.int x5), .val (.ref v), .unset, .unset, .unset, .unset, .unset, .unset, .unset, .unset, .unset] [(.int (2 : Int32)), (.ref v)])) _
      refine XS.aload X21.here hx rfl (hb hby at_91) rfl rfl ?_
      show Steps p.tables e below (T21.setTop (mkF m 93 #[.val (.long x0), .second, .val (.long x1), .second, .val (.long x2), .second, .val (.long x3), .second, .val (.long x4), .second, .val (.int x5), .val (.ref v), .unset, .unset, .unset, .unset, .unset, .unset, .unset, .unset, .unset] [(.ref v), (.int (2 : Int32)), (.ref v)])) _
      refine XS.iconst X21.here hx rfl (hb hby at_93) ?_
      show Steps p.tables e below (T21.setTop (mkF m 94 #[.val (.long x0), .second, .val (.long x1), .second, .val (.long x2), .second, .val (.long x3), .second, .val (.long x4), .second, .val (.int x5), .val (.ref v), .unset, .unset, .unset, .unset, .unset, .unset, .unset, .unset, .unset] [(.int (1 : Int32)), (.ref v), (.int (2 : Int32)), (.ref v)])) _
      refine own_ldJ X21 hx hZ e21 V_v_21 (j := (1 : Int32)) (w := m21_V_v_1) ⟨by decide, by decide⟩ rfl (g := (mkF m 94 #[.val (.long x0), .second, .val (.long x1), .second, .val (.long x2), .second, .val (.long x3), .second, .val (.long x4), .second, .val (.int x5), .val (.ref v), .unset, .unset, .unset, .unset, .unset, .unset, .unset, .unset, .unset] [(.int (1 : Int32)), (.ref v), (.int (2 : Int32)), (.ref v)])) rfl rfl (hb hby at_94) ?_
      show Steps p.tables e below (T21.setTop (mkF m 95 #[.val (.long x0), .second, .val (.long x1), .second, .val (.long x2), .second, .val (.long x3), .second, .val (.long x4), .second, .val (.int x5), .val (.ref v), .unset, .unset, .unset, .unset, .unset, .unset, .unset, .unset, .unset] [(.long m21_V_v_1), (.int (2 : Int32)), (.ref v)])) _
      refine st25 _ ?_
      exact kt
  obtain ⟨m27_V_v_3, em27_V_v_3⟩ : ∃ z : Int64, z = (if (((x5.toUInt32 >>> ((5 : Int32) &&& 31).toUInt32).toInt32) &&& (1 : Int32)) = (0 : Int32) then r17 else m24_V_v_2) := ⟨_, rfl⟩
  obtain ⟨T27, h27, L27, X27, e27, N27, siz_27, V_v_27, st27⟩ : ∃ (T' : State) (h' : Heap) (L' : List Loc), Stand p l e room_1 s m #[(.long x0), (.long x1), (.long x2), (.long x3), (.long x4), (.int x5)] below meth c T' L' (1) (4) ∧ T'.heap = h' ∧ Fr n0 L' ∧ n0 ≤ h'.size ∧ Arv Z h' v k1 .long (4 : Int32) [(.long p15), (.long m21_V_v_1), (.long m24_V_v_2), (.long m27_V_v_3)] (.long (0 : Int64)) ∧ ∀ target, Steps p.tables e below (T'.setTop (mkF m 113 #[.val (.long x0), .second, .val (.long x1), .second, .val (.long x2), .second, .val (.long x3), .second, .val (.long x4), .second, .val (.int x5), .val (.ref v), .unset, .unset, .unset, .unset, .unset, .unset, .unset, .unset, .unset] [])) target → Steps p.tables e below (T24.setTop (mkF m 102 #[.val (.long x0), .second, .val (.long x1), .second, .val (.long x2), .second, .val (.long x3), .second, .val (.long x4), .second, .val (.int x5), .val (.ref v), .unset, .unset, .unset, .unset, .unset, .unset, .unset, .unset, .unset] [(.int (((x5.toUInt32 >>> ((5 : Int32) &&& 31).toUInt32).toInt32) &&& (1 : Int32)))])) target := by
    by_cases hq102 : (((x5.toUInt32 >>> ((5 : Int32) &&& 31).toUInt32).toInt32) &&& (1 : Int32)) = (0 : Int32)
    · skip
      refine ⟨T24, h24, _, X24, e24, N24, siz_24, (by rw [em27_V_v_3, if_pos hq102]; exact V_v_24), fun target kt => ?_⟩
      show Steps p.tables e below (T24.setTop (mkF m 102 #[.val (.long x0), .second, .val (.long x1), .second, .val (.long x2), .second, .val (.long x3), .second, .val (.long x4), .second, .val (.int x5), .val (.ref v), .unset, .unset, .unset, .unset, .unset, .unset, .unset, .unset, .unset] [(.int (((x5.toUInt32 >>> ((5 : Int32) &&& 31).toUInt32).toInt32) &&& (1 : Int32)))])) _
      refine XS.ifYes X24.here hx rfl (pc0 := 102) (pc' := 113) rfl (hb hby at_102) rfl ((if0 _ _).trans (teq hq102).1) (by decide) (by decide) ?_
      exact kt
    · obtain ⟨T28, h28, L28, X28, e28, N28, W28, V28, st28⟩ := own_stJ X24 hx hZ e24 V_v_24 (j := (3 : Int32)) ⟨by decide, by decide⟩ (i := 3) rfl (Nat.le_of_ble_eq_true rfl) N24 g_v (g := (mkF m 112 #[.val (.long x0), .second, .val (.long x1), .second, .val (.long x2), .second, .val (.long x3), .second, .val (.long x4), .second, .val (.int x5), .val (.ref v), .unset, .unset, .unset, .unset, .unset, .unset, .unset, .unset, .unset] [(.long m24_V_v_2), (.int (3 : Int32)), (.ref v)])) rfl rfl (hb hby at_112)
      have siz_29 : n0 ≤ h28.size := Nat.le_trans siz_24 (Keep.of_wr W28).1
      have V_v_28 : Arv Z h28 v k1 .long (4 : Int32) [(.long p15), (.long m21_V_v_1), (.long m24_V_v_2), (.long m24_V_v_2)] (.long (0 : Int64)) := V28
      refine ⟨T28, h28, _, X28, e28, N28, siz_29, (by rw [em27_V_v_3, if_neg hq102]; exact V_v_28), fun target kt => ?_⟩
      show Steps p.tables e below (T24.setTop (mkF m 102 #[.val (.long x0), .second, .val (.long x1), .second, .val (.long x2), .second, .val (.long x3), .second, .val (.long x4), .second, .val (.int x5), .val (.ref v), .unset, .unset, .unset, .unset, .unset, .unset, .unset, .unset, .unset] [(.int (((x5.toUInt32 >>> ((5 : Int32) &&& 31).toUInt32).toInt32) &&& (1 : Int32)))])) _
      refine XS.ifNo X24.here hx rfl (hb hby at_102) rfl ((if0 _ _).trans (feq hq102).1) ?_
      show Steps p.tables e below (T24.setTop (mkF m 105 #[.val (.long x0), .second, .val (.long x1), .second, .val (.long x2), .second, .val (.long x3), .second, .val (.long x4), .second, .val (.int x5), .val (.ref v), .unset, .unset, .unset, .unset, .unset, .unset, .unset, .unset, .unset] [])) _
      refine XS.aload X24.here hx rfl (hb hby at_105) rfl rfl ?_
      show Steps p.tables e below (T24.setTop (mkF m 107 #[.val (.long x0), .second, .val (.long x1), .second, .val (.long x2), .second, .val (.long x3), .second, .val (.long x4), .second, .val (.int x5), .val (.ref v), .unset, .unset, .unset, .unset, .unset, .unset, .unset, .unset, .unset] [(.ref v)])) _
      refine XS.iconst X24.here hx rfl (hb hby at_107) ?_
      show Steps p.tables e below (T24.setTop (mkF m 108 #[.val (.long x0), .second, .val (.long x1), .second, .val (.long x2), .second, .val (.long x3), .second, .val (.long x4), .second, .val (.int x5), .val (.ref v), .unset, .unset, .unset, .unset, .unset, .unset, .unset, .unset, .unset] [(.int (3 : Int32)), (.ref v)])) _
      refine XS.aload X24.here hx rfl (hb hby at_108) rfl rfl ?_
      show Steps p.tables e below (T24.setTop (mkF m 110 #[.val (.long x0), .second, .val (.long x1), .second, .val (.long x2), .second, .val (.long x3), .second, .val (.long x4), .second, .val (.int x5), .val (.ref v), .unset, .unset, .unset, .unset, .unset, .unset, .unset, .unset, .unset] [(.ref v), (.int (3 : Int32)), (.ref v)])) _
      refine XS.iconst X24.here hx rfl (hb hby at_110) ?_
      show Steps p.tables e below (T24.setTop (mkF m 111 #[.val (.long x0), .second, .val (.long x1), .second, .val (.long x2), .second, .val (.long x3), .second, .val (.long x4), .second, .val (.int x5), .val (.ref v), .unset, .unset, .unset, .unset, .unset, .unset, .unset, .unset, .unset] [(.int (2 : Int32)), (.ref v), (.int (3 : Int32)), (.ref v)])) _
      refine own_ldJ X24 hx hZ e24 V_v_24 (j := (2 : Int32)) (w := m24_V_v_2) ⟨by decide, by decide⟩ rfl (g := (mkF m 111 #[.val (.long x0), .second, .val (.long x1), .second, .val (.long x2), .second, .val (.long x3), .second, .val (.long x4), .second, .val (.int x5), .val (.ref v), .unset, .unset, .unset, .unset, .unset, .unset, .unset, .unset, .unset] [(.int (2 : Int32)), (.ref v), (.int (3 : Int32)), (.ref v)])) rfl rfl (hb hby at_111) ?_
      show Steps p.tables e below (T24.setTop (mkF m 112 #[.val (.long x0), .second, .val (.long x1), .second, .val (.long x2), .second, .val (.long x3), .second, .val (.long x4), .second, .val (.int x5), .val (.ref v), .unset, .unset, .unset, .unset, .unset, .unset, .unset, .unset, .unset] [(.long m24_V_v_2), (.int (3 : Int32)), (.ref v)])) _
      refine st28 _ ?_
      exact kt
  have srt : p15.toInt ≤ p19.toInt ∧ p19.toInt ≤ r19.toInt ∧ r19.toInt ≤ r17.toInt := by
    obtain ⟨ca11, cb11⟩ := cmp11
    obtain ⟨ca13, cb13⟩ := cmp13
    obtain ⟨ca15, cb15⟩ := cmp15
    obtain ⟨ca17, cb17⟩ := cmp17
    obtain ⟨ca19, cb19⟩ := cmp19
    skip
    rcases cb11 with ⟨cc11, cd11⟩ | ⟨cc11, cd11⟩
    all_goals rcases cb13 with ⟨cc13, cd13⟩ | ⟨cc13, cd13⟩
    all_goals rcases cb15 with ⟨cc15, cd15⟩ | ⟨cc15, cd15⟩
    all_goals rcases cb17 with ⟨cc17, cd17⟩ | ⟨cc17, cd17⟩
    all_goals rcases cb19 with ⟨cc19, cd19⟩ | ⟨cc19, cd19⟩
    all_goals (have ce11 := congrArg Int64.toInt cc11; have cf11 := congrArg Int64.toInt cd11; have ce13 := congrArg Int64.toInt cc13; have cf13 := congrArg Int64.toInt cd13; have ce15 := congrArg Int64.toInt cc15; have cf15 := congrArg Int64.toInt cd15; have ce17 := congrArg Int64.toInt cc17; have cf17 := congrArg Int64.toInt cd17; have ce19 := congrArg Int64.toInt cc19; have cf19 := congrArg Int64.toInt cd19)
    all_goals omega
  have srt2 : p15.toInt ≤ m21_V_v_1.toInt ∧ m21_V_v_1.toInt ≤ m24_V_v_2.toInt ∧ m24_V_v_2.toInt ≤ m27_V_v_3.toInt := by
    have d1 : m21_V_v_1 = p19 ∨ m21_V_v_1 = p15 := by rw [em21_V_v_1]; split; exact Or.inl rfl; exact Or.inr rfl
    have d2 : m24_V_v_2 = r19 ∨ m24_V_v_2 = m21_V_v_1 := by rw [em24_V_v_2]; split; exact Or.inl rfl; exact Or.inr rfl
    have d3 : m27_V_v_3 = r17 ∨ m27_V_v_3 = m24_V_v_2 := by rw [em27_V_v_3]; split; exact Or.inl rfl; exact Or.inr rfl
    rcases d1 with d1 | d1 <;> rcases d2 with d2 | d2 <;> rcases d3 with d3 | d3 <;> (have f1 := congrArg Int64.toInt d1; have f2 := congrArg Int64.toInt d2; have f3 := congrArg Int64.toInt d3; omega)
  obtain ⟨ct, e_ct⟩ : ∃ z : Int32, z = ((x5 &&& (7 : Int32)) % (5 : Int32)) := ⟨_, rfl⟩
  have hct : 0 ≤ ct.toInt ∧ ct.toInt ≤ 4 := by
    have h1 := c_mask x5 (7 : Int32) 3 (by decide) (by decide)
    have h2 := c_irem (x5 &&& (7 : Int32)) (5 : Int32) 5 rfl
    rw [e_ct]; omega
  obtain ⟨md, e_md⟩ : ∃ z : Int32, z = (((x5.toUInt32 >>> ((6 : Int32) &&& 31).toUInt32).toInt32) &&& (3 : Int32)) := ⟨_, rfl⟩
  obtain ⟨ki, e_ki⟩ : ∃ z : Int32, z = (((x5.toUInt32 >>> ((8 : Int32) &&& 31).toUInt32).toInt32) &&& (3 : Int32)) := ⟨_, rfl⟩
  have hki : 0 ≤ ki.toInt ∧ ki.toInt ≤ 3 := by have h1 := c_mask ((x5.toUInt32 >>> ((8 : Int32) &&& 31).toUInt32).toInt32) (3 : Int32) 2 (by decide) (by decide); rw [e_ki]; omega
  obtain ⟨m31_l15, em31_l15⟩ : ∃ z : Int64, z = (if md = (2 : Int32) then ((own_get ki p15 m21_V_v_1 m24_V_v_2 m27_V_v_3) - (1 : Int64)) else x4) := ⟨_, rfl⟩
  obtain ⟨m30_l15, em30_l15⟩ : ∃ z : Int64, z = (if md = (1 : Int32) then (own_get ki p15 m21_V_v_1 m24_V_v_2 m27_V_v_3) else m31_l15) := ⟨_, rfl⟩
  obtain ⟨m32_s0, em32_s0⟩ : ∃ z : Int64, z = (if (((x5.toUInt32 >>> ((10 : Int32) &&& 31).toUInt32).toInt32) &&& (1 : Int32)) = (0 : Int32) then (-9223372036854775808 : Int64) else (9223372036854775807 : Int64)) := ⟨_, rfl⟩
  obtain ⟨T33, h33, k33, X33, e33, E33, A33, st33⟩ := newP X27 hx hZ (hw _ (List.mem_of_getElem? (i := 0) rfl)) e27 (g := (mkF m 197 #[.val (.long x0), .second, .val (.long x1), .second, .val (.long x2), .second, .val (.long x3), .second, .val (.long x4), .second, .val (.int x5), .val (.ref v), .val (.int ct), .val (.int md), .val (.int ki), .val (.long m30_l15), .second, .val (.long m32_s0), .second, .unset, .unset] [(.int (4 : Int32))])) rfl (hb hby at_197) rfl (by decide) (cap := 4) (by decide) (by decide) (by decide) (by decide)
  obtain ⟨bw, g33⟩ : ∃ z, z = h27.size := ⟨_, rfl⟩
  rw [← g33] at A33 st33
  have V_bw_33 : Arv Z h33 bw k33 .long (4 : Int32) [(.long (0 : Int64)), (.long (0 : Int64)), (.long (0 : Int64)), (.long (0 : Int64))] (.long (0 : Int64)) := (Arv.new A33 (by decide)).pad (pad_rep [] (.long (0 : Int64)) 4)
  have lt_v_bw : v < bw := Nat.lt_of_lt_of_le V_v_27.lt (Nat.le_of_eq g33.symm)
  have g_bw : n0 ≤ bw := Nat.le_trans siz_27 (Nat.le_of_eq g33.symm)
  have siz_34 : n0 ≤ h33.size := Nat.le_trans siz_27 E33.1
  have V_v_34 : Arv Z h33 v k1 .long (4 : Int32) [(.long p15), (.long m21_V_v_1), (.long m24_V_v_2), (.long m27_V_v_3)] (.long (0 : Int64)) := V_v_27.ext E33
  obtain ⟨m35_s0, em35_s0⟩ : ∃ z : Int64, z = (if (0 : Int32) < ct then p15 else m32_s0) := ⟨_, rfl⟩
  obtain ⟨T36, h36, L36, X36, e36, N36, W36, V36, st36⟩ := own_stJ X33 hx hZ e33 V_bw_33 (j := (0 : Int32)) ⟨by decide, by decide⟩ (i := 0) rfl (Nat.le_of_ble_eq_true rfl) N27 g_bw (g := (mkF m 218 #[.val (.long x0), .second, .val (.long x1), .second, .val (.long x2), .second, .val (.long x3), .second, .val (.long x4), .second, .val (.int x5), .val (.ref v), .val (.int ct), .val (.int md), .val (.int ki), .val (.long m30_l15), .second, .val (.long m32_s0), .second, .val (.ref bw), .unset] [(.long m35_s0), (.int (0 : Int32)), (.ref bw)])) rfl rfl (hb hby at_218)
  have siz_37 : n0 ≤ h36.size := Nat.le_trans siz_34 (Keep.of_wr W36).1
  have V_v_37 : Arv Z h36 v k1 .long (4 : Int32) [(.long p15), (.long m21_V_v_1), (.long m24_V_v_2), (.long m27_V_v_3)] (.long (0 : Int64)) := V_v_34.other W36 (Nat.ne_of_lt lt_v_bw)
  have V_bw_36 : Arv Z h36 bw k33 .long (4 : Int32) [(.long m35_s0), (.long (0 : Int64)), (.long (0 : Int64)), (.long (0 : Int64))] (.long (0 : Int64)) := V36
  obtain ⟨m38_s0, em38_s0⟩ : ∃ z : Int64, z = (if (1 : Int32) < ct then m21_V_v_1 else m32_s0) := ⟨_, rfl⟩
  obtain ⟨T39, h39, L39, X39, e39, N39, W39, V39, st39⟩ := own_stJ X36 hx hZ e36 V_bw_36 (j := (1 : Int32)) ⟨by decide, by decide⟩ (i := 1) rfl (Nat.le_of_ble_eq_true rfl) N36 g_bw (g := (mkF m 237 #[.val (.long x0), .second, .val (.long x1), .second, .val (.long x2), .second, .val (.long x3), .second, .val (.long x4), .second, .val (.int x5), .val (.ref v), .val (.int ct), .val (.int md), .val (.int ki), .val (.long m30_l15), .second, .val (.long m32_s0), .second, .val (.ref bw), .unset] [(.long m38_s0), (.int (1 : Int32)), (.ref bw)])) rfl rfl (hb hby at_237)
  have siz_40 : n0 ≤ h39.size := Nat.le_trans siz_37 (Keep.of_wr W39).1
  have V_v_40 : Arv Z h39 v k1 .long (4 : Int32) [(.long p15), (.long m21_V_v_1), (.long m24_V_v_2), (.long m27_V_v_3)] (.long (0 : Int64)) := V_v_37.other W39 (Nat.ne_of_lt lt_v_bw)
  have V_bw_39 : Arv Z h39 bw k33 .long (4 : Int32) [(.long m35_s0), (.long m38_s0), (.long (0 : Int64)), (.long (0 : Int64))] (.long (0 : Int64)) := V39
  obtain ⟨m41_s0, em41_s0⟩ : ∃ z : Int64, z = (if (2 : Int32) < ct then m24_V_v_2 else m32_s0) := ⟨_, rfl⟩
  obtain ⟨T42, h42, L42, X42, e42, N42, W42, V42, st42⟩ := own_stJ X39 hx hZ e39 V_bw_39 (j := (2 : Int32)) ⟨by decide, by decide⟩ (i := 2) rfl (Nat.le_of_ble_eq_true rfl) N39 g_bw (g := (mkF m 256 #[.val (.long x0), .second, .val (.long x1), .second, .val (.long x2), .second, .val (.long x3), .second, .val (.long x4), .second, .val (.int x5), .val (.ref v), .val (.int ct), .val (.int md), .val (.int ki), .val (.long m30_l15), .second, .val (.long m32_s0), .second, .val (.ref bw), .unset] [(.long m41_s0), (.int (2 : Int32)), (.ref bw)])) rfl rfl (hb hby at_256)
  have siz_43 : n0 ≤ h42.size := Nat.le_trans siz_40 (Keep.of_wr W42).1
  have V_v_43 : Arv Z h42 v k1 .long (4 : Int32) [(.long p15), (.long m21_V_v_1), (.long m24_V_v_2), (.long m27_V_v_3)] (.long (0 : Int64)) := V_v_40.other W42 (Nat.ne_of_lt lt_v_bw)
  have V_bw_42 : Arv Z h42 bw k33 .long (4 : Int32) [(.long m35_s0), (.long m38_s0), (.long m41_s0), (.long (0 : Int64))] (.long (0 : Int64)) := V42
  obtain ⟨m44_s0, em44_s0⟩ : ∃ z : Int64, z = (if (3 : Int32) < ct then m27_V_v_3 else m32_s0) := ⟨_, rfl⟩
  obtain ⟨T45, h45, L45, X45, e45, N45, W45, V45, st45⟩ := own_stJ X42 hx hZ e42 V_bw_42 (j := (3 : Int32)) ⟨by decide, by decide⟩ (i := 3) rfl (Nat.le_of_ble_eq_true rfl) N42 g_bw (g := (mkF m 275 #[.val (.long x0), .second, .val (.long x1), .second, .val (.long x2), .second, .val (.long x3), .second, .val (.long x4), .second, .val (.int x5), .val (.ref v), .val (.int ct), .val (.int md), .val (.int ki), .val (.long m30_l15), .second, .val (.long m32_s0), .second, .val (.ref bw), .unset] [(.long m44_s0), (.int (3 : Int32)), (.ref bw)])) rfl rfl (hb hby at_275)
  have siz_46 : n0 ≤ h45.size := Nat.le_trans siz_43 (Keep.of_wr W45).1
  have V_v_46 : Arv Z h45 v k1 .long (4 : Int32) [(.long p15), (.long m21_V_v_1), (.long m24_V_v_2), (.long m27_V_v_3)] (.long (0 : Int64)) := V_v_43.other W45 (Nat.ne_of_lt lt_v_bw)
  have V_bw_45 : Arv Z h45 bw k33 .long (4 : Int32) [(.long m35_s0), (.long m38_s0), (.long m41_s0), (.long m44_s0)] (.long (0 : Int64)) := V45
  obtain ⟨m47_s0, em47_s0⟩ : ∃ z : Int32, z = (if (0 : Int32) < ct then (1 : Int32) else (0 : Int32)) := ⟨_, rfl⟩
  obtain ⟨_, _, ⟨T48, L48, k48, n48⟩, -, X48, ⟨Lc48, hQ48, l48, y48, z48⟩, st48⟩ := Jvm.LawKit.callS X45 hx (y := (⟨"com/example/rootline/rootline/heap/ClassObjectsIndexAbovePinLaw", "le", "(ZJJ)I"⟩ : MethodName)) hown (mvT hZ (hw _ (List.mem_of_getElem? (i := 6) rfl))) (mvT hZ (hw _ (List.mem_of_getElem? (i := 7) rfl))) (mvT hZ (hw _ (List.mem_of_getElem? (i := 3) rfl))) (mvT hZ (hw _ (List.mem_of_getElem? (i := 8) rfl))) (by decide) (backOf (W := 0) (rm2 l Z a0 hw [] m47_s0 p15 m30_l15 h45 n0 siz_46) hZ (hw _ (List.mem_of_getElem? (i := 8) rfl)) (hw _ (List.mem_of_getElem? (i := 3) rfl)) (by decide) (by decide)) (g := (mkF m 292 #[.val (.long x0), .second, .val (.long x1), .second, .val (.long x2), .second, .val (.long x3), .second, .val (.long x4), .second, .val (.int x5), .val (.ref v), .val (.int ct), .val (.int md), .val (.int ki), .val (.long m30_l15), .second, .val (.long m32_s0), .second, .val (.ref bw), .unset] [(.long m30_l15), (.long p15), (.int m47_s0)])) rfl (by rw [hml]; rfl) (argsL := [(.int m47_s0), (.long p15), (.long m30_l15)]) (rest := []) (lenOf pd__ZJJ_I rfl) rfl (by show 2 * 0 + _ ≤ _; exact Nat.le_of_eq rfl) (hb hby at_292) (fun _ _ => ⟨rfl, e45, (by decide : 2 + 0 ≤ _), (by decide : 8 + 0 ≤ _)⟩)
  dsimp only [Pt.U, Pt.locs, Pt.cells, Pt.slots] at X48 l48 y48 z48 st48 hQ48
  subst l48 y48 z48
  obtain ⟨rfl, N48q, e48⟩ := hQ48
  have N48 := Fr.app N45 N48q
  obtain ⟨m49_s0, em49_s0⟩ : ∃ z : Int32, z = (if (1 : Int32) < ct then (1 : Int32) else (0 : Int32)) := ⟨_, rfl⟩
  obtain ⟨_, _, ⟨T50, L50, k50, n50⟩, -, X50, ⟨Lc50, hQ50, l50, y50, z50⟩, st50⟩ := Jvm.LawKit.callS X48 hx (y := (⟨"com/example/rootline/rootline/heap/ClassObjectsIndexAbovePinLaw", "le", "(ZJJ)I"⟩ : MethodName)) hown (mvT hZ (hw _ (List.mem_of_getElem? (i := 6) rfl))) (mvT hZ (hw _ (List.mem_of_getElem? (i := 7) rfl))) (mvT hZ (hw _ (List.mem_of_getElem? (i := 3) rfl))) (mvT hZ (hw _ (List.mem_of_getElem? (i := 8) rfl))) (by decide) (backOf (W := 1) (rm2 l Z a0 hw [] m49_s0 m21_V_v_1 m30_l15 h45 n0 siz_46) hZ (hw _ (List.mem_of_getElem? (i := 8) rfl)) (hw _ (List.mem_of_getElem? (i := 3) rfl)) (by decide) (by decide)) (g := (mkF m 312 #[.val (.long x0), .second, .val (.long x1), .second, .val (.long x2), .second, .val (.long x3), .second, .val (.long x4), .second, .val (.int x5), .val (.ref v), .val (.int ct), .val (.int md), .val (.int ki), .val (.long m30_l15), .second, .val (.long m32_s0), .second, .val (.ref bw), .unset] [(.long m30_l15), (.long m21_V_v_1), (.int m49_s0), (.int (own_le m47_s0 p15 m30_l15))])) rfl (by rw [hml]; rfl) (argsL := [(.int m49_s0), (.long m21_V_v_1), (.long m30_l15)]) (rest := [(.int (own_le m47_s0 p15 m30_l15))]) (lenOf pd__ZJJ_I rfl) rfl (by show 2 * 0 + _ ≤ _; exact Nat.le_of_eq rfl) (hb hby at_312) (fun _ _ => ⟨rfl, e48, (by decide : 2 + 0 ≤ _), (by decide : 8 + 0 ≤ _)⟩)
  dsimp only [Pt.U, Pt.locs, Pt.cells, Pt.slots] at X50 l50 y50 z50 st50 hQ50
  subst l50 y50 z50
  obtain ⟨rfl, N50q, e50⟩ := hQ50
  have N50 := Fr.app N48 N50q
  obtain ⟨m51_s0, em51_s0⟩ : ∃ z : Int32, z = (if (2 : Int32) < ct then (1 : Int32) else (0 : Int32)) := ⟨_, rfl⟩
  obtain ⟨_, _, ⟨T52, L52, k52, n52⟩, -, X52, ⟨Lc52, hQ52, l52, y52, z52⟩, st52⟩ := Jvm.LawKit.callS X50 hx (y := (⟨"com/example/rootline/rootline/heap/ClassObjectsIndexAbovePinLaw", "le", "(ZJJ)I"⟩ : MethodName)) hown (mvT hZ (hw _ (List.mem_of_getElem? (i := 6) rfl))) (mvT hZ (hw _ (List.mem_of_getElem? (i := 7) rfl))) (mvT hZ (hw _ (List.mem_of_getElem? (i := 3) rfl))) (mvT hZ (hw _ (List.mem_of_getElem? (i := 8) rfl))) (by decide) (backOf (W := 1) (rm2 l Z a0 hw [] m51_s0 m24_V_v_2 m30_l15 h45 n0 siz_46) hZ (hw _ (List.mem_of_getElem? (i := 8) rfl)) (hw _ (List.mem_of_getElem? (i := 3) rfl)) (by decide) (by decide)) (g := (mkF m 333 #[.val (.long x0), .second, .val (.long x1), .second, .val (.long x2), .second, .val (.long x3), .second, .val (.long x4), .second, .val (.int x5), .val (.ref v), .val (.int ct), .val (.int md), .val (.int ki), .val (.long m30_l15), .second, .val (.long m32_s0), .second, .val (.ref bw), .unset] [(.long m30_l15), (.long m24_V_v_2), (.int m51_s0), (.int ((own_le m47_s0 p15 m30_l15) + (own_le m49_s0 m21_V_v_1 m30_l15)))])) rfl (by rw [hml]; rfl) (argsL := [(.int m51_s0), (.long m24_V_v_2), (.long m30_l15)]) (rest := [(.int ((own_le m47_s0 p15 m30_l15) + (own_le m49_s0 m21_V_v_1 m30_l15)))]) (lenOf pd__ZJJ_I rfl) rfl (by show 2 * 0 + _ ≤ _; exact Nat.le_of_eq rfl) (hb hby at_333) (fun _ _ => ⟨rfl, e50, (by decide : 2 + 0 ≤ _), (by decide : 8 + 0 ≤ _)⟩)
  dsimp only [Pt.U, Pt.locs, Pt.cells, Pt.slots] at X52 l52 y52 z52 st52 hQ52
  subst l52 y52 z52
  obtain ⟨rfl, N52q, e52⟩ := hQ52
  have N52 := Fr.app N50 N52q
  obtain ⟨m53_s0, em53_s0⟩ : ∃ z : Int32, z = (if (3 : Int32) < ct then (1 : Int32) else (0 : Int32)) := ⟨_, rfl⟩
  obtain ⟨_, _, ⟨T54, L54, k54, n54⟩, -, X54, ⟨Lc54, hQ54, l54, y54, z54⟩, st54⟩ := Jvm.LawKit.callS X52 hx (y := (⟨"com/example/rootline/rootline/heap/ClassObjectsIndexAbovePinLaw", "le", "(ZJJ)I"⟩ : MethodName)) hown (mvT hZ (hw _ (List.mem_of_getElem? (i := 6) rfl))) (mvT hZ (hw _ (List.mem_of_getElem? (i := 7) rfl))) (mvT hZ (hw _ (List.mem_of_getElem? (i := 3) rfl))) (mvT hZ (hw _ (List.mem_of_getElem? (i := 8) rfl))) (by decide) (backOf (W := 1) (rm2 l Z a0 hw [] m53_s0 m27_V_v_3 m30_l15 h45 n0 siz_46) hZ (hw _ (List.mem_of_getElem? (i := 8) rfl)) (hw _ (List.mem_of_getElem? (i := 3) rfl)) (by decide) (by decide)) (g := (mkF m 354 #[.val (.long x0), .second, .val (.long x1), .second, .val (.long x2), .second, .val (.long x3), .second, .val (.long x4), .second, .val (.int x5), .val (.ref v), .val (.int ct), .val (.int md), .val (.int ki), .val (.long m30_l15), .second, .val (.long m32_s0), .second, .val (.ref bw), .unset] [(.long m30_l15), (.long m27_V_v_3), (.int m53_s0), (.int (((own_le m47_s0 p15 m30_l15) + (own_le m49_s0 m21_V_v_1 m30_l15)) + (own_le m51_s0 m24_V_v_2 m30_l15)))])) rfl (by rw [hml]; rfl) (argsL := [(.int m53_s0), (.long m27_V_v_3), (.long m30_l15)]) (rest := [(.int (((own_le m47_s0 p15 m30_l15) + (own_le m49_s0 m21_V_v_1 m30_l15)) + (own_le m51_s0 m24_V_v_2 m30_l15)))]) (lenOf pd__ZJJ_I rfl) rfl (by show 2 * 0 + _ ≤ _; exact Nat.le_of_eq rfl) (hb hby at_354) (fun _ _ => ⟨rfl, e52, (by decide : 2 + 0 ≤ _), (by decide : 8 + 0 ≤ _)⟩)
  dsimp only [Pt.U, Pt.locs, Pt.cells, Pt.slots] at X54 l54 y54 z54 st54 hQ54
  subst l54 y54 z54
  obtain ⟨rfl, N54q, e54⟩ := hQ54
  have N54 := Fr.app N52 N54q
  obtain ⟨xp, e_xp⟩ : ∃ z : Int32, z = ((((own_le m47_s0 p15 m30_l15) + (own_le m49_s0 m21_V_v_1 m30_l15)) + (own_le m51_s0 m24_V_v_2 m30_l15)) + (own_le m53_s0 m27_V_v_3 m30_l15)) := ⟨_, rfl⟩
  have hfin : own_ia ct m35_s0 m38_s0 m41_s0 m44_s0 m30_l15 = xp := by
    rw [e_xp, em35_s0, em38_s0, em41_s0, em44_s0, em47_s0, em49_s0, em51_s0, em53_s0]
    exact own_law ct m32_s0 p15 m21_V_v_1 m24_V_v_2 m27_V_v_3 m30_l15 hct srt2.1 srt2.2.1 srt2.2.2
  obtain ⟨_, _, ⟨T55, L55, k55, n55⟩, -, X55, ⟨Lc55, hQ55, l55, y55, z55⟩, st55⟩ := Jvm.LawKit.callS X54 hx (y := (⟨"com/example/rootline/rootline/heap/ClassObjects", "indexAbove", "([JIJ)I"⟩ : MethodName)) hown (mvT hZ (hw _ (List.mem_of_getElem? (i := 9) rfl))) (mvT hZ (hw _ (List.mem_of_getElem? (i := 10) rfl))) (mvT hZ (hw _ (List.mem_of_getElem? (i := 11) rfl))) (mvT hZ (hw _ (List.mem_of_getElem? (i := 12) rfl))) (by decide) (backOf (W := 0) (rmia l Z a0 hw [] bw ct m30_l15 k33 m35_s0 m38_s0 m41_s0 m44_s0 h45 n0 siz_46 hct V_bw_45) hZ (hw _ (List.mem_of_getElem? (i := 12) rfl)) (hw _ (List.mem_of_getElem? (i := 11) rfl)) (by decide) (by decide)) (g := (mkF m 366 #[.val (.long x0), .second, .val (.long x1), .second, .val (.long x2), .second, .val (.long x3), .second, .val (.long x4), .second, .val (.int x5), .val (.ref v), .val (.int ct), .val (.int md), .val (.int ki), .val (.long m30_l15), .second, .val (.long m32_s0), .second, .val (.ref bw), .val (.int xp)] [(.long m30_l15), (.int ct), (.ref bw)])) rfl (by rw [hml]; rfl) (argsL := [(.ref bw), (.int ct), (.long m30_l15)]) (rest := []) (lenOf pd___JIJ_I rfl) rfl (by show 2 * 0 + _ ≤ _; exact Nat.le_of_eq rfl) (hb hby at_366) (fun _ _ => ⟨rfl, e54, (by decide : 2 + 0 ≤ _), (by decide : 8 + 0 ≤ _)⟩)
  dsimp only [Pt.U, Pt.locs, Pt.cells, Pt.slots] at X55 l55 y55 z55 st55 hQ55
  subst l55 y55 z55
  obtain ⟨rfl, N55q, e55⟩ := hQ55
  have N55 := Fr.app N54 N55q
  obtain ⟨fs, hr, hrun, hended, hW, hsame⟩ := X55.leave (v := some (.int (1 : Int32))) (fun h => by rw [Bd.returns] at h; cases h)
  refine ⟨_, _, pre0 _ ?_, hrun, hended, _, _, rfl, ?_, ⟨_, rfl⟩, hW, hsame.mono (by decide) (by decide)⟩
  · show Steps p.tables e below (s₁.setTop (mkF m 0 #[.val (.long x0), .second, .val (.long x1), .second, .val (.long x2), .second, .val (.long x3), .second, .val (.long x4), .second, .val (.int x5), .unset, .unset, .unset, .unset, .unset, .unset, .unset, .unset, .unset, .unset] [])) _
    refine XS.iconst X0.here hx rfl (hb hby at_0) ?_
    show Steps p.tables e below (s₁.setTop (mkF m 1 #[.val (.long x0), .second, .val (.long x1), .second, .val (.long x2), .second, .val (.long x3), .second, .val (.long x4), .second, .val (.int x5), .unset, .unset, .unset, .unset, .unset, .unset, .unset, .unset, .unset, .unset] [(.int (4 : Int32))])) _
    refine st1 _ ?_
    show Steps p.tables e below (T1.setTop (mkF m 3 #[.val (.long x0), .second, .val (.long x1), .second, .val (.long x2), .second, .val (.long x3), .second, .val (.long x4), .second, .val (.int x5), .unset, .unset, .unset, .unset, .unset, .unset, .unset, .unset, .unset, .unset] [(.ref v)])) _
    refine XS.astore X1.here hx rfl (hb hby at_3) rfl rfl (l' := #[.val (.long x0), .second, .val (.long x1), .second, .val (.long x2), .second, .val (.long x3), .second, .val (.long x4), .second, .val (.int x5), .val (.ref v), .unset, .unset, .unset, .unset, .unset, .unset, .unset, .unset, .unset]) rfl ?_
    show Steps p.tables e below (T1.setTop (mkF m 5 #[.val (.long x0), .second, .val (.long x1), .second, .val (.long x2), .second, .val (.long x3), .second, .val (.long x4), .second, .val (.int x5), .val (.ref v), .unset, .unset, .unset, .unset, .unset, .unset, .unset, .unset, .unset] [])) _
    refine XS.aload X1.here hx rfl (hb hby at_5) rfl rfl ?_
    show Steps p.tables e below (T1.setTop (mkF m 7 #[.val (.long x0), .second, .val (.long x1), .second, .val (.long x2), .second, .val (.long x3), .second, .val (.long x4), .second, .val (.int x5), .val (.ref v), .unset, .unset, .unset, .unset, .unset, .unset, .unset, .unset, .unset] [(.ref v)])) _
    refine XS.iconst X1.here hx rfl (hb hby at_7) ?_
    show Steps p.tables e below (T1.setTop (mkF m 8 #[.val (.long x0), .second, .val (.long x1), .second, .val (.long x2), .second, .val (.long x3), .second, .val (.long x4), .second, .val (.int x5), .val (.ref v), .unset, .unset, .unset, .unset, .unset, .unset, .unset, .unset, .unset] [(.int (0 : Int32)), (.ref v)])) _
    refine XS.lloadN X1.here hx rfl (hb hby at_8) rfl ?_
    show Steps p.tables e below (T1.setTop (mkF m 9 #[.val (.long x0), .second, .val (.long x1), .second, .val (.long x2), .second, .val (.long x3), .second, .val (.long x4), .second, .val (.int x5), .val (.ref v), .unset, .unset, .unset, .unset, .unset, .unset, .unset, .unset, .unset] [(.long x0), (.int (0 : Int32)), (.ref v)])) _
    refine st3 _ ?_
    show Steps p.tables e below (T3.setTop (mkF m 10 #[.val (.long x0), .second, .val (.long x1), .second, .val (.long x2), .second, .val (.long x3), .second, .val (.long x4), .second, .val (.int x5), .val (.ref v), .unset, .unset, .unset, .unset, .unset, .unset, .unset, .unset, .unset] [])) _
    refine XS.aload X3.here hx rfl (hb hby at_10) rfl rfl ?_
    show Steps p.tables e below (T3.setTop (mkF m 12 #[.val (.long x0), .second, .val (.long x1), .second, .val (.long x2), .second, .val (.long x3), .second, .val (.long x4), .second, .val (.int x5), .val (.ref v), .unset, .unset, .unset, .unset, .unset, .unset, .unset, .unset, .unset] [(.ref v)])) _
    refine XS.iconst X3.here hx rfl (hb hby at_12) ?_
    show Steps p.tables e below (T3.setTop (mkF m 13 #[.val (.long x0), .second, .val (.long x1), .second, .val (.long x2), .second, .val (.long x3), .second, .val (.long x4), .second, .val (.int x5), .val (.ref v), .unset, .unset, .unset, .unset, .unset, .unset, .unset, .unset, .unset] [(.int (1 : Int32)), (.ref v)])) _
    refine XS.lloadN X3.here hx rfl (hb hby at_13) rfl ?_
    show Steps p.tables e below (T3.setTop (mkF m 14 #[.val (.long x0), .second, .val (.long x1), .second, .val (.long x2), .second, .val (.long x3), .second, .val (.long x4), .second, .val (.int x5), .val (.ref v), .unset, .unset, .unset, .unset, .unset, .unset, .unset, .unset, .unset] [(.long x1), (.int (1 : Int32)), (.ref v)])) _
    refine st5 _ ?_
    show Steps p.tables e below (T5.setTop (mkF m 15 #[.val (.long x0), .second, .val (.long x1), .second, .val (.long x2), .second, .val (.long x3), .second, .val (.long x4), .second, .val (.int x5), .val (.ref v), .unset, .unset, .unset, .unset, .unset, .unset, .unset, .unset, .unset] [])) _
    refine XS.aload X5.here hx rfl (hb hby at_15) rfl rfl ?_
    show Steps p.tables e below (T5.setTop (mkF m 17 #[.val (.long x0), .second, .val (.long x1), .second, .val (.long x2), .second, .val (.long x3), .second, .val (.long x4), .second, .val (.int x5), .val (.ref v), .unset, .unset, .unset, .unset, .unset, .unset, .unset, .unset, .unset] [(.ref v)])) _
    refine XS.iconst X5.here hx rfl (hb hby at_17) ?_
    show Steps p.tables e below (T5.setTop (mkF m 18 #[.val (.long x0), .second, .val (.long x1), .second, .val (.long x2), .second, .val (.long x3), .second, .val (.long x4), .second, .val (.int x5), .val (.ref v), .unset, .unset, .unset, .unset, .unset, .unset, .unset, .unset, .unset] [(.int (2 : Int32)), (.ref v)])) _
    refine XS.lload X5.here hx rfl (hb hby at_18) rfl ?_
    show Steps p.tables e below (T5.setTop (mkF m 20 #[.val (.long x0), .second, .val (.long x1), .second, .val (.long x2), .second, .val (.long x3), .second, .val (.long x4), .second, .val (.int x5), .val (.ref v), .unset, .unset, .unset, .unset, .unset, .unset, .unset, .unset, .unset] [(.long x2), (.int (2 : Int32)), (.ref v)])) _
    refine st7 _ ?_
    show Steps p.tables e below (T7.setTop (mkF m 21 #[.val (.long x0), .second, .val (.long x1), .second, .val (.long x2), .second, .val (.long x3), .second, .val (.long x4), .second, .val (.int x5), .val (.ref v), .unset, .unset, .unset, .unset, .unset, .unset, .unset, .unset, .unset] [])) _
    refine XS.aload X7.here hx rfl (hb hby at_21) rfl rfl ?_
    show Steps p.tables e below (T7.setTop (mkF m 23 #[.val (.long x0), .second, .val (.long x1), .second, .val (.long x2), .second, .val (.long x3), .second, .val (.long x4), .second, .val (.int x5), .val (.ref v), .unset, .unset, .unset, .unset, .unset, .unset, .unset, .unset, .unset] [(.ref v)])) _
    refine XS.iconst X7.here hx rfl (hb hby at_23) ?_
    show Steps p.tables e below (T7.setTop (mkF m 24 #[.val (.long x0), .second, .val (.long x1), .second, .val (.long x2), .second, .val (.long x3), .second, .val (.long x4), .second, .val (.int x5), .val (.ref v), .unset, .unset, .unset, .unset, .unset, .unset, .unset, .unset, .unset] [(.int (3 : Int32)), (.ref v)])) _
    refine XS.lload X7.here hx rfl (hb hby at_24) rfl ?_
    show Steps p.tables e below (T7.setTop (mkF m 26 #[.val (.long x0), .second, .val (.long x1), .second, .val (.long x2), .second, .val (.long x3), .second, .val (.long x4), .second, .val (.int x5), .val (.ref v), .unset, .unset, .unset, .unset, .unset, .unset, .unset, .unset, .unset] [(.long x3), (.int (3 : Int32)), (.ref v)])) _
    refine st9 _ ?_
    show Steps p.tables e below (T9.setTop (mkF m 27 #[.val (.long x0), .second, .val (.long x1), .second, .val (.long x2), .second, .val (.long x3), .second, .val (.long x4), .second, .val (.int x5), .val (.ref v), .unset, .unset, .unset, .unset, .unset, .unset, .unset, .unset, .unset] [])) _
    refine XS.aload X9.here hx rfl (hb hby at_27) rfl rfl ?_
    show Steps p.tables e below (T9.setTop (mkF m 29 #[.val (.long x0), .second, .val (.long x1), .second, .val (.long x2), .second, .val (.long x3), .second, .val (.long x4), .second, .val (.int x5), .val (.ref v), .unset, .unset, .unset, .unset, .unset, .unset, .unset, .unset, .unset] [(.ref v)])) _
    refine XS.iconst X9.here hx rfl (hb hby at_29) ?_
    show Steps p.tables e below (T9.setTop (mkF m 30 #[.val (.long x0), .second, .val (.long x1), .second, .val (.long x2), .second, .val (.long x3), .second, .val (.long x4), .second, .val (.int x5), .val (.ref v), .unset, .unset, .unset, .unset, .unset, .unset, .unset, .unset, .unset] [(.int (0 : Int32)), (.ref v)])) _
    refine XS.iconst X9.here hx rfl (hb hby at_30) ?_
    show Steps p.tables e below (T9.setTop (mkF m 31 #[.val (.long x0), .second, .val (.long x1), .second, .val (.long x2), .second, .val (.long x3), .second, .val (.long x4), .second, .val (.int x5), .val (.ref v), .unset, .unset, .unset, .unset, .unset, .unset, .unset, .unset, .unset] [(.int (1 : Int32)), (.int (0 : Int32)), (.ref v)])) _
    refine st11 _ ?_
    show Steps p.tables e below (T11.setTop (mkF m 34 #[.val (.long x0), .second, .val (.long x1), .second, .val (.long x2), .second, .val (.long x3), .second, .val (.long x4), .second, .val (.int x5), .val (.ref v), .unset, .unset, .unset, .unset, .unset, .unset, .unset, .unset, .unset] [])) _
    refine XS.aload X11.here hx rfl (hb hby at_34) rfl rfl ?_
    show Steps p.tables e below (T11.setTop (mkF m 36 #[.val (.long x0), .second, .val (.long x1), .second, .val (.long x2), .second, .val (.long x3), .second, .val (.long x4), .second, .val (.int x5), .val (.ref v), .unset, .unset, .unset, .unset, .unset, .unset, .unset, .unset, .unset] [(.ref v)])) _
    refine XS.iconst X11.here hx rfl (hb hby at_36) ?_
    show Steps p.tables e below (T11.setTop (mkF m 37 #[.val (.long x0), .second, .val (.long x1), .second, .val (.long x2), .second, .val (.long x3), .second, .val (.long x4), .second, .val (.int x5), .val (.ref v), .unset, .unset, .unset, .unset, .unset, .unset, .unset, .unset, .unset] [(.int (2 : Int32)), (.ref v)])) _
    refine XS.iconst X11.here hx rfl (hb hby at_37) ?_
    show Steps p.tables e below (T11.setTop (mkF m 38 #[.val (.long x0), .second, .val (.long x1), .second, .val (.long x2), .second, .val (.long x3), .second, .val (.long x4), .second, .val (.int x5), .val (.ref v), .unset, .unset, .unset, .unset, .unset, .unset, .unset, .unset, .unset] [(.int (3 : Int32)), (.int (2 : Int32)), (.ref v)])) _
    refine st13 _ ?_
    show Steps p.tables e below (T13.setTop (mkF m 41 #[.val (.long x0), .second, .val (.long x1), .second, .val (.long x2), .second, .val (.long x3), .second, .val (.long x4), .second, .val (.int x5), .val (.ref v), .unset, .unset, .unset, .unset, .unset, .unset, .unset, .unset, .unset] [])) _
    refine XS.aload X13.here hx rfl (hb hby at_41) rfl rfl ?_
    show Steps p.tables e below (T13.setTop (mkF m 43 #[.val (.long x0), .second, .val (.long x1), .second, .val (.long x2), .second, .val (.long x3), .second, .val (.long x4), .second, .val (.int x5), .val (.ref v), .unset, .unset, .unset, .unset, .unset, .unset, .unset, .unset, .unset] [(.ref v)])) _
    refine XS.iconst X13.here hx rfl (hb hby at_43) ?_
    show Steps p.tables e below (T13.setTop (mkF m 44 #[.val (.long x0), .second, .val (.long x1), .second, .val (.long x2), .second, .val (.long x3), .second, .val (.long x4), .second, .val (.int x5), .val (.ref v), .unset, .unset, .unset, .unset, .unset, .unset, .unset, .unset, .unset] [(.int (0 : Int32)), (.ref v)])) _
    refine XS.iconst X13.here hx rfl (hb hby at_44) ?_
    show Steps p.tables e below (T13.setTop (mkF m 45 #[.val (.long x0), .second, .val (.long x1), .second, .val (.long x2), .second, .val (.long x3), .second, .val (.long x4), .second, .val (.int x5), .val (.ref v), .unset, .unset, .unset, .unset, .unset, .unset, .unset, .unset, .unset] [(.int (2 : Int32)), (.int (0 : Int32)), (.ref v)])) _
    refine st15 _ ?_
    show Steps p.tables e below (T15.setTop (mkF m 48 #[.val (.long x0), .second, .val (.long x1), .second, .val (.long x2), .second, .val (.long x3), .second, .val (.long x4), .second, .val (.int x5), .val (.ref v), .unset, .unset, .unset, .unset, .unset, .unset, .unset, .unset, .unset] [])) _
    refine XS.aload X15.here hx rfl (hb hby at_48) rfl rfl ?_
    show Steps p.tables e below (T15.setTop (mkF m 50 #[.val (.long x0), .second, .val (.long x1), .second, .val (.long x2), .second, .val (.long x3), .second, .val (.long x4), .second, .val (.int x5), .val (.ref v), .unset, .unset, .unset, .unset, .unset, .unset, .unset, .unset, .unset] [(.ref v)])) _
    refine XS.iconst X15.here hx rfl (hb hby at_50) ?_
    show Steps p.tables e below (T15.setTop (mkF m 51 #[.val (.long x0), .second, .val (.long x1), .second, .val (.long x2), .second, .val (.long x3), .second, .val (.long x4), .second, .val (.int x5), .val (.ref v), .unset, .unset, .unset, .unset, .unset, .unset, .unset, .unset, .unset] [(.int (1 : Int32)), (.ref v)])) _
    refine XS.iconst X15.here hx rfl (hb hby at_51) ?_
    show Steps p.tables e below (T15.setTop (mkF m 52 #[.val (.long x0), .second, .val (.long x1), .second, .val (.long x2), .second, .val (.long x3), .second, .val (.long x4), .second, .val (.int x5), .val (.ref v), .unset, .unset, .unset, .unset, .unset, .unset, .unset, .unset, .unset] [(.int (3 : Int32)), (.int (1 : Int32)), (.ref v)])) _
    refine st17 _ ?_
    show Steps p.tables e below (T17.setTop (mkF m 55 #[.val (.long x0), .second, .val (.long x1), .second, .val (.long x2), .second, .val (.long x3), .second, .val (.long x4), .second, .val (.int x5), .val (.ref v), .unset, .unset, .unset, .unset, .unset, .unset, .unset, .unset, .unset] [])) _
    refine XS.aload X17.here hx rfl (hb hby at_55) rfl rfl ?_
    show Steps p.tables e below (T17.setTop (mkF m 57 #[.val (.long x0), .second, .val (.long x1), .second, .val (.long x2), .second, .val (.long x3), .second, .val (.long x4), .second, .val (.int x5), .val (.ref v), .unset, .unset, .unset, .unset, .unset, .unset, .unset, .unset, .unset] [(.ref v)])) _
    refine XS.iconst X17.here hx rfl (hb hby at_57) ?_
    show Steps p.tables e below (T17.setTop (mkF m 58 #[.val (.long x0), .second, .val (.long x1), .second, .val (.long x2), .second, .val (.long x3), .second, .val (.long x4), .second, .val (.int x5), .val (.ref v), .unset, .unset, .unset, .unset, .unset, .unset, .unset, .unset, .unset] [(.int (1 : Int32)), (.ref v)])) _
    refine XS.iconst X17.here hx rfl (hb hby at_58) ?_
    show Steps p.tables e below (T17.setTop (mkF m 59 #[.val (.long x0), .second, .val (.long x1), .second, .val (.long x2), .second, .val (.long x3), .second, .val (.long x4), .second, .val (.int x5), .val (.ref v), .unset, .unset, .unset, .unset, .unset, .unset, .unset, .unset, .unset] [(.int (2 : Int32)), (.int (1 : Int32)), (.ref v)])) _
    refine st19 _ ?_
    show Steps p.tables e below (T19.setTop (mkF m 62 #[.val (.long x0), .second, .val (.long x1), .second, .val (.long x2), .second, .val (.long x3), .second, .val (.long x4), .second, .val (.int x5), .val (.ref v), .unset, .unset, .unset, .unset, .unset, .unset, .unset, .unset, .unset] [])) _
    refine XS.iload X19.here hx rfl (hb hby at_62) rfl ?_
    show Steps p.tables e below (T19.setTop (mkF m 64 #[.val (.long x0), .second, .val (.long x1), .second, .val (.long x2), .second, .val (.long x3), .second, .val (.long x4), .second, .val (.int x5), .val (.ref v), .unset, .unset, .unset, .unset, .unset, .unset, .unset, .unset, .unset] [(.int x5)])) _
    refine XS.iconst X19.here hx rfl (hb hby at_64) ?_
    show Steps p.tables e below (T19.setTop (mkF m 65 #[.val (.long x0), .second, .val (.long x1), .second, .val (.long x2), .second, .val (.long x3), .second, .val (.long x4), .second, .val (.int x5), .val (.ref v), .unset, .unset, .unset, .unset, .unset, .unset, .unset, .unset, .unset] [(.int (3 : Int32)), (.int x5)])) _
    refine XS.iushr X19.here hx rfl (hb hby at_65) rfl ?_
    show Steps p.tables e below (T19.setTop (mkF m 66 #[.val (.long x0), .second, .val (.long x1), .second, .val (.long x2), .second, .val (.long x3), .second, .val (.long x4), .second, .val (.int x5), .val (.ref v), .unset, .unset, .unset, .unset, .unset, .unset, .unset, .unset, .unset] [(.int ((x5.toUInt32 >>> ((3 : Int32) &&& 31).toUInt32).toInt32))])) _
    refine XS.iconst X19.here hx rfl (hb hby at_66) ?_
    show Steps p.tables e below (T19.setTop (mkF m 67 #[.val (.long x0), .second, .val (.long x1), .second, .val (.long x2), .second, .val (.long x3), .second, .val (.long x4), .second, .val (.int x5), .val (.ref v), .unset, .unset, .unset, .unset, .unset, .unset, .unset, .unset, .unset] [(.int (1 : Int32)), (.int ((x5.toUInt32 >>> ((3 : Int32) &&& 31).toUInt32).toInt32))])) _
    refine XS.iand X19.here hx rfl (hb hby at_67) rfl ?_
    show Steps p.tables e below (T19.setTop (mkF m 68 #[.val (.long x0), .second, .val (.long x1), .second, .val (.long x2), .second, .val (.long x3), .second, .val (.long x4), .second, .val (.int x5), .val (.ref v), .unset, .unset, .unset, .unset, .unset, .unset, .unset, .unset, .unset] [(.int (((x5.toUInt32 >>> ((3 : Int32) &&& 31).toUInt32).toInt32) &&& (1 : Int32)))])) _
    refine st21 _ ?_
    show Steps p.tables e below (T21.setTop (mkF m 79 #[.val (.long x0), .second, .val (.long x1), .second, .val (.long x2), .second, .val (.long x3), .second, .val (.long x4), .second, .val (.int x5), .val (.ref v), .unset, .unset, .unset, .unset, .unset, .unset, .unset, .unset, .unset] [])) _
    refine XS.iload X21.here hx rfl (hb hby at_79) rfl ?_
    show Steps p.tables e below (T21.setTop (mkF m 81 #[.val (.long x0), .second, .val (.long x1), .second, .val (.long x2), .second, .val (.long x3), .second, .val (.long x4), .second, .val (.int x5), .val (.ref v), .unset, .unset, .unset, .unset, .unset, .unset, .unset, .unset, .unset] [(.int x5)])) _
    refine XS.iconst X21.here hx rfl (hb hby at_81) ?_
    show Steps p.tables e below (T21.setTop (mkF m 82 #[.val (.long x0), .second, .val (.long x1), .second, .val (.long x2), .second, .val (.long x3), .second, .val (.long x4), .second, .val (.int x5), .val (.ref v), .unset, .unset, .unset, .unset, .unset, .unset, .unset, .unset, .unset] [(.int (4 : Int32)), (.int x5)])) _
    refine XS.iushr X21.here hx rfl (hb hby at_82) rfl ?_
    show Steps p.tables e below (T21.setTop (mkF m 83 #[.val (.long x0), .second, .val (.long x1), .second, .val (.long x2), .second, .val (.long x3), .second, .val (.long x4), .second, .val (.int x5), .val (.ref v), .unset, .unset, .unset, .unset, .unset, .unset, .unset, .unset, .unset] [(.int ((x5.toUInt32 >>> ((4 : Int32) &&& 31).toUInt32).toInt32))])) _
    refine XS.iconst X21.here hx rfl (hb hby at_83) ?_
    show Steps p.tables e below (T21.setTop (mkF m 84 #[.val (.long x0), .second, .val (.long x1), .second, .val (.long x2), .second, .val (.long x3), .second, .val (.long x4), .second, .val (.int x5), .val (.ref v), .unset, .unset, .unset, .unset, .unset, .unset, .unset, .unset, .unset] [(.int (1 : Int32)), (.int ((x5.toUInt32 >>> ((4 : Int32) &&& 31).toUInt32).toInt32))])) _
    refine XS.iand X21.here hx rfl (hb hby at_84) rfl ?_
    show Steps p.tables e below (T21.setTop (mkF m 85 #[.val (.long x0), .second, .val (.long x1), .second, .val (.long x2), .second, .val (.long x3), .second, .val (.long x4), .second, .val (.int x5), .val (.ref v), .unset, .unset, .unset, .unset, .unset, .unset, .unset, .unset, .unset] [(.int (((x5.toUInt32 >>> ((4 : Int32) &&& 31).toUInt32).toInt32) &&& (1 : Int32)))])) _
    refine st24 _ ?_
    show Steps p.tables e below (T24.setTop (mkF m 96 #[.val (.long x0), .second, .val (.long x1), .second, .val (.long x2), .second, .val (.long x3), .second, .val (.long x4), .second, .val (.int x5), .val (.ref v), .unset, .unset, .unset, .unset, .unset, .unset, .unset, .unset, .unset] [])) _
    refine XS.iload X24.here hx rfl (hb hby at_96) rfl ?_
    show Steps p.tables e below (T24.setTop (mkF m 98 #[.val (.long x0), .second, .val (.long x1), .second, .val (.long x2), .second, .val (.long x3), .second, .val (.long x4), .second, .val (.int x5), .val (.ref v), .unset, .unset, .unset, .unset, .unset, .unset, .unset, .unset, .unset] [(.int x5)])) _
    refine XS.iconst X24.here hx rfl (hb hby at_98) ?_
    show Steps p.tables e below (T24.setTop (mkF m 99 #[.val (.long x0), .second, .val (.long x1), .second, .val (.long x2), .second, .val (.long x3), .second, .val (.long x4), .second, .val (.int x5), .val (.ref v), .unset, .unset, .unset, .unset, .unset, .unset, .unset, .unset, .unset] [(.int (5 : Int32)), (.int x5)])) _
    refine XS.iushr X24.here hx rfl (hb hby at_99) rfl ?_
    show Steps p.tables e below (T24.setTop (mkF m 100 #[.val (.long x0), .second, .val (.long x1), .second, .val (.long x2), .second, .val (.long x3), .second, .val (.long x4), .second, .val (.int x5), .val (.ref v), .unset, .unset, .unset, .unset, .unset, .unset, .unset, .unset, .unset] [(.int ((x5.toUInt32 >>> ((5 : Int32) &&& 31).toUInt32).toInt32))])) _
    refine XS.iconst X24.here hx rfl (hb hby at_100) ?_
    show Steps p.tables e below (T24.setTop (mkF m 101 #[.val (.long x0), .second, .val (.long x1), .second, .val (.long x2), .second, .val (.long x3), .second, .val (.long x4), .second, .val (.int x5), .val (.ref v), .unset, .unset, .unset, .unset, .unset, .unset, .unset, .unset, .unset] [(.int (1 : Int32)), (.int ((x5.toUInt32 >>> ((5 : Int32) &&& 31).toUInt32).toInt32))])) _
    refine XS.iand X24.here hx rfl (hb hby at_101) rfl ?_
    show Steps p.tables e below (T24.setTop (mkF m 102 #[.val (.long x0), .second, .val (.long x1), .second, .val (.long x2), .second, .val (.long x3), .second, .val (.long x4), .second, .val (.int x5), .val (.ref v), .unset, .unset, .unset, .unset, .unset, .unset, .unset, .unset, .unset] [(.int (((x5.toUInt32 >>> ((5 : Int32) &&& 31).toUInt32).toInt32) &&& (1 : Int32)))])) _
    refine st27 _ ?_
    show Steps p.tables e below (T27.setTop (mkF m 113 #[.val (.long x0), .second, .val (.long x1), .second, .val (.long x2), .second, .val (.long x3), .second, .val (.long x4), .second, .val (.int x5), .val (.ref v), .unset, .unset, .unset, .unset, .unset, .unset, .unset, .unset, .unset] [])) _
    refine XS.iload X27.here hx rfl (hb hby at_113) rfl ?_
    show Steps p.tables e below (T27.setTop (mkF m 115 #[.val (.long x0), .second, .val (.long x1), .second, .val (.long x2), .second, .val (.long x3), .second, .val (.long x4), .second, .val (.int x5), .val (.ref v), .unset, .unset, .unset, .unset, .unset, .unset, .unset, .unset, .unset] [(.int x5)])) _
    refine XS.bipush X27.here hx rfl (hb hby at_115) ?_
    show Steps p.tables e below (T27.setTop (mkF m 117 #[.val (.long x0), .second, .val (.long x1), .second, .val (.long x2), .second, .val (.long x3), .second, .val (.long x4), .second, .val (.int x5), .val (.ref v), .unset, .unset, .unset, .unset, .unset, .unset, .unset, .unset, .unset] [(.int (7 : Int32)), (.int x5)])) _
    refine XS.iand X27.here hx rfl (hb hby at_117) rfl ?_
    show Steps p.tables e below (T27.setTop (mkF m 118 #[.val (.long x0), .second, .val (.long x1), .second, .val (.long x2), .second, .val (.long x3), .second, .val (.long x4), .second, .val (.int x5), .val (.ref v), .unset, .unset, .unset, .unset, .unset, .unset, .unset, .unset, .unset] [(.int (x5 &&& (7 : Int32)))])) _
    refine XS.iconst X27.here hx rfl (hb hby at_118) ?_
    show Steps p.tables e below (T27.setTop (mkF m 119 #[.val (.long x0), .second, .val (.long x1), .second, .val (.long x2), .second, .val (.long x3), .second, .val (.long x4), .second, .val (.int x5), .val (.ref v), .unset, .unset, .unset, .unset, .unset, .unset, .unset, .unset, .unset] [(.int (5 : Int32)), (.int (x5 &&& (7 : Int32)))])) _
    refine iremM X27 hx rfl (hb hby at_119) rfl (by decide) ?_
    show Steps p.tables e below (T27.setTop (mkF m 120 #[.val (.long x0), .second, .val (.long x1), .second, .val (.long x2), .second, .val (.long x3), .second, .val (.long x4), .second, .val (.int x5), .val (.ref v), .unset, .unset, .unset, .unset, .unset, .unset, .unset, .unset, .unset] [(.int ((x5 &&& (7 : Int32)) % (5 : Int32)))])) _
    rw [← e_ct]
    show Steps p.tables e below (T27.setTop (mkF m 120 #[.val (.long x0), .second, .val (.long x1), .second, .val (.long x2), .second, .val (.long x3), .second, .val (.long x4), .second, .val (.int x5), .val (.ref v), .unset, .unset, .unset, .unset, .unset, .unset, .unset, .unset, .unset] [(.int ct)])) _
    refine XS.istore X27.here hx rfl (hb hby at_120) rfl (l' := #[.val (.long x0), .second, .val (.long x1), .second, .val (.long x2), .second, .val (.long x3), .second, .val (.long x4), .second, .val (.int x5), .val (.ref v), .val (.int ct), .unset, .unset, .unset, .unset, .unset, .unset, .unset, .unset]) rfl ?_
    show Steps p.tables e below (T27.setTop (mkF m 122 #[.val (.long x0), .second, .val (.long x1), .second, .val (.long x2), .second, .val (.long x3), .second, .val (.long x4), .second, .val (.int x5), .val (.ref v), .val (.int ct), .unset, .unset, .unset, .unset, .unset, .unset, .unset, .unset] [])) _
    refine XS.iload X27.here hx rfl (hb hby at_122) rfl ?_
    show Steps p.tables e below (T27.setTop (mkF m 124 #[.val (.long x0), .second, .val (.long x1), .second, .val (.long x2), .second, .val (.long x3), .second, .val (.long x4), .second, .val (.int x5), .val (.ref v), .val (.int ct), .unset, .unset, .unset, .unset, .unset, .unset, .unset, .unset] [(.int x5)])) _
    refine XS.bipush X27.here hx rfl (hb hby at_124) ?_
    show Steps p.tables e below (T27.setTop (mkF m 126 #[.val (.long x0), .second, .val (.long x1), .second, .val (.long x2), .second, .val (.long x3), .second, .val (.long x4), .second, .val (.int x5), .val (.ref v), .val (.int ct), .unset, .unset, .unset, .unset, .unset, .unset, .unset, .unset] [(.int (6 : Int32)), (.int x5)])) _
    refine XS.iushr X27.here hx rfl (hb hby at_126) rfl ?_
    show Steps p.tables e below (T27.setTop (mkF m 127 #[.val (.long x0), .second, .val (.long x1), .second, .val (.long x2), .second, .val (.long x3), .second, .val (.long x4), .second, .val (.int x5), .val (.ref v), .val (.int ct), .unset, .unset, .unset, .unset, .unset, .unset, .unset, .unset] [(.int ((x5.toUInt32 >>> ((6 : Int32) &&& 31).toUInt32).toInt32))])) _
    refine XS.iconst X27.here hx rfl (hb hby at_127) ?_
    show Steps p.tables e below (T27.setTop (mkF m 128 #[.val (.long x0), .second, .val (.long x1), .second, .val (.long x2), .second, .val (.long x3), .second, .val (.long x4), .second, .val (.int x5), .val (.ref v), .val (.int ct), .unset, .unset, .unset, .unset, .unset, .unset, .unset, .unset] [(.int (3 : Int32)), (.int ((x5.toUInt32 >>> ((6 : Int32) &&& 31).toUInt32).toInt32))])) _
    refine XS.iand X27.here hx rfl (hb hby at_128) rfl ?_
    show Steps p.tables e below (T27.setTop (mkF m 129 #[.val (.long x0), .second, .val (.long x1), .second, .val (.long x2), .second, .val (.long x3), .second, .val (.long x4), .second, .val (.int x5), .val (.ref v), .val (.int ct), .unset, .unset, .unset, .unset, .unset, .unset, .unset, .unset] [(.int (((x5.toUInt32 >>> ((6 : Int32) &&& 31).toUInt32).toInt32) &&& (3 : Int32)))])) _
    rw [← e_md]
    show Steps p.tables e below (T27.setTop (mkF m 129 #[.val (.long x0), .second, .val (.long x1), .second, .val (.long x2), .second, .val (.long x3), .second, .val (.long x4), .second, .val (.int x5), .val (.ref v), .val (.int ct), .unset, .unset, .unset, .unset, .unset, .unset, .unset, .unset] [(.int md)])) _
    refine XS.istore X27.here hx rfl (hb hby at_129) rfl (l' := #[.val (.long x0), .second, .val (.long x1), .second, .val (.long x2), .second, .val (.long x3), .second, .val (.long x4), .second, .val (.int x5), .val (.ref v), .val (.int ct), .val (.int md), .unset, .unset, .unset, .unset, .unset, .unset, .unset]) rfl ?_
    show Steps p.tables e below (T27.setTop (mkF m 131 #[.val (.long x0), .second, .val (.long x1), .second, .val (.long x2), .second, .val (.long x3), .second, .val (.long x4), .second, .val (.int x5), .val (.ref v), .val (.int ct), .val (.int md), .unset, .unset, .unset, .unset, .unset, .unset, .unset] [])) _
    refine XS.iload X27.here hx rfl (hb hby at_131) rfl ?_
    show Steps p.tables e below (T27.setTop (mkF m 133 #[.val (.long x0), .second, .val (.long x1), .second, .val (.long x2), .second, .val (.long x3), .second, .val (.long x4), .second, .val (.int x5), .val (.ref v), .val (.int ct), .val (.int md), .unset, .unset, .unset, .unset, .unset, .unset, .unset] [(.int x5)])) _
    refine XS.bipush X27.here hx rfl (hb hby at_133) ?_
    show Steps p.tables e below (T27.setTop (mkF m 135 #[.val (.long x0), .second, .val (.long x1), .second, .val (.long x2), .second, .val (.long x3), .second, .val (.long x4), .second, .val (.int x5), .val (.ref v), .val (.int ct), .val (.int md), .unset, .unset, .unset, .unset, .unset, .unset, .unset] [(.int (8 : Int32)), (.int x5)])) _
    refine XS.iushr X27.here hx rfl (hb hby at_135) rfl ?_
    show Steps p.tables e below (T27.setTop (mkF m 136 #[.val (.long x0), .second, .val (.long x1), .second, .val (.long x2), .second, .val (.long x3), .second, .val (.long x4), .second, .val (.int x5), .val (.ref v), .val (.int ct), .val (.int md), .unset, .unset, .unset, .unset, .unset, .unset, .unset] [(.int ((x5.toUInt32 >>> ((8 : Int32) &&& 31).toUInt32).toInt32))])) _
    refine XS.iconst X27.here hx rfl (hb hby at_136) ?_
    show Steps p.tables e below (T27.setTop (mkF m 137 #[.val (.long x0), .second, .val (.long x1), .second, .val (.long x2), .second, .val (.long x3), .second, .val (.long x4), .second, .val (.int x5), .val (.ref v), .val (.int ct), .val (.int md), .unset, .unset, .unset, .unset, .unset, .unset, .unset] [(.int (3 : Int32)), (.int ((x5.toUInt32 >>> ((8 : Int32) &&& 31).toUInt32).toInt32))])) _
    refine XS.iand X27.here hx rfl (hb hby at_137) rfl ?_
    show Steps p.tables e below (T27.setTop (mkF m 138 #[.val (.long x0), .second, .val (.long x1), .second, .val (.long x2), .second, .val (.long x3), .second, .val (.long x4), .second, .val (.int x5), .val (.ref v), .val (.int ct), .val (.int md), .unset, .unset, .unset, .unset, .unset, .unset, .unset] [(.int (((x5.toUInt32 >>> ((8 : Int32) &&& 31).toUInt32).toInt32) &&& (3 : Int32)))])) _
    rw [← e_ki]
    show Steps p.tables e below (T27.setTop (mkF m 138 #[.val (.long x0), .second, .val (.long x1), .second, .val (.long x2), .second, .val (.long x3), .second, .val (.long x4), .second, .val (.int x5), .val (.ref v), .val (.int ct), .val (.int md), .unset, .unset, .unset, .unset, .unset, .unset, .unset] [(.int ki)])) _
    refine XS.istore X27.here hx rfl (hb hby at_138) rfl (l' := #[.val (.long x0), .second, .val (.long x1), .second, .val (.long x2), .second, .val (.long x3), .second, .val (.long x4), .second, .val (.int x5), .val (.ref v), .val (.int ct), .val (.int md), .val (.int ki), .unset, .unset, .unset, .unset, .unset, .unset]) rfl ?_
    show Steps p.tables e below (T27.setTop (mkF m 140 #[.val (.long x0), .second, .val (.long x1), .second, .val (.long x2), .second, .val (.long x3), .second, .val (.long x4), .second, .val (.int x5), .val (.ref v), .val (.int ct), .val (.int md), .val (.int ki), .unset, .unset, .unset, .unset, .unset, .unset] [])) _
    refine XS.lload X27.here hx rfl (hb hby at_140) rfl ?_
    show Steps p.tables e below (T27.setTop (mkF m 142 #[.val (.long x0), .second, .val (.long x1), .second, .val (.long x2), .second, .val (.long x3), .second, .val (.long x4), .second, .val (.int x5), .val (.ref v), .val (.int ct), .val (.int md), .val (.int ki), .unset, .unset, .unset, .unset, .unset, .unset] [(.long x4)])) _
    refine XS.lstore X27.here hx rfl (hb hby at_142) rfl (l' := #[.val (.long x0), .second, .val (.long x1), .second, .val (.long x2), .second, .val (.long x3), .second, .val (.long x4), .second, .val (.int x5), .val (.ref v), .val (.int ct), .val (.int md), .val (.int ki), .val (.long x4), .second, .unset, .unset, .unset, .unset]) rfl ?_
    show Steps p.tables e below (T27.setTop (mkF m 144 #[.val (.long x0), .second, .val (.long x1), .second, .val (.long x2), .second, .val (.long x3), .second, .val (.long x4), .second, .val (.int x5), .val (.ref v), .val (.int ct), .val (.int md), .val (.int ki), .val (.long x4), .second, .unset, .unset, .unset, .unset] [])) _
    refine XS.iload X27.here hx rfl (hb hby at_144) rfl ?_
    show Steps p.tables e below (T27.setTop (mkF m 146 #[.val (.long x0), .second, .val (.long x1), .second, .val (.long x2), .second, .val (.long x3), .second, .val (.long x4), .second, .val (.int x5), .val (.ref v), .val (.int ct), .val (.int md), .val (.int ki), .val (.long x4), .second, .unset, .unset, .unset, .unset] [(.int md)])) _
    refine XS.iconst X27.here hx rfl (hb hby at_146) ?_
    show Steps p.tables e below (T27.setTop (mkF m 147 #[.val (.long x0), .second, .val (.long x1), .second, .val (.long x2), .second, .val (.long x3), .second, .val (.long x4), .second, .val (.int x5), .val (.ref v), .val (.int ct), .val (.int md), .val (.int ki), .val (.long x4), .second, .unset, .unset, .unset, .unset] [(.int (1 : Int32)), (.int md)])) _
    have k30 : ∀ (m30_l15 : Int64) t, (md = (1 : Int32) → m30_l15 = (own_get ki p15 m21_V_v_1 m24_V_v_2 m27_V_v_3)) → (¬ (md = (1 : Int32)) → m30_l15 = m31_l15) → Steps p.tables e below (T27.setTop (mkF m 175 #[.val (.long x0), .second, .val (.long x1), .second, .val (.long x2), .second, .val (.long x3), .second, .val (.long x4), .second, .val (.int x5), .val (.ref v), .val (.int ct), .val (.int md), .val (.int ki), .val (.long m30_l15), .second, .unset, .unset, .unset, .unset] [])) t → Steps p.tables e below (T27.setTop (mkF m 147 #[.val (.long x0), .second, .val (.long x1), .second, .val (.long x2), .second, .val (.long x3), .second, .val (.long x4), .second, .val (.int x5), .val (.ref v), .val (.int ct), .val (.int md), .val (.int ki), .val (.long x4), .second, .unset, .unset, .unset, .unset] [(.int (1 : Int32)), (.int md)])) t := by
      intro m30_l15 t hAm30_l15 hBm30_l15 kk
      by_cases hq147 : md = (1 : Int32)
      · rw [hAm30_l15 hq147] at kk
        refine XS.icmpNo X27.here hx rfl (hb hby at_147) rfl (teq hq147).2 ?_
        show Steps p.tables e below (T27.setTop (mkF m 150 #[.val (.long x0), .second, .val (.long x1), .second, .val (.long x2), .second, .val (.long x3), .second, .val (.long x4), .second, .val (.int x5), .val (.ref v), .val (.int ct), .val (.int md), .val (.int ki), .val (.long x4), .second, .unset, .unset, .unset, .unset] [])) _
        refine XS.aload X27.here hx rfl (hb hby at_150) rfl rfl ?_
        show Steps p.tables e below (T27.setTop (mkF m 152 #[.val (.long x0), .second, .val (.long x1), .second, .val (.long x2), .second, .val (.long x3), .second, .val (.long x4), .second, .val (.int x5), .val (.ref v), .val (.int ct), .val (.int md), .val (.int ki), .val (.long x4), .second, .unset, .unset, .unset, .unset] [(.ref v)])) _
        refine XS.iload X27.here hx rfl (hb hby at_152) rfl ?_
        show Steps p.tables e below (T27.setTop (mkF m 154 #[.val (.long x0), .second, .val (.long x1), .second, .val (.long x2), .second, .val (.long x3), .second, .val (.long x4), .second, .val (.int x5), .val (.ref v), .val (.int ct), .val (.int md), .val (.int ki), .val (.long x4), .second, .unset, .unset, .unset, .unset] [(.int ki), (.ref v)])) _
        refine own_ldJ X27 hx hZ e27 V_v_27 (j := ki) (w := (own_get ki p15 m21_V_v_1 m24_V_v_2 m27_V_v_3)) (own_getv ki p15 m21_V_v_1 m24_V_v_2 m27_V_v_3 hki).1 (own_getv ki p15 m21_V_v_1 m24_V_v_2 m27_V_v_3 hki).2 (g := (mkF m 154 #[.val (.long x0), .second, .val (.long x1), .second, .val (.long x2), .second, .val (.long x3), .second, .val (.long x4), .second, .val (.int x5), .val (.ref v), .val (.int ct), .val (.int md), .val (.int ki), .val (.long x4), .second, .unset, .unset, .unset, .unset] [(.int ki), (.ref v)])) rfl rfl (hb hby at_154) ?_
        show Steps p.tables e below (T27.setTop (mkF m 155 #[.val (.long x0), .second, .val (.long x1), .second, .val (.long x2), .second, .val (.long x3), .second, .val (.long x4), .second, .val (.int x5), .val (.ref v), .val (.int ct), .val (.int md), .val (.int ki), .val (.long x4), .second, .unset, .unset, .unset, .unset] [(.long (own_get ki p15 m21_V_v_1 m24_V_v_2 m27_V_v_3))])) _
        refine XS.lstore X27.here hx rfl (hb hby at_155) rfl (l' := #[.val (.long x0), .second, .val (.long x1), .second, .val (.long x2), .second, .val (.long x3), .second, .val (.long x4), .second, .val (.int x5), .val (.ref v), .val (.int ct), .val (.int md), .val (.int ki), .val (.long (own_get ki p15 m21_V_v_1 m24_V_v_2 m27_V_v_3)), .second, .unset, .unset, .unset, .unset]) rfl ?_
        show Steps p.tables e below (T27.setTop (mkF m 157 #[.val (.long x0), .second, .val (.long x1), .second, .val (.long x2), .second, .val (.long x3), .second, .val (.long x4), .second, .val (.int x5), .val (.ref v), .val (.int ct), .val (.int md), .val (.int ki), .val (.long (own_get ki p15 m21_V_v_1 m24_V_v_2 m27_V_v_3)), .second, .unset, .unset, .unset, .unset] [])) _
        refine XS.goto X27.here hx rfl (pc0 := 157) (pc' := 175) rfl (hb hby at_157) (by decide) (by decide) ?_
        exact kk
      · rw [hBm30_l15 hq147] at kk
        refine XS.icmpYes X27.here hx rfl (pc0 := 147) (pc' := 160) rfl (hb hby at_147) rfl (feq hq147).2 (by decide) (by decide) ?_
        show Steps p.tables e below (T27.setTop (mkF m 160 #[.val (.long x0), .second, .val (.long x1), .second, .val (.long x2), .second, .val (.long x3), .second, .val (.long x4), .second, .val (.int x5), .val (.ref v), .val (.int ct), .val (.int md), .val (.int ki), .val (.long x4), .second, .unset, .unset, .unset, .unset] [])) _
        refine XS.iload X27.here hx rfl (hb hby at_160) rfl ?_
        show Steps p.tables e below (T27.setTop (mkF m 162 #[.val (.long x0), .second, .val (.long x1), .second, .val (.long x2), .second, .val (.long x3), .second, .val (.long x4), .second, .val (.int x5), .val (.ref v), .val (.int ct), .val (.int md), .val (.int ki), .val (.long x4), .second, .unset, .unset, .unset, .unset] [(.int md)])) _
        refine XS.iconst X27.here hx rfl (hb hby at_162) ?_
        show Steps p.tables e below (T27.setTop (mkF m 163 #[.val (.long x0), .second, .val (.long x1), .second, .val (.long x2), .second, .val (.long x3), .second, .val (.long x4), .second, .val (.int x5), .val (.ref v), .val (.int ct), .val (.int md), .val (.int ki), .val (.long x4), .second, .unset, .unset, .unset, .unset] [(.int (2 : Int32)), (.int md)])) _
        have k31 : ∀ (m31_l15 : Int64) t, (md = (2 : Int32) → m31_l15 = ((own_get ki p15 m21_V_v_1 m24_V_v_2 m27_V_v_3) - (1 : Int64))) → (¬ (md = (2 : Int32)) → m31_l15 = x4) → Steps p.tables e below (T27.setTop (mkF m 175 #[.val (.long x0), .second, .val (.long x1), .second, .val (.long x2), .second, .val (.long x3), .second, .val (.long x4), .second, .val (.int x5), .val (.ref v), .val (.int ct), .val (.int md), .val (.int ki), .val (.long m31_l15), .second, .unset, .unset, .unset, .unset] [])) t → Steps p.tables e below (T27.setTop (mkF m 163 #[.val (.long x0), .second, .val (.long x1), .second, .val (.long x2), .second, .val (.long x3), .second, .val (.long x4), .second, .val (.int x5), .val (.ref v), .val (.int ct), .val (.int md), .val (.int ki), .val (.long x4), .second, .unset, .unset, .unset, .unset] [(.int (2 : Int32)), (.int md)])) t := by
          intro m31_l15 t hAm31_l15 hBm31_l15 kk
          by_cases hq163 : md = (2 : Int32)
          · rw [hAm31_l15 hq163] at kk
            refine XS.icmpNo X27.here hx rfl (hb hby at_163) rfl (teq hq163).2 ?_
            show Steps p.tables e below (T27.setTop (mkF m 166 #[.val (.long x0), .second, .val (.long x1), .second, .val (.long x2), .second, .val (.long x3), .second, .val (.long x4), .second, .val (.int x5), .val (.ref v), .val (.int ct), .val (.int md), .val (.int ki), .val (.long x4), .second, .unset, .unset, .unset, .unset] [])) _
            refine XS.aload X27.here hx rfl (hb hby at_166) rfl rfl ?_
            show Steps p.tables e below (T27.setTop (mkF m 168 #[.val (.long x0), .second, .val (.long x1), .second, .val (.long x2), .second, .val (.long x3), .second, .val (.long x4), .second, .val (.int x5), .val (.ref v), .val (.int ct), .val (.int md), .val (.int ki), .val (.long x4), .second, .unset, .unset, .unset, .unset] [(.ref v)])) _
            refine XS.iload X27.here hx rfl (hb hby at_168) rfl ?_
            show Steps p.tables e below (T27.setTop (mkF m 170 #[.val (.long x0), .second, .val (.long x1), .second, .val (.long x2), .second, .val (.long x3), .second, .val (.long x4), .second, .val (.int x5), .val (.ref v), .val (.int ct), .val (.int md), .val (.int ki), .val (.long x4), .second, .unset, .unset, .unset, .unset] [(.int ki), (.ref v)])) _
            refine own_ldJ X27 hx hZ e27 V_v_27 (j := ki) (w := (own_get ki p15 m21_V_v_1 m24_V_v_2 m27_V_v_3)) (own_getv ki p15 m21_V_v_1 m24_V_v_2 m27_V_v_3 hki).1 (own_getv ki p15 m21_V_v_1 m24_V_v_2 m27_V_v_3 hki).2 (g := (mkF m 170 #[.val (.long x0), .second, .val (.long x1), .second, .val (.long x2), .second, .val (.long x3), .second, .val (.long x4), .second, .val (.int x5), .val (.ref v), .val (.int ct), .val (.int md), .val (.int ki), .val (.long x4), .second, .unset, .unset, .unset, .unset] [(.int ki), (.ref v)])) rfl rfl (hb hby at_170) ?_
            show Steps p.tables e below (T27.setTop (mkF m 171 #[.val (.long x0), .second, .val (.long x1), .second, .val (.long x2), .second, .val (.long x3), .second, .val (.long x4), .second, .val (.int x5), .val (.ref v), .val (.int ct), .val (.int md), .val (.int ki), .val (.long x4), .second, .unset, .unset, .unset, .unset] [(.long (own_get ki p15 m21_V_v_1 m24_V_v_2 m27_V_v_3))])) _
            refine XS.lconst X27.here hx rfl (hb hby at_171) ?_
            show Steps p.tables e below (T27.setTop (mkF m 172 #[.val (.long x0), .second, .val (.long x1), .second, .val (.long x2), .second, .val (.long x3), .second, .val (.long x4), .second, .val (.int x5), .val (.ref v), .val (.int ct), .val (.int md), .val (.int ki), .val (.long x4), .second, .unset, .unset, .unset, .unset] [(.long (1 : Int64)), (.long (own_get ki p15 m21_V_v_1 m24_V_v_2 m27_V_v_3))])) _
            refine XS.lsub X27.here hx rfl (hb hby at_172) rfl ?_
            show Steps p.tables e below (T27.setTop (mkF m 173 #[.val (.long x0), .second, .val (.long x1), .second, .val (.long x2), .second, .val (.long x3), .second, .val (.long x4), .second, .val (.int x5), .val (.ref v), .val (.int ct), .val (.int md), .val (.int ki), .val (.long x4), .second, .unset, .unset, .unset, .unset] [(.long ((own_get ki p15 m21_V_v_1 m24_V_v_2 m27_V_v_3) - (1 : Int64)))])) _
            refine XS.lstore X27.here hx rfl (hb hby at_173) rfl (l' := #[.val (.long x0), .second, .val (.long x1), .second, .val (.long x2), .second, .val (.long x3), .second, .val (.long x4), .second, .val (.int x5), .val (.ref v), .val (.int ct), .val (.int md), .val (.int ki), .val (.long ((own_get ki p15 m21_V_v_1 m24_V_v_2 m27_V_v_3) - (1 : Int64))), .second, .unset, .unset, .unset, .unset]) rfl ?_
            exact kk
          · rw [hBm31_l15 hq163] at kk
            refine XS.icmpYes X27.here hx rfl (pc0 := 163) (pc' := 175) rfl (hb hby at_163) rfl (feq hq163).2 (by decide) (by decide) ?_
            exact kk
        refine k31 m31_l15 _ (fun h => by rw [em31_l15, if_pos h]) (fun h => by rw [em31_l15, if_neg h]) ?_
        exact kk
    refine k30 m30_l15 _ (fun h => by rw [em30_l15, if_pos h]) (fun h => by rw [em30_l15, if_neg h]) ?_
    show Steps p.tables e below (T27.setTop (mkF m 175 #[.val (.long x0), .second, .val (.long x1), .second, .val (.long x2), .second, .val (.long x3), .second, .val (.long x4), .second, .val (.int x5), .val (.ref v), .val (.int ct), .val (.int md), .val (.int ki), .val (.long m30_l15), .second, .unset, .unset, .unset, .unset] [])) _
    refine XS.iload X27.here hx rfl (hb hby at_175) rfl ?_
    show Steps p.tables e below (T27.setTop (mkF m 177 #[.val (.long x0), .second, .val (.long x1), .second, .val (.long x2), .second, .val (.long x3), .second, .val (.long x4), .second, .val (.int x5), .val (.ref v), .val (.int ct), .val (.int md), .val (.int ki), .val (.long m30_l15), .second, .unset, .unset, .unset, .unset] [(.int x5)])) _
    refine XS.bipush X27.here hx rfl (hb hby at_177) ?_
    show Steps p.tables e below (T27.setTop (mkF m 179 #[.val (.long x0), .second, .val (.long x1), .second, .val (.long x2), .second, .val (.long x3), .second, .val (.long x4), .second, .val (.int x5), .val (.ref v), .val (.int ct), .val (.int md), .val (.int ki), .val (.long m30_l15), .second, .unset, .unset, .unset, .unset] [(.int (10 : Int32)), (.int x5)])) _
    refine XS.iushr X27.here hx rfl (hb hby at_179) rfl ?_
    show Steps p.tables e below (T27.setTop (mkF m 180 #[.val (.long x0), .second, .val (.long x1), .second, .val (.long x2), .second, .val (.long x3), .second, .val (.long x4), .second, .val (.int x5), .val (.ref v), .val (.int ct), .val (.int md), .val (.int ki), .val (.long m30_l15), .second, .unset, .unset, .unset, .unset] [(.int ((x5.toUInt32 >>> ((10 : Int32) &&& 31).toUInt32).toInt32))])) _
    refine XS.iconst X27.here hx rfl (hb hby at_180) ?_
    show Steps p.tables e below (T27.setTop (mkF m 181 #[.val (.long x0), .second, .val (.long x1), .second, .val (.long x2), .second, .val (.long x3), .second, .val (.long x4), .second, .val (.int x5), .val (.ref v), .val (.int ct), .val (.int md), .val (.int ki), .val (.long m30_l15), .second, .unset, .unset, .unset, .unset] [(.int (1 : Int32)), (.int ((x5.toUInt32 >>> ((10 : Int32) &&& 31).toUInt32).toInt32))])) _
    refine XS.iand X27.here hx rfl (hb hby at_181) rfl ?_
    show Steps p.tables e below (T27.setTop (mkF m 182 #[.val (.long x0), .second, .val (.long x1), .second, .val (.long x2), .second, .val (.long x3), .second, .val (.long x4), .second, .val (.int x5), .val (.ref v), .val (.int ct), .val (.int md), .val (.int ki), .val (.long m30_l15), .second, .unset, .unset, .unset, .unset] [(.int (((x5.toUInt32 >>> ((10 : Int32) &&& 31).toUInt32).toInt32) &&& (1 : Int32)))])) _
    have k32 : ∀ (m32_s0 : Int64) t, ((((x5.toUInt32 >>> ((10 : Int32) &&& 31).toUInt32).toInt32) &&& (1 : Int32)) = (0 : Int32) → m32_s0 = (-9223372036854775808 : Int64)) → (¬ ((((x5.toUInt32 >>> ((10 : Int32) &&& 31).toUInt32).toInt32) &&& (1 : Int32)) = (0 : Int32)) → m32_s0 = (9223372036854775807 : Int64)) → Steps p.tables e below (T27.setTop (mkF m 194 #[.val (.long x0), .second, .val (.long x1), .second, .val (.long x2), .second, .val (.long x3), .second, .val (.long x4), .second, .val (.int x5), .val (.ref v), .val (.int ct), .val (.int md), .val (.int ki), .val (.long m30_l15), .second, .unset, .unset, .unset, .unset] [(.long m32_s0)])) t → Steps p.tables e below (T27.setTop (mkF m 182 #[.val (.long x0), .second, .val (.long x1), .second, .val (.long x2), .second, .val (.long x3), .second, .val (.long x4), .second, .val (.int x5), .val (.ref v), .val (.int ct), .val (.int md), .val (.int ki), .val (.long m30_l15), .second, .unset, .unset, .unset, .unset] [(.int (((x5.toUInt32 >>> ((10 : Int32) &&& 31).toUInt32).toInt32) &&& (1 : Int32)))])) t := by
      intro m32_s0 t hAm32_s0 hBm32_s0 kk
      by_cases hq182 : (((x5.toUInt32 >>> ((10 : Int32) &&& 31).toUInt32).toInt32) &&& (1 : Int32)) = (0 : Int32)
      · rw [hAm32_s0 hq182] at kk
        refine XS.ifYes X27.here hx rfl (pc0 := 182) (pc' := 191) rfl (hb hby at_182) rfl ((if0 _ _).trans (teq hq182).1) (by decide) (by decide) ?_
        show Steps p.tables e below (T27.setTop (mkF m 191 #[.val (.long x0), .second, .val (.long x1), .second, .val (.long x2), .second, .val (.long x3), .second, .val (.long x4), .second, .val (.int x5), .val (.ref v), .val (.int ct), .val (.int md), .val (.int ki), .val (.long m30_l15), .second, .unset, .unset, .unset, .unset] [])) _
        refine X27.ldc2Long hx hown (mvT hZ (hw _ (List.mem_of_getElem? (i := 5) rfl))) (g := (mkF m 191 #[.val (.long x0), .second, .val (.long x1), .second, .val (.long x2), .second, .val (.long x3), .second, .val (.long x4), .second, .val (.int x5), .val (.ref v), .val (.int ct), .val (.int md), .val (.int ki), .val (.long m30_l15), .second, .unset, .unset, .unset, .unset] [])) rfl (hb hby at_191) _ ?_
        exact kk
      · rw [hBm32_s0 hq182] at kk
        refine XS.ifNo X27.here hx rfl (hb hby at_182) rfl ((if0 _ _).trans (feq hq182).1) ?_
        show Steps p.tables e below (T27.setTop (mkF m 185 #[.val (.long x0), .second, .val (.long x1), .second, .val (.long x2), .second, .val (.long x3), .second, .val (.long x4), .second, .val (.int x5), .val (.ref v), .val (.int ct), .val (.int md), .val (.int ki), .val (.long m30_l15), .second, .unset, .unset, .unset, .unset] [])) _
        refine X27.ldc2Long hx hown (mvT hZ (hw _ (List.mem_of_getElem? (i := 13) rfl))) (g := (mkF m 185 #[.val (.long x0), .second, .val (.long x1), .second, .val (.long x2), .second, .val (.long x3), .second, .val (.long x4), .second, .val (.int x5), .val (.ref v), .val (.int ct), .val (.int md), .val (.int ki), .val (.long m30_l15), .second, .unset, .unset, .unset, .unset] [])) rfl (hb hby at_185) _ ?_
        show Steps p.tables e below (T27.setTop (mkF m 188 #[.val (.long x0), .second, .val (.long x1), .second, .val (.long x2), .second, .val (.long x3), .second, .val (.long x4), .second, .val (.int x5), .val (.ref v), .val (.int ct), .val (.int md), .val (.int ki), .val (.long m30_l15), .second, .unset, .unset, .unset, .unset] [(.long (9223372036854775807 : Int64))])) _
        refine XS.goto X27.here hx rfl (pc0 := 188) (pc' := 194) rfl (hb hby at_188) (by decide) (by decide) ?_
        exact kk
    refine k32 m32_s0 _ (fun h => by rw [em32_s0, if_pos h]) (fun h => by rw [em32_s0, if_neg h]) ?_
    show Steps p.tables e below (T27.setTop (mkF m 194 #[.val (.long x0), .second, .val (.long x1), .second, .val (.long x2), .second, .val (.long x3), .second, .val (.long x4), .second, .val (.int x5), .val (.ref v), .val (.int ct), .val (.int md), .val (.int ki), .val (.long m30_l15), .second, .unset, .unset, .unset, .unset] [(.long m32_s0)])) _
    refine XS.lstore X27.here hx rfl (hb hby at_194) rfl (l' := #[.val (.long x0), .second, .val (.long x1), .second, .val (.long x2), .second, .val (.long x3), .second, .val (.long x4), .second, .val (.int x5), .val (.ref v), .val (.int ct), .val (.int md), .val (.int ki), .val (.long m30_l15), .second, .val (.long m32_s0), .second, .unset, .unset]) rfl ?_
    show Steps p.tables e below (T27.setTop (mkF m 196 #[.val (.long x0), .second, .val (.long x1), .second, .val (.long x2), .second, .val (.long x3), .second, .val (.long x4), .second, .val (.int x5), .val (.ref v), .val (.int ct), .val (.int md), .val (.int ki), .val (.long m30_l15), .second, .val (.long m32_s0), .second, .unset, .unset] [])) _
    refine XS.iconst X27.here hx rfl (hb hby at_196) ?_
    show Steps p.tables e below (T27.setTop (mkF m 197 #[.val (.long x0), .second, .val (.long x1), .second, .val (.long x2), .second, .val (.long x3), .second, .val (.long x4), .second, .val (.int x5), .val (.ref v), .val (.int ct), .val (.int md), .val (.int ki), .val (.long m30_l15), .second, .val (.long m32_s0), .second, .unset, .unset] [(.int (4 : Int32))])) _
    refine st33 _ ?_
    show Steps p.tables e below (T33.setTop (mkF m 199 #[.val (.long x0), .second, .val (.long x1), .second, .val (.long x2), .second, .val (.long x3), .second, .val (.long x4), .second, .val (.int x5), .val (.ref v), .val (.int ct), .val (.int md), .val (.int ki), .val (.long m30_l15), .second, .val (.long m32_s0), .second, .unset, .unset] [(.ref bw)])) _
    refine XS.astore X33.here hx rfl (hb hby at_199) rfl rfl (l' := #[.val (.long x0), .second, .val (.long x1), .second, .val (.long x2), .second, .val (.long x3), .second, .val (.long x4), .second, .val (.int x5), .val (.ref v), .val (.int ct), .val (.int md), .val (.int ki), .val (.long m30_l15), .second, .val (.long m32_s0), .second, .val (.ref bw), .unset]) rfl ?_
    show Steps p.tables e below (T33.setTop (mkF m 201 #[.val (.long x0), .second, .val (.long x1), .second, .val (.long x2), .second, .val (.long x3), .second, .val (.long x4), .second, .val (.int x5), .val (.ref v), .val (.int ct), .val (.int md), .val (.int ki), .val (.long m30_l15), .second, .val (.long m32_s0), .second, .val (.ref bw), .unset] [])) _
    refine XS.aload X33.here hx rfl (hb hby at_201) rfl rfl ?_
    show Steps p.tables e below (T33.setTop (mkF m 203 #[.val (.long x0), .second, .val (.long x1), .second, .val (.long x2), .second, .val (.long x3), .second, .val (.long x4), .second, .val (.int x5), .val (.ref v), .val (.int ct), .val (.int md), .val (.int ki), .val (.long m30_l15), .second, .val (.long m32_s0), .second, .val (.ref bw), .unset] [(.ref bw)])) _
    refine XS.iconst X33.here hx rfl (hb hby at_203) ?_
    show Steps p.tables e below (T33.setTop (mkF m 204 #[.val (.long x0), .second, .val (.long x1), .second, .val (.long x2), .second, .val (.long x3), .second, .val (.long x4), .second, .val (.int x5), .val (.ref v), .val (.int ct), .val (.int md), .val (.int ki), .val (.long m30_l15), .second, .val (.long m32_s0), .second, .val (.ref bw), .unset] [(.int (0 : Int32)), (.ref bw)])) _
    refine XS.iload X33.here hx rfl (hb hby at_204) rfl ?_
    show Steps p.tables e below (T33.setTop (mkF m 206 #[.val (.long x0), .second, .val (.long x1), .second, .val (.long x2), .second, .val (.long x3), .second, .val (.long x4), .second, .val (.int x5), .val (.ref v), .val (.int ct), .val (.int md), .val (.int ki), .val (.long m30_l15), .second, .val (.long m32_s0), .second, .val (.ref bw), .unset] [(.int ct), (.int (0 : Int32)), (.ref bw)])) _
    have k35 : ∀ (m35_s0 : Int64) t, ((0 : Int32) < ct → m35_s0 = p15) → (¬ ((0 : Int32) < ct) → m35_s0 = m32_s0) → Steps p.tables e below (T33.setTop (mkF m 218 #[.val (.long x0), .second, .val (.long x1), .second, .val (.long x2), .second, .val (.long x3), .second, .val (.long x4), .second, .val (.int x5), .val (.ref v), .val (.int ct), .val (.int md), .val (.int ki), .val (.long m30_l15), .second, .val (.long m32_s0), .second, .val (.ref bw), .unset] [(.long m35_s0), (.int (0 : Int32)), (.ref bw)])) t → Steps p.tables e below (T33.setTop (mkF m 206 #[.val (.long x0), .second, .val (.long x1), .second, .val (.long x2), .second, .val (.long x3), .second, .val (.long x4), .second, .val (.int x5), .val (.ref v), .val (.int ct), .val (.int md), .val (.int ki), .val (.long m30_l15), .second, .val (.long m32_s0), .second, .val (.ref bw), .unset] [(.int ct), (.int (0 : Int32)), (.ref bw)])) t := by
      intro m35_s0 t hAm35_s0 hBm35_s0 kk
      by_cases hq206 : (0 : Int32) < ct
      · rw [hAm35_s0 hq206] at kk
        refine XS.ifNo X33.here hx rfl (hb hby at_206) rfl ((if0 _ _).trans (tlt hq206).2.2.2) ?_
        show Steps p.tables e below (T33.setTop (mkF m 209 #[.val (.long x0), .second, .val (.long x1), .second, .val (.long x2), .second, .val (.long x3), .second, .val (.long x4), .second, .val (.int x5), .val (.ref v), .val (.int ct), .val (.int md), .val (.int ki), .val (.long m30_l15), .second, .val (.long m32_s0), .second, .val (.ref bw), .unset] [(.int (0 : Int32)), (.ref bw)])) _
        refine XS.aload X33.here hx rfl (hb hby at_209) rfl rfl ?_
        show Steps p.tables e below (T33.setTop (mkF m 211 #[.val (.long x0), .second, .val (.long x1), .second, .val (.long x2), .second, .val (.long x3), .second, .val (.long x4), .second, .val (.int x5), .val (.ref v), .val (.int ct), .val (.int md), .val (.int ki), .val (.long m30_l15), .second, .val (.long m32_s0), .second, .val (.ref bw), .unset] [(.ref v), (.int (0 : Int32)), (.ref bw)])) _
        refine XS.iconst X33.here hx rfl (hb hby at_211) ?_
        show Steps p.tables e below (T33.setTop (mkF m 212 #[.val (.long x0), .second, .val (.long x1), .second, .val (.long x2), .second, .val (.long x3), .second, .val (.long x4), .second, .val (.int x5), .val (.ref v), .val (.int ct), .val (.int md), .val (.int ki), .val (.long m30_l15), .second, .val (.long m32_s0), .second, .val (.ref bw), .unset] [(.int (0 : Int32)), (.ref v), (.int (0 : Int32)), (.ref bw)])) _
        refine own_ldJ X33 hx hZ e33 V_v_34 (j := (0 : Int32)) (w := p15) ⟨by decide, by decide⟩ rfl (g := (mkF m 212 #[.val (.long x0), .second, .val (.long x1), .second, .val (.long x2), .second, .val (.long x3), .second, .val (.long x4), .second, .val (.int x5), .val (.ref v), .val (.int ct), .val (.int md), .val (.int ki), .val (.long m30_l15), .second, .val (.long m32_s0), .second, .val (.ref bw), .unset] [(.int (0 : Int32)), (.ref v), (.int (0 : Int32)), (.ref bw)])) rfl rfl (hb hby at_212) ?_
        show Steps p.tables e below (T33.setTop (mkF m 213 #[.val (.long x0), .second, .val (.long x1), .second, .val (.long x2), .second, .val (.long x3), .second, .val (.long x4), .second, .val (.int x5), .val (.ref v), .val (.int ct), .val (.int md), .val (.int ki), .val (.long m30_l15), .second, .val (.long m32_s0), .second, .val (.ref bw), .unset] [(.long p15), (.int (0 : Int32)), (.ref bw)])) _
        refine XS.goto X33.here hx rfl (pc0 := 213) (pc' := 218) rfl (hb hby at_213) (by decide) (by decide) ?_
        exact kk
      · rw [hBm35_s0 hq206] at kk
        refine XS.ifYes X33.here hx rfl (pc0 := 206) (pc' := 216) rfl (hb hby at_206) rfl ((if0 _ _).trans (flt hq206).2.2.2) (by decide) (by decide) ?_
        show Steps p.tables e below (T33.setTop (mkF m 216 #[.val (.long x0), .second, .val (.long x1), .second, .val (.long x2), .second, .val (.long x3), .second, .val (.long x4), .second, .val (.int x5), .val (.ref v), .val (.int ct), .val (.int md), .val (.int ki), .val (.long m30_l15), .second, .val (.long m32_s0), .second, .val (.ref bw), .unset] [(.int (0 : Int32)), (.ref bw)])) _
        refine XS.lload X33.here hx rfl (hb hby at_216) rfl ?_
        exact kk
    refine k35 m35_s0 _ (fun h => by rw [em35_s0, if_pos h]) (fun h => by rw [em35_s0, if_neg h]) ?_
    show Steps p.tables e below (T33.setTop (mkF m 218 #[.val (.long x0), .second, .val (.long x1), .second, .val (.long x2), .second, .val (.long x3), .second, .val (.long x4), .second, .val (.int x5), .val (.ref v), .val (.int ct), .val (.int md), .val (.int ki), .val (.long m30_l15), .second, .val (.long m32_s0), .second, .val (.ref bw), .unset] [(.long m35_s0), (.int (0 : Int32)), (.ref bw)])) _
    refine st36 _ ?_
    show Steps p.tables e below (T36.setTop (mkF m 219 #[.val (.long x0), .second, .val (.long x1), .second, .val (.long x2), .second, .val (.long x3), .second, .val (.long x4), .second, .val (.int x5), .val (.ref v), .val (.int ct), .val (.int md), .val (.int ki), .val (.long m30_l15), .second, .val (.long m32_s0), .second, .val (.ref bw), .unset] [])) _
    refine XS.aload X36.here hx rfl (hb hby at_219) rfl rfl ?_
    show Steps p.tables e below (T36.setTop (mkF m 221 #[.val (.long x0), .second, .val (.long x1), .second, .val (.long x2), .second, .val (.long x3), .second, .val (.long x4), .second, .val (.int x5), .val (.ref v), .val (.int ct), .val (.int md), .val (.int ki), .val (.long m30_l15), .second, .val (.long m32_s0), .second, .val (.ref bw), .unset] [(.ref bw)])) _
    refine XS.iconst X36.here hx rfl (hb hby at_221) ?_
    show Steps p.tables e below (T36.setTop (mkF m 222 #[.val (.long x0), .second, .val (.long x1), .second, .val (.long x2), .second, .val (.long x3), .second, .val (.long x4), .second, .val (.int x5), .val (.ref v), .val (.int ct), .val (.int md), .val (.int ki), .val (.long m30_l15), .second, .val (.long m32_s0), .second, .val (.ref bw), .unset] [(.int (1 : Int32)), (.ref bw)])) _
    refine XS.iload X36.here hx rfl (hb hby at_222) rfl ?_
    show Steps p.tables e below (T36.setTop (mkF m 224 #[.val (.long x0), .second, .val (.long x1), .second, .val (.long x2), .second, .val (.long x3), .second, .val (.long x4), .second, .val (.int x5), .val (.ref v), .val (.int ct), .val (.int md), .val (.int ki), .val (.long m30_l15), .second, .val (.long m32_s0), .second, .val (.ref bw), .unset] [(.int ct), (.int (1 : Int32)), (.ref bw)])) _
    refine XS.iconst X36.here hx rfl (hb hby at_224) ?_
    show Steps p.tables e below (T36.setTop (mkF m 225 #[.val (.long x0), .second, .val (.long x1), .second, .val (.long x2), .second, .val (.long x3), .second, .val (.long x4), .second, .val (.int x5), .val (.ref v), .val (.int ct), .val (.int md), .val (.int ki), .val (.long m30_l15), .second, .val (.long m32_s0), .second, .val (.ref bw), .unset] [(.int (1 : Int32)), (.int ct), (.int (1 : Int32)), (.ref bw)])) _
    have k38 : ∀ (m38_s0 : Int64) t, ((1 : Int32) < ct → m38_s0 = m21_V_v_1) → (¬ ((1 : Int32) < ct) → m38_s0 = m32_s0) → Steps p.tables e below (T36.setTop (mkF m 237 #[.val (.long x0), .second, .val (.long x1), .second, .val (.long x2), .second, .val (.long x3), .second, .val (.long x4), .second, .val (.int x5), .val (.ref v), .val (.int ct), .val (.int md), .val (.int ki), .val (.long m30_l15), .second, .val (.long m32_s0), .second, .val (.ref bw), .unset] [(.long m38_s0), (.int (1 : Int32)), (.ref bw)])) t → Steps p.tables e below (T36.setTop (mkF m 225 #[.val (.long x0), .second, .val (.long x1), .second, .val (.long x2), .second, .val (.long x3), .second, .val (.long x4), .second, .val (.int x5), .val (.ref v), .val (.int ct), .val (.int md), .val (.int ki), .val (.long m30_l15), .second, .val (.long m32_s0), .second, .val (.ref bw), .unset] [(.int (1 : Int32)), (.int ct), (.int (1 : Int32)), (.ref bw)])) t := by
      intro m38_s0 t hAm38_s0 hBm38_s0 kk
      by_cases hq225 : (1 : Int32) < ct
      · rw [hAm38_s0 hq225] at kk
        refine XS.icmpNo X36.here hx rfl (hb hby at_225) rfl (tlt hq225).2.2.2 ?_
        show Steps p.tables e below (T36.setTop (mkF m 228 #[.val (.long x0), .second, .val (.long x1), .second, .val (.long x2), .second, .val (.long x3), .second, .val (.long x4), .second, .val (.int x5), .val (.ref v), .val (.int ct), .val (.int md), .val (.int ki), .val (.long m30_l15), .second, .val (.long m32_s0), .second, .val (.ref bw), .unset] [(.int (1 : Int32)), (.ref bw)])) _
        refine XS.aload X36.here hx rfl (hb hby at_228) rfl rfl ?_
        show Steps p.tables e below (T36.setTop (mkF m 230 #[.val (.long x0), .second, .val (.long x1), .second, .val (.long x2), .second, .val (.long x3), .second, .val (.long x4), .second, .val (.int x5), .val (.ref v), .val (.int ct), .val (.int md), .val (.int ki), .val (.long m30_l15), .second, .val (.long m32_s0), .second, .val (.ref bw), .unset] [(.ref v), (.int (1 : Int32)), (.ref bw)])) _
        refine XS.iconst X36.here hx rfl (hb hby at_230) ?_
        show Steps p.tables e below (T36.setTop (mkF m 231 #[.val (.long x0), .second, .val (.long x1), .second, .val (.long x2), .second, .val (.long x3), .second, .val (.long x4), .second, .val (.int x5), .val (.ref v), .val (.int ct), .val (.int md), .val (.int ki), .val (.long m30_l15), .second, .val (.long m32_s0), .second, .val (.ref bw), .unset] [(.int (1 : Int32)), (.ref v), (.int (1 : Int32)), (.ref bw)])) _
        refine own_ldJ X36 hx hZ e36 V_v_37 (j := (1 : Int32)) (w := m21_V_v_1) ⟨by decide, by decide⟩ rfl (g := (mkF m 231 #[.val (.long x0), .second, .val (.long x1), .second, .val (.long x2), .second, .val (.long x3), .second, .val (.long x4), .second, .val (.int x5), .val (.ref v), .val (.int ct), .val (.int md), .val (.int ki), .val (.long m30_l15), .second, .val (.long m32_s0), .second, .val (.ref bw), .unset] [(.int (1 : Int32)), (.ref v), (.int (1 : Int32)), (.ref bw)])) rfl rfl (hb hby at_231) ?_
        show Steps p.tables e below (T36.setTop (mkF m 232 #[.val (.long x0), .second, .val (.long x1), .second, .val (.long x2), .second, .val (.long x3), .second, .val (.long x4), .second, .val (.int x5), .val (.ref v), .val (.int ct), .val (.int md), .val (.int ki), .val (.long m30_l15), .second, .val (.long m32_s0), .second, .val (.ref bw), .unset] [(.long m21_V_v_1), (.int (1 : Int32)), (.ref bw)])) _
        refine XS.goto X36.here hx rfl (pc0 := 232) (pc' := 237) rfl (hb hby at_232) (by decide) (by decide) ?_
        exact kk
      · rw [hBm38_s0 hq225] at kk
        refine XS.icmpYes X36.here hx rfl (pc0 := 225) (pc' := 235) rfl (hb hby at_225) rfl (flt hq225).2.2.2 (by decide) (by decide) ?_
        show Steps p.tables e below (T36.setTop (mkF m 235 #[.val (.long x0), .second, .val (.long x1), .second, .val (.long x2), .second, .val (.long x3), .second, .val (.long x4), .second, .val (.int x5), .val (.ref v), .val (.int ct), .val (.int md), .val (.int ki), .val (.long m30_l15), .second, .val (.long m32_s0), .second, .val (.ref bw), .unset] [(.int (1 : Int32)), (.ref bw)])) _
        refine XS.lload X36.here hx rfl (hb hby at_235) rfl ?_
        exact kk
    refine k38 m38_s0 _ (fun h => by rw [em38_s0, if_pos h]) (fun h => by rw [em38_s0, if_neg h]) ?_
    show Steps p.tables e below (T36.setTop (mkF m 237 #[.val (.long x0), .second, .val (.long x1), .second, .val (.long x2), .second, .val (.long x3), .second, .val (.long x4), .second, .val (.int x5), .val (.ref v), .val (.int ct), .val (.int md), .val (.int ki), .val (.long m30_l15), .second, .val (.long m32_s0), .second, .val (.ref bw), .unset] [(.long m38_s0), (.int (1 : Int32)), (.ref bw)])) _
    refine st39 _ ?_
    show Steps p.tables e below (T39.setTop (mkF m 238 #[.val (.long x0), .second, .val (.long x1), .second, .val (.long x2), .second, .val (.long x3), .second, .val (.long x4), .second, .val (.int x5), .val (.ref v), .val (.int ct), .val (.int md), .val (.int ki), .val (.long m30_l15), .second, .val (.long m32_s0), .second, .val (.ref bw), .unset] [])) _
    refine XS.aload X39.here hx rfl (hb hby at_238) rfl rfl ?_
    show Steps p.tables e below (T39.setTop (mkF m 240 #[.val (.long x0), .second, .val (.long x1), .second, .val (.long x2), .second, .val (.long x3), .second, .val (.long x4), .second, .val (.int x5), .val (.ref v), .val (.int ct), .val (.int md), .val (.int ki), .val (.long m30_l15), .second, .val (.long m32_s0), .second, .val (.ref bw), .unset] [(.ref bw)])) _
    refine XS.iconst X39.here hx rfl (hb hby at_240) ?_
    show Steps p.tables e below (T39.setTop (mkF m 241 #[.val (.long x0), .second, .val (.long x1), .second, .val (.long x2), .second, .val (.long x3), .second, .val (.long x4), .second, .val (.int x5), .val (.ref v), .val (.int ct), .val (.int md), .val (.int ki), .val (.long m30_l15), .second, .val (.long m32_s0), .second, .val (.ref bw), .unset] [(.int (2 : Int32)), (.ref bw)])) _
    refine XS.iload X39.here hx rfl (hb hby at_241) rfl ?_
    show Steps p.tables e below (T39.setTop (mkF m 243 #[.val (.long x0), .second, .val (.long x1), .second, .val (.long x2), .second, .val (.long x3), .second, .val (.long x4), .second, .val (.int x5), .val (.ref v), .val (.int ct), .val (.int md), .val (.int ki), .val (.long m30_l15), .second, .val (.long m32_s0), .second, .val (.ref bw), .unset] [(.int ct), (.int (2 : Int32)), (.ref bw)])) _
    refine XS.iconst X39.here hx rfl (hb hby at_243) ?_
    show Steps p.tables e below (T39.setTop (mkF m 244 #[.val (.long x0), .second, .val (.long x1), .second, .val (.long x2), .second, .val (.long x3), .second, .val (.long x4), .second, .val (.int x5), .val (.ref v), .val (.int ct), .val (.int md), .val (.int ki), .val (.long m30_l15), .second, .val (.long m32_s0), .second, .val (.ref bw), .unset] [(.int (2 : Int32)), (.int ct), (.int (2 : Int32)), (.ref bw)])) _
    have k41 : ∀ (m41_s0 : Int64) t, ((2 : Int32) < ct → m41_s0 = m24_V_v_2) → (¬ ((2 : Int32) < ct) → m41_s0 = m32_s0) → Steps p.tables e below (T39.setTop (mkF m 256 #[.val (.long x0), .second, .val (.long x1), .second, .val (.long x2), .second, .val (.long x3), .second, .val (.long x4), .second, .val (.int x5), .val (.ref v), .val (.int ct), .val (.int md), .val (.int ki), .val (.long m30_l15), .second, .val (.long m32_s0), .second, .val (.ref bw), .unset] [(.long m41_s0), (.int (2 : Int32)), (.ref bw)])) t → Steps p.tables e below (T39.setTop (mkF m 244 #[.val (.long x0), .second, .val (.long x1), .second, .val (.long x2), .second, .val (.long x3), .second, .val (.long x4), .second, .val (.int x5), .val (.ref v), .val (.int ct), .val (.int md), .val (.int ki), .val (.long m30_l15), .second, .val (.long m32_s0), .second, .val (.ref bw), .unset] [(.int (2 : Int32)), (.int ct), (.int (2 : Int32)), (.ref bw)])) t := by
      intro m41_s0 t hAm41_s0 hBm41_s0 kk
      by_cases hq244 : (2 : Int32) < ct
      · rw [hAm41_s0 hq244] at kk
        refine XS.icmpNo X39.here hx rfl (hb hby at_244) rfl (tlt hq244).2.2.2 ?_
        show Steps p.tables e below (T39.setTop (mkF m 247 #[.val (.long x0), .second, .val (.long x1), .second, .val (.long x2), .second, .val (.long x3), .second, .val (.long x4), .second, .val (.int x5), .val (.ref v), .val (.int ct), .val (.int md), .val (.int ki), .val (.long m30_l15), .second, .val (.long m32_s0), .second, .val (.ref bw), .unset] [(.int (2 : Int32)), (.ref bw)])) _
        refine XS.aload X39.here hx rfl (hb hby at_247) rfl rfl ?_
        show Steps p.tables e below (T39.setTop (mkF m 249 #[.val (.long x0), .second, .val (.long x1), .second, .val (.long x2), .second, .val (.long x3), .second, .val (.long x4), .second, .val (.int x5), .val (.ref v), .val (.int ct), .val (.int md), .val (.int ki), .val (.long m30_l15), .second, .val (.long m32_s0), .second, .val (.ref bw), .unset] [(.ref v), (.int (2 : Int32)), (.ref bw)])) _
        refine XS.iconst X39.here hx rfl (hb hby at_249) ?_
        show Steps p.tables e below (T39.setTop (mkF m 250 #[.val (.long x0), .second, .val (.long x1), .second, .val (.long x2), .second, .val (.long x3), .second, .val (.long x4), .second, .val (.int x5), .val (.ref v), .val (.int ct), .val (.int md), .val (.int ki), .val (.long m30_l15), .second, .val (.long m32_s0), .second, .val (.ref bw), .unset] [(.int (2 : Int32)), (.ref v), (.int (2 : Int32)), (.ref bw)])) _
        refine own_ldJ X39 hx hZ e39 V_v_40 (j := (2 : Int32)) (w := m24_V_v_2) ⟨by decide, by decide⟩ rfl (g := (mkF m 250 #[.val (.long x0), .second, .val (.long x1), .second, .val (.long x2), .second, .val (.long x3), .second, .val (.long x4), .second, .val (.int x5), .val (.ref v), .val (.int ct), .val (.int md), .val (.int ki), .val (.long m30_l15), .second, .val (.long m32_s0), .second, .val (.ref bw), .unset] [(.int (2 : Int32)), (.ref v), (.int (2 : Int32)), (.ref bw)])) rfl rfl (hb hby at_250) ?_
        show Steps p.tables e below (T39.setTop (mkF m 251 #[.val (.long x0), .second, .val (.long x1), .second, .val (.long x2), .second, .val (.long x3), .second, .val (.long x4), .second, .val (.int x5), .val (.ref v), .val (.int ct), .val (.int md), .val (.int ki), .val (.long m30_l15), .second, .val (.long m32_s0), .second, .val (.ref bw), .unset] [(.long m24_V_v_2), (.int (2 : Int32)), (.ref bw)])) _
        refine XS.goto X39.here hx rfl (pc0 := 251) (pc' := 256) rfl (hb hby at_251) (by decide) (by decide) ?_
        exact kk
      · rw [hBm41_s0 hq244] at kk
        refine XS.icmpYes X39.here hx rfl (pc0 := 244) (pc' := 254) rfl (hb hby at_244) rfl (flt hq244).2.2.2 (by decide) (by decide) ?_
        show Steps p.tables e below (T39.setTop (mkF m 254 #[.val (.long x0), .second, .val (.long x1), .second, .val (.long x2), .second, .val (.long x3), .second, .val (.long x4), .second, .val (.int x5), .val (.ref v), .val (.int ct), .val (.int md), .val (.int ki), .val (.long m30_l15), .second, .val (.long m32_s0), .second, .val (.ref bw), .unset] [(.int (2 : Int32)), (.ref bw)])) _
        refine XS.lload X39.here hx rfl (hb hby at_254) rfl ?_
        exact kk
    refine k41 m41_s0 _ (fun h => by rw [em41_s0, if_pos h]) (fun h => by rw [em41_s0, if_neg h]) ?_
    show Steps p.tables e below (T39.setTop (mkF m 256 #[.val (.long x0), .second, .val (.long x1), .second, .val (.long x2), .second, .val (.long x3), .second, .val (.long x4), .second, .val (.int x5), .val (.ref v), .val (.int ct), .val (.int md), .val (.int ki), .val (.long m30_l15), .second, .val (.long m32_s0), .second, .val (.ref bw), .unset] [(.long m41_s0), (.int (2 : Int32)), (.ref bw)])) _
    refine st42 _ ?_
    show Steps p.tables e below (T42.setTop (mkF m 257 #[.val (.long x0), .second, .val (.long x1), .second, .val (.long x2), .second, .val (.long x3), .second, .val (.long x4), .second, .val (.int x5), .val (.ref v), .val (.int ct), .val (.int md), .val (.int ki), .val (.long m30_l15), .second, .val (.long m32_s0), .second, .val (.ref bw), .unset] [])) _
    refine XS.aload X42.here hx rfl (hb hby at_257) rfl rfl ?_
    show Steps p.tables e below (T42.setTop (mkF m 259 #[.val (.long x0), .second, .val (.long x1), .second, .val (.long x2), .second, .val (.long x3), .second, .val (.long x4), .second, .val (.int x5), .val (.ref v), .val (.int ct), .val (.int md), .val (.int ki), .val (.long m30_l15), .second, .val (.long m32_s0), .second, .val (.ref bw), .unset] [(.ref bw)])) _
    refine XS.iconst X42.here hx rfl (hb hby at_259) ?_
    show Steps p.tables e below (T42.setTop (mkF m 260 #[.val (.long x0), .second, .val (.long x1), .second, .val (.long x2), .second, .val (.long x3), .second, .val (.long x4), .second, .val (.int x5), .val (.ref v), .val (.int ct), .val (.int md), .val (.int ki), .val (.long m30_l15), .second, .val (.long m32_s0), .second, .val (.ref bw), .unset] [(.int (3 : Int32)), (.ref bw)])) _
    refine XS.iload X42.here hx rfl (hb hby at_260) rfl ?_
    show Steps p.tables e below (T42.setTop (mkF m 262 #[.val (.long x0), .second, .val (.long x1), .second, .val (.long x2), .second, .val (.long x3), .second, .val (.long x4), .second, .val (.int x5), .val (.ref v), .val (.int ct), .val (.int md), .val (.int ki), .val (.long m30_l15), .second, .val (.long m32_s0), .second, .val (.ref bw), .unset] [(.int ct), (.int (3 : Int32)), (.ref bw)])) _
    refine XS.iconst X42.here hx rfl (hb hby at_262) ?_
    show Steps p.tables e below (T42.setTop (mkF m 263 #[.val (.long x0), .second, .val (.long x1), .second, .val (.long x2), .second, .val (.long x3), .second, .val (.long x4), .second, .val (.int x5), .val (.ref v), .val (.int ct), .val (.int md), .val (.int ki), .val (.long m30_l15), .second, .val (.long m32_s0), .second, .val (.ref bw), .unset] [(.int (3 : Int32)), (.int ct), (.int (3 : Int32)), (.ref bw)])) _
    have k44 : ∀ (m44_s0 : Int64) t, ((3 : Int32) < ct → m44_s0 = m27_V_v_3) → (¬ ((3 : Int32) < ct) → m44_s0 = m32_s0) → Steps p.tables e below (T42.setTop (mkF m 275 #[.val (.long x0), .second, .val (.long x1), .second, .val (.long x2), .second, .val (.long x3), .second, .val (.long x4), .second, .val (.int x5), .val (.ref v), .val (.int ct), .val (.int md), .val (.int ki), .val (.long m30_l15), .second, .val (.long m32_s0), .second, .val (.ref bw), .unset] [(.long m44_s0), (.int (3 : Int32)), (.ref bw)])) t → Steps p.tables e below (T42.setTop (mkF m 263 #[.val (.long x0), .second, .val (.long x1), .second, .val (.long x2), .second, .val (.long x3), .second, .val (.long x4), .second, .val (.int x5), .val (.ref v), .val (.int ct), .val (.int md), .val (.int ki), .val (.long m30_l15), .second, .val (.long m32_s0), .second, .val (.ref bw), .unset] [(.int (3 : Int32)), (.int ct), (.int (3 : Int32)), (.ref bw)])) t := by
      intro m44_s0 t hAm44_s0 hBm44_s0 kk
      by_cases hq263 : (3 : Int32) < ct
      · rw [hAm44_s0 hq263] at kk
        refine XS.icmpNo X42.here hx rfl (hb hby at_263) rfl (tlt hq263).2.2.2 ?_
        show Steps p.tables e below (T42.setTop (mkF m 266 #[.val (.long x0), .second, .val (.long x1), .second, .val (.long x2), .second, .val (.long x3), .second, .val (.long x4), .second, .val (.int x5), .val (.ref v), .val (.int ct), .val (.int md), .val (.int ki), .val (.long m30_l15), .second, .val (.long m32_s0), .second, .val (.ref bw), .unset] [(.int (3 : Int32)), (.ref bw)])) _
        refine XS.aload X42.here hx rfl (hb hby at_266) rfl rfl ?_
        show Steps p.tables e below (T42.setTop (mkF m 268 #[.val (.long x0), .second, .val (.long x1), .second, .val (.long x2), .second, .val (.long x3), .second, .val (.long x4), .second, .val (.int x5), .val (.ref v), .val (.int ct), .val (.int md), .val (.int ki), .val (.long m30_l15), .second, .val (.long m32_s0), .second, .val (.ref bw), .unset] [(.ref v), (.int (3 : Int32)), (.ref bw)])) _
        refine XS.iconst X42.here hx rfl (hb hby at_268) ?_
        show Steps p.tables e below (T42.setTop (mkF m 269 #[.val (.long x0), .second, .val (.long x1), .second, .val (.long x2), .second, .val (.long x3), .second, .val (.long x4), .second, .val (.int x5), .val (.ref v), .val (.int ct), .val (.int md), .val (.int ki), .val (.long m30_l15), .second, .val (.long m32_s0), .second, .val (.ref bw), .unset] [(.int (3 : Int32)), (.ref v), (.int (3 : Int32)), (.ref bw)])) _
        refine own_ldJ X42 hx hZ e42 V_v_43 (j := (3 : Int32)) (w := m27_V_v_3) ⟨by decide, by decide⟩ rfl (g := (mkF m 269 #[.val (.long x0), .second, .val (.long x1), .second, .val (.long x2), .second, .val (.long x3), .second, .val (.long x4), .second, .val (.int x5), .val (.ref v), .val (.int ct), .val (.int md), .val (.int ki), .val (.long m30_l15), .second, .val (.long m32_s0), .second, .val (.ref bw), .unset] [(.int (3 : Int32)), (.ref v), (.int (3 : Int32)), (.ref bw)])) rfl rfl (hb hby at_269) ?_
        show Steps p.tables e below (T42.setTop (mkF m 270 #[.val (.long x0), .second, .val (.long x1), .second, .val (.long x2), .second, .val (.long x3), .second, .val (.long x4), .second, .val (.int x5), .val (.ref v), .val (.int ct), .val (.int md), .val (.int ki), .val (.long m30_l15), .second, .val (.long m32_s0), .second, .val (.ref bw), .unset] [(.long m27_V_v_3), (.int (3 : Int32)), (.ref bw)])) _
        refine XS.goto X42.here hx rfl (pc0 := 270) (pc' := 275) rfl (hb hby at_270) (by decide) (by decide) ?_
        exact kk
      · rw [hBm44_s0 hq263] at kk
        refine XS.icmpYes X42.here hx rfl (pc0 := 263) (pc' := 273) rfl (hb hby at_263) rfl (flt hq263).2.2.2 (by decide) (by decide) ?_
        show Steps p.tables e below (T42.setTop (mkF m 273 #[.val (.long x0), .second, .val (.long x1), .second, .val (.long x2), .second, .val (.long x3), .second, .val (.long x4), .second, .val (.int x5), .val (.ref v), .val (.int ct), .val (.int md), .val (.int ki), .val (.long m30_l15), .second, .val (.long m32_s0), .second, .val (.ref bw), .unset] [(.int (3 : Int32)), (.ref bw)])) _
        refine XS.lload X42.here hx rfl (hb hby at_273) rfl ?_
        exact kk
    refine k44 m44_s0 _ (fun h => by rw [em44_s0, if_pos h]) (fun h => by rw [em44_s0, if_neg h]) ?_
    show Steps p.tables e below (T42.setTop (mkF m 275 #[.val (.long x0), .second, .val (.long x1), .second, .val (.long x2), .second, .val (.long x3), .second, .val (.long x4), .second, .val (.int x5), .val (.ref v), .val (.int ct), .val (.int md), .val (.int ki), .val (.long m30_l15), .second, .val (.long m32_s0), .second, .val (.ref bw), .unset] [(.long m44_s0), (.int (3 : Int32)), (.ref bw)])) _
    refine st45 _ ?_
    show Steps p.tables e below (T45.setTop (mkF m 276 #[.val (.long x0), .second, .val (.long x1), .second, .val (.long x2), .second, .val (.long x3), .second, .val (.long x4), .second, .val (.int x5), .val (.ref v), .val (.int ct), .val (.int md), .val (.int ki), .val (.long m30_l15), .second, .val (.long m32_s0), .second, .val (.ref bw), .unset] [])) _
    refine XS.iload X45.here hx rfl (hb hby at_276) rfl ?_
    show Steps p.tables e below (T45.setTop (mkF m 278 #[.val (.long x0), .second, .val (.long x1), .second, .val (.long x2), .second, .val (.long x3), .second, .val (.long x4), .second, .val (.int x5), .val (.ref v), .val (.int ct), .val (.int md), .val (.int ki), .val (.long m30_l15), .second, .val (.long m32_s0), .second, .val (.ref bw), .unset] [(.int ct)])) _
    have k47 : ∀ (m47_s0 : Int32) t, ((0 : Int32) < ct → m47_s0 = (1 : Int32)) → (¬ ((0 : Int32) < ct) → m47_s0 = (0 : Int32)) → Steps p.tables e below (T45.setTop (mkF m 286 #[.val (.long x0), .second, .val (.long x1), .second, .val (.long x2), .second, .val (.long x3), .second, .val (.long x4), .second, .val (.int x5), .val (.ref v), .val (.int ct), .val (.int md), .val (.int ki), .val (.long m30_l15), .second, .val (.long m32_s0), .second, .val (.ref bw), .unset] [(.int m47_s0)])) t → Steps p.tables e below (T45.setTop (mkF m 278 #[.val (.long x0), .second, .val (.long x1), .second, .val (.long x2), .second, .val (.long x3), .second, .val (.long x4), .second, .val (.int x5), .val (.ref v), .val (.int ct), .val (.int md), .val (.int ki), .val (.long m30_l15), .second, .val (.long m32_s0), .second, .val (.ref bw), .unset] [(.int ct)])) t := by
      intro m47_s0 t hAm47_s0 hBm47_s0 kk
      by_cases hq278 : (0 : Int32) < ct
      · rw [hAm47_s0 hq278] at kk
        refine XS.ifNo X45.here hx rfl (hb hby at_278) rfl ((if0 _ _).trans (tlt hq278).2.2.2) ?_
        show Steps p.tables e below (T45.setTop (mkF m 281 #[.val (.long x0), .second, .val (.long x1), .second, .val (.long x2), .second, .val (.long x3), .second, .val (.long x4), .second, .val (.int x5), .val (.ref v), .val (.int ct), .val (.int md), .val (.int ki), .val (.long m30_l15), .second, .val (.long m32_s0), .second, .val (.ref bw), .unset] [])) _
        refine XS.iconst X45.here hx rfl (hb hby at_281) ?_
        show Steps p.tables e below (T45.setTop (mkF m 282 #[.val (.long x0), .second, .val (.long x1), .second, .val (.long x2), .second, .val (.long x3), .second, .val (.long x4), .second, .val (.int x5), .val (.ref v), .val (.int ct), .val (.int md), .val (.int ki), .val (.long m30_l15), .second, .val (.long m32_s0), .second, .val (.ref bw), .unset] [(.int (1 : Int32))])) _
        refine XS.goto X45.here hx rfl (pc0 := 282) (pc' := 286) rfl (hb hby at_282) (by decide) (by decide) ?_
        exact kk
      · rw [hBm47_s0 hq278] at kk
        refine XS.ifYes X45.here hx rfl (pc0 := 278) (pc' := 285) rfl (hb hby at_278) rfl ((if0 _ _).trans (flt hq278).2.2.2) (by decide) (by decide) ?_
        show Steps p.tables e below (T45.setTop (mkF m 285 #[.val (.long x0), .second, .val (.long x1), .second, .val (.long x2), .second, .val (.long x3), .second, .val (.long x4), .second, .val (.int x5), .val (.ref v), .val (.int ct), .val (.int md), .val (.int ki), .val (.long m30_l15), .second, .val (.long m32_s0), .second, .val (.ref bw), .unset] [])) _
        refine XS.iconst X45.here hx rfl (hb hby at_285) ?_
        exact kk
    refine k47 m47_s0 _ (fun h => by rw [em47_s0, if_pos h]) (fun h => by rw [em47_s0, if_neg h]) ?_
    show Steps p.tables e below (T45.setTop (mkF m 286 #[.val (.long x0), .second, .val (.long x1), .second, .val (.long x2), .second, .val (.long x3), .second, .val (.long x4), .second, .val (.int x5), .val (.ref v), .val (.int ct), .val (.int md), .val (.int ki), .val (.long m30_l15), .second, .val (.long m32_s0), .second, .val (.ref bw), .unset] [(.int m47_s0)])) _
    refine XS.aload X45.here hx rfl (hb hby at_286) rfl rfl ?_
    show Steps p.tables e below (T45.setTop (mkF m 288 #[.val (.long x0), .second, .val (.long x1), .second, .val (.long x2), .second, .val (.long x3), .second, .val (.long x4), .second, .val (.int x5), .val (.ref v), .val (.int ct), .val (.int md), .val (.int ki), .val (.long m30_l15), .second, .val (.long m32_s0), .second, .val (.ref bw), .unset] [(.ref v), (.int m47_s0)])) _
    refine XS.iconst X45.here hx rfl (hb hby at_288) ?_
    show Steps p.tables e below (T45.setTop (mkF m 289 #[.val (.long x0), .second, .val (.long x1), .second, .val (.long x2), .second, .val (.long x3), .second, .val (.long x4), .second, .val (.int x5), .val (.ref v), .val (.int ct), .val (.int md), .val (.int ki), .val (.long m30_l15), .second, .val (.long m32_s0), .second, .val (.ref bw), .unset] [(.int (0 : Int32)), (.ref v), (.int m47_s0)])) _
    refine own_ldJ X45 hx hZ e45 V_v_46 (j := (0 : Int32)) (w := p15) ⟨by decide, by decide⟩ rfl (g := (mkF m 289 #[.val (.long x0), .second, .val (.long x1), .second, .val (.long x2), .second, .val (.long x3), .second, .val (.long x4), .second, .val (.int x5), .val (.ref v), .val (.int ct), .val (.int md), .val (.int ki), .val (.long m30_l15), .second, .val (.long m32_s0), .second, .val (.ref bw), .unset] [(.int (0 : Int32)), (.ref v), (.int m47_s0)])) rfl rfl (hb hby at_289) ?_
    show Steps p.tables e below (T45.setTop (mkF m 290 #[.val (.long x0), .second, .val (.long x1), .second, .val (.long x2), .second, .val (.long x3), .second, .val (.long x4), .second, .val (.int x5), .val (.ref v), .val (.int ct), .val (.int md), .val (.int ki), .val (.long m30_l15), .second, .val (.long m32_s0), .second, .val (.ref bw), .unset] [(.long p15), (.int m47_s0)])) _
    refine XS.lload X45.here hx rfl (hb hby at_290) rfl ?_
    show Steps p.tables e below (T45.setTop (mkF m 292 #[.val (.long x0), .second, .val (.long x1), .second, .val (.long x2), .second, .val (.long x3), .second, .val (.long x4), .second, .val (.int x5), .val (.ref v), .val (.int ct), .val (.int md), .val (.int ki), .val (.long m30_l15), .second, .val (.long m32_s0), .second, .val (.ref bw), .unset] [(.long m30_l15), (.long p15), (.int m47_s0)])) _
    refine st48 _ ?_
    show Steps p.tables e below (T48.setTop (mkF m 295 #[.val (.long x0), .second, .val (.long x1), .second, .val (.long x2), .second, .val (.long x3), .second, .val (.long x4), .second, .val (.int x5), .val (.ref v), .val (.int ct), .val (.int md), .val (.int ki), .val (.long m30_l15), .second, .val (.long m32_s0), .second, .val (.ref bw), .unset] [(.int (own_le m47_s0 p15 m30_l15))])) _
    refine XS.iload X48.here hx rfl (hb hby at_295) rfl ?_
    show Steps p.tables e below (T48.setTop (mkF m 297 #[.val (.long x0), .second, .val (.long x1), .second, .val (.long x2), .second, .val (.long x3), .second, .val (.long x4), .second, .val (.int x5), .val (.ref v), .val (.int ct), .val (.int md), .val (.int ki), .val (.long m30_l15), .second, .val (.long m32_s0), .second, .val (.ref bw), .unset] [(.int ct), (.int (own_le m47_s0 p15 m30_l15))])) _
    refine XS.iconst X48.here hx rfl (hb hby at_297) ?_
    show Steps p.tables e below (T48.setTop (mkF m 298 #[.val (.long x0), .second, .val (.long x1), .second, .val (.long x2), .second, .val (.long x3), .second, .val (.long x4), .second, .val (.int x5), .val (.ref v), .val (.int ct), .val (.int md), .val (.int ki), .val (.long m30_l15), .second, .val (.long m32_s0), .second, .val (.ref bw), .unset] [(.int (1 : Int32)), (.int ct), (.int (own_le m47_s0 p15 m30_l15))])) _
    have k49 : ∀ (m49_s0 : Int32) t, ((1 : Int32) < ct → m49_s0 = (1 : Int32)) → (¬ ((1 : Int32) < ct) → m49_s0 = (0 : Int32)) → Steps p.tables e below (T48.setTop (mkF m 306 #[.val (.long x0), .second, .val (.long x1), .second, .val (.long x2), .second, .val (.long x3), .second, .val (.long x4), .second, .val (.int x5), .val (.ref v), .val (.int ct), .val (.int md), .val (.int ki), .val (.long m30_l15), .second, .val (.long m32_s0), .second, .val (.ref bw), .unset] [(.int m49_s0), (.int (own_le m47_s0 p15 m30_l15))])) t → Steps p.tables e below (T48.setTop (mkF m 298 #[.val (.long x0), .second, .val (.long x1), .second, .val (.long x2), .second, .val (.long x3), .second, .val (.long x4), .second, .val (.int x5), .val (.ref v), .val (.int ct), .val (.int md), .val (.int ki), .val (.long m30_l15), .second, .val (.long m32_s0), .second, .val (.ref bw), .unset] [(.int (1 : Int32)), (.int ct), (.int (own_le m47_s0 p15 m30_l15))])) t := by
      intro m49_s0 t hAm49_s0 hBm49_s0 kk
      by_cases hq298 : (1 : Int32) < ct
      · rw [hAm49_s0 hq298] at kk
        refine XS.icmpNo X48.here hx rfl (hb hby at_298) rfl (tlt hq298).2.2.2 ?_
        show Steps p.tables e below (T48.setTop (mkF m 301 #[.val (.long x0), .second, .val (.long x1), .second, .val (.long x2), .second, .val (.long x3), .second, .val (.long x4), .second, .val (.int x5), .val (.ref v), .val (.int ct), .val (.int md), .val (.int ki), .val (.long m30_l15), .second, .val (.long m32_s0), .second, .val (.ref bw), .unset] [(.int (own_le m47_s0 p15 m30_l15))])) _
        refine XS.iconst X48.here hx rfl (hb hby at_301) ?_
        show Steps p.tables e below (T48.setTop (mkF m 302 #[.val (.long x0), .second, .val (.long x1), .second, .val (.long x2), .second, .val (.long x3), .second, .val (.long x4), .second, .val (.int x5), .val (.ref v), .val (.int ct), .val (.int md), .val (.int ki), .val (.long m30_l15), .second, .val (.long m32_s0), .second, .val (.ref bw), .unset] [(.int (1 : Int32)), (.int (own_le m47_s0 p15 m30_l15))])) _
        refine XS.goto X48.here hx rfl (pc0 := 302) (pc' := 306) rfl (hb hby at_302) (by decide) (by decide) ?_
        exact kk
      · rw [hBm49_s0 hq298] at kk
        refine XS.icmpYes X48.here hx rfl (pc0 := 298) (pc' := 305) rfl (hb hby at_298) rfl (flt hq298).2.2.2 (by decide) (by decide) ?_
        show Steps p.tables e below (T48.setTop (mkF m 305 #[.val (.long x0), .second, .val (.long x1), .second, .val (.long x2), .second, .val (.long x3), .second, .val (.long x4), .second, .val (.int x5), .val (.ref v), .val (.int ct), .val (.int md), .val (.int ki), .val (.long m30_l15), .second, .val (.long m32_s0), .second, .val (.ref bw), .unset] [(.int (own_le m47_s0 p15 m30_l15))])) _
        refine XS.iconst X48.here hx rfl (hb hby at_305) ?_
        exact kk
    refine k49 m49_s0 _ (fun h => by rw [em49_s0, if_pos h]) (fun h => by rw [em49_s0, if_neg h]) ?_
    show Steps p.tables e below (T48.setTop (mkF m 306 #[.val (.long x0), .second, .val (.long x1), .second, .val (.long x2), .second, .val (.long x3), .second, .val (.long x4), .second, .val (.int x5), .val (.ref v), .val (.int ct), .val (.int md), .val (.int ki), .val (.long m30_l15), .second, .val (.long m32_s0), .second, .val (.ref bw), .unset] [(.int m49_s0), (.int (own_le m47_s0 p15 m30_l15))])) _
    refine XS.aload X48.here hx rfl (hb hby at_306) rfl rfl ?_
    show Steps p.tables e below (T48.setTop (mkF m 308 #[.val (.long x0), .second, .val (.long x1), .second, .val (.long x2), .second, .val (.long x3), .second, .val (.long x4), .second, .val (.int x5), .val (.ref v), .val (.int ct), .val (.int md), .val (.int ki), .val (.long m30_l15), .second, .val (.long m32_s0), .second, .val (.ref bw), .unset] [(.ref v), (.int m49_s0), (.int (own_le m47_s0 p15 m30_l15))])) _
    refine XS.iconst X48.here hx rfl (hb hby at_308) ?_
    show Steps p.tables e below (T48.setTop (mkF m 309 #[.val (.long x0), .second, .val (.long x1), .second, .val (.long x2), .second, .val (.long x3), .second, .val (.long x4), .second, .val (.int x5), .val (.ref v), .val (.int ct), .val (.int md), .val (.int ki), .val (.long m30_l15), .second, .val (.long m32_s0), .second, .val (.ref bw), .unset] [(.int (1 : Int32)), (.ref v), (.int m49_s0), (.int (own_le m47_s0 p15 m30_l15))])) _
    refine own_ldJ X48 hx hZ e48 V_v_46 (j := (1 : Int32)) (w := m21_V_v_1) ⟨by decide, by decide⟩ rfl (g := (mkF m 309 #[.val (.long x0), .second, .val (.long x1), .second, .val (.long x2), .second, .val (.long x3), .second, .val (.long x4), .second, .val (.int x5), .val (.ref v), .val (.int ct), .val (.int md), .val (.int ki), .val (.long m30_l15), .second, .val (.long m32_s0), .second, .val (.ref bw), .unset] [(.int (1 : Int32)), (.ref v), (.int m49_s0), (.int (own_le m47_s0 p15 m30_l15))])) rfl rfl (hb hby at_309) ?_
    show Steps p.tables e below (T48.setTop (mkF m 310 #[.val (.long x0), .second, .val (.long x1), .second, .val (.long x2), .second, .val (.long x3), .second, .val (.long x4), .second, .val (.int x5), .val (.ref v), .val (.int ct), .val (.int md), .val (.int ki), .val (.long m30_l15), .second, .val (.long m32_s0), .second, .val (.ref bw), .unset] [(.long m21_V_v_1), (.int m49_s0), (.int (own_le m47_s0 p15 m30_l15))])) _
    refine XS.lload X48.here hx rfl (hb hby at_310) rfl ?_
    show Steps p.tables e below (T48.setTop (mkF m 312 #[.val (.long x0), .second, .val (.long x1), .second, .val (.long x2), .second, .val (.long x3), .second, .val (.long x4), .second, .val (.int x5), .val (.ref v), .val (.int ct), .val (.int md), .val (.int ki), .val (.long m30_l15), .second, .val (.long m32_s0), .second, .val (.ref bw), .unset] [(.long m30_l15), (.long m21_V_v_1), (.int m49_s0), (.int (own_le m47_s0 p15 m30_l15))])) _
    refine st50 _ ?_
    show Steps p.tables e below (T50.setTop (mkF m 315 #[.val (.long x0), .second, .val (.long x1), .second, .val (.long x2), .second, .val (.long x3), .second, .val (.long x4), .second, .val (.int x5), .val (.ref v), .val (.int ct), .val (.int md), .val (.int ki), .val (.long m30_l15), .second, .val (.long m32_s0), .second, .val (.ref bw), .unset] [(.int (own_le m49_s0 m21_V_v_1 m30_l15)), (.int (own_le m47_s0 p15 m30_l15))])) _
    refine XS.iadd X50.here hx rfl (hb hby at_315) rfl ?_
    show Steps p.tables e below (T50.setTop (mkF m 316 #[.val (.long x0), .second, .val (.long x1), .second, .val (.long x2), .second, .val (.long x3), .second, .val (.long x4), .second, .val (.int x5), .val (.ref v), .val (.int ct), .val (.int md), .val (.int ki), .val (.long m30_l15), .second, .val (.long m32_s0), .second, .val (.ref bw), .unset] [(.int ((own_le m47_s0 p15 m30_l15) + (own_le m49_s0 m21_V_v_1 m30_l15)))])) _
    refine XS.iload X50.here hx rfl (hb hby at_316) rfl ?_
    show Steps p.tables e below (T50.setTop (mkF m 318 #[.val (.long x0), .second, .val (.long x1), .second, .val (.long x2), .second, .val (.long x3), .second, .val (.long x4), .second, .val (.int x5), .val (.ref v), .val (.int ct), .val (.int md), .val (.int ki), .val (.long m30_l15), .second, .val (.long m32_s0), .second, .val (.ref bw), .unset] [(.int ct), (.int ((own_le m47_s0 p15 m30_l15) + (own_le m49_s0 m21_V_v_1 m30_l15)))])) _
    refine XS.iconst X50.here hx rfl (hb hby at_318) ?_
    show Steps p.tables e below (T50.setTop (mkF m 319 #[.val (.long x0), .second, .val (.long x1), .second, .val (.long x2), .second, .val (.long x3), .second, .val (.long x4), .second, .val (.int x5), .val (.ref v), .val (.int ct), .val (.int md), .val (.int ki), .val (.long m30_l15), .second, .val (.long m32_s0), .second, .val (.ref bw), .unset] [(.int (2 : Int32)), (.int ct), (.int ((own_le m47_s0 p15 m30_l15) + (own_le m49_s0 m21_V_v_1 m30_l15)))])) _
    have k51 : ∀ (m51_s0 : Int32) t, ((2 : Int32) < ct → m51_s0 = (1 : Int32)) → (¬ ((2 : Int32) < ct) → m51_s0 = (0 : Int32)) → Steps p.tables e below (T50.setTop (mkF m 327 #[.val (.long x0), .second, .val (.long x1), .second, .val (.long x2), .second, .val (.long x3), .second, .val (.long x4), .second, .val (.int x5), .val (.ref v), .val (.int ct), .val (.int md), .val (.int ki), .val (.long m30_l15), .second, .val (.long m32_s0), .second, .val (.ref bw), .unset] [(.int m51_s0), (.int ((own_le m47_s0 p15 m30_l15) + (own_le m49_s0 m21_V_v_1 m30_l15)))])) t → Steps p.tables e below (T50.setTop (mkF m 319 #[.val (.long x0), .second, .val (.long x1), .second, .val (.long x2), .second, .val (.long x3), .second, .val (.long x4), .second, .val (.int x5), .val (.ref v), .val (.int ct), .val (.int md), .val (.int ki), .val (.long m30_l15), .second, .val (.long m32_s0), .second, .val (.ref bw), .unset] [(.int (2 : Int32)), (.int ct), (.int ((own_le m47_s0 p15 m30_l15) + (own_le m49_s0 m21_V_v_1 m30_l15)))])) t := by
      intro m51_s0 t hAm51_s0 hBm51_s0 kk
      by_cases hq319 : (2 : Int32) < ct
      · rw [hAm51_s0 hq319] at kk
        refine XS.icmpNo X50.here hx rfl (hb hby at_319) rfl (tlt hq319).2.2.2 ?_
        show Steps p.tables e below (T50.setTop (mkF m 322 #[.val (.long x0), .second, .val (.long x1), .second, .val (.long x2), .second, .val (.long x3), .second, .val (.long x4), .second, .val (.int x5), .val (.ref v), .val (.int ct), .val (.int md), .val (.int ki), .val (.long m30_l15), .second, .val (.long m32_s0), .second, .val (.ref bw), .unset] [(.int ((own_le m47_s0 p15 m30_l15) + (own_le m49_s0 m21_V_v_1 m30_l15)))])) _
        refine XS.iconst X50.here hx rfl (hb hby at_322) ?_
        show Steps p.tables e below (T50.setTop (mkF m 323 #[.val (.long x0), .second, .val (.long x1), .second, .val (.long x2), .second, .val (.long x3), .second, .val (.long x4), .second, .val (.int x5), .val (.ref v), .val (.int ct), .val (.int md), .val (.int ki), .val (.long m30_l15), .second, .val (.long m32_s0), .second, .val (.ref bw), .unset] [(.int (1 : Int32)), (.int ((own_le m47_s0 p15 m30_l15) + (own_le m49_s0 m21_V_v_1 m30_l15)))])) _
        refine XS.goto X50.here hx rfl (pc0 := 323) (pc' := 327) rfl (hb hby at_323) (by decide) (by decide) ?_
        exact kk
      · rw [hBm51_s0 hq319] at kk
        refine XS.icmpYes X50.here hx rfl (pc0 := 319) (pc' := 326) rfl (hb hby at_319) rfl (flt hq319).2.2.2 (by decide) (by decide) ?_
        show Steps p.tables e below (T50.setTop (mkF m 326 #[.val (.long x0), .second, .val (.long x1), .second, .val (.long x2), .second, .val (.long x3), .second, .val (.long x4), .second, .val (.int x5), .val (.ref v), .val (.int ct), .val (.int md), .val (.int ki), .val (.long m30_l15), .second, .val (.long m32_s0), .second, .val (.ref bw), .unset] [(.int ((own_le m47_s0 p15 m30_l15) + (own_le m49_s0 m21_V_v_1 m30_l15)))])) _
        refine XS.iconst X50.here hx rfl (hb hby at_326) ?_
        exact kk
    refine k51 m51_s0 _ (fun h => by rw [em51_s0, if_pos h]) (fun h => by rw [em51_s0, if_neg h]) ?_
    show Steps p.tables e below (T50.setTop (mkF m 327 #[.val (.long x0), .second, .val (.long x1), .second, .val (.long x2), .second, .val (.long x3), .second, .val (.long x4), .second, .val (.int x5), .val (.ref v), .val (.int ct), .val (.int md), .val (.int ki), .val (.long m30_l15), .second, .val (.long m32_s0), .second, .val (.ref bw), .unset] [(.int m51_s0), (.int ((own_le m47_s0 p15 m30_l15) + (own_le m49_s0 m21_V_v_1 m30_l15)))])) _
    refine XS.aload X50.here hx rfl (hb hby at_327) rfl rfl ?_
    show Steps p.tables e below (T50.setTop (mkF m 329 #[.val (.long x0), .second, .val (.long x1), .second, .val (.long x2), .second, .val (.long x3), .second, .val (.long x4), .second, .val (.int x5), .val (.ref v), .val (.int ct), .val (.int md), .val (.int ki), .val (.long m30_l15), .second, .val (.long m32_s0), .second, .val (.ref bw), .unset] [(.ref v), (.int m51_s0), (.int ((own_le m47_s0 p15 m30_l15) + (own_le m49_s0 m21_V_v_1 m30_l15)))])) _
    refine XS.iconst X50.here hx rfl (hb hby at_329) ?_
    show Steps p.tables e below (T50.setTop (mkF m 330 #[.val (.long x0), .second, .val (.long x1), .second, .val (.long x2), .second, .val (.long x3), .second, .val (.long x4), .second, .val (.int x5), .val (.ref v), .val (.int ct), .val (.int md), .val (.int ki), .val (.long m30_l15), .second, .val (.long m32_s0), .second, .val (.ref bw), .unset] [(.int (2 : Int32)), (.ref v), (.int m51_s0), (.int ((own_le m47_s0 p15 m30_l15) + (own_le m49_s0 m21_V_v_1 m30_l15)))])) _
    refine own_ldJ X50 hx hZ e50 V_v_46 (j := (2 : Int32)) (w := m24_V_v_2) ⟨by decide, by decide⟩ rfl (g := (mkF m 330 #[.val (.long x0), .second, .val (.long x1), .second, .val (.long x2), .second, .val (.long x3), .second, .val (.long x4), .second, .val (.int x5), .val (.ref v), .val (.int ct), .val (.int md), .val (.int ki), .val (.long m30_l15), .second, .val (.long m32_s0), .second, .val (.ref bw), .unset] [(.int (2 : Int32)), (.ref v), (.int m51_s0), (.int ((own_le m47_s0 p15 m30_l15) + (own_le m49_s0 m21_V_v_1 m30_l15)))])) rfl rfl (hb hby at_330) ?_
    show Steps p.tables e below (T50.setTop (mkF m 331 #[.val (.long x0), .second, .val (.long x1), .second, .val (.long x2), .second, .val (.long x3), .second, .val (.long x4), .second, .val (.int x5), .val (.ref v), .val (.int ct), .val (.int md), .val (.int ki), .val (.long m30_l15), .second, .val (.long m32_s0), .second, .val (.ref bw), .unset] [(.long m24_V_v_2), (.int m51_s0), (.int ((own_le m47_s0 p15 m30_l15) + (own_le m49_s0 m21_V_v_1 m30_l15)))])) _
    refine XS.lload X50.here hx rfl (hb hby at_331) rfl ?_
    show Steps p.tables e below (T50.setTop (mkF m 333 #[.val (.long x0), .second, .val (.long x1), .second, .val (.long x2), .second, .val (.long x3), .second, .val (.long x4), .second, .val (.int x5), .val (.ref v), .val (.int ct), .val (.int md), .val (.int ki), .val (.long m30_l15), .second, .val (.long m32_s0), .second, .val (.ref bw), .unset] [(.long m30_l15), (.long m24_V_v_2), (.int m51_s0), (.int ((own_le m47_s0 p15 m30_l15) + (own_le m49_s0 m21_V_v_1 m30_l15)))])) _
    refine st52 _ ?_
    show Steps p.tables e below (T52.setTop (mkF m 336 #[.val (.long x0), .second, .val (.long x1), .second, .val (.long x2), .second, .val (.long x3), .second, .val (.long x4), .second, .val (.int x5), .val (.ref v), .val (.int ct), .val (.int md), .val (.int ki), .val (.long m30_l15), .second, .val (.long m32_s0), .second, .val (.ref bw), .unset] [(.int (own_le m51_s0 m24_V_v_2 m30_l15)), (.int ((own_le m47_s0 p15 m30_l15) + (own_le m49_s0 m21_V_v_1 m30_l15)))])) _
    refine XS.iadd X52.here hx rfl (hb hby at_336) rfl ?_
    show Steps p.tables e below (T52.setTop (mkF m 337 #[.val (.long x0), .second, .val (.long x1), .second, .val (.long x2), .second, .val (.long x3), .second, .val (.long x4), .second, .val (.int x5), .val (.ref v), .val (.int ct), .val (.int md), .val (.int ki), .val (.long m30_l15), .second, .val (.long m32_s0), .second, .val (.ref bw), .unset] [(.int (((own_le m47_s0 p15 m30_l15) + (own_le m49_s0 m21_V_v_1 m30_l15)) + (own_le m51_s0 m24_V_v_2 m30_l15)))])) _
    refine XS.iload X52.here hx rfl (hb hby at_337) rfl ?_
    show Steps p.tables e below (T52.setTop (mkF m 339 #[.val (.long x0), .second, .val (.long x1), .second, .val (.long x2), .second, .val (.long x3), .second, .val (.long x4), .second, .val (.int x5), .val (.ref v), .val (.int ct), .val (.int md), .val (.int ki), .val (.long m30_l15), .second, .val (.long m32_s0), .second, .val (.ref bw), .unset] [(.int ct), (.int (((own_le m47_s0 p15 m30_l15) + (own_le m49_s0 m21_V_v_1 m30_l15)) + (own_le m51_s0 m24_V_v_2 m30_l15)))])) _
    refine XS.iconst X52.here hx rfl (hb hby at_339) ?_
    show Steps p.tables e below (T52.setTop (mkF m 340 #[.val (.long x0), .second, .val (.long x1), .second, .val (.long x2), .second, .val (.long x3), .second, .val (.long x4), .second, .val (.int x5), .val (.ref v), .val (.int ct), .val (.int md), .val (.int ki), .val (.long m30_l15), .second, .val (.long m32_s0), .second, .val (.ref bw), .unset] [(.int (3 : Int32)), (.int ct), (.int (((own_le m47_s0 p15 m30_l15) + (own_le m49_s0 m21_V_v_1 m30_l15)) + (own_le m51_s0 m24_V_v_2 m30_l15)))])) _
    have k53 : ∀ (m53_s0 : Int32) t, ((3 : Int32) < ct → m53_s0 = (1 : Int32)) → (¬ ((3 : Int32) < ct) → m53_s0 = (0 : Int32)) → Steps p.tables e below (T52.setTop (mkF m 348 #[.val (.long x0), .second, .val (.long x1), .second, .val (.long x2), .second, .val (.long x3), .second, .val (.long x4), .second, .val (.int x5), .val (.ref v), .val (.int ct), .val (.int md), .val (.int ki), .val (.long m30_l15), .second, .val (.long m32_s0), .second, .val (.ref bw), .unset] [(.int m53_s0), (.int (((own_le m47_s0 p15 m30_l15) + (own_le m49_s0 m21_V_v_1 m30_l15)) + (own_le m51_s0 m24_V_v_2 m30_l15)))])) t → Steps p.tables e below (T52.setTop (mkF m 340 #[.val (.long x0), .second, .val (.long x1), .second, .val (.long x2), .second, .val (.long x3), .second, .val (.long x4), .second, .val (.int x5), .val (.ref v), .val (.int ct), .val (.int md), .val (.int ki), .val (.long m30_l15), .second, .val (.long m32_s0), .second, .val (.ref bw), .unset] [(.int (3 : Int32)), (.int ct), (.int (((own_le m47_s0 p15 m30_l15) + (own_le m49_s0 m21_V_v_1 m30_l15)) + (own_le m51_s0 m24_V_v_2 m30_l15)))])) t := by
      intro m53_s0 t hAm53_s0 hBm53_s0 kk
      by_cases hq340 : (3 : Int32) < ct
      · rw [hAm53_s0 hq340] at kk
        refine XS.icmpNo X52.here hx rfl (hb hby at_340) rfl (tlt hq340).2.2.2 ?_
        show Steps p.tables e below (T52.setTop (mkF m 343 #[.val (.long x0), .second, .val (.long x1), .second, .val (.long x2), .second, .val (.long x3), .second, .val (.long x4), .second, .val (.int x5), .val (.ref v), .val (.int ct), .val (.int md), .val (.int ki), .val (.long m30_l15), .second, .val (.long m32_s0), .second, .val (.ref bw), .unset] [(.int (((own_le m47_s0 p15 m30_l15) + (own_le m49_s0 m21_V_v_1 m30_l15)) + (own_le m51_s0 m24_V_v_2 m30_l15)))])) _
        refine XS.iconst X52.here hx rfl (hb hby at_343) ?_
        show Steps p.tables e below (T52.setTop (mkF m 344 #[.val (.long x0), .second, .val (.long x1), .second, .val (.long x2), .second, .val (.long x3), .second, .val (.long x4), .second, .val (.int x5), .val (.ref v), .val (.int ct), .val (.int md), .val (.int ki), .val (.long m30_l15), .second, .val (.long m32_s0), .second, .val (.ref bw), .unset] [(.int (1 : Int32)), (.int (((own_le m47_s0 p15 m30_l15) + (own_le m49_s0 m21_V_v_1 m30_l15)) + (own_le m51_s0 m24_V_v_2 m30_l15)))])) _
        refine XS.goto X52.here hx rfl (pc0 := 344) (pc' := 348) rfl (hb hby at_344) (by decide) (by decide) ?_
        exact kk
      · rw [hBm53_s0 hq340] at kk
        refine XS.icmpYes X52.here hx rfl (pc0 := 340) (pc' := 347) rfl (hb hby at_340) rfl (flt hq340).2.2.2 (by decide) (by decide) ?_
        show Steps p.tables e below (T52.setTop (mkF m 347 #[.val (.long x0), .second, .val (.long x1), .second, .val (.long x2), .second, .val (.long x3), .second, .val (.long x4), .second, .val (.int x5), .val (.ref v), .val (.int ct), .val (.int md), .val (.int ki), .val (.long m30_l15), .second, .val (.long m32_s0), .second, .val (.ref bw), .unset] [(.int (((own_le m47_s0 p15 m30_l15) + (own_le m49_s0 m21_V_v_1 m30_l15)) + (own_le m51_s0 m24_V_v_2 m30_l15)))])) _
        refine XS.iconst X52.here hx rfl (hb hby at_347) ?_
        exact kk
    refine k53 m53_s0 _ (fun h => by rw [em53_s0, if_pos h]) (fun h => by rw [em53_s0, if_neg h]) ?_
    show Steps p.tables e below (T52.setTop (mkF m 348 #[.val (.long x0), .second, .val (.long x1), .second, .val (.long x2), .second, .val (.long x3), .second, .val (.long x4), .second, .val (.int x5), .val (.ref v), .val (.int ct), .val (.int md), .val (.int ki), .val (.long m30_l15), .second, .val (.long m32_s0), .second, .val (.ref bw), .unset] [(.int m53_s0), (.int (((own_le m47_s0 p15 m30_l15) + (own_le m49_s0 m21_V_v_1 m30_l15)) + (own_le m51_s0 m24_V_v_2 m30_l15)))])) _
    refine XS.aload X52.here hx rfl (hb hby at_348) rfl rfl ?_
    show Steps p.tables e below (T52.setTop (mkF m 350 #[.val (.long x0), .second, .val (.long x1), .second, .val (.long x2), .second, .val (.long x3), .second, .val (.long x4), .second, .val (.int x5), .val (.ref v), .val (.int ct), .val (.int md), .val (.int ki), .val (.long m30_l15), .second, .val (.long m32_s0), .second, .val (.ref bw), .unset] [(.ref v), (.int m53_s0), (.int (((own_le m47_s0 p15 m30_l15) + (own_le m49_s0 m21_V_v_1 m30_l15)) + (own_le m51_s0 m24_V_v_2 m30_l15)))])) _
    refine XS.iconst X52.here hx rfl (hb hby at_350) ?_
    show Steps p.tables e below (T52.setTop (mkF m 351 #[.val (.long x0), .second, .val (.long x1), .second, .val (.long x2), .second, .val (.long x3), .second, .val (.long x4), .second, .val (.int x5), .val (.ref v), .val (.int ct), .val (.int md), .val (.int ki), .val (.long m30_l15), .second, .val (.long m32_s0), .second, .val (.ref bw), .unset] [(.int (3 : Int32)), (.ref v), (.int m53_s0), (.int (((own_le m47_s0 p15 m30_l15) + (own_le m49_s0 m21_V_v_1 m30_l15)) + (own_le m51_s0 m24_V_v_2 m30_l15)))])) _
    refine own_ldJ X52 hx hZ e52 V_v_46 (j := (3 : Int32)) (w := m27_V_v_3) ⟨by decide, by decide⟩ rfl (g := (mkF m 351 #[.val (.long x0), .second, .val (.long x1), .second, .val (.long x2), .second, .val (.long x3), .second, .val (.long x4), .second, .val (.int x5), .val (.ref v), .val (.int ct), .val (.int md), .val (.int ki), .val (.long m30_l15), .second, .val (.long m32_s0), .second, .val (.ref bw), .unset] [(.int (3 : Int32)), (.ref v), (.int m53_s0), (.int (((own_le m47_s0 p15 m30_l15) + (own_le m49_s0 m21_V_v_1 m30_l15)) + (own_le m51_s0 m24_V_v_2 m30_l15)))])) rfl rfl (hb hby at_351) ?_
    show Steps p.tables e below (T52.setTop (mkF m 352 #[.val (.long x0), .second, .val (.long x1), .second, .val (.long x2), .second, .val (.long x3), .second, .val (.long x4), .second, .val (.int x5), .val (.ref v), .val (.int ct), .val (.int md), .val (.int ki), .val (.long m30_l15), .second, .val (.long m32_s0), .second, .val (.ref bw), .unset] [(.long m27_V_v_3), (.int m53_s0), (.int (((own_le m47_s0 p15 m30_l15) + (own_le m49_s0 m21_V_v_1 m30_l15)) + (own_le m51_s0 m24_V_v_2 m30_l15)))])) _
    refine XS.lload X52.here hx rfl (hb hby at_352) rfl ?_
    show Steps p.tables e below (T52.setTop (mkF m 354 #[.val (.long x0), .second, .val (.long x1), .second, .val (.long x2), .second, .val (.long x3), .second, .val (.long x4), .second, .val (.int x5), .val (.ref v), .val (.int ct), .val (.int md), .val (.int ki), .val (.long m30_l15), .second, .val (.long m32_s0), .second, .val (.ref bw), .unset] [(.long m30_l15), (.long m27_V_v_3), (.int m53_s0), (.int (((own_le m47_s0 p15 m30_l15) + (own_le m49_s0 m21_V_v_1 m30_l15)) + (own_le m51_s0 m24_V_v_2 m30_l15)))])) _
    refine st54 _ ?_
    show Steps p.tables e below (T54.setTop (mkF m 357 #[.val (.long x0), .second, .val (.long x1), .second, .val (.long x2), .second, .val (.long x3), .second, .val (.long x4), .second, .val (.int x5), .val (.ref v), .val (.int ct), .val (.int md), .val (.int ki), .val (.long m30_l15), .second, .val (.long m32_s0), .second, .val (.ref bw), .unset] [(.int (own_le m53_s0 m27_V_v_3 m30_l15)), (.int (((own_le m47_s0 p15 m30_l15) + (own_le m49_s0 m21_V_v_1 m30_l15)) + (own_le m51_s0 m24_V_v_2 m30_l15)))])) _
    refine XS.iadd X54.here hx rfl (hb hby at_357) rfl ?_
    show Steps p.tables e below (T54.setTop (mkF m 358 #[.val (.long x0), .second, .val (.long x1), .second, .val (.long x2), .second, .val (.long x3), .second, .val (.long x4), .second, .val (.int x5), .val (.ref v), .val (.int ct), .val (.int md), .val (.int ki), .val (.long m30_l15), .second, .val (.long m32_s0), .second, .val (.ref bw), .unset] [(.int ((((own_le m47_s0 p15 m30_l15) + (own_le m49_s0 m21_V_v_1 m30_l15)) + (own_le m51_s0 m24_V_v_2 m30_l15)) + (own_le m53_s0 m27_V_v_3 m30_l15)))])) _
    rw [← e_xp]
    show Steps p.tables e below (T54.setTop (mkF m 358 #[.val (.long x0), .second, .val (.long x1), .second, .val (.long x2), .second, .val (.long x3), .second, .val (.long x4), .second, .val (.int x5), .val (.ref v), .val (.int ct), .val (.int md), .val (.int ki), .val (.long m30_l15), .second, .val (.long m32_s0), .second, .val (.ref bw), .unset] [(.int xp)])) _
    refine XS.istore X54.here hx rfl (hb hby at_358) rfl (l' := #[.val (.long x0), .second, .val (.long x1), .second, .val (.long x2), .second, .val (.long x3), .second, .val (.long x4), .second, .val (.int x5), .val (.ref v), .val (.int ct), .val (.int md), .val (.int ki), .val (.long m30_l15), .second, .val (.long m32_s0), .second, .val (.ref bw), .val (.int xp)]) rfl ?_
    show Steps p.tables e below (T54.setTop (mkF m 360 #[.val (.long x0), .second, .val (.long x1), .second, .val (.long x2), .second, .val (.long x3), .second, .val (.long x4), .second, .val (.int x5), .val (.ref v), .val (.int ct), .val (.int md), .val (.int ki), .val (.long m30_l15), .second, .val (.long m32_s0), .second, .val (.ref bw), .val (.int xp)] [])) _
    refine XS.aload X54.here hx rfl (hb hby at_360) rfl rfl ?_
    show Steps p.tables e below (T54.setTop (mkF m 362 #[.val (.long x0), .second, .val (.long x1), .second, .val (.long x2), .second, .val (.long x3), .second, .val (.long x4), .second, .val (.int x5), .val (.ref v), .val (.int ct), .val (.int md), .val (.int ki), .val (.long m30_l15), .second, .val (.long m32_s0), .second, .val (.ref bw), .val (.int xp)] [(.ref bw)])) _
    refine XS.iload X54.here hx rfl (hb hby at_362) rfl ?_
    show Steps p.tables e below (T54.setTop (mkF m 364 #[.val (.long x0), .second, .val (.long x1), .second, .val (.long x2), .second, .val (.long x3), .second, .val (.long x4), .second, .val (.int x5), .val (.ref v), .val (.int ct), .val (.int md), .val (.int ki), .val (.long m30_l15), .second, .val (.long m32_s0), .second, .val (.ref bw), .val (.int xp)] [(.int ct), (.ref bw)])) _
    refine XS.lload X54.here hx rfl (hb hby at_364) rfl ?_
    show Steps p.tables e below (T54.setTop (mkF m 366 #[.val (.long x0), .second, .val (.long x1), .second, .val (.long x2), .second, .val (.long x3), .second, .val (.long x4), .second, .val (.int x5), .val (.ref v), .val (.int ct), .val (.int md), .val (.int ki), .val (.long m30_l15), .second, .val (.long m32_s0), .second, .val (.ref bw), .val (.int xp)] [(.long m30_l15), (.int ct), (.ref bw)])) _
    refine st55 _ ?_
    show Steps p.tables e below (T55.setTop (mkF m 369 #[.val (.long x0), .second, .val (.long x1), .second, .val (.long x2), .second, .val (.long x3), .second, .val (.long x4), .second, .val (.int x5), .val (.ref v), .val (.int ct), .val (.int md), .val (.int ki), .val (.long m30_l15), .second, .val (.long m32_s0), .second, .val (.ref bw), .val (.int xp)] [(.int (own_ia ct m35_s0 m38_s0 m41_s0 m44_s0 m30_l15))])) _
    refine XS.iload X55.here hx rfl (hb hby at_369) rfl ?_
    show Steps p.tables e below (T55.setTop (mkF m 371 #[.val (.long x0), .second, .val (.long x1), .second, .val (.long x2), .second, .val (.long x3), .second, .val (.long x4), .second, .val (.int x5), .val (.ref v), .val (.int ct), .val (.int md), .val (.int ki), .val (.long m30_l15), .second, .val (.long m32_s0), .second, .val (.ref bw), .val (.int xp)] [(.int xp), (.int (own_ia ct m35_s0 m38_s0 m41_s0 m44_s0 m30_l15))])) _
    refine XS.icmpNo X55.here hx rfl (hb hby at_371) rfl (teq hfin).2 ?_
    show Steps p.tables e below (T55.setTop (mkF m 374 #[.val (.long x0), .second, .val (.long x1), .second, .val (.long x2), .second, .val (.long x3), .second, .val (.long x4), .second, .val (.int x5), .val (.ref v), .val (.int ct), .val (.int md), .val (.int ki), .val (.long m30_l15), .second, .val (.long m32_s0), .second, .val (.ref bw), .val (.int xp)] [])) _
    refine XS.iconst X55.here hx rfl (hb hby at_374) ?_
    show Steps p.tables e below (T55.setTop (mkF m 375 #[.val (.long x0), .second, .val (.long x1), .second, .val (.long x2), .second, .val (.long x3), .second, .val (.long x4), .second, .val (.int x5), .val (.ref v), .val (.int ct), .val (.int md), .val (.int ki), .val (.long m30_l15), .second, .val (.long m32_s0), .second, .val (.ref bw), .val (.int xp)] [(.int (1 : Int32))])) _
    refine XS.goto X55.here hx rfl (pc0 := 375) (pc' := 379) rfl (hb hby at_375) (by decide) (by decide) ?_
    show Steps p.tables e below (T55.setTop (mkF m 379 #[.val (.long x0), .second, .val (.long x1), .second, .val (.long x2), .second, .val (.long x3), .second, .val (.long x4), .second, .val (.int x5), .val (.ref v), .val (.int ct), .val (.int md), .val (.int ki), .val (.long m30_l15), .second, .val (.long m32_s0), .second, .val (.ref bw), .val (.int xp)] [(.int (1 : Int32))])) _
    exact retN X55 hx (t := .boolean) Bd.returns (by simp) (hb hby at_379) hr
  · exact ⟨rfl, N55⟩
set_option maxRecDepth 65536 in
set_option maxHeartbeats 40000000 in
theorem comes_1 {Post : Tables → Env → Array Value → State → Outcome → State → Prop} (hpost : ∀ tb e args s v u, (limb_1_1.after args s (.returned v) u = true ∧ limb_1_2.after args s (.returned v) u = true ∧ True) → FrameEnd s (.returned v) u (Jvm.fieldLocs frame_1_writes args s ++ Jvm.arrayLocs frame_1_arrays args s ++ Jvm.staticLocs frame_1_statics s) 16 128 → Post tb e args s (.returned v) u) :
    ArmFor flags0 classFile x code maxLocals ret World_1 tables_1 room_1 Calls_1 rest_1 Pre_1 Post := by
  intro l hfl _ _ p e ha hc hk s m args below hf hA hF happ hP
  obtain ⟨hcalls, hrest, hpre⟩ := hP
  obtain ⟨-, -, -, hnamed, -, -, -, hat⟩ := (Spec.applies_iff hf).mp happ
  obtain ⟨hg, hn⟩ := and_e (Cond.before_iff.mp (show (Jvm.Cond.and given_1 narrow_1).before args s = true from hpre))
  obtain ⟨g1, g2⟩ := and_e hg
  obtain ⟨g3, g4⟩ := and_e g2
  obtain ⟨g5, g6⟩ := and_e g4
  obtain ⟨g7, g8⟩ := and_e g6
  obtain ⟨g9, g10⟩ := and_e g8
  obtain ⟨g11, g12⟩ := and_e g10
  obtain ⟨w0, w1, w2, w3, w4, w5, rfl⟩ : ∃ w0 w1 w2 w3 w4 w5 : Value, args = #[w0, w1, w2, w3, w4, w5] := by
    have hs : args.size = 6 := by simpa [Cond.value, given_1] using g1
    obtain ⟨L⟩ := args
    match L, hs with
    | [w0, w1, w2, w3, w4, w5], _ => exact ⟨w0, w1, w2, w3, w4, w5, rfl⟩
  have hw := fun d (hd : d ∈ tables_1) => atoms_spec (ws := Jvm.Cond.code x code maxLocals ret :: tables_1) hat d (List.mem_cons_of_mem _ hd)
  have hfit : Fit s := fun {y c} hc i hi => by
    obtain ⟨ha, rfl⟩ := Array.getElem?_eq_some_iff.mp hc
    have q := List.all_eq_true.mp ((Array.all_eq_true_iff_forall_mem.mp hF) _ (Array.getElem_mem ha)) i (List.mem_range.mpr hi)
    simpa [Array.getElem?_eq_getElem hi] using q
  obtain ⟨i0, ei0⟩ := isL_v g3
  obtain rfl : w0 = (.long i0) := Option.some.inj ei0
  obtain ⟨i1, ei1⟩ := isL_v g5
  obtain rfl : w1 = (.long i1) := Option.some.inj ei1
  obtain ⟨i2, ei2⟩ := isL_v g7
  obtain rfl : w2 = (.long i2) := Option.some.inj ei2
  obtain ⟨i3, ei3⟩ := isL_v g9
  obtain rfl : w3 = (.long i3) := Option.some.inj ei3
  obtain ⟨i4, ei4⟩ := isL_v g11
  obtain rfl : w4 = (.long i4) := Option.some.inj ei4
  obtain ⟨i5, ei5⟩ := is_v g12
  obtain rfl : w5 = (.int i5) := Option.some.inj ei5
  obtain ⟨n, o, h1, h2, h3, _, L, rfl, ⟨rfl, N⟩, hq⟩ := rm0 l s _ hw tables_1 i0 i1 i2 i3 i4 i5  s.heap s.heap.size (Nat.le_refl _)  p e ha hc hk s m _ below hf ((Spec.applies_iff_loose hf).mp happ).1 ⟨rfl, State.Warmed39.refl s, rfl⟩ trivial
  refine ⟨n, _, h1, h2, h3, hpost _ _ _ _ _ _ ⟨Cond.after_iff.mpr rfl, Cond.after_iff.mpr (eq_i res_at (Term.int_eval (1)) rfl), trivial⟩ ⟨hq.1, hq.2.1, (hq.2.2.sift fun y hy => Or.inr (N y hy)).mono (by decide) (by decide)⟩⟩
theorem main_1_1 : Claimed_1_1 := comes_1 fun _ _ _ _ _ _ h hF => ⟨h.1, hF⟩
theorem main_1_2 : Claimed_1_2 := comes_1 fun _ _ _ _ _ _ h hF => ⟨h.2.1, hF⟩
end Jvm.Pilot.@@N@@
namespace Jvm.Pilot.@@N@@
open Jvm Jvm.ClassFile Sem Op Lib Jvm.Free Jvm.Stand Jvm.Pilot.@@N@@.Jvm.D
/-! MADE BY PROGRAM (witnessworld.py) out of the Statement's table words and the real class files: 11 classes; the members and pool entries that the words name. The judged class is class 1, her method 3. -/
namespace start1
open Jvm.ClassFile
def u (s : String) : CpInfo := .utf8 (stringToUtf16 s)
/-- a pool by its gaps: so many unusable entries, then the entry; so many at the end -/
def gap : Nat → List CpInfo → List CpInfo
  | 0, r => r
  | n + 1, r => .unusable :: gap n r
def poolList (es : List (Nat × CpInfo)) (last : Nat) : List CpInfo := es.foldr (fun e r => gap e.1 (e.2 :: r)) (gap last [])
def pool (es : List (Nat × CpInfo)) (last : Nat) : Array CpInfo := ⟨poolList es last⟩
def fileOf (pool : Array CpInfo) (this : Nat) (attrs : Array Attribute := #[]) (ms : Array MethodInfo := #[]) (fl : Nat := 33) (sup : Nat := 0) (ifs : Array Nat := #[]) (fds : Array FieldInfo := #[]) : ClassFile where
  minorVersion := 0
  majorVersion := 65
  constantPool := pool
  accessFlags := fl
  thisClass := this
  superClass := sup
  interfaces := ifs
  fields := fds
  methods := ms
  attributes := attrs
def plain (name : String) (sup : Option ClassId) : Class where
  name := name
  kind := .ordinary
  loader := none
  accessFlags := 33
  super := sup
  interfaces := #[]
  cf := none
  fields := #[]
  methods := #[]
  instanceTypes := #[]
  staticTypes := #[]
  resolved := #[]
  callSites := []
  init := .initialized
  statics := none
  mirror := none

def pool0 : Array CpInfo := pool [(5, u "<init>"), (0, u "()V"), (1, .class_ 10), (1, u "java/lang/Object")] 113

def k0m0 : Method := { name := "<init>", desc := "()V", sig := { parameters := [], returnType := none }, accessFlags := 1, code := none }
/-- java/lang/Object -/
def k0 : Class := { plain "java/lang/Object" none with
  accessFlags := 33
  interfaces := #[]
  cf := some (fileOf pool0 8 #[] #[{ accessFlags := 1, nameIndex := 5, descriptorIndex := 6, attributes := #[] }] 33 0 #[] #[])
  fields := #[]
  methods := #[k0m0]
  instanceTypes := #[]
  staticTypes := #[]
  resolved := Array.replicate 124 none
  statics := none }

def pool1 : Array CpInfo := pool [(2, .class_ 4), (1, u "java/lang/Object"), (0, u "<init>"), (0, u "()V"), (0, .methodref 8 9), (0, .class_ 10), (0, .nameAndType 11 12), (0, u "com/example/rootline/rootline/heap/ClassObjectsIndexAbovePinLaw"), (0, u "sw"), (0, u "([JII)V"), (2, .long 9223372036854775807), (1, .long 9223372036854775808), (1, .methodref 8 20), (0, .nameAndType 21 22), (0, u "le"), (0, u "(ZJJ)I"), (0, .methodref 24 25), (0, .class_ 26), (0, .nameAndType 27 28), (0, u "com/example/rootline/rootline/heap/ClassObjects"), (0, u "indexAbove"), (0, u "([JIJ)I"), (3, u "law"), (0, u "(JJJJJI)Z")] 4

def k1m0 : Method := { name := "<init>", desc := "()V", sig := { parameters := [], returnType := none }, accessFlags := 1, code := none }
def k1c1 : Code := { maxStack := 4, maxLocals := 5, code := method_2_code, exceptionTable := #[], attributes := #[] }
def k1m1 : Method := { name := "sw", desc := "([JII)V", sig := { parameters := [(.array .long), .int, .int], returnType := none }, accessFlags := 10, code := some k1c1 }
def k1c2 : Code := { maxStack := 4, maxLocals := 5, code := method_3_code, exceptionTable := #[], attributes := #[] }
def k1m2 : Method := { name := "le", desc := "(ZJJ)I", sig := { parameters := [.boolean, .long, .long], returnType := some .int }, accessFlags := 10, code := some k1c2 }
def k1c3 : Code := { maxStack := 6, maxLocals := 21, code := code, exceptionTable := #[], attributes := #[] }
def k1m3 : Method := { name := "law", desc := "(JJJJJI)Z", sig := { parameters := [.long, .long, .long, .long, .long, .int], returnType := some .boolean }, accessFlags := 9, code := some k1c3 }
/-- com/example/rootline/rootline/heap/ClassObjectsIndexAbovePinLaw -/
def k1 : Class := { plain "com/example/rootline/rootline/heap/ClassObjectsIndexAbovePinLaw" (some 0) with
  accessFlags := 49
  interfaces := #[]
  cf := some (fileOf pool1 8 #[] #[{ accessFlags := 1, nameIndex := 5, descriptorIndex := 6, attributes := #[] }, { accessFlags := 10, nameIndex := 11, descriptorIndex := 12, attributes := #[] }, { accessFlags := 10, nameIndex := 21, descriptorIndex := 22, attributes := #[] }, { accessFlags := 9, nameIndex := 32, descriptorIndex := 33, attributes := #[] }] 49 2 #[] #[])
  fields := #[]
  methods := #[k1m0, k1m1, k1m2, k1m3]
  instanceTypes := #[]
  staticTypes := #[]
  resolved := Array.replicate 38 none
  statics := none }

def pool2 : Array CpInfo := pool [(2, .class_ 4), (1, u "java/lang/Object"), (0, u "<init>"), (0, u "()V"), (1, .class_ 10), (1, u "com/example/rootline/rootline/heap/ClassObjects"), (0, u "ids"), (0, u "[J"), (2, u "sorted"), (0, u "Z"), (2, u "count"), (0, u "I"), (18, u "indexAbove"), (11, u "([JIJ)I")] 40

def k2m0 : Method := { name := "<init>", desc := "()V", sig := { parameters := [], returnType := none }, accessFlags := 0, code := none }
def k2c1 : Code := { maxStack := 4, maxLocals := 7, code := prog_88_method_6_code, exceptionTable := #[], attributes := #[] }
def k2m1 : Method := { name := "indexAbove", desc := "([JIJ)I", sig := { parameters := [(.array .long), .int, .long], returnType := some .int }, accessFlags := 8, code := some k2c1 }
/-- com/example/rootline/rootline/heap/ClassObjects -/
def k2 : Class := { plain "com/example/rootline/rootline/heap/ClassObjects" (some 0) with
  accessFlags := 48
  interfaces := #[]
  cf := some (fileOf pool2 8 #[] #[{ accessFlags := 0, nameIndex := 5, descriptorIndex := 6, attributes := #[] }, { accessFlags := 8, nameIndex := 39, descriptorIndex := 51, attributes := #[] }] 48 2 #[] #[{ accessFlags := 2, nameIndex := 11, descriptorIndex := 12, attributes := #[] }, { accessFlags := 2, nameIndex := 19, descriptorIndex := 20, attributes := #[] }, { accessFlags := 2, nameIndex := 15, descriptorIndex := 16, attributes := #[] }])
  fields := #[{ name := "ids", type := (.array .long), accessFlags := 2, slot := 0, constantValue := 0 }, { name := "count", type := .int, accessFlags := 2, slot := 1, constantValue := 0 }, { name := "sorted", type := .boolean, accessFlags := 2, slot := 2, constantValue := 0 }]
  methods := #[k2m0, k2m1]
  instanceTypes := #[(.array .long), .int, .boolean]
  staticTypes := #[]
  resolved := Array.replicate 92 none
  statics := none }

def pool3 : Array CpInfo := pool [(1, u "java/lang/Cloneable"), (0, .class_ 1), (0, u "java/lang/Object"), (0, .class_ 3)] 3

/-- java/lang/Cloneable -/
def k3 : Class := { plain "java/lang/Cloneable" (some 0) with
  accessFlags := 1537
  interfaces := #[]
  cf := some (fileOf pool3 2 #[] #[] 1537 4 #[] #[])
  fields := #[]
  methods := #[]
  instanceTypes := #[]
  staticTypes := #[]
  resolved := Array.replicate 8 none
  statics := none }

def pool4 : Array CpInfo := pool [(1, u "java/io/Serializable"), (0, .class_ 1), (0, u "java/lang/Object"), (0, .class_ 3)] 3

/-- java/io/Serializable -/
def k4 : Class := { plain "java/io/Serializable" (some 0) with
  accessFlags := 1537
  interfaces := #[]
  cf := some (fileOf pool4 2 #[] #[] 1537 4 #[] #[])
  fields := #[]
  methods := #[]
  instanceTypes := #[]
  staticTypes := #[]
  resolved := Array.replicate 8 none
  statics := none }

/-- the primitive byte -/
def k5 : Class := { plain "byte" none with kind := .primitive 'B', accessFlags := 0x411 }
/-- [B -/
def k6 : Class := { plain "[B" (some 0) with kind := .array 5 .byte, interfaces := #[3, 4], accessFlags := 1041 }

/-- the primitive int -/
def k7 : Class := { plain "int" none with kind := .primitive 'I', accessFlags := 0x411 }
/-- [I -/
def k8 : Class := { plain "[I" (some 0) with kind := .array 7 .int, interfaces := #[3, 4], accessFlags := 1041 }

/-- the primitive long -/
def k9 : Class := { plain "long" none with kind := .primitive 'J', accessFlags := 0x411 }
/-- [J -/
def k10 : Class := { plain "[J" (some 0) with kind := .array 9 .long, interfaces := #[3, 4], accessFlags := 1041 }

def heap : Heap := #[]
def classes : Array Class := #[k0, k1, k2, k3, k4, k5, k6, k7, k8, k9, k10]
def interned : List (Array UInt16 × Addr) := []
def slotsUsed : Nat := 0
def theMethod : MethodId := ⟨1, 3⟩
def args0 : Array Value := #[.long 5, .long 7, .long 1, .long 9, .long 6, .int 3]
def aboutOver (below : List Frame) : State where
  vm := { classes := classes, interned := interned.toArray }
  heap := heap
  slotsUsed := slotsUsed
  threads := #[{ frames := .invoking theMethod args0 :: below }]
def below0 : List Frame := [.native { method := ⟨0, 0⟩, args := #[] }]
def about1 : State := aboutOver below0
def p0 : Program := .bare "" "" ""
def e0 : Env := launch0.env 0 0 0
theorem w_frames : about1.frames = Frame.invoking theMethod args0 :: below0 := rfl
set_option maxRecDepth 65536 in
theorem w_args : argsFit about1.vm theMethod args0 = true := by decide +kernel
set_option maxRecDepth 65536 in
theorem w_heap : heapFits about1 = true := by decide +kernel
set_option maxRecDepth 65536 in
theorem w_runnable : about1.curStatus? = some .runnable := by decide +kernel
set_option maxRecDepth 65536 in
theorem w_alone : about1.alone = true := by decide +kernel
set_option maxRecDepth 65536 in
theorem w_named : about1.methodNamed? x = some theMethod := by decide +kernel
set_option maxRecDepth 65536 in
theorem w_hears : about1.hears theMethod below0 = true := by decide +kernel
set_option maxRecDepth 65536 in
theorem w_ripe : about1.ripe theMethod args0 below0 = true := by decide +kernel
theorem w_running : about1.status = .running := rfl
set_option maxRecDepth 65536 in
theorem w_room : about1.hasRoom e0.platform room_1 = true :=
  launch0.hasRoom_least _ room_1 (by decide +kernel) (by decide +kernel) (by decide +kernel) (by decide +kernel) (by decide +kernel) (by decide +kernel)
theorem allAtoms_all (ts : List Jvm.Cond) (a : Array Jvm.Value) (st : Jvm.State) : (allAtoms ts).before a st = ts.all (fun c => c.before a st) := by
  induction ts with
  | nil => rfl
  | cons c t ih =>
    show (Jvm.Cond.and c (allAtoms t)).before a st = _
    rw [Jvm.Cond.before_and, ih, List.all_cons]
def words1 : List Jvm.Cond := Jvm.Cond.code x code maxLocals ret :: tables_1
/-- a 'code' word, met by the world's own term for the bytes: nothing is compared byte by byte -/
theorem code_word {y : MethodName} {bytes : ByteArray} {mx : Nat} {rt : Option FieldType} {a : Array Value} {s : State} {m : MethodId} {meth : Method} {c : Code} (h1 : s.methodNamed? y = some m) (h2 : s.vm.method? m = some meth) (h3 : meth.code = some c) (h4 : c.code = bytes)
    (h5 : (c.maxLocals == mx && c.exceptionTable.isEmpty && decide (c.maxStack ≤ mostOperands) && decide (meth.sig.returnType = rt) && !meth.locks && decide (parseMethodDescriptor y.desc = some meth.sig)) = true) : (Jvm.Cond.code y bytes mx rt).before a s = true := by
  simp only [Bool.and_eq_true, beq_iff_eq, Bool.not_eq_true', decide_eq_true_eq] at h5
  obtain ⟨⟨⟨⟨⟨g1, g2⟩, g3⟩, g4⟩, g5⟩, g6⟩ := h5
  simp [Cond.before, Cond.holds, Cond.value, h1, h2, h3, h4, g1, g2, g3, g4, g5, g6]
def isCode : Jvm.Cond → Bool
  | .code _ _ _ _ => true
  | _ => false
theorem all_split {L : List Jvm.Cond} {P : Jvm.Cond → Bool} (h1 : L.all (fun c => isCode c || P c) = true) (h2 : ∀ c ∈ L.filter isCode, P c = true) : L.all P = true := by
  refine List.all_eq_true.mpr fun c hc => ?_
  have h := List.all_eq_true.mp h1 c hc
  rcases Bool.eq_false_or_eq_true (isCode c) with hi | hi
  · exact h2 c (List.mem_filter.mpr ⟨hc, hi⟩)
  · simpa [hi] using h
set_option maxRecDepth 65536 in
theorem w_c0 : (Jvm.Cond.code x code maxLocals ret).before args0 about1 = true := code_word (m := ⟨1, 3⟩) (meth := k1m3) (c := k1c3) (by decide +kernel) rfl rfl rfl (by decide +kernel)
set_option maxRecDepth 65536 in
theorem w_c1 : (Jvm.Cond.code ({ cls := "com/example/rootline/rootline/heap/ClassObjectsIndexAbovePinLaw", name := "sw", desc := "([JII)V" } : Jvm.MethodName) method_2_code (5 : Nat) (Option.none : Option Jvm.ClassFile.FieldType)).before args0 about1 = true := code_word (m := ⟨1, 1⟩) (meth := k1m1) (c := k1c1) (by decide +kernel) rfl rfl rfl (by decide +kernel)
set_option maxRecDepth 65536 in
theorem w_c2 : (Jvm.Cond.code ({ cls := "com/example/rootline/rootline/heap/ClassObjectsIndexAbovePinLaw", name := "le", desc := "(ZJJ)I" } : Jvm.MethodName) method_3_code (5 : Nat) (Option.some Jvm.ClassFile.FieldType.int)).before args0 about1 = true := code_word (m := ⟨1, 2⟩) (meth := k1m2) (c := k1c2) (by decide +kernel) rfl rfl rfl (by decide +kernel)
set_option maxRecDepth 65536 in
theorem w_c3 : (Jvm.Cond.code ({ cls := "com/example/rootline/rootline/heap/ClassObjects", name := "indexAbove", desc := "([JIJ)I" } : Jvm.MethodName) prog_88_method_6_code (7 : Nat) (Option.some Jvm.ClassFile.FieldType.int)).before args0 about1 = true := code_word (m := ⟨2, 1⟩) (meth := k2m1) (c := k2c1) (by decide +kernel) rfl rfl rfl (by decide +kernel)
def codes1 : List Jvm.Cond := [Jvm.Cond.code x code maxLocals ret, Jvm.Cond.code ({ cls := "com/example/rootline/rootline/heap/ClassObjectsIndexAbovePinLaw", name := "sw", desc := "([JII)V" } : Jvm.MethodName) method_2_code (5 : Nat) (Option.none : Option Jvm.ClassFile.FieldType), Jvm.Cond.code ({ cls := "com/example/rootline/rootline/heap/ClassObjectsIndexAbovePinLaw", name := "le", desc := "(ZJJ)I" } : Jvm.MethodName) method_3_code (5 : Nat) (Option.some Jvm.ClassFile.FieldType.int), Jvm.Cond.code ({ cls := "com/example/rootline/rootline/heap/ClassObjects", name := "indexAbove", desc := "([JIJ)I" } : Jvm.MethodName) prog_88_method_6_code (7 : Nat) (Option.some Jvm.ClassFile.FieldType.int)]
set_option maxRecDepth 65536 in
theorem codes_eq : words1.filter isCode = codes1 := rfl
theorem w_codes : ∀ c ∈ words1.filter isCode, c.before args0 about1 = true := by
  rw [codes_eq]
  intro c hc
  simp only [codes1, List.mem_cons, List.not_mem_nil, or_false] at hc
  rcases hc with rfl | rfl | rfl | rfl
  · exact w_c0
  · exact w_c1
  · exact w_c2
  · exact w_c3
set_option maxRecDepth 65536 in
theorem w_t1 : words1.all (fun c => isCode c || c.before args0 about1) = true := by decide +kernel
theorem w_tables : (allAtoms (Jvm.Cond.code x code maxLocals ret :: tables_1)).before args0 about1 = true := by
  rw [allAtoms_all]
  show words1.all (fun c => c.before args0 about1) = true
  refine all_split ?_ w_codes
  rw [w_t1]
set_option maxRecDepth 65536 in
theorem w_case : (Jvm.Cond.and given_1 narrow_1).before args0 about1 = true := by decide +kernel
theorem w_applies : (headSpec (Jvm.Cond.code x code maxLocals ret :: tables_1) room_1).applies x e0.platform about1 = true :=
  (Spec.applies_iff w_frames).mpr ⟨w_running, w_runnable, w_alone, w_named, w_hears, w_ripe, w_room, w_tables⟩
theorem atStart : AtStart classFile x code maxLocals ret World_1 tables_1 room_1 Calls_1 rest_1 Pre_1 launch0 p0 e0 about1 theMethod args0 below0 :=
  ⟨lists_1, trivial, launch0.admits_env _ _ _, launch0.least_env, fairChoices_fair.cas, fairChoices_fair.clock, w_frames, w_args, w_heap, w_applies, trivial, trivial, w_case⟩
end start1
theorem witness_1 : WitnessClaimed_1 := ⟨start1.p0, start1.e0, start1.about1, start1.theMethod, start1.args0, start1.below0, start1.atStart⟩
end Jvm.Pilot.@@N@@
