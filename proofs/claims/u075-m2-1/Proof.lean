import JvmDerived
import JvmDerived.Pilot.@@N@@Statement
import JvmDerived.Pilot.@@N@@Code
set_option linter.unusedVariables false
set_option linter.unusedSimpArgs false
namespace Jvm.RoadKit
open Sem ClassFile Op Lib Jvm.Stand Jvm.Free Jvm.LawKit
section New
variable {p : Program} {l : Launch} {e : Env} {R : Room} {s : State} {m : MethodId} {args : Array Value} {below : List Frame} {meth : Method} {c : Code} {T : State} {locs : List Loc} {cells slots : Nat}
theorem retI (X : Stand p l e R s m args below meth c T locs cells slots) (hx : p.tables.exec = Jvm.exec) {pc : Nat} {Ls : Array Slot} {z : Int32} {rest : List Value} (hret : meth.sig.returnType = some .int) (hd : decode c.code pc = .ok (.ireturn, 1)) {fs : List Frame}
    (hl : ∀ (f : JFrame) (acts : List Action), f.method = m → f.locked = none → f.entered = [] → (doReturn e (T.setTop f) acts (some (.int z))).1 = T.setFrames fs) : Steps p.tables e below (T.setTop (mkF m pc Ls (.int z :: rest))) (T.setFrames fs) := by
  have hm' : T.vm.method? m = some meth := X.method'
  have hn : narrow .int (.int z) = .int z := rfl
  show Steps p.tables e below (T.setTop { method := m, pc := pc, locals := Ls, stack := _ :: rest, locked := none }) _
  jvm_step X.here [X.here.top, hx, hd, hm', hret, hn]
  first | (intro acts; rw [hl _ acts rfl rfl rfl]) | rw [hl _ _ rfl rfl rfl]
  exact Steps.refl _
end New
end Jvm.RoadKit
namespace Jvm.Pilot.@@N@@
open Jvm Jvm.ClassFile Sem Op Lib Jvm.Free Jvm.Stand Jvm.LawKit Jvm.RoadKit Bundle Jvm.Pilot.@@N@@.Jvm.D
def QP (w : Option Value) (h0 : Heap) (n0 : Nat) (v : Option Value) (h : Heap) (L : List Loc) : Prop := v = w ∧ Fr n0 L ∧ h = h0
def QL (n0 : Nat) (v : Option Value) (h : Heap) (L : List Loc) : Prop := v = some (.int (1 : Int32)) ∧ Fr n0 L
def own_i (x t q : Int32) : Int32 := if x < t then x else ((x.toUInt32 >>> (q &&& 31).toUInt32).toInt32)
def own_n (x t n d : Int32) : Int32 := if x < t then n else n + d
def own_a1 (x : Int32) : Int32 := own_i x 65536 16
def own_a2 (x : Int32) : Int32 := own_i (own_a1 x) 256 8
def own_a3 (x : Int32) : Int32 := own_i (own_a2 x) 16 4
def own_a4 (x : Int32) : Int32 := own_i (own_a3 x) 4 2
def own_b1 (x : Int32) : Int32 := own_n x 65536 31 (-16)
def own_b2 (x : Int32) : Int32 := own_n (own_a1 x) 256 (own_b1 x) (-8)
def own_b3 (x : Int32) : Int32 := own_n (own_a2 x) 16 (own_b2 x) (-4)
def own_b4 (x : Int32) : Int32 := own_n (own_a3 x) 4 (own_b3 x) (-2)
def own_n32 (x : Int32) : Int32 := if (0 : Int32) < x then own_b4 x - (((own_a4 x).toUInt32 >>> ((1 : Int32) &&& 31).toUInt32).toInt32) else if x = (0 : Int32) then (32 : Int32) else (0 : Int32)
def own_hi (v : Int64) : Int32 := (((v.toUInt64 >>> ((32 : Int32) &&& 0x3f).toInt64.toUInt64).toInt64).toInt32)
def own_n64 (v : Int64) : Int32 := if own_hi v = (0 : Int32) then (32 : Int32) + own_n32 (v.toInt32) else own_n32 (own_hi v)
def own_r (v : Int64) : Int32 := (((63 : Int32) - own_n64 v) / (2 : Int32)) - (1 : Int32)
def own_ord (v : Int64) : Int32 := if (29 : Int32) < own_r v then (-1 : Int32) else own_r v
theorem own_S16 (x n : Int32) (h0 : 0 < x.toInt) (h1 : x.toInt < 4294967296) (hn : -100 ≤ n.toInt ∧ n.toInt ≤ 100) : ∃ a : Nat, a ≤ 16 ∧ (own_n x 65536 n (-16)).toInt = n.toInt - a ∧ (own_i x 65536 16).toInt.toNat = x.toInt.toNat / 2 ^ a ∧ 0 < (own_i x 65536 16).toInt ∧ (own_i x 65536 16).toInt < 65536 := by
  have ct : (65536 : Int32).toInt = 65536 := rfl
  have cd : (-16 : Int32).toInt = -16 := rfl
  by_cases h : x < (65536 : Int32)
  · have e1 : own_n x 65536 n (-16) = n := by unfold own_n; rw [if_pos h]
    have e2 : own_i x 65536 16 = x := by unfold own_i; rw [if_pos h]
    rw [Int32.lt_iff_toInt_lt] at h
    exact ⟨0, by omega, by rw [e1]; omega, by rw [e2]; simp, by rw [e2]; omega, by rw [e2]; omega⟩
  · have e1 : own_n x 65536 n (-16) = n + (-16) := by unfold own_n; rw [if_neg h]
    have e2 : own_i x 65536 16 = ((x.toUInt32 >>> ((16 : Int32) &&& 31).toUInt32).toInt32) := by unfold own_i; rw [if_neg h]
    rw [Int32.lt_iff_toInt_lt] at h
    have e3 := c_iushr x (16 : Int32) 16 (by decide) (by decide)
    have e4 := c_iadd n (-16 : Int32)
    have e5 := rng32 (n + (-16 : Int32))
    rw [← e2, show ((2 ^ 16 : Nat) : Int) = 65536 from rfl] at e3
    rw [← e1] at e4 e5
    refine ⟨16, by omega, by omega, ?_, by omega, by omega⟩
    rw [show (2 : Nat) ^ 16 = 65536 from rfl]; omega
theorem own_S8 (x n : Int32) (h0 : 0 < x.toInt) (h1 : x.toInt < 65536) (hn : -100 ≤ n.toInt ∧ n.toInt ≤ 100) : ∃ a : Nat, a ≤ 8 ∧ (own_n x 256 n (-8)).toInt = n.toInt - a ∧ (own_i x 256 8).toInt.toNat = x.toInt.toNat / 2 ^ a ∧ 0 < (own_i x 256 8).toInt ∧ (own_i x 256 8).toInt < 256 := by
  have ct : (256 : Int32).toInt = 256 := rfl
  have cd : (-8 : Int32).toInt = -8 := rfl
  by_cases h : x < (256 : Int32)
  · have e1 : own_n x 256 n (-8) = n := by unfold own_n; rw [if_pos h]
    have e2 : own_i x 256 8 = x := by unfold own_i; rw [if_pos h]
    rw [Int32.lt_iff_toInt_lt] at h
    exact ⟨0, by omega, by rw [e1]; omega, by rw [e2]; simp, by rw [e2]; omega, by rw [e2]; omega⟩
  · have e1 : own_n x 256 n (-8) = n + (-8) := by unfold own_n; rw [if_neg h]
    have e2 : own_i x 256 8 = ((x.toUInt32 >>> ((8 : Int32) &&& 31).toUInt32).toInt32) := by unfold own_i; rw [if_neg h]
    rw [Int32.lt_iff_toInt_lt] at h
    have e3 := c_iushr x (8 : Int32) 8 (by decide) (by decide)
    have e4 := c_iadd n (-8 : Int32)
    have e5 := rng32 (n + (-8 : Int32))
    rw [← e2, show ((2 ^ 8 : Nat) : Int) = 256 from rfl] at e3
    rw [← e1] at e4 e5
    refine ⟨8, by omega, by omega, ?_, by omega, by omega⟩
    rw [show (2 : Nat) ^ 8 = 256 from rfl]; omega
theorem own_S4 (x n : Int32) (h0 : 0 < x.toInt) (h1 : x.toInt < 256) (hn : -100 ≤ n.toInt ∧ n.toInt ≤ 100) : ∃ a : Nat, a ≤ 4 ∧ (own_n x 16 n (-4)).toInt = n.toInt - a ∧ (own_i x 16 4).toInt.toNat = x.toInt.toNat / 2 ^ a ∧ 0 < (own_i x 16 4).toInt ∧ (own_i x 16 4).toInt < 16 := by
  have ct : (16 : Int32).toInt = 16 := rfl
  have cd : (-4 : Int32).toInt = -4 := rfl
  by_cases h : x < (16 : Int32)
  · have e1 : own_n x 16 n (-4) = n := by unfold own_n; rw [if_pos h]
    have e2 : own_i x 16 4 = x := by unfold own_i; rw [if_pos h]
    rw [Int32.lt_iff_toInt_lt] at h
    exact ⟨0, by omega, by rw [e1]; omega, by rw [e2]; simp, by rw [e2]; omega, by rw [e2]; omega⟩
  · have e1 : own_n x 16 n (-4) = n + (-4) := by unfold own_n; rw [if_neg h]
    have e2 : own_i x 16 4 = ((x.toUInt32 >>> ((4 : Int32) &&& 31).toUInt32).toInt32) := by unfold own_i; rw [if_neg h]
    rw [Int32.lt_iff_toInt_lt] at h
    have e3 := c_iushr x (4 : Int32) 4 (by decide) (by decide)
    have e4 := c_iadd n (-4 : Int32)
    have e5 := rng32 (n + (-4 : Int32))
    rw [← e2, show ((2 ^ 4 : Nat) : Int) = 16 from rfl] at e3
    rw [← e1] at e4 e5
    refine ⟨4, by omega, by omega, ?_, by omega, by omega⟩
    rw [show (2 : Nat) ^ 4 = 16 from rfl]; omega
theorem own_S2 (x n : Int32) (h0 : 0 < x.toInt) (h1 : x.toInt < 16) (hn : -100 ≤ n.toInt ∧ n.toInt ≤ 100) : ∃ a : Nat, a ≤ 2 ∧ (own_n x 4 n (-2)).toInt = n.toInt - a ∧ (own_i x 4 2).toInt.toNat = x.toInt.toNat / 2 ^ a ∧ 0 < (own_i x 4 2).toInt ∧ (own_i x 4 2).toInt < 4 := by
  have ct : (4 : Int32).toInt = 4 := rfl
  have cd : (-2 : Int32).toInt = -2 := rfl
  by_cases h : x < (4 : Int32)
  · have e1 : own_n x 4 n (-2) = n := by unfold own_n; rw [if_pos h]
    have e2 : own_i x 4 2 = x := by unfold own_i; rw [if_pos h]
    rw [Int32.lt_iff_toInt_lt] at h
    exact ⟨0, by omega, by rw [e1]; omega, by rw [e2]; simp, by rw [e2]; omega, by rw [e2]; omega⟩
  · have e1 : own_n x 4 n (-2) = n + (-2) := by unfold own_n; rw [if_neg h]
    have e2 : own_i x 4 2 = ((x.toUInt32 >>> ((2 : Int32) &&& 31).toUInt32).toInt32) := by unfold own_i; rw [if_neg h]
    rw [Int32.lt_iff_toInt_lt] at h
    have e3 := c_iushr x (2 : Int32) 2 (by decide) (by decide)
    have e4 := c_iadd n (-2 : Int32)
    have e5 := rng32 (n + (-2 : Int32))
    rw [← e2, show ((2 ^ 2 : Nat) : Int) = 4 from rfl] at e3
    rw [← e1] at e4 e5
    refine ⟨2, by omega, by omega, ?_, by omega, by omega⟩
    rw [show (2 : Nat) ^ 2 = 4 from rfl]; omega
theorem own_lift (i a e : Nat) (h1 : 2 ^ e ≤ i / 2 ^ a) (h2 : i / 2 ^ a < 2 ^ (e + 1)) : 2 ^ (a + e) ≤ i ∧ i < 2 ^ (a + e + 1) := by
  have p : 0 < 2 ^ a := Nat.pow_pos (by decide)
  rw [Nat.le_div_iff_mul_le p, ← Nat.pow_add, Nat.add_comm e a] at h1
  rw [Nat.div_lt_iff_lt_mul p, ← Nat.pow_add, show e + 1 + a = a + e + 1 by omega] at h2
  exact ⟨h1, h2⟩
theorem own_n32_pos (x : Int32) (h : 0 < x.toInt) : ∃ e : Nat, e ≤ 30 ∧ (own_n32 x).toInt = 31 - (e : Int) ∧ 2 ^ e ≤ x.toInt.toNat ∧ x.toInt.toNat < 2 ^ (e + 1) := by
  have c0 : (0 : Int32).toInt = 0 := rfl
  have c31 : (31 : Int32).toInt = 31 := rfl
  have hlt : (0 : Int32) < x := by rw [Int32.lt_iff_toInt_lt]; omega
  have rx := rng32 x
  obtain ⟨a1, l1, n1, i1, z1, y1⟩ := own_S16 x 31 h (by omega) (by omega)
  change (own_b1 x).toInt = _ at n1
  change (own_a1 x).toInt.toNat = _ at i1
  change 0 < (own_a1 x).toInt at z1
  change (own_a1 x).toInt < _ at y1
  obtain ⟨a2, l2, n2, i2, z2, y2⟩ := own_S8 (own_a1 x) (own_b1 x) z1 y1 (by omega)
  change (own_b2 x).toInt = _ at n2
  change (own_a2 x).toInt.toNat = _ at i2
  change 0 < (own_a2 x).toInt at z2
  change (own_a2 x).toInt < _ at y2
  obtain ⟨a3, l3, n3, i3, z3, y3⟩ := own_S4 (own_a2 x) (own_b2 x) z2 y2 (by omega)
  change (own_b3 x).toInt = _ at n3
  change (own_a3 x).toInt.toNat = _ at i3
  change 0 < (own_a3 x).toInt at z3
  change (own_a3 x).toInt < _ at y3
  obtain ⟨a4, l4, n4, i4, z4, y4⟩ := own_S2 (own_a3 x) (own_b3 x) z3 y3 (by omega)
  change (own_b4 x).toInt = _ at n4
  change (own_a4 x).toInt.toNat = _ at i4
  change 0 < (own_a4 x).toInt at z4
  change (own_a4 x).toInt < _ at y4
  have hv : own_n32 x = own_b4 x - (((own_a4 x).toUInt32 >>> ((1 : Int32) &&& 31).toUInt32).toInt32) := by unfold own_n32; rw [if_pos hlt]
  have hu := c_iushr (own_a4 x) (1 : Int32) 1 (by decide) (by decide)
  have hs := c_isub (own_b4 x) (((own_a4 x).toUInt32 >>> ((1 : Int32) &&& 31).toUInt32).toInt32)
  rw [← hv] at hs
  have hr := rng32 (own_n32 x)
  rw [show ((2 ^ 1 : Nat) : Int) = 2 from rfl] at hu
  obtain ⟨b, hb1, hb2, hb3, hb4⟩ : ∃ b : Nat, b ≤ 1 ∧ (own_a4 x).toInt / 2 = b ∧ 2 ^ b ≤ (own_a4 x).toInt.toNat ∧ (own_a4 x).toInt.toNat < 2 ^ (b + 1) := by
    rcases (by omega : (own_a4 x).toInt = 1 ∨ (own_a4 x).toInt = 2 ∨ (own_a4 x).toInt = 3) with q | q | q <;> rw [q]
    · exact ⟨0, by decide, by decide, by decide, by decide⟩
    · exact ⟨1, by decide, by decide, by decide, by decide⟩
    · exact ⟨1, by decide, by decide, by decide, by decide⟩
  have k4 := own_lift _ a4 b (by rw [← i4]; exact hb3) (by rw [← i4]; exact hb4)
  have k3 := own_lift _ a3 (a4 + b) (by rw [← i3]; exact k4.1) (by rw [← i3]; exact k4.2)
  have k2 := own_lift _ a2 (a3 + (a4 + b)) (by rw [← i2]; exact k3.1) (by rw [← i2]; exact k3.2)
  have k1 := own_lift _ a1 (a2 + (a3 + (a4 + b))) (by rw [← i1]; exact k2.1) (by rw [← i1]; exact k2.2)
  have hle : a1 + (a2 + (a3 + (a4 + b))) ≤ 30 := by
    apply Classical.byContradiction
    intro q
    have p31 : (2 : Nat) ^ 31 ≤ 2 ^ (a1 + (a2 + (a3 + (a4 + b)))) := Nat.pow_le_pow_right (by decide) (by omega)
    have k11 := k1.1
    rw [show (2 : Nat) ^ 31 = 2147483648 from rfl] at p31
    omega
  exact ⟨a1 + (a2 + (a3 + (a4 + b))), hle, by omega, k1.1, k1.2⟩
theorem own_n32_neg (x : Int32) (h : x.toInt < 0) : own_n32 x = 0 := by
  have c0 : (0 : Int32).toInt = 0 := rfl
  unfold own_n32
  rw [if_neg (by rw [Int32.lt_iff_toInt_lt]; omega), if_neg (by rw [← Int32.toInt_inj]; omega)]
theorem own_hi_val (v : Int64) : ((own_hi v).toInt - (v.toInt % 18446744073709551616) / 4294967296) % 4294967296 = 0 := by
  have h1 := c_lushr v (32 : Int32) 32 (by decide) (by decide)
  have h2 := c_l2i ((v.toUInt64 >>> ((32 : Int32) &&& 0x3f).toInt64.toUInt64).toInt64)
  rw [h1, show ((2 ^ 32 : Nat) : Int) = 4294967296 from rfl] at h2
  exact h2
theorem own_n64_pos (v : Int64) (h : 0 < v.toInt) : ∃ e : Nat, e ≤ 62 ∧ (own_n64 v).toInt = 63 - (e : Int) ∧ 2 ^ e ≤ v.toInt.toNat ∧ v.toInt.toNat < 2 ^ (e + 1) := by
  have c0 : (0 : Int32).toInt = 0 := rfl
  have c32 : (32 : Int32).toInt = 32 := rfl
  have hh := own_hi_val v
  have rh := rng32 (own_hi v)
  have rv := rng64 v
  by_cases hz : own_hi v = (0 : Int32)
  · have ev : own_n64 v = (32 : Int32) + own_n32 (v.toInt32) := by unfold own_n64; rw [if_pos hz]
    rw [← Int32.toInt_inj] at hz
    have hl := c_l2i v
    have rl := rng32 v.toInt32
    have ha := c_iadd (32 : Int32) (own_n32 (v.toInt32))
    rw [← ev] at ha
    have hr := rng32 (own_n64 v)
    by_cases hs : v.toInt < 2147483648
    · obtain ⟨e, h1, h2, h3, h4⟩ := own_n32_pos v.toInt32 (by omega)
      have q : v.toInt32.toInt = v.toInt := by omega
      rw [q] at h3 h4
      exact ⟨e, by omega, by omega, h3, h4⟩
    · have q := own_n32_neg v.toInt32 (by omega)
      rw [q] at ha
      refine ⟨31, by omega, by omega, ?_, ?_⟩
      · rw [show (2 : Nat) ^ 31 = 2147483648 from rfl]; omega
      · rw [show (2 : Nat) ^ (31 + 1) = 4294967296 from rfl]; omega
  · have ev : own_n64 v = own_n32 (own_hi v) := by unfold own_n64; rw [if_neg hz]
    rw [← Int32.toInt_inj] at hz
    obtain ⟨e, h1, h2, h3, h4⟩ := own_n32_pos (own_hi v) (by omega)
    have q : (own_hi v).toInt.toNat = v.toInt.toNat / 2 ^ 32 := by rw [show (2 : Nat) ^ 32 = 4294967296 from rfl]; omega
    rw [q] at h3 h4
    have k := own_lift _ 32 e h3 h4
    rw [ev]
    exact ⟨32 + e, by omega, by omega, k.1, k.2⟩
theorem own_r_val (v : Int64) (N : Int) (h : (own_n64 v).toInt = N) (h0 : 0 ≤ N) (h1 : N ≤ 64) : (own_r v).toInt = if N ≤ 63 then (63 - N) / 2 - 1 else -1 := by
  have c63 : (63 : Int32).toInt = 63 := rfl
  have c1 : (1 : Int32).toInt = 1 := rfl
  have e1 := c_isub (63 : Int32) (own_n64 v)
  have r1 := rng32 ((63 : Int32) - own_n64 v)
  have e2 := c_idiv ((63 : Int32) - own_n64 v) (2 : Int32) 2 rfl (by decide)
  have e3 := c_isub (((63 : Int32) - own_n64 v) / (2 : Int32)) (1 : Int32)
  have r3 := rng32 ((((63 : Int32) - own_n64 v) / (2 : Int32)) - (1 : Int32))
  unfold own_r
  split <;> omega
theorem own_main (v : Int64) :
    (own_ord v = (-1 : Int32) ∧ (lcmpW v (4 : Int64) < (0 : Int32) ∨ ¬ lcmpW v (4611686018427387904 : Int64) < (0 : Int32))) ∨
    (¬ own_ord v = (-1 : Int32) ∧ ¬ own_ord v < (0 : Int32) ∧ ¬ (29 : Int32) < own_ord v ∧ ¬ (0 : Int32) < lcmpW ((4 : Int64) <<< (((2 : Int32) * own_ord v) &&& 0x3f).toInt64) v ∧ lcmpW v ((16 : Int64) <<< (((2 : Int32) * own_ord v) &&& 0x3f).toInt64) < (0 : Int32)) := by
  rw [lw_lt, lw_lt, lw_gt, lw_lt]
  have cm1 : (-1 : Int32).toInt = -1 := rfl
  have c29 : (29 : Int32).toInt = 29 := rfl
  have c0 : (0 : Int32).toInt = 0 := rfl
  have l4 : (4 : Int64).toInt = 4 := rfl
  have l16 : (16 : Int64).toInt = 16 := rfl
  have l62 : (4611686018427387904 : Int64).toInt = 4611686018427387904 := rfl
  by_cases hp : 0 < v.toInt
  · obtain ⟨e, h1, h2, h3, h4⟩ := own_n64_pos v hp
    have hr := own_r_val v _ h2 (by omega) (by omega)
    rw [if_pos (by omega)] at hr
    by_cases hl : e ≤ 1
    · left
      have p1 : (2 : Nat) ^ (e + 1) ≤ 2 ^ 2 := Nat.pow_le_pow_right (by decide) (by omega)
      refine ⟨?_, Or.inl (by rw [Int64.lt_iff_toInt_lt]; omega)⟩
      have : ¬ (29 : Int32) < own_r v := by rw [Int32.lt_iff_toInt_lt]; omega
      unfold own_ord; rw [if_neg this, ← Int32.toInt_inj]; omega
    · by_cases hm : e ≤ 61
      · right
        obtain ⟨f, hf⟩ : ∃ f : Nat, f = e / 2 := ⟨_, rfl⟩
        have hn : ¬ (29 : Int32) < own_r v := by rw [Int32.lt_iff_toInt_lt]; omega
        have ho : own_ord v = own_r v := by unfold own_ord; rw [if_neg hn]
        have hov : (own_r v).toInt = (f : Int) - 1 := by omega
        rw [ho]
        have p1 : (2 : Nat) ^ (2 * f) ≤ 2 ^ e := Nat.pow_le_pow_right (by decide) (by omega)
        have p2 : (2 : Nat) ^ (e + 1) ≤ 2 ^ (2 * f + 2) := Nat.pow_le_pow_right (by decide) (by omega)
        have p3 : (2 : Nat) ^ (2 * f + 2) ≤ 2 ^ 62 := Nat.pow_le_pow_right (by decide) (by omega)
        have p4 : (2 : Nat) ^ (2 * f + 2) = 4 * 2 ^ (2 * f) := by rw [Nat.pow_add]; omega
        have p5 : (2 : Nat) ^ (2 * f) = 4 * 2 ^ (2 * f - 2) := by rw [show 2 * f = (2 * f - 2) + 2 by omega, Nat.pow_add, show 2 * f - 2 + 2 - 2 = 2 * f - 2 by omega]; omega
        have hq : ((2 : Int32) * own_r v).toBitVec.toNat % 64 = 2 * f - 2 := by
          have h := c_imul (2 : Int32) (own_r v)
          rw [hov, show (2 : Int32).toInt = 2 from rfl] at h
          have h2 := rng32 ((2 : Int32) * own_r v)
          have h3 : ((2 : Int32) * own_r v).toBitVec.toInt = 2 * ((f : Int) - 1) := by show ((2 : Int32) * own_r v).toInt = _; omega
          have h4 := ((2 : Int32) * own_r v).toBitVec.isLt
          rw [BitVec.toInt_eq_toNat_cond] at h3
          split at h3 <;> omega
        have s1 := c_lshl (4 : Int64) ((2 : Int32) * own_r v) (2 * f - 2) hq
        have s2 := c_lshl (16 : Int64) ((2 : Int32) * own_r v) (2 * f - 2) hq
        have t1 := rng64 ((4 : Int64) <<< (((2 : Int32) * own_r v) &&& 0x3f).toInt64)
        have t2 := rng64 ((16 : Int64) <<< (((2 : Int32) * own_r v) &&& 0x3f).toInt64)
        rw [l4] at s1
        rw [l16] at s2
        refine ⟨?_, ?_, ?_, ?_, ?_⟩
        · rw [← Int32.toInt_inj]; omega
        · rw [Int32.lt_iff_toInt_lt]; omega
        · exact hn
        · rw [Int64.lt_iff_toInt_lt]; omega
        · rw [Int64.lt_iff_toInt_lt]; omega
      · left
        have p1 : (2 : Nat) ^ 62 ≤ 2 ^ e := Nat.pow_le_pow_right (by decide) (by omega)
        refine ⟨?_, Or.inr (by rw [Int64.lt_iff_toInt_lt]; omega)⟩
        have : (29 : Int32) < own_r v := by rw [Int32.lt_iff_toInt_lt]; omega
        unfold own_ord; rw [if_pos this]
  · left
    have hv4 : v < (4 : Int64) := by rw [Int64.lt_iff_toInt_lt]; omega
    refine ⟨?_, Or.inl hv4⟩
    by_cases hz : v.toInt = 0
    · have : v = 0 := by rw [← Int64.toInt_inj]; exact hz
      subst this
      decide
    · have hh := own_hi_val v
      have rh := rng32 (own_hi v)
      have rv := rng64 v
      have hneg : (own_hi v).toInt < 0 := by omega
      have en : own_n64 v = 0 := by unfold own_n64; rw [if_neg (by rw [← Int32.toInt_inj]; omega)]; exact own_n32_neg _ hneg
      have hr := own_r_val v 0 (by rw [en]; rfl) (by omega) (by omega)
      rw [if_pos (by omega)] at hr
      have : (29 : Int32) < own_r v := by rw [Int32.lt_iff_toInt_lt]; omega
      unfold own_ord; rw [if_pos this]
theorem d3_0 : decode jdk_33_method_47_code 0 = .ok (.iload_n 0, 1) := by decide +kernel
theorem d3_1 : decode jdk_33_method_47_code 1 = .ok (.ifCond .gt 14, 3) := by decide +kernel
theorem d3_4 : decode jdk_33_method_47_code 4 = .ok (.iload_n 0, 1) := by decide +kernel
theorem d3_5 : decode jdk_33_method_47_code 5 = .ok (.ifCond .ne 8, 3) := by decide +kernel
theorem d3_8 : decode jdk_33_method_47_code 8 = .ok (.bipush 32, 2) := by decide +kernel
theorem d3_10 : decode jdk_33_method_47_code 10 = .ok (.goto 4, 3) := by decide +kernel
theorem d3_13 : decode jdk_33_method_47_code 13 = .ok (.iconst 0, 1) := by decide +kernel
theorem d3_14 : decode jdk_33_method_47_code 14 = .ok (.ireturn, 1) := by decide +kernel
theorem d3_15 : decode jdk_33_method_47_code 15 = .ok (.bipush 31, 2) := by decide +kernel
theorem d3_17 : decode jdk_33_method_47_code 17 = .ok (.istore_n 1, 1) := by decide +kernel
theorem d3_18 : decode jdk_33_method_47_code 18 = .ok (.iload_n 0, 1) := by decide +kernel
theorem d3_19 : decode jdk_33_method_47_code 19 = .ok (.ldc_w 264, 3) := by decide +kernel
theorem d3_22 : decode jdk_33_method_47_code 22 = .ok (.if_icmp .lt 11, 3) := by decide +kernel
theorem d3_25 : decode jdk_33_method_47_code 25 = .ok (.iinc 1 (-16), 3) := by decide +kernel
theorem d3_28 : decode jdk_33_method_47_code 28 = .ok (.iload_n 0, 1) := by decide +kernel
theorem d3_29 : decode jdk_33_method_47_code 29 = .ok (.bipush 16, 2) := by decide +kernel
theorem d3_31 : decode jdk_33_method_47_code 31 = .ok (.iushr, 1) := by decide +kernel
theorem d3_32 : decode jdk_33_method_47_code 32 = .ok (.istore_n 0, 1) := by decide +kernel
theorem d3_33 : decode jdk_33_method_47_code 33 = .ok (.iload_n 0, 1) := by decide +kernel
theorem d3_34 : decode jdk_33_method_47_code 34 = .ok (.sipush 256, 3) := by decide +kernel
theorem d3_37 : decode jdk_33_method_47_code 37 = .ok (.if_icmp .lt 11, 3) := by decide +kernel
theorem d3_40 : decode jdk_33_method_47_code 40 = .ok (.iinc 1 (-8), 3) := by decide +kernel
theorem d3_43 : decode jdk_33_method_47_code 43 = .ok (.iload_n 0, 1) := by decide +kernel
theorem d3_44 : decode jdk_33_method_47_code 44 = .ok (.bipush 8, 2) := by decide +kernel
theorem d3_46 : decode jdk_33_method_47_code 46 = .ok (.iushr, 1) := by decide +kernel
theorem d3_47 : decode jdk_33_method_47_code 47 = .ok (.istore_n 0, 1) := by decide +kernel
theorem d3_48 : decode jdk_33_method_47_code 48 = .ok (.iload_n 0, 1) := by decide +kernel
theorem d3_49 : decode jdk_33_method_47_code 49 = .ok (.bipush 16, 2) := by decide +kernel
theorem d3_51 : decode jdk_33_method_47_code 51 = .ok (.if_icmp .lt 10, 3) := by decide +kernel
theorem d3_54 : decode jdk_33_method_47_code 54 = .ok (.iinc 1 (-4), 3) := by decide +kernel
theorem d3_57 : decode jdk_33_method_47_code 57 = .ok (.iload_n 0, 1) := by decide +kernel
theorem d3_58 : decode jdk_33_method_47_code 58 = .ok (.iconst 4, 1) := by decide +kernel
theorem d3_59 : decode jdk_33_method_47_code 59 = .ok (.iushr, 1) := by decide +kernel
theorem d3_60 : decode jdk_33_method_47_code 60 = .ok (.istore_n 0, 1) := by decide +kernel
theorem d3_61 : decode jdk_33_method_47_code 61 = .ok (.iload_n 0, 1) := by decide +kernel
theorem d3_62 : decode jdk_33_method_47_code 62 = .ok (.iconst 4, 1) := by decide +kernel
theorem d3_63 : decode jdk_33_method_47_code 63 = .ok (.if_icmp .lt 10, 3) := by decide +kernel
theorem d3_66 : decode jdk_33_method_47_code 66 = .ok (.iinc 1 (-2), 3) := by decide +kernel
theorem d3_69 : decode jdk_33_method_47_code 69 = .ok (.iload_n 0, 1) := by decide +kernel
theorem d3_70 : decode jdk_33_method_47_code 70 = .ok (.iconst 2, 1) := by decide +kernel
theorem d3_71 : decode jdk_33_method_47_code 71 = .ok (.iushr, 1) := by decide +kernel
theorem d3_72 : decode jdk_33_method_47_code 72 = .ok (.istore_n 0, 1) := by decide +kernel
theorem d3_73 : decode jdk_33_method_47_code 73 = .ok (.iload_n 1, 1) := by decide +kernel
theorem d3_74 : decode jdk_33_method_47_code 74 = .ok (.iload_n 0, 1) := by decide +kernel
theorem d3_75 : decode jdk_33_method_47_code 75 = .ok (.iconst 1, 1) := by decide +kernel
theorem d3_76 : decode jdk_33_method_47_code 76 = .ok (.iushr, 1) := by decide +kernel
theorem d3_77 : decode jdk_33_method_47_code 77 = .ok (.isub, 1) := by decide +kernel
theorem d3_78 : decode jdk_33_method_47_code 78 = .ok (.ireturn, 1) := by decide +kernel
theorem pn_3 : plainName "java/lang/Integer" = true := by first | (simp [plainName, overriddenIn]; done) | decide +kernel
theorem ef_3 (m : MethodId) (x0 : Int32) : entryFrame m #[(.int x0)] 2 = mkF m 0 #[.val (.int x0), .unset] [] := by first | (simp [entryFrame, mkF, argsToLocals, Value.category]; done) | rfl
theorem d2_0 : decode jdk_35_method_48_code 0 = .ok (.lload_n 0, 1) := by decide +kernel
theorem d2_1 : decode jdk_35_method_48_code 1 = .ok (.bipush 32, 2) := by decide +kernel
theorem d2_3 : decode jdk_35_method_48_code 3 = .ok (.lushr, 1) := by decide +kernel
theorem d2_4 : decode jdk_35_method_48_code 4 = .ok (.l2i, 1) := by decide +kernel
theorem d2_5 : decode jdk_35_method_48_code 5 = .ok (.istore_n 2, 1) := by decide +kernel
theorem d2_6 : decode jdk_35_method_48_code 6 = .ok (.iload_n 2, 1) := by decide +kernel
theorem d2_7 : decode jdk_35_method_48_code 7 = .ok (.ifCond .ne 14, 3) := by decide +kernel
theorem d2_10 : decode jdk_35_method_48_code 10 = .ok (.bipush 32, 2) := by decide +kernel
theorem d2_12 : decode jdk_35_method_48_code 12 = .ok (.lload_n 0, 1) := by decide +kernel
theorem d2_13 : decode jdk_35_method_48_code 13 = .ok (.l2i, 1) := by decide +kernel
theorem d2_14 : decode jdk_35_method_48_code 14 = .ok (.invokestatic 308, 3) := by decide +kernel
theorem d2_17 : decode jdk_35_method_48_code 17 = .ok (.iadd, 1) := by decide +kernel
theorem d2_18 : decode jdk_35_method_48_code 18 = .ok (.goto 7, 3) := by decide +kernel
theorem d2_21 : decode jdk_35_method_48_code 21 = .ok (.iload_n 2, 1) := by decide +kernel
theorem d2_22 : decode jdk_35_method_48_code 22 = .ok (.invokestatic 308, 3) := by decide +kernel
theorem d2_25 : decode jdk_35_method_48_code 25 = .ok (.ireturn, 1) := by decide +kernel
theorem pn_2 : plainName "java/lang/Long" = true := by first | (simp [plainName, overriddenIn]; done) | decide +kernel
theorem ef_2 (m : MethodId) (x0 : Int64) : entryFrame m #[(.long x0)] 3 = mkF m 0 #[.val (.long x0), .second, .unset] [] := by first | (simp [entryFrame, mkF, argsToLocals, Value.category]; done) | rfl
theorem d1_0 : decode prog_35_method_3_code 0 = .ok (.bipush 63, 2) := by decide +kernel
theorem d1_2 : decode prog_35_method_3_code 2 = .ok (.lload_n 0, 1) := by decide +kernel
theorem d1_3 : decode prog_35_method_3_code 3 = .ok (.invokestatic 9, 3) := by decide +kernel
theorem d1_6 : decode prog_35_method_3_code 6 = .ok (.isub, 1) := by decide +kernel
theorem d1_7 : decode prog_35_method_3_code 7 = .ok (.iconst 2, 1) := by decide +kernel
theorem d1_8 : decode prog_35_method_3_code 8 = .ok (.idiv, 1) := by decide +kernel
theorem d1_9 : decode prog_35_method_3_code 9 = .ok (.iconst 1, 1) := by decide +kernel
theorem d1_10 : decode prog_35_method_3_code 10 = .ok (.isub, 1) := by decide +kernel
theorem d1_11 : decode prog_35_method_3_code 11 = .ok (.istore_n 2, 1) := by decide +kernel
theorem d1_12 : decode prog_35_method_3_code 12 = .ok (.iload_n 2, 1) := by decide +kernel
theorem d1_13 : decode prog_35_method_3_code 13 = .ok (.bipush 29, 2) := by decide +kernel
theorem d1_15 : decode prog_35_method_3_code 15 = .ok (.if_icmp .gt 7, 3) := by decide +kernel
theorem d1_18 : decode prog_35_method_3_code 18 = .ok (.iload_n 2, 1) := by decide +kernel
theorem d1_19 : decode prog_35_method_3_code 19 = .ok (.goto 4, 3) := by decide +kernel
theorem d1_22 : decode prog_35_method_3_code 22 = .ok (.iconst (-1), 1) := by decide +kernel
theorem d1_23 : decode prog_35_method_3_code 23 = .ok (.ireturn, 1) := by decide +kernel
theorem pn_1 : plainName "com/example/skylattice/skylattice/fits/Nuniq" = true := by first | (simp [plainName, overriddenIn]; done) | decide +kernel
theorem ef_1 (m : MethodId) (x0 : Int64) : entryFrame m #[(.long x0)] 3 = mkF m 0 #[.val (.long x0), .second, .unset] [] := by first | (simp [entryFrame, mkF, argsToLocals, Value.category]; done) | rfl
theorem pn_0 : plainName "com/example/skylattice/skylattice/fits/NuniqOrderPinLaw" = true := by first | (simp [plainName, overriddenIn]; done) | decide +kernel
theorem ef_0 (m : MethodId) (x0 : Int64) (x1 : Int32) : entryFrame m #[(.long x0), (.int x1)] maxLocals = mkF m 0 #[.val (.long x0), .second, .val (.int x1), .unset, .unset, .unset, .unset, .unset, .unset, .unset] [] := by first | (simp [entryFrame, mkF, argsToLocals, Value.category, maxLocals]; done) | rfl
set_option maxRecDepth 65536 in
set_option maxHeartbeats 40000000 in
theorem rm3 (l : Launch) (Z : State) (a0 : Array Value) (hw : ∀ d ∈ tables_1, d.before a0 Z = true) (ws : List Jvm.Cond) (x0 : Int32)  (h0 : Heap) (n0 : Nat) (Z0 : n0 ≤ h0.size)  :
    MetFree l (⟨"java/lang/Integer", "numberOfLeadingZeros", "(I)I"⟩ : MethodName) (head1 (Jvm.Cond.code (⟨"java/lang/Integer", "numberOfLeadingZeros", "(I)I"⟩ : MethodName) jdk_33_method_47_code 2 (some .int) :: ws) ({ frames := 0, cells := 0, slots := 0, locals := 0 } : Room)) (fun a U => a = #[(.int x0)] ∧ Z.Warmed39 U.vm ∧ U.heap = h0) (fun _ _ _ _ _ => True) (fun _ U o U' => ∃ v L, o = .returned v ∧ (QP (some (.int (own_n32 x0))) h0 n0 v U'.heap L) ∧ FrameEnd U o U' L ({ frames := 0, cells := 0, slots := 0, locals := 0 } : Room).cells ({ frames := 0, cells := 0, slots := 0, locals := 0 } : Room).slots) := by
  refine MetFree.of_bodySF (plainFor_of_name pn_3) hisR ?_
  intro p e s m args below meth c s₁ Bd hml0 hP hK
  obtain ⟨rfl, hZ, hh⟩ := hP
  have hx := Bd.exec
  have hby := Bd.bytes
  have hml : c.maxLocals = 2 := hml0
  have hown : s.vm.findClass "java/lang/Integer" = some m.cls := findClass_of_methodNamed Bd.named
  have hnm := (name_of_methodNamed Bd.named Bd.method).1
  have X0 : Stand p l e ({ frames := 0, cells := 0, slots := 0, locals := 0 } : Room) s m #[(.int x0)] below meth c s₁ [] 0 0 := Stand.of_body Bd
  have e0 : s₁.heap = h0 := by rw [← hh, Bd.state]; rfl
  have N0 := Fr.nil n0
  have pre0 : ∀ t, Steps p.tables e below (s₁.setTop (mkF m 0 #[.val (.int x0), .unset] [])) t → Steps p.tables e below (s₁.setTop (entryFrame m #[(.int x0)] 2)) t := fun t k => castTop (ef_3 m x0) k
  obtain ⟨m1_l0, em1_l0⟩ : ∃ z : Int32, z = (if x0 < (65536 : Int32) then x0 else ((x0.toUInt32 >>> ((16 : Int32) &&& 31).toUInt32).toInt32)) := ⟨_, rfl⟩
  obtain ⟨m1_l1, em1_l1⟩ : ∃ z : Int32, z = (if x0 < (65536 : Int32) then (31 : Int32) else (15 : Int32)) := ⟨_, rfl⟩
  obtain ⟨m2_l0, em2_l0⟩ : ∃ z : Int32, z = (if m1_l0 < (256 : Int32) then m1_l0 else ((m1_l0.toUInt32 >>> ((8 : Int32) &&& 31).toUInt32).toInt32)) := ⟨_, rfl⟩
  obtain ⟨m2_l1, em2_l1⟩ : ∃ z : Int32, z = (if m1_l0 < (256 : Int32) then m1_l1 else (m1_l1 + (-8 : Int32))) := ⟨_, rfl⟩
  obtain ⟨m3_l0, em3_l0⟩ : ∃ z : Int32, z = (if m2_l0 < (16 : Int32) then m2_l0 else ((m2_l0.toUInt32 >>> ((4 : Int32) &&& 31).toUInt32).toInt32)) := ⟨_, rfl⟩
  obtain ⟨m3_l1, em3_l1⟩ : ∃ z : Int32, z = (if m2_l0 < (16 : Int32) then m2_l1 else (m2_l1 + (-4 : Int32))) := ⟨_, rfl⟩
  obtain ⟨m4_l0, em4_l0⟩ : ∃ z : Int32, z = (if m3_l0 < (4 : Int32) then m3_l0 else ((m3_l0.toUInt32 >>> ((2 : Int32) &&& 31).toUInt32).toInt32)) := ⟨_, rfl⟩
  obtain ⟨m4_l1, em4_l1⟩ : ∃ z : Int32, z = (if m3_l0 < (4 : Int32) then m3_l1 else (m3_l1 + (-2 : Int32))) := ⟨_, rfl⟩
  obtain ⟨fs, hr, hrun, hended, hW, hsame⟩ := X0.leave (v := some (.int (own_n32 x0))) (fun h => by rw [Bd.returns] at h; cases h)
  refine ⟨_, _, pre0 _ ?_, hrun, hended, _, _, rfl, ?_, ⟨_, rfl⟩, hW, hsame.mono (by decide) (by decide)⟩
  · show Steps p.tables e below (s₁.setTop (mkF m 0 #[.val (.int x0), .unset] [])) _
    refine XS.iloadN X0.here hx rfl (hb hby d3_0) rfl ?_
    show Steps p.tables e below (s₁.setTop (mkF m 1 #[.val (.int x0), .unset] [(.int x0)])) _
    by_cases hc1 : (0 : Int32) < x0
    · refine XS.ifYes X0.here hx rfl (pc0 := 1) (pc' := 15) rfl (hb hby d3_1) rfl ((if0 _ _).trans (tlt hc1).2.2.1) (by decide) (by decide) ?_
      show Steps p.tables e below (s₁.setTop (mkF m 15 #[.val (.int x0), .unset] [])) _
      refine XS.bipush X0.here hx rfl (hb hby d3_15) ?_
      show Steps p.tables e below (s₁.setTop (mkF m 17 #[.val (.int x0), .unset] [(.int (31 : Int32))])) _
      refine XS.istoreN X0.here hx rfl (hb hby d3_17) rfl (l' := #[.val (.int x0), .val (.int (31 : Int32))]) rfl ?_
      show Steps p.tables e below (s₁.setTop (mkF m 18 #[.val (.int x0), .val (.int (31 : Int32))] [])) _
      refine XS.iloadN X0.here hx rfl (hb hby d3_18) rfl ?_
      show Steps p.tables e below (s₁.setTop (mkF m 19 #[.val (.int x0), .val (.int (31 : Int32))] [(.int x0)])) _
      refine X0.ldcwInt hx hown (mvT hZ (hw _ (List.mem_of_getElem? (i := 13) rfl))) (g := (mkF m 19 #[.val (.int x0), .val (.int (31 : Int32))] [(.int x0)])) rfl (hb hby d3_19) _ ?_
      show Steps p.tables e below (s₁.setTop (mkF m 22 #[.val (.int x0), .val (.int (31 : Int32))] [(.int (65536 : Int32)), (.int x0)])) _
      have k1 : ∀ (m1_l0 : Int32) (m1_l1 : Int32) t, (x0 < (65536 : Int32) → m1_l0 = x0) → (¬ (x0 < (65536 : Int32)) → m1_l0 = ((x0.toUInt32 >>> ((16 : Int32) &&& 31).toUInt32).toInt32)) → (x0 < (65536 : Int32) → m1_l1 = (31 : Int32)) → (¬ (x0 < (65536 : Int32)) → m1_l1 = (15 : Int32)) → Steps p.tables e below (s₁.setTop (mkF m 33 #[.val (.int m1_l0), .val (.int m1_l1)] [])) t → Steps p.tables e below (s₁.setTop (mkF m 22 #[.val (.int x0), .val (.int (31 : Int32))] [(.int (65536 : Int32)), (.int x0)])) t := by
        intro m1_l0 m1_l1 t hAm1_l0 hBm1_l0 hAm1_l1 hBm1_l1 kk
        by_cases hq22 : x0 < (65536 : Int32)
        · rw [hAm1_l0 hq22] at kk; rw [hAm1_l1 hq22] at kk
          refine XS.icmpYes X0.here hx rfl (pc0 := 22) (pc' := 33) rfl (hb hby d3_22) rfl (tlt hq22).1 (by decide) (by decide) ?_
          exact kk
        · rw [hBm1_l0 hq22] at kk; rw [hBm1_l1 hq22] at kk
          refine XS.icmpNo X0.here hx rfl (hb hby d3_22) rfl (flt hq22).1 ?_
          show Steps p.tables e below (s₁.setTop (mkF m 25 #[.val (.int x0), .val (.int (31 : Int32))] [])) _
          refine XS.iinc X0.here hx rfl (hb hby d3_25) rfl (l' := #[.val (.int x0), .val (.int ((31 : Int32) + (-16 : Int32)))]) rfl ?_
          show Steps p.tables e below (s₁.setTop (mkF m 28 #[.val (.int x0), .val (.int ((31 : Int32) + (-16 : Int32)))] [])) _
          rw [show ((31 : Int32) + (-16 : Int32)) = (15 : Int32) from by decide]
          show Steps p.tables e below (s₁.setTop (mkF m 28 #[.val (.int x0), .val (.int (15 : Int32))] [])) _
          refine XS.iloadN X0.here hx rfl (hb hby d3_28) rfl ?_
          show Steps p.tables e below (s₁.setTop (mkF m 29 #[.val (.int x0), .val (.int (15 : Int32))] [(.int x0)])) _
          refine XS.bipush X0.here hx rfl (hb hby d3_29) ?_
          show Steps p.tables e below (s₁.setTop (mkF m 31 #[.val (.int x0), .val (.int (15 : Int32))] [(.int (16 : Int32)), (.int x0)])) _
          refine XS.iushr X0.here hx rfl (hb hby d3_31) rfl ?_
          show Steps p.tables e below (s₁.setTop (mkF m 32 #[.val (.int x0), .val (.int (15 : Int32))] [(.int ((x0.toUInt32 >>> ((16 : Int32) &&& 31).toUInt32).toInt32))])) _
          refine XS.istoreN X0.here hx rfl (hb hby d3_32) rfl (l' := #[.val (.int ((x0.toUInt32 >>> ((16 : Int32) &&& 31).toUInt32).toInt32)), .val (.int (15 : Int32))]) rfl ?_
          exact kk
      refine k1 m1_l0 m1_l1 _ (fun h => by rw [em1_l0, if_pos h]) (fun h => by rw [em1_l0, if_neg h]) (fun h => by rw [em1_l1, if_pos h]) (fun h => by rw [em1_l1, if_neg h]) ?_
      show Steps p.tables e below (s₁.setTop (mkF m 33 #[.val (.int m1_l0), .val (.int m1_l1)] [])) _
      refine XS.iloadN X0.here hx rfl (hb hby d3_33) rfl ?_
      show Steps p.tables e below (s₁.setTop (mkF m 34 #[.val (.int m1_l0), .val (.int m1_l1)] [(.int m1_l0)])) _
      refine XS.sipush X0.here hx rfl (hb hby d3_34) ?_
      show Steps p.tables e below (s₁.setTop (mkF m 37 #[.val (.int m1_l0), .val (.int m1_l1)] [(.int (256 : Int32)), (.int m1_l0)])) _
      have k2 : ∀ (m2_l0 : Int32) (m2_l1 : Int32) t, (m1_l0 < (256 : Int32) → m2_l0 = m1_l0) → (¬ (m1_l0 < (256 : Int32)) → m2_l0 = ((m1_l0.toUInt32 >>> ((8 : Int32) &&& 31).toUInt32).toInt32)) → (m1_l0 < (256 : Int32) → m2_l1 = m1_l1) → (¬ (m1_l0 < (256 : Int32)) → m2_l1 = (m1_l1 + (-8 : Int32))) → Steps p.tables e below (s₁.setTop (mkF m 48 #[.val (.int m2_l0), .val (.int m2_l1)] [])) t → Steps p.tables e below (s₁.setTop (mkF m 37 #[.val (.int m1_l0), .val (.int m1_l1)] [(.int (256 : Int32)), (.int m1_l0)])) t := by
        intro m2_l0 m2_l1 t hAm2_l0 hBm2_l0 hAm2_l1 hBm2_l1 kk
        by_cases hq37 : m1_l0 < (256 : Int32)
        · rw [hAm2_l0 hq37] at kk; rw [hAm2_l1 hq37] at kk
          refine XS.icmpYes X0.here hx rfl (pc0 := 37) (pc' := 48) rfl (hb hby d3_37) rfl (tlt hq37).1 (by decide) (by decide) ?_
          exact kk
        · rw [hBm2_l0 hq37] at kk; rw [hBm2_l1 hq37] at kk
          refine XS.icmpNo X0.here hx rfl (hb hby d3_37) rfl (flt hq37).1 ?_
          show Steps p.tables e below (s₁.setTop (mkF m 40 #[.val (.int m1_l0), .val (.int m1_l1)] [])) _
          refine XS.iinc X0.here hx rfl (hb hby d3_40) rfl (l' := #[.val (.int m1_l0), .val (.int (m1_l1 + (-8 : Int32)))]) rfl ?_
          show Steps p.tables e below (s₁.setTop (mkF m 43 #[.val (.int m1_l0), .val (.int (m1_l1 + (-8 : Int32)))] [])) _
          refine XS.iloadN X0.here hx rfl (hb hby d3_43) rfl ?_
          show Steps p.tables e below (s₁.setTop (mkF m 44 #[.val (.int m1_l0), .val (.int (m1_l1 + (-8 : Int32)))] [(.int m1_l0)])) _
          refine XS.bipush X0.here hx rfl (hb hby d3_44) ?_
          show Steps p.tables e below (s₁.setTop (mkF m 46 #[.val (.int m1_l0), .val (.int (m1_l1 + (-8 : Int32)))] [(.int (8 : Int32)), (.int m1_l0)])) _
          refine XS.iushr X0.here hx rfl (hb hby d3_46) rfl ?_
          show Steps p.tables e below (s₁.setTop (mkF m 47 #[.val (.int m1_l0), .val (.int (m1_l1 + (-8 : Int32)))] [(.int ((m1_l0.toUInt32 >>> ((8 : Int32) &&& 31).toUInt32).toInt32))])) _
          refine XS.istoreN X0.here hx rfl (hb hby d3_47) rfl (l' := #[.val (.int ((m1_l0.toUInt32 >>> ((8 : Int32) &&& 31).toUInt32).toInt32)), .val (.int (m1_l1 + (-8 : Int32)))]) rfl ?_
          exact kk
      refine k2 m2_l0 m2_l1 _ (fun h => by rw [em2_l0, if_pos h]) (fun h => by rw [em2_l0, if_neg h]) (fun h => by rw [em2_l1, if_pos h]) (fun h => by rw [em2_l1, if_neg h]) ?_
      show Steps p.tables e below (s₁.setTop (mkF m 48 #[.val (.int m2_l0), .val (.int m2_l1)] [])) _
      refine XS.iloadN X0.here hx rfl (hb hby d3_48) rfl ?_
      show Steps p.tables e below (s₁.setTop (mkF m 49 #[.val (.int m2_l0), .val (.int m2_l1)] [(.int m2_l0)])) _
      refine XS.bipush X0.here hx rfl (hb hby d3_49) ?_
      show Steps p.tables e below (s₁.setTop (mkF m 51 #[.val (.int m2_l0), .val (.int m2_l1)] [(.int (16 : Int32)), (.int m2_l0)])) _
      have k3 : ∀ (m3_l0 : Int32) (m3_l1 : Int32) t, (m2_l0 < (16 : Int32) → m3_l0 = m2_l0) → (¬ (m2_l0 < (16 : Int32)) → m3_l0 = ((m2_l0.toUInt32 >>> ((4 : Int32) &&& 31).toUInt32).toInt32)) → (m2_l0 < (16 : Int32) → m3_l1 = m2_l1) → (¬ (m2_l0 < (16 : Int32)) → m3_l1 = (m2_l1 + (-4 : Int32))) → Steps p.tables e below (s₁.setTop (mkF m 61 #[.val (.int m3_l0), .val (.int m3_l1)] [])) t → Steps p.tables e below (s₁.setTop (mkF m 51 #[.val (.int m2_l0), .val (.int m2_l1)] [(.int (16 : Int32)), (.int m2_l0)])) t := by
        intro m3_l0 m3_l1 t hAm3_l0 hBm3_l0 hAm3_l1 hBm3_l1 kk
        by_cases hq51 : m2_l0 < (16 : Int32)
        · rw [hAm3_l0 hq51] at kk; rw [hAm3_l1 hq51] at kk
          refine XS.icmpYes X0.here hx rfl (pc0 := 51) (pc' := 61) rfl (hb hby d3_51) rfl (tlt hq51).1 (by decide) (by decide) ?_
          exact kk
        · rw [hBm3_l0 hq51] at kk; rw [hBm3_l1 hq51] at kk
          refine XS.icmpNo X0.here hx rfl (hb hby d3_51) rfl (flt hq51).1 ?_
          show Steps p.tables e below (s₁.setTop (mkF m 54 #[.val (.int m2_l0), .val (.int m2_l1)] [])) _
          refine XS.iinc X0.here hx rfl (hb hby d3_54) rfl (l' := #[.val (.int m2_l0), .val (.int (m2_l1 + (-4 : Int32)))]) rfl ?_
          show Steps p.tables e below (s₁.setTop (mkF m 57 #[.val (.int m2_l0), .val (.int (m2_l1 + (-4 : Int32)))] [])) _
          refine XS.iloadN X0.here hx rfl (hb hby d3_57) rfl ?_
          show Steps p.tables e below (s₁.setTop (mkF m 58 #[.val (.int m2_l0), .val (.int (m2_l1 + (-4 : Int32)))] [(.int m2_l0)])) _
          refine XS.iconst X0.here hx rfl (hb hby d3_58) ?_
          show Steps p.tables e below (s₁.setTop (mkF m 59 #[.val (.int m2_l0), .val (.int (m2_l1 + (-4 : Int32)))] [(.int (4 : Int32)), (.int m2_l0)])) _
          refine XS.iushr X0.here hx rfl (hb hby d3_59) rfl ?_
          show Steps p.tables e below (s₁.setTop (mkF m 60 #[.val (.int m2_l0), .val (.int (m2_l1 + (-4 : Int32)))] [(.int ((m2_l0.toUInt32 >>> ((4 : Int32) &&& 31).toUInt32).toInt32))])) _
          refine XS.istoreN X0.here hx rfl (hb hby d3_60) rfl (l' := #[.val (.int ((m2_l0.toUInt32 >>> ((4 : Int32) &&& 31).toUInt32).toInt32)), .val (.int (m2_l1 + (-4 : Int32)))]) rfl ?_
          exact kk
      refine k3 m3_l0 m3_l1 _ (fun h => by rw [em3_l0, if_pos h]) (fun h => by rw [em3_l0, if_neg h]) (fun h => by rw [em3_l1, if_pos h]) (fun h => by rw [em3_l1, if_neg h]) ?_
      show Steps p.tables e below (s₁.setTop (mkF m 61 #[.val (.int m3_l0), .val (.int m3_l1)] [])) _
      refine XS.iloadN X0.here hx rfl (hb hby d3_61) rfl ?_
      show Steps p.tables e below (s₁.setTop (mkF m 62 #[.val (.int m3_l0), .val (.int m3_l1)] [(.int m3_l0)])) _
      refine XS.iconst X0.here hx rfl (hb hby d3_62) ?_
      show Steps p.tables e below (s₁.setTop (mkF m 63 #[.val (.int m3_l0), .val (.int m3_l1)] [(.int (4 : Int32)), (.int m3_l0)])) _
      have k4 : ∀ (m4_l0 : Int32) (m4_l1 : Int32) t, (m3_l0 < (4 : Int32) → m4_l0 = m3_l0) → (¬ (m3_l0 < (4 : Int32)) → m4_l0 = ((m3_l0.toUInt32 >>> ((2 : Int32) &&& 31).toUInt32).toInt32)) → (m3_l0 < (4 : Int32) → m4_l1 = m3_l1) → (¬ (m3_l0 < (4 : Int32)) → m4_l1 = (m3_l1 + (-2 : Int32))) → Steps p.tables e below (s₁.setTop (mkF m 73 #[.val (.int m4_l0), .val (.int m4_l1)] [])) t → Steps p.tables e below (s₁.setTop (mkF m 63 #[.val (.int m3_l0), .val (.int m3_l1)] [(.int (4 : Int32)), (.int m3_l0)])) t := by
        intro m4_l0 m4_l1 t hAm4_l0 hBm4_l0 hAm4_l1 hBm4_l1 kk
        by_cases hq63 : m3_l0 < (4 : Int32)
        · rw [hAm4_l0 hq63] at kk; rw [hAm4_l1 hq63] at kk
          refine XS.icmpYes X0.here hx rfl (pc0 := 63) (pc' := 73) rfl (hb hby d3_63) rfl (tlt hq63).1 (by decide) (by decide) ?_
          exact kk
        · rw [hBm4_l0 hq63] at kk; rw [hBm4_l1 hq63] at kk
          refine XS.icmpNo X0.here hx rfl (hb hby d3_63) rfl (flt hq63).1 ?_
          show Steps p.tables e below (s₁.setTop (mkF m 66 #[.val (.int m3_l0), .val (.int m3_l1)] [])) _
          refine XS.iinc X0.here hx rfl (hb hby d3_66) rfl (l' := #[.val (.int m3_l0), .val (.int (m3_l1 + (-2 : Int32)))]) rfl ?_
          show Steps p.tables e below (s₁.setTop (mkF m 69 #[.val (.int m3_l0), .val (.int (m3_l1 + (-2 : Int32)))] [])) _
          refine XS.iloadN X0.here hx rfl (hb hby d3_69) rfl ?_
          show Steps p.tables e below (s₁.setTop (mkF m 70 #[.val (.int m3_l0), .val (.int (m3_l1 + (-2 : Int32)))] [(.int m3_l0)])) _
          refine XS.iconst X0.here hx rfl (hb hby d3_70) ?_
          show Steps p.tables e below (s₁.setTop (mkF m 71 #[.val (.int m3_l0), .val (.int (m3_l1 + (-2 : Int32)))] [(.int (2 : Int32)), (.int m3_l0)])) _
          refine XS.iushr X0.here hx rfl (hb hby d3_71) rfl ?_
          show Steps p.tables e below (s₁.setTop (mkF m 72 #[.val (.int m3_l0), .val (.int (m3_l1 + (-2 : Int32)))] [(.int ((m3_l0.toUInt32 >>> ((2 : Int32) &&& 31).toUInt32).toInt32))])) _
          refine XS.istoreN X0.here hx rfl (hb hby d3_72) rfl (l' := #[.val (.int ((m3_l0.toUInt32 >>> ((2 : Int32) &&& 31).toUInt32).toInt32)), .val (.int (m3_l1 + (-2 : Int32)))]) rfl ?_
          exact kk
      refine k4 m4_l0 m4_l1 _ (fun h => by rw [em4_l0, if_pos h]) (fun h => by rw [em4_l0, if_neg h]) (fun h => by rw [em4_l1, if_pos h]) (fun h => by rw [em4_l1, if_neg h]) ?_
      show Steps p.tables e below (s₁.setTop (mkF m 73 #[.val (.int m4_l0), .val (.int m4_l1)] [])) _
      refine XS.iloadN X0.here hx rfl (hb hby d3_73) rfl ?_
      show Steps p.tables e below (s₁.setTop (mkF m 74 #[.val (.int m4_l0), .val (.int m4_l1)] [(.int m4_l1)])) _
      refine XS.iloadN X0.here hx rfl (hb hby d3_74) rfl ?_
      show Steps p.tables e below (s₁.setTop (mkF m 75 #[.val (.int m4_l0), .val (.int m4_l1)] [(.int m4_l0), (.int m4_l1)])) _
      refine XS.iconst X0.here hx rfl (hb hby d3_75) ?_
      show Steps p.tables e below (s₁.setTop (mkF m 76 #[.val (.int m4_l0), .val (.int m4_l1)] [(.int (1 : Int32)), (.int m4_l0), (.int m4_l1)])) _
      refine XS.iushr X0.here hx rfl (hb hby d3_76) rfl ?_
      show Steps p.tables e below (s₁.setTop (mkF m 77 #[.val (.int m4_l0), .val (.int m4_l1)] [(.int ((m4_l0.toUInt32 >>> ((1 : Int32) &&& 31).toUInt32).toInt32)), (.int m4_l1)])) _
      refine XS.isub X0.here hx rfl (hb hby d3_77) rfl ?_
      show Steps p.tables e below (s₁.setTop (mkF m 78 #[.val (.int m4_l0), .val (.int m4_l1)] [(.int (m4_l1 - ((m4_l0.toUInt32 >>> ((1 : Int32) &&& 31).toUInt32).toInt32)))])) _
      have hv : own_n32 x0 = (m4_l1 - ((m4_l0.toUInt32 >>> ((1 : Int32) &&& 31).toUInt32).toInt32)) := by
        unfold own_n32; rw [if_pos hc1]; subst em4_l1 em4_l0 em3_l1 em3_l0 em2_l1 em2_l0 em1_l1 em1_l0; rfl
      rw [hv] at hr
      exact retI X0 hx Bd.returns (hb hby d3_78) hr
    · refine XS.ifNo X0.here hx rfl (hb hby d3_1) rfl ((if0 _ _).trans (flt hc1).2.2.1) ?_
      show Steps p.tables e below (s₁.setTop (mkF m 4 #[.val (.int x0), .unset] [])) _
      refine XS.iloadN X0.here hx rfl (hb hby d3_4) rfl ?_
      show Steps p.tables e below (s₁.setTop (mkF m 5 #[.val (.int x0), .unset] [(.int x0)])) _
      by_cases hc5 : x0 = (0 : Int32)
      · refine XS.ifNo X0.here hx rfl (hb hby d3_5) rfl ((if0 _ _).trans (teq hc5).2) ?_
        show Steps p.tables e below (s₁.setTop (mkF m 8 #[.val (.int x0), .unset] [])) _
        refine XS.bipush X0.here hx rfl (hb hby d3_8) ?_
        show Steps p.tables e below (s₁.setTop (mkF m 10 #[.val (.int x0), .unset] [(.int (32 : Int32))])) _
        refine XS.goto X0.here hx rfl (pc0 := 10) (pc' := 14) rfl (hb hby d3_10) (by decide) (by decide) ?_
        show Steps p.tables e below (s₁.setTop (mkF m 14 #[.val (.int x0), .unset] [(.int (32 : Int32))])) _
        have hv : own_n32 x0 = (32 : Int32) := by unfold own_n32; rw [if_neg hc1, if_pos hc5]
        rw [hv] at hr
        exact retI X0 hx Bd.returns (hb hby d3_14) hr
      · refine XS.ifYes X0.here hx rfl (pc0 := 5) (pc' := 13) rfl (hb hby d3_5) rfl ((if0 _ _).trans (feq hc5).2) (by decide) (by decide) ?_
        show Steps p.tables e below (s₁.setTop (mkF m 13 #[.val (.int x0), .unset] [])) _
        refine XS.iconst X0.here hx rfl (hb hby d3_13) ?_
        show Steps p.tables e below (s₁.setTop (mkF m 14 #[.val (.int x0), .unset] [(.int (0 : Int32))])) _
        have hv : own_n32 x0 = (0 : Int32) := by unfold own_n32; rw [if_neg hc1, if_neg hc5]
        rw [hv] at hr
        exact retI X0 hx Bd.returns (hb hby d3_14) hr
  · exact ⟨rfl, N0, e0⟩
theorem pd__I_I : parseMethodDescriptor "(I)I" = some ⟨[.int], some .int⟩ := by decide +kernel
set_option maxRecDepth 65536 in
set_option maxHeartbeats 40000000 in
theorem rm2 (l : Launch) (Z : State) (a0 : Array Value) (hw : ∀ d ∈ tables_1, d.before a0 Z = true) (ws : List Jvm.Cond) (x0 : Int64)  (h0 : Heap) (n0 : Nat) (Z0 : n0 ≤ h0.size)  :
    MetFree l (⟨"java/lang/Long", "numberOfLeadingZeros", "(J)I"⟩ : MethodName) (head1 (Jvm.Cond.code (⟨"java/lang/Long", "numberOfLeadingZeros", "(J)I"⟩ : MethodName) jdk_35_method_48_code 3 (some .int) :: ws) ({ frames := 1, cells := 0, slots := 0, locals := 14 } : Room)) (fun a U => a = #[(.long x0)] ∧ Z.Warmed39 U.vm ∧ U.heap = h0) (fun _ _ _ _ _ => True) (fun _ U o U' => ∃ v L, o = .returned v ∧ (QP (some (.int (own_n64 x0))) h0 n0 v U'.heap L) ∧ FrameEnd U o U' L ({ frames := 1, cells := 0, slots := 0, locals := 14 } : Room).cells ({ frames := 1, cells := 0, slots := 0, locals := 14 } : Room).slots) := by
  refine MetFree.of_bodySF (plainFor_of_name pn_2) hisR ?_
  intro p e s m args below meth c s₁ Bd hml0 hP hK
  obtain ⟨rfl, hZ, hh⟩ := hP
  have hx := Bd.exec
  have hby := Bd.bytes
  have hml : c.maxLocals = 3 := hml0
  have hown : s.vm.findClass "java/lang/Long" = some m.cls := findClass_of_methodNamed Bd.named
  have hnm := (name_of_methodNamed Bd.named Bd.method).1
  have X0 : Stand p l e ({ frames := 1, cells := 0, slots := 0, locals := 14 } : Room) s m #[(.long x0)] below meth c s₁ [] 0 0 := Stand.of_body Bd
  have e0 : s₁.heap = h0 := by rw [← hh, Bd.state]; rfl
  have N0 := Fr.nil n0
  have pre0 : ∀ t, Steps p.tables e below (s₁.setTop (mkF m 0 #[.val (.long x0), .second, .unset] [])) t → Steps p.tables e below (s₁.setTop (entryFrame m #[(.long x0)] 3)) t := fun t k => castTop (ef_2 m x0) k
  obtain ⟨hi, e_hi⟩ : ∃ z : Int32, z = (((x0.toUInt64 >>> ((32 : Int32) &&& 0x3f).toInt64.toUInt64).toInt64).toInt32) := ⟨_, rfl⟩
  obtain ⟨m1_s0, em1_s0⟩ : ∃ z : Int32, z = (if hi = (0 : Int32) then ((32 : Int32) + (own_n32 (x0.toInt32))) else (own_n32 hi)) := ⟨_, rfl⟩
  obtain ⟨T1, L1, X1, e1, N1, st1⟩ : ∃ (T' : State) (L' : List Loc), Stand p l e ({ frames := 1, cells := 0, slots := 0, locals := 14 } : Room) s m #[(.long x0)] below meth c T' L' (0) (0) ∧ T'.heap = h0 ∧ Fr n0 L' ∧ ∀ target, Steps p.tables e below (T'.setTop (mkF m 25 #[.val (.long x0), .second, .val (.int hi)] [(.int m1_s0)])) target → Steps p.tables e below (s₁.setTop (mkF m 7 #[.val (.long x0), .second, .val (.int hi)] [(.int hi)])) target := by
    by_cases hq7 : hi = (0 : Int32)
    · obtain ⟨_, _, ⟨T2, L2, k2, n2⟩, -, X2, ⟨Lc2, hQ2, l2, y2, z2⟩, st2⟩ := Jvm.LawKit.callS X0 hx (y := (⟨"java/lang/Integer", "numberOfLeadingZeros", "(I)I"⟩ : MethodName)) hown (mvT hZ (hw _ (List.mem_of_getElem? (i := 8) rfl))) (mvT hZ (hw _ (List.mem_of_getElem? (i := 9) rfl))) (mvT hZ (hw _ (List.mem_of_getElem? (i := 10) rfl))) (mvT hZ (hw _ (List.mem_of_getElem? (i := 11) rfl))) (by decide) (backOf (W := 1) (rm3 l Z a0 hw [] (x0.toInt32) h0 n0 Z0) hZ (hw _ (List.mem_of_getElem? (i := 11) rfl)) (hw _ (List.mem_of_getElem? (i := 10) rfl)) (by decide) (by decide)) (g := (mkF m 14 #[.val (.long x0), .second, .val (.int hi)] [(.int (x0.toInt32)), (.int (32 : Int32))])) rfl (by rw [hml]; rfl) (argsL := [(.int (x0.toInt32))]) (rest := [(.int (32 : Int32))]) (lenOf pd__I_I rfl) rfl (by show 2 * 0 + _ ≤ _; exact Nat.le_of_eq rfl) (hb hby d2_14) (fun _ _ => ⟨rfl, e0, (by decide : 0 + 0 ≤ _), (by decide : 0 + 0 ≤ _)⟩)
      dsimp only [Pt.U, Pt.locs, Pt.cells, Pt.slots] at X2 l2 y2 z2 st2 hQ2
      subst l2 y2 z2
      obtain ⟨rfl, N2q, e2⟩ := hQ2
      have N2 := Fr.app N0 N2q
      refine ⟨T2, _, X2, e2, N2, fun target kt => ?_⟩
      rw [em1_s0, if_pos hq7] at kt
      show Steps p.tables e below (s₁.setTop (mkF m 7 #[.val (.long x0), .second, .val (.int hi)] [(.int hi)])) _
      refine XS.ifNo X0.here hx rfl (hb hby d2_7) rfl ((if0 _ _).trans (teq hq7).2) ?_
      show Steps p.tables e below (s₁.setTop (mkF m 10 #[.val (.long x0), .second, .val (.int hi)] [])) _
      refine XS.bipush X0.here hx rfl (hb hby d2_10) ?_
      show Steps p.tables e below (s₁.setTop (mkF m 12 #[.val (.long x0), .second, .val (.int hi)] [(.int (32 : Int32))])) _
      refine XS.lloadN X0.here hx rfl (hb hby d2_12) rfl ?_
      show Steps p.tables e below (s₁.setTop (mkF m 13 #[.val (.long x0), .second, .val (.int hi)] [(.long x0), (.int (32 : Int32))])) _
      refine XS.l2i X0.here hx rfl (hb hby d2_13) rfl ?_
      show Steps p.tables e below (s₁.setTop (mkF m 14 #[.val (.long x0), .second, .val (.int hi)] [(.int (x0.toInt32)), (.int (32 : Int32))])) _
      refine st2 _ ?_
      show Steps p.tables e below (T2.setTop (mkF m 17 #[.val (.long x0), .second, .val (.int hi)] [(.int (own_n32 (x0.toInt32))), (.int (32 : Int32))])) _
      refine XS.iadd X2.here hx rfl (hb hby d2_17) rfl ?_
      show Steps p.tables e below (T2.setTop (mkF m 18 #[.val (.long x0), .second, .val (.int hi)] [(.int ((32 : Int32) + (own_n32 (x0.toInt32))))])) _
      refine XS.goto X2.here hx rfl (pc0 := 18) (pc' := 25) rfl (hb hby d2_18) (by decide) (by decide) ?_
      exact kt
    · obtain ⟨_, _, ⟨T3, L3, k3, n3⟩, -, X3, ⟨Lc3, hQ3, l3, y3, z3⟩, st3⟩ := Jvm.LawKit.callS X0 hx (y := (⟨"java/lang/Integer", "numberOfLeadingZeros", "(I)I"⟩ : MethodName)) hown (mvT hZ (hw _ (List.mem_of_getElem? (i := 8) rfl))) (mvT hZ (hw _ (List.mem_of_getElem? (i := 9) rfl))) (mvT hZ (hw _ (List.mem_of_getElem? (i := 10) rfl))) (mvT hZ (hw _ (List.mem_of_getElem? (i := 11) rfl))) (by decide) (backOf (W := 0) (rm3 l Z a0 hw [] hi h0 n0 Z0) hZ (hw _ (List.mem_of_getElem? (i := 11) rfl)) (hw _ (List.mem_of_getElem? (i := 10) rfl)) (by decide) (by decide)) (g := (mkF m 22 #[.val (.long x0), .second, .val (.int hi)] [(.int hi)])) rfl (by rw [hml]; rfl) (argsL := [(.int hi)]) (rest := []) (lenOf pd__I_I rfl) rfl (by show 2 * 0 + _ ≤ _; exact Nat.le_of_eq rfl) (hb hby d2_22) (fun _ _ => ⟨rfl, e0, (by decide : 0 + 0 ≤ _), (by decide : 0 + 0 ≤ _)⟩)
      dsimp only [Pt.U, Pt.locs, Pt.cells, Pt.slots] at X3 l3 y3 z3 st3 hQ3
      subst l3 y3 z3
      obtain ⟨rfl, N3q, e3⟩ := hQ3
      have N3 := Fr.app N0 N3q
      refine ⟨T3, _, X3, e3, N3, fun target kt => ?_⟩
      rw [em1_s0, if_neg hq7] at kt
      show Steps p.tables e below (s₁.setTop (mkF m 7 #[.val (.long x0), .second, .val (.int hi)] [(.int hi)])) _
      refine XS.ifYes X0.here hx rfl (pc0 := 7) (pc' := 21) rfl (hb hby d2_7) rfl ((if0 _ _).trans (feq hq7).2) (by decide) (by decide) ?_
      show Steps p.tables e below (s₁.setTop (mkF m 21 #[.val (.long x0), .second, .val (.int hi)] [])) _
      refine XS.iloadN X0.here hx rfl (hb hby d2_21) rfl ?_
      show Steps p.tables e below (s₁.setTop (mkF m 22 #[.val (.long x0), .second, .val (.int hi)] [(.int hi)])) _
      refine st3 _ ?_
      exact kt
  obtain ⟨fs, hr, hrun, hended, hW, hsame⟩ := X1.leave (v := some (.int (own_n64 x0))) (fun h => by rw [Bd.returns] at h; cases h)
  refine ⟨_, _, pre0 _ ?_, hrun, hended, _, _, rfl, ?_, ⟨_, rfl⟩, hW, hsame.mono (by decide) (by decide)⟩
  · show Steps p.tables e below (s₁.setTop (mkF m 0 #[.val (.long x0), .second, .unset] [])) _
    refine XS.lloadN X0.here hx rfl (hb hby d2_0) rfl ?_
    show Steps p.tables e below (s₁.setTop (mkF m 1 #[.val (.long x0), .second, .unset] [(.long x0)])) _
    refine XS.bipush X0.here hx rfl (hb hby d2_1) ?_
    show Steps p.tables e below (s₁.setTop (mkF m 3 #[.val (.long x0), .second, .unset] [(.int (32 : Int32)), (.long x0)])) _
    refine XS.lushr X0.here hx rfl (hb hby d2_3) rfl ?_
    show Steps p.tables e below (s₁.setTop (mkF m 4 #[.val (.long x0), .second, .unset] [(.long ((x0.toUInt64 >>> ((32 : Int32) &&& 0x3f).toInt64.toUInt64).toInt64))])) _
    refine XS.l2i X0.here hx rfl (hb hby d2_4) rfl ?_
    show Steps p.tables e below (s₁.setTop (mkF m 5 #[.val (.long x0), .second, .unset] [(.int (((x0.toUInt64 >>> ((32 : Int32) &&& 0x3f).toInt64.toUInt64).toInt64).toInt32))])) _
    rw [← e_hi]
    show Steps p.tables e below (s₁.setTop (mkF m 5 #[.val (.long x0), .second, .unset] [(.int hi)])) _
    refine XS.istoreN X0.here hx rfl (hb hby d2_5) rfl (l' := #[.val (.long x0), .second, .val (.int hi)]) rfl ?_
    show Steps p.tables e below (s₁.setTop (mkF m 6 #[.val (.long x0), .second, .val (.int hi)] [])) _
    refine XS.iloadN X0.here hx rfl (hb hby d2_6) rfl ?_
    show Steps p.tables e below (s₁.setTop (mkF m 7 #[.val (.long x0), .second, .val (.int hi)] [(.int hi)])) _
    refine st1 _ ?_
    show Steps p.tables e below (T1.setTop (mkF m 25 #[.val (.long x0), .second, .val (.int hi)] [(.int m1_s0)])) _
    have hv : own_n64 x0 = m1_s0 := by rw [em1_s0, e_hi]; rfl
    rw [hv] at hr
    exact retI X1 hx Bd.returns (hb hby d2_25) hr
  · exact ⟨rfl, N1, e1⟩
theorem pd__J_I : parseMethodDescriptor "(J)I" = some ⟨[.long], some .int⟩ := by decide +kernel
set_option maxRecDepth 65536 in
set_option maxHeartbeats 40000000 in
theorem rm1 (l : Launch) (Z : State) (a0 : Array Value) (hw : ∀ d ∈ tables_1, d.before a0 Z = true) (ws : List Jvm.Cond) (x0 : Int64)  (h0 : Heap) (n0 : Nat) (Z0 : n0 ≤ h0.size)  :
    MetFree l (⟨"com/example/skylattice/skylattice/fits/Nuniq", "order", "(J)I"⟩ : MethodName) (head1 (Jvm.Cond.code (⟨"com/example/skylattice/skylattice/fits/Nuniq", "order", "(J)I"⟩ : MethodName) prog_35_method_3_code 3 (some .int) :: ws) ({ frames := 2, cells := 0, slots := 0, locals := 29 } : Room)) (fun a U => a = #[(.long x0)] ∧ Z.Warmed39 U.vm ∧ U.heap = h0) (fun _ _ _ _ _ => True) (fun _ U o U' => ∃ v L, o = .returned v ∧ (QP (some (.int (own_ord x0))) h0 n0 v U'.heap L) ∧ FrameEnd U o U' L ({ frames := 2, cells := 0, slots := 0, locals := 29 } : Room).cells ({ frames := 2, cells := 0, slots := 0, locals := 29 } : Room).slots) := by
  refine MetFree.of_bodySF (plainFor_of_name pn_1) hisR ?_
  intro p e s m args below meth c s₁ Bd hml0 hP hK
  obtain ⟨rfl, hZ, hh⟩ := hP
  have hx := Bd.exec
  have hby := Bd.bytes
  have hml : c.maxLocals = 3 := hml0
  have hown : s.vm.findClass "com/example/skylattice/skylattice/fits/Nuniq" = some m.cls := findClass_of_methodNamed Bd.named
  have hnm := (name_of_methodNamed Bd.named Bd.method).1
  have X0 : Stand p l e ({ frames := 2, cells := 0, slots := 0, locals := 29 } : Room) s m #[(.long x0)] below meth c s₁ [] 0 0 := Stand.of_body Bd
  have e0 : s₁.heap = h0 := by rw [← hh, Bd.state]; rfl
  have N0 := Fr.nil n0
  have pre0 : ∀ t, Steps p.tables e below (s₁.setTop (mkF m 0 #[.val (.long x0), .second, .unset] [])) t → Steps p.tables e below (s₁.setTop (entryFrame m #[(.long x0)] 3)) t := fun t k => castTop (ef_1 m x0) k
  obtain ⟨_, _, ⟨T1, L1, k1, n1⟩, -, X1, ⟨Lc1, hQ1, l1, y1, z1⟩, st1⟩ := Jvm.LawKit.callS X0 hx (y := (⟨"java/lang/Long", "numberOfLeadingZeros", "(J)I"⟩ : MethodName)) hown (mvT hZ (hw _ (List.mem_of_getElem? (i := 4) rfl))) (mvT hZ (hw _ (List.mem_of_getElem? (i := 5) rfl))) (mvT hZ (hw _ (List.mem_of_getElem? (i := 6) rfl))) (mvT hZ (hw _ (List.mem_of_getElem? (i := 7) rfl))) (by decide) (backOf (W := 1) (rm2 l Z a0 hw [] x0 h0 n0 Z0) hZ (hw _ (List.mem_of_getElem? (i := 7) rfl)) (hw _ (List.mem_of_getElem? (i := 6) rfl)) (by decide) (by decide)) (g := (mkF m 3 #[.val (.long x0), .second, .unset] [(.long x0), (.int (63 : Int32))])) rfl (by rw [hml]; rfl) (argsL := [(.long x0)]) (rest := [(.int (63 : Int32))]) (lenOf pd__J_I rfl) rfl (by show 2 * 0 + _ ≤ _; exact Nat.le_of_eq rfl) (hb hby d1_3) (fun _ _ => ⟨rfl, e0, (by decide : 0 + 0 ≤ _), (by decide : 0 + 0 ≤ _)⟩)
  dsimp only [Pt.U, Pt.locs, Pt.cells, Pt.slots] at X1 l1 y1 z1 st1 hQ1
  subst l1 y1 z1
  obtain ⟨rfl, N1q, e1⟩ := hQ1
  have N1 := Fr.app N0 N1q
  obtain ⟨rr, e_rr⟩ : ∃ z : Int32, z = ((((63 : Int32) - (own_n64 x0)) / (2 : Int32)) - (1 : Int32)) := ⟨_, rfl⟩
  obtain ⟨m2_s0, em2_s0⟩ : ∃ z : Int32, z = (if (29 : Int32) < rr then (-1 : Int32) else rr) := ⟨_, rfl⟩
  obtain ⟨fs, hr, hrun, hended, hW, hsame⟩ := X1.leave (v := some (.int (own_ord x0))) (fun h => by rw [Bd.returns] at h; cases h)
  refine ⟨_, _, pre0 _ ?_, hrun, hended, _, _, rfl, ?_, ⟨_, rfl⟩, hW, hsame.mono (by decide) (by decide)⟩
  · show Steps p.tables e below (s₁.setTop (mkF m 0 #[.val (.long x0), .second, .unset] [])) _
    refine XS.bipush X0.here hx rfl (hb hby d1_0) ?_
    show Steps p.tables e below (s₁.setTop (mkF m 2 #[.val (.long x0), .second, .unset] [(.int (63 : Int32))])) _
    refine XS.lloadN X0.here hx rfl (hb hby d1_2) rfl ?_
    show Steps p.tables e below (s₁.setTop (mkF m 3 #[.val (.long x0), .second, .unset] [(.long x0), (.int (63 : Int32))])) _
    refine st1 _ ?_
    show Steps p.tables e below (T1.setTop (mkF m 6 #[.val (.long x0), .second, .unset] [(.int (own_n64 x0)), (.int (63 : Int32))])) _
    refine XS.isub X1.here hx rfl (hb hby d1_6) rfl ?_
    show Steps p.tables e below (T1.setTop (mkF m 7 #[.val (.long x0), .second, .unset] [(.int ((63 : Int32) - (own_n64 x0)))])) _
    refine XS.iconst X1.here hx rfl (hb hby d1_7) ?_
    show Steps p.tables e below (T1.setTop (mkF m 8 #[.val (.long x0), .second, .unset] [(.int (2 : Int32)), (.int ((63 : Int32) - (own_n64 x0)))])) _
    refine XS.idiv X1.here hx rfl (hb hby d1_8) rfl (by decide) ?_
    show Steps p.tables e below (T1.setTop (mkF m 9 #[.val (.long x0), .second, .unset] [(.int (((63 : Int32) - (own_n64 x0)) / (2 : Int32)))])) _
    refine XS.iconst X1.here hx rfl (hb hby d1_9) ?_
    show Steps p.tables e below (T1.setTop (mkF m 10 #[.val (.long x0), .second, .unset] [(.int (1 : Int32)), (.int (((63 : Int32) - (own_n64 x0)) / (2 : Int32)))])) _
    refine XS.isub X1.here hx rfl (hb hby d1_10) rfl ?_
    show Steps p.tables e below (T1.setTop (mkF m 11 #[.val (.long x0), .second, .unset] [(.int ((((63 : Int32) - (own_n64 x0)) / (2 : Int32)) - (1 : Int32)))])) _
    rw [← e_rr]
    show Steps p.tables e below (T1.setTop (mkF m 11 #[.val (.long x0), .second, .unset] [(.int rr)])) _
    refine XS.istoreN X1.here hx rfl (hb hby d1_11) rfl (l' := #[.val (.long x0), .second, .val (.int rr)]) rfl ?_
    show Steps p.tables e below (T1.setTop (mkF m 12 #[.val (.long x0), .second, .val (.int rr)] [])) _
    refine XS.iloadN X1.here hx rfl (hb hby d1_12) rfl ?_
    show Steps p.tables e below (T1.setTop (mkF m 13 #[.val (.long x0), .second, .val (.int rr)] [(.int rr)])) _
    refine XS.bipush X1.here hx rfl (hb hby d1_13) ?_
    show Steps p.tables e below (T1.setTop (mkF m 15 #[.val (.long x0), .second, .val (.int rr)] [(.int (29 : Int32)), (.int rr)])) _
    have k2 : ∀ (m2_s0 : Int32) t, ((29 : Int32) < rr → m2_s0 = (-1 : Int32)) → (¬ ((29 : Int32) < rr) → m2_s0 = rr) → Steps p.tables e below (T1.setTop (mkF m 23 #[.val (.long x0), .second, .val (.int rr)] [(.int m2_s0)])) t → Steps p.tables e below (T1.setTop (mkF m 15 #[.val (.long x0), .second, .val (.int rr)] [(.int (29 : Int32)), (.int rr)])) t := by
      intro m2_s0 t hAm2_s0 hBm2_s0 kk
      by_cases hq15 : (29 : Int32) < rr
      · rw [hAm2_s0 hq15] at kk
        refine XS.icmpYes X1.here hx rfl (pc0 := 15) (pc' := 22) rfl (hb hby d1_15) rfl (tlt hq15).2.2.1 (by decide) (by decide) ?_
        show Steps p.tables e below (T1.setTop (mkF m 22 #[.val (.long x0), .second, .val (.int rr)] [])) _
        refine XS.iconst X1.here hx rfl (hb hby d1_22) ?_
        exact kk
      · rw [hBm2_s0 hq15] at kk
        refine XS.icmpNo X1.here hx rfl (hb hby d1_15) rfl (flt hq15).2.2.1 ?_
        show Steps p.tables e below (T1.setTop (mkF m 18 #[.val (.long x0), .second, .val (.int rr)] [])) _
        refine XS.iloadN X1.here hx rfl (hb hby d1_18) rfl ?_
        show Steps p.tables e below (T1.setTop (mkF m 19 #[.val (.long x0), .second, .val (.int rr)] [(.int rr)])) _
        refine XS.goto X1.here hx rfl (pc0 := 19) (pc' := 23) rfl (hb hby d1_19) (by decide) (by decide) ?_
        exact kk
    refine k2 m2_s0 _ (fun h => by rw [em2_s0, if_pos h]) (fun h => by rw [em2_s0, if_neg h]) ?_
    show Steps p.tables e below (T1.setTop (mkF m 23 #[.val (.long x0), .second, .val (.int rr)] [(.int m2_s0)])) _
    have hv : own_ord x0 = m2_s0 := by rw [em2_s0, e_rr]; rfl
    rw [hv] at hr
    exact retI X1 hx Bd.returns (hb hby d1_23) hr
  · exact ⟨rfl, N1, e1⟩
set_option maxRecDepth 65536 in
set_option maxHeartbeats 40000000 in
theorem rm0 (l : Launch) (Z : State) (a0 : Array Value) (hw : ∀ d ∈ tables_1, d.before a0 Z = true) (ws : List Jvm.Cond) (x0 : Int64) (x1 : Int32)  (h0 : Heap) (n0 : Nat) (Z0 : n0 ≤ h0.size)  :
    MetFree l x (head1 (Jvm.Cond.code x code maxLocals ret :: ws) room_1) (fun a U => a = #[(.long x0), (.int x1)] ∧ Z.Warmed39 U.vm ∧ U.heap = h0) (fun _ _ _ _ _ => True) (fun _ U o U' => ∃ v L, o = .returned v ∧ (QL n0 v U'.heap L) ∧ FrameEnd U o U' L room_1.cells room_1.slots) := by
  refine MetFree.of_bodySF (plainFor_of_name pn_0) hisR ?_
  intro p e s m args below meth c s₁ Bd hml0 hP hK
  obtain ⟨rfl, hZ, hh⟩ := hP
  have hx := Bd.exec
  have hby := Bd.bytes
  have hml : c.maxLocals = 10 := hml0
  have hown : s.vm.findClass "com/example/skylattice/skylattice/fits/NuniqOrderPinLaw" = some m.cls := findClass_of_methodNamed Bd.named
  have hnm := (name_of_methodNamed Bd.named Bd.method).1
  have X0 : Stand p l e room_1 s m #[(.long x0), (.int x1)] below meth c s₁ [] 0 0 := Stand.of_body Bd
  have e0 : s₁.heap = h0 := by rw [← hh, Bd.state]; rfl
  have N0 := Fr.nil n0
  have pre0 : ∀ t, Steps p.tables e below (s₁.setTop (mkF m 0 #[.val (.long x0), .second, .val (.int x1), .unset, .unset, .unset, .unset, .unset, .unset, .unset] [])) t → Steps p.tables e below (s₁.setTop (entryFrame m #[(.long x0), (.int x1)] maxLocals)) t := fun t k => castTop (ef_0 m x0 x1) k
  obtain ⟨vv, e_vv⟩ : ∃ z : Int64, z = (x0 >>> ((x1 &&& (63 : Int32)) &&& 0x3f).toInt64) := ⟨_, rfl⟩
  obtain ⟨_, _, ⟨T1, L1, k1, n1⟩, -, X1, ⟨Lc1, hQ1, l1, y1, z1⟩, st1⟩ := Jvm.LawKit.callS X0 hx (y := (⟨"com/example/skylattice/skylattice/fits/Nuniq", "order", "(J)I"⟩ : MethodName)) hown (mvT hZ (hw _ (List.mem_of_getElem? (i := 0) rfl))) (mvT hZ (hw _ (List.mem_of_getElem? (i := 1) rfl))) (mvT hZ (hw _ (List.mem_of_getElem? (i := 2) rfl))) (mvT hZ (hw _ (List.mem_of_getElem? (i := 3) rfl))) (by decide) (backOf (W := 0) (rm1 l Z a0 hw [] vv h0 n0 Z0) hZ (hw _ (List.mem_of_getElem? (i := 3) rfl)) (hw _ (List.mem_of_getElem? (i := 2) rfl)) (by decide) (by decide)) (g := (mkF m 8 #[.val (.long x0), .second, .val (.int x1), .val (.long vv), .second, .unset, .unset, .unset, .unset, .unset] [(.long vv)])) rfl (by rw [hml]; rfl) (argsL := [(.long vv)]) (rest := []) (lenOf pd__J_I rfl) rfl (by show 2 * 0 + _ ≤ _; exact Nat.le_of_eq rfl) (hb hby at_8) (fun _ _ => ⟨rfl, e0, (by decide : 0 + 0 ≤ _), (by decide : 0 + 0 ≤ _)⟩)
  dsimp only [Pt.U, Pt.locs, Pt.cells, Pt.slots] at X1 l1 y1 z1 st1 hQ1
  subst l1 y1 z1
  obtain ⟨rfl, N1q, e1⟩ := hQ1
  have N1 := Fr.app N0 N1q
  obtain ⟨fs, hr, hrun, hended, hW, hsame⟩ := X1.leave (v := some (.int (1 : Int32))) (fun h => by rw [Bd.returns] at h; cases h)
  refine ⟨_, _, pre0 _ ?_, hrun, hended, _, _, rfl, ?_, ⟨_, rfl⟩, hW, hsame.mono (by decide) (by decide)⟩
  · show Steps p.tables e below (s₁.setTop (mkF m 0 #[.val (.long x0), .second, .val (.int x1), .unset, .unset, .unset, .unset, .unset, .unset, .unset] [])) _
    refine XS.lloadN X0.here hx rfl (hb hby at_0) rfl ?_
    show Steps p.tables e below (s₁.setTop (mkF m 1 #[.val (.long x0), .second, .val (.int x1), .unset, .unset, .unset, .unset, .unset, .unset, .unset] [(.long x0)])) _
    refine XS.iloadN X0.here hx rfl (hb hby at_1) rfl ?_
    show Steps p.tables e below (s₁.setTop (mkF m 2 #[.val (.long x0), .second, .val (.int x1), .unset, .unset, .unset, .unset, .unset, .unset, .unset] [(.int x1), (.long x0)])) _
    refine XS.bipush X0.here hx rfl (hb hby at_2) ?_
    show Steps p.tables e below (s₁.setTop (mkF m 4 #[.val (.long x0), .second, .val (.int x1), .unset, .unset, .unset, .unset, .unset, .unset, .unset] [(.int (63 : Int32)), (.int x1), (.long x0)])) _
    refine XS.iand X0.here hx rfl (hb hby at_4) rfl ?_
    show Steps p.tables e below (s₁.setTop (mkF m 5 #[.val (.long x0), .second, .val (.int x1), .unset, .unset, .unset, .unset, .unset, .unset, .unset] [(.int (x1 &&& (63 : Int32))), (.long x0)])) _
    refine XS.lshr X0.here hx rfl (hb hby at_5) rfl ?_
    show Steps p.tables e below (s₁.setTop (mkF m 6 #[.val (.long x0), .second, .val (.int x1), .unset, .unset, .unset, .unset, .unset, .unset, .unset] [(.long (x0 >>> ((x1 &&& (63 : Int32)) &&& 0x3f).toInt64))])) _
    rw [← e_vv]
    show Steps p.tables e below (s₁.setTop (mkF m 6 #[.val (.long x0), .second, .val (.int x1), .unset, .unset, .unset, .unset, .unset, .unset, .unset] [(.long vv)])) _
    refine XS.lstoreN X0.here hx rfl (hb hby at_6) rfl (l' := #[.val (.long x0), .second, .val (.int x1), .val (.long vv), .second, .unset, .unset, .unset, .unset, .unset]) rfl ?_
    show Steps p.tables e below (s₁.setTop (mkF m 7 #[.val (.long x0), .second, .val (.int x1), .val (.long vv), .second, .unset, .unset, .unset, .unset, .unset] [])) _
    refine XS.lloadN X0.here hx rfl (hb hby at_7) rfl ?_
    show Steps p.tables e below (s₁.setTop (mkF m 8 #[.val (.long x0), .second, .val (.int x1), .val (.long vv), .second, .unset, .unset, .unset, .unset, .unset] [(.long vv)])) _
    refine st1 _ ?_
    show Steps p.tables e below (T1.setTop (mkF m 11 #[.val (.long x0), .second, .val (.int x1), .val (.long vv), .second, .unset, .unset, .unset, .unset, .unset] [(.int (own_ord vv))])) _
    refine XS.istore X1.here hx rfl (hb hby at_11) rfl (l' := #[.val (.long x0), .second, .val (.int x1), .val (.long vv), .second, .val (.int (own_ord vv)), .unset, .unset, .unset, .unset]) rfl ?_
    show Steps p.tables e below (T1.setTop (mkF m 13 #[.val (.long x0), .second, .val (.int x1), .val (.long vv), .second, .val (.int (own_ord vv)), .unset, .unset, .unset, .unset] [])) _
    refine XS.iload X1.here hx rfl (hb hby at_13) rfl ?_
    show Steps p.tables e below (T1.setTop (mkF m 15 #[.val (.long x0), .second, .val (.int x1), .val (.long vv), .second, .val (.int (own_ord vv)), .unset, .unset, .unset, .unset] [(.int (own_ord vv))])) _
    refine XS.iconst X1.here hx rfl (hb hby at_15) ?_
    show Steps p.tables e below (T1.setTop (mkF m 16 #[.val (.long x0), .second, .val (.int x1), .val (.long vv), .second, .val (.int (own_ord vv)), .unset, .unset, .unset, .unset] [(.int (-1 : Int32)), (.int (own_ord vv))])) _
    by_cases hc16 : (own_ord vv) = (-1 : Int32)
    · refine XS.icmpNo X1.here hx rfl (hb hby at_16) rfl (teq hc16).2 ?_
      show Steps p.tables e below (T1.setTop (mkF m 19 #[.val (.long x0), .second, .val (.int x1), .val (.long vv), .second, .val (.int (own_ord vv)), .unset, .unset, .unset, .unset] [])) _
      refine XS.lloadN X1.here hx rfl (hb hby at_19) rfl ?_
      show Steps p.tables e below (T1.setTop (mkF m 20 #[.val (.long x0), .second, .val (.int x1), .val (.long vv), .second, .val (.int (own_ord vv)), .unset, .unset, .unset, .unset] [(.long vv)])) _
      refine X1.ldc2Long hx hown (mvT hZ (hw _ (List.mem_of_getElem? (i := 12) rfl))) (g := (mkF m 20 #[.val (.long x0), .second, .val (.int x1), .val (.long vv), .second, .val (.int (own_ord vv)), .unset, .unset, .unset, .unset] [(.long vv)])) rfl (hb hby at_20) _ ?_
      show Steps p.tables e below (T1.setTop (mkF m 23 #[.val (.long x0), .second, .val (.int x1), .val (.long vv), .second, .val (.int (own_ord vv)), .unset, .unset, .unset, .unset] [(.long (4 : Int64)), (.long vv)])) _
      refine XS.lcmp X1.here hx rfl (hb hby at_23) rfl ?_
      show Steps p.tables e below (T1.setTop (mkF m 24 #[.val (.long x0), .second, .val (.int x1), .val (.long vv), .second, .val (.int (own_ord vv)), .unset, .unset, .unset, .unset] [(.int (lcmpW vv (4 : Int64)))])) _
      by_cases hc24 : (lcmpW vv (4 : Int64)) < (0 : Int32)
      · refine XS.ifYes X1.here hx rfl (pc0 := 24) (pc' := 35) rfl (hb hby at_24) rfl ((if0 _ _).trans (tlt hc24).1) (by decide) (by decide) ?_
        show Steps p.tables e below (T1.setTop (mkF m 35 #[.val (.long x0), .second, .val (.int x1), .val (.long vv), .second, .val (.int (own_ord vv)), .unset, .unset, .unset, .unset] [])) _
        refine XS.iconst X1.here hx rfl (hb hby at_35) ?_
        show Steps p.tables e below (T1.setTop (mkF m 36 #[.val (.long x0), .second, .val (.int x1), .val (.long vv), .second, .val (.int (own_ord vv)), .unset, .unset, .unset, .unset] [(.int (1 : Int32))])) _
        refine XS.goto X1.here hx rfl (pc0 := 36) (pc' := 40) rfl (hb hby at_36) (by decide) (by decide) ?_
        show Steps p.tables e below (T1.setTop (mkF m 40 #[.val (.long x0), .second, .val (.int x1), .val (.long vv), .second, .val (.int (own_ord vv)), .unset, .unset, .unset, .unset] [(.int (1 : Int32))])) _
        exact retN X1 hx (t := .boolean) Bd.returns (by simp) (hb hby at_40) hr
      · refine XS.ifNo X1.here hx rfl (hb hby at_24) rfl ((if0 _ _).trans (flt hc24).1) ?_
        show Steps p.tables e below (T1.setTop (mkF m 27 #[.val (.long x0), .second, .val (.int x1), .val (.long vv), .second, .val (.int (own_ord vv)), .unset, .unset, .unset, .unset] [])) _
        refine XS.lloadN X1.here hx rfl (hb hby at_27) rfl ?_
        show Steps p.tables e below (T1.setTop (mkF m 28 #[.val (.long x0), .second, .val (.int x1), .val (.long vv), .second, .val (.int (own_ord vv)), .unset, .unset, .unset, .unset] [(.long vv)])) _
        refine X1.ldc2Long hx hown (mvT hZ (hw _ (List.mem_of_getElem? (i := 15) rfl))) (g := (mkF m 28 #[.val (.long x0), .second, .val (.int x1), .val (.long vv), .second, .val (.int (own_ord vv)), .unset, .unset, .unset, .unset] [(.long vv)])) rfl (hb hby at_28) _ ?_
        show Steps p.tables e below (T1.setTop (mkF m 31 #[.val (.long x0), .second, .val (.int x1), .val (.long vv), .second, .val (.int (own_ord vv)), .unset, .unset, .unset, .unset] [(.long (4611686018427387904 : Int64)), (.long vv)])) _
        refine XS.lcmp X1.here hx rfl (hb hby at_31) rfl ?_
        show Steps p.tables e below (T1.setTop (mkF m 32 #[.val (.long x0), .second, .val (.int x1), .val (.long vv), .second, .val (.int (own_ord vv)), .unset, .unset, .unset, .unset] [(.int (lcmpW vv (4611686018427387904 : Int64)))])) _
        by_cases hc32 : (lcmpW vv (4611686018427387904 : Int64)) < (0 : Int32)
        · refine XS.ifYes X1.here hx rfl (pc0 := 32) (pc' := 39) rfl (hb hby at_32) rfl ((if0 _ _).trans (tlt hc32).1) (by decide) (by decide) ?_
          show Steps p.tables e below (T1.setTop (mkF m 39 #[.val (.long x0), .second, .val (.int x1), .val (.long vv), .second, .val (.int (own_ord vv)), .unset, .unset, .unset, .unset] [])) _
          refine XS.iconst X1.here hx rfl (hb hby at_39) ?_
          show Steps p.tables e below (T1.setTop (mkF m 40 #[.val (.long x0), .second, .val (.int x1), .val (.long vv), .second, .val (.int (own_ord vv)), .unset, .unset, .unset, .unset] [(.int (0 : Int32))])) _
          exfalso
          rcases own_main vv with ⟨q1, q2⟩ | ⟨q1, q2, q3, q4, q5⟩
          · first | exact hc16 q1 | exact q2.elim hc24 (fun z => z hc32)
          · first | exact q1 hc16 | exact q2 hc43 | exact q3 hc50 | exact q4 hc79 | exact hc86 q5
        · refine XS.ifNo X1.here hx rfl (hb hby at_32) rfl ((if0 _ _).trans (flt hc32).1) ?_
          show Steps p.tables e below (T1.setTop (mkF m 35 #[.val (.long x0), .second, .val (.int x1), .val (.long vv), .second, .val (.int (own_ord vv)), .unset, .unset, .unset, .unset] [])) _
          refine XS.iconst X1.here hx rfl (hb hby at_35) ?_
          show Steps p.tables e below (T1.setTop (mkF m 36 #[.val (.long x0), .second, .val (.int x1), .val (.long vv), .second, .val (.int (own_ord vv)), .unset, .unset, .unset, .unset] [(.int (1 : Int32))])) _
          refine XS.goto X1.here hx rfl (pc0 := 36) (pc' := 40) rfl (hb hby at_36) (by decide) (by decide) ?_
          show Steps p.tables e below (T1.setTop (mkF m 40 #[.val (.long x0), .second, .val (.int x1), .val (.long vv), .second, .val (.int (own_ord vv)), .unset, .unset, .unset, .unset] [(.int (1 : Int32))])) _
          exact retN X1 hx (t := .boolean) Bd.returns (by simp) (hb hby at_40) hr
    · refine XS.icmpYes X1.here hx rfl (pc0 := 16) (pc' := 41) rfl (hb hby at_16) rfl (feq hc16).2 (by decide) (by decide) ?_
      show Steps p.tables e below (T1.setTop (mkF m 41 #[.val (.long x0), .second, .val (.int x1), .val (.long vv), .second, .val (.int (own_ord vv)), .unset, .unset, .unset, .unset] [])) _
      refine XS.iload X1.here hx rfl (hb hby at_41) rfl ?_
      show Steps p.tables e below (T1.setTop (mkF m 43 #[.val (.long x0), .second, .val (.int x1), .val (.long vv), .second, .val (.int (own_ord vv)), .unset, .unset, .unset, .unset] [(.int (own_ord vv))])) _
      by_cases hc43 : (own_ord vv) < (0 : Int32)
      · refine XS.ifYes X1.here hx rfl (pc0 := 43) (pc' := 53) rfl (hb hby at_43) rfl ((if0 _ _).trans (tlt hc43).1) (by decide) (by decide) ?_
        show Steps p.tables e below (T1.setTop (mkF m 53 #[.val (.long x0), .second, .val (.int x1), .val (.long vv), .second, .val (.int (own_ord vv)), .unset, .unset, .unset, .unset] [])) _
        refine XS.iconst X1.here hx rfl (hb hby at_53) ?_
        show Steps p.tables e below (T1.setTop (mkF m 54 #[.val (.long x0), .second, .val (.int x1), .val (.long vv), .second, .val (.int (own_ord vv)), .unset, .unset, .unset, .unset] [(.int (0 : Int32))])) _
        exfalso
        rcases own_main vv with ⟨q1, q2⟩ | ⟨q1, q2, q3, q4, q5⟩
        · first | exact hc16 q1 | exact q2.elim hc24 (fun z => z hc32)
        · first | exact q1 hc16 | exact q2 hc43 | exact q3 hc50 | exact q4 hc79 | exact hc86 q5
      · refine XS.ifNo X1.here hx rfl (hb hby at_43) rfl ((if0 _ _).trans (flt hc43).1) ?_
        show Steps p.tables e below (T1.setTop (mkF m 46 #[.val (.long x0), .second, .val (.int x1), .val (.long vv), .second, .val (.int (own_ord vv)), .unset, .unset, .unset, .unset] [])) _
        refine XS.iload X1.here hx rfl (hb hby at_46) rfl ?_
        show Steps p.tables e below (T1.setTop (mkF m 48 #[.val (.long x0), .second, .val (.int x1), .val (.long vv), .second, .val (.int (own_ord vv)), .unset, .unset, .unset, .unset] [(.int (own_ord vv))])) _
        refine XS.bipush X1.here hx rfl (hb hby at_48) ?_
        show Steps p.tables e below (T1.setTop (mkF m 50 #[.val (.long x0), .second, .val (.int x1), .val (.long vv), .second, .val (.int (own_ord vv)), .unset, .unset, .unset, .unset] [(.int (29 : Int32)), (.int (own_ord vv))])) _
        by_cases hc50 : (29 : Int32) < (own_ord vv)
        · refine XS.icmpNo X1.here hx rfl (hb hby at_50) rfl (tlt hc50).2.2.2 ?_
          show Steps p.tables e below (T1.setTop (mkF m 53 #[.val (.long x0), .second, .val (.int x1), .val (.long vv), .second, .val (.int (own_ord vv)), .unset, .unset, .unset, .unset] [])) _
          refine XS.iconst X1.here hx rfl (hb hby at_53) ?_
          show Steps p.tables e below (T1.setTop (mkF m 54 #[.val (.long x0), .second, .val (.int x1), .val (.long vv), .second, .val (.int (own_ord vv)), .unset, .unset, .unset, .unset] [(.int (0 : Int32))])) _
          exfalso
          rcases own_main vv with ⟨q1, q2⟩ | ⟨q1, q2, q3, q4, q5⟩
          · first | exact hc16 q1 | exact q2.elim hc24 (fun z => z hc32)
          · first | exact q1 hc16 | exact q2 hc43 | exact q3 hc50 | exact q4 hc79 | exact hc86 q5
        · refine XS.icmpYes X1.here hx rfl (pc0 := 50) (pc' := 55) rfl (hb hby at_50) rfl (flt hc50).2.2.2 (by decide) (by decide) ?_
          show Steps p.tables e below (T1.setTop (mkF m 55 #[.val (.long x0), .second, .val (.int x1), .val (.long vv), .second, .val (.int (own_ord vv)), .unset, .unset, .unset, .unset] [])) _
          refine X1.ldc2Long hx hown (mvT hZ (hw _ (List.mem_of_getElem? (i := 12) rfl))) (g := (mkF m 55 #[.val (.long x0), .second, .val (.int x1), .val (.long vv), .second, .val (.int (own_ord vv)), .unset, .unset, .unset, .unset] [])) rfl (hb hby at_55) _ ?_
          show Steps p.tables e below (T1.setTop (mkF m 58 #[.val (.long x0), .second, .val (.int x1), .val (.long vv), .second, .val (.int (own_ord vv)), .unset, .unset, .unset, .unset] [(.long (4 : Int64))])) _
          refine XS.iconst X1.here hx rfl (hb hby at_58) ?_
          show Steps p.tables e below (T1.setTop (mkF m 59 #[.val (.long x0), .second, .val (.int x1), .val (.long vv), .second, .val (.int (own_ord vv)), .unset, .unset, .unset, .unset] [(.int (2 : Int32)), (.long (4 : Int64))])) _
          refine XS.iload X1.here hx rfl (hb hby at_59) rfl ?_
          show Steps p.tables e below (T1.setTop (mkF m 61 #[.val (.long x0), .second, .val (.int x1), .val (.long vv), .second, .val (.int (own_ord vv)), .unset, .unset, .unset, .unset] [(.int (own_ord vv)), (.int (2 : Int32)), (.long (4 : Int64))])) _
          refine XS.imul X1.here hx rfl (hb hby at_61) rfl ?_
          show Steps p.tables e below (T1.setTop (mkF m 62 #[.val (.long x0), .second, .val (.int x1), .val (.long vv), .second, .val (.int (own_ord vv)), .unset, .unset, .unset, .unset] [(.int ((2 : Int32) * (own_ord vv))), (.long (4 : Int64))])) _
          refine XS.lshl X1.here hx rfl (hb hby at_62) rfl ?_
          show Steps p.tables e below (T1.setTop (mkF m 63 #[.val (.long x0), .second, .val (.int x1), .val (.long vv), .second, .val (.int (own_ord vv)), .unset, .unset, .unset, .unset] [(.long ((4 : Int64) <<< (((2 : Int32) * (own_ord vv)) &&& 0x3f).toInt64))])) _
          refine XS.lstore X1.here hx rfl (hb hby at_63) rfl (l' := #[.val (.long x0), .second, .val (.int x1), .val (.long vv), .second, .val (.int (own_ord vv)), .val (.long ((4 : Int64) <<< (((2 : Int32) * (own_ord vv)) &&& 0x3f).toInt64)), .second, .unset, .unset]) rfl ?_
          show Steps p.tables e below (T1.setTop (mkF m 65 #[.val (.long x0), .second, .val (.int x1), .val (.long vv), .second, .val (.int (own_ord vv)), .val (.long ((4 : Int64) <<< (((2 : Int32) * (own_ord vv)) &&& 0x3f).toInt64)), .second, .unset, .unset] [])) _
          refine X1.ldc2Long hx hown (mvT hZ (hw _ (List.mem_of_getElem? (i := 14) rfl))) (g := (mkF m 65 #[.val (.long x0), .second, .val (.int x1), .val (.long vv), .second, .val (.int (own_ord vv)), .val (.long ((4 : Int64) <<< (((2 : Int32) * (own_ord vv)) &&& 0x3f).toInt64)), .second, .unset, .unset] [])) rfl (hb hby at_65) _ ?_
          show Steps p.tables e below (T1.setTop (mkF m 68 #[.val (.long x0), .second, .val (.int x1), .val (.long vv), .second, .val (.int (own_ord vv)), .val (.long ((4 : Int64) <<< (((2 : Int32) * (own_ord vv)) &&& 0x3f).toInt64)), .second, .unset, .unset] [(.long (16 : Int64))])) _
          refine XS.iconst X1.here hx rfl (hb hby at_68) ?_
          show Steps p.tables e below (T1.setTop (mkF m 69 #[.val (.long x0), .second, .val (.int x1), .val (.long vv), .second, .val (.int (own_ord vv)), .val (.long ((4 : Int64) <<< (((2 : Int32) * (own_ord vv)) &&& 0x3f).toInt64)), .second, .unset, .unset] [(.int (2 : Int32)), (.long (16 : Int64))])) _
          refine XS.iload X1.here hx rfl (hb hby at_69) rfl ?_
          show Steps p.tables e below (T1.setTop (mkF m 71 #[.val (.long x0), .second, .val (.int x1), .val (.long vv), .second, .val (.int (own_ord vv)), .val (.long ((4 : Int64) <<< (((2 : Int32) * (own_ord vv)) &&& 0x3f).toInt64)), .second, .unset, .unset] [(.int (own_ord vv)), (.int (2 : Int32)), (.long (16 : Int64))])) _
          refine XS.imul X1.here hx rfl (hb hby at_71) rfl ?_
          show Steps p.tables e below (T1.setTop (mkF m 72 #[.val (.long x0), .second, .val (.int x1), .val (.long vv), .second, .val (.int (own_ord vv)), .val (.long ((4 : Int64) <<< (((2 : Int32) * (own_ord vv)) &&& 0x3f).toInt64)), .second, .unset, .unset] [(.int ((2 : Int32) * (own_ord vv))), (.long (16 : Int64))])) _
          refine XS.lshl X1.here hx rfl (hb hby at_72) rfl ?_
          show Steps p.tables e below (T1.setTop (mkF m 73 #[.val (.long x0), .second, .val (.int x1), .val (.long vv), .second, .val (.int (own_ord vv)), .val (.long ((4 : Int64) <<< (((2 : Int32) * (own_ord vv)) &&& 0x3f).toInt64)), .second, .unset, .unset] [(.long ((16 : Int64) <<< (((2 : Int32) * (own_ord vv)) &&& 0x3f).toInt64))])) _
          refine XS.lstore X1.here hx rfl (hb hby at_73) rfl (l' := #[.val (.long x0), .second, .val (.int x1), .val (.long vv), .second, .val (.int (own_ord vv)), .val (.long ((4 : Int64) <<< (((2 : Int32) * (own_ord vv)) &&& 0x3f).toInt64)), .second, .val (.long ((16 : Int64) <<< (((2 : Int32) * (own_ord vv)) &&& 0x3f).toInt64)), .second]) rfl ?_
          show Steps p.tables e below (T1.setTop (mkF m 75 #[.val (.long x0), .second, .val (.int x1), .val (.long vv), .second, .val (.int (own_ord vv)), .val (.long ((4 : Int64) <<< (((2 : Int32) * (own_ord vv)) &&& 0x3f).toInt64)), .second, .val (.long ((16 : Int64) <<< (((2 : Int32) * (own_ord vv)) &&& 0x3f).toInt64)), .second] [])) _
          refine XS.lload X1.here hx rfl (hb hby at_75) rfl ?_
          show Steps p.tables e below (T1.setTop (mkF m 77 #[.val (.long x0), .second, .val (.int x1), .val (.long vv), .second, .val (.int (own_ord vv)), .val (.long ((4 : Int64) <<< (((2 : Int32) * (own_ord vv)) &&& 0x3f).toInt64)), .second, .val (.long ((16 : Int64) <<< (((2 : Int32) * (own_ord vv)) &&& 0x3f).toInt64)), .second] [(.long ((4 : Int64) <<< (((2 : Int32) * (own_ord vv)) &&& 0x3f).toInt64))])) _
          refine XS.lloadN X1.here hx rfl (hb hby at_77) rfl ?_
          show Steps p.tables e below (T1.setTop (mkF m 78 #[.val (.long x0), .second, .val (.int x1), .val (.long vv), .second, .val (.int (own_ord vv)), .val (.long ((4 : Int64) <<< (((2 : Int32) * (own_ord vv)) &&& 0x3f).toInt64)), .second, .val (.long ((16 : Int64) <<< (((2 : Int32) * (own_ord vv)) &&& 0x3f).toInt64)), .second] [(.long vv), (.long ((4 : Int64) <<< (((2 : Int32) * (own_ord vv)) &&& 0x3f).toInt64))])) _
          refine XS.lcmp X1.here hx rfl (hb hby at_78) rfl ?_
          show Steps p.tables e below (T1.setTop (mkF m 79 #[.val (.long x0), .second, .val (.int x1), .val (.long vv), .second, .val (.int (own_ord vv)), .val (.long ((4 : Int64) <<< (((2 : Int32) * (own_ord vv)) &&& 0x3f).toInt64)), .second, .val (.long ((16 : Int64) <<< (((2 : Int32) * (own_ord vv)) &&& 0x3f).toInt64)), .second] [(.int (lcmpW ((4 : Int64) <<< (((2 : Int32) * (own_ord vv)) &&& 0x3f).toInt64) vv))])) _
          by_cases hc79 : (0 : Int32) < (lcmpW ((4 : Int64) <<< (((2 : Int32) * (own_ord vv)) &&& 0x3f).toInt64) vv)
          · refine XS.ifYes X1.here hx rfl (pc0 := 79) (pc' := 93) rfl (hb hby at_79) rfl ((if0 _ _).trans (tlt hc79).2.2.1) (by decide) (by decide) ?_
            show Steps p.tables e below (T1.setTop (mkF m 93 #[.val (.long x0), .second, .val (.int x1), .val (.long vv), .second, .val (.int (own_ord vv)), .val (.long ((4 : Int64) <<< (((2 : Int32) * (own_ord vv)) &&& 0x3f).toInt64)), .second, .val (.long ((16 : Int64) <<< (((2 : Int32) * (own_ord vv)) &&& 0x3f).toInt64)), .second] [])) _
            refine XS.iconst X1.here hx rfl (hb hby at_93) ?_
            show Steps p.tables e below (T1.setTop (mkF m 94 #[.val (.long x0), .second, .val (.int x1), .val (.long vv), .second, .val (.int (own_ord vv)), .val (.long ((4 : Int64) <<< (((2 : Int32) * (own_ord vv)) &&& 0x3f).toInt64)), .second, .val (.long ((16 : Int64) <<< (((2 : Int32) * (own_ord vv)) &&& 0x3f).toInt64)), .second] [(.int (0 : Int32))])) _
            exfalso
            rcases own_main vv with ⟨q1, q2⟩ | ⟨q1, q2, q3, q4, q5⟩
            · first | exact hc16 q1 | exact q2.elim hc24 (fun z => z hc32)
            · first | exact q1 hc16 | exact q2 hc43 | exact q3 hc50 | exact q4 hc79 | exact hc86 q5
          · refine XS.ifNo X1.here hx rfl (hb hby at_79) rfl ((if0 _ _).trans (flt hc79).2.2.1) ?_
            show Steps p.tables e below (T1.setTop (mkF m 82 #[.val (.long x0), .second, .val (.int x1), .val (.long vv), .second, .val (.int (own_ord vv)), .val (.long ((4 : Int64) <<< (((2 : Int32) * (own_ord vv)) &&& 0x3f).toInt64)), .second, .val (.long ((16 : Int64) <<< (((2 : Int32) * (own_ord vv)) &&& 0x3f).toInt64)), .second] [])) _
            refine XS.lloadN X1.here hx rfl (hb hby at_82) rfl ?_
            show Steps p.tables e below (T1.setTop (mkF m 83 #[.val (.long x0), .second, .val (.int x1), .val (.long vv), .second, .val (.int (own_ord vv)), .val (.long ((4 : Int64) <<< (((2 : Int32) * (own_ord vv)) &&& 0x3f).toInt64)), .second, .val (.long ((16 : Int64) <<< (((2 : Int32) * (own_ord vv)) &&& 0x3f).toInt64)), .second] [(.long vv)])) _
            refine XS.lload X1.here hx rfl (hb hby at_83) rfl ?_
            show Steps p.tables e below (T1.setTop (mkF m 85 #[.val (.long x0), .second, .val (.int x1), .val (.long vv), .second, .val (.int (own_ord vv)), .val (.long ((4 : Int64) <<< (((2 : Int32) * (own_ord vv)) &&& 0x3f).toInt64)), .second, .val (.long ((16 : Int64) <<< (((2 : Int32) * (own_ord vv)) &&& 0x3f).toInt64)), .second] [(.long ((16 : Int64) <<< (((2 : Int32) * (own_ord vv)) &&& 0x3f).toInt64)), (.long vv)])) _
            refine XS.lcmp X1.here hx rfl (hb hby at_85) rfl ?_
            show Steps p.tables e below (T1.setTop (mkF m 86 #[.val (.long x0), .second, .val (.int x1), .val (.long vv), .second, .val (.int (own_ord vv)), .val (.long ((4 : Int64) <<< (((2 : Int32) * (own_ord vv)) &&& 0x3f).toInt64)), .second, .val (.long ((16 : Int64) <<< (((2 : Int32) * (own_ord vv)) &&& 0x3f).toInt64)), .second] [(.int (lcmpW vv ((16 : Int64) <<< (((2 : Int32) * (own_ord vv)) &&& 0x3f).toInt64)))])) _
            by_cases hc86 : (lcmpW vv ((16 : Int64) <<< (((2 : Int32) * (own_ord vv)) &&& 0x3f).toInt64)) < (0 : Int32)
            · refine XS.ifNo X1.here hx rfl (hb hby at_86) rfl ((if0 _ _).trans (tlt hc86).2.1) ?_
              show Steps p.tables e below (T1.setTop (mkF m 89 #[.val (.long x0), .second, .val (.int x1), .val (.long vv), .second, .val (.int (own_ord vv)), .val (.long ((4 : Int64) <<< (((2 : Int32) * (own_ord vv)) &&& 0x3f).toInt64)), .second, .val (.long ((16 : Int64) <<< (((2 : Int32) * (own_ord vv)) &&& 0x3f).toInt64)), .second] [])) _
              refine XS.iconst X1.here hx rfl (hb hby at_89) ?_
              show Steps p.tables e below (T1.setTop (mkF m 90 #[.val (.long x0), .second, .val (.int x1), .val (.long vv), .second, .val (.int (own_ord vv)), .val (.long ((4 : Int64) <<< (((2 : Int32) * (own_ord vv)) &&& 0x3f).toInt64)), .second, .val (.long ((16 : Int64) <<< (((2 : Int32) * (own_ord vv)) &&& 0x3f).toInt64)), .second] [(.int (1 : Int32))])) _
              refine XS.goto X1.here hx rfl (pc0 := 90) (pc' := 94) rfl (hb hby at_90) (by decide) (by decide) ?_
              show Steps p.tables e below (T1.setTop (mkF m 94 #[.val (.long x0), .second, .val (.int x1), .val (.long vv), .second, .val (.int (own_ord vv)), .val (.long ((4 : Int64) <<< (((2 : Int32) * (own_ord vv)) &&& 0x3f).toInt64)), .second, .val (.long ((16 : Int64) <<< (((2 : Int32) * (own_ord vv)) &&& 0x3f).toInt64)), .second] [(.int (1 : Int32))])) _
              exact retN X1 hx (t := .boolean) Bd.returns (by simp) (hb hby at_94) hr
            · refine XS.ifYes X1.here hx rfl (pc0 := 86) (pc' := 93) rfl (hb hby at_86) rfl ((if0 _ _).trans (flt hc86).2.1) (by decide) (by decide) ?_
              show Steps p.tables e below (T1.setTop (mkF m 93 #[.val (.long x0), .second, .val (.int x1), .val (.long vv), .second, .val (.int (own_ord vv)), .val (.long ((4 : Int64) <<< (((2 : Int32) * (own_ord vv)) &&& 0x3f).toInt64)), .second, .val (.long ((16 : Int64) <<< (((2 : Int32) * (own_ord vv)) &&& 0x3f).toInt64)), .second] [])) _
              refine XS.iconst X1.here hx rfl (hb hby at_93) ?_
              show Steps p.tables e below (T1.setTop (mkF m 94 #[.val (.long x0), .second, .val (.int x1), .val (.long vv), .second, .val (.int (own_ord vv)), .val (.long ((4 : Int64) <<< (((2 : Int32) * (own_ord vv)) &&& 0x3f).toInt64)), .second, .val (.long ((16 : Int64) <<< (((2 : Int32) * (own_ord vv)) &&& 0x3f).toInt64)), .second] [(.int (0 : Int32))])) _
              exfalso
              rcases own_main vv with ⟨q1, q2⟩ | ⟨q1, q2, q3, q4, q5⟩
              · first | exact hc16 q1 | exact q2.elim hc24 (fun z => z hc32)
              · first | exact q1 hc16 | exact q2 hc43 | exact q3 hc50 | exact q4 hc79 | exact hc86 q5
  · exact ⟨rfl, N1⟩
set_option maxRecDepth 65536 in
set_option maxHeartbeats 40000000 in
theorem comes_1 {Post : Tables → Env → Array Value → State → Outcome → State → Prop} (hpost : ∀ tb e args s v u, (limb_1_1.after args s (.returned v) u = true ∧ limb_1_2.after args s (.returned v) u = true ∧ True) → FrameEnd s (.returned v) u (Jvm.fieldLocs frame_1_writes args s ++ Jvm.arrayLocs frame_1_arrays args s ++ Jvm.staticLocs frame_1_statics s) 0 0 → Post tb e args s (.returned v) u) :
    ArmFor flags0 classFile x code maxLocals ret World_1 tables_1 room_1 Calls_1 rest_1 Pre_1 Post := by
  intro l hfl _ _ p e ha hc hk s m args below hf hA hF happ hP
  obtain ⟨hcalls, hrest, hpre⟩ := hP
  obtain ⟨-, -, -, hnamed, -, -, -, hat⟩ := (Spec.applies_iff hf).mp happ
  obtain ⟨hg, hn⟩ := and_e (Cond.before_iff.mp (show (Jvm.Cond.and given_1 narrow_1).before args s = true from hpre))
  obtain ⟨g1, g2⟩ := and_e hg
  obtain ⟨g3, g4⟩ := and_e g2
  obtain ⟨w0, w1, rfl⟩ : ∃ w0 w1 : Value, args = #[w0, w1] := by
    have hs : args.size = 2 := by simpa [Cond.value, given_1] using g1
    obtain ⟨L⟩ := args
    match L, hs with
    | [w0, w1], _ => exact ⟨w0, w1, rfl⟩
  have hw := fun d (hd : d ∈ tables_1) => atoms_spec (ws := Jvm.Cond.code x code maxLocals ret :: tables_1) hat d (List.mem_cons_of_mem _ hd)
  have hfit : Fit s := fun {y c} hc i hi => by
    obtain ⟨ha, rfl⟩ := Array.getElem?_eq_some_iff.mp hc
    have q := List.all_eq_true.mp ((Array.all_eq_true_iff_forall_mem.mp hF) _ (Array.getElem_mem ha)) i (List.mem_range.mpr hi)
    simpa [Array.getElem?_eq_getElem hi] using q
  obtain ⟨i0, ei0⟩ := isL_v g3
  obtain rfl : w0 = (.long i0) := Option.some.inj ei0
  obtain ⟨i1, ei1⟩ := is_v g4
  obtain rfl : w1 = (.int i1) := Option.some.inj ei1
  obtain ⟨n, o, h1, h2, h3, _, L, rfl, ⟨rfl, N⟩, hq⟩ := rm0 l s _ hw tables_1 i0 i1  s.heap s.heap.size (Nat.le_refl _)  p e ha hc hk s m _ below hf ((Spec.applies_iff_loose hf).mp happ).1 ⟨rfl, State.Warmed39.refl s, rfl⟩ trivial
  refine ⟨n, _, h1, h2, h3, hpost _ _ _ _ _ _ ⟨Cond.after_iff.mpr rfl, Cond.after_iff.mpr (eq_i res_at (Term.int_eval (1)) rfl), trivial⟩ ⟨hq.1, hq.2.1, (hq.2.2.sift fun y hy => Or.inr (N y hy)).mono (by decide) (by decide)⟩⟩
theorem main_1_1 : Claimed_1_1 := comes_1 fun _ _ _ _ _ _ h hF => ⟨h.1, hF⟩
theorem main_1_2 : Claimed_1_2 := comes_1 fun _ _ _ _ _ _ h hF => ⟨h.2.1, hF⟩
end Jvm.Pilot.@@N@@
namespace Jvm.Pilot.@@N@@
open Jvm Jvm.ClassFile Sem Op Lib Jvm.Free Jvm.Stand Jvm.Pilot.@@N@@.Jvm.D
/-! MADE BY PROGRAM (witnessworld.py) out of the Statement's table words and the real class files: 15 classes; the members and pool entries that the words name. The judged class is class 1, her method 1. -/
namespace start1
open Jvm.ClassFile
def u (s : String) : CpInfo := .utf8 (stringToUtf16 s)
/-- a pool by its gaps: so many unusable entries, then the entry; so many at the end -/
def gap : Nat → List CpInfo → List CpInfo
  | 0, r => r
  | n + 1, r => .unusable :: gap n r
def poolList (es : List (Nat × CpInfo)) (last : Nat) : List CpInfo := es.foldr (fun e r => gap e.1 (e.2 :: r)) (gap last [])
def pool (es : List (Nat × CpInfo)) (last : Nat) : Array CpInfo := ⟨poolList es last⟩
def fileOf (pool : Array CpInfo) (this : Nat) (attrs : Array Attribute := #[]) (ms : Array MethodInfo := #[]) (fl : Nat := 33) (sup : Nat := 0) (ifs : Array Nat := #[]) (fds : Array FieldInfo := #[]) : ClassFile where
  minorVersion := 0
  majorVersion := 65
  constantPool := pool
  accessFlags := fl
  thisClass := this
  superClass := sup
  interfaces := ifs
  fields := fds
  methods := ms
  attributes := attrs
def plain (name : String) (sup : Option ClassId) : Class where
  name := name
  kind := .ordinary
  loader := none
  accessFlags := 33
  super := sup
  interfaces := #[]
  cf := none
  fields := #[]
  methods := #[]
  instanceTypes := #[]
  staticTypes := #[]
  resolved := #[]
  callSites := []
  init := .initialized
  statics := none
  mirror := none

def pool0 : Array CpInfo := pool [(5, u "<init>"), (0, u "()V"), (1, .class_ 10), (1, u "java/lang/Object")] 113

def k0m0 : Method := { name := "<init>", desc := "()V", sig := { parameters := [], returnType := none }, accessFlags := 1, code := none }
/-- java/lang/Object -/
def k0 : Class := { plain "java/lang/Object" none with
  accessFlags := 33
  interfaces := #[]
  cf := some (fileOf pool0 8 #[] #[{ accessFlags := 1, nameIndex := 5, descriptorIndex := 6, attributes := #[] }] 33 0 #[] #[])
  fields := #[]
  methods := #[k0m0]
  instanceTypes := #[]
  staticTypes := #[]
  resolved := Array.replicate 124 none
  statics := none }

def pool1 : Array CpInfo := pool [(2, .class_ 4), (1, u "java/lang/Object"), (0, u "<init>"), (0, u "()V"), (0, .methodref 8 9), (0, .class_ 10), (0, .nameAndType 11 12), (0, u "com/example/skylattice/skylattice/fits/Nuniq"), (0, u "order"), (0, u "(J)I"), (0, .long 4), (1, .long 4611686018427387904), (1, .long 16), (1, .class_ 20), (0, u "com/example/skylattice/skylattice/fits/NuniqOrderPinLaw"), (2, u "law"), (0, u "(JI)Z")] 3

def k1m0 : Method := { name := "<init>", desc := "()V", sig := { parameters := [], returnType := none }, accessFlags := 2, code := none }
def k1c1 : Code := { maxStack := 4, maxLocals := 10, code := code, exceptionTable := #[], attributes := #[] }
def k1m1 : Method := { name := "law", desc := "(JI)Z", sig := { parameters := [.long, .int], returnType := some .boolean }, accessFlags := 9, code := some k1c1 }
/-- com/example/skylattice/skylattice/fits/NuniqOrderPinLaw -/
def k1 : Class := { plain "com/example/skylattice/skylattice/fits/NuniqOrderPinLaw" (some 0) with
  accessFlags := 49
  interfaces := #[]
  cf := some (fileOf pool1 19 #[] #[{ accessFlags := 2, nameIndex := 5, descriptorIndex := 6, attributes := #[] }, { accessFlags := 9, nameIndex := 23, descriptorIndex := 24, attributes := #[] }] 49 2 #[] #[])
  fields := #[]
  methods := #[k1m0, k1m1]
  instanceTypes := #[]
  staticTypes := #[]
  resolved := Array.replicate 28 none
  statics := none }

def pool2 : Array CpInfo := pool [(2, .class_ 4), (1, u "java/lang/Object"), (0, u "<init>"), (0, u "()V"), (2, .methodref 10 11), (0, .class_ 12), (0, .nameAndType 13 14), (0, u "java/lang/Long"), (0, u "numberOfLeadingZeros"), (0, u "(J)I"), (2, .class_ 18), (0, u "com/example/skylattice/skylattice/fits/Nuniq"), (0, u "DEEPEST_32_BIT_ORDER"), (0, u "I"), (6, u "order")] 5

def k2m0 : Method := { name := "<init>", desc := "()V", sig := { parameters := [], returnType := none }, accessFlags := 2, code := none }
def k2c1 : Code := { maxStack := 3, maxLocals := 3, code := prog_35_method_3_code, exceptionTable := #[], attributes := #[] }
def k2m1 : Method := { name := "order", desc := "(J)I", sig := { parameters := [.long], returnType := some .int }, accessFlags := 8, code := some k2c1 }
/-- com/example/skylattice/skylattice/fits/Nuniq -/
def k2 : Class := { plain "com/example/skylattice/skylattice/fits/Nuniq" (some 0) with
  accessFlags := 48
  interfaces := #[]
  cf := some (fileOf pool2 17 #[] #[{ accessFlags := 2, nameIndex := 5, descriptorIndex := 6, attributes := #[] }, { accessFlags := 8, nameIndex := 27, descriptorIndex := 14, attributes := #[] }] 48 2 #[] #[{ accessFlags := 24, nameIndex := 19, descriptorIndex := 20, attributes := #[] }])
  fields := #[{ name := "DEEPEST_32_BIT_ORDER", type := .int, accessFlags := 24, slot := 0, constantValue := 0 }]
  methods := #[k2m0, k2m1]
  instanceTypes := #[]
  staticTypes := #[.int]
  resolved := Array.replicate 33 none
  statics := none }

def pool3 : Array CpInfo := pool [(1, .class_ 2), (0, u "java/io/Serializable"), (0, .class_ 4), (0, u "java/lang/Object")] 2

/-- java/io/Serializable -/
def k3 : Class := { plain "java/io/Serializable" (some 0) with
  accessFlags := 1537
  interfaces := #[]
  cf := some (fileOf pool3 1 #[] #[] 1537 3 #[] #[])
  fields := #[]
  methods := #[]
  instanceTypes := #[]
  staticTypes := #[]
  resolved := Array.replicate 7 none
  statics := none }

def pool4 : Array CpInfo := pool [(2, .class_ 4), (1, u "java/lang/Object"), (0, u "<init>"), (0, u "()V"), (1, .class_ 10), (1, u "java/lang/Number"), (2, .class_ 14), (0, u "java/io/Serializable"), (0, u "serialVersionUID"), (0, u "J")] 20

def k4m0 : Method := { name := "<init>", desc := "()V", sig := { parameters := [], returnType := none }, accessFlags := 1, code := none }
/-- java/lang/Number -/
def k4 : Class := { plain "java/lang/Number" (some 0) with
  accessFlags := 1057
  interfaces := #[3]
  cf := some (fileOf pool4 8 #[] #[{ accessFlags := 1, nameIndex := 5, descriptorIndex := 6, attributes := #[] }] 1057 2 #[13] #[{ accessFlags := 26, nameIndex := 15, descriptorIndex := 16, attributes := #[] }])
  fields := #[{ name := "serialVersionUID", type := .long, accessFlags := 26, slot := 0, constantValue := 0 }]
  methods := #[k4m0]
  instanceTypes := #[]
  staticTypes := #[.long]
  resolved := Array.replicate 37 none
  statics := none }

def pool5 : Array CpInfo := pool [(1, .class_ 2), (0, u "java/lang/Comparable"), (0, .class_ 4), (0, u "java/lang/Object")] 7

/-- java/lang/Comparable -/
def k5 : Class := { plain "java/lang/Comparable" (some 0) with
  accessFlags := 1537
  interfaces := #[]
  cf := some (fileOf pool5 1 #[] #[] 1537 3 #[] #[])
  fields := #[]
  methods := #[]
  instanceTypes := #[]
  staticTypes := #[]
  resolved := Array.replicate 12 none
  statics := none }

def pool6 : Array CpInfo := pool [(1, .class_ 2), (0, u "java/lang/constant/Constable"), (0, .class_ 4), (0, u "java/lang/Object")] 6

/-- java/lang/constant/Constable -/
def k6 : Class := { plain "java/lang/constant/Constable" (some 0) with
  accessFlags := 1537
  interfaces := #[]
  cf := some (fileOf pool6 1 #[] #[] 1537 3 #[] #[])
  fields := #[]
  methods := #[]
  instanceTypes := #[]
  staticTypes := #[]
  resolved := Array.replicate 11 none
  statics := none }

def pool7 : Array CpInfo := pool [(1, .class_ 2), (0, u "java/lang/constant/ConstantDesc"), (0, .class_ 4), (0, u "java/lang/Object")] 32

/-- java/lang/constant/ConstantDesc -/
def k7 : Class := { plain "java/lang/constant/ConstantDesc" (some 0) with
  accessFlags := 1537
  interfaces := #[]
  cf := some (fileOf pool7 1 #[] #[] 1537 3 #[] #[])
  fields := #[]
  methods := #[]
  instanceTypes := #[]
  staticTypes := #[]
  resolved := Array.replicate 37 none
  statics := none }

def pool8 : Array CpInfo := pool [(1, .class_ 2), (0, u "java/lang/Long"), (15, .class_ 20), (1, u "java/lang/Integer"), (79, u "numberOfLeadingZeros"), (0, u "(J)I"), (133, .class_ 237), (1, u "java/lang/Long$LongCache"), (33, .class_ 272), (0, u "java/lang/Number"), (2, u "value"), (0, u "J"), (31, .methodref 18 309), (0, .nameAndType 100 310), (0, u "(I)I"), (50, u "TYPE"), (0, u "Ljava/lang/Class;"), (0, .class_ 364), (0, u "java/lang/Comparable"), (0, .class_ 366), (0, u "java/lang/constant/Constable"), (0, .class_ 368), (0, u "java/lang/constant/ConstantDesc"), (0, u "MIN_VALUE"), (1, u "MAX_VALUE"), (4, u "SIZE"), (0, u "I"), (1, u "BYTES"), (1, u "serialVersionUID")] 142

def k8c0 : Code := { maxStack := 3, maxLocals := 3, code := jdk_35_method_48_code, exceptionTable := #[], attributes := #[] }
def k8m0 : Method := { name := "numberOfLeadingZeros", desc := "(J)I", sig := { parameters := [.long], returnType := some .int }, accessFlags := 9, code := some k8c0 }
/-- java/lang/Long -/
def k8 : Class := { plain "java/lang/Long" (some 4) with
  accessFlags := 49
  interfaces := #[5, 6, 7]
  cf := some (fileOf pool8 1 #[.nestMembers #[235]] #[{ accessFlags := 9, nameIndex := 100, descriptorIndex := 101, attributes := #[] }] 49 271 #[363, 365, 367] #[{ accessFlags := 25, nameIndex := 369, descriptorIndex := 276, attributes := #[] }, { accessFlags := 25, nameIndex := 371, descriptorIndex := 276, attributes := #[] }, { accessFlags := 25, nameIndex := 361, descriptorIndex := 362, attributes := #[] }, { accessFlags := 18, nameIndex := 275, descriptorIndex := 276, attributes := #[] }, { accessFlags := 25, nameIndex := 376, descriptorIndex := 377, attributes := #[] }, { accessFlags := 25, nameIndex := 379, descriptorIndex := 377, attributes := #[] }, { accessFlags := 26, nameIndex := 381, descriptorIndex := 276, attributes := #[] }])
  fields := #[{ name := "MIN_VALUE", type := .long, accessFlags := 25, slot := 0, constantValue := 0 }, { name := "MAX_VALUE", type := .long, accessFlags := 25, slot := 1, constantValue := 0 }, { name := "TYPE", type := (.object "java/lang/Class"), accessFlags := 25, slot := 2, constantValue := 0 }, { name := "value", type := .long, accessFlags := 18, slot := 0, constantValue := 0 }, { name := "SIZE", type := .int, accessFlags := 25, slot := 3, constantValue := 0 }, { name := "BYTES", type := .int, accessFlags := 25, slot := 4, constantValue := 0 }, { name := "serialVersionUID", type := .long, accessFlags := 26, slot := 5, constantValue := 0 }]
  methods := #[k8m0]
  instanceTypes := #[.long]
  staticTypes := #[.long, .long, (.object "java/lang/Class"), .int, .int, .long]
  resolved := Array.replicate 524 none
  statics := none }

def pool9 : Array CpInfo := pool [(1, .class_ 2), (0, u "java/lang/Integer"), (16, u "digits"), (0, u "[C"), (32, u "numberOfLeadingZeros"), (0, u "(I)I"), (30, u "DigitOnes"), (0, u "[B"), (2, u "DigitTens"), (99, .class_ 190), (0, u "java/lang/Integer$IntegerCache"), (3, u "I"), (8, .class_ 204), (0, u "java/lang/Number"), (2, u "value"), (56, .integer 65536), (37, u "TYPE"), (0, u "Ljava/lang/Class;"), (0, .class_ 305), (0, u "java/lang/Comparable"), (0, .class_ 307), (0, u "java/lang/constant/Constable"), (0, .class_ 309), (0, u "java/lang/constant/ConstantDesc"), (0, u "MIN_VALUE"), (1, u "MAX_VALUE"), (3, u "SIZE"), (1, u "BYTES"), (1, u "serialVersionUID"), (0, u "J")] 131

def k9c0 : Code := { maxStack := 3, maxLocals := 2, code := jdk_33_method_47_code, exceptionTable := #[], attributes := #[] }
def k9m0 : Method := { name := "numberOfLeadingZeros", desc := "(I)I", sig := { parameters := [.int], returnType := some .int }, accessFlags := 9, code := some k9c0 }
/-- java/lang/Integer -/
def k9 : Class := { plain "java/lang/Integer" (some 4) with
  accessFlags := 49
  interfaces := #[5, 6, 7]
  cf := some (fileOf pool9 1 #[.nestMembers #[189]] #[{ accessFlags := 9, nameIndex := 53, descriptorIndex := 54, attributes := #[] }] 49 203 #[304, 306, 308] #[{ accessFlags := 25, nameIndex := 310, descriptorIndex := 194, attributes := #[] }, { accessFlags := 25, nameIndex := 312, descriptorIndex := 194, attributes := #[] }, { accessFlags := 25, nameIndex := 302, descriptorIndex := 303, attributes := #[] }, { accessFlags := 24, nameIndex := 19, descriptorIndex := 20, attributes := #[] }, { accessFlags := 24, nameIndex := 89, descriptorIndex := 86, attributes := #[] }, { accessFlags := 24, nameIndex := 85, descriptorIndex := 86, attributes := #[] }, { accessFlags := 18, nameIndex := 207, descriptorIndex := 194, attributes := #[] }, { accessFlags := 25, nameIndex := 316, descriptorIndex := 194, attributes := #[] }, { accessFlags := 25, nameIndex := 318, descriptorIndex := 194, attributes := #[] }, { accessFlags := 26, nameIndex := 320, descriptorIndex := 321, attributes := #[] }])
  fields := #[{ name := "MIN_VALUE", type := .int, accessFlags := 25, slot := 0, constantValue := 0 }, { name := "MAX_VALUE", type := .int, accessFlags := 25, slot := 1, constantValue := 0 }, { name := "TYPE", type := (.object "java/lang/Class"), accessFlags := 25, slot := 2, constantValue := 0 }, { name := "digits", type := (.array .char), accessFlags := 24, slot := 3, constantValue := 0 }, { name := "DigitTens", type := (.array .byte), accessFlags := 24, slot := 4, constantValue := 0 }, { name := "DigitOnes", type := (.array .byte), accessFlags := 24, slot := 5, constantValue := 0 }, { name := "value", type := .int, accessFlags := 18, slot := 0, constantValue := 0 }, { name := "SIZE", type := .int, accessFlags := 25, slot := 6, constantValue := 0 }, { name := "BYTES", type := .int, accessFlags := 25, slot := 7, constantValue := 0 }, { name := "serialVersionUID", type := .long, accessFlags := 26, slot := 8, constantValue := 0 }]
  methods := #[k9m0]
  instanceTypes := #[.int]
  staticTypes := #[.int, .int, (.object "java/lang/Class"), (.array .char), (.array .byte), (.array .byte), .int, .int, .long]
  resolved := Array.replicate 453 none
  statics := none }

def pool10 : Array CpInfo := pool [(1, u "java/lang/Cloneable"), (0, .class_ 1), (0, u "java/lang/Object"), (0, .class_ 3)] 3

/-- java/lang/Cloneable -/
def k10 : Class := { plain "java/lang/Cloneable" (some 0) with
  accessFlags := 1537
  interfaces := #[]
  cf := some (fileOf pool10 2 #[] #[] 1537 4 #[] #[])
  fields := #[]
  methods := #[]
  instanceTypes := #[]
  staticTypes := #[]
  resolved := Array.replicate 8 none
  statics := none }

/-- the primitive byte -/
def k11 : Class := { plain "byte" none with kind := .primitive 'B', accessFlags := 0x411 }
/-- [B -/
def k12 : Class := { plain "[B" (some 0) with kind := .array 11 .byte, interfaces := #[10, 3], accessFlags := 1041 }

/-- the primitive int -/
def k13 : Class := { plain "int" none with kind := .primitive 'I', accessFlags := 0x411 }
/-- [I -/
def k14 : Class := { plain "[I" (some 0) with kind := .array 13 .int, interfaces := #[10, 3], accessFlags := 1041 }

def heap : Heap := #[]
def classes : Array Class := #[k0, k1, k2, k3, k4, k5, k6, k7, k8, k9, k10, k11, k12, k13, k14]
def interned : List (Array UInt16 × Addr) := []
def slotsUsed : Nat := 0
def theMethod : MethodId := ⟨1, 1⟩
def args0 : Array Value := #[.long 300, .int 2]
def aboutOver (below : List Frame) : State where
  vm := { classes := classes, interned := interned.toArray }
  heap := heap
  slotsUsed := slotsUsed
  threads := #[{ frames := .invoking theMethod args0 :: below }]
def below0 : List Frame := [.native { method := ⟨0, 0⟩, args := #[] }]
def about1 : State := aboutOver below0
def p0 : Program := .bare "" "" ""
def e0 : Env := launch0.env 0 0 0
theorem w_frames : about1.frames = Frame.invoking theMethod args0 :: below0 := rfl
set_option maxRecDepth 65536 in
theorem w_args : argsFit about1.vm theMethod args0 = true := by decide +kernel
set_option maxRecDepth 65536 in
theorem w_heap : heapFits about1 = true := by decide +kernel
set_option maxRecDepth 65536 in
theorem w_runnable : about1.curStatus? = some .runnable := by decide +kernel
set_option maxRecDepth 65536 in
theorem w_alone : about1.alone = true := by decide +kernel
set_option maxRecDepth 65536 in
theorem w_named : about1.methodNamed? x = some theMethod := by decide +kernel
set_option maxRecDepth 65536 in
theorem w_hears : about1.hears theMethod below0 = true := by decide +kernel
set_option maxRecDepth 65536 in
theorem w_ripe : about1.ripe theMethod args0 below0 = true := by decide +kernel
theorem w_running : about1.status = .running := rfl
set_option maxRecDepth 65536 in
theorem w_room : about1.hasRoom e0.platform room_1 = true :=
  launch0.hasRoom_least _ room_1 (by decide +kernel) (by decide +kernel) (by decide +kernel) (by decide +kernel) (by decide +kernel) (by decide +kernel)
theorem allAtoms_all (ts : List Jvm.Cond) (a : Array Jvm.Value) (st : Jvm.State) : (allAtoms ts).before a st = ts.all (fun c => c.before a st) := by
  induction ts with
  | nil => rfl
  | cons c t ih =>
    show (Jvm.Cond.and c (allAtoms t)).before a st = _
    rw [Jvm.Cond.before_and, ih, List.all_cons]
def words1 : List Jvm.Cond := Jvm.Cond.code x code maxLocals ret :: tables_1
/-- a 'code' word, met by the world's own term for the bytes: nothing is compared byte by byte -/
theorem code_word {y : MethodName} {bytes : ByteArray} {mx : Nat} {rt : Option FieldType} {a : Array Value} {s : State} {m : MethodId} {meth : Method} {c : Code} (h1 : s.methodNamed? y = some m) (h2 : s.vm.method? m = some meth) (h3 : meth.code = some c) (h4 : c.code = bytes)
    (h5 : (c.maxLocals == mx && c.exceptionTable.isEmpty && decide (c.maxStack ≤ mostOperands) && decide (meth.sig.returnType = rt) && !meth.locks && decide (parseMethodDescriptor y.desc = some meth.sig)) = true) : (Jvm.Cond.code y bytes mx rt).before a s = true := by
  simp only [Bool.and_eq_true, beq_iff_eq, Bool.not_eq_true', decide_eq_true_eq] at h5
  obtain ⟨⟨⟨⟨⟨g1, g2⟩, g3⟩, g4⟩, g5⟩, g6⟩ := h5
  simp [Cond.before, Cond.holds, Cond.value, h1, h2, h3, h4, g1, g2, g3, g4, g5, g6]
def isCode : Jvm.Cond → Bool
  | .code _ _ _ _ => true
  | _ => false
theorem all_split {L : List Jvm.Cond} {P : Jvm.Cond → Bool} (h1 : L.all (fun c => isCode c || P c) = true) (h2 : ∀ c ∈ L.filter isCode, P c = true) : L.all P = true := by
  refine List.all_eq_true.mpr fun c hc => ?_
  have h := List.all_eq_true.mp h1 c hc
  rcases Bool.eq_false_or_eq_true (isCode c) with hi | hi
  · exact h2 c (List.mem_filter.mpr ⟨hc, hi⟩)
  · simpa [hi] using h
set_option maxRecDepth 65536 in
theorem w_c0 : (Jvm.Cond.code x code maxLocals ret).before args0 about1 = true := code_word (m := ⟨1, 1⟩) (meth := k1m1) (c := k1c1) (by decide +kernel) rfl rfl rfl (by decide +kernel)
set_option maxRecDepth 65536 in
theorem w_c1 : (Jvm.Cond.code ({ cls := "com/example/skylattice/skylattice/fits/Nuniq", name := "order", desc := "(J)I" } : Jvm.MethodName) prog_35_method_3_code (3 : Nat) (Option.some Jvm.ClassFile.FieldType.int)).before args0 about1 = true := code_word (m := ⟨2, 1⟩) (meth := k2m1) (c := k2c1) (by decide +kernel) rfl rfl rfl (by decide +kernel)
set_option maxRecDepth 65536 in
theorem w_c2 : (Jvm.Cond.code ({ cls := "java/lang/Long", name := "numberOfLeadingZeros", desc := "(J)I" } : Jvm.MethodName) jdk_35_method_48_code (3 : Nat) (Option.some Jvm.ClassFile.FieldType.int)).before args0 about1 = true := code_word (m := ⟨8, 0⟩) (meth := k8m0) (c := k8c0) (by decide +kernel) rfl rfl rfl (by decide +kernel)
set_option maxRecDepth 65536 in
theorem w_c3 : (Jvm.Cond.code ({ cls := "java/lang/Integer", name := "numberOfLeadingZeros", desc := "(I)I" } : Jvm.MethodName) jdk_33_method_47_code (2 : Nat) (Option.some Jvm.ClassFile.FieldType.int)).before args0 about1 = true := code_word (m := ⟨9, 0⟩) (meth := k9m0) (c := k9c0) (by decide +kernel) rfl rfl rfl (by decide +kernel)
def codes1 : List Jvm.Cond := [Jvm.Cond.code x code maxLocals ret, Jvm.Cond.code ({ cls := "com/example/skylattice/skylattice/fits/Nuniq", name := "order", desc := "(J)I" } : Jvm.MethodName) prog_35_method_3_code (3 : Nat) (Option.some Jvm.ClassFile.FieldType.int), Jvm.Cond.code ({ cls := "java/lang/Long", name := "numberOfLeadingZeros", desc := "(J)I" } : Jvm.MethodName) jdk_35_method_48_code (3 : Nat) (Option.some Jvm.ClassFile.FieldType.int), Jvm.Cond.code ({ cls := "java/lang/Integer", name := "numberOfLeadingZeros", desc := "(I)I" } : Jvm.MethodName) jdk_33_method_47_code (2 : Nat) (Option.some Jvm.ClassFile.FieldType.int)]
set_option maxRecDepth 65536 in
theorem codes_eq : words1.filter isCode = codes1 := rfl
theorem w_codes : ∀ c ∈ words1.filter isCode, c.before args0 about1 = true := by
  rw [codes_eq]
  intro c hc
  simp only [codes1, List.mem_cons, List.not_mem_nil, or_false] at hc
  rcases hc with rfl | rfl | rfl | rfl
  · exact w_c0
  · exact w_c1
  · exact w_c2
  · exact w_c3
set_option maxRecDepth 65536 in
theorem w_t1 : words1.all (fun c => isCode c || c.before args0 about1) = true := by decide +kernel
theorem w_tables : (allAtoms (Jvm.Cond.code x code maxLocals ret :: tables_1)).before args0 about1 = true := by
  rw [allAtoms_all]
  show words1.all (fun c => c.before args0 about1) = true
  refine all_split ?_ w_codes
  rw [w_t1]
set_option maxRecDepth 65536 in
theorem w_case : (Jvm.Cond.and given_1 narrow_1).before args0 about1 = true := by decide +kernel
theorem w_applies : (headSpec (Jvm.Cond.code x code maxLocals ret :: tables_1) room_1).applies x e0.platform about1 = true :=
  (Spec.applies_iff w_frames).mpr ⟨w_running, w_runnable, w_alone, w_named, w_hears, w_ripe, w_room, w_tables⟩
theorem atStart : AtStart classFile x code maxLocals ret World_1 tables_1 room_1 Calls_1 rest_1 Pre_1 launch0 p0 e0 about1 theMethod args0 below0 :=
  ⟨lists_1, trivial, launch0.admits_env _ _ _, launch0.least_env, fairChoices_fair.cas, fairChoices_fair.clock, w_frames, w_args, w_heap, w_applies, trivial, trivial, w_case⟩
end start1
theorem witness_1 : WitnessClaimed_1 := ⟨start1.p0, start1.e0, start1.about1, start1.theMethod, start1.args0, start1.below0, start1.atStart⟩
end Jvm.Pilot.@@N@@
