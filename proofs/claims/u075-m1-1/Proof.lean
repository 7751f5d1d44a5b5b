import JvmDerived
import JvmDerived.Pilot.@@N@@Statement
import JvmDerived.Pilot.@@N@@Code
set_option linter.unusedVariables false
set_option linter.unusedSimpArgs false
namespace Jvm.RoadKit
open Sem ClassFile Op Lib Jvm.Stand Jvm.Free Jvm.LawKit
section New
variable {p : Program} {l : Launch} {e : Env} {R : Room} {s : State} {m : MethodId} {args : Array Value} {below : List Frame} {meth : Method} {c : Code} {T : State} {locs : List Loc} {cells slots : Nat}
theorem retI (X : Stand p l e R s m args below meth c T locs cells slots) (hx : p.tables.exec = Jvm.exec) {pc : Nat} {Ls : Array Slot} {z : Int32} {rest : List Value} (hret : meth.sig.returnType = some .int) (hd : decode c.code pc = .ok (.ireturn, 1)) {fs : List Frame}
    (hl : ∀ (f : JFrame) (acts : List Action), f.method = m → f.locked = none → f.entered = [] → (doReturn e (T.setTop f) acts (some (.int z))).1 = T.setFrames fs) : Steps p.tables e below (T.setTop (mkF m pc Ls (.int z :: rest))) (T.setFrames fs) := by
  have hm' : T.vm.method? m = some meth := X.method'
  have hn : narrow .int (.int z) = .int z := rfl
  show Steps p.tables e below (T.setTop { method := m, pc := pc, locals := Ls, stack := _ :: rest, locked := none }) _
  jvm_step X.here [X.here.top, hx, hd, hm', hret, hn]
  first | (intro acts; rw [hl _ acts rfl rfl rfl]) | rw [hl _ _ rfl rfl rfl]
  exact Steps.refl _
end New
end Jvm.RoadKit
namespace Jvm.Pilot.@@N@@
open Jvm Jvm.ClassFile Sem Op Lib Jvm.Free Jvm.Stand Jvm.LawKit Jvm.RoadKit Bundle Jvm.Pilot.@@N@@.Jvm.D
def QP (w : Option Value) (h0 : Heap) (n0 : Nat) (v : Option Value) (h : Heap) (L : List Loc) : Prop := v = w ∧ Fr n0 L ∧ h = h0
def QL (n0 : Nat) (v : Option Value) (h : Heap) (L : List Loc) : Prop := v = some (.int (1 : Int32)) ∧ Fr n0 L
def own_st (k : Int32) (M x : Int64) : Int64 := (x ||| (x <<< (k &&& 0x3f).toInt64)) &&& M
def own_spread (x : Int64) : Int64 := (own_st 1 6148914691236517205 (own_st 2 3689348814741910323 (own_st 4 1085102592571150095 (own_st 8 71777214294589695 (own_st 16 281470681808895 (x &&& (4294967295 : Int64)))))))
def own_cell (k b : Int32) (x y : Int64) : Int64 := ((b.toInt64 <<< (((2 : Int32) * k) &&& 0x3f).toInt64) ||| own_spread x) ||| (own_spread y <<< ((1 : Int32) &&& 0x3f).toInt64)
def own_sN (k M x : Nat) : Nat := (x ||| ((x <<< k) % 2 ^ 64)) &&& M
def own_spN (x : Nat) : Nat := (own_sN 1 6148914691236517205 (own_sN 2 3689348814741910323 (own_sN 4 1085102592571150095 (own_sN 8 71777214294589695 (own_sN 16 281470681808895 (x &&& 4294967295))))))
theorem own_lin (k M x y : Nat) : own_sN k M (x ||| y) = own_sN k M x ||| own_sN k M y := by
  apply Nat.eq_of_testBit_eq
  intro i
  simp only [own_sN, Nat.testBit_or, Nat.testBit_and, Nat.testBit_mod_two_pow, Nat.testBit_shiftLeft]
  generalize decide (i < 64) = b1
  generalize decide (i ≥ k) = b2
  generalize x.testBit i = b3
  generalize y.testBit i = b4
  generalize x.testBit (i - k) = b5
  generalize y.testBit (i - k) = b6
  generalize M.testBit i = b7
  revert b1 b2 b3 b4 b5 b6 b7
  decide
theorem own_splin (x y : Nat) : own_spN (x ||| y) = own_spN x ||| own_spN y := by
  simp only [own_spN, Nat.and_or_distrib_right, own_lin]
theorem own_basis : ∀ i, i < 31 → own_spN (2 ^ i) = 4 ^ i := by decide +kernel
theorem own_sp : ∀ m : Nat, m ≤ 29 → ∀ n, n < 2 ^ m → own_spN (2 * n) = 4 * own_spN n ∧ 3 * own_spN n < 4 ^ m := by
  intro m
  induction m with
  | zero =>
    intro _ n hn
    have h : n = 0 := by simpa using hn
    subst h
    decide
  | succ m ih =>
    intro hm n hn
    have ih := ih (by omega)
    have p1 : (4 : Nat) ^ (m + 1) = 4 * 4 ^ m := by rw [Nat.pow_succ]; omega
    have p2 : (2 : Nat) ^ (m + 1) = 2 * 2 ^ m := by rw [Nat.pow_succ]; omega
    by_cases h : n < 2 ^ m
    · have := ih n h; omega
    · obtain ⟨n', rfl⟩ : ∃ n', n = 2 ^ m + n' := ⟨n - 2 ^ m, by omega⟩
      have hn' : n' < 2 ^ m := by omega
      obtain ⟨i1, i2⟩ := ih n' hn'
      have f1 : (4 : Nat) ^ m = 2 ^ (2 * m) := by rw [show (4 : Nat) = 2 ^ 2 from rfl, ← Nat.pow_mul]
      have f2 : (4 : Nat) ^ (m + 1) = 2 ^ (2 * (m + 1)) := by rw [show (4 : Nat) = 2 ^ 2 from rfl, ← Nat.pow_mul]
      have e1 : 2 ^ m + n' = 2 ^ m ||| n' := by have := Nat.two_pow_add_eq_or_of_lt hn' 1; simpa using this
      have e2 : 2 * (2 ^ m + n') = 2 ^ (m + 1) ||| 2 * n' := by
        have := Nat.two_pow_add_eq_or_of_lt (i := m + 1) (b := 2 * n') (by omega) 1
        rw [Nat.mul_one] at this; rw [← this]; omega
      have e3 : own_spN (2 ^ m + n') = 4 ^ m + own_spN n' := by
        rw [e1, own_splin, own_basis m (by omega)]
        have := Nat.two_pow_add_eq_or_of_lt (i := 2 * m) (b := own_spN n') (by omega) 1
        rw [Nat.mul_one, ← f1] at this; exact this.symm
      have e4 : own_spN (2 * (2 ^ m + n')) = 4 ^ (m + 1) + 4 * own_spN n' := by
        rw [e2, own_splin, own_basis (m + 1) (by omega), i1]
        have := Nat.two_pow_add_eq_or_of_lt (i := 2 * (m + 1)) (b := 4 * own_spN n') (by omega) 1
        rw [Nat.mul_one, ← f2] at this; exact this.symm
      rw [e3, e4]; omega
theorem own_sp2 (m n a : Nat) (hm : m ≤ 29) (hn : n < 2 ^ m) (ha : a ≤ 1) : own_spN (2 * n + a) = 4 * own_spN n + a := by
  have h := (own_sp m hm n hn).1
  have h1 : own_spN 1 = 1 := by decide
  rcases (by omega : a = 0 ∨ a = 1) with rfl | rfl
  · exact h
  · have e1 : 2 * n + 1 = 2 * n ||| 1 := Nat.two_pow_add_eq_or_of_lt (i := 1) (b := 1) (by decide) n
    have e2 : 4 * own_spN n + 1 = 4 * own_spN n ||| 1 := Nat.two_pow_add_eq_or_of_lt (i := 2) (b := 1) (by decide) (own_spN n)
    rw [e1, own_splin, h, h1, ← e2]
theorem own_or4 (u v r t : Nat) (hr : r < 4) (ht : t < 4) : (4 * u + r) ||| (4 * v + t) = 4 * (u ||| v) + (r ||| t) := by
  have e1 : 4 * u + r = 4 * u ||| r := Nat.two_pow_add_eq_or_of_lt (i := 2) (b := r) hr u
  have e2 : 4 * v + t = 4 * v ||| t := Nat.two_pow_add_eq_or_of_lt (i := 2) (b := t) ht v
  have e3 : 4 * (u ||| v) + (r ||| t) = 4 * (u ||| v) ||| (r ||| t) := Nat.two_pow_add_eq_or_of_lt (i := 2) (b := r ||| t) (Nat.or_lt_two_pow (n := 2) hr ht) (u ||| v)
  have e4 : 4 * (u ||| v) = 4 * u ||| 4 * v := by
    have := Nat.shiftLeft_or_distrib (i := 2) (a := u) (b := v)
    simp only [Nat.shiftLeft_eq] at this
    rw [Nat.mul_comm 4, Nat.mul_comm 4 u, Nat.mul_comm 4 v]; exact this
  rw [e1, e2, e3, e4, Nat.or_assoc, Nat.or_assoc]
  congr 1
  rw [← Nat.or_assoc, ← Nat.or_assoc, Nat.or_comm r]
theorem own_toN (x : Int64) (n : Nat) (h : x.toInt = n) : x.toBitVec.toNat = n := by
  have h1 : x.toBitVec.toInt = n := h
  have h2 := x.toBitVec.isLt
  rw [BitVec.toInt_eq_toNat_cond] at h1
  split at h1 <;> omega
theorem own_ofN (x : Int64) (n : Nat) (h : x.toBitVec.toNat = n) (hn : n < 2 ^ 63) : x.toInt = n := by
  show x.toBitVec.toInt = n
  rw [BitVec.toInt_eq_toNat_cond, h, if_pos (by omega)]
theorem own_shl (x : Int64) (q : Int32) (k : Nat) (hk : q.toBitVec.toNat % 64 = k) : (x <<< (q &&& 0x3f).toInt64).toBitVec.toNat = (x.toBitVec.toNat <<< k) % 2 ^ 64 := by
  show (x.toBitVec <<< ((q &&& 0x3f).toInt64.toBitVec.smod 64)).toNat = _
  rw [BitVec.shiftLeft_eq', (sm64 q k hk).1, smod64 k (sm64 q k hk).2, BitVec.toNat_shiftLeft]
theorem own_stN (q : Int32) (k : Nat) (M x : Int64) (hk : q.toBitVec.toNat % 64 = k) : (own_st q M x).toBitVec.toNat = own_sN k M.toBitVec.toNat x.toBitVec.toNat := by
  simp only [own_st, own_sN, Int64.toBitVec_and, Int64.toBitVec_or, BitVec.toNat_and, BitVec.toNat_or, own_shl x q k hk]
theorem own_spreadN (x : Int64) (n : Nat) (h : x.toInt = n) : (own_spread x).toBitVec.toNat = own_spN n := by
  have h1 := own_toN x n h
  unfold own_spread own_spN
  rw [own_stN 1 1 _ _ (by decide), own_stN 2 2 _ _ (by decide), own_stN 4 4 _ _ (by decide), own_stN 8 8 _ _ (by decide), own_stN 16 16 _ _ (by decide), Int64.toBitVec_and, BitVec.toNat_and, h1]
  rfl
theorem own_q (k : Int32) (K : Nat) (hk : k.toInt = K) (hK : K ≤ 29) : ((2 : Int32) * k).toBitVec.toNat % 64 = 2 * K := by
  have h := c_imul (2 : Int32) k
  rw [hk, show (2 : Int32).toInt = 2 from rfl] at h
  have h2 := rng32 ((2 : Int32) * k)
  have h3 : ((2 : Int32) * k).toBitVec.toInt = 2 * (K : Int) := by show ((2 : Int32) * k).toInt = _; omega
  have h4 := ((2 : Int32) * k).toBitVec.isLt
  rw [BitVec.toInt_eq_toNat_cond] at h3
  split at h3 <;> omega
theorem own_cell_val (k b : Int32) (x y : Int64) (K B X Y : Nat) (hk : k.toInt = K) (hK : K ≤ 29) (hb : b.toInt = B) (hB : B ≤ 11) (hx : x.toInt = X) (hX : X < 2 ^ K) (hy : y.toInt = Y) (hY : Y < 2 ^ K) :
    (own_cell k b x y).toInt = ((B * 4 ^ K + (own_spN X ||| 2 * own_spN Y) : Nat) : Int) ∧ (own_spN X ||| 2 * own_spN Y) < 4 ^ K ∧ B * 4 ^ K + (own_spN X ||| 2 * own_spN Y) < 2 ^ 62 := by
  have f1 : (4 : Nat) ^ K = 2 ^ (2 * K) := by rw [show (4 : Nat) = 2 ^ 2 from rfl, ← Nat.pow_mul]
  have s1 := (own_sp K hK X hX).2
  have s2 := (own_sp K hK Y hY).2
  have t1 : (own_spN X ||| 2 * own_spN Y) < 4 ^ K := by rw [f1]; exact Nat.or_lt_two_pow (by omega) (by omega)
  have p1 : (4 : Nat) ^ K ≤ 4 ^ 29 := Nat.pow_le_pow_right (by decide) hK
  have p2 : B * 4 ^ K ≤ 11 * 4 ^ K := Nat.mul_le_mul_right _ hB
  have p3 : (4 : Nat) ^ 29 = 288230376151711744 := by decide
  have b1 : (b.toInt64).toBitVec.toNat = B := own_toN _ _ (by rw [c_i2l, hb])
  refine ⟨own_ofN _ _ ?_ (by omega), t1, by omega⟩
  unfold own_cell
  rw [Int64.toBitVec_or, Int64.toBitVec_or, BitVec.toNat_or, BitVec.toNat_or, own_shl _ _ _ (own_q k K hk hK), own_shl _ _ 1 (by decide), own_spreadN x X hx, own_spreadN y Y hy, b1, Nat.shiftLeft_eq, Nat.shiftLeft_eq, ← f1, Nat.mod_eq_of_lt (by omega), Nat.mod_eq_of_lt (by omega), Nat.or_assoc]
  have := Nat.two_pow_add_eq_or_of_lt (i := 2 * K) (b := own_spN X ||| 2 * own_spN Y) (by rw [← f1]; exact t1) B
  rw [← f1, Nat.mul_comm (4 ^ K) B] at this
  rw [this, Nat.mul_comm (own_spN Y)]
theorem own_main (k b : Int32) (xx yy aa cc : Int64) (K B X Y A C : Nat) (hk : k.toInt = K) (hK : K ≤ 28) (hb : b.toInt = B) (hB : B ≤ 11) (hx : xx.toInt = X) (hX : X < 2 ^ K) (hy : yy.toInt = Y) (hY : Y < 2 ^ K) (ha : aa.toInt = A) (hA : A ≤ 1) (hc : cc.toInt = C) (hC : C ≤ 1) :
    own_cell (k + (1 : Int32)) b (((2 : Int64) * xx) + aa) (((2 : Int64) * yy) + cc) = ((((4 : Int64) * own_cell k b xx yy) + aa) + ((2 : Int64) * cc)) ∧
    own_cell (0 : Int32) b (0 : Int64) (0 : Int64) = b.toInt64 ∧
    ¬ own_cell k b xx yy < (b.toInt64 <<< (((2 : Int32) * k) &&& 0x3f).toInt64) ∧ own_cell k b xx yy < ((b.toInt64 + (1 : Int64)) <<< (((2 : Int32) * k) &&& 0x3f).toInt64) := by
  obtain ⟨v1, v2, v3⟩ := own_cell_val k b xx yy K B X Y hk (by omega) hb hB hx hX hy hY
  have q1 : (1 : Int64).toInt = 1 := rfl
  have q2 : (2 : Int64).toInt = 2 := rfl
  have q4 : (4 : Int64).toInt = 4 := rfl
  have i1 : (1 : Int32).toInt = 1 := rfl
  have p1 : (4 : Nat) ^ K ≤ 4 ^ 28 := Nat.pow_le_pow_right (by decide) hK
  have p2 : B * 4 ^ K ≤ 11 * 4 ^ K := Nat.mul_le_mul_right _ hB
  have p3 : (4 : Nat) ^ 28 = 72057594037927936 := by decide
  have p4 : (2 : Nat) ^ K ≤ 2 ^ 28 := Nat.pow_le_pow_right (by decide) hK
  have p5 : (2 : Nat) ^ (K + 1) = 2 * 2 ^ K := by rw [Nat.pow_succ]; omega
  have p6 : (4 : Nat) ^ (K + 1) = 4 * 4 ^ K := by rw [Nat.pow_succ]; omega
  have p7 : B * 4 ^ (K + 1) = 4 * (B * 4 ^ K) := by rw [p6, Nat.mul_left_comm]
  have hk1 : (k + (1 : Int32)).toInt = ((K + 1 : Nat) : Int) := by have := c_iadd k 1; have := rng32 (k + 1); omega
  have m1 : ((2 : Int64) * xx).toInt = 2 * (X : Int) := by have h := c_lmul (2 : Int64) xx; rw [q2, hx] at h; have := rng64 ((2 : Int64) * xx); omega
  have m2 : ((2 : Int64) * yy).toInt = 2 * (Y : Int) := by have h := c_lmul (2 : Int64) yy; rw [q2, hy] at h; have := rng64 ((2 : Int64) * yy); omega
  have m3 : ((2 : Int64) * cc).toInt = 2 * (C : Int) := by have h := c_lmul (2 : Int64) cc; rw [q2, hc] at h; have := rng64 ((2 : Int64) * cc); omega
  have n1 : (((2 : Int64) * xx) + aa).toInt = ((2 * X + A : Nat) : Int) := by have := c_ladd ((2 : Int64) * xx) aa; have := rng64 (((2 : Int64) * xx) + aa); omega
  have n2 : (((2 : Int64) * yy) + cc).toInt = ((2 * Y + C : Nat) : Int) := by have := c_ladd ((2 : Int64) * yy) cc; have := rng64 (((2 : Int64) * yy) + cc); omega
  obtain ⟨w1, w2, w3⟩ := own_cell_val (k + (1 : Int32)) b _ _ (K + 1) B _ _ hk1 (by omega) hb hB n1 (by omega) n2 (by omega)
  rw [own_sp2 K X A (by omega) hX hA, own_sp2 K Y C (by omega) hY hC, show 2 * (4 * own_spN Y + C) = 4 * (2 * own_spN Y) + 2 * C by omega, own_or4 _ _ _ _ (by omega) (by omega), p7] at w1
  have o1 : (A ||| 2 * C) = A + 2 * C := by rcases (by omega : A = 0 ∨ A = 1) with rfl | rfl <;> rcases (by omega : C = 0 ∨ C = 1) with rfl | rfl <;> rfl
  rw [o1] at w1
  have r1 : ((4 : Int64) * own_cell k b xx yy).toInt = 4 * (own_cell k b xx yy).toInt := by have h := c_lmul (4 : Int64) (own_cell k b xx yy); rw [q4] at h; have := rng64 ((4 : Int64) * own_cell k b xx yy); omega
  have r2 := c_ladd ((4 : Int64) * own_cell k b xx yy) aa
  have r3 := rng64 (((4 : Int64) * own_cell k b xx yy) + aa)
  have r4 := c_ladd (((4 : Int64) * own_cell k b xx yy) + aa) ((2 : Int64) * cc)
  have r5 := rng64 ((((4 : Int64) * own_cell k b xx yy) + aa) + ((2 : Int64) * cc))
  refine ⟨?_, ?_, ?_, ?_⟩
  · rw [← Int64.toInt_inj]; omega
  · obtain ⟨z1, -, -⟩ := own_cell_val (0 : Int32) b (0 : Int64) (0 : Int64) 0 B 0 0 rfl (by decide) hb hB rfl (by decide) rfl (by decide)
    rw [← Int64.toInt_inj, z1, c_i2l, hb]
    have : (own_spN 0 ||| 2 * own_spN 0) = 0 := by decide
    rw [this]; simp
  · have h := c_lshl b.toInt64 ((2 : Int32) * k) (2 * K) (own_q k K hk (by omega))
    have h2 := rng64 (b.toInt64 <<< (((2 : Int32) * k) &&& 0x3f).toInt64)
    have f1 : (2 : Nat) ^ (2 * K) = 4 ^ K := by rw [show (4 : Nat) = 2 ^ 2 from rfl, ← Nat.pow_mul]
    rw [c_i2l, hb, f1, ← Int.natCast_mul] at h
    rw [Int64.lt_iff_toInt_lt]; omega
  · have h := c_lshl (b.toInt64 + (1 : Int64)) ((2 : Int32) * k) (2 * K) (own_q k K hk (by omega))
    have h2 := rng64 ((b.toInt64 + (1 : Int64)) <<< (((2 : Int32) * k) &&& 0x3f).toInt64)
    have f1 : (2 : Nat) ^ (2 * K) = 4 ^ K := by rw [show (4 : Nat) = 2 ^ 2 from rfl, ← Nat.pow_mul]
    have h3 : (b.toInt64 + (1 : Int64)).toInt = ((B + 1 : Nat) : Int) := by have := c_ladd b.toInt64 (1 : Int64); have := rng64 (b.toInt64 + (1 : Int64)); have := c_i2l b; omega
    rw [h3, f1, ← Int.natCast_mul, Nat.add_mul, Nat.one_mul] at h
    rw [Int64.lt_iff_toInt_lt]; omega
theorem d2_0 : decode prog_37_method_7_code 0 = .ok (.lload_n 0, 1) := by decide +kernel
theorem d2_1 : decode prog_37_method_7_code 1 = .ok (.ldc2_w 97, 3) := by decide +kernel
theorem d2_4 : decode prog_37_method_7_code 4 = .ok (.land, 1) := by decide +kernel
theorem d2_5 : decode prog_37_method_7_code 5 = .ok (.lstore_n 2, 1) := by decide +kernel
theorem d2_6 : decode prog_37_method_7_code 6 = .ok (.lload_n 2, 1) := by decide +kernel
theorem d2_7 : decode prog_37_method_7_code 7 = .ok (.lload_n 2, 1) := by decide +kernel
theorem d2_8 : decode prog_37_method_7_code 8 = .ok (.bipush 16, 2) := by decide +kernel
theorem d2_10 : decode prog_37_method_7_code 10 = .ok (.lshl, 1) := by decide +kernel
theorem d2_11 : decode prog_37_method_7_code 11 = .ok (.lor, 1) := by decide +kernel
theorem d2_12 : decode prog_37_method_7_code 12 = .ok (.ldc2_w 99, 3) := by decide +kernel
theorem d2_15 : decode prog_37_method_7_code 15 = .ok (.land, 1) := by decide +kernel
theorem d2_16 : decode prog_37_method_7_code 16 = .ok (.lstore_n 2, 1) := by decide +kernel
theorem d2_17 : decode prog_37_method_7_code 17 = .ok (.lload_n 2, 1) := by decide +kernel
theorem d2_18 : decode prog_37_method_7_code 18 = .ok (.lload_n 2, 1) := by decide +kernel
theorem d2_19 : decode prog_37_method_7_code 19 = .ok (.bipush 8, 2) := by decide +kernel
theorem d2_21 : decode prog_37_method_7_code 21 = .ok (.lshl, 1) := by decide +kernel
theorem d2_22 : decode prog_37_method_7_code 22 = .ok (.lor, 1) := by decide +kernel
theorem d2_23 : decode prog_37_method_7_code 23 = .ok (.ldc2_w 101, 3) := by decide +kernel
theorem d2_26 : decode prog_37_method_7_code 26 = .ok (.land, 1) := by decide +kernel
theorem d2_27 : decode prog_37_method_7_code 27 = .ok (.lstore_n 2, 1) := by decide +kernel
theorem d2_28 : decode prog_37_method_7_code 28 = .ok (.lload_n 2, 1) := by decide +kernel
theorem d2_29 : decode prog_37_method_7_code 29 = .ok (.lload_n 2, 1) := by decide +kernel
theorem d2_30 : decode prog_37_method_7_code 30 = .ok (.iconst 4, 1) := by decide +kernel
theorem d2_31 : decode prog_37_method_7_code 31 = .ok (.lshl, 1) := by decide +kernel
theorem d2_32 : decode prog_37_method_7_code 32 = .ok (.lor, 1) := by decide +kernel
theorem d2_33 : decode prog_37_method_7_code 33 = .ok (.ldc2_w 103, 3) := by decide +kernel
theorem d2_36 : decode prog_37_method_7_code 36 = .ok (.land, 1) := by decide +kernel
theorem d2_37 : decode prog_37_method_7_code 37 = .ok (.lstore_n 2, 1) := by decide +kernel
theorem d2_38 : decode prog_37_method_7_code 38 = .ok (.lload_n 2, 1) := by decide +kernel
theorem d2_39 : decode prog_37_method_7_code 39 = .ok (.lload_n 2, 1) := by decide +kernel
theorem d2_40 : decode prog_37_method_7_code 40 = .ok (.iconst 2, 1) := by decide +kernel
theorem d2_41 : decode prog_37_method_7_code 41 = .ok (.lshl, 1) := by decide +kernel
theorem d2_42 : decode prog_37_method_7_code 42 = .ok (.lor, 1) := by decide +kernel
theorem d2_43 : decode prog_37_method_7_code 43 = .ok (.ldc2_w 105, 3) := by decide +kernel
theorem d2_46 : decode prog_37_method_7_code 46 = .ok (.land, 1) := by decide +kernel
theorem d2_47 : decode prog_37_method_7_code 47 = .ok (.lstore_n 2, 1) := by decide +kernel
theorem d2_48 : decode prog_37_method_7_code 48 = .ok (.lload_n 2, 1) := by decide +kernel
theorem d2_49 : decode prog_37_method_7_code 49 = .ok (.lload_n 2, 1) := by decide +kernel
theorem d2_50 : decode prog_37_method_7_code 50 = .ok (.iconst 1, 1) := by decide +kernel
theorem d2_51 : decode prog_37_method_7_code 51 = .ok (.lshl, 1) := by decide +kernel
theorem d2_52 : decode prog_37_method_7_code 52 = .ok (.lor, 1) := by decide +kernel
theorem d2_53 : decode prog_37_method_7_code 53 = .ok (.ldc2_w 107, 3) := by decide +kernel
theorem d2_56 : decode prog_37_method_7_code 56 = .ok (.land, 1) := by decide +kernel
theorem d2_57 : decode prog_37_method_7_code 57 = .ok (.lreturn, 1) := by decide +kernel
theorem pn_2 : plainName "com/example/skylattice/skylattice/healpix/Healpix" = true := by first | (simp [plainName, overriddenIn]; done) | decide +kernel
theorem ef_2 (m : MethodId) (x0 : Int64) : entryFrame m #[(.long x0)] 4 = mkF m 0 #[.val (.long x0), .second, .unset, .unset] [] := by first | (simp [entryFrame, mkF, argsToLocals, Value.category]; done) | rfl
theorem d1_0 : decode prog_37_method_3_code 0 = .ok (.iload_n 1, 1) := by decide +kernel
theorem d1_1 : decode prog_37_method_3_code 1 = .ok (.i2l, 1) := by decide +kernel
theorem d1_2 : decode prog_37_method_3_code 2 = .ok (.iconst 2, 1) := by decide +kernel
theorem d1_3 : decode prog_37_method_3_code 3 = .ok (.iload_n 0, 1) := by decide +kernel
theorem d1_4 : decode prog_37_method_3_code 4 = .ok (.imul, 1) := by decide +kernel
theorem d1_5 : decode prog_37_method_3_code 5 = .ok (.lshl, 1) := by decide +kernel
theorem d1_6 : decode prog_37_method_3_code 6 = .ok (.lload_n 2, 1) := by decide +kernel
theorem d1_7 : decode prog_37_method_3_code 7 = .ok (.invokestatic 70, 3) := by decide +kernel
theorem d1_10 : decode prog_37_method_3_code 10 = .ok (.lor, 1) := by decide +kernel
theorem d1_11 : decode prog_37_method_3_code 11 = .ok (.lload 4, 2) := by decide +kernel
theorem d1_13 : decode prog_37_method_3_code 13 = .ok (.invokestatic 70, 3) := by decide +kernel
theorem d1_16 : decode prog_37_method_3_code 16 = .ok (.iconst 1, 1) := by decide +kernel
theorem d1_17 : decode prog_37_method_3_code 17 = .ok (.lshl, 1) := by decide +kernel
theorem d1_18 : decode prog_37_method_3_code 18 = .ok (.lor, 1) := by decide +kernel
theorem d1_19 : decode prog_37_method_3_code 19 = .ok (.lreturn, 1) := by decide +kernel
theorem pn_1 : plainName "com/example/skylattice/skylattice/healpix/Healpix" = true := by first | (simp [plainName, overriddenIn]; done) | decide +kernel
theorem ef_1 (m : MethodId) (x0 : Int32) (x1 : Int32) (x2 : Int64) (x3 : Int64) : entryFrame m #[(.int x0), (.int x1), (.long x2), (.long x3)] 6 = mkF m 0 #[.val (.int x0), .val (.int x1), .val (.long x2), .second, .val (.long x3), .second] [] := by first | (simp [entryFrame, mkF, argsToLocals, Value.category]; done) | rfl
theorem pn_0 : plainName "com/example/skylattice/skylattice/healpix/HealpixCellIndexPinLaw" = true := by first | (simp [plainName, overriddenIn]; done) | decide +kernel
theorem ef_0 (m : MethodId) (x0 : Int32) (x1 : Int32) (x2 : Int64) (x3 : Int64) (x4 : Int32) : entryFrame m #[(.int x0), (.int x1), (.long x2), (.long x3), (.int x4)] maxLocals = mkF m 0 #[.val (.int x0), .val (.int x1), .val (.long x2), .second, .val (.long x3), .second, .val (.int x4), .unset, .unset, .unset, .unset, .unset, .unset, .unset, .unset, .unset, .unset, .unset, .unset, .unset, .unset, .unset, .unset, .unset, .unset, .unset, .unset, .unset, .unset, .unset] [] := by first | (simp [entryFrame, mkF, argsToLocals, Value.category, maxLocals]; done) | rfl
set_option maxRecDepth 65536 in
set_option maxHeartbeats 40000000 in
theorem rm2 (l : Launch) (Z : State) (a0 : Array Value) (hw : ∀ d ∈ tables_1, d.before a0 Z = true) (ws : List Jvm.Cond) (x0 : Int64)  (h0 : Heap) (n0 : Nat) (Z0 : n0 ≤ h0.size)  :
    MetFree l (⟨"com/example/skylattice/skylattice/healpix/Healpix", "spreadBits", "(J)J"⟩ : MethodName) (head1 (Jvm.Cond.code (⟨"com/example/skylattice/skylattice/healpix/Healpix", "spreadBits", "(J)J"⟩ : MethodName) prog_37_method_7_code 4 (some .long) :: ws) ({ frames := 0, cells := 0, slots := 0, locals := 0 } : Room)) (fun a U => a = #[(.long x0)] ∧ Z.Warmed39 U.vm ∧ U.heap = h0) (fun _ _ _ _ _ => True) (fun _ U o U' => ∃ v L, o = .returned v ∧ (QP (some (.long (own_spread x0))) h0 n0 v U'.heap L) ∧ FrameEnd U o U' L ({ frames := 0, cells := 0, slots := 0, locals := 0 } : Room).cells ({ frames := 0, cells := 0, slots := 0, locals := 0 } : Room).slots) := by
  refine MetFree.of_bodySF (plainFor_of_name pn_2) hisR ?_
  intro p e s m args below meth c s₁ Bd hml0 hP hK
  obtain ⟨rfl, hZ, hh⟩ := hP
  have hx := Bd.exec
  have hby := Bd.bytes
  have hml : c.maxLocals = 4 := hml0
  have hown : s.vm.findClass "com/example/skylattice/skylattice/healpix/Healpix" = some m.cls := findClass_of_methodNamed Bd.named
  have hnm := (name_of_methodNamed Bd.named Bd.method).1
  have X0 : Stand p l e ({ frames := 0, cells := 0, slots := 0, locals := 0 } : Room) s m #[(.long x0)] below meth c s₁ [] 0 0 := Stand.of_body Bd
  have e0 : s₁.heap = h0 := by rw [← hh, Bd.state]; rfl
  have N0 := Fr.nil n0
  have pre0 : ∀ t, Steps p.tables e below (s₁.setTop (mkF m 0 #[.val (.long x0), .second, .unset, .unset] [])) t → Steps p.tables e below (s₁.setTop (entryFrame m #[(.long x0)] 4)) t := fun t k => castTop (ef_2 m x0) k
  obtain ⟨v0, e_v0⟩ : ∃ z : Int64, z = (x0 &&& (4294967295 : Int64)) := ⟨_, rfl⟩
  obtain ⟨v1, e_v1⟩ : ∃ z : Int64, z = ((v0 ||| (v0 <<< ((16 : Int32) &&& 0x3f).toInt64)) &&& (281470681808895 : Int64)) := ⟨_, rfl⟩
  obtain ⟨v2, e_v2⟩ : ∃ z : Int64, z = ((v1 ||| (v1 <<< ((8 : Int32) &&& 0x3f).toInt64)) &&& (71777214294589695 : Int64)) := ⟨_, rfl⟩
  obtain ⟨v3, e_v3⟩ : ∃ z : Int64, z = ((v2 ||| (v2 <<< ((4 : Int32) &&& 0x3f).toInt64)) &&& (1085102592571150095 : Int64)) := ⟨_, rfl⟩
  obtain ⟨v4, e_v4⟩ : ∃ z : Int64, z = ((v3 ||| (v3 <<< ((2 : Int32) &&& 0x3f).toInt64)) &&& (3689348814741910323 : Int64)) := ⟨_, rfl⟩
  obtain ⟨fs, hr, hrun, hended, hW, hsame⟩ := X0.leave (v := some (.long (own_spread x0))) (fun h => by rw [Bd.returns] at h; cases h)
  refine ⟨_, _, pre0 _ ?_, hrun, hended, _, _, rfl, ?_, ⟨_, rfl⟩, hW, hsame.mono (by decide) (by decide)⟩
  · show Steps p.tables e below (s₁.setTop (mkF m 0 #[.val (.long x0), .second, .unset, .unset] [])) _
    refine XS.lloadN X0.here hx rfl (hb hby d2_0) rfl ?_
    show Steps p.tables e below (s₁.setTop (mkF m 1 #[.val (.long x0), .second, .unset, .unset] [(.long x0)])) _
    refine X0.ldc2Long hx hown (mvT hZ (hw _ (List.mem_of_getElem? (i := 8) rfl))) (g := (mkF m 1 #[.val (.long x0), .second, .unset, .unset] [(.long x0)])) rfl (hb hby d2_1) _ ?_
    show Steps p.tables e below (s₁.setTop (mkF m 4 #[.val (.long x0), .second, .unset, .unset] [(.long (4294967295 : Int64)), (.long x0)])) _
    refine XS.land X0.here hx rfl (hb hby d2_4) rfl ?_
    show Steps p.tables e below (s₁.setTop (mkF m 5 #[.val (.long x0), .second, .unset, .unset] [(.long (x0 &&& (4294967295 : Int64)))])) _
    rw [← e_v0]
    show Steps p.tables e below (s₁.setTop (mkF m 5 #[.val (.long x0), .second, .unset, .unset] [(.long v0)])) _
    refine XS.lstoreN X0.here hx rfl (hb hby d2_5) rfl (l' := #[.val (.long x0), .second, .val (.long v0), .second]) rfl ?_
    show Steps p.tables e below (s₁.setTop (mkF m 6 #[.val (.long x0), .second, .val (.long v0), .second] [])) _
    refine XS.lloadN X0.here hx rfl (hb hby d2_6) rfl ?_
    show Steps p.tables e below (s₁.setTop (mkF m 7 #[.val (.long x0), .second, .val (.long v0), .second] [(.long v0)])) _
    refine XS.lloadN X0.here hx rfl (hb hby d2_7) rfl ?_
    show Steps p.tables e below (s₁.setTop (mkF m 8 #[.val (.long x0), .second, .val (.long v0), .second] [(.long v0), (.long v0)])) _
    refine XS.bipush X0.here hx rfl (hb hby d2_8) ?_
    show Steps p.tables e below (s₁.setTop (mkF m 10 #[.val (.long x0), .second, .val (.long v0), .second] [(.int (16 : Int32)), (.long v0), (.long v0)])) _
    refine XS.lshl X0.here hx rfl (hb hby d2_10) rfl ?_
    show Steps p.tables e below (s₁.setTop (mkF m 11 #[.val (.long x0), .second, .val (.long v0), .second] [(.long (v0 <<< ((16 : Int32) &&& 0x3f).toInt64)), (.long v0)])) _
    refine XS.lor X0.here hx rfl (hb hby d2_11) rfl ?_
    show Steps p.tables e below (s₁.setTop (mkF m 12 #[.val (.long x0), .second, .val (.long v0), .second] [(.long (v0 ||| (v0 <<< ((16 : Int32) &&& 0x3f).toInt64)))])) _
    refine X0.ldc2Long hx hown (mvT hZ (hw _ (List.mem_of_getElem? (i := 9) rfl))) (g := (mkF m 12 #[.val (.long x0), .second, .val (.long v0), .second] [(.long (v0 ||| (v0 <<< ((16 : Int32) &&& 0x3f).toInt64)))])) rfl (hb hby d2_12) _ ?_
    show Steps p.tables e below (s₁.setTop (mkF m 15 #[.val (.long x0), .second, .val (.long v0), .second] [(.long (281470681808895 : Int64)), (.long (v0 ||| (v0 <<< ((16 : Int32) &&& 0x3f).toInt64)))])) _
    refine XS.land X0.here hx rfl (hb hby d2_15) rfl ?_
    show Steps p.tables e below (s₁.setTop (mkF m 16 #[.val (.long x0), .second, .val (.long v0), .second] [(.long ((v0 ||| (v0 <<< ((16 : Int32) &&& 0x3f).toInt64)) &&& (281470681808895 : Int64)))])) _
    rw [← e_v1]
    show Steps p.tables e below (s₁.setTop (mkF m 16 #[.val (.long x0), .second, .val (.long v0), .second] [(.long v1)])) _
    refine XS.lstoreN X0.here hx rfl (hb hby d2_16) rfl (l' := #[.val (.long x0), .second, .val (.long v1), .second]) rfl ?_
    show Steps p.tables e below (s₁.setTop (mkF m 17 #[.val (.long x0), .second, .val (.long v1), .second] [])) _
    refine XS.lloadN X0.here hx rfl (hb hby d2_17) rfl ?_
    show Steps p.tables e below (s₁.setTop (mkF m 18 #[.val (.long x0), .second, .val (.long v1), .second] [(.long v1)])) _
    refine XS.lloadN X0.here hx rfl (hb hby d2_18) rfl ?_
    show Steps p.tables e below (s₁.setTop (mkF m 19 #[.val (.long x0), .second, .val (.long v1), .second] [(.long v1), (.long v1)])) _
    refine XS.bipush X0.here hx rfl (hb hby d2_19) ?_
    show Steps p.tables e below (s₁.setTop (mkF m 21 #[.val (.long x0), .second, .val (.long v1), .second] [(.int (8 : Int32)), (.long v1), (.long v1)])) _
    refine XS.lshl X0.here hx rfl (hb hby d2_21) rfl ?_
    show Steps p.tables e below (s₁.setTop (mkF m 22 #[.val (.long x0), .second, .val (.long v1), .second] [(.long (v1 <<< ((8 : Int32) &&& 0x3f).toInt64)), (.long v1)])) _
    refine XS.lor X0.here hx rfl (hb hby d2_22) rfl ?_
    show Steps p.tables e below (s₁.setTop (mkF m 23 #[.val (.long x0), .second, .val (.long v1), .second] [(.long (v1 ||| (v1 <<< ((8 : Int32) &&& 0x3f).toInt64)))])) _
    refine X0.ldc2Long hx hown (mvT hZ (hw _ (List.mem_of_getElem? (i := 10) rfl))) (g := (mkF m 23 #[.val (.long x0), .second, .val (.long v1), .second] [(.long (v1 ||| (v1 <<< ((8 : Int32) &&& 0x3f).toInt64)))])) rfl (hb hby d2_23) _ ?_
    show Steps p.tables e below (s₁.setTop (mkF m 26 #[.val (.long x0), .second, .val (.long v1), .second] [(.long (71777214294589695 : Int64)), (.long (v1 ||| (v1 <<< ((8 : Int32) &&& 0x3f).toInt64)))])) _
    refine XS.land X0.here hx rfl (hb hby d2_26) rfl ?_
    show Steps p.tables e below (s₁.setTop (mkF m 27 #[.val (.long x0), .second, .val (.long v1), .second] [(.long ((v1 ||| (v1 <<< ((8 : Int32) &&& 0x3f).toInt64)) &&& (71777214294589695 : Int64)))])) _
    rw [← e_v2]
    show Steps p.tables e below (s₁.setTop (mkF m 27 #[.val (.long x0), .second, .val (.long v1), .second] [(.long v2)])) _
    refine XS.lstoreN X0.here hx rfl (hb hby d2_27) rfl (l' := #[.val (.long x0), .second, .val (.long v2), .second]) rfl ?_
    show Steps p.tables e below (s₁.setTop (mkF m 28 #[.val (.long x0), .second, .val (.long v2), .second] [])) _
    refine XS.lloadN X0.here hx rfl (hb hby d2_28) rfl ?_
    show Steps p.tables e below (s₁.setTop (mkF m 29 #[.val (.long x0), .second, .val (.long v2), .second] [(.long v2)])) _
    refine XS.lloadN X0.here hx rfl (hb hby d2_29) rfl ?_
    show Steps p.tables e below (s₁.setTop (mkF m 30 #[.val (.long x0), .second, .val (.long v2), .second] [(.long v2), (.long v2)])) _
    refine XS.iconst X0.here hx rfl (hb hby d2_30) ?_
    show Steps p.tables e below (s₁.setTop (mkF m 31 #[.val (.long x0), .second, .val (.long v2), .second] [(.int (4 : Int32)), (.long v2), (.long v2)])) _
    refine XS.lshl X0.here hx rfl (hb hby d2_31) rfl ?_
    show Steps p.tables e below (s₁.setTop (mkF m 32 #[.val (.long x0), .second, .val (.long v2), .second] [(.long (v2 <<< ((4 : Int32) &&& 0x3f).toInt64)), (.long v2)])) _
    refine XS.lor X0.here hx rfl (hb hby d2_32) rfl ?_
    show Steps p.tables e below (s₁.setTop (mkF m 33 #[.val (.long x0), .second, .val (.long v2), .second] [(.long (v2 ||| (v2 <<< ((4 : Int32) &&& 0x3f).toInt64)))])) _
    refine X0.ldc2Long hx hown (mvT hZ (hw _ (List.mem_of_getElem? (i := 11) rfl))) (g := (mkF m 33 #[.val (.long x0), .second, .val (.long v2), .second] [(.long (v2 ||| (v2 <<< ((4 : Int32) &&& 0x3f).toInt64)))])) rfl (hb hby d2_33) _ ?_
    show Steps p.tables e below (s₁.setTop (mkF m 36 #[.val (.long x0), .second, .val (.long v2), .second] [(.long (1085102592571150095 : Int64)), (.long (v2 ||| (v2 <<< ((4 : Int32) &&& 0x3f).toInt64)))])) _
    refine XS.land X0.here hx rfl (hb hby d2_36) rfl ?_
    show Steps p.tables e below (s₁.setTop (mkF m 37 #[.val (.long x0), .second, .val (.long v2), .second] [(.long ((v2 ||| (v2 <<< ((4 : Int32) &&& 0x3f).toInt64)) &&& (1085102592571150095 : Int64)))])) _
    rw [← e_v3]
    show Steps p.tables e below (s₁.setTop (mkF m 37 #[.val (.long x0), .second, .val (.long v2), .second] [(.long v3)])) _
    refine XS.lstoreN X0.here hx rfl (hb hby d2_37) rfl (l' := #[.val (.long x0), .second, .val (.long v3), .second]) rfl ?_
    show Steps p.tables e below (s₁.setTop (mkF m 38 #[.val (.long x0), .second, .val (.long v3), .second] [])) _
    refine XS.lloadN X0.here hx rfl (hb hby d2_38) rfl ?_
    show Steps p.tables e below (s₁.setTop (mkF m 39 #[.val (.long x0), .second, .val (.long v3), .second] [(.long v3)])) _
    refine XS.lloadN X0.here hx rfl (hb hby d2_39) rfl ?_
    show Steps p.tables e below (s₁.setTop (mkF m 40 #[.val (.long x0), .second, .val (.long v3), .second] [(.long v3), (.long v3)])) _
    refine XS.iconst X0.here hx rfl (hb hby d2_40) ?_
    show Steps p.tables e below (s₁.setTop (mkF m 41 #[.val (.long x0), .second, .val (.long v3), .second] [(.int (2 : Int32)), (.long v3), (.long v3)])) _
    refine XS.lshl X0.here hx rfl (hb hby d2_41) rfl ?_
    show Steps p.tables e below (s₁.setTop (mkF m 42 #[.val (.long x0), .second, .val (.long v3), .second] [(.long (v3 <<< ((2 : Int32) &&& 0x3f).toInt64)), (.long v3)])) _
    refine XS.lor X0.here hx rfl (hb hby d2_42) rfl ?_
    show Steps p.tables e below (s₁.setTop (mkF m 43 #[.val (.long x0), .second, .val (.long v3), .second] [(.long (v3 ||| (v3 <<< ((2 : Int32) &&& 0x3f).toInt64)))])) _
    refine X0.ldc2Long hx hown (mvT hZ (hw _ (List.mem_of_getElem? (i := 12) rfl))) (g := (mkF m 43 #[.val (.long x0), .second, .val (.long v3), .second] [(.long (v3 ||| (v3 <<< ((2 : Int32) &&& 0x3f).toInt64)))])) rfl (hb hby d2_43) _ ?_
    show Steps p.tables e below (s₁.setTop (mkF m 46 #[.val (.long x0), .second, .val (.long v3), .second] [(.long (3689348814741910323 : Int64)), (.long (v3 ||| (v3 <<< ((2 : Int32) &&& 0x3f).toInt64)))])) _
    refine XS.land X0.here hx rfl (hb hby d2_46) rfl ?_
    show Steps p.tables e below (s₁.setTop (mkF m 47 #[.val (.long x0), .second, .val (.long v3), .second] [(.long ((v3 ||| (v3 <<< ((2 : Int32) &&& 0x3f).toInt64)) &&& (3689348814741910323 : Int64)))])) _
    rw [← e_v4]
    show Steps p.tables e below (s₁.setTop (mkF m 47 #[.val (.long x0), .second, .val (.long v3), .second] [(.long v4)])) _
    refine XS.lstoreN X0.here hx rfl (hb hby d2_47) rfl (l' := #[.val (.long x0), .second, .val (.long v4), .second]) rfl ?_
    show Steps p.tables e below (s₁.setTop (mkF m 48 #[.val (.long x0), .second, .val (.long v4), .second] [])) _
    refine XS.lloadN X0.here hx rfl (hb hby d2_48) rfl ?_
    show Steps p.tables e below (s₁.setTop (mkF m 49 #[.val (.long x0), .second, .val (.long v4), .second] [(.long v4)])) _
    refine XS.lloadN X0.here hx rfl (hb hby d2_49) rfl ?_
    show Steps p.tables e below (s₁.setTop (mkF m 50 #[.val (.long x0), .second, .val (.long v4), .second] [(.long v4), (.long v4)])) _
    refine XS.iconst X0.here hx rfl (hb hby d2_50) ?_
    show Steps p.tables e below (s₁.setTop (mkF m 51 #[.val (.long x0), .second, .val (.long v4), .second] [(.int (1 : Int32)), (.long v4), (.long v4)])) _
    refine XS.lshl X0.here hx rfl (hb hby d2_51) rfl ?_
    show Steps p.tables e below (s₁.setTop (mkF m 52 #[.val (.long x0), .second, .val (.long v4), .second] [(.long (v4 <<< ((1 : Int32) &&& 0x3f).toInt64)), (.long v4)])) _
    refine XS.lor X0.here hx rfl (hb hby d2_52) rfl ?_
    show Steps p.tables e below (s₁.setTop (mkF m 53 #[.val (.long x0), .second, .val (.long v4), .second] [(.long (v4 ||| (v4 <<< ((1 : Int32) &&& 0x3f).toInt64)))])) _
    refine X0.ldc2Long hx hown (mvT hZ (hw _ (List.mem_of_getElem? (i := 13) rfl))) (g := (mkF m 53 #[.val (.long x0), .second, .val (.long v4), .second] [(.long (v4 ||| (v4 <<< ((1 : Int32) &&& 0x3f).toInt64)))])) rfl (hb hby d2_53) _ ?_
    show Steps p.tables e below (s₁.setTop (mkF m 56 #[.val (.long x0), .second, .val (.long v4), .second] [(.long (6148914691236517205 : Int64)), (.long (v4 ||| (v4 <<< ((1 : Int32) &&& 0x3f).toInt64)))])) _
    refine XS.land X0.here hx rfl (hb hby d2_56) rfl ?_
    show Steps p.tables e below (s₁.setTop (mkF m 57 #[.val (.long x0), .second, .val (.long v4), .second] [(.long ((v4 ||| (v4 <<< ((1 : Int32) &&& 0x3f).toInt64)) &&& (6148914691236517205 : Int64)))])) _
    have hv : own_spread x0 = ((v4 ||| (v4 <<< ((1 : Int32) &&& 0x3f).toInt64)) &&& (6148914691236517205 : Int64)) := by
      unfold own_spread; rw [← e_v0]
      rw [show own_st 16 281470681808895 v0 = v1 from e_v1.symm]
      rw [show own_st 8 71777214294589695 v1 = v2 from e_v2.symm]
      rw [show own_st 4 1085102592571150095 v2 = v3 from e_v3.symm]
      rw [show own_st 2 3689348814741910323 v3 = v4 from e_v4.symm]
      rfl
    rw [hv] at hr
    exact X0.lreturnOut hx Bd.returns (hb hby d2_57) hr
  · exact ⟨rfl, N0, e0⟩
theorem pd__J_J : parseMethodDescriptor "(J)J" = some ⟨[.long], some .long⟩ := by decide +kernel
set_option maxRecDepth 65536 in
set_option maxHeartbeats 40000000 in
theorem rm1 (l : Launch) (Z : State) (a0 : Array Value) (hw : ∀ d ∈ tables_1, d.before a0 Z = true) (ws : List Jvm.Cond) (x0 : Int32) (x1 : Int32) (x2 : Int64) (x3 : Int64)  (h0 : Heap) (n0 : Nat) (Z0 : n0 ≤ h0.size)  :
    MetFree l (⟨"com/example/skylattice/skylattice/healpix/Healpix", "cellIndex", "(IIJJ)J"⟩ : MethodName) (head1 (Jvm.Cond.code (⟨"com/example/skylattice/skylattice/healpix/Healpix", "cellIndex", "(IIJJ)J"⟩ : MethodName) prog_37_method_3_code 6 (some .long) :: ws) ({ frames := 1, cells := 0, slots := 0, locals := 17 } : Room)) (fun a U => a = #[(.int x0), (.int x1), (.long x2), (.long x3)] ∧ Z.Warmed39 U.vm ∧ U.heap = h0) (fun _ _ _ _ _ => True) (fun _ U o U' => ∃ v L, o = .returned v ∧ (QP (some (.long (own_cell x0 x1 x2 x3))) h0 n0 v U'.heap L) ∧ FrameEnd U o U' L ({ frames := 1, cells := 0, slots := 0, locals := 17 } : Room).cells ({ frames := 1, cells := 0, slots := 0, locals := 17 } : Room).slots) := by
  refine MetFree.of_bodySF (plainFor_of_name pn_1) hisR ?_
  intro p e s m args below meth c s₁ Bd hml0 hP hK
  obtain ⟨rfl, hZ, hh⟩ := hP
  have hx := Bd.exec
  have hby := Bd.bytes
  have hml : c.maxLocals = 6 := hml0
  have hown : s.vm.findClass "com/example/skylattice/skylattice/healpix/Healpix" = some m.cls := findClass_of_methodNamed Bd.named
  have hnm := (name_of_methodNamed Bd.named Bd.method).1
  have X0 : Stand p l e ({ frames := 1, cells := 0, slots := 0, locals := 17 } : Room) s m #[(.int x0), (.int x1), (.long x2), (.long x3)] below meth c s₁ [] 0 0 := Stand.of_body Bd
  have e0 : s₁.heap = h0 := by rw [← hh, Bd.state]; rfl
  have N0 := Fr.nil n0
  have pre0 : ∀ t, Steps p.tables e below (s₁.setTop (mkF m 0 #[.val (.int x0), .val (.int x1), .val (.long x2), .second, .val (.long x3), .second] [])) t → Steps p.tables e below (s₁.setTop (entryFrame m #[(.int x0), (.int x1), (.long x2), (.long x3)] 6)) t := fun t k => castTop (ef_1 m x0 x1 x2 x3) k
  obtain ⟨_, _, ⟨T1, L1, k1, n1⟩, -, X1, ⟨Lc1, hQ1, l1, y1, z1⟩, st1⟩ := Jvm.LawKit.callS X0 hx (y := (⟨"com/example/skylattice/skylattice/healpix/Healpix", "spreadBits", "(J)J"⟩ : MethodName)) hown (mvT hZ (hw _ (List.mem_of_getElem? (i := 5) rfl))) (mvT hZ (hw _ (List.mem_of_getElem? (i := 6) rfl))) (mvT hZ (hw _ (List.mem_of_getElem? (i := 3) rfl))) (mvT hZ (hw _ (List.mem_of_getElem? (i := 7) rfl))) (by decide) (backOf (W := 2) (rm2 l Z a0 hw [] x2 h0 n0 Z0) hZ (hw _ (List.mem_of_getElem? (i := 7) rfl)) (hw _ (List.mem_of_getElem? (i := 3) rfl)) (by decide) (by decide)) (g := (mkF m 7 #[.val (.int x0), .val (.int x1), .val (.long x2), .second, .val (.long x3), .second] [(.long x2), (.long ((x1.toInt64) <<< (((2 : Int32) * x0) &&& 0x3f).toInt64))])) rfl (by rw [hml]; rfl) (argsL := [(.long x2)]) (rest := [(.long ((x1.toInt64) <<< (((2 : Int32) * x0) &&& 0x3f).toInt64))]) (lenOf pd__J_J rfl) rfl (by show 2 * 0 + _ ≤ _; exact Nat.le_of_eq rfl) (hb hby d1_7) (fun _ _ => ⟨rfl, e0, (by decide : 0 + 0 ≤ _), (by decide : 0 + 0 ≤ _)⟩)
  dsimp only [Pt.U, Pt.locs, Pt.cells, Pt.slots] at X1 l1 y1 z1 st1 hQ1
  subst l1 y1 z1
  obtain ⟨rfl, N1q, e1⟩ := hQ1
  have N1 := Fr.app N0 N1q
  obtain ⟨_, _, ⟨T2, L2, k2, n2⟩, -, X2, ⟨Lc2, hQ2, l2, y2, z2⟩, st2⟩ := Jvm.LawKit.callS X1 hx (y := (⟨"com/example/skylattice/skylattice/healpix/Healpix", "spreadBits", "(J)J"⟩ : MethodName)) hown (mvT hZ (hw _ (List.mem_of_getElem? (i := 5) rfl))) (mvT hZ (hw _ (List.mem_of_getElem? (i := 6) rfl))) (mvT hZ (hw _ (List.mem_of_getElem? (i := 3) rfl))) (mvT hZ (hw _ (List.mem_of_getElem? (i := 7) rfl))) (by decide) (backOf (W := 2) (rm2 l Z a0 hw [] x3 h0 n0 Z0) hZ (hw _ (List.mem_of_getElem? (i := 7) rfl)) (hw _ (List.mem_of_getElem? (i := 3) rfl)) (by decide) (by decide)) (g := (mkF m 13 #[.val (.int x0), .val (.int x1), .val (.long x2), .second, .val (.long x3), .second] [(.long x3), (.long (((x1.toInt64) <<< (((2 : Int32) * x0) &&& 0x3f).toInt64) ||| (own_spread x2)))])) rfl (by rw [hml]; rfl) (argsL := [(.long x3)]) (rest := [(.long (((x1.toInt64) <<< (((2 : Int32) * x0) &&& 0x3f).toInt64) ||| (own_spread x2)))]) (lenOf pd__J_J rfl) rfl (by show 2 * 0 + _ ≤ _; exact Nat.le_of_eq rfl) (hb hby d1_13) (fun _ _ => ⟨rfl, e1, (by decide : 0 + 0 ≤ _), (by decide : 0 + 0 ≤ _)⟩)
  dsimp only [Pt.U, Pt.locs, Pt.cells, Pt.slots] at X2 l2 y2 z2 st2 hQ2
  subst l2 y2 z2
  obtain ⟨rfl, N2q, e2⟩ := hQ2
  have N2 := Fr.app N1 N2q
  obtain ⟨fs, hr, hrun, hended, hW, hsame⟩ := X2.leave (v := some (.long (own_cell x0 x1 x2 x3))) (fun h => by rw [Bd.returns] at h; cases h)
  refine ⟨_, _, pre0 _ ?_, hrun, hended, _, _, rfl, ?_, ⟨_, rfl⟩, hW, hsame.mono (by decide) (by decide)⟩
  · show Steps p.tables e below (s₁.setTop (mkF m 0 #[.val (.int x0), .val (.int x1), .val (.long x2), .second, .val (.long x3), .second] [])) _
    refine XS.iloadN X0.here hx rfl (hb hby d1_0) rfl ?_
    show Steps p.tables e below (s₁.setTop (mkF m 1 #[.val (.int x0), .val (.int x1), .val (.long x2), .second, .val (.long x3), .second] [(.int x1)])) _
    refine XS.i2l X0.here hx rfl (hb hby d1_1) rfl ?_
    show Steps p.tables e below (s₁.setTop (mkF m 2 #[.val (.int x0), .val (.int x1), .val (.long x2), .second, .val (.long x3), .second] [(.long (x1.toInt64))])) _
    refine XS.iconst X0.here hx rfl (hb hby d1_2) ?_
    show Steps p.tables e below (s₁.setTop (mkF m 3 #[.val (.int x0), .val (.int x1), .val (.long x2), .second, .val (.long x3), .second] [(.int (2 : Int32)), (.long (x1.toInt64))])) _
    refine XS.iloadN X0.here hx rfl (hb hby d1_3) rfl ?_
    show Steps p.tables e below (s₁.setTop (mkF m 4 #[.val (.int x0), .val (.int x1), .val (.long x2), .second, .val (.long x3), .second] [(.int x0), (.int (2 : Int32)), (.long (x1.toInt64))])) _
    refine XS.imul X0.here hx rfl (hb hby d1_4) rfl ?_
    show Steps p.tables e below (s₁.setTop (mkF m 5 #[.val (.int x0), .val (.int x1), .val (.long x2), .second, .val (.long x3), .second] [(.int ((2 : Int32) * x0)), (.long (x1.toInt64))])) _
    refine XS.lshl X0.here hx rfl (hb hby d1_5) rfl ?_
    show Steps p.tables e below (s₁.setTop (mkF m 6 #[.val (.int x0), .val (.int x1), .val (.long x2), .second, .val (.long x3), .second] [(.long ((x1.toInt64) <<< (((2 : Int32) * x0) &&& 0x3f).toInt64))])) _
    refine XS.lloadN X0.here hx rfl (hb hby d1_6) rfl ?_
    show Steps p.tables e below (s₁.setTop (mkF m 7 #[.val (.int x0), .val (.int x1), .val (.long x2), .second, .val (.long x3), .second] [(.long x2), (.long ((x1.toInt64) <<< (((2 : Int32) * x0) &&& 0x3f).toInt64))])) _
    refine st1 _ ?_
    show Steps p.tables e below (T1.setTop (mkF m 10 #[.val (.int x0), .val (.int x1), .val (.long x2), .second, .val (.long x3), .second] [(.long (own_spread x2)), (.long ((x1.toInt64) <<< (((2 : Int32) * x0) &&& 0x3f).toInt64))])) _
    refine XS.lor X1.here hx rfl (hb hby d1_10) rfl ?_
    show Steps p.tables e below (T1.setTop (mkF m 11 #[.val (.int x0), .val (.int x1), .val (.long x2), .second, .val (.long x3), .second] [(.long (((x1.toInt64) <<< (((2 : Int32) * x0) &&& 0x3f).toInt64) ||| (own_spread x2)))])) _
    refine XS.lload X1.here hx rfl (hb hby d1_11) rfl ?_
    show Steps p.tables e below (T1.setTop (mkF m 13 #[.val (.int x0), .val (.int x1), .val (.long x2), .second, .val (.long x3), .second] [(.long x3), (.long (((x1.toInt64) <<< (((2 : Int32) * x0) &&& 0x3f).toInt64) ||| (own_spread x2)))])) _
    refine st2 _ ?_
    show Steps p.tables e below (T2.setTop (mkF m 16 #[.val (.int x0), .val (.int x1), .val (.long x2), .second, .val (.long x3), .second] [(.long (own_spread x3)), (.long (((x1.toInt64) <<< (((2 : Int32) * x0) &&& 0x3f).toInt64) ||| (own_spread x2)))])) _
    refine XS.iconst X2.here hx rfl (hb hby d1_16) ?_
    show Steps p.tables e below (T2.setTop (mkF m 17 #[.val (.int x0), .val (.int x1), .val (.long x2), .second, .val (.long x3), .second] [(.int (1 : Int32)), (.long (own_spread x3)), (.long (((x1.toInt64) <<< (((2 : Int32) * x0) &&& 0x3f).toInt64) ||| (own_spread x2)))])) _
    refine XS.lshl X2.here hx rfl (hb hby d1_17) rfl ?_
    show Steps p.tables e below (T2.setTop (mkF m 18 #[.val (.int x0), .val (.int x1), .val (.long x2), .second, .val (.long x3), .second] [(.long ((own_spread x3) <<< ((1 : Int32) &&& 0x3f).toInt64)), (.long (((x1.toInt64) <<< (((2 : Int32) * x0) &&& 0x3f).toInt64) ||| (own_spread x2)))])) _
    refine XS.lor X2.here hx rfl (hb hby d1_18) rfl ?_
    show Steps p.tables e below (T2.setTop (mkF m 19 #[.val (.int x0), .val (.int x1), .val (.long x2), .second, .val (.long x3), .second] [(.long ((((x1.toInt64) <<< (((2 : Int32) * x0) &&& 0x3f).toInt64) ||| (own_spread x2)) ||| ((own_spread x3) <<< ((1 : Int32) &&& 0x3f).toInt64)))])) _
    have hv : own_cell x0 x1 x2 x3 = ((((x1.toInt64) <<< (((2 : Int32) * x0) &&& 0x3f).toInt64) ||| (own_spread x2)) ||| ((own_spread x3) <<< ((1 : Int32) &&& 0x3f).toInt64)) := rfl
    rw [hv] at hr
    exact X2.lreturnOut hx Bd.returns (hb hby d1_19) hr
  · exact ⟨rfl, N2, e2⟩
theorem pd__IIJJ_J : parseMethodDescriptor "(IIJJ)J" = some ⟨[.int, .int, .long, .long], some .long⟩ := by decide +kernel
set_option maxRecDepth 65536 in
set_option maxHeartbeats 40000000 in
theorem rm0 (l : Launch) (Z : State) (a0 : Array Value) (hw : ∀ d ∈ tables_1, d.before a0 Z = true) (ws : List Jvm.Cond) (x0 : Int32) (x1 : Int32) (x2 : Int64) (x3 : Int64) (x4 : Int32)  (h0 : Heap) (n0 : Nat) (Z0 : n0 ≤ h0.size)  :
    MetFree l x (head1 (Jvm.Cond.code x code maxLocals ret :: ws) room_1) (fun a U => a = #[(.int x0), (.int x1), (.long x2), (.long x3), (.int x4)] ∧ Z.Warmed39 U.vm ∧ U.heap = h0) (fun _ _ _ _ _ => True) (fun _ U o U' => ∃ v L, o = .returned v ∧ (QL n0 v U'.heap L) ∧ FrameEnd U o U' L room_1.cells room_1.slots) := by
  refine MetFree.of_bodySF (plainFor_of_name pn_0) hisR ?_
  intro p e s m args below meth c s₁ Bd hml0 hP hK
  obtain ⟨rfl, hZ, hh⟩ := hP
  have hx := Bd.exec
  have hby := Bd.bytes
  have hml : c.maxLocals = 30 := hml0
  have hown : s.vm.findClass "com/example/skylattice/skylattice/healpix/HealpixCellIndexPinLaw" = some m.cls := findClass_of_methodNamed Bd.named
  have hnm := (name_of_methodNamed Bd.named Bd.method).1
  have X0 : Stand p l e room_1 s m #[(.int x0), (.int x1), (.long x2), (.long x3), (.int x4)] below meth c s₁ [] 0 0 := Stand.of_body Bd
  have e0 : s₁.heap = h0 := by rw [← hh, Bd.state]; rfl
  have N0 := Fr.nil n0
  have pre0 : ∀ t, Steps p.tables e below (s₁.setTop (mkF m 0 #[.val (.int x0), .val (.int x1), .val (.long x2), .second, .val (.long x3), .second, .val (.int x4), .unset, .unset, .unset, .unset, .unset, .unset, .unset, .unset, .unset, .unset, .unset, .unset, .unset, .unset, .unset, .unset, .unset, .unset, .unset, .unset, .unset, .unset, .unset] [])) t → Steps p.tables e below (s₁.setTop (entryFrame m #[(.int x0), (.int x1), (.long x2), (.long x3), (.int x4)] maxLocals)) t := fun t k => castTop (ef_0 m x0 x1 x2 x3 x4) k
  obtain ⟨kk, e_kk⟩ : ∃ z : Int32, z = ((x0 &&& (2147483647 : Int32)) % (29 : Int32)) := ⟨_, rfl⟩
  obtain ⟨bb, e_bb⟩ : ∃ z : Int32, z = ((x1 &&& (2147483647 : Int32)) % (12 : Int32)) := ⟨_, rfl⟩
  obtain ⟨sd, e_sd⟩ : ∃ z : Int64, z = ((1 : Int64) <<< (kk &&& 0x3f).toInt64) := ⟨_, rfl⟩
  obtain ⟨xx, e_xx⟩ : ∃ z : Int64, z = (x2 &&& (sd - (1 : Int64))) := ⟨_, rfl⟩
  obtain ⟨yy, e_yy⟩ : ∃ z : Int64, z = (x3 &&& (sd - (1 : Int64))) := ⟨_, rfl⟩
  obtain ⟨aa, e_aa⟩ : ∃ z : Int64, z = ((x4 &&& (1 : Int32)).toInt64) := ⟨_, rfl⟩
  obtain ⟨cc, e_cc⟩ : ∃ z : Int64, z = (((x4 >>> ((1 : Int32) &&& 31)) &&& (1 : Int32)).toInt64) := ⟨_, rfl⟩
  have hk1 : 0 ≤ kk.toInt ∧ kk.toInt ≤ 28 := by
    have h1 := c_mask x0 (2147483647 : Int32) 31 (by decide) (by decide)
    have h2 := c_irem (x0 &&& (2147483647 : Int32)) (29 : Int32) 29 rfl
    rw [e_kk]; omega
  have hb1 : 0 ≤ bb.toInt ∧ bb.toInt ≤ 11 := by
    have h1 := c_mask x1 (2147483647 : Int32) 31 (by decide) (by decide)
    have h2 := c_irem (x1 &&& (2147483647 : Int32)) (12 : Int32) 12 rfl
    rw [e_bb]; omega
  obtain ⟨K, hK⟩ : ∃ K : Nat, kk.toInt = K := ⟨kk.toInt.toNat, by omega⟩
  obtain ⟨B, hB⟩ : ∃ B : Nat, bb.toInt = B := ⟨bb.toInt.toNat, by omega⟩
  have p4 : (2 : Nat) ^ K ≤ 2 ^ 28 := Nat.pow_le_pow_right (by decide) (by omega)
  have p0 : 0 < (2 : Nat) ^ K := Nat.pow_pos (by decide)
  have hsd : (sd - (1 : Int64)).toBitVec.toNat = 2 ^ K - 1 := by
    have h1 := c_lshl (1 : Int64) kk K (by
      have h3 : kk.toBitVec.toInt = (K : Int) := hK
      have h4 := kk.toBitVec.isLt
      rw [BitVec.toInt_eq_toNat_cond] at h3
      split at h3 <;> omega)
    rw [← e_sd, show (1 : Int64).toInt = 1 from rfl] at h1
    have h2 := rng64 sd
    have h3 := c_lsub sd (1 : Int64)
    rw [show (1 : Int64).toInt = 1 from rfl] at h3
    have h4 := rng64 (sd - (1 : Int64))
    exact own_toN _ _ (by omega)
  have hxx := c_maskL x2 (sd - (1 : Int64)) K (by omega) hsd
  have hyy := c_maskL x3 (sd - (1 : Int64)) K (by omega) hsd
  rw [← e_xx] at hxx
  rw [← e_yy] at hyy
  have hx1 := Int.emod_nonneg x2.toInt (b := ((2 ^ K : Nat) : Int)) (by omega)
  have hx2 := Int.emod_lt_of_pos x2.toInt (b := ((2 ^ K : Nat) : Int)) (by omega)
  have hy1 := Int.emod_nonneg x3.toInt (b := ((2 ^ K : Nat) : Int)) (by omega)
  have hy2 := Int.emod_lt_of_pos x3.toInt (b := ((2 ^ K : Nat) : Int)) (by omega)
  have ha1 : 0 ≤ aa.toInt ∧ aa.toInt ≤ 1 := by have h1 := c_mask x4 (1 : Int32) 1 (by decide) (by decide); rw [e_aa, c_i2l]; omega
  have hc1 : 0 ≤ cc.toInt ∧ cc.toInt ≤ 1 := by have h1 := c_mask (x4 >>> ((1 : Int32) &&& 31)) (1 : Int32) 1 (by decide) (by decide); rw [e_cc, c_i2l]; omega
  obtain ⟨F1, F2, F3, F4⟩ := own_main kk bb xx yy aa cc K B xx.toInt.toNat yy.toInt.toNat aa.toInt.toNat cc.toInt.toNat hK (by omega) hB (by omega) (by omega) (by omega) (by omega) (by omega) (by omega) (by omega) (by omega) (by omega)
  obtain ⟨_, _, ⟨T1, L1, k1, n1⟩, -, X1, ⟨Lc1, hQ1, l1, y1, z1⟩, st1⟩ := Jvm.LawKit.callS X0 hx (y := (⟨"com/example/skylattice/skylattice/healpix/Healpix", "cellIndex", "(IIJJ)J"⟩ : MethodName)) hown (mvT hZ (hw _ (List.mem_of_getElem? (i := 1) rfl))) (mvT hZ (hw _ (List.mem_of_getElem? (i := 2) rfl))) (mvT hZ (hw _ (List.mem_of_getElem? (i := 3) rfl))) (mvT hZ (hw _ (List.mem_of_getElem? (i := 4) rfl))) (by decide) (backOf (W := 0) (rm1 l Z a0 hw [] kk bb xx yy h0 n0 Z0) hZ (hw _ (List.mem_of_getElem? (i := 4) rfl)) (hw _ (List.mem_of_getElem? (i := 3) rfl)) (by decide) (by decide)) (g := (mkF m 65 #[.val (.int x0), .val (.int x1), .val (.long x2), .second, .val (.long x3), .second, .val (.int x4), .val (.int kk), .val (.int bb), .val (.long sd), .second, .val (.long xx), .second, .val (.long yy), .second, .val (.long aa), .second, .val (.long cc), .second, .unset, .unset, .unset, .unset, .unset, .unset, .unset, .unset, .unset, .unset, .unset] [(.long yy), (.long xx), (.int bb), (.int kk)])) rfl (by rw [hml]; rfl) (argsL := [(.int kk), (.int bb), (.long xx), (.long yy)]) (rest := []) (lenOf pd__IIJJ_J rfl) rfl (by show 2 * 0 + _ ≤ _; exact Nat.le_of_eq rfl) (hb hby at_65) (fun _ _ => ⟨rfl, e0, (by decide : 0 + 0 ≤ _), (by decide : 0 + 0 ≤ _)⟩)
  dsimp only [Pt.U, Pt.locs, Pt.cells, Pt.slots] at X1 l1 y1 z1 st1 hQ1
  subst l1 y1 z1
  obtain ⟨rfl, N1q, e1⟩ := hQ1
  have N1 := Fr.app N0 N1q
  obtain ⟨_, _, ⟨T2, L2, k2, n2⟩, -, X2, ⟨Lc2, hQ2, l2, y2, z2⟩, st2⟩ := Jvm.LawKit.callS X1 hx (y := (⟨"com/example/skylattice/skylattice/healpix/Healpix", "cellIndex", "(IIJJ)J"⟩ : MethodName)) hown (mvT hZ (hw _ (List.mem_of_getElem? (i := 1) rfl))) (mvT hZ (hw _ (List.mem_of_getElem? (i := 2) rfl))) (mvT hZ (hw _ (List.mem_of_getElem? (i := 3) rfl))) (mvT hZ (hw _ (List.mem_of_getElem? (i := 4) rfl))) (by decide) (backOf (W := 0) (rm1 l Z a0 hw [] (kk + (1 : Int32)) bb (((2 : Int64) * xx) + aa) (((2 : Int64) * yy) + cc) h0 n0 Z0) hZ (hw _ (List.mem_of_getElem? (i := 4) rfl)) (hw _ (List.mem_of_getElem? (i := 3) rfl)) (by decide) (by decide)) (g := (mkF m 94 #[.val (.int x0), .val (.int x1), .val (.long x2), .second, .val (.long x3), .second, .val (.int x4), .val (.int kk), .val (.int bb), .val (.long sd), .second, .val (.long xx), .second, .val (.long yy), .second, .val (.long aa), .second, .val (.long cc), .second, .val (.long (own_cell kk bb xx yy)), .second, .unset, .unset, .unset, .unset, .unset, .unset, .unset, .unset, .unset] [(.long (((2 : Int64) * yy) + cc)), (.long (((2 : Int64) * xx) + aa)), (.int bb), (.int (kk + (1 : Int32)))])) rfl (by rw [hml]; rfl) (argsL := [(.int (kk + (1 : Int32))), (.int bb), (.long (((2 : Int64) * xx) + aa)), (.long (((2 : Int64) * yy) + cc))]) (rest := []) (lenOf pd__IIJJ_J rfl) rfl (by show 2 * 0 + _ ≤ _; exact Nat.le_of_eq rfl) (hb hby at_94) (fun _ _ => ⟨rfl, e1, (by decide : 0 + 0 ≤ _), (by decide : 0 + 0 ≤ _)⟩)
  dsimp only [Pt.U, Pt.locs, Pt.cells, Pt.slots] at X2 l2 y2 z2 st2 hQ2
  subst l2 y2 z2
  obtain ⟨rfl, N2q, e2⟩ := hQ2
  have N2 := Fr.app N1 N2q
  obtain ⟨_, _, ⟨T3, L3, k3, n3⟩, -, X3, ⟨Lc3, hQ3, l3, y3, z3⟩, st3⟩ := Jvm.LawKit.callS X2 hx (y := (⟨"com/example/skylattice/skylattice/healpix/Healpix", "cellIndex", "(IIJJ)J"⟩ : MethodName)) hown (mvT hZ (hw _ (List.mem_of_getElem? (i := 1) rfl))) (mvT hZ (hw _ (List.mem_of_getElem? (i := 2) rfl))) (mvT hZ (hw _ (List.mem_of_getElem? (i := 3) rfl))) (mvT hZ (hw _ (List.mem_of_getElem? (i := 4) rfl))) (by decide) (backOf (W := 0) (rm1 l Z a0 hw [] (0 : Int32) bb (0 : Int64) (0 : Int64) h0 n0 Z0) hZ (hw _ (List.mem_of_getElem? (i := 4) rfl)) (hw _ (List.mem_of_getElem? (i := 3) rfl)) (by decide) (by decide)) (g := (mkF m 133 #[.val (.int x0), .val (.int x1), .val (.long x2), .second, .val (.long x3), .second, .val (.int x4), .val (.int kk), .val (.int bb), .val (.long sd), .second, .val (.long xx), .second, .val (.long yy), .second, .val (.long aa), .second, .val (.long cc), .second, .val (.long (own_cell kk bb xx yy)), .second, .val (.long (own_cell (kk + (1 : Int32)) bb (((2 : Int64) * xx) + aa) (((2 : Int64) * yy) + cc))), .second, .val (.int (1 : Int32)), .unset, .unset, .unset, .unset, .unset, .unset] [(.long (0 : Int64)), (.long (0 : Int64)), (.int bb), (.int (0 : Int32))])) rfl (by rw [hml]; rfl) (argsL := [(.int (0 : Int32)), (.int bb), (.long (0 : Int64)), (.long (0 : Int64))]) (rest := []) (lenOf pd__IIJJ_J rfl) rfl (by show 2 * 0 + _ ≤ _; exact Nat.le_of_eq rfl) (hb hby at_133) (fun _ _ => ⟨rfl, e2, (by decide : 0 + 0 ≤ _), (by decide : 0 + 0 ≤ _)⟩)
  dsimp only [Pt.U, Pt.locs, Pt.cells, Pt.slots] at X3 l3 y3 z3 st3 hQ3
  subst l3 y3 z3
  obtain ⟨rfl, N3q, e3⟩ := hQ3
  have N3 := Fr.app N2 N3q
  obtain ⟨fs, hr, hrun, hended, hW, hsame⟩ := X3.leave (v := some (.int (1 : Int32))) (fun h => by rw [Bd.returns] at h; cases h)
  refine ⟨_, _, pre0 _ ?_, hrun, hended, _, _, rfl, ?_, ⟨_, rfl⟩, hW, hsame.mono (by decide) (by decide)⟩
  · show Steps p.tables e below (s₁.setTop (mkF m 0 #[.val (.int x0), .val (.int x1), .val (.long x2), .second, .val (.long x3), .second, .val (.int x4), .unset, .unset, .unset, .unset, .unset, .unset, .unset, .unset, .unset, .unset, .unset, .unset, .unset, .unset, .unset, .unset, .unset, .unset, .unset, .unset, .unset, .unset, .unset] [])) _
    refine XS.iloadN X0.here hx rfl (hb hby at_0) rfl ?_
    show Steps p.tables e below (s₁.setTop (mkF m 1 #[.val (.int x0), .val (.int x1), .val (.long x2), .second, .val (.long x3), .second, .val (.int x4), .unset, .unset, .unset, .unset, .unset, .unset, .unset, .unset, .unset, .unset, .unset, .unset, .unset, .unset, .unset, .unset, .unset, .unset, .unset, .unset, .unset, .unset, .unset] [(.int x0)])) _
    refine X0.ldcInt hx hown (mvT hZ (hw _ (List.mem_of_getElem? (i := 0) rfl))) (g := (mkF m 1 #[.val (.int x0), .val (.int x1), .val (.long x2), .second, .val (.long x3), .second, .val (.int x4), .unset, .unset, .unset, .unset, .unset, .unset, .unset, .unset, .unset, .unset, .unset, .unset, .unset, .unset, .unset, .unset, .unset, .unset, .unset, .unset, .unset, .unset, .unset] [(.int x0)])) rfl (hb hby at_1) _ ?_
    show Steps p.tables e below (s₁.setTop (mkF m 3 #[.val (.int x0), .val (.int x1), .val (.long x2), .second, .val (.long x3), .second, .val (.int x4), .unset, .unset, .unset, .unset, .unset, .unset, .unset, .unset, .unset, .unset, .unset, .unset, .unset, .unset, .unset, .unset, .unset, .unset, .unset, .unset, .unset, .unset, .unset] [(.int (2147483647 : Int32)), (.int x0)])) _
    refine XS.iand X0.here hx rfl (hb hby at_3) rfl ?_
    show Steps p.tables e below (s₁.setTop (mkF m 4 #[.val (.int x0), .val (.int x1), .val (.long x2), .second, .val (.long x3), .second, .val (.int x4), .unset, .unset, .unset, .unset, .unset, .unset, .unset, .unset, .unset, .unset, .unset, .unset, .unset, .unset, .unset, .unset, .unset, .unset, .unset, .unset, .unset, .unset, .unset] [(.int (x0 &&& (2147483647 : Int32)))])) _
    refine XS.bipush X0.here hx rfl (hb hby at_4) ?_
    show Steps p.tables e below (s₁.setTop (mkF m 6 #[.val (.int x0), .val (.int x1), .val (.long x2), .second, .val (.long x3), .second, .val (.int x4), .unset, .unset, .unset, .unset, .unset, .unset, .unset, .unset, .unset, .unset, .unset, .unset, .unset, .unset, .unset, .unset, .unset, .unset, .unset, .unset, .unset, .unset, .unset] [(.int (29 : Int32)), (.int (x0 &&& (2147483647 : Int32)))])) _
    refine iremM X0 hx rfl (hb hby at_6) rfl (by decide) ?_
    show Steps p.tables e below (s₁.setTop (mkF m 7 #[.val (.int x0), .val (.int x1), .val (.long x2), .second, .val (.long x3), .second, .val (.int x4), .unset, .unset, .unset, .unset, .unset, .unset, .unset, .unset, .unset, .unset, .unset, .unset, .unset, .unset, .unset, .unset, .unset, .unset, .unset, .unset, .unset, .unset, .unset] [(.int ((x0 &&& (2147483647 : Int32)) % (29 : Int32)))])) _
    rw [← e_kk]
    show Steps p.tables e below (s₁.setTop (mkF m 7 #[.val (.int x0), .val (.int x1), .val (.long x2), .second, .val (.long x3), .second, .val (.int x4), .unset, .unset, .unset, .unset, .unset, .unset, .unset, .unset, .unset, .unset, .unset, .unset, .unset, .unset, .unset, .unset, .unset, .unset, .unset, .unset, .unset, .unset, .unset] [(.int kk)])) _
    refine XS.istore X0.here hx rfl (hb hby at_7) rfl (l' := #[.val (.int x0), .val (.int x1), .val (.long x2), .second, .val (.long x3), .second, .val (.int x4), .val (.int kk), .unset, .unset, .unset, .unset, .unset, .unset, .unset, .unset, .unset, .unset, .unset, .unset, .unset, .unset, .unset, .unset, .unset, .unset, .unset, .unset, .unset, .unset]) rfl ?_
    show Steps p.tables e below (s₁.setTop (mkF m 9 #[.val (.int x0), .val (.int x1), .val (.long x2), .second, .val (.long x3), .second, .val (.int x4), .val (.int kk), .unset, .unset, .unset, .unset, .unset, .unset, .unset, .unset, .unset, .unset, .unset, .unset, .unset, .unset, .unset, .unset, .unset, .unset, .unset, .unset, .unset, .unset] [])) _
    refine XS.iloadN X0.here hx rfl (hb hby at_9) rfl ?_
    show Steps p.tables e below (s₁.setTop (mkF m 10 #[.val (.int x0), .val (.int x1), .val (.long x2), .second, .val (.long x3), .second, .val (.int x4), .val (.int kk), .unset, .unset, .unset, .unset, .unset, .unset, .unset, .unset, .unset, .unset, .unset, .unset, .unset, .unset, .unset, .unset, .unset, .unset, .unset, .unset, .unset, .unset] [(.int x1)])) _
    refine X0.ldcInt hx hown (mvT hZ (hw _ (List.mem_of_getElem? (i := 0) rfl))) (g := (mkF m 10 #[.val (.int x0), .val (.int x1), .val (.long x2), .second, .val (.long x3), .second, .val (.int x4), .val (.int kk), .unset, .unset, .unset, .unset, .unset, .unset, .unset, .unset, .unset, .unset, .unset, .unset, .unset, .unset, .unset, .unset, .unset, .unset, .unset, .unset, .unset, .unset] [(.int x1)])) rfl (hb hby at_10) _ ?_
    show Steps p.tables e below (s₁.setTop (mkF m 12 #[.val (.int x0), .val (.int x1), .val (.long x2), .second, .val (.long x3), .second, .val (.int x4), .val (.int kk), .unset, .unset, .unset, .unset, .unset, .unset, .unset, .unset, .unset, .unset, .unset, .unset, .unset, .unset, .unset, .unset, .unset, .unset, .unset, .unset, .unset, .unset] [(.int (2147483647 : Int32)), (.int x1)])) _
    refine XS.iand X0.here hx rfl (hb hby at_12) rfl ?_
    show Steps p.tables e below (s₁.setTop (mkF m 13 #[.val (.int x0), .val (.int x1), .val (.long x2), .second, .val (.long x3), .second, .val (.int x4), .val (.int kk), .unset, .unset, .unset, .unset, .unset, .unset, .unset, .unset, .unset, .unset, .unset, .unset, .unset, .unset, .unset, .unset, .unset, .unset, .unset, .unset, .unset, .unset] [(.int (x1 &&& (2147483647 : Int32)))])) _
    refine XS.bipush X0.here hx rfl (hb hby at_13) ?_
    show Steps p.tables e below (s₁.setTop (mkF m 15 #[.val (.int x0), .val (.int x1), .val (.long x2), .second, .val (.long x3), .second, .val (.int x4), .val (.int kk), .unset, .unset, .unset, .unset, .unset, .unset, .unset, .unset, .unset, .unset, .unset, .unset, .unset, .unset, .unset, .unset, .unset, .unset, .unset, .unset, .unset, .unset] [(.int (12 : Int32)), (.int (x1 &&& (2147483647 : Int32)))])) _
    refine iremM X0 hx rfl (hb hby at_15) rfl (by decide) ?_
    show Steps p.tables e below (s₁.setTop (mkF m 16 #[.val (.int x0), .val (.int x1), .val (.long x2), .second, .val (.long x3), .second, .val (.int x4), .val (.int kk), .unset, .unset, .unset, .unset, .unset, .unset, .unset, .unset, .unset, .unset, .unset, .unset, .unset, .unset, .unset, .unset, .unset, .unset, .unset, .unset, .unset, .unset] [(.int ((x1 &&& (2147483647 : Int32)) % (12 : Int32)))])) _
    rw [← e_bb]
    show Steps p.tables e below (s₁.setTop (mkF m 16 #[.val (.int x0), .val (.int x1), .val (.long x2), .second, .val (.long x3), .second, .val (.int x4), .val (.int kk), .unset, .unset, .unset, .unset, .unset, .unset, .unset, .unset, .unset, .unset, .unset, .unset, .unset, .unset, .unset, .unset, .unset, .unset, .unset, .unset, .unset, .unset] [(.int bb)])) _
    refine XS.istore X0.here hx rfl (hb hby at_16) rfl (l' := #[.val (.int x0), .val (.int x1), .val (.long x2), .second, .val (.long x3), .second, .val (.int x4), .val (.int kk), .val (.int bb), .unset, .unset, .unset, .unset, .unset, .unset, .unset, .unset, .unset, .unset, .unset, .unset, .unset, .unset, .unset, .unset, .unset, .unset, .unset, .unset, .unset]) rfl ?_
    show Steps p.tables e below (s₁.setTop (mkF m 18 #[.val (.int x0), .val (.int x1), .val (.long x2), .second, .val (.long x3), .second, .val (.int x4), .val (.int kk), .val (.int bb), .unset, .unset, .unset, .unset, .unset, .unset, .unset, .unset, .unset, .unset, .unset, .unset, .unset, .unset, .unset, .unset, .unset, .unset, .unset, .unset, .unset] [])) _
    refine XS.lconst X0.here hx rfl (hb hby at_18) ?_
    show Steps p.tables e below (s₁.setTop (mkF m 19 #[.val (.int x0), .val (.int x1), .val (.long x2), .second, .val (.long x3), .second, .val (.int x4), .val (.int kk), .val (.int bb), .unset, .unset, .unset, .unset, .unset, .unset, .unset, .unset, .unset, .unset, .unset, .unset, .unset, .unset, .unset, .unset, .unset, .unset, .unset, .unset, .unset] [(.long (1 : Int64))])) _
    refine XS.iload X0.here hx rfl (hb hby at_19) rfl ?_
    show Steps p.tables e below (s₁.setTop (mkF m 21 #[.val (.int x0), .val (.int x1), .val (.long x2), .second, .val (.long x3), .second, .val (.int x4), .val (.int kk), .val (.int bb), .unset, .unset, .unset, .unset, .unset, .unset, .unset, .unset, .unset, .unset, .unset, .unset, .unset, .unset, .unset, .unset, .unset, .unset, .unset, .unset, .unset] [(.int kk), (.long (1 : Int64))])) _
    refine XS.lshl X0.here hx rfl (hb hby at_21) rfl ?_
    show Steps p.tables e below (s₁.setTop (mkF m 22 #[.val (.int x0), .val (.int x1), .val (.long x2), .second, .val (.long x3), .second, .val (.int x4), .val (.int kk), .val (.int bb), .unset, .unset, .unset, .unset, .unset, .unset, .unset, .unset, .unset, .unset, .unset, .unset, .unset, .unset, .unset, .unset, .unset, .unset, .unset, .unset, .unset] [(.long ((1 : Int64) <<< (kk &&& 0x3f).toInt64))])) _
    rw [← e_sd]
    show Steps p.tables e below (s₁.setTop (mkF m 22 #[.val (.int x0), .val (.int x1), .val (.long x2), .second, .val (.long x3), .second, .val (.int x4), .val (.int kk), .val (.int bb), .unset, .unset, .unset, .unset, .unset, .unset, .unset, .unset, .unset, .unset, .unset, .unset, .unset, .unset, .unset, .unset, .unset, .unset, .unset, .unset, .unset] [(.long sd)])) _
    refine XS.lstore X0.here hx rfl (hb hby at_22) rfl (l' := #[.val (.int x0), .val (.int x1), .val (.long x2), .second, .val (.long x3), .second, .val (.int x4), .val (.int kk), .val (.int bb), .val (.long sd), .second, .unset, .unset, .unset, .unset, .unset, .unset, .unset, .unset, .unset, .unset, .unset, .unset, .unset, .unset, .unset, .unset, .unset, .unset, .unset]) rfl ?_
    show Steps p.tables e below (s₁.setTop (mkF m 24 #[.val (.int x0), .val (.int x1), .val (.long x2), .second, .val (.long x3), .second, .val (.int x4), .val (.int kk), .val (.int bb), .val (.long sd), .second, .unset, .unset, .unset, .unset, .unset, .unset, .unset, .unset, .unset, .unset, .unset, .unset, .unset, .unset, .unset, .unset, .unset, .unset, .unset] [])) _
    refine XS.lloadN X0.here hx rfl (hb hby at_24) rfl ?_
    show Steps p.tables e below (s₁.setTop (mkF m 25 #[.val (.int x0), .val (.int x1), .val (.long x2), .second, .val (.long x3), .second, .val (.int x4), .val (.int kk), .val (.int bb), .val (.long sd), .second, .unset, .unset, .unset, .unset, .unset, .unset, .unset, .unset, .unset, .unset, .unset, .unset, .unset, .unset, .unset, .unset, .unset, .unset, .unset] [(.long x2)])) _
    refine XS.lload X0.here hx rfl (hb hby at_25) rfl ?_
    show Steps p.tables e below (s₁.setTop (mkF m 27 #[.val (.int x0), .val (.int x1), .val (.long x2), .second, .val (.long x3), .second, .val (.int x4), .val (.int kk), .val (.int bb), .val (.long sd), .second, .unset, .unset, .unset, .unset, .unset, .unset, .unset, .unset, .unset, .unset, .unset, .unset, .unset, .unset, .unset, .unset, .unset, .unset, .unset] [(.long sd), (.long x2)])) _
    refine XS.lconst X0.here hx rfl (hb hby at_27) ?_
    show Steps p.tables e below (s₁.setTop (mkF m 28 #[.val (.int x0), .val (.int x1), .val (.long x2), .second, .val (.long x3), .second, .val (.int x4), .val (.int kk), .val (.int bb), .val (.long sd), .second, .unset, .unset, .unset, .unset, .unset, .unset, .unset, .unset, .unset, .unset, .unset, .unset, .unset, .unset, .unset, .unset, .unset, .unset, .unset] [(.long (1 : Int64)), (.long sd), (.long x2)])) _
    refine XS.lsub X0.here hx rfl (hb hby at_28) rfl ?_
    show Steps p.tables e below (s₁.setTop (mkF m 29 #[.val (.int x0), .val (.int x1), .val (.long x2), .second, .val (.long x3), .second, .val (.int x4), .val (.int kk), .val (.int bb), .val (.long sd), .second, .unset, .unset, .unset, .unset, .unset, .unset, .unset, .unset, .unset, .unset, .unset, .unset, .unset, .unset, .unset, .unset, .unset, .unset, .unset] [(.long (sd - (1 : Int64))), (.long x2)])) _
    refine XS.land X0.here hx rfl (hb hby at_29) rfl ?_
    show Steps p.tables e below (s₁.setTop (mkF m 30 #[.val (.int x0), .val (.int x1), .val (.long x2), .second, .val (.long x3), .second, .val (.int x4), .val (.int kk), .val (.int bb), .val (.long sd), .second, .unset, .unset, .unset, .unset, .unset, .unset, .unset, .unset, .unset, .unset, .unset, .unset, .unset, .unset, .unset, .unset, .unset, .unset, .unset] [(.long (x2 &&& (sd - (1 : Int64))))])) _
    rw [← e_xx]
    show Steps p.tables e below (s₁.setTop (mkF m 30 #[.val (.int x0), .val (.int x1), .val (.long x2), .second, .val (.long x3), .second, .val (.int x4), .val (.int kk), .val (.int bb), .val (.long sd), .second, .unset, .unset, .unset, .unset, .unset, .unset, .unset, .unset, .unset, .unset, .unset, .unset, .unset, .unset, .unset, .unset, .unset, .unset, .unset] [(.long xx)])) _
    refine XS.lstore X0.here hx rfl (hb hby at_30) rfl (l' := #[.val (.int x0), .val (.int x1), .val (.long x2), .second, .val (.long x3), .second, .val (.int x4), .val (.int kk), .val (.int bb), .val (.long sd), .second, .val (.long xx), .second, .unset, .unset, .unset, .unset, .unset, .unset, .unset, .unset, .unset, .unset, .unset, .unset, .unset, .unset, .unset, .unset, .unset]) rfl ?_
    show Steps p.tables e below (s₁.setTop (mkF m 32 #[.val (.int x0), .val (.int x1), .val (.long x2), .second, .val (.long x3), .second, .val (.int x4), .val (.int kk), .val (.int bb), .val (.long sd), .second, .val (.long xx), .second, .unset, .unset, .unset, .unset, .unset, .unset, .unset, .unset, .unset, .unset, .unset, .unset, .unset, .unset, .unset, .unset, .unset] [])) _
    refine XS.lload X0.here hx rfl (hb hby at_32) rfl ?_
    show Steps p.tables e below (s₁.setTop (mkF m 34 #[.val (.int x0), .val (.int x1), .val (.long x2), .second, .val (.long x3), .second, .val (.int x4), .val (.int kk), .val (.int bb), .val (.long sd), .second, .val (.long xx), .second, .unset, .unset, .unset, .unset, .unset, .unset, .unset, .unset, .unset, .unset, .unset, .unset, .unset, .unset, .unset, .unset, .unset] [(.long x3)])) _
    refine XS.lload X0.here hx rfl (hb hby at_34) rfl ?_
    show Steps p.tables e below (s₁.setTop (mkF m 36 #[.val (.int x0), .val (.int x1), .val (.long x2), .second, .val (.long x3), .second, .val (.int x4), .val (.int kk), .val (.int bb), .val (.long sd), .second, .val (.long xx), .second, .unset, .unset, .unset, .unset, .unset, .unset, .unset, .unset, .unset, .unset, .unset, .unset, .unset, .unset, .unset, .unset, .unset] [(.long sd), (.long x3)])) _
    refine XS.lconst X0.here hx rfl (hb hby at_36) ?_
    show Steps p.tables e below (s₁.setTop (mkF m 37 #[.val (.int x0), .val (.int x1), .val (.long x2), .second, .val (.long x3), .second, .val (.int x4), .val (.int kk), .val (.int bb), .val (.long sd), .second, .val (.long xx), .second, .unset, .unset, .unset, .unset, .unset, .unset, .unset, .unset, .unset, .unset, .unset, .unset, .unset, .unset, .unset, .unset, .unset] [(.long (1 : Int64)), (.long sd), (.long x3)])) _
    refine XS.lsub X0.here hx rfl (hb hby at_37) rfl ?_
    show Steps p.tables e below (s₁.setTop (mkF m 38 #[.val (.int x0), .val (.int x1), .val (.long x2), .second, .val (.long x3), .second, .val (.int x4), .val (.int kk), .val (.int bb), .val (.long sd), .second, .val (.long xx), .second, .unset, .unset, .unset, .unset, .unset, .unset, .unset, .unset, .unset, .unset, .unset, .unset, .unset, .unset, .unset, .unset, .unset] [(.long (sd - (1 : Int64))), (.long x3)])) _
    refine XS.land X0.here hx rfl (hb hby at_38) rfl ?_
    show Steps p.tables e below (s₁.setTop (mkF m 39 #[.val (.int x0), .val (.int x1), .val (.long x2), .second, .val (.long x3), .second, .val (.int x4), .val (.int kk), .val (.int bb), .val (.long sd), .second, .val (.long xx), .second, .unset, .unset, .unset, .unset, .unset, .unset, .unset, .unset, .unset, .unset, .unset, .unset, .unset, .unset, .unset, .unset, .unset] [(.long (x3 &&& (sd - (1 : Int64))))])) _
    rw [← e_yy]
    show Steps p.tables e below (s₁.setTop (mkF m 39 #[.val (.int x0), .val (.int x1), .val (.long x2), .second, .val (.long x3), .second, .val (.int x4), .val (.int kk), .val (.int bb), .val (.long sd), .second, .val (.long xx), .second, .unset, .unset, .unset, .unset, .unset, .unset, .unset, .unset, .unset, .unset, .unset, .unset, .unset, .unset, .unset, .unset, .unset] [(.long yy)])) _
    refine XS.lstore X0.here hx rfl (hb hby at_39) rfl (l' := #[.val (.int x0), .val (.int x1), .val (.long x2), .second, .val (.long x3), .second, .val (.int x4), .val (.int kk), .val (.int bb), .val (.long sd), .second, .val (.long xx), .second, .val (.long yy), .second, .unset, .unset, .unset, .unset, .unset, .unset, .unset, .unset, .unset, .unset, .unset, .unset, .unset, .unset, .unset]) rfl ?_
    show Steps p.tables e below (s₁.setTop (mkF m 41 #[.val (.int x0), .val (.int x1), .val (.long x2), .second, .val (.long x3), .second, .val (.int x4), .val (.int kk), .val (.int bb), .val (.long sd), .second, .val (.long xx), .second, .val (.long yy), .second, .unset, .unset, .unset, .unset, .unset, .unset, .unset, .unset, .unset, .unset, .unset, .unset, .unset, .unset, .unset] [])) _
    refine XS.iload X0.here hx rfl (hb hby at_41) rfl ?_
    show Steps p.tables e below (s₁.setTop (mkF m 43 #[.val (.int x0), .val (.int x1), .val (.long x2), .second, .val (.long x3), .second, .val (.int x4), .val (.int kk), .val (.int bb), .val (.long sd), .second, .val (.long xx), .second, .val (.long yy), .second, .unset, .unset, .unset, .unset, .unset, .unset, .unset, .unset, .unset, .unset, .unset, .unset, .unset, .unset, .unset] [(.int x4)])) _
    refine XS.iconst X0.here hx rfl (hb hby at_43) ?_
    show Steps p.tables e below (s₁.setTop (mkF m 44 #[.val (.int x0), .val (.int x1), .val (.long x2), .second, .val (.long x3), .second, .val (.int x4), .val (.int kk), .val (.int bb), .val (.long sd), .second, .val (.long xx), .second, .val (.long yy), .second, .unset, .unset, .unset, .unset, .unset, .unset, .unset, .unset, .unset, .unset, .unset, .unset, .unset, .unset, .unset] [(.int (1 : Int32)), (.int x4)])) _
    refine XS.iand X0.here hx rfl (hb hby at_44) rfl ?_
    show Steps p.tables e below (s₁.setTop (mkF m 45 #[.val (.int x0), .val (.int x1), .val (.long x2), .second, .val (.long x3), .second, .val (.int x4), .val (.int kk), .val (.int bb), .val (.long sd), .second, .val (.long xx), .second, .val (.long yy), .second, .unset, .unset, .unset, .unset, .unset, .unset, .unset, .unset, .unset, .unset, .unset, .unset, .unset, .unset, .unset] [(.int (x4 &&& (1 : Int32)))])) _
    refine XS.i2l X0.here hx rfl (hb hby at_45) rfl ?_
    show Steps p.tables e below (s₁.setTop (mkF m 46 #[.val (.int x0), .val (.int x1), .val (.long x2), .second, .val (.long x3), .second, .val (.int x4), .val (.int kk), .val (.int bb), .val (.long sd), .second, .val (.long xx), .second, .val (.long yy), .second, .unset, .unset, .unset, .unset, .unset, .unset, .unset, .unset, .unset, .unset, .unset, .unset, .unset, .unset, .unset] [(.long ((x4 &&& (1 : Int32)).toInt64))])) _
    rw [← e_aa]
    show Steps p.tables e below (s₁.setTop (mkF m 46 #[.val (.int x0), .val (.int x1), .val (.long x2), .second, .val (.long x3), .second, .val (.int x4), .val (.int kk), .val (.int bb), .val (.long sd), .second, .val (.long xx), .second, .val (.long yy), .second, .unset, .unset, .unset, .unset, .unset, .unset, .unset, .unset, .unset, .unset, .unset, .unset, .unset, .unset, .unset] [(.long aa)])) _
    refine XS.lstore X0.here hx rfl (hb hby at_46) rfl (l' := #[.val (.int x0), .val (.int x1), .val (.long x2), .second, .val (.long x3), .second, .val (.int x4), .val (.int kk), .val (.int bb), .val (.long sd), .second, .val (.long xx), .second, .val (.long yy), .second, .val (.long aa), .second, .unset, .unset, .unset, .unset, .unset, .unset, .unset, .unset, .unset, .unset, .unset, .unset, .unset]) rfl ?_
    show Steps p.tables e below (s₁.setTop (mkF m 48 #[.val (.int x0), .val (.int x1), .val (.long x2), .second, .val (.long x3), .second, .val (.int x4), .val (.int kk), .val (.int bb), .val (.long sd), .second, .val (.long xx), .second, .val (.long yy), .second, .val (.long aa), .second, .unset, .unset, .unset, .unset, .unset, .unset, .unset, .unset, .unset, .unset, .unset, .unset, .unset] [])) _
    refine XS.iload X0.here hx rfl (hb hby at_48) rfl ?_
    show Steps p.tables e below (s₁.setTop (mkF m 50 #[.val (.int x0), .val (.int x1), .val (.long x2), .second, .val (.long x3), .second, .val (.int x4), .val (.int kk), .val (.int bb), .val (.long sd), .second, .val (.long xx), .second, .val (.long yy), .second, .val (.long aa), .second, .unset, .unset, .unset, .unset, .unset, .unset, .unset, .unset, .unset, .unset, .unset, .unset, .unset] [(.int x4)])) _
    refine XS.iconst X0.here hx rfl (hb hby at_50) ?_
    show Steps p.tables e below (s₁.setTop (mkF m 51 #[.val (.int x0), .val (.int x1), .val (.long x2), .second, .val (.long x3), .second, .val (.int x4), .val (.int kk), .val (.int bb), .val (.long sd), .second, .val (.long xx), .second, .val (.long yy), .second, .val (.long aa), .second, .unset, .unset, .unset, .unset, .unset, .unset, .unset, .unset, .unset, .unset, .unset, .unset, .unset] [(.int (1 : Int32)), (.int x4)])) _
    refine XS.ishr X0.here hx rfl (hb hby at_51) rfl ?_
    show Steps p.tables e below (s₁.setTop (mkF m 52 #[.val (.int x0), .val (.int x1), .val (.long x2), .second, .val (.long x3), .second, .val (.int x4), .val (.int kk), .val (.int bb), .val (.long sd), .second, .val (.long xx), .second, .val (.long yy), .second, .val (.long aa), .second, .unset, .unset, .unset, .unset, .unset, .unset, .unset, .unset, .unset, .unset, .unset, .unset, .unset] [(.int (x4 >>> ((1 : Int32) &&& 31)))])) _
    refine XS.iconst X0.here hx rfl (hb hby at_52) ?_
    show Steps p.tables e below (s₁.setTop (mkF m 53 #[.val (.int x0), .val (.int x1), .val (.long x2), .second, .val (.long x3), .second, .val (.int x4), .val (.int kk), .val (.int bb), .val (.long sd), .second, .val (.long xx), .second, .val (.long yy), .second, .val (.long aa), .second, .unset, .unset, .unset, .unset, .unset, .unset, .unset, .unset, .unset, .unset, .unset, .unset, .unset] [(.int (1 : Int32)), (.int (x4 >>> ((1 : Int32) &&& 31)))])) _
    refine XS.iand X0.here hx rfl (hb hby at_53) rfl ?_
    show Steps p.tables e below (s₁.setTop (mkF m 54 #[.val (.int x0), .val (.int x1), .val (.long x2), .second, .val (.long x3), .second, .val (.int x4), .val (.int kk), .val (.int bb), .val (.long sd), .second, .val (.long xx), .second, .val (.long yy), .second, .val (.long aa), .second, .unset, .unset, .unset, .unset, .unset, .unset, .unset, .unset, .unset, .unset, .unset, .unset, .unset] [(.int ((x4 >>> ((1 : Int32) &&& 31)) &&& (1 : Int32)))])) _
    refine XS.i2l X0.here hx rfl (hb hby at_54) rfl ?_
    show Steps p.tables e below (s₁.setTop (mkF m 55 #[.val (.int x0), .val (.int x1), .val (.long x2), .second, .val (.long x3), .second, .val (.int x4), .val (.int kk), .val (.int bb), .val (.long sd), .second, .val (.long xx), .second, .val (.long yy), .second, .val (.long aa), .second, .unset, .unset, .unset, .unset, .unset, .unset, .unset, .unset, .unset, .unset, .unset, .unset, .unset] [(.long (((x4 >>> ((1 : Int32) &&& 31)) &&& (1 : Int32)).toInt64))])) _
    rw [← e_cc]
    show Steps p.tables e below (s₁.setTop (mkF m 55 #[.val (.int x0), .val (.int x1), .val (.long x2), .second, .val (.long x3), .second, .val (.int x4), .val (.int kk), .val (.int bb), .val (.long sd), .second, .val (.long xx), .second, .val (.long yy), .second, .val (.long aa), .second, .unset, .unset, .unset, .unset, .unset, .unset, .unset, .unset, .unset, .unset, .unset, .unset, .unset] [(.long cc)])) _
    refine XS.lstore X0.here hx rfl (hb hby at_55) rfl (l' := #[.val (.int x0), .val (.int x1), .val (.long x2), .second, .val (.long x3), .second, .val (.int x4), .val (.int kk), .val (.int bb), .val (.long sd), .second, .val (.long xx), .second, .val (.long yy), .second, .val (.long aa), .second, .val (.long cc), .second, .unset, .unset, .unset, .unset, .unset, .unset, .unset, .unset, .unset, .unset, .unset]) rfl ?_
    show Steps p.tables e below (s₁.setTop (mkF m 57 #[.val (.int x0), .val (.int x1), .val (.long x2), .second, .val (.long x3), .second, .val (.int x4), .val (.int kk), .val (.int bb), .val (.long sd), .second, .val (.long xx), .second, .val (.long yy), .second, .val (.long aa), .second, .val (.long cc), .second, .unset, .unset, .unset, .unset, .unset, .unset, .unset, .unset, .unset, .unset, .unset] [])) _
    refine XS.iload X0.here hx rfl (hb hby at_57) rfl ?_
    show Steps p.tables e below (s₁.setTop (mkF m 59 #[.val (.int x0), .val (.int x1), .val (.long x2), .second, .val (.long x3), .second, .val (.int x4), .val (.int kk), .val (.int bb), .val (.long sd), .second, .val (.long xx), .second, .val (.long yy), .second, .val (.long aa), .second, .val (.long cc), .second, .unset, .unset, .unset, .unset, .unset, .unset, .unset, .unset, .unset, .unset, .unset] [(.int kk)])) _
    refine XS.iload X0.here hx rfl (hb hby at_59) rfl ?_
    show Steps p.tables e below (s₁.setTop (mkF m 61 #[.val (.int x0), .val (.int x1), .val (.long x2), .second, .val (.long x3), .second, .val (.int x4), .val (.int kk), .val (.int bb), .val (.long sd), .second, .val (.long xx), .second, .val (.long yy), .second, .val (.long aa), .second, .val (.long cc), .second, .unset, .unset, .unset, .unset, .unset, .unset, .unset, .unset, .unset, .unset, .unset] [(.int bb), (.int kk)])) _
    refine XS.lload X0.here hx rfl (hb hby at_61) rfl ?_
    show Steps p.tables e below (s₁.setTop (mkF m 63 #[.val (.int x0), .val (.int x1), .val (.long x2), .second, .val (.long x3), .second, .val (.int x4), .val (.int kk), .val (.int bb), .val (.long sd), .second, .val (.long xx), .second, .val (.long yy), .second, .val (.long aa), .second, .val (.long cc), .second, .unset, .unset, .unset, .unset, .unset, .unset, .unset, .unset, .unset, .unset, .unset] [(.long xx), (.int bb), (.int kk)])) _
    refine XS.lload X0.here hx rfl (hb hby at_63) rfl ?_
    show Steps p.tables e below (s₁.setTop (mkF m 65 #[.val (.int x0), .val (.int x1), .val (.long x2), .second, .val (.long x3), .second, .val (.int x4), .val (.int kk), .val (.int bb), .val (.long sd), .second, .val (.long xx), .second, .val (.long yy), .second, .val (.long aa), .second, .val (.long cc), .second, .unset, .unset, .unset, .unset, .unset, .unset, .unset, .unset, .unset, .unset, .unset] [(.long yy), (.long xx), (.int bb), (.int kk)])) _
    refine st1 _ ?_
    show Steps p.tables e below (T1.setTop (mkF m 68 #[.val (.int x0), .val (.int x1), .val (.long x2), .second, .val (.long x3), .second, .val (.int x4), .val (.int kk), .val (.int bb), .val (.long sd), .second, .val (.long xx), .second, .val (.long yy), .second, .val (.long aa), .second, .val (.long cc), .second, .unset, .unset, .unset, .unset, .unset, .unset, .unset, .unset, .unset, .unset, .unset] [(.long (own_cell kk bb xx yy))])) _
    refine XS.lstore X1.here hx rfl (hb hby at_68) rfl (l' := #[.val (.int x0), .val (.int x1), .val (.long x2), .second, .val (.long x3), .second, .val (.int x4), .val (.int kk), .val (.int bb), .val (.long sd), .second, .val (.long xx), .second, .val (.long yy), .second, .val (.long aa), .second, .val (.long cc), .second, .val (.long (own_cell kk bb xx yy)), .second, .unset, .unset, .unset, .unset, .unset, .unset, .unset, .unset, .unset]) rfl ?_
    show Steps p.tables e below (T1.setTop (mkF m 70 #[.val (.int x0), .val (.int x1), .val (.long x2), .second, .val (.long x3), .second, .val (.int x4), .val (.int kk), .val (.int bb), .val (.long sd), .second, .val (.long xx), .second, .val (.long yy), .second, .val (.long aa), .second, .val (.long cc), .second, .val (.long (own_cell kk bb xx yy)), .second, .unset, .unset, .unset, .unset, .unset, .unset, .unset, .unset, .unset] [])) _
    refine XS.iload X1.here hx rfl (hb hby at_70) rfl ?_
    show Steps p.tables e below (T1.setTop (mkF m 72 #[.val (.int x0), .val (.int x1), .val (.long x2), .second, .val (.long x3), .second, .val (.int x4), .val (.int kk), .val (.int bb), .val (.long sd), .second, .val (.long xx), .second, .val (.long yy), .second, .val (.long aa), .second, .val (.long cc), .second, .val (.long (own_cell kk bb xx yy)), .second, .unset, .unset, .unset, .unset, .unset, .unset, .unset, .unset, .unset] [(.int kk)])) _
    refine XS.iconst X1.here hx rfl (hb hby at_72) ?_
    show Steps p.tables e below (T1.setTop (mkF m 73 #[.val (.int x0), .val (.int x1), .val (.long x2), .second, .val (.long x3), .second, .val (.int x4), .val (.int kk), .val (.int bb), .val (.long sd), .second, .val (.long xx), .second, .val (.long yy), .second, .val (.long aa), .second, .val (.long cc), .second, .val (.long (own_cell kk bb xx yy)), .second, .unset, .unset, .unset, .unset, .unset, .unset, .unset, .unset, .unset] [(.int (1 : Int32)), (.int kk)])) _
    refine XS.iadd X1.here hx rfl (hb hby at_73) rfl ?_
    show Steps p.tables e below (T1.setTop (mkF m 74 #[.val (.int x0), .val (.int x1), .val (.long x2), .second, .val (.long x3), .second, .val (.int x4), .val (.int kk), .val (.int bb), .val (.long sd), .second, .val (.long xx), .second, .val (.long yy), .second, .val (.long aa), .second, .val (.long cc), .second, .val (.long (own_cell kk bb xx yy)), .second, .unset, .unset, .unset, .unset, .unset, .unset, .unset, .unset, .unset] [(.int (kk + (1 : Int32)))])) _
    refine XS.iload X1.here hx rfl (hb hby at_74) rfl ?_
    show Steps p.tables e below (T1.setTop (mkF m 76 #[.val (.int x0), .val (.int x1), .val (.long x2), .second, .val (.long x3), .second, .val (.int x4), .val (.int kk), .val (.int bb), .val (.long sd), .second, .val (.long xx), .second, .val (.long yy), .second, .val (.long aa), .second, .val (.long cc), .second, .val (.long (own_cell kk bb xx yy)), .second, .unset, .unset, .unset, .unset, .unset, .unset, .unset, .unset, .unset] [(.int bb), (.int (kk + (1 : Int32)))])) _
    refine X1.ldc2Long hx hown (mvT hZ (hw _ (List.mem_of_getElem? (i := 14) rfl))) (g := (mkF m 76 #[.val (.int x0), .val (.int x1), .val (.long x2), .second, .val (.long x3), .second, .val (.int x4), .val (.int kk), .val (.int bb), .val (.long sd), .second, .val (.long xx), .second, .val (.long yy), .second, .val (.long aa), .second, .val (.long cc), .second, .val (.long (own_cell kk bb xx yy)), .second, .unset, .unset, .unset, .unset, .unset, .unset, .unset, .unset, .unset] [(.int bb), (.int (kk + (1 : Int32)))])) rfl (hb hby at_76) _ ?_
    show Steps p.tables e below (T1.setTop (mkF m 79 #[.val (.int x0), .val (.int x1), .val (.long x2), .second, .val (.long x3), .second, .val (.int x4), .val (.int kk), .val (.int bb), .val (.long sd), .second, .val (.long xx), .second, .val (.long yy), .second, .val (.long aa), .second, .val (.long cc), .second, .val (.long (own_cell kk bb xx yy)), .second, .unset, .unset, .unset, .unset, .unset, .unset, .unset, .unset, .unset] [(.long (2 : Int64)), (.int bb), (.int (kk + (1 : Int32)))])) _
    refine XS.lload X1.here hx rfl (hb hby at_79) rfl ?_
    show Steps p.tables e below (T1.setTop (mkF m 81 #[.val (.int x0), .val (.int x1), .val (.long x2), .second, .val (.long x3), .second, .val (.int x4), .val (.int kk), .val (.int bb), .val (.long sd), .second, .val (.long xx), .second, .val (.long yy), .second, .val (.long aa), .second, .val (.long cc), .second, .val (.long (own_cell kk bb xx yy)), .second, .unset, .unset, .unset, .unset, .unset, .unset, .unset, .unset, .unset] [(.long xx), (.long (2 : Int64)), (.int bb), (.int (kk + (1 : Int32)))])) _
    refine XS.lmul X1.here hx rfl (hb hby at_81) rfl ?_
    show Steps p.tables e below (T1.setTop (mkF m 82 #[.val (.int x0), .val (.int x1), .val (.long x2), .second, .val (.long x3), .second, .val (.int x4), .val (.int kk), .val (.int bb), .val (.long sd), .second, .val (.long xx), .second, .val (.long yy), .second, .val (.long aa), .second, .val (.long cc), .second, .val (.long (own_cell kk bb xx yy)), .second, .unset, .unset, .unset, .unset, .unset, .unset, .unset, .unset, .unset] [(.long ((2 : Int64) * xx)), (.int bb), (.int (kk + (1 : Int32)))])) _
    refine XS.lload X1.here hx rfl (hb hby at_82) rfl ?_
    show Steps p.tables e below (T1.setTop (mkF m 84 #[.val (.int x0), .val (.int x1), .val (.long x2), .second, .val (.long x3), .second, .val (.int x4), .val (.int kk), .val (.int bb), .val (.long sd), .second, .val (.long xx), .second, .val (.long yy), .second, .val (.long aa), .second, .val (.long cc), .second, .val (.long (own_cell kk bb xx yy)), .second, .unset, .unset, .unset, .unset, .unset, .unset, .unset, .unset, .unset] [(.long aa), (.long ((2 : Int64) * xx)), (.int bb), (.int (kk + (1 : Int32)))])) _
    refine XS.ladd X1.here hx rfl (hb hby at_84) rfl ?_
    show Steps p.tables e below (T1.setTop (mkF m 85 #[.val (.int x0), .val (.int x1), .val (.long x2), .second, .val (.long x3), .second, .val (.int x4), .val (.int kk), .val (.int bb), .val (.long sd), .second, .val (.long xx), .second, .val (.long yy), .second, .val (.long aa), .second, .val (.long cc), .second, .val (.long (own_cell kk bb xx yy)), .second, .unset, .unset, .unset, .unset, .unset, .unset, .unset, .unset, .unset] [(.long (((2 : Int64) * xx) + aa)), (.int bb), (.int (kk + (1 : Int32)))])) _
    refine X1.ldc2Long hx hown (mvT hZ (hw _ (List.mem_of_getElem? (i := 14) rfl))) (g := (mkF m 85 #[.val (.int x0), .val (.int x1), .val (.long x2), .second, .val (.long x3), .second, .val (.int x4), .val (.int kk), .val (.int bb), .val (.long sd), .second, .val (.long xx), .second, .val (.long yy), .second, .val (.long aa), .second, .val (.long cc), .second, .val (.long (own_cell kk bb xx yy)), .second, .unset, .unset, .unset, .unset, .unset, .unset, .unset, .unset, .unset] [(.long (((2 : Int64) * xx) + aa)), (.int bb), (.int (kk + (1 : Int32)))])) rfl (hb hby at_85) _ ?_
    show Steps p.tables e below (T1.setTop (mkF m 88 #[.val (.int x0), .val (.int x1), .val (.long x2), .second, .val (.long x3), .second, .val (.int x4), .val (.int kk), .val (.int bb), .val (.long sd), .second, .val (.long xx), .second, .val (.long yy), .second, .val (.long aa), .second, .val (.long cc), .second, .val (.long (own_cell kk bb xx yy)), .second, .unset, .unset, .unset, .unset, .unset, .unset, .unset, .unset, .unset] [(.long (2 : Int64)), (.long (((2 : Int64) * xx) + aa)), (.int bb), (.int (kk + (1 : Int32)))])) _
    refine XS.lload X1.here hx rfl (hb hby at_88) rfl ?_
    show Steps p.tables e below (T1.setTop (mkF m 90 #[.val (.int x0), .val (.int x1), .val (.long x2), .second, .val (.long x3), .second, .val (.int x4), .val (.int kk), .val (.int bb), .val (.long sd), .second, .val (.long xx), .second, .val (.long yy), .second, .val (.long aa), .second, .val (.long cc), .second, .val (.long (own_cell kk bb xx yy)), .second, .unset, .unset, .unset, .unset, .unset, .unset, .unset, .unset, .unset] [(.long yy), (.long (2 : Int64)), (.long (((2 : Int64) * xx) + aa)), (.int bb), (.int (kk + (1 : Int32)))])) _
    refine XS.lmul X1.here hx rfl (hb hby at_90) rfl ?_
    show Steps p.tables e below (T1.setTop (mkF m 91 #[.val (.int x0), .val (.int x1), .val (.long x2), .second, .val (.long x3), .second, .val (.int x4), .val (.int kk), .val (.int bb), .val (.long sd), .second, .val (.long xx), .second, .val (.long yy), .second, .val (.long aa), .second, .val (.long cc), .second, .val (.long (own_cell kk bb xx yy)), .second, .unset, .unset, .unset, .unset, .unset, .unset, .unset, .unset, .unset] [(.long ((2 : Int64) * yy)), (.long (((2 : Int64) * xx) + aa)), (.int bb), (.int (kk + (1 : Int32)))])) _
    refine XS.lload X1.here hx rfl (hb hby at_91) rfl ?_
    show Steps p.tables e below (T1.setTop (mkF m 93 #[.val (.int x0), .val (.int x1), .val (.long x2), .second, .val (.long x3), .second, .val (.int x4), .val (.int kk), .val (.int bb), .val (.long sd), .second, .val (.long xx), .second, .val (.long yy), .second, .val (.long aa), .second, .val (.long cc), .second, .val (.long (own_cell kk bb xx yy)), .second, .unset, .unset, .unset, .unset, .unset, .unset, .unset, .unset, .unset] [(.long cc), (.long ((2 : Int64) * yy)), (.long (((2 : Int64) * xx) + aa)), (.int bb), (.int (kk + (1 : Int32)))])) _
    refine XS.ladd X1.here hx rfl (hb hby at_93) rfl ?_
    show Steps p.tables e below (T1.setTop (mkF m 94 #[.val (.int x0), .val (.int x1), .val (.long x2), .second, .val (.long x3), .second, .val (.int x4), .val (.int kk), .val (.int bb), .val (.long sd), .second, .val (.long xx), .second, .val (.long yy), .second, .val (.long aa), .second, .val (.long cc), .second, .val (.long (own_cell kk bb xx yy)), .second, .unset, .unset, .unset, .unset, .unset, .unset, .unset, .unset, .unset] [(.long (((2 : Int64) * yy) + cc)), (.long (((2 : Int64) * xx) + aa)), (.int bb), (.int (kk + (1 : Int32)))])) _
    refine st2 _ ?_
    show Steps p.tables e below (T2.setTop (mkF m 97 #[.val (.int x0), .val (.int x1), .val (.long x2), .second, .val (.long x3), .second, .val (.int x4), .val (.int kk), .val (.int bb), .val (.long sd), .second, .val (.long xx), .second, .val (.long yy), .second, .val (.long aa), .second, .val (.long cc), .second, .val (.long (own_cell kk bb xx yy)), .second, .unset, .unset, .unset, .unset, .unset, .unset, .unset, .unset, .unset] [(.long (own_cell (kk + (1 : Int32)) bb (((2 : Int64) * xx) + aa) (((2 : Int64) * yy) + cc)))])) _
    refine XS.lstore X2.here hx rfl (hb hby at_97) rfl (l' := #[.val (.int x0), .val (.int x1), .val (.long x2), .second, .val (.long x3), .second, .val (.int x4), .val (.int kk), .val (.int bb), .val (.long sd), .second, .val (.long xx), .second, .val (.long yy), .second, .val (.long aa), .second, .val (.long cc), .second, .val (.long (own_cell kk bb xx yy)), .second, .val (.long (own_cell (kk + (1 : Int32)) bb (((2 : Int64) * xx) + aa) (((2 : Int64) * yy) + cc))), .second, .unset, .unset, .unset, .unset, .unset, .unset, .unset]) rfl ?_
    show Steps p.tables e below (T2.setTop (mkF m 99 #[.val (.int x0), .val (.int x1), .val (.long x2), .second, .val (.long x3), .second, .val (.int x4), .val (.int kk), .val (.int bb), .val (.long sd), .second, .val (.long xx), .second, .val (.long yy), .second, .val (.long aa), .second, .val (.long cc), .second, .val (.long (own_cell kk bb xx yy)), .second, .val (.long (own_cell (kk + (1 : Int32)) bb (((2 : Int64) * xx) + aa) (((2 : Int64) * yy) + cc))), .second, .unset, .unset, .unset, .unset, .unset, .unset, .unset] [])) _
    refine XS.lload X2.here hx rfl (hb hby at_99) rfl ?_
    show Steps p.tables e below (T2.setTop (mkF m 101 #[.val (.int x0), .val (.int x1), .val (.long x2), .second, .val (.long x3), .second, .val (.int x4), .val (.int kk), .val (.int bb), .val (.long sd), .second, .val (.long xx), .second, .val (.long yy), .second, .val (.long aa), .second, .val (.long cc), .second, .val (.long (own_cell kk bb xx yy)), .second, .val (.long (own_cell (kk + (1 : Int32)) bb (((2 : Int64) * xx) + aa) (((2 : Int64) * yy) + cc))), .second, .unset, .unset, .unset, .unset, .unset, .unset, .unset] [(.long (own_cell (kk + (1 : Int32)) bb (((2 : Int64) * xx) + aa) (((2 : Int64) * yy) + cc)))])) _
    refine X2.ldc2Long hx hown (mvT hZ (hw _ (List.mem_of_getElem? (i := 15) rfl))) (g := (mkF m 101 #[.val (.int x0), .val (.int x1), .val (.long x2), .second, .val (.long x3), .second, .val (.int x4), .val (.int kk), .val (.int bb), .val (.long sd), .second, .val (.long xx), .second, .val (.long yy), .second, .val (.long aa), .second, .val (.long cc), .second, .val (.long (own_cell kk bb xx yy)), .second, .val (.long (own_cell (kk + (1 : Int32)) bb (((2 : Int64) * xx) + aa) (((2 : Int64) * yy) + cc))), .second, .unset, .unset, .unset, .unset, .unset, .unset, .unset] [(.long (own_cell (kk + (1 : Int32)) bb (((2 : Int64) * xx) + aa) (((2 : Int64) * yy) + cc)))])) rfl (hb hby at_101) _ ?_
    show Steps p.tables e below (T2.setTop (mkF m 104 #[.val (.int x0), .val (.int x1), .val (.long x2), .second, .val (.long x3), .second, .val (.int x4), .val (.int kk), .val (.int bb), .val (.long sd), .second, .val (.long xx), .second, .val (.long yy), .second, .val (.long aa), .second, .val (.long cc), .second, .val (.long (own_cell kk bb xx yy)), .second, .val (.long (own_cell (kk + (1 : Int32)) bb (((2 : Int64) * xx) + aa) (((2 : Int64) * yy) + cc))), .second, .unset, .unset, .unset, .unset, .unset, .unset, .unset] [(.long (4 : Int64)), (.long (own_cell (kk + (1 : Int32)) bb (((2 : Int64) * xx) + aa) (((2 : Int64) * yy) + cc)))])) _
    refine XS.lload X2.here hx rfl (hb hby at_104) rfl ?_
    show Steps p.tables e below (T2.setTop (mkF m 106 #[.val (.int x0), .val (.int x1), .val (.long x2), .second, .val (.long x3), .second, .val (.int x4), .val (.int kk), .val (.int bb), .val (.long sd), .second, .val (.long xx), .second, .val (.long yy), .second, .val (.long aa), .second, .val (.long cc), .second, .val (.long (own_cell kk bb xx yy)), .second, .val (.long (own_cell (kk + (1 : Int32)) bb (((2 : Int64) * xx) + aa) (((2 : Int64) * yy) + cc))), .second, .unset, .unset, .unset, .unset, .unset, .unset, .unset] [(.long (own_cell kk bb xx yy)), (.long (4 : Int64)), (.long (own_cell (kk + (1 : Int32)) bb (((2 : Int64) * xx) + aa) (((2 : Int64) * yy) + cc)))])) _
    refine XS.lmul X2.here hx rfl (hb hby at_106) rfl ?_
    show Steps p.tables e below (T2.setTop (mkF m 107 #[.val (.int x0), .val (.int x1), .val (.long x2), .second, .val (.long x3), .second, .val (.int x4), .val (.int kk), .val (.int bb), .val (.long sd), .second, .val (.long xx), .second, .val (.long yy), .second, .val (.long aa), .second, .val (.long cc), .second, .val (.long (own_cell kk bb xx yy)), .second, .val (.long (own_cell (kk + (1 : Int32)) bb (((2 : Int64) * xx) + aa) (((2 : Int64) * yy) + cc))), .second, .unset, .unset, .unset, .unset, .unset, .unset, .unset] [(.long ((4 : Int64) * (own_cell kk bb xx yy))), (.long (own_cell (kk + (1 : Int32)) bb (((2 : Int64) * xx) + aa) (((2 : Int64) * yy) + cc)))])) _
    refine XS.lload X2.here hx rfl (hb hby at_107) rfl ?_
    show Steps p.tables e below (T2.setTop (mkF m 109 #[.val (.int x0), .val (.int x1), .val (.long x2), .second, .val (.long x3), .second, .val (.int x4), .val (.int kk), .val (.int bb), .val (.long sd), .second, .val (.long xx), .second, .val (.long yy), .second, .val (.long aa), .second, .val (.long cc), .second, .val (.long (own_cell kk bb xx yy)), .second, .val (.long (own_cell (kk + (1 : Int32)) bb (((2 : Int64) * xx) + aa) (((2 : Int64) * yy) + cc))), .second, .unset, .unset, .unset, .unset, .unset, .unset, .unset] [(.long aa), (.long ((4 : Int64) * (own_cell kk bb xx yy))), (.long (own_cell (kk + (1 : Int32)) bb (((2 : Int64) * xx) + aa) (((2 : Int64) * yy) + cc)))])) _
    refine XS.ladd X2.here hx rfl (hb hby at_109) rfl ?_
    show Steps p.tables e below (T2.setTop (mkF m 110 #[.val (.int x0), .val (.int x1), .val (.long x2), .second, .val (.long x3), .second, .val (.int x4), .val (.int kk), .val (.int bb), .val (.long sd), .second, .val (.long xx), .second, .val (.long yy), .second, .val (.long aa), .second, .val (.long cc), .second, .val (.long (own_cell kk bb xx yy)), .second, .val (.long (own_cell (kk + (1 : Int32)) bb (((2 : Int64) * xx) + aa) (((2 : Int64) * yy) + cc))), .second, .unset, .unset, .unset, .unset, .unset, .unset, .unset] [(.long (((4 : Int64) * (own_cell kk bb xx yy)) + aa)), (.long (own_cell (kk + (1 : Int32)) bb (((2 : Int64) * xx) + aa) (((2 : Int64) * yy) + cc)))])) _
    refine X2.ldc2Long hx hown (mvT hZ (hw _ (List.mem_of_getElem? (i := 14) rfl))) (g := (mkF m 110 #[.val (.int x0), .val (.int x1), .val (.long x2), .second, .val (.long x3), .second, .val (.int x4), .val (.int kk), .val (.int bb), .val (.long sd), .second, .val (.long xx), .second, .val (.long yy), .second, .val (.long aa), .second, .val (.long cc), .second, .val (.long (own_cell kk bb xx yy)), .second, .val (.long (own_cell (kk + (1 : Int32)) bb (((2 : Int64) * xx) + aa) (((2 : Int64) * yy) + cc))), .second, .unset, .unset, .unset, .unset, .unset, .unset, .unset] [(.long (((4 : Int64) * (own_cell kk bb xx yy)) + aa)), (.long (own_cell (kk + (1 : Int32)) bb (((2 : Int64) * xx) + aa) (((2 : Int64) * yy) + cc)))])) rfl (hb hby at_110) _ ?_
    show Steps p.tables e below (T2.setTop (mkF m 113 #[.val (.int x0), .val (.int x1), .val (.long x2), .second, .val (.long x3), .second, .val (.int x4), .val (.int kk), .val (.int bb), .val (.long sd), .second, .val (.long xx), .second, .val (.long yy), .second, .val (.long aa), .second, .val (.long cc), .second, .val (.long (own_cell kk bb xx yy)), .second, .val (.long (own_cell (kk + (1 : Int32)) bb (((2 : Int64) * xx) + aa) (((2 : Int64) * yy) + cc))), .second, .unset, .unset, .unset, .unset, .unset, .unset, .unset] [(.long (2 : Int64)), (.long (((4 : Int64) * (own_cell kk bb xx yy)) + aa)), (.long (own_cell (kk + (1 : Int32)) bb (((2 : Int64) * xx) + aa) (((2 : Int64) * yy) + cc)))])) _
    refine XS.lload X2.here hx rfl (hb hby at_113) rfl ?_
    show Steps p.tables e below (T2.setTop (mkF m 115 #[.val (.int x0), .val (.int x1), .val (.long x2), .second, .val (.long x3), .second, .val (.int x4), .val (.int kk), .val (.int bb), .val (.long sd), .second, .val (.long xx), .second, .val (.long yy), .second, .val (.long aa), .second, .val (.long cc), .second, .val (.long (own_cell kk bb xx yy)), .second, .val (.long (own_cell (kk + (1 : Int32)) bb (((2 : Int64) * xx) + aa) (((2 : Int64) * yy) + cc))), .second, .unset, .unset, .unset, .unset, .unset, .unset, .unset] [(.long cc), (.long (2 : Int64)), (.long (((4 : Int64) * (own_cell kk bb xx yy)) + aa)), (.long (own_cell (kk + (1 : Int32)) bb (((2 : Int64) * xx) + aa) (((2 : Int64) * yy) + cc)))])) _
    refine XS.lmul X2.here hx rfl (hb hby at_115) rfl ?_
    show Steps p.tables e below (T2.setTop (mkF m 116 #[.val (.int x0), .val (.int x1), .val (.long x2), .second, .val (.long x3), .second, .val (.int x4), .val (.int kk), .val (.int bb), .val (.long sd), .second, .val (.long xx), .second, .val (.long yy), .second, .val (.long aa), .second, .val (.long cc), .second, .val (.long (own_cell kk bb xx yy)), .second, .val (.long (own_cell (kk + (1 : Int32)) bb (((2 : Int64) * xx) + aa) (((2 : Int64) * yy) + cc))), .second, .unset, .unset, .unset, .unset, .unset, .unset, .unset] [(.long ((2 : Int64) * cc)), (.long (((4 : Int64) * (own_cell kk bb xx yy)) + aa)), (.long (own_cell (kk + (1 : Int32)) bb (((2 : Int64) * xx) + aa) (((2 : Int64) * yy) + cc)))])) _
    refine XS.ladd X2.here hx rfl (hb hby at_116) rfl ?_
    show Steps p.tables e below (T2.setTop (mkF m 117 #[.val (.int x0), .val (.int x1), .val (.long x2), .second, .val (.long x3), .second, .val (.int x4), .val (.int kk), .val (.int bb), .val (.long sd), .second, .val (.long xx), .second, .val (.long yy), .second, .val (.long aa), .second, .val (.long cc), .second, .val (.long (own_cell kk bb xx yy)), .second, .val (.long (own_cell (kk + (1 : Int32)) bb (((2 : Int64) * xx) + aa) (((2 : Int64) * yy) + cc))), .second, .unset, .unset, .unset, .unset, .unset, .unset, .unset] [(.long ((((4 : Int64) * (own_cell kk bb xx yy)) + aa) + ((2 : Int64) * cc))), (.long (own_cell (kk + (1 : Int32)) bb (((2 : Int64) * xx) + aa) (((2 : Int64) * yy) + cc)))])) _
    refine XS.lcmp X2.here hx rfl (hb hby at_117) rfl ?_
    show Steps p.tables e below (T2.setTop (mkF m 118 #[.val (.int x0), .val (.int x1), .val (.long x2), .second, .val (.long x3), .second, .val (.int x4), .val (.int kk), .val (.int bb), .val (.long sd), .second, .val (.long xx), .second, .val (.long yy), .second, .val (.long aa), .second, .val (.long cc), .second, .val (.long (own_cell kk bb xx yy)), .second, .val (.long (own_cell (kk + (1 : Int32)) bb (((2 : Int64) * xx) + aa) (((2 : Int64) * yy) + cc))), .second, .unset, .unset, .unset, .unset, .unset, .unset, .unset] [(.int (lcmpW (own_cell (kk + (1 : Int32)) bb (((2 : Int64) * xx) + aa) (((2 : Int64) * yy) + cc)) ((((4 : Int64) * (own_cell kk bb xx yy)) + aa) + ((2 : Int64) * cc))))])) _
    refine XS.ifNo X2.here hx rfl (hb hby at_118) rfl ((if0 _ _).trans (teq ((lw_eq _ _).mpr F1)).2) ?_
    show Steps p.tables e below (T2.setTop (mkF m 121 #[.val (.int x0), .val (.int x1), .val (.long x2), .second, .val (.long x3), .second, .val (.int x4), .val (.int kk), .val (.int bb), .val (.long sd), .second, .val (.long xx), .second, .val (.long yy), .second, .val (.long aa), .second, .val (.long cc), .second, .val (.long (own_cell kk bb xx yy)), .second, .val (.long (own_cell (kk + (1 : Int32)) bb (((2 : Int64) * xx) + aa) (((2 : Int64) * yy) + cc))), .second, .unset, .unset, .unset, .unset, .unset, .unset, .unset] [])) _
    refine XS.iconst X2.here hx rfl (hb hby at_121) ?_
    show Steps p.tables e below (T2.setTop (mkF m 122 #[.val (.int x0), .val (.int x1), .val (.long x2), .second, .val (.long x3), .second, .val (.int x4), .val (.int kk), .val (.int bb), .val (.long sd), .second, .val (.long xx), .second, .val (.long yy), .second, .val (.long aa), .second, .val (.long cc), .second, .val (.long (own_cell kk bb xx yy)), .second, .val (.long (own_cell (kk + (1 : Int32)) bb (((2 : Int64) * xx) + aa) (((2 : Int64) * yy) + cc))), .second, .unset, .unset, .unset, .unset, .unset, .unset, .unset] [(.int (1 : Int32))])) _
    refine XS.goto X2.here hx rfl (pc0 := 122) (pc' := 126) rfl (hb hby at_122) (by decide) (by decide) ?_
    show Steps p.tables e below (T2.setTop (mkF m 126 #[.val (.int x0), .val (.int x1), .val (.long x2), .second, .val (.long x3), .second, .val (.int x4), .val (.int kk), .val (.int bb), .val (.long sd), .second, .val (.long xx), .second, .val (.long yy), .second, .val (.long aa), .second, .val (.long cc), .second, .val (.long (own_cell kk bb xx yy)), .second, .val (.long (own_cell (kk + (1 : Int32)) bb (((2 : Int64) * xx) + aa) (((2 : Int64) * yy) + cc))), .second, .unset, .unset, .unset, .unset, .unset, .unset, .unset] [(.int (1 : Int32))])) _
    refine XS.istore X2.here hx rfl (hb hby at_126) rfl (l' := #[.val (.int x0), .val (.int x1), .val (.long x2), .second, .val (.long x3), .second, .val (.int x4), .val (.int kk), .val (.int bb), .val (.long sd), .second, .val (.long xx), .second, .val (.long yy), .second, .val (.long aa), .second, .val (.long cc), .second, .val (.long (own_cell kk bb xx yy)), .second, .val (.long (own_cell (kk + (1 : Int32)) bb (((2 : Int64) * xx) + aa) (((2 : Int64) * yy) + cc))), .second, .val (.int (1 : Int32)), .unset, .unset, .unset, .unset, .unset, .unset]) rfl ?_
    show Steps p.tables e below (T2.setTop (mkF m 128 #[.val (.int x0), .val (.int x1), .val (.long x2), .second, .val (.long x3), .second, .val (.int x4), .val (.int kk), .val (.int bb), .val (.long sd), .second, .val (.long xx), .second, .val (.long yy), .second, .val (.long aa), .second, .val (.long cc), .second, .val (.long (own_cell kk bb xx yy)), .second, .val (.long (own_cell (kk + (1 : Int32)) bb (((2 : Int64) * xx) + aa) (((2 : Int64) * yy) + cc))), .second, .val (.int (1 : Int32)), .unset, .unset, .unset, .unset, .unset, .unset] [])) _
    refine XS.iconst X2.here hx rfl (hb hby at_128) ?_
    show Steps p.tables e below (T2.setTop (mkF m 129 #[.val (.int x0), .val (.int x1), .val (.long x2), .second, .val (.long x3), .second, .val (.int x4), .val (.int kk), .val (.int bb), .val (.long sd), .second, .val (.long xx), .second, .val (.long yy), .second, .val (.long aa), .second, .val (.long cc), .second, .val (.long (own_cell kk bb xx yy)), .second, .val (.long (own_cell (kk + (1 : Int32)) bb (((2 : Int64) * xx) + aa) (((2 : Int64) * yy) + cc))), .second, .val (.int (1 : Int32)), .unset, .unset, .unset, .unset, .unset, .unset] [(.int (0 : Int32))])) _
    refine XS.iload X2.here hx rfl (hb hby at_129) rfl ?_
    show Steps p.tables e below (T2.setTop (mkF m 131 #[.val (.int x0), .val (.int x1), .val (.long x2), .second, .val (.long x3), .second, .val (.int x4), .val (.int kk), .val (.int bb), .val (.long sd), .second, .val (.long xx), .second, .val (.long yy), .second, .val (.long aa), .second, .val (.long cc), .second, .val (.long (own_cell kk bb xx yy)), .second, .val (.long (own_cell (kk + (1 : Int32)) bb (((2 : Int64) * xx) + aa) (((2 : Int64) * yy) + cc))), .second, .val (.int (1 : Int32)), .unset, .unset, .unset, .unset, .unset, .unset] [(.int bb), (.int (0 : Int32))])) _
    refine XS.lconst X2.here hx rfl (hb hby at_131) ?_
    show Steps p.tables e below (T2.setTop (mkF m 132 #[.val (.int x0), .val (.int x1), .val (.long x2), .second, .val (.long x3), .second, .val (.int x4), .val (.int kk), .val (.int bb), .val (.long sd), .second, .val (.long xx), .second, .val (.long yy), .second, .val (.long aa), .second, .val (.long cc), .second, .val (.long (own_cell kk bb xx yy)), .second, .val (.long (own_cell (kk + (1 : Int32)) bb (((2 : Int64) * xx) + aa) (((2 : Int64) * yy) + cc))), .second, .val (.int (1 : Int32)), .unset, .unset, .unset, .unset, .unset, .unset] [(.long (0 : Int64)), (.int bb), (.int (0 : Int32))])) _
    refine XS.lconst X2.here hx rfl (hb hby at_132) ?_
    show Steps p.tables e below (T2.setTop (mkF m 133 #[.val (.int x0), .val (.int x1), .val (.long x2), .second, .val (.long x3), .second, .val (.int x4), .val (.int kk), .val (.int bb), .val (.long sd), .second, .val (.long xx), .second, .val (.long yy), .second, .val (.long aa), .second, .val (.long cc), .second, .val (.long (own_cell kk bb xx yy)), .second, .val (.long (own_cell (kk + (1 : Int32)) bb (((2 : Int64) * xx) + aa) (((2 : Int64) * yy) + cc))), .second, .val (.int (1 : Int32)), .unset, .unset, .unset, .unset, .unset, .unset] [(.long (0 : Int64)), (.long (0 : Int64)), (.int bb), (.int (0 : Int32))])) _
    refine st3 _ ?_
    show Steps p.tables e below (T3.setTop (mkF m 136 #[.val (.int x0), .val (.int x1), .val (.long x2), .second, .val (.long x3), .second, .val (.int x4), .val (.int kk), .val (.int bb), .val (.long sd), .second, .val (.long xx), .second, .val (.long yy), .second, .val (.long aa), .second, .val (.long cc), .second, .val (.long (own_cell kk bb xx yy)), .second, .val (.long (own_cell (kk + (1 : Int32)) bb (((2 : Int64) * xx) + aa) (((2 : Int64) * yy) + cc))), .second, .val (.int (1 : Int32)), .unset, .unset, .unset, .unset, .unset, .unset] [(.long (own_cell (0 : Int32) bb (0 : Int64) (0 : Int64)))])) _
    refine XS.iload X3.here hx rfl (hb hby at_136) rfl ?_
    show Steps p.tables e below (T3.setTop (mkF m 138 #[.val (.int x0), .val (.int x1), .val (.long x2), .second, .val (.long x3), .second, .val (.int x4), .val (.int kk), .val (.int bb), .val (.long sd), .second, .val (.long xx), .second, .val (.long yy), .second, .val (.long aa), .second, .val (.long cc), .second, .val (.long (own_cell kk bb xx yy)), .second, .val (.long (own_cell (kk + (1 : Int32)) bb (((2 : Int64) * xx) + aa) (((2 : Int64) * yy) + cc))), .second, .val (.int (1 : Int32)), .unset, .unset, .unset, .unset, .unset, .unset] [(.int bb), (.long (own_cell (0 : Int32) bb (0 : Int64) (0 : Int64)))])) _
    refine XS.i2l X3.here hx rfl (hb hby at_138) rfl ?_
    show Steps p.tables e below (T3.setTop (mkF m 139 #[.val (.int x0), .val (.int x1), .val (.long x2), .second, .val (.long x3), .second, .val (.int x4), .val (.int kk), .val (.int bb), .val (.long sd), .second, .val (.long xx), .second, .val (.long yy), .second, .val (.long aa), .second, .val (.long cc), .second, .val (.long (own_cell kk bb xx yy)), .second, .val (.long (own_cell (kk + (1 : Int32)) bb (((2 : Int64) * xx) + aa) (((2 : Int64) * yy) + cc))), .second, .val (.int (1 : Int32)), .unset, .unset, .unset, .unset, .unset, .unset] [(.long (bb.toInt64)), (.long (own_cell (0 : Int32) bb (0 : Int64) (0 : Int64)))])) _
    refine XS.lcmp X3.here hx rfl (hb hby at_139) rfl ?_
    show Steps p.tables e below (T3.setTop (mkF m 140 #[.val (.int x0), .val (.int x1), .val (.long x2), .second, .val (.long x3), .second, .val (.int x4), .val (.int kk), .val (.int bb), .val (.long sd), .second, .val (.long xx), .second, .val (.long yy), .second, .val (.long aa), .second, .val (.long cc), .second, .val (.long (own_cell kk bb xx yy)), .second, .val (.long (own_cell (kk + (1 : Int32)) bb (((2 : Int64) * xx) + aa) (((2 : Int64) * yy) + cc))), .second, .val (.int (1 : Int32)), .unset, .unset, .unset, .unset, .unset, .unset] [(.int (lcmpW (own_cell (0 : Int32) bb (0 : Int64) (0 : Int64)) (bb.toInt64)))])) _
    refine XS.ifNo X3.here hx rfl (hb hby at_140) rfl ((if0 _ _).trans (teq ((lw_eq _ _).mpr F2)).2) ?_
    show Steps p.tables e below (T3.setTop (mkF m 143 #[.val (.int x0), .val (.int x1), .val (.long x2), .second, .val (.long x3), .second, .val (.int x4), .val (.int kk), .val (.int bb), .val (.long sd), .second, .val (.long xx), .second, .val (.long yy), .second, .val (.long aa), .second, .val (.long cc), .second, .val (.long (own_cell kk bb xx yy)), .second, .val (.long (own_cell (kk + (1 : Int32)) bb (((2 : Int64) * xx) + aa) (((2 : Int64) * yy) + cc))), .second, .val (.int (1 : Int32)), .unset, .unset, .unset, .unset, .unset, .unset] [])) _
    refine XS.iconst X3.here hx rfl (hb hby at_143) ?_
    show Steps p.tables e below (T3.setTop (mkF m 144 #[.val (.int x0), .val (.int x1), .val (.long x2), .second, .val (.long x3), .second, .val (.int x4), .val (.int kk), .val (.int bb), .val (.long sd), .second, .val (.long xx), .second, .val (.long yy), .second, .val (.long aa), .second, .val (.long cc), .second, .val (.long (own_cell kk bb xx yy)), .second, .val (.long (own_cell (kk + (1 : Int32)) bb (((2 : Int64) * xx) + aa) (((2 : Int64) * yy) + cc))), .second, .val (.int (1 : Int32)), .unset, .unset, .unset, .unset, .unset, .unset] [(.int (1 : Int32))])) _
    refine XS.goto X3.here hx rfl (pc0 := 144) (pc' := 148) rfl (hb hby at_144) (by decide) (by decide) ?_
    show Steps p.tables e below (T3.setTop (mkF m 148 #[.val (.int x0), .val (.int x1), .val (.long x2), .second, .val (.long x3), .second, .val (.int x4), .val (.int kk), .val (.int bb), .val (.long sd), .second, .val (.long xx), .second, .val (.long yy), .second, .val (.long aa), .second, .val (.long cc), .second, .val (.long (own_cell kk bb xx yy)), .second, .val (.long (own_cell (kk + (1 : Int32)) bb (((2 : Int64) * xx) + aa) (((2 : Int64) * yy) + cc))), .second, .val (.int (1 : Int32)), .unset, .unset, .unset, .unset, .unset, .unset] [(.int (1 : Int32))])) _
    refine XS.istore X3.here hx rfl (hb hby at_148) rfl (l' := #[.val (.int x0), .val (.int x1), .val (.long x2), .second, .val (.long x3), .second, .val (.int x4), .val (.int kk), .val (.int bb), .val (.long sd), .second, .val (.long xx), .second, .val (.long yy), .second, .val (.long aa), .second, .val (.long cc), .second, .val (.long (own_cell kk bb xx yy)), .second, .val (.long (own_cell (kk + (1 : Int32)) bb (((2 : Int64) * xx) + aa) (((2 : Int64) * yy) + cc))), .second, .val (.int (1 : Int32)), .val (.int (1 : Int32)), .unset, .unset, .unset, .unset, .unset]) rfl ?_
    show Steps p.tables e below (T3.setTop (mkF m 150 #[.val (.int x0), .val (.int x1), .val (.long x2), .second, .val (.long x3), .second, .val (.int x4), .val (.int kk), .val (.int bb), .val (.long sd), .second, .val (.long xx), .second, .val (.long yy), .second, .val (.long aa), .second, .val (.long cc), .second, .val (.long (own_cell kk bb xx yy)), .second, .val (.long (own_cell (kk + (1 : Int32)) bb (((2 : Int64) * xx) + aa) (((2 : Int64) * yy) + cc))), .second, .val (.int (1 : Int32)), .val (.int (1 : Int32)), .unset, .unset, .unset, .unset, .unset] [])) _
    refine XS.iload X3.here hx rfl (hb hby at_150) rfl ?_
    show Steps p.tables e below (T3.setTop (mkF m 152 #[.val (.int x0), .val (.int x1), .val (.long x2), .second, .val (.long x3), .second, .val (.int x4), .val (.int kk), .val (.int bb), .val (.long sd), .second, .val (.long xx), .second, .val (.long yy), .second, .val (.long aa), .second, .val (.long cc), .second, .val (.long (own_cell kk bb xx yy)), .second, .val (.long (own_cell (kk + (1 : Int32)) bb (((2 : Int64) * xx) + aa) (((2 : Int64) * yy) + cc))), .second, .val (.int (1 : Int32)), .val (.int (1 : Int32)), .unset, .unset, .unset, .unset, .unset] [(.int bb)])) _
    refine XS.i2l X3.here hx rfl (hb hby at_152) rfl ?_
    show Steps p.tables e below (T3.setTop (mkF m 153 #[.val (.int x0), .val (.int x1), .val (.long x2), .second, .val (.long x3), .second, .val (.int x4), .val (.int kk), .val (.int bb), .val (.long sd), .second, .val (.long xx), .second, .val (.long yy), .second, .val (.long aa), .second, .val (.long cc), .second, .val (.long (own_cell kk bb xx yy)), .second, .val (.long (own_cell (kk + (1 : Int32)) bb (((2 : Int64) * xx) + aa) (((2 : Int64) * yy) + cc))), .second, .val (.int (1 : Int32)), .val (.int (1 : Int32)), .unset, .unset, .unset, .unset, .unset] [(.long (bb.toInt64))])) _
    refine XS.iconst X3.here hx rfl (hb hby at_153) ?_
    show Steps p.tables e below (T3.setTop (mkF m 154 #[.val (.int x0), .val (.int x1), .val (.long x2), .second, .val (.long x3), .second, .val (.int x4), .val (.int kk), .val (.int bb), .val (.long sd), .second, .val (.long xx), .second, .val (.long yy), .second, .val (.long aa), .second, .val (.long cc), .second, .val (.long (own_cell kk bb xx yy)), .second, .val (.long (own_cell (kk + (1 : Int32)) bb (((2 : Int64) * xx) + aa) (((2 : Int64) * yy) + cc))), .second, .val (.int (1 : Int32)), .val (.int (1 : Int32)), .unset, .unset, .unset, .unset, .unset] [(.int (2 : Int32)), (.long (bb.toInt64))])) _
    refine XS.iload X3.here hx rfl (hb hby at_154) rfl ?_
    show Steps p.tables e below (T3.setTop (mkF m 156 #[.val (.int x0), .val (.int x1), .val (.long x2), .second, .val (.long x3), .second, .val (.int x4), .val (.int kk), .val (.int bb), .val (.long sd), .second, .val (.long xx), .second, .val (.long yy), .second, .val (.long aa), .second, .val (.long cc), .second, .val (.long (own_cell kk bb xx yy)), .second, .val (.long (own_cell (kk + (1 : Int32)) bb (((2 : Int64) * xx) + aa) (((2 : Int64) * yy) + cc))), .second, .val (.int (1 : Int32)), .val (.int (1 : Int32)), .unset, .unset, .unset, .unset, .unset] [(.int kk), (.int (2 : Int32)), (.long (bb.toInt64))])) _
    refine XS.imul X3.here hx rfl (hb hby at_156) rfl ?_
    show Steps p.tables e below (T3.setTop (mkF m 157 #[.val (.int x0), .val (.int x1), .val (.long x2), .second, .val (.long x3), .second, .val (.int x4), .val (.int kk), .val (.int bb), .val (.long sd), .second, .val (.long xx), .second, .val (.long yy), .second, .val (.long aa), .second, .val (.long cc), .second, .val (.long (own_cell kk bb xx yy)), .second, .val (.long (own_cell (kk + (1 : Int32)) bb (((2 : Int64) * xx) + aa) (((2 : Int64) * yy) + cc))), .second, .val (.int (1 : Int32)), .val (.int (1 : Int32)), .unset, .unset, .unset, .unset, .unset] [(.int ((2 : Int32) * kk)), (.long (bb.toInt64))])) _
    refine XS.lshl X3.here hx rfl (hb hby at_157) rfl ?_
    show Steps p.tables e below (T3.setTop (mkF m 158 #[.val (.int x0), .val (.int x1), .val (.long x2), .second, .val (.long x3), .second, .val (.int x4), .val (.int kk), .val (.int bb), .val (.long sd), .second, .val (.long xx), .second, .val (.long yy), .second, .val (.long aa), .second, .val (.long cc), .second, .val (.long (own_cell kk bb xx yy)), .second, .val (.long (own_cell (kk + (1 : Int32)) bb (((2 : Int64) * xx) + aa) (((2 : Int64) * yy) + cc))), .second, .val (.int (1 : Int32)), .val (.int (1 : Int32)), .unset, .unset, .unset, .unset, .unset] [(.long ((bb.toInt64) <<< (((2 : Int32) * kk) &&& 0x3f).toInt64))])) _
    refine XS.lstore X3.here hx rfl (hb hby at_158) rfl (l' := #[.val (.int x0), .val (.int x1), .val (.long x2), .second, .val (.long x3), .second, .val (.int x4), .val (.int kk), .val (.int bb), .val (.long sd), .second, .val (.long xx), .second, .val (.long yy), .second, .val (.long aa), .second, .val (.long cc), .second, .val (.long (own_cell kk bb xx yy)), .second, .val (.long (own_cell (kk + (1 : Int32)) bb (((2 : Int64) * xx) + aa) (((2 : Int64) * yy) + cc))), .second, .val (.int (1 : Int32)), .val (.int (1 : Int32)), .val (.long ((bb.toInt64) <<< (((2 : Int32) * kk) &&& 0x3f).toInt64)), .second, .unset, .unset, .unset]) rfl ?_
    show Steps p.tables e below (T3.setTop (mkF m 160 #[.val (.int x0), .val (.int x1), .val (.long x2), .second, .val (.long x3), .second, .val (.int x4), .val (.int kk), .val (.int bb), .val (.long sd), .second, .val (.long xx), .second, .val (.long yy), .second, .val (.long aa), .second, .val (.long cc), .second, .val (.long (own_cell kk bb xx yy)), .second, .val (.long (own_cell (kk + (1 : Int32)) bb (((2 : Int64) * xx) + aa) (((2 : Int64) * yy) + cc))), .second, .val (.int (1 : Int32)), .val (.int (1 : Int32)), .val (.long ((bb.toInt64) <<< (((2 : Int32) * kk) &&& 0x3f).toInt64)), .second, .unset, .unset, .unset] [])) _
    refine XS.iload X3.here hx rfl (hb hby at_160) rfl ?_
    show Steps p.tables e below (T3.setTop (mkF m 162 #[.val (.int x0), .val (.int x1), .val (.long x2), .second, .val (.long x3), .second, .val (.int x4), .val (.int kk), .val (.int bb), .val (.long sd), .second, .val (.long xx), .second, .val (.long yy), .second, .val (.long aa), .second, .val (.long cc), .second, .val (.long (own_cell kk bb xx yy)), .second, .val (.long (own_cell (kk + (1 : Int32)) bb (((2 : Int64) * xx) + aa) (((2 : Int64) * yy) + cc))), .second, .val (.int (1 : Int32)), .val (.int (1 : Int32)), .val (.long ((bb.toInt64) <<< (((2 : Int32) * kk) &&& 0x3f).toInt64)), .second, .unset, .unset, .unset] [(.int bb)])) _
    refine XS.i2l X3.here hx rfl (hb hby at_162) rfl ?_
    show Steps p.tables e below (T3.setTop (mkF m 163 #[.val (.int x0), .val (.int x1), .val (.long x2), .second, .val (.long x3), .second, .val (.int x4), .val (.int kk), .val (.int bb), .val (.long sd), .second, .val (.long xx), .second, .val (.long yy), .second, .val (.long aa), .second, .val (.long cc), .second, .val (.long (own_cell kk bb xx yy)), .second, .val (.long (own_cell (kk + (1 : Int32)) bb (((2 : Int64) * xx) + aa) (((2 : Int64) * yy) + cc))), .second, .val (.int (1 : Int32)), .val (.int (1 : Int32)), .val (.long ((bb.toInt64) <<< (((2 : Int32) * kk) &&& 0x3f).toInt64)), .second, .unset, .unset, .unset] [(.long (bb.toInt64))])) _
    refine XS.lconst X3.here hx rfl (hb hby at_163) ?_
    show Steps p.tables e below (T3.setTop (mkF m 164 #[.val (.int x0), .val (.int x1), .val (.long x2), .second, .val (.long x3), .second, .val (.int x4), .val (.int kk), .val (.int bb), .val (.long sd), .second, .val (.long xx), .second, .val (.long yy), .second, .val (.long aa), .second, .val (.long cc), .second, .val (.long (own_cell kk bb xx yy)), .second, .val (.long (own_cell (kk + (1 : Int32)) bb (((2 : Int64) * xx) + aa) (((2 : Int64) * yy) + cc))), .second, .val (.int (1 : Int32)), .val (.int (1 : Int32)), .val (.long ((bb.toInt64) <<< (((2 : Int32) * kk) &&& 0x3f).toInt64)), .second, .unset, .unset, .unset] [(.long (1 : Int64)), (.long (bb.toInt64))])) _
    refine XS.ladd X3.here hx rfl (hb hby at_164) rfl ?_
    show Steps p.tables e below (T3.setTop (mkF m 165 #[.val (.int x0), .val (.int x1), .val (.long x2), .second, .val (.long x3), .second, .val (.int x4), .val (.int kk), .val (.int bb), .val (.long sd), .second, .val (.long xx), .second, .val (.long yy), .second, .val (.long aa), .second, .val (.long cc), .second, .val (.long (own_cell kk bb xx yy)), .second, .val (.long (own_cell (kk + (1 : Int32)) bb (((2 : Int64) * xx) + aa) (((2 : Int64) * yy) + cc))), .second, .val (.int (1 : Int32)), .val (.int (1 : Int32)), .val (.long ((bb.toInt64) <<< (((2 : Int32) * kk) &&& 0x3f).toInt64)), .second, .unset, .unset, .unset] [(.long ((bb.toInt64) + (1 : Int64)))])) _
    refine XS.iconst X3.here hx rfl (hb hby at_165) ?_
    show Steps p.tables e below (T3.setTop (mkF m 166 #[.val (.int x0), .val (.int x1), .val (.long x2), .second, .val (.long x3), .second, .val (.int x4), .val (.int kk), .val (.int bb), .val (.long sd), .second, .val (.long xx), .second, .val (.long yy), .second, .val (.long aa), .second, .val (.long cc), .second, .val (.long (own_cell kk bb xx yy)), .second, .val (.long (own_cell (kk + (1 : Int32)) bb (((2 : Int64) * xx) + aa) (((2 : Int64) * yy) + cc))), .second, .val (.int (1 : Int32)), .val (.int (1 : Int32)), .val (.long ((bb.toInt64) <<< (((2 : Int32) * kk) &&& 0x3f).toInt64)), .second, .unset, .unset, .unset] [(.int (2 : Int32)), (.long ((bb.toInt64) + (1 : Int64)))])) _
    refine XS.iload X3.here hx rfl (hb hby at_166) rfl ?_
    show Steps p.tables e below (T3.setTop (mkF m 168 #[.val (.int x0), .val (.int x1), .val (.long x2), .second, .val (.long x3), .second, .val (.int x4), .val (.int kk), .val (.int bb), .val (.long sd), .second, .val (.long xx), .second, .val (.long yy), .second, .val (.long aa), .second, .val (.long cc), .second, .val (.long (own_cell kk bb xx yy)), .second, .val (.long (own_cell (kk + (1 : Int32)) bb (((2 : Int64) * xx) + aa) (((2 : Int64) * yy) + cc))), .second, .val (.int (1 : Int32)), .val (.int (1 : Int32)), .val (.long ((bb.toInt64) <<< (((2 : Int32) * kk) &&& 0x3f).toInt64)), .second, .unset, .unset, .unset] [(.int kk), (.int (2 : Int32)), (.long ((bb.toInt64) + (1 : Int64)))])) _
    refine XS.imul X3.here hx rfl (hb hby at_168) rfl ?_
    show Steps p.tables e below (T3.setTop (mkF m 169 #[.val (.int x0), .val (.int x1), .val (.long x2), .second, .val (.long x3), .second, .val (.int x4), .val (.int kk), .val (.int bb), .val (.long sd), .second, .val (.long xx), .second, .val (.long yy), .second, .val (.long aa), .second, .val (.long cc), .second, .val (.long (own_cell kk bb xx yy)), .second, .val (.long (own_cell (kk + (1 : Int32)) bb (((2 : Int64) * xx) + aa) (((2 : Int64) * yy) + cc))), .second, .val (.int (1 : Int32)), .val (.int (1 : Int32)), .val (.long ((bb.toInt64) <<< (((2 : Int32) * kk) &&& 0x3f).toInt64)), .second, .unset, .unset, .unset] [(.int ((2 : Int32) * kk)), (.long ((bb.toInt64) + (1 : Int64)))])) _
    refine XS.lshl X3.here hx rfl (hb hby at_169) rfl ?_
    show Steps p.tables e below (T3.setTop (mkF m 170 #[.val (.int x0), .val (.int x1), .val (.long x2), .second, .val (.long x3), .second, .val (.int x4), .val (.int kk), .val (.int bb), .val (.long sd), .second, .val (.long xx), .second, .val (.long yy), .second, .val (.long aa), .second, .val (.long cc), .second, .val (.long (own_cell kk bb xx yy)), .second, .val (.long (own_cell (kk + (1 : Int32)) bb (((2 : Int64) * xx) + aa) (((2 : Int64) * yy) + cc))), .second, .val (.int (1 : Int32)), .val (.int (1 : Int32)), .val (.long ((bb.toInt64) <<< (((2 : Int32) * kk) &&& 0x3f).toInt64)), .second, .unset, .unset, .unset] [(.long (((bb.toInt64) + (1 : Int64)) <<< (((2 : Int32) * kk) &&& 0x3f).toInt64))])) _
    refine XS.lstore X3.here hx rfl (hb hby at_170) rfl (l' := #[.val (.int x0), .val (.int x1), .val (.long x2), .second, .val (.long x3), .second, .val (.int x4), .val (.int kk), .val (.int bb), .val (.long sd), .second, .val (.long xx), .second, .val (.long yy), .second, .val (.long aa), .second, .val (.long cc), .second, .val (.long (own_cell kk bb xx yy)), .second, .val (.long (own_cell (kk + (1 : Int32)) bb (((2 : Int64) * xx) + aa) (((2 : Int64) * yy) + cc))), .second, .val (.int (1 : Int32)), .val (.int (1 : Int32)), .val (.long ((bb.toInt64) <<< (((2 : Int32) * kk) &&& 0x3f).toInt64)), .second, .val (.long (((bb.toInt64) + (1 : Int64)) <<< (((2 : Int32) * kk) &&& 0x3f).toInt64)), .second, .unset]) rfl ?_
    show Steps p.tables e below (T3.setTop (mkF m 172 #[.val (.int x0), .val (.int x1), .val (.long x2), .second, .val (.long x3), .second, .val (.int x4), .val (.int kk), .val (.int bb), .val (.long sd), .second, .val (.long xx), .second, .val (.long yy), .second, .val (.long aa), .second, .val (.long cc), .second, .val (.long (own_cell kk bb xx yy)), .second, .val (.long (own_cell (kk + (1 : Int32)) bb (((2 : Int64) * xx) + aa) (((2 : Int64) * yy) + cc))), .second, .val (.int (1 : Int32)), .val (.int (1 : Int32)), .val (.long ((bb.toInt64) <<< (((2 : Int32) * kk) &&& 0x3f).toInt64)), .second, .val (.long (((bb.toInt64) + (1 : Int64)) <<< (((2 : Int32) * kk) &&& 0x3f).toInt64)), .second, .unset] [])) _
    refine XS.lload X3.here hx rfl (hb hby at_172) rfl ?_
    show Steps p.tables e below (T3.setTop (mkF m 174 #[.val (.int x0), .val (.int x1), .val (.long x2), .second, .val (.long x3), .second, .val (.int x4), .val (.int kk), .val (.int bb), .val (.long sd), .second, .val (.long xx), .second, .val (.long yy), .second, .val (.long aa), .second, .val (.long cc), .second, .val (.long (own_cell kk bb xx yy)), .second, .val (.long (own_cell (kk + (1 : Int32)) bb (((2 : Int64) * xx) + aa) (((2 : Int64) * yy) + cc))), .second, .val (.int (1 : Int32)), .val (.int (1 : Int32)), .val (.long ((bb.toInt64) <<< (((2 : Int32) * kk) &&& 0x3f).toInt64)), .second, .val (.long (((bb.toInt64) + (1 : Int64)) <<< (((2 : Int32) * kk) &&& 0x3f).toInt64)), .second, .unset] [(.long (own_cell kk bb xx yy))])) _
    refine XS.lload X3.here hx rfl (hb hby at_174) rfl ?_
    show Steps p.tables e below (T3.setTop (mkF m 176 #[.val (.int x0), .val (.int x1), .val (.long x2), .second, .val (.long x3), .second, .val (.int x4), .val (.int kk), .val (.int bb), .val (.long sd), .second, .val (.long xx), .second, .val (.long yy), .second, .val (.long aa), .second, .val (.long cc), .second, .val (.long (own_cell kk bb xx yy)), .second, .val (.long (own_cell (kk + (1 : Int32)) bb (((2 : Int64) * xx) + aa) (((2 : Int64) * yy) + cc))), .second, .val (.int (1 : Int32)), .val (.int (1 : Int32)), .val (.long ((bb.toInt64) <<< (((2 : Int32) * kk) &&& 0x3f).toInt64)), .second, .val (.long (((bb.toInt64) + (1 : Int64)) <<< (((2 : Int32) * kk) &&& 0x3f).toInt64)), .second, .unset] [(.long ((bb.toInt64) <<< (((2 : Int32) * kk) &&& 0x3f).toInt64)), (.long (own_cell kk bb xx yy))])) _
    refine XS.lcmp X3.here hx rfl (hb hby at_176) rfl ?_
    show Steps p.tables e below (T3.setTop (mkF m 177 #[.val (.int x0), .val (.int x1), .val (.long x2), .second, .val (.long x3), .second, .val (.int x4), .val (.int kk), .val (.int bb), .val (.long sd), .second, .val (.long xx), .second, .val (.long yy), .second, .val (.long aa), .second, .val (.long cc), .second, .val (.long (own_cell kk bb xx yy)), .second, .val (.long (own_cell (kk + (1 : Int32)) bb (((2 : Int64) * xx) + aa) (((2 : Int64) * yy) + cc))), .second, .val (.int (1 : Int32)), .val (.int (1 : Int32)), .val (.long ((bb.toInt64) <<< (((2 : Int32) * kk) &&& 0x3f).toInt64)), .second, .val (.long (((bb.toInt64) + (1 : Int64)) <<< (((2 : Int32) * kk) &&& 0x3f).toInt64)), .second, .unset] [(.int (lcmpW (own_cell kk bb xx yy) ((bb.toInt64) <<< (((2 : Int32) * kk) &&& 0x3f).toInt64)))])) _
    refine XS.ifNo X3.here hx rfl (hb hby at_177) rfl ((if0 _ _).trans (flt (fun q => F3 ((lw_lt _ _).mp q))).1) ?_
    show Steps p.tables e below (T3.setTop (mkF m 180 #[.val (.int x0), .val (.int x1), .val (.long x2), .second, .val (.long x3), .second, .val (.int x4), .val (.int kk), .val (.int bb), .val (.long sd), .second, .val (.long xx), .second, .val (.long yy), .second, .val (.long aa), .second, .val (.long cc), .second, .val (.long (own_cell kk bb xx yy)), .second, .val (.long (own_cell (kk + (1 : Int32)) bb (((2 : Int64) * xx) + aa) (((2 : Int64) * yy) + cc))), .second, .val (.int (1 : Int32)), .val (.int (1 : Int32)), .val (.long ((bb.toInt64) <<< (((2 : Int32) * kk) &&& 0x3f).toInt64)), .second, .val (.long (((bb.toInt64) + (1 : Int64)) <<< (((2 : Int32) * kk) &&& 0x3f).toInt64)), .second, .unset] [])) _
    refine XS.lload X3.here hx rfl (hb hby at_180) rfl ?_
    show Steps p.tables e below (T3.setTop (mkF m 182 #[.val (.int x0), .val (.int x1), .val (.long x2), .second, .val (.long x3), .second, .val (.int x4), .val (.int kk), .val (.int bb), .val (.long sd), .second, .val (.long xx), .second, .val (.long yy), .second, .val (.long aa), .second, .val (.long cc), .second, .val (.long (own_cell kk bb xx yy)), .second, .val (.long (own_cell (kk + (1 : Int32)) bb (((2 : Int64) * xx) + aa) (((2 : Int64) * yy) + cc))), .second, .val (.int (1 : Int32)), .val (.int (1 : Int32)), .val (.long ((bb.toInt64) <<< (((2 : Int32) * kk) &&& 0x3f).toInt64)), .second, .val (.long (((bb.toInt64) + (1 : Int64)) <<< (((2 : Int32) * kk) &&& 0x3f).toInt64)), .second, .unset] [(.long (own_cell kk bb xx yy))])) _
    refine XS.lload X3.here hx rfl (hb hby at_182) rfl ?_
    show Steps p.tables e below (T3.setTop (mkF m 184 #[.val (.int x0), .val (.int x1), .val (.long x2), .second, .val (.long x3), .second, .val (.int x4), .val (.int kk), .val (.int bb), .val (.long sd), .second, .val (.long xx), .second, .val (.long yy), .second, .val (.long aa), .second, .val (.long cc), .second, .val (.long (own_cell kk bb xx yy)), .second, .val (.long (own_cell (kk + (1 : Int32)) bb (((2 : Int64) * xx) + aa) (((2 : Int64) * yy) + cc))), .second, .val (.int (1 : Int32)), .val (.int (1 : Int32)), .val (.long ((bb.toInt64) <<< (((2 : Int32) * kk) &&& 0x3f).toInt64)), .second, .val (.long (((bb.toInt64) + (1 : Int64)) <<< (((2 : Int32) * kk) &&& 0x3f).toInt64)), .second, .unset] [(.long (((bb.toInt64) + (1 : Int64)) <<< (((2 : Int32) * kk) &&& 0x3f).toInt64)), (.long (own_cell kk bb xx yy))])) _
    refine XS.lcmp X3.here hx rfl (hb hby at_184) rfl ?_
    show Steps p.tables e below (T3.setTop (mkF m 185 #[.val (.int x0), .val (.int x1), .val (.long x2), .second, .val (.long x3), .second, .val (.int x4), .val (.int kk), .val (.int bb), .val (.long sd), .second, .val (.long xx), .second, .val (.long yy), .second, .val (.long aa), .second, .val (.long cc), .second, .val (.long (own_cell kk bb xx yy)), .second, .val (.long (own_cell (kk + (1 : Int32)) bb (((2 : Int64) * xx) + aa) (((2 : Int64) * yy) + cc))), .second, .val (.int (1 : Int32)), .val (.int (1 : Int32)), .val (.long ((bb.toInt64) <<< (((2 : Int32) * kk) &&& 0x3f).toInt64)), .second, .val (.long (((bb.toInt64) + (1 : Int64)) <<< (((2 : Int32) * kk) &&& 0x3f).toInt64)), .second, .unset] [(.int (lcmpW (own_cell kk bb xx yy) (((bb.toInt64) + (1 : Int64)) <<< (((2 : Int32) * kk) &&& 0x3f).toInt64)))])) _
    refine XS.ifNo X3.here hx rfl (hb hby at_185) rfl ((if0 _ _).trans (tlt ((lw_lt _ _).mpr F4)).2.1) ?_
    show Steps p.tables e below (T3.setTop (mkF m 188 #[.val (.int x0), .val (.int x1), .val (.long x2), .second, .val (.long x3), .second, .val (.int x4), .val (.int kk), .val (.int bb), .val (.long sd), .second, .val (.long xx), .second, .val (.long yy), .second, .val (.long aa), .second, .val (.long cc), .second, .val (.long (own_cell kk bb xx yy)), .second, .val (.long (own_cell (kk + (1 : Int32)) bb (((2 : Int64) * xx) + aa) (((2 : Int64) * yy) + cc))), .second, .val (.int (1 : Int32)), .val (.int (1 : Int32)), .val (.long ((bb.toInt64) <<< (((2 : Int32) * kk) &&& 0x3f).toInt64)), .second, .val (.long (((bb.toInt64) + (1 : Int64)) <<< (((2 : Int32) * kk) &&& 0x3f).toInt64)), .second, .unset] [])) _
    refine XS.iconst X3.here hx rfl (hb hby at_188) ?_
    show Steps p.tables e below (T3.setTop (mkF m 189 #[.val (.int x0), .val (.int x1), .val (.long x2), .second, .val (.long x3), .second, .val (.int x4), .val (.int kk), .val (.int bb), .val (.long sd), .second, .val (.long xx), .second, .val (.long yy), .second, .val (.long aa), .second, .val (.long cc), .second, .val (.long (own_cell kk bb xx yy)), .second, .val (.long (own_cell (kk + (1 : Int32)) bb (((2 : Int64) * xx) + aa) (((2 : Int64) * yy) + cc))), .second, .val (.int (1 : Int32)), .val (.int (1 : Int32)), .val (.long ((bb.toInt64) <<< (((2 : Int32) * kk) &&& 0x3f).toInt64)), .second, .val (.long (((bb.toInt64) + (1 : Int64)) <<< (((2 : Int32) * kk) &&& 0x3f).toInt64)), .second, .unset] [(.int (1 : Int32))])) _
    refine XS.goto X3.here hx rfl (pc0 := 189) (pc' := 193) rfl (hb hby at_189) (by decide) (by decide) ?_
    show Steps p.tables e below (T3.setTop (mkF m 193 #[.val (.int x0), .val (.int x1), .val (.long x2), .second, .val (.long x3), .second, .val (.int x4), .val (.int kk), .val (.int bb), .val (.long sd), .second, .val (.long xx), .second, .val (.long yy), .second, .val (.long aa), .second, .val (.long cc), .second, .val (.long (own_cell kk bb xx yy)), .second, .val (.long (own_cell (kk + (1 : Int32)) bb (((2 : Int64) * xx) + aa) (((2 : Int64) * yy) + cc))), .second, .val (.int (1 : Int32)), .val (.int (1 : Int32)), .val (.long ((bb.toInt64) <<< (((2 : Int32) * kk) &&& 0x3f).toInt64)), .second, .val (.long (((bb.toInt64) + (1 : Int64)) <<< (((2 : Int32) * kk) &&& 0x3f).toInt64)), .second, .unset] [(.int (1 : Int32))])) _
    refine XS.istore X3.here hx rfl (hb hby at_193) rfl (l' := #[.val (.int x0), .val (.int x1), .val (.long x2), .second, .val (.long x3), .second, .val (.int x4), .val (.int kk), .val (.int bb), .val (.long sd), .second, .val (.long xx), .second, .val (.long yy), .second, .val (.long aa), .second, .val (.long cc), .second, .val (.long (own_cell kk bb xx yy)), .second, .val (.long (own_cell (kk + (1 : Int32)) bb (((2 : Int64) * xx) + aa) (((2 : Int64) * yy) + cc))), .second, .val (.int (1 : Int32)), .val (.int (1 : Int32)), .val (.long ((bb.toInt64) <<< (((2 : Int32) * kk) &&& 0x3f).toInt64)), .second, .val (.long (((bb.toInt64) + (1 : Int64)) <<< (((2 : Int32) * kk) &&& 0x3f).toInt64)), .second, .val (.int (1 : Int32))]) rfl ?_
    show Steps p.tables e below (T3.setTop (mkF m 195 #[.val (.int x0), .val (.int x1), .val (.long x2), .second, .val (.long x3), .second, .val (.int x4), .val (.int kk), .val (.int bb), .val (.long sd), .second, .val (.long xx), .second, .val (.long yy), .second, .val (.long aa), .second, .val (.long cc), .second, .val (.long (own_cell kk bb xx yy)), .second, .val (.long (own_cell (kk + (1 : Int32)) bb (((2 : Int64) * xx) + aa) (((2 : Int64) * yy) + cc))), .second, .val (.int (1 : Int32)), .val (.int (1 : Int32)), .val (.long ((bb.toInt64) <<< (((2 : Int32) * kk) &&& 0x3f).toInt64)), .second, .val (.long (((bb.toInt64) + (1 : Int64)) <<< (((2 : Int32) * kk) &&& 0x3f).toInt64)), .second, .val (.int (1 : Int32))] [])) _
    refine XS.iload X3.here hx rfl (hb hby at_195) rfl ?_
    show Steps p.tables e below (T3.setTop (mkF m 197 #[.val (.int x0), .val (.int x1), .val (.long x2), .second, .val (.long x3), .second, .val (.int x4), .val (.int kk), .val (.int bb), .val (.long sd), .second, .val (.long xx), .second, .val (.long yy), .second, .val (.long aa), .second, .val (.long cc), .second, .val (.long (own_cell kk bb xx yy)), .second, .val (.long (own_cell (kk + (1 : Int32)) bb (((2 : Int64) * xx) + aa) (((2 : Int64) * yy) + cc))), .second, .val (.int (1 : Int32)), .val (.int (1 : Int32)), .val (.long ((bb.toInt64) <<< (((2 : Int32) * kk) &&& 0x3f).toInt64)), .second, .val (.long (((bb.toInt64) + (1 : Int64)) <<< (((2 : Int32) * kk) &&& 0x3f).toInt64)), .second, .val (.int (1 : Int32))] [(.int (1 : Int32))])) _
    refine XS.ifNo X3.here hx rfl (hb hby at_197) rfl ((if0 _ _).trans (feq (by decide)).1) ?_
    show Steps p.tables e below (T3.setTop (mkF m 200 #[.val (.int x0), .val (.int x1), .val (.long x2), .second, .val (.long x3), .second, .val (.int x4), .val (.int kk), .val (.int bb), .val (.long sd), .second, .val (.long xx), .second, .val (.long yy), .second, .val (.long aa), .second, .val (.long cc), .second, .val (.long (own_cell kk bb xx yy)), .second, .val (.long (own_cell (kk + (1 : Int32)) bb (((2 : Int64) * xx) + aa) (((2 : Int64) * yy) + cc))), .second, .val (.int (1 : Int32)), .val (.int (1 : Int32)), .val (.long ((bb.toInt64) <<< (((2 : Int32) * kk) &&& 0x3f).toInt64)), .second, .val (.long (((bb.toInt64) + (1 : Int64)) <<< (((2 : Int32) * kk) &&& 0x3f).toInt64)), .second, .val (.int (1 : Int32))] [])) _
    refine XS.iload X3.here hx rfl (hb hby at_200) rfl ?_
    show Steps p.tables e below (T3.setTop (mkF m 202 #[.val (.int x0), .val (.int x1), .val (.long x2), .second, .val (.long x3), .second, .val (.int x4), .val (.int kk), .val (.int bb), .val (.long sd), .second, .val (.long xx), .second, .val (.long yy), .second, .val (.long aa), .second, .val (.long cc), .second, .val (.long (own_cell kk bb xx yy)), .second, .val (.long (own_cell (kk + (1 : Int32)) bb (((2 : Int64) * xx) + aa) (((2 : Int64) * yy) + cc))), .second, .val (.int (1 : Int32)), .val (.int (1 : Int32)), .val (.long ((bb.toInt64) <<< (((2 : Int32) * kk) &&& 0x3f).toInt64)), .second, .val (.long (((bb.toInt64) + (1 : Int64)) <<< (((2 : Int32) * kk) &&& 0x3f).toInt64)), .second, .val (.int (1 : Int32))] [(.int (1 : Int32))])) _
    refine XS.ifNo X3.here hx rfl (hb hby at_202) rfl ((if0 _ _).trans (feq (by decide)).1) ?_
    show Steps p.tables e below (T3.setTop (mkF m 205 #[.val (.int x0), .val (.int x1), .val (.long x2), .second, .val (.long x3), .second, .val (.int x4), .val (.int kk), .val (.int bb), .val (.long sd), .second, .val (.long xx), .second, .val (.long yy), .second, .val (.long aa), .second, .val (.long cc), .second, .val (.long (own_cell kk bb xx yy)), .second, .val (.long (own_cell (kk + (1 : Int32)) bb (((2 : Int64) * xx) + aa) (((2 : Int64) * yy) + cc))), .second, .val (.int (1 : Int32)), .val (.int (1 : Int32)), .val (.long ((bb.toInt64) <<< (((2 : Int32) * kk) &&& 0x3f).toInt64)), .second, .val (.long (((bb.toInt64) + (1 : Int64)) <<< (((2 : Int32) * kk) &&& 0x3f).toInt64)), .second, .val (.int (1 : Int32))] [])) _
    refine XS.iload X3.here hx rfl (hb hby at_205) rfl ?_
    show Steps p.tables e below (T3.setTop (mkF m 207 #[.val (.int x0), .val (.int x1), .val (.long x2), .second, .val (.long x3), .second, .val (.int x4), .val (.int kk), .val (.int bb), .val (.long sd), .second, .val (.long xx), .second, .val (.long yy), .second, .val (.long aa), .second, .val (.long cc), .second, .val (.long (own_cell kk bb xx yy)), .second, .val (.long (own_cell (kk + (1 : Int32)) bb (((2 : Int64) * xx) + aa) (((2 : Int64) * yy) + cc))), .second, .val (.int (1 : Int32)), .val (.int (1 : Int32)), .val (.long ((bb.toInt64) <<< (((2 : Int32) * kk) &&& 0x3f).toInt64)), .second, .val (.long (((bb.toInt64) + (1 : Int64)) <<< (((2 : Int32) * kk) &&& 0x3f).toInt64)), .second, .val (.int (1 : Int32))] [(.int (1 : Int32))])) _
    refine XS.ifNo X3.here hx rfl (hb hby at_207) rfl ((if0 _ _).trans (feq (by decide)).1) ?_
    show Steps p.tables e below (T3.setTop (mkF m 210 #[.val (.int x0), .val (.int x1), .val (.long x2), .second, .val (.long x3), .second, .val (.int x4), .val (.int kk), .val (.int bb), .val (.long sd), .second, .val (.long xx), .second, .val (.long yy), .second, .val (.long aa), .second, .val (.long cc), .second, .val (.long (own_cell kk bb xx yy)), .second, .val (.long (own_cell (kk + (1 : Int32)) bb (((2 : Int64) * xx) + aa) (((2 : Int64) * yy) + cc))), .second, .val (.int (1 : Int32)), .val (.int (1 : Int32)), .val (.long ((bb.toInt64) <<< (((2 : Int32) * kk) &&& 0x3f).toInt64)), .second, .val (.long (((bb.toInt64) + (1 : Int64)) <<< (((2 : Int32) * kk) &&& 0x3f).toInt64)), .second, .val (.int (1 : Int32))] [])) _
    refine XS.iconst X3.here hx rfl (hb hby at_210) ?_
    show Steps p.tables e below (T3.setTop (mkF m 211 #[.val (.int x0), .val (.int x1), .val (.long x2), .second, .val (.long x3), .second, .val (.int x4), .val (.int kk), .val (.int bb), .val (.long sd), .second, .val (.long xx), .second, .val (.long yy), .second, .val (.long aa), .second, .val (.long cc), .second, .val (.long (own_cell kk bb xx yy)), .second, .val (.long (own_cell (kk + (1 : Int32)) bb (((2 : Int64) * xx) + aa) (((2 : Int64) * yy) + cc))), .second, .val (.int (1 : Int32)), .val (.int (1 : Int32)), .val (.long ((bb.toInt64) <<< (((2 : Int32) * kk) &&& 0x3f).toInt64)), .second, .val (.long (((bb.toInt64) + (1 : Int64)) <<< (((2 : Int32) * kk) &&& 0x3f).toInt64)), .second, .val (.int (1 : Int32))] [(.int (1 : Int32))])) _
    refine XS.goto X3.here hx rfl (pc0 := 211) (pc' := 215) rfl (hb hby at_211) (by decide) (by decide) ?_
    show Steps p.tables e below (T3.setTop (mkF m 215 #[.val (.int x0), .val (.int x1), .val (.long x2), .second, .val (.long x3), .second, .val (.int x4), .val (.int kk), .val (.int bb), .val (.long sd), .second, .val (.long xx), .second, .val (.long yy), .second, .val (.long aa), .second, .val (.long cc), .second, .val (.long (own_cell kk bb xx yy)), .second, .val (.long (own_cell (kk + (1 : Int32)) bb (((2 : Int64) * xx) + aa) (((2 : Int64) * yy) + cc))), .second, .val (.int (1 : Int32)), .val (.int (1 : Int32)), .val (.long ((bb.toInt64) <<< (((2 : Int32) * kk) &&& 0x3f).toInt64)), .second, .val (.long (((bb.toInt64) + (1 : Int64)) <<< (((2 : Int32) * kk) &&& 0x3f).toInt64)), .second, .val (.int (1 : Int32))] [(.int (1 : Int32))])) _
    exact retN X3 hx (t := .boolean) Bd.returns (by simp) (hb hby at_215) hr
  · exact ⟨rfl, N3⟩
set_option maxRecDepth 65536 in
set_option maxHeartbeats 40000000 in
theorem comes_1 {Post : Tables → Env → Array Value → State → Outcome → State → Prop} (hpost : ∀ tb e args s v u, (limb_1_1.after args s (.returned v) u = true ∧ limb_1_2.after args s (.returned v) u = true ∧ True) → FrameEnd s (.returned v) u (Jvm.fieldLocs frame_1_writes args s ++ Jvm.arrayLocs frame_1_arrays args s ++ Jvm.staticLocs frame_1_statics s) 0 0 → Post tb e args s (.returned v) u) :
    ArmFor flags0 classFile x code maxLocals ret World_1 tables_1 room_1 Calls_1 rest_1 Pre_1 Post := by
  intro l hfl _ _ p e ha hc hk s m args below hf hA hF happ hP
  obtain ⟨hcalls, hrest, hpre⟩ := hP
  obtain ⟨-, -, -, hnamed, -, -, -, hat⟩ := (Spec.applies_iff hf).mp happ
  obtain ⟨hg, hn⟩ := and_e (Cond.before_iff.mp (show (Jvm.Cond.and given_1 narrow_1).before args s = true from hpre))
  obtain ⟨g1, g2⟩ := and_e hg
  obtain ⟨g3, g4⟩ := and_e g2
  obtain ⟨g5, g6⟩ := and_e g4
  obtain ⟨g7, g8⟩ := and_e g6
  obtain ⟨g9, g10⟩ := and_e g8
  obtain ⟨w0, w1, w2, w3, w4, rfl⟩ : ∃ w0 w1 w2 w3 w4 : Value, args = #[w0, w1, w2, w3, w4] := by
    have hs : args.size = 5 := by simpa [Cond.value, given_1] using g1
    obtain ⟨L⟩ := args
    match L, hs with
    | [w0, w1, w2, w3, w4], _ => exact ⟨w0, w1, w2, w3, w4, rfl⟩
  have hw := fun d (hd : d ∈ tables_1) => atoms_spec (ws := Jvm.Cond.code x code maxLocals ret :: tables_1) hat d (List.mem_cons_of_mem _ hd)
  have hfit : Fit s := fun {y c} hc i hi => by
    obtain ⟨ha, rfl⟩ := Array.getElem?_eq_some_iff.mp hc
    have q := List.all_eq_true.mp ((Array.all_eq_true_iff_forall_mem.mp hF) _ (Array.getElem_mem ha)) i (List.mem_range.mpr hi)
    simpa [Array.getElem?_eq_getElem hi] using q
  obtain ⟨i0, ei0⟩ := is_v g3
  obtain rfl : w0 = (.int i0) := Option.some.inj ei0
  obtain ⟨i1, ei1⟩ := is_v g5
  obtain rfl : w1 = (.int i1) := Option.some.inj ei1
  obtain ⟨i2, ei2⟩ := isL_v g7
  obtain rfl : w2 = (.long i2) := Option.some.inj ei2
  obtain ⟨i3, ei3⟩ := isL_v g9
  obtain rfl : w3 = (.long i3) := Option.some.inj ei3
  obtain ⟨i4, ei4⟩ := is_v g10
  obtain rfl : w4 = (.int i4) := Option.some.inj ei4
  obtain ⟨n, o, h1, h2, h3, _, L, rfl, ⟨rfl, N⟩, hq⟩ := rm0 l s _ hw tables_1 i0 i1 i2 i3 i4  s.heap s.heap.size (Nat.le_refl _)  p e ha hc hk s m _ below hf ((Spec.applies_iff_loose hf).mp happ).1 ⟨rfl, State.Warmed39.refl s, rfl⟩ trivial
  refine ⟨n, _, h1, h2, h3, hpost _ _ _ _ _ _ ⟨Cond.after_iff.mpr rfl, Cond.after_iff.mpr (eq_i res_at (Term.int_eval (1)) rfl), trivial⟩ ⟨hq.1, hq.2.1, (hq.2.2.sift fun y hy => Or.inr (N y hy)).mono (by decide) (by decide)⟩⟩
theorem main_1_1 : Claimed_1_1 := comes_1 fun _ _ _ _ _ _ h hF => ⟨h.1, hF⟩
theorem main_1_2 : Claimed_1_2 := comes_1 fun _ _ _ _ _ _ h hF => ⟨h.2.1, hF⟩
end Jvm.Pilot.@@N@@
namespace Jvm.Pilot.@@N@@
open Jvm Jvm.ClassFile Sem Op Lib Jvm.Free Jvm.Stand Jvm.Pilot.@@N@@.Jvm.D
/-! MADE BY PROGRAM (witnessworld.py) out of the Statement's table words and the real class files: 9 classes; the members and pool entries that the words name. The judged class is class 1, her method 1. -/
namespace start1
open Jvm.ClassFile
def u (s : String) : CpInfo := .utf8 (stringToUtf16 s)
/-- a pool by its gaps: so many unusable entries, then the entry; so many at the end -/
def gap : Nat → List CpInfo → List CpInfo
  | 0, r => r
  | n + 1, r => .unusable :: gap n r
def poolList (es : List (Nat × CpInfo)) (last : Nat) : List CpInfo := es.foldr (fun e r => gap e.1 (e.2 :: r)) (gap last [])
def pool (es : List (Nat × CpInfo)) (last : Nat) : Array CpInfo := ⟨poolList es last⟩
def fileOf (pool : Array CpInfo) (this : Nat) (attrs : Array Attribute := #[]) (ms : Array MethodInfo := #[]) (fl : Nat := 33) (sup : Nat := 0) (ifs : Array Nat := #[]) (fds : Array FieldInfo := #[]) : ClassFile where
  minorVersion := 0
  majorVersion := 65
  constantPool := pool
  accessFlags := fl
  thisClass := this
  superClass := sup
  interfaces := ifs
  fields := fds
  methods := ms
  attributes := attrs
def plain (name : String) (sup : Option ClassId) : Class where
  name := name
  kind := .ordinary
  loader := none
  accessFlags := 33
  super := sup
  interfaces := #[]
  cf := none
  fields := #[]
  methods := #[]
  instanceTypes := #[]
  staticTypes := #[]
  resolved := #[]
  callSites := []
  init := .initialized
  statics := none
  mirror := none

def pool0 : Array CpInfo := pool [(5, u "<init>"), (0, u "()V"), (1, .class_ 10), (1, u "java/lang/Object")] 113

def k0m0 : Method := { name := "<init>", desc := "()V", sig := { parameters := [], returnType := none }, accessFlags := 1, code := none }
/-- java/lang/Object -/
def k0 : Class := { plain "java/lang/Object" none with
  accessFlags := 33
  interfaces := #[]
  cf := some (fileOf pool0 8 #[] #[{ accessFlags := 1, nameIndex := 5, descriptorIndex := 6, attributes := #[] }] 33 0 #[] #[])
  fields := #[]
  methods := #[k0m0]
  instanceTypes := #[]
  staticTypes := #[]
  resolved := Array.replicate 124 none
  statics := none }

def pool1 : Array CpInfo := pool [(2, .class_ 4), (1, u "java/lang/Object"), (0, u "<init>"), (0, u "()V"), (0, .integer 2147483647), (0, .methodref 9 10), (0, .class_ 11), (0, .nameAndType 12 13), (0, u "com/example/skylattice/skylattice/healpix/Healpix"), (0, u "cellIndex"), (0, u "(IIJJ)J"), (0, .long 2), (1, .long 4), (1, .class_ 19), (0, u "com/example/skylattice/skylattice/healpix/HealpixCellIndexPinLaw"), (2, u "law"), (0, u "(IIJJI)Z")] 3

def k1m0 : Method := { name := "<init>", desc := "()V", sig := { parameters := [], returnType := none }, accessFlags := 2, code := none }
def k1c1 : Code := { maxStack := 8, maxLocals := 30, code := code, exceptionTable := #[], attributes := #[] }
def k1m1 : Method := { name := "law", desc := "(IIJJI)Z", sig := { parameters := [.int, .int, .long, .long, .int], returnType := some .boolean }, accessFlags := 9, code := some k1c1 }
/-- com/example/skylattice/skylattice/healpix/HealpixCellIndexPinLaw -/
def k1 : Class := { plain "com/example/skylattice/skylattice/healpix/HealpixCellIndexPinLaw" (some 0) with
  accessFlags := 49
  interfaces := #[]
  cf := some (fileOf pool1 18 #[] #[{ accessFlags := 2, nameIndex := 5, descriptorIndex := 6, attributes := #[] }, { accessFlags := 9, nameIndex := 22, descriptorIndex := 23, attributes := #[] }] 49 2 #[] #[])
  fields := #[]
  methods := #[k1m0, k1m1]
  instanceTypes := #[]
  staticTypes := #[]
  resolved := Array.replicate 27 none
  statics := none }

def pool2 : Array CpInfo := pool [(2, .class_ 4), (1, u "java/lang/Object"), (0, u "<init>"), (0, u "()V"), (0, .class_ 8), (0, u "com/example/skylattice/skylattice/healpix/Healpix"), (59, u "cellIndex"), (0, u "(IIJJ)J"), (0, .methodref 7 71), (0, .nameAndType 72 73), (0, u "spreadBits"), (0, u "(J)J"), (23, .long 4294967295), (1, .long 281470681808895), (1, .long 71777214294589695), (1, .long 1085102592571150095), (1, .long 3689348814741910323), (1, .long 6148914691236517205), (1, u "MAX_ORDER"), (0, u "I"), (2, u "FACE_STRETCH"), (0, u "D"), (2, u "BELT_EDGE_Z")] 28

def k2m0 : Method := { name := "<init>", desc := "()V", sig := { parameters := [], returnType := none }, accessFlags := 2, code := none }
def k2c1 : Code := { maxStack := 5, maxLocals := 6, code := prog_37_method_3_code, exceptionTable := #[], attributes := #[] }
def k2m1 : Method := { name := "cellIndex", desc := "(IIJJ)J", sig := { parameters := [.int, .int, .long, .long], returnType := some .long }, accessFlags := 9, code := some k2c1 }
def k2c2 : Code := { maxStack := 5, maxLocals := 4, code := prog_37_method_7_code, exceptionTable := #[], attributes := #[] }
def k2m2 : Method := { name := "spreadBits", desc := "(J)J", sig := { parameters := [.long], returnType := some .long }, accessFlags := 10, code := some k2c2 }
/-- com/example/skylattice/skylattice/healpix/Healpix -/
def k2 : Class := { plain "com/example/skylattice/skylattice/healpix/Healpix" (some 0) with
  accessFlags := 49
  interfaces := #[]
  cf := some (fileOf pool2 7 #[] #[{ accessFlags := 2, nameIndex := 5, descriptorIndex := 6, attributes := #[] }, { accessFlags := 9, nameIndex := 68, descriptorIndex := 69, attributes := #[] }, { accessFlags := 10, nameIndex := 72, descriptorIndex := 73, attributes := #[] }] 49 2 #[] #[{ accessFlags := 25, nameIndex := 109, descriptorIndex := 110, attributes := #[] }, { accessFlags := 25, nameIndex := 113, descriptorIndex := 114, attributes := #[] }, { accessFlags := 26, nameIndex := 117, descriptorIndex := 114, attributes := #[] }])
  fields := #[{ name := "MAX_ORDER", type := .int, accessFlags := 25, slot := 0, constantValue := 0 }, { name := "FACE_STRETCH", type := .double, accessFlags := 25, slot := 1, constantValue := 0 }, { name := "BELT_EDGE_Z", type := .double, accessFlags := 26, slot := 2, constantValue := 0 }]
  methods := #[k2m0, k2m1, k2m2]
  instanceTypes := #[]
  staticTypes := #[.int, .double, .double]
  resolved := Array.replicate 146 none
  statics := none }

def pool3 : Array CpInfo := pool [(1, u "java/lang/Cloneable"), (0, .class_ 1), (0, u "java/lang/Object"), (0, .class_ 3)] 3

/-- java/lang/Cloneable -/
def k3 : Class := { plain "java/lang/Cloneable" (some 0) with
  accessFlags := 1537
  interfaces := #[]
  cf := some (fileOf pool3 2 #[] #[] 1537 4 #[] #[])
  fields := #[]
  methods := #[]
  instanceTypes := #[]
  staticTypes := #[]
  resolved := Array.replicate 8 none
  statics := none }

def pool4 : Array CpInfo := pool [(1, u "java/io/Serializable"), (0, .class_ 1), (0, u "java/lang/Object"), (0, .class_ 3)] 3

/-- java/io/Serializable -/
def k4 : Class := { plain "java/io/Serializable" (some 0) with
  accessFlags := 1537
  interfaces := #[]
  cf := some (fileOf pool4 2 #[] #[] 1537 4 #[] #[])
  fields := #[]
  methods := #[]
  instanceTypes := #[]
  staticTypes := #[]
  resolved := Array.replicate 8 none
  statics := none }

/-- the primitive byte -/
def k5 : Class := { plain "byte" none with kind := .primitive 'B', accessFlags := 0x411 }
/-- [B -/
def k6 : Class := { plain "[B" (some 0) with kind := .array 5 .byte, interfaces := #[3, 4], accessFlags := 1041 }

/-- the primitive int -/
def k7 : Class := { plain "int" none with kind := .primitive 'I', accessFlags := 0x411 }
/-- [I -/
def k8 : Class := { plain "[I" (some 0) with kind := .array 7 .int, interfaces := #[3, 4], accessFlags := 1041 }

def heap : Heap := #[]
def classes : Array Class := #[k0, k1, k2, k3, k4, k5, k6, k7, k8]
def interned : List (Array UInt16 × Addr) := []
def slotsUsed : Nat := 0
def theMethod : MethodId := ⟨1, 1⟩
def args0 : Array Value := #[.int 3, .int 2, .long 5, .long 6, .int 3]
def aboutOver (below : List Frame) : State where
  vm := { classes := classes, interned := interned.toArray }
  heap := heap
  slotsUsed := slotsUsed
  threads := #[{ frames := .invoking theMethod args0 :: below }]
def below0 : List Frame := [.native { method := ⟨0, 0⟩, args := #[] }]
def about1 : State := aboutOver below0
def p0 : Program := .bare "" "" ""
def e0 : Env := launch0.env 0 0 0
theorem w_frames : about1.frames = Frame.invoking theMethod args0 :: below0 := rfl
set_option maxRecDepth 65536 in
theorem w_args : argsFit about1.vm theMethod args0 = true := by decide +kernel
set_option maxRecDepth 65536 in
theorem w_heap : heapFits about1 = true := by decide +kernel
set_option maxRecDepth 65536 in
theorem w_runnable : about1.curStatus? = some .runnable := by decide +kernel
set_option maxRecDepth 65536 in
theorem w_alone : about1.alone = true := by decide +kernel
set_option maxRecDepth 65536 in
theorem w_named : about1.methodNamed? x = some theMethod := by decide +kernel
set_option maxRecDepth 65536 in
theorem w_hears : about1.hears theMethod below0 = true := by decide +kernel
set_option maxRecDepth 65536 in
theorem w_ripe : about1.ripe theMethod args0 below0 = true := by decide +kernel
theorem w_running : about1.status = .running := rfl
set_option maxRecDepth 65536 in
theorem w_room : about1.hasRoom e0.platform room_1 = true :=
  launch0.hasRoom_least _ room_1 (by decide +kernel) (by decide +kernel) (by decide +kernel) (by decide +kernel) (by decide +kernel) (by decide +kernel)
theorem allAtoms_all (ts : List Jvm.Cond) (a : Array Jvm.Value) (st : Jvm.State) : (allAtoms ts).before a st = ts.all (fun c => c.before a st) := by
  induction ts with
  | nil => rfl
  | cons c t ih =>
    show (Jvm.Cond.and c (allAtoms t)).before a st = _
    rw [Jvm.Cond.before_and, ih, List.all_cons]
def words1 : List Jvm.Cond := Jvm.Cond.code x code maxLocals ret :: tables_1
/-- a 'code' word, met by the world's own term for the bytes: nothing is compared byte by byte -/
theorem code_word {y : MethodName} {bytes : ByteArray} {mx : Nat} {rt : Option FieldType} {a : Array Value} {s : State} {m : MethodId} {meth : Method} {c : Code} (h1 : s.methodNamed? y = some m) (h2 : s.vm.method? m = some meth) (h3 : meth.code = some c) (h4 : c.code = bytes)
    (h5 : (c.maxLocals == mx && c.exceptionTable.isEmpty && decide (c.maxStack ≤ mostOperands) && decide (meth.sig.returnType = rt) && !meth.locks && decide (parseMethodDescriptor y.desc = some meth.sig)) = true) : (Jvm.Cond.code y bytes mx rt).before a s = true := by
  simp only [Bool.and_eq_true, beq_iff_eq, Bool.not_eq_true', decide_eq_true_eq] at h5
  obtain ⟨⟨⟨⟨⟨g1, g2⟩, g3⟩, g4⟩, g5⟩, g6⟩ := h5
  simp [Cond.before, Cond.holds, Cond.value, h1, h2, h3, h4, g1, g2, g3, g4, g5, g6]
def isCode : Jvm.Cond → Bool
  | .code _ _ _ _ => true
  | _ => false
theorem all_split {L : List Jvm.Cond} {P : Jvm.Cond → Bool} (h1 : L.all (fun c => isCode c || P c) = true) (h2 : ∀ c ∈ L.filter isCode, P c = true) : L.all P = true := by
  refine List.all_eq_true.mpr fun c hc => ?_
  have h := List.all_eq_true.mp h1 c hc
  rcases Bool.eq_false_or_eq_true (isCode c) with hi | hi
  · exact h2 c (List.mem_filter.mpr ⟨hc, hi⟩)
  · simpa [hi] using h
set_option maxRecDepth 65536 in
theorem w_c0 : (Jvm.Cond.code x code maxLocals ret).before args0 about1 = true := code_word (m := ⟨1, 1⟩) (meth := k1m1) (c := k1c1) (by decide +kernel) rfl rfl rfl (by decide +kernel)
set_option maxRecDepth 65536 in
theorem w_c1 : (Jvm.Cond.code ({ cls := "com/example/skylattice/skylattice/healpix/Healpix", name := "cellIndex", desc := "(IIJJ)J" } : Jvm.MethodName) prog_37_method_3_code (6 : Nat) (Option.some Jvm.ClassFile.FieldType.long)).before args0 about1 = true := code_word (m := ⟨2, 1⟩) (meth := k2m1) (c := k2c1) (by decide +kernel) rfl rfl rfl (by decide +kernel)
set_option maxRecDepth 65536 in
theorem w_c2 : (Jvm.Cond.code ({ cls := "com/example/skylattice/skylattice/healpix/Healpix", name := "spreadBits", desc := "(J)J" } : Jvm.MethodName) prog_37_method_7_code (4 : Nat) (Option.some Jvm.ClassFile.FieldType.long)).before args0 about1 = true := code_word (m := ⟨2, 2⟩) (meth := k2m2) (c := k2c2) (by decide +kernel) rfl rfl rfl (by decide +kernel)
def codes1 : List Jvm.Cond := [Jvm.Cond.code x code maxLocals ret, Jvm.Cond.code ({ cls := "com/example/skylattice/skylattice/healpix/Healpix", name := "cellIndex", desc := "(IIJJ)J" } : Jvm.MethodName) prog_37_method_3_code (6 : Nat) (Option.some Jvm.ClassFile.FieldType.long), Jvm.Cond.code ({ cls := "com/example/skylattice/skylattice/healpix/Healpix", name := "spreadBits", desc := "(J)J" } : Jvm.MethodName) prog_37_method_7_code (4 : Nat) (Option.some Jvm.ClassFile.FieldType.long)]
set_option maxRecDepth 65536 in
theorem codes_eq : words1.filter isCode = codes1 := rfl
theorem w_codes : ∀ c ∈ words1.filter isCode, c.before args0 about1 = true := by
  rw [codes_eq]
  intro c hc
  simp only [codes1, List.mem_cons, List.not_mem_nil, or_false] at hc
  rcases hc with rfl | rfl | rfl
  · exact w_c0
  · exact w_c1
  · exact w_c2
set_option maxRecDepth 65536 in
theorem w_t1 : words1.all (fun c => isCode c || c.before args0 about1) = true := by decide +kernel
theorem w_tables : (allAtoms (Jvm.Cond.code x code maxLocals ret :: tables_1)).before args0 about1 = true := by
  rw [allAtoms_all]
  show words1.all (fun c => c.before args0 about1) = true
  refine all_split ?_ w_codes
  rw [w_t1]
set_option maxRecDepth 65536 in
theorem w_case : (Jvm.Cond.and given_1 narrow_1).before args0 about1 = true := by decide +kernel
theorem w_applies : (headSpec (Jvm.Cond.code x code maxLocals ret :: tables_1) room_1).applies x e0.platform about1 = true :=
  (Spec.applies_iff w_frames).mpr ⟨w_running, w_runnable, w_alone, w_named, w_hears, w_ripe, w_room, w_tables⟩
theorem atStart : AtStart classFile x code maxLocals ret World_1 tables_1 room_1 Calls_1 rest_1 Pre_1 launch0 p0 e0 about1 theMethod args0 below0 :=
  ⟨lists_1, trivial, launch0.admits_env _ _ _, launch0.least_env, fairChoices_fair.cas, fairChoices_fair.clock, w_frames, w_args, w_heap, w_applies, trivial, trivial, w_case⟩
end start1
theorem witness_1 : WitnessClaimed_1 := ⟨start1.p0, start1.e0, start1.about1, start1.theMethod, start1.args0, start1.below0, start1.atStart⟩
end Jvm.Pilot.@@N@@
