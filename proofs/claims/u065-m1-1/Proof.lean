import JvmDerived
import JvmDerived.Pilot.@@N@@Statement
import JvmDerived.Pilot.@@N@@Code
set_option linter.unusedVariables false
set_option linter.unusedSimpArgs false
namespace Jvm.RoadKit
open Sem ClassFile Op Lib Jvm.Stand Jvm.Free Jvm.LawKit
section New
variable {p : Program} {l : Launch} {e : Env} {R : Room} {s : State} {m : MethodId} {args : Array Value} {below : List Frame} {meth : Method} {c : Code} {T : State} {locs : List Loc} {cells slots : Nat}
theorem retI (X : Stand p l e R s m args below meth c T locs cells slots) (hx : p.tables.exec = Jvm.exec) {pc : Nat} {Ls : Array Slot} {z : Int32} {rest : List Value} (hret : meth.sig.returnType = some .int) (hd : decode c.code pc = .ok (.ireturn, 1)) {fs : List Frame}
    (hl : ∀ (f : JFrame) (acts : List Action), f.method = m → f.locked = none → f.entered = [] → (doReturn e (T.setTop f) acts (some (.int z))).1 = T.setFrames fs) : Steps p.tables e below (T.setTop (mkF m pc Ls (.int z :: rest))) (T.setFrames fs) := by
  have hm' : T.vm.method? m = some meth := X.method'
  have hn : narrow .int (.int z) = .int z := rfl
  show Steps p.tables e below (T.setTop { method := m, pc := pc, locals := Ls, stack := _ :: rest, locked := none }) _
  jvm_step X.here [X.here.top, hx, hd, hm', hret, hn]
  first | (intro acts; rw [hl _ acts rfl rfl rfl]) | rw [hl _ _ rfl rfl rfl]
  exact Steps.refl _
end New
end Jvm.RoadKit
namespace Jvm.Pilot.@@N@@
open Jvm Jvm.ClassFile Sem Op Lib Jvm.Free Jvm.Stand Jvm.LawKit Jvm.RoadKit Bundle Jvm.Pilot.@@N@@.Jvm.D
def QP (w : Option Value) (h0 : Heap) (n0 : Nat) (v : Option Value) (h : Heap) (L : List Loc) : Prop := v = w ∧ Fr n0 L ∧ h = h0
def QL (n0 : Nat) (v : Option Value) (h : Heap) (L : List Loc) : Prop := v = some (.int (1 : Int32)) ∧ Fr n0 L
def own_unres (x : Int32) : Int32 := if (97 ≤ x.toInt ∧ x.toInt ≤ 122) ∨ (65 ≤ x.toInt ∧ x.toInt ≤ 90) ∨ (48 ≤ x.toInt ∧ x.toInt ≤ 57) ∨ x.toInt = 45 ∨ x.toInt = 46 ∨ x.toInt = 95 ∨ x.toInt = 126 then 1 else 0
def own_exp (x : Int32) : Int32 :=
  if x < (0 : Int32) then (0 : Int32) else if (127 : Int32) < x then (0 : Int32) else if x < (64 : Int32) then
    (if (lcmpW ((((288054454291267584 : Int64).toUInt64 >>> (x &&& 0x3f).toInt64.toUInt64).toInt64) &&& (1 : Int64)) (0 : Int64)) = (0 : Int32) then (0 : Int32) else (1 : Int32))
  else (if (lcmpW ((((5188146764422578174 : Int64).toUInt64 >>> ((x - (64 : Int32)) &&& 0x3f).toInt64.toUInt64).toInt64) &&& (1 : Int64)) (0 : Int64)) = (0 : Int32) then (0 : Int32) else (1 : Int32))
set_option maxRecDepth 65536 in
theorem own_all : ∀ n : Nat, n < 128 → own_unres (Int32.ofInt (n : Int)) = own_exp (Int32.ofInt (n : Int)) := by decide +kernel
theorem own_same (x : Int32) : own_unres x = own_exp x := by
  have c0 : (0 : Int32).toInt = 0 := rfl
  have c127 : (127 : Int32).toInt = 127 := rfl
  by_cases h0 : x < (0 : Int32)
  · have e1 : own_exp x = 0 := by unfold own_exp; rw [if_pos h0]
    rw [Int32.lt_iff_toInt_lt] at h0
    rw [e1]; unfold own_unres; rw [if_neg (by omega)]
  · by_cases h1 : (127 : Int32) < x
    · have e1 : own_exp x = 0 := by unfold own_exp; rw [if_neg h0, if_pos h1]
      rw [Int32.lt_iff_toInt_lt] at h1
      rw [e1]; unfold own_unres; rw [if_neg (by omega)]
    · rw [Int32.lt_iff_toInt_lt] at h0 h1
      have hx : x = Int32.ofInt ((x.toInt.toNat : Nat) : Int) := by
        rw [Int.toNat_of_nonneg (by omega)]; exact (Int32.ofInt_toInt x).symm
      rw [hx]; exact own_all _ (by omega)
theorem d1_0 : decode prog_57_method_2_code 0 = .ok (.iload_n 0, 1) := by decide +kernel
theorem d1_1 : decode prog_57_method_2_code 1 = .ok (.bipush 97, 2) := by decide +kernel
theorem d1_3 : decode prog_57_method_2_code 3 = .ok (.if_icmp .lt 9, 3) := by decide +kernel
theorem d1_6 : decode prog_57_method_2_code 6 = .ok (.iload_n 0, 1) := by decide +kernel
theorem d1_7 : decode prog_57_method_2_code 7 = .ok (.bipush 122, 2) := by decide +kernel
theorem d1_9 : decode prog_57_method_2_code 9 = .ok (.if_icmp .le 51, 3) := by decide +kernel
theorem d1_12 : decode prog_57_method_2_code 12 = .ok (.iload_n 0, 1) := by decide +kernel
theorem d1_13 : decode prog_57_method_2_code 13 = .ok (.bipush 65, 2) := by decide +kernel
theorem d1_15 : decode prog_57_method_2_code 15 = .ok (.if_icmp .lt 9, 3) := by decide +kernel
theorem d1_18 : decode prog_57_method_2_code 18 = .ok (.iload_n 0, 1) := by decide +kernel
theorem d1_19 : decode prog_57_method_2_code 19 = .ok (.bipush 90, 2) := by decide +kernel
theorem d1_21 : decode prog_57_method_2_code 21 = .ok (.if_icmp .le 39, 3) := by decide +kernel
theorem d1_24 : decode prog_57_method_2_code 24 = .ok (.iload_n 0, 1) := by decide +kernel
theorem d1_25 : decode prog_57_method_2_code 25 = .ok (.bipush 48, 2) := by decide +kernel
theorem d1_27 : decode prog_57_method_2_code 27 = .ok (.if_icmp .lt 9, 3) := by decide +kernel
theorem d1_30 : decode prog_57_method_2_code 30 = .ok (.iload_n 0, 1) := by decide +kernel
theorem d1_31 : decode prog_57_method_2_code 31 = .ok (.bipush 57, 2) := by decide +kernel
theorem d1_33 : decode prog_57_method_2_code 33 = .ok (.if_icmp .le 27, 3) := by decide +kernel
theorem d1_36 : decode prog_57_method_2_code 36 = .ok (.iload_n 0, 1) := by decide +kernel
theorem d1_37 : decode prog_57_method_2_code 37 = .ok (.bipush 45, 2) := by decide +kernel
theorem d1_39 : decode prog_57_method_2_code 39 = .ok (.if_icmp .eq 21, 3) := by decide +kernel
theorem d1_42 : decode prog_57_method_2_code 42 = .ok (.iload_n 0, 1) := by decide +kernel
theorem d1_43 : decode prog_57_method_2_code 43 = .ok (.bipush 46, 2) := by decide +kernel
theorem d1_45 : decode prog_57_method_2_code 45 = .ok (.if_icmp .eq 15, 3) := by decide +kernel
theorem d1_48 : decode prog_57_method_2_code 48 = .ok (.iload_n 0, 1) := by decide +kernel
theorem d1_49 : decode prog_57_method_2_code 49 = .ok (.bipush 95, 2) := by decide +kernel
theorem d1_51 : decode prog_57_method_2_code 51 = .ok (.if_icmp .eq 9, 3) := by decide +kernel
theorem d1_54 : decode prog_57_method_2_code 54 = .ok (.iload_n 0, 1) := by decide +kernel
theorem d1_55 : decode prog_57_method_2_code 55 = .ok (.bipush 126, 2) := by decide +kernel
theorem d1_57 : decode prog_57_method_2_code 57 = .ok (.if_icmp .ne 7, 3) := by decide +kernel
theorem d1_60 : decode prog_57_method_2_code 60 = .ok (.iconst 1, 1) := by decide +kernel
theorem d1_61 : decode prog_57_method_2_code 61 = .ok (.goto 4, 3) := by decide +kernel
theorem d1_64 : decode prog_57_method_2_code 64 = .ok (.iconst 0, 1) := by decide +kernel
theorem d1_65 : decode prog_57_method_2_code 65 = .ok (.ireturn, 1) := by decide +kernel
theorem pn_1 : plainName "com/example/wardgate/wardgate/util/PercentEncoding" = true := by first | (simp [plainName, overriddenIn]; done) | decide +kernel
theorem ef_1 (m : MethodId) (x0 : Int32) : entryFrame m #[(.int x0)] 1 = mkF m 0 #[.val (.int x0)] [] := by first | (simp [entryFrame, mkF, argsToLocals, Value.category]; done) | rfl
theorem d2_0 : decode method_2_code 0 = .ok (.iload_n 0, 1) := by decide +kernel
theorem d2_1 : decode method_2_code 1 = .ok (.ifCond .lt 9, 3) := by decide +kernel
theorem d2_4 : decode method_2_code 4 = .ok (.iload_n 0, 1) := by decide +kernel
theorem d2_5 : decode method_2_code 5 = .ok (.bipush 127, 2) := by decide +kernel
theorem d2_7 : decode method_2_code 7 = .ok (.if_icmp .le 5, 3) := by decide +kernel
theorem d2_10 : decode method_2_code 10 = .ok (.iconst 0, 1) := by decide +kernel
theorem d2_11 : decode method_2_code 11 = .ok (.ireturn, 1) := by decide +kernel
theorem d2_12 : decode method_2_code 12 = .ok (.iload_n 0, 1) := by decide +kernel
theorem d2_13 : decode method_2_code 13 = .ok (.bipush 64, 2) := by decide +kernel
theorem d2_15 : decode method_2_code 15 = .ok (.if_icmp .ge 21, 3) := by decide +kernel
theorem d2_18 : decode method_2_code 18 = .ok (.ldc2_w 9, 3) := by decide +kernel
theorem d2_21 : decode method_2_code 21 = .ok (.iload_n 0, 1) := by decide +kernel
theorem d2_22 : decode method_2_code 22 = .ok (.lushr, 1) := by decide +kernel
theorem d2_23 : decode method_2_code 23 = .ok (.lconst 1, 1) := by decide +kernel
theorem d2_24 : decode method_2_code 24 = .ok (.land, 1) := by decide +kernel
theorem d2_25 : decode method_2_code 25 = .ok (.lconst 0, 1) := by decide +kernel
theorem d2_26 : decode method_2_code 26 = .ok (.lcmp, 1) := by decide +kernel
theorem d2_27 : decode method_2_code 27 = .ok (.ifCond .eq 7, 3) := by decide +kernel
theorem d2_30 : decode method_2_code 30 = .ok (.iconst 1, 1) := by decide +kernel
theorem d2_31 : decode method_2_code 31 = .ok (.goto 4, 3) := by decide +kernel
theorem d2_34 : decode method_2_code 34 = .ok (.iconst 0, 1) := by decide +kernel
theorem d2_35 : decode method_2_code 35 = .ok (.ireturn, 1) := by decide +kernel
theorem d2_36 : decode method_2_code 36 = .ok (.ldc2_w 11, 3) := by decide +kernel
theorem d2_39 : decode method_2_code 39 = .ok (.iload_n 0, 1) := by decide +kernel
theorem d2_40 : decode method_2_code 40 = .ok (.bipush 64, 2) := by decide +kernel
theorem d2_42 : decode method_2_code 42 = .ok (.isub, 1) := by decide +kernel
theorem d2_43 : decode method_2_code 43 = .ok (.lushr, 1) := by decide +kernel
theorem d2_44 : decode method_2_code 44 = .ok (.lconst 1, 1) := by decide +kernel
theorem d2_45 : decode method_2_code 45 = .ok (.land, 1) := by decide +kernel
theorem d2_46 : decode method_2_code 46 = .ok (.lconst 0, 1) := by decide +kernel
theorem d2_47 : decode method_2_code 47 = .ok (.lcmp, 1) := by decide +kernel
theorem d2_48 : decode method_2_code 48 = .ok (.ifCond .eq 7, 3) := by decide +kernel
theorem d2_51 : decode method_2_code 51 = .ok (.iconst 1, 1) := by decide +kernel
theorem d2_52 : decode method_2_code 52 = .ok (.goto 4, 3) := by decide +kernel
theorem d2_55 : decode method_2_code 55 = .ok (.iconst 0, 1) := by decide +kernel
theorem d2_56 : decode method_2_code 56 = .ok (.ireturn, 1) := by decide +kernel
theorem pn_2 : plainName "com/example/wardgate/wardgate/util/PercentEncodingIsUnreservedPinLaw" = true := by first | (simp [plainName, overriddenIn]; done) | decide +kernel
theorem ef_2 (m : MethodId) (x0 : Int32) : entryFrame m #[(.int x0)] 1 = mkF m 0 #[.val (.int x0)] [] := by first | (simp [entryFrame, mkF, argsToLocals, Value.category]; done) | rfl
theorem pn_0 : plainName "com/example/wardgate/wardgate/util/PercentEncodingIsUnreservedPinLaw" = true := by first | (simp [plainName, overriddenIn]; done) | decide +kernel
theorem ef_0 (m : MethodId) (x0 : Int32) (x1 : Int32) : entryFrame m #[(.int x0), (.int x1)] maxLocals = mkF m 0 #[.val (.int x0), .val (.int x1), .unset, .unset] [] := by first | (simp [entryFrame, mkF, argsToLocals, Value.category, maxLocals]; done) | rfl
set_option maxRecDepth 65536 in
set_option maxHeartbeats 40000000 in
theorem rm1 (l : Launch) (Z : State) (a0 : Array Value) (hw : ∀ d ∈ tables_1, d.before a0 Z = true) (ws : List Jvm.Cond) (x0 : Int32)  (h0 : Heap) (n0 : Nat) (Z0 : n0 ≤ h0.size)  :
    MetFree l (⟨"com/example/wardgate/wardgate/util/PercentEncoding", "isUnreserved", "(I)Z"⟩ : MethodName) (head1 (Jvm.Cond.code (⟨"com/example/wardgate/wardgate/util/PercentEncoding", "isUnreserved", "(I)Z"⟩ : MethodName) prog_57_method_2_code 1 (some .boolean) :: ws) ({ frames := 0, cells := 0, slots := 0, locals := 0 } : Room)) (fun a U => a = #[(.int x0)] ∧ Z.Warmed39 U.vm ∧ U.heap = h0) (fun _ _ _ _ _ => True) (fun _ U o U' => ∃ v L, o = .returned v ∧ (QP (some (.int (own_unres x0))) h0 n0 v U'.heap L) ∧ FrameEnd U o U' L ({ frames := 0, cells := 0, slots := 0, locals := 0 } : Room).cells ({ frames := 0, cells := 0, slots := 0, locals := 0 } : Room).slots) := by
  refine MetFree.of_bodySF (plainFor_of_name pn_1) hisR ?_
  intro p e s m args below meth c s₁ Bd hml0 hP hK
  obtain ⟨rfl, hZ, hh⟩ := hP
  have hx := Bd.exec
  have hby := Bd.bytes
  have hml : c.maxLocals = 1 := hml0
  have hown : s.vm.findClass "com/example/wardgate/wardgate/util/PercentEncoding" = some m.cls := findClass_of_methodNamed Bd.named
  have hnm := (name_of_methodNamed Bd.named Bd.method).1
  have X0 : Stand p l e ({ frames := 0, cells := 0, slots := 0, locals := 0 } : Room) s m #[(.int x0)] below meth c s₁ [] 0 0 := Stand.of_body Bd
  have e0 : s₁.heap = h0 := by rw [← hh, Bd.state]; rfl
  have N0 := Fr.nil n0
  have pre0 : ∀ t, Steps p.tables e below (s₁.setTop (mkF m 0 #[.val (.int x0)] [])) t → Steps p.tables e below (s₁.setTop (entryFrame m #[(.int x0)] 1)) t := fun t k => castTop (ef_1 m x0) k
  have c97 : (97 : Int32).toInt = 97 := rfl
  have c122 : (122 : Int32).toInt = 122 := rfl
  have c65 : (65 : Int32).toInt = 65 := rfl
  have c90 : (90 : Int32).toInt = 90 := rfl
  have c48 : (48 : Int32).toInt = 48 := rfl
  have c57 : (57 : Int32).toInt = 57 := rfl
  have c45 : (45 : Int32).toInt = 45 := rfl
  have c46 : (46 : Int32).toInt = 46 := rfl
  have c95 : (95 : Int32).toInt = 95 := rfl
  have c126 : (126 : Int32).toInt = 126 := rfl
  obtain ⟨fs, hr, hrun, hended, hW, hsame⟩ := X0.leave (v := some (.int (own_unres x0))) (fun h => by rw [Bd.returns] at h; cases h)
  refine ⟨_, _, pre0 _ ?_, hrun, hended, _, _, rfl, ?_, ⟨_, rfl⟩, hW, hsame.mono (by decide) (by decide)⟩
  · show Steps p.tables e below (s₁.setTop (mkF m 0 #[.val (.int x0)] [])) _
    refine XS.iloadN X0.here hx rfl (hb hby d1_0) rfl ?_
    show Steps p.tables e below (s₁.setTop (mkF m 1 #[.val (.int x0)] [(.int x0)])) _
    refine XS.bipush X0.here hx rfl (hb hby d1_1) ?_
    show Steps p.tables e below (s₁.setTop (mkF m 3 #[.val (.int x0)] [(.int (97 : Int32)), (.int x0)])) _
    by_cases hc3 : x0 < (97 : Int32)
    · refine XS.icmpYes X0.here hx rfl (pc0 := 3) (pc' := 12) rfl (hb hby d1_3) rfl (tlt hc3).1 (by decide) (by decide) ?_
      show Steps p.tables e below (s₁.setTop (mkF m 12 #[.val (.int x0)] [])) _
      refine XS.iloadN X0.here hx rfl (hb hby d1_12) rfl ?_
      show Steps p.tables e below (s₁.setTop (mkF m 13 #[.val (.int x0)] [(.int x0)])) _
      refine XS.bipush X0.here hx rfl (hb hby d1_13) ?_
      show Steps p.tables e below (s₁.setTop (mkF m 15 #[.val (.int x0)] [(.int (65 : Int32)), (.int x0)])) _
      by_cases hc15 : x0 < (65 : Int32)
      · refine XS.icmpYes X0.here hx rfl (pc0 := 15) (pc' := 24) rfl (hb hby d1_15) rfl (tlt hc15).1 (by decide) (by decide) ?_
        show Steps p.tables e below (s₁.setTop (mkF m 24 #[.val (.int x0)] [])) _
        refine XS.iloadN X0.here hx rfl (hb hby d1_24) rfl ?_
        show Steps p.tables e below (s₁.setTop (mkF m 25 #[.val (.int x0)] [(.int x0)])) _
        refine XS.bipush X0.here hx rfl (hb hby d1_25) ?_
        show Steps p.tables e below (s₁.setTop (mkF m 27 #[.val (.int x0)] [(.int (48 : Int32)), (.int x0)])) _
        by_cases hc27 : x0 < (48 : Int32)
        · refine XS.icmpYes X0.here hx rfl (pc0 := 27) (pc' := 36) rfl (hb hby d1_27) rfl (tlt hc27).1 (by decide) (by decide) ?_
          show Steps p.tables e below (s₁.setTop (mkF m 36 #[.val (.int x0)] [])) _
          refine XS.iloadN X0.here hx rfl (hb hby d1_36) rfl ?_
          show Steps p.tables e below (s₁.setTop (mkF m 37 #[.val (.int x0)] [(.int x0)])) _
          refine XS.bipush X0.here hx rfl (hb hby d1_37) ?_
          show Steps p.tables e below (s₁.setTop (mkF m 39 #[.val (.int x0)] [(.int (45 : Int32)), (.int x0)])) _
          by_cases hc39 : x0 = (45 : Int32)
          · refine XS.icmpYes X0.here hx rfl (pc0 := 39) (pc' := 60) rfl (hb hby d1_39) rfl (teq hc39).1 (by decide) (by decide) ?_
            show Steps p.tables e below (s₁.setTop (mkF m 60 #[.val (.int x0)] [])) _
            refine XS.iconst X0.here hx rfl (hb hby d1_60) ?_
            show Steps p.tables e below (s₁.setTop (mkF m 61 #[.val (.int x0)] [(.int (1 : Int32))])) _
            refine XS.goto X0.here hx rfl (pc0 := 61) (pc' := 65) rfl (hb hby d1_61) (by decide) (by decide) ?_
            show Steps p.tables e below (s₁.setTop (mkF m 65 #[.val (.int x0)] [(.int (1 : Int32))])) _
            have hv : own_unres x0 = (1 : Int32) := by
              rw [Int32.lt_iff_toInt_lt] at hc3
              rw [Int32.lt_iff_toInt_lt] at hc15
              rw [Int32.lt_iff_toInt_lt] at hc27
              rw [← Int32.toInt_inj] at hc39
              unfold own_unres; rw [if_pos (by omega)]
            rw [hv] at hr
            exact retN X0 hx (t := .boolean) Bd.returns (by simp) (hb hby d1_65) hr
          · refine XS.icmpNo X0.here hx rfl (hb hby d1_39) rfl (feq hc39).1 ?_
            show Steps p.tables e below (s₁.setTop (mkF m 42 #[.val (.int x0)] [])) _
            refine XS.iloadN X0.here hx rfl (hb hby d1_42) rfl ?_
            show Steps p.tables e below (s₁.setTop (mkF m 43 #[.val (.int x0)] [(.int x0)])) _
            refine XS.bipush X0.here hx rfl (hb hby d1_43) ?_
            show Steps p.tables e below (s₁.setTop (mkF m 45 #[.val (.int x0)] [(.int (46 : Int32)), (.int x0)])) _
            by_cases hc45 : x0 = (46 : Int32)
            · refine XS.icmpYes X0.here hx rfl (pc0 := 45) (pc' := 60) rfl (hb hby d1_45) rfl (teq hc45).1 (by decide) (by decide) ?_
              show Steps p.tables e below (s₁.setTop (mkF m 60 #[.val (.int x0)] [])) _
              refine XS.iconst X0.here hx rfl (hb hby d1_60) ?_
              show Steps p.tables e below (s₁.setTop (mkF m 61 #[.val (.int x0)] [(.int (1 : Int32))])) _
              refine XS.goto X0.here hx rfl (pc0 := 61) (pc' := 65) rfl (hb hby d1_61) (by decide) (by decide) ?_
              show Steps p.tables e below (s₁.setTop (mkF m 65 #[.val (.int x0)] [(.int (1 : Int32))])) _
              have hv : own_unres x0 = (1 : Int32) := by
                rw [Int32.lt_iff_toInt_lt] at hc3
                rw [Int32.lt_iff_toInt_lt] at hc15
                rw [Int32.lt_iff_toInt_lt] at hc27
                rw [← Int32.toInt_inj] at hc39
                rw [← Int32.toInt_inj] at hc45
                unfold own_unres; rw [if_pos (by omega)]
              rw [hv] at hr
              exact retN X0 hx (t := .boolean) Bd.returns (by simp) (hb hby d1_65) hr
            · refine XS.icmpNo X0.here hx rfl (hb hby d1_45) rfl (feq hc45).1 ?_
              show Steps p.tables e below (s₁.setTop (mkF m 48 #[.val (.int x0)] [])) _
              refine XS.iloadN X0.here hx rfl (hb hby d1_48) rfl ?_
              show Steps p.tables e below (s₁.setTop (mkF m 49 #[.val (.int x0)] [(.int x0)])) _
              refine XS.bipush X0.here hx rfl (hb hby d1_49) ?_
              show Steps p.tables e below (s₁.setTop (mkF m 51 #[.val (.int x0)] [(.int (95 : Int32)), (.int x0)])) _
              by_cases hc51 : x0 = (95 : Int32)
              · refine XS.icmpYes X0.here hx rfl (pc0 := 51) (pc' := 60) rfl (hb hby d1_51) rfl (teq hc51).1 (by decide) (by decide) ?_
                show Steps p.tables e below (s₁.setTop (mkF m 60 #[.val (.int x0)] [])) _
                refine XS.iconst X0.here hx rfl (hb hby d1_60) ?_
                show Steps p.tables e below (s₁.setTop (mkF m 61 #[.val (.int x0)] [(.int (1 : Int32))])) _
                refine XS.goto X0.here hx rfl (pc0 := 61) (pc' := 65) rfl (hb hby d1_61) (by decide) (by decide) ?_
                show Steps p.tables e below (s₁.setTop (mkF m 65 #[.val (.int x0)] [(.int (1 : Int32))])) _
                have hv : own_unres x0 = (1 : Int32) := by
                  rw [Int32.lt_iff_toInt_lt] at hc3
                  rw [Int32.lt_iff_toInt_lt] at hc15
                  rw [Int32.lt_iff_toInt_lt] at hc27
                  rw [← Int32.toInt_inj] at hc39
                  rw [← Int32.toInt_inj] at hc45
                  rw [← Int32.toInt_inj] at hc51
                  unfold own_unres; rw [if_pos (by omega)]
                rw [hv] at hr
                exact retN X0 hx (t := .boolean) Bd.returns (by simp) (hb hby d1_65) hr
              · refine XS.icmpNo X0.here hx rfl (hb hby d1_51) rfl (feq hc51).1 ?_
                show Steps p.tables e below (s₁.setTop (mkF m 54 #[.val (.int x0)] [])) _
                refine XS.iloadN X0.here hx rfl (hb hby d1_54) rfl ?_
                show Steps p.tables e below (s₁.setTop (mkF m 55 #[.val (.int x0)] [(.int x0)])) _
                refine XS.bipush X0.here hx rfl (hb hby d1_55) ?_
                show Steps p.tables e below (s₁.setTop (mkF m 57 #[.val (.int x0)] [(.int (126 : Int32)), (.int x0)])) _
                by_cases hc57 : x0 = (126 : Int32)
                · refine XS.icmpNo X0.here hx rfl (hb hby d1_57) rfl (teq hc57).2 ?_
                  show Steps p.tables e below (s₁.setTop (mkF m 60 #[.val (.int x0)] [])) _
                  refine XS.iconst X0.here hx rfl (hb hby d1_60) ?_
                  show Steps p.tables e below (s₁.setTop (mkF m 61 #[.val (.int x0)] [(.int (1 : Int32))])) _
                  refine XS.goto X0.here hx rfl (pc0 := 61) (pc' := 65) rfl (hb hby d1_61) (by decide) (by decide) ?_
                  show Steps p.tables e below (s₁.setTop (mkF m 65 #[.val (.int x0)] [(.int (1 : Int32))])) _
                  have hv : own_unres x0 = (1 : Int32) := by
                    rw [Int32.lt_iff_toInt_lt] at hc3
                    rw [Int32.lt_iff_toInt_lt] at hc15
                    rw [Int32.lt_iff_toInt_lt] at hc27
                    rw [← Int32.toInt_inj] at hc39
                    rw [← Int32.toInt_inj] at hc45
                    rw [← Int32.toInt_inj] at hc51
                    rw [← Int32.toInt_inj] at hc57
                    unfold own_unres; rw [if_pos (by omega)]
                  rw [hv] at hr
                  exact retN X0 hx (t := .boolean) Bd.returns (by simp) (hb hby d1_65) hr
                · refine XS.icmpYes X0.here hx rfl (pc0 := 57) (pc' := 64) rfl (hb hby d1_57) rfl (feq hc57).2 (by decide) (by decide) ?_
                  show Steps p.tables e below (s₁.setTop (mkF m 64 #[.val (.int x0)] [])) _
                  refine XS.iconst X0.here hx rfl (hb hby d1_64) ?_
                  show Steps p.tables e below (s₁.setTop (mkF m 65 #[.val (.int x0)] [(.int (0 : Int32))])) _
                  have hv : own_unres x0 = (0 : Int32) := by
                    rw [Int32.lt_iff_toInt_lt] at hc3
                    rw [Int32.lt_iff_toInt_lt] at hc15
                    rw [Int32.lt_iff_toInt_lt] at hc27
                    rw [← Int32.toInt_inj] at hc39
                    rw [← Int32.toInt_inj] at hc45
                    rw [← Int32.toInt_inj] at hc51
                    rw [← Int32.toInt_inj] at hc57
                    unfold own_unres; rw [if_neg (by omega)]
                  rw [hv] at hr
                  exact retN X0 hx (t := .boolean) Bd.returns (by simp) (hb hby d1_65) hr
        · refine XS.icmpNo X0.here hx rfl (hb hby d1_27) rfl (flt hc27).1 ?_
          show Steps p.tables e below (s₁.setTop (mkF m 30 #[.val (.int x0)] [])) _
          refine XS.iloadN X0.here hx rfl (hb hby d1_30) rfl ?_
          show Steps p.tables e below (s₁.setTop (mkF m 31 #[.val (.int x0)] [(.int x0)])) _
          refine XS.bipush X0.here hx rfl (hb hby d1_31) ?_
          show Steps p.tables e below (s₁.setTop (mkF m 33 #[.val (.int x0)] [(.int (57 : Int32)), (.int x0)])) _
          by_cases hc33 : (57 : Int32) < x0
          · refine XS.icmpNo X0.here hx rfl (hb hby d1_33) rfl (tlt hc33).2.2.2 ?_
            show Steps p.tables e below (s₁.setTop (mkF m 36 #[.val (.int x0)] [])) _
            refine XS.iloadN X0.here hx rfl (hb hby d1_36) rfl ?_
            show Steps p.tables e below (s₁.setTop (mkF m 37 #[.val (.int x0)] [(.int x0)])) _
            refine XS.bipush X0.here hx rfl (hb hby d1_37) ?_
            show Steps p.tables e below (s₁.setTop (mkF m 39 #[.val (.int x0)] [(.int (45 : Int32)), (.int x0)])) _
            by_cases hc39 : x0 = (45 : Int32)
            · refine XS.icmpYes X0.here hx rfl (pc0 := 39) (pc' := 60) rfl (hb hby d1_39) rfl (teq hc39).1 (by decide) (by decide) ?_
              show Steps p.tables e below (s₁.setTop (mkF m 60 #[.val (.int x0)] [])) _
              refine XS.iconst X0.here hx rfl (hb hby d1_60) ?_
              show Steps p.tables e below (s₁.setTop (mkF m 61 #[.val (.int x0)] [(.int (1 : Int32))])) _
              refine XS.goto X0.here hx rfl (pc0 := 61) (pc' := 65) rfl (hb hby d1_61) (by decide) (by decide) ?_
              show Steps p.tables e below (s₁.setTop (mkF m 65 #[.val (.int x0)] [(.int (1 : Int32))])) _
              have hv : own_unres x0 = (1 : Int32) := by
                rw [Int32.lt_iff_toInt_lt] at hc3
                rw [Int32.lt_iff_toInt_lt] at hc15
                rw [Int32.lt_iff_toInt_lt] at hc27
                rw [Int32.lt_iff_toInt_lt] at hc33
                rw [← Int32.toInt_inj] at hc39
                unfold own_unres; rw [if_pos (by omega)]
              rw [hv] at hr
              exact retN X0 hx (t := .boolean) Bd.returns (by simp) (hb hby d1_65) hr
            · refine XS.icmpNo X0.here hx rfl (hb hby d1_39) rfl (feq hc39).1 ?_
              show Steps p.tables e below (s₁.setTop (mkF m 42 #[.val (.int x0)] [])) _
              refine XS.iloadN X0.here hx rfl (hb hby d1_42) rfl ?_
              show Steps p.tables e below (s₁.setTop (mkF m 43 #[.val (.int x0)] [(.int x0)])) _
              refine XS.bipush X0.here hx rfl (hb hby d1_43) ?_
              show Steps p.tables e below (s₁.setTop (mkF m 45 #[.val (.int x0)] [(.int (46 : Int32)), (.int x0)])) _
              by_cases hc45 : x0 = (46 : Int32)
              · refine XS.icmpYes X0.here hx rfl (pc0 := 45) (pc' := 60) rfl (hb hby d1_45) rfl (teq hc45).1 (by decide) (by decide) ?_
                show Steps p.tables e below (s₁.setTop (mkF m 60 #[.val (.int x0)] [])) _
                refine XS.iconst X0.here hx rfl (hb hby d1_60) ?_
                show Steps p.tables e below (s₁.setTop (mkF m 61 #[.val (.int x0)] [(.int (1 : Int32))])) _
                refine XS.goto X0.here hx rfl (pc0 := 61) (pc' := 65) rfl (hb hby d1_61) (by decide) (by decide) ?_
                show Steps p.tables e below (s₁.setTop (mkF m 65 #[.val (.int x0)] [(.int (1 : Int32))])) _
                have hv : own_unres x0 = (1 : Int32) := by
                  rw [Int32.lt_iff_toInt_lt] at hc3
                  rw [Int32.lt_iff_toInt_lt] at hc15
                  rw [Int32.lt_iff_toInt_lt] at hc27
                  rw [Int32.lt_iff_toInt_lt] at hc33
                  rw [← Int32.toInt_inj] at hc39
                  rw [← Int32.toInt_inj] at hc45
                  unfold own_unres; rw [if_pos (by omega)]
                rw [hv] at hr
                exact retN X0 hx (t := .boolean) Bd.returns (by simp) (hb hby d1_65) hr
              · refine XS.icmpNo X0.here hx rfl (hb hby d1_45) rfl (feq hc45).1 ?_
                show Steps p.tables e below (s₁.setTop (mkF m 48 #[.val (.int x0)] [])) _
                refine XS.iloadN X0.here hx rfl (hb hby d1_48) rfl ?_
                show Steps p.tables e below (s₁.setTop (mkF m 49 #[.val (.int x0)] [(.int x0)])) _
                refine XS.bipush X0.here hx rfl (hb hby d1_49) ?_
                show Steps p.tables e below (s₁.setTop (mkF m 51 #[.val (.int x0)] [(.int (95 : Int32)), (.int x0)])) _
                by_cases hc51 : x0 = (95 : Int32)
                · refine XS.icmpYes X0.here hx rfl (pc0 := 51) (pc' := 60) rfl (hb hby d1_51) rfl (teq hc51).1 (by decide) (by decide) ?_
                  show Steps p.tables e below (s₁.setTop (mkF m 60 #[.val (.int x0)] [])) _
                  refine XS.iconst X0.here hx rfl (hb hby d1_60) ?_
                  show Steps p.tables e below (s₁.setTop (mkF m 61 #[.val (.int x0)] [(.int (1 : Int32))])) _
                  refine XS.goto X0.here hx rfl (pc0 := 61) (pc' := 65) rfl (hb hby d1_61) (by decide) (by decide) ?_
                  show Steps p.tables e below (s₁.setTop (mkF m 65 #[.val (.int x0)] [(.int (1 : Int32))])) _
                  have hv : own_unres x0 = (1 : Int32) := by
                    rw [Int32.lt_iff_toInt_lt] at hc3
                    rw [Int32.lt_iff_toInt_lt] at hc15
                    rw [Int32.lt_iff_toInt_lt] at hc27
                    rw [Int32.lt_iff_toInt_lt] at hc33
                    rw [← Int32.toInt_inj] at hc39
                    rw [← Int32.toInt_inj] at hc45
                    rw [← Int32.toInt_inj] at hc51
                    unfold own_unres; rw [if_pos (by omega)]
                  rw [hv] at hr
                  exact retN X0 hx (t := .boolean) Bd.returns (by simp) (hb hby d1_65) hr
                · refine XS.icmpNo X0.here hx rfl (hb hby d1_51) rfl (feq hc51).1 ?_
                  show Steps p.tables e below (s₁.setTop (mkF m 54 #[.val (.int x0)] [])) _
                  refine XS.iloadN X0.here hx rfl (hb hby d1_54) rfl ?_
                  show Steps p.tables e below (s₁.setTop (mkF m 55 #[.val (.int x0)] [(.int x0)])) _
                  refine XS.bipush X0.here hx rfl (hb hby d1_55) ?_
                  show Steps p.tables e below (s₁.setTop (mkF m 57 #[.val (.int x0)] [(.int (126 : Int32)), (.int x0)])) _
                  by_cases hc57 : x0 = (126 : Int32)
                  · refine XS.icmpNo X0.here hx rfl (hb hby d1_57) rfl (teq hc57).2 ?_
                    show Steps p.tables e below (s₁.setTop (mkF m 60 #[.val (.int x0)] [])) _
                    refine XS.iconst X0.here hx rfl (hb hby d1_60) ?_
                    show Steps p.tables e below (s₁.setTop (mkF m 61 #[.val (.int x0)] [(.int (1 : Int32))])) _
                    refine XS.goto X0.here hx rfl (pc0 := 61) (pc' := 65) rfl (hb hby d1_61) (by decide) (by decide) ?_
                    show Steps p.tables e below (s₁.setTop (mkF m 65 #[.val (.int x0)] [(.int (1 : Int32))])) _
                    have hv : own_unres x0 = (1 : Int32) := by
                      rw [Int32.lt_iff_toInt_lt] at hc3
                      rw [Int32.lt_iff_toInt_lt] at hc15
                      rw [Int32.lt_iff_toInt_lt] at hc27
                      rw [Int32.lt_iff_toInt_lt] at hc33
                      rw [← Int32.toInt_inj] at hc39
                      rw [← Int32.toInt_inj] at hc45
                      rw [← Int32.toInt_inj] at hc51
                      rw [← Int32.toInt_inj] at hc57
                      unfold own_unres; rw [if_pos (by omega)]
                    rw [hv] at hr
                    exact retN X0 hx (t := .boolean) Bd.returns (by simp) (hb hby d1_65) hr
                  · refine XS.icmpYes X0.here hx rfl (pc0 := 57) (pc' := 64) rfl (hb hby d1_57) rfl (feq hc57).2 (by decide) (by decide) ?_
                    show Steps p.tables e below (s₁.setTop (mkF m 64 #[.val (.int x0)] [])) _
                    refine XS.iconst X0.here hx rfl (hb hby d1_64) ?_
                    show Steps p.tables e below (s₁.setTop (mkF m 65 #[.val (.int x0)] [(.int (0 : Int32))])) _
                    have hv : own_unres x0 = (0 : Int32) := by
                      rw [Int32.lt_iff_toInt_lt] at hc3
                      rw [Int32.lt_iff_toInt_lt] at hc15
                      rw [Int32.lt_iff_toInt_lt] at hc27
                      rw [Int32.lt_iff_toInt_lt] at hc33
                      rw [← Int32.toInt_inj] at hc39
                      rw [← Int32.toInt_inj] at hc45
                      rw [← Int32.toInt_inj] at hc51
                      rw [← Int32.toInt_inj] at hc57
                      unfold own_unres; rw [if_neg (by omega)]
                    rw [hv] at hr
                    exact retN X0 hx (t := .boolean) Bd.returns (by simp) (hb hby d1_65) hr
          · refine XS.icmpYes X0.here hx rfl (pc0 := 33) (pc' := 60) rfl (hb hby d1_33) rfl (flt hc33).2.2.2 (by decide) (by decide) ?_
            show Steps p.tables e below (s₁.setTop (mkF m 60 #[.val (.int x0)] [])) _
            refine XS.iconst X0.here hx rfl (hb hby d1_60) ?_
            show Steps p.tables e below (s₁.setTop (mkF m 61 #[.val (.int x0)] [(.int (1 : Int32))])) _
            refine XS.goto X0.here hx rfl (pc0 := 61) (pc' := 65) rfl (hb hby d1_61) (by decide) (by decide) ?_
            show Steps p.tables e below (s₁.setTop (mkF m 65 #[.val (.int x0)] [(.int (1 : Int32))])) _
            have hv : own_unres x0 = (1 : Int32) := by
              rw [Int32.lt_iff_toInt_lt] at hc3
              rw [Int32.lt_iff_toInt_lt] at hc15
              rw [Int32.lt_iff_toInt_lt] at hc27
              rw [Int32.lt_iff_toInt_lt] at hc33
              unfold own_unres; rw [if_pos (by omega)]
            rw [hv] at hr
            exact retN X0 hx (t := .boolean) Bd.returns (by simp) (hb hby d1_65) hr
      · refine XS.icmpNo X0.here hx rfl (hb hby d1_15) rfl (flt hc15).1 ?_
        show Steps p.tables e below (s₁.setTop (mkF m 18 #[.val (.int x0)] [])) _
        refine XS.iloadN X0.here hx rfl (hb hby d1_18) rfl ?_
        show Steps p.tables e below (s₁.setTop (mkF m 19 #[.val (.int x0)] [(.int x0)])) _
        refine XS.bipush X0.here hx rfl (hb hby d1_19) ?_
        show Steps p.tables e below (s₁.setTop (mkF m 21 #[.val (.int x0)] [(.int (90 : Int32)), (.int x0)])) _
        by_cases hc21 : (90 : Int32) < x0
        · refine XS.icmpNo X0.here hx rfl (hb hby d1_21) rfl (tlt hc21).2.2.2 ?_
          show Steps p.tables e below (s₁.setTop (mkF m 24 #[.val (.int x0)] [])) _
          refine XS.iloadN X0.here hx rfl (hb hby d1_24) rfl ?_
          show Steps p.tables e below (s₁.setTop (mkF m 25 #[.val (.int x0)] [(.int x0)])) _
          refine XS.bipush X0.here hx rfl (hb hby d1_25) ?_
          show Steps p.tables e below (s₁.setTop (mkF m 27 #[.val (.int x0)] [(.int (48 : Int32)), (.int x0)])) _
          by_cases hc27 : x0 < (48 : Int32)
          · refine XS.icmpYes X0.here hx rfl (pc0 := 27) (pc' := 36) rfl (hb hby d1_27) rfl (tlt hc27).1 (by decide) (by decide) ?_
            show Steps p.tables e below (s₁.setTop (mkF m 36 #[.val (.int x0)] [])) _
            refine XS.iloadN X0.here hx rfl (hb hby d1_36) rfl ?_
            show Steps p.tables e below (s₁.setTop (mkF m 37 #[.val (.int x0)] [(.int x0)])) _
            refine XS.bipush X0.here hx rfl (hb hby d1_37) ?_
            show Steps p.tables e below (s₁.setTop (mkF m 39 #[.val (.int x0)] [(.int (45 : Int32)), (.int x0)])) _
            by_cases hc39 : x0 = (45 : Int32)
            · refine XS.icmpYes X0.here hx rfl (pc0 := 39) (pc' := 60) rfl (hb hby d1_39) rfl (teq hc39).1 (by decide) (by decide) ?_
              show Steps p.tables e below (s₁.setTop (mkF m 60 #[.val (.int x0)] [])) _
              refine XS.iconst X0.here hx rfl (hb hby d1_60) ?_
              show Steps p.tables e below (s₁.setTop (mkF m 61 #[.val (.int x0)] [(.int (1 : Int32))])) _
              refine XS.goto X0.here hx rfl (pc0 := 61) (pc' := 65) rfl (hb hby d1_61) (by decide) (by decide) ?_
              show Steps p.tables e below (s₁.setTop (mkF m 65 #[.val (.int x0)] [(.int (1 : Int32))])) _
              have hv : own_unres x0 = (1 : Int32) := by
                rw [Int32.lt_iff_toInt_lt] at hc3
                rw [Int32.lt_iff_toInt_lt] at hc15
                rw [Int32.lt_iff_toInt_lt] at hc21
                rw [Int32.lt_iff_toInt_lt] at hc27
                rw [← Int32.toInt_inj] at hc39
                unfold own_unres; rw [if_pos (by omega)]
              rw [hv] at hr
              exact retN X0 hx (t := .boolean) Bd.returns (by simp) (hb hby d1_65) hr
            · refine XS.icmpNo X0.here hx rfl (hb hby d1_39) rfl (feq hc39).1 ?_
              show Steps p.tables e below (s₁.setTop (mkF m 42 #[.val (.int x0)] [])) _
              refine XS.iloadN X0.here hx rfl (hb hby d1_42) rfl ?_
              show Steps p.tables e below (s₁.setTop (mkF m 43 #[.val (.int x0)] [(.int x0)])) _
              refine XS.bipush X0.here hx rfl (hb hby d1_43) ?_
              show Steps p.tables e below (s₁.setTop (mkF m 45 #[.val (.int x0)] [(.int (46 : Int32)), (.int x0)])) _
              by_cases hc45 : x0 = (46 : Int32)
              · refine XS.icmpYes X0.here hx rfl (pc0 := 45) (pc' := 60) rfl (hb hby d1_45) rfl (teq hc45).1 (by decide) (by decide) ?_
                show Steps p.tables e below (s₁.setTop (mkF m 60 #[.val (.int x0)] [])) _
                refine XS.iconst X0.here hx rfl (hb hby d1_60) ?_
                show Steps p.tables e below (s₁.setTop (mkF m 61 #[.val (.int x0)] [(.int (1 : Int32))])) _
                refine XS.goto X0.here hx rfl (pc0 := 61) (pc' := 65) rfl (hb hby d1_61) (by decide) (by decide) ?_
                show Steps p.tables e below (s₁.setTop (mkF m 65 #[.val (.int x0)] [(.int (1 : Int32))])) _
                have hv : own_unres x0 = (1 : Int32) := by
                  rw [Int32.lt_iff_toInt_lt] at hc3
                  rw [Int32.lt_iff_toInt_lt] at hc15
                  rw [Int32.lt_iff_toInt_lt] at hc21
                  rw [Int32.lt_iff_toInt_lt] at hc27
                  rw [← Int32.toInt_inj] at hc39
                  rw [← Int32.toInt_inj] at hc45
                  unfold own_unres; rw [if_pos (by omega)]
                rw [hv] at hr
                exact retN X0 hx (t := .boolean) Bd.returns (by simp) (hb hby d1_65) hr
              · refine XS.icmpNo X0.here hx rfl (hb hby d1_45) rfl (feq hc45).1 ?_
                show Steps p.tables e below (s₁.setTop (mkF m 48 #[.val (.int x0)] [])) _
                refine XS.iloadN X0.here hx rfl (hb hby d1_48) rfl ?_
                show Steps p.tables e below (s₁.setTop (mkF m 49 #[.val (.int x0)] [(.int x0)])) _
                refine XS.bipush X0.here hx rfl (hb hby d1_49) ?_
                show Steps p.tables e below (s₁.setTop (mkF m 51 #[.val (.int x0)] [(.int (95 : Int32)), (.int x0)])) _
                by_cases hc51 : x0 = (95 : Int32)
                · refine XS.icmpYes X0.here hx rfl (pc0 := 51) (pc' := 60) rfl (hb hby d1_51) rfl (teq hc51).1 (by decide) (by decide) ?_
                  show Steps p.tables e below (s₁.setTop (mkF m 60 #[.val (.int x0)] [])) _
                  refine XS.iconst X0.here hx rfl (hb hby d1_60) ?_
                  show Steps p.tables e below (s₁.setTop (mkF m 61 #[.val (.int x0)] [(.int (1 : Int32))])) _
                  refine XS.goto X0.here hx rfl (pc0 := 61) (pc' := 65) rfl (hb hby d1_61) (by decide) (by decide) ?_
                  show Steps p.tables e below (s₁.setTop (mkF m 65 #[.val (.int x0)] [(.int (1 : Int32))])) _
                  have hv : own_unres x0 = (1 : Int32) := by
                    rw [Int32.lt_iff_toInt_lt] at hc3
                    rw [Int32.lt_iff_toInt_lt] at hc15
                    rw [Int32.lt_iff_toInt_lt] at hc21
                    rw [Int32.lt_iff_toInt_lt] at hc27
                    rw [← Int32.toInt_inj] at hc39
                    rw [← Int32.toInt_inj] at hc45
                    rw [← Int32.toInt_inj] at hc51
                    unfold own_unres; rw [if_pos (by omega)]
                  rw [hv] at hr
                  exact retN X0 hx (t := .boolean) Bd.returns (by simp) (hb hby d1_65) hr
                · refine XS.icmpNo X0.here hx rfl (hb hby d1_51) rfl (feq hc51).1 ?_
                  show Steps p.tables e below (s₁.setTop (mkF m 54 #[.val (.int x0)] [])) _
                  refine XS.iloadN X0.here hx rfl (hb hby d1_54) rfl ?_
                  show Steps p.tables e below (s₁.setTop (mkF m 55 #[.val (.int x0)] [(.int x0)])) _
                  refine XS.bipush X0.here hx rfl (hb hby d1_55) ?_
                  show Steps p.tables e below (s₁.setTop (mkF m 57 #[.val (.int x0)] [(.int (126 : Int32)), (.int x0)])) _
                  by_cases hc57 : x0 = (126 : Int32)
                  · refine XS.icmpNo X0.here hx rfl (hb hby d1_57) rfl (teq hc57).2 ?_
                    show Steps p.tables e below (s₁.setTop (mkF m 60 #[.val (.int x0)] [])) _
                    refine XS.iconst X0.here hx rfl (hb hby d1_60) ?_
                    show Steps p.tables e below (s₁.setTop (mkF m 61 #[.val (.int x0)] [(.int (1 : Int32))])) _
                    refine XS.goto X0.here hx rfl (pc0 := 61) (pc' := 65) rfl (hb hby d1_61) (by decide) (by decide) ?_
                    show Steps p.tables e below (s₁.setTop (mkF m 65 #[.val (.int x0)] [(.int (1 : Int32))])) _
                    have hv : own_unres x0 = (1 : Int32) := by
                      rw [Int32.lt_iff_toInt_lt] at hc3
                      rw [Int32.lt_iff_toInt_lt] at hc15
                      rw [Int32.lt_iff_toInt_lt] at hc21
                      rw [Int32.lt_iff_toInt_lt] at hc27
                      rw [← Int32.toInt_inj] at hc39
                      rw [← Int32.toInt_inj] at hc45
                      rw [← Int32.toInt_inj] at hc51
                      rw [← Int32.toInt_inj] at hc57
                      unfold own_unres; rw [if_pos (by omega)]
                    rw [hv] at hr
                    exact retN X0 hx (t := .boolean) Bd.returns (by simp) (hb hby d1_65) hr
                  · refine XS.icmpYes X0.here hx rfl (pc0 := 57) (pc' := 64) rfl (hb hby d1_57) rfl (feq hc57).2 (by decide) (by decide) ?_
                    show Steps p.tables e below (s₁.setTop (mkF m 64 #[.val (.int x0)] [])) _
                    refine XS.iconst X0.here hx rfl (hb hby d1_64) ?_
                    show Steps p.tables e below (s₁.setTop (mkF m 65 #[.val (.int x0)] [(.int (0 : Int32))])) _
                    have hv : own_unres x0 = (0 : Int32) := by
                      rw [Int32.lt_iff_toInt_lt] at hc3
                      rw [Int32.lt_iff_toInt_lt] at hc15
                      rw [Int32.lt_iff_toInt_lt] at hc21
                      rw [Int32.lt_iff_toInt_lt] at hc27
                      rw [← Int32.toInt_inj] at hc39
                      rw [← Int32.toInt_inj] at hc45
                      rw [← Int32.toInt_inj] at hc51
                      rw [← Int32.toInt_inj] at hc57
                      unfold own_unres; rw [if_neg (by omega)]
                    rw [hv] at hr
                    exact retN X0 hx (t := .boolean) Bd.returns (by simp) (hb hby d1_65) hr
          · refine XS.icmpNo X0.here hx rfl (hb hby d1_27) rfl (flt hc27).1 ?_
            show Steps p.tables e below (s₁.setTop (mkF m 30 #[.val (.int x0)] [])) _
            refine XS.iloadN X0.here hx rfl (hb hby d1_30) rfl ?_
            show Steps p.tables e below (s₁.setTop (mkF m 31 #[.val (.int x0)] [(.int x0)])) _
            refine XS.bipush X0.here hx rfl (hb hby d1_31) ?_
            show Steps p.tables e below (s₁.setTop (mkF m 33 #[.val (.int x0)] [(.int (57 : Int32)), (.int x0)])) _
            by_cases hc33 : (57 : Int32) < x0
            · refine XS.icmpNo X0.here hx rfl (hb hby d1_33) rfl (tlt hc33).2.2.2 ?_
              show Steps p.tables e below (s₁.setTop (mkF m 36 #[.val (.int x0)] [])) _
              refine XS.iloadN X0.here hx rfl (hb hby d1_36) rfl ?_
              show Steps p.tables e below (s₁.setTop (mkF m 37 #[.val (.int x0)] [(.int x0)])) _
              refine XS.bipush X0.here hx rfl (hb hby d1_37) ?_
              show Steps p.tables e below (s₁.setTop (mkF m 39 #[.val (.int x0)] [(.int (45 : Int32)), (.int x0)])) _
              by_cases hc39 : x0 = (45 : Int32)
              · refine XS.icmpYes X0.here hx rfl (pc0 := 39) (pc' := 60) rfl (hb hby d1_39) rfl (teq hc39).1 (by decide) (by decide) ?_
                show Steps p.tables e below (s₁.setTop (mkF m 60 #[.val (.int x0)] [])) _
                refine XS.iconst X0.here hx rfl (hb hby d1_60) ?_
                show Steps p.tables e below (s₁.setTop (mkF m 61 #[.val (.int x0)] [(.int (1 : Int32))])) _
                refine XS.goto X0.here hx rfl (pc0 := 61) (pc' := 65) rfl (hb hby d1_61) (by decide) (by decide) ?_
                show Steps p.tables e below (s₁.setTop (mkF m 65 #[.val (.int x0)] [(.int (1 : Int32))])) _
                have hv : own_unres x0 = (1 : Int32) := by
                  rw [Int32.lt_iff_toInt_lt] at hc3
                  rw [Int32.lt_iff_toInt_lt] at hc15
                  rw [Int32.lt_iff_toInt_lt] at hc21
                  rw [Int32.lt_iff_toInt_lt] at hc27
                  rw [Int32.lt_iff_toInt_lt] at hc33
                  rw [← Int32.toInt_inj] at hc39
                  unfold own_unres; rw [if_pos (by omega)]
                rw [hv] at hr
                exact retN X0 hx (t := .boolean) Bd.returns (by simp) (hb hby d1_65) hr
              · refine XS.icmpNo X0.here hx rfl (hb hby d1_39) rfl (feq hc39).1 ?_
                show Steps p.tables e below (s₁.setTop (mkF m 42 #[.val (.int x0)] [])) _
                refine XS.iloadN X0.here hx rfl (hb hby d1_42) rfl ?_
                show Steps p.tables e below (s₁.setTop (mkF m 43 #[.val (.int x0)] [(.int x0)])) _
                refine XS.bipush X0.here hx rfl (hb hby d1_43) ?_
                show Steps p.tables e below (s₁.setTop (mkF m 45 #[.val (.int x0)] [(.int (46 : Int32)), (.int x0)])) _
                by_cases hc45 : x0 = (46 : Int32)
                · refine XS.icmpYes X0.here hx rfl (pc0 := 45) (pc' := 60) rfl (hb hby d1_45) rfl (teq hc45).1 (by decide) (by decide) ?_
                  show Steps p.tables e below (s₁.setTop (mkF m 60 #[.val (.int x0)] [])) _
                  refine XS.iconst X0.here hx rfl (hb hby d1_60) ?_
                  show Steps p.tables e below (s₁.setTop (mkF m 61 #[.val (.int x0)] [(.int (1 : Int32))])) _
                  refine XS.goto X0.here hx rfl (pc0 := 61) (pc' := 65) rfl (hb hby d1_61) (by decide) (by decide) ?_
                  show Steps p.tables e below (s₁.setTop (mkF m 65 #[.val (.int x0)] [(.int (1 : Int32))])) _
                  have hv : own_unres x0 = (1 : Int32) := by
                    rw [Int32.lt_iff_toInt_lt] at hc3
                    rw [Int32.lt_iff_toInt_lt] at hc15
                    rw [Int32.lt_iff_toInt_lt] at hc21
                    rw [Int32.lt_iff_toInt_lt] at hc27
                    rw [Int32.lt_iff_toInt_lt] at hc33
                    rw [← Int32.toInt_inj] at hc39
                    rw [← Int32.toInt_inj] at hc45
                    unfold own_unres; rw [if_pos (by omega)]
                  rw [hv] at hr
                  exact retN X0 hx (t := .boolean) Bd.returns (by simp) (hb hby d1_65) hr
                · refine XS.icmpNo X0.here hx rfl (hb hby d1_45) rfl (feq hc45).1 ?_
                  show Steps p.tables e below (s₁.setTop (mkF m 48 #[.val (.int x0)] [])) _
                  refine XS.iloadN X0.here hx rfl (hb hby d1_48) rfl ?_
                  show Steps p.tables e below (s₁.setTop (mkF m 49 #[.val (.int x0)] [(.int x0)])) _
                  refine XS.bipush X0.here hx rfl (hb hby d1_49) ?_
                  show Steps p.tables e below (s₁.setTop (mkF m 51 #[.val (.int x0)] [(.int (95 : Int32)), (.int x0)])) _
                  by_cases hc51 : x0 = (95 : Int32)
                  · refine XS.icmpYes X0.here hx rfl (pc0 := 51) (pc' := 60) rfl (hb hby d1_51) rfl (teq hc51).1 (by decide) (by decide) ?_
                    show Steps p.tables e below (s₁.setTop (mkF m 60 #[.val (.int x0)] [])) _
                    refine XS.iconst X0.here hx rfl (hb hby d1_60) ?_
                    show Steps p.tables e below (s₁.setTop (mkF m 61 #[.val (.int x0)] [(.int (1 : Int32))])) _
                    refine XS.goto X0.here hx rfl (pc0 := 61) (pc' := 65) rfl (hb hby d1_61) (by decide) (by decide) ?_
                    show Steps p.tables e below (s₁.setTop (mkF m 65 #[.val (.int x0)] [(.int (1 : Int32))])) _
                    have hv : own_unres x0 = (1 : Int32) := by
                      rw [Int32.lt_iff_toInt_lt] at hc3
                      rw [Int32.lt_iff_toInt_lt] at hc15
                      rw [Int32.lt_iff_toInt_lt] at hc21
                      rw [Int32.lt_iff_toInt_lt] at hc27
                      rw [Int32.lt_iff_toInt_lt] at hc33
                      rw [← Int32.toInt_inj] at hc39
                      rw [← Int32.toInt_inj] at hc45
                      rw [← Int32.toInt_inj] at hc51
                      unfold own_unres; rw [if_pos (by omega)]
                    rw [hv] at hr
                    exact retN X0 hx (t := .boolean) Bd.returns (by simp) (hb hby d1_65) hr
                  · refine XS.icmpNo X0.here hx rfl (hb hby d1_51) rfl (feq hc51).1 ?_
                    show Steps p.tables e below (s₁.setTop (mkF m 54 #[.val (.int x0)] [])) _
                    refine XS.iloadN X0.here hx rfl (hb hby d1_54) rfl ?_
                    show Steps p.tables e below (s₁.setTop (mkF m 55 #[.val (.int x0)] [(.int x0)])) _
                    refine XS.bipush X0.here hx rfl (hb hby d1_55) ?_
                    show Steps p.tables e below (s₁.setTop (mkF m 57 #[.val (.int x0)] [(.int (126 : Int32)), (.int x0)])) _
                    by_cases hc57 : x0 = (126 : Int32)
                    · refine XS.icmpNo X0.here hx rfl (hb hby d1_57) rfl (teq hc57).2 ?_
                      show Steps p.tables e below (s₁.setTop (mkF m 60 #[.val (.int x0)] [])) _
                      refine XS.iconst X0.here hx rfl (hb hby d1_60) ?_
                      show Steps p.tables e below (s₁.setTop (mkF m 61 #[.val (.int x0)] [(.int (1 : Int32))])) _
                      refine XS.goto X0.here hx rfl (pc0 := 61) (pc' := 65) rfl (hb hby d1_61) (by decide) (by decide) ?_
                      show Steps p.tables e below (s₁.setTop (mkF m 65 #[.val (.int x0)] [(.int (1 : Int32))])) _
                      have hv : own_unres x0 = (1 : Int32) := by
                        rw [Int32.lt_iff_toInt_lt] at hc3
                        rw [Int32.lt_iff_toInt_lt] at hc15
                        rw [Int32.lt_iff_toInt_lt] at hc21
                        rw [Int32.lt_iff_toInt_lt] at hc27
                        rw [Int32.lt_iff_toInt_lt] at hc33
                        rw [← Int32.toInt_inj] at hc39
                        rw [← Int32.toInt_inj] at hc45
                        rw [← Int32.toInt_inj] at hc51
                        rw [← Int32.toInt_inj] at hc57
                        unfold own_unres; rw [if_pos (by omega)]
                      rw [hv] at hr
                      exact retN X0 hx (t := .boolean) Bd.returns (by simp) (hb hby d1_65) hr
                    · refine XS.icmpYes X0.here hx rfl (pc0 := 57) (pc' := 64) rfl (hb hby d1_57) rfl (feq hc57).2 (by decide) (by decide) ?_
                      show Steps p.tables e below (s₁.setTop (mkF m 64 #[.val (.int x0)] [])) _
                      refine XS.iconst X0.here hx rfl (hb hby d1_64) ?_
                      show Steps p.tables e below (s₁.setTop (mkF m 65 #[.val (.int x0)] [(.int (0 : Int32))])) _
                      have hv : own_unres x0 = (0 : Int32) := by
                        rw [Int32.lt_iff_toInt_lt] at hc3
                        rw [Int32.lt_iff_toInt_lt] at hc15
                        rw [Int32.lt_iff_toInt_lt] at hc21
                        rw [Int32.lt_iff_toInt_lt] at hc27
                        rw [Int32.lt_iff_toInt_lt] at hc33
                        rw [← Int32.toInt_inj] at hc39
                        rw [← Int32.toInt_inj] at hc45
                        rw [← Int32.toInt_inj] at hc51
                        rw [← Int32.toInt_inj] at hc57
                        unfold own_unres; rw [if_neg (by omega)]
                      rw [hv] at hr
                      exact retN X0 hx (t := .boolean) Bd.returns (by simp) (hb hby d1_65) hr
            · refine XS.icmpYes X0.here hx rfl (pc0 := 33) (pc' := 60) rfl (hb hby d1_33) rfl (flt hc33).2.2.2 (by decide) (by decide) ?_
              show Steps p.tables e below (s₁.setTop (mkF m 60 #[.val (.int x0)] [])) _
              refine XS.iconst X0.here hx rfl (hb hby d1_60) ?_
              show Steps p.tables e below (s₁.setTop (mkF m 61 #[.val (.int x0)] [(.int (1 : Int32))])) _
              refine XS.goto X0.here hx rfl (pc0 := 61) (pc' := 65) rfl (hb hby d1_61) (by decide) (by decide) ?_
              show Steps p.tables e below (s₁.setTop (mkF m 65 #[.val (.int x0)] [(.int (1 : Int32))])) _
              have hv : own_unres x0 = (1 : Int32) := by
                rw [Int32.lt_iff_toInt_lt] at hc3
                rw [Int32.lt_iff_toInt_lt] at hc15
                rw [Int32.lt_iff_toInt_lt] at hc21
                rw [Int32.lt_iff_toInt_lt] at hc27
                rw [Int32.lt_iff_toInt_lt] at hc33
                unfold own_unres; rw [if_pos (by omega)]
              rw [hv] at hr
              exact retN X0 hx (t := .boolean) Bd.returns (by simp) (hb hby d1_65) hr
        · refine XS.icmpYes X0.here hx rfl (pc0 := 21) (pc' := 60) rfl (hb hby d1_21) rfl (flt hc21).2.2.2 (by decide) (by decide) ?_
          show Steps p.tables e below (s₁.setTop (mkF m 60 #[.val (.int x0)] [])) _
          refine XS.iconst X0.here hx rfl (hb hby d1_60) ?_
          show Steps p.tables e below (s₁.setTop (mkF m 61 #[.val (.int x0)] [(.int (1 : Int32))])) _
          refine XS.goto X0.here hx rfl (pc0 := 61) (pc' := 65) rfl (hb hby d1_61) (by decide) (by decide) ?_
          show Steps p.tables e below (s₁.setTop (mkF m 65 #[.val (.int x0)] [(.int (1 : Int32))])) _
          have hv : own_unres x0 = (1 : Int32) := by
            rw [Int32.lt_iff_toInt_lt] at hc3
            rw [Int32.lt_iff_toInt_lt] at hc15
            rw [Int32.lt_iff_toInt_lt] at hc21
            unfold own_unres; rw [if_pos (by omega)]
          rw [hv] at hr
          exact retN X0 hx (t := .boolean) Bd.returns (by simp) (hb hby d1_65) hr
    · refine XS.icmpNo X0.here hx rfl (hb hby d1_3) rfl (flt hc3).1 ?_
      show Steps p.tables e below (s₁.setTop (mkF m 6 #[.val (.int x0)] [])) _
      refine XS.iloadN X0.here hx rfl (hb hby d1_6) rfl ?_
      show Steps p.tables e below (s₁.setTop (mkF m 7 #[.val (.int x0)] [(.int x0)])) _
      refine XS.bipush X0.here hx rfl (hb hby d1_7) ?_
      show Steps p.tables e below (s₁.setTop (mkF m 9 #[.val (.int x0)] [(.int (122 : Int32)), (.int x0)])) _
      by_cases hc9 : (122 : Int32) < x0
      · refine XS.icmpNo X0.here hx rfl (hb hby d1_9) rfl (tlt hc9).2.2.2 ?_
        show Steps p.tables e below (s₁.setTop (mkF m 12 #[.val (.int x0)] [])) _
        refine XS.iloadN X0.here hx rfl (hb hby d1_12) rfl ?_
        show Steps p.tables e below (s₁.setTop (mkF m 13 #[.val (.int x0)] [(.int x0)])) _
        refine XS.bipush X0.here hx rfl (hb hby d1_13) ?_
        show Steps p.tables e below (s₁.setTop (mkF m 15 #[.val (.int x0)] [(.int (65 : Int32)), (.int x0)])) _
        by_cases hc15 : x0 < (65 : Int32)
        · refine XS.icmpYes X0.here hx rfl (pc0 := 15) (pc' := 24) rfl (hb hby d1_15) rfl (tlt hc15).1 (by decide) (by decide) ?_
          show Steps p.tables e below (s₁.setTop (mkF m 24 #[.val (.int x0)] [])) _
          refine XS.iloadN X0.here hx rfl (hb hby d1_24) rfl ?_
          show Steps p.tables e below (s₁.setTop (mkF m 25 #[.val (.int x0)] [(.int x0)])) _
          refine XS.bipush X0.here hx rfl (hb hby d1_25) ?_
          show Steps p.tables e below (s₁.setTop (mkF m 27 #[.val (.int x0)] [(.int (48 : Int32)), (.int x0)])) _
          by_cases hc27 : x0 < (48 : Int32)
          · refine XS.icmpYes X0.here hx rfl (pc0 := 27) (pc' := 36) rfl (hb hby d1_27) rfl (tlt hc27).1 (by decide) (by decide) ?_
            show Steps p.tables e below (s₁.setTop (mkF m 36 #[.val (.int x0)] [])) _
            refine XS.iloadN X0.here hx rfl (hb hby d1_36) rfl ?_
            show Steps p.tables e below (s₁.setTop (mkF m 37 #[.val (.int x0)] [(.int x0)])) _
            refine XS.bipush X0.here hx rfl (hb hby d1_37) ?_
            show Steps p.tables e below (s₁.setTop (mkF m 39 #[.val (.int x0)] [(.int (45 : Int32)), (.int x0)])) _
            by_cases hc39 : x0 = (45 : Int32)
            · refine XS.icmpYes X0.here hx rfl (pc0 := 39) (pc' := 60) rfl (hb hby d1_39) rfl (teq hc39).1 (by decide) (by decide) ?_
              show Steps p.tables e below (s₁.setTop (mkF m 60 #[.val (.int x0)] [])) _
              refine XS.iconst X0.here hx rfl (hb hby d1_60) ?_
              show Steps p.tables e below (s₁.setTop (mkF m 61 #[.val (.int x0)] [(.int (1 : Int32))])) _
              refine XS.goto X0.here hx rfl (pc0 := 61) (pc' := 65) rfl (hb hby d1_61) (by decide) (by decide) ?_
              show Steps p.tables e below (s₁.setTop (mkF m 65 #[.val (.int x0)] [(.int (1 : Int32))])) _
              have hv : own_unres x0 = (1 : Int32) := by
                rw [Int32.lt_iff_toInt_lt] at hc3
                rw [Int32.lt_iff_toInt_lt] at hc9
                rw [Int32.lt_iff_toInt_lt] at hc15
                rw [Int32.lt_iff_toInt_lt] at hc27
                rw [← Int32.toInt_inj] at hc39
                unfold own_unres; rw [if_pos (by omega)]
              rw [hv] at hr
              exact retN X0 hx (t := .boolean) Bd.returns (by simp) (hb hby d1_65) hr
            · refine XS.icmpNo X0.here hx rfl (hb hby d1_39) rfl (feq hc39).1 ?_
              show Steps p.tables e below (s₁.setTop (mkF m 42 #[.val (.int x0)] [])) _
              refine XS.iloadN X0.here hx rfl (hb hby d1_42) rfl ?_
              show Steps p.tables e below (s₁.setTop (mkF m 43 #[.val (.int x0)] [(.int x0)])) _
              refine XS.bipush X0.here hx rfl (hb hby d1_43) ?_
              show Steps p.tables e below (s₁.setTop (mkF m 45 #[.val (.int x0)] [(.int (46 : Int32)), (.int x0)])) _
              by_cases hc45 : x0 = (46 : Int32)
              · refine XS.icmpYes X0.here hx rfl (pc0 := 45) (pc' := 60) rfl (hb hby d1_45) rfl (teq hc45).1 (by decide) (by decide) ?_
                show Steps p.tables e below (s₁.setTop (mkF m 60 #[.val (.int x0)] [])) _
                refine XS.iconst X0.here hx rfl (hb hby d1_60) ?_
                show Steps p.tables e below (s₁.setTop (mkF m 61 #[.val (.int x0)] [(.int (1 : Int32))])) _
                refine XS.goto X0.here hx rfl (pc0 := 61) (pc' := 65) rfl (hb hby d1_61) (by decide) (by decide) ?_
                show Steps p.tables e below (s₁.setTop (mkF m 65 #[.val (.int x0)] [(.int (1 : Int32))])) _
                have hv : own_unres x0 = (1 : Int32) := by
                  rw [Int32.lt_iff_toInt_lt] at hc3
                  rw [Int32.lt_iff_toInt_lt] at hc9
                  rw [Int32.lt_iff_toInt_lt] at hc15
                  rw [Int32.lt_iff_toInt_lt] at hc27
                  rw [← Int32.toInt_inj] at hc39
                  rw [← Int32.toInt_inj] at hc45
                  unfold own_unres; rw [if_pos (by omega)]
                rw [hv] at hr
                exact retN X0 hx (t := .boolean) Bd.returns (by simp) (hb hby d1_65) hr
              · refine XS.icmpNo X0.here hx rfl (hb hby d1_45) rfl (feq hc45).1 ?_
                show Steps p.tables e below (s₁.setTop (mkF m 48 #[.val (.int x0)] [])) _
                refine XS.iloadN X0.here hx rfl (hb hby d1_48) rfl ?_
                show Steps p.tables e below (s₁.setTop (mkF m 49 #[.val (.int x0)] [(.int x0)])) _
                refine XS.bipush X0.here hx rfl (hb hby d1_49) ?_
                show Steps p.tables e below (s₁.setTop (mkF m 51 #[.val (.int x0)] [(.int (95 : Int32)), (.int x0)])) _
                by_cases hc51 : x0 = (95 : Int32)
                · refine XS.icmpYes X0.here hx rfl (pc0 := 51) (pc' := 60) rfl (hb hby d1_51) rfl (teq hc51).1 (by decide) (by decide) ?_
                  show Steps p.tables e below (s₁.setTop (mkF m 60 #[.val (.int x0)] [])) _
                  refine XS.iconst X0.here hx rfl (hb hby d1_60) ?_
                  show Steps p.tables e below (s₁.setTop (mkF m 61 #[.val (.int x0)] [(.int (1 : Int32))])) _
                  refine XS.goto X0.here hx rfl (pc0 := 61) (pc' := 65) rfl (hb hby d1_61) (by decide) (by decide) ?_
                  show Steps p.tables e below (s₁.setTop (mkF m 65 #[.val (.int x0)] [(.int (1 : Int32))])) _
                  have hv : own_unres x0 = (1 : Int32) := by
                    rw [Int32.lt_iff_toInt_lt] at hc3
                    rw [Int32.lt_iff_toInt_lt] at hc9
                    rw [Int32.lt_iff_toInt_lt] at hc15
                    rw [Int32.lt_iff_toInt_lt] at hc27
                    rw [← Int32.toInt_inj] at hc39
                    rw [← Int32.toInt_inj] at hc45
                    rw [← Int32.toInt_inj] at hc51
                    unfold own_unres; rw [if_pos (by omega)]
                  rw [hv] at hr
                  exact retN X0 hx (t := .boolean) Bd.returns (by simp) (hb hby d1_65) hr
                · refine XS.icmpNo X0.here hx rfl (hb hby d1_51) rfl (feq hc51).1 ?_
                  show Steps p.tables e below (s₁.setTop (mkF m 54 #[.val (.int x0)] [])) _
                  refine XS.iloadN X0.here hx rfl (hb hby d1_54) rfl ?_
                  show Steps p.tables e below (s₁.setTop (mkF m 55 #[.val (.int x0)] [(.int x0)])) _
                  refine XS.bipush X0.here hx rfl (hb hby d1_55) ?_
                  show Steps p.tables e below (s₁.setTop (mkF m 57 #[.val (.int x0)] [(.int (126 : Int32)), (.int x0)])) _
                  by_cases hc57 : x0 = (126 : Int32)
                  · refine XS.icmpNo X0.here hx rfl (hb hby d1_57) rfl (teq hc57).2 ?_
                    show Steps p.tables e below (s₁.setTop (mkF m 60 #[.val (.int x0)] [])) _
                    refine XS.iconst X0.here hx rfl (hb hby d1_60) ?_
                    show Steps p.tables e below (s₁.setTop (mkF m 61 #[.val (.int x0)] [(.int (1 : Int32))])) _
                    refine XS.goto X0.here hx rfl (pc0 := 61) (pc' := 65) rfl (hb hby d1_61) (by decide) (by decide) ?_
                    show Steps p.tables e below (s₁.setTop (mkF m 65 #[.val (.int x0)] [(.int (1 : Int32))])) _
                    have hv : own_unres x0 = (1 : Int32) := by
                      rw [Int32.lt_iff_toInt_lt] at hc3
                      rw [Int32.lt_iff_toInt_lt] at hc9
                      rw [Int32.lt_iff_toInt_lt] at hc15
                      rw [Int32.lt_iff_toInt_lt] at hc27
                      rw [← Int32.toInt_inj] at hc39
                      rw [← Int32.toInt_inj] at hc45
                      rw [← Int32.toInt_inj] at hc51
                      rw [← Int32.toInt_inj] at hc57
                      unfold own_unres; rw [if_pos (by omega)]
                    rw [hv] at hr
                    exact retN X0 hx (t := .boolean) Bd.returns (by simp) (hb hby d1_65) hr
                  · refine XS.icmpYes X0.here hx rfl (pc0 := 57) (pc' := 64) rfl (hb hby d1_57) rfl (feq hc57).2 (by decide) (by decide) ?_
                    show Steps p.tables e below (s₁.setTop (mkF m 64 #[.val (.int x0)] [])) _
                    refine XS.iconst X0.here hx rfl (hb hby d1_64) ?_
                    show Steps p.tables e below (s₁.setTop (mkF m 65 #[.val (.int x0)] [(.int (0 : Int32))])) _
                    have hv : own_unres x0 = (0 : Int32) := by
                      rw [Int32.lt_iff_toInt_lt] at hc3
                      rw [Int32.lt_iff_toInt_lt] at hc9
                      rw [Int32.lt_iff_toInt_lt] at hc15
                      rw [Int32.lt_iff_toInt_lt] at hc27
                      rw [← Int32.toInt_inj] at hc39
                      rw [← Int32.toInt_inj] at hc45
                      rw [← Int32.toInt_inj] at hc51
                      rw [← Int32.toInt_inj] at hc57
                      unfold own_unres; rw [if_neg (by omega)]
                    rw [hv] at hr
                    exact retN X0 hx (t := .boolean) Bd.returns (by simp) (hb hby d1_65) hr
          · refine XS.icmpNo X0.here hx rfl (hb hby d1_27) rfl (flt hc27).1 ?_
            show Steps p.tables e below (s₁.setTop (mkF m 30 #[.val (.int x0)] [])) _
            refine XS.iloadN X0.here hx rfl (hb hby d1_30) rfl ?_
            show Steps p.tables e below (s₁.setTop (mkF m 31 #[.val (.int x0)] [(.int x0)])) _
            refine XS.bipush X0.here hx rfl (hb hby d1_31) ?_
            show Steps p.tables e below (s₁.setTop (mkF m 33 #[.val (.int x0)] [(.int (57 : Int32)), (.int x0)])) _
            by_cases hc33 : (57 : Int32) < x0
            · refine XS.icmpNo X0.here hx rfl (hb hby d1_33) rfl (tlt hc33).2.2.2 ?_
              show Steps p.tables e below (s₁.setTop (mkF m 36 #[.val (.int x0)] [])) _
              refine XS.iloadN X0.here hx rfl (hb hby d1_36) rfl ?_
              show Steps p.tables e below (s₁.setTop (mkF m 37 #[.val (.int x0)] [(.int x0)])) _
              refine XS.bipush X0.here hx rfl (hb hby d1_37) ?_
              show Steps p.tables e below (s₁.setTop (mkF m 39 #[.val (.int x0)] [(.int (45 : Int32)), (.int x0)])) _
              by_cases hc39 : x0 = (45 : Int32)
              · refine XS.icmpYes X0.here hx rfl (pc0 := 39) (pc' := 60) rfl (hb hby d1_39) rfl (teq hc39).1 (by decide) (by decide) ?_
                show Steps p.tables e below (s₁.setTop (mkF m 60 #[.val (.int x0)] [])) _
                refine XS.iconst X0.here hx rfl (hb hby d1_60) ?_
                show Steps p.tables e below (s₁.setTop (mkF m 61 #[.val (.int x0)] [(.int (1 : Int32))])) _
                refine XS.goto X0.here hx rfl (pc0 := 61) (pc' := 65) rfl (hb hby d1_61) (by decide) (by decide) ?_
                show Steps p.tables e below (s₁.setTop (mkF m 65 #[.val (.int x0)] [(.int (1 : Int32))])) _
                have hv : own_unres x0 = (1 : Int32) := by
                  rw [Int32.lt_iff_toInt_lt] at hc3
                  rw [Int32.lt_iff_toInt_lt] at hc9
                  rw [Int32.lt_iff_toInt_lt] at hc15
                  rw [Int32.lt_iff_toInt_lt] at hc27
                  rw [Int32.lt_iff_toInt_lt] at hc33
                  rw [← Int32.toInt_inj] at hc39
                  unfold own_unres; rw [if_pos (by omega)]
                rw [hv] at hr
                exact retN X0 hx (t := .boolean) Bd.returns (by simp) (hb hby d1_65) hr
              · refine XS.icmpNo X0.here hx rfl (hb hby d1_39) rfl (feq hc39).1 ?_
                show Steps p.tables e below (s₁.setTop (mkF m 42 #[.val (.int x0)] [])) _
                refine XS.iloadN X0.here hx rfl (hb hby d1_42) rfl ?_
                show Steps p.tables e below (s₁.setTop (mkF m 43 #[.val (.int x0)] [(.int x0)])) _
                refine XS.bipush X0.here hx rfl (hb hby d1_43) ?_
                show Steps p.tables e below (s₁.setTop (mkF m 45 #[.val (.int x0)] [(.int (46 : Int32)), (.int x0)])) _
                by_cases hc45 : x0 = (46 : Int32)
                · refine XS.icmpYes X0.here hx rfl (pc0 := 45) (pc' := 60) rfl (hb hby d1_45) rfl (teq hc45).1 (by decide) (by decide) ?_
                  show Steps p.tables e below (s₁.setTop (mkF m 60 #[.val (.int x0)] [])) _
                  refine XS.iconst X0.here hx rfl (hb hby d1_60) ?_
                  show Steps p.tables e below (s₁.setTop (mkF m 61 #[.val (.int x0)] [(.int (1 : Int32))])) _
                  refine XS.goto X0.here hx rfl (pc0 := 61) (pc' := 65) rfl (hb hby d1_61) (by decide) (by decide) ?_
                  show Steps p.tables e below (s₁.setTop (mkF m 65 #[.val (.int x0)] [(.int (1 : Int32))])) _
                  have hv : own_unres x0 = (1 : Int32) := by
                    rw [Int32.lt_iff_toInt_lt] at hc3
                    rw [Int32.lt_iff_toInt_lt] at hc9
                    rw [Int32.lt_iff_toInt_lt] at hc15
                    rw [Int32.lt_iff_toInt_lt] at hc27
                    rw [Int32.lt_iff_toInt_lt] at hc33
                    rw [← Int32.toInt_inj] at hc39
                    rw [← Int32.toInt_inj] at hc45
                    unfold own_unres; rw [if_pos (by omega)]
                  rw [hv] at hr
                  exact retN X0 hx (t := .boolean) Bd.returns (by simp) (hb hby d1_65) hr
                · refine XS.icmpNo X0.here hx rfl (hb hby d1_45) rfl (feq hc45).1 ?_
                  show Steps p.tables e below (s₁.setTop (mkF m 48 #[.val (.int x0)] [])) _
                  refine XS.iloadN X0.here hx rfl (hb hby d1_48) rfl ?_
                  show Steps p.tables e below (s₁.setTop (mkF m 49 #[.val (.int x0)] [(.int x0)])) _
                  refine XS.bipush X0.here hx rfl (hb hby d1_49) ?_
                  show Steps p.tables e below (s₁.setTop (mkF m 51 #[.val (.int x0)] [(.int (95 : Int32)), (.int x0)])) _
                  by_cases hc51 : x0 = (95 : Int32)
                  · refine XS.icmpYes X0.here hx rfl (pc0 := 51) (pc' := 60) rfl (hb hby d1_51) rfl (teq hc51).1 (by decide) (by decide) ?_
                    show Steps p.tables e below (s₁.setTop (mkF m 60 #[.val (.int x0)] [])) _
                    refine XS.iconst X0.here hx rfl (hb hby d1_60) ?_
                    show Steps p.tables e below (s₁.setTop (mkF m 61 #[.val (.int x0)] [(.int (1 : Int32))])) _
                    refine XS.goto X0.here hx rfl (pc0 := 61) (pc' := 65) rfl (hb hby d1_61) (by decide) (by decide) ?_
                    show Steps p.tables e below (s₁.setTop (mkF m 65 #[.val (.int x0)] [(.int (1 : Int32))])) _
                    have hv : own_unres x0 = (1 : Int32) := by
                      rw [Int32.lt_iff_toInt_lt] at hc3
                      rw [Int32.lt_iff_toInt_lt] at hc9
                      rw [Int32.lt_iff_toInt_lt] at hc15
                      rw [Int32.lt_iff_toInt_lt] at hc27
                      rw [Int32.lt_iff_toInt_lt] at hc33
                      rw [← Int32.toInt_inj] at hc39
                      rw [← Int32.toInt_inj] at hc45
                      rw [← Int32.toInt_inj] at hc51
                      unfold own_unres; rw [if_pos (by omega)]
                    rw [hv] at hr
                    exact retN X0 hx (t := .boolean) Bd.returns (by simp) (hb hby d1_65) hr
                  · refine XS.icmpNo X0.here hx rfl (hb hby d1_51) rfl (feq hc51).1 ?_
                    show Steps p.tables e below (s₁.setTop (mkF m 54 #[.val (.int x0)] [])) _
                    refine XS.iloadN X0.here hx rfl (hb hby d1_54) rfl ?_
                    show Steps p.tables e below (s₁.setTop (mkF m 55 #[.val (.int x0)] [(.int x0)])) _
                    refine XS.bipush X0.here hx rfl (hb hby d1_55) ?_
                    show Steps p.tables e below (s₁.setTop (mkF m 57 #[.val (.int x0)] [(.int (126 : Int32)), (.int x0)])) _
                    by_cases hc57 : x0 = (126 : Int32)
                    · refine XS.icmpNo X0.here hx rfl (hb hby d1_57) rfl (teq hc57).2 ?_
                      show Steps p.tables e below (s₁.setTop (mkF m 60 #[.val (.int x0)] [])) _
                      refine XS.iconst X0.here hx rfl (hb hby d1_60) ?_
                      show Steps p.tables e below (s₁.setTop (mkF m 61 #[.val (.int x0)] [(.int (1 : Int32))])) _
                      refine XS.goto X0.here hx rfl (pc0 := 61) (pc' := 65) rfl (hb hby d1_61) (by decide) (by decide) ?_
                      show Steps p.tables e below (s₁.setTop (mkF m 65 #[.val (.int x0)] [(.int (1 : Int32))])) _
                      have hv : own_unres x0 = (1 : Int32) := by
                        rw [Int32.lt_iff_toInt_lt] at hc3
                        rw [Int32.lt_iff_toInt_lt] at hc9
                        rw [Int32.lt_iff_toInt_lt] at hc15
                        rw [Int32.lt_iff_toInt_lt] at hc27
                        rw [Int32.lt_iff_toInt_lt] at hc33
                        rw [← Int32.toInt_inj] at hc39
                        rw [← Int32.toInt_inj] at hc45
                        rw [← Int32.toInt_inj] at hc51
                        rw [← Int32.toInt_inj] at hc57
                        unfold own_unres; rw [if_pos (by omega)]
                      rw [hv] at hr
                      exact retN X0 hx (t := .boolean) Bd.returns (by simp) (hb hby d1_65) hr
                    · refine XS.icmpYes X0.here hx rfl (pc0 := 57) (pc' := 64) rfl (hb hby d1_57) rfl (feq hc57).2 (by decide) (by decide) ?_
                      show Steps p.tables e below (s₁.setTop (mkF m 64 #[.val (.int x0)] [])) _
                      refine XS.iconst X0.here hx rfl (hb hby d1_64) ?_
                      show Steps p.tables e below (s₁.setTop (mkF m 65 #[.val (.int x0)] [(.int (0 : Int32))])) _
                      have hv : own_unres x0 = (0 : Int32) := by
                        rw [Int32.lt_iff_toInt_lt] at hc3
                        rw [Int32.lt_iff_toInt_lt] at hc9
                        rw [Int32.lt_iff_toInt_lt] at hc15
                        rw [Int32.lt_iff_toInt_lt] at hc27
                        rw [Int32.lt_iff_toInt_lt] at hc33
                        rw [← Int32.toInt_inj] at hc39
                        rw [← Int32.toInt_inj] at hc45
                        rw [← Int32.toInt_inj] at hc51
                        rw [← Int32.toInt_inj] at hc57
                        unfold own_unres; rw [if_neg (by omega)]
                      rw [hv] at hr
                      exact retN X0 hx (t := .boolean) Bd.returns (by simp) (hb hby d1_65) hr
            · refine XS.icmpYes X0.here hx rfl (pc0 := 33) (pc' := 60) rfl (hb hby d1_33) rfl (flt hc33).2.2.2 (by decide) (by decide) ?_
              show Steps p.tables e below (s₁.setTop (mkF m 60 #[.val (.int x0)] [])) _
              refine XS.iconst X0.here hx rfl (hb hby d1_60) ?_
              show Steps p.tables e below (s₁.setTop (mkF m 61 #[.val (.int x0)] [(.int (1 : Int32))])) _
              refine XS.goto X0.here hx rfl (pc0 := 61) (pc' := 65) rfl (hb hby d1_61) (by decide) (by decide) ?_
              show Steps p.tables e below (s₁.setTop (mkF m 65 #[.val (.int x0)] [(.int (1 : Int32))])) _
              have hv : own_unres x0 = (1 : Int32) := by
                rw [Int32.lt_iff_toInt_lt] at hc3
                rw [Int32.lt_iff_toInt_lt] at hc9
                rw [Int32.lt_iff_toInt_lt] at hc15
                rw [Int32.lt_iff_toInt_lt] at hc27
                rw [Int32.lt_iff_toInt_lt] at hc33
                unfold own_unres; rw [if_pos (by omega)]
              rw [hv] at hr
              exact retN X0 hx (t := .boolean) Bd.returns (by simp) (hb hby d1_65) hr
        · refine XS.icmpNo X0.here hx rfl (hb hby d1_15) rfl (flt hc15).1 ?_
          show Steps p.tables e below (s₁.setTop (mkF m 18 #[.val (.int x0)] [])) _
          refine XS.iloadN X0.here hx rfl (hb hby d1_18) rfl ?_
          show Steps p.tables e below (s₁.setTop (mkF m 19 #[.val (.int x0)] [(.int x0)])) _
          refine XS.bipush X0.here hx rfl (hb hby d1_19) ?_
          show Steps p.tables e below (s₁.setTop (mkF m 21 #[.val (.int x0)] [(.int (90 : Int32)), (.int x0)])) _
          by_cases hc21 : (90 : Int32) < x0
          · refine XS.icmpNo X0.here hx rfl (hb hby d1_21) rfl (tlt hc21).2.2.2 ?_
            show Steps p.tables e below (s₁.setTop (mkF m 24 #[.val (.int x0)] [])) _
            refine XS.iloadN X0.here hx rfl (hb hby d1_24) rfl ?_
            show Steps p.tables e below (s₁.setTop (mkF m 25 #[.val (.int x0)] [(.int x0)])) _
            refine XS.bipush X0.here hx rfl (hb hby d1_25) ?_
            show Steps p.tables e below (s₁.setTop (mkF m 27 #[.val (.int x0)] [(.int (48 : Int32)), (.int x0)])) _
            by_cases hc27 : x0 < (48 : Int32)
            · refine XS.icmpYes X0.here hx rfl (pc0 := 27) (pc' := 36) rfl (hb hby d1_27) rfl (tlt hc27).1 (by decide) (by decide) ?_
              show Steps p.tables e below (s₁.setTop (mkF m 36 #[.val (.int x0)] [])) _
              refine XS.iloadN X0.here hx rfl (hb hby d1_36) rfl ?_
              show Steps p.tables e below (s₁.setTop (mkF m 37 #[.val (.int x0)] [(.int x0)])) _
              refine XS.bipush X0.here hx rfl (hb hby d1_37) ?_
              show Steps p.tables e below (s₁.setTop (mkF m 39 #[.val (.int x0)] [(.int (45 : Int32)), (.int x0)])) _
              by_cases hc39 : x0 = (45 : Int32)
              · refine XS.icmpYes X0.here hx rfl (pc0 := 39) (pc' := 60) rfl (hb hby d1_39) rfl (teq hc39).1 (by decide) (by decide) ?_
                show Steps p.tables e below (s₁.setTop (mkF m 60 #[.val (.int x0)] [])) _
                refine XS.iconst X0.here hx rfl (hb hby d1_60) ?_
                show Steps p.tables e below (s₁.setTop (mkF m 61 #[.val (.int x0)] [(.int (1 : Int32))])) _
                refine XS.goto X0.here hx rfl (pc0 := 61) (pc' := 65) rfl (hb hby d1_61) (by decide) (by decide) ?_
                show Steps p.tables e below (s₁.setTop (mkF m 65 #[.val (.int x0)] [(.int (1 : Int32))])) _
                have hv : own_unres x0 = (1 : Int32) := by
                  rw [Int32.lt_iff_toInt_lt] at hc3
                  rw [Int32.lt_iff_toInt_lt] at hc9
                  rw [Int32.lt_iff_toInt_lt] at hc15
                  rw [Int32.lt_iff_toInt_lt] at hc21
                  rw [Int32.lt_iff_toInt_lt] at hc27
                  rw [← Int32.toInt_inj] at hc39
                  unfold own_unres; rw [if_pos (by omega)]
                rw [hv] at hr
                exact retN X0 hx (t := .boolean) Bd.returns (by simp) (hb hby d1_65) hr
              · refine XS.icmpNo X0.here hx rfl (hb hby d1_39) rfl (feq hc39).1 ?_
                show Steps p.tables e below (s₁.setTop (mkF m 42 #[.val (.int x0)] [])) _
                refine XS.iloadN X0.here hx rfl (hb hby d1_42) rfl ?_
                show Steps p.tables e below (s₁.setTop (mkF m 43 #[.val (.int x0)] [(.int x0)])) _
                refine XS.bipush X0.here hx rfl (hb hby d1_43) ?_
                show Steps p.tables e below (s₁.setTop (mkF m 45 #[.val (.int x0)] [(.int (46 : Int32)), (.int x0)])) _
                by_cases hc45 : x0 = (46 : Int32)
                · refine XS.icmpYes X0.here hx rfl (pc0 := 45) (pc' := 60) rfl (hb hby d1_45) rfl (teq hc45).1 (by decide) (by decide) ?_
                  show Steps p.tables e below (s₁.setTop (mkF m 60 #[.val (.int x0)] [])) _
                  refine XS.iconst X0.here hx rfl (hb hby d1_60) ?_
                  show Steps p.tables e below (s₁.setTop (mkF m 61 #[.val (.int x0)] [(.int (1 : Int32))])) _
                  refine XS.goto X0.here hx rfl (pc0 := 61) (pc' := 65) rfl (hb hby d1_61) (by decide) (by decide) ?_
                  show Steps p.tables e below (s₁.setTop (mkF m 65 #[.val (.int x0)] [(.int (1 : Int32))])) _
                  have hv : own_unres x0 = (1 : Int32) := by
                    rw [Int32.lt_iff_toInt_lt] at hc3
                    rw [Int32.lt_iff_toInt_lt] at hc9
                    rw [Int32.lt_iff_toInt_lt] at hc15
                    rw [Int32.lt_iff_toInt_lt] at hc21
                    rw [Int32.lt_iff_toInt_lt] at hc27
                    rw [← Int32.toInt_inj] at hc39
                    rw [← Int32.toInt_inj] at hc45
                    unfold own_unres; rw [if_pos (by omega)]
                  rw [hv] at hr
                  exact retN X0 hx (t := .boolean) Bd.returns (by simp) (hb hby d1_65) hr
                · refine XS.icmpNo X0.here hx rfl (hb hby d1_45) rfl (feq hc45).1 ?_
                  show Steps p.tables e below (s₁.setTop (mkF m 48 #[.val (.int x0)] [])) _
                  refine XS.iloadN X0.here hx rfl (hb hby d1_48) rfl ?_
                  show Steps p.tables e below (s₁.setTop (mkF m 49 #[.val (.int x0)] [(.int x0)])) _
                  refine XS.bipush X0.here hx rfl (hb hby d1_49) ?_
                  show Steps p.tables e below (s₁.setTop (mkF m 51 #[.val (.int x0)] [(.int (95 : Int32)), (.int x0)])) _
                  by_cases hc51 : x0 = (95 : Int32)
                  · refine XS.icmpYes X0.here hx rfl (pc0 := 51) (pc' := 60) rfl (hb hby d1_51) rfl (teq hc51).1 (by decide) (by decide) ?_
                    show Steps p.tables e below (s₁.setTop (mkF m 60 #[.val (.int x0)] [])) _
                    refine XS.iconst X0.here hx rfl (hb hby d1_60) ?_
                    show Steps p.tables e below (s₁.setTop (mkF m 61 #[.val (.int x0)] [(.int (1 : Int32))])) _
                    refine XS.goto X0.here hx rfl (pc0 := 61) (pc' := 65) rfl (hb hby d1_61) (by decide) (by decide) ?_
                    show Steps p.tables e below (s₁.setTop (mkF m 65 #[.val (.int x0)] [(.int (1 : Int32))])) _
                    have hv : own_unres x0 = (1 : Int32) := by
                      rw [Int32.lt_iff_toInt_lt] at hc3
                      rw [Int32.lt_iff_toInt_lt] at hc9
                      rw [Int32.lt_iff_toInt_lt] at hc15
                      rw [Int32.lt_iff_toInt_lt] at hc21
                      rw [Int32.lt_iff_toInt_lt] at hc27
                      rw [← Int32.toInt_inj] at hc39
                      rw [← Int32.toInt_inj] at hc45
                      rw [← Int32.toInt_inj] at hc51
                      unfold own_unres; rw [if_pos (by omega)]
                    rw [hv] at hr
                    exact retN X0 hx (t := .boolean) Bd.returns (by simp) (hb hby d1_65) hr
                  · refine XS.icmpNo X0.here hx rfl (hb hby d1_51) rfl (feq hc51).1 ?_
                    show Steps p.tables e below (s₁.setTop (mkF m 54 #[.val (.int x0)] [])) _
                    refine XS.iloadN X0.here hx rfl (hb hby d1_54) rfl ?_
                    show Steps p.tables e below (s₁.setTop (mkF m 55 #[.val (.int x0)] [(.int x0)])) _
                    refine XS.bipush X0.here hx rfl (hb hby d1_55) ?_
                    show Steps p.tables e below (s₁.setTop (mkF m 57 #[.val (.int x0)] [(.int (126 : Int32)), (.int x0)])) _
                    by_cases hc57 : x0 = (126 : Int32)
                    · refine XS.icmpNo X0.here hx rfl (hb hby d1_57) rfl (teq hc57).2 ?_
                      show Steps p.tables e below (s₁.setTop (mkF m 60 #[.val (.int x0)] [])) _
                      refine XS.iconst X0.here hx rfl (hb hby d1_60) ?_
                      show Steps p.tables e below (s₁.setTop (mkF m 61 #[.val (.int x0)] [(.int (1 : Int32))])) _
                      refine XS.goto X0.here hx rfl (pc0 := 61) (pc' := 65) rfl (hb hby d1_61) (by decide) (by decide) ?_
                      show Steps p.tables e below (s₁.setTop (mkF m 65 #[.val (.int x0)] [(.int (1 : Int32))])) _
                      have hv : own_unres x0 = (1 : Int32) := by
                        rw [Int32.lt_iff_toInt_lt] at hc3
                        rw [Int32.lt_iff_toInt_lt] at hc9
                        rw [Int32.lt_iff_toInt_lt] at hc15
                        rw [Int32.lt_iff_toInt_lt] at hc21
                        rw [Int32.lt_iff_toInt_lt] at hc27
                        rw [← Int32.toInt_inj] at hc39
                        rw [← Int32.toInt_inj] at hc45
                        rw [← Int32.toInt_inj] at hc51
                        rw [← Int32.toInt_inj] at hc57
                        unfold own_unres; rw [if_pos (by omega)]
                      rw [hv] at hr
                      exact retN X0 hx (t := .boolean) Bd.returns (by simp) (hb hby d1_65) hr
                    · refine XS.icmpYes X0.here hx rfl (pc0 := 57) (pc' := 64) rfl (hb hby d1_57) rfl (feq hc57).2 (by decide) (by decide) ?_
                      show Steps p.tables e below (s₁.setTop (mkF m 64 #[.val (.int x0)] [])) _
                      refine XS.iconst X0.here hx rfl (hb hby d1_64) ?_
                      show Steps p.tables e below (s₁.setTop (mkF m 65 #[.val (.int x0)] [(.int (0 : Int32))])) _
                      have hv : own_unres x0 = (0 : Int32) := by
                        rw [Int32.lt_iff_toInt_lt] at hc3
                        rw [Int32.lt_iff_toInt_lt] at hc9
                        rw [Int32.lt_iff_toInt_lt] at hc15
                        rw [Int32.lt_iff_toInt_lt] at hc21
                        rw [Int32.lt_iff_toInt_lt] at hc27
                        rw [← Int32.toInt_inj] at hc39
                        rw [← Int32.toInt_inj] at hc45
                        rw [← Int32.toInt_inj] at hc51
                        rw [← Int32.toInt_inj] at hc57
                        unfold own_unres; rw [if_neg (by omega)]
                      rw [hv] at hr
                      exact retN X0 hx (t := .boolean) Bd.returns (by simp) (hb hby d1_65) hr
            · refine XS.icmpNo X0.here hx rfl (hb hby d1_27) rfl (flt hc27).1 ?_
              show Steps p.tables e below (s₁.setTop (mkF m 30 #[.val (.int x0)] [])) _
              refine XS.iloadN X0.here hx rfl (hb hby d1_30) rfl ?_
              show Steps p.tables e below (s₁.setTop (mkF m 31 #[.val (.int x0)] [(.int x0)])) _
              refine XS.bipush X0.here hx rfl (hb hby d1_31) ?_
              show Steps p.tables e below (s₁.setTop (mkF m 33 #[.val (.int x0)] [(.int (57 : Int32)), (.int x0)])) _
              by_cases hc33 : (57 : Int32) < x0
              · refine XS.icmpNo X0.here hx rfl (hb hby d1_33) rfl (tlt hc33).2.2.2 ?_
                show Steps p.tables e below (s₁.setTop (mkF m 36 #[.val (.int x0)] [])) _
                refine XS.iloadN X0.here hx rfl (hb hby d1_36) rfl ?_
                show Steps p.tables e below (s₁.setTop (mkF m 37 #[.val (.int x0)] [(.int x0)])) _
                refine XS.bipush X0.here hx rfl (hb hby d1_37) ?_
                show Steps p.tables e below (s₁.setTop (mkF m 39 #[.val (.int x0)] [(.int (45 : Int32)), (.int x0)])) _
                by_cases hc39 : x0 = (45 : Int32)
                · refine XS.icmpYes X0.here hx rfl (pc0 := 39) (pc' := 60) rfl (hb hby d1_39) rfl (teq hc39).1 (by decide) (by decide) ?_
                  show Steps p.tables e below (s₁.setTop (mkF m 60 #[.val (.int x0)] [])) _
                  refine XS.iconst X0.here hx rfl (hb hby d1_60) ?_
                  show Steps p.tables e below (s₁.setTop (mkF m 61 #[.val (.int x0)] [(.int (1 : Int32))])) _
                  refine XS.goto X0.here hx rfl (pc0 := 61) (pc' := 65) rfl (hb hby d1_61) (by decide) (by decide) ?_
                  show Steps p.tables e below (s₁.setTop (mkF m 65 #[.val (.int x0)] [(.int (1 : Int32))])) _
                  have hv : own_unres x0 = (1 : Int32) := by
                    rw [Int32.lt_iff_toInt_lt] at hc3
                    rw [Int32.lt_iff_toInt_lt] at hc9
                    rw [Int32.lt_iff_toInt_lt] at hc15
                    rw [Int32.lt_iff_toInt_lt] at hc21
                    rw [Int32.lt_iff_toInt_lt] at hc27
                    rw [Int32.lt_iff_toInt_lt] at hc33
                    rw [← Int32.toInt_inj] at hc39
                    unfold own_unres; rw [if_pos (by omega)]
                  rw [hv] at hr
                  exact retN X0 hx (t := .boolean) Bd.returns (by simp) (hb hby d1_65) hr
                · refine XS.icmpNo X0.here hx rfl (hb hby d1_39) rfl (feq hc39).1 ?_
                  show Steps p.tables e below (s₁.setTop (mkF m 42 #[.val (.int x0)] [])) _
                  refine XS.iloadN X0.here hx rfl (hb hby d1_42) rfl ?_
                  show Steps p.tables e below (s₁.setTop (mkF m 43 #[.val (.int x0)] [(.int x0)])) _
                  refine XS.bipush X0.here hx rfl (hb hby d1_43) ?_
                  show Steps p.tables e below (s₁.setTop (mkF m 45 #[.val (.int x0)] [(.int (46 : Int32)), (.int x0)])) _
                  by_cases hc45 : x0 = (46 : Int32)
                  · refine XS.icmpYes X0.here hx rfl (pc0 := 45) (pc' := 60) rfl (hb hby d1_45) rfl (teq hc45).1 (by decide) (by decide) ?_
                    show Steps p.tables e below (s₁.setTop (mkF m 60 #[.val (.int x0)] [])) _
                    refine XS.iconst X0.here hx rfl (hb hby d1_60) ?_
                    show Steps p.tables e below (s₁.setTop (mkF m 61 #[.val (.int x0)] [(.int (1 : Int32))])) _
                    refine XS.goto X0.here hx rfl (pc0 := 61) (pc' := 65) rfl (hb hby d1_61) (by decide) (by decide) ?_
                    show Steps p.tables e below (s₁.setTop (mkF m 65 #[.val (.int x0)] [(.int (1 : Int32))])) _
                    have hv : own_unres x0 = (1 : Int32) := by
                      rw [Int32.lt_iff_toInt_lt] at hc3
                      rw [Int32.lt_iff_toInt_lt] at hc9
                      rw [Int32.lt_iff_toInt_lt] at hc15
                      rw [Int32.lt_iff_toInt_lt] at hc21
                      rw [Int32.lt_iff_toInt_lt] at hc27
                      rw [Int32.lt_iff_toInt_lt] at hc33
                      rw [← Int32.toInt_inj] at hc39
                      rw [← Int32.toInt_inj] at hc45
                      unfold own_unres; rw [if_pos (by omega)]
                    rw [hv] at hr
                    exact retN X0 hx (t := .boolean) Bd.returns (by simp) (hb hby d1_65) hr
                  · refine XS.icmpNo X0.here hx rfl (hb hby d1_45) rfl (feq hc45).1 ?_
                    show Steps p.tables e below (s₁.setTop (mkF m 48 #[.val (.int x0)] [])) _
                    refine XS.iloadN X0.here hx rfl (hb hby d1_48) rfl ?_
                    show Steps p.tables e below (s₁.setTop (mkF m 49 #[.val (.int x0)] [(.int x0)])) _
                    refine XS.bipush X0.here hx rfl (hb hby d1_49) ?_
                    show Steps p.tables e below (s₁.setTop (mkF m 51 #[.val (.int x0)] [(.int (95 : Int32)), (.int x0)])) _
                    by_cases hc51 : x0 = (95 : Int32)
                    · refine XS.icmpYes X0.here hx rfl (pc0 := 51) (pc' := 60) rfl (hb hby d1_51) rfl (teq hc51).1 (by decide) (by decide) ?_
                      show Steps p.tables e below (s₁.setTop (mkF m 60 #[.val (.int x0)] [])) _
                      refine XS.iconst X0.here hx rfl (hb hby d1_60) ?_
                      show Steps p.tables e below (s₁.setTop (mkF m 61 #[.val (.int x0)] [(.int (1 : Int32))])) _
                      refine XS.goto X0.here hx rfl (pc0 := 61) (pc' := 65) rfl (hb hby d1_61) (by decide) (by decide) ?_
                      show Steps p.tables e below (s₁.setTop (mkF m 65 #[.val (.int x0)] [(.int (1 : Int32))])) _
                      have hv : own_unres x0 = (1 : Int32) := by
                        rw [Int32.lt_iff_toInt_lt] at hc3
                        rw [Int32.lt_iff_toInt_lt] at hc9
                        rw [Int32.lt_iff_toInt_lt] at hc15
                        rw [Int32.lt_iff_toInt_lt] at hc21
                        rw [Int32.lt_iff_toInt_lt] at hc27
                        rw [Int32.lt_iff_toInt_lt] at hc33
                        rw [← Int32.toInt_inj] at hc39
                        rw [← Int32.toInt_inj] at hc45
                        rw [← Int32.toInt_inj] at hc51
                        unfold own_unres; rw [if_pos (by omega)]
                      rw [hv] at hr
                      exact retN X0 hx (t := .boolean) Bd.returns (by simp) (hb hby d1_65) hr
                    · refine XS.icmpNo X0.here hx rfl (hb hby d1_51) rfl (feq hc51).1 ?_
                      show Steps p.tables e below (s₁.setTop (mkF m 54 #[.val (.int x0)] [])) _
                      refine XS.iloadN X0.here hx rfl (hb hby d1_54) rfl ?_
                      show Steps p.tables e below (s₁.setTop (mkF m 55 #[.val (.int x0)] [(.int x0)])) _
                      refine XS.bipush X0.here hx rfl (hb hby d1_55) ?_
                      show Steps p.tables e below (s₁.setTop (mkF m 57 #[.val (.int x0)] [(.int (126 : Int32)), (.int x0)])) _
                      by_cases hc57 : x0 = (126 : Int32)
                      · refine XS.icmpNo X0.here hx rfl (hb hby d1_57) rfl (teq hc57).2 ?_
                        show Steps p.tables e below (s₁.setTop (mkF m 60 #[.val (.int x0)] [])) _
                        refine XS.iconst X0.here hx rfl (hb hby d1_60) ?_
                        show Steps p.tables e below (s₁.setTop (mkF m 61 #[.val (.int x0)] [(.int (1 : Int32))])) _
                        refine XS.goto X0.here hx rfl (pc0 := 61) (pc' := 65) rfl (hb hby d1_61) (by decide) (by decide) ?_
                        show Steps p.tables e below (s₁.setTop (mkF m 65 #[.val (.int x0)] [(.int (1 : Int32))])) _
                        have hv : own_unres x0 = (1 : Int32) := by
                          rw [Int32.lt_iff_toInt_lt] at hc3
                          rw [Int32.lt_iff_toInt_lt] at hc9
                          rw [Int32.lt_iff_toInt_lt] at hc15
                          rw [Int32.lt_iff_toInt_lt] at hc21
                          rw [Int32.lt_iff_toInt_lt] at hc27
                          rw [Int32.lt_iff_toInt_lt] at hc33
                          rw [← Int32.toInt_inj] at hc39
                          rw [← Int32.toInt_inj] at hc45
                          rw [← Int32.toInt_inj] at hc51
                          rw [← Int32.toInt_inj] at hc57
                          unfold own_unres; rw [if_pos (by omega)]
                        rw [hv] at hr
                        exact retN X0 hx (t := .boolean) Bd.returns (by simp) (hb hby d1_65) hr
                      · refine XS.icmpYes X0.here hx rfl (pc0 := 57) (pc' := 64) rfl (hb hby d1_57) rfl (feq hc57).2 (by decide) (by decide) ?_
                        show Steps p.tables e below (s₁.setTop (mkF m 64 #[.val (.int x0)] [])) _
                        refine XS.iconst X0.here hx rfl (hb hby d1_64) ?_
                        show Steps p.tables e below (s₁.setTop (mkF m 65 #[.val (.int x0)] [(.int (0 : Int32))])) _
                        have hv : own_unres x0 = (0 : Int32) := by
                          rw [Int32.lt_iff_toInt_lt] at hc3
                          rw [Int32.lt_iff_toInt_lt] at hc9
                          rw [Int32.lt_iff_toInt_lt] at hc15
                          rw [Int32.lt_iff_toInt_lt] at hc21
                          rw [Int32.lt_iff_toInt_lt] at hc27
                          rw [Int32.lt_iff_toInt_lt] at hc33
                          rw [← Int32.toInt_inj] at hc39
                          rw [← Int32.toInt_inj] at hc45
                          rw [← Int32.toInt_inj] at hc51
                          rw [← Int32.toInt_inj] at hc57
                          unfold own_unres; rw [if_neg (by omega)]
                        rw [hv] at hr
                        exact retN X0 hx (t := .boolean) Bd.returns (by simp) (hb hby d1_65) hr
              · refine XS.icmpYes X0.here hx rfl (pc0 := 33) (pc' := 60) rfl (hb hby d1_33) rfl (flt hc33).2.2.2 (by decide) (by decide) ?_
                show Steps p.tables e below (s₁.setTop (mkF m 60 #[.val (.int x0)] [])) _
                refine XS.iconst X0.here hx rfl (hb hby d1_60) ?_
                show Steps p.tables e below (s₁.setTop (mkF m 61 #[.val (.int x0)] [(.int (1 : Int32))])) _
                refine XS.goto X0.here hx rfl (pc0 := 61) (pc' := 65) rfl (hb hby d1_61) (by decide) (by decide) ?_
                show Steps p.tables e below (s₁.setTop (mkF m 65 #[.val (.int x0)] [(.int (1 : Int32))])) _
                have hv : own_unres x0 = (1 : Int32) := by
                  rw [Int32.lt_iff_toInt_lt] at hc3
                  rw [Int32.lt_iff_toInt_lt] at hc9
                  rw [Int32.lt_iff_toInt_lt] at hc15
                  rw [Int32.lt_iff_toInt_lt] at hc21
                  rw [Int32.lt_iff_toInt_lt] at hc27
                  rw [Int32.lt_iff_toInt_lt] at hc33
                  unfold own_unres; rw [if_pos (by omega)]
                rw [hv] at hr
                exact retN X0 hx (t := .boolean) Bd.returns (by simp) (hb hby d1_65) hr
          · refine XS.icmpYes X0.here hx rfl (pc0 := 21) (pc' := 60) rfl (hb hby d1_21) rfl (flt hc21).2.2.2 (by decide) (by decide) ?_
            show Steps p.tables e below (s₁.setTop (mkF m 60 #[.val (.int x0)] [])) _
            refine XS.iconst X0.here hx rfl (hb hby d1_60) ?_
            show Steps p.tables e below (s₁.setTop (mkF m 61 #[.val (.int x0)] [(.int (1 : Int32))])) _
            refine XS.goto X0.here hx rfl (pc0 := 61) (pc' := 65) rfl (hb hby d1_61) (by decide) (by decide) ?_
            show Steps p.tables e below (s₁.setTop (mkF m 65 #[.val (.int x0)] [(.int (1 : Int32))])) _
            have hv : own_unres x0 = (1 : Int32) := by
              rw [Int32.lt_iff_toInt_lt] at hc3
              rw [Int32.lt_iff_toInt_lt] at hc9
              rw [Int32.lt_iff_toInt_lt] at hc15
              rw [Int32.lt_iff_toInt_lt] at hc21
              unfold own_unres; rw [if_pos (by omega)]
            rw [hv] at hr
            exact retN X0 hx (t := .boolean) Bd.returns (by simp) (hb hby d1_65) hr
      · refine XS.icmpYes X0.here hx rfl (pc0 := 9) (pc' := 60) rfl (hb hby d1_9) rfl (flt hc9).2.2.2 (by decide) (by decide) ?_
        show Steps p.tables e below (s₁.setTop (mkF m 60 #[.val (.int x0)] [])) _
        refine XS.iconst X0.here hx rfl (hb hby d1_60) ?_
        show Steps p.tables e below (s₁.setTop (mkF m 61 #[.val (.int x0)] [(.int (1 : Int32))])) _
        refine XS.goto X0.here hx rfl (pc0 := 61) (pc' := 65) rfl (hb hby d1_61) (by decide) (by decide) ?_
        show Steps p.tables e below (s₁.setTop (mkF m 65 #[.val (.int x0)] [(.int (1 : Int32))])) _
        have hv : own_unres x0 = (1 : Int32) := by
          rw [Int32.lt_iff_toInt_lt] at hc3
          rw [Int32.lt_iff_toInt_lt] at hc9
          unfold own_unres; rw [if_pos (by omega)]
        rw [hv] at hr
        exact retN X0 hx (t := .boolean) Bd.returns (by simp) (hb hby d1_65) hr
  · exact ⟨rfl, N0, e0⟩
set_option maxRecDepth 65536 in
set_option maxHeartbeats 40000000 in
theorem rm2 (l : Launch) (Z : State) (a0 : Array Value) (hw : ∀ d ∈ tables_1, d.before a0 Z = true) (ws : List Jvm.Cond) (x0 : Int32)  (h0 : Heap) (n0 : Nat) (Z0 : n0 ≤ h0.size)  :
    MetFree l (⟨"com/example/wardgate/wardgate/util/PercentEncodingIsUnreservedPinLaw", "expected", "(I)Z"⟩ : MethodName) (head1 (Jvm.Cond.code (⟨"com/example/wardgate/wardgate/util/PercentEncodingIsUnreservedPinLaw", "expected", "(I)Z"⟩ : MethodName) method_2_code 1 (some .boolean) :: ws) ({ frames := 0, cells := 0, slots := 0, locals := 0 } : Room)) (fun a U => a = #[(.int x0)] ∧ Z.Warmed39 U.vm ∧ U.heap = h0) (fun _ _ _ _ _ => True) (fun _ U o U' => ∃ v L, o = .returned v ∧ (QP (some (.int (own_exp x0))) h0 n0 v U'.heap L) ∧ FrameEnd U o U' L ({ frames := 0, cells := 0, slots := 0, locals := 0 } : Room).cells ({ frames := 0, cells := 0, slots := 0, locals := 0 } : Room).slots) := by
  refine MetFree.of_bodySF (plainFor_of_name pn_2) hisR ?_
  intro p e s m args below meth c s₁ Bd hml0 hP hK
  obtain ⟨rfl, hZ, hh⟩ := hP
  have hx := Bd.exec
  have hby := Bd.bytes
  have hml : c.maxLocals = 1 := hml0
  have hown : s.vm.findClass "com/example/wardgate/wardgate/util/PercentEncodingIsUnreservedPinLaw" = some m.cls := findClass_of_methodNamed Bd.named
  have hnm := (name_of_methodNamed Bd.named Bd.method).1
  have X0 : Stand p l e ({ frames := 0, cells := 0, slots := 0, locals := 0 } : Room) s m #[(.int x0)] below meth c s₁ [] 0 0 := Stand.of_body Bd
  have e0 : s₁.heap = h0 := by rw [← hh, Bd.state]; rfl
  have N0 := Fr.nil n0
  have pre0 : ∀ t, Steps p.tables e below (s₁.setTop (mkF m 0 #[.val (.int x0)] [])) t → Steps p.tables e below (s₁.setTop (entryFrame m #[(.int x0)] 1)) t := fun t k => castTop (ef_2 m x0) k
  obtain ⟨fs, hr, hrun, hended, hW, hsame⟩ := X0.leave (v := some (.int (own_exp x0))) (fun h => by rw [Bd.returns] at h; cases h)
  refine ⟨_, _, pre0 _ ?_, hrun, hended, _, _, rfl, ?_, ⟨_, rfl⟩, hW, hsame.mono (by decide) (by decide)⟩
  · show Steps p.tables e below (s₁.setTop (mkF m 0 #[.val (.int x0)] [])) _
    refine XS.iloadN X0.here hx rfl (hb hby d2_0) rfl ?_
    show Steps p.tables e below (s₁.setTop (mkF m 1 #[.val (.int x0)] [(.int x0)])) _
    by_cases hc1 : x0 < (0 : Int32)
    · refine XS.ifYes X0.here hx rfl (pc0 := 1) (pc' := 10) rfl (hb hby d2_1) rfl ((if0 _ _).trans (tlt hc1).1) (by decide) (by decide) ?_
      show Steps p.tables e below (s₁.setTop (mkF m 10 #[.val (.int x0)] [])) _
      refine XS.iconst X0.here hx rfl (hb hby d2_10) ?_
      show Steps p.tables e below (s₁.setTop (mkF m 11 #[.val (.int x0)] [(.int (0 : Int32))])) _
      have hv : own_exp x0 = (0 : Int32) := by unfold own_exp; rw [if_pos hc1]
      rw [hv] at hr
      exact retN X0 hx (t := .boolean) Bd.returns (by simp) (hb hby d2_11) hr
    · refine XS.ifNo X0.here hx rfl (hb hby d2_1) rfl ((if0 _ _).trans (flt hc1).1) ?_
      show Steps p.tables e below (s₁.setTop (mkF m 4 #[.val (.int x0)] [])) _
      refine XS.iloadN X0.here hx rfl (hb hby d2_4) rfl ?_
      show Steps p.tables e below (s₁.setTop (mkF m 5 #[.val (.int x0)] [(.int x0)])) _
      refine XS.bipush X0.here hx rfl (hb hby d2_5) ?_
      show Steps p.tables e below (s₁.setTop (mkF m 7 #[.val (.int x0)] [(.int (127 : Int32)), (.int x0)])) _
      by_cases hc7 : (127 : Int32) < x0
      · refine XS.icmpNo X0.here hx rfl (hb hby d2_7) rfl (tlt hc7).2.2.2 ?_
        show Steps p.tables e below (s₁.setTop (mkF m 10 #[.val (.int x0)] [])) _
        refine XS.iconst X0.here hx rfl (hb hby d2_10) ?_
        show Steps p.tables e below (s₁.setTop (mkF m 11 #[.val (.int x0)] [(.int (0 : Int32))])) _
        have hv : own_exp x0 = (0 : Int32) := by unfold own_exp; rw [if_neg hc1, if_pos hc7]
        rw [hv] at hr
        exact retN X0 hx (t := .boolean) Bd.returns (by simp) (hb hby d2_11) hr
      · refine XS.icmpYes X0.here hx rfl (pc0 := 7) (pc' := 12) rfl (hb hby d2_7) rfl (flt hc7).2.2.2 (by decide) (by decide) ?_
        show Steps p.tables e below (s₁.setTop (mkF m 12 #[.val (.int x0)] [])) _
        refine XS.iloadN X0.here hx rfl (hb hby d2_12) rfl ?_
        show Steps p.tables e below (s₁.setTop (mkF m 13 #[.val (.int x0)] [(.int x0)])) _
        refine XS.bipush X0.here hx rfl (hb hby d2_13) ?_
        show Steps p.tables e below (s₁.setTop (mkF m 15 #[.val (.int x0)] [(.int (64 : Int32)), (.int x0)])) _
        by_cases hc15 : x0 < (64 : Int32)
        · refine XS.icmpNo X0.here hx rfl (hb hby d2_15) rfl (tlt hc15).2.1 ?_
          show Steps p.tables e below (s₁.setTop (mkF m 18 #[.val (.int x0)] [])) _
          refine X0.ldc2Long hx hown (mvT hZ (hw _ (List.mem_of_getElem? (i := 8) rfl))) (g := (mkF m 18 #[.val (.int x0)] [])) rfl (hb hby d2_18) _ ?_
          show Steps p.tables e below (s₁.setTop (mkF m 21 #[.val (.int x0)] [(.long (288054454291267584 : Int64))])) _
          refine XS.iloadN X0.here hx rfl (hb hby d2_21) rfl ?_
          show Steps p.tables e below (s₁.setTop (mkF m 22 #[.val (.int x0)] [(.int x0), (.long (288054454291267584 : Int64))])) _
          refine XS.lushr X0.here hx rfl (hb hby d2_22) rfl ?_
          show Steps p.tables e below (s₁.setTop (mkF m 23 #[.val (.int x0)] [(.long (((288054454291267584 : Int64).toUInt64 >>> (x0 &&& 0x3f).toInt64.toUInt64).toInt64))])) _
          refine XS.lconst X0.here hx rfl (hb hby d2_23) ?_
          show Steps p.tables e below (s₁.setTop (mkF m 24 #[.val (.int x0)] [(.long (1 : Int64)), (.long (((288054454291267584 : Int64).toUInt64 >>> (x0 &&& 0x3f).toInt64.toUInt64).toInt64))])) _
          refine XS.land X0.here hx rfl (hb hby d2_24) rfl ?_
          show Steps p.tables e below (s₁.setTop (mkF m 25 #[.val (.int x0)] [(.long ((((288054454291267584 : Int64).toUInt64 >>> (x0 &&& 0x3f).toInt64.toUInt64).toInt64) &&& (1 : Int64)))])) _
          refine XS.lconst X0.here hx rfl (hb hby d2_25) ?_
          show Steps p.tables e below (s₁.setTop (mkF m 26 #[.val (.int x0)] [(.long (0 : Int64)), (.long ((((288054454291267584 : Int64).toUInt64 >>> (x0 &&& 0x3f).toInt64.toUInt64).toInt64) &&& (1 : Int64)))])) _
          refine XS.lcmp X0.here hx rfl (hb hby d2_26) rfl ?_
          show Steps p.tables e below (s₁.setTop (mkF m 27 #[.val (.int x0)] [(.int (lcmpW ((((288054454291267584 : Int64).toUInt64 >>> (x0 &&& 0x3f).toInt64.toUInt64).toInt64) &&& (1 : Int64)) (0 : Int64)))])) _
          by_cases hc27 : (lcmpW ((((288054454291267584 : Int64).toUInt64 >>> (x0 &&& 0x3f).toInt64.toUInt64).toInt64) &&& (1 : Int64)) (0 : Int64)) = (0 : Int32)
          · refine XS.ifYes X0.here hx rfl (pc0 := 27) (pc' := 34) rfl (hb hby d2_27) rfl ((if0 _ _).trans (teq hc27).1) (by decide) (by decide) ?_
            show Steps p.tables e below (s₁.setTop (mkF m 34 #[.val (.int x0)] [])) _
            refine XS.iconst X0.here hx rfl (hb hby d2_34) ?_
            show Steps p.tables e below (s₁.setTop (mkF m 35 #[.val (.int x0)] [(.int (0 : Int32))])) _
            have hv : own_exp x0 = (0 : Int32) := by unfold own_exp; rw [if_neg hc1, if_neg hc7, if_pos hc15, if_pos hc27]
            rw [hv] at hr
            exact retN X0 hx (t := .boolean) Bd.returns (by simp) (hb hby d2_35) hr
          · refine XS.ifNo X0.here hx rfl (hb hby d2_27) rfl ((if0 _ _).trans (feq hc27).1) ?_
            show Steps p.tables e below (s₁.setTop (mkF m 30 #[.val (.int x0)] [])) _
            refine XS.iconst X0.here hx rfl (hb hby d2_30) ?_
            show Steps p.tables e below (s₁.setTop (mkF m 31 #[.val (.int x0)] [(.int (1 : Int32))])) _
            refine XS.goto X0.here hx rfl (pc0 := 31) (pc' := 35) rfl (hb hby d2_31) (by decide) (by decide) ?_
            show Steps p.tables e below (s₁.setTop (mkF m 35 #[.val (.int x0)] [(.int (1 : Int32))])) _
            have hv : own_exp x0 = (1 : Int32) := by unfold own_exp; rw [if_neg hc1, if_neg hc7, if_pos hc15, if_neg hc27]
            rw [hv] at hr
            exact retN X0 hx (t := .boolean) Bd.returns (by simp) (hb hby d2_35) hr
        · refine XS.icmpYes X0.here hx rfl (pc0 := 15) (pc' := 36) rfl (hb hby d2_15) rfl (flt hc15).2.1 (by decide) (by decide) ?_
          show Steps p.tables e below (s₁.setTop (mkF m 36 #[.val (.int x0)] [])) _
          refine X0.ldc2Long hx hown (mvT hZ (hw _ (List.mem_of_getElem? (i := 9) rfl))) (g := (mkF m 36 #[.val (.int x0)] [])) rfl (hb hby d2_36) _ ?_
          show Steps p.tables e below (s₁.setTop (mkF m 39 #[.val (.int x0)] [(.long (5188146764422578174 : Int64))])) _
          refine XS.iloadN X0.here hx rfl (hb hby d2_39) rfl ?_
          show Steps p.tables e below (s₁.setTop (mkF m 40 #[.val (.int x0)] [(.int x0), (.long (5188146764422578174 : Int64))])) _
          refine XS.bipush X0.here hx rfl (hb hby d2_40) ?_
          show Steps p.tables e below (s₁.setTop (mkF m 42 #[.val (.int x0)] [(.int (64 : Int32)), (.int x0), (.long (5188146764422578174 : Int64))])) _
          refine XS.isub X0.here hx rfl (hb hby d2_42) rfl ?_
          show Steps p.tables e below (s₁.setTop (mkF m 43 #[.val (.int x0)] [(.int (x0 - (64 : Int32))), (.long (5188146764422578174 : Int64))])) _
          refine XS.lushr X0.here hx rfl (hb hby d2_43) rfl ?_
          show Steps p.tables e below (s₁.setTop (mkF m 44 #[.val (.int x0)] [(.long (((5188146764422578174 : Int64).toUInt64 >>> ((x0 - (64 : Int32)) &&& 0x3f).toInt64.toUInt64).toInt64))])) _
          refine XS.lconst X0.here hx rfl (hb hby d2_44) ?_
          show Steps p.tables e below (s₁.setTop (mkF m 45 #[.val (.int x0)] [(.long (1 : Int64)), (.long (((5188146764422578174 : Int64).toUInt64 >>> ((x0 - (64 : Int32)) &&& 0x3f).toInt64.toUInt64).toInt64))])) _
          refine XS.land X0.here hx rfl (hb hby d2_45) rfl ?_
          show Steps p.tables e below (s₁.setTop (mkF m 46 #[.val (.int x0)] [(.long ((((5188146764422578174 : Int64).toUInt64 >>> ((x0 - (64 : Int32)) &&& 0x3f).toInt64.toUInt64).toInt64) &&& (1 : Int64)))])) _
          refine XS.lconst X0.here hx rfl (hb hby d2_46) ?_
          show Steps p.tables e below (s₁.setTop (mkF m 47 #[.val (.int x0)] [(.long (0 : Int64)), (.long ((((5188146764422578174 : Int64).toUInt64 >>> ((x0 - (64 : Int32)) &&& 0x3f).toInt64.toUInt64).toInt64) &&& (1 : Int64)))])) _
          refine XS.lcmp X0.here hx rfl (hb hby d2_47) rfl ?_
          show Steps p.tables e below (s₁.setTop (mkF m 48 #[.val (.int x0)] [(.int (lcmpW ((((5188146764422578174 : Int64).toUInt64 >>> ((x0 - (64 : Int32)) &&& 0x3f).toInt64.toUInt64).toInt64) &&& (1 : Int64)) (0 : Int64)))])) _
          by_cases hc48 : (lcmpW ((((5188146764422578174 : Int64).toUInt64 >>> ((x0 - (64 : Int32)) &&& 0x3f).toInt64.toUInt64).toInt64) &&& (1 : Int64)) (0 : Int64)) = (0 : Int32)
          · refine XS.ifYes X0.here hx rfl (pc0 := 48) (pc' := 55) rfl (hb hby d2_48) rfl ((if0 _ _).trans (teq hc48).1) (by decide) (by decide) ?_
            show Steps p.tables e below (s₁.setTop (mkF m 55 #[.val (.int x0)] [])) _
            refine XS.iconst X0.here hx rfl (hb hby d2_55) ?_
            show Steps p.tables e below (s₁.setTop (mkF m 56 #[.val (.int x0)] [(.int (0 : Int32))])) _
            have hv : own_exp x0 = (0 : Int32) := by unfold own_exp; rw [if_neg hc1, if_neg hc7, if_neg hc15, if_pos hc48]
            rw [hv] at hr
            exact retN X0 hx (t := .boolean) Bd.returns (by simp) (hb hby d2_56) hr
          · refine XS.ifNo X0.here hx rfl (hb hby d2_48) rfl ((if0 _ _).trans (feq hc48).1) ?_
            show Steps p.tables e below (s₁.setTop (mkF m 51 #[.val (.int x0)] [])) _
            refine XS.iconst X0.here hx rfl (hb hby d2_51) ?_
            show Steps p.tables e below (s₁.setTop (mkF m 52 #[.val (.int x0)] [(.int (1 : Int32))])) _
            refine XS.goto X0.here hx rfl (pc0 := 52) (pc' := 56) rfl (hb hby d2_52) (by decide) (by decide) ?_
            show Steps p.tables e below (s₁.setTop (mkF m 56 #[.val (.int x0)] [(.int (1 : Int32))])) _
            have hv : own_exp x0 = (1 : Int32) := by unfold own_exp; rw [if_neg hc1, if_neg hc7, if_neg hc15, if_neg hc48]
            rw [hv] at hr
            exact retN X0 hx (t := .boolean) Bd.returns (by simp) (hb hby d2_56) hr
  · exact ⟨rfl, N0, e0⟩
theorem pd__I_Z : parseMethodDescriptor "(I)Z" = some ⟨[.int], some .boolean⟩ := by decide +kernel
set_option maxRecDepth 65536 in
set_option maxHeartbeats 40000000 in
theorem rm0 (l : Launch) (Z : State) (a0 : Array Value) (hw : ∀ d ∈ tables_1, d.before a0 Z = true) (ws : List Jvm.Cond) (x0 : Int32) (x1 : Int32)  (h0 : Heap) (n0 : Nat) (Z0 : n0 ≤ h0.size)  :
    MetFree l x (head1 (Jvm.Cond.code x code maxLocals ret :: ws) room_1) (fun a U => a = #[(.int x0), (.int x1)] ∧ Z.Warmed39 U.vm ∧ U.heap = h0) (fun _ _ _ _ _ => True) (fun _ U o U' => ∃ v L, o = .returned v ∧ (QL n0 v U'.heap L) ∧ FrameEnd U o U' L room_1.cells room_1.slots) := by
  refine MetFree.of_bodySF (plainFor_of_name pn_0) hisR ?_
  intro p e s m args below meth c s₁ Bd hml0 hP hK
  obtain ⟨rfl, hZ, hh⟩ := hP
  have hx := Bd.exec
  have hby := Bd.bytes
  have hml : c.maxLocals = 4 := hml0
  have hown : s.vm.findClass "com/example/wardgate/wardgate/util/PercentEncodingIsUnreservedPinLaw" = some m.cls := findClass_of_methodNamed Bd.named
  have hnm := (name_of_methodNamed Bd.named Bd.method).1
  have X0 : Stand p l e room_1 s m #[(.int x0), (.int x1)] below meth c s₁ [] 0 0 := Stand.of_body Bd
  have e0 : s₁.heap = h0 := by rw [← hh, Bd.state]; rfl
  have N0 := Fr.nil n0
  have pre0 : ∀ t, Steps p.tables e below (s₁.setTop (mkF m 0 #[.val (.int x0), .val (.int x1), .unset, .unset] [])) t → Steps p.tables e below (s₁.setTop (entryFrame m #[(.int x0), (.int x1)] maxLocals)) t := fun t k => castTop (ef_0 m x0 x1) k
  obtain ⟨m1_s0, em1_s0⟩ : ∃ z : Int32, z = (if (x1 &&& (1 : Int32)) = (0 : Int32) then (0 : Int32) else (1 : Int32)) := ⟨_, rfl⟩
  obtain ⟨m2_s0, em2_s0⟩ : ∃ z : Int32, z = (if m1_s0 = (0 : Int32) then x0 else (x0 &&& (127 : Int32))) := ⟨_, rfl⟩
  obtain ⟨_, _, ⟨T3, L3, k3, n3⟩, -, X3, ⟨Lc3, hQ3, l3, y3, z3⟩, st3⟩ := Jvm.LawKit.callS X0 hx (y := (⟨"com/example/wardgate/wardgate/util/PercentEncoding", "isUnreserved", "(I)Z"⟩ : MethodName)) hown (mvT hZ (hw _ (List.mem_of_getElem? (i := 0) rfl))) (mvT hZ (hw _ (List.mem_of_getElem? (i := 1) rfl))) (mvT hZ (hw _ (List.mem_of_getElem? (i := 2) rfl))) (mvT hZ (hw _ (List.mem_of_getElem? (i := 3) rfl))) (by decide) (backOf (W := 0) (rm1 l Z a0 hw [] m2_s0 h0 n0 Z0) hZ (hw _ (List.mem_of_getElem? (i := 3) rfl)) (hw _ (List.mem_of_getElem? (i := 2) rfl)) (by decide) (by decide)) (g := (mkF m 26 #[.val (.int x0), .val (.int x1), .val (.int m1_s0), .val (.int m2_s0)] [(.int m2_s0)])) rfl (by rw [hml]; rfl) (argsL := [(.int m2_s0)]) (rest := []) (lenOf pd__I_Z rfl) rfl (by show 2 * 0 + _ ≤ _; exact Nat.le_of_eq rfl) (hb hby at_26) (fun _ _ => ⟨rfl, e0, (by decide : 0 + 0 ≤ _), (by decide : 0 + 0 ≤ _)⟩)
  dsimp only [Pt.U, Pt.locs, Pt.cells, Pt.slots] at X3 l3 y3 z3 st3 hQ3
  subst l3 y3 z3
  obtain ⟨rfl, N3q, e3⟩ := hQ3
  have N3 := Fr.app N0 N3q
  obtain ⟨_, _, ⟨T4, L4, k4, n4⟩, -, X4, ⟨Lc4, hQ4, l4, y4, z4⟩, st4⟩ := Jvm.LawKit.callS X3 hx (y := (⟨"com/example/wardgate/wardgate/util/PercentEncodingIsUnreservedPinLaw", "expected", "(I)Z"⟩ : MethodName)) hown (mvT hZ (hw _ (List.mem_of_getElem? (i := 4) rfl))) (mvT hZ (hw _ (List.mem_of_getElem? (i := 5) rfl))) (mvT hZ (hw _ (List.mem_of_getElem? (i := 6) rfl))) (mvT hZ (hw _ (List.mem_of_getElem? (i := 7) rfl))) (by decide) (backOf (W := 1) (rm2 l Z a0 hw [] m2_s0 h0 n0 Z0) hZ (hw _ (List.mem_of_getElem? (i := 7) rfl)) (hw _ (List.mem_of_getElem? (i := 6) rfl)) (by decide) (by decide)) (g := (mkF m 30 #[.val (.int x0), .val (.int x1), .val (.int m1_s0), .val (.int m2_s0)] [(.int m2_s0), (.int (own_unres m2_s0))])) rfl (by rw [hml]; rfl) (argsL := [(.int m2_s0)]) (rest := [(.int (own_unres m2_s0))]) (lenOf pd__I_Z rfl) rfl (by show 2 * 0 + _ ≤ _; exact Nat.le_of_eq rfl) (hb hby at_30) (fun _ _ => ⟨rfl, e3, (by decide : 0 + 0 ≤ _), (by decide : 0 + 0 ≤ _)⟩)
  dsimp only [Pt.U, Pt.locs, Pt.cells, Pt.slots] at X4 l4 y4 z4 st4 hQ4
  subst l4 y4 z4
  obtain ⟨rfl, N4q, e4⟩ := hQ4
  have N4 := Fr.app N3 N4q
  obtain ⟨fs, hr, hrun, hended, hW, hsame⟩ := X4.leave (v := some (.int (1 : Int32))) (fun h => by rw [Bd.returns] at h; cases h)
  refine ⟨_, _, pre0 _ ?_, hrun, hended, _, _, rfl, ?_, ⟨_, rfl⟩, hW, hsame.mono (by decide) (by decide)⟩
  · show Steps p.tables e below (s₁.setTop (mkF m 0 #[.val (.int x0), .val (.int x1), .unset, .unset] [])) _
    refine XS.iloadN X0.here hx rfl (hb hby at_0) rfl ?_
    show Steps p.tables e below (s₁.setTop (mkF m 1 #[.val (.int x0), .val (.int x1), .unset, .unset] [(.int x1)])) _
    refine XS.iconst X0.here hx rfl (hb hby at_1) ?_
    show Steps p.tables e below (s₁.setTop (mkF m 2 #[.val (.int x0), .val (.int x1), .unset, .unset] [(.int (1 : Int32)), (.int x1)])) _
    refine XS.iand X0.here hx rfl (hb hby at_2) rfl ?_
    show Steps p.tables e below (s₁.setTop (mkF m 3 #[.val (.int x0), .val (.int x1), .unset, .unset] [(.int (x1 &&& (1 : Int32)))])) _
    have k1 : ∀ (m1_s0 : Int32) t, ((x1 &&& (1 : Int32)) = (0 : Int32) → m1_s0 = (0 : Int32)) → (¬ ((x1 &&& (1 : Int32)) = (0 : Int32)) → m1_s0 = (1 : Int32)) → Steps p.tables e below (s₁.setTop (mkF m 11 #[.val (.int x0), .val (.int x1), .unset, .unset] [(.int m1_s0)])) t → Steps p.tables e below (s₁.setTop (mkF m 3 #[.val (.int x0), .val (.int x1), .unset, .unset] [(.int (x1 &&& (1 : Int32)))])) t := by
      intro m1_s0 t hAm1_s0 hBm1_s0 kk
      by_cases hq3 : (x1 &&& (1 : Int32)) = (0 : Int32)
      · rw [hAm1_s0 hq3] at kk
        refine XS.ifYes X0.here hx rfl (pc0 := 3) (pc' := 10) rfl (hb hby at_3) rfl ((if0 _ _).trans (teq hq3).1) (by decide) (by decide) ?_
        show Steps p.tables e below (s₁.setTop (mkF m 10 #[.val (.int x0), .val (.int x1), .unset, .unset] [])) _
        refine XS.iconst X0.here hx rfl (hb hby at_10) ?_
        exact kk
      · rw [hBm1_s0 hq3] at kk
        refine XS.ifNo X0.here hx rfl (hb hby at_3) rfl ((if0 _ _).trans (feq hq3).1) ?_
        show Steps p.tables e below (s₁.setTop (mkF m 6 #[.val (.int x0), .val (.int x1), .unset, .unset] [])) _
        refine XS.iconst X0.here hx rfl (hb hby at_6) ?_
        show Steps p.tables e below (s₁.setTop (mkF m 7 #[.val (.int x0), .val (.int x1), .unset, .unset] [(.int (1 : Int32))])) _
        refine XS.goto X0.here hx rfl (pc0 := 7) (pc' := 11) rfl (hb hby at_7) (by decide) (by decide) ?_
        exact kk
    refine k1 m1_s0 _ (fun h => by rw [em1_s0, if_pos h]) (fun h => by rw [em1_s0, if_neg h]) ?_
    show Steps p.tables e below (s₁.setTop (mkF m 11 #[.val (.int x0), .val (.int x1), .unset, .unset] [(.int m1_s0)])) _
    refine XS.istoreN X0.here hx rfl (hb hby at_11) rfl (l' := #[.val (.int x0), .val (.int x1), .val (.int m1_s0), .unset]) rfl ?_
    show Steps p.tables e below (s₁.setTop (mkF m 12 #[.val (.int x0), .val (.int x1), .val (.int m1_s0), .unset] [])) _
    refine XS.iloadN X0.here hx rfl (hb hby at_12) rfl ?_
    show Steps p.tables e below (s₁.setTop (mkF m 13 #[.val (.int x0), .val (.int x1), .val (.int m1_s0), .unset] [(.int m1_s0)])) _
    have k2 : ∀ (m2_s0 : Int32) t, (m1_s0 = (0 : Int32) → m2_s0 = x0) → (¬ (m1_s0 = (0 : Int32)) → m2_s0 = (x0 &&& (127 : Int32))) → Steps p.tables e below (s₁.setTop (mkF m 24 #[.val (.int x0), .val (.int x1), .val (.int m1_s0), .unset] [(.int m2_s0)])) t → Steps p.tables e below (s₁.setTop (mkF m 13 #[.val (.int x0), .val (.int x1), .val (.int m1_s0), .unset] [(.int m1_s0)])) t := by
      intro m2_s0 t hAm2_s0 hBm2_s0 kk
      by_cases hq13 : m1_s0 = (0 : Int32)
      · rw [hAm2_s0 hq13] at kk
        refine XS.ifYes X0.here hx rfl (pc0 := 13) (pc' := 23) rfl (hb hby at_13) rfl ((if0 _ _).trans (teq hq13).1) (by decide) (by decide) ?_
        show Steps p.tables e below (s₁.setTop (mkF m 23 #[.val (.int x0), .val (.int x1), .val (.int m1_s0), .unset] [])) _
        refine XS.iloadN X0.here hx rfl (hb hby at_23) rfl ?_
        exact kk
      · rw [hBm2_s0 hq13] at kk
        refine XS.ifNo X0.here hx rfl (hb hby at_13) rfl ((if0 _ _).trans (feq hq13).1) ?_
        show Steps p.tables e below (s₁.setTop (mkF m 16 #[.val (.int x0), .val (.int x1), .val (.int m1_s0), .unset] [])) _
        refine XS.iloadN X0.here hx rfl (hb hby at_16) rfl ?_
        show Steps p.tables e below (s₁.setTop (mkF m 17 #[.val (.int x0), .val (.int x1), .val (.int m1_s0), .unset] [(.int x0)])) _
        refine XS.bipush X0.here hx rfl (hb hby at_17) ?_
        show Steps p.tables e below (s₁.setTop (mkF m 19 #[.val (.int x0), .val (.int x1), .val (.int m1_s0), .unset] [(.int (127 : Int32)), (.int x0)])) _
        refine XS.iand X0.here hx rfl (hb hby at_19) rfl ?_
        show Steps p.tables e below (s₁.setTop (mkF m 20 #[.val (.int x0), .val (.int x1), .val (.int m1_s0), .unset] [(.int (x0 &&& (127 : Int32)))])) _
        refine XS.goto X0.here hx rfl (pc0 := 20) (pc' := 24) rfl (hb hby at_20) (by decide) (by decide) ?_
        exact kk
    refine k2 m2_s0 _ (fun h => by rw [em2_s0, if_pos h]) (fun h => by rw [em2_s0, if_neg h]) ?_
    show Steps p.tables e below (s₁.setTop (mkF m 24 #[.val (.int x0), .val (.int x1), .val (.int m1_s0), .unset] [(.int m2_s0)])) _
    refine XS.istoreN X0.here hx rfl (hb hby at_24) rfl (l' := #[.val (.int x0), .val (.int x1), .val (.int m1_s0), .val (.int m2_s0)]) rfl ?_
    show Steps p.tables e below (s₁.setTop (mkF m 25 #[.val (.int x0), .val (.int x1), .val (.int m1_s0), .val (.int m2_s0)] [])) _
    refine XS.iloadN X0.here hx rfl (hb hby at_25) rfl ?_
    show Steps p.tables e below (s₁.setTop (mkF m 26 #[.val (.int x0), .val (.int x1), .val (.int m1_s0), .val (.int m2_s0)] [(.int m2_s0)])) _
    refine st3 _ ?_
    show Steps p.tables e below (T3.setTop (mkF m 29 #[.val (.int x0), .val (.int x1), .val (.int m1_s0), .val (.int m2_s0)] [(.int (own_unres m2_s0))])) _
    refine XS.iloadN X3.here hx rfl (hb hby at_29) rfl ?_
    show Steps p.tables e below (T3.setTop (mkF m 30 #[.val (.int x0), .val (.int x1), .val (.int m1_s0), .val (.int m2_s0)] [(.int m2_s0), (.int (own_unres m2_s0))])) _
    refine st4 _ ?_
    show Steps p.tables e below (T4.setTop (mkF m 33 #[.val (.int x0), .val (.int x1), .val (.int m1_s0), .val (.int m2_s0)] [(.int (own_exp m2_s0)), (.int (own_unres m2_s0))])) _
    refine XS.icmpNo X4.here hx rfl (hb hby at_33) rfl (teq (own_same m2_s0)).2 ?_
    show Steps p.tables e below (T4.setTop (mkF m 36 #[.val (.int x0), .val (.int x1), .val (.int m1_s0), .val (.int m2_s0)] [])) _
    refine XS.iconst X4.here hx rfl (hb hby at_36) ?_
    show Steps p.tables e below (T4.setTop (mkF m 37 #[.val (.int x0), .val (.int x1), .val (.int m1_s0), .val (.int m2_s0)] [(.int (1 : Int32))])) _
    refine XS.goto X4.here hx rfl (pc0 := 37) (pc' := 41) rfl (hb hby at_37) (by decide) (by decide) ?_
    show Steps p.tables e below (T4.setTop (mkF m 41 #[.val (.int x0), .val (.int x1), .val (.int m1_s0), .val (.int m2_s0)] [(.int (1 : Int32))])) _
    exact retN X4 hx (t := .boolean) Bd.returns (by simp) (hb hby at_41) hr
  · exact ⟨rfl, N4⟩
set_option maxRecDepth 65536 in
set_option maxHeartbeats 40000000 in
theorem comes_1 {Post : Tables → Env → Array Value → State → Outcome → State → Prop} (hpost : ∀ tb e args s v u, (limb_1_1.after args s (.returned v) u = true ∧ limb_1_2.after args s (.returned v) u = true ∧ True) → FrameEnd s (.returned v) u (Jvm.fieldLocs frame_1_writes args s ++ Jvm.arrayLocs frame_1_arrays args s ++ Jvm.staticLocs frame_1_statics s) 0 0 → Post tb e args s (.returned v) u) :
    ArmFor flags0 classFile x code maxLocals ret World_1 tables_1 room_1 Calls_1 rest_1 Pre_1 Post := by
  intro l hfl _ _ p e ha hc hk s m args below hf hA hF happ hP
  obtain ⟨hcalls, hrest, hpre⟩ := hP
  obtain ⟨-, -, -, hnamed, -, -, -, hat⟩ := (Spec.applies_iff hf).mp happ
  obtain ⟨hg, hn⟩ := and_e (Cond.before_iff.mp (show (Jvm.Cond.and given_1 narrow_1).before args s = true from hpre))
  obtain ⟨g1, g2⟩ := and_e hg
  obtain ⟨g3, g4⟩ := and_e g2
  obtain ⟨w0, w1, rfl⟩ : ∃ w0 w1 : Value, args = #[w0, w1] := by
    have hs : args.size = 2 := by simpa [Cond.value, given_1] using g1
    obtain ⟨L⟩ := args
    match L, hs with
    | [w0, w1], _ => exact ⟨w0, w1, rfl⟩
  have hw := fun d (hd : d ∈ tables_1) => atoms_spec (ws := Jvm.Cond.code x code maxLocals ret :: tables_1) hat d (List.mem_cons_of_mem _ hd)
  have hfit : Fit s := fun {y c} hc i hi => by
    obtain ⟨ha, rfl⟩ := Array.getElem?_eq_some_iff.mp hc
    have q := List.all_eq_true.mp ((Array.all_eq_true_iff_forall_mem.mp hF) _ (Array.getElem_mem ha)) i (List.mem_range.mpr hi)
    simpa [Array.getElem?_eq_getElem hi] using q
  obtain ⟨i0, ei0⟩ := is_v g3
  obtain rfl : w0 = (.int i0) := Option.some.inj ei0
  obtain ⟨i1, ei1⟩ := is_v g4
  obtain rfl : w1 = (.int i1) := Option.some.inj ei1
  obtain ⟨n, o, h1, h2, h3, _, L, rfl, ⟨rfl, N⟩, hq⟩ := rm0 l s _ hw tables_1 i0 i1  s.heap s.heap.size (Nat.le_refl _)  p e ha hc hk s m _ below hf ((Spec.applies_iff_loose hf).mp happ).1 ⟨rfl, State.Warmed39.refl s, rfl⟩ trivial
  refine ⟨n, _, h1, h2, h3, hpost _ _ _ _ _ _ ⟨Cond.after_iff.mpr rfl, Cond.after_iff.mpr (eq_i res_at (Term.int_eval (1)) rfl), trivial⟩ ⟨hq.1, hq.2.1, (hq.2.2.sift fun y hy => Or.inr (N y hy)).mono (by decide) (by decide)⟩⟩
theorem main_1_1 : Claimed_1_1 := comes_1 fun _ _ _ _ _ _ h hF => ⟨h.1, hF⟩
theorem main_1_2 : Claimed_1_2 := comes_1 fun _ _ _ _ _ _ h hF => ⟨h.2.1, hF⟩
end Jvm.Pilot.@@N@@
namespace Jvm.Pilot.@@N@@
open Jvm Jvm.ClassFile Sem Op Lib Jvm.Free Jvm.Stand Jvm.Pilot.@@N@@.Jvm.D
/-! MADE BY PROGRAM (witnessworld.py) out of the Statement's table words and the real class files: 9 classes; the members and pool entries that the words name. The judged class is class 1, her method 2. -/
namespace start1
open Jvm.ClassFile
def u (s : String) : CpInfo := .utf8 (stringToUtf16 s)
/-- a pool by its gaps: so many unusable entries, then the entry; so many at the end -/
def gap : Nat → List CpInfo → List CpInfo
  | 0, r => r
  | n + 1, r => .unusable :: gap n r
def poolList (es : List (Nat × CpInfo)) (last : Nat) : List CpInfo := es.foldr (fun e r => gap e.1 (e.2 :: r)) (gap last [])
def pool (es : List (Nat × CpInfo)) (last : Nat) : Array CpInfo := ⟨poolList es last⟩
def fileOf (pool : Array CpInfo) (this : Nat) (attrs : Array Attribute := #[]) (ms : Array MethodInfo := #[]) (fl : Nat := 33) (sup : Nat := 0) (ifs : Array Nat := #[]) (fds : Array FieldInfo := #[]) : ClassFile where
  minorVersion := 0
  majorVersion := 65
  constantPool := pool
  accessFlags := fl
  thisClass := this
  superClass := sup
  interfaces := ifs
  fields := fds
  methods := ms
  attributes := attrs
def plain (name : String) (sup : Option ClassId) : Class where
  name := name
  kind := .ordinary
  loader := none
  accessFlags := 33
  super := sup
  interfaces := #[]
  cf := none
  fields := #[]
  methods := #[]
  instanceTypes := #[]
  staticTypes := #[]
  resolved := #[]
  callSites := []
  init := .initialized
  statics := none
  mirror := none

def pool0 : Array CpInfo := pool [(5, u "<init>"), (0, u "()V"), (1, .class_ 10), (1, u "java/lang/Object")] 113

def k0m0 : Method := { name := "<init>", desc := "()V", sig := { parameters := [], returnType := none }, accessFlags := 1, code := none }
/-- java/lang/Object -/
def k0 : Class := { plain "java/lang/Object" none with
  accessFlags := 33
  interfaces := #[]
  cf := some (fileOf pool0 8 #[] #[{ accessFlags := 1, nameIndex := 5, descriptorIndex := 6, attributes := #[] }] 33 0 #[] #[])
  fields := #[]
  methods := #[k0m0]
  instanceTypes := #[]
  staticTypes := #[]
  resolved := Array.replicate 124 none
  statics := none }

def pool1 : Array CpInfo := pool [(2, .class_ 4), (1, u "java/lang/Object"), (0, u "<init>"), (0, u "()V"), (0, .class_ 8), (0, u "com/example/wardgate/wardgate/util/PercentEncodingIsUnreservedPinLaw"), (0, .long 288054454291267584), (1, .long 5188146764422578174), (1, .methodref 14 15), (0, .class_ 16), (0, .nameAndType 17 18), (0, u "com/example/wardgate/wardgate/util/PercentEncoding"), (0, u "isUnreserved"), (0, u "(I)Z"), (0, .methodref 7 20), (0, .nameAndType 21 18), (0, u "expected"), (0, u "LO"), (0, u "J"), (1, u "HI"), (3, u "law"), (0, u "(II)Z")] 2

def k1m0 : Method := { name := "<init>", desc := "()V", sig := { parameters := [], returnType := none }, accessFlags := 2, code := none }
def k1c1 : Code := { maxStack := 4, maxLocals := 1, code := method_2_code, exceptionTable := #[], attributes := #[] }
def k1m1 : Method := { name := "expected", desc := "(I)Z", sig := { parameters := [.int], returnType := some .boolean }, accessFlags := 10, code := some k1c1 }
def k1c2 : Code := { maxStack := 2, maxLocals := 4, code := code, exceptionTable := #[], attributes := #[] }
def k1m2 : Method := { name := "law", desc := "(II)Z", sig := { parameters := [.int, .int], returnType := some .boolean }, accessFlags := 9, code := some k1c2 }
/-- com/example/wardgate/wardgate/util/PercentEncodingIsUnreservedPinLaw -/
def k1 : Class := { plain "com/example/wardgate/wardgate/util/PercentEncodingIsUnreservedPinLaw" (some 0) with
  accessFlags := 49
  interfaces := #[]
  cf := some (fileOf pool1 7 #[] #[{ accessFlags := 2, nameIndex := 5, descriptorIndex := 6, attributes := #[] }, { accessFlags := 10, nameIndex := 21, descriptorIndex := 18, attributes := #[] }, { accessFlags := 9, nameIndex := 29, descriptorIndex := 30, attributes := #[] }] 49 2 #[] #[{ accessFlags := 26, nameIndex := 22, descriptorIndex := 23, attributes := #[] }, { accessFlags := 26, nameIndex := 25, descriptorIndex := 23, attributes := #[] }])
  fields := #[{ name := "LO", type := .long, accessFlags := 26, slot := 0, constantValue := 0 }, { name := "HI", type := .long, accessFlags := 26, slot := 1, constantValue := 0 }]
  methods := #[k1m0, k1m1, k1m2]
  instanceTypes := #[]
  staticTypes := #[.long, .long]
  resolved := Array.replicate 33 none
  statics := none }

def pool2 : Array CpInfo := pool [(2, .class_ 4), (1, u "java/lang/Object"), (0, u "<init>"), (0, u "()V"), (15, u "(I)Z"), (7, .class_ 32), (1, u "com/example/wardgate/wardgate/util/PercentEncoding"), (0, u "UPPER_CASE_HEX"), (0, u "Ljava/util/HexFormat;"), (58, u "isUnreserved"), (7, u "SUB_DELIMS"), (0, u "Ljava/lang/String;")] 14

def k2m0 : Method := { name := "<init>", desc := "()V", sig := { parameters := [], returnType := none }, accessFlags := 2, code := none }
def k2c1 : Code := { maxStack := 2, maxLocals := 1, code := prog_57_method_2_code, exceptionTable := #[], attributes := #[] }
def k2m1 : Method := { name := "isUnreserved", desc := "(I)Z", sig := { parameters := [.int], returnType := some .boolean }, accessFlags := 9, code := some k2c1 }
/-- com/example/wardgate/wardgate/util/PercentEncoding -/
def k2 : Class := { plain "com/example/wardgate/wardgate/util/PercentEncoding" (some 0) with
  accessFlags := 33
  interfaces := #[]
  cf := some (fileOf pool2 30 #[] #[{ accessFlags := 2, nameIndex := 5, descriptorIndex := 6, attributes := #[] }, { accessFlags := 9, nameIndex := 93, descriptorIndex := 22, attributes := #[] }] 33 2 #[] #[{ accessFlags := 25, nameIndex := 101, descriptorIndex := 102, attributes := #[] }, { accessFlags := 26, nameIndex := 33, descriptorIndex := 34, attributes := #[] }])
  fields := #[{ name := "SUB_DELIMS", type := (.object "java/lang/String"), accessFlags := 25, slot := 0, constantValue := 0 }, { name := "UPPER_CASE_HEX", type := (.object "java/util/HexFormat"), accessFlags := 26, slot := 1, constantValue := 0 }]
  methods := #[k2m0, k2m1]
  instanceTypes := #[]
  staticTypes := #[(.object "java/lang/String"), (.object "java/util/HexFormat")]
  resolved := Array.replicate 117 none
  statics := none }

def pool3 : Array CpInfo := pool [(1, u "java/lang/Cloneable"), (0, .class_ 1), (0, u "java/lang/Object"), (0, .class_ 3)] 3

/-- java/lang/Cloneable -/
def k3 : Class := { plain "java/lang/Cloneable" (some 0) with
  accessFlags := 1537
  interfaces := #[]
  cf := some (fileOf pool3 2 #[] #[] 1537 4 #[] #[])
  fields := #[]
  methods := #[]
  instanceTypes := #[]
  staticTypes := #[]
  resolved := Array.replicate 8 none
  statics := none }

def pool4 : Array CpInfo := pool [(1, u "java/io/Serializable"), (0, .class_ 1), (0, u "java/lang/Object"), (0, .class_ 3)] 3

/-- java/io/Serializable -/
def k4 : Class := { plain "java/io/Serializable" (some 0) with
  accessFlags := 1537
  interfaces := #[]
  cf := some (fileOf pool4 2 #[] #[] 1537 4 #[] #[])
  fields := #[]
  methods := #[]
  instanceTypes := #[]
  staticTypes := #[]
  resolved := Array.replicate 8 none
  statics := none }

/-- the primitive byte -/
def k5 : Class := { plain "byte" none with kind := .primitive 'B', accessFlags := 0x411 }
/-- [B -/
def k6 : Class := { plain "[B" (some 0) with kind := .array 5 .byte, interfaces := #[3, 4], accessFlags := 1041 }

/-- the primitive int -/
def k7 : Class := { plain "int" none with kind := .primitive 'I', accessFlags := 0x411 }
/-- [I -/
def k8 : Class := { plain "[I" (some 0) with kind := .array 7 .int, interfaces := #[3, 4], accessFlags := 1041 }

def heap : Heap := #[]
def classes : Array Class := #[k0, k1, k2, k3, k4, k5, k6, k7, k8]
def interned : List (Array UInt16 × Addr) := []
def slotsUsed : Nat := 0
def theMethod : MethodId := ⟨1, 2⟩
def args0 : Array Value := #[.int 65, .int 1]
def aboutOver (below : List Frame) : State where
  vm := { classes := classes, interned := interned.toArray }
  heap := heap
  slotsUsed := slotsUsed
  threads := #[{ frames := .invoking theMethod args0 :: below }]
def below0 : List Frame := [.native { method := ⟨0, 0⟩, args := #[] }]
def about1 : State := aboutOver below0
def p0 : Program := .bare "" "" ""
def e0 : Env := launch0.env 0 0 0
theorem w_frames : about1.frames = Frame.invoking theMethod args0 :: below0 := rfl
set_option maxRecDepth 65536 in
theorem w_args : argsFit about1.vm theMethod args0 = true := by decide +kernel
set_option maxRecDepth 65536 in
theorem w_heap : heapFits about1 = true := by decide +kernel
set_option maxRecDepth 65536 in
theorem w_runnable : about1.curStatus? = some .runnable := by decide +kernel
set_option maxRecDepth 65536 in
theorem w_alone : about1.alone = true := by decide +kernel
set_option maxRecDepth 65536 in
theorem w_named : about1.methodNamed? x = some theMethod := by decide +kernel
set_option maxRecDepth 65536 in
theorem w_hears : about1.hears theMethod below0 = true := by decide +kernel
set_option maxRecDepth 65536 in
theorem w_ripe : about1.ripe theMethod args0 below0 = true := by decide +kernel
theorem w_running : about1.status = .running := rfl
set_option maxRecDepth 65536 in
theorem w_room : about1.hasRoom e0.platform room_1 = true :=
  launch0.hasRoom_least _ room_1 (by decide +kernel) (by decide +kernel) (by decide +kernel) (by decide +kernel) (by decide +kernel) (by decide +kernel)
theorem allAtoms_all (ts : List Jvm.Cond) (a : Array Jvm.Value) (st : Jvm.State) : (allAtoms ts).before a st = ts.all (fun c => c.before a st) := by
  induction ts with
  | nil => rfl
  | cons c t ih =>
    show (Jvm.Cond.and c (allAtoms t)).before a st = _
    rw [Jvm.Cond.before_and, ih, List.all_cons]
def words1 : List Jvm.Cond := Jvm.Cond.code x code maxLocals ret :: tables_1
/-- a 'code' word, met by the world's own term for the bytes: nothing is compared byte by byte -/
theorem code_word {y : MethodName} {bytes : ByteArray} {mx : Nat} {rt : Option FieldType} {a : Array Value} {s : State} {m : MethodId} {meth : Method} {c : Code} (h1 : s.methodNamed? y = some m) (h2 : s.vm.method? m = some meth) (h3 : meth.code = some c) (h4 : c.code = bytes)
    (h5 : (c.maxLocals == mx && c.exceptionTable.isEmpty && decide (c.maxStack ≤ mostOperands) && decide (meth.sig.returnType = rt) && !meth.locks && decide (parseMethodDescriptor y.desc = some meth.sig)) = true) : (Jvm.Cond.code y bytes mx rt).before a s = true := by
  simp only [Bool.and_eq_true, beq_iff_eq, Bool.not_eq_true', decide_eq_true_eq] at h5
  obtain ⟨⟨⟨⟨⟨g1, g2⟩, g3⟩, g4⟩, g5⟩, g6⟩ := h5
  simp [Cond.before, Cond.holds, Cond.value, h1, h2, h3, h4, g1, g2, g3, g4, g5, g6]
def isCode : Jvm.Cond → Bool
  | .code _ _ _ _ => true
  | _ => false
theorem all_split {L : List Jvm.Cond} {P : Jvm.Cond → Bool} (h1 : L.all (fun c => isCode c || P c) = true) (h2 : ∀ c ∈ L.filter isCode, P c = true) : L.all P = true := by
  refine List.all_eq_true.mpr fun c hc => ?_
  have h := List.all_eq_true.mp h1 c hc
  rcases Bool.eq_false_or_eq_true (isCode c) with hi | hi
  · exact h2 c (List.mem_filter.mpr ⟨hc, hi⟩)
  · simpa [hi] using h
set_option maxRecDepth 65536 in
theorem w_c0 : (Jvm.Cond.code x code maxLocals ret).before args0 about1 = true := code_word (m := ⟨1, 2⟩) (meth := k1m2) (c := k1c2) (by decide +kernel) rfl rfl rfl (by decide +kernel)
set_option maxRecDepth 65536 in
theorem w_c1 : (Jvm.Cond.code ({ cls := "com/example/wardgate/wardgate/util/PercentEncoding", name := "isUnreserved", desc := "(I)Z" } : Jvm.MethodName) prog_57_method_2_code (1 : Nat) (Option.some Jvm.ClassFile.FieldType.boolean)).before args0 about1 = true := code_word (m := ⟨2, 1⟩) (meth := k2m1) (c := k2c1) (by decide +kernel) rfl rfl rfl (by decide +kernel)
set_option maxRecDepth 65536 in
theorem w_c2 : (Jvm.Cond.code ({ cls := "com/example/wardgate/wardgate/util/PercentEncodingIsUnreservedPinLaw", name := "expected", desc := "(I)Z" } : Jvm.MethodName) method_2_code (1 : Nat) (Option.some Jvm.ClassFile.FieldType.boolean)).before args0 about1 = true := code_word (m := ⟨1, 1⟩) (meth := k1m1) (c := k1c1) (by decide +kernel) rfl rfl rfl (by decide +kernel)
def codes1 : List Jvm.Cond := [Jvm.Cond.code x code maxLocals ret, Jvm.Cond.code ({ cls := "com/example/wardgate/wardgate/util/PercentEncoding", name := "isUnreserved", desc := "(I)Z" } : Jvm.MethodName) prog_57_method_2_code (1 : Nat) (Option.some Jvm.ClassFile.FieldType.boolean), Jvm.Cond.code ({ cls := "com/example/wardgate/wardgate/util/PercentEncodingIsUnreservedPinLaw", name := "expected", desc := "(I)Z" } : Jvm.MethodName) method_2_code (1 : Nat) (Option.some Jvm.ClassFile.FieldType.boolean)]
set_option maxRecDepth 65536 in
theorem codes_eq : words1.filter isCode = codes1 := rfl
theorem w_codes : ∀ c ∈ words1.filter isCode, c.before args0 about1 = true := by
  rw [codes_eq]
  intro c hc
  simp only [codes1, List.mem_cons, List.not_mem_nil, or_false] at hc
  rcases hc with rfl | rfl | rfl
  · exact w_c0
  · exact w_c1
  · exact w_c2
set_option maxRecDepth 65536 in
theorem w_t1 : words1.all (fun c => isCode c || c.before args0 about1) = true := by decide +kernel
theorem w_tables : (allAtoms (Jvm.Cond.code x code maxLocals ret :: tables_1)).before args0 about1 = true := by
  rw [allAtoms_all]
  show words1.all (fun c => c.before args0 about1) = true
  refine all_split ?_ w_codes
  rw [w_t1]
set_option maxRecDepth 65536 in
theorem w_case : (Jvm.Cond.and given_1 narrow_1).before args0 about1 = true := by decide +kernel
theorem w_applies : (headSpec (Jvm.Cond.code x code maxLocals ret :: tables_1) room_1).applies x e0.platform about1 = true :=
  (Spec.applies_iff w_frames).mpr ⟨w_running, w_runnable, w_alone, w_named, w_hears, w_ripe, w_room, w_tables⟩
theorem atStart : AtStart classFile x code maxLocals ret World_1 tables_1 room_1 Calls_1 rest_1 Pre_1 launch0 p0 e0 about1 theMethod args0 below0 :=
  ⟨lists_1, trivial, launch0.admits_env _ _ _, launch0.least_env, fairChoices_fair.cas, fairChoices_fair.clock, w_frames, w_args, w_heap, w_applies, trivial, trivial, w_case⟩
end start1
theorem witness_1 : WitnessClaimed_1 := ⟨start1.p0, start1.e0, start1.about1, start1.theMethod, start1.args0, start1.below0, start1.atStart⟩
end Jvm.Pilot.@@N@@
