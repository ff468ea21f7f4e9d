import JvmDerived
import JvmDerived.Pilot.@@N@@Statement
import JvmDerived.Pilot.@@N@@Code
set_option linter.unusedVariables false
set_option linter.unusedSimpArgs false
namespace Jvm.RoadKit
open Sem ClassFile Op Lib Jvm.Stand Jvm.Free Jvm.LawKit
section New
variable {p : Program} {l : Launch} {e : Env} {R : Room} {s : State} {m : MethodId} {args : Array Value} {below : List Frame} {meth : Method} {c : Code} {T : State} {locs : List Loc} {cells slots : Nat}
theorem retI (X : Stand p l e R s m args below meth c T locs cells slots) (hx : p.tables.exec = Jvm.exec) {pc : Nat} {Ls : Array Slot} {z : Int32} {rest : List Value} (hret : meth.sig.returnType = some .int) (hd : decode c.code pc = .ok (.ireturn, 1)) {fs : List Frame}
    (hl : ∀ (f : JFrame) (acts : List Action), f.method = m → f.locked = none → f.entered = [] → (doReturn e (T.setTop f) acts (some (.int z))).1 = T.setFrames fs) : Steps p.tables e below (T.setTop (mkF m pc Ls (.int z :: rest))) (T.setFrames fs) := by
  have hm' : T.vm.method? m = some meth := X.method'
  have hn : narrow .int (.int z) = .int z := rfl
  show Steps p.tables e below (T.setTop { method := m, pc := pc, locals := Ls, stack := _ :: rest, locked := none }) _
  jvm_step X.here [X.here.top, hx, hd, hm', hret, hn]
  first | (intro acts; rw [hl _ acts rfl rfl rfl]) | rw [hl _ _ rfl rfl rfl]
  exact Steps.refl _
end New
end Jvm.RoadKit
namespace Jvm.Pilot.@@N@@
open Jvm Jvm.ClassFile Sem Op Lib Jvm.Free Jvm.Stand Jvm.LawKit Jvm.RoadKit Bundle Jvm.Pilot.@@N@@.Jvm.D
def own_d68 (d r : Int32) : Int32 := if d < r then d else (-1 : Int32)
def own_d43 (c r : Int32) : Int32 := if c < (65 : Int32) then (-1 : Int32) else if (70 : Int32) < c then (-1 : Int32) else own_d68 (c - (65 : Int32) + (10 : Int32)) r
def own_d20 (c r : Int32) : Int32 := if c < (97 : Int32) then own_d43 c r else if (102 : Int32) < c then own_d43 c r else own_d68 (c - (97 : Int32) + (10 : Int32)) r
def own_digit (c r : Int32) : Int32 := if c < (48 : Int32) then own_d20 c r else if (57 : Int32) < c then own_d20 c r else own_d68 (c - (48 : Int32)) r
def own_e28 (c r : Int32) : Int32 := if (c ||| (32 : Int32)) < (97 : Int32) then own_d68 (-1 : Int32) r else if (102 : Int32) < (c ||| (32 : Int32)) then own_d68 (-1 : Int32) r else own_d68 ((c ||| (32 : Int32)) - (97 : Int32) + (10 : Int32)) r
def own_exp (c r : Int32) : Int32 := if c - (48 : Int32) < 0 then own_e28 c r else if (9 : Int32) < c - (48 : Int32) then own_e28 c r else own_d68 (c - (48 : Int32)) r
theorem own_d68_m1 (r : Int32) : own_d68 (-1) r = -1 := by unfold own_d68; split <;> rfl
def own_P (c : Int32) : Bool :=
  (((decide ((c ||| 32) < 97)) || (decide (102 < (c ||| 32)))) && (decide (c < 97) || decide (102 < c)) && (decide (c < 65) || decide (70 < c))) ||
  ((!(decide ((c ||| 32) < 97))) && (!(decide (102 < (c ||| 32)))) &&
    (((!decide (c < 97)) && (!decide (102 < c)) && decide ((c ||| 32) - 97 + 10 = c - 97 + 10)) ||
     ((decide (c < 97)) && (!decide (c < 65)) && (!decide (70 < c)) && decide ((c ||| 32) - 97 + 10 = c - 65 + 10))))
theorem own_small : ∀ k : Fin 128, own_P (Int32.ofNat k.val) = true := by decide +kernel
theorem own_bm32 {n : Int} (h1 : -2147483648 ≤ n) (h2 : n < 2147483648) : n.bmod (2 ^ 32) = n := Int.bmod_eq_of_le (by omega) (by omega)
theorem own_big (c : Int32) (h0 : 0 ≤ c.toInt) (h1 : 128 ≤ c.toInt) : own_P c = true := by
  have hn : c.toInt = (c.toBitVec.toNat : Int) := by
    show c.toBitVec.toInt = _
    have := c.toBitVec.isLt
    have hm : c.toBitVec.toInt = c.toInt := rfl
    rw [BitVec.toInt_eq_toNat_cond] at *
    split at hm <;> rename_i hh
    · simp [hh]
    · omega
  have hlt := Int32.toInt_lt c
  have h3 : c.toBitVec.toNat ≤ (c ||| 32).toBitVec.toNat := by
    rw [Int32.toBitVec_or, BitVec.toNat_or]; exact Nat.left_le_or
  have h4 : (c ||| 32).toBitVec.toNat < 2 ^ 31 := by
    rw [Int32.toBitVec_or, BitVec.toNat_or]; exact Nat.or_lt_two_pow (by omega) (by decide)
  have e : (c ||| 32).toInt = ((c ||| 32).toBitVec.toNat : Int) := by
    show (c ||| 32).toBitVec.toInt = _
    rw [BitVec.toInt_eq_toNat_of_lt (by omega)]
  have g1 : (102 : Int32) < (c ||| 32) := by rw [Int32.lt_iff_toInt_lt, e, show (102 : Int32).toInt = 102 from rfl]; omega
  have g2 : (102 : Int32) < c := by rw [Int32.lt_iff_toInt_lt, show (102 : Int32).toInt = 102 from rfl]; omega
  have g3 : (70 : Int32) < c := by rw [Int32.lt_iff_toInt_lt, show (70 : Int32).toInt = 70 from rfl]; omega
  simp [own_P, g1, g2, g3]
theorem own_all (c : Int32) (h0 : 0 ≤ c.toInt) : own_P c = true := by
  by_cases h : c.toInt < 128
  · have e : c = Int32.ofNat c.toInt.toNat := by
      apply Int32.toInt_inj.mp
      rw [Int32.toInt_ofNat', Int.toNat_of_nonneg h0, own_bm32 (by omega) (by omega)]
    have hk := own_small ⟨c.toInt.toNat, by omega⟩
    rw [e]; exact hk
  · exact own_big c h0 (by omega)
theorem own_law2 (c r : Int32) (h0 : 0 ≤ c.toInt) : own_digit c r = own_exp c r := by
  have hP := own_all c h0
  have k : own_d20 c r = own_e28 c r := by
    unfold own_P at hP
    simp only [Bool.or_eq_true, Bool.and_eq_true, decide_eq_true_eq, Bool.not_eq_true', decide_eq_false_iff_not] at hP
    unfold own_d20 own_e28 own_d43
    rw [own_d68_m1]
    rcases hP with ⟨⟨a, b⟩, d⟩ | ⟨⟨a1, a2⟩, ⟨⟨b1, b2⟩, b3⟩ | ⟨⟨⟨b1, b2⟩, b3⟩, b4⟩⟩
    · have l : (if c < (65 : Int32) then (-1 : Int32) else if (70 : Int32) < c then (-1 : Int32) else own_d68 (c - (65 : Int32) + (10 : Int32)) r) = -1 := by
        rcases d with d | d <;> simp [d]
      rw [l]
      rcases a with a | a <;> rcases b with b | b <;> simp [a, b]
    · simp only [a1, a2, b1, b2, if_false, b3]
    · simp only [a1, a2, b1, b2, b3, if_false, if_true, b4]
  have hlt := Int32.toInt_lt c
  have e : (c - 48).toInt = c.toInt - 48 := by
    rw [Int32.toInt_sub, show (48 : Int32).toInt = 48 from rfl, own_bm32 (by omega) (by omega)]
  unfold own_digit own_exp
  rw [k]
  have g1 : (c - 48 < 0) ↔ c < 48 := by
    rw [Int32.lt_iff_toInt_lt, Int32.lt_iff_toInt_lt, e, show (48 : Int32).toInt = 48 from rfl, show (0 : Int32).toInt = 0 from rfl]; omega
  have g2 : (9 < c - 48) ↔ 57 < c := by
    rw [Int32.lt_iff_toInt_lt, Int32.lt_iff_toInt_lt, e, show (57 : Int32).toInt = 57 from rfl, show (9 : Int32).toInt = 9 from rfl]; omega
  simp only [g1, g2]
theorem own_char (z : Int32) : 0 ≤ (z.toUInt32.toUInt16.toUInt32.toInt32).toInt ∧ (z.toUInt32.toUInt16.toUInt32.toInt32).toInt < 65536 := by
  have h := z.toUInt32.toUInt16.toNat_lt
  have e : (z.toUInt32.toUInt16.toUInt32.toInt32).toInt = (z.toUInt32.toUInt16.toNat : Int) := by
    show (z.toUInt32.toUInt16.toUInt32.toBitVec).toInt = _
    have e2 : z.toUInt32.toUInt16.toUInt32.toBitVec.toNat = z.toUInt32.toUInt16.toNat := by
      rw [UInt32.toNat_toBitVec, UInt16.toNat_toUInt32]
    rw [BitVec.toInt_eq_toNat_of_lt (by omega), e2]
  omega

def own_i2c (z : Int32) : Int32 := z.toUInt32.toUInt16.toUInt32.toInt32
def own_c (x md : Int32) : Int32 := if md = 0 then x.toUInt32.toUInt16.toUInt32.toInt32 else if md = (1 : Int32) then (x &&& (127 : Int32)).toUInt32.toUInt16.toUInt32.toInt32 else if md = (2 : Int32) then (x &&& (255 : Int32)).toUInt32.toUInt16.toUInt32.toInt32 else ((48 : Int32) + ((x &&& (2147483647 : Int32)) - (x &&& (2147483647 : Int32)) / (56 : Int32) * (56 : Int32))).toUInt32.toUInt16.toUInt32.toInt32
theorem own_c_b (x md : Int32) : 0 ≤ (own_c x md).toInt := by
  unfold own_c
  by_cases h0 : md = 0
  · rw [if_pos h0]; exact (own_char _).1
  · rw [if_neg h0]
    by_cases h1 : md = (1 : Int32)
    · rw [if_pos h1]; exact (own_char _).1
    · rw [if_neg h1]
      by_cases h2 : md = (2 : Int32)
      · rw [if_pos h2]; exact (own_char _).1
      · rw [if_neg h2]; exact (own_char _).1
def own_rad (s : Int32) : Int32 := if s = 0 then (8 : Int32) else if s = (1 : Int32) then (10 : Int32) else (16 : Int32)
theorem own_pn0 : plainName "com/example/reef_marker/reefmarker/engine/Ascii" = true := by first | (simp [plainName, overriddenIn]; done) | decide +kernel
theorem own_d1_0 : decode prog_14_method_2_code 0 = .ok (.iload_n 0, 1) := by decide +kernel
theorem own_d1_1 : decode prog_14_method_2_code 1 = .ok (.bipush 48, 2) := by decide +kernel
theorem own_d1_3 : decode prog_14_method_2_code 3 = .ok (.if_icmp .lt 17, 3) := by decide +kernel
theorem own_d1_6 : decode prog_14_method_2_code 6 = .ok (.iload_n 0, 1) := by decide +kernel
theorem own_d1_7 : decode prog_14_method_2_code 7 = .ok (.bipush 57, 2) := by decide +kernel
theorem own_d1_9 : decode prog_14_method_2_code 9 = .ok (.if_icmp .gt 11, 3) := by decide +kernel
theorem own_d1_12 : decode prog_14_method_2_code 12 = .ok (.iload_n 0, 1) := by decide +kernel
theorem own_d1_13 : decode prog_14_method_2_code 13 = .ok (.bipush 48, 2) := by decide +kernel
theorem own_d1_15 : decode prog_14_method_2_code 15 = .ok (.isub, 1) := by decide +kernel
theorem own_d1_16 : decode prog_14_method_2_code 16 = .ok (.istore_n 2, 1) := by decide +kernel
theorem own_d1_17 : decode prog_14_method_2_code 17 = .ok (.goto 51, 3) := by decide +kernel
theorem own_d1_20 : decode prog_14_method_2_code 20 = .ok (.iload_n 0, 1) := by decide +kernel
theorem own_d1_21 : decode prog_14_method_2_code 21 = .ok (.bipush 97, 2) := by decide +kernel
theorem own_d1_23 : decode prog_14_method_2_code 23 = .ok (.if_icmp .lt 20, 3) := by decide +kernel
theorem own_d1_26 : decode prog_14_method_2_code 26 = .ok (.iload_n 0, 1) := by decide +kernel
theorem own_d1_27 : decode prog_14_method_2_code 27 = .ok (.bipush 102, 2) := by decide +kernel
theorem own_d1_29 : decode prog_14_method_2_code 29 = .ok (.if_icmp .gt 14, 3) := by decide +kernel
theorem own_d1_32 : decode prog_14_method_2_code 32 = .ok (.iload_n 0, 1) := by decide +kernel
theorem own_d1_33 : decode prog_14_method_2_code 33 = .ok (.bipush 97, 2) := by decide +kernel
theorem own_d1_35 : decode prog_14_method_2_code 35 = .ok (.isub, 1) := by decide +kernel
theorem own_d1_36 : decode prog_14_method_2_code 36 = .ok (.bipush 10, 2) := by decide +kernel
theorem own_d1_38 : decode prog_14_method_2_code 38 = .ok (.iadd, 1) := by decide +kernel
theorem own_d1_39 : decode prog_14_method_2_code 39 = .ok (.istore_n 2, 1) := by decide +kernel
theorem own_d1_40 : decode prog_14_method_2_code 40 = .ok (.goto 28, 3) := by decide +kernel
theorem own_d1_43 : decode prog_14_method_2_code 43 = .ok (.iload_n 0, 1) := by decide +kernel
theorem own_d1_44 : decode prog_14_method_2_code 44 = .ok (.bipush 65, 2) := by decide +kernel
theorem own_d1_46 : decode prog_14_method_2_code 46 = .ok (.if_icmp .lt 20, 3) := by decide +kernel
theorem own_d1_49 : decode prog_14_method_2_code 49 = .ok (.iload_n 0, 1) := by decide +kernel
theorem own_d1_50 : decode prog_14_method_2_code 50 = .ok (.bipush 70, 2) := by decide +kernel
theorem own_d1_52 : decode prog_14_method_2_code 52 = .ok (.if_icmp .gt 14, 3) := by decide +kernel
theorem own_d1_55 : decode prog_14_method_2_code 55 = .ok (.iload_n 0, 1) := by decide +kernel
theorem own_d1_56 : decode prog_14_method_2_code 56 = .ok (.bipush 65, 2) := by decide +kernel
theorem own_d1_58 : decode prog_14_method_2_code 58 = .ok (.isub, 1) := by decide +kernel
theorem own_d1_59 : decode prog_14_method_2_code 59 = .ok (.bipush 10, 2) := by decide +kernel
theorem own_d1_61 : decode prog_14_method_2_code 61 = .ok (.iadd, 1) := by decide +kernel
theorem own_d1_62 : decode prog_14_method_2_code 62 = .ok (.istore_n 2, 1) := by decide +kernel
theorem own_d1_63 : decode prog_14_method_2_code 63 = .ok (.goto 5, 3) := by decide +kernel
theorem own_d1_66 : decode prog_14_method_2_code 66 = .ok (.iconst (-1), 1) := by decide +kernel
theorem own_d1_67 : decode prog_14_method_2_code 67 = .ok (.ireturn, 1) := by decide +kernel
theorem own_d1_68 : decode prog_14_method_2_code 68 = .ok (.iload_n 2, 1) := by decide +kernel
theorem own_d1_69 : decode prog_14_method_2_code 69 = .ok (.iload_n 1, 1) := by decide +kernel
theorem own_d1_70 : decode prog_14_method_2_code 70 = .ok (.if_icmp .ge 7, 3) := by decide +kernel
theorem own_d1_73 : decode prog_14_method_2_code 73 = .ok (.iload_n 2, 1) := by decide +kernel
theorem own_d1_74 : decode prog_14_method_2_code 74 = .ok (.goto 4, 3) := by decide +kernel
theorem own_d1_77 : decode prog_14_method_2_code 77 = .ok (.iconst (-1), 1) := by decide +kernel
theorem own_d1_78 : decode prog_14_method_2_code 78 = .ok (.ireturn, 1) := by decide +kernel
theorem own_ef1 (m : MethodId) (p1 : Int32) (p2 : Int32) : entryFrame m #[(.int p1), (.int p2)] 3 = mkF m 0 #[.val (.int p1), .val (.int p2), .unset] [] := by first | (simp [entryFrame, mkF, argsToLocals, Value.category]; done) | rfl
def Q1 (Z : State) (p1 : Int32) (p2 : Int32)  (h0 : Heap) (n0 : Nat) (v : Option Value) (h : Heap) (L : List Loc) : Prop := v = some (.int (own_digit p1 p2)) ∧ Fr n0 L ∧ h = h0
set_option maxRecDepth 65536 in
set_option maxHeartbeats 40000000 in
theorem rm1 (l : Launch) (Z : State) (a0 : Array Value) (hw : ∀ d ∈ tables_1, d.before a0 Z = true) (ws : List Jvm.Cond) (p1 : Int32) (p2 : Int32)  (h0 : Heap) (n0 : Nat) (Z0 : n0 ≤ h0.size)  :
    MetFree l (⟨"com/example/reef_marker/reefmarker/engine/Ascii", "digit", "(CI)I"⟩ : MethodName) (head1 (Jvm.Cond.code (⟨"com/example/reef_marker/reefmarker/engine/Ascii", "digit", "(CI)I"⟩ : MethodName) prog_14_method_2_code 3 (some .int) :: ws) ({ frames := 0, cells := 0, slots := 0, locals := 0 } : Room)) (fun a U => a = #[(.int p1), (.int p2)] ∧ Z.Warmed39 U.vm ∧ U.heap = h0) (fun _ _ _ _ _ => True) (fun _ U o U' => ∃ v L, o = .returned v ∧ Q1 Z p1 p2  h0 n0 v U'.heap L ∧ FrameEnd U o U' L ({ frames := 0, cells := 0, slots := 0, locals := 0 } : Room).cells ({ frames := 0, cells := 0, slots := 0, locals := 0 } : Room).slots) := by
  refine MetFree.of_bodySF (plainFor_of_name own_pn0) hisR ?_
  intro p e s m args below meth c s₁ Bd hml0 hP hK
  obtain ⟨rfl, hZ, hh⟩ := hP
  have hx := Bd.exec
  have hby := Bd.bytes
  have hml : c.maxLocals = 3 := hml0
  have hown : s.vm.findClass "com/example/reef_marker/reefmarker/engine/Ascii" = some m.cls := findClass_of_methodNamed Bd.named
  have hnm := (name_of_methodNamed Bd.named Bd.method).1
  have X0 : Stand p l e ({ frames := 0, cells := 0, slots := 0, locals := 0 } : Room) s m #[(.int p1), (.int p2)] below meth c s₁ [] 0 0 := Stand.of_body Bd
  have e0 : s₁.heap = h0 := by rw [← hh, Bd.state]; rfl
  have N0 := Fr.nil n0
  have pre0 : ∀ t, Steps p.tables e below (s₁.setTop (mkF m 0 #[.val (.int p1), .val (.int p2), .unset] [])) t → Steps p.tables e below (s₁.setTop (entryFrame m #[(.int p1), (.int p2)] 3)) t := fun t k => castTop (own_ef1 m p1 p2) k
  obtain ⟨fs, hr, hrun, hended, hW, hsame⟩ := X0.leave (v := some (.int (own_digit p1 p2))) (fun h => by rw [Bd.returns] at h; cases h)
  refine ⟨_, _, pre0 _ ?_, hrun, hended, _, _, rfl, ?_, ⟨_, rfl⟩, hW, hsame.mono (by decide) (by decide)⟩
  · show Steps p.tables e below (s₁.setTop (mkF m 0 #[.val (.int p1), .val (.int p2), .unset] [])) _
    refine XS.iloadN X0.here hx rfl (hb hby own_d1_0) rfl ?_
    show Steps p.tables e below (s₁.setTop (mkF m 1 #[.val (.int p1), .val (.int p2), .unset] [(.int p1)])) _
    refine XT.bipushV X0.here hx rfl (48 : Int32) (hb hby own_d1_1) (by decide) ?_
    show Steps p.tables e below (s₁.setTop (mkF m 3 #[.val (.int p1), .val (.int p2), .unset] [(.int (48 : Int32)), (.int p1)])) _
    by_cases hc3 : p1 < (48 : Int32)
    · refine XS.icmpYes X0.here hx rfl (pc0 := 3) (pc' := 20) rfl (hb hby own_d1_3) rfl (XT.ii_lt_t hc3) (by decide) (by decide) ?_
      show Steps p.tables e below (s₁.setTop (mkF m 20 #[.val (.int p1), .val (.int p2), .unset] [])) _
      refine XS.iloadN X0.here hx rfl (hb hby own_d1_20) rfl ?_
      show Steps p.tables e below (s₁.setTop (mkF m 21 #[.val (.int p1), .val (.int p2), .unset] [(.int p1)])) _
      refine XT.bipushV X0.here hx rfl (97 : Int32) (hb hby own_d1_21) (by decide) ?_
      show Steps p.tables e below (s₁.setTop (mkF m 23 #[.val (.int p1), .val (.int p2), .unset] [(.int (97 : Int32)), (.int p1)])) _
      by_cases hc23 : p1 < (97 : Int32)
      · refine XS.icmpYes X0.here hx rfl (pc0 := 23) (pc' := 43) rfl (hb hby own_d1_23) rfl (XT.ii_lt_t hc23) (by decide) (by decide) ?_
        show Steps p.tables e below (s₁.setTop (mkF m 43 #[.val (.int p1), .val (.int p2), .unset] [])) _
        refine XS.iloadN X0.here hx rfl (hb hby own_d1_43) rfl ?_
        show Steps p.tables e below (s₁.setTop (mkF m 44 #[.val (.int p1), .val (.int p2), .unset] [(.int p1)])) _
        refine XT.bipushV X0.here hx rfl (65 : Int32) (hb hby own_d1_44) (by decide) ?_
        show Steps p.tables e below (s₁.setTop (mkF m 46 #[.val (.int p1), .val (.int p2), .unset] [(.int (65 : Int32)), (.int p1)])) _
        by_cases hc46 : p1 < (65 : Int32)
        · refine XS.icmpYes X0.here hx rfl (pc0 := 46) (pc' := 66) rfl (hb hby own_d1_46) rfl (XT.ii_lt_t hc46) (by decide) (by decide) ?_
          show Steps p.tables e below (s₁.setTop (mkF m 66 #[.val (.int p1), .val (.int p2), .unset] [])) _
          refine XT.iconstV X0.here hx rfl (-1 : Int32) (hb hby own_d1_66) (by decide) ?_
          show Steps p.tables e below (s₁.setTop (mkF m 67 #[.val (.int p1), .val (.int p2), .unset] [(.int (-1 : Int32))])) _
          exact retI X0 hx Bd.returns (hb hby own_d1_67) (by rw [show (-1 : Int32) = (own_digit p1 p2) from (by simp only [own_digit, own_d20, own_d43, own_d68, if_pos hc3, if_pos hc23, if_pos hc46])]; exact hr)
        · refine XS.icmpNo X0.here hx rfl (hb hby own_d1_46) rfl (XT.ii_lt_f hc46) ?_
          show Steps p.tables e below (s₁.setTop (mkF m 49 #[.val (.int p1), .val (.int p2), .unset] [])) _
          refine XS.iloadN X0.here hx rfl (hb hby own_d1_49) rfl ?_
          show Steps p.tables e below (s₁.setTop (mkF m 50 #[.val (.int p1), .val (.int p2), .unset] [(.int p1)])) _
          refine XT.bipushV X0.here hx rfl (70 : Int32) (hb hby own_d1_50) (by decide) ?_
          show Steps p.tables e below (s₁.setTop (mkF m 52 #[.val (.int p1), .val (.int p2), .unset] [(.int (70 : Int32)), (.int p1)])) _
          by_cases hc52 : (70 : Int32) < p1
          · refine XS.icmpYes X0.here hx rfl (pc0 := 52) (pc' := 66) rfl (hb hby own_d1_52) rfl (XT.ii_gt_t hc52) (by decide) (by decide) ?_
            show Steps p.tables e below (s₁.setTop (mkF m 66 #[.val (.int p1), .val (.int p2), .unset] [])) _
            refine XT.iconstV X0.here hx rfl (-1 : Int32) (hb hby own_d1_66) (by decide) ?_
            show Steps p.tables e below (s₁.setTop (mkF m 67 #[.val (.int p1), .val (.int p2), .unset] [(.int (-1 : Int32))])) _
            exact retI X0 hx Bd.returns (hb hby own_d1_67) (by rw [show (-1 : Int32) = (own_digit p1 p2) from (by simp only [own_digit, own_d20, own_d43, own_d68, if_pos hc3, if_pos hc23, if_neg hc46, if_pos hc52])]; exact hr)
          · refine XS.icmpNo X0.here hx rfl (hb hby own_d1_52) rfl (XT.ii_gt_f hc52) ?_
            show Steps p.tables e below (s₁.setTop (mkF m 55 #[.val (.int p1), .val (.int p2), .unset] [])) _
            refine XS.iloadN X0.here hx rfl (hb hby own_d1_55) rfl ?_
            show Steps p.tables e below (s₁.setTop (mkF m 56 #[.val (.int p1), .val (.int p2), .unset] [(.int p1)])) _
            refine XT.bipushV X0.here hx rfl (65 : Int32) (hb hby own_d1_56) (by decide) ?_
            show Steps p.tables e below (s₁.setTop (mkF m 58 #[.val (.int p1), .val (.int p2), .unset] [(.int (65 : Int32)), (.int p1)])) _
            refine XS.isub X0.here hx rfl (hb hby own_d1_58) rfl ?_
            show Steps p.tables e below (s₁.setTop (mkF m 59 #[.val (.int p1), .val (.int p2), .unset] [(.int (p1 - (65 : Int32)))])) _
            refine XT.bipushV X0.here hx rfl (10 : Int32) (hb hby own_d1_59) (by decide) ?_
            show Steps p.tables e below (s₁.setTop (mkF m 61 #[.val (.int p1), .val (.int p2), .unset] [(.int (10 : Int32)), (.int (p1 - (65 : Int32)))])) _
            refine XS.iadd X0.here hx rfl (hb hby own_d1_61) rfl ?_
            show Steps p.tables e below (s₁.setTop (mkF m 62 #[.val (.int p1), .val (.int p2), .unset] [(.int ((p1 - (65 : Int32)) + (10 : Int32)))])) _
            refine XS.istoreN X0.here hx rfl (hb hby own_d1_62) rfl (l' := #[.val (.int p1), .val (.int p2), .val (.int ((p1 - (65 : Int32)) + (10 : Int32)))]) rfl ?_
            show Steps p.tables e below (s₁.setTop (mkF m 63 #[.val (.int p1), .val (.int p2), .val (.int ((p1 - (65 : Int32)) + (10 : Int32)))] [])) _
            refine XS.goto X0.here hx rfl (pc0 := 63) (pc' := 68) rfl (hb hby own_d1_63) (by decide) (by decide) ?_
            show Steps p.tables e below (s₁.setTop (mkF m 68 #[.val (.int p1), .val (.int p2), .val (.int ((p1 - (65 : Int32)) + (10 : Int32)))] [])) _
            refine XS.iloadN X0.here hx rfl (hb hby own_d1_68) rfl ?_
            show Steps p.tables e below (s₁.setTop (mkF m 69 #[.val (.int p1), .val (.int p2), .val (.int ((p1 - (65 : Int32)) + (10 : Int32)))] [(.int ((p1 - (65 : Int32)) + (10 : Int32)))])) _
            refine XS.iloadN X0.here hx rfl (hb hby own_d1_69) rfl ?_
            show Steps p.tables e below (s₁.setTop (mkF m 70 #[.val (.int p1), .val (.int p2), .val (.int ((p1 - (65 : Int32)) + (10 : Int32)))] [(.int p2), (.int ((p1 - (65 : Int32)) + (10 : Int32)))])) _
            by_cases hc70 : ((p1 - (65 : Int32)) + (10 : Int32)) < p2
            · refine XS.icmpNo X0.here hx rfl (hb hby own_d1_70) rfl (XT.ii_ge_f hc70) ?_
              show Steps p.tables e below (s₁.setTop (mkF m 73 #[.val (.int p1), .val (.int p2), .val (.int ((p1 - (65 : Int32)) + (10 : Int32)))] [])) _
              refine XS.iloadN X0.here hx rfl (hb hby own_d1_73) rfl ?_
              show Steps p.tables e below (s₁.setTop (mkF m 74 #[.val (.int p1), .val (.int p2), .val (.int ((p1 - (65 : Int32)) + (10 : Int32)))] [(.int ((p1 - (65 : Int32)) + (10 : Int32)))])) _
              refine XS.goto X0.here hx rfl (pc0 := 74) (pc' := 78) rfl (hb hby own_d1_74) (by decide) (by decide) ?_
              show Steps p.tables e below (s₁.setTop (mkF m 78 #[.val (.int p1), .val (.int p2), .val (.int ((p1 - (65 : Int32)) + (10 : Int32)))] [(.int ((p1 - (65 : Int32)) + (10 : Int32)))])) _
              exact retI X0 hx Bd.returns (hb hby own_d1_78) (by rw [show ((p1 - (65 : Int32)) + (10 : Int32)) = (own_digit p1 p2) from (by simp only [own_digit, own_d20, own_d43, own_d68, if_pos hc3, if_pos hc23, if_neg hc46, if_neg hc52, if_pos hc70])]; exact hr)
            · refine XS.icmpYes X0.here hx rfl (pc0 := 70) (pc' := 77) rfl (hb hby own_d1_70) rfl (XT.ii_ge_t hc70) (by decide) (by decide) ?_
              show Steps p.tables e below (s₁.setTop (mkF m 77 #[.val (.int p1), .val (.int p2), .val (.int ((p1 - (65 : Int32)) + (10 : Int32)))] [])) _
              refine XT.iconstV X0.here hx rfl (-1 : Int32) (hb hby own_d1_77) (by decide) ?_
              show Steps p.tables e below (s₁.setTop (mkF m 78 #[.val (.int p1), .val (.int p2), .val (.int ((p1 - (65 : Int32)) + (10 : Int32)))] [(.int (-1 : Int32))])) _
              exact retI X0 hx Bd.returns (hb hby own_d1_78) (by rw [show (-1 : Int32) = (own_digit p1 p2) from (by simp only [own_digit, own_d20, own_d43, own_d68, if_pos hc3, if_pos hc23, if_neg hc46, if_neg hc52, if_neg hc70])]; exact hr)
      · refine XS.icmpNo X0.here hx rfl (hb hby own_d1_23) rfl (XT.ii_lt_f hc23) ?_
        show Steps p.tables e below (s₁.setTop (mkF m 26 #[.val (.int p1), .val (.int p2), .unset] [])) _
        refine XS.iloadN X0.here hx rfl (hb hby own_d1_26) rfl ?_
        show Steps p.tables e below (s₁.setTop (mkF m 27 #[.val (.int p1), .val (.int p2), .unset] [(.int p1)])) _
        refine XT.bipushV X0.here hx rfl (102 : Int32) (hb hby own_d1_27) (by decide) ?_
        show Steps p.tables e below (s₁.setTop (mkF m 29 #[.val (.int p1), .val (.int p2), .unset] [(.int (102 : Int32)), (.int p1)])) _
        by_cases hc29 : (102 : Int32) < p1
        · refine XS.icmpYes X0.here hx rfl (pc0 := 29) (pc' := 43) rfl (hb hby own_d1_29) rfl (XT.ii_gt_t hc29) (by decide) (by decide) ?_
          show Steps p.tables e below (s₁.setTop (mkF m 43 #[.val (.int p1), .val (.int p2), .unset] [])) _
          refine XS.iloadN X0.here hx rfl (hb hby own_d1_43) rfl ?_
          show Steps p.tables e below (s₁.setTop (mkF m 44 #[.val (.int p1), .val (.int p2), .unset] [(.int p1)])) _
          refine XT.bipushV X0.here hx rfl (65 : Int32) (hb hby own_d1_44) (by decide) ?_
          show Steps p.tables e below (s₁.setTop (mkF m 46 #[.val (.int p1), .val (.int p2), .unset] [(.int (65 : Int32)), (.int p1)])) _
          by_cases hc46 : p1 < (65 : Int32)
          · refine XS.icmpYes X0.here hx rfl (pc0 := 46) (pc' := 66) rfl (hb hby own_d1_46) rfl (XT.ii_lt_t hc46) (by decide) (by decide) ?_
            show Steps p.tables e below (s₁.setTop (mkF m 66 #[.val (.int p1), .val (.int p2), .unset] [])) _
            refine XT.iconstV X0.here hx rfl (-1 : Int32) (hb hby own_d1_66) (by decide) ?_
            show Steps p.tables e below (s₁.setTop (mkF m 67 #[.val (.int p1), .val (.int p2), .unset] [(.int (-1 : Int32))])) _
            exact retI X0 hx Bd.returns (hb hby own_d1_67) (by rw [show (-1 : Int32) = (own_digit p1 p2) from (by simp only [own_digit, own_d20, own_d43, own_d68, if_pos hc3, if_neg hc23, if_pos hc29, if_pos hc46])]; exact hr)
          · refine XS.icmpNo X0.here hx rfl (hb hby own_d1_46) rfl (XT.ii_lt_f hc46) ?_
            show Steps p.tables e below (s₁.setTop (mkF m 49 #[.val (.int p1), .val (.int p2), .unset] [])) _
            refine XS.iloadN X0.here hx rfl (hb hby own_d1_49) rfl ?_
            show Steps p.tables e below (s₁.setTop (mkF m 50 #[.val (.int p1), .val (.int p2), .unset] [(.int p1)])) _
            refine XT.bipushV X0.here hx rfl (70 : Int32) (hb hby own_d1_50) (by decide) ?_
            show Steps p.tables e below (s₁.setTop (mkF m 52 #[.val (.int p1), .val (.int p2), .unset] [(.int (70 : Int32)), (.int p1)])) _
            by_cases hc52 : (70 : Int32) < p1
            · refine XS.icmpYes X0.here hx rfl (pc0 := 52) (pc' := 66) rfl (hb hby own_d1_52) rfl (XT.ii_gt_t hc52) (by decide) (by decide) ?_
              show Steps p.tables e below (s₁.setTop (mkF m 66 #[.val (.int p1), .val (.int p2), .unset] [])) _
              refine XT.iconstV X0.here hx rfl (-1 : Int32) (hb hby own_d1_66) (by decide) ?_
              show Steps p.tables e below (s₁.setTop (mkF m 67 #[.val (.int p1), .val (.int p2), .unset] [(.int (-1 : Int32))])) _
              exact retI X0 hx Bd.returns (hb hby own_d1_67) (by rw [show (-1 : Int32) = (own_digit p1 p2) from (by simp only [own_digit, own_d20, own_d43, own_d68, if_pos hc3, if_neg hc23, if_pos hc29, if_neg hc46, if_pos hc52])]; exact hr)
            · refine XS.icmpNo X0.here hx rfl (hb hby own_d1_52) rfl (XT.ii_gt_f hc52) ?_
              show Steps p.tables e below (s₁.setTop (mkF m 55 #[.val (.int p1), .val (.int p2), .unset] [])) _
              refine XS.iloadN X0.here hx rfl (hb hby own_d1_55) rfl ?_
              show Steps p.tables e below (s₁.setTop (mkF m 56 #[.val (.int p1), .val (.int p2), .unset] [(.int p1)])) _
              refine XT.bipushV X0.here hx rfl (65 : Int32) (hb hby own_d1_56) (by decide) ?_
              show Steps p.tables e below (s₁.setTop (mkF m 58 #[.val (.int p1), .val (.int p2), .unset] [(.int (65 : Int32)), (.int p1)])) _
              refine XS.isub X0.here hx rfl (hb hby own_d1_58) rfl ?_
              show Steps p.tables e below (s₁.setTop (mkF m 59 #[.val (.int p1), .val (.int p2), .unset] [(.int (p1 - (65 : Int32)))])) _
              refine XT.bipushV X0.here hx rfl (10 : Int32) (hb hby own_d1_59) (by decide) ?_
              show Steps p.tables e below (s₁.setTop (mkF m 61 #[.val (.int p1), .val (.int p2), .unset] [(.int (10 : Int32)), (.int (p1 - (65 : Int32)))])) _
              refine XS.iadd X0.here hx rfl (hb hby own_d1_61) rfl ?_
              show Steps p.tables e below (s₁.setTop (mkF m 62 #[.val (.int p1), .val (.int p2), .unset] [(.int ((p1 - (65 : Int32)) + (10 : Int32)))])) _
              refine XS.istoreN X0.here hx rfl (hb hby own_d1_62) rfl (l' := #[.val (.int p1), .val (.int p2), .val (.int ((p1 - (65 : Int32)) + (10 : Int32)))]) rfl ?_
              show Steps p.tables e below (s₁.setTop (mkF m 63 #[.val (.int p1), .val (.int p2), .val (.int ((p1 - (65 : Int32)) + (10 : Int32)))] [])) _
              refine XS.goto X0.here hx rfl (pc0 := 63) (pc' := 68) rfl (hb hby own_d1_63) (by decide) (by decide) ?_
              show Steps p.tables e below (s₁.setTop (mkF m 68 #[.val (.int p1), .val (.int p2), .val (.int ((p1 - (65 : Int32)) + (10 : Int32)))] [])) _
              refine XS.iloadN X0.here hx rfl (hb hby own_d1_68) rfl ?_
              show Steps p.tables e below (s₁.setTop (mkF m 69 #[.val (.int p1), .val (.int p2), .val (.int ((p1 - (65 : Int32)) + (10 : Int32)))] [(.int ((p1 - (65 : Int32)) + (10 : Int32)))])) _
              refine XS.iloadN X0.here hx rfl (hb hby own_d1_69) rfl ?_
              show Steps p.tables e below (s₁.setTop (mkF m 70 #[.val (.int p1), .val (.int p2), .val (.int ((p1 - (65 : Int32)) + (10 : Int32)))] [(.int p2), (.int ((p1 - (65 : Int32)) + (10 : Int32)))])) _
              by_cases hc70 : ((p1 - (65 : Int32)) + (10 : Int32)) < p2
              · refine XS.icmpNo X0.here hx rfl (hb hby own_d1_70) rfl (XT.ii_ge_f hc70) ?_
                show Steps p.tables e below (s₁.setTop (mkF m 73 #[.val (.int p1), .val (.int p2), .val (.int ((p1 - (65 : Int32)) + (10 : Int32)))] [])) _
                refine XS.iloadN X0.here hx rfl (hb hby own_d1_73) rfl ?_
                show Steps p.tables e below (s₁.setTop (mkF m 74 #[.val (.int p1), .val (.int p2), .val (.int ((p1 - (65 : Int32)) + (10 : Int32)))] [(.int ((p1 - (65 : Int32)) + (10 : Int32)))])) _
                refine XS.goto X0.here hx rfl (pc0 := 74) (pc' := 78) rfl (hb hby own_d1_74) (by decide) (by decide) ?_
                show Steps p.tables e below (s₁.setTop (mkF m 78 #[.val (.int p1), .val (.int p2), .val (.int ((p1 - (65 : Int32)) + (10 : Int32)))] [(.int ((p1 - (65 : Int32)) + (10 : Int32)))])) _
                exact retI X0 hx Bd.returns (hb hby own_d1_78) (by rw [show ((p1 - (65 : Int32)) + (10 : Int32)) = (own_digit p1 p2) from (by simp only [own_digit, own_d20, own_d43, own_d68, if_pos hc3, if_neg hc23, if_pos hc29, if_neg hc46, if_neg hc52, if_pos hc70])]; exact hr)
              · refine XS.icmpYes X0.here hx rfl (pc0 := 70) (pc' := 77) rfl (hb hby own_d1_70) rfl (XT.ii_ge_t hc70) (by decide) (by decide) ?_
                show Steps p.tables e below (s₁.setTop (mkF m 77 #[.val (.int p1), .val (.int p2), .val (.int ((p1 - (65 : Int32)) + (10 : Int32)))] [])) _
                refine XT.iconstV X0.here hx rfl (-1 : Int32) (hb hby own_d1_77) (by decide) ?_
                show Steps p.tables e below (s₁.setTop (mkF m 78 #[.val (.int p1), .val (.int p2), .val (.int ((p1 - (65 : Int32)) + (10 : Int32)))] [(.int (-1 : Int32))])) _
                exact retI X0 hx Bd.returns (hb hby own_d1_78) (by rw [show (-1 : Int32) = (own_digit p1 p2) from (by simp only [own_digit, own_d20, own_d43, own_d68, if_pos hc3, if_neg hc23, if_pos hc29, if_neg hc46, if_neg hc52, if_neg hc70])]; exact hr)
        · refine XS.icmpNo X0.here hx rfl (hb hby own_d1_29) rfl (XT.ii_gt_f hc29) ?_
          show Steps p.tables e below (s₁.setTop (mkF m 32 #[.val (.int p1), .val (.int p2), .unset] [])) _
          refine XS.iloadN X0.here hx rfl (hb hby own_d1_32) rfl ?_
          show Steps p.tables e below (s₁.setTop (mkF m 33 #[.val (.int p1), .val (.int p2), .unset] [(.int p1)])) _
          refine XT.bipushV X0.here hx rfl (97 : Int32) (hb hby own_d1_33) (by decide) ?_
          show Steps p.tables e below (s₁.setTop (mkF m 35 #[.val (.int p1), .val (.int p2), .unset] [(.int (97 : Int32)), (.int p1)])) _
          refine XS.isub X0.here hx rfl (hb hby own_d1_35) rfl ?_
          show Steps p.tables e below (s₁.setTop (mkF m 36 #[.val (.int p1), .val (.int p2), .unset] [(.int (p1 - (97 : Int32)))])) _
          refine XT.bipushV X0.here hx rfl (10 : Int32) (hb hby own_d1_36) (by decide) ?_
          show Steps p.tables e below (s₁.setTop (mkF m 38 #[.val (.int p1), .val (.int p2), .unset] [(.int (10 : Int32)), (.int (p1 - (97 : Int32)))])) _
          refine XS.iadd X0.here hx rfl (hb hby own_d1_38) rfl ?_
          show Steps p.tables e below (s₁.setTop (mkF m 39 #[.val (.int p1), .val (.int p2), .unset] [(.int ((p1 - (97 : Int32)) + (10 : Int32)))])) _
          refine XS.istoreN X0.here hx rfl (hb hby own_d1_39) rfl (l' := #[.val (.int p1), .val (.int p2), .val (.int ((p1 - (97 : Int32)) + (10 : Int32)))]) rfl ?_
          show Steps p.tables e below (s₁.setTop (mkF m 40 #[.val (.int p1), .val (.int p2), .val (.int ((p1 - (97 : Int32)) + (10 : Int32)))] [])) _
          refine XS.goto X0.here hx rfl (pc0 := 40) (pc' := 68) rfl (hb hby own_d1_40) (by decide) (by decide) ?_
          show Steps p.tables e below (s₁.setTop (mkF m 68 #[.val (.int p1), .val (.int p2), .val (.int ((p1 - (97 : Int32)) + (10 : Int32)))] [])) _
          refine XS.iloadN X0.here hx rfl (hb hby own_d1_68) rfl ?_
          show Steps p.tables e below (s₁.setTop (mkF m 69 #[.val (.int p1), .val (.int p2), .val (.int ((p1 - (97 : Int32)) + (10 : Int32)))] [(.int ((p1 - (97 : Int32)) + (10 : Int32)))])) _
          refine XS.iloadN X0.here hx rfl (hb hby own_d1_69) rfl ?_
          show Steps p.tables e below (s₁.setTop (mkF m 70 #[.val (.int p1), .val (.int p2), .val (.int ((p1 - (97 : Int32)) + (10 : Int32)))] [(.int p2), (.int ((p1 - (97 : Int32)) + (10 : Int32)))])) _
          by_cases hc70 : ((p1 - (97 : Int32)) + (10 : Int32)) < p2
          · refine XS.icmpNo X0.here hx rfl (hb hby own_d1_70) rfl (XT.ii_ge_f hc70) ?_
            show Steps p.tables e below (s₁.setTop (mkF m 73 #[.val (.int p1), .val (.int p2), .val (.int ((p1 - (97 : Int32)) + (10 : Int32)))] [])) _
            refine XS.iloadN X0.here hx rfl (hb hby own_d1_73) rfl ?_
            show Steps p.tables e below (s₁.setTop (mkF m 74 #[.val (.int p1), .val (.int p2), .val (.int ((p1 - (97 : Int32)) + (10 : Int32)))] [(.int ((p1 - (97 : Int32)) + (10 : Int32)))])) _
            refine XS.goto X0.here hx rfl (pc0 := 74) (pc' := 78) rfl (hb hby own_d1_74) (by decide) (by decide) ?_
            show Steps p.tables e below (s₁.setTop (mkF m 78 #[.val (.int p1), .val (.int p2), .val (.int ((p1 - (97 : Int32)) + (10 : Int32)))] [(.int ((p1 - (97 : Int32)) + (10 : Int32)))])) _
            exact retI X0 hx Bd.returns (hb hby own_d1_78) (by rw [show ((p1 - (97 : Int32)) + (10 : Int32)) = (own_digit p1 p2) from (by simp only [own_digit, own_d20, own_d43, own_d68, if_pos hc3, if_neg hc23, if_neg hc29, if_pos hc70])]; exact hr)
          · refine XS.icmpYes X0.here hx rfl (pc0 := 70) (pc' := 77) rfl (hb hby own_d1_70) rfl (XT.ii_ge_t hc70) (by decide) (by decide) ?_
            show Steps p.tables e below (s₁.setTop (mkF m 77 #[.val (.int p1), .val (.int p2), .val (.int ((p1 - (97 : Int32)) + (10 : Int32)))] [])) _
            refine XT.iconstV X0.here hx rfl (-1 : Int32) (hb hby own_d1_77) (by decide) ?_
            show Steps p.tables e below (s₁.setTop (mkF m 78 #[.val (.int p1), .val (.int p2), .val (.int ((p1 - (97 : Int32)) + (10 : Int32)))] [(.int (-1 : Int32))])) _
            exact retI X0 hx Bd.returns (hb hby own_d1_78) (by rw [show (-1 : Int32) = (own_digit p1 p2) from (by simp only [own_digit, own_d20, own_d43, own_d68, if_pos hc3, if_neg hc23, if_neg hc29, if_neg hc70])]; exact hr)
    · refine XS.icmpNo X0.here hx rfl (hb hby own_d1_3) rfl (XT.ii_lt_f hc3) ?_
      show Steps p.tables e below (s₁.setTop (mkF m 6 #[.val (.int p1), .val (.int p2), .unset] [])) _
      refine XS.iloadN X0.here hx rfl (hb hby own_d1_6) rfl ?_
      show Steps p.tables e below (s₁.setTop (mkF m 7 #[.val (.int p1), .val (.int p2), .unset] [(.int p1)])) _
      refine XT.bipushV X0.here hx rfl (57 : Int32) (hb hby own_d1_7) (by decide) ?_
      show Steps p.tables e below (s₁.setTop (mkF m 9 #[.val (.int p1), .val (.int p2), .unset] [(.int (57 : Int32)), (.int p1)])) _
      by_cases hc9 : (57 : Int32) < p1
      · refine XS.icmpYes X0.here hx rfl (pc0 := 9) (pc' := 20) rfl (hb hby own_d1_9) rfl (XT.ii_gt_t hc9) (by decide) (by decide) ?_
        show Steps p.tables e below (s₁.setTop (mkF m 20 #[.val (.int p1), .val (.int p2), .unset] [])) _
        refine XS.iloadN X0.here hx rfl (hb hby own_d1_20) rfl ?_
        show Steps p.tables e below (s₁.setTop (mkF m 21 #[.val (.int p1), .val (.int p2), .unset] [(.int p1)])) _
        refine XT.bipushV X0.here hx rfl (97 : Int32) (hb hby own_d1_21) (by decide) ?_
        show Steps p.tables e below (s₁.setTop (mkF m 23 #[.val (.int p1), .val (.int p2), .unset] [(.int (97 : Int32)), (.int p1)])) _
        by_cases hc23 : p1 < (97 : Int32)
        · refine XS.icmpYes X0.here hx rfl (pc0 := 23) (pc' := 43) rfl (hb hby own_d1_23) rfl (XT.ii_lt_t hc23) (by decide) (by decide) ?_
          show Steps p.tables e below (s₁.setTop (mkF m 43 #[.val (.int p1), .val (.int p2), .unset] [])) _
          refine XS.iloadN X0.here hx rfl (hb hby own_d1_43) rfl ?_
          show Steps p.tables e below (s₁.setTop (mkF m 44 #[.val (.int p1), .val (.int p2), .unset] [(.int p1)])) _
          refine XT.bipushV X0.here hx rfl (65 : Int32) (hb hby own_d1_44) (by decide) ?_
          show Steps p.tables e below (s₁.setTop (mkF m 46 #[.val (.int p1), .val (.int p2), .unset] [(.int (65 : Int32)), (.int p1)])) _
          by_cases hc46 : p1 < (65 : Int32)
          · refine XS.icmpYes X0.here hx rfl (pc0 := 46) (pc' := 66) rfl (hb hby own_d1_46) rfl (XT.ii_lt_t hc46) (by decide) (by decide) ?_
            show Steps p.tables e below (s₁.setTop (mkF m 66 #[.val (.int p1), .val (.int p2), .unset] [])) _
            refine XT.iconstV X0.here hx rfl (-1 : Int32) (hb hby own_d1_66) (by decide) ?_
            show Steps p.tables e below (s₁.setTop (mkF m 67 #[.val (.int p1), .val (.int p2), .unset] [(.int (-1 : Int32))])) _
            exact retI X0 hx Bd.returns (hb hby own_d1_67) (by rw [show (-1 : Int32) = (own_digit p1 p2) from (by simp only [own_digit, own_d20, own_d43, own_d68, if_neg hc3, if_pos hc9, if_pos hc23, if_pos hc46])]; exact hr)
          · refine XS.icmpNo X0.here hx rfl (hb hby own_d1_46) rfl (XT.ii_lt_f hc46) ?_
            show Steps p.tables e below (s₁.setTop (mkF m 49 #[.val (.int p1), .val (.int p2), .unset] [])) _
            refine XS.iloadN X0.here hx rfl (hb hby own_d1_49) rfl ?_
            show Steps p.tables e below (s₁.setTop (mkF m 50 #[.val (.int p1), .val (.int p2), .unset] [(.int p1)])) _
            refine XT.bipushV X0.here hx rfl (70 : Int32) (hb hby own_d1_50) (by decide) ?_
            show Steps p.tables e below (s₁.setTop (mkF m 52 #[.val (.int p1), .val (.int p2), .unset] [(.int (70 : Int32)), (.int p1)])) _
            by_cases hc52 : (70 : Int32) < p1
            · refine XS.icmpYes X0.here hx rfl (pc0 := 52) (pc' := 66) rfl (hb hby own_d1_52) rfl (XT.ii_gt_t hc52) (by decide) (by decide) ?_
              show Steps p.tables e below (s₁.setTop (mkF m 66 #[.val (.int p1), .val (.int p2), .unset] [])) _
              refine XT.iconstV X0.here hx rfl (-1 : Int32) (hb hby own_d1_66) (by decide) ?_
              show Steps p.tables e below (s₁.setTop (mkF m 67 #[.val (.int p1), .val (.int p2), .unset] [(.int (-1 : Int32))])) _
              exact retI X0 hx Bd.returns (hb hby own_d1_67) (by rw [show (-1 : Int32) = (own_digit p1 p2) from (by simp only [own_digit, own_d20, own_d43, own_d68, if_neg hc3, if_pos hc9, if_pos hc23, if_neg hc46, if_pos hc52])]; exact hr)
            · refine XS.icmpNo X0.here hx rfl (hb hby own_d1_52) rfl (XT.ii_gt_f hc52) ?_
              show Steps p.tables e below (s₁.setTop (mkF m 55 #[.val (.int p1), .val (.int p2), .unset] [])) _
              refine XS.iloadN X0.here hx rfl (hb hby own_d1_55) rfl ?_
              show Steps p.tables e below (s₁.setTop (mkF m 56 #[.val (.int p1), .val (.int p2), .unset] [(.int p1)])) _
              refine XT.bipushV X0.here hx rfl (65 : Int32) (hb hby own_d1_56) (by decide) ?_
              show Steps p.tables e below (s₁.setTop (mkF m 58 #[.val (.int p1), .val (.int p2), .unset] [(.int (65 : Int32)), (.int p1)])) _
              refine XS.isub X0.here hx rfl (hb hby own_d1_58) rfl ?_
              show Steps p.tables e below (s₁.setTop (mkF m 59 #[.val (.int p1), .val (.int p2), .unset] [(.int (p1 - (65 : Int32)))])) _
              refine XT.bipushV X0.here hx rfl (10 : Int32) (hb hby own_d1_59) (by decide) ?_
              show Steps p.tables e below (s₁.setTop (mkF m 61 #[.val (.int p1), .val (.int p2), .unset] [(.int (10 : Int32)), (.int (p1 - (65 : Int32)))])) _
              refine XS.iadd X0.here hx rfl (hb hby own_d1_61) rfl ?_
              show Steps p.tables e below (s₁.setTop (mkF m 62 #[.val (.int p1), .val (.int p2), .unset] [(.int ((p1 - (65 : Int32)) + (10 : Int32)))])) _
              refine XS.istoreN X0.here hx rfl (hb hby own_d1_62) rfl (l' := #[.val (.int p1), .val (.int p2), .val (.int ((p1 - (65 : Int32)) + (10 : Int32)))]) rfl ?_
              show Steps p.tables e below (s₁.setTop (mkF m 63 #[.val (.int p1), .val (.int p2), .val (.int ((p1 - (65 : Int32)) + (10 : Int32)))] [])) _
              refine XS.goto X0.here hx rfl (pc0 := 63) (pc' := 68) rfl (hb hby own_d1_63) (by decide) (by decide) ?_
              show Steps p.tables e below (s₁.setTop (mkF m 68 #[.val (.int p1), .val (.int p2), .val (.int ((p1 - (65 : Int32)) + (10 : Int32)))] [])) _
              refine XS.iloadN X0.here hx rfl (hb hby own_d1_68) rfl ?_
              show Steps p.tables e below (s₁.setTop (mkF m 69 #[.val (.int p1), .val (.int p2), .val (.int ((p1 - (65 : Int32)) + (10 : Int32)))] [(.int ((p1 - (65 : Int32)) + (10 : Int32)))])) _
              refine XS.iloadN X0.here hx rfl (hb hby own_d1_69) rfl ?_
              show Steps p.tables e below (s₁.setTop (mkF m 70 #[.val (.int p1), .val (.int p2), .val (.int ((p1 - (65 : Int32)) + (10 : Int32)))] [(.int p2), (.int ((p1 - (65 : Int32)) + (10 : Int32)))])) _
              by_cases hc70 : ((p1 - (65 : Int32)) + (10 : Int32)) < p2
              · refine XS.icmpNo X0.here hx rfl (hb hby own_d1_70) rfl (XT.ii_ge_f hc70) ?_
                show Steps p.tables e below (s₁.setTop (mkF m 73 #[.val (.int p1), .val (.int p2), .val (.int ((p1 - (65 : Int32)) + (10 : Int32)))] [])) _
                refine XS.iloadN X0.here hx rfl (hb hby own_d1_73) rfl ?_
                show Steps p.tables e below (s₁.setTop (mkF m 74 #[.val (.int p1), .val (.int p2), .val (.int ((p1 - (65 : Int32)) + (10 : Int32)))] [(.int ((p1 - (65 : Int32)) + (10 : Int32)))])) _
                refine XS.goto X0.here hx rfl (pc0 := 74) (pc' := 78) rfl (hb hby own_d1_74) (by decide) (by decide) ?_
                show Steps p.tables e below (s₁.setTop (mkF m 78 #[.val (.int p1), .val (.int p2), .val (.int ((p1 - (65 : Int32)) + (10 : Int32)))] [(.int ((p1 - (65 : Int32)) + (10 : Int32)))])) _
                exact retI X0 hx Bd.returns (hb hby own_d1_78) (by rw [show ((p1 - (65 : Int32)) + (10 : Int32)) = (own_digit p1 p2) from (by simp only [own_digit, own_d20, own_d43, own_d68, if_neg hc3, if_pos hc9, if_pos hc23, if_neg hc46, if_neg hc52, if_pos hc70])]; exact hr)
              · refine XS.icmpYes X0.here hx rfl (pc0 := 70) (pc' := 77) rfl (hb hby own_d1_70) rfl (XT.ii_ge_t hc70) (by decide) (by decide) ?_
                show Steps p.tables e below (s₁.setTop (mkF m 77 #[.val (.int p1), .val (.int p2), .val (.int ((p1 - (65 : Int32)) + (10 : Int32)))] [])) _
                refine XT.iconstV X0.here hx rfl (-1 : Int32) (hb hby own_d1_77) (by decide) ?_
                show Steps p.tables e below (s₁.setTop (mkF m 78 #[.val (.int p1), .val (.int p2), .val (.int ((p1 - (65 : Int32)) + (10 : Int32)))] [(.int (-1 : Int32))])) _
                exact retI X0 hx Bd.returns (hb hby own_d1_78) (by rw [show (-1 : Int32) = (own_digit p1 p2) from (by simp only [own_digit, own_d20, own_d43, own_d68, if_neg hc3, if_pos hc9, if_pos hc23, if_neg hc46, if_neg hc52, if_neg hc70])]; exact hr)
        · refine XS.icmpNo X0.here hx rfl (hb hby own_d1_23) rfl (XT.ii_lt_f hc23) ?_
          show Steps p.tables e below (s₁.setTop (mkF m 26 #[.val (.int p1), .val (.int p2), .unset] [])) _
          refine XS.iloadN X0.here hx rfl (hb hby own_d1_26) rfl ?_
          show Steps p.tables e below (s₁.setTop (mkF m 27 #[.val (.int p1), .val (.int p2), .unset] [(.int p1)])) _
          refine XT.bipushV X0.here hx rfl (102 : Int32) (hb hby own_d1_27) (by decide) ?_
          show Steps p.tables e below (s₁.setTop (mkF m 29 #[.val (.int p1), .val (.int p2), .unset] [(.int (102 : Int32)), (.int p1)])) _
          by_cases hc29 : (102 : Int32) < p1
          · refine XS.icmpYes X0.here hx rfl (pc0 := 29) (pc' := 43) rfl (hb hby own_d1_29) rfl (XT.ii_gt_t hc29) (by decide) (by decide) ?_
            show Steps p.tables e below (s₁.setTop (mkF m 43 #[.val (.int p1), .val (.int p2), .unset] [])) _
            refine XS.iloadN X0.here hx rfl (hb hby own_d1_43) rfl ?_
            show Steps p.tables e below (s₁.setTop (mkF m 44 #[.val (.int p1), .val (.int p2), .unset] [(.int p1)])) _
            refine XT.bipushV X0.here hx rfl (65 : Int32) (hb hby own_d1_44) (by decide) ?_
            show Steps p.tables e below (s₁.setTop (mkF m 46 #[.val (.int p1), .val (.int p2), .unset] [(.int (65 : Int32)), (.int p1)])) _
            by_cases hc46 : p1 < (65 : Int32)
            · refine XS.icmpYes X0.here hx rfl (pc0 := 46) (pc' := 66) rfl (hb hby own_d1_46) rfl (XT.ii_lt_t hc46) (by decide) (by decide) ?_
              show Steps p.tables e below (s₁.setTop (mkF m 66 #[.val (.int p1), .val (.int p2), .unset] [])) _
              refine XT.iconstV X0.here hx rfl (-1 : Int32) (hb hby own_d1_66) (by decide) ?_
              show Steps p.tables e below (s₁.setTop (mkF m 67 #[.val (.int p1), .val (.int p2), .unset] [(.int (-1 : Int32))])) _
              exact retI X0 hx Bd.returns (hb hby own_d1_67) (by rw [show (-1 : Int32) = (own_digit p1 p2) from (by simp only [own_digit, own_d20, own_d43, own_d68, if_neg hc3, if_pos hc9, if_neg hc23, if_pos hc29, if_pos hc46])]; exact hr)
            · refine XS.icmpNo X0.here hx rfl (hb hby own_d1_46) rfl (XT.ii_lt_f hc46) ?_
              show Steps p.tables e below (s₁.setTop (mkF m 49 #[.val (.int p1), .val (.int p2), .unset] [])) _
              refine XS.iloadN X0.here hx rfl (hb hby own_d1_49) rfl ?_
              show Steps p.tables e below (s₁.setTop (mkF m 50 #[.val (.int p1), .val (.int p2), .unset] [(.int p1)])) _
              refine XT.bipushV X0.here hx rfl (70 : Int32) (hb hby own_d1_50) (by decide) ?_
              show Steps p.tables e below (s₁.setTop (mkF m 52 #[.val (.int p1), .val (.int p2), .unset] [(.int (70 : Int32)), (.int p1)])) _
              by_cases hc52 : (70 : Int32) < p1
              · refine XS.icmpYes X0.here hx rfl (pc0 := 52) (pc' := 66) rfl (hb hby own_d1_52) rfl (XT.ii_gt_t hc52) (by decide) (by decide) ?_
                show Steps p.tables e below (s₁.setTop (mkF m 66 #[.val (.int p1), .val (.int p2), .unset] [])) _
                refine XT.iconstV X0.here hx rfl (-1 : Int32) (hb hby own_d1_66) (by decide) ?_
                show Steps p.tables e below (s₁.setTop (mkF m 67 #[.val (.int p1), .val (.int p2), .unset] [(.int (-1 : Int32))])) _
                exact retI X0 hx Bd.returns (hb hby own_d1_67) (by rw [show (-1 : Int32) = (own_digit p1 p2) from (by simp only [own_digit, own_d20, own_d43, own_d68, if_neg hc3, if_pos hc9, if_neg hc23, if_pos hc29, if_neg hc46, if_pos hc52])]; exact hr)
              · refine XS.icmpNo X0.here hx rfl (hb hby own_d1_52) rfl (XT.ii_gt_f hc52) ?_
                show Steps p.tables e below (s₁.setTop (mkF m 55 #[.val (.int p1), .val (.int p2), .unset] [])) _
                refine XS.iloadN X0.here hx rfl (hb hby own_d1_55) rfl ?_
                show Steps p.tables e below (s₁.setTop (mkF m 56 #[.val (.int p1), .val (.int p2), .unset] [(.int p1)])) _
                refine XT.bipushV X0.here hx rfl (65 : Int32) (hb hby own_d1_56) (by decide) ?_
                show Steps p.tables e below (s₁.setTop (mkF m 58 #[.val (.int p1), .val (.int p2), .unset] [(.int (65 : Int32)), (.int p1)])) _
                refine XS.isub X0.here hx rfl (hb hby own_d1_58) rfl ?_
                show Steps p.tables e below (s₁.setTop (mkF m 59 #[.val (.int p1), .val (.int p2), .unset] [(.int (p1 - (65 : Int32)))])) _
                refine XT.bipushV X0.here hx rfl (10 : Int32) (hb hby own_d1_59) (by decide) ?_
                show Steps p.tables e below (s₁.setTop (mkF m 61 #[.val (.int p1), .val (.int p2), .unset] [(.int (10 : Int32)), (.int (p1 - (65 : Int32)))])) _
                refine XS.iadd X0.here hx rfl (hb hby own_d1_61) rfl ?_
                show Steps p.tables e below (s₁.setTop (mkF m 62 #[.val (.int p1), .val (.int p2), .unset] [(.int ((p1 - (65 : Int32)) + (10 : Int32)))])) _
                refine XS.istoreN X0.here hx rfl (hb hby own_d1_62) rfl (l' := #[.val (.int p1), .val (.int p2), .val (.int ((p1 - (65 : Int32)) + (10 : Int32)))]) rfl ?_
                show Steps p.tables e below (s₁.setTop (mkF m 63 #[.val (.int p1), .val (.int p2), .val (.int ((p1 - (65 : Int32)) + (10 : Int32)))] [])) _
                refine XS.goto X0.here hx rfl (pc0 := 63) (pc' := 68) rfl (hb hby own_d1_63) (by decide) (by decide) ?_
                show Steps p.tables e below (s₁.setTop (mkF m 68 #[.val (.int p1), .val (.int p2), .val (.int ((p1 - (65 : Int32)) + (10 : Int32)))] [])) _
                refine XS.iloadN X0.here hx rfl (hb hby own_d1_68) rfl ?_
                show Steps p.tables e below (s₁.setTop (mkF m 69 #[.val (.int p1), .val (.int p2), .val (.int ((p1 - (65 : Int32)) + (10 : Int32)))] [(.int ((p1 - (65 : Int32)) + (10 : Int32)))])) _
                refine XS.iloadN X0.here hx rfl (hb hby own_d1_69) rfl ?_
                show Steps p.tables e below (s₁.setTop (mkF m 70 #[.val (.int p1), .val (.int p2), .val (.int ((p1 - (65 : Int32)) + (10 : Int32)))] [(.int p2), (.int ((p1 - (65 : Int32)) + (10 : Int32)))])) _
                by_cases hc70 : ((p1 - (65 : Int32)) + (10 : Int32)) < p2
                · refine XS.icmpNo X0.here hx rfl (hb hby own_d1_70) rfl (XT.ii_ge_f hc70) ?_
                  show Steps p.tables e below (s₁.setTop (mkF m 73 #[.val (.int p1), .val (.int p2), .val (.int ((p1 - (65 : Int32)) + (10 : Int32)))] [])) _
                  refine XS.iloadN X0.here hx rfl (hb hby own_d1_73) rfl ?_
                  show Steps p.tables e below (s₁.setTop (mkF m 74 #[.val (.int p1), .val (.int p2), .val (.int ((p1 - (65 : Int32)) + (10 : Int32)))] [(.int ((p1 - (65 : Int32)) + (10 : Int32)))])) _
                  refine XS.goto X0.here hx rfl (pc0 := 74) (pc' := 78) rfl (hb hby own_d1_74) (by decide) (by decide) ?_
                  show Steps p.tables e below (s₁.setTop (mkF m 78 #[.val (.int p1), .val (.int p2), .val (.int ((p1 - (65 : Int32)) + (10 : Int32)))] [(.int ((p1 - (65 : Int32)) + (10 : Int32)))])) _
                  exact retI X0 hx Bd.returns (hb hby own_d1_78) (by rw [show ((p1 - (65 : Int32)) + (10 : Int32)) = (own_digit p1 p2) from (by simp only [own_digit, own_d20, own_d43, own_d68, if_neg hc3, if_pos hc9, if_neg hc23, if_pos hc29, if_neg hc46, if_neg hc52, if_pos hc70])]; exact hr)
                · refine XS.icmpYes X0.here hx rfl (pc0 := 70) (pc' := 77) rfl (hb hby own_d1_70) rfl (XT.ii_ge_t hc70) (by decide) (by decide) ?_
                  show Steps p.tables e below (s₁.setTop (mkF m 77 #[.val (.int p1), .val (.int p2), .val (.int ((p1 - (65 : Int32)) + (10 : Int32)))] [])) _
                  refine XT.iconstV X0.here hx rfl (-1 : Int32) (hb hby own_d1_77) (by decide) ?_
                  show Steps p.tables e below (s₁.setTop (mkF m 78 #[.val (.int p1), .val (.int p2), .val (.int ((p1 - (65 : Int32)) + (10 : Int32)))] [(.int (-1 : Int32))])) _
                  exact retI X0 hx Bd.returns (hb hby own_d1_78) (by rw [show (-1 : Int32) = (own_digit p1 p2) from (by simp only [own_digit, own_d20, own_d43, own_d68, if_neg hc3, if_pos hc9, if_neg hc23, if_pos hc29, if_neg hc46, if_neg hc52, if_neg hc70])]; exact hr)
          · refine XS.icmpNo X0.here hx rfl (hb hby own_d1_29) rfl (XT.ii_gt_f hc29) ?_
            show Steps p.tables e below (s₁.setTop (mkF m 32 #[.val (.int p1), .val (.int p2), .unset] [])) _
            refine XS.iloadN X0.here hx rfl (hb hby own_d1_32) rfl ?_
            show Steps p.tables e below (s₁.setTop (mkF m 33 #[.val (.int p1), .val (.int p2), .unset] [(.int p1)])) _
            refine XT.bipushV X0.here hx rfl (97 : Int32) (hb hby own_d1_33) (by decide) ?_
            show Steps p.tables e below (s₁.setTop (mkF m 35 #[.val (.int p1), .val (.int p2), .unset] [(.int (97 : Int32)), (.int p1)])) _
            refine XS.isub X0.here hx rfl (hb hby own_d1_35) rfl ?_
            show Steps p.tables e below (s₁.setTop (mkF m 36 #[.val (.int p1), .val (.int p2), .unset] [(.int (p1 - (97 : Int32)))])) _
            refine XT.bipushV X0.here hx rfl (10 : Int32) (hb hby own_d1_36) (by decide) ?_
            show Steps p.tables e below (s₁.setTop (mkF m 38 #[.val (.int p1), .val (.int p2), .unset] [(.int (10 : Int32)), (.int (p1 - (97 : Int32)))])) _
            refine XS.iadd X0.here hx rfl (hb hby own_d1_38) rfl ?_
            show Steps p.tables e below (s₁.setTop (mkF m 39 #[.val (.int p1), .val (.int p2), .unset] [(.int ((p1 - (97 : Int32)) + (10 : Int32)))])) _
            refine XS.istoreN X0.here hx rfl (hb hby own_d1_39) rfl (l' := #[.val (.int p1), .val (.int p2), .val (.int ((p1 - (97 : Int32)) + (10 : Int32)))]) rfl ?_
            show Steps p.tables e below (s₁.setTop (mkF m 40 #[.val (.int p1), .val (.int p2), .val (.int ((p1 - (97 : Int32)) + (10 : Int32)))] [])) _
            refine XS.goto X0.here hx rfl (pc0 := 40) (pc' := 68) rfl (hb hby own_d1_40) (by decide) (by decide) ?_
            show Steps p.tables e below (s₁.setTop (mkF m 68 #[.val (.int p1), .val (.int p2), .val (.int ((p1 - (97 : Int32)) + (10 : Int32)))] [])) _
            refine XS.iloadN X0.here hx rfl (hb hby own_d1_68) rfl ?_
            show Steps p.tables e below (s₁.setTop (mkF m 69 #[.val (.int p1), .val (.int p2), .val (.int ((p1 - (97 : Int32)) + (10 : Int32)))] [(.int ((p1 - (97 : Int32)) + (10 : Int32)))])) _
            refine XS.iloadN X0.here hx rfl (hb hby own_d1_69) rfl ?_
            show Steps p.tables e below (s₁.setTop (mkF m 70 #[.val (.int p1), .val (.int p2), .val (.int ((p1 - (97 : Int32)) + (10 : Int32)))] [(.int p2), (.int ((p1 - (97 : Int32)) + (10 : Int32)))])) _
            by_cases hc70 : ((p1 - (97 : Int32)) + (10 : Int32)) < p2
            · refine XS.icmpNo X0.here hx rfl (hb hby own_d1_70) rfl (XT.ii_ge_f hc70) ?_
              show Steps p.tables e below (s₁.setTop (mkF m 73 #[.val (.int p1), .val (.int p2), .val (.int ((p1 - (97 : Int32)) + (10 : Int32)))] [])) _
              refine XS.iloadN X0.here hx rfl (hb hby own_d1_73) rfl ?_
              show Steps p.tables e below (s₁.setTop (mkF m 74 #[.val (.int p1), .val (.int p2), .val (.int ((p1 - (97 : Int32)) + (10 : Int32)))] [(.int ((p1 - (97 : Int32)) + (10 : Int32)))])) _
              refine XS.goto X0.here hx rfl (pc0 := 74) (pc' := 78) rfl (hb hby own_d1_74) (by decide) (by decide) ?_
              show Steps p.tables e below (s₁.setTop (mkF m 78 #[.val (.int p1), .val (.int p2), .val (.int ((p1 - (97 : Int32)) + (10 : Int32)))] [(.int ((p1 - (97 : Int32)) + (10 : Int32)))])) _
              exact retI X0 hx Bd.returns (hb hby own_d1_78) (by rw [show ((p1 - (97 : Int32)) + (10 : Int32)) = (own_digit p1 p2) from (by simp only [own_digit, own_d20, own_d43, own_d68, if_neg hc3, if_pos hc9, if_neg hc23, if_neg hc29, if_pos hc70])]; exact hr)
            · refine XS.icmpYes X0.here hx rfl (pc0 := 70) (pc' := 77) rfl (hb hby own_d1_70) rfl (XT.ii_ge_t hc70) (by decide) (by decide) ?_
              show Steps p.tables e below (s₁.setTop (mkF m 77 #[.val (.int p1), .val (.int p2), .val (.int ((p1 - (97 : Int32)) + (10 : Int32)))] [])) _
              refine XT.iconstV X0.here hx rfl (-1 : Int32) (hb hby own_d1_77) (by decide) ?_
              show Steps p.tables e below (s₁.setTop (mkF m 78 #[.val (.int p1), .val (.int p2), .val (.int ((p1 - (97 : Int32)) + (10 : Int32)))] [(.int (-1 : Int32))])) _
              exact retI X0 hx Bd.returns (hb hby own_d1_78) (by rw [show (-1 : Int32) = (own_digit p1 p2) from (by simp only [own_digit, own_d20, own_d43, own_d68, if_neg hc3, if_pos hc9, if_neg hc23, if_neg hc29, if_neg hc70])]; exact hr)
      · refine XS.icmpNo X0.here hx rfl (hb hby own_d1_9) rfl (XT.ii_gt_f hc9) ?_
        show Steps p.tables e below (s₁.setTop (mkF m 12 #[.val (.int p1), .val (.int p2), .unset] [])) _
        refine XS.iloadN X0.here hx rfl (hb hby own_d1_12) rfl ?_
        show Steps p.tables e below (s₁.setTop (mkF m 13 #[.val (.int p1), .val (.int p2), .unset] [(.int p1)])) _
        refine XT.bipushV X0.here hx rfl (48 : Int32) (hb hby own_d1_13) (by decide) ?_
        show Steps p.tables e below (s₁.setTop (mkF m 15 #[.val (.int p1), .val (.int p2), .unset] [(.int (48 : Int32)), (.int p1)])) _
        refine XS.isub X0.here hx rfl (hb hby own_d1_15) rfl ?_
        show Steps p.tables e below (s₁.setTop (mkF m 16 #[.val (.int p1), .val (.int p2), .unset] [(.int (p1 - (48 : Int32)))])) _
        refine XS.istoreN X0.here hx rfl (hb hby own_d1_16) rfl (l' := #[.val (.int p1), .val (.int p2), .val (.int (p1 - (48 : Int32)))]) rfl ?_
        show Steps p.tables e below (s₁.setTop (mkF m 17 #[.val (.int p1), .val (.int p2), .val (.int (p1 - (48 : Int32)))] [])) _
        refine XS.goto X0.here hx rfl (pc0 := 17) (pc' := 68) rfl (hb hby own_d1_17) (by decide) (by decide) ?_
        show Steps p.tables e below (s₁.setTop (mkF m 68 #[.val (.int p1), .val (.int p2), .val (.int (p1 - (48 : Int32)))] [])) _
        refine XS.iloadN X0.here hx rfl (hb hby own_d1_68) rfl ?_
        show Steps p.tables e below (s₁.setTop (mkF m 69 #[.val (.int p1), .val (.int p2), .val (.int (p1 - (48 : Int32)))] [(.int (p1 - (48 : Int32)))])) _
        refine XS.iloadN X0.here hx rfl (hb hby own_d1_69) rfl ?_
        show Steps p.tables e below (s₁.setTop (mkF m 70 #[.val (.int p1), .val (.int p2), .val (.int (p1 - (48 : Int32)))] [(.int p2), (.int (p1 - (48 : Int32)))])) _
        by_cases hc70 : (p1 - (48 : Int32)) < p2
        · refine XS.icmpNo X0.here hx rfl (hb hby own_d1_70) rfl (XT.ii_ge_f hc70) ?_
          show Steps p.tables e below (s₁.setTop (mkF m 73 #[.val (.int p1), .val (.int p2), .val (.int (p1 - (48 : Int32)))] [])) _
          refine XS.iloadN X0.here hx rfl (hb hby own_d1_73) rfl ?_
          show Steps p.tables e below (s₁.setTop (mkF m 74 #[.val (.int p1), .val (.int p2), .val (.int (p1 - (48 : Int32)))] [(.int (p1 - (48 : Int32)))])) _
          refine XS.goto X0.here hx rfl (pc0 := 74) (pc' := 78) rfl (hb hby own_d1_74) (by decide) (by decide) ?_
          show Steps p.tables e below (s₁.setTop (mkF m 78 #[.val (.int p1), .val (.int p2), .val (.int (p1 - (48 : Int32)))] [(.int (p1 - (48 : Int32)))])) _
          exact retI X0 hx Bd.returns (hb hby own_d1_78) (by rw [show (p1 - (48 : Int32)) = (own_digit p1 p2) from (by simp only [own_digit, own_d20, own_d43, own_d68, if_neg hc3, if_neg hc9, if_pos hc70])]; exact hr)
        · refine XS.icmpYes X0.here hx rfl (pc0 := 70) (pc' := 77) rfl (hb hby own_d1_70) rfl (XT.ii_ge_t hc70) (by decide) (by decide) ?_
          show Steps p.tables e below (s₁.setTop (mkF m 77 #[.val (.int p1), .val (.int p2), .val (.int (p1 - (48 : Int32)))] [])) _
          refine XT.iconstV X0.here hx rfl (-1 : Int32) (hb hby own_d1_77) (by decide) ?_
          show Steps p.tables e below (s₁.setTop (mkF m 78 #[.val (.int p1), .val (.int p2), .val (.int (p1 - (48 : Int32)))] [(.int (-1 : Int32))])) _
          exact retI X0 hx Bd.returns (hb hby own_d1_78) (by rw [show (-1 : Int32) = (own_digit p1 p2) from (by simp only [own_digit, own_d20, own_d43, own_d68, if_neg hc3, if_neg hc9, if_neg hc70])]; exact hr)
  · exact ⟨rfl, N0, e0⟩
theorem own_pn1 : plainName "com/example/reef_marker/reefmarker/engine/AsciiDigitPinLaw" = true := by first | (simp [plainName, overriddenIn]; done) | decide +kernel
theorem own_d2_0 : decode method_3_code 0 = .ok (.iload_n 0, 1) := by decide +kernel
theorem own_d2_1 : decode method_3_code 1 = .ok (.istore_n 2, 1) := by decide +kernel
theorem own_d2_2 : decode method_3_code 2 = .ok (.iconst (-1), 1) := by decide +kernel
theorem own_d2_3 : decode method_3_code 3 = .ok (.istore_n 3, 1) := by decide +kernel
theorem own_d2_4 : decode method_3_code 4 = .ok (.iload_n 2, 1) := by decide +kernel
theorem own_d2_5 : decode method_3_code 5 = .ok (.bipush 48, 2) := by decide +kernel
theorem own_d2_7 : decode method_3_code 7 = .ok (.isub, 1) := by decide +kernel
theorem own_d2_8 : decode method_3_code 8 = .ok (.istore 4, 2) := by decide +kernel
theorem own_d2_10 : decode method_3_code 10 = .ok (.iload 4, 2) := by decide +kernel
theorem own_d2_12 : decode method_3_code 12 = .ok (.ifCond .lt 16, 3) := by decide +kernel
theorem own_d2_15 : decode method_3_code 15 = .ok (.iload 4, 2) := by decide +kernel
theorem own_d2_17 : decode method_3_code 17 = .ok (.bipush 9, 2) := by decide +kernel
theorem own_d2_19 : decode method_3_code 19 = .ok (.if_icmp .gt 9, 3) := by decide +kernel
theorem own_d2_22 : decode method_3_code 22 = .ok (.iload 4, 2) := by decide +kernel
theorem own_d2_24 : decode method_3_code 24 = .ok (.istore_n 3, 1) := by decide +kernel
theorem own_d2_25 : decode method_3_code 25 = .ok (.goto 32, 3) := by decide +kernel
theorem own_d2_28 : decode method_3_code 28 = .ok (.iload_n 2, 1) := by decide +kernel
theorem own_d2_29 : decode method_3_code 29 = .ok (.bipush 32, 2) := by decide +kernel
theorem own_d2_31 : decode method_3_code 31 = .ok (.ior, 1) := by decide +kernel
theorem own_d2_32 : decode method_3_code 32 = .ok (.istore 5, 2) := by decide +kernel
theorem own_d2_34 : decode method_3_code 34 = .ok (.iload 5, 2) := by decide +kernel
theorem own_d2_36 : decode method_3_code 36 = .ok (.bipush 97, 2) := by decide +kernel
theorem own_d2_38 : decode method_3_code 38 = .ok (.if_icmp .lt 19, 3) := by decide +kernel
theorem own_d2_41 : decode method_3_code 41 = .ok (.iload 5, 2) := by decide +kernel
theorem own_d2_43 : decode method_3_code 43 = .ok (.bipush 102, 2) := by decide +kernel
theorem own_d2_45 : decode method_3_code 45 = .ok (.if_icmp .gt 12, 3) := by decide +kernel
theorem own_d2_48 : decode method_3_code 48 = .ok (.iload 5, 2) := by decide +kernel
theorem own_d2_50 : decode method_3_code 50 = .ok (.bipush 97, 2) := by decide +kernel
theorem own_d2_52 : decode method_3_code 52 = .ok (.isub, 1) := by decide +kernel
theorem own_d2_53 : decode method_3_code 53 = .ok (.bipush 10, 2) := by decide +kernel
theorem own_d2_55 : decode method_3_code 55 = .ok (.iadd, 1) := by decide +kernel
theorem own_d2_56 : decode method_3_code 56 = .ok (.istore_n 3, 1) := by decide +kernel
theorem own_d2_57 : decode method_3_code 57 = .ok (.iload_n 3, 1) := by decide +kernel
theorem own_d2_58 : decode method_3_code 58 = .ok (.iload_n 1, 1) := by decide +kernel
theorem own_d2_59 : decode method_3_code 59 = .ok (.if_icmp .lt 5, 3) := by decide +kernel
theorem own_d2_62 : decode method_3_code 62 = .ok (.iconst (-1), 1) := by decide +kernel
theorem own_d2_63 : decode method_3_code 63 = .ok (.ireturn, 1) := by decide +kernel
theorem own_d2_64 : decode method_3_code 64 = .ok (.iload_n 3, 1) := by decide +kernel
theorem own_d2_65 : decode method_3_code 65 = .ok (.ireturn, 1) := by decide +kernel
theorem own_ef2 (m : MethodId) (p1 : Int32) (p2 : Int32) : entryFrame m #[(.int p1), (.int p2)] 6 = mkF m 0 #[.val (.int p1), .val (.int p2), .unset, .unset, .unset, .unset] [] := by first | (simp [entryFrame, mkF, argsToLocals, Value.category]; done) | rfl
def Q2 (Z : State) (p1 : Int32) (p2 : Int32)  (h0 : Heap) (n0 : Nat) (v : Option Value) (h : Heap) (L : List Loc) : Prop := v = some (.int (own_exp p1 p2)) ∧ Fr n0 L ∧ h = h0
set_option maxRecDepth 65536 in
set_option maxHeartbeats 40000000 in
theorem rm2 (l : Launch) (Z : State) (a0 : Array Value) (hw : ∀ d ∈ tables_1, d.before a0 Z = true) (ws : List Jvm.Cond) (p1 : Int32) (p2 : Int32)  (h0 : Heap) (n0 : Nat) (Z0 : n0 ≤ h0.size)  :
    MetFree l (⟨"com/example/reef_marker/reefmarker/engine/AsciiDigitPinLaw", "expected", "(CI)I"⟩ : MethodName) (head1 (Jvm.Cond.code (⟨"com/example/reef_marker/reefmarker/engine/AsciiDigitPinLaw", "expected", "(CI)I"⟩ : MethodName) method_3_code 6 (some .int) :: ws) ({ frames := 0, cells := 0, slots := 0, locals := 0 } : Room)) (fun a U => a = #[(.int p1), (.int p2)] ∧ Z.Warmed39 U.vm ∧ U.heap = h0) (fun _ _ _ _ _ => True) (fun _ U o U' => ∃ v L, o = .returned v ∧ Q2 Z p1 p2  h0 n0 v U'.heap L ∧ FrameEnd U o U' L ({ frames := 0, cells := 0, slots := 0, locals := 0 } : Room).cells ({ frames := 0, cells := 0, slots := 0, locals := 0 } : Room).slots) := by
  refine MetFree.of_bodySF (plainFor_of_name own_pn1) hisR ?_
  intro p e s m args below meth c s₁ Bd hml0 hP hK
  obtain ⟨rfl, hZ, hh⟩ := hP
  have hx := Bd.exec
  have hby := Bd.bytes
  have hml : c.maxLocals = 6 := hml0
  have hown : s.vm.findClass "com/example/reef_marker/reefmarker/engine/AsciiDigitPinLaw" = some m.cls := findClass_of_methodNamed Bd.named
  have hnm := (name_of_methodNamed Bd.named Bd.method).1
  have X0 : Stand p l e ({ frames := 0, cells := 0, slots := 0, locals := 0 } : Room) s m #[(.int p1), (.int p2)] below meth c s₁ [] 0 0 := Stand.of_body Bd
  have e0 : s₁.heap = h0 := by rw [← hh, Bd.state]; rfl
  have N0 := Fr.nil n0
  have pre0 : ∀ t, Steps p.tables e below (s₁.setTop (mkF m 0 #[.val (.int p1), .val (.int p2), .unset, .unset, .unset, .unset] [])) t → Steps p.tables e below (s₁.setTop (entryFrame m #[(.int p1), (.int p2)] 6)) t := fun t k => castTop (own_ef2 m p1 p2) k
  obtain ⟨v1, hv1⟩ : ∃ z : Int32, z = (p1 - (48 : Int32)) := ⟨_, rfl⟩
  obtain ⟨fs, hr, hrun, hended, hW, hsame⟩ := X0.leave (v := some (.int (own_exp p1 p2))) (fun h => by rw [Bd.returns] at h; cases h)
  refine ⟨_, _, pre0 _ ?_, hrun, hended, _, _, rfl, ?_, ⟨_, rfl⟩, hW, hsame.mono (by decide) (by decide)⟩
  · show Steps p.tables e below (s₁.setTop (mkF m 0 #[.val (.int p1), .val (.int p2), .unset, .unset, .unset, .unset] [])) _
    refine XS.iloadN X0.here hx rfl (hb hby own_d2_0) rfl ?_
    show Steps p.tables e below (s₁.setTop (mkF m 1 #[.val (.int p1), .val (.int p2), .unset, .unset, .unset, .unset] [(.int p1)])) _
    refine XS.istoreN X0.here hx rfl (hb hby own_d2_1) rfl (l' := #[.val (.int p1), .val (.int p2), .val (.int p1), .unset, .unset, .unset]) rfl ?_
    show Steps p.tables e below (s₁.setTop (mkF m 2 #[.val (.int p1), .val (.int p2), .val (.int p1), .unset, .unset, .unset] [])) _
    refine XT.iconstV X0.here hx rfl (-1 : Int32) (hb hby own_d2_2) (by decide) ?_
    show Steps p.tables e below (s₁.setTop (mkF m 3 #[.val (.int p1), .val (.int p2), .val (.int p1), .unset, .unset, .unset] [(.int (-1 : Int32))])) _
    refine XS.istoreN X0.here hx rfl (hb hby own_d2_3) rfl (l' := #[.val (.int p1), .val (.int p2), .val (.int p1), .val (.int (-1 : Int32)), .unset, .unset]) rfl ?_
    show Steps p.tables e below (s₁.setTop (mkF m 4 #[.val (.int p1), .val (.int p2), .val (.int p1), .val (.int (-1 : Int32)), .unset, .unset] [])) _
    refine XS.iloadN X0.here hx rfl (hb hby own_d2_4) rfl ?_
    show Steps p.tables e below (s₁.setTop (mkF m 5 #[.val (.int p1), .val (.int p2), .val (.int p1), .val (.int (-1 : Int32)), .unset, .unset] [(.int p1)])) _
    refine XT.bipushV X0.here hx rfl (48 : Int32) (hb hby own_d2_5) (by decide) ?_
    show Steps p.tables e below (s₁.setTop (mkF m 7 #[.val (.int p1), .val (.int p2), .val (.int p1), .val (.int (-1 : Int32)), .unset, .unset] [(.int (48 : Int32)), (.int p1)])) _
    refine XS.isub X0.here hx rfl (hb hby own_d2_7) rfl ?_
    show Steps p.tables e below (s₁.setTop (mkF m 8 #[.val (.int p1), .val (.int p2), .val (.int p1), .val (.int (-1 : Int32)), .unset, .unset] [(.int (p1 - (48 : Int32)))])) _
    refine XS.istore X0.here hx rfl (hb hby own_d2_8) rfl (l' := #[.val (.int p1), .val (.int p2), .val (.int p1), .val (.int (-1 : Int32)), .val (.int v1), .unset]) (by rw [hv1]; rfl) ?_
    show Steps p.tables e below (s₁.setTop (mkF m 10 #[.val (.int p1), .val (.int p2), .val (.int p1), .val (.int (-1 : Int32)), .val (.int v1), .unset] [])) _
    refine XS.iload X0.here hx rfl (hb hby own_d2_10) rfl ?_
    show Steps p.tables e below (s₁.setTop (mkF m 12 #[.val (.int p1), .val (.int p2), .val (.int p1), .val (.int (-1 : Int32)), .val (.int v1), .unset] [(.int v1)])) _
    by_cases hc12 : v1 < 0
    · refine XS.ifYes X0.here hx rfl (pc0 := 12) (pc' := 28) rfl (hb hby own_d2_12) rfl (XT.i0_lt_t hc12) (by decide) (by decide) ?_
      show Steps p.tables e below (s₁.setTop (mkF m 28 #[.val (.int p1), .val (.int p2), .val (.int p1), .val (.int (-1 : Int32)), .val (.int v1), .unset] [])) _
      refine XS.iloadN X0.here hx rfl (hb hby own_d2_28) rfl ?_
      show Steps p.tables e below (s₁.setTop (mkF m 29 #[.val (.int p1), .val (.int p2), .val (.int p1), .val (.int (-1 : Int32)), .val (.int v1), .unset] [(.int p1)])) _
      refine XT.bipushV X0.here hx rfl (32 : Int32) (hb hby own_d2_29) (by decide) ?_
      show Steps p.tables e below (s₁.setTop (mkF m 31 #[.val (.int p1), .val (.int p2), .val (.int p1), .val (.int (-1 : Int32)), .val (.int v1), .unset] [(.int (32 : Int32)), (.int p1)])) _
      refine XT.ior X0.here hx rfl (hb hby own_d2_31) rfl ?_
      show Steps p.tables e below (s₁.setTop (mkF m 32 #[.val (.int p1), .val (.int p2), .val (.int p1), .val (.int (-1 : Int32)), .val (.int v1), .unset] [(.int (p1 ||| (32 : Int32)))])) _
      refine XS.istore X0.here hx rfl (hb hby own_d2_32) rfl (l' := #[.val (.int p1), .val (.int p2), .val (.int p1), .val (.int (-1 : Int32)), .val (.int v1), .val (.int (p1 ||| (32 : Int32)))]) rfl ?_
      show Steps p.tables e below (s₁.setTop (mkF m 34 #[.val (.int p1), .val (.int p2), .val (.int p1), .val (.int (-1 : Int32)), .val (.int v1), .val (.int (p1 ||| (32 : Int32)))] [])) _
      refine XS.iload X0.here hx rfl (hb hby own_d2_34) rfl ?_
      show Steps p.tables e below (s₁.setTop (mkF m 36 #[.val (.int p1), .val (.int p2), .val (.int p1), .val (.int (-1 : Int32)), .val (.int v1), .val (.int (p1 ||| (32 : Int32)))] [(.int (p1 ||| (32 : Int32)))])) _
      refine XT.bipushV X0.here hx rfl (97 : Int32) (hb hby own_d2_36) (by decide) ?_
      show Steps p.tables e below (s₁.setTop (mkF m 38 #[.val (.int p1), .val (.int p2), .val (.int p1), .val (.int (-1 : Int32)), .val (.int v1), .val (.int (p1 ||| (32 : Int32)))] [(.int (97 : Int32)), (.int (p1 ||| (32 : Int32)))])) _
      by_cases hc38 : (p1 ||| (32 : Int32)) < (97 : Int32)
      · refine XS.icmpYes X0.here hx rfl (pc0 := 38) (pc' := 57) rfl (hb hby own_d2_38) rfl (XT.ii_lt_t hc38) (by decide) (by decide) ?_
        show Steps p.tables e below (s₁.setTop (mkF m 57 #[.val (.int p1), .val (.int p2), .val (.int p1), .val (.int (-1 : Int32)), .val (.int v1), .val (.int (p1 ||| (32 : Int32)))] [])) _
        refine XS.iloadN X0.here hx rfl (hb hby own_d2_57) rfl ?_
        show Steps p.tables e below (s₁.setTop (mkF m 58 #[.val (.int p1), .val (.int p2), .val (.int p1), .val (.int (-1 : Int32)), .val (.int v1), .val (.int (p1 ||| (32 : Int32)))] [(.int (-1 : Int32))])) _
        refine XS.iloadN X0.here hx rfl (hb hby own_d2_58) rfl ?_
        show Steps p.tables e below (s₁.setTop (mkF m 59 #[.val (.int p1), .val (.int p2), .val (.int p1), .val (.int (-1 : Int32)), .val (.int v1), .val (.int (p1 ||| (32 : Int32)))] [(.int p2), (.int (-1 : Int32))])) _
        by_cases hc59 : (-1 : Int32) < p2
        · refine XS.icmpYes X0.here hx rfl (pc0 := 59) (pc' := 64) rfl (hb hby own_d2_59) rfl (XT.ii_lt_t hc59) (by decide) (by decide) ?_
          show Steps p.tables e below (s₁.setTop (mkF m 64 #[.val (.int p1), .val (.int p2), .val (.int p1), .val (.int (-1 : Int32)), .val (.int v1), .val (.int (p1 ||| (32 : Int32)))] [])) _
          refine XS.iloadN X0.here hx rfl (hb hby own_d2_64) rfl ?_
          show Steps p.tables e below (s₁.setTop (mkF m 65 #[.val (.int p1), .val (.int p2), .val (.int p1), .val (.int (-1 : Int32)), .val (.int v1), .val (.int (p1 ||| (32 : Int32)))] [(.int (-1 : Int32))])) _
          exact retI X0 hx Bd.returns (hb hby own_d2_65) (by rw [show (-1 : Int32) = (own_exp p1 p2) from (by subst hv1; simp only [own_exp, own_e28, own_d68, if_pos hc12, if_pos hc38, if_pos hc59])]; exact hr)
        · refine XS.icmpNo X0.here hx rfl (hb hby own_d2_59) rfl (XT.ii_lt_f hc59) ?_
          show Steps p.tables e below (s₁.setTop (mkF m 62 #[.val (.int p1), .val (.int p2), .val (.int p1), .val (.int (-1 : Int32)), .val (.int v1), .val (.int (p1 ||| (32 : Int32)))] [])) _
          refine XT.iconstV X0.here hx rfl (-1 : Int32) (hb hby own_d2_62) (by decide) ?_
          show Steps p.tables e below (s₁.setTop (mkF m 63 #[.val (.int p1), .val (.int p2), .val (.int p1), .val (.int (-1 : Int32)), .val (.int v1), .val (.int (p1 ||| (32 : Int32)))] [(.int (-1 : Int32))])) _
          exact retI X0 hx Bd.returns (hb hby own_d2_63) (by rw [show (-1 : Int32) = (own_exp p1 p2) from (by subst hv1; simp only [own_exp, own_e28, own_d68, if_pos hc12, if_pos hc38, if_neg hc59])]; exact hr)
      · refine XS.icmpNo X0.here hx rfl (hb hby own_d2_38) rfl (XT.ii_lt_f hc38) ?_
        show Steps p.tables e below (s₁.setTop (mkF m 41 #[.val (.int p1), .val (.int p2), .val (.int p1), .val (.int (-1 : Int32)), .val (.int v1), .val (.int (p1 ||| (32 : Int32)))] [])) _
        refine XS.iload X0.here hx rfl (hb hby own_d2_41) rfl ?_
        show Steps p.tables e below (s₁.setTop (mkF m 43 #[.val (.int p1), .val (.int p2), .val (.int p1), .val (.int (-1 : Int32)), .val (.int v1), .val (.int (p1 ||| (32 : Int32)))] [(.int (p1 ||| (32 : Int32)))])) _
        refine XT.bipushV X0.here hx rfl (102 : Int32) (hb hby own_d2_43) (by decide) ?_
        show Steps p.tables e below (s₁.setTop (mkF m 45 #[.val (.int p1), .val (.int p2), .val (.int p1), .val (.int (-1 : Int32)), .val (.int v1), .val (.int (p1 ||| (32 : Int32)))] [(.int (102 : Int32)), (.int (p1 ||| (32 : Int32)))])) _
        by_cases hc45 : (102 : Int32) < (p1 ||| (32 : Int32))
        · refine XS.icmpYes X0.here hx rfl (pc0 := 45) (pc' := 57) rfl (hb hby own_d2_45) rfl (XT.ii_gt_t hc45) (by decide) (by decide) ?_
          show Steps p.tables e below (s₁.setTop (mkF m 57 #[.val (.int p1), .val (.int p2), .val (.int p1), .val (.int (-1 : Int32)), .val (.int v1), .val (.int (p1 ||| (32 : Int32)))] [])) _
          refine XS.iloadN X0.here hx rfl (hb hby own_d2_57) rfl ?_
          show Steps p.tables e below (s₁.setTop (mkF m 58 #[.val (.int p1), .val (.int p2), .val (.int p1), .val (.int (-1 : Int32)), .val (.int v1), .val (.int (p1 ||| (32 : Int32)))] [(.int (-1 : Int32))])) _
          refine XS.iloadN X0.here hx rfl (hb hby own_d2_58) rfl ?_
          show Steps p.tables e below (s₁.setTop (mkF m 59 #[.val (.int p1), .val (.int p2), .val (.int p1), .val (.int (-1 : Int32)), .val (.int v1), .val (.int (p1 ||| (32 : Int32)))] [(.int p2), (.int (-1 : Int32))])) _
          by_cases hc59 : (-1 : Int32) < p2
          · refine XS.icmpYes X0.here hx rfl (pc0 := 59) (pc' := 64) rfl (hb hby own_d2_59) rfl (XT.ii_lt_t hc59) (by decide) (by decide) ?_
            show Steps p.tables e below (s₁.setTop (mkF m 64 #[.val (.int p1), .val (.int p2), .val (.int p1), .val (.int (-1 : Int32)), .val (.int v1), .val (.int (p1 ||| (32 : Int32)))] [])) _
            refine XS.iloadN X0.here hx rfl (hb hby own_d2_64) rfl ?_
            show Steps p.tables e below (s₁.setTop (mkF m 65 #[.val (.int p1), .val (.int p2), .val (.int p1), .val (.int (-1 : Int32)), .val (.int v1), .val (.int (p1 ||| (32 : Int32)))] [(.int (-1 : Int32))])) _
            exact retI X0 hx Bd.returns (hb hby own_d2_65) (by rw [show (-1 : Int32) = (own_exp p1 p2) from (by subst hv1; simp only [own_exp, own_e28, own_d68, if_pos hc12, if_neg hc38, if_pos hc45, if_pos hc59])]; exact hr)
          · refine XS.icmpNo X0.here hx rfl (hb hby own_d2_59) rfl (XT.ii_lt_f hc59) ?_
            show Steps p.tables e below (s₁.setTop (mkF m 62 #[.val (.int p1), .val (.int p2), .val (.int p1), .val (.int (-1 : Int32)), .val (.int v1), .val (.int (p1 ||| (32 : Int32)))] [])) _
            refine XT.iconstV X0.here hx rfl (-1 : Int32) (hb hby own_d2_62) (by decide) ?_
            show Steps p.tables e below (s₁.setTop (mkF m 63 #[.val (.int p1), .val (.int p2), .val (.int p1), .val (.int (-1 : Int32)), .val (.int v1), .val (.int (p1 ||| (32 : Int32)))] [(.int (-1 : Int32))])) _
            exact retI X0 hx Bd.returns (hb hby own_d2_63) (by rw [show (-1 : Int32) = (own_exp p1 p2) from (by subst hv1; simp only [own_exp, own_e28, own_d68, if_pos hc12, if_neg hc38, if_pos hc45, if_neg hc59])]; exact hr)
        · refine XS.icmpNo X0.here hx rfl (hb hby own_d2_45) rfl (XT.ii_gt_f hc45) ?_
          show Steps p.tables e below (s₁.setTop (mkF m 48 #[.val (.int p1), .val (.int p2), .val (.int p1), .val (.int (-1 : Int32)), .val (.int v1), .val (.int (p1 ||| (32 : Int32)))] [])) _
          refine XS.iload X0.here hx rfl (hb hby own_d2_48) rfl ?_
          show Steps p.tables e below (s₁.setTop (mkF m 50 #[.val (.int p1), .val (.int p2), .val (.int p1), .val (.int (-1 : Int32)), .val (.int v1), .val (.int (p1 ||| (32 : Int32)))] [(.int (p1 ||| (32 : Int32)))])) _
          refine XT.bipushV X0.here hx rfl (97 : Int32) (hb hby own_d2_50) (by decide) ?_
          show Steps p.tables e below (s₁.setTop (mkF m 52 #[.val (.int p1), .val (.int p2), .val (.int p1), .val (.int (-1 : Int32)), .val (.int v1), .val (.int (p1 ||| (32 : Int32)))] [(.int (97 : Int32)), (.int (p1 ||| (32 : Int32)))])) _
          refine XS.isub X0.here hx rfl (hb hby own_d2_52) rfl ?_
          show Steps p.tables e below (s₁.setTop (mkF m 53 #[.val (.int p1), .val (.int p2), .val (.int p1), .val (.int (-1 : Int32)), .val (.int v1), .val (.int (p1 ||| (32 : Int32)))] [(.int ((p1 ||| (32 : Int32)) - (97 : Int32)))])) _
          refine XT.bipushV X0.here hx rfl (10 : Int32) (hb hby own_d2_53) (by decide) ?_
          show Steps p.tables e below (s₁.setTop (mkF m 55 #[.val (.int p1), .val (.int p2), .val (.int p1), .val (.int (-1 : Int32)), .val (.int v1), .val (.int (p1 ||| (32 : Int32)))] [(.int (10 : Int32)), (.int ((p1 ||| (32 : Int32)) - (97 : Int32)))])) _
          refine XS.iadd X0.here hx rfl (hb hby own_d2_55) rfl ?_
          show Steps p.tables e below (s₁.setTop (mkF m 56 #[.val (.int p1), .val (.int p2), .val (.int p1), .val (.int (-1 : Int32)), .val (.int v1), .val (.int (p1 ||| (32 : Int32)))] [(.int (((p1 ||| (32 : Int32)) - (97 : Int32)) + (10 : Int32)))])) _
          refine XS.istoreN X0.here hx rfl (hb hby own_d2_56) rfl (l' := #[.val (.int p1), .val (.int p2), .val (.int p1), .val (.int (((p1 ||| (32 : Int32)) - (97 : Int32)) + (10 : Int32))), .val (.int v1), .val (.int (p1 ||| (32 : Int32)))]) rfl ?_
          show Steps p.tables e below (s₁.setTop (mkF m 57 #[.val (.int p1), .val (.int p2), .val (.int p1), .val (.int (((p1 ||| (32 : Int32)) - (97 : Int32)) + (10 : Int32))), .val (.int v1), .val (.int (p1 ||| (32 : Int32)))] [])) _
          refine XS.iloadN X0.here hx rfl (hb hby own_d2_57) rfl ?_
          show Steps p.tables e below (s₁.setTop (mkF m 58 #[.val (.int p1), .val (.int p2), .val (.int p1), .val (.int (((p1 ||| (32 : Int32)) - (97 : Int32)) + (10 : Int32))), .val (.int v1), .val (.int (p1 ||| (32 : Int32)))] [(.int (((p1 ||| (32 : Int32)) - (97 : Int32)) + (10 : Int32)))])) _
          refine XS.iloadN X0.here hx rfl (hb hby own_d2_58) rfl ?_
          show Steps p.tables e below (s₁.setTop (mkF m 59 #[.val (.int p1), .val (.int p2), .val (.int p1), .val (.int (((p1 ||| (32 : Int32)) - (97 : Int32)) + (10 : Int32))), .val (.int v1), .val (.int (p1 ||| (32 : Int32)))] [(.int p2), (.int (((p1 ||| (32 : Int32)) - (97 : Int32)) + (10 : Int32)))])) _
          by_cases hc59 : (((p1 ||| (32 : Int32)) - (97 : Int32)) + (10 : Int32)) < p2
          · refine XS.icmpYes X0.here hx rfl (pc0 := 59) (pc' := 64) rfl (hb hby own_d2_59) rfl (XT.ii_lt_t hc59) (by decide) (by decide) ?_
            show Steps p.tables e below (s₁.setTop (mkF m 64 #[.val (.int p1), .val (.int p2), .val (.int p1), .val (.int (((p1 ||| (32 : Int32)) - (97 : Int32)) + (10 : Int32))), .val (.int v1), .val (.int (p1 ||| (32 : Int32)))] [])) _
            refine XS.iloadN X0.here hx rfl (hb hby own_d2_64) rfl ?_
            show Steps p.tables e below (s₁.setTop (mkF m 65 #[.val (.int p1), .val (.int p2), .val (.int p1), .val (.int (((p1 ||| (32 : Int32)) - (97 : Int32)) + (10 : Int32))), .val (.int v1), .val (.int (p1 ||| (32 : Int32)))] [(.int (((p1 ||| (32 : Int32)) - (97 : Int32)) + (10 : Int32)))])) _
            exact retI X0 hx Bd.returns (hb hby own_d2_65) (by rw [show (((p1 ||| (32 : Int32)) - (97 : Int32)) + (10 : Int32)) = (own_exp p1 p2) from (by subst hv1; simp only [own_exp, own_e28, own_d68, if_pos hc12, if_neg hc38, if_neg hc45, if_pos hc59])]; exact hr)
          · refine XS.icmpNo X0.here hx rfl (hb hby own_d2_59) rfl (XT.ii_lt_f hc59) ?_
            show Steps p.tables e below (s₁.setTop (mkF m 62 #[.val (.int p1), .val (.int p2), .val (.int p1), .val (.int (((p1 ||| (32 : Int32)) - (97 : Int32)) + (10 : Int32))), .val (.int v1), .val (.int (p1 ||| (32 : Int32)))] [])) _
            refine XT.iconstV X0.here hx rfl (-1 : Int32) (hb hby own_d2_62) (by decide) ?_
            show Steps p.tables e below (s₁.setTop (mkF m 63 #[.val (.int p1), .val (.int p2), .val (.int p1), .val (.int (((p1 ||| (32 : Int32)) - (97 : Int32)) + (10 : Int32))), .val (.int v1), .val (.int (p1 ||| (32 : Int32)))] [(.int (-1 : Int32))])) _
            exact retI X0 hx Bd.returns (hb hby own_d2_63) (by rw [show (-1 : Int32) = (own_exp p1 p2) from (by subst hv1; simp only [own_exp, own_e28, own_d68, if_pos hc12, if_neg hc38, if_neg hc45, if_neg hc59])]; exact hr)
    · refine XS.ifNo X0.here hx rfl (hb hby own_d2_12) rfl (XT.i0_lt_f hc12) ?_
      show Steps p.tables e below (s₁.setTop (mkF m 15 #[.val (.int p1), .val (.int p2), .val (.int p1), .val (.int (-1 : Int32)), .val (.int v1), .unset] [])) _
      refine XS.iload X0.here hx rfl (hb hby own_d2_15) rfl ?_
      show Steps p.tables e below (s₁.setTop (mkF m 17 #[.val (.int p1), .val (.int p2), .val (.int p1), .val (.int (-1 : Int32)), .val (.int v1), .unset] [(.int v1)])) _
      refine XT.bipushV X0.here hx rfl (9 : Int32) (hb hby own_d2_17) (by decide) ?_
      show Steps p.tables e below (s₁.setTop (mkF m 19 #[.val (.int p1), .val (.int p2), .val (.int p1), .val (.int (-1 : Int32)), .val (.int v1), .unset] [(.int (9 : Int32)), (.int v1)])) _
      by_cases hc19 : (9 : Int32) < v1
      · refine XS.icmpYes X0.here hx rfl (pc0 := 19) (pc' := 28) rfl (hb hby own_d2_19) rfl (XT.ii_gt_t hc19) (by decide) (by decide) ?_
        show Steps p.tables e below (s₁.setTop (mkF m 28 #[.val (.int p1), .val (.int p2), .val (.int p1), .val (.int (-1 : Int32)), .val (.int v1), .unset] [])) _
        refine XS.iloadN X0.here hx rfl (hb hby own_d2_28) rfl ?_
        show Steps p.tables e below (s₁.setTop (mkF m 29 #[.val (.int p1), .val (.int p2), .val (.int p1), .val (.int (-1 : Int32)), .val (.int v1), .unset] [(.int p1)])) _
        refine XT.bipushV X0.here hx rfl (32 : Int32) (hb hby own_d2_29) (by decide) ?_
        show Steps p.tables e below (s₁.setTop (mkF m 31 #[.val (.int p1), .val (.int p2), .val (.int p1), .val (.int (-1 : Int32)), .val (.int v1), .unset] [(.int (32 : Int32)), (.int p1)])) _
        refine XT.ior X0.here hx rfl (hb hby own_d2_31) rfl ?_
        show Steps p.tables e below (s₁.setTop (mkF m 32 #[.val (.int p1), .val (.int p2), .val (.int p1), .val (.int (-1 : Int32)), .val (.int v1), .unset] [(.int (p1 ||| (32 : Int32)))])) _
        refine XS.istore X0.here hx rfl (hb hby own_d2_32) rfl (l' := #[.val (.int p1), .val (.int p2), .val (.int p1), .val (.int (-1 : Int32)), .val (.int v1), .val (.int (p1 ||| (32 : Int32)))]) rfl ?_
        show Steps p.tables e below (s₁.setTop (mkF m 34 #[.val (.int p1), .val (.int p2), .val (.int p1), .val (.int (-1 : Int32)), .val (.int v1), .val (.int (p1 ||| (32 : Int32)))] [])) _
        refine XS.iload X0.here hx rfl (hb hby own_d2_34) rfl ?_
        show Steps p.tables e below (s₁.setTop (mkF m 36 #[.val (.int p1), .val (.int p2), .val (.int p1), .val (.int (-1 : Int32)), .val (.int v1), .val (.int (p1 ||| (32 : Int32)))] [(.int (p1 ||| (32 : Int32)))])) _
        refine XT.bipushV X0.here hx rfl (97 : Int32) (hb hby own_d2_36) (by decide) ?_
        show Steps p.tables e below (s₁.setTop (mkF m 38 #[.val (.int p1), .val (.int p2), .val (.int p1), .val (.int (-1 : Int32)), .val (.int v1), .val (.int (p1 ||| (32 : Int32)))] [(.int (97 : Int32)), (.int (p1 ||| (32 : Int32)))])) _
        by_cases hc38 : (p1 ||| (32 : Int32)) < (97 : Int32)
        · refine XS.icmpYes X0.here hx rfl (pc0 := 38) (pc' := 57) rfl (hb hby own_d2_38) rfl (XT.ii_lt_t hc38) (by decide) (by decide) ?_
          show Steps p.tables e below (s₁.setTop (mkF m 57 #[.val (.int p1), .val (.int p2), .val (.int p1), .val (.int (-1 : Int32)), .val (.int v1), .val (.int (p1 ||| (32 : Int32)))] [])) _
          refine XS.iloadN X0.here hx rfl (hb hby own_d2_57) rfl ?_
          show Steps p.tables e below (s₁.setTop (mkF m 58 #[.val (.int p1), .val (.int p2), .val (.int p1), .val (.int (-1 : Int32)), .val (.int v1), .val (.int (p1 ||| (32 : Int32)))] [(.int (-1 : Int32))])) _
          refine XS.iloadN X0.here hx rfl (hb hby own_d2_58) rfl ?_
          show Steps p.tables e below (s₁.setTop (mkF m 59 #[.val (.int p1), .val (.int p2), .val (.int p1), .val (.int (-1 : Int32)), .val (.int v1), .val (.int (p1 ||| (32 : Int32)))] [(.int p2), (.int (-1 : Int32))])) _
          by_cases hc59 : (-1 : Int32) < p2
          · refine XS.icmpYes X0.here hx rfl (pc0 := 59) (pc' := 64) rfl (hb hby own_d2_59) rfl (XT.ii_lt_t hc59) (by decide) (by decide) ?_
            show Steps p.tables e below (s₁.setTop (mkF m 64 #[.val (.int p1), .val (.int p2), .val (.int p1), .val (.int (-1 : Int32)), .val (.int v1), .val (.int (p1 ||| (32 : Int32)))] [])) _
            refine XS.iloadN X0.here hx rfl (hb hby own_d2_64) rfl ?_
            show Steps p.tables e below (s₁.setTop (mkF m 65 #[.val (.int p1), .val (.int p2), .val (.int p1), .val (.int (-1 : Int32)), .val (.int v1), .val (.int (p1 ||| (32 : Int32)))] [(.int (-1 : Int32))])) _
            exact retI X0 hx Bd.returns (hb hby own_d2_65) (by rw [show (-1 : Int32) = (own_exp p1 p2) from (by subst hv1; simp only [own_exp, own_e28, own_d68, if_neg hc12, if_pos hc19, if_pos hc38, if_pos hc59])]; exact hr)
          · refine XS.icmpNo X0.here hx rfl (hb hby own_d2_59) rfl (XT.ii_lt_f hc59) ?_
            show Steps p.tables e below (s₁.setTop (mkF m 62 #[.val (.int p1), .val (.int p2), .val (.int p1), .val (.int (-1 : Int32)), .val (.int v1), .val (.int (p1 ||| (32 : Int32)))] [])) _
            refine XT.iconstV X0.here hx rfl (-1 : Int32) (hb hby own_d2_62) (by decide) ?_
            show Steps p.tables e below (s₁.setTop (mkF m 63 #[.val (.int p1), .val (.int p2), .val (.int p1), .val (.int (-1 : Int32)), .val (.int v1), .val (.int (p1 ||| (32 : Int32)))] [(.int (-1 : Int32))])) _
            exact retI X0 hx Bd.returns (hb hby own_d2_63) (by rw [show (-1 : Int32) = (own_exp p1 p2) from (by subst hv1; simp only [own_exp, own_e28, own_d68, if_neg hc12, if_pos hc19, if_pos hc38, if_neg hc59])]; exact hr)
        · refine XS.icmpNo X0.here hx rfl (hb hby own_d2_38) rfl (XT.ii_lt_f hc38) ?_
          show Steps p.tables e below (s₁.setTop (mkF m 41 #[.val (.int p1), .val (.int p2), .val (.int p1), .val (.int (-1 : Int32)), .val (.int v1), .val (.int (p1 ||| (32 : Int32)))] [])) _
          refine XS.iload X0.here hx rfl (hb hby own_d2_41) rfl ?_
          show Steps p.tables e below (s₁.setTop (mkF m 43 #[.val (.int p1), .val (.int p2), .val (.int p1), .val (.int (-1 : Int32)), .val (.int v1), .val (.int (p1 ||| (32 : Int32)))] [(.int (p1 ||| (32 : Int32)))])) _
          refine XT.bipushV X0.here hx rfl (102 : Int32) (hb hby own_d2_43) (by decide) ?_
          show Steps p.tables e below (s₁.setTop (mkF m 45 #[.val (.int p1), .val (.int p2), .val (.int p1), .val (.int (-1 : Int32)), .val (.int v1), .val (.int (p1 ||| (32 : Int32)))] [(.int (102 : Int32)), (.int (p1 ||| (32 : Int32)))])) _
          by_cases hc45 : (102 : Int32) < (p1 ||| (32 : Int32))
          · refine XS.icmpYes X0.here hx rfl (pc0 := 45) (pc' := 57) rfl (hb hby own_d2_45) rfl (XT.ii_gt_t hc45) (by decide) (by decide) ?_
            show Steps p.tables e below (s₁.setTop (mkF m 57 #[.val (.int p1), .val (.int p2), .val (.int p1), .val (.int (-1 : Int32)), .val (.int v1), .val (.int (p1 ||| (32 : Int32)))] [])) _
            refine XS.iloadN X0.here hx rfl (hb hby own_d2_57) rfl ?_
            show Steps p.tables e below (s₁.setTop (mkF m 58 #[.val (.int p1), .val (.int p2), .val (.int p1), .val (.int (-1 : Int32)), .val (.int v1), .val (.int (p1 ||| (32 : Int32)))] [(.int (-1 : Int32))])) _
            refine XS.iloadN X0.here hx rfl (hb hby own_d2_58) rfl ?_
            show Steps p.tables e below (s₁.setTop (mkF m 59 #[.val (.int p1), .val (.int p2), .val (.int p1), .val (.int (-1 : Int32)), .val (.int v1), .val (.int (p1 ||| (32 : Int32)))] [(.int p2), (.int (-1 : Int32))])) _
            by_cases hc59 : (-1 : Int32) < p2
            · refine XS.icmpYes X0.here hx rfl (pc0 := 59) (pc' := 64) rfl (hb hby own_d2_59) rfl (XT.ii_lt_t hc59) (by decide) (by decide) ?_
              show Steps p.tables e below (s₁.setTop (mkF m 64 #[.val (.int p1), .val (.int p2), .val (.int p1), .val (.int (-1 : Int32)), .val (.int v1), .val (.int (p1 ||| (32 : Int32)))] [])) _
              refine XS.iloadN X0.here hx rfl (hb hby own_d2_64) rfl ?_
              show Steps p.tables e below (s₁.setTop (mkF m 65 #[.val (.int p1), .val (.int p2), .val (.int p1), .val (.int (-1 : Int32)), .val (.int v1), .val (.int (p1 ||| (32 : Int32)))] [(.int (-1 : Int32))])) _
              exact retI X0 hx Bd.returns (hb hby own_d2_65) (by rw [show (-1 : Int32) = (own_exp p1 p2) from (by subst hv1; simp only [own_exp, own_e28, own_d68, if_neg hc12, if_pos hc19, if_neg hc38, if_pos hc45, if_pos hc59])]; exact hr)
            · refine XS.icmpNo X0.here hx rfl (hb hby own_d2_59) rfl (XT.ii_lt_f hc59) ?_
              show Steps p.tables e below (s₁.setTop (mkF m 62 #[.val (.int p1), .val (.int p2), .val (.int p1), .val (.int (-1 : Int32)), .val (.int v1), .val (.int (p1 ||| (32 : Int32)))] [])) _
              refine XT.iconstV X0.here hx rfl (-1 : Int32) (hb hby own_d2_62) (by decide) ?_
              show Steps p.tables e below (s₁.setTop (mkF m 63 #[.val (.int p1), .val (.int p2), .val (.int p1), .val (.int (-1 : Int32)), .val (.int v1), .val (.int (p1 ||| (32 : Int32)))] [(.int (-1 : Int32))])) _
              exact retI X0 hx Bd.returns (hb hby own_d2_63) (by rw [show (-1 : Int32) = (own_exp p1 p2) from (by subst hv1; simp only [own_exp, own_e28, own_d68, if_neg hc12, if_pos hc19, if_neg hc38, if_pos hc45, if_neg hc59])]; exact hr)
          · refine XS.icmpNo X0.here hx rfl (hb hby own_d2_45) rfl (XT.ii_gt_f hc45) ?_
            show Steps p.tables e below (s₁.setTop (mkF m 48 #[.val (.int p1), .val (.int p2), .val (.int p1), .val (.int (-1 : Int32)), .val (.int v1), .val (.int (p1 ||| (32 : Int32)))] [])) _
            refine XS.iload X0.here hx rfl (hb hby own_d2_48) rfl ?_
            show Steps p.tables e below (s₁.setTop (mkF m 50 #[.val (.int p1), .val (.int p2), .val (.int p1), .val (.int (-1 : Int32)), .val (.int v1), .val (.int (p1 ||| (32 : Int32)))] [(.int (p1 ||| (32 : Int32)))])) _
            refine XT.bipushV X0.here hx rfl (97 : Int32) (hb hby own_d2_50) (by decide) ?_
            show Steps p.tables e below (s₁.setTop (mkF m 52 #[.val (.int p1), .val (.int p2), .val (.int p1), .val (.int (-1 : Int32)), .val (.int v1), .val (.int (p1 ||| (32 : Int32)))] [(.int (97 : Int32)), (.int (p1 ||| (32 : Int32)))])) _
            refine XS.isub X0.here hx rfl (hb hby own_d2_52) rfl ?_
            show Steps p.tables e below (s₁.setTop (mkF m 53 #[.val (.int p1), .val (.int p2), .val (.int p1), .val (.int (-1 : Int32)), .val (.int v1), .val (.int (p1 ||| (32 : Int32)))] [(.int ((p1 ||| (32 : Int32)) - (97 : Int32)))])) _
            refine XT.bipushV X0.here hx rfl (10 : Int32) (hb hby own_d2_53) (by decide) ?_
            show Steps p.tables e below (s₁.setTop (mkF m 55 #[.val (.int p1), .val (.int p2), .val (.int p1), .val (.int (-1 : Int32)), .val (.int v1), .val (.int (p1 ||| (32 : Int32)))] [(.int (10 : Int32)), (.int ((p1 ||| (32 : Int32)) - (97 : Int32)))])) _
            refine XS.iadd X0.here hx rfl (hb hby own_d2_55) rfl ?_
            show Steps p.tables e below (s₁.setTop (mkF m 56 #[.val (.int p1), .val (.int p2), .val (.int p1), .val (.int (-1 : Int32)), .val (.int v1), .val (.int (p1 ||| (32 : Int32)))] [(.int (((p1 ||| (32 : Int32)) - (97 : Int32)) + (10 : Int32)))])) _
            refine XS.istoreN X0.here hx rfl (hb hby own_d2_56) rfl (l' := #[.val (.int p1), .val (.int p2), .val (.int p1), .val (.int (((p1 ||| (32 : Int32)) - (97 : Int32)) + (10 : Int32))), .val (.int v1), .val (.int (p1 ||| (32 : Int32)))]) rfl ?_
            show Steps p.tables e below (s₁.setTop (mkF m 57 #[.val (.int p1), .val (.int p2), .val (.int p1), .val (.int (((p1 ||| (32 : Int32)) - (97 : Int32)) + (10 : Int32))), .val (.int v1), .val (.int (p1 ||| (32 : Int32)))] [])) _
            refine XS.iloadN X0.here hx rfl (hb hby own_d2_57) rfl ?_
            show Steps p.tables e below (s₁.setTop (mkF m 58 #[.val (.int p1), .val (.int p2), .val (.int p1), .val (.int (((p1 ||| (32 : Int32)) - (97 : Int32)) + (10 : Int32))), .val (.int v1), .val (.int (p1 ||| (32 : Int32)))] [(.int (((p1 ||| (32 : Int32)) - (97 : Int32)) + (10 : Int32)))])) _
            refine XS.iloadN X0.here hx rfl (hb hby own_d2_58) rfl ?_
            show Steps p.tables e below (s₁.setTop (mkF m 59 #[.val (.int p1), .val (.int p2), .val (.int p1), .val (.int (((p1 ||| (32 : Int32)) - (97 : Int32)) + (10 : Int32))), .val (.int v1), .val (.int (p1 ||| (32 : Int32)))] [(.int p2), (.int (((p1 ||| (32 : Int32)) - (97 : Int32)) + (10 : Int32)))])) _
            by_cases hc59 : (((p1 ||| (32 : Int32)) - (97 : Int32)) + (10 : Int32)) < p2
            · refine XS.icmpYes X0.here hx rfl (pc0 := 59) (pc' := 64) rfl (hb hby own_d2_59) rfl (XT.ii_lt_t hc59) (by decide) (by decide) ?_
              show Steps p.tables e below (s₁.setTop (mkF m 64 #[.val (.int p1), .val (.int p2), .val (.int p1), .val (.int (((p1 ||| (32 : Int32)) - (97 : Int32)) + (10 : Int32))), .val (.int v1), .val (.int (p1 ||| (32 : Int32)))] [])) _
              refine XS.iloadN X0.here hx rfl (hb hby own_d2_64) rfl ?_
              show Steps p.tables e below (s₁.setTop (mkF m 65 #[.val (.int p1), .val (.int p2), .val (.int p1), .val (.int (((p1 ||| (32 : Int32)) - (97 : Int32)) + (10 : Int32))), .val (.int v1), .val (.int (p1 ||| (32 : Int32)))] [(.int (((p1 ||| (32 : Int32)) - (97 : Int32)) + (10 : Int32)))])) _
              exact retI X0 hx Bd.returns (hb hby own_d2_65) (by rw [show (((p1 ||| (32 : Int32)) - (97 : Int32)) + (10 : Int32)) = (own_exp p1 p2) from (by subst hv1; simp only [own_exp, own_e28, own_d68, if_neg hc12, if_pos hc19, if_neg hc38, if_neg hc45, if_pos hc59])]; exact hr)
            · refine XS.icmpNo X0.here hx rfl (hb hby own_d2_59) rfl (XT.ii_lt_f hc59) ?_
              show Steps p.tables e below (s₁.setTop (mkF m 62 #[.val (.int p1), .val (.int p2), .val (.int p1), .val (.int (((p1 ||| (32 : Int32)) - (97 : Int32)) + (10 : Int32))), .val (.int v1), .val (.int (p1 ||| (32 : Int32)))] [])) _
              refine XT.iconstV X0.here hx rfl (-1 : Int32) (hb hby own_d2_62) (by decide) ?_
              show Steps p.tables e below (s₁.setTop (mkF m 63 #[.val (.int p1), .val (.int p2), .val (.int p1), .val (.int (((p1 ||| (32 : Int32)) - (97 : Int32)) + (10 : Int32))), .val (.int v1), .val (.int (p1 ||| (32 : Int32)))] [(.int (-1 : Int32))])) _
              exact retI X0 hx Bd.returns (hb hby own_d2_63) (by rw [show (-1 : Int32) = (own_exp p1 p2) from (by subst hv1; simp only [own_exp, own_e28, own_d68, if_neg hc12, if_pos hc19, if_neg hc38, if_neg hc45, if_neg hc59])]; exact hr)
      · refine XS.icmpNo X0.here hx rfl (hb hby own_d2_19) rfl (XT.ii_gt_f hc19) ?_
        show Steps p.tables e below (s₁.setTop (mkF m 22 #[.val (.int p1), .val (.int p2), .val (.int p1), .val (.int (-1 : Int32)), .val (.int v1), .unset] [])) _
        refine XS.iload X0.here hx rfl (hb hby own_d2_22) rfl ?_
        show Steps p.tables e below (s₁.setTop (mkF m 24 #[.val (.int p1), .val (.int p2), .val (.int p1), .val (.int (-1 : Int32)), .val (.int v1), .unset] [(.int v1)])) _
        refine XS.istoreN X0.here hx rfl (hb hby own_d2_24) rfl (l' := #[.val (.int p1), .val (.int p2), .val (.int p1), .val (.int v1), .val (.int v1), .unset]) rfl ?_
        show Steps p.tables e below (s₁.setTop (mkF m 25 #[.val (.int p1), .val (.int p2), .val (.int p1), .val (.int v1), .val (.int v1), .unset] [])) _
        refine XS.goto X0.here hx rfl (pc0 := 25) (pc' := 57) rfl (hb hby own_d2_25) (by decide) (by decide) ?_
        show Steps p.tables e below (s₁.setTop (mkF m 57 #[.val (.int p1), .val (.int p2), .val (.int p1), .val (.int v1), .val (.int v1), .unset] [])) _
        refine XS.iloadN X0.here hx rfl (hb hby own_d2_57) rfl ?_
        show Steps p.tables e below (s₁.setTop (mkF m 58 #[.val (.int p1), .val (.int p2), .val (.int p1), .val (.int v1), .val (.int v1), .unset] [(.int v1)])) _
        refine XS.iloadN X0.here hx rfl (hb hby own_d2_58) rfl ?_
        show Steps p.tables e below (s₁.setTop (mkF m 59 #[.val (.int p1), .val (.int p2), .val (.int p1), .val (.int v1), .val (.int v1), .unset] [(.int p2), (.int v1)])) _
        by_cases hc59 : v1 < p2
        · refine XS.icmpYes X0.here hx rfl (pc0 := 59) (pc' := 64) rfl (hb hby own_d2_59) rfl (XT.ii_lt_t hc59) (by decide) (by decide) ?_
          show Steps p.tables e below (s₁.setTop (mkF m 64 #[.val (.int p1), .val (.int p2), .val (.int p1), .val (.int v1), .val (.int v1), .unset] [])) _
          refine XS.iloadN X0.here hx rfl (hb hby own_d2_64) rfl ?_
          show Steps p.tables e below (s₁.setTop (mkF m 65 #[.val (.int p1), .val (.int p2), .val (.int p1), .val (.int v1), .val (.int v1), .unset] [(.int v1)])) _
          exact retI X0 hx Bd.returns (hb hby own_d2_65) (by rw [show v1 = (own_exp p1 p2) from (by subst hv1; simp only [own_exp, own_e28, own_d68, if_neg hc12, if_neg hc19, if_pos hc59])]; exact hr)
        · refine XS.icmpNo X0.here hx rfl (hb hby own_d2_59) rfl (XT.ii_lt_f hc59) ?_
          show Steps p.tables e below (s₁.setTop (mkF m 62 #[.val (.int p1), .val (.int p2), .val (.int p1), .val (.int v1), .val (.int v1), .unset] [])) _
          refine XT.iconstV X0.here hx rfl (-1 : Int32) (hb hby own_d2_62) (by decide) ?_
          show Steps p.tables e below (s₁.setTop (mkF m 63 #[.val (.int p1), .val (.int p2), .val (.int p1), .val (.int v1), .val (.int v1), .unset] [(.int (-1 : Int32))])) _
          exact retI X0 hx Bd.returns (hb hby own_d2_63) (by rw [show (-1 : Int32) = (own_exp p1 p2) from (by subst hv1; simp only [own_exp, own_e28, own_d68, if_neg hc12, if_neg hc19, if_neg hc59])]; exact hr)
  · exact ⟨rfl, N0, e0⟩
theorem own_pd0 : parseMethodDescriptor "(CI)I" = some ⟨[.char, .int], some .int⟩ := by decide +kernel
theorem own_ef0 (m : MethodId) (p1 : Int32) (p2 : Int32) : entryFrame m #[(.int p1), (.int p2)] maxLocals = mkF m 0 #[.val (.int p1), .val (.int p2), .unset, .unset, .unset, .unset, .unset] [] := by first | (simp [entryFrame, mkF, argsToLocals, Value.category, maxLocals]; done) | rfl
def Q0 (Z : State) (p1 : Int32) (p2 : Int32)  (h0 : Heap) (n0 : Nat) (v : Option Value) (h : Heap) (L : List Loc) : Prop := v = some (.int (1 : Int32)) ∧ Fr n0 L
set_option maxRecDepth 65536 in
set_option maxHeartbeats 40000000 in
theorem rm0 (l : Launch) (Z : State) (a0 : Array Value) (hw : ∀ d ∈ tables_1, d.before a0 Z = true) (ws : List Jvm.Cond) (p1 : Int32) (p2 : Int32)  (h0 : Heap) (n0 : Nat) (Z0 : n0 ≤ h0.size)  :
    MetFree l x (head1 (Jvm.Cond.code x code maxLocals ret :: ws) room_1) (fun a U => a = #[(.int p1), (.int p2)] ∧ Z.Warmed39 U.vm ∧ U.heap = h0) (fun _ _ _ _ _ => True) (fun _ U o U' => ∃ v L, o = .returned v ∧ Q0 Z p1 p2  h0 n0 v U'.heap L ∧ FrameEnd U o U' L room_1.cells room_1.slots) := by
  refine MetFree.of_bodySF (plainFor_of_name own_pn1) hisR ?_
  intro p e s m args below meth c s₁ Bd hml0 hP hK
  obtain ⟨rfl, hZ, hh⟩ := hP
  have hx := Bd.exec
  have hby := Bd.bytes
  have hml : c.maxLocals = 7 := hml0
  have hown : s.vm.findClass "com/example/reef_marker/reefmarker/engine/AsciiDigitPinLaw" = some m.cls := findClass_of_methodNamed Bd.named
  have hnm := (name_of_methodNamed Bd.named Bd.method).1
  have X0 : Stand p l e room_1 s m #[(.int p1), (.int p2)] below meth c s₁ [] 0 0 := Stand.of_body Bd
  have e0 : s₁.heap = h0 := by rw [← hh, Bd.state]; rfl
  have N0 := Fr.nil n0
  have pre0 : ∀ t, Steps p.tables e below (s₁.setTop (mkF m 0 #[.val (.int p1), .val (.int p2), .unset, .unset, .unset, .unset, .unset] [])) t → Steps p.tables e below (s₁.setTop (entryFrame m #[(.int p1), (.int p2)] maxLocals)) t := fun t k => castTop (own_ef0 m p1 p2) k
  obtain ⟨v1, hv1⟩ : ∃ z : Int32, z = (p2 &&& (3 : Int32)) := ⟨_, rfl⟩
  have sg0 : ∀ t, Steps p.tables e below (s₁.setTop (mkF m 4 #[.val (.int p1), .val (.int p2), .val (.int v1), .unset, .unset, .unset, .unset] [])) t → Steps p.tables e below (s₁.setTop (mkF m 0 #[.val (.int p1), .val (.int p2), .unset, .unset, .unset, .unset, .unset] [])) t := by
    intro t kk
    show Steps p.tables e below (s₁.setTop (mkF m 0 #[.val (.int p1), .val (.int p2), .unset, .unset, .unset, .unset, .unset] [])) _
    refine XS.iloadN X0.here hx rfl (hb hby at_0) rfl ?_
    show Steps p.tables e below (s₁.setTop (mkF m 1 #[.val (.int p1), .val (.int p2), .unset, .unset, .unset, .unset, .unset] [(.int p2)])) _
    refine XT.iconstV X0.here hx rfl (3 : Int32) (hb hby at_1) (by decide) ?_
    show Steps p.tables e below (s₁.setTop (mkF m 2 #[.val (.int p1), .val (.int p2), .unset, .unset, .unset, .unset, .unset] [(.int (3 : Int32)), (.int p2)])) _
    refine XS.iand X0.here hx rfl (hb hby at_2) rfl ?_
    show Steps p.tables e below (s₁.setTop (mkF m 3 #[.val (.int p1), .val (.int p2), .unset, .unset, .unset, .unset, .unset] [(.int (p2 &&& (3 : Int32)))])) _
    refine XS.istoreN X0.here hx rfl (hb hby at_3) rfl (l' := #[.val (.int p1), .val (.int p2), .val (.int v1), .unset, .unset, .unset, .unset]) (by rw [hv1]; rfl) ?_
    exact kk
  obtain ⟨cc, hcc⟩ : ∃ z : Int32, z = own_c p1 v1 := ⟨_, rfl⟩
  have sg1 : ∀ t, Steps p.tables e below (s₁.setTop (mkF m 55 #[.val (.int p1), .val (.int p2), .val (.int v1), .val (.int cc), .unset, .unset, .unset] [])) t → Steps p.tables e below (s₁.setTop (mkF m 4 #[.val (.int p1), .val (.int p2), .val (.int v1), .unset, .unset, .unset, .unset] [])) t := by
    intro t kk
    show Steps p.tables e below (s₁.setTop (mkF m 4 #[.val (.int p1), .val (.int p2), .val (.int v1), .unset, .unset, .unset, .unset] [])) _
    refine XS.iloadN X0.here hx rfl (hb hby at_4) rfl ?_
    show Steps p.tables e below (s₁.setTop (mkF m 5 #[.val (.int p1), .val (.int p2), .val (.int v1), .unset, .unset, .unset, .unset] [(.int v1)])) _
    by_cases hc5 : v1 = 0
    · refine XS.ifNo X0.here hx rfl (hb hby at_5) rfl (XT.i0_ne_f hc5) ?_
      show Steps p.tables e below (s₁.setTop (mkF m 8 #[.val (.int p1), .val (.int p2), .val (.int v1), .unset, .unset, .unset, .unset] [])) _
      refine XS.iloadN X0.here hx rfl (hb hby at_8) rfl ?_
      show Steps p.tables e below (s₁.setTop (mkF m 9 #[.val (.int p1), .val (.int p2), .val (.int v1), .unset, .unset, .unset, .unset] [(.int p1)])) _
      refine XT.i2c X0.here hx rfl (hb hby at_9) rfl ?_
      show Steps p.tables e below (s₁.setTop (mkF m 10 #[.val (.int p1), .val (.int p2), .val (.int v1), .unset, .unset, .unset, .unset] [(.int (p1.toUInt32.toUInt16.toUInt32.toInt32))])) _
      refine XS.istoreN X0.here hx rfl (hb hby at_10) rfl (l' := #[.val (.int p1), .val (.int p2), .val (.int v1), .val (.int (p1.toUInt32.toUInt16.toUInt32.toInt32)), .unset, .unset, .unset]) rfl ?_
      show Steps p.tables e below (s₁.setTop (mkF m 11 #[.val (.int p1), .val (.int p2), .val (.int v1), .val (.int (p1.toUInt32.toUInt16.toUInt32.toInt32)), .unset, .unset, .unset] [])) _
      refine XS.goto X0.here hx rfl (pc0 := 11) (pc' := 55) rfl (hb hby at_11) (by decide) (by decide) ?_
      show Steps p.tables e below (s₁.setTop (mkF m 55 #[.val (.int p1), .val (.int p2), .val (.int v1), .val (.int (p1.toUInt32.toUInt16.toUInt32.toInt32)), .unset, .unset, .unset] [])) _
      have hq : cc = (p1.toUInt32.toUInt16.toUInt32.toInt32) := by rw [hcc]; simp only [own_c, if_pos hc5]
      subst hq
      exact kk
    · refine XS.ifYes X0.here hx rfl (pc0 := 5) (pc' := 14) rfl (hb hby at_5) rfl (XT.i0_ne_t hc5) (by decide) (by decide) ?_
      show Steps p.tables e below (s₁.setTop (mkF m 14 #[.val (.int p1), .val (.int p2), .val (.int v1), .unset, .unset, .unset, .unset] [])) _
      refine XS.iloadN X0.here hx rfl (hb hby at_14) rfl ?_
      show Steps p.tables e below (s₁.setTop (mkF m 15 #[.val (.int p1), .val (.int p2), .val (.int v1), .unset, .unset, .unset, .unset] [(.int v1)])) _
      refine XT.iconstV X0.here hx rfl (1 : Int32) (hb hby at_15) (by decide) ?_
      show Steps p.tables e below (s₁.setTop (mkF m 16 #[.val (.int p1), .val (.int p2), .val (.int v1), .unset, .unset, .unset, .unset] [(.int (1 : Int32)), (.int v1)])) _
      by_cases hc16 : v1 = (1 : Int32)
      · refine XS.icmpNo X0.here hx rfl (hb hby at_16) rfl (XT.ii_ne_f hc16) ?_
        show Steps p.tables e below (s₁.setTop (mkF m 19 #[.val (.int p1), .val (.int p2), .val (.int v1), .unset, .unset, .unset, .unset] [])) _
        refine XS.iloadN X0.here hx rfl (hb hby at_19) rfl ?_
        show Steps p.tables e below (s₁.setTop (mkF m 20 #[.val (.int p1), .val (.int p2), .val (.int v1), .unset, .unset, .unset, .unset] [(.int p1)])) _
        refine XT.bipushV X0.here hx rfl (127 : Int32) (hb hby at_20) (by decide) ?_
        show Steps p.tables e below (s₁.setTop (mkF m 22 #[.val (.int p1), .val (.int p2), .val (.int v1), .unset, .unset, .unset, .unset] [(.int (127 : Int32)), (.int p1)])) _
        refine XS.iand X0.here hx rfl (hb hby at_22) rfl ?_
        show Steps p.tables e below (s₁.setTop (mkF m 23 #[.val (.int p1), .val (.int p2), .val (.int v1), .unset, .unset, .unset, .unset] [(.int (p1 &&& (127 : Int32)))])) _
        refine XT.i2c X0.here hx rfl (hb hby at_23) rfl ?_
        show Steps p.tables e below (s₁.setTop (mkF m 24 #[.val (.int p1), .val (.int p2), .val (.int v1), .unset, .unset, .unset, .unset] [(.int ((p1 &&& (127 : Int32)).toUInt32.toUInt16.toUInt32.toInt32))])) _
        refine XS.istoreN X0.here hx rfl (hb hby at_24) rfl (l' := #[.val (.int p1), .val (.int p2), .val (.int v1), .val (.int ((p1 &&& (127 : Int32)).toUInt32.toUInt16.toUInt32.toInt32)), .unset, .unset, .unset]) rfl ?_
        show Steps p.tables e below (s₁.setTop (mkF m 25 #[.val (.int p1), .val (.int p2), .val (.int v1), .val (.int ((p1 &&& (127 : Int32)).toUInt32.toUInt16.toUInt32.toInt32)), .unset, .unset, .unset] [])) _
        refine XS.goto X0.here hx rfl (pc0 := 25) (pc' := 55) rfl (hb hby at_25) (by decide) (by decide) ?_
        show Steps p.tables e below (s₁.setTop (mkF m 55 #[.val (.int p1), .val (.int p2), .val (.int v1), .val (.int ((p1 &&& (127 : Int32)).toUInt32.toUInt16.toUInt32.toInt32)), .unset, .unset, .unset] [])) _
        have hq : cc = ((p1 &&& (127 : Int32)).toUInt32.toUInt16.toUInt32.toInt32) := by rw [hcc]; simp only [own_c, if_neg hc5, if_pos hc16]
        subst hq
        exact kk
      · refine XS.icmpYes X0.here hx rfl (pc0 := 16) (pc' := 28) rfl (hb hby at_16) rfl (XT.ii_ne_t hc16) (by decide) (by decide) ?_
        show Steps p.tables e below (s₁.setTop (mkF m 28 #[.val (.int p1), .val (.int p2), .val (.int v1), .unset, .unset, .unset, .unset] [])) _
        refine XS.iloadN X0.here hx rfl (hb hby at_28) rfl ?_
        show Steps p.tables e below (s₁.setTop (mkF m 29 #[.val (.int p1), .val (.int p2), .val (.int v1), .unset, .unset, .unset, .unset] [(.int v1)])) _
        refine XT.iconstV X0.here hx rfl (2 : Int32) (hb hby at_29) (by decide) ?_
        show Steps p.tables e below (s₁.setTop (mkF m 30 #[.val (.int p1), .val (.int p2), .val (.int v1), .unset, .unset, .unset, .unset] [(.int (2 : Int32)), (.int v1)])) _
        by_cases hc30 : v1 = (2 : Int32)
        · refine XS.icmpNo X0.here hx rfl (hb hby at_30) rfl (XT.ii_ne_f hc30) ?_
          show Steps p.tables e below (s₁.setTop (mkF m 33 #[.val (.int p1), .val (.int p2), .val (.int v1), .unset, .unset, .unset, .unset] [])) _
          refine XS.iloadN X0.here hx rfl (hb hby at_33) rfl ?_
          show Steps p.tables e below (s₁.setTop (mkF m 34 #[.val (.int p1), .val (.int p2), .val (.int v1), .unset, .unset, .unset, .unset] [(.int p1)])) _
          refine XT.sipushV X0.here hx rfl (255 : Int32) (hb hby at_34) (by decide) ?_
          show Steps p.tables e below (s₁.setTop (mkF m 37 #[.val (.int p1), .val (.int p2), .val (.int v1), .unset, .unset, .unset, .unset] [(.int (255 : Int32)), (.int p1)])) _
          refine XS.iand X0.here hx rfl (hb hby at_37) rfl ?_
          show Steps p.tables e below (s₁.setTop (mkF m 38 #[.val (.int p1), .val (.int p2), .val (.int v1), .unset, .unset, .unset, .unset] [(.int (p1 &&& (255 : Int32)))])) _
          refine XT.i2c X0.here hx rfl (hb hby at_38) rfl ?_
          show Steps p.tables e below (s₁.setTop (mkF m 39 #[.val (.int p1), .val (.int p2), .val (.int v1), .unset, .unset, .unset, .unset] [(.int ((p1 &&& (255 : Int32)).toUInt32.toUInt16.toUInt32.toInt32))])) _
          refine XS.istoreN X0.here hx rfl (hb hby at_39) rfl (l' := #[.val (.int p1), .val (.int p2), .val (.int v1), .val (.int ((p1 &&& (255 : Int32)).toUInt32.toUInt16.toUInt32.toInt32)), .unset, .unset, .unset]) rfl ?_
          show Steps p.tables e below (s₁.setTop (mkF m 40 #[.val (.int p1), .val (.int p2), .val (.int v1), .val (.int ((p1 &&& (255 : Int32)).toUInt32.toUInt16.toUInt32.toInt32)), .unset, .unset, .unset] [])) _
          refine XS.goto X0.here hx rfl (pc0 := 40) (pc' := 55) rfl (hb hby at_40) (by decide) (by decide) ?_
          show Steps p.tables e below (s₁.setTop (mkF m 55 #[.val (.int p1), .val (.int p2), .val (.int v1), .val (.int ((p1 &&& (255 : Int32)).toUInt32.toUInt16.toUInt32.toInt32)), .unset, .unset, .unset] [])) _
          have hq : cc = ((p1 &&& (255 : Int32)).toUInt32.toUInt16.toUInt32.toInt32) := by rw [hcc]; simp only [own_c, if_neg hc5, if_neg hc16, if_pos hc30]
          subst hq
          exact kk
        · refine XS.icmpYes X0.here hx rfl (pc0 := 30) (pc' := 43) rfl (hb hby at_30) rfl (XT.ii_ne_t hc30) (by decide) (by decide) ?_
          show Steps p.tables e below (s₁.setTop (mkF m 43 #[.val (.int p1), .val (.int p2), .val (.int v1), .unset, .unset, .unset, .unset] [])) _
          refine XT.bipushV X0.here hx rfl (48 : Int32) (hb hby at_43) (by decide) ?_
          show Steps p.tables e below (s₁.setTop (mkF m 45 #[.val (.int p1), .val (.int p2), .val (.int v1), .unset, .unset, .unset, .unset] [(.int (48 : Int32))])) _
          refine XS.iloadN X0.here hx rfl (hb hby at_45) rfl ?_
          show Steps p.tables e below (s₁.setTop (mkF m 46 #[.val (.int p1), .val (.int p2), .val (.int v1), .unset, .unset, .unset, .unset] [(.int p1), (.int (48 : Int32))])) _
          refine X0.ldcI hx hown (mvT hZ (hw _ (List.mem_of_getElem? (i := 0) rfl))) rfl (hb hby at_46) ?_
          show Steps p.tables e below (s₁.setTop (mkF m 48 #[.val (.int p1), .val (.int p2), .val (.int v1), .unset, .unset, .unset, .unset] [(.int (2147483647 : Int32)), (.int p1), (.int (48 : Int32))])) _
          refine XS.iand X0.here hx rfl (hb hby at_48) rfl ?_
          show Steps p.tables e below (s₁.setTop (mkF m 49 #[.val (.int p1), .val (.int p2), .val (.int v1), .unset, .unset, .unset, .unset] [(.int (p1 &&& (2147483647 : Int32))), (.int (48 : Int32))])) _
          refine XT.bipushV X0.here hx rfl (56 : Int32) (hb hby at_49) (by decide) ?_
          show Steps p.tables e below (s₁.setTop (mkF m 51 #[.val (.int p1), .val (.int p2), .val (.int v1), .unset, .unset, .unset, .unset] [(.int (56 : Int32)), (.int (p1 &&& (2147483647 : Int32))), (.int (48 : Int32))])) _
          refine XS.irem X0.here hx rfl (hb hby at_51) rfl (by decide) ?_
          show Steps p.tables e below (s₁.setTop (mkF m 52 #[.val (.int p1), .val (.int p2), .val (.int v1), .unset, .unset, .unset, .unset] [(.int ((p1 &&& (2147483647 : Int32)) - (p1 &&& (2147483647 : Int32)) / (56 : Int32) * (56 : Int32))), (.int (48 : Int32))])) _
          refine XS.iadd X0.here hx rfl (hb hby at_52) rfl ?_
          show Steps p.tables e below (s₁.setTop (mkF m 53 #[.val (.int p1), .val (.int p2), .val (.int v1), .unset, .unset, .unset, .unset] [(.int ((48 : Int32) + ((p1 &&& (2147483647 : Int32)) - (p1 &&& (2147483647 : Int32)) / (56 : Int32) * (56 : Int32))))])) _
          refine XT.i2c X0.here hx rfl (hb hby at_53) rfl ?_
          show Steps p.tables e below (s₁.setTop (mkF m 54 #[.val (.int p1), .val (.int p2), .val (.int v1), .unset, .unset, .unset, .unset] [(.int (((48 : Int32) + ((p1 &&& (2147483647 : Int32)) - (p1 &&& (2147483647 : Int32)) / (56 : Int32) * (56 : Int32))).toUInt32.toUInt16.toUInt32.toInt32))])) _
          refine XS.istoreN X0.here hx rfl (hb hby at_54) rfl (l' := #[.val (.int p1), .val (.int p2), .val (.int v1), .val (.int (((48 : Int32) + ((p1 &&& (2147483647 : Int32)) - (p1 &&& (2147483647 : Int32)) / (56 : Int32) * (56 : Int32))).toUInt32.toUInt16.toUInt32.toInt32)), .unset, .unset, .unset]) rfl ?_
          show Steps p.tables e below (s₁.setTop (mkF m 55 #[.val (.int p1), .val (.int p2), .val (.int v1), .val (.int (((48 : Int32) + ((p1 &&& (2147483647 : Int32)) - (p1 &&& (2147483647 : Int32)) / (56 : Int32) * (56 : Int32))).toUInt32.toUInt16.toUInt32.toInt32)), .unset, .unset, .unset] [])) _
          have hq : cc = (((48 : Int32) + ((p1 &&& (2147483647 : Int32)) - (p1 &&& (2147483647 : Int32)) / (56 : Int32) * (56 : Int32))).toUInt32.toUInt16.toUInt32.toInt32) := by rw [hcc]; simp only [own_c, if_neg hc5, if_neg hc16, if_neg hc30]
          subst hq
          exact kk
  obtain ⟨v2, hv2⟩ : ∃ z : Int32, z = ((XT.ushr p2 (2 : Int32)) - (XT.ushr p2 (2 : Int32)) / (3 : Int32) * (3 : Int32)) := ⟨_, rfl⟩
  have sg2 : ∀ t, Steps p.tables e below (s₁.setTop (mkF m 62 #[.val (.int p1), .val (.int p2), .val (.int v1), .val (.int cc), .val (.int v2), .unset, .unset] [])) t → Steps p.tables e below (s₁.setTop (mkF m 55 #[.val (.int p1), .val (.int p2), .val (.int v1), .val (.int cc), .unset, .unset, .unset] [])) t := by
    intro t kk
    show Steps p.tables e below (s₁.setTop (mkF m 55 #[.val (.int p1), .val (.int p2), .val (.int v1), .val (.int cc), .unset, .unset, .unset] [])) _
    refine XS.iloadN X0.here hx rfl (hb hby at_55) rfl ?_
    show Steps p.tables e below (s₁.setTop (mkF m 56 #[.val (.int p1), .val (.int p2), .val (.int v1), .val (.int cc), .unset, .unset, .unset] [(.int p2)])) _
    refine XT.iconstV X0.here hx rfl (2 : Int32) (hb hby at_56) (by decide) ?_
    show Steps p.tables e below (s₁.setTop (mkF m 57 #[.val (.int p1), .val (.int p2), .val (.int v1), .val (.int cc), .unset, .unset, .unset] [(.int (2 : Int32)), (.int p2)])) _
    refine XT.iushr X0.here hx rfl (hb hby at_57) rfl ?_
    show Steps p.tables e below (s₁.setTop (mkF m 58 #[.val (.int p1), .val (.int p2), .val (.int v1), .val (.int cc), .unset, .unset, .unset] [(.int (XT.ushr p2 (2 : Int32)))])) _
    refine XT.iconstV X0.here hx rfl (3 : Int32) (hb hby at_58) (by decide) ?_
    show Steps p.tables e below (s₁.setTop (mkF m 59 #[.val (.int p1), .val (.int p2), .val (.int v1), .val (.int cc), .unset, .unset, .unset] [(.int (3 : Int32)), (.int (XT.ushr p2 (2 : Int32)))])) _
    refine XS.irem X0.here hx rfl (hb hby at_59) rfl (by decide) ?_
    show Steps p.tables e below (s₁.setTop (mkF m 60 #[.val (.int p1), .val (.int p2), .val (.int v1), .val (.int cc), .unset, .unset, .unset] [(.int ((XT.ushr p2 (2 : Int32)) - (XT.ushr p2 (2 : Int32)) / (3 : Int32) * (3 : Int32)))])) _
    refine XS.istore X0.here hx rfl (hb hby at_60) rfl (l' := #[.val (.int p1), .val (.int p2), .val (.int v1), .val (.int cc), .val (.int v2), .unset, .unset]) (by rw [hv2]; rfl) ?_
    exact kk
  obtain ⟨rx, hrx⟩ : ∃ z : Int32, z = own_rad v2 := ⟨_, rfl⟩
  have sg3 : ∀ t, Steps p.tables e below (s₁.setTop (mkF m 85 #[.val (.int p1), .val (.int p2), .val (.int v1), .val (.int cc), .val (.int v2), .unset, .unset] [(.int rx)])) t → Steps p.tables e below (s₁.setTop (mkF m 62 #[.val (.int p1), .val (.int p2), .val (.int v1), .val (.int cc), .val (.int v2), .unset, .unset] [])) t := by
    intro t kk
    show Steps p.tables e below (s₁.setTop (mkF m 62 #[.val (.int p1), .val (.int p2), .val (.int v1), .val (.int cc), .val (.int v2), .unset, .unset] [])) _
    refine XS.iload X0.here hx rfl (hb hby at_62) rfl ?_
    show Steps p.tables e below (s₁.setTop (mkF m 64 #[.val (.int p1), .val (.int p2), .val (.int v1), .val (.int cc), .val (.int v2), .unset, .unset] [(.int v2)])) _
    by_cases hc64 : v2 = 0
    · refine XS.ifNo X0.here hx rfl (hb hby at_64) rfl (XT.i0_ne_f hc64) ?_
      show Steps p.tables e below (s₁.setTop (mkF m 67 #[.val (.int p1), .val (.int p2), .val (.int v1), .val (.int cc), .val (.int v2), .unset, .unset] [])) _
      refine XT.bipushV X0.here hx rfl (8 : Int32) (hb hby at_67) (by decide) ?_
      show Steps p.tables e below (s₁.setTop (mkF m 69 #[.val (.int p1), .val (.int p2), .val (.int v1), .val (.int cc), .val (.int v2), .unset, .unset] [(.int (8 : Int32))])) _
      refine XS.goto X0.here hx rfl (pc0 := 69) (pc' := 85) rfl (hb hby at_69) (by decide) (by decide) ?_
      show Steps p.tables e below (s₁.setTop (mkF m 85 #[.val (.int p1), .val (.int p2), .val (.int v1), .val (.int cc), .val (.int v2), .unset, .unset] [(.int (8 : Int32))])) _
      have hq : rx = (8 : Int32) := by rw [hrx]; simp only [own_rad, if_pos hc64]
      subst hq
      exact kk
    · refine XS.ifYes X0.here hx rfl (pc0 := 64) (pc' := 72) rfl (hb hby at_64) rfl (XT.i0_ne_t hc64) (by decide) (by decide) ?_
      show Steps p.tables e below (s₁.setTop (mkF m 72 #[.val (.int p1), .val (.int p2), .val (.int v1), .val (.int cc), .val (.int v2), .unset, .unset] [])) _
      refine XS.iload X0.here hx rfl (hb hby at_72) rfl ?_
      show Steps p.tables e below (s₁.setTop (mkF m 74 #[.val (.int p1), .val (.int p2), .val (.int v1), .val (.int cc), .val (.int v2), .unset, .unset] [(.int v2)])) _
      refine XT.iconstV X0.here hx rfl (1 : Int32) (hb hby at_74) (by decide) ?_
      show Steps p.tables e below (s₁.setTop (mkF m 75 #[.val (.int p1), .val (.int p2), .val (.int v1), .val (.int cc), .val (.int v2), .unset, .unset] [(.int (1 : Int32)), (.int v2)])) _
      by_cases hc75 : v2 = (1 : Int32)
      · refine XS.icmpNo X0.here hx rfl (hb hby at_75) rfl (XT.ii_ne_f hc75) ?_
        show Steps p.tables e below (s₁.setTop (mkF m 78 #[.val (.int p1), .val (.int p2), .val (.int v1), .val (.int cc), .val (.int v2), .unset, .unset] [])) _
        refine XT.bipushV X0.here hx rfl (10 : Int32) (hb hby at_78) (by decide) ?_
        show Steps p.tables e below (s₁.setTop (mkF m 80 #[.val (.int p1), .val (.int p2), .val (.int v1), .val (.int cc), .val (.int v2), .unset, .unset] [(.int (10 : Int32))])) _
        refine XS.goto X0.here hx rfl (pc0 := 80) (pc' := 85) rfl (hb hby at_80) (by decide) (by decide) ?_
        show Steps p.tables e below (s₁.setTop (mkF m 85 #[.val (.int p1), .val (.int p2), .val (.int v1), .val (.int cc), .val (.int v2), .unset, .unset] [(.int (10 : Int32))])) _
        have hq : rx = (10 : Int32) := by rw [hrx]; simp only [own_rad, if_neg hc64, if_pos hc75]
        subst hq
        exact kk
      · refine XS.icmpYes X0.here hx rfl (pc0 := 75) (pc' := 83) rfl (hb hby at_75) rfl (XT.ii_ne_t hc75) (by decide) (by decide) ?_
        show Steps p.tables e below (s₁.setTop (mkF m 83 #[.val (.int p1), .val (.int p2), .val (.int v1), .val (.int cc), .val (.int v2), .unset, .unset] [])) _
        refine XT.bipushV X0.here hx rfl (16 : Int32) (hb hby at_83) (by decide) ?_
        show Steps p.tables e below (s₁.setTop (mkF m 85 #[.val (.int p1), .val (.int p2), .val (.int v1), .val (.int cc), .val (.int v2), .unset, .unset] [(.int (16 : Int32))])) _
        have hq : rx = (16 : Int32) := by rw [hrx]; simp only [own_rad, if_neg hc64, if_neg hc75]
        subst hq
        exact kk
  have sg4 : ∀ t, Steps p.tables e below (s₁.setTop (mkF m 90 #[.val (.int p1), .val (.int p2), .val (.int v1), .val (.int cc), .val (.int v2), .val (.int rx), .unset] [(.int rx), (.int cc)])) t → Steps p.tables e below (s₁.setTop (mkF m 85 #[.val (.int p1), .val (.int p2), .val (.int v1), .val (.int cc), .val (.int v2), .unset, .unset] [(.int rx)])) t := by
    intro t kk
    show Steps p.tables e below (s₁.setTop (mkF m 85 #[.val (.int p1), .val (.int p2), .val (.int v1), .val (.int cc), .val (.int v2), .unset, .unset] [(.int rx)])) _
    refine XS.istore X0.here hx rfl (hb hby at_85) rfl (l' := #[.val (.int p1), .val (.int p2), .val (.int v1), .val (.int cc), .val (.int v2), .val (.int rx), .unset]) rfl ?_
    show Steps p.tables e below (s₁.setTop (mkF m 87 #[.val (.int p1), .val (.int p2), .val (.int v1), .val (.int cc), .val (.int v2), .val (.int rx), .unset] [])) _
    refine XS.iloadN X0.here hx rfl (hb hby at_87) rfl ?_
    show Steps p.tables e below (s₁.setTop (mkF m 88 #[.val (.int p1), .val (.int p2), .val (.int v1), .val (.int cc), .val (.int v2), .val (.int rx), .unset] [(.int cc)])) _
    refine XS.iload X0.here hx rfl (hb hby at_88) rfl ?_
    exact kk
  -- pc 90: com/example/reef_marker/reefmarker/engine/Ascii.digit
  obtain ⟨_, _, ⟨T1, L1, k1, n1⟩, -, X1, ⟨Lc1, hQ1, l1, y1, z1⟩, st1⟩ := Jvm.LawKit.callS X0 hx (y := (⟨"com/example/reef_marker/reefmarker/engine/Ascii", "digit", "(CI)I"⟩ : MethodName)) hown (mvT hZ (hw _ (List.mem_of_getElem? (i := 1) rfl))) (mvT hZ (hw _ (List.mem_of_getElem? (i := 2) rfl))) (mvT hZ (hw _ (List.mem_of_getElem? (i := 3) rfl))) (mvT hZ (hw _ (List.mem_of_getElem? (i := 4) rfl))) (by decide) (backOf (W := 0) (rm1 l Z a0 hw [] cc rx  h0 n0 Z0 ) hZ (hw _ (List.mem_of_getElem? (i := 4) rfl)) (hw _ (List.mem_of_getElem? (i := 3) rfl)) (by decide) (by decide)) (g := (mkF m 90 #[.val (.int p1), .val (.int p2), .val (.int v1), .val (.int cc), .val (.int v2), .val (.int rx), .unset] [(.int rx), (.int cc)])) rfl (by rw [hml]; rfl) (argsL := [(.int cc), (.int rx)]) (rest := []) (lenOf own_pd0 rfl) rfl (by show 2 * 0 + _ ≤ _; exact Nat.le_of_eq rfl) (hb hby at_90) (fun _ _ => ⟨rfl, e0, (by decide : 0 + 0 ≤ _), (by decide : 0 + 0 ≤ _)⟩)
  dsimp only [Pt.U, Pt.locs, Pt.cells, Pt.slots] at X1 l1 y1 z1 st1 hQ1
  subst l1 y1 z1
  obtain ⟨rfl, N1q, e1⟩ := hQ1
  have N1 := Fr.app N0 N1q
  obtain ⟨v3, hv3⟩ : ∃ z : Int32, z = (own_digit cc rx) := ⟨_, rfl⟩
  have sg6 : ∀ t, Steps p.tables e below (T1.setTop (mkF m 100 #[.val (.int p1), .val (.int p2), .val (.int v1), .val (.int cc), .val (.int v2), .val (.int rx), .val (.int v3)] [(.int rx), (.int cc), (.int v3)])) t → Steps p.tables e below (T1.setTop (mkF m 93 #[.val (.int p1), .val (.int p2), .val (.int v1), .val (.int cc), .val (.int v2), .val (.int rx), .unset] [(.int (own_digit cc rx))])) t := by
    intro t kk
    show Steps p.tables e below (T1.setTop (mkF m 93 #[.val (.int p1), .val (.int p2), .val (.int v1), .val (.int cc), .val (.int v2), .val (.int rx), .unset] [(.int (own_digit cc rx))])) _
    refine XS.istore X1.here hx rfl (hb hby at_93) rfl (l' := #[.val (.int p1), .val (.int p2), .val (.int v1), .val (.int cc), .val (.int v2), .val (.int rx), .val (.int v3)]) (by rw [hv3]; rfl) ?_
    show Steps p.tables e below (T1.setTop (mkF m 95 #[.val (.int p1), .val (.int p2), .val (.int v1), .val (.int cc), .val (.int v2), .val (.int rx), .val (.int v3)] [])) _
    refine XS.iload X1.here hx rfl (hb hby at_95) rfl ?_
    show Steps p.tables e below (T1.setTop (mkF m 97 #[.val (.int p1), .val (.int p2), .val (.int v1), .val (.int cc), .val (.int v2), .val (.int rx), .val (.int v3)] [(.int v3)])) _
    refine XS.iloadN X1.here hx rfl (hb hby at_97) rfl ?_
    show Steps p.tables e below (T1.setTop (mkF m 98 #[.val (.int p1), .val (.int p2), .val (.int v1), .val (.int cc), .val (.int v2), .val (.int rx), .val (.int v3)] [(.int cc), (.int v3)])) _
    refine XS.iload X1.here hx rfl (hb hby at_98) rfl ?_
    exact kk
  -- pc 100: com/example/reef_marker/reefmarker/engine/AsciiDigitPinLaw.expected
  obtain ⟨_, _, ⟨T2, L2, k2, n2⟩, -, X2, ⟨Lc2, hQ2, l2, y2, z2⟩, st2⟩ := Jvm.LawKit.callS X1 hx (y := (⟨"com/example/reef_marker/reefmarker/engine/AsciiDigitPinLaw", "expected", "(CI)I"⟩ : MethodName)) hown (mvT hZ (hw _ (List.mem_of_getElem? (i := 5) rfl))) (mvT hZ (hw _ (List.mem_of_getElem? (i := 6) rfl))) (mvT hZ (hw _ (List.mem_of_getElem? (i := 7) rfl))) (mvT hZ (hw _ (List.mem_of_getElem? (i := 8) rfl))) (by decide) (backOf (W := 1) (rm2 l Z a0 hw [] cc rx  h0 n0 Z0 ) hZ (hw _ (List.mem_of_getElem? (i := 8) rfl)) (hw _ (List.mem_of_getElem? (i := 7) rfl)) (by decide) (by decide)) (g := (mkF m 100 #[.val (.int p1), .val (.int p2), .val (.int v1), .val (.int cc), .val (.int v2), .val (.int rx), .val (.int v3)] [(.int rx), (.int cc), (.int v3)])) rfl (by rw [hml]; rfl) (argsL := [(.int cc), (.int rx)]) (rest := [(.int v3)]) (lenOf own_pd0 rfl) rfl (by show 2 * 0 + _ ≤ _; exact Nat.le_of_eq rfl) (hb hby at_100) (fun _ _ => ⟨rfl, e1, (by decide : 0 + 0 ≤ _), (by decide : 0 + 0 ≤ _)⟩)
  dsimp only [Pt.U, Pt.locs, Pt.cells, Pt.slots] at X2 l2 y2 z2 st2 hQ2
  subst l2 y2 z2
  obtain ⟨rfl, N2q, e2⟩ := hQ2
  have N2 := Fr.app N1 N2q
  have hlaw : v3 = own_exp cc rx := by rw [hv3]; exact own_law2 cc rx (by rw [hcc]; exact own_c_b p1 v1)
  obtain ⟨fs, hr, hrun, hended, hW, hsame⟩ := X2.leave (v := some (.int (1 : Int32))) (fun h => by rw [Bd.returns] at h; cases h)
  refine ⟨_, _, pre0 _ ?_, hrun, hended, _, _, rfl, ?_, ⟨_, rfl⟩, hW, hsame.mono (by decide) (by decide)⟩
  · refine sg0 _ ?_
    refine sg1 _ ?_
    refine sg2 _ ?_
    refine sg3 _ ?_
    refine sg4 _ ?_
    refine st1 _ ?_
    refine sg6 _ ?_
    refine st2 _ ?_
    show Steps p.tables e below (T2.setTop (mkF m 103 #[.val (.int p1), .val (.int p2), .val (.int v1), .val (.int cc), .val (.int v2), .val (.int rx), .val (.int v3)] [(.int (own_exp cc rx)), (.int v3)])) _
    refine XS.icmpNo X2.here hx rfl (hb hby at_103) rfl (XT.ii_ne_f hlaw) ?_
    show Steps p.tables e below (T2.setTop (mkF m 106 #[.val (.int p1), .val (.int p2), .val (.int v1), .val (.int cc), .val (.int v2), .val (.int rx), .val (.int v3)] [])) _
    refine XT.iconstV X2.here hx rfl (1 : Int32) (hb hby at_106) (by decide) ?_
    show Steps p.tables e below (T2.setTop (mkF m 107 #[.val (.int p1), .val (.int p2), .val (.int v1), .val (.int cc), .val (.int v2), .val (.int rx), .val (.int v3)] [(.int (1 : Int32))])) _
    refine XS.goto X2.here hx rfl (pc0 := 107) (pc' := 111) rfl (hb hby at_107) (by decide) (by decide) ?_
    show Steps p.tables e below (T2.setTop (mkF m 111 #[.val (.int p1), .val (.int p2), .val (.int v1), .val (.int cc), .val (.int v2), .val (.int rx), .val (.int v3)] [(.int (1 : Int32))])) _
    exact retN X2 hx (t := .boolean) Bd.returns (by simp) (hb hby at_111) hr
  · exact ⟨rfl, N2⟩
set_option maxRecDepth 65536 in
set_option maxHeartbeats 40000000 in
theorem comes_1 {Post : Tables → Env → Array Value → State → Outcome → State → Prop} (hpost : ∀ tb e args s v u, (limb_1_1.after args s (.returned v) u = true ∧ limb_1_2.after args s (.returned v) u = true ∧ True) → FrameEnd s (.returned v) u (Jvm.fieldLocs frame_1_writes args s ++ Jvm.arrayLocs frame_1_arrays args s ++ Jvm.staticLocs frame_1_statics s) 0 0 → Post tb e args s (.returned v) u) :
    ArmFor flags0 classFile x code maxLocals ret World_1 tables_1 room_1 Calls_1 rest_1 Pre_1 Post := by
  intro l hfl _ _ p e ha hc hk s m args below hf hA hF happ hP
  obtain ⟨hcalls, hrest, hpre⟩ := hP
  obtain ⟨-, -, -, hnamed, -, -, -, hat⟩ := (Spec.applies_iff hf).mp happ
  obtain ⟨hg, hn⟩ := and_e (Cond.before_iff.mp (show (Jvm.Cond.and given_1 narrow_1).before args s = true from hpre))
  obtain ⟨hcount, g0⟩ := and_e hg
  obtain ⟨k0, g1⟩ := and_e g0
  obtain ⟨w0, w1, rfl⟩ : ∃ w0 w1 : Value, args = #[w0, w1] := by
    have hs : args.size = 2 := by simpa [Cond.value, given_1] using hcount
    obtain ⟨L⟩ := args
    match L, hs with
    | [w0, w1], _ => exact ⟨w0, w1, rfl⟩
  have hw := fun d (hd : d ∈ tables_1) => atoms_spec (ws := Jvm.Cond.code x code maxLocals ret :: tables_1) hat d (List.mem_cons_of_mem _ hd)
  obtain ⟨i0, ei0⟩ := is_v k0
  obtain rfl : w0 = (.int i0) := Option.some.inj ei0
  obtain ⟨i1, ei1⟩ := is_v g1
  obtain rfl : w1 = (.int i1) := Option.some.inj ei1
  obtain ⟨n, o, h1, h2, h3, _, L, rfl, ⟨rfl, N⟩, hq⟩ := rm0 l s _ hw tables_1 i0 i1 s.heap s.heap.size (Nat.le_refl _) p e ha hc hk s m _ below hf ((Spec.applies_iff_loose hf).mp happ).1 ⟨rfl, State.Warmed39.refl s, rfl⟩ trivial
  refine ⟨n, _, h1, h2, h3, hpost _ _ _ _ _ _ ⟨Cond.after_iff.mpr rfl, Cond.after_iff.mpr (eq_i res_at (Term.int_eval (1)) rfl), trivial⟩ ⟨hq.1, hq.2.1, (hq.2.2.sift fun y hy => Or.inr (N y hy)).mono (by decide) (by decide)⟩⟩
theorem main_1_1 : Claimed_1_1 := comes_1 fun _ _ _ _ _ _ h hF => ⟨h.1, hF⟩
theorem main_1_2 : Claimed_1_2 := comes_1 fun _ _ _ _ _ _ h hF => ⟨h.2.1, hF⟩
end Jvm.Pilot.@@N@@
namespace Jvm.Pilot.@@N@@
open Jvm Jvm.ClassFile Sem Op Lib Jvm.Free Jvm.Stand Jvm.Pilot.@@N@@.Jvm.D
/-! MADE BY PROGRAM (witnessworld.py) out of the Statement's table words and the real class files: 7 classes; the members and pool entries that the words name. The judged class is class 1, her method 1. -/
namespace start1
open Jvm.ClassFile
def u (s : String) : CpInfo := .utf8 (stringToUtf16 s)
/-- a pool by its gaps: so many unusable entries, then the entry; so many at the end -/
def gap : Nat → List CpInfo → List CpInfo
  | 0, r => r
  | n + 1, r => .unusable :: gap n r
def poolList (es : List (Nat × CpInfo)) (last : Nat) : List CpInfo := es.foldr (fun e r => gap e.1 (e.2 :: r)) (gap last [])
def pool (es : List (Nat × CpInfo)) (last : Nat) : Array CpInfo := ⟨poolList es last⟩
def fileOf (pool : Array CpInfo) (this : Nat) (attrs : Array Attribute := #[]) (ms : Array MethodInfo := #[]) (fl : Nat := 33) (sup : Nat := 0) (ifs : Array Nat := #[]) (fds : Array FieldInfo := #[]) : ClassFile where
  minorVersion := 0
  majorVersion := 65
  constantPool := pool
  accessFlags := fl
  thisClass := this
  superClass := sup
  interfaces := ifs
  fields := fds
  methods := ms
  attributes := attrs
def plain (name : String) (sup : Option ClassId) : Class where
  name := name
  kind := .ordinary
  loader := none
  accessFlags := 33
  super := sup
  interfaces := #[]
  cf := none
  fields := #[]
  methods := #[]
  instanceTypes := #[]
  staticTypes := #[]
  resolved := #[]
  callSites := []
  init := .initialized
  statics := none
  mirror := none

def pool0 : Array CpInfo := pool [(5, u "<init>"), (0, u "()V"), (1, .class_ 10), (1, u "java/lang/Object")] 113

def k0m0 : Method := { name := "<init>", desc := "()V", sig := { parameters := [], returnType := none }, accessFlags := 1, code := none }
/-- java/lang/Object -/
def k0 : Class := { plain "java/lang/Object" none with
  accessFlags := 33
  interfaces := #[]
  cf := some (fileOf pool0 8 #[] #[{ accessFlags := 1, nameIndex := 5, descriptorIndex := 6, attributes := #[] }] 33 0 #[] #[])
  fields := #[]
  methods := #[k0m0]
  instanceTypes := #[]
  staticTypes := #[]
  resolved := Array.replicate 124 none
  statics := none }

def pool1 : Array CpInfo := pool [(2, .class_ 4), (1, u "java/lang/Object"), (0, u "<init>"), (0, u "()V"), (0, .integer 2147483647), (0, .methodref 9 10), (0, .class_ 11), (0, .nameAndType 12 13), (0, u "com/example/reef_marker/reefmarker/engine/Ascii"), (0, u "digit"), (0, u "(CI)I"), (0, .methodref 15 16), (0, .class_ 17), (0, .nameAndType 18 13), (0, u "com/example/reef_marker/reefmarker/engine/AsciiDigitPinLaw"), (0, u "expected"), (2, u "law"), (0, u "(II)Z")] 3

def k1m0 : Method := { name := "<init>", desc := "()V", sig := { parameters := [], returnType := none }, accessFlags := 2, code := none }
def k1c1 : Code := { maxStack := 3, maxLocals := 7, code := code, exceptionTable := #[], attributes := #[] }
def k1m1 : Method := { name := "law", desc := "(II)Z", sig := { parameters := [.int, .int], returnType := some .boolean }, accessFlags := 9, code := some k1c1 }
def k1c2 : Code := { maxStack := 2, maxLocals := 6, code := method_3_code, exceptionTable := #[], attributes := #[] }
def k1m2 : Method := { name := "expected", desc := "(CI)I", sig := { parameters := [.char, .int], returnType := some .int }, accessFlags := 10, code := some k1c2 }
/-- com/example/reef_marker/reefmarker/engine/AsciiDigitPinLaw -/
def k1 : Class := { plain "com/example/reef_marker/reefmarker/engine/AsciiDigitPinLaw" (some 0) with
  accessFlags := 49
  interfaces := #[]
  cf := some (fileOf pool1 15 #[] #[{ accessFlags := 2, nameIndex := 5, descriptorIndex := 6, attributes := #[] }, { accessFlags := 9, nameIndex := 21, descriptorIndex := 22, attributes := #[] }, { accessFlags := 10, nameIndex := 18, descriptorIndex := 13, attributes := #[] }] 49 2 #[] #[])
  fields := #[]
  methods := #[k1m0, k1m1, k1m2]
  instanceTypes := #[]
  staticTypes := #[]
  resolved := Array.replicate 26 none
  statics := none }

def pool2 : Array CpInfo := pool [(2, .class_ 4), (1, u "java/lang/Object"), (0, u "<init>"), (0, u "()V"), (11, .class_ 20), (1, u "com/example/reef_marker/reefmarker/engine/Ascii"), (0, u "digit"), (0, u "(CI)I")] 22

def k2m0 : Method := { name := "<init>", desc := "()V", sig := { parameters := [], returnType := none }, accessFlags := 2, code := none }
def k2c1 : Code := { maxStack := 2, maxLocals := 3, code := prog_14_method_2_code, exceptionTable := #[], attributes := #[] }
def k2m1 : Method := { name := "digit", desc := "(CI)I", sig := { parameters := [.char, .int], returnType := some .int }, accessFlags := 8, code := some k2c1 }
/-- com/example/reef_marker/reefmarker/engine/Ascii -/
def k2 : Class := { plain "com/example/reef_marker/reefmarker/engine/Ascii" (some 0) with
  accessFlags := 32
  interfaces := #[]
  cf := some (fileOf pool2 18 #[] #[{ accessFlags := 2, nameIndex := 5, descriptorIndex := 6, attributes := #[] }, { accessFlags := 8, nameIndex := 21, descriptorIndex := 22, attributes := #[] }] 32 2 #[] #[])
  fields := #[]
  methods := #[k2m0, k2m1]
  instanceTypes := #[]
  staticTypes := #[]
  resolved := Array.replicate 45 none
  statics := none }

def pool3 : Array CpInfo := pool [(1, u "java/lang/Cloneable"), (0, .class_ 1), (0, u "java/lang/Object"), (0, .class_ 3)] 3

/-- java/lang/Cloneable -/
def k3 : Class := { plain "java/lang/Cloneable" (some 0) with
  accessFlags := 1537
  interfaces := #[]
  cf := some (fileOf pool3 2 #[] #[] 1537 4 #[] #[])
  fields := #[]
  methods := #[]
  instanceTypes := #[]
  staticTypes := #[]
  resolved := Array.replicate 8 none
  statics := none }

def pool4 : Array CpInfo := pool [(1, u "java/io/Serializable"), (0, .class_ 1), (0, u "java/lang/Object"), (0, .class_ 3)] 3

/-- java/io/Serializable -/
def k4 : Class := { plain "java/io/Serializable" (some 0) with
  accessFlags := 1537
  interfaces := #[]
  cf := some (fileOf pool4 2 #[] #[] 1537 4 #[] #[])
  fields := #[]
  methods := #[]
  instanceTypes := #[]
  staticTypes := #[]
  resolved := Array.replicate 8 none
  statics := none }

/-- the primitive byte -/
def k5 : Class := { plain "byte" none with kind := .primitive 'B', accessFlags := 0x411 }
/-- [B -/
def k6 : Class := { plain "[B" (some 0) with kind := .array 5 .byte, interfaces := #[3, 4], accessFlags := 1041 }

def heap : Heap := #[]
def classes : Array Class := #[k0, k1, k2, k3, k4, k5, k6]
def interned : List (Array UInt16 × Addr) := []
def slotsUsed : Nat := 0
def theMethod : MethodId := ⟨1, 1⟩
def args0 : Array Value := #[.int 5, .int 7]
def aboutOver (below : List Frame) : State where
  vm := { classes := classes, interned := interned.toArray }
  heap := heap
  slotsUsed := slotsUsed
  threads := #[{ frames := .invoking theMethod args0 :: below }]
def below0 : List Frame := [.native { method := ⟨0, 0⟩, args := #[] }]
def about1 : State := aboutOver below0
def p0 : Program := .bare "" "" ""
def e0 : Env := launch0.env 0 0 0
theorem w_frames : about1.frames = Frame.invoking theMethod args0 :: below0 := rfl
set_option maxRecDepth 65536 in
theorem w_args : argsFit about1.vm theMethod args0 = true := by decide +kernel
set_option maxRecDepth 65536 in
theorem w_heap : heapFits about1 = true := by decide +kernel
set_option maxRecDepth 65536 in
theorem w_runnable : about1.curStatus? = some .runnable := by decide +kernel
set_option maxRecDepth 65536 in
theorem w_alone : about1.alone = true := by decide +kernel
set_option maxRecDepth 65536 in
theorem w_named : about1.methodNamed? x = some theMethod := by decide +kernel
set_option maxRecDepth 65536 in
theorem w_hears : about1.hears theMethod below0 = true := by decide +kernel
set_option maxRecDepth 65536 in
theorem w_ripe : about1.ripe theMethod args0 below0 = true := by decide +kernel
theorem w_running : about1.status = .running := rfl
set_option maxRecDepth 65536 in
theorem w_room : about1.hasRoom e0.platform room_1 = true :=
  launch0.hasRoom_least _ room_1 (by decide +kernel) (by decide +kernel) (by decide +kernel) (by decide +kernel) (by decide +kernel) (by decide +kernel)
theorem allAtoms_all (ts : List Jvm.Cond) (a : Array Jvm.Value) (st : Jvm.State) : (allAtoms ts).before a st = ts.all (fun c => c.before a st) := by
  induction ts with
  | nil => rfl
  | cons c t ih =>
    show (Jvm.Cond.and c (allAtoms t)).before a st = _
    rw [Jvm.Cond.before_and, ih, List.all_cons]
def words1 : List Jvm.Cond := Jvm.Cond.code x code maxLocals ret :: tables_1
/-- a 'code' word, met by the world's own term for the bytes: nothing is compared byte by byte -/
theorem code_word {y : MethodName} {bytes : ByteArray} {mx : Nat} {rt : Option FieldType} {a : Array Value} {s : State} {m : MethodId} {meth : Method} {c : Code} (h1 : s.methodNamed? y = some m) (h2 : s.vm.method? m = some meth) (h3 : meth.code = some c) (h4 : c.code = bytes)
    (h5 : (c.maxLocals == mx && c.exceptionTable.isEmpty && decide (c.maxStack ≤ mostOperands) && decide (meth.sig.returnType = rt) && !meth.locks && decide (parseMethodDescriptor y.desc = some meth.sig)) = true) : (Jvm.Cond.code y bytes mx rt).before a s = true := by
  simp only [Bool.and_eq_true, beq_iff_eq, Bool.not_eq_true', decide_eq_true_eq] at h5
  obtain ⟨⟨⟨⟨⟨g1, g2⟩, g3⟩, g4⟩, g5⟩, g6⟩ := h5
  simp [Cond.before, Cond.holds, Cond.value, h1, h2, h3, h4, g1, g2, g3, g4, g5, g6]
def isCode : Jvm.Cond → Bool
  | .code _ _ _ _ => true
  | _ => false
theorem all_split {L : List Jvm.Cond} {P : Jvm.Cond → Bool} (h1 : L.all (fun c => isCode c || P c) = true) (h2 : ∀ c ∈ L.filter isCode, P c = true) : L.all P = true := by
  refine List.all_eq_true.mpr fun c hc => ?_
  have h := List.all_eq_true.mp h1 c hc
  rcases Bool.eq_false_or_eq_true (isCode c) with hi | hi
  · exact h2 c (List.mem_filter.mpr ⟨hc, hi⟩)
  · simpa [hi] using h
set_option maxRecDepth 65536 in
theorem w_c0 : (Jvm.Cond.code x code maxLocals ret).before args0 about1 = true := code_word (m := ⟨1, 1⟩) (meth := k1m1) (c := k1c1) (by decide +kernel) rfl rfl rfl (by decide +kernel)
set_option maxRecDepth 65536 in
theorem w_c1 : (Jvm.Cond.code ({ cls := "com/example/reef_marker/reefmarker/engine/Ascii", name := "digit", desc := "(CI)I" } : Jvm.MethodName) prog_14_method_2_code (3 : Nat) (Option.some Jvm.ClassFile.FieldType.int)).before args0 about1 = true := code_word (m := ⟨2, 1⟩) (meth := k2m1) (c := k2c1) (by decide +kernel) rfl rfl rfl (by decide +kernel)
set_option maxRecDepth 65536 in
theorem w_c2 : (Jvm.Cond.code ({ cls := "com/example/reef_marker/reefmarker/engine/AsciiDigitPinLaw", name := "expected", desc := "(CI)I" } : Jvm.MethodName) method_3_code (6 : Nat) (Option.some Jvm.ClassFile.FieldType.int)).before args0 about1 = true := code_word (m := ⟨1, 2⟩) (meth := k1m2) (c := k1c2) (by decide +kernel) rfl rfl rfl (by decide +kernel)
def codes1 : List Jvm.Cond := [Jvm.Cond.code x code maxLocals ret, Jvm.Cond.code ({ cls := "com/example/reef_marker/reefmarker/engine/Ascii", name := "digit", desc := "(CI)I" } : Jvm.MethodName) prog_14_method_2_code (3 : Nat) (Option.some Jvm.ClassFile.FieldType.int), Jvm.Cond.code ({ cls := "com/example/reef_marker/reefmarker/engine/AsciiDigitPinLaw", name := "expected", desc := "(CI)I" } : Jvm.MethodName) method_3_code (6 : Nat) (Option.some Jvm.ClassFile.FieldType.int)]
set_option maxRecDepth 65536 in
theorem codes_eq : words1.filter isCode = codes1 := rfl
theorem w_codes : ∀ c ∈ words1.filter isCode, c.before args0 about1 = true := by
  rw [codes_eq]
  intro c hc
  simp only [codes1, List.mem_cons, List.not_mem_nil, or_false] at hc
  rcases hc with rfl | rfl | rfl
  · exact w_c0
  · exact w_c1
  · exact w_c2
set_option maxRecDepth 65536 in
theorem w_t1 : words1.all (fun c => isCode c || c.before args0 about1) = true := by decide +kernel
theorem w_tables : (allAtoms (Jvm.Cond.code x code maxLocals ret :: tables_1)).before args0 about1 = true := by
  rw [allAtoms_all]
  show words1.all (fun c => c.before args0 about1) = true
  refine all_split ?_ w_codes
  rw [w_t1]
set_option maxRecDepth 65536 in
theorem w_case : (Jvm.Cond.and given_1 narrow_1).before args0 about1 = true := by decide +kernel
theorem w_applies : (headSpec (Jvm.Cond.code x code maxLocals ret :: tables_1) room_1).applies x e0.platform about1 = true :=
  (Spec.applies_iff w_frames).mpr ⟨w_running, w_runnable, w_alone, w_named, w_hears, w_ripe, w_room, w_tables⟩
theorem atStart : AtStart classFile x code maxLocals ret World_1 tables_1 room_1 Calls_1 rest_1 Pre_1 launch0 p0 e0 about1 theMethod args0 below0 :=
  ⟨lists_1, trivial, launch0.admits_env _ _ _, launch0.least_env, fairChoices_fair.cas, fairChoices_fair.clock, w_frames, w_args, w_heap, w_applies, trivial, trivial, w_case⟩
end start1
theorem witness_1 : WitnessClaimed_1 := ⟨start1.p0, start1.e0, start1.about1, start1.theMethod, start1.args0, start1.below0, start1.atStart⟩
end Jvm.Pilot.@@N@@
