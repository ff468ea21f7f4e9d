import JvmDerived
import JvmDerived.Pilot.@@N@@Statement
import JvmDerived.Pilot.@@N@@Code
set_option linter.unusedVariables false
set_option linter.unusedSimpArgs false
namespace Jvm.RoadKit
open Sem ClassFile Op Lib Jvm.Stand Jvm.Free Jvm.LawKit
section New
variable {p : Program} {l : Launch} {e : Env} {R : Room} {s : State} {m : MethodId} {args : Array Value} {below : List Frame} {meth : Method} {c : Code} {T : State} {locs : List Loc} {cells slots : Nat}
theorem retI (X : Stand p l e R s m args below meth c T locs cells slots) (hx : p.tables.exec = Jvm.exec) {pc : Nat} {Ls : Array Slot} {z : Int32} {rest : List Value} (hret : meth.sig.returnType = some .int) (hd : decode c.code pc = .ok (.ireturn, 1)) {fs : List Frame}
    (hl : ∀ (f : JFrame) (acts : List Action), f.method = m → f.locked = none → f.entered = [] → (doReturn e (T.setTop f) acts (some (.int z))).1 = T.setFrames fs) : Steps p.tables e below (T.setTop (mkF m pc Ls (.int z :: rest))) (T.setFrames fs) := by
  have hm' : T.vm.method? m = some meth := X.method'
  have hn : narrow .int (.int z) = .int z := rfl
  show Steps p.tables e below (T.setTop { method := m, pc := pc, locals := Ls, stack := _ :: rest, locked := none }) _
  jvm_step X.here [X.here.top, hx, hd, hm', hret, hn]
  first | (intro acts; rw [hl _ acts rfl rfl rfl]) | rw [hl _ _ rfl rfl rfl]
  exact Steps.refl _
end New
end Jvm.RoadKit
namespace Jvm.Pilot.@@N@@
open Jvm Jvm.ClassFile Sem Op Lib Jvm.Free Jvm.Stand Jvm.LawKit Jvm.RoadKit Bundle Jvm.Pilot.@@N@@.Jvm.D
theorem own_bm64 {n : Int} (h1 : -9223372036854775808 ≤ n) (h2 : n < 9223372036854775808) : n.bmod (2 ^ 64) = n := Int.bmod_eq_of_le (by omega) (by omega)
theorem own_bm32 {n : Int} (h1 : -2147483648 ≤ n) (h2 : n < 2147483648) : n.bmod (2 ^ 32) = n := Int.bmod_eq_of_le (by omega) (by omega)
-- 6
theorem own_mask (x : Int32) : 0 ≤ (x &&& 2147483647).toInt ∧ (x &&& 2147483647).toInt < 2147483648 := by
  have h : (x &&& 2147483647).toBitVec.toNat ≤ 2147483647 := by
    rw [Int32.toBitVec_and, BitVec.toNat_and]
    exact Nat.and_le_right
  have e : (x &&& 2147483647).toInt = ((x &&& 2147483647).toBitVec.toNat : Int) := by
    show (x &&& 2147483647).toBitVec.toInt = _
    rw [BitVec.toInt_eq_toNat_of_lt (by omega)]
  omega
theorem own_irem {x y : Int32} (hx : 0 ≤ x.toInt) (hy : 0 < y.toInt) : (x - x / y * y).toInt = x.toInt % y.toInt := by
  have bx := Int32.toInt_lt x
  have hq0 : 0 ≤ x.toInt / y.toInt := Int.ediv_nonneg hx (by omega)
  have hq1 : x.toInt / y.toInt ≤ x.toInt := Int.ediv_le_self _ hx
  have hq2 : x.toInt / y.toInt * y.toInt ≤ x.toInt := Int.ediv_mul_le _ (by omega)
  have hq3 : 0 ≤ x.toInt / y.toInt * y.toInt := Int.mul_nonneg hq0 (by omega)
  have e1 : (x / y).toInt = x.toInt / y.toInt := by
    rw [Int32.toInt_div, Int.tdiv_eq_ediv_of_nonneg hx, own_bm32 (by omega) (by omega)]
  have e2 : (x / y * y).toInt = x.toInt / y.toInt * y.toInt := by
    rw [Int32.toInt_mul, e1, own_bm32 (by omega) (by omega)]
  rw [Int32.toInt_sub, e2, own_bm32 (by omega) (by omega), Int.emod_def, Int.mul_comm]
theorem own_ldiv {x y : Int64} (hx : 0 ≤ x.toInt) (hy : 0 < y.toInt) : (x / y).toInt = x.toInt / y.toInt := by
  have bx := Int64.toInt_lt x
  have hq0 : 0 ≤ x.toInt / y.toInt := Int.ediv_nonneg hx (by omega)
  have hq1 : x.toInt / y.toInt ≤ x.toInt := Int.ediv_le_self _ hx
  rw [Int64.toInt_div, Int.tdiv_eq_ediv_of_nonneg hx, own_bm64 (by omega) (by omega)]
theorem own_lrem {x y : Int64} (hx : 0 ≤ x.toInt) (hy : 0 < y.toInt) : (x - x / y * y).toInt = x.toInt % y.toInt := by
  have bx := Int64.toInt_lt x
  have hq0 : 0 ≤ x.toInt / y.toInt := Int.ediv_nonneg hx (by omega)
  have hq2 : x.toInt / y.toInt * y.toInt ≤ x.toInt := Int.ediv_mul_le _ (by omega)
  have hq3 : 0 ≤ x.toInt / y.toInt * y.toInt := Int.mul_nonneg hq0 (by omega)
  have e2 : (x / y * y).toInt = x.toInt / y.toInt * y.toInt := by
    rw [Int64.toInt_mul, own_ldiv hx hy, own_bm64 (by omega) (by omega)]
  rw [Int64.toInt_sub, e2, own_bm64 (by omega) (by omega), Int.emod_def, Int.mul_comm]
def own_minL (a b : Int64) : Int64 := if b < a then b else a
def own_min (a b : Int32) : Int32 := if b < a then b else a
def own_max (a b : Int32) : Int32 := if a < b then b else a
def own_room (f : Int32) : Int64 := (2147483647 : Int64) - f.toInt64
def own_step (s : Int32) : Int32 := (1 : Int32) + ((s &&& (2147483647 : Int32)) - (s &&& (2147483647 : Int32)) / (2147483647 : Int32) * (2147483647 : Int32))
def own_m (f st : Int32) : Int64 := own_room f / st.toInt64 + (1 : Int64)
def own_k0 (c : Int32) (m : Int64) : Int64 := (c &&& (2147483647 : Int32)).toInt64 - (c &&& (2147483647 : Int32)).toInt64 / m * m
def own_k (c : Int32) (m : Int64) : Int64 := own_minL (own_k0 c m) (2147483646 : Int64)
def own_cnt (k : Int64) : Int32 := (k + (1 : Int64)).toInt32
def own_exp (f st : Int32) (k : Int64) : Int64 := f.toInt64 + st.toInt64 * k
theorem own_step_b (s : Int32) : 1 ≤ (own_step s).toInt := by
  have h := own_mask s
  have z : (2147483647 : Int32).toInt = 2147483647 := by decide +kernel
  have hm := own_irem (x := s &&& 2147483647) (y := 2147483647) h.1 (by rw [z]; omega)
  rw [z] at hm
  have m0 : 0 ≤ (s &&& 2147483647).toInt % 2147483647 := Int.emod_nonneg _ (by omega)
  have m1 : (s &&& 2147483647).toInt % 2147483647 < 2147483647 := Int.emod_lt_of_pos _ (by omega)
  unfold own_step
  rw [Int32.toInt_add, hm, show (1 : Int32).toInt = 1 from rfl, own_bm32 (by omega) (by omega)]; omega
theorem own_minb (w : Int64) (hw : 0 ≤ w.toInt) : 0 ≤ (own_minL w (2147483646 : Int64)).toInt ∧ (own_minL w (2147483646 : Int64)).toInt ≤ 2147483646 ∧ (own_minL w (2147483646 : Int64)).toInt ≤ w.toInt := by
  have z : (2147483646 : Int64).toInt = 2147483646 := by decide +kernel
  unfold own_minL
  generalize (2147483646 : Int64) = y at *
  by_cases h : y < w
  · rw [if_pos h]; rw [Int64.lt_iff_toInt_lt, z] at h; rw [z]; omega
  · rw [if_neg h]; rw [Int64.lt_iff_toInt_lt, z] at h; omega
theorem own_facts (f st c : Int32) (hs : 1 ≤ st.toInt) :
    1 ≤ (own_m f st).toInt ∧ 0 ≤ (own_k c (own_m f st)).toInt ∧ (own_k c (own_m f st)).toInt ≤ 2147483646 ∧ st.toInt * (own_k c (own_m f st)).toInt ≤ 2147483647 - f.toInt ∧ 0 ≤ st.toInt * (own_k c (own_m f st)).toInt := by
  have bf := Int32.toInt_lt f
  have bf' := Int32.le_toInt f
  have bs := Int32.toInt_lt st
  have r : (own_room f).toInt = 2147483647 - f.toInt := by
    unfold own_room; rw [Int64.toInt_sub, Int32.toInt_toInt64, show (2147483647 : Int64).toInt = 2147483647 from by decide +kernel, own_bm64 (by omega) (by omega)]
  have s64 : st.toInt64.toInt = st.toInt := Int32.toInt_toInt64 st
  have q : (own_room f / st.toInt64).toInt = (2147483647 - f.toInt) / st.toInt := by
    rw [own_ldiv (by omega) (by omega), r, s64]
  have q0 : 0 ≤ (2147483647 - f.toInt) / st.toInt := Int.ediv_nonneg (by omega) (by omega)
  have q1 : (2147483647 - f.toInt) / st.toInt ≤ 2147483647 - f.toInt := Int.ediv_le_self _ (by omega)
  have q2 : (2147483647 - f.toInt) / st.toInt * st.toInt ≤ 2147483647 - f.toInt := Int.ediv_mul_le _ (by omega)
  have hm : (own_m f st).toInt = (2147483647 - f.toInt) / st.toInt + 1 := by
    unfold own_m; rw [Int64.toInt_add, q, show (1 : Int64).toInt = 1 from rfl, own_bm64 (by omega) (by omega)]
  have hmask := own_mask c
  have c64 : (c &&& 2147483647).toInt64.toInt = (c &&& 2147483647).toInt := Int32.toInt_toInt64 _
  have hk0 : (own_k0 c (own_m f st)).toInt = (c &&& 2147483647).toInt % (own_m f st).toInt := by
    unfold own_k0; rw [own_lrem (by omega) (by omega), c64]
  have k1 : 0 ≤ (c &&& 2147483647).toInt % (own_m f st).toInt := Int.emod_nonneg _ (by omega)
  have k2 : (c &&& 2147483647).toInt % (own_m f st).toInt < (own_m f st).toInt := Int.emod_lt_of_pos _ (by omega)
  have kk := own_minb (own_k0 c (own_m f st)) (by rw [hk0]; exact k1)
  rw [hk0] at kk
  change 0 ≤ (own_k c (own_m f st)).toInt ∧ (own_k c (own_m f st)).toInt ≤ 2147483646 ∧ (own_k c (own_m f st)).toInt ≤ _ at kk
  generalize (own_k c (own_m f st)).toInt = K at *
  generalize (own_m f st).toInt = M at *
  generalize (c &&& 2147483647).toInt % M = J at *
  have le : K ≤ (2147483647 - f.toInt) / st.toInt := by omega
  have pr : K * st.toInt ≤ (2147483647 - f.toInt) / st.toInt * st.toInt := Int.mul_le_mul_of_nonneg_right le (by omega)
  have pz : 0 ≤ st.toInt * K := Int.mul_nonneg (by omega) kk.1
  refine ⟨by omega, kk.1, kk.2.1, ?_, pz⟩
  rw [Int.mul_comm]; omega
theorem own_law6 (f st : Int32) (k : Int64) (lo len : Int32) (hs : 1 ≤ st.toInt) (k0 : 0 ≤ k.toInt) (k1 : k.toInt ≤ 2147483646) (k2 : st.toInt * k.toInt ≤ 2147483647 - f.toInt) (k3 : 0 ≤ st.toInt * k.toInt) :
    (¬ st < (1 : Int32)) ∧ (¬ own_cnt k < (1 : Int32)) ∧ (¬ f < own_min f lo) ∧ (f.toInt64 + st.toInt64 * (own_cnt k - (1 : Int32)).toInt64 = own_exp f st k) ∧ (¬ (own_max len (own_exp f st k).toInt32).toInt64 < own_exp f st k) ∧ (own_exp f st k).toInt32.toInt64 = own_exp f st k := by
  have bf := Int32.toInt_lt f
  have bf' := Int32.le_toInt f
  have bs := Int32.toInt_lt st
  have one : (1 : Int32).toInt = 1 := rfl
  have c1 : (own_cnt k).toInt = k.toInt + 1 := by
    unfold own_cnt
    rw [Int64.toInt_toInt32, Int64.toInt_add, show (1 : Int64).toInt = 1 from rfl, own_bm64 (by omega) (by omega), own_bm32 (by omega) (by omega)]
  have c2 : (own_cnt k - (1 : Int32)).toInt = k.toInt := by rw [Int32.toInt_sub, c1, one, own_bm32 (by omega) (by omega)]; omega
  have c3 : (own_cnt k - (1 : Int32)).toInt64 = k := by apply Int64.toInt_inj.mp; rw [Int32.toInt_toInt64, c2]
  have p : (st.toInt64 * k).toInt = st.toInt * k.toInt := by rw [Int64.toInt_mul, Int32.toInt_toInt64, own_bm64 (by omega) (by omega)]
  have x : (own_exp f st k).toInt = f.toInt + st.toInt * k.toInt := by unfold own_exp; rw [Int64.toInt_add, p, Int32.toInt_toInt64, own_bm64 (by omega) (by omega)]
  have x32 : (own_exp f st k).toInt32.toInt = f.toInt + st.toInt * k.toInt := by rw [Int64.toInt_toInt32, x, own_bm32 (by omega) (by omega)]
  refine ⟨?_, ?_, ?_, ?_, ?_, ?_⟩
  · rw [Int32.lt_iff_toInt_lt, one]; omega
  · rw [Int32.lt_iff_toInt_lt, one, c1]; omega
  · unfold own_min
    split
    · rename_i h; rw [Int32.lt_iff_toInt_lt] at h ⊢; omega
    · rw [Int32.lt_iff_toInt_lt]; omega
  · rw [c3]; rfl
  · rw [Int64.lt_iff_toInt_lt, Int32.toInt_toInt64, x]
    unfold own_max
    split
    · rw [x32]; omega
    · rename_i h; rw [Int32.lt_iff_toInt_lt, x32] at h; omega
  · apply Int64.toInt_inj.mp; rw [Int32.toInt_toInt64, x32, x]

theorem own_ne64 (x : Int32) (h : 1 ≤ x.toInt) : x.toInt64 ≠ 0 := by
  intro h0
  have h1 : x.toInt64.toInt = (0 : Int64).toInt := by rw [h0]
  rw [Int32.toInt_toInt64, show (0 : Int64).toInt = 0 from rfl] at h1
  omega
theorem own_ne64' (x : Int64) (h : 1 ≤ x.toInt) : x ≠ 0 := by
  intro h0
  have h1 : x.toInt = (0 : Int64).toInt := by rw [h0]
  rw [show (0 : Int64).toInt = 0 from rfl] at h1
  omega
def own_run (f st cnt : Int32) : Int64 := f.toInt64 + st.toInt64 * (cnt - (1 : Int32)).toInt64
theorem own_d1_0 : decode jdk_29_method_70_code 0 = .ok (.lload_n 0, 1) := by decide +kernel
theorem own_d1_1 : decode jdk_29_method_70_code 1 = .ok (.lload_n 2, 1) := by decide +kernel
theorem own_d1_2 : decode jdk_29_method_70_code 2 = .ok (.lcmp, 1) := by decide +kernel
theorem own_d1_3 : decode jdk_29_method_70_code 3 = .ok (.ifCond .gt 7, 3) := by decide +kernel
theorem own_d1_6 : decode jdk_29_method_70_code 6 = .ok (.lload_n 0, 1) := by decide +kernel
theorem own_d1_7 : decode jdk_29_method_70_code 7 = .ok (.goto 4, 3) := by decide +kernel
theorem own_d1_10 : decode jdk_29_method_70_code 10 = .ok (.lload_n 2, 1) := by decide +kernel
theorem own_d1_11 : decode jdk_29_method_70_code 11 = .ok (.lreturn, 1) := by decide +kernel
theorem own_ef1 (m : MethodId) (q1 : Int64) (q2 : Int64) : entryFrame m #[(.long q1), (.long q2)] 4 = mkF m 0 #[.val (.long q1), .second, .val (.long q2), .second] [] := by first | (simp [entryFrame, mkF, argsToLocals, Value.category]; done) | rfl
def Q1 (Z : State) (q1 : Int64) (q2 : Int64)  (h0 : Heap) (n0 : Nat) (v : Option Value) (h : Heap) (L : List Loc) : Prop := v = some (.long (own_minL q1 q2)) ∧ Fr n0 L ∧ h = h0
set_option maxRecDepth 65536 in
set_option maxHeartbeats 40000000 in
theorem rm1 (l : Launch) (Z : State) (a0 : Array Value) (hw : ∀ d ∈ tables_1, d.before a0 Z = true) (ws : List Jvm.Cond) (q1 : Int64) (q2 : Int64)  (h0 : Heap) (n0 : Nat) (Z0 : n0 ≤ h0.size)  :
    MetFree l (⟨"java/lang/Math", "min", "(JJ)J"⟩ : MethodName) (head1 (Jvm.Cond.code (⟨"java/lang/Math", "min", "(JJ)J"⟩ : MethodName) jdk_29_method_70_code 4 (some .long) :: ws) ({ frames := 0, cells := 0, slots := 0, locals := 0 } : Room)) (fun a U => a = #[(.long q1), (.long q2)] ∧ Z.Warmed39 U.vm ∧ U.heap = h0) (fun _ _ _ _ _ => True) (fun _ U o U' => ∃ v L, o = .returned v ∧ Q1 Z q1 q2  h0 n0 v U'.heap L ∧ FrameEnd U o U' L ({ frames := 0, cells := 0, slots := 0, locals := 0 } : Room).cells ({ frames := 0, cells := 0, slots := 0, locals := 0 } : Room).slots) := by
  refine MetFree.of_bodySF (by decide +kernel) hisR ?_
  intro p e s m args below meth c s₁ Bd hml0 hP hK
  obtain ⟨rfl, hZ, hh⟩ := hP
  have hx := Bd.exec
  have hby := Bd.bytes
  have hml : c.maxLocals = 4 := hml0
  have hown : s.vm.findClass "java/lang/Math" = some m.cls := findClass_of_methodNamed Bd.named
  have hnm := (name_of_methodNamed Bd.named Bd.method).1
  have X0 : Stand p l e ({ frames := 0, cells := 0, slots := 0, locals := 0 } : Room) s m #[(.long q1), (.long q2)] below meth c s₁ [] 0 0 := Stand.of_body Bd
  have e0 : s₁.heap = h0 := by rw [← hh, Bd.state]; rfl
  have N0 := Fr.nil n0
  have pre0 : ∀ t, Steps p.tables e below (s₁.setTop (mkF m 0 #[.val (.long q1), .second, .val (.long q2), .second] [])) t → Steps p.tables e below (s₁.setTop (entryFrame m #[(.long q1), (.long q2)] 4)) t := fun t k => castTop (own_ef1 m q1 q2) k
  obtain ⟨fs, hr, hrun, hended, hW, hsame⟩ := X0.leave (v := some (.long (own_minL q1 q2))) (fun h => by rw [Bd.returns] at h; cases h)
  refine ⟨_, _, pre0 _ ?_, hrun, hended, _, _, rfl, ?_, ⟨_, rfl⟩, hW, hsame.mono (by decide) (by decide)⟩
  · show Steps p.tables e below (s₁.setTop (mkF m 0 #[.val (.long q1), .second, .val (.long q2), .second] [])) _
    refine XT.lloadN X0.here hx rfl (hb hby own_d1_0) rfl ?_
    show Steps p.tables e below (s₁.setTop (mkF m 1 #[.val (.long q1), .second, .val (.long q2), .second] [(.long q1)])) _
    refine XT.lloadN X0.here hx rfl (hb hby own_d1_1) rfl ?_
    show Steps p.tables e below (s₁.setTop (mkF m 2 #[.val (.long q1), .second, .val (.long q2), .second] [(.long q2), (.long q1)])) _
    refine XT.lcmp X0.here hx rfl (hb hby own_d1_2) rfl ?_
    show Steps p.tables e below (s₁.setTop (mkF m 3 #[.val (.long q1), .second, .val (.long q2), .second] [(.int (XT.cmpL q1 q2))])) _
    by_cases hc3 : q2 < q1
    · refine XS.ifYes X0.here hx rfl (pc0 := 3) (pc' := 10) rfl (hb hby own_d1_3) rfl (XT.ll_gt_t hc3) (by decide) (by decide) ?_
      show Steps p.tables e below (s₁.setTop (mkF m 10 #[.val (.long q1), .second, .val (.long q2), .second] [])) _
      refine XT.lloadN X0.here hx rfl (hb hby own_d1_10) rfl ?_
      show Steps p.tables e below (s₁.setTop (mkF m 11 #[.val (.long q1), .second, .val (.long q2), .second] [(.long q2)])) _
      exact X0.lreturnOut hx Bd.returns (hb hby own_d1_11) (by rw [show q2 = (own_minL q1 q2) from (by simp only [own_minL, if_pos hc3])]; exact hr)
    · refine XS.ifNo X0.here hx rfl (hb hby own_d1_3) rfl (XT.ll_gt_f hc3) ?_
      show Steps p.tables e below (s₁.setTop (mkF m 6 #[.val (.long q1), .second, .val (.long q2), .second] [])) _
      refine XT.lloadN X0.here hx rfl (hb hby own_d1_6) rfl ?_
      show Steps p.tables e below (s₁.setTop (mkF m 7 #[.val (.long q1), .second, .val (.long q2), .second] [(.long q1)])) _
      refine XS.goto X0.here hx rfl (pc0 := 7) (pc' := 11) rfl (hb hby own_d1_7) (by decide) (by decide) ?_
      show Steps p.tables e below (s₁.setTop (mkF m 11 #[.val (.long q1), .second, .val (.long q2), .second] [(.long q1)])) _
      exact X0.lreturnOut hx Bd.returns (hb hby own_d1_11) (by rw [show q1 = (own_minL q1 q2) from (by simp only [own_minL, if_neg hc3])]; exact hr)
  · exact ⟨rfl, N0, e0⟩
theorem own_d2_0 : decode jdk_29_method_69_code 0 = .ok (.iload_n 0, 1) := by decide +kernel
theorem own_d2_1 : decode jdk_29_method_69_code 1 = .ok (.iload_n 1, 1) := by decide +kernel
theorem own_d2_2 : decode jdk_29_method_69_code 2 = .ok (.if_icmp .gt 7, 3) := by decide +kernel
theorem own_d2_5 : decode jdk_29_method_69_code 5 = .ok (.iload_n 0, 1) := by decide +kernel
theorem own_d2_6 : decode jdk_29_method_69_code 6 = .ok (.goto 4, 3) := by decide +kernel
theorem own_d2_9 : decode jdk_29_method_69_code 9 = .ok (.iload_n 1, 1) := by decide +kernel
theorem own_d2_10 : decode jdk_29_method_69_code 10 = .ok (.ireturn, 1) := by decide +kernel
theorem own_ef2 (m : MethodId) (p1 : Int32) (p2 : Int32) : entryFrame m #[(.int p1), (.int p2)] 2 = mkF m 0 #[.val (.int p1), .val (.int p2)] [] := by first | (simp [entryFrame, mkF, argsToLocals, Value.category]; done) | rfl
def Q2 (Z : State) (p1 : Int32) (p2 : Int32)  (h0 : Heap) (n0 : Nat) (v : Option Value) (h : Heap) (L : List Loc) : Prop := v = some (.int (own_min p1 p2)) ∧ Fr n0 L ∧ h = h0
set_option maxRecDepth 65536 in
set_option maxHeartbeats 40000000 in
theorem rm2 (l : Launch) (Z : State) (a0 : Array Value) (hw : ∀ d ∈ tables_1, d.before a0 Z = true) (ws : List Jvm.Cond) (p1 : Int32) (p2 : Int32)  (h0 : Heap) (n0 : Nat) (Z0 : n0 ≤ h0.size)  :
    MetFree l (⟨"java/lang/Math", "min", "(II)I"⟩ : MethodName) (head1 (Jvm.Cond.code (⟨"java/lang/Math", "min", "(II)I"⟩ : MethodName) jdk_29_method_69_code 2 (some .int) :: ws) ({ frames := 0, cells := 0, slots := 0, locals := 0 } : Room)) (fun a U => a = #[(.int p1), (.int p2)] ∧ Z.Warmed39 U.vm ∧ U.heap = h0) (fun _ _ _ _ _ => True) (fun _ U o U' => ∃ v L, o = .returned v ∧ Q2 Z p1 p2  h0 n0 v U'.heap L ∧ FrameEnd U o U' L ({ frames := 0, cells := 0, slots := 0, locals := 0 } : Room).cells ({ frames := 0, cells := 0, slots := 0, locals := 0 } : Room).slots) := by
  refine MetFree.of_bodySF (by decide +kernel) hisR ?_
  intro p e s m args below meth c s₁ Bd hml0 hP hK
  obtain ⟨rfl, hZ, hh⟩ := hP
  have hx := Bd.exec
  have hby := Bd.bytes
  have hml : c.maxLocals = 2 := hml0
  have hown : s.vm.findClass "java/lang/Math" = some m.cls := findClass_of_methodNamed Bd.named
  have hnm := (name_of_methodNamed Bd.named Bd.method).1
  have X0 : Stand p l e ({ frames := 0, cells := 0, slots := 0, locals := 0 } : Room) s m #[(.int p1), (.int p2)] below meth c s₁ [] 0 0 := Stand.of_body Bd
  have e0 : s₁.heap = h0 := by rw [← hh, Bd.state]; rfl
  have N0 := Fr.nil n0
  have pre0 : ∀ t, Steps p.tables e below (s₁.setTop (mkF m 0 #[.val (.int p1), .val (.int p2)] [])) t → Steps p.tables e below (s₁.setTop (entryFrame m #[(.int p1), (.int p2)] 2)) t := fun t k => castTop (own_ef2 m p1 p2) k
  obtain ⟨fs, hr, hrun, hended, hW, hsame⟩ := X0.leave (v := some (.int (own_min p1 p2))) (fun h => by rw [Bd.returns] at h; cases h)
  refine ⟨_, _, pre0 _ ?_, hrun, hended, _, _, rfl, ?_, ⟨_, rfl⟩, hW, hsame.mono (by decide) (by decide)⟩
  · show Steps p.tables e below (s₁.setTop (mkF m 0 #[.val (.int p1), .val (.int p2)] [])) _
    refine XS.iloadN X0.here hx rfl (hb hby own_d2_0) rfl ?_
    show Steps p.tables e below (s₁.setTop (mkF m 1 #[.val (.int p1), .val (.int p2)] [(.int p1)])) _
    refine XS.iloadN X0.here hx rfl (hb hby own_d2_1) rfl ?_
    show Steps p.tables e below (s₁.setTop (mkF m 2 #[.val (.int p1), .val (.int p2)] [(.int p2), (.int p1)])) _
    by_cases hc2 : p2 < p1
    · refine XS.icmpYes X0.here hx rfl (pc0 := 2) (pc' := 9) rfl (hb hby own_d2_2) rfl (XT.ii_gt_t hc2) (by decide) (by decide) ?_
      show Steps p.tables e below (s₁.setTop (mkF m 9 #[.val (.int p1), .val (.int p2)] [])) _
      refine XS.iloadN X0.here hx rfl (hb hby own_d2_9) rfl ?_
      show Steps p.tables e below (s₁.setTop (mkF m 10 #[.val (.int p1), .val (.int p2)] [(.int p2)])) _
      exact retI X0 hx Bd.returns (hb hby own_d2_10) (by rw [show p2 = (own_min p1 p2) from (by simp only [own_min, if_pos hc2])]; exact hr)
    · refine XS.icmpNo X0.here hx rfl (hb hby own_d2_2) rfl (XT.ii_gt_f hc2) ?_
      show Steps p.tables e below (s₁.setTop (mkF m 5 #[.val (.int p1), .val (.int p2)] [])) _
      refine XS.iloadN X0.here hx rfl (hb hby own_d2_5) rfl ?_
      show Steps p.tables e below (s₁.setTop (mkF m 6 #[.val (.int p1), .val (.int p2)] [(.int p1)])) _
      refine XS.goto X0.here hx rfl (pc0 := 6) (pc' := 10) rfl (hb hby own_d2_6) (by decide) (by decide) ?_
      show Steps p.tables e below (s₁.setTop (mkF m 10 #[.val (.int p1), .val (.int p2)] [(.int p1)])) _
      exact retI X0 hx Bd.returns (hb hby own_d2_10) (by rw [show p1 = (own_min p1 p2) from (by simp only [own_min, if_neg hc2])]; exact hr)
  · exact ⟨rfl, N0, e0⟩
theorem own_d3_0 : decode jdk_29_method_65_code 0 = .ok (.iload_n 0, 1) := by decide +kernel
theorem own_d3_1 : decode jdk_29_method_65_code 1 = .ok (.iload_n 1, 1) := by decide +kernel
theorem own_d3_2 : decode jdk_29_method_65_code 2 = .ok (.if_icmp .lt 7, 3) := by decide +kernel
theorem own_d3_5 : decode jdk_29_method_65_code 5 = .ok (.iload_n 0, 1) := by decide +kernel
theorem own_d3_6 : decode jdk_29_method_65_code 6 = .ok (.goto 4, 3) := by decide +kernel
theorem own_d3_9 : decode jdk_29_method_65_code 9 = .ok (.iload_n 1, 1) := by decide +kernel
theorem own_d3_10 : decode jdk_29_method_65_code 10 = .ok (.ireturn, 1) := by decide +kernel
theorem own_ef3 (m : MethodId) (p1 : Int32) (p2 : Int32) : entryFrame m #[(.int p1), (.int p2)] 2 = mkF m 0 #[.val (.int p1), .val (.int p2)] [] := by first | (simp [entryFrame, mkF, argsToLocals, Value.category]; done) | rfl
def Q3 (Z : State) (p1 : Int32) (p2 : Int32)  (h0 : Heap) (n0 : Nat) (v : Option Value) (h : Heap) (L : List Loc) : Prop := v = some (.int (own_max p1 p2)) ∧ Fr n0 L ∧ h = h0
set_option maxRecDepth 65536 in
set_option maxHeartbeats 40000000 in
theorem rm3 (l : Launch) (Z : State) (a0 : Array Value) (hw : ∀ d ∈ tables_1, d.before a0 Z = true) (ws : List Jvm.Cond) (p1 : Int32) (p2 : Int32)  (h0 : Heap) (n0 : Nat) (Z0 : n0 ≤ h0.size)  :
    MetFree l (⟨"java/lang/Math", "max", "(II)I"⟩ : MethodName) (head1 (Jvm.Cond.code (⟨"java/lang/Math", "max", "(II)I"⟩ : MethodName) jdk_29_method_65_code 2 (some .int) :: ws) ({ frames := 0, cells := 0, slots := 0, locals := 0 } : Room)) (fun a U => a = #[(.int p1), (.int p2)] ∧ Z.Warmed39 U.vm ∧ U.heap = h0) (fun _ _ _ _ _ => True) (fun _ U o U' => ∃ v L, o = .returned v ∧ Q3 Z p1 p2  h0 n0 v U'.heap L ∧ FrameEnd U o U' L ({ frames := 0, cells := 0, slots := 0, locals := 0 } : Room).cells ({ frames := 0, cells := 0, slots := 0, locals := 0 } : Room).slots) := by
  refine MetFree.of_bodySF (by decide +kernel) hisR ?_
  intro p e s m args below meth c s₁ Bd hml0 hP hK
  obtain ⟨rfl, hZ, hh⟩ := hP
  have hx := Bd.exec
  have hby := Bd.bytes
  have hml : c.maxLocals = 2 := hml0
  have hown : s.vm.findClass "java/lang/Math" = some m.cls := findClass_of_methodNamed Bd.named
  have hnm := (name_of_methodNamed Bd.named Bd.method).1
  have X0 : Stand p l e ({ frames := 0, cells := 0, slots := 0, locals := 0 } : Room) s m #[(.int p1), (.int p2)] below meth c s₁ [] 0 0 := Stand.of_body Bd
  have e0 : s₁.heap = h0 := by rw [← hh, Bd.state]; rfl
  have N0 := Fr.nil n0
  have pre0 : ∀ t, Steps p.tables e below (s₁.setTop (mkF m 0 #[.val (.int p1), .val (.int p2)] [])) t → Steps p.tables e below (s₁.setTop (entryFrame m #[(.int p1), (.int p2)] 2)) t := fun t k => castTop (own_ef3 m p1 p2) k
  obtain ⟨fs, hr, hrun, hended, hW, hsame⟩ := X0.leave (v := some (.int (own_max p1 p2))) (fun h => by rw [Bd.returns] at h; cases h)
  refine ⟨_, _, pre0 _ ?_, hrun, hended, _, _, rfl, ?_, ⟨_, rfl⟩, hW, hsame.mono (by decide) (by decide)⟩
  · show Steps p.tables e below (s₁.setTop (mkF m 0 #[.val (.int p1), .val (.int p2)] [])) _
    refine XS.iloadN X0.here hx rfl (hb hby own_d3_0) rfl ?_
    show Steps p.tables e below (s₁.setTop (mkF m 1 #[.val (.int p1), .val (.int p2)] [(.int p1)])) _
    refine XS.iloadN X0.here hx rfl (hb hby own_d3_1) rfl ?_
    show Steps p.tables e below (s₁.setTop (mkF m 2 #[.val (.int p1), .val (.int p2)] [(.int p2), (.int p1)])) _
    by_cases hc2 : p1 < p2
    · refine XS.icmpYes X0.here hx rfl (pc0 := 2) (pc' := 9) rfl (hb hby own_d3_2) rfl (XT.ii_lt_t hc2) (by decide) (by decide) ?_
      show Steps p.tables e below (s₁.setTop (mkF m 9 #[.val (.int p1), .val (.int p2)] [])) _
      refine XS.iloadN X0.here hx rfl (hb hby own_d3_9) rfl ?_
      show Steps p.tables e below (s₁.setTop (mkF m 10 #[.val (.int p1), .val (.int p2)] [(.int p2)])) _
      exact retI X0 hx Bd.returns (hb hby own_d3_10) (by rw [show p2 = (own_max p1 p2) from (by simp only [own_max, if_pos hc2])]; exact hr)
    · refine XS.icmpNo X0.here hx rfl (hb hby own_d3_2) rfl (XT.ii_lt_f hc2) ?_
      show Steps p.tables e below (s₁.setTop (mkF m 5 #[.val (.int p1), .val (.int p2)] [])) _
      refine XS.iloadN X0.here hx rfl (hb hby own_d3_5) rfl ?_
      show Steps p.tables e below (s₁.setTop (mkF m 6 #[.val (.int p1), .val (.int p2)] [(.int p1)])) _
      refine XS.goto X0.here hx rfl (pc0 := 6) (pc' := 10) rfl (hb hby own_d3_6) (by decide) (by decide) ?_
      show Steps p.tables e below (s₁.setTop (mkF m 10 #[.val (.int p1), .val (.int p2)] [(.int p1)])) _
      exact retI X0 hx Bd.returns (hb hby own_d3_10) (by rw [show p1 = (own_max p1 p2) from (by simp only [own_max, if_neg hc2])]; exact hr)
  · exact ⟨rfl, N0, e0⟩
theorem own_pn0 : plainName "com/example/chainpence/chainpence/chain/HashChain" = true := by first | (simp [plainName, overriddenIn]; done) | decide +kernel
theorem own_d4_0 : decode prog_10_method_11_code 0 = .ok (.iload_n 1, 1) := by decide +kernel
theorem own_d4_1 : decode prog_10_method_11_code 1 = .ok (.iconst 1, 1) := by decide +kernel
theorem own_d4_2 : decode prog_10_method_11_code 2 = .ok (.if_icmp .lt 8, 3) := by decide +kernel
theorem own_d4_5 : decode prog_10_method_11_code 5 = .ok (.iload_n 2, 1) := by decide +kernel
theorem own_d4_6 : decode prog_10_method_11_code 6 = .ok (.iconst 1, 1) := by decide +kernel
theorem own_d4_7 : decode prog_10_method_11_code 7 = .ok (.if_icmp .ge 18, 3) := by decide +kernel
theorem own_d4_25 : decode prog_10_method_11_code 25 = .ok (.iload_n 0, 1) := by decide +kernel
theorem own_d4_26 : decode prog_10_method_11_code 26 = .ok (.i2l, 1) := by decide +kernel
theorem own_d4_27 : decode prog_10_method_11_code 27 = .ok (.iload_n 1, 1) := by decide +kernel
theorem own_d4_28 : decode prog_10_method_11_code 28 = .ok (.i2l, 1) := by decide +kernel
theorem own_d4_29 : decode prog_10_method_11_code 29 = .ok (.iload_n 2, 1) := by decide +kernel
theorem own_d4_30 : decode prog_10_method_11_code 30 = .ok (.iconst 1, 1) := by decide +kernel
theorem own_d4_31 : decode prog_10_method_11_code 31 = .ok (.isub, 1) := by decide +kernel
theorem own_d4_32 : decode prog_10_method_11_code 32 = .ok (.i2l, 1) := by decide +kernel
theorem own_d4_33 : decode prog_10_method_11_code 33 = .ok (.lmul, 1) := by decide +kernel
theorem own_d4_34 : decode prog_10_method_11_code 34 = .ok (.ladd, 1) := by decide +kernel
theorem own_d4_35 : decode prog_10_method_11_code 35 = .ok (.lstore 5, 2) := by decide +kernel
theorem own_d4_37 : decode prog_10_method_11_code 37 = .ok (.iload_n 0, 1) := by decide +kernel
theorem own_d4_38 : decode prog_10_method_11_code 38 = .ok (.iload_n 3, 1) := by decide +kernel
theorem own_d4_39 : decode prog_10_method_11_code 39 = .ok (.if_icmp .lt 12, 3) := by decide +kernel
theorem own_d4_42 : decode prog_10_method_11_code 42 = .ok (.lload 5, 2) := by decide +kernel
theorem own_d4_44 : decode prog_10_method_11_code 44 = .ok (.iload 4, 2) := by decide +kernel
theorem own_d4_46 : decode prog_10_method_11_code 46 = .ok (.i2l, 1) := by decide +kernel
theorem own_d4_47 : decode prog_10_method_11_code 47 = .ok (.lcmp, 1) := by decide +kernel
theorem own_d4_48 : decode prog_10_method_11_code 48 = .ok (.ifCond .le 22, 3) := by decide +kernel
theorem own_d4_70 : decode prog_10_method_11_code 70 = .ok (.lload 5, 2) := by decide +kernel
theorem own_d4_72 : decode prog_10_method_11_code 72 = .ok (.l2i, 1) := by decide +kernel
theorem own_d4_73 : decode prog_10_method_11_code 73 = .ok (.ireturn, 1) := by decide +kernel
theorem own_ef4 (m : MethodId) (p1 : Int32) (p2 : Int32) (p3 : Int32) (p4 : Int32) (p5 : Int32) : entryFrame m #[(.int p1), (.int p2), (.int p3), (.int p4), (.int p5)] 7 = mkF m 0 #[.val (.int p1), .val (.int p2), .val (.int p3), .val (.int p4), .val (.int p5), .unset, .unset] [] := by first | (simp [entryFrame, mkF, argsToLocals, Value.category]; done) | rfl
def Q4 (Z : State) (p1 : Int32) (p2 : Int32) (p3 : Int32) (p4 : Int32) (p5 : Int32)  (h0 : Heap) (n0 : Nat) (v : Option Value) (h : Heap) (L : List Loc) : Prop := v = some (.int ((own_run p1 p2 p3).toInt32)) ∧ Fr n0 L ∧ h = h0
set_option maxRecDepth 65536 in
set_option maxHeartbeats 40000000 in
theorem rm4 (l : Launch) (Z : State) (a0 : Array Value) (hw : ∀ d ∈ tables_1, d.before a0 Z = true) (ws : List Jvm.Cond) (p1 : Int32) (p2 : Int32) (p3 : Int32) (p4 : Int32) (p5 : Int32)  (h0 : Heap) (n0 : Nat) (Z0 : n0 ≤ h0.size) (g1 : ¬ p2 < (1 : Int32)) (g2 : ¬ p3 < (1 : Int32)) (g3 : ¬ p1 < p4) (g4 : ¬ p5.toInt64 < own_run p1 p2 p3) :
    MetFree l (⟨"com/example/chainpence/chainpence/chain/HashChain", "checkRun", "(IIIII)I"⟩ : MethodName) (head1 (Jvm.Cond.code (⟨"com/example/chainpence/chainpence/chain/HashChain", "checkRun", "(IIIII)I"⟩ : MethodName) prog_10_method_11_code 7 (some .int) :: ws) ({ frames := 0, cells := 0, slots := 0, locals := 0 } : Room)) (fun a U => a = #[(.int p1), (.int p2), (.int p3), (.int p4), (.int p5)] ∧ Z.Warmed39 U.vm ∧ U.heap = h0) (fun _ _ _ _ _ => True) (fun _ U o U' => ∃ v L, o = .returned v ∧ Q4 Z p1 p2 p3 p4 p5  h0 n0 v U'.heap L ∧ FrameEnd U o U' L ({ frames := 0, cells := 0, slots := 0, locals := 0 } : Room).cells ({ frames := 0, cells := 0, slots := 0, locals := 0 } : Room).slots) := by
  refine MetFree.of_bodySF (plainFor_of_name own_pn0) hisR ?_
  intro p e s m args below meth c s₁ Bd hml0 hP hK
  obtain ⟨rfl, hZ, hh⟩ := hP
  have hx := Bd.exec
  have hby := Bd.bytes
  have hml : c.maxLocals = 7 := hml0
  have hown : s.vm.findClass "com/example/chainpence/chainpence/chain/HashChain" = some m.cls := findClass_of_methodNamed Bd.named
  have hnm := (name_of_methodNamed Bd.named Bd.method).1
  have X0 : Stand p l e ({ frames := 0, cells := 0, slots := 0, locals := 0 } : Room) s m #[(.int p1), (.int p2), (.int p3), (.int p4), (.int p5)] below meth c s₁ [] 0 0 := Stand.of_body Bd
  have e0 : s₁.heap = h0 := by rw [← hh, Bd.state]; rfl
  have N0 := Fr.nil n0
  have pre0 : ∀ t, Steps p.tables e below (s₁.setTop (mkF m 0 #[.val (.int p1), .val (.int p2), .val (.int p3), .val (.int p4), .val (.int p5), .unset, .unset] [])) t → Steps p.tables e below (s₁.setTop (entryFrame m #[(.int p1), (.int p2), (.int p3), (.int p4), (.int p5)] 7)) t := fun t k => castTop (own_ef4 m p1 p2 p3 p4 p5) k
  obtain ⟨v1, hv1⟩ : ∃ z : Int64, z = ((p1.toInt64) + ((p2.toInt64) * ((p3 - (1 : Int32)).toInt64))) := ⟨_, rfl⟩
  obtain ⟨fs, hr, hrun, hended, hW, hsame⟩ := X0.leave (v := some (.int ((own_run p1 p2 p3).toInt32))) (fun h => by rw [Bd.returns] at h; cases h)
  refine ⟨_, _, pre0 _ ?_, hrun, hended, _, _, rfl, ?_, ⟨_, rfl⟩, hW, hsame.mono (by decide) (by decide)⟩
  · show Steps p.tables e below (s₁.setTop (mkF m 0 #[.val (.int p1), .val (.int p2), .val (.int p3), .val (.int p4), .val (.int p5), .unset, .unset] [])) _
    refine XS.iloadN X0.here hx rfl (hb hby own_d4_0) rfl ?_
    show Steps p.tables e below (s₁.setTop (mkF m 1 #[.val (.int p1), .val (.int p2), .val (.int p3), .val (.int p4), .val (.int p5), .unset, .unset] [(.int p2)])) _
    refine XT.iconstV X0.here hx rfl (1 : Int32) (hb hby own_d4_1) (by decide) ?_
    show Steps p.tables e below (s₁.setTop (mkF m 2 #[.val (.int p1), .val (.int p2), .val (.int p3), .val (.int p4), .val (.int p5), .unset, .unset] [(.int (1 : Int32)), (.int p2)])) _
    refine XS.icmpNo X0.here hx rfl (hb hby own_d4_2) rfl (XT.ii_lt_f g1) ?_
    show Steps p.tables e below (s₁.setTop (mkF m 5 #[.val (.int p1), .val (.int p2), .val (.int p3), .val (.int p4), .val (.int p5), .unset, .unset] [])) _
    refine XS.iloadN X0.here hx rfl (hb hby own_d4_5) rfl ?_
    show Steps p.tables e below (s₁.setTop (mkF m 6 #[.val (.int p1), .val (.int p2), .val (.int p3), .val (.int p4), .val (.int p5), .unset, .unset] [(.int p3)])) _
    refine XT.iconstV X0.here hx rfl (1 : Int32) (hb hby own_d4_6) (by decide) ?_
    show Steps p.tables e below (s₁.setTop (mkF m 7 #[.val (.int p1), .val (.int p2), .val (.int p3), .val (.int p4), .val (.int p5), .unset, .unset] [(.int (1 : Int32)), (.int p3)])) _
    refine XS.icmpYes X0.here hx rfl (pc0 := 7) (pc' := 25) rfl (hb hby own_d4_7) rfl (XT.ii_ge_t g2) (by decide) (by decide) ?_
    show Steps p.tables e below (s₁.setTop (mkF m 25 #[.val (.int p1), .val (.int p2), .val (.int p3), .val (.int p4), .val (.int p5), .unset, .unset] [])) _
    refine XS.iloadN X0.here hx rfl (hb hby own_d4_25) rfl ?_
    show Steps p.tables e below (s₁.setTop (mkF m 26 #[.val (.int p1), .val (.int p2), .val (.int p3), .val (.int p4), .val (.int p5), .unset, .unset] [(.int p1)])) _
    refine XT.i2l X0.here hx rfl (hb hby own_d4_26) rfl ?_
    show Steps p.tables e below (s₁.setTop (mkF m 27 #[.val (.int p1), .val (.int p2), .val (.int p3), .val (.int p4), .val (.int p5), .unset, .unset] [(.long (p1.toInt64))])) _
    refine XS.iloadN X0.here hx rfl (hb hby own_d4_27) rfl ?_
    show Steps p.tables e below (s₁.setTop (mkF m 28 #[.val (.int p1), .val (.int p2), .val (.int p3), .val (.int p4), .val (.int p5), .unset, .unset] [(.int p2), (.long (p1.toInt64))])) _
    refine XT.i2l X0.here hx rfl (hb hby own_d4_28) rfl ?_
    show Steps p.tables e below (s₁.setTop (mkF m 29 #[.val (.int p1), .val (.int p2), .val (.int p3), .val (.int p4), .val (.int p5), .unset, .unset] [(.long (p2.toInt64)), (.long (p1.toInt64))])) _
    refine XS.iloadN X0.here hx rfl (hb hby own_d4_29) rfl ?_
    show Steps p.tables e below (s₁.setTop (mkF m 30 #[.val (.int p1), .val (.int p2), .val (.int p3), .val (.int p4), .val (.int p5), .unset, .unset] [(.int p3), (.long (p2.toInt64)), (.long (p1.toInt64))])) _
    refine XT.iconstV X0.here hx rfl (1 : Int32) (hb hby own_d4_30) (by decide) ?_
    show Steps p.tables e below (s₁.setTop (mkF m 31 #[.val (.int p1), .val (.int p2), .val (.int p3), .val (.int p4), .val (.int p5), .unset, .unset] [(.int (1 : Int32)), (.int p3), (.long (p2.toInt64)), (.long (p1.toInt64))])) _
    refine XS.isub X0.here hx rfl (hb hby own_d4_31) rfl ?_
    show Steps p.tables e below (s₁.setTop (mkF m 32 #[.val (.int p1), .val (.int p2), .val (.int p3), .val (.int p4), .val (.int p5), .unset, .unset] [(.int (p3 - (1 : Int32))), (.long (p2.toInt64)), (.long (p1.toInt64))])) _
    refine XT.i2l X0.here hx rfl (hb hby own_d4_32) rfl ?_
    show Steps p.tables e below (s₁.setTop (mkF m 33 #[.val (.int p1), .val (.int p2), .val (.int p3), .val (.int p4), .val (.int p5), .unset, .unset] [(.long ((p3 - (1 : Int32)).toInt64)), (.long (p2.toInt64)), (.long (p1.toInt64))])) _
    refine XT.lmul X0.here hx rfl (hb hby own_d4_33) rfl ?_
    show Steps p.tables e below (s₁.setTop (mkF m 34 #[.val (.int p1), .val (.int p2), .val (.int p3), .val (.int p4), .val (.int p5), .unset, .unset] [(.long ((p2.toInt64) * ((p3 - (1 : Int32)).toInt64))), (.long (p1.toInt64))])) _
    refine XT.ladd X0.here hx rfl (hb hby own_d4_34) rfl ?_
    show Steps p.tables e below (s₁.setTop (mkF m 35 #[.val (.int p1), .val (.int p2), .val (.int p3), .val (.int p4), .val (.int p5), .unset, .unset] [(.long ((p1.toInt64) + ((p2.toInt64) * ((p3 - (1 : Int32)).toInt64))))])) _
    refine XT.lstore X0.here hx rfl (hb hby own_d4_35) rfl (l' := #[.val (.int p1), .val (.int p2), .val (.int p3), .val (.int p4), .val (.int p5), .val (.long v1), .second]) (by rw [hv1]; rfl) ?_
    show Steps p.tables e below (s₁.setTop (mkF m 37 #[.val (.int p1), .val (.int p2), .val (.int p3), .val (.int p4), .val (.int p5), .val (.long v1), .second] [])) _
    refine XS.iloadN X0.here hx rfl (hb hby own_d4_37) rfl ?_
    show Steps p.tables e below (s₁.setTop (mkF m 38 #[.val (.int p1), .val (.int p2), .val (.int p3), .val (.int p4), .val (.int p5), .val (.long v1), .second] [(.int p1)])) _
    refine XS.iloadN X0.here hx rfl (hb hby own_d4_38) rfl ?_
    show Steps p.tables e below (s₁.setTop (mkF m 39 #[.val (.int p1), .val (.int p2), .val (.int p3), .val (.int p4), .val (.int p5), .val (.long v1), .second] [(.int p4), (.int p1)])) _
    refine XS.icmpNo X0.here hx rfl (hb hby own_d4_39) rfl (XT.ii_lt_f g3) ?_
    show Steps p.tables e below (s₁.setTop (mkF m 42 #[.val (.int p1), .val (.int p2), .val (.int p3), .val (.int p4), .val (.int p5), .val (.long v1), .second] [])) _
    refine XT.lload X0.here hx rfl (hb hby own_d4_42) rfl ?_
    show Steps p.tables e below (s₁.setTop (mkF m 44 #[.val (.int p1), .val (.int p2), .val (.int p3), .val (.int p4), .val (.int p5), .val (.long v1), .second] [(.long v1)])) _
    refine XS.iload X0.here hx rfl (hb hby own_d4_44) rfl ?_
    show Steps p.tables e below (s₁.setTop (mkF m 46 #[.val (.int p1), .val (.int p2), .val (.int p3), .val (.int p4), .val (.int p5), .val (.long v1), .second] [(.int p5), (.long v1)])) _
    refine XT.i2l X0.here hx rfl (hb hby own_d4_46) rfl ?_
    show Steps p.tables e below (s₁.setTop (mkF m 47 #[.val (.int p1), .val (.int p2), .val (.int p3), .val (.int p4), .val (.int p5), .val (.long v1), .second] [(.long (p5.toInt64)), (.long v1)])) _
    refine XT.lcmp X0.here hx rfl (hb hby own_d4_47) rfl ?_
    show Steps p.tables e below (s₁.setTop (mkF m 48 #[.val (.int p1), .val (.int p2), .val (.int p3), .val (.int p4), .val (.int p5), .val (.long v1), .second] [(.int (XT.cmpL v1 (p5.toInt64)))])) _
    refine XS.ifYes X0.here hx rfl (pc0 := 48) (pc' := 70) rfl (hb hby own_d4_48) rfl (XT.ll_le_t (by rw [hv1]; exact g4)) (by decide) (by decide) ?_
    show Steps p.tables e below (s₁.setTop (mkF m 70 #[.val (.int p1), .val (.int p2), .val (.int p3), .val (.int p4), .val (.int p5), .val (.long v1), .second] [])) _
    refine XT.lload X0.here hx rfl (hb hby own_d4_70) rfl ?_
    show Steps p.tables e below (s₁.setTop (mkF m 72 #[.val (.int p1), .val (.int p2), .val (.int p3), .val (.int p4), .val (.int p5), .val (.long v1), .second] [(.long v1)])) _
    refine XT.l2i X0.here hx rfl (hb hby own_d4_72) rfl ?_
    show Steps p.tables e below (s₁.setTop (mkF m 73 #[.val (.int p1), .val (.int p2), .val (.int p3), .val (.int p4), .val (.int p5), .val (.long v1), .second] [(.int (v1.toInt32))])) _
    exact retI X0 hx Bd.returns (hb hby own_d4_73) (by rw [show (v1.toInt32) = ((own_run p1 p2 p3).toInt32) from (by rw [hv1]; rfl)]; exact hr)
  · exact ⟨rfl, N0, e0⟩
theorem own_pd0 : parseMethodDescriptor "(JJ)J" = some ⟨[.long, .long], some .long⟩ := by decide +kernel
theorem own_pd1 : parseMethodDescriptor "(II)I" = some ⟨[.int, .int], some .int⟩ := by decide +kernel
theorem own_pd2 : parseMethodDescriptor "(IIIII)I" = some ⟨[.int, .int, .int, .int, .int], some .int⟩ := by decide +kernel
theorem own_pn1 : plainName "com/example/chainpence/chainpence/chain/HashChainCheckRunPinLaw" = true := by first | (simp [plainName, overriddenIn]; done) | decide +kernel
theorem own_ef0 (m : MethodId) (p1 : Int32) (p2 : Int32) (p3 : Int32) (p4 : Int32) (p5 : Int32) : entryFrame m #[(.int p1), (.int p2), (.int p3), (.int p4), (.int p5)] maxLocals = mkF m 0 #[.val (.int p1), .val (.int p2), .val (.int p3), .val (.int p4), .val (.int p5), .unset, .unset, .unset, .unset, .unset, .unset, .unset, .unset, .unset, .unset, .unset, .unset, .unset] [] := by first | (simp [entryFrame, mkF, argsToLocals, Value.category, maxLocals]; done) | rfl
def Q0 (Z : State) (p1 : Int32) (p2 : Int32) (p3 : Int32) (p4 : Int32) (p5 : Int32)  (h0 : Heap) (n0 : Nat) (v : Option Value) (h : Heap) (L : List Loc) : Prop := v = some (.int (1 : Int32)) ∧ Fr n0 L
set_option maxRecDepth 65536 in
set_option maxHeartbeats 40000000 in
theorem rm0 (l : Launch) (Z : State) (a0 : Array Value) (hw : ∀ d ∈ tables_1, d.before a0 Z = true) (ws : List Jvm.Cond) (p1 : Int32) (p2 : Int32) (p3 : Int32) (p4 : Int32) (p5 : Int32)  (h0 : Heap) (n0 : Nat) (Z0 : n0 ≤ h0.size)  :
    MetFree l x (head1 (Jvm.Cond.code x code maxLocals ret :: ws) room_1) (fun a U => a = #[(.int p1), (.int p2), (.int p3), (.int p4), (.int p5)] ∧ Z.Warmed39 U.vm ∧ U.heap = h0) (fun _ _ _ _ _ => True) (fun _ U o U' => ∃ v L, o = .returned v ∧ Q0 Z p1 p2 p3 p4 p5  h0 n0 v U'.heap L ∧ FrameEnd U o U' L room_1.cells room_1.slots) := by
  refine MetFree.of_bodySF (plainFor_of_name own_pn1) hisR ?_
  intro p e s m args below meth c s₁ Bd hml0 hP hK
  obtain ⟨rfl, hZ, hh⟩ := hP
  have hx := Bd.exec
  have hby := Bd.bytes
  have hml : c.maxLocals = 18 := hml0
  have hown : s.vm.findClass "com/example/chainpence/chainpence/chain/HashChainCheckRunPinLaw" = some m.cls := findClass_of_methodNamed Bd.named
  have hnm := (name_of_methodNamed Bd.named Bd.method).1
  have X0 : Stand p l e room_1 s m #[(.int p1), (.int p2), (.int p3), (.int p4), (.int p5)] below meth c s₁ [] 0 0 := Stand.of_body Bd
  have e0 : s₁.heap = h0 := by rw [← hh, Bd.state]; rfl
  have N0 := Fr.nil n0
  have pre0 : ∀ t, Steps p.tables e below (s₁.setTop (mkF m 0 #[.val (.int p1), .val (.int p2), .val (.int p3), .val (.int p4), .val (.int p5), .unset, .unset, .unset, .unset, .unset, .unset, .unset, .unset, .unset, .unset, .unset, .unset, .unset] [])) t → Steps p.tables e below (s₁.setTop (entryFrame m #[(.int p1), (.int p2), (.int p3), (.int p4), (.int p5)] maxLocals)) t := fun t k => castTop (own_ef0 m p1 p2 p3 p4 p5) k
  obtain ⟨v1, hv1⟩ : ∃ z : Int64, z = ((2147483647 : Int64) - (p1.toInt64)) := ⟨_, rfl⟩
  obtain ⟨v2, hv2⟩ : ∃ z : Int32, z = ((1 : Int32) + ((p2 &&& (2147483647 : Int32)) - (p2 &&& (2147483647 : Int32)) / (2147483647 : Int32) * (2147483647 : Int32))) := ⟨_, rfl⟩
  obtain ⟨v3, hv3⟩ : ∃ z : Int64, z = ((v1 / (v2.toInt64)) + (1 : Int64)) := ⟨_, rfl⟩
  obtain ⟨v4, hv4⟩ : ∃ z : Int64, z = (((p3 &&& (2147483647 : Int32)).toInt64) - ((p3 &&& (2147483647 : Int32)).toInt64) / v3 * v3) := ⟨_, rfl⟩
  have sg0 : ∀ t, Steps p.tables e below (s₁.setTop (mkF m 44 #[.val (.int p1), .val (.int p2), .val (.int p3), .val (.int p4), .val (.int p5), .val (.long v1), .second, .val (.int v2), .val (.long v3), .second, .val (.long v4), .second, .unset, .unset, .unset, .unset, .unset, .unset] [(.long (2147483646 : Int64)), (.long v4)])) t → Steps p.tables e below (s₁.setTop (mkF m 0 #[.val (.int p1), .val (.int p2), .val (.int p3), .val (.int p4), .val (.int p5), .unset, .unset, .unset, .unset, .unset, .unset, .unset, .unset, .unset, .unset, .unset, .unset, .unset] [])) t := by
    intro t kk
    show Steps p.tables e below (s₁.setTop (mkF m 0 #[.val (.int p1), .val (.int p2), .val (.int p3), .val (.int p4), .val (.int p5), .unset, .unset, .unset, .unset, .unset, .unset, .unset, .unset, .unset, .unset, .unset, .unset, .unset] [])) _
    refine X0.ldc2J hx hown (mvT hZ (hw _ (List.mem_of_getElem? (i := 0) rfl))) rfl (hb hby at_0) ?_
    show Steps p.tables e below (s₁.setTop (mkF m 3 #[.val (.int p1), .val (.int p2), .val (.int p3), .val (.int p4), .val (.int p5), .unset, .unset, .unset, .unset, .unset, .unset, .unset, .unset, .unset, .unset, .unset, .unset, .unset] [(.long (2147483647 : Int64))])) _
    refine XS.iloadN X0.here hx rfl (hb hby at_3) rfl ?_
    show Steps p.tables e below (s₁.setTop (mkF m 4 #[.val (.int p1), .val (.int p2), .val (.int p3), .val (.int p4), .val (.int p5), .unset, .unset, .unset, .unset, .unset, .unset, .unset, .unset, .unset, .unset, .unset, .unset, .unset] [(.int p1), (.long (2147483647 : Int64))])) _
    refine XT.i2l X0.here hx rfl (hb hby at_4) rfl ?_
    show Steps p.tables e below (s₁.setTop (mkF m 5 #[.val (.int p1), .val (.int p2), .val (.int p3), .val (.int p4), .val (.int p5), .unset, .unset, .unset, .unset, .unset, .unset, .unset, .unset, .unset, .unset, .unset, .unset, .unset] [(.long (p1.toInt64)), (.long (2147483647 : Int64))])) _
    refine XT.lsub X0.here hx rfl (hb hby at_5) rfl ?_
    show Steps p.tables e below (s₁.setTop (mkF m 6 #[.val (.int p1), .val (.int p2), .val (.int p3), .val (.int p4), .val (.int p5), .unset, .unset, .unset, .unset, .unset, .unset, .unset, .unset, .unset, .unset, .unset, .unset, .unset] [(.long ((2147483647 : Int64) - (p1.toInt64)))])) _
    refine XT.lstore X0.here hx rfl (hb hby at_6) rfl (l' := #[.val (.int p1), .val (.int p2), .val (.int p3), .val (.int p4), .val (.int p5), .val (.long v1), .second, .unset, .unset, .unset, .unset, .unset, .unset, .unset, .unset, .unset, .unset, .unset]) (by rw [hv1]; rfl) ?_
    show Steps p.tables e below (s₁.setTop (mkF m 8 #[.val (.int p1), .val (.int p2), .val (.int p3), .val (.int p4), .val (.int p5), .val (.long v1), .second, .unset, .unset, .unset, .unset, .unset, .unset, .unset, .unset, .unset, .unset, .unset] [])) _
    refine XT.iconstV X0.here hx rfl (1 : Int32) (hb hby at_8) (by decide) ?_
    show Steps p.tables e below (s₁.setTop (mkF m 9 #[.val (.int p1), .val (.int p2), .val (.int p3), .val (.int p4), .val (.int p5), .val (.long v1), .second, .unset, .unset, .unset, .unset, .unset, .unset, .unset, .unset, .unset, .unset, .unset] [(.int (1 : Int32))])) _
    refine XS.iloadN X0.here hx rfl (hb hby at_9) rfl ?_
    show Steps p.tables e below (s₁.setTop (mkF m 10 #[.val (.int p1), .val (.int p2), .val (.int p3), .val (.int p4), .val (.int p5), .val (.long v1), .second, .unset, .unset, .unset, .unset, .unset, .unset, .unset, .unset, .unset, .unset, .unset] [(.int p2), (.int (1 : Int32))])) _
    refine X0.ldcI hx hown (mvT hZ (hw _ (List.mem_of_getElem? (i := 1) rfl))) rfl (hb hby at_10) ?_
    show Steps p.tables e below (s₁.setTop (mkF m 12 #[.val (.int p1), .val (.int p2), .val (.int p3), .val (.int p4), .val (.int p5), .val (.long v1), .second, .unset, .unset, .unset, .unset, .unset, .unset, .unset, .unset, .unset, .unset, .unset] [(.int (2147483647 : Int32)), (.int p2), (.int (1 : Int32))])) _
    refine XS.iand X0.here hx rfl (hb hby at_12) rfl ?_
    show Steps p.tables e below (s₁.setTop (mkF m 13 #[.val (.int p1), .val (.int p2), .val (.int p3), .val (.int p4), .val (.int p5), .val (.long v1), .second, .unset, .unset, .unset, .unset, .unset, .unset, .unset, .unset, .unset, .unset, .unset] [(.int (p2 &&& (2147483647 : Int32))), (.int (1 : Int32))])) _
    refine X0.ldcI hx hown (mvT hZ (hw _ (List.mem_of_getElem? (i := 1) rfl))) rfl (hb hby at_13) ?_
    show Steps p.tables e below (s₁.setTop (mkF m 15 #[.val (.int p1), .val (.int p2), .val (.int p3), .val (.int p4), .val (.int p5), .val (.long v1), .second, .unset, .unset, .unset, .unset, .unset, .unset, .unset, .unset, .unset, .unset, .unset] [(.int (2147483647 : Int32)), (.int (p2 &&& (2147483647 : Int32))), (.int (1 : Int32))])) _
    refine XS.irem X0.here hx rfl (hb hby at_15) rfl (by decide) ?_
    show Steps p.tables e below (s₁.setTop (mkF m 16 #[.val (.int p1), .val (.int p2), .val (.int p3), .val (.int p4), .val (.int p5), .val (.long v1), .second, .unset, .unset, .unset, .unset, .unset, .unset, .unset, .unset, .unset, .unset, .unset] [(.int ((p2 &&& (2147483647 : Int32)) - (p2 &&& (2147483647 : Int32)) / (2147483647 : Int32) * (2147483647 : Int32))), (.int (1 : Int32))])) _
    refine XS.iadd X0.here hx rfl (hb hby at_16) rfl ?_
    show Steps p.tables e below (s₁.setTop (mkF m 17 #[.val (.int p1), .val (.int p2), .val (.int p3), .val (.int p4), .val (.int p5), .val (.long v1), .second, .unset, .unset, .unset, .unset, .unset, .unset, .unset, .unset, .unset, .unset, .unset] [(.int ((1 : Int32) + ((p2 &&& (2147483647 : Int32)) - (p2 &&& (2147483647 : Int32)) / (2147483647 : Int32) * (2147483647 : Int32))))])) _
    refine XS.istore X0.here hx rfl (hb hby at_17) rfl (l' := #[.val (.int p1), .val (.int p2), .val (.int p3), .val (.int p4), .val (.int p5), .val (.long v1), .second, .val (.int v2), .unset, .unset, .unset, .unset, .unset, .unset, .unset, .unset, .unset, .unset]) (by rw [hv2]; rfl) ?_
    show Steps p.tables e below (s₁.setTop (mkF m 19 #[.val (.int p1), .val (.int p2), .val (.int p3), .val (.int p4), .val (.int p5), .val (.long v1), .second, .val (.int v2), .unset, .unset, .unset, .unset, .unset, .unset, .unset, .unset, .unset, .unset] [])) _
    refine XT.lload X0.here hx rfl (hb hby at_19) rfl ?_
    show Steps p.tables e below (s₁.setTop (mkF m 21 #[.val (.int p1), .val (.int p2), .val (.int p3), .val (.int p4), .val (.int p5), .val (.long v1), .second, .val (.int v2), .unset, .unset, .unset, .unset, .unset, .unset, .unset, .unset, .unset, .unset] [(.long v1)])) _
    refine XS.iload X0.here hx rfl (hb hby at_21) rfl ?_
    show Steps p.tables e below (s₁.setTop (mkF m 23 #[.val (.int p1), .val (.int p2), .val (.int p3), .val (.int p4), .val (.int p5), .val (.long v1), .second, .val (.int v2), .unset, .unset, .unset, .unset, .unset, .unset, .unset, .unset, .unset, .unset] [(.int v2), (.long v1)])) _
    refine XT.i2l X0.here hx rfl (hb hby at_23) rfl ?_
    show Steps p.tables e below (s₁.setTop (mkF m 24 #[.val (.int p1), .val (.int p2), .val (.int p3), .val (.int p4), .val (.int p5), .val (.long v1), .second, .val (.int v2), .unset, .unset, .unset, .unset, .unset, .unset, .unset, .unset, .unset, .unset] [(.long (v2.toInt64)), (.long v1)])) _
    refine XT.ldiv X0.here hx rfl (hb hby at_24) rfl (own_ne64 v2 (by rw [hv2]; exact own_step_b p2)) ?_
    show Steps p.tables e below (s₁.setTop (mkF m 25 #[.val (.int p1), .val (.int p2), .val (.int p3), .val (.int p4), .val (.int p5), .val (.long v1), .second, .val (.int v2), .unset, .unset, .unset, .unset, .unset, .unset, .unset, .unset, .unset, .unset] [(.long (v1 / (v2.toInt64)))])) _
    refine XT.lconstV X0.here hx rfl (1 : Int64) (hb hby at_25) (by decide) ?_
    show Steps p.tables e below (s₁.setTop (mkF m 26 #[.val (.int p1), .val (.int p2), .val (.int p3), .val (.int p4), .val (.int p5), .val (.long v1), .second, .val (.int v2), .unset, .unset, .unset, .unset, .unset, .unset, .unset, .unset, .unset, .unset] [(.long (1 : Int64)), (.long (v1 / (v2.toInt64)))])) _
    refine XT.ladd X0.here hx rfl (hb hby at_26) rfl ?_
    show Steps p.tables e below (s₁.setTop (mkF m 27 #[.val (.int p1), .val (.int p2), .val (.int p3), .val (.int p4), .val (.int p5), .val (.long v1), .second, .val (.int v2), .unset, .unset, .unset, .unset, .unset, .unset, .unset, .unset, .unset, .unset] [(.long ((v1 / (v2.toInt64)) + (1 : Int64)))])) _
    refine XT.lstore X0.here hx rfl (hb hby at_27) rfl (l' := #[.val (.int p1), .val (.int p2), .val (.int p3), .val (.int p4), .val (.int p5), .val (.long v1), .second, .val (.int v2), .val (.long v3), .second, .unset, .unset, .unset, .unset, .unset, .unset, .unset, .unset]) (by rw [hv3]; rfl) ?_
    show Steps p.tables e below (s₁.setTop (mkF m 29 #[.val (.int p1), .val (.int p2), .val (.int p3), .val (.int p4), .val (.int p5), .val (.long v1), .second, .val (.int v2), .val (.long v3), .second, .unset, .unset, .unset, .unset, .unset, .unset, .unset, .unset] [])) _
    refine XS.iloadN X0.here hx rfl (hb hby at_29) rfl ?_
    show Steps p.tables e below (s₁.setTop (mkF m 30 #[.val (.int p1), .val (.int p2), .val (.int p3), .val (.int p4), .val (.int p5), .val (.long v1), .second, .val (.int v2), .val (.long v3), .second, .unset, .unset, .unset, .unset, .unset, .unset, .unset, .unset] [(.int p3)])) _
    refine X0.ldcI hx hown (mvT hZ (hw _ (List.mem_of_getElem? (i := 1) rfl))) rfl (hb hby at_30) ?_
    show Steps p.tables e below (s₁.setTop (mkF m 32 #[.val (.int p1), .val (.int p2), .val (.int p3), .val (.int p4), .val (.int p5), .val (.long v1), .second, .val (.int v2), .val (.long v3), .second, .unset, .unset, .unset, .unset, .unset, .unset, .unset, .unset] [(.int (2147483647 : Int32)), (.int p3)])) _
    refine XS.iand X0.here hx rfl (hb hby at_32) rfl ?_
    show Steps p.tables e below (s₁.setTop (mkF m 33 #[.val (.int p1), .val (.int p2), .val (.int p3), .val (.int p4), .val (.int p5), .val (.long v1), .second, .val (.int v2), .val (.long v3), .second, .unset, .unset, .unset, .unset, .unset, .unset, .unset, .unset] [(.int (p3 &&& (2147483647 : Int32)))])) _
    refine XT.i2l X0.here hx rfl (hb hby at_33) rfl ?_
    show Steps p.tables e below (s₁.setTop (mkF m 34 #[.val (.int p1), .val (.int p2), .val (.int p3), .val (.int p4), .val (.int p5), .val (.long v1), .second, .val (.int v2), .val (.long v3), .second, .unset, .unset, .unset, .unset, .unset, .unset, .unset, .unset] [(.long ((p3 &&& (2147483647 : Int32)).toInt64))])) _
    refine XT.lload X0.here hx rfl (hb hby at_34) rfl ?_
    show Steps p.tables e below (s₁.setTop (mkF m 36 #[.val (.int p1), .val (.int p2), .val (.int p3), .val (.int p4), .val (.int p5), .val (.long v1), .second, .val (.int v2), .val (.long v3), .second, .unset, .unset, .unset, .unset, .unset, .unset, .unset, .unset] [(.long v3), (.long ((p3 &&& (2147483647 : Int32)).toInt64))])) _
    refine XT.lrem X0.here hx rfl (hb hby at_36) rfl (own_ne64' v3 (by rw [hv3, hv1]; exact (own_facts p1 v2 p3 (by rw [hv2]; exact own_step_b p2)).1)) ?_
    show Steps p.tables e below (s₁.setTop (mkF m 37 #[.val (.int p1), .val (.int p2), .val (.int p3), .val (.int p4), .val (.int p5), .val (.long v1), .second, .val (.int v2), .val (.long v3), .second, .unset, .unset, .unset, .unset, .unset, .unset, .unset, .unset] [(.long (((p3 &&& (2147483647 : Int32)).toInt64) - ((p3 &&& (2147483647 : Int32)).toInt64) / v3 * v3))])) _
    refine XT.lstore X0.here hx rfl (hb hby at_37) rfl (l' := #[.val (.int p1), .val (.int p2), .val (.int p3), .val (.int p4), .val (.int p5), .val (.long v1), .second, .val (.int v2), .val (.long v3), .second, .val (.long v4), .second, .unset, .unset, .unset, .unset, .unset, .unset]) (by rw [hv4]; rfl) ?_
    show Steps p.tables e below (s₁.setTop (mkF m 39 #[.val (.int p1), .val (.int p2), .val (.int p3), .val (.int p4), .val (.int p5), .val (.long v1), .second, .val (.int v2), .val (.long v3), .second, .val (.long v4), .second, .unset, .unset, .unset, .unset, .unset, .unset] [])) _
    refine XT.lload X0.here hx rfl (hb hby at_39) rfl ?_
    show Steps p.tables e below (s₁.setTop (mkF m 41 #[.val (.int p1), .val (.int p2), .val (.int p3), .val (.int p4), .val (.int p5), .val (.long v1), .second, .val (.int v2), .val (.long v3), .second, .val (.long v4), .second, .unset, .unset, .unset, .unset, .unset, .unset] [(.long v4)])) _
    refine X0.ldc2J hx hown (mvT hZ (hw _ (List.mem_of_getElem? (i := 2) rfl))) rfl (hb hby at_41) ?_
    exact kk
  have hst : 1 ≤ v2.toInt := by rw [hv2]; exact own_step_b p2
  have hm : v3 = own_m p1 v2 := by rw [hv3, hv1]; rfl
  have hk0 : v4 = own_k0 p3 v3 := by rw [hv4]; rfl
  -- pc 44: java/lang/Math.min
  obtain ⟨_, _, ⟨T1, L1, k1, n1⟩, -, X1, ⟨Lc1, hQ1, l1, y1, z1⟩, st1⟩ := Jvm.LawKit.callS X0 hx (y := (⟨"java/lang/Math", "min", "(JJ)J"⟩ : MethodName)) hown (mvT hZ (hw _ (List.mem_of_getElem? (i := 3) rfl))) (mvT hZ (hw _ (List.mem_of_getElem? (i := 4) rfl))) (mvT hZ (hw _ (List.mem_of_getElem? (i := 5) rfl))) (mvT hZ (hw _ (List.mem_of_getElem? (i := 6) rfl))) (by decide) (backOf (W := 0) (rm1 l Z a0 hw [] v4 (2147483646 : Int64)  h0 n0 Z0 ) hZ (hw _ (List.mem_of_getElem? (i := 6) rfl)) (hw _ (List.mem_of_getElem? (i := 5) rfl)) (by decide) (by decide)) (g := (mkF m 44 #[.val (.int p1), .val (.int p2), .val (.int p3), .val (.int p4), .val (.int p5), .val (.long v1), .second, .val (.int v2), .val (.long v3), .second, .val (.long v4), .second, .unset, .unset, .unset, .unset, .unset, .unset] [(.long (2147483646 : Int64)), (.long v4)])) rfl (by rw [hml]; rfl) (argsL := [(.long v4), (.long (2147483646 : Int64))]) (rest := []) (lenOf own_pd0 rfl) rfl (by show 2 * 0 + _ ≤ _; exact Nat.le_of_eq rfl) (hb hby at_44) (fun _ _ => ⟨rfl, e0, (by decide : 0 + 0 ≤ _), (by decide : 0 + 0 ≤ _)⟩)
  dsimp only [Pt.U, Pt.locs, Pt.cells, Pt.slots] at X1 l1 y1 z1 st1 hQ1
  subst l1 y1 z1
  obtain ⟨rfl, N1q, e1⟩ := hQ1
  have N1 := Fr.app N0 N1q
  obtain ⟨v5, hv5⟩ : ∃ z : Int64, z = (own_minL v4 (2147483646 : Int64)) := ⟨_, rfl⟩
  obtain ⟨v6, hv6⟩ : ∃ z : Int32, z = ((v5 + (1 : Int64)).toInt32) := ⟨_, rfl⟩
  obtain ⟨v7, hv7⟩ : ∃ z : Int64, z = ((p1.toInt64) + ((v2.toInt64) * v5)) := ⟨_, rfl⟩
  have sg2 : ∀ t, Steps p.tables e below (T1.setTop (mkF m 69 #[.val (.int p1), .val (.int p2), .val (.int p3), .val (.int p4), .val (.int p5), .val (.long v1), .second, .val (.int v2), .val (.long v3), .second, .val (.long v5), .second, .val (.int v6), .val (.long v7), .second, .unset, .unset, .unset] [(.int p4), (.int p1)])) t → Steps p.tables e below (T1.setTop (mkF m 47 #[.val (.int p1), .val (.int p2), .val (.int p3), .val (.int p4), .val (.int p5), .val (.long v1), .second, .val (.int v2), .val (.long v3), .second, .val (.long v4), .second, .unset, .unset, .unset, .unset, .unset, .unset] [(.long (own_minL v4 (2147483646 : Int64)))])) t := by
    intro t kk
    show Steps p.tables e below (T1.setTop (mkF m 47 #[.val (.int p1), .val (.int p2), .val (.int p3), .val (.int p4), .val (.int p5), .val (.long v1), .second, .val (.int v2), .val (.long v3), .second, .val (.long v4), .second, .unset, .unset, .unset, .unset, .unset, .unset] [(.long (own_minL v4 (2147483646 : Int64)))])) _
    refine XT.lstore X1.here hx rfl (hb hby at_47) rfl (l' := #[.val (.int p1), .val (.int p2), .val (.int p3), .val (.int p4), .val (.int p5), .val (.long v1), .second, .val (.int v2), .val (.long v3), .second, .val (.long v5), .second, .unset, .unset, .unset, .unset, .unset, .unset]) (by rw [hv5]; rfl) ?_
    show Steps p.tables e below (T1.setTop (mkF m 49 #[.val (.int p1), .val (.int p2), .val (.int p3), .val (.int p4), .val (.int p5), .val (.long v1), .second, .val (.int v2), .val (.long v3), .second, .val (.long v5), .second, .unset, .unset, .unset, .unset, .unset, .unset] [])) _
    refine XT.lload X1.here hx rfl (hb hby at_49) rfl ?_
    show Steps p.tables e below (T1.setTop (mkF m 51 #[.val (.int p1), .val (.int p2), .val (.int p3), .val (.int p4), .val (.int p5), .val (.long v1), .second, .val (.int v2), .val (.long v3), .second, .val (.long v5), .second, .unset, .unset, .unset, .unset, .unset, .unset] [(.long v5)])) _
    refine XT.lconstV X1.here hx rfl (1 : Int64) (hb hby at_51) (by decide) ?_
    show Steps p.tables e below (T1.setTop (mkF m 52 #[.val (.int p1), .val (.int p2), .val (.int p3), .val (.int p4), .val (.int p5), .val (.long v1), .second, .val (.int v2), .val (.long v3), .second, .val (.long v5), .second, .unset, .unset, .unset, .unset, .unset, .unset] [(.long (1 : Int64)), (.long v5)])) _
    refine XT.ladd X1.here hx rfl (hb hby at_52) rfl ?_
    show Steps p.tables e below (T1.setTop (mkF m 53 #[.val (.int p1), .val (.int p2), .val (.int p3), .val (.int p4), .val (.int p5), .val (.long v1), .second, .val (.int v2), .val (.long v3), .second, .val (.long v5), .second, .unset, .unset, .unset, .unset, .unset, .unset] [(.long (v5 + (1 : Int64)))])) _
    refine XT.l2i X1.here hx rfl (hb hby at_53) rfl ?_
    show Steps p.tables e below (T1.setTop (mkF m 54 #[.val (.int p1), .val (.int p2), .val (.int p3), .val (.int p4), .val (.int p5), .val (.long v1), .second, .val (.int v2), .val (.long v3), .second, .val (.long v5), .second, .unset, .unset, .unset, .unset, .unset, .unset] [(.int ((v5 + (1 : Int64)).toInt32))])) _
    refine XS.istore X1.here hx rfl (hb hby at_54) rfl (l' := #[.val (.int p1), .val (.int p2), .val (.int p3), .val (.int p4), .val (.int p5), .val (.long v1), .second, .val (.int v2), .val (.long v3), .second, .val (.long v5), .second, .val (.int v6), .unset, .unset, .unset, .unset, .unset]) (by rw [hv6]; rfl) ?_
    show Steps p.tables e below (T1.setTop (mkF m 56 #[.val (.int p1), .val (.int p2), .val (.int p3), .val (.int p4), .val (.int p5), .val (.long v1), .second, .val (.int v2), .val (.long v3), .second, .val (.long v5), .second, .val (.int v6), .unset, .unset, .unset, .unset, .unset] [])) _
    refine XS.iloadN X1.here hx rfl (hb hby at_56) rfl ?_
    show Steps p.tables e below (T1.setTop (mkF m 57 #[.val (.int p1), .val (.int p2), .val (.int p3), .val (.int p4), .val (.int p5), .val (.long v1), .second, .val (.int v2), .val (.long v3), .second, .val (.long v5), .second, .val (.int v6), .unset, .unset, .unset, .unset, .unset] [(.int p1)])) _
    refine XT.i2l X1.here hx rfl (hb hby at_57) rfl ?_
    show Steps p.tables e below (T1.setTop (mkF m 58 #[.val (.int p1), .val (.int p2), .val (.int p3), .val (.int p4), .val (.int p5), .val (.long v1), .second, .val (.int v2), .val (.long v3), .second, .val (.long v5), .second, .val (.int v6), .unset, .unset, .unset, .unset, .unset] [(.long (p1.toInt64))])) _
    refine XS.iload X1.here hx rfl (hb hby at_58) rfl ?_
    show Steps p.tables e below (T1.setTop (mkF m 60 #[.val (.int p1), .val (.int p2), .val (.int p3), .val (.int p4), .val (.int p5), .val (.long v1), .second, .val (.int v2), .val (.long v3), .second, .val (.long v5), .second, .val (.int v6), .unset, .unset, .unset, .unset, .unset] [(.int v2), (.long (p1.toInt64))])) _
    refine XT.i2l X1.here hx rfl (hb hby at_60) rfl ?_
    show Steps p.tables e below (T1.setTop (mkF m 61 #[.val (.int p1), .val (.int p2), .val (.int p3), .val (.int p4), .val (.int p5), .val (.long v1), .second, .val (.int v2), .val (.long v3), .second, .val (.long v5), .second, .val (.int v6), .unset, .unset, .unset, .unset, .unset] [(.long (v2.toInt64)), (.long (p1.toInt64))])) _
    refine XT.lload X1.here hx rfl (hb hby at_61) rfl ?_
    show Steps p.tables e below (T1.setTop (mkF m 63 #[.val (.int p1), .val (.int p2), .val (.int p3), .val (.int p4), .val (.int p5), .val (.long v1), .second, .val (.int v2), .val (.long v3), .second, .val (.long v5), .second, .val (.int v6), .unset, .unset, .unset, .unset, .unset] [(.long v5), (.long (v2.toInt64)), (.long (p1.toInt64))])) _
    refine XT.lmul X1.here hx rfl (hb hby at_63) rfl ?_
    show Steps p.tables e below (T1.setTop (mkF m 64 #[.val (.int p1), .val (.int p2), .val (.int p3), .val (.int p4), .val (.int p5), .val (.long v1), .second, .val (.int v2), .val (.long v3), .second, .val (.long v5), .second, .val (.int v6), .unset, .unset, .unset, .unset, .unset] [(.long ((v2.toInt64) * v5)), (.long (p1.toInt64))])) _
    refine XT.ladd X1.here hx rfl (hb hby at_64) rfl ?_
    show Steps p.tables e below (T1.setTop (mkF m 65 #[.val (.int p1), .val (.int p2), .val (.int p3), .val (.int p4), .val (.int p5), .val (.long v1), .second, .val (.int v2), .val (.long v3), .second, .val (.long v5), .second, .val (.int v6), .unset, .unset, .unset, .unset, .unset] [(.long ((p1.toInt64) + ((v2.toInt64) * v5)))])) _
    refine XT.lstore X1.here hx rfl (hb hby at_65) rfl (l' := #[.val (.int p1), .val (.int p2), .val (.int p3), .val (.int p4), .val (.int p5), .val (.long v1), .second, .val (.int v2), .val (.long v3), .second, .val (.long v5), .second, .val (.int v6), .val (.long v7), .second, .unset, .unset, .unset]) (by rw [hv7]; rfl) ?_
    show Steps p.tables e below (T1.setTop (mkF m 67 #[.val (.int p1), .val (.int p2), .val (.int p3), .val (.int p4), .val (.int p5), .val (.long v1), .second, .val (.int v2), .val (.long v3), .second, .val (.long v5), .second, .val (.int v6), .val (.long v7), .second, .unset, .unset, .unset] [])) _
    refine XS.iloadN X1.here hx rfl (hb hby at_67) rfl ?_
    show Steps p.tables e below (T1.setTop (mkF m 68 #[.val (.int p1), .val (.int p2), .val (.int p3), .val (.int p4), .val (.int p5), .val (.long v1), .second, .val (.int v2), .val (.long v3), .second, .val (.long v5), .second, .val (.int v6), .val (.long v7), .second, .unset, .unset, .unset] [(.int p1)])) _
    refine XS.iloadN X1.here hx rfl (hb hby at_68) rfl ?_
    exact kk
  have hk : v5 = own_k p3 (own_m p1 v2) := by rw [hv5, hk0, hm]; rfl
  obtain ⟨-, f1, f2, f3, f4⟩ := own_facts p1 v2 p3 hst
  rw [← hk] at f1 f2 f3 f4
  -- pc 69: java/lang/Math.min
  obtain ⟨_, _, ⟨T2, L2, k2, n2⟩, -, X2, ⟨Lc2, hQ2, l2, y2, z2⟩, st2⟩ := Jvm.LawKit.callS X1 hx (y := (⟨"java/lang/Math", "min", "(II)I"⟩ : MethodName)) hown (mvT hZ (hw _ (List.mem_of_getElem? (i := 7) rfl))) (mvT hZ (hw _ (List.mem_of_getElem? (i := 8) rfl))) (mvT hZ (hw _ (List.mem_of_getElem? (i := 5) rfl))) (mvT hZ (hw _ (List.mem_of_getElem? (i := 9) rfl))) (by decide) (backOf (W := 0) (rm2 l Z a0 hw [] p1 p4  h0 n0 Z0 ) hZ (hw _ (List.mem_of_getElem? (i := 9) rfl)) (hw _ (List.mem_of_getElem? (i := 5) rfl)) (by decide) (by decide)) (g := (mkF m 69 #[.val (.int p1), .val (.int p2), .val (.int p3), .val (.int p4), .val (.int p5), .val (.long v1), .second, .val (.int v2), .val (.long v3), .second, .val (.long v5), .second, .val (.int v6), .val (.long v7), .second, .unset, .unset, .unset] [(.int p4), (.int p1)])) rfl (by rw [hml]; rfl) (argsL := [(.int p1), (.int p4)]) (rest := []) (lenOf own_pd1 rfl) rfl (by show 2 * 0 + _ ≤ _; exact Nat.le_of_eq rfl) (hb hby at_69) (fun _ _ => ⟨rfl, e1, (by decide : 0 + 0 ≤ _), (by decide : 0 + 0 ≤ _)⟩)
  dsimp only [Pt.U, Pt.locs, Pt.cells, Pt.slots] at X2 l2 y2 z2 st2 hQ2
  subst l2 y2 z2
  obtain ⟨rfl, N2q, e2⟩ := hQ2
  have N2 := Fr.app N1 N2q
  obtain ⟨v8, hv8⟩ : ∃ z : Int32, z = (own_min p1 p4) := ⟨_, rfl⟩
  have sg4 : ∀ t, Steps p.tables e below (T2.setTop (mkF m 79 #[.val (.int p1), .val (.int p2), .val (.int p3), .val (.int p4), .val (.int p5), .val (.long v1), .second, .val (.int v2), .val (.long v3), .second, .val (.long v5), .second, .val (.int v6), .val (.long v7), .second, .val (.int v8), .unset, .unset] [(.int (v7.toInt32)), (.int p5)])) t → Steps p.tables e below (T2.setTop (mkF m 72 #[.val (.int p1), .val (.int p2), .val (.int p3), .val (.int p4), .val (.int p5), .val (.long v1), .second, .val (.int v2), .val (.long v3), .second, .val (.long v5), .second, .val (.int v6), .val (.long v7), .second, .unset, .unset, .unset] [(.int (own_min p1 p4))])) t := by
    intro t kk
    show Steps p.tables e below (T2.setTop (mkF m 72 #[.val (.int p1), .val (.int p2), .val (.int p3), .val (.int p4), .val (.int p5), .val (.long v1), .second, .val (.int v2), .val (.long v3), .second, .val (.long v5), .second, .val (.int v6), .val (.long v7), .second, .unset, .unset, .unset] [(.int (own_min p1 p4))])) _
    refine XS.istore X2.here hx rfl (hb hby at_72) rfl (l' := #[.val (.int p1), .val (.int p2), .val (.int p3), .val (.int p4), .val (.int p5), .val (.long v1), .second, .val (.int v2), .val (.long v3), .second, .val (.long v5), .second, .val (.int v6), .val (.long v7), .second, .val (.int v8), .unset, .unset]) (by rw [hv8]; rfl) ?_
    show Steps p.tables e below (T2.setTop (mkF m 74 #[.val (.int p1), .val (.int p2), .val (.int p3), .val (.int p4), .val (.int p5), .val (.long v1), .second, .val (.int v2), .val (.long v3), .second, .val (.long v5), .second, .val (.int v6), .val (.long v7), .second, .val (.int v8), .unset, .unset] [])) _
    refine XS.iload X2.here hx rfl (hb hby at_74) rfl ?_
    show Steps p.tables e below (T2.setTop (mkF m 76 #[.val (.int p1), .val (.int p2), .val (.int p3), .val (.int p4), .val (.int p5), .val (.long v1), .second, .val (.int v2), .val (.long v3), .second, .val (.long v5), .second, .val (.int v6), .val (.long v7), .second, .val (.int v8), .unset, .unset] [(.int p5)])) _
    refine XT.lload X2.here hx rfl (hb hby at_76) rfl ?_
    show Steps p.tables e below (T2.setTop (mkF m 78 #[.val (.int p1), .val (.int p2), .val (.int p3), .val (.int p4), .val (.int p5), .val (.long v1), .second, .val (.int v2), .val (.long v3), .second, .val (.long v5), .second, .val (.int v6), .val (.long v7), .second, .val (.int v8), .unset, .unset] [(.long v7), (.int p5)])) _
    refine XT.l2i X2.here hx rfl (hb hby at_78) rfl ?_
    exact kk
  -- pc 79: java/lang/Math.max
  obtain ⟨_, _, ⟨T3, L3, k3, n3⟩, -, X3, ⟨Lc3, hQ3, l3, y3, z3⟩, st3⟩ := Jvm.LawKit.callS X2 hx (y := (⟨"java/lang/Math", "max", "(II)I"⟩ : MethodName)) hown (mvT hZ (hw _ (List.mem_of_getElem? (i := 10) rfl))) (mvT hZ (hw _ (List.mem_of_getElem? (i := 11) rfl))) (mvT hZ (hw _ (List.mem_of_getElem? (i := 5) rfl))) (mvT hZ (hw _ (List.mem_of_getElem? (i := 12) rfl))) (by decide) (backOf (W := 0) (rm3 l Z a0 hw [] p5 (v7.toInt32)  h0 n0 Z0 ) hZ (hw _ (List.mem_of_getElem? (i := 12) rfl)) (hw _ (List.mem_of_getElem? (i := 5) rfl)) (by decide) (by decide)) (g := (mkF m 79 #[.val (.int p1), .val (.int p2), .val (.int p3), .val (.int p4), .val (.int p5), .val (.long v1), .second, .val (.int v2), .val (.long v3), .second, .val (.long v5), .second, .val (.int v6), .val (.long v7), .second, .val (.int v8), .unset, .unset] [(.int (v7.toInt32)), (.int p5)])) rfl (by rw [hml]; rfl) (argsL := [(.int p5), (.int (v7.toInt32))]) (rest := []) (lenOf own_pd1 rfl) rfl (by show 2 * 0 + _ ≤ _; exact Nat.le_of_eq rfl) (hb hby at_79) (fun _ _ => ⟨rfl, e2, (by decide : 0 + 0 ≤ _), (by decide : 0 + 0 ≤ _)⟩)
  dsimp only [Pt.U, Pt.locs, Pt.cells, Pt.slots] at X3 l3 y3 z3 st3 hQ3
  subst l3 y3 z3
  obtain ⟨rfl, N3q, e3⟩ := hQ3
  have N3 := Fr.app N2 N3q
  obtain ⟨v9, hv9⟩ : ∃ z : Int32, z = (own_max p5 (v7.toInt32)) := ⟨_, rfl⟩
  have sg6 : ∀ t, Steps p.tables e below (T3.setTop (mkF m 93 #[.val (.int p1), .val (.int p2), .val (.int p3), .val (.int p4), .val (.int p5), .val (.long v1), .second, .val (.int v2), .val (.long v3), .second, .val (.long v5), .second, .val (.int v6), .val (.long v7), .second, .val (.int v8), .val (.int v9), .unset] [(.int v9), (.int v8), (.int v6), (.int v2), (.int p1)])) t → Steps p.tables e below (T3.setTop (mkF m 82 #[.val (.int p1), .val (.int p2), .val (.int p3), .val (.int p4), .val (.int p5), .val (.long v1), .second, .val (.int v2), .val (.long v3), .second, .val (.long v5), .second, .val (.int v6), .val (.long v7), .second, .val (.int v8), .unset, .unset] [(.int (own_max p5 (v7.toInt32)))])) t := by
    intro t kk
    show Steps p.tables e below (T3.setTop (mkF m 82 #[.val (.int p1), .val (.int p2), .val (.int p3), .val (.int p4), .val (.int p5), .val (.long v1), .second, .val (.int v2), .val (.long v3), .second, .val (.long v5), .second, .val (.int v6), .val (.long v7), .second, .val (.int v8), .unset, .unset] [(.int (own_max p5 (v7.toInt32)))])) _
    refine XS.istore X3.here hx rfl (hb hby at_82) rfl (l' := #[.val (.int p1), .val (.int p2), .val (.int p3), .val (.int p4), .val (.int p5), .val (.long v1), .second, .val (.int v2), .val (.long v3), .second, .val (.long v5), .second, .val (.int v6), .val (.long v7), .second, .val (.int v8), .val (.int v9), .unset]) (by rw [hv9]; rfl) ?_
    show Steps p.tables e below (T3.setTop (mkF m 84 #[.val (.int p1), .val (.int p2), .val (.int p3), .val (.int p4), .val (.int p5), .val (.long v1), .second, .val (.int v2), .val (.long v3), .second, .val (.long v5), .second, .val (.int v6), .val (.long v7), .second, .val (.int v8), .val (.int v9), .unset] [])) _
    refine XS.iloadN X3.here hx rfl (hb hby at_84) rfl ?_
    show Steps p.tables e below (T3.setTop (mkF m 85 #[.val (.int p1), .val (.int p2), .val (.int p3), .val (.int p4), .val (.int p5), .val (.long v1), .second, .val (.int v2), .val (.long v3), .second, .val (.long v5), .second, .val (.int v6), .val (.long v7), .second, .val (.int v8), .val (.int v9), .unset] [(.int p1)])) _
    refine XS.iload X3.here hx rfl (hb hby at_85) rfl ?_
    show Steps p.tables e below (T3.setTop (mkF m 87 #[.val (.int p1), .val (.int p2), .val (.int p3), .val (.int p4), .val (.int p5), .val (.long v1), .second, .val (.int v2), .val (.long v3), .second, .val (.long v5), .second, .val (.int v6), .val (.long v7), .second, .val (.int v8), .val (.int v9), .unset] [(.int v2), (.int p1)])) _
    refine XS.iload X3.here hx rfl (hb hby at_87) rfl ?_
    show Steps p.tables e below (T3.setTop (mkF m 89 #[.val (.int p1), .val (.int p2), .val (.int p3), .val (.int p4), .val (.int p5), .val (.long v1), .second, .val (.int v2), .val (.long v3), .second, .val (.long v5), .second, .val (.int v6), .val (.long v7), .second, .val (.int v8), .val (.int v9), .unset] [(.int v6), (.int v2), (.int p1)])) _
    refine XS.iload X3.here hx rfl (hb hby at_89) rfl ?_
    show Steps p.tables e below (T3.setTop (mkF m 91 #[.val (.int p1), .val (.int p2), .val (.int p3), .val (.int p4), .val (.int p5), .val (.long v1), .second, .val (.int v2), .val (.long v3), .second, .val (.long v5), .second, .val (.int v6), .val (.long v7), .second, .val (.int v8), .val (.int v9), .unset] [(.int v8), (.int v6), (.int v2), (.int p1)])) _
    refine XS.iload X3.here hx rfl (hb hby at_91) rfl ?_
    exact kk
  obtain ⟨r1, r2, r3, r4, r5, r6⟩ := own_law6 p1 v2 v5 p4 p5 hst f1 f2 f3 f4
  have hx7 : v7 = own_exp p1 v2 v5 := by rw [hv7]; rfl
  have hx6 : v6 = own_cnt v5 := by rw [hv6]; rfl
  have hrun7 : own_run p1 v2 v6 = v7 := by rw [hx6, hx7]; exact r4
  -- pc 93: com/example/chainpence/chainpence/chain/HashChain.checkRun
  obtain ⟨_, _, ⟨T4, L4, k4, n4⟩, -, X4, ⟨Lc4, hQ4, l4, y4, z4⟩, st4⟩ := Jvm.LawKit.callS X3 hx (y := (⟨"com/example/chainpence/chainpence/chain/HashChain", "checkRun", "(IIIII)I"⟩ : MethodName)) hown (mvT hZ (hw _ (List.mem_of_getElem? (i := 13) rfl))) (mvT hZ (hw _ (List.mem_of_getElem? (i := 14) rfl))) (mvT hZ (hw _ (List.mem_of_getElem? (i := 15) rfl))) (mvT hZ (hw _ (List.mem_of_getElem? (i := 16) rfl))) (by decide) (backOf (W := 0) (rm4 l Z a0 hw [] p1 v2 v6 v8 v9  h0 n0 Z0 r1 (by rw [hx6]; exact r2) (by rw [hv8]; exact r3) (by rw [hrun7, hv9, hx7]; exact r5)) hZ (hw _ (List.mem_of_getElem? (i := 16) rfl)) (hw _ (List.mem_of_getElem? (i := 15) rfl)) (by decide) (by decide)) (g := (mkF m 93 #[.val (.int p1), .val (.int p2), .val (.int p3), .val (.int p4), .val (.int p5), .val (.long v1), .second, .val (.int v2), .val (.long v3), .second, .val (.long v5), .second, .val (.int v6), .val (.long v7), .second, .val (.int v8), .val (.int v9), .unset] [(.int v9), (.int v8), (.int v6), (.int v2), (.int p1)])) rfl (by rw [hml]; rfl) (argsL := [(.int p1), (.int v2), (.int v6), (.int v8), (.int v9)]) (rest := []) (lenOf own_pd2 rfl) rfl (by show 2 * 0 + _ ≤ _; exact Nat.le_of_eq rfl) (hb hby at_93) (fun _ _ => ⟨rfl, e3, (by decide : 0 + 0 ≤ _), (by decide : 0 + 0 ≤ _)⟩)
  dsimp only [Pt.U, Pt.locs, Pt.cells, Pt.slots] at X4 l4 y4 z4 st4 hQ4
  subst l4 y4 z4
  obtain ⟨rfl, N4q, e4⟩ := hQ4
  have N4 := Fr.app N3 N4q
  obtain ⟨v10, hv10⟩ : ∃ z : Int32, z = ((own_run p1 v2 v6).toInt32) := ⟨_, rfl⟩
  have sg8 : ∀ t, Steps p.tables e below (T4.setTop (mkF m 98 #[.val (.int p1), .val (.int p2), .val (.int p3), .val (.int p4), .val (.int p5), .val (.long v1), .second, .val (.int v2), .val (.long v3), .second, .val (.long v5), .second, .val (.int v6), .val (.long v7), .second, .val (.int v8), .val (.int v9), .val (.int v10)] [])) t → Steps p.tables e below (T4.setTop (mkF m 96 #[.val (.int p1), .val (.int p2), .val (.int p3), .val (.int p4), .val (.int p5), .val (.long v1), .second, .val (.int v2), .val (.long v3), .second, .val (.long v5), .second, .val (.int v6), .val (.long v7), .second, .val (.int v8), .val (.int v9), .unset] [(.int ((own_run p1 v2 v6).toInt32))])) t := by
    intro t kk
    show Steps p.tables e below (T4.setTop (mkF m 96 #[.val (.int p1), .val (.int p2), .val (.int p3), .val (.int p4), .val (.int p5), .val (.long v1), .second, .val (.int v2), .val (.long v3), .second, .val (.long v5), .second, .val (.int v6), .val (.long v7), .second, .val (.int v8), .val (.int v9), .unset] [(.int ((own_run p1 v2 v6).toInt32))])) _
    refine XS.istore X4.here hx rfl (hb hby at_96) rfl (l' := #[.val (.int p1), .val (.int p2), .val (.int p3), .val (.int p4), .val (.int p5), .val (.long v1), .second, .val (.int v2), .val (.long v3), .second, .val (.long v5), .second, .val (.int v6), .val (.long v7), .second, .val (.int v8), .val (.int v9), .val (.int v10)]) (by rw [hv10]; rfl) ?_
    exact kk
  obtain ⟨fs, hr, hrun, hended, hW, hsame⟩ := X4.leave (v := some (.int (1 : Int32))) (fun h => by rw [Bd.returns] at h; cases h)
  refine ⟨_, _, pre0 _ ?_, hrun, hended, _, _, rfl, ?_, ⟨_, rfl⟩, hW, hsame.mono (by decide) (by decide)⟩
  · refine sg0 _ ?_
    refine st1 _ ?_
    refine sg2 _ ?_
    refine st2 _ ?_
    refine sg4 _ ?_
    refine st3 _ ?_
    refine sg6 _ ?_
    refine st4 _ ?_
    refine sg8 _ ?_
    show Steps p.tables e below (T4.setTop (mkF m 98 #[.val (.int p1), .val (.int p2), .val (.int p3), .val (.int p4), .val (.int p5), .val (.long v1), .second, .val (.int v2), .val (.long v3), .second, .val (.long v5), .second, .val (.int v6), .val (.long v7), .second, .val (.int v8), .val (.int v9), .val (.int v10)] [])) _
    refine XS.iload X4.here hx rfl (hb hby at_98) rfl ?_
    show Steps p.tables e below (T4.setTop (mkF m 100 #[.val (.int p1), .val (.int p2), .val (.int p3), .val (.int p4), .val (.int p5), .val (.long v1), .second, .val (.int v2), .val (.long v3), .second, .val (.long v5), .second, .val (.int v6), .val (.long v7), .second, .val (.int v8), .val (.int v9), .val (.int v10)] [(.int v10)])) _
    refine XT.i2l X4.here hx rfl (hb hby at_100) rfl ?_
    show Steps p.tables e below (T4.setTop (mkF m 101 #[.val (.int p1), .val (.int p2), .val (.int p3), .val (.int p4), .val (.int p5), .val (.long v1), .second, .val (.int v2), .val (.long v3), .second, .val (.long v5), .second, .val (.int v6), .val (.long v7), .second, .val (.int v8), .val (.int v9), .val (.int v10)] [(.long (v10.toInt64))])) _
    refine XT.lload X4.here hx rfl (hb hby at_101) rfl ?_
    show Steps p.tables e below (T4.setTop (mkF m 103 #[.val (.int p1), .val (.int p2), .val (.int p3), .val (.int p4), .val (.int p5), .val (.long v1), .second, .val (.int v2), .val (.long v3), .second, .val (.long v5), .second, .val (.int v6), .val (.long v7), .second, .val (.int v8), .val (.int v9), .val (.int v10)] [(.long v7), (.long (v10.toInt64))])) _
    refine XT.lcmp X4.here hx rfl (hb hby at_103) rfl ?_
    show Steps p.tables e below (T4.setTop (mkF m 104 #[.val (.int p1), .val (.int p2), .val (.int p3), .val (.int p4), .val (.int p5), .val (.long v1), .second, .val (.int v2), .val (.long v3), .second, .val (.long v5), .second, .val (.int v6), .val (.long v7), .second, .val (.int v8), .val (.int v9), .val (.int v10)] [(.int (XT.cmpL (v10.toInt64) v7))])) _
    refine XS.ifNo X4.here hx rfl (hb hby at_104) rfl (XT.ll_ne_f (by rw [hv10, hrun7, hx7]; exact r6)) ?_
    show Steps p.tables e below (T4.setTop (mkF m 107 #[.val (.int p1), .val (.int p2), .val (.int p3), .val (.int p4), .val (.int p5), .val (.long v1), .second, .val (.int v2), .val (.long v3), .second, .val (.long v5), .second, .val (.int v6), .val (.long v7), .second, .val (.int v8), .val (.int v9), .val (.int v10)] [])) _
    refine XT.iconstV X4.here hx rfl (1 : Int32) (hb hby at_107) (by decide) ?_
    show Steps p.tables e below (T4.setTop (mkF m 108 #[.val (.int p1), .val (.int p2), .val (.int p3), .val (.int p4), .val (.int p5), .val (.long v1), .second, .val (.int v2), .val (.long v3), .second, .val (.long v5), .second, .val (.int v6), .val (.long v7), .second, .val (.int v8), .val (.int v9), .val (.int v10)] [(.int (1 : Int32))])) _
    refine XS.goto X4.here hx rfl (pc0 := 108) (pc' := 112) rfl (hb hby at_108) (by decide) (by decide) ?_
    show Steps p.tables e below (T4.setTop (mkF m 112 #[.val (.int p1), .val (.int p2), .val (.int p3), .val (.int p4), .val (.int p5), .val (.long v1), .second, .val (.int v2), .val (.long v3), .second, .val (.long v5), .second, .val (.int v6), .val (.long v7), .second, .val (.int v8), .val (.int v9), .val (.int v10)] [(.int (1 : Int32))])) _
    exact retN X4 hx (t := .boolean) Bd.returns (by simp) (hb hby at_112) hr
  · exact ⟨rfl, N4⟩
set_option maxRecDepth 65536 in
set_option maxHeartbeats 40000000 in
theorem comes_1 {Post : Tables → Env → Array Value → State → Outcome → State → Prop} (hpost : ∀ tb e args s v u, (limb_1_1.after args s (.returned v) u = true ∧ limb_1_2.after args s (.returned v) u = true ∧ True) → FrameEnd s (.returned v) u (Jvm.fieldLocs frame_1_writes args s ++ Jvm.arrayLocs frame_1_arrays args s ++ Jvm.staticLocs frame_1_statics s) 0 0 → Post tb e args s (.returned v) u) :
    ArmFor flags0 classFile x code maxLocals ret World_1 tables_1 room_1 Calls_1 rest_1 Pre_1 Post := by
  intro l hfl _ _ p e ha hc hk s m args below hf hA hF happ hP
  obtain ⟨hcalls, hrest, hpre⟩ := hP
  obtain ⟨-, -, -, hnamed, -, -, -, hat⟩ := (Spec.applies_iff hf).mp happ
  obtain ⟨hg, hn⟩ := and_e (Cond.before_iff.mp (show (Jvm.Cond.and given_1 narrow_1).before args s = true from hpre))
  obtain ⟨hcount, g0⟩ := and_e hg
  obtain ⟨k0, g1⟩ := and_e g0
  obtain ⟨k1, g2⟩ := and_e g1
  obtain ⟨k2, g3⟩ := and_e g2
  obtain ⟨k3, g4⟩ := and_e g3
  obtain ⟨w0, w1, w2, w3, w4, rfl⟩ : ∃ w0 w1 w2 w3 w4 : Value, args = #[w0, w1, w2, w3, w4] := by
    have hs : args.size = 5 := by simpa [Cond.value, given_1] using hcount
    obtain ⟨L⟩ := args
    match L, hs with
    | [w0, w1, w2, w3, w4], _ => exact ⟨w0, w1, w2, w3, w4, rfl⟩
  have hw := fun d (hd : d ∈ tables_1) => atoms_spec (ws := Jvm.Cond.code x code maxLocals ret :: tables_1) hat d (List.mem_cons_of_mem _ hd)
  obtain ⟨i0, ei0⟩ := is_v k0
  obtain rfl : w0 = (.int i0) := Option.some.inj ei0
  obtain ⟨i1, ei1⟩ := is_v k1
  obtain rfl : w1 = (.int i1) := Option.some.inj ei1
  obtain ⟨i2, ei2⟩ := is_v k2
  obtain rfl : w2 = (.int i2) := Option.some.inj ei2
  obtain ⟨i3, ei3⟩ := is_v k3
  obtain rfl : w3 = (.int i3) := Option.some.inj ei3
  obtain ⟨i4, ei4⟩ := is_v g4
  obtain rfl : w4 = (.int i4) := Option.some.inj ei4
  obtain ⟨n, o, h1, h2, h3, _, L, rfl, ⟨rfl, N⟩, hq⟩ := rm0 l s _ hw tables_1 i0 i1 i2 i3 i4 s.heap s.heap.size (Nat.le_refl _) p e ha hc hk s m _ below hf ((Spec.applies_iff_loose hf).mp happ).1 ⟨rfl, State.Warmed39.refl s, rfl⟩ trivial
  refine ⟨n, _, h1, h2, h3, hpost _ _ _ _ _ _ ⟨Cond.after_iff.mpr rfl, Cond.after_iff.mpr (eq_i res_at (Term.int_eval (1)) rfl), trivial⟩ ⟨hq.1, hq.2.1, (hq.2.2.sift fun y hy => Or.inr (N y hy)).mono (by decide) (by decide)⟩⟩
theorem main_1_1 : Claimed_1_1 := comes_1 fun _ _ _ _ _ _ h hF => ⟨h.1, hF⟩
theorem main_1_2 : Claimed_1_2 := comes_1 fun _ _ _ _ _ _ h hF => ⟨h.2.1, hF⟩
end Jvm.Pilot.@@N@@
namespace Jvm.Pilot.@@N@@
open Jvm Jvm.ClassFile Sem Op Lib Jvm.Free Jvm.Stand Jvm.Pilot.@@N@@.Jvm.D
/-! MADE BY PROGRAM (witnessworld.py) out of the Statement's table words and the real class files: 8 classes; the members and pool entries that the words name. The judged class is class 1, her method 1. -/
namespace start1
open Jvm.ClassFile
def u (s : String) : CpInfo := .utf8 (stringToUtf16 s)
/-- a pool by its gaps: so many unusable entries, then the entry; so many at the end -/
def gap : Nat → List CpInfo → List CpInfo
  | 0, r => r
  | n + 1, r => .unusable :: gap n r
def poolList (es : List (Nat × CpInfo)) (last : Nat) : List CpInfo := es.foldr (fun e r => gap e.1 (e.2 :: r)) (gap last [])
def pool (es : List (Nat × CpInfo)) (last : Nat) : Array CpInfo := ⟨poolList es last⟩
def fileOf (pool : Array CpInfo) (this : Nat) (attrs : Array Attribute := #[]) (ms : Array MethodInfo := #[]) (fl : Nat := 33) (sup : Nat := 0) (ifs : Array Nat := #[]) (fds : Array FieldInfo := #[]) : ClassFile where
  minorVersion := 0
  majorVersion := 65
  constantPool := pool
  accessFlags := fl
  thisClass := this
  superClass := sup
  interfaces := ifs
  fields := fds
  methods := ms
  attributes := attrs
def plain (name : String) (sup : Option ClassId) : Class where
  name := name
  kind := .ordinary
  loader := none
  accessFlags := 33
  super := sup
  interfaces := #[]
  cf := none
  fields := #[]
  methods := #[]
  instanceTypes := #[]
  staticTypes := #[]
  resolved := #[]
  callSites := []
  init := .initialized
  statics := none
  mirror := none

def pool0 : Array CpInfo := pool [(5, u "<init>"), (0, u "()V"), (1, .class_ 10), (1, u "java/lang/Object")] 113

def k0m0 : Method := { name := "<init>", desc := "()V", sig := { parameters := [], returnType := none }, accessFlags := 1, code := none }
/-- java/lang/Object -/
def k0 : Class := { plain "java/lang/Object" none with
  accessFlags := 33
  interfaces := #[]
  cf := some (fileOf pool0 8 #[] #[{ accessFlags := 1, nameIndex := 5, descriptorIndex := 6, attributes := #[] }] 33 0 #[] #[])
  fields := #[]
  methods := #[k0m0]
  instanceTypes := #[]
  staticTypes := #[]
  resolved := Array.replicate 124 none
  statics := none }

def pool1 : Array CpInfo := pool [(2, .class_ 4), (1, u "java/lang/Object"), (0, u "<init>"), (0, u "()V"), (2, .long 2147483647), (1, .integer 2147483647), (0, .long 2147483646), (1, .methodref 15 16), (0, .class_ 17), (0, .nameAndType 18 19), (0, u "java/lang/Math"), (0, u "min"), (0, u "(JJ)J"), (0, .methodref 15 21), (0, .nameAndType 18 22), (0, u "(II)I"), (0, .methodref 15 24), (0, .nameAndType 25 22), (0, u "max"), (0, .methodref 27 28), (0, .class_ 29), (0, .nameAndType 30 31), (0, u "com/example/chainpence/chainpence/chain/HashChain"), (0, u "checkRun"), (0, u "(IIIII)I"), (0, .class_ 33), (0, u "com/example/chainpence/chainpence/chain/HashChainCheckRunPinLaw"), (2, u "law"), (0, u "(IIIII)Z")] 3

def k1m0 : Method := { name := "<init>", desc := "()V", sig := { parameters := [], returnType := none }, accessFlags := 2, code := none }
def k1c1 : Code := { maxStack := 6, maxLocals := 18, code := code, exceptionTable := #[], attributes := #[] }
def k1m1 : Method := { name := "law", desc := "(IIIII)Z", sig := { parameters := [.int, .int, .int, .int, .int], returnType := some .boolean }, accessFlags := 9, code := some k1c1 }
/-- com/example/chainpence/chainpence/chain/HashChainCheckRunPinLaw -/
def k1 : Class := { plain "com/example/chainpence/chainpence/chain/HashChainCheckRunPinLaw" (some 0) with
  accessFlags := 49
  interfaces := #[]
  cf := some (fileOf pool1 32 #[] #[{ accessFlags := 2, nameIndex := 5, descriptorIndex := 6, attributes := #[] }, { accessFlags := 9, nameIndex := 36, descriptorIndex := 37, attributes := #[] }] 49 2 #[] #[])
  fields := #[]
  methods := #[k1m0, k1m1]
  instanceTypes := #[]
  staticTypes := #[]
  resolved := Array.replicate 41 none
  statics := none }

def pool2 : Array CpInfo := pool [(1, .class_ 2), (0, u "java/lang/Math"), (1, .class_ 6), (1, u "java/lang/Object"), (0, u "<init>"), (0, u "()V"), (89, .class_ 100), (1, u "java/lang/Math$RandomNumberGeneratorHolder"), (20, u "(JJ)J"), (50, u "negativeZeroFloatBits"), (0, u "J"), (2, u "negativeZeroDoubleBits"), (21, u "max"), (2, u "min"), (43, u "$assertionsDisabled"), (0, u "Z"), (88, u "(II)I"), (2, u "twoToTheDoubleScaleDown"), (0, u "D"), (4, u "twoToTheDoubleScaleUp"), (9, u "E"), (3, u "PI"), (2, u "TAU"), (2, u "DEGREES_TO_RADIANS"), (0, u "RADIANS_TO_DEGREES")] 94

def k2m0 : Method := { name := "<init>", desc := "()V", sig := { parameters := [], returnType := none }, accessFlags := 2, code := none }
def k2c1 : Code := { maxStack := 2, maxLocals := 2, code := jdk_29_method_65_code, exceptionTable := #[], attributes := #[] }
def k2m1 : Method := { name := "max", desc := "(II)I", sig := { parameters := [.int, .int], returnType := some .int }, accessFlags := 9, code := some k2c1 }
def k2c2 : Code := { maxStack := 2, maxLocals := 2, code := jdk_29_method_69_code, exceptionTable := #[], attributes := #[] }
def k2m2 : Method := { name := "min", desc := "(II)I", sig := { parameters := [.int, .int], returnType := some .int }, accessFlags := 9, code := some k2c2 }
def k2c3 : Code := { maxStack := 4, maxLocals := 4, code := jdk_29_method_70_code, exceptionTable := #[], attributes := #[] }
def k2m3 : Method := { name := "min", desc := "(JJ)J", sig := { parameters := [.long, .long], returnType := some .long }, accessFlags := 9, code := some k2c3 }
/-- java/lang/Math -/
def k2 : Class := { plain "java/lang/Math" (some 0) with
  accessFlags := 49
  interfaces := #[]
  cf := some (fileOf pool2 1 #[.nestMembers #[98]] #[{ accessFlags := 2, nameIndex := 7, descriptorIndex := 8, attributes := #[] }, { accessFlags := 9, nameIndex := 198, descriptorIndex := 335, attributes := #[] }, { accessFlags := 9, nameIndex := 201, descriptorIndex := 335, attributes := #[] }, { accessFlags := 9, nameIndex := 201, descriptorIndex := 121, attributes := #[] }] 49 4 #[] #[{ accessFlags := 25, nameIndex := 354, descriptorIndex := 339, attributes := #[] }, { accessFlags := 25, nameIndex := 358, descriptorIndex := 339, attributes := #[] }, { accessFlags := 25, nameIndex := 361, descriptorIndex := 339, attributes := #[] }, { accessFlags := 26, nameIndex := 364, descriptorIndex := 339, attributes := #[] }, { accessFlags := 26, nameIndex := 365, descriptorIndex := 339, attributes := #[] }, { accessFlags := 26, nameIndex := 172, descriptorIndex := 173, attributes := #[] }, { accessFlags := 26, nameIndex := 176, descriptorIndex := 173, attributes := #[] }, { accessFlags := 8, nameIndex := 344, descriptorIndex := 339, attributes := #[] }, { accessFlags := 8, nameIndex := 338, descriptorIndex := 339, attributes := #[] }, { accessFlags := 4120, nameIndex := 245, descriptorIndex := 246, attributes := #[] }])
  fields := #[{ name := "E", type := .double, accessFlags := 25, slot := 0, constantValue := 0 }, { name := "PI", type := .double, accessFlags := 25, slot := 1, constantValue := 0 }, { name := "TAU", type := .double, accessFlags := 25, slot := 2, constantValue := 0 }, { name := "DEGREES_TO_RADIANS", type := .double, accessFlags := 26, slot := 3, constantValue := 0 }, { name := "RADIANS_TO_DEGREES", type := .double, accessFlags := 26, slot := 4, constantValue := 0 }, { name := "negativeZeroFloatBits", type := .long, accessFlags := 26, slot := 5, constantValue := 0 }, { name := "negativeZeroDoubleBits", type := .long, accessFlags := 26, slot := 6, constantValue := 0 }, { name := "twoToTheDoubleScaleUp", type := .double, accessFlags := 8, slot := 7, constantValue := 0 }, { name := "twoToTheDoubleScaleDown", type := .double, accessFlags := 8, slot := 8, constantValue := 0 }, { name := "$assertionsDisabled", type := .boolean, accessFlags := 4120, slot := 9, constantValue := 0 }]
  methods := #[k2m0, k2m1, k2m2, k2m3]
  instanceTypes := #[]
  staticTypes := #[.double, .double, .double, .double, .double, .long, .long, .double, .double, .boolean]
  resolved := Array.replicate 460 none
  statics := none }

def pool3 : Array CpInfo := pool [(2, .class_ 4), (1, u "java/lang/Object"), (0, u "<init>"), (0, u "()V"), (1, .class_ 10), (1, u "com/example/chainpence/chainpence/chain/HashChain"), (25, u "checkRun"), (0, u "(IIIII)I"), (79, u "VALUE_BYTES"), (0, u "I"), (2, u "MAX_LENGTH"), (0, u "BLOCK")] 37

def k3m0 : Method := { name := "<init>", desc := "()V", sig := { parameters := [], returnType := none }, accessFlags := 2, code := none }
def k3c1 : Code := { maxStack := 7, maxLocals := 7, code := prog_10_method_11_code, exceptionTable := #[], attributes := #[] }
def k3m1 : Method := { name := "checkRun", desc := "(IIIII)I", sig := { parameters := [.int, .int, .int, .int, .int], returnType := some .int }, accessFlags := 8, code := some k3c1 }
/-- com/example/chainpence/chainpence/chain/HashChain -/
def k3 : Class := { plain "com/example/chainpence/chainpence/chain/HashChain" (some 0) with
  accessFlags := 49
  interfaces := #[]
  cf := some (fileOf pool3 8 #[] #[{ accessFlags := 2, nameIndex := 5, descriptorIndex := 6, attributes := #[] }, { accessFlags := 8, nameIndex := 36, descriptorIndex := 37, attributes := #[] }] 49 2 #[] #[{ accessFlags := 25, nameIndex := 117, descriptorIndex := 118, attributes := #[] }, { accessFlags := 25, nameIndex := 121, descriptorIndex := 118, attributes := #[] }, { accessFlags := 26, nameIndex := 122, descriptorIndex := 118, attributes := #[] }])
  fields := #[{ name := "VALUE_BYTES", type := .int, accessFlags := 25, slot := 0, constantValue := 0 }, { name := "MAX_LENGTH", type := .int, accessFlags := 25, slot := 1, constantValue := 0 }, { name := "BLOCK", type := .int, accessFlags := 26, slot := 2, constantValue := 0 }]
  methods := #[k3m0, k3m1]
  instanceTypes := #[]
  staticTypes := #[.int, .int, .int]
  resolved := Array.replicate 160 none
  statics := none }

def pool4 : Array CpInfo := pool [(1, u "java/lang/Cloneable"), (0, .class_ 1), (0, u "java/lang/Object"), (0, .class_ 3)] 3

/-- java/lang/Cloneable -/
def k4 : Class := { plain "java/lang/Cloneable" (some 0) with
  accessFlags := 1537
  interfaces := #[]
  cf := some (fileOf pool4 2 #[] #[] 1537 4 #[] #[])
  fields := #[]
  methods := #[]
  instanceTypes := #[]
  staticTypes := #[]
  resolved := Array.replicate 8 none
  statics := none }

def pool5 : Array CpInfo := pool [(1, u "java/io/Serializable"), (0, .class_ 1), (0, u "java/lang/Object"), (0, .class_ 3)] 3

/-- java/io/Serializable -/
def k5 : Class := { plain "java/io/Serializable" (some 0) with
  accessFlags := 1537
  interfaces := #[]
  cf := some (fileOf pool5 2 #[] #[] 1537 4 #[] #[])
  fields := #[]
  methods := #[]
  instanceTypes := #[]
  staticTypes := #[]
  resolved := Array.replicate 8 none
  statics := none }

/-- the primitive byte -/
def k6 : Class := { plain "byte" none with kind := .primitive 'B', accessFlags := 0x411 }
/-- [B -/
def k7 : Class := { plain "[B" (some 0) with kind := .array 6 .byte, interfaces := #[4, 5], accessFlags := 1041 }

def heap : Heap := #[]
def classes : Array Class := #[k0, k1, k2, k3, k4, k5, k6, k7]
def interned : List (Array UInt16 × Addr) := []
def slotsUsed : Nat := 0
def theMethod : MethodId := ⟨1, 1⟩
def args0 : Array Value := #[.int 5, .int 7, .int 3, .int 2, .int 1]
def aboutOver (below : List Frame) : State where
  vm := { classes := classes, interned := interned.toArray }
  heap := heap
  slotsUsed := slotsUsed
  threads := #[{ frames := .invoking theMethod args0 :: below }]
def below0 : List Frame := [.native { method := ⟨0, 0⟩, args := #[] }]
def about1 : State := aboutOver below0
def p0 : Program := .bare "" "" ""
def e0 : Env := launch0.env 0 0 0
theorem w_frames : about1.frames = Frame.invoking theMethod args0 :: below0 := rfl
set_option maxRecDepth 65536 in
theorem w_args : argsFit about1.vm theMethod args0 = true := by decide +kernel
set_option maxRecDepth 65536 in
theorem w_heap : heapFits about1 = true := by decide +kernel
set_option maxRecDepth 65536 in
theorem w_runnable : about1.curStatus? = some .runnable := by decide +kernel
set_option maxRecDepth 65536 in
theorem w_alone : about1.alone = true := by decide +kernel
set_option maxRecDepth 65536 in
theorem w_named : about1.methodNamed? x = some theMethod := by decide +kernel
set_option maxRecDepth 65536 in
theorem w_hears : about1.hears theMethod below0 = true := by decide +kernel
set_option maxRecDepth 65536 in
theorem w_ripe : about1.ripe theMethod args0 below0 = true := by decide +kernel
theorem w_running : about1.status = .running := rfl
set_option maxRecDepth 65536 in
theorem w_room : about1.hasRoom e0.platform room_1 = true :=
  launch0.hasRoom_least _ room_1 (by decide +kernel) (by decide +kernel) (by decide +kernel) (by decide +kernel) (by decide +kernel) (by decide +kernel)
theorem allAtoms_all (ts : List Jvm.Cond) (a : Array Jvm.Value) (st : Jvm.State) : (allAtoms ts).before a st = ts.all (fun c => c.before a st) := by
  induction ts with
  | nil => rfl
  | cons c t ih =>
    show (Jvm.Cond.and c (allAtoms t)).before a st = _
    rw [Jvm.Cond.before_and, ih, List.all_cons]
def words1 : List Jvm.Cond := Jvm.Cond.code x code maxLocals ret :: tables_1
/-- a 'code' word, met by the world's own term for the bytes: nothing is compared byte by byte -/
theorem code_word {y : MethodName} {bytes : ByteArray} {mx : Nat} {rt : Option FieldType} {a : Array Value} {s : State} {m : MethodId} {meth : Method} {c : Code} (h1 : s.methodNamed? y = some m) (h2 : s.vm.method? m = some meth) (h3 : meth.code = some c) (h4 : c.code = bytes)
    (h5 : (c.maxLocals == mx && c.exceptionTable.isEmpty && decide (c.maxStack ≤ mostOperands) && decide (meth.sig.returnType = rt) && !meth.locks && decide (parseMethodDescriptor y.desc = some meth.sig)) = true) : (Jvm.Cond.code y bytes mx rt).before a s = true := by
  simp only [Bool.and_eq_true, beq_iff_eq, Bool.not_eq_true', decide_eq_true_eq] at h5
  obtain ⟨⟨⟨⟨⟨g1, g2⟩, g3⟩, g4⟩, g5⟩, g6⟩ := h5
  simp [Cond.before, Cond.holds, Cond.value, h1, h2, h3, h4, g1, g2, g3, g4, g5, g6]
def isCode : Jvm.Cond → Bool
  | .code _ _ _ _ => true
  | _ => false
theorem all_split {L : List Jvm.Cond} {P : Jvm.Cond → Bool} (h1 : L.all (fun c => isCode c || P c) = true) (h2 : ∀ c ∈ L.filter isCode, P c = true) : L.all P = true := by
  refine List.all_eq_true.mpr fun c hc => ?_
  have h := List.all_eq_true.mp h1 c hc
  rcases Bool.eq_false_or_eq_true (isCode c) with hi | hi
  · exact h2 c (List.mem_filter.mpr ⟨hc, hi⟩)
  · simpa [hi] using h
set_option maxRecDepth 65536 in
theorem w_c0 : (Jvm.Cond.code x code maxLocals ret).before args0 about1 = true := code_word (m := ⟨1, 1⟩) (meth := k1m1) (c := k1c1) (by decide +kernel) rfl rfl rfl (by decide +kernel)
set_option maxRecDepth 65536 in
theorem w_c1 : (Jvm.Cond.code ({ cls := "java/lang/Math", name := "min", desc := "(JJ)J" } : Jvm.MethodName) jdk_29_method_70_code (4 : Nat) (Option.some Jvm.ClassFile.FieldType.long)).before args0 about1 = true := code_word (m := ⟨2, 3⟩) (meth := k2m3) (c := k2c3) (by decide +kernel) rfl rfl rfl (by decide +kernel)
set_option maxRecDepth 65536 in
theorem w_c2 : (Jvm.Cond.code ({ cls := "java/lang/Math", name := "min", desc := "(II)I" } : Jvm.MethodName) jdk_29_method_69_code (2 : Nat) (Option.some Jvm.ClassFile.FieldType.int)).before args0 about1 = true := code_word (m := ⟨2, 2⟩) (meth := k2m2) (c := k2c2) (by decide +kernel) rfl rfl rfl (by decide +kernel)
set_option maxRecDepth 65536 in
theorem w_c3 : (Jvm.Cond.code ({ cls := "java/lang/Math", name := "max", desc := "(II)I" } : Jvm.MethodName) jdk_29_method_65_code (2 : Nat) (Option.some Jvm.ClassFile.FieldType.int)).before args0 about1 = true := code_word (m := ⟨2, 1⟩) (meth := k2m1) (c := k2c1) (by decide +kernel) rfl rfl rfl (by decide +kernel)
set_option maxRecDepth 65536 in
theorem w_c4 : (Jvm.Cond.code ({ cls := "com/example/chainpence/chainpence/chain/HashChain", name := "checkRun", desc := "(IIIII)I" } : Jvm.MethodName) prog_10_method_11_code (7 : Nat) (Option.some Jvm.ClassFile.FieldType.int)).before args0 about1 = true := code_word (m := ⟨3, 1⟩) (meth := k3m1) (c := k3c1) (by decide +kernel) rfl rfl rfl (by decide +kernel)
def codes1 : List Jvm.Cond := [Jvm.Cond.code x code maxLocals ret, Jvm.Cond.code ({ cls := "java/lang/Math", name := "min", desc := "(JJ)J" } : Jvm.MethodName) jdk_29_method_70_code (4 : Nat) (Option.some Jvm.ClassFile.FieldType.long), Jvm.Cond.code ({ cls := "java/lang/Math", name := "min", desc := "(II)I" } : Jvm.MethodName) jdk_29_method_69_code (2 : Nat) (Option.some Jvm.ClassFile.FieldType.int), Jvm.Cond.code ({ cls := "java/lang/Math", name := "max", desc := "(II)I" } : Jvm.MethodName) jdk_29_method_65_code (2 : Nat) (Option.some Jvm.ClassFile.FieldType.int), Jvm.Cond.code ({ cls := "com/example/chainpence/chainpence/chain/HashChain", name := "checkRun", desc := "(IIIII)I" } : Jvm.MethodName) prog_10_method_11_code (7 : Nat) (Option.some Jvm.ClassFile.FieldType.int)]
set_option maxRecDepth 65536 in
theorem codes_eq : words1.filter isCode = codes1 := rfl
theorem w_codes : ∀ c ∈ words1.filter isCode, c.before args0 about1 = true := by
  rw [codes_eq]
  intro c hc
  simp only [codes1, List.mem_cons, List.not_mem_nil, or_false] at hc
  rcases hc with rfl | rfl | rfl | rfl | rfl
  · exact w_c0
  · exact w_c1
  · exact w_c2
  · exact w_c3
  · exact w_c4
set_option maxRecDepth 65536 in
theorem w_t1 : words1.all (fun c => isCode c || c.before args0 about1) = true := by decide +kernel
theorem w_tables : (allAtoms (Jvm.Cond.code x code maxLocals ret :: tables_1)).before args0 about1 = true := by
  rw [allAtoms_all]
  show words1.all (fun c => c.before args0 about1) = true
  refine all_split ?_ w_codes
  rw [w_t1]
set_option maxRecDepth 65536 in
theorem w_case : (Jvm.Cond.and given_1 narrow_1).before args0 about1 = true := by decide +kernel
theorem w_applies : (headSpec (Jvm.Cond.code x code maxLocals ret :: tables_1) room_1).applies x e0.platform about1 = true :=
  (Spec.applies_iff w_frames).mpr ⟨w_running, w_runnable, w_alone, w_named, w_hears, w_ripe, w_room, w_tables⟩
theorem atStart : AtStart classFile x code maxLocals ret World_1 tables_1 room_1 Calls_1 rest_1 Pre_1 launch0 p0 e0 about1 theMethod args0 below0 :=
  ⟨lists_1, trivial, launch0.admits_env _ _ _, launch0.least_env, fairChoices_fair.cas, fairChoices_fair.clock, w_frames, w_args, w_heap, w_applies, trivial, trivial, w_case⟩
end start1
theorem witness_1 : WitnessClaimed_1 := ⟨start1.p0, start1.e0, start1.about1, start1.theMethod, start1.args0, start1.below0, start1.atStart⟩
end Jvm.Pilot.@@N@@
