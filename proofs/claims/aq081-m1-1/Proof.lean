import JvmDerived
import JvmDerived.Pilot.@@N@@Statement
import JvmDerived.Pilot.@@N@@Code
set_option linter.unusedVariables false
set_option linter.unusedSimpArgs false
namespace Jvm.RoadKit
open Sem ClassFile Op Lib Jvm.Stand Jvm.Free Jvm.LawKit
section New
variable {p : Program} {l : Launch} {e : Env} {R : Room} {s : State} {m : MethodId} {args : Array Value} {below : List Frame} {meth : Method} {c : Code} {T : State} {locs : List Loc} {cells slots : Nat}
theorem retI (X : Stand p l e R s m args below meth c T locs cells slots) (hx : p.tables.exec = Jvm.exec) {pc : Nat} {Ls : Array Slot} {z : Int32} {rest : List Value} (hret : meth.sig.returnType = some .int) (hd : decode c.code pc = .ok (.ireturn, 1)) {fs : List Frame}
    (hl : ∀ (f : JFrame) (acts : List Action), f.method = m → f.locked = none → f.entered = [] → (doReturn e (T.setTop f) acts (some (.int z))).1 = T.setFrames fs) : Steps p.tables e below (T.setTop (mkF m pc Ls (.int z :: rest))) (T.setFrames fs) := by
  have hm' : T.vm.method? m = some meth := X.method'
  have hn : narrow .int (.int z) = .int z := rfl
  show Steps p.tables e below (T.setTop { method := m, pc := pc, locals := Ls, stack := _ :: rest, locked := none }) _
  jvm_step X.here [X.here.top, hx, hd, hm', hret, hn]
  first | (intro acts; rw [hl _ acts rfl rfl rfl]) | rw [hl _ _ rfl rfl rfl]
  exact Steps.refl _
end New
end Jvm.RoadKit
namespace Jvm.Pilot.@@N@@
open Jvm Jvm.ClassFile Sem Op Lib Jvm.Free Jvm.Stand Jvm.LawKit Jvm.RoadKit Bundle Jvm.Pilot.@@N@@.Jvm.D
theorem own_bm64 {n : Int} (h1 : -9223372036854775808 ≤ n) (h2 : n < 9223372036854775808) : n.bmod (2 ^ 64) = n := Int.bmod_eq_of_le (by omega) (by omega)
theorem own_bm32 {n : Int} (h1 : -2147483648 ≤ n) (h2 : n < 2147483648) : n.bmod (2 ^ 32) = n := Int.bmod_eq_of_le (by omega) (by omega)
-- 5
theorem own_mask61 (x : Int64) : 0 ≤ (x &&& 2305843009213693951).toInt ∧ (x &&& 2305843009213693951).toInt < 2305843009213693952 := by
  have h : (x &&& 2305843009213693951).toBitVec.toNat ≤ 2305843009213693951 := by
    rw [Int64.toBitVec_and, BitVec.toNat_and]
    exact Nat.and_le_right
  have e : (x &&& 2305843009213693951).toInt = ((x &&& 2305843009213693951).toBitVec.toNat : Int) := by
    show (x &&& 2305843009213693951).toBitVec.toInt = _
    rw [BitVec.toInt_eq_toNat_of_lt (by omega)]
  omega
def own_pick (sel : Int32) (b : Int32) (x : Int64) : Int64 := if (sel &&& b) = 0 then (x &&& (2305843009213693951 : Int64)) else (0 : Int64)
theorem own_pick_b (sel b : Int32) (x : Int64) : 0 ≤ (own_pick sel b x).toInt ∧ (own_pick sel b x).toInt < 2305843009213693952 := by
  unfold own_pick
  split
  · exact own_mask61 x
  · decide
def own_any (a r c : Int64) : Int32 := if (0 : Int64) < a + r + c then (1 : Int32) else (0 : Int32)
def own_want (a r c : Int64) : Int32 := if a = (0 : Int64) then (if r = (0 : Int64) then (if c = (0 : Int64) then (0 : Int32) else (1 : Int32)) else (1 : Int32)) else (1 : Int32)
theorem own_law5 (a r c : Int64) (ha : 0 ≤ a.toInt ∧ a.toInt < 2305843009213693952) (hr : 0 ≤ r.toInt ∧ r.toInt < 2305843009213693952) (hc : 0 ≤ c.toInt ∧ c.toInt < 2305843009213693952) : own_any a r c = own_want a r c := by
  have e1 : (a + r).toInt = a.toInt + r.toInt := by rw [Int64.toInt_add, own_bm64 (by omega) (by omega)]
  have e2 : (a + r + c).toInt = a.toInt + r.toInt + c.toInt := by rw [Int64.toInt_add, e1, own_bm64 (by omega) (by omega)]
  have z : (0 : Int64).toInt = 0 := rfl
  have g : ((0 : Int64) < a + r + c) ↔ ¬ (a = 0 ∧ r = 0 ∧ c = 0) := by
    rw [Int64.lt_iff_toInt_lt, e2, ← Int64.toInt_inj, ← Int64.toInt_inj, ← Int64.toInt_inj, z]; omega
  unfold own_any own_want
  simp only [g]
  by_cases p1 : a = 0 <;> by_cases p2 : r = 0 <;> by_cases p3 : c = 0 <;> simp [p1, p2, p3]

def own_w (sel : Int32) (u : Int64) : Int64 := if (sel &&& (8 : Int32)) = 0 then u else (0 : Int64)
theorem own_pn0 : plainName "java/lang/Record" = true := by first | (simp [plainName, overriddenIn]; done) | decide +kernel
theorem own_d2_0 : decode jdk_30_method_1_code 0 = .ok (.aload_n 0, 1) := by decide +kernel
theorem own_d2_1 : decode jdk_30_method_1_code 1 = .ok (.invokespecial 1, 3) := by decide +kernel
theorem own_d2_4 : decode jdk_30_method_1_code 4 = .ok (.return_, 1) := by decide +kernel
theorem own_ef2 (m : MethodId) (a1 : Addr) : entryFrame m #[(.ref a1)] 1 = mkF m 0 #[.val (.ref a1)] [] := by first | (simp [entryFrame, mkF, argsToLocals, Value.category]; done) | rfl
def Q2 (Z : State) (a1 : Addr)  (h0 : Heap) (n0 : Nat) (v : Option Value) (h : Heap) (L : List Loc) : Prop := v = none ∧ Fr n0 L ∧ h = h0
set_option maxRecDepth 65536 in
set_option maxHeartbeats 40000000 in
theorem rm2 (l : Launch) (Z : State) (a0 : Array Value) (hw : ∀ d ∈ tables_1, d.before a0 Z = true) (ws : List Jvm.Cond) (a1 : Addr)  (h0 : Heap) (n0 : Nat) (Z0 : n0 ≤ h0.size)  :
    MetFree l (⟨"java/lang/Record", "<init>", "()V"⟩ : MethodName) (head1 (Jvm.Cond.code (⟨"java/lang/Record", "<init>", "()V"⟩ : MethodName) jdk_30_method_1_code 1 none :: ws) ({ frames := 1, cells := 0, slots := 0, locals := 12 } : Room)) (fun a U => a = #[(.ref a1)] ∧ Z.Warmed39 U.vm ∧ U.heap = h0) (fun _ _ _ _ _ => True) (fun _ U o U' => ∃ v L, o = .returned v ∧ Q2 Z a1  h0 n0 v U'.heap L ∧ FrameEnd U o U' L ({ frames := 1, cells := 0, slots := 0, locals := 12 } : Room).cells ({ frames := 1, cells := 0, slots := 0, locals := 12 } : Room).slots) := by
  refine MetFree.of_bodySF (plainFor_of_name own_pn0) hisR ?_
  intro p e s m args below meth c s₁ Bd hml0 hP hK
  obtain ⟨rfl, hZ, hh⟩ := hP
  have hx := Bd.exec
  have hby := Bd.bytes
  have hml : c.maxLocals = 1 := hml0
  have hown : s.vm.findClass "java/lang/Record" = some m.cls := findClass_of_methodNamed Bd.named
  have hnm := (name_of_methodNamed Bd.named Bd.method).1
  have X0 : Stand p l e ({ frames := 1, cells := 0, slots := 0, locals := 12 } : Room) s m #[(.ref a1)] below meth c s₁ [] 0 0 := Stand.of_body Bd
  have e0 : s₁.heap = h0 := by rw [← hh, Bd.state]; rfl
  have N0 := Fr.nil n0
  have pre0 : ∀ t, Steps p.tables e below (s₁.setTop (mkF m 0 #[.val (.ref a1)] [])) t → Steps p.tables e below (s₁.setTop (entryFrame m #[(.ref a1)] 1)) t := fun t k => castTop (own_ef2 m a1) k
  have sg0 : ∀ t, Steps p.tables e below (s₁.setTop (mkF m 1 #[.val (.ref a1)] [(.ref a1)])) t → Steps p.tables e below (s₁.setTop (mkF m 0 #[.val (.ref a1)] [])) t := by
    intro t kk
    show Steps p.tables e below (s₁.setTop (mkF m 0 #[.val (.ref a1)] [])) _
    refine XS.aloadN X0.here hx rfl (hb hby own_d2_0) rfl rfl ?_
    exact kk
  obtain ⟨T1, X1, e1, st1⟩ := initO X0 hx hZ hown (hw _ (List.mem_of_getElem? (i := 12) rfl)) (hw _ (List.mem_of_getElem? (i := 13) rfl)) (hw _ (List.mem_of_getElem? (i := 14) rfl)) e0 (g := (mkF m 1 #[.val (.ref a1)] [(.ref a1)])) rfl (by rw [hml]; rfl) rfl (hb hby own_d2_1) (by decide) (W := 0) (by show 2 * 0 + _ ≤ _; exact Nat.le_of_eq rfl) (by decide)
  obtain ⟨fs, hr, hrun, hended, hW, hsame⟩ := X1.leave (v := none) (fun _ => rfl)
  refine ⟨_, _, pre0 _ ?_, hrun, hended, _, _, rfl, ?_, ⟨_, rfl⟩, hW, hsame.mono (by decide) (by decide)⟩
  · refine sg0 _ ?_
    refine st1 _ ?_
    show Steps p.tables e below (T1.setTop (mkF m 4 #[.val (.ref a1)] [])) _
    exact X1.returnOut hx Bd.returns (hb hby own_d2_4) hr
  · exact ⟨rfl, N0, e1⟩
theorem own_pd0 : parseMethodDescriptor "()V" = some ⟨[], none⟩ := by decide +kernel
theorem own_pn1 : plainName "com/example/wieden/wieden/dataset/Changes" = true := by first | (simp [plainName, overriddenIn]; done) | decide +kernel
theorem own_d1_0 : decode prog_19_method_1_code 0 = .ok (.aload_n 0, 1) := by decide +kernel
theorem own_d1_1 : decode prog_19_method_1_code 1 = .ok (.invokespecial 1, 3) := by decide +kernel
theorem own_d1_4 : decode prog_19_method_1_code 4 = .ok (.aload_n 0, 1) := by decide +kernel
theorem own_d1_5 : decode prog_19_method_1_code 5 = .ok (.lload_n 1, 1) := by decide +kernel
theorem own_d1_6 : decode prog_19_method_1_code 6 = .ok (.putfield 7, 3) := by decide +kernel
theorem own_d1_9 : decode prog_19_method_1_code 9 = .ok (.aload_n 0, 1) := by decide +kernel
theorem own_d1_10 : decode prog_19_method_1_code 10 = .ok (.lload_n 3, 1) := by decide +kernel
theorem own_d1_11 : decode prog_19_method_1_code 11 = .ok (.putfield 13, 3) := by decide +kernel
theorem own_d1_14 : decode prog_19_method_1_code 14 = .ok (.aload_n 0, 1) := by decide +kernel
theorem own_d1_15 : decode prog_19_method_1_code 15 = .ok (.lload 5, 2) := by decide +kernel
theorem own_d1_17 : decode prog_19_method_1_code 17 = .ok (.putfield 16, 3) := by decide +kernel
theorem own_d1_20 : decode prog_19_method_1_code 20 = .ok (.aload_n 0, 1) := by decide +kernel
theorem own_d1_21 : decode prog_19_method_1_code 21 = .ok (.lload 7, 2) := by decide +kernel
theorem own_d1_23 : decode prog_19_method_1_code 23 = .ok (.putfield 19, 3) := by decide +kernel
theorem own_d1_26 : decode prog_19_method_1_code 26 = .ok (.return_, 1) := by decide +kernel
theorem own_ef1 (m : MethodId) (a1 : Addr) (q2 : Int64) (q3 : Int64) (q4 : Int64) (q5 : Int64) : entryFrame m #[(.ref a1), (.long q2), (.long q3), (.long q4), (.long q5)] 9 = mkF m 0 #[.val (.ref a1), .val (.long q2), .second, .val (.long q3), .second, .val (.long q4), .second, .val (.long q5), .second] [] := by first | (simp [entryFrame, mkF, argsToLocals, Value.category]; done) | rfl
def Q1 (Z : State) (a1 : Addr) (q2 : Int64) (q3 : Int64) (q4 : Int64) (q5 : Int64)  (h0 : Heap) (n0 : Nat) (v : Option Value) (h : Heap) (L : List Loc) : Prop := v = none ∧ Fr n0 L ∧ Keep h0 h [a1] ∧ Exa Z h a1 "com/example/wieden/wieden/dataset/Changes" ∧ Fld Z h a1 "com/example/wieden/wieden/dataset/Changes" "added" "J" (.long q2) ∧ Fld Z h a1 "com/example/wieden/wieden/dataset/Changes" "removed" "J" (.long q3) ∧ Fld Z h a1 "com/example/wieden/wieden/dataset/Changes" "changed" "J" (.long q4) ∧ Fld Z h a1 "com/example/wieden/wieden/dataset/Changes" "unchanged" "J" (.long q5)
set_option maxRecDepth 65536 in
set_option maxHeartbeats 40000000 in
theorem rm1 (l : Launch) (Z : State) (a0 : Array Value) (hw : ∀ d ∈ tables_1, d.before a0 Z = true) (ws : List Jvm.Cond) (a1 : Addr) (q2 : Int64) (q3 : Int64) (q4 : Int64) (q5 : Int64)  (h0 : Heap) (n0 : Nat) (Z0 : n0 ≤ h0.size) (E_a1 : Exa Z h0 a1 "com/example/wieden/wieden/dataset/Changes") (F_added : Fld Z h0 a1 "com/example/wieden/wieden/dataset/Changes" "added" "J" (.long (0 : Int64))) (F_removed : Fld Z h0 a1 "com/example/wieden/wieden/dataset/Changes" "removed" "J" (.long (0 : Int64))) (F_changed : Fld Z h0 a1 "com/example/wieden/wieden/dataset/Changes" "changed" "J" (.long (0 : Int64))) (F_unchanged : Fld Z h0 a1 "com/example/wieden/wieden/dataset/Changes" "unchanged" "J" (.long (0 : Int64))) (g_a1 : n0 ≤ a1) :
    MetFree l (⟨"com/example/wieden/wieden/dataset/Changes", "<init>", "(JJJJ)V"⟩ : MethodName) (head1 (Jvm.Cond.code (⟨"com/example/wieden/wieden/dataset/Changes", "<init>", "(JJJJ)V"⟩ : MethodName) prog_19_method_1_code 9 none :: ws) ({ frames := 2, cells := 0, slots := 0, locals := 24 } : Room)) (fun a U => a = #[(.ref a1), (.long q2), (.long q3), (.long q4), (.long q5)] ∧ Z.Warmed39 U.vm ∧ U.heap = h0) (fun _ _ _ _ _ => True) (fun _ U o U' => ∃ v L, o = .returned v ∧ Q1 Z a1 q2 q3 q4 q5  h0 n0 v U'.heap L ∧ FrameEnd U o U' L ({ frames := 2, cells := 0, slots := 0, locals := 24 } : Room).cells ({ frames := 2, cells := 0, slots := 0, locals := 24 } : Room).slots) := by
  refine MetFree.of_bodySF (plainFor_of_name own_pn1) hisR ?_
  intro p e s m args below meth c s₁ Bd hml0 hP hK
  obtain ⟨rfl, hZ, hh⟩ := hP
  have hx := Bd.exec
  have hby := Bd.bytes
  have hml : c.maxLocals = 9 := hml0
  have hown : s.vm.findClass "com/example/wieden/wieden/dataset/Changes" = some m.cls := findClass_of_methodNamed Bd.named
  have hnm := (name_of_methodNamed Bd.named Bd.method).1
  have X0 : Stand p l e ({ frames := 2, cells := 0, slots := 0, locals := 24 } : Room) s m #[(.ref a1), (.long q2), (.long q3), (.long q4), (.long q5)] below meth c s₁ [] 0 0 := Stand.of_body Bd
  have e0 : s₁.heap = h0 := by rw [← hh, Bd.state]; rfl
  have N0 := Fr.nil n0
  have pre0 : ∀ t, Steps p.tables e below (s₁.setTop (mkF m 0 #[.val (.ref a1), .val (.long q2), .second, .val (.long q3), .second, .val (.long q4), .second, .val (.long q5), .second] [])) t → Steps p.tables e below (s₁.setTop (entryFrame m #[(.ref a1), (.long q2), (.long q3), (.long q4), (.long q5)] 9)) t := fun t k => castTop (own_ef1 m a1 q2 q3 q4 q5) k
  have sg0 : ∀ t, Steps p.tables e below (s₁.setTop (mkF m 1 #[.val (.ref a1), .val (.long q2), .second, .val (.long q3), .second, .val (.long q4), .second, .val (.long q5), .second] [(.ref a1)])) t → Steps p.tables e below (s₁.setTop (mkF m 0 #[.val (.ref a1), .val (.long q2), .second, .val (.long q3), .second, .val (.long q4), .second, .val (.long q5), .second] [])) t := by
    intro t kk
    show Steps p.tables e below (s₁.setTop (mkF m 0 #[.val (.ref a1), .val (.long q2), .second, .val (.long q3), .second, .val (.long q4), .second, .val (.long q5), .second] [])) _
    refine XS.aloadN X0.here hx rfl (hb hby own_d1_0) rfl rfl ?_
    exact kk
  obtain ⟨_, _, ⟨T1, L1, k1, n1⟩, -, X1, ⟨Lc1, hQ1, l1, y1, z1⟩, st1⟩ := X0.specialBack hx (y := (⟨"java/lang/Record", "<init>", "()V"⟩ : MethodName)) rfl hown (mvT hZ (hw _ (List.mem_of_getElem? (i := 7) rfl))) (mvT hZ (hw _ (List.mem_of_getElem? (i := 8) rfl))) (mvT hZ (hw _ (List.mem_of_getElem? (i := 11) rfl))) (by decide) (backOf (W := 0) (rm2 l Z a0 hw [] a1  h0 n0 Z0 ) hZ (hw _ (List.mem_of_getElem? (i := 11) rfl)) (hw _ (List.mem_of_getElem? (i := 10) rfl)) (by decide) (by decide)) (g := (mkF m 1 #[.val (.ref a1), .val (.long q2), .second, .val (.long q3), .second, .val (.long q4), .second, .val (.long q5), .second] [(.ref a1)])) rfl (by rw [hml]; rfl) (Steps.refl _) (a := a1) (argsL := []) (rest := []) (lenOf own_pd0 rfl) rfl (by show 2 * 0 + _ ≤ _; exact Nat.le_of_eq rfl) (hb hby own_d1_1) (fun _ _ => ⟨rfl, e0, (by decide : 0 + 0 ≤ _), (by decide : 0 + 0 ≤ _)⟩)
  dsimp only [Pt.U, Pt.locs, Pt.cells, Pt.slots] at X1 l1 y1 z1 st1 hQ1
  subst l1 y1 z1
  obtain ⟨rfl, N1q, e1⟩ := hQ1
  have N1 := Fr.app N0 N1q
  have sg2 : ∀ t, Steps p.tables e below (T1.setTop (mkF m 6 #[.val (.ref a1), .val (.long q2), .second, .val (.long q3), .second, .val (.long q4), .second, .val (.long q5), .second] [(.long q2), (.ref a1)])) t → Steps p.tables e below (T1.setTop (mkF m 4 #[.val (.ref a1), .val (.long q2), .second, .val (.long q3), .second, .val (.long q4), .second, .val (.long q5), .second] [])) t := by
    intro t kk
    show Steps p.tables e below (T1.setTop (mkF m 4 #[.val (.ref a1), .val (.long q2), .second, .val (.long q3), .second, .val (.long q4), .second, .val (.long q5), .second] [])) _
    refine XS.aloadN X1.here hx rfl (hb hby own_d1_4) rfl rfl ?_
    show Steps p.tables e below (T1.setTop (mkF m 5 #[.val (.ref a1), .val (.long q2), .second, .val (.long q3), .second, .val (.long q4), .second, .val (.long q5), .second] [(.ref a1)])) _
    refine XT.lloadN X1.here hx rfl (hb hby own_d1_5) rfl ?_
    exact kk
  obtain ⟨T2, h2, X2, e2, W2, st2⟩ := putF X1 hx hZ hown (host := "") (Or.inl (hw _ (List.mem_of_getElem? (i := 15) rfl))) Via.refl e1 F_added E_a1 (Or.inr ⟨(hw _ (List.mem_of_getElem? (i := 16) rfl)), rfl, hnm⟩) (hw _ (List.mem_of_getElem? (i := 2) rfl)) (ty := .long) (by decide) rfl rfl (g := (mkF m 6 #[.val (.ref a1), .val (.long q2), .second, .val (.long q3), .second, .val (.long q4), .second, .val (.long q5), .second] [(.long q2), (.ref a1)])) rfl rfl (hb hby own_d1_6)
  have N2 := Fr.snoc X2 N1 g_a1
  have K2 : Keep h0 h2 [a1] := (Keep.refl h0 [a1]).wr W2 (Or.inl (List.mem_of_getElem? (i := 0) rfl))
  have Z_1 : n0 ≤ h2.size := Nat.le_trans Z0 (Keep.of_wr W2).1
  have E_2 := Exa.wr W2 E_a1
  have F_3 := Fld.same W2 F_added
  have F_4 := Fld.other W2 F_removed (Or.inr (slot_ne (Or.inr (hw _ (List.mem_of_getElem? (i := 18) rfl))) (Or.inr (hw _ (List.mem_of_getElem? (i := 16) rfl))) (by decide) (t := .long) (t' := .long) (by decide) (by decide)))
  have F_5 := Fld.other W2 F_changed (Or.inr (slot_ne (Or.inr (hw _ (List.mem_of_getElem? (i := 20) rfl))) (Or.inr (hw _ (List.mem_of_getElem? (i := 16) rfl))) (by decide) (t := .long) (t' := .long) (by decide) (by decide)))
  have F_6 := Fld.other W2 F_unchanged (Or.inr (slot_ne (Or.inr (hw _ (List.mem_of_getElem? (i := 22) rfl))) (Or.inr (hw _ (List.mem_of_getElem? (i := 16) rfl))) (by decide) (t := .long) (t' := .long) (by decide) (by decide)))
  have sg4 : ∀ t, Steps p.tables e below (T2.setTop (mkF m 11 #[.val (.ref a1), .val (.long q2), .second, .val (.long q3), .second, .val (.long q4), .second, .val (.long q5), .second] [(.long q3), (.ref a1)])) t → Steps p.tables e below (T2.setTop (mkF m 9 #[.val (.ref a1), .val (.long q2), .second, .val (.long q3), .second, .val (.long q4), .second, .val (.long q5), .second] [])) t := by
    intro t kk
    show Steps p.tables e below (T2.setTop (mkF m 9 #[.val (.ref a1), .val (.long q2), .second, .val (.long q3), .second, .val (.long q4), .second, .val (.long q5), .second] [])) _
    refine XS.aloadN X2.here hx rfl (hb hby own_d1_9) rfl rfl ?_
    show Steps p.tables e below (T2.setTop (mkF m 10 #[.val (.ref a1), .val (.long q2), .second, .val (.long q3), .second, .val (.long q4), .second, .val (.long q5), .second] [(.ref a1)])) _
    refine XT.lloadN X2.here hx rfl (hb hby own_d1_10) rfl ?_
    exact kk
  obtain ⟨T3, h3, X3, e3, W3, st3⟩ := putF X2 hx hZ hown (host := "") (Or.inl (hw _ (List.mem_of_getElem? (i := 17) rfl))) Via.refl e2 F_4 E_2 (Or.inr ⟨(hw _ (List.mem_of_getElem? (i := 18) rfl)), rfl, hnm⟩) (hw _ (List.mem_of_getElem? (i := 2) rfl)) (ty := .long) (by decide) rfl rfl (g := (mkF m 11 #[.val (.ref a1), .val (.long q2), .second, .val (.long q3), .second, .val (.long q4), .second, .val (.long q5), .second] [(.long q3), (.ref a1)])) rfl rfl (hb hby own_d1_11)
  have N3 := Fr.snoc X3 N2 g_a1
  have K3 : Keep h0 h3 [a1] := K2.wr W3 (Or.inl (List.mem_of_getElem? (i := 0) rfl))
  have Z_7 : n0 ≤ h3.size := Nat.le_trans Z_1 (Keep.of_wr W3).1
  have E_8 := Exa.wr W3 E_2
  have F_9 := Fld.other W3 F_3 (Or.inr (slot_ne (Or.inr (hw _ (List.mem_of_getElem? (i := 16) rfl))) (Or.inr (hw _ (List.mem_of_getElem? (i := 18) rfl))) (by decide) (t := .long) (t' := .long) (by decide) (by decide)))
  have F_10 := Fld.same W3 F_4
  have F_11 := Fld.other W3 F_5 (Or.inr (slot_ne (Or.inr (hw _ (List.mem_of_getElem? (i := 20) rfl))) (Or.inr (hw _ (List.mem_of_getElem? (i := 18) rfl))) (by decide) (t := .long) (t' := .long) (by decide) (by decide)))
  have F_12 := Fld.other W3 F_6 (Or.inr (slot_ne (Or.inr (hw _ (List.mem_of_getElem? (i := 22) rfl))) (Or.inr (hw _ (List.mem_of_getElem? (i := 18) rfl))) (by decide) (t := .long) (t' := .long) (by decide) (by decide)))
  have sg6 : ∀ t, Steps p.tables e below (T3.setTop (mkF m 17 #[.val (.ref a1), .val (.long q2), .second, .val (.long q3), .second, .val (.long q4), .second, .val (.long q5), .second] [(.long q4), (.ref a1)])) t → Steps p.tables e below (T3.setTop (mkF m 14 #[.val (.ref a1), .val (.long q2), .second, .val (.long q3), .second, .val (.long q4), .second, .val (.long q5), .second] [])) t := by
    intro t kk
    show Steps p.tables e below (T3.setTop (mkF m 14 #[.val (.ref a1), .val (.long q2), .second, .val (.long q3), .second, .val (.long q4), .second, .val (.long q5), .second] [])) _
    refine XS.aloadN X3.here hx rfl (hb hby own_d1_14) rfl rfl ?_
    show Steps p.tables e below (T3.setTop (mkF m 15 #[.val (.ref a1), .val (.long q2), .second, .val (.long q3), .second, .val (.long q4), .second, .val (.long q5), .second] [(.ref a1)])) _
    refine XT.lload X3.here hx rfl (hb hby own_d1_15) rfl ?_
    exact kk
  obtain ⟨T4, h4, X4, e4, W4, st4⟩ := putF X3 hx hZ hown (host := "") (Or.inl (hw _ (List.mem_of_getElem? (i := 19) rfl))) Via.refl e3 F_11 E_8 (Or.inr ⟨(hw _ (List.mem_of_getElem? (i := 20) rfl)), rfl, hnm⟩) (hw _ (List.mem_of_getElem? (i := 2) rfl)) (ty := .long) (by decide) rfl rfl (g := (mkF m 17 #[.val (.ref a1), .val (.long q2), .second, .val (.long q3), .second, .val (.long q4), .second, .val (.long q5), .second] [(.long q4), (.ref a1)])) rfl rfl (hb hby own_d1_17)
  have N4 := Fr.snoc X4 N3 g_a1
  have K4 : Keep h0 h4 [a1] := K3.wr W4 (Or.inl (List.mem_of_getElem? (i := 0) rfl))
  have Z_13 : n0 ≤ h4.size := Nat.le_trans Z_7 (Keep.of_wr W4).1
  have E_14 := Exa.wr W4 E_8
  have F_15 := Fld.other W4 F_9 (Or.inr (slot_ne (Or.inr (hw _ (List.mem_of_getElem? (i := 16) rfl))) (Or.inr (hw _ (List.mem_of_getElem? (i := 20) rfl))) (by decide) (t := .long) (t' := .long) (by decide) (by decide)))
  have F_16 := Fld.other W4 F_10 (Or.inr (slot_ne (Or.inr (hw _ (List.mem_of_getElem? (i := 18) rfl))) (Or.inr (hw _ (List.mem_of_getElem? (i := 20) rfl))) (by decide) (t := .long) (t' := .long) (by decide) (by decide)))
  have F_17 := Fld.same W4 F_11
  have F_18 := Fld.other W4 F_12 (Or.inr (slot_ne (Or.inr (hw _ (List.mem_of_getElem? (i := 22) rfl))) (Or.inr (hw _ (List.mem_of_getElem? (i := 20) rfl))) (by decide) (t := .long) (t' := .long) (by decide) (by decide)))
  have sg8 : ∀ t, Steps p.tables e below (T4.setTop (mkF m 23 #[.val (.ref a1), .val (.long q2), .second, .val (.long q3), .second, .val (.long q4), .second, .val (.long q5), .second] [(.long q5), (.ref a1)])) t → Steps p.tables e below (T4.setTop (mkF m 20 #[.val (.ref a1), .val (.long q2), .second, .val (.long q3), .second, .val (.long q4), .second, .val (.long q5), .second] [])) t := by
    intro t kk
    show Steps p.tables e below (T4.setTop (mkF m 20 #[.val (.ref a1), .val (.long q2), .second, .val (.long q3), .second, .val (.long q4), .second, .val (.long q5), .second] [])) _
    refine XS.aloadN X4.here hx rfl (hb hby own_d1_20) rfl rfl ?_
    show Steps p.tables e below (T4.setTop (mkF m 21 #[.val (.ref a1), .val (.long q2), .second, .val (.long q3), .second, .val (.long q4), .second, .val (.long q5), .second] [(.ref a1)])) _
    refine XT.lload X4.here hx rfl (hb hby own_d1_21) rfl ?_
    exact kk
  obtain ⟨T5, h5, X5, e5, W5, st5⟩ := putF X4 hx hZ hown (host := "") (Or.inl (hw _ (List.mem_of_getElem? (i := 21) rfl))) Via.refl e4 F_18 E_14 (Or.inr ⟨(hw _ (List.mem_of_getElem? (i := 22) rfl)), rfl, hnm⟩) (hw _ (List.mem_of_getElem? (i := 2) rfl)) (ty := .long) (by decide) rfl rfl (g := (mkF m 23 #[.val (.ref a1), .val (.long q2), .second, .val (.long q3), .second, .val (.long q4), .second, .val (.long q5), .second] [(.long q5), (.ref a1)])) rfl rfl (hb hby own_d1_23)
  have N5 := Fr.snoc X5 N4 g_a1
  have K5 : Keep h0 h5 [a1] := K4.wr W5 (Or.inl (List.mem_of_getElem? (i := 0) rfl))
  have Z_19 : n0 ≤ h5.size := Nat.le_trans Z_13 (Keep.of_wr W5).1
  have E_20 := Exa.wr W5 E_14
  have F_21 := Fld.other W5 F_15 (Or.inr (slot_ne (Or.inr (hw _ (List.mem_of_getElem? (i := 16) rfl))) (Or.inr (hw _ (List.mem_of_getElem? (i := 22) rfl))) (by decide) (t := .long) (t' := .long) (by decide) (by decide)))
  have F_22 := Fld.other W5 F_16 (Or.inr (slot_ne (Or.inr (hw _ (List.mem_of_getElem? (i := 18) rfl))) (Or.inr (hw _ (List.mem_of_getElem? (i := 22) rfl))) (by decide) (t := .long) (t' := .long) (by decide) (by decide)))
  have F_23 := Fld.other W5 F_17 (Or.inr (slot_ne (Or.inr (hw _ (List.mem_of_getElem? (i := 20) rfl))) (Or.inr (hw _ (List.mem_of_getElem? (i := 22) rfl))) (by decide) (t := .long) (t' := .long) (by decide) (by decide)))
  have F_24 := Fld.same W5 F_18
  obtain ⟨fs, hr, hrun, hended, hW, hsame⟩ := X5.leave (v := none) (fun _ => rfl)
  refine ⟨_, _, pre0 _ ?_, hrun, hended, _, _, rfl, ?_, ⟨_, rfl⟩, hW, hsame.mono (by decide) (by decide)⟩
  · refine sg0 _ ?_
    refine st1.trans ?_
    refine sg2 _ ?_
    refine st2 _ ?_
    refine sg4 _ ?_
    refine st3 _ ?_
    refine sg6 _ ?_
    refine st4 _ ?_
    refine sg8 _ ?_
    refine st5 _ ?_
    show Steps p.tables e below (T5.setTop (mkF m 26 #[.val (.ref a1), .val (.long q2), .second, .val (.long q3), .second, .val (.long q4), .second, .val (.long q5), .second] [])) _
    exact X5.returnOut hx Bd.returns (hb hby own_d1_26) hr
  · (show Q1 Z a1 q2 q3 q4 q5 h0 n0 _ T5.heap _; rw [e5]; exact ⟨rfl, N5, K5, E_20, F_21, F_22, F_23, F_24⟩)
theorem own_d4_0 : decode prog_19_method_2_code 0 = .ok (.aload_n 0, 1) := by decide +kernel
theorem own_d4_1 : decode prog_19_method_2_code 1 = .ok (.getfield 7, 3) := by decide +kernel
theorem own_d4_4 : decode prog_19_method_2_code 4 = .ok (.aload_n 0, 1) := by decide +kernel
theorem own_d4_5 : decode prog_19_method_2_code 5 = .ok (.getfield 13, 3) := by decide +kernel
theorem own_d4_8 : decode prog_19_method_2_code 8 = .ok (.ladd, 1) := by decide +kernel
theorem own_d4_9 : decode prog_19_method_2_code 9 = .ok (.aload_n 0, 1) := by decide +kernel
theorem own_d4_10 : decode prog_19_method_2_code 10 = .ok (.getfield 16, 3) := by decide +kernel
theorem own_d4_13 : decode prog_19_method_2_code 13 = .ok (.ladd, 1) := by decide +kernel
theorem own_d4_14 : decode prog_19_method_2_code 14 = .ok (.lconst 0, 1) := by decide +kernel
theorem own_d4_15 : decode prog_19_method_2_code 15 = .ok (.lcmp, 1) := by decide +kernel
theorem own_d4_16 : decode prog_19_method_2_code 16 = .ok (.ifCond .le 7, 3) := by decide +kernel
theorem own_d4_19 : decode prog_19_method_2_code 19 = .ok (.iconst 1, 1) := by decide +kernel
theorem own_d4_20 : decode prog_19_method_2_code 20 = .ok (.goto 4, 3) := by decide +kernel
theorem own_d4_23 : decode prog_19_method_2_code 23 = .ok (.iconst 0, 1) := by decide +kernel
theorem own_d4_24 : decode prog_19_method_2_code 24 = .ok (.ireturn, 1) := by decide +kernel
theorem own_ef4 (m : MethodId) (a1 : Addr) : entryFrame m #[(.ref a1)] 1 = mkF m 0 #[.val (.ref a1)] [] := by first | (simp [entryFrame, mkF, argsToLocals, Value.category]; done) | rfl
def Q4 (Z : State) (a1 : Addr) (w1 : Int64) (w2 : Int64) (w3 : Int64) (h0 : Heap) (n0 : Nat) (v : Option Value) (h : Heap) (L : List Loc) : Prop := v = some (.int (own_any w1 w2 w3)) ∧ Fr n0 L ∧ h = h0
set_option maxRecDepth 65536 in
set_option maxHeartbeats 40000000 in
theorem rm4 (l : Launch) (Z : State) (a0 : Array Value) (hw : ∀ d ∈ tables_1, d.before a0 Z = true) (ws : List Jvm.Cond) (a1 : Addr) (w1 : Int64) (w2 : Int64) (w3 : Int64) (h0 : Heap) (n0 : Nat) (Z0 : n0 ≤ h0.size) (F_added : Fld Z h0 a1 "com/example/wieden/wieden/dataset/Changes" "added" "J" (.long w1)) (F_removed : Fld Z h0 a1 "com/example/wieden/wieden/dataset/Changes" "removed" "J" (.long w2)) (F_changed : Fld Z h0 a1 "com/example/wieden/wieden/dataset/Changes" "changed" "J" (.long w3)) :
    MetFree l (⟨"com/example/wieden/wieden/dataset/Changes", "any", "()Z"⟩ : MethodName) (head1 (Jvm.Cond.code (⟨"com/example/wieden/wieden/dataset/Changes", "any", "()Z"⟩ : MethodName) prog_19_method_2_code 1 (some .boolean) :: ws) ({ frames := 0, cells := 0, slots := 0, locals := 0 } : Room)) (fun a U => a = #[(.ref a1)] ∧ Z.Warmed39 U.vm ∧ U.heap = h0) (fun _ _ _ _ _ => True) (fun _ U o U' => ∃ v L, o = .returned v ∧ Q4 Z a1 w1 w2 w3 h0 n0 v U'.heap L ∧ FrameEnd U o U' L ({ frames := 0, cells := 0, slots := 0, locals := 0 } : Room).cells ({ frames := 0, cells := 0, slots := 0, locals := 0 } : Room).slots) := by
  refine MetFree.of_bodySF (plainFor_of_name own_pn1) hisR ?_
  intro p e s m args below meth c s₁ Bd hml0 hP hK
  obtain ⟨rfl, hZ, hh⟩ := hP
  have hx := Bd.exec
  have hby := Bd.bytes
  have hml : c.maxLocals = 1 := hml0
  have hown : s.vm.findClass "com/example/wieden/wieden/dataset/Changes" = some m.cls := findClass_of_methodNamed Bd.named
  have hnm := (name_of_methodNamed Bd.named Bd.method).1
  have X0 : Stand p l e ({ frames := 0, cells := 0, slots := 0, locals := 0 } : Room) s m #[(.ref a1)] below meth c s₁ [] 0 0 := Stand.of_body Bd
  have e0 : s₁.heap = h0 := by rw [← hh, Bd.state]; rfl
  have N0 := Fr.nil n0
  have pre0 : ∀ t, Steps p.tables e below (s₁.setTop (mkF m 0 #[.val (.ref a1)] [])) t → Steps p.tables e below (s₁.setTop (entryFrame m #[(.ref a1)] 1)) t := fun t k => castTop (own_ef4 m a1) k
  have sg0 : ∀ t, Steps p.tables e below (s₁.setTop (mkF m 1 #[.val (.ref a1)] [(.ref a1)])) t → Steps p.tables e below (s₁.setTop (mkF m 0 #[.val (.ref a1)] [])) t := by
    intro t kk
    show Steps p.tables e below (s₁.setTop (mkF m 0 #[.val (.ref a1)] [])) _
    refine XS.aloadN X0.here hx rfl (hb hby own_d4_0) rfl rfl ?_
    exact kk
  obtain ⟨T1, X1, e1, st1⟩ := getF X0 hx hZ hown (host := "") (Or.inl (hw _ (List.mem_of_getElem? (i := 15) rfl))) Via.refl e0 F_added (g := (mkF m 1 #[.val (.ref a1)] [(.ref a1)])) rfl rfl (hb hby own_d4_1)
  have sg2 : ∀ t, Steps p.tables e below (T1.setTop (mkF m 5 #[.val (.ref a1)] [(.ref a1), (.long w1)])) t → Steps p.tables e below (T1.setTop (mkF m 4 #[.val (.ref a1)] [(.long w1)])) t := by
    intro t kk
    show Steps p.tables e below (T1.setTop (mkF m 4 #[.val (.ref a1)] [(.long w1)])) _
    refine XS.aloadN X1.here hx rfl (hb hby own_d4_4) rfl rfl ?_
    exact kk
  obtain ⟨T2, X2, e2, st2⟩ := getF X1 hx hZ hown (host := "") (Or.inl (hw _ (List.mem_of_getElem? (i := 17) rfl))) Via.refl e1 F_removed (g := (mkF m 5 #[.val (.ref a1)] [(.ref a1), (.long w1)])) rfl rfl (hb hby own_d4_5)
  have sg4 : ∀ t, Steps p.tables e below (T2.setTop (mkF m 10 #[.val (.ref a1)] [(.ref a1), (.long (w1 + w2))])) t → Steps p.tables e below (T2.setTop (mkF m 8 #[.val (.ref a1)] [(.long w2), (.long w1)])) t := by
    intro t kk
    show Steps p.tables e below (T2.setTop (mkF m 8 #[.val (.ref a1)] [(.long w2), (.long w1)])) _
    refine XT.ladd X2.here hx rfl (hb hby own_d4_8) rfl ?_
    show Steps p.tables e below (T2.setTop (mkF m 9 #[.val (.ref a1)] [(.long (w1 + w2))])) _
    refine XS.aloadN X2.here hx rfl (hb hby own_d4_9) rfl rfl ?_
    exact kk
  obtain ⟨T3, X3, e3, st3⟩ := getF X2 hx hZ hown (host := "") (Or.inl (hw _ (List.mem_of_getElem? (i := 19) rfl))) Via.refl e2 F_changed (g := (mkF m 10 #[.val (.ref a1)] [(.ref a1), (.long (w1 + w2))])) rfl rfl (hb hby own_d4_10)
  obtain ⟨fs, hr, hrun, hended, hW, hsame⟩ := X3.leave (v := some (.int (own_any w1 w2 w3))) (fun h => by rw [Bd.returns] at h; cases h)
  refine ⟨_, _, pre0 _ ?_, hrun, hended, _, _, rfl, ?_, ⟨_, rfl⟩, hW, hsame.mono (by decide) (by decide)⟩
  · refine sg0 _ ?_
    refine st1 _ ?_
    refine sg2 _ ?_
    refine st2 _ ?_
    refine sg4 _ ?_
    refine st3 _ ?_
    show Steps p.tables e below (T3.setTop (mkF m 13 #[.val (.ref a1)] [(.long w3), (.long (w1 + w2))])) _
    refine XT.ladd X3.here hx rfl (hb hby own_d4_13) rfl ?_
    show Steps p.tables e below (T3.setTop (mkF m 14 #[.val (.ref a1)] [(.long ((w1 + w2) + w3))])) _
    refine XT.lconstV X3.here hx rfl (0 : Int64) (hb hby own_d4_14) (by decide) ?_
    show Steps p.tables e below (T3.setTop (mkF m 15 #[.val (.ref a1)] [(.long (0 : Int64)), (.long ((w1 + w2) + w3))])) _
    refine XT.lcmp X3.here hx rfl (hb hby own_d4_15) rfl ?_
    show Steps p.tables e below (T3.setTop (mkF m 16 #[.val (.ref a1)] [(.int (XT.cmpL ((w1 + w2) + w3) (0 : Int64)))])) _
    by_cases hc16 : (0 : Int64) < ((w1 + w2) + w3)
    · refine XS.ifNo X3.here hx rfl (hb hby own_d4_16) rfl (XT.ll_le_f hc16) ?_
      show Steps p.tables e below (T3.setTop (mkF m 19 #[.val (.ref a1)] [])) _
      refine XT.iconstV X3.here hx rfl (1 : Int32) (hb hby own_d4_19) (by decide) ?_
      show Steps p.tables e below (T3.setTop (mkF m 20 #[.val (.ref a1)] [(.int (1 : Int32))])) _
      refine XS.goto X3.here hx rfl (pc0 := 20) (pc' := 24) rfl (hb hby own_d4_20) (by decide) (by decide) ?_
      show Steps p.tables e below (T3.setTop (mkF m 24 #[.val (.ref a1)] [(.int (1 : Int32))])) _
      exact retN X3 hx (t := .boolean) Bd.returns (by simp) (hb hby own_d4_24) (by rw [show nar .boolean (1 : Int32) = (own_any w1 w2 w3) from (by simp only [own_any, if_pos hc16]; rfl)]; exact hr)
    · refine XS.ifYes X3.here hx rfl (pc0 := 16) (pc' := 23) rfl (hb hby own_d4_16) rfl (XT.ll_le_t hc16) (by decide) (by decide) ?_
      show Steps p.tables e below (T3.setTop (mkF m 23 #[.val (.ref a1)] [])) _
      refine XT.iconstV X3.here hx rfl (0 : Int32) (hb hby own_d4_23) (by decide) ?_
      show Steps p.tables e below (T3.setTop (mkF m 24 #[.val (.ref a1)] [(.int (0 : Int32))])) _
      exact retN X3 hx (t := .boolean) Bd.returns (by simp) (hb hby own_d4_24) (by rw [show nar .boolean (0 : Int32) = (own_any w1 w2 w3) from (by simp only [own_any, if_neg hc16]; rfl)]; exact hr)
  · exact ⟨rfl, N0, e3⟩
theorem own_pd1 : parseMethodDescriptor "(JJJJ)V" = some ⟨[.long, .long, .long, .long], none⟩ := by decide +kernel
theorem own_pd2 : parseMethodDescriptor "()Z" = some ⟨[], some .boolean⟩ := by decide +kernel
theorem own_pn2 : plainName "com/example/wieden/wieden/dataset/ChangesAnyPinLaw" = true := by first | (simp [plainName, overriddenIn]; done) | decide +kernel
theorem own_ef0 (m : MethodId) (p1 : Int32) (q2 : Int64) (q3 : Int64) (q4 : Int64) (q5 : Int64) : entryFrame m #[(.int p1), (.long q2), (.long q3), (.long q4), (.long q5)] maxLocals = mkF m 0 #[.val (.int p1), .val (.long q2), .second, .val (.long q3), .second, .val (.long q4), .second, .val (.long q5), .second, .unset, .unset, .unset, .unset, .unset, .unset, .unset, .unset, .unset, .unset, .unset, .unset] [] := by first | (simp [entryFrame, mkF, argsToLocals, Value.category, maxLocals]; done) | rfl
def Q0 (Z : State) (p1 : Int32) (q2 : Int64) (q3 : Int64) (q4 : Int64) (q5 : Int64)  (h0 : Heap) (n0 : Nat) (v : Option Value) (h : Heap) (L : List Loc) : Prop := v = some (.int (1 : Int32)) ∧ Fr n0 L
set_option maxRecDepth 65536 in
set_option maxHeartbeats 40000000 in
theorem rm0 (l : Launch) (Z : State) (a0 : Array Value) (hw : ∀ d ∈ tables_1, d.before a0 Z = true) (ws : List Jvm.Cond) (p1 : Int32) (q2 : Int64) (q3 : Int64) (q4 : Int64) (q5 : Int64)  (h0 : Heap) (n0 : Nat) (Z0 : n0 ≤ h0.size)  :
    MetFree l x (head1 (Jvm.Cond.code x code maxLocals ret :: ws) room_1) (fun a U => a = #[(.int p1), (.long q2), (.long q3), (.long q4), (.long q5)] ∧ Z.Warmed39 U.vm ∧ U.heap = h0) (fun _ _ _ _ _ => True) (fun _ U o U' => ∃ v L, o = .returned v ∧ Q0 Z p1 q2 q3 q4 q5  h0 n0 v U'.heap L ∧ FrameEnd U o U' L room_1.cells room_1.slots) := by
  refine MetFree.of_bodySF (plainFor_of_name own_pn2) hisR ?_
  intro p e s m args below meth c s₁ Bd hml0 hP hK
  obtain ⟨rfl, hZ, hh⟩ := hP
  have hx := Bd.exec
  have hby := Bd.bytes
  have hml : c.maxLocals = 21 := hml0
  have hown : s.vm.findClass "com/example/wieden/wieden/dataset/ChangesAnyPinLaw" = some m.cls := findClass_of_methodNamed Bd.named
  have hnm := (name_of_methodNamed Bd.named Bd.method).1
  have X0 : Stand p l e room_1 s m #[(.int p1), (.long q2), (.long q3), (.long q4), (.long q5)] below meth c s₁ [] 0 0 := Stand.of_body Bd
  have e0 : s₁.heap = h0 := by rw [← hh, Bd.state]; rfl
  have N0 := Fr.nil n0
  have pre0 : ∀ t, Steps p.tables e below (s₁.setTop (mkF m 0 #[.val (.int p1), .val (.long q2), .second, .val (.long q3), .second, .val (.long q4), .second, .val (.long q5), .second, .unset, .unset, .unset, .unset, .unset, .unset, .unset, .unset, .unset, .unset, .unset, .unset] [])) t → Steps p.tables e below (s₁.setTop (entryFrame m #[(.int p1), (.long q2), (.long q3), (.long q4), (.long q5)] maxLocals)) t := fun t k => castTop (own_ef0 m p1 q2 q3 q4 q5) k
  have sg0 : ∀ t, Steps p.tables e below (s₁.setTop (mkF m 5 #[.val (.int p1), .val (.long q2), .second, .val (.long q3), .second, .val (.long q4), .second, .val (.long q5), .second, .val (.long (2305843009213693951 : Int64)), .second, .unset, .unset, .unset, .unset, .unset, .unset, .unset, .unset, .unset, .unset] [])) t → Steps p.tables e below (s₁.setTop (mkF m 0 #[.val (.int p1), .val (.long q2), .second, .val (.long q3), .second, .val (.long q4), .second, .val (.long q5), .second, .unset, .unset, .unset, .unset, .unset, .unset, .unset, .unset, .unset, .unset, .unset, .unset] [])) t := by
    intro t kk
    show Steps p.tables e below (s₁.setTop (mkF m 0 #[.val (.int p1), .val (.long q2), .second, .val (.long q3), .second, .val (.long q4), .second, .val (.long q5), .second, .unset, .unset, .unset, .unset, .unset, .unset, .unset, .unset, .unset, .unset, .unset, .unset] [])) _
    refine X0.ldc2J hx hown (mvT hZ (hw _ (List.mem_of_getElem? (i := 0) rfl))) rfl (hb hby at_0) ?_
    show Steps p.tables e below (s₁.setTop (mkF m 3 #[.val (.int p1), .val (.long q2), .second, .val (.long q3), .second, .val (.long q4), .second, .val (.long q5), .second, .unset, .unset, .unset, .unset, .unset, .unset, .unset, .unset, .unset, .unset, .unset, .unset] [(.long (2305843009213693951 : Int64))])) _
    refine XT.lstore X0.here hx rfl (hb hby at_3) rfl (l' := #[.val (.int p1), .val (.long q2), .second, .val (.long q3), .second, .val (.long q4), .second, .val (.long q5), .second, .val (.long (2305843009213693951 : Int64)), .second, .unset, .unset, .unset, .unset, .unset, .unset, .unset, .unset, .unset, .unset]) rfl ?_
    exact kk
  obtain ⟨va, hva⟩ : ∃ z : Int64, z = own_pick p1 (1 : Int32) q2 := ⟨_, rfl⟩
  have sg1 : ∀ t, Steps p.tables e below (s₁.setTop (mkF m 19 #[.val (.int p1), .val (.long q2), .second, .val (.long q3), .second, .val (.long q4), .second, .val (.long q5), .second, .val (.long (2305843009213693951 : Int64)), .second, .unset, .unset, .unset, .unset, .unset, .unset, .unset, .unset, .unset, .unset] [(.long va)])) t → Steps p.tables e below (s₁.setTop (mkF m 5 #[.val (.int p1), .val (.long q2), .second, .val (.long q3), .second, .val (.long q4), .second, .val (.long q5), .second, .val (.long (2305843009213693951 : Int64)), .second, .unset, .unset, .unset, .unset, .unset, .unset, .unset, .unset, .unset, .unset] [])) t := by
    intro t kk
    show Steps p.tables e below (s₁.setTop (mkF m 5 #[.val (.int p1), .val (.long q2), .second, .val (.long q3), .second, .val (.long q4), .second, .val (.long q5), .second, .val (.long (2305843009213693951 : Int64)), .second, .unset, .unset, .unset, .unset, .unset, .unset, .unset, .unset, .unset, .unset] [])) _
    refine XS.iloadN X0.here hx rfl (hb hby at_5) rfl ?_
    show Steps p.tables e below (s₁.setTop (mkF m 6 #[.val (.int p1), .val (.long q2), .second, .val (.long q3), .second, .val (.long q4), .second, .val (.long q5), .second, .val (.long (2305843009213693951 : Int64)), .second, .unset, .unset, .unset, .unset, .unset, .unset, .unset, .unset, .unset, .unset] [(.int p1)])) _
    refine XT.iconstV X0.here hx rfl (1 : Int32) (hb hby at_6) (by decide) ?_
    show Steps p.tables e below (s₁.setTop (mkF m 7 #[.val (.int p1), .val (.long q2), .second, .val (.long q3), .second, .val (.long q4), .second, .val (.long q5), .second, .val (.long (2305843009213693951 : Int64)), .second, .unset, .unset, .unset, .unset, .unset, .unset, .unset, .unset, .unset, .unset] [(.int (1 : Int32)), (.int p1)])) _
    refine XS.iand X0.here hx rfl (hb hby at_7) rfl ?_
    show Steps p.tables e below (s₁.setTop (mkF m 8 #[.val (.int p1), .val (.long q2), .second, .val (.long q3), .second, .val (.long q4), .second, .val (.long q5), .second, .val (.long (2305843009213693951 : Int64)), .second, .unset, .unset, .unset, .unset, .unset, .unset, .unset, .unset, .unset, .unset] [(.int (p1 &&& (1 : Int32)))])) _
    by_cases hc8 : (p1 &&& (1 : Int32)) = 0
    · refine XS.ifYes X0.here hx rfl (pc0 := 8) (pc' := 15) rfl (hb hby at_8) rfl (XT.i0_eq_t hc8) (by decide) (by decide) ?_
      show Steps p.tables e below (s₁.setTop (mkF m 15 #[.val (.int p1), .val (.long q2), .second, .val (.long q3), .second, .val (.long q4), .second, .val (.long q5), .second, .val (.long (2305843009213693951 : Int64)), .second, .unset, .unset, .unset, .unset, .unset, .unset, .unset, .unset, .unset, .unset] [])) _
      refine XT.lloadN X0.here hx rfl (hb hby at_15) rfl ?_
      show Steps p.tables e below (s₁.setTop (mkF m 16 #[.val (.int p1), .val (.long q2), .second, .val (.long q3), .second, .val (.long q4), .second, .val (.long q5), .second, .val (.long (2305843009213693951 : Int64)), .second, .unset, .unset, .unset, .unset, .unset, .unset, .unset, .unset, .unset, .unset] [(.long q2)])) _
      refine XT.lload X0.here hx rfl (hb hby at_16) rfl ?_
      show Steps p.tables e below (s₁.setTop (mkF m 18 #[.val (.int p1), .val (.long q2), .second, .val (.long q3), .second, .val (.long q4), .second, .val (.long q5), .second, .val (.long (2305843009213693951 : Int64)), .second, .unset, .unset, .unset, .unset, .unset, .unset, .unset, .unset, .unset, .unset] [(.long (2305843009213693951 : Int64)), (.long q2)])) _
      refine XT.land X0.here hx rfl (hb hby at_18) rfl ?_
      show Steps p.tables e below (s₁.setTop (mkF m 19 #[.val (.int p1), .val (.long q2), .second, .val (.long q3), .second, .val (.long q4), .second, .val (.long q5), .second, .val (.long (2305843009213693951 : Int64)), .second, .unset, .unset, .unset, .unset, .unset, .unset, .unset, .unset, .unset, .unset] [(.long (q2 &&& (2305843009213693951 : Int64)))])) _
      have hq : va = (q2 &&& (2305843009213693951 : Int64)) := by rw [hva]; simp only [own_pick, if_pos hc8]
      subst hq
      exact kk
    · refine XS.ifNo X0.here hx rfl (hb hby at_8) rfl (XT.i0_eq_f hc8) ?_
      show Steps p.tables e below (s₁.setTop (mkF m 11 #[.val (.int p1), .val (.long q2), .second, .val (.long q3), .second, .val (.long q4), .second, .val (.long q5), .second, .val (.long (2305843009213693951 : Int64)), .second, .unset, .unset, .unset, .unset, .unset, .unset, .unset, .unset, .unset, .unset] [])) _
      refine XT.lconstV X0.here hx rfl (0 : Int64) (hb hby at_11) (by decide) ?_
      show Steps p.tables e below (s₁.setTop (mkF m 12 #[.val (.int p1), .val (.long q2), .second, .val (.long q3), .second, .val (.long q4), .second, .val (.long q5), .second, .val (.long (2305843009213693951 : Int64)), .second, .unset, .unset, .unset, .unset, .unset, .unset, .unset, .unset, .unset, .unset] [(.long (0 : Int64))])) _
      refine XS.goto X0.here hx rfl (pc0 := 12) (pc' := 19) rfl (hb hby at_12) (by decide) (by decide) ?_
      show Steps p.tables e below (s₁.setTop (mkF m 19 #[.val (.int p1), .val (.long q2), .second, .val (.long q3), .second, .val (.long q4), .second, .val (.long q5), .second, .val (.long (2305843009213693951 : Int64)), .second, .unset, .unset, .unset, .unset, .unset, .unset, .unset, .unset, .unset, .unset] [(.long (0 : Int64))])) _
      have hq : va = (0 : Int64) := by rw [hva]; simp only [own_pick, if_neg hc8]
      subst hq
      exact kk
  have sg2 : ∀ t, Steps p.tables e below (s₁.setTop (mkF m 21 #[.val (.int p1), .val (.long q2), .second, .val (.long q3), .second, .val (.long q4), .second, .val (.long q5), .second, .val (.long (2305843009213693951 : Int64)), .second, .val (.long va), .second, .unset, .unset, .unset, .unset, .unset, .unset, .unset, .unset] [])) t → Steps p.tables e below (s₁.setTop (mkF m 19 #[.val (.int p1), .val (.long q2), .second, .val (.long q3), .second, .val (.long q4), .second, .val (.long q5), .second, .val (.long (2305843009213693951 : Int64)), .second, .unset, .unset, .unset, .unset, .unset, .unset, .unset, .unset, .unset, .unset] [(.long va)])) t := by
    intro t kk
    show Steps p.tables e below (s₁.setTop (mkF m 19 #[.val (.int p1), .val (.long q2), .second, .val (.long q3), .second, .val (.long q4), .second, .val (.long q5), .second, .val (.long (2305843009213693951 : Int64)), .second, .unset, .unset, .unset, .unset, .unset, .unset, .unset, .unset, .unset, .unset] [(.long va)])) _
    refine XT.lstore X0.here hx rfl (hb hby at_19) rfl (l' := #[.val (.int p1), .val (.long q2), .second, .val (.long q3), .second, .val (.long q4), .second, .val (.long q5), .second, .val (.long (2305843009213693951 : Int64)), .second, .val (.long va), .second, .unset, .unset, .unset, .unset, .unset, .unset, .unset, .unset]) rfl ?_
    exact kk
  obtain ⟨vr, hvr⟩ : ∃ z : Int64, z = own_pick p1 (2 : Int32) q3 := ⟨_, rfl⟩
  have sg3 : ∀ t, Steps p.tables e below (s₁.setTop (mkF m 35 #[.val (.int p1), .val (.long q2), .second, .val (.long q3), .second, .val (.long q4), .second, .val (.long q5), .second, .val (.long (2305843009213693951 : Int64)), .second, .val (.long va), .second, .unset, .unset, .unset, .unset, .unset, .unset, .unset, .unset] [(.long vr)])) t → Steps p.tables e below (s₁.setTop (mkF m 21 #[.val (.int p1), .val (.long q2), .second, .val (.long q3), .second, .val (.long q4), .second, .val (.long q5), .second, .val (.long (2305843009213693951 : Int64)), .second, .val (.long va), .second, .unset, .unset, .unset, .unset, .unset, .unset, .unset, .unset] [])) t := by
    intro t kk
    show Steps p.tables e below (s₁.setTop (mkF m 21 #[.val (.int p1), .val (.long q2), .second, .val (.long q3), .second, .val (.long q4), .second, .val (.long q5), .second, .val (.long (2305843009213693951 : Int64)), .second, .val (.long va), .second, .unset, .unset, .unset, .unset, .unset, .unset, .unset, .unset] [])) _
    refine XS.iloadN X0.here hx rfl (hb hby at_21) rfl ?_
    show Steps p.tables e below (s₁.setTop (mkF m 22 #[.val (.int p1), .val (.long q2), .second, .val (.long q3), .second, .val (.long q4), .second, .val (.long q5), .second, .val (.long (2305843009213693951 : Int64)), .second, .val (.long va), .second, .unset, .unset, .unset, .unset, .unset, .unset, .unset, .unset] [(.int p1)])) _
    refine XT.iconstV X0.here hx rfl (2 : Int32) (hb hby at_22) (by decide) ?_
    show Steps p.tables e below (s₁.setTop (mkF m 23 #[.val (.int p1), .val (.long q2), .second, .val (.long q3), .second, .val (.long q4), .second, .val (.long q5), .second, .val (.long (2305843009213693951 : Int64)), .second, .val (.long va), .second, .unset, .unset, .unset, .unset, .unset, .unset, .unset, .unset] [(.int (2 : Int32)), (.int p1)])) _
    refine XS.iand X0.here hx rfl (hb hby at_23) rfl ?_
    show Steps p.tables e below (s₁.setTop (mkF m 24 #[.val (.int p1), .val (.long q2), .second, .val (.long q3), .second, .val (.long q4), .second, .val (.long q5), .second, .val (.long (2305843009213693951 : Int64)), .second, .val (.long va), .second, .unset, .unset, .unset, .unset, .unset, .unset, .unset, .unset] [(.int (p1 &&& (2 : Int32)))])) _
    by_cases hc24 : (p1 &&& (2 : Int32)) = 0
    · refine XS.ifYes X0.here hx rfl (pc0 := 24) (pc' := 31) rfl (hb hby at_24) rfl (XT.i0_eq_t hc24) (by decide) (by decide) ?_
      show Steps p.tables e below (s₁.setTop (mkF m 31 #[.val (.int p1), .val (.long q2), .second, .val (.long q3), .second, .val (.long q4), .second, .val (.long q5), .second, .val (.long (2305843009213693951 : Int64)), .second, .val (.long va), .second, .unset, .unset, .unset, .unset, .unset, .unset, .unset, .unset] [])) _
      refine XT.lloadN X0.here hx rfl (hb hby at_31) rfl ?_
      show Steps p.tables e below (s₁.setTop (mkF m 32 #[.val (.int p1), .val (.long q2), .second, .val (.long q3), .second, .val (.long q4), .second, .val (.long q5), .second, .val (.long (2305843009213693951 : Int64)), .second, .val (.long va), .second, .unset, .unset, .unset, .unset, .unset, .unset, .unset, .unset] [(.long q3)])) _
      refine XT.lload X0.here hx rfl (hb hby at_32) rfl ?_
      show Steps p.tables e below (s₁.setTop (mkF m 34 #[.val (.int p1), .val (.long q2), .second, .val (.long q3), .second, .val (.long q4), .second, .val (.long q5), .second, .val (.long (2305843009213693951 : Int64)), .second, .val (.long va), .second, .unset, .unset, .unset, .unset, .unset, .unset, .unset, .unset] [(.long (2305843009213693951 : Int64)), (.long q3)])) _
      refine XT.land X0.here hx rfl (hb hby at_34) rfl ?_
      show Steps p.tables e below (s₁.setTop (mkF m 35 #[.val (.int p1), .val (.long q2), .second, .val (.long q3), .second, .val (.long q4), .second, .val (.long q5), .second, .val (.long (2305843009213693951 : Int64)), .second, .val (.long va), .second, .unset, .unset, .unset, .unset, .unset, .unset, .unset, .unset] [(.long (q3 &&& (2305843009213693951 : Int64)))])) _
      have hq : vr = (q3 &&& (2305843009213693951 : Int64)) := by rw [hvr]; simp only [own_pick, if_pos hc24]
      subst hq
      exact kk
    · refine XS.ifNo X0.here hx rfl (hb hby at_24) rfl (XT.i0_eq_f hc24) ?_
      show Steps p.tables e below (s₁.setTop (mkF m 27 #[.val (.int p1), .val (.long q2), .second, .val (.long q3), .second, .val (.long q4), .second, .val (.long q5), .second, .val (.long (2305843009213693951 : Int64)), .second, .val (.long va), .second, .unset, .unset, .unset, .unset, .unset, .unset, .unset, .unset] [])) _
      refine XT.lconstV X0.here hx rfl (0 : Int64) (hb hby at_27) (by decide) ?_
      show Steps p.tables e below (s₁.setTop (mkF m 28 #[.val (.int p1), .val (.long q2), .second, .val (.long q3), .second, .val (.long q4), .second, .val (.long q5), .second, .val (.long (2305843009213693951 : Int64)), .second, .val (.long va), .second, .unset, .unset, .unset, .unset, .unset, .unset, .unset, .unset] [(.long (0 : Int64))])) _
      refine XS.goto X0.here hx rfl (pc0 := 28) (pc' := 35) rfl (hb hby at_28) (by decide) (by decide) ?_
      show Steps p.tables e below (s₁.setTop (mkF m 35 #[.val (.int p1), .val (.long q2), .second, .val (.long q3), .second, .val (.long q4), .second, .val (.long q5), .second, .val (.long (2305843009213693951 : Int64)), .second, .val (.long va), .second, .unset, .unset, .unset, .unset, .unset, .unset, .unset, .unset] [(.long (0 : Int64))])) _
      have hq : vr = (0 : Int64) := by rw [hvr]; simp only [own_pick, if_neg hc24]
      subst hq
      exact kk
  have sg4 : ∀ t, Steps p.tables e below (s₁.setTop (mkF m 37 #[.val (.int p1), .val (.long q2), .second, .val (.long q3), .second, .val (.long q4), .second, .val (.long q5), .second, .val (.long (2305843009213693951 : Int64)), .second, .val (.long va), .second, .val (.long vr), .second, .unset, .unset, .unset, .unset, .unset, .unset] [])) t → Steps p.tables e below (s₁.setTop (mkF m 35 #[.val (.int p1), .val (.long q2), .second, .val (.long q3), .second, .val (.long q4), .second, .val (.long q5), .second, .val (.long (2305843009213693951 : Int64)), .second, .val (.long va), .second, .unset, .unset, .unset, .unset, .unset, .unset, .unset, .unset] [(.long vr)])) t := by
    intro t kk
    show Steps p.tables e below (s₁.setTop (mkF m 35 #[.val (.int p1), .val (.long q2), .second, .val (.long q3), .second, .val (.long q4), .second, .val (.long q5), .second, .val (.long (2305843009213693951 : Int64)), .second, .val (.long va), .second, .unset, .unset, .unset, .unset, .unset, .unset, .unset, .unset] [(.long vr)])) _
    refine XT.lstore X0.here hx rfl (hb hby at_35) rfl (l' := #[.val (.int p1), .val (.long q2), .second, .val (.long q3), .second, .val (.long q4), .second, .val (.long q5), .second, .val (.long (2305843009213693951 : Int64)), .second, .val (.long va), .second, .val (.long vr), .second, .unset, .unset, .unset, .unset, .unset, .unset]) rfl ?_
    exact kk
  obtain ⟨vc, hvc⟩ : ∃ z : Int64, z = own_pick p1 (4 : Int32) q4 := ⟨_, rfl⟩
  have sg5 : ∀ t, Steps p.tables e below (s₁.setTop (mkF m 52 #[.val (.int p1), .val (.long q2), .second, .val (.long q3), .second, .val (.long q4), .second, .val (.long q5), .second, .val (.long (2305843009213693951 : Int64)), .second, .val (.long va), .second, .val (.long vr), .second, .unset, .unset, .unset, .unset, .unset, .unset] [(.long vc)])) t → Steps p.tables e below (s₁.setTop (mkF m 37 #[.val (.int p1), .val (.long q2), .second, .val (.long q3), .second, .val (.long q4), .second, .val (.long q5), .second, .val (.long (2305843009213693951 : Int64)), .second, .val (.long va), .second, .val (.long vr), .second, .unset, .unset, .unset, .unset, .unset, .unset] [])) t := by
    intro t kk
    show Steps p.tables e below (s₁.setTop (mkF m 37 #[.val (.int p1), .val (.long q2), .second, .val (.long q3), .second, .val (.long q4), .second, .val (.long q5), .second, .val (.long (2305843009213693951 : Int64)), .second, .val (.long va), .second, .val (.long vr), .second, .unset, .unset, .unset, .unset, .unset, .unset] [])) _
    refine XS.iloadN X0.here hx rfl (hb hby at_37) rfl ?_
    show Steps p.tables e below (s₁.setTop (mkF m 38 #[.val (.int p1), .val (.long q2), .second, .val (.long q3), .second, .val (.long q4), .second, .val (.long q5), .second, .val (.long (2305843009213693951 : Int64)), .second, .val (.long va), .second, .val (.long vr), .second, .unset, .unset, .unset, .unset, .unset, .unset] [(.int p1)])) _
    refine XT.iconstV X0.here hx rfl (4 : Int32) (hb hby at_38) (by decide) ?_
    show Steps p.tables e below (s₁.setTop (mkF m 39 #[.val (.int p1), .val (.long q2), .second, .val (.long q3), .second, .val (.long q4), .second, .val (.long q5), .second, .val (.long (2305843009213693951 : Int64)), .second, .val (.long va), .second, .val (.long vr), .second, .unset, .unset, .unset, .unset, .unset, .unset] [(.int (4 : Int32)), (.int p1)])) _
    refine XS.iand X0.here hx rfl (hb hby at_39) rfl ?_
    show Steps p.tables e below (s₁.setTop (mkF m 40 #[.val (.int p1), .val (.long q2), .second, .val (.long q3), .second, .val (.long q4), .second, .val (.long q5), .second, .val (.long (2305843009213693951 : Int64)), .second, .val (.long va), .second, .val (.long vr), .second, .unset, .unset, .unset, .unset, .unset, .unset] [(.int (p1 &&& (4 : Int32)))])) _
    by_cases hc40 : (p1 &&& (4 : Int32)) = 0
    · refine XS.ifYes X0.here hx rfl (pc0 := 40) (pc' := 47) rfl (hb hby at_40) rfl (XT.i0_eq_t hc40) (by decide) (by decide) ?_
      show Steps p.tables e below (s₁.setTop (mkF m 47 #[.val (.int p1), .val (.long q2), .second, .val (.long q3), .second, .val (.long q4), .second, .val (.long q5), .second, .val (.long (2305843009213693951 : Int64)), .second, .val (.long va), .second, .val (.long vr), .second, .unset, .unset, .unset, .unset, .unset, .unset] [])) _
      refine XT.lload X0.here hx rfl (hb hby at_47) rfl ?_
      show Steps p.tables e below (s₁.setTop (mkF m 49 #[.val (.int p1), .val (.long q2), .second, .val (.long q3), .second, .val (.long q4), .second, .val (.long q5), .second, .val (.long (2305843009213693951 : Int64)), .second, .val (.long va), .second, .val (.long vr), .second, .unset, .unset, .unset, .unset, .unset, .unset] [(.long q4)])) _
      refine XT.lload X0.here hx rfl (hb hby at_49) rfl ?_
      show Steps p.tables e below (s₁.setTop (mkF m 51 #[.val (.int p1), .val (.long q2), .second, .val (.long q3), .second, .val (.long q4), .second, .val (.long q5), .second, .val (.long (2305843009213693951 : Int64)), .second, .val (.long va), .second, .val (.long vr), .second, .unset, .unset, .unset, .unset, .unset, .unset] [(.long (2305843009213693951 : Int64)), (.long q4)])) _
      refine XT.land X0.here hx rfl (hb hby at_51) rfl ?_
      show Steps p.tables e below (s₁.setTop (mkF m 52 #[.val (.int p1), .val (.long q2), .second, .val (.long q3), .second, .val (.long q4), .second, .val (.long q5), .second, .val (.long (2305843009213693951 : Int64)), .second, .val (.long va), .second, .val (.long vr), .second, .unset, .unset, .unset, .unset, .unset, .unset] [(.long (q4 &&& (2305843009213693951 : Int64)))])) _
      have hq : vc = (q4 &&& (2305843009213693951 : Int64)) := by rw [hvc]; simp only [own_pick, if_pos hc40]
      subst hq
      exact kk
    · refine XS.ifNo X0.here hx rfl (hb hby at_40) rfl (XT.i0_eq_f hc40) ?_
      show Steps p.tables e below (s₁.setTop (mkF m 43 #[.val (.int p1), .val (.long q2), .second, .val (.long q3), .second, .val (.long q4), .second, .val (.long q5), .second, .val (.long (2305843009213693951 : Int64)), .second, .val (.long va), .second, .val (.long vr), .second, .unset, .unset, .unset, .unset, .unset, .unset] [])) _
      refine XT.lconstV X0.here hx rfl (0 : Int64) (hb hby at_43) (by decide) ?_
      show Steps p.tables e below (s₁.setTop (mkF m 44 #[.val (.int p1), .val (.long q2), .second, .val (.long q3), .second, .val (.long q4), .second, .val (.long q5), .second, .val (.long (2305843009213693951 : Int64)), .second, .val (.long va), .second, .val (.long vr), .second, .unset, .unset, .unset, .unset, .unset, .unset] [(.long (0 : Int64))])) _
      refine XS.goto X0.here hx rfl (pc0 := 44) (pc' := 52) rfl (hb hby at_44) (by decide) (by decide) ?_
      show Steps p.tables e below (s₁.setTop (mkF m 52 #[.val (.int p1), .val (.long q2), .second, .val (.long q3), .second, .val (.long q4), .second, .val (.long q5), .second, .val (.long (2305843009213693951 : Int64)), .second, .val (.long va), .second, .val (.long vr), .second, .unset, .unset, .unset, .unset, .unset, .unset] [(.long (0 : Int64))])) _
      have hq : vc = (0 : Int64) := by rw [hvc]; simp only [own_pick, if_neg hc40]
      subst hq
      exact kk
  have sg6 : ∀ t, Steps p.tables e below (s₁.setTop (mkF m 54 #[.val (.int p1), .val (.long q2), .second, .val (.long q3), .second, .val (.long q4), .second, .val (.long q5), .second, .val (.long (2305843009213693951 : Int64)), .second, .val (.long va), .second, .val (.long vr), .second, .val (.long vc), .second, .unset, .unset, .unset, .unset] [])) t → Steps p.tables e below (s₁.setTop (mkF m 52 #[.val (.int p1), .val (.long q2), .second, .val (.long q3), .second, .val (.long q4), .second, .val (.long q5), .second, .val (.long (2305843009213693951 : Int64)), .second, .val (.long va), .second, .val (.long vr), .second, .unset, .unset, .unset, .unset, .unset, .unset] [(.long vc)])) t := by
    intro t kk
    show Steps p.tables e below (s₁.setTop (mkF m 52 #[.val (.int p1), .val (.long q2), .second, .val (.long q3), .second, .val (.long q4), .second, .val (.long q5), .second, .val (.long (2305843009213693951 : Int64)), .second, .val (.long va), .second, .val (.long vr), .second, .unset, .unset, .unset, .unset, .unset, .unset] [(.long vc)])) _
    refine XT.lstore X0.here hx rfl (hb hby at_52) rfl (l' := #[.val (.int p1), .val (.long q2), .second, .val (.long q3), .second, .val (.long q4), .second, .val (.long q5), .second, .val (.long (2305843009213693951 : Int64)), .second, .val (.long va), .second, .val (.long vr), .second, .val (.long vc), .second, .unset, .unset, .unset, .unset]) rfl ?_
    exact kk
  obtain ⟨vw, hvw⟩ : ∃ z : Int64, z = own_w p1 q5 := ⟨_, rfl⟩
  have sg7 : ∀ t, Steps p.tables e below (s₁.setTop (mkF m 67 #[.val (.int p1), .val (.long q2), .second, .val (.long q3), .second, .val (.long q4), .second, .val (.long q5), .second, .val (.long (2305843009213693951 : Int64)), .second, .val (.long va), .second, .val (.long vr), .second, .val (.long vc), .second, .unset, .unset, .unset, .unset] [(.long vw)])) t → Steps p.tables e below (s₁.setTop (mkF m 54 #[.val (.int p1), .val (.long q2), .second, .val (.long q3), .second, .val (.long q4), .second, .val (.long q5), .second, .val (.long (2305843009213693951 : Int64)), .second, .val (.long va), .second, .val (.long vr), .second, .val (.long vc), .second, .unset, .unset, .unset, .unset] [])) t := by
    intro t kk
    show Steps p.tables e below (s₁.setTop (mkF m 54 #[.val (.int p1), .val (.long q2), .second, .val (.long q3), .second, .val (.long q4), .second, .val (.long q5), .second, .val (.long (2305843009213693951 : Int64)), .second, .val (.long va), .second, .val (.long vr), .second, .val (.long vc), .second, .unset, .unset, .unset, .unset] [])) _
    refine XS.iloadN X0.here hx rfl (hb hby at_54) rfl ?_
    show Steps p.tables e below (s₁.setTop (mkF m 55 #[.val (.int p1), .val (.long q2), .second, .val (.long q3), .second, .val (.long q4), .second, .val (.long q5), .second, .val (.long (2305843009213693951 : Int64)), .second, .val (.long va), .second, .val (.long vr), .second, .val (.long vc), .second, .unset, .unset, .unset, .unset] [(.int p1)])) _
    refine XT.bipushV X0.here hx rfl (8 : Int32) (hb hby at_55) (by decide) ?_
    show Steps p.tables e below (s₁.setTop (mkF m 57 #[.val (.int p1), .val (.long q2), .second, .val (.long q3), .second, .val (.long q4), .second, .val (.long q5), .second, .val (.long (2305843009213693951 : Int64)), .second, .val (.long va), .second, .val (.long vr), .second, .val (.long vc), .second, .unset, .unset, .unset, .unset] [(.int (8 : Int32)), (.int p1)])) _
    refine XS.iand X0.here hx rfl (hb hby at_57) rfl ?_
    show Steps p.tables e below (s₁.setTop (mkF m 58 #[.val (.int p1), .val (.long q2), .second, .val (.long q3), .second, .val (.long q4), .second, .val (.long q5), .second, .val (.long (2305843009213693951 : Int64)), .second, .val (.long va), .second, .val (.long vr), .second, .val (.long vc), .second, .unset, .unset, .unset, .unset] [(.int (p1 &&& (8 : Int32)))])) _
    by_cases hc58 : (p1 &&& (8 : Int32)) = 0
    · refine XS.ifYes X0.here hx rfl (pc0 := 58) (pc' := 65) rfl (hb hby at_58) rfl (XT.i0_eq_t hc58) (by decide) (by decide) ?_
      show Steps p.tables e below (s₁.setTop (mkF m 65 #[.val (.int p1), .val (.long q2), .second, .val (.long q3), .second, .val (.long q4), .second, .val (.long q5), .second, .val (.long (2305843009213693951 : Int64)), .second, .val (.long va), .second, .val (.long vr), .second, .val (.long vc), .second, .unset, .unset, .unset, .unset] [])) _
      refine XT.lload X0.here hx rfl (hb hby at_65) rfl ?_
      show Steps p.tables e below (s₁.setTop (mkF m 67 #[.val (.int p1), .val (.long q2), .second, .val (.long q3), .second, .val (.long q4), .second, .val (.long q5), .second, .val (.long (2305843009213693951 : Int64)), .second, .val (.long va), .second, .val (.long vr), .second, .val (.long vc), .second, .unset, .unset, .unset, .unset] [(.long q5)])) _
      have hq : vw = q5 := by rw [hvw]; simp only [own_w, if_pos hc58]
      subst hq
      exact kk
    · refine XS.ifNo X0.here hx rfl (hb hby at_58) rfl (XT.i0_eq_f hc58) ?_
      show Steps p.tables e below (s₁.setTop (mkF m 61 #[.val (.int p1), .val (.long q2), .second, .val (.long q3), .second, .val (.long q4), .second, .val (.long q5), .second, .val (.long (2305843009213693951 : Int64)), .second, .val (.long va), .second, .val (.long vr), .second, .val (.long vc), .second, .unset, .unset, .unset, .unset] [])) _
      refine XT.lconstV X0.here hx rfl (0 : Int64) (hb hby at_61) (by decide) ?_
      show Steps p.tables e below (s₁.setTop (mkF m 62 #[.val (.int p1), .val (.long q2), .second, .val (.long q3), .second, .val (.long q4), .second, .val (.long q5), .second, .val (.long (2305843009213693951 : Int64)), .second, .val (.long va), .second, .val (.long vr), .second, .val (.long vc), .second, .unset, .unset, .unset, .unset] [(.long (0 : Int64))])) _
      refine XS.goto X0.here hx rfl (pc0 := 62) (pc' := 67) rfl (hb hby at_62) (by decide) (by decide) ?_
      show Steps p.tables e below (s₁.setTop (mkF m 67 #[.val (.int p1), .val (.long q2), .second, .val (.long q3), .second, .val (.long q4), .second, .val (.long q5), .second, .val (.long (2305843009213693951 : Int64)), .second, .val (.long va), .second, .val (.long vr), .second, .val (.long vc), .second, .unset, .unset, .unset, .unset] [(.long (0 : Int64))])) _
      have hq : vw = (0 : Int64) := by rw [hvw]; simp only [own_w, if_neg hc58]
      subst hq
      exact kk
  have sg8 : ∀ t, Steps p.tables e below (s₁.setTop (mkF m 69 #[.val (.int p1), .val (.long q2), .second, .val (.long q3), .second, .val (.long q4), .second, .val (.long q5), .second, .val (.long (2305843009213693951 : Int64)), .second, .val (.long va), .second, .val (.long vr), .second, .val (.long vc), .second, .val (.long vw), .second, .unset, .unset] [])) t → Steps p.tables e below (s₁.setTop (mkF m 67 #[.val (.int p1), .val (.long q2), .second, .val (.long q3), .second, .val (.long q4), .second, .val (.long q5), .second, .val (.long (2305843009213693951 : Int64)), .second, .val (.long va), .second, .val (.long vr), .second, .val (.long vc), .second, .unset, .unset, .unset, .unset] [(.long vw)])) t := by
    intro t kk
    show Steps p.tables e below (s₁.setTop (mkF m 67 #[.val (.int p1), .val (.long q2), .second, .val (.long q3), .second, .val (.long q4), .second, .val (.long q5), .second, .val (.long (2305843009213693951 : Int64)), .second, .val (.long va), .second, .val (.long vr), .second, .val (.long vc), .second, .unset, .unset, .unset, .unset] [(.long vw)])) _
    refine XT.lstore X0.here hx rfl (hb hby at_67) rfl (l' := #[.val (.int p1), .val (.long q2), .second, .val (.long q3), .second, .val (.long q4), .second, .val (.long q5), .second, .val (.long (2305843009213693951 : Int64)), .second, .val (.long va), .second, .val (.long vr), .second, .val (.long vc), .second, .val (.long vw), .second, .unset, .unset]) rfl ?_
    exact kk
  obtain ⟨T1, h1, X1, e1, E1, A1, D1, -, st1⟩ := newO X0 hx hZ hown (hw _ (List.mem_of_getElem? (i := 1) rfl)) (hw _ (List.mem_of_getElem? (i := 2) rfl)) (hw _ (List.mem_of_getElem? (i := 3) rfl)) e0 (g := (mkF m 69 #[.val (.int p1), .val (.long q2), .second, .val (.long q3), .second, .val (.long q4), .second, .val (.long q5), .second, .val (.long (2305843009213693951 : Int64)), .second, .val (.long va), .second, .val (.long vr), .second, .val (.long vc), .second, .val (.long vw), .second, .unset, .unset] [])) rfl (hb hby at_69) (by decide) (by decide)
  obtain ⟨b1, g1⟩ : ∃ z, z = h0.size := ⟨_, rfl⟩
  rw [← g1] at A1 D1 st1
  have g_b1 : n0 ≤ b1 := Nat.le_trans Z0 (Nat.le_of_eq g1.symm)
  have Z_1 : n0 ≤ h1.size := Nat.le_trans Z0 E1.1
  have F_2 : Fld Z h1 b1 "com/example/wieden/wieden/dataset/Changes" "added" "J" (.long (0 : Int64)) := D1 (Or.inr (hw _ (List.mem_of_getElem? (i := 16) rfl))) (ty := .long) (by decide)
  have F_3 : Fld Z h1 b1 "com/example/wieden/wieden/dataset/Changes" "removed" "J" (.long (0 : Int64)) := D1 (Or.inr (hw _ (List.mem_of_getElem? (i := 18) rfl))) (ty := .long) (by decide)
  have F_4 : Fld Z h1 b1 "com/example/wieden/wieden/dataset/Changes" "changed" "J" (.long (0 : Int64)) := D1 (Or.inr (hw _ (List.mem_of_getElem? (i := 20) rfl))) (ty := .long) (by decide)
  have F_5 : Fld Z h1 b1 "com/example/wieden/wieden/dataset/Changes" "unchanged" "J" (.long (0 : Int64)) := D1 (Or.inr (hw _ (List.mem_of_getElem? (i := 22) rfl))) (ty := .long) (by decide)
  have sg10 : ∀ t, Steps p.tables e below (T1.setTop (mkF m 81 #[.val (.int p1), .val (.long q2), .second, .val (.long q3), .second, .val (.long q4), .second, .val (.long q5), .second, .val (.long (2305843009213693951 : Int64)), .second, .val (.long va), .second, .val (.long vr), .second, .val (.long vc), .second, .val (.long vw), .second, .unset, .unset] [(.long vw), (.long vc), (.long vr), (.long va), (.ref b1), (.ref b1)])) t → Steps p.tables e below (T1.setTop (mkF m 72 #[.val (.int p1), .val (.long q2), .second, .val (.long q3), .second, .val (.long q4), .second, .val (.long q5), .second, .val (.long (2305843009213693951 : Int64)), .second, .val (.long va), .second, .val (.long vr), .second, .val (.long vc), .second, .val (.long vw), .second, .unset, .unset] [(.ref b1)])) t := by
    intro t kk
    show Steps p.tables e below (T1.setTop (mkF m 72 #[.val (.int p1), .val (.long q2), .second, .val (.long q3), .second, .val (.long q4), .second, .val (.long q5), .second, .val (.long (2305843009213693951 : Int64)), .second, .val (.long va), .second, .val (.long vr), .second, .val (.long vc), .second, .val (.long vw), .second, .unset, .unset] [(.ref b1)])) _
    refine XS.dup X1.here hx rfl (hb hby at_72) rfl rfl ?_
    show Steps p.tables e below (T1.setTop (mkF m 73 #[.val (.int p1), .val (.long q2), .second, .val (.long q3), .second, .val (.long q4), .second, .val (.long q5), .second, .val (.long (2305843009213693951 : Int64)), .second, .val (.long va), .second, .val (.long vr), .second, .val (.long vc), .second, .val (.long vw), .second, .unset, .unset] [(.ref b1), (.ref b1)])) _
    refine XT.lload X1.here hx rfl (hb hby at_73) rfl ?_
    show Steps p.tables e below (T1.setTop (mkF m 75 #[.val (.int p1), .val (.long q2), .second, .val (.long q3), .second, .val (.long q4), .second, .val (.long q5), .second, .val (.long (2305843009213693951 : Int64)), .second, .val (.long va), .second, .val (.long vr), .second, .val (.long vc), .second, .val (.long vw), .second, .unset, .unset] [(.long va), (.ref b1), (.ref b1)])) _
    refine XT.lload X1.here hx rfl (hb hby at_75) rfl ?_
    show Steps p.tables e below (T1.setTop (mkF m 77 #[.val (.int p1), .val (.long q2), .second, .val (.long q3), .second, .val (.long q4), .second, .val (.long q5), .second, .val (.long (2305843009213693951 : Int64)), .second, .val (.long va), .second, .val (.long vr), .second, .val (.long vc), .second, .val (.long vw), .second, .unset, .unset] [(.long vr), (.long va), (.ref b1), (.ref b1)])) _
    refine XT.lload X1.here hx rfl (hb hby at_77) rfl ?_
    show Steps p.tables e below (T1.setTop (mkF m 79 #[.val (.int p1), .val (.long q2), .second, .val (.long q3), .second, .val (.long q4), .second, .val (.long q5), .second, .val (.long (2305843009213693951 : Int64)), .second, .val (.long va), .second, .val (.long vr), .second, .val (.long vc), .second, .val (.long vw), .second, .unset, .unset] [(.long vc), (.long vr), (.long va), (.ref b1), (.ref b1)])) _
    refine XT.lload X1.here hx rfl (hb hby at_79) rfl ?_
    exact kk
  obtain ⟨_, _, ⟨T2, L2, k2, n2⟩, -, X2, ⟨Lc2, hQ2, l2, y2, z2⟩, st2⟩ := X1.specialBack hx (y := (⟨"com/example/wieden/wieden/dataset/Changes", "<init>", "(JJJJ)V"⟩ : MethodName)) rfl hown (mvT hZ (hw _ (List.mem_of_getElem? (i := 4) rfl))) (mvT hZ (hw _ (List.mem_of_getElem? (i := 5) rfl))) (mvT hZ (hw _ (List.mem_of_getElem? (i := 6) rfl))) (by decide) (backOf (W := 1) (rm1 l Z a0 hw [] b1 va vr vc vw  h1 n0 Z_1 A1 F_2 F_3 F_4 F_5 g_b1) hZ (hw _ (List.mem_of_getElem? (i := 6) rfl)) (hw _ (List.mem_of_getElem? (i := 3) rfl)) (by decide) (by decide)) (g := (mkF m 81 #[.val (.int p1), .val (.long q2), .second, .val (.long q3), .second, .val (.long q4), .second, .val (.long q5), .second, .val (.long (2305843009213693951 : Int64)), .second, .val (.long va), .second, .val (.long vr), .second, .val (.long vc), .second, .val (.long vw), .second, .unset, .unset] [(.long vw), (.long vc), (.long vr), (.long va), (.ref b1), (.ref b1)])) rfl (by rw [hml]; rfl) (Steps.refl _) (a := b1) (argsL := [(.long va), (.long vr), (.long vc), (.long vw)]) (rest := [(.ref b1)]) (lenOf own_pd1 rfl) rfl (by show 2 * 0 + _ ≤ _; exact Nat.le_of_eq rfl) (hb hby at_81) (fun _ _ => ⟨rfl, e1, (by decide : 1 + 0 ≤ _), (by decide : 4 + 0 ≤ _)⟩)
  dsimp only [Pt.U, Pt.locs, Pt.cells, Pt.slots] at X2 l2 y2 z2 st2 hQ2
  subst l2 y2 z2
  obtain ⟨rfl, N2q, KK, EE, FA, FR, FC, FU⟩ := hQ2
  have Z_6 : n0 ≤ T2.heap.size := Nat.le_trans Z_1 KK.1
  have E_7 := Exa.keep A1 KK
  have N2 := Fr.app N0 N2q
  have sg12 : ∀ t, Steps p.tables e below (T2.setTop (mkF m 86 #[.val (.int p1), .val (.long q2), .second, .val (.long q3), .second, .val (.long q4), .second, .val (.long q5), .second, .val (.long (2305843009213693951 : Int64)), .second, .val (.long va), .second, .val (.long vr), .second, .val (.long vc), .second, .val (.long vw), .second, .val (.ref b1), .unset] [])) t → Steps p.tables e below (T2.setTop (mkF m 84 #[.val (.int p1), .val (.long q2), .second, .val (.long q3), .second, .val (.long q4), .second, .val (.long q5), .second, .val (.long (2305843009213693951 : Int64)), .second, .val (.long va), .second, .val (.long vr), .second, .val (.long vc), .second, .val (.long vw), .second, .unset, .unset] [(.ref b1)])) t := by
    intro t kk
    show Steps p.tables e below (T2.setTop (mkF m 84 #[.val (.int p1), .val (.long q2), .second, .val (.long q3), .second, .val (.long q4), .second, .val (.long q5), .second, .val (.long (2305843009213693951 : Int64)), .second, .val (.long va), .second, .val (.long vr), .second, .val (.long vc), .second, .val (.long vw), .second, .unset, .unset] [(.ref b1)])) _
    refine XS.astore X2.here hx rfl (hb hby at_84) rfl rfl (l' := #[.val (.int p1), .val (.long q2), .second, .val (.long q3), .second, .val (.long q4), .second, .val (.long q5), .second, .val (.long (2305843009213693951 : Int64)), .second, .val (.long va), .second, .val (.long vr), .second, .val (.long vc), .second, .val (.long vw), .second, .val (.ref b1), .unset]) rfl ?_
    exact kk
  obtain ⟨ve, hve⟩ : ∃ z : Int32, z = own_want va vr vc := ⟨_, rfl⟩
  have sg13 : ∀ t, Steps p.tables e below (T2.setTop (mkF m 112 #[.val (.int p1), .val (.long q2), .second, .val (.long q3), .second, .val (.long q4), .second, .val (.long q5), .second, .val (.long (2305843009213693951 : Int64)), .second, .val (.long va), .second, .val (.long vr), .second, .val (.long vc), .second, .val (.long vw), .second, .val (.ref b1), .unset] [(.int ve)])) t → Steps p.tables e below (T2.setTop (mkF m 86 #[.val (.int p1), .val (.long q2), .second, .val (.long q3), .second, .val (.long q4), .second, .val (.long q5), .second, .val (.long (2305843009213693951 : Int64)), .second, .val (.long va), .second, .val (.long vr), .second, .val (.long vc), .second, .val (.long vw), .second, .val (.ref b1), .unset] [])) t := by
    intro t kk
    show Steps p.tables e below (T2.setTop (mkF m 86 #[.val (.int p1), .val (.long q2), .second, .val (.long q3), .second, .val (.long q4), .second, .val (.long q5), .second, .val (.long (2305843009213693951 : Int64)), .second, .val (.long va), .second, .val (.long vr), .second, .val (.long vc), .second, .val (.long vw), .second, .val (.ref b1), .unset] [])) _
    refine XT.lload X2.here hx rfl (hb hby at_86) rfl ?_
    show Steps p.tables e below (T2.setTop (mkF m 88 #[.val (.int p1), .val (.long q2), .second, .val (.long q3), .second, .val (.long q4), .second, .val (.long q5), .second, .val (.long (2305843009213693951 : Int64)), .second, .val (.long va), .second, .val (.long vr), .second, .val (.long vc), .second, .val (.long vw), .second, .val (.ref b1), .unset] [(.long va)])) _
    refine XT.lconstV X2.here hx rfl (0 : Int64) (hb hby at_88) (by decide) ?_
    show Steps p.tables e below (T2.setTop (mkF m 89 #[.val (.int p1), .val (.long q2), .second, .val (.long q3), .second, .val (.long q4), .second, .val (.long q5), .second, .val (.long (2305843009213693951 : Int64)), .second, .val (.long va), .second, .val (.long vr), .second, .val (.long vc), .second, .val (.long vw), .second, .val (.ref b1), .unset] [(.long (0 : Int64)), (.long va)])) _
    refine XT.lcmp X2.here hx rfl (hb hby at_89) rfl ?_
    show Steps p.tables e below (T2.setTop (mkF m 90 #[.val (.int p1), .val (.long q2), .second, .val (.long q3), .second, .val (.long q4), .second, .val (.long q5), .second, .val (.long (2305843009213693951 : Int64)), .second, .val (.long va), .second, .val (.long vr), .second, .val (.long vc), .second, .val (.long vw), .second, .val (.ref b1), .unset] [(.int (XT.cmpL va (0 : Int64)))])) _
    by_cases hc90 : va = (0 : Int64)
    · refine XS.ifNo X2.here hx rfl (hb hby at_90) rfl (XT.ll_ne_f hc90) ?_
      show Steps p.tables e below (T2.setTop (mkF m 93 #[.val (.int p1), .val (.long q2), .second, .val (.long q3), .second, .val (.long q4), .second, .val (.long q5), .second, .val (.long (2305843009213693951 : Int64)), .second, .val (.long va), .second, .val (.long vr), .second, .val (.long vc), .second, .val (.long vw), .second, .val (.ref b1), .unset] [])) _
      refine XT.lload X2.here hx rfl (hb hby at_93) rfl ?_
      show Steps p.tables e below (T2.setTop (mkF m 95 #[.val (.int p1), .val (.long q2), .second, .val (.long q3), .second, .val (.long q4), .second, .val (.long q5), .second, .val (.long (2305843009213693951 : Int64)), .second, .val (.long va), .second, .val (.long vr), .second, .val (.long vc), .second, .val (.long vw), .second, .val (.ref b1), .unset] [(.long vr)])) _
      refine XT.lconstV X2.here hx rfl (0 : Int64) (hb hby at_95) (by decide) ?_
      show Steps p.tables e below (T2.setTop (mkF m 96 #[.val (.int p1), .val (.long q2), .second, .val (.long q3), .second, .val (.long q4), .second, .val (.long q5), .second, .val (.long (2305843009213693951 : Int64)), .second, .val (.long va), .second, .val (.long vr), .second, .val (.long vc), .second, .val (.long vw), .second, .val (.ref b1), .unset] [(.long (0 : Int64)), (.long vr)])) _
      refine XT.lcmp X2.here hx rfl (hb hby at_96) rfl ?_
      show Steps p.tables e below (T2.setTop (mkF m 97 #[.val (.int p1), .val (.long q2), .second, .val (.long q3), .second, .val (.long q4), .second, .val (.long q5), .second, .val (.long (2305843009213693951 : Int64)), .second, .val (.long va), .second, .val (.long vr), .second, .val (.long vc), .second, .val (.long vw), .second, .val (.ref b1), .unset] [(.int (XT.cmpL vr (0 : Int64)))])) _
      by_cases hc97 : vr = (0 : Int64)
      · refine XS.ifNo X2.here hx rfl (hb hby at_97) rfl (XT.ll_ne_f hc97) ?_
        show Steps p.tables e below (T2.setTop (mkF m 100 #[.val (.int p1), .val (.long q2), .second, .val (.long q3), .second, .val (.long q4), .second, .val (.long q5), .second, .val (.long (2305843009213693951 : Int64)), .second, .val (.long va), .second, .val (.long vr), .second, .val (.long vc), .second, .val (.long vw), .second, .val (.ref b1), .unset] [])) _
        refine XT.lload X2.here hx rfl (hb hby at_100) rfl ?_
        show Steps p.tables e below (T2.setTop (mkF m 102 #[.val (.int p1), .val (.long q2), .second, .val (.long q3), .second, .val (.long q4), .second, .val (.long q5), .second, .val (.long (2305843009213693951 : Int64)), .second, .val (.long va), .second, .val (.long vr), .second, .val (.long vc), .second, .val (.long vw), .second, .val (.ref b1), .unset] [(.long vc)])) _
        refine XT.lconstV X2.here hx rfl (0 : Int64) (hb hby at_102) (by decide) ?_
        show Steps p.tables e below (T2.setTop (mkF m 103 #[.val (.int p1), .val (.long q2), .second, .val (.long q3), .second, .val (.long q4), .second, .val (.long q5), .second, .val (.long (2305843009213693951 : Int64)), .second, .val (.long va), .second, .val (.long vr), .second, .val (.long vc), .second, .val (.long vw), .second, .val (.ref b1), .unset] [(.long (0 : Int64)), (.long vc)])) _
        refine XT.lcmp X2.here hx rfl (hb hby at_103) rfl ?_
        show Steps p.tables e below (T2.setTop (mkF m 104 #[.val (.int p1), .val (.long q2), .second, .val (.long q3), .second, .val (.long q4), .second, .val (.long q5), .second, .val (.long (2305843009213693951 : Int64)), .second, .val (.long va), .second, .val (.long vr), .second, .val (.long vc), .second, .val (.long vw), .second, .val (.ref b1), .unset] [(.int (XT.cmpL vc (0 : Int64)))])) _
        by_cases hc104 : vc = (0 : Int64)
        · refine XS.ifYes X2.here hx rfl (pc0 := 104) (pc' := 111) rfl (hb hby at_104) rfl (XT.ll_eq_t hc104) (by decide) (by decide) ?_
          show Steps p.tables e below (T2.setTop (mkF m 111 #[.val (.int p1), .val (.long q2), .second, .val (.long q3), .second, .val (.long q4), .second, .val (.long q5), .second, .val (.long (2305843009213693951 : Int64)), .second, .val (.long va), .second, .val (.long vr), .second, .val (.long vc), .second, .val (.long vw), .second, .val (.ref b1), .unset] [])) _
          refine XT.iconstV X2.here hx rfl (0 : Int32) (hb hby at_111) (by decide) ?_
          show Steps p.tables e below (T2.setTop (mkF m 112 #[.val (.int p1), .val (.long q2), .second, .val (.long q3), .second, .val (.long q4), .second, .val (.long q5), .second, .val (.long (2305843009213693951 : Int64)), .second, .val (.long va), .second, .val (.long vr), .second, .val (.long vc), .second, .val (.long vw), .second, .val (.ref b1), .unset] [(.int (0 : Int32))])) _
          have hq : ve = (0 : Int32) := by rw [hve]; simp only [own_want, if_pos hc90, if_pos hc97, if_pos hc104]
          subst hq
          exact kk
        · refine XS.ifNo X2.here hx rfl (hb hby at_104) rfl (XT.ll_eq_f hc104) ?_
          show Steps p.tables e below (T2.setTop (mkF m 107 #[.val (.int p1), .val (.long q2), .second, .val (.long q3), .second, .val (.long q4), .second, .val (.long q5), .second, .val (.long (2305843009213693951 : Int64)), .second, .val (.long va), .second, .val (.long vr), .second, .val (.long vc), .second, .val (.long vw), .second, .val (.ref b1), .unset] [])) _
          refine XT.iconstV X2.here hx rfl (1 : Int32) (hb hby at_107) (by decide) ?_
          show Steps p.tables e below (T2.setTop (mkF m 108 #[.val (.int p1), .val (.long q2), .second, .val (.long q3), .second, .val (.long q4), .second, .val (.long q5), .second, .val (.long (2305843009213693951 : Int64)), .second, .val (.long va), .second, .val (.long vr), .second, .val (.long vc), .second, .val (.long vw), .second, .val (.ref b1), .unset] [(.int (1 : Int32))])) _
          refine XS.goto X2.here hx rfl (pc0 := 108) (pc' := 112) rfl (hb hby at_108) (by decide) (by decide) ?_
          show Steps p.tables e below (T2.setTop (mkF m 112 #[.val (.int p1), .val (.long q2), .second, .val (.long q3), .second, .val (.long q4), .second, .val (.long q5), .second, .val (.long (2305843009213693951 : Int64)), .second, .val (.long va), .second, .val (.long vr), .second, .val (.long vc), .second, .val (.long vw), .second, .val (.ref b1), .unset] [(.int (1 : Int32))])) _
          have hq : ve = (1 : Int32) := by rw [hve]; simp only [own_want, if_pos hc90, if_pos hc97, if_neg hc104]
          subst hq
          exact kk
      · refine XS.ifYes X2.here hx rfl (pc0 := 97) (pc' := 107) rfl (hb hby at_97) rfl (XT.ll_ne_t hc97) (by decide) (by decide) ?_
        show Steps p.tables e below (T2.setTop (mkF m 107 #[.val (.int p1), .val (.long q2), .second, .val (.long q3), .second, .val (.long q4), .second, .val (.long q5), .second, .val (.long (2305843009213693951 : Int64)), .second, .val (.long va), .second, .val (.long vr), .second, .val (.long vc), .second, .val (.long vw), .second, .val (.ref b1), .unset] [])) _
        refine XT.iconstV X2.here hx rfl (1 : Int32) (hb hby at_107) (by decide) ?_
        show Steps p.tables e below (T2.setTop (mkF m 108 #[.val (.int p1), .val (.long q2), .second, .val (.long q3), .second, .val (.long q4), .second, .val (.long q5), .second, .val (.long (2305843009213693951 : Int64)), .second, .val (.long va), .second, .val (.long vr), .second, .val (.long vc), .second, .val (.long vw), .second, .val (.ref b1), .unset] [(.int (1 : Int32))])) _
        refine XS.goto X2.here hx rfl (pc0 := 108) (pc' := 112) rfl (hb hby at_108) (by decide) (by decide) ?_
        show Steps p.tables e below (T2.setTop (mkF m 112 #[.val (.int p1), .val (.long q2), .second, .val (.long q3), .second, .val (.long q4), .second, .val (.long q5), .second, .val (.long (2305843009213693951 : Int64)), .second, .val (.long va), .second, .val (.long vr), .second, .val (.long vc), .second, .val (.long vw), .second, .val (.ref b1), .unset] [(.int (1 : Int32))])) _
        have hq : ve = (1 : Int32) := by rw [hve]; simp only [own_want, if_pos hc90, if_neg hc97]
        subst hq
        exact kk
    · refine XS.ifYes X2.here hx rfl (pc0 := 90) (pc' := 107) rfl (hb hby at_90) rfl (XT.ll_ne_t hc90) (by decide) (by decide) ?_
      show Steps p.tables e below (T2.setTop (mkF m 107 #[.val (.int p1), .val (.long q2), .second, .val (.long q3), .second, .val (.long q4), .second, .val (.long q5), .second, .val (.long (2305843009213693951 : Int64)), .second, .val (.long va), .second, .val (.long vr), .second, .val (.long vc), .second, .val (.long vw), .second, .val (.ref b1), .unset] [])) _
      refine XT.iconstV X2.here hx rfl (1 : Int32) (hb hby at_107) (by decide) ?_
      show Steps p.tables e below (T2.setTop (mkF m 108 #[.val (.int p1), .val (.long q2), .second, .val (.long q3), .second, .val (.long q4), .second, .val (.long q5), .second, .val (.long (2305843009213693951 : Int64)), .second, .val (.long va), .second, .val (.long vr), .second, .val (.long vc), .second, .val (.long vw), .second, .val (.ref b1), .unset] [(.int (1 : Int32))])) _
      refine XS.goto X2.here hx rfl (pc0 := 108) (pc' := 112) rfl (hb hby at_108) (by decide) (by decide) ?_
      show Steps p.tables e below (T2.setTop (mkF m 112 #[.val (.int p1), .val (.long q2), .second, .val (.long q3), .second, .val (.long q4), .second, .val (.long q5), .second, .val (.long (2305843009213693951 : Int64)), .second, .val (.long va), .second, .val (.long vr), .second, .val (.long vc), .second, .val (.long vw), .second, .val (.ref b1), .unset] [(.int (1 : Int32))])) _
      have hq : ve = (1 : Int32) := by rw [hve]; simp only [own_want, if_neg hc90]
      subst hq
      exact kk
  have sg14 : ∀ t, Steps p.tables e below (T2.setTop (mkF m 116 #[.val (.int p1), .val (.long q2), .second, .val (.long q3), .second, .val (.long q4), .second, .val (.long q5), .second, .val (.long (2305843009213693951 : Int64)), .second, .val (.long va), .second, .val (.long vr), .second, .val (.long vc), .second, .val (.long vw), .second, .val (.ref b1), .val (.int ve)] [(.ref b1)])) t → Steps p.tables e below (T2.setTop (mkF m 112 #[.val (.int p1), .val (.long q2), .second, .val (.long q3), .second, .val (.long q4), .second, .val (.long q5), .second, .val (.long (2305843009213693951 : Int64)), .second, .val (.long va), .second, .val (.long vr), .second, .val (.long vc), .second, .val (.long vw), .second, .val (.ref b1), .unset] [(.int ve)])) t := by
    intro t kk
    show Steps p.tables e below (T2.setTop (mkF m 112 #[.val (.int p1), .val (.long q2), .second, .val (.long q3), .second, .val (.long q4), .second, .val (.long q5), .second, .val (.long (2305843009213693951 : Int64)), .second, .val (.long va), .second, .val (.long vr), .second, .val (.long vc), .second, .val (.long vw), .second, .val (.ref b1), .unset] [(.int ve)])) _
    refine XS.istore X2.here hx rfl (hb hby at_112) rfl (l' := #[.val (.int p1), .val (.long q2), .second, .val (.long q3), .second, .val (.long q4), .second, .val (.long q5), .second, .val (.long (2305843009213693951 : Int64)), .second, .val (.long va), .second, .val (.long vr), .second, .val (.long vc), .second, .val (.long vw), .second, .val (.ref b1), .val (.int ve)]) rfl ?_
    show Steps p.tables e below (T2.setTop (mkF m 114 #[.val (.int p1), .val (.long q2), .second, .val (.long q3), .second, .val (.long q4), .second, .val (.long q5), .second, .val (.long (2305843009213693951 : Int64)), .second, .val (.long va), .second, .val (.long vr), .second, .val (.long vc), .second, .val (.long vw), .second, .val (.ref b1), .val (.int ve)] [])) _
    refine XS.aload X2.here hx rfl (hb hby at_114) rfl rfl ?_
    exact kk
  obtain ⟨cq3, kq3, qa3, qb3, qc3⟩ := isOf hZ rfl E_7
  obtain ⟨_, _, ⟨T3, L3, k3, n3⟩, -, X3, ⟨Lc3, hQ3, l3, y3, z3⟩, st3⟩ := X2.virtualBack hx (y := (⟨"com/example/wieden/wieden/dataset/Changes", "any", "()Z"⟩ : MethodName)) (z := (⟨"com/example/wieden/wieden/dataset/Changes", "any", "()Z"⟩ : MethodName)) hown (mvT hZ (hw _ (List.mem_of_getElem? (i := 23) rfl))) (mvT hZ (hw _ (List.mem_of_getElem? (i := 24) rfl))) (notFace_of_selects (args := #[]) (mvT hZ (hw _ (List.mem_of_getElem? (i := 26) rfl)))) (mvT hZ (hw _ (List.mem_of_getElem? (i := 26) rfl))) (mvT hZ (hw _ (List.mem_of_getElem? (i := 25) rfl))) (by decide) (backOf (W := 0) (rm4 l Z a0 hw [] b1 va vr vc T2.heap n0 Z_6 FA FR FC) hZ (hw _ (List.mem_of_getElem? (i := 27) rfl)) (hw _ (List.mem_of_getElem? (i := 3) rfl)) (by decide) (by decide)) qa3 qc3 (g := (mkF m 116 #[.val (.int p1), .val (.long q2), .second, .val (.long q3), .second, .val (.long q4), .second, .val (.long q5), .second, .val (.long (2305843009213693951 : Int64)), .second, .val (.long va), .second, .val (.long vr), .second, .val (.long vc), .second, .val (.long vw), .second, .val (.ref b1), .val (.int ve)] [(.ref b1)])) rfl (by rw [hml]; rfl) (Steps.refl _) (argsL := []) (rest := []) (lenOf own_pd2 rfl) rfl (by show 2 * 0 + _ ≤ _; exact Nat.le_of_eq rfl) (hb hby at_116) (fun _ _ => ⟨rfl, rfl, (by decide : 1 + 0 ≤ _), (by decide : 4 + 0 ≤ _)⟩)
  dsimp only [Pt.U, Pt.locs, Pt.cells, Pt.slots] at X3 l3 y3 z3 st3 hQ3
  subst l3 y3 z3
  obtain ⟨rfl, N3q, e3⟩ := hQ3
  have N3 := Fr.app N2 N3q
  have hlaw : own_any va vr vc = ve := by rw [hve, hva, hvr, hvc]; exact own_law5 _ _ _ (own_pick_b _ _ _) (own_pick_b _ _ _) (own_pick_b _ _ _)
  obtain ⟨fs, hr, hrun, hended, hW, hsame⟩ := X3.leave (v := some (.int (1 : Int32))) (fun h => by rw [Bd.returns] at h; cases h)
  refine ⟨_, _, pre0 _ ?_, hrun, hended, _, _, rfl, ?_, ⟨_, rfl⟩, hW, hsame.mono (by decide) (by decide)⟩
  · refine sg0 _ ?_
    refine sg1 _ ?_
    refine sg2 _ ?_
    refine sg3 _ ?_
    refine sg4 _ ?_
    refine sg5 _ ?_
    refine sg6 _ ?_
    refine sg7 _ ?_
    refine sg8 _ ?_
    refine st1 _ ?_
    refine sg10 _ ?_
    refine st2.trans ?_
    refine sg12 _ ?_
    refine sg13 _ ?_
    refine sg14 _ ?_
    refine st3.trans ?_
    show Steps p.tables e below (T3.setTop (mkF m 119 #[.val (.int p1), .val (.long q2), .second, .val (.long q3), .second, .val (.long q4), .second, .val (.long q5), .second, .val (.long (2305843009213693951 : Int64)), .second, .val (.long va), .second, .val (.long vr), .second, .val (.long vc), .second, .val (.long vw), .second, .val (.ref b1), .val (.int ve)] [(.int (own_any va vr vc))])) _
    refine XS.iload X3.here hx rfl (hb hby at_119) rfl ?_
    show Steps p.tables e below (T3.setTop (mkF m 121 #[.val (.int p1), .val (.long q2), .second, .val (.long q3), .second, .val (.long q4), .second, .val (.long q5), .second, .val (.long (2305843009213693951 : Int64)), .second, .val (.long va), .second, .val (.long vr), .second, .val (.long vc), .second, .val (.long vw), .second, .val (.ref b1), .val (.int ve)] [(.int ve), (.int (own_any va vr vc))])) _
    refine XS.icmpNo X3.here hx rfl (hb hby at_121) rfl (XT.ii_ne_f hlaw) ?_
    show Steps p.tables e below (T3.setTop (mkF m 124 #[.val (.int p1), .val (.long q2), .second, .val (.long q3), .second, .val (.long q4), .second, .val (.long q5), .second, .val (.long (2305843009213693951 : Int64)), .second, .val (.long va), .second, .val (.long vr), .second, .val (.long vc), .second, .val (.long vw), .second, .val (.ref b1), .val (.int ve)] [])) _
    refine XT.iconstV X3.here hx rfl (1 : Int32) (hb hby at_124) (by decide) ?_
    show Steps p.tables e below (T3.setTop (mkF m 125 #[.val (.int p1), .val (.long q2), .second, .val (.long q3), .second, .val (.long q4), .second, .val (.long q5), .second, .val (.long (2305843009213693951 : Int64)), .second, .val (.long va), .second, .val (.long vr), .second, .val (.long vc), .second, .val (.long vw), .second, .val (.ref b1), .val (.int ve)] [(.int (1 : Int32))])) _
    refine XS.goto X3.here hx rfl (pc0 := 125) (pc' := 129) rfl (hb hby at_125) (by decide) (by decide) ?_
    show Steps p.tables e below (T3.setTop (mkF m 129 #[.val (.int p1), .val (.long q2), .second, .val (.long q3), .second, .val (.long q4), .second, .val (.long q5), .second, .val (.long (2305843009213693951 : Int64)), .second, .val (.long va), .second, .val (.long vr), .second, .val (.long vc), .second, .val (.long vw), .second, .val (.ref b1), .val (.int ve)] [(.int (1 : Int32))])) _
    exact retN X3 hx (t := .boolean) Bd.returns (by simp) (hb hby at_129) hr
  · exact ⟨rfl, N3⟩
set_option maxRecDepth 65536 in
set_option maxHeartbeats 40000000 in
theorem comes_1 {Post : Tables → Env → Array Value → State → Outcome → State → Prop} (hpost : ∀ tb e args s v u, (limb_1_1.after args s (.returned v) u = true ∧ limb_1_2.after args s (.returned v) u = true ∧ True) → FrameEnd s (.returned v) u (Jvm.fieldLocs frame_1_writes args s ++ Jvm.arrayLocs frame_1_arrays args s ++ Jvm.staticLocs frame_1_statics s) 16 128 → Post tb e args s (.returned v) u) :
    ArmFor flags0 classFile x code maxLocals ret World_1 tables_1 room_1 Calls_1 rest_1 Pre_1 Post := by
  intro l hfl _ _ p e ha hc hk s m args below hf hA hF happ hP
  obtain ⟨hcalls, hrest, hpre⟩ := hP
  obtain ⟨-, -, -, hnamed, -, -, -, hat⟩ := (Spec.applies_iff hf).mp happ
  obtain ⟨hg, hn⟩ := and_e (Cond.before_iff.mp (show (Jvm.Cond.and given_1 narrow_1).before args s = true from hpre))
  obtain ⟨hcount, g0⟩ := and_e hg
  obtain ⟨k0, g1⟩ := and_e g0
  obtain ⟨k1, g2⟩ := and_e g1
  obtain ⟨k2, g3⟩ := and_e g2
  obtain ⟨k3, g4⟩ := and_e g3
  obtain ⟨w0, w1, w2, w3, w4, rfl⟩ : ∃ w0 w1 w2 w3 w4 : Value, args = #[w0, w1, w2, w3, w4] := by
    have hs : args.size = 5 := by simpa [Cond.value, given_1] using hcount
    obtain ⟨L⟩ := args
    match L, hs with
    | [w0, w1, w2, w3, w4], _ => exact ⟨w0, w1, w2, w3, w4, rfl⟩
  have hw := fun d (hd : d ∈ tables_1) => atoms_spec (ws := Jvm.Cond.code x code maxLocals ret :: tables_1) hat d (List.mem_cons_of_mem _ hd)
  obtain ⟨i0, ei0⟩ := is_v k0
  obtain rfl : w0 = (.int i0) := Option.some.inj ei0
  obtain ⟨i1, ei1⟩ := isL_v k1
  obtain rfl : w1 = (.long i1) := Option.some.inj ei1
  obtain ⟨i2, ei2⟩ := isL_v k2
  obtain rfl : w2 = (.long i2) := Option.some.inj ei2
  obtain ⟨i3, ei3⟩ := isL_v k3
  obtain rfl : w3 = (.long i3) := Option.some.inj ei3
  obtain ⟨i4, ei4⟩ := isL_v g4
  obtain rfl : w4 = (.long i4) := Option.some.inj ei4
  obtain ⟨n, o, h1, h2, h3, _, L, rfl, ⟨rfl, N⟩, hq⟩ := rm0 l s _ hw tables_1 i0 i1 i2 i3 i4 s.heap s.heap.size (Nat.le_refl _) p e ha hc hk s m _ below hf ((Spec.applies_iff_loose hf).mp happ).1 ⟨rfl, State.Warmed39.refl s, rfl⟩ trivial
  refine ⟨n, _, h1, h2, h3, hpost _ _ _ _ _ _ ⟨Cond.after_iff.mpr rfl, Cond.after_iff.mpr (eq_i res_at (Term.int_eval (1)) rfl), trivial⟩ ⟨hq.1, hq.2.1, (hq.2.2.sift fun y hy => Or.inr (N y hy)).mono (by decide) (by decide)⟩⟩
theorem main_1_1 : Claimed_1_1 := comes_1 fun _ _ _ _ _ _ h hF => ⟨h.1, hF⟩
theorem main_1_2 : Claimed_1_2 := comes_1 fun _ _ _ _ _ _ h hF => ⟨h.2.1, hF⟩
end Jvm.Pilot.@@N@@
namespace Jvm.Pilot.@@N@@
open Jvm Jvm.ClassFile Sem Op Lib Jvm.Free Jvm.Stand Jvm.Pilot.@@N@@.Jvm.D
/-! MADE BY PROGRAM (witnessworld.py) out of the Statement's table words and the real class files: 10 classes; the members and pool entries that the words name. The judged class is class 1, her method 1. -/
namespace start1
open Jvm.ClassFile
def u (s : String) : CpInfo := .utf8 (stringToUtf16 s)
/-- a pool by its gaps: so many unusable entries, then the entry; so many at the end -/
def gap : Nat → List CpInfo → List CpInfo
  | 0, r => r
  | n + 1, r => .unusable :: gap n r
def poolList (es : List (Nat × CpInfo)) (last : Nat) : List CpInfo := es.foldr (fun e r => gap e.1 (e.2 :: r)) (gap last [])
def pool (es : List (Nat × CpInfo)) (last : Nat) : Array CpInfo := ⟨poolList es last⟩
def fileOf (pool : Array CpInfo) (this : Nat) (attrs : Array Attribute := #[]) (ms : Array MethodInfo := #[]) (fl : Nat := 33) (sup : Nat := 0) (ifs : Array Nat := #[]) (fds : Array FieldInfo := #[]) : ClassFile where
  minorVersion := 0
  majorVersion := 65
  constantPool := pool
  accessFlags := fl
  thisClass := this
  superClass := sup
  interfaces := ifs
  fields := fds
  methods := ms
  attributes := attrs
def plain (name : String) (sup : Option ClassId) : Class where
  name := name
  kind := .ordinary
  loader := none
  accessFlags := 33
  super := sup
  interfaces := #[]
  cf := none
  fields := #[]
  methods := #[]
  instanceTypes := #[]
  staticTypes := #[]
  resolved := #[]
  callSites := []
  init := .initialized
  statics := none
  mirror := none

def pool0 : Array CpInfo := pool [(5, u "<init>"), (0, u "()V"), (1, .class_ 10), (1, u "java/lang/Object")] 113

def k0c0 : Code := { maxStack := 0, maxLocals := 1, code := object_method_1_code, exceptionTable := #[], attributes := #[] }
def k0m0 : Method := { name := "<init>", desc := "()V", sig := { parameters := [], returnType := none }, accessFlags := 1, code := some k0c0 }
/-- java/lang/Object -/
def k0 : Class := { plain "java/lang/Object" none with
  accessFlags := 33
  interfaces := #[]
  cf := some (fileOf pool0 8 #[] #[{ accessFlags := 1, nameIndex := 5, descriptorIndex := 6, attributes := #[] }] 33 0 #[] #[])
  fields := #[]
  methods := #[k0m0]
  instanceTypes := #[]
  staticTypes := #[]
  resolved := Array.replicate 124 none
  statics := none }

def pool1 : Array CpInfo := pool [(2, .class_ 4), (1, u "java/lang/Object"), (0, u "<init>"), (0, u "()V"), (0, .long 2305843009213693951), (1, .class_ 10), (0, u "com/example/wieden/wieden/dataset/Changes"), (0, .methodref 9 12), (0, .nameAndType 5 13), (0, u "(JJJJ)V"), (0, .methodref 9 15), (0, .nameAndType 16 17), (0, u "any"), (0, u "()Z"), (0, .class_ 19), (0, u "com/example/wieden/wieden/dataset/ChangesAnyPinLaw"), (2, u "law"), (0, u "(IJJJJ)Z")] 3

def k1m0 : Method := { name := "<init>", desc := "()V", sig := { parameters := [], returnType := none }, accessFlags := 1, code := none }
def k1c1 : Code := { maxStack := 10, maxLocals := 21, code := code, exceptionTable := #[], attributes := #[] }
def k1m1 : Method := { name := "law", desc := "(IJJJJ)Z", sig := { parameters := [.int, .long, .long, .long, .long], returnType := some .boolean }, accessFlags := 9, code := some k1c1 }
/-- com/example/wieden/wieden/dataset/ChangesAnyPinLaw -/
def k1 : Class := { plain "com/example/wieden/wieden/dataset/ChangesAnyPinLaw" (some 0) with
  accessFlags := 49
  interfaces := #[]
  cf := some (fileOf pool1 18 #[] #[{ accessFlags := 1, nameIndex := 5, descriptorIndex := 6, attributes := #[] }, { accessFlags := 9, nameIndex := 22, descriptorIndex := 23, attributes := #[] }] 49 2 #[] #[])
  fields := #[]
  methods := #[k1m0, k1m1]
  instanceTypes := #[]
  staticTypes := #[]
  resolved := Array.replicate 27 none
  statics := none }

def pool2 : Array CpInfo := pool [(1, .methodref 2 3), (0, .class_ 4), (0, .nameAndType 5 6), (0, u "java/lang/Object"), (0, u "<init>"), (0, u "()V"), (0, .class_ 8), (0, u "java/lang/Record")] 13

def k2c0 : Code := { maxStack := 1, maxLocals := 1, code := jdk_30_method_1_code, exceptionTable := #[], attributes := #[] }
def k2m0 : Method := { name := "<init>", desc := "()V", sig := { parameters := [], returnType := none }, accessFlags := 4, code := some k2c0 }
/-- java/lang/Record -/
def k2 : Class := { plain "java/lang/Record" (some 0) with
  accessFlags := 1057
  interfaces := #[]
  cf := some (fileOf pool2 7 #[] #[{ accessFlags := 4, nameIndex := 5, descriptorIndex := 6, attributes := #[] }] 1057 2 #[] #[])
  fields := #[]
  methods := #[k2m0]
  instanceTypes := #[]
  staticTypes := #[]
  resolved := Array.replicate 22 none
  statics := none }

def pool3 : Array CpInfo := pool [(1, .methodref 2 3), (0, .class_ 4), (0, .nameAndType 5 6), (0, u "java/lang/Record"), (0, u "<init>"), (0, u "()V"), (0, .fieldref 8 9), (0, .class_ 10), (0, .nameAndType 11 12), (0, u "com/example/wieden/wieden/dataset/Changes"), (0, u "added"), (0, u "J"), (0, .fieldref 8 14), (0, .nameAndType 15 12), (0, u "removed"), (0, .fieldref 8 17), (0, .nameAndType 18 12), (0, u "changed"), (0, .fieldref 8 20), (0, .nameAndType 21 12), (0, u "unchanged"), (12, u "(JJJJ)V"), (3, u "any"), (0, u "()Z")] 28

def k3c0 : Code := { maxStack := 3, maxLocals := 9, code := prog_19_method_1_code, exceptionTable := #[], attributes := #[] }
def k3m0 : Method := { name := "<init>", desc := "(JJJJ)V", sig := { parameters := [.long, .long, .long, .long], returnType := none }, accessFlags := 1, code := some k3c0 }
def k3c1 : Code := { maxStack := 4, maxLocals := 1, code := prog_19_method_2_code, exceptionTable := #[], attributes := #[] }
def k3m1 : Method := { name := "any", desc := "()Z", sig := { parameters := [], returnType := some .boolean }, accessFlags := 1, code := some k3c1 }
/-- com/example/wieden/wieden/dataset/Changes -/
def k3 : Class := { plain "com/example/wieden/wieden/dataset/Changes" (some 2) with
  accessFlags := 49
  interfaces := #[]
  cf := some (fileOf pool3 8 #[] #[{ accessFlags := 1, nameIndex := 5, descriptorIndex := 34, attributes := #[] }, { accessFlags := 1, nameIndex := 38, descriptorIndex := 39, attributes := #[] }] 49 2 #[] #[{ accessFlags := 18, nameIndex := 11, descriptorIndex := 12, attributes := #[] }, { accessFlags := 18, nameIndex := 15, descriptorIndex := 12, attributes := #[] }, { accessFlags := 18, nameIndex := 18, descriptorIndex := 12, attributes := #[] }, { accessFlags := 18, nameIndex := 21, descriptorIndex := 12, attributes := #[] }])
  fields := #[{ name := "added", type := .long, accessFlags := 18, slot := 0, constantValue := 0 }, { name := "removed", type := .long, accessFlags := 18, slot := 1, constantValue := 0 }, { name := "changed", type := .long, accessFlags := 18, slot := 2, constantValue := 0 }, { name := "unchanged", type := .long, accessFlags := 18, slot := 3, constantValue := 0 }]
  methods := #[k3m0, k3m1]
  instanceTypes := #[.long, .long, .long, .long]
  staticTypes := #[]
  resolved := Array.replicate 68 none
  statics := none }

def pool4 : Array CpInfo := pool [(1, u "java/lang/Cloneable"), (0, .class_ 1), (0, u "java/lang/Object"), (0, .class_ 3)] 3

/-- java/lang/Cloneable -/
def k4 : Class := { plain "java/lang/Cloneable" (some 0) with
  accessFlags := 1537
  interfaces := #[]
  cf := some (fileOf pool4 2 #[] #[] 1537 4 #[] #[])
  fields := #[]
  methods := #[]
  instanceTypes := #[]
  staticTypes := #[]
  resolved := Array.replicate 8 none
  statics := none }

def pool5 : Array CpInfo := pool [(1, u "java/io/Serializable"), (0, .class_ 1), (0, u "java/lang/Object"), (0, .class_ 3)] 3

/-- java/io/Serializable -/
def k5 : Class := { plain "java/io/Serializable" (some 0) with
  accessFlags := 1537
  interfaces := #[]
  cf := some (fileOf pool5 2 #[] #[] 1537 4 #[] #[])
  fields := #[]
  methods := #[]
  instanceTypes := #[]
  staticTypes := #[]
  resolved := Array.replicate 8 none
  statics := none }

/-- the primitive byte -/
def k6 : Class := { plain "byte" none with kind := .primitive 'B', accessFlags := 0x411 }
/-- [B -/
def k7 : Class := { plain "[B" (some 0) with kind := .array 6 .byte, interfaces := #[4, 5], accessFlags := 1041 }

/-- the primitive int -/
def k8 : Class := { plain "int" none with kind := .primitive 'I', accessFlags := 0x411 }
/-- [I -/
def k9 : Class := { plain "[I" (some 0) with kind := .array 8 .int, interfaces := #[4, 5], accessFlags := 1041 }

def heap : Heap := #[]
def classes : Array Class := #[k0, k1, k2, k3, k4, k5, k6, k7, k8, k9]
def interned : List (Array UInt16 × Addr) := []
def slotsUsed : Nat := 0
def theMethod : MethodId := ⟨1, 1⟩
def args0 : Array Value := #[.int 5, .long 7, .long 3, .long 2, .long 1]
def aboutOver (below : List Frame) : State where
  vm := { classes := classes, interned := interned.toArray }
  heap := heap
  slotsUsed := slotsUsed
  threads := #[{ frames := .invoking theMethod args0 :: below }]
def below0 : List Frame := [.native { method := ⟨0, 0⟩, args := #[] }]
def about1 : State := aboutOver below0
def p0 : Program := .bare "" "" ""
def e0 : Env := launch0.env 0 0 0
theorem w_frames : about1.frames = Frame.invoking theMethod args0 :: below0 := rfl
set_option maxRecDepth 65536 in
theorem w_args : argsFit about1.vm theMethod args0 = true := by decide +kernel
set_option maxRecDepth 65536 in
theorem w_heap : heapFits about1 = true := by decide +kernel
set_option maxRecDepth 65536 in
theorem w_runnable : about1.curStatus? = some .runnable := by decide +kernel
set_option maxRecDepth 65536 in
theorem w_alone : about1.alone = true := by decide +kernel
set_option maxRecDepth 65536 in
theorem w_named : about1.methodNamed? x = some theMethod := by decide +kernel
set_option maxRecDepth 65536 in
theorem w_hears : about1.hears theMethod below0 = true := by decide +kernel
set_option maxRecDepth 65536 in
theorem w_ripe : about1.ripe theMethod args0 below0 = true := by decide +kernel
theorem w_running : about1.status = .running := rfl
set_option maxRecDepth 65536 in
theorem w_room : about1.hasRoom e0.platform room_1 = true :=
  launch0.hasRoom_least _ room_1 (by decide +kernel) (by decide +kernel) (by decide +kernel) (by decide +kernel) (by decide +kernel) (by decide +kernel)
theorem allAtoms_all (ts : List Jvm.Cond) (a : Array Jvm.Value) (st : Jvm.State) : (allAtoms ts).before a st = ts.all (fun c => c.before a st) := by
  induction ts with
  | nil => rfl
  | cons c t ih =>
    show (Jvm.Cond.and c (allAtoms t)).before a st = _
    rw [Jvm.Cond.before_and, ih, List.all_cons]
def words1 : List Jvm.Cond := Jvm.Cond.code x code maxLocals ret :: tables_1
/-- a 'code' word, met by the world's own term for the bytes: nothing is compared byte by byte -/
theorem code_word {y : MethodName} {bytes : ByteArray} {mx : Nat} {rt : Option FieldType} {a : Array Value} {s : State} {m : MethodId} {meth : Method} {c : Code} (h1 : s.methodNamed? y = some m) (h2 : s.vm.method? m = some meth) (h3 : meth.code = some c) (h4 : c.code = bytes)
    (h5 : (c.maxLocals == mx && c.exceptionTable.isEmpty && decide (c.maxStack ≤ mostOperands) && decide (meth.sig.returnType = rt) && !meth.locks && decide (parseMethodDescriptor y.desc = some meth.sig)) = true) : (Jvm.Cond.code y bytes mx rt).before a s = true := by
  simp only [Bool.and_eq_true, beq_iff_eq, Bool.not_eq_true', decide_eq_true_eq] at h5
  obtain ⟨⟨⟨⟨⟨g1, g2⟩, g3⟩, g4⟩, g5⟩, g6⟩ := h5
  simp [Cond.before, Cond.holds, Cond.value, h1, h2, h3, h4, g1, g2, g3, g4, g5, g6]
def isCode : Jvm.Cond → Bool
  | .code _ _ _ _ => true
  | _ => false
theorem all_split {L : List Jvm.Cond} {P : Jvm.Cond → Bool} (h1 : L.all (fun c => isCode c || P c) = true) (h2 : ∀ c ∈ L.filter isCode, P c = true) : L.all P = true := by
  refine List.all_eq_true.mpr fun c hc => ?_
  have h := List.all_eq_true.mp h1 c hc
  rcases Bool.eq_false_or_eq_true (isCode c) with hi | hi
  · exact h2 c (List.mem_filter.mpr ⟨hc, hi⟩)
  · simpa [hi] using h
set_option maxRecDepth 65536 in
theorem w_c0 : (Jvm.Cond.code x code maxLocals ret).before args0 about1 = true := code_word (m := ⟨1, 1⟩) (meth := k1m1) (c := k1c1) (by decide +kernel) rfl rfl rfl (by decide +kernel)
set_option maxRecDepth 65536 in
theorem w_c1 : (Jvm.Cond.code ({ cls := "com/example/wieden/wieden/dataset/Changes", name := "<init>", desc := "(JJJJ)V" } : Jvm.MethodName) prog_19_method_1_code (9 : Nat) (Option.none : Option Jvm.ClassFile.FieldType)).before args0 about1 = true := code_word (m := ⟨3, 0⟩) (meth := k3m0) (c := k3c0) (by decide +kernel) rfl rfl rfl (by decide +kernel)
set_option maxRecDepth 65536 in
theorem w_c2 : (Jvm.Cond.code ({ cls := "java/lang/Record", name := "<init>", desc := "()V" } : Jvm.MethodName) jdk_30_method_1_code (1 : Nat) (Option.none : Option Jvm.ClassFile.FieldType)).before args0 about1 = true := code_word (m := ⟨2, 0⟩) (meth := k2m0) (c := k2c0) (by decide +kernel) rfl rfl rfl (by decide +kernel)
set_option maxRecDepth 65536 in
theorem w_c3 : (Jvm.Cond.code ({ cls := "java/lang/Object", name := "<init>", desc := "()V" } : Jvm.MethodName) object_method_1_code (1 : Nat) (Option.none : Option Jvm.ClassFile.FieldType)).before args0 about1 = true := code_word (m := ⟨0, 0⟩) (meth := k0m0) (c := k0c0) (by decide +kernel) rfl rfl rfl (by decide +kernel)
set_option maxRecDepth 65536 in
theorem w_c4 : (Jvm.Cond.code ({ cls := "com/example/wieden/wieden/dataset/Changes", name := "any", desc := "()Z" } : Jvm.MethodName) prog_19_method_2_code (1 : Nat) (Option.some Jvm.ClassFile.FieldType.boolean)).before args0 about1 = true := code_word (m := ⟨3, 1⟩) (meth := k3m1) (c := k3c1) (by decide +kernel) rfl rfl rfl (by decide +kernel)
def codes1 : List Jvm.Cond := [Jvm.Cond.code x code maxLocals ret, Jvm.Cond.code ({ cls := "com/example/wieden/wieden/dataset/Changes", name := "<init>", desc := "(JJJJ)V" } : Jvm.MethodName) prog_19_method_1_code (9 : Nat) (Option.none : Option Jvm.ClassFile.FieldType), Jvm.Cond.code ({ cls := "java/lang/Record", name := "<init>", desc := "()V" } : Jvm.MethodName) jdk_30_method_1_code (1 : Nat) (Option.none : Option Jvm.ClassFile.FieldType), Jvm.Cond.code ({ cls := "java/lang/Object", name := "<init>", desc := "()V" } : Jvm.MethodName) object_method_1_code (1 : Nat) (Option.none : Option Jvm.ClassFile.FieldType), Jvm.Cond.code ({ cls := "com/example/wieden/wieden/dataset/Changes", name := "any", desc := "()Z" } : Jvm.MethodName) prog_19_method_2_code (1 : Nat) (Option.some Jvm.ClassFile.FieldType.boolean)]
set_option maxRecDepth 65536 in
theorem codes_eq : words1.filter isCode = codes1 := rfl
theorem w_codes : ∀ c ∈ words1.filter isCode, c.before args0 about1 = true := by
  rw [codes_eq]
  intro c hc
  simp only [codes1, List.mem_cons, List.not_mem_nil, or_false] at hc
  rcases hc with rfl | rfl | rfl | rfl | rfl
  · exact w_c0
  · exact w_c1
  · exact w_c2
  · exact w_c3
  · exact w_c4
set_option maxRecDepth 65536 in
theorem w_t1 : (words1.take 24).all (fun c => isCode c || c.before args0 about1) = true := by decide +kernel
set_option maxRecDepth 65536 in
theorem w_t2 : (words1.drop 24).all (fun c => isCode c || c.before args0 about1) = true := by decide +kernel
theorem w_tables : (allAtoms (Jvm.Cond.code x code maxLocals ret :: tables_1)).before args0 about1 = true := by
  rw [allAtoms_all]
  show words1.all (fun c => c.before args0 about1) = true
  refine all_split ?_ w_codes
  rw [← List.take_append_drop 24 words1, List.all_append, w_t1, w_t2]
  rfl
set_option maxRecDepth 65536 in
theorem w_case : (Jvm.Cond.and given_1 narrow_1).before args0 about1 = true := by decide +kernel
theorem w_applies : (headSpec (Jvm.Cond.code x code maxLocals ret :: tables_1) room_1).applies x e0.platform about1 = true :=
  (Spec.applies_iff w_frames).mpr ⟨w_running, w_runnable, w_alone, w_named, w_hears, w_ripe, w_room, w_tables⟩
theorem atStart : AtStart classFile x code maxLocals ret World_1 tables_1 room_1 Calls_1 rest_1 Pre_1 launch0 p0 e0 about1 theMethod args0 below0 :=
  ⟨lists_1, trivial, launch0.admits_env _ _ _, launch0.least_env, fairChoices_fair.cas, fairChoices_fair.clock, w_frames, w_args, w_heap, w_applies, trivial, trivial, w_case⟩
end start1
theorem witness_1 : WitnessClaimed_1 := ⟨start1.p0, start1.e0, start1.about1, start1.theMethod, start1.args0, start1.below0, start1.atStart⟩
end Jvm.Pilot.@@N@@
