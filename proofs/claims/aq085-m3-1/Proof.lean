import JvmDerived
import JvmDerived.Pilot.@@N@@Statement
import JvmDerived.Pilot.@@N@@Code
set_option linter.unusedVariables false
set_option linter.unusedSimpArgs false
namespace Jvm.RoadKit
open Sem ClassFile Op Lib Jvm.Stand Jvm.Free Jvm.LawKit
section New
variable {p : Program} {l : Launch} {e : Env} {R : Room} {s : State} {m : MethodId} {args : Array Value} {below : List Frame} {meth : Method} {c : Code} {T : State} {locs : List Loc} {cells slots : Nat}
theorem retI (X : Stand p l e R s m args below meth c T locs cells slots) (hx : p.tables.exec = Jvm.exec) {pc : Nat} {Ls : Array Slot} {z : Int32} {rest : List Value} (hret : meth.sig.returnType = some .int) (hd : decode c.code pc = .ok (.ireturn, 1)) {fs : List Frame}
    (hl : ∀ (f : JFrame) (acts : List Action), f.method = m → f.locked = none → f.entered = [] → (doReturn e (T.setTop f) acts (some (.int z))).1 = T.setFrames fs) : Steps p.tables e below (T.setTop (mkF m pc Ls (.int z :: rest))) (T.setFrames fs) := by
  have hm' : T.vm.method? m = some meth := X.method'
  have hn : narrow .int (.int z) = .int z := rfl
  show Steps p.tables e below (T.setTop { method := m, pc := pc, locals := Ls, stack := _ :: rest, locked := none }) _
  jvm_step X.here [X.here.top, hx, hd, hm', hret, hn]
  first | (intro acts; rw [hl _ acts rfl rfl rfl]) | rw [hl _ _ rfl rfl rfl]
  exact Steps.refl _
end New
end Jvm.RoadKit
namespace Jvm.Pilot.@@N@@
open Jvm Jvm.ClassFile Sem Op Lib Jvm.Free Jvm.Stand Jvm.LawKit Jvm.RoadKit Bundle Jvm.Pilot.@@N@@.Jvm.D
theorem own_bm64 {n : Int} (h1 : -9223372036854775808 ≤ n) (h2 : n < 9223372036854775808) : n.bmod (2 ^ 64) = n := Int.bmod_eq_of_le (by omega) (by omega)
theorem own_bm32 {n : Int} (h1 : -2147483648 ≤ n) (h2 : n < 2147483648) : n.bmod (2 ^ 32) = n := Int.bmod_eq_of_le (by omega) (by omega)
-- 7
theorem own_mask7 (x : Int32) : 0 ≤ (x &&& 7).toInt ∧ (x &&& 7).toInt < 8 := by
  have h : (x &&& 7).toBitVec.toNat ≤ 7 := by
    rw [Int32.toBitVec_and, BitVec.toNat_and]
    exact Nat.and_le_right
  have e : (x &&& 7).toInt = ((x &&& 7).toBitVec.toNat : Int) := by
    show (x &&& 7).toBitVec.toInt = _
    rw [BitVec.toInt_eq_toNat_of_lt (by omega)]
  omega
def own_q (h p s : Int32) : Int32 := (2 : Int32) * h + p + (2 : Int32) * s
def own_n (s : Int32) : Int32 := (1 : Int32) + s
def own_isw (q n a : Int32) : Int32 := if a < q + n then (0 : Int32) else if a < q + (2 : Int32) * n then (1 : Int32) else (0 : Int32)
def own_want7 (q n a : Int32) : Int32 := if a.toInt64 - q.toInt64 - n.toInt64 < (0 : Int64) then (0 : Int32) else if a.toInt64 - q.toInt64 - n.toInt64 < n.toInt64 then (1 : Int32) else (0 : Int32)
theorem own_law7 (h p s a : Int32) (hh : 0 ≤ h.toInt ∧ h.toInt < 8) (hp : 0 ≤ p.toInt ∧ p.toInt < 8) (hs : 0 ≤ s.toInt ∧ s.toInt < 8) : own_isw (own_q h p s) (own_n s) a = own_want7 (own_q h p s) (own_n s) a := by
  have two : (2 : Int32).toInt = 2 := rfl
  have one : (1 : Int32).toInt = 1 := rfl
  have q1 : ((2 : Int32) * h).toInt = 2 * h.toInt := by rw [Int32.toInt_mul, two, own_bm32 (by omega) (by omega)]
  have q2 : ((2 : Int32) * h + p).toInt = 2 * h.toInt + p.toInt := by rw [Int32.toInt_add, q1, own_bm32 (by omega) (by omega)]
  have q3 : ((2 : Int32) * s).toInt = 2 * s.toInt := by rw [Int32.toInt_mul, two, own_bm32 (by omega) (by omega)]
  have q4 : (own_q h p s).toInt = 2 * h.toInt + p.toInt + 2 * s.toInt := by unfold own_q; rw [Int32.toInt_add, q2, q3, own_bm32 (by omega) (by omega)]
  have n1 : (own_n s).toInt = 1 + s.toInt := by unfold own_n; rw [Int32.toInt_add, one, own_bm32 (by omega) (by omega)]
  generalize own_q h p s = q at *
  generalize own_n s = n at *
  have r1 : (q + n).toInt = q.toInt + n.toInt := by rw [Int32.toInt_add, own_bm32 (by omega) (by omega)]
  have r2 : ((2 : Int32) * n).toInt = 2 * n.toInt := by rw [Int32.toInt_mul, two, own_bm32 (by omega) (by omega)]
  have r3 : (q + (2 : Int32) * n).toInt = q.toInt + 2 * n.toInt := by rw [Int32.toInt_add, r2, own_bm32 (by omega) (by omega)]
  have ba := Int32.toInt_lt a
  have bb := Int32.le_toInt a
  have d1 : (a.toInt64 - q.toInt64).toInt = a.toInt - q.toInt := by rw [Int64.toInt_sub, Int32.toInt_toInt64, Int32.toInt_toInt64, own_bm64 (by omega) (by omega)]
  have d2 : (a.toInt64 - q.toInt64 - n.toInt64).toInt = a.toInt - q.toInt - n.toInt := by rw [Int64.toInt_sub, d1, Int32.toInt_toInt64, own_bm64 (by omega) (by omega)]
  have g1 : (a < q + n) ↔ (a.toInt64 - q.toInt64 - n.toInt64 < (0 : Int64)) := by
    rw [Int32.lt_iff_toInt_lt, Int64.lt_iff_toInt_lt, d2, r1, show (0 : Int64).toInt = 0 from rfl]; omega
  have g2 : (a < q + (2 : Int32) * n) ↔ (a.toInt64 - q.toInt64 - n.toInt64 < n.toInt64) := by
    rw [Int32.lt_iff_toInt_lt, Int64.lt_iff_toInt_lt, d2, r3, Int32.toInt_toInt64]; omega
  unfold own_isw own_want7
  simp only [g1, g2]

def own_acc (x m : Int32) : Int32 := if (m &&& (1 : Int32)) = 0 then x else (x - x / (64 : Int32) * (64 : Int32))
theorem own_pn0 : plainName "java/lang/Record" = true := by first | (simp [plainName, overriddenIn]; done) | decide +kernel
theorem own_d2_0 : decode jdk_30_method_1_code 0 = .ok (.aload_n 0, 1) := by decide +kernel
theorem own_d2_1 : decode jdk_30_method_1_code 1 = .ok (.invokespecial 1, 3) := by decide +kernel
theorem own_d2_4 : decode jdk_30_method_1_code 4 = .ok (.return_, 1) := by decide +kernel
theorem own_ef2 (m : MethodId) (a1 : Addr) : entryFrame m #[(.ref a1)] 1 = mkF m 0 #[.val (.ref a1)] [] := by first | (simp [entryFrame, mkF, argsToLocals, Value.category]; done) | rfl
def Q2 (Z : State) (a1 : Addr)  (h0 : Heap) (n0 : Nat) (v : Option Value) (h : Heap) (L : List Loc) : Prop := v = none ∧ Fr n0 L ∧ h = h0
set_option maxRecDepth 65536 in
set_option maxHeartbeats 40000000 in
theorem rm2 (l : Launch) (Z : State) (a0 : Array Value) (hw : ∀ d ∈ tables_1, d.before a0 Z = true) (ws : List Jvm.Cond) (a1 : Addr)  (h0 : Heap) (n0 : Nat) (Z0 : n0 ≤ h0.size)  :
    MetFree l (⟨"java/lang/Record", "<init>", "()V"⟩ : MethodName) (head1 (Jvm.Cond.code (⟨"java/lang/Record", "<init>", "()V"⟩ : MethodName) jdk_30_method_1_code 1 none :: ws) ({ frames := 1, cells := 0, slots := 0, locals := 12 } : Room)) (fun a U => a = #[(.ref a1)] ∧ Z.Warmed39 U.vm ∧ U.heap = h0) (fun _ _ _ _ _ => True) (fun _ U o U' => ∃ v L, o = .returned v ∧ Q2 Z a1  h0 n0 v U'.heap L ∧ FrameEnd U o U' L ({ frames := 1, cells := 0, slots := 0, locals := 12 } : Room).cells ({ frames := 1, cells := 0, slots := 0, locals := 12 } : Room).slots) := by
  refine MetFree.of_bodySF (plainFor_of_name own_pn0) hisR ?_
  intro p e s m args below meth c s₁ Bd hml0 hP hK
  obtain ⟨rfl, hZ, hh⟩ := hP
  have hx := Bd.exec
  have hby := Bd.bytes
  have hml : c.maxLocals = 1 := hml0
  have hown : s.vm.findClass "java/lang/Record" = some m.cls := findClass_of_methodNamed Bd.named
  have hnm := (name_of_methodNamed Bd.named Bd.method).1
  have X0 : Stand p l e ({ frames := 1, cells := 0, slots := 0, locals := 12 } : Room) s m #[(.ref a1)] below meth c s₁ [] 0 0 := Stand.of_body Bd
  have e0 : s₁.heap = h0 := by rw [← hh, Bd.state]; rfl
  have N0 := Fr.nil n0
  have pre0 : ∀ t, Steps p.tables e below (s₁.setTop (mkF m 0 #[.val (.ref a1)] [])) t → Steps p.tables e below (s₁.setTop (entryFrame m #[(.ref a1)] 1)) t := fun t k => castTop (own_ef2 m a1) k
  have sg0 : ∀ t, Steps p.tables e below (s₁.setTop (mkF m 1 #[.val (.ref a1)] [(.ref a1)])) t → Steps p.tables e below (s₁.setTop (mkF m 0 #[.val (.ref a1)] [])) t := by
    intro t kk
    show Steps p.tables e below (s₁.setTop (mkF m 0 #[.val (.ref a1)] [])) _
    refine XS.aloadN X0.here hx rfl (hb hby own_d2_0) rfl rfl ?_
    exact kk
  obtain ⟨T1, X1, e1, st1⟩ := initO X0 hx hZ hown (hw _ (List.mem_of_getElem? (i := 11) rfl)) (hw _ (List.mem_of_getElem? (i := 12) rfl)) (hw _ (List.mem_of_getElem? (i := 13) rfl)) e0 (g := (mkF m 1 #[.val (.ref a1)] [(.ref a1)])) rfl (by rw [hml]; rfl) rfl (hb hby own_d2_1) (by decide) (W := 0) (by show 2 * 0 + _ ≤ _; exact Nat.le_of_eq rfl) (by decide)
  obtain ⟨fs, hr, hrun, hended, hW, hsame⟩ := X1.leave (v := none) (fun _ => rfl)
  refine ⟨_, _, pre0 _ ?_, hrun, hended, _, _, rfl, ?_, ⟨_, rfl⟩, hW, hsame.mono (by decide) (by decide)⟩
  · refine sg0 _ ?_
    refine st1 _ ?_
    show Steps p.tables e below (T1.setTop (mkF m 4 #[.val (.ref a1)] [])) _
    exact X1.returnOut hx Bd.returns (hb hby own_d2_4) hr
  · exact ⟨rfl, N0, e1⟩
theorem own_pd0 : parseMethodDescriptor "()V" = some ⟨[], none⟩ := by decide +kernel
theorem own_pn1 : plainName "com/example/cardea/cardea/check/Layout" = true := by first | (simp [plainName, overriddenIn]; done) | decide +kernel
theorem own_d1_0 : decode prog_26_method_1_code 0 = .ok (.aload_n 0, 1) := by decide +kernel
theorem own_d1_1 : decode prog_26_method_1_code 1 = .ok (.invokespecial 1, 3) := by decide +kernel
theorem own_d1_4 : decode prog_26_method_1_code 4 = .ok (.aload_n 0, 1) := by decide +kernel
theorem own_d1_5 : decode prog_26_method_1_code 5 = .ok (.iload_n 1, 1) := by decide +kernel
theorem own_d1_6 : decode prog_26_method_1_code 6 = .ok (.putfield 7, 3) := by decide +kernel
theorem own_d1_9 : decode prog_26_method_1_code 9 = .ok (.aload_n 0, 1) := by decide +kernel
theorem own_d1_10 : decode prog_26_method_1_code 10 = .ok (.iload_n 2, 1) := by decide +kernel
theorem own_d1_11 : decode prog_26_method_1_code 11 = .ok (.putfield 13, 3) := by decide +kernel
theorem own_d1_14 : decode prog_26_method_1_code 14 = .ok (.aload_n 0, 1) := by decide +kernel
theorem own_d1_15 : decode prog_26_method_1_code 15 = .ok (.iload_n 3, 1) := by decide +kernel
theorem own_d1_16 : decode prog_26_method_1_code 16 = .ok (.putfield 16, 3) := by decide +kernel
theorem own_d1_19 : decode prog_26_method_1_code 19 = .ok (.return_, 1) := by decide +kernel
theorem own_ef1 (m : MethodId) (a1 : Addr) (p2 : Int32) (p3 : Int32) (p4 : Int32) : entryFrame m #[(.ref a1), (.int p2), (.int p3), (.int p4)] 4 = mkF m 0 #[.val (.ref a1), .val (.int p2), .val (.int p3), .val (.int p4)] [] := by first | (simp [entryFrame, mkF, argsToLocals, Value.category]; done) | rfl
def Q1 (Z : State) (a1 : Addr) (p2 : Int32) (p3 : Int32) (p4 : Int32)  (h0 : Heap) (n0 : Nat) (v : Option Value) (h : Heap) (L : List Loc) : Prop := v = none ∧ Fr n0 L ∧ Keep h0 h [a1] ∧ Exa Z h a1 "com/example/cardea/cardea/check/Layout" ∧ Fld Z h a1 "com/example/cardea/cardea/check/Layout" "hosts" "I" (.int p2) ∧ Fld Z h a1 "com/example/cardea/cardea/check/Layout" "ports" "I" (.int p3) ∧ Fld Z h a1 "com/example/cardea/cardea/check/Layout" "switches" "I" (.int p4)
set_option maxRecDepth 65536 in
set_option maxHeartbeats 40000000 in
theorem rm1 (l : Launch) (Z : State) (a0 : Array Value) (hw : ∀ d ∈ tables_1, d.before a0 Z = true) (ws : List Jvm.Cond) (a1 : Addr) (p2 : Int32) (p3 : Int32) (p4 : Int32)  (h0 : Heap) (n0 : Nat) (Z0 : n0 ≤ h0.size) (E_a1 : Exa Z h0 a1 "com/example/cardea/cardea/check/Layout") (F_hosts : Fld Z h0 a1 "com/example/cardea/cardea/check/Layout" "hosts" "I" (.int (0 : Int32))) (F_ports : Fld Z h0 a1 "com/example/cardea/cardea/check/Layout" "ports" "I" (.int (0 : Int32))) (F_switches : Fld Z h0 a1 "com/example/cardea/cardea/check/Layout" "switches" "I" (.int (0 : Int32))) (g_a1 : n0 ≤ a1) :
    MetFree l (⟨"com/example/cardea/cardea/check/Layout", "<init>", "(III)V"⟩ : MethodName) (head1 (Jvm.Cond.code (⟨"com/example/cardea/cardea/check/Layout", "<init>", "(III)V"⟩ : MethodName) prog_26_method_1_code 4 none :: ws) ({ frames := 2, cells := 0, slots := 0, locals := 24 } : Room)) (fun a U => a = #[(.ref a1), (.int p2), (.int p3), (.int p4)] ∧ Z.Warmed39 U.vm ∧ U.heap = h0) (fun _ _ _ _ _ => True) (fun _ U o U' => ∃ v L, o = .returned v ∧ Q1 Z a1 p2 p3 p4  h0 n0 v U'.heap L ∧ FrameEnd U o U' L ({ frames := 2, cells := 0, slots := 0, locals := 24 } : Room).cells ({ frames := 2, cells := 0, slots := 0, locals := 24 } : Room).slots) := by
  refine MetFree.of_bodySF (plainFor_of_name own_pn1) hisR ?_
  intro p e s m args below meth c s₁ Bd hml0 hP hK
  obtain ⟨rfl, hZ, hh⟩ := hP
  have hx := Bd.exec
  have hby := Bd.bytes
  have hml : c.maxLocals = 4 := hml0
  have hown : s.vm.findClass "com/example/cardea/cardea/check/Layout" = some m.cls := findClass_of_methodNamed Bd.named
  have hnm := (name_of_methodNamed Bd.named Bd.method).1
  have X0 : Stand p l e ({ frames := 2, cells := 0, slots := 0, locals := 24 } : Room) s m #[(.ref a1), (.int p2), (.int p3), (.int p4)] below meth c s₁ [] 0 0 := Stand.of_body Bd
  have e0 : s₁.heap = h0 := by rw [← hh, Bd.state]; rfl
  have N0 := Fr.nil n0
  have pre0 : ∀ t, Steps p.tables e below (s₁.setTop (mkF m 0 #[.val (.ref a1), .val (.int p2), .val (.int p3), .val (.int p4)] [])) t → Steps p.tables e below (s₁.setTop (entryFrame m #[(.ref a1), (.int p2), (.int p3), (.int p4)] 4)) t := fun t k => castTop (own_ef1 m a1 p2 p3 p4) k
  have sg0 : ∀ t, Steps p.tables e below (s₁.setTop (mkF m 1 #[.val (.ref a1), .val (.int p2), .val (.int p3), .val (.int p4)] [(.ref a1)])) t → Steps p.tables e below (s₁.setTop (mkF m 0 #[.val (.ref a1), .val (.int p2), .val (.int p3), .val (.int p4)] [])) t := by
    intro t kk
    show Steps p.tables e below (s₁.setTop (mkF m 0 #[.val (.ref a1), .val (.int p2), .val (.int p3), .val (.int p4)] [])) _
    refine XS.aloadN X0.here hx rfl (hb hby own_d1_0) rfl rfl ?_
    exact kk
  obtain ⟨_, _, ⟨T1, L1, k1, n1⟩, -, X1, ⟨Lc1, hQ1, l1, y1, z1⟩, st1⟩ := X0.specialBack hx (y := (⟨"java/lang/Record", "<init>", "()V"⟩ : MethodName)) rfl hown (mvT hZ (hw _ (List.mem_of_getElem? (i := 6) rfl))) (mvT hZ (hw _ (List.mem_of_getElem? (i := 7) rfl))) (mvT hZ (hw _ (List.mem_of_getElem? (i := 10) rfl))) (by decide) (backOf (W := 0) (rm2 l Z a0 hw [] a1  h0 n0 Z0 ) hZ (hw _ (List.mem_of_getElem? (i := 10) rfl)) (hw _ (List.mem_of_getElem? (i := 9) rfl)) (by decide) (by decide)) (g := (mkF m 1 #[.val (.ref a1), .val (.int p2), .val (.int p3), .val (.int p4)] [(.ref a1)])) rfl (by rw [hml]; rfl) (Steps.refl _) (a := a1) (argsL := []) (rest := []) (lenOf own_pd0 rfl) rfl (by show 2 * 0 + _ ≤ _; exact Nat.le_of_eq rfl) (hb hby own_d1_1) (fun _ _ => ⟨rfl, e0, (by decide : 0 + 0 ≤ _), (by decide : 0 + 0 ≤ _)⟩)
  dsimp only [Pt.U, Pt.locs, Pt.cells, Pt.slots] at X1 l1 y1 z1 st1 hQ1
  subst l1 y1 z1
  obtain ⟨rfl, N1q, e1⟩ := hQ1
  have N1 := Fr.app N0 N1q
  have sg2 : ∀ t, Steps p.tables e below (T1.setTop (mkF m 6 #[.val (.ref a1), .val (.int p2), .val (.int p3), .val (.int p4)] [(.int p2), (.ref a1)])) t → Steps p.tables e below (T1.setTop (mkF m 4 #[.val (.ref a1), .val (.int p2), .val (.int p3), .val (.int p4)] [])) t := by
    intro t kk
    show Steps p.tables e below (T1.setTop (mkF m 4 #[.val (.ref a1), .val (.int p2), .val (.int p3), .val (.int p4)] [])) _
    refine XS.aloadN X1.here hx rfl (hb hby own_d1_4) rfl rfl ?_
    show Steps p.tables e below (T1.setTop (mkF m 5 #[.val (.ref a1), .val (.int p2), .val (.int p3), .val (.int p4)] [(.ref a1)])) _
    refine XS.iloadN X1.here hx rfl (hb hby own_d1_5) rfl ?_
    exact kk
  obtain ⟨T2, h2, X2, e2, W2, st2⟩ := putF X1 hx hZ hown (host := "") (Or.inl (hw _ (List.mem_of_getElem? (i := 14) rfl))) Via.refl e1 F_hosts E_a1 (Or.inr ⟨(hw _ (List.mem_of_getElem? (i := 15) rfl)), rfl, hnm⟩) (hw _ (List.mem_of_getElem? (i := 1) rfl)) (ty := .int) (by decide) rfl rfl (g := (mkF m 6 #[.val (.ref a1), .val (.int p2), .val (.int p3), .val (.int p4)] [(.int p2), (.ref a1)])) rfl rfl (hb hby own_d1_6)
  have N2 := Fr.snoc X2 N1 g_a1
  have K2 : Keep h0 h2 [a1] := (Keep.refl h0 [a1]).wr W2 (Or.inl (List.mem_of_getElem? (i := 0) rfl))
  have Z_1 : n0 ≤ h2.size := Nat.le_trans Z0 (Keep.of_wr W2).1
  have E_2 := Exa.wr W2 E_a1
  have F_3 := Fld.same W2 F_hosts
  have F_4 := Fld.other W2 F_ports (Or.inr (slot_ne (Or.inr (hw _ (List.mem_of_getElem? (i := 17) rfl))) (Or.inr (hw _ (List.mem_of_getElem? (i := 15) rfl))) (by decide) (t := .int) (t' := .int) (by decide) (by decide)))
  have F_5 := Fld.other W2 F_switches (Or.inr (slot_ne (Or.inr (hw _ (List.mem_of_getElem? (i := 19) rfl))) (Or.inr (hw _ (List.mem_of_getElem? (i := 15) rfl))) (by decide) (t := .int) (t' := .int) (by decide) (by decide)))
  have sg4 : ∀ t, Steps p.tables e below (T2.setTop (mkF m 11 #[.val (.ref a1), .val (.int p2), .val (.int p3), .val (.int p4)] [(.int p3), (.ref a1)])) t → Steps p.tables e below (T2.setTop (mkF m 9 #[.val (.ref a1), .val (.int p2), .val (.int p3), .val (.int p4)] [])) t := by
    intro t kk
    show Steps p.tables e below (T2.setTop (mkF m 9 #[.val (.ref a1), .val (.int p2), .val (.int p3), .val (.int p4)] [])) _
    refine XS.aloadN X2.here hx rfl (hb hby own_d1_9) rfl rfl ?_
    show Steps p.tables e below (T2.setTop (mkF m 10 #[.val (.ref a1), .val (.int p2), .val (.int p3), .val (.int p4)] [(.ref a1)])) _
    refine XS.iloadN X2.here hx rfl (hb hby own_d1_10) rfl ?_
    exact kk
  obtain ⟨T3, h3, X3, e3, W3, st3⟩ := putF X2 hx hZ hown (host := "") (Or.inl (hw _ (List.mem_of_getElem? (i := 16) rfl))) Via.refl e2 F_4 E_2 (Or.inr ⟨(hw _ (List.mem_of_getElem? (i := 17) rfl)), rfl, hnm⟩) (hw _ (List.mem_of_getElem? (i := 1) rfl)) (ty := .int) (by decide) rfl rfl (g := (mkF m 11 #[.val (.ref a1), .val (.int p2), .val (.int p3), .val (.int p4)] [(.int p3), (.ref a1)])) rfl rfl (hb hby own_d1_11)
  have N3 := Fr.snoc X3 N2 g_a1
  have K3 : Keep h0 h3 [a1] := K2.wr W3 (Or.inl (List.mem_of_getElem? (i := 0) rfl))
  have Z_6 : n0 ≤ h3.size := Nat.le_trans Z_1 (Keep.of_wr W3).1
  have E_7 := Exa.wr W3 E_2
  have F_8 := Fld.other W3 F_3 (Or.inr (slot_ne (Or.inr (hw _ (List.mem_of_getElem? (i := 15) rfl))) (Or.inr (hw _ (List.mem_of_getElem? (i := 17) rfl))) (by decide) (t := .int) (t' := .int) (by decide) (by decide)))
  have F_9 := Fld.same W3 F_4
  have F_10 := Fld.other W3 F_5 (Or.inr (slot_ne (Or.inr (hw _ (List.mem_of_getElem? (i := 19) rfl))) (Or.inr (hw _ (List.mem_of_getElem? (i := 17) rfl))) (by decide) (t := .int) (t' := .int) (by decide) (by decide)))
  have sg6 : ∀ t, Steps p.tables e below (T3.setTop (mkF m 16 #[.val (.ref a1), .val (.int p2), .val (.int p3), .val (.int p4)] [(.int p4), (.ref a1)])) t → Steps p.tables e below (T3.setTop (mkF m 14 #[.val (.ref a1), .val (.int p2), .val (.int p3), .val (.int p4)] [])) t := by
    intro t kk
    show Steps p.tables e below (T3.setTop (mkF m 14 #[.val (.ref a1), .val (.int p2), .val (.int p3), .val (.int p4)] [])) _
    refine XS.aloadN X3.here hx rfl (hb hby own_d1_14) rfl rfl ?_
    show Steps p.tables e below (T3.setTop (mkF m 15 #[.val (.ref a1), .val (.int p2), .val (.int p3), .val (.int p4)] [(.ref a1)])) _
    refine XS.iloadN X3.here hx rfl (hb hby own_d1_15) rfl ?_
    exact kk
  obtain ⟨T4, h4, X4, e4, W4, st4⟩ := putF X3 hx hZ hown (host := "") (Or.inl (hw _ (List.mem_of_getElem? (i := 18) rfl))) Via.refl e3 F_10 E_7 (Or.inr ⟨(hw _ (List.mem_of_getElem? (i := 19) rfl)), rfl, hnm⟩) (hw _ (List.mem_of_getElem? (i := 1) rfl)) (ty := .int) (by decide) rfl rfl (g := (mkF m 16 #[.val (.ref a1), .val (.int p2), .val (.int p3), .val (.int p4)] [(.int p4), (.ref a1)])) rfl rfl (hb hby own_d1_16)
  have N4 := Fr.snoc X4 N3 g_a1
  have K4 : Keep h0 h4 [a1] := K3.wr W4 (Or.inl (List.mem_of_getElem? (i := 0) rfl))
  have Z_11 : n0 ≤ h4.size := Nat.le_trans Z_6 (Keep.of_wr W4).1
  have E_12 := Exa.wr W4 E_7
  have F_13 := Fld.other W4 F_8 (Or.inr (slot_ne (Or.inr (hw _ (List.mem_of_getElem? (i := 15) rfl))) (Or.inr (hw _ (List.mem_of_getElem? (i := 19) rfl))) (by decide) (t := .int) (t' := .int) (by decide) (by decide)))
  have F_14 := Fld.other W4 F_9 (Or.inr (slot_ne (Or.inr (hw _ (List.mem_of_getElem? (i := 17) rfl))) (Or.inr (hw _ (List.mem_of_getElem? (i := 19) rfl))) (by decide) (t := .int) (t' := .int) (by decide) (by decide)))
  have F_15 := Fld.same W4 F_10
  obtain ⟨fs, hr, hrun, hended, hW, hsame⟩ := X4.leave (v := none) (fun _ => rfl)
  refine ⟨_, _, pre0 _ ?_, hrun, hended, _, _, rfl, ?_, ⟨_, rfl⟩, hW, hsame.mono (by decide) (by decide)⟩
  · refine sg0 _ ?_
    refine st1.trans ?_
    refine sg2 _ ?_
    refine st2 _ ?_
    refine sg4 _ ?_
    refine st3 _ ?_
    refine sg6 _ ?_
    refine st4 _ ?_
    show Steps p.tables e below (T4.setTop (mkF m 19 #[.val (.ref a1), .val (.int p2), .val (.int p3), .val (.int p4)] [])) _
    exact X4.returnOut hx Bd.returns (hb hby own_d1_19) hr
  · (show Q1 Z a1 p2 p3 p4 h0 n0 _ T4.heap _; rw [e4]; exact ⟨rfl, N4, K4, E_12, F_13, F_14, F_15⟩)
theorem own_d5_0 : decode prog_26_method_2_code 0 = .ok (.iconst 2, 1) := by decide +kernel
theorem own_d5_1 : decode prog_26_method_2_code 1 = .ok (.aload_n 0, 1) := by decide +kernel
theorem own_d5_2 : decode prog_26_method_2_code 2 = .ok (.getfield 7, 3) := by decide +kernel
theorem own_d5_5 : decode prog_26_method_2_code 5 = .ok (.imul, 1) := by decide +kernel
theorem own_d5_6 : decode prog_26_method_2_code 6 = .ok (.aload_n 0, 1) := by decide +kernel
theorem own_d5_7 : decode prog_26_method_2_code 7 = .ok (.getfield 13, 3) := by decide +kernel
theorem own_d5_10 : decode prog_26_method_2_code 10 = .ok (.iadd, 1) := by decide +kernel
theorem own_d5_11 : decode prog_26_method_2_code 11 = .ok (.iconst 2, 1) := by decide +kernel
theorem own_d5_12 : decode prog_26_method_2_code 12 = .ok (.aload_n 0, 1) := by decide +kernel
theorem own_d5_13 : decode prog_26_method_2_code 13 = .ok (.getfield 16, 3) := by decide +kernel
theorem own_d5_16 : decode prog_26_method_2_code 16 = .ok (.imul, 1) := by decide +kernel
theorem own_d5_17 : decode prog_26_method_2_code 17 = .ok (.iadd, 1) := by decide +kernel
theorem own_d5_18 : decode prog_26_method_2_code 18 = .ok (.ireturn, 1) := by decide +kernel
theorem own_ef5 (m : MethodId) (a1 : Addr) : entryFrame m #[(.ref a1)] 1 = mkF m 0 #[.val (.ref a1)] [] := by first | (simp [entryFrame, mkF, argsToLocals, Value.category]; done) | rfl
def Q5 (Z : State) (a1 : Addr) (w1 : Int32) (w2 : Int32) (w3 : Int32) (h0 : Heap) (n0 : Nat) (v : Option Value) (h : Heap) (L : List Loc) : Prop := v = some (.int (own_q w1 w2 w3)) ∧ Fr n0 L ∧ h = h0
set_option maxRecDepth 65536 in
set_option maxHeartbeats 40000000 in
theorem rm5 (l : Launch) (Z : State) (a0 : Array Value) (hw : ∀ d ∈ tables_1, d.before a0 Z = true) (ws : List Jvm.Cond) (a1 : Addr) (w1 : Int32) (w2 : Int32) (w3 : Int32) (h0 : Heap) (n0 : Nat) (Z0 : n0 ≤ h0.size) (F_hosts : Fld Z h0 a1 "com/example/cardea/cardea/check/Layout" "hosts" "I" (.int w1)) (F_ports : Fld Z h0 a1 "com/example/cardea/cardea/check/Layout" "ports" "I" (.int w2)) (F_switches : Fld Z h0 a1 "com/example/cardea/cardea/check/Layout" "switches" "I" (.int w3)) :
    MetFree l (⟨"com/example/cardea/cardea/check/Layout", "queues", "()I"⟩ : MethodName) (head1 (Jvm.Cond.code (⟨"com/example/cardea/cardea/check/Layout", "queues", "()I"⟩ : MethodName) prog_26_method_2_code 1 (some .int) :: ws) ({ frames := 0, cells := 0, slots := 0, locals := 0 } : Room)) (fun a U => a = #[(.ref a1)] ∧ Z.Warmed39 U.vm ∧ U.heap = h0) (fun _ _ _ _ _ => True) (fun _ U o U' => ∃ v L, o = .returned v ∧ Q5 Z a1 w1 w2 w3 h0 n0 v U'.heap L ∧ FrameEnd U o U' L ({ frames := 0, cells := 0, slots := 0, locals := 0 } : Room).cells ({ frames := 0, cells := 0, slots := 0, locals := 0 } : Room).slots) := by
  refine MetFree.of_bodySF (plainFor_of_name own_pn1) hisR ?_
  intro p e s m args below meth c s₁ Bd hml0 hP hK
  obtain ⟨rfl, hZ, hh⟩ := hP
  have hx := Bd.exec
  have hby := Bd.bytes
  have hml : c.maxLocals = 1 := hml0
  have hown : s.vm.findClass "com/example/cardea/cardea/check/Layout" = some m.cls := findClass_of_methodNamed Bd.named
  have hnm := (name_of_methodNamed Bd.named Bd.method).1
  have X0 : Stand p l e ({ frames := 0, cells := 0, slots := 0, locals := 0 } : Room) s m #[(.ref a1)] below meth c s₁ [] 0 0 := Stand.of_body Bd
  have e0 : s₁.heap = h0 := by rw [← hh, Bd.state]; rfl
  have N0 := Fr.nil n0
  have pre0 : ∀ t, Steps p.tables e below (s₁.setTop (mkF m 0 #[.val (.ref a1)] [])) t → Steps p.tables e below (s₁.setTop (entryFrame m #[(.ref a1)] 1)) t := fun t k => castTop (own_ef5 m a1) k
  have sg0 : ∀ t, Steps p.tables e below (s₁.setTop (mkF m 2 #[.val (.ref a1)] [(.ref a1), (.int (2 : Int32))])) t → Steps p.tables e below (s₁.setTop (mkF m 0 #[.val (.ref a1)] [])) t := by
    intro t kk
    show Steps p.tables e below (s₁.setTop (mkF m 0 #[.val (.ref a1)] [])) _
    refine XT.iconstV X0.here hx rfl (2 : Int32) (hb hby own_d5_0) (by decide) ?_
    show Steps p.tables e below (s₁.setTop (mkF m 1 #[.val (.ref a1)] [(.int (2 : Int32))])) _
    refine XS.aloadN X0.here hx rfl (hb hby own_d5_1) rfl rfl ?_
    exact kk
  obtain ⟨T1, X1, e1, st1⟩ := getF X0 hx hZ hown (host := "") (Or.inl (hw _ (List.mem_of_getElem? (i := 14) rfl))) Via.refl e0 F_hosts (g := (mkF m 2 #[.val (.ref a1)] [(.ref a1), (.int (2 : Int32))])) rfl rfl (hb hby own_d5_2)
  have sg2 : ∀ t, Steps p.tables e below (T1.setTop (mkF m 7 #[.val (.ref a1)] [(.ref a1), (.int ((2 : Int32) * w1))])) t → Steps p.tables e below (T1.setTop (mkF m 5 #[.val (.ref a1)] [(.int w1), (.int (2 : Int32))])) t := by
    intro t kk
    show Steps p.tables e below (T1.setTop (mkF m 5 #[.val (.ref a1)] [(.int w1), (.int (2 : Int32))])) _
    refine XS.imul X1.here hx rfl (hb hby own_d5_5) rfl ?_
    show Steps p.tables e below (T1.setTop (mkF m 6 #[.val (.ref a1)] [(.int ((2 : Int32) * w1))])) _
    refine XS.aloadN X1.here hx rfl (hb hby own_d5_6) rfl rfl ?_
    exact kk
  obtain ⟨T2, X2, e2, st2⟩ := getF X1 hx hZ hown (host := "") (Or.inl (hw _ (List.mem_of_getElem? (i := 16) rfl))) Via.refl e1 F_ports (g := (mkF m 7 #[.val (.ref a1)] [(.ref a1), (.int ((2 : Int32) * w1))])) rfl rfl (hb hby own_d5_7)
  have sg4 : ∀ t, Steps p.tables e below (T2.setTop (mkF m 13 #[.val (.ref a1)] [(.ref a1), (.int (2 : Int32)), (.int (((2 : Int32) * w1) + w2))])) t → Steps p.tables e below (T2.setTop (mkF m 10 #[.val (.ref a1)] [(.int w2), (.int ((2 : Int32) * w1))])) t := by
    intro t kk
    show Steps p.tables e below (T2.setTop (mkF m 10 #[.val (.ref a1)] [(.int w2), (.int ((2 : Int32) * w1))])) _
    refine XS.iadd X2.here hx rfl (hb hby own_d5_10) rfl ?_
    show Steps p.tables e below (T2.setTop (mkF m 11 #[.val (.ref a1)] [(.int (((2 : Int32) * w1) + w2))])) _
    refine XT.iconstV X2.here hx rfl (2 : Int32) (hb hby own_d5_11) (by decide) ?_
    show Steps p.tables e below (T2.setTop (mkF m 12 #[.val (.ref a1)] [(.int (2 : Int32)), (.int (((2 : Int32) * w1) + w2))])) _
    refine XS.aloadN X2.here hx rfl (hb hby own_d5_12) rfl rfl ?_
    exact kk
  obtain ⟨T3, X3, e3, st3⟩ := getF X2 hx hZ hown (host := "") (Or.inl (hw _ (List.mem_of_getElem? (i := 18) rfl))) Via.refl e2 F_switches (g := (mkF m 13 #[.val (.ref a1)] [(.ref a1), (.int (2 : Int32)), (.int (((2 : Int32) * w1) + w2))])) rfl rfl (hb hby own_d5_13)
  obtain ⟨fs, hr, hrun, hended, hW, hsame⟩ := X3.leave (v := some (.int (own_q w1 w2 w3))) (fun h => by rw [Bd.returns] at h; cases h)
  refine ⟨_, _, pre0 _ ?_, hrun, hended, _, _, rfl, ?_, ⟨_, rfl⟩, hW, hsame.mono (by decide) (by decide)⟩
  · refine sg0 _ ?_
    refine st1 _ ?_
    refine sg2 _ ?_
    refine st2 _ ?_
    refine sg4 _ ?_
    refine st3 _ ?_
    show Steps p.tables e below (T3.setTop (mkF m 16 #[.val (.ref a1)] [(.int w3), (.int (2 : Int32)), (.int (((2 : Int32) * w1) + w2))])) _
    refine XS.imul X3.here hx rfl (hb hby own_d5_16) rfl ?_
    show Steps p.tables e below (T3.setTop (mkF m 17 #[.val (.ref a1)] [(.int ((2 : Int32) * w3)), (.int (((2 : Int32) * w1) + w2))])) _
    refine XS.iadd X3.here hx rfl (hb hby own_d5_17) rfl ?_
    show Steps p.tables e below (T3.setTop (mkF m 18 #[.val (.ref a1)] [(.int ((((2 : Int32) * w1) + w2) + ((2 : Int32) * w3)))])) _
    exact retI X3 hx Bd.returns (hb hby own_d5_18) (by rw [show ((((2 : Int32) * w1) + w2) + ((2 : Int32) * w3)) = (own_q w1 w2 w3) from rfl]; exact hr)
  · exact ⟨rfl, N0, e3⟩
theorem own_d6_0 : decode prog_26_method_3_code 0 = .ok (.iconst 1, 1) := by decide +kernel
theorem own_d6_1 : decode prog_26_method_3_code 1 = .ok (.aload_n 0, 1) := by decide +kernel
theorem own_d6_2 : decode prog_26_method_3_code 2 = .ok (.getfield 16, 3) := by decide +kernel
theorem own_d6_5 : decode prog_26_method_3_code 5 = .ok (.iadd, 1) := by decide +kernel
theorem own_d6_6 : decode prog_26_method_3_code 6 = .ok (.ireturn, 1) := by decide +kernel
theorem own_ef6 (m : MethodId) (a1 : Addr) : entryFrame m #[(.ref a1)] 1 = mkF m 0 #[.val (.ref a1)] [] := by first | (simp [entryFrame, mkF, argsToLocals, Value.category]; done) | rfl
def Q6 (Z : State) (a1 : Addr) (w1 : Int32) (h0 : Heap) (n0 : Nat) (v : Option Value) (h : Heap) (L : List Loc) : Prop := v = some (.int (own_n w1)) ∧ Fr n0 L ∧ h = h0
set_option maxRecDepth 65536 in
set_option maxHeartbeats 40000000 in
theorem rm6 (l : Launch) (Z : State) (a0 : Array Value) (hw : ∀ d ∈ tables_1, d.before a0 Z = true) (ws : List Jvm.Cond) (a1 : Addr) (w1 : Int32) (h0 : Heap) (n0 : Nat) (Z0 : n0 ≤ h0.size) (F_switches : Fld Z h0 a1 "com/example/cardea/cardea/check/Layout" "switches" "I" (.int w1)) :
    MetFree l (⟨"com/example/cardea/cardea/check/Layout", "nodes", "()I"⟩ : MethodName) (head1 (Jvm.Cond.code (⟨"com/example/cardea/cardea/check/Layout", "nodes", "()I"⟩ : MethodName) prog_26_method_3_code 1 (some .int) :: ws) ({ frames := 0, cells := 0, slots := 0, locals := 0 } : Room)) (fun a U => a = #[(.ref a1)] ∧ Z.Warmed39 U.vm ∧ U.heap = h0) (fun _ _ _ _ _ => True) (fun _ U o U' => ∃ v L, o = .returned v ∧ Q6 Z a1 w1 h0 n0 v U'.heap L ∧ FrameEnd U o U' L ({ frames := 0, cells := 0, slots := 0, locals := 0 } : Room).cells ({ frames := 0, cells := 0, slots := 0, locals := 0 } : Room).slots) := by
  refine MetFree.of_bodySF (plainFor_of_name own_pn1) hisR ?_
  intro p e s m args below meth c s₁ Bd hml0 hP hK
  obtain ⟨rfl, hZ, hh⟩ := hP
  have hx := Bd.exec
  have hby := Bd.bytes
  have hml : c.maxLocals = 1 := hml0
  have hown : s.vm.findClass "com/example/cardea/cardea/check/Layout" = some m.cls := findClass_of_methodNamed Bd.named
  have hnm := (name_of_methodNamed Bd.named Bd.method).1
  have X0 : Stand p l e ({ frames := 0, cells := 0, slots := 0, locals := 0 } : Room) s m #[(.ref a1)] below meth c s₁ [] 0 0 := Stand.of_body Bd
  have e0 : s₁.heap = h0 := by rw [← hh, Bd.state]; rfl
  have N0 := Fr.nil n0
  have pre0 : ∀ t, Steps p.tables e below (s₁.setTop (mkF m 0 #[.val (.ref a1)] [])) t → Steps p.tables e below (s₁.setTop (entryFrame m #[(.ref a1)] 1)) t := fun t k => castTop (own_ef6 m a1) k
  have sg0 : ∀ t, Steps p.tables e below (s₁.setTop (mkF m 2 #[.val (.ref a1)] [(.ref a1), (.int (1 : Int32))])) t → Steps p.tables e below (s₁.setTop (mkF m 0 #[.val (.ref a1)] [])) t := by
    intro t kk
    show Steps p.tables e below (s₁.setTop (mkF m 0 #[.val (.ref a1)] [])) _
    refine XT.iconstV X0.here hx rfl (1 : Int32) (hb hby own_d6_0) (by decide) ?_
    show Steps p.tables e below (s₁.setTop (mkF m 1 #[.val (.ref a1)] [(.int (1 : Int32))])) _
    refine XS.aloadN X0.here hx rfl (hb hby own_d6_1) rfl rfl ?_
    exact kk
  obtain ⟨T1, X1, e1, st1⟩ := getF X0 hx hZ hown (host := "") (Or.inl (hw _ (List.mem_of_getElem? (i := 18) rfl))) Via.refl e0 F_switches (g := (mkF m 2 #[.val (.ref a1)] [(.ref a1), (.int (1 : Int32))])) rfl rfl (hb hby own_d6_2)
  obtain ⟨fs, hr, hrun, hended, hW, hsame⟩ := X1.leave (v := some (.int (own_n w1))) (fun h => by rw [Bd.returns] at h; cases h)
  refine ⟨_, _, pre0 _ ?_, hrun, hended, _, _, rfl, ?_, ⟨_, rfl⟩, hW, hsame.mono (by decide) (by decide)⟩
  · refine sg0 _ ?_
    refine st1 _ ?_
    show Steps p.tables e below (T1.setTop (mkF m 5 #[.val (.ref a1)] [(.int w1), (.int (1 : Int32))])) _
    refine XS.iadd X1.here hx rfl (hb hby own_d6_5) rfl ?_
    show Steps p.tables e below (T1.setTop (mkF m 6 #[.val (.ref a1)] [(.int ((1 : Int32) + w1))])) _
    exact retI X1 hx Bd.returns (hb hby own_d6_6) (by rw [show ((1 : Int32) + w1) = (own_n w1) from rfl]; exact hr)
  · exact ⟨rfl, N0, e1⟩
theorem own_pn2 : plainName "com/example/cardea/cardea/check/Summary$Numbering" = true := by first | (simp [plainName, overriddenIn]; done) | decide +kernel
theorem own_d7_0 : decode prog_63_method_2_code 0 = .ok (.iconst 2, 1) := by decide +kernel
theorem own_d7_1 : decode prog_63_method_2_code 1 = .ok (.aload_n 0, 1) := by decide +kernel
theorem own_d7_2 : decode prog_63_method_2_code 2 = .ok (.getfield 13, 3) := by decide +kernel
theorem own_d7_5 : decode prog_63_method_2_code 5 = .ok (.imul, 1) := by decide +kernel
theorem own_d7_6 : decode prog_63_method_2_code 6 = .ok (.iconst 2, 1) := by decide +kernel
theorem own_d7_7 : decode prog_63_method_2_code 7 = .ok (.aload_n 0, 1) := by decide +kernel
theorem own_d7_8 : decode prog_63_method_2_code 8 = .ok (.getfield 21, 3) := by decide +kernel
theorem own_d7_11 : decode prog_63_method_2_code 11 = .ok (.imul, 1) := by decide +kernel
theorem own_d7_12 : decode prog_63_method_2_code 12 = .ok (.iadd, 1) := by decide +kernel
theorem own_d7_13 : decode prog_63_method_2_code 13 = .ok (.ireturn, 1) := by decide +kernel
theorem own_ef7 (m : MethodId) (a1 : Addr) : entryFrame m #[(.ref a1)] 1 = mkF m 0 #[.val (.ref a1)] [] := by first | (simp [entryFrame, mkF, argsToLocals, Value.category]; done) | rfl
def Q7 (Z : State) (a1 : Addr) (w1 : Int32) (w2 : Int32) (h0 : Heap) (n0 : Nat) (v : Option Value) (h : Heap) (L : List Loc) : Prop := v = some (.int ((2 : Int32) * w1 + (2 : Int32) * w2)) ∧ Fr n0 L ∧ h = h0
set_option maxRecDepth 65536 in
set_option maxHeartbeats 40000000 in
theorem rm7 (l : Launch) (Z : State) (a0 : Array Value) (hw : ∀ d ∈ tables_1, d.before a0 Z = true) (ws : List Jvm.Cond) (a1 : Addr) (w1 : Int32) (w2 : Int32) (h0 : Heap) (n0 : Nat) (Z0 : n0 ≤ h0.size) (F_queues : Fld Z h0 a1 "com/example/cardea/cardea/check/Summary$Numbering" "queues" "I" (.int w1)) (F_nodes : Fld Z h0 a1 "com/example/cardea/cardea/check/Summary$Numbering" "nodes" "I" (.int w2)) :
    MetFree l (⟨"com/example/cardea/cardea/check/Summary$Numbering", "size", "()I"⟩ : MethodName) (head1 (Jvm.Cond.code (⟨"com/example/cardea/cardea/check/Summary$Numbering", "size", "()I"⟩ : MethodName) prog_63_method_2_code 1 (some .int) :: ws) ({ frames := 0, cells := 0, slots := 0, locals := 0 } : Room)) (fun a U => a = #[(.ref a1)] ∧ Z.Warmed39 U.vm ∧ U.heap = h0) (fun _ _ _ _ _ => True) (fun _ U o U' => ∃ v L, o = .returned v ∧ Q7 Z a1 w1 w2 h0 n0 v U'.heap L ∧ FrameEnd U o U' L ({ frames := 0, cells := 0, slots := 0, locals := 0 } : Room).cells ({ frames := 0, cells := 0, slots := 0, locals := 0 } : Room).slots) := by
  refine MetFree.of_bodySF (plainFor_of_name own_pn2) hisR ?_
  intro p e s m args below meth c s₁ Bd hml0 hP hK
  obtain ⟨rfl, hZ, hh⟩ := hP
  have hx := Bd.exec
  have hby := Bd.bytes
  have hml : c.maxLocals = 1 := hml0
  have hown : s.vm.findClass "com/example/cardea/cardea/check/Summary$Numbering" = some m.cls := findClass_of_methodNamed Bd.named
  have hnm := (name_of_methodNamed Bd.named Bd.method).1
  have X0 : Stand p l e ({ frames := 0, cells := 0, slots := 0, locals := 0 } : Room) s m #[(.ref a1)] below meth c s₁ [] 0 0 := Stand.of_body Bd
  have e0 : s₁.heap = h0 := by rw [← hh, Bd.state]; rfl
  have N0 := Fr.nil n0
  have pre0 : ∀ t, Steps p.tables e below (s₁.setTop (mkF m 0 #[.val (.ref a1)] [])) t → Steps p.tables e below (s₁.setTop (entryFrame m #[(.ref a1)] 1)) t := fun t k => castTop (own_ef7 m a1) k
  have sg0 : ∀ t, Steps p.tables e below (s₁.setTop (mkF m 2 #[.val (.ref a1)] [(.ref a1), (.int (2 : Int32))])) t → Steps p.tables e below (s₁.setTop (mkF m 0 #[.val (.ref a1)] [])) t := by
    intro t kk
    show Steps p.tables e below (s₁.setTop (mkF m 0 #[.val (.ref a1)] [])) _
    refine XT.iconstV X0.here hx rfl (2 : Int32) (hb hby own_d7_0) (by decide) ?_
    show Steps p.tables e below (s₁.setTop (mkF m 1 #[.val (.ref a1)] [(.int (2 : Int32))])) _
    refine XS.aloadN X0.here hx rfl (hb hby own_d7_1) rfl rfl ?_
    exact kk
  obtain ⟨T1, X1, e1, st1⟩ := getF X0 hx hZ hown (host := "") (Or.inl (hw _ (List.mem_of_getElem? (i := 32) rfl))) Via.refl e0 F_queues (g := (mkF m 2 #[.val (.ref a1)] [(.ref a1), (.int (2 : Int32))])) rfl rfl (hb hby own_d7_2)
  have sg2 : ∀ t, Steps p.tables e below (T1.setTop (mkF m 8 #[.val (.ref a1)] [(.ref a1), (.int (2 : Int32)), (.int ((2 : Int32) * w1))])) t → Steps p.tables e below (T1.setTop (mkF m 5 #[.val (.ref a1)] [(.int w1), (.int (2 : Int32))])) t := by
    intro t kk
    show Steps p.tables e below (T1.setTop (mkF m 5 #[.val (.ref a1)] [(.int w1), (.int (2 : Int32))])) _
    refine XS.imul X1.here hx rfl (hb hby own_d7_5) rfl ?_
    show Steps p.tables e below (T1.setTop (mkF m 6 #[.val (.ref a1)] [(.int ((2 : Int32) * w1))])) _
    refine XT.iconstV X1.here hx rfl (2 : Int32) (hb hby own_d7_6) (by decide) ?_
    show Steps p.tables e below (T1.setTop (mkF m 7 #[.val (.ref a1)] [(.int (2 : Int32)), (.int ((2 : Int32) * w1))])) _
    refine XS.aloadN X1.here hx rfl (hb hby own_d7_7) rfl rfl ?_
    exact kk
  obtain ⟨T2, X2, e2, st2⟩ := getF X1 hx hZ hown (host := "") (Or.inl (hw _ (List.mem_of_getElem? (i := 39) rfl))) Via.refl e1 F_nodes (g := (mkF m 8 #[.val (.ref a1)] [(.ref a1), (.int (2 : Int32)), (.int ((2 : Int32) * w1))])) rfl rfl (hb hby own_d7_8)
  obtain ⟨fs, hr, hrun, hended, hW, hsame⟩ := X2.leave (v := some (.int ((2 : Int32) * w1 + (2 : Int32) * w2))) (fun h => by rw [Bd.returns] at h; cases h)
  refine ⟨_, _, pre0 _ ?_, hrun, hended, _, _, rfl, ?_, ⟨_, rfl⟩, hW, hsame.mono (by decide) (by decide)⟩
  · refine sg0 _ ?_
    refine st1 _ ?_
    refine sg2 _ ?_
    refine st2 _ ?_
    show Steps p.tables e below (T2.setTop (mkF m 11 #[.val (.ref a1)] [(.int w2), (.int (2 : Int32)), (.int ((2 : Int32) * w1))])) _
    refine XS.imul X2.here hx rfl (hb hby own_d7_11) rfl ?_
    show Steps p.tables e below (T2.setTop (mkF m 12 #[.val (.ref a1)] [(.int ((2 : Int32) * w2)), (.int ((2 : Int32) * w1))])) _
    refine XS.iadd X2.here hx rfl (hb hby own_d7_12) rfl ?_
    show Steps p.tables e below (T2.setTop (mkF m 13 #[.val (.ref a1)] [(.int (((2 : Int32) * w1) + ((2 : Int32) * w2)))])) _
    exact retI X2 hx Bd.returns (hb hby own_d7_13) (by rw [show (((2 : Int32) * w1) + ((2 : Int32) * w2)) = ((2 : Int32) * w1 + (2 : Int32) * w2) from rfl]; exact hr)
  · exact ⟨rfl, N0, e2⟩
theorem own_d8_0 : decode prog_63_method_8_code 0 = .ok (.iload_n 1, 1) := by decide +kernel
theorem own_d8_1 : decode prog_63_method_8_code 1 = .ok (.aload_n 0, 1) := by decide +kernel
theorem own_d8_2 : decode prog_63_method_8_code 2 = .ok (.getfield 13, 3) := by decide +kernel
theorem own_d8_5 : decode prog_63_method_8_code 5 = .ok (.aload_n 0, 1) := by decide +kernel
theorem own_d8_6 : decode prog_63_method_8_code 6 = .ok (.getfield 21, 3) := by decide +kernel
theorem own_d8_9 : decode prog_63_method_8_code 9 = .ok (.iadd, 1) := by decide +kernel
theorem own_d8_10 : decode prog_63_method_8_code 10 = .ok (.if_icmp .lt 22, 3) := by decide +kernel
theorem own_d8_13 : decode prog_63_method_8_code 13 = .ok (.iload_n 1, 1) := by decide +kernel
theorem own_d8_14 : decode prog_63_method_8_code 14 = .ok (.aload_n 0, 1) := by decide +kernel
theorem own_d8_15 : decode prog_63_method_8_code 15 = .ok (.getfield 13, 3) := by decide +kernel
theorem own_d8_18 : decode prog_63_method_8_code 18 = .ok (.iconst 2, 1) := by decide +kernel
theorem own_d8_19 : decode prog_63_method_8_code 19 = .ok (.aload_n 0, 1) := by decide +kernel
theorem own_d8_20 : decode prog_63_method_8_code 20 = .ok (.getfield 21, 3) := by decide +kernel
theorem own_d8_23 : decode prog_63_method_8_code 23 = .ok (.imul, 1) := by decide +kernel
theorem own_d8_24 : decode prog_63_method_8_code 24 = .ok (.iadd, 1) := by decide +kernel
theorem own_d8_25 : decode prog_63_method_8_code 25 = .ok (.if_icmp .ge 7, 3) := by decide +kernel
theorem own_d8_28 : decode prog_63_method_8_code 28 = .ok (.iconst 1, 1) := by decide +kernel
theorem own_d8_29 : decode prog_63_method_8_code 29 = .ok (.goto 4, 3) := by decide +kernel
theorem own_d8_32 : decode prog_63_method_8_code 32 = .ok (.iconst 0, 1) := by decide +kernel
theorem own_d8_33 : decode prog_63_method_8_code 33 = .ok (.ireturn, 1) := by decide +kernel
theorem own_ef8 (m : MethodId) (a1 : Addr) (p2 : Int32) : entryFrame m #[(.ref a1), (.int p2)] 2 = mkF m 0 #[.val (.ref a1), .val (.int p2)] [] := by first | (simp [entryFrame, mkF, argsToLocals, Value.category]; done) | rfl
def Q8 (Z : State) (a1 : Addr) (p2 : Int32) (w1 : Int32) (w2 : Int32) (h0 : Heap) (n0 : Nat) (v : Option Value) (h : Heap) (L : List Loc) : Prop := v = some (.int (own_isw w1 w2 p2)) ∧ Fr n0 L ∧ h = h0
set_option maxRecDepth 65536 in
set_option maxHeartbeats 40000000 in
theorem rm8 (l : Launch) (Z : State) (a0 : Array Value) (hw : ∀ d ∈ tables_1, d.before a0 Z = true) (ws : List Jvm.Cond) (a1 : Addr) (p2 : Int32) (w1 : Int32) (w2 : Int32) (h0 : Heap) (n0 : Nat) (Z0 : n0 ≤ h0.size) (F_queues : Fld Z h0 a1 "com/example/cardea/cardea/check/Summary$Numbering" "queues" "I" (.int w1)) (F_nodes : Fld Z h0 a1 "com/example/cardea/cardea/check/Summary$Numbering" "nodes" "I" (.int w2)) :
    MetFree l (⟨"com/example/cardea/cardea/check/Summary$Numbering", "isWrite", "(I)Z"⟩ : MethodName) (head1 (Jvm.Cond.code (⟨"com/example/cardea/cardea/check/Summary$Numbering", "isWrite", "(I)Z"⟩ : MethodName) prog_63_method_8_code 2 (some .boolean) :: ws) ({ frames := 0, cells := 0, slots := 0, locals := 0 } : Room)) (fun a U => a = #[(.ref a1), (.int p2)] ∧ Z.Warmed39 U.vm ∧ U.heap = h0) (fun _ _ _ _ _ => True) (fun _ U o U' => ∃ v L, o = .returned v ∧ Q8 Z a1 p2 w1 w2 h0 n0 v U'.heap L ∧ FrameEnd U o U' L ({ frames := 0, cells := 0, slots := 0, locals := 0 } : Room).cells ({ frames := 0, cells := 0, slots := 0, locals := 0 } : Room).slots) := by
  refine MetFree.of_bodySF (plainFor_of_name own_pn2) hisR ?_
  intro p e s m args below meth c s₁ Bd hml0 hP hK
  obtain ⟨rfl, hZ, hh⟩ := hP
  have hx := Bd.exec
  have hby := Bd.bytes
  have hml : c.maxLocals = 2 := hml0
  have hown : s.vm.findClass "com/example/cardea/cardea/check/Summary$Numbering" = some m.cls := findClass_of_methodNamed Bd.named
  have hnm := (name_of_methodNamed Bd.named Bd.method).1
  have X0 : Stand p l e ({ frames := 0, cells := 0, slots := 0, locals := 0 } : Room) s m #[(.ref a1), (.int p2)] below meth c s₁ [] 0 0 := Stand.of_body Bd
  have e0 : s₁.heap = h0 := by rw [← hh, Bd.state]; rfl
  have N0 := Fr.nil n0
  have pre0 : ∀ t, Steps p.tables e below (s₁.setTop (mkF m 0 #[.val (.ref a1), .val (.int p2)] [])) t → Steps p.tables e below (s₁.setTop (entryFrame m #[(.ref a1), (.int p2)] 2)) t := fun t k => castTop (own_ef8 m a1 p2) k
  have sg0 : ∀ t, Steps p.tables e below (s₁.setTop (mkF m 2 #[.val (.ref a1), .val (.int p2)] [(.ref a1), (.int p2)])) t → Steps p.tables e below (s₁.setTop (mkF m 0 #[.val (.ref a1), .val (.int p2)] [])) t := by
    intro t kk
    show Steps p.tables e below (s₁.setTop (mkF m 0 #[.val (.ref a1), .val (.int p2)] [])) _
    refine XS.iloadN X0.here hx rfl (hb hby own_d8_0) rfl ?_
    show Steps p.tables e below (s₁.setTop (mkF m 1 #[.val (.ref a1), .val (.int p2)] [(.int p2)])) _
    refine XS.aloadN X0.here hx rfl (hb hby own_d8_1) rfl rfl ?_
    exact kk
  obtain ⟨T1, X1, e1, st1⟩ := getF X0 hx hZ hown (host := "") (Or.inl (hw _ (List.mem_of_getElem? (i := 32) rfl))) Via.refl e0 F_queues (g := (mkF m 2 #[.val (.ref a1), .val (.int p2)] [(.ref a1), (.int p2)])) rfl rfl (hb hby own_d8_2)
  have sg2 : ∀ t, Steps p.tables e below (T1.setTop (mkF m 6 #[.val (.ref a1), .val (.int p2)] [(.ref a1), (.int w1), (.int p2)])) t → Steps p.tables e below (T1.setTop (mkF m 5 #[.val (.ref a1), .val (.int p2)] [(.int w1), (.int p2)])) t := by
    intro t kk
    show Steps p.tables e below (T1.setTop (mkF m 5 #[.val (.ref a1), .val (.int p2)] [(.int w1), (.int p2)])) _
    refine XS.aloadN X1.here hx rfl (hb hby own_d8_5) rfl rfl ?_
    exact kk
  obtain ⟨T2, X2, e2, st2⟩ := getF X1 hx hZ hown (host := "") (Or.inl (hw _ (List.mem_of_getElem? (i := 39) rfl))) Via.refl e1 F_nodes (g := (mkF m 6 #[.val (.ref a1), .val (.int p2)] [(.ref a1), (.int w1), (.int p2)])) rfl rfl (hb hby own_d8_6)
  have sg4 : ∀ t, Steps p.tables e below (T2.setTop (mkF m 10 #[.val (.ref a1), .val (.int p2)] [(.int (w1 + w2)), (.int p2)])) t → Steps p.tables e below (T2.setTop (mkF m 9 #[.val (.ref a1), .val (.int p2)] [(.int w2), (.int w1), (.int p2)])) t := by
    intro t kk
    show Steps p.tables e below (T2.setTop (mkF m 9 #[.val (.ref a1), .val (.int p2)] [(.int w2), (.int w1), (.int p2)])) _
    refine XS.iadd X2.here hx rfl (hb hby own_d8_9) rfl ?_
    exact kk
  by_cases hc10 : p2 < (w1 + w2)
  · skip
    have sg5 : ∀ t, Steps p.tables e below (T2.setTop (mkF m 32 #[.val (.ref a1), .val (.int p2)] [])) t → Steps p.tables e below (T2.setTop (mkF m 10 #[.val (.ref a1), .val (.int p2)] [(.int (w1 + w2)), (.int p2)])) t := by
      intro t kk
      show Steps p.tables e below (T2.setTop (mkF m 10 #[.val (.ref a1), .val (.int p2)] [(.int (w1 + w2)), (.int p2)])) _
      refine XS.icmpYes X2.here hx rfl (pc0 := 10) (pc' := 32) rfl (hb hby own_d8_10) rfl (XT.ii_lt_t hc10) (by decide) (by decide) ?_
      exact kk
    obtain ⟨fs, hr, hrun, hended, hW, hsame⟩ := X2.leave (v := some (.int (own_isw w1 w2 p2))) (fun h => by rw [Bd.returns] at h; cases h)
    refine ⟨_, _, pre0 _ ?_, hrun, hended, _, _, rfl, ?_, ⟨_, rfl⟩, hW, hsame.mono (by decide) (by decide)⟩
    · refine sg0 _ ?_
      refine st1 _ ?_
      refine sg2 _ ?_
      refine st2 _ ?_
      refine sg4 _ ?_
      refine sg5 _ ?_
      show Steps p.tables e below (T2.setTop (mkF m 32 #[.val (.ref a1), .val (.int p2)] [])) _
      refine XT.iconstV X2.here hx rfl (0 : Int32) (hb hby own_d8_32) (by decide) ?_
      show Steps p.tables e below (T2.setTop (mkF m 33 #[.val (.ref a1), .val (.int p2)] [(.int (0 : Int32))])) _
      exact retN X2 hx (t := .boolean) Bd.returns (by simp) (hb hby own_d8_33) (by rw [show nar .boolean (0 : Int32) = (own_isw w1 w2 p2) from (by simp only [own_isw, if_pos hc10]; rfl)]; exact hr)
    · exact ⟨rfl, N0, e2⟩
  · skip
    have sg5 : ∀ t, Steps p.tables e below (T2.setTop (mkF m 13 #[.val (.ref a1), .val (.int p2)] [])) t → Steps p.tables e below (T2.setTop (mkF m 10 #[.val (.ref a1), .val (.int p2)] [(.int (w1 + w2)), (.int p2)])) t := by
      intro t kk
      show Steps p.tables e below (T2.setTop (mkF m 10 #[.val (.ref a1), .val (.int p2)] [(.int (w1 + w2)), (.int p2)])) _
      refine XS.icmpNo X2.here hx rfl (hb hby own_d8_10) rfl (XT.ii_lt_f hc10) ?_
      exact kk
    have sg6 : ∀ t, Steps p.tables e below (T2.setTop (mkF m 15 #[.val (.ref a1), .val (.int p2)] [(.ref a1), (.int p2)])) t → Steps p.tables e below (T2.setTop (mkF m 13 #[.val (.ref a1), .val (.int p2)] [])) t := by
      intro t kk
      show Steps p.tables e below (T2.setTop (mkF m 13 #[.val (.ref a1), .val (.int p2)] [])) _
      refine XS.iloadN X2.here hx rfl (hb hby own_d8_13) rfl ?_
      show Steps p.tables e below (T2.setTop (mkF m 14 #[.val (.ref a1), .val (.int p2)] [(.int p2)])) _
      refine XS.aloadN X2.here hx rfl (hb hby own_d8_14) rfl rfl ?_
      exact kk
    obtain ⟨T3, X3, e3, st3⟩ := getF X2 hx hZ hown (host := "") (Or.inl (hw _ (List.mem_of_getElem? (i := 32) rfl))) Via.refl e2 F_queues (g := (mkF m 15 #[.val (.ref a1), .val (.int p2)] [(.ref a1), (.int p2)])) rfl rfl (hb hby own_d8_15)
    have sg8 : ∀ t, Steps p.tables e below (T3.setTop (mkF m 20 #[.val (.ref a1), .val (.int p2)] [(.ref a1), (.int (2 : Int32)), (.int w1), (.int p2)])) t → Steps p.tables e below (T3.setTop (mkF m 18 #[.val (.ref a1), .val (.int p2)] [(.int w1), (.int p2)])) t := by
      intro t kk
      show Steps p.tables e below (T3.setTop (mkF m 18 #[.val (.ref a1), .val (.int p2)] [(.int w1), (.int p2)])) _
      refine XT.iconstV X3.here hx rfl (2 : Int32) (hb hby own_d8_18) (by decide) ?_
      show Steps p.tables e below (T3.setTop (mkF m 19 #[.val (.ref a1), .val (.int p2)] [(.int (2 : Int32)), (.int w1), (.int p2)])) _
      refine XS.aloadN X3.here hx rfl (hb hby own_d8_19) rfl rfl ?_
      exact kk
    obtain ⟨T4, X4, e4, st4⟩ := getF X3 hx hZ hown (host := "") (Or.inl (hw _ (List.mem_of_getElem? (i := 39) rfl))) Via.refl e3 F_nodes (g := (mkF m 20 #[.val (.ref a1), .val (.int p2)] [(.ref a1), (.int (2 : Int32)), (.int w1), (.int p2)])) rfl rfl (hb hby own_d8_20)
    obtain ⟨fs, hr, hrun, hended, hW, hsame⟩ := X4.leave (v := some (.int (own_isw w1 w2 p2))) (fun h => by rw [Bd.returns] at h; cases h)
    refine ⟨_, _, pre0 _ ?_, hrun, hended, _, _, rfl, ?_, ⟨_, rfl⟩, hW, hsame.mono (by decide) (by decide)⟩
    · refine sg0 _ ?_
      refine st1 _ ?_
      refine sg2 _ ?_
      refine st2 _ ?_
      refine sg4 _ ?_
      refine sg5 _ ?_
      refine sg6 _ ?_
      refine st3 _ ?_
      refine sg8 _ ?_
      refine st4 _ ?_
      show Steps p.tables e below (T4.setTop (mkF m 23 #[.val (.ref a1), .val (.int p2)] [(.int w2), (.int (2 : Int32)), (.int w1), (.int p2)])) _
      refine XS.imul X4.here hx rfl (hb hby own_d8_23) rfl ?_
      show Steps p.tables e below (T4.setTop (mkF m 24 #[.val (.ref a1), .val (.int p2)] [(.int ((2 : Int32) * w2)), (.int w1), (.int p2)])) _
      refine XS.iadd X4.here hx rfl (hb hby own_d8_24) rfl ?_
      show Steps p.tables e below (T4.setTop (mkF m 25 #[.val (.ref a1), .val (.int p2)] [(.int (w1 + ((2 : Int32) * w2))), (.int p2)])) _
      by_cases hc25 : p2 < (w1 + ((2 : Int32) * w2))
      · refine XS.icmpNo X4.here hx rfl (hb hby own_d8_25) rfl (XT.ii_ge_f hc25) ?_
        show Steps p.tables e below (T4.setTop (mkF m 28 #[.val (.ref a1), .val (.int p2)] [])) _
        refine XT.iconstV X4.here hx rfl (1 : Int32) (hb hby own_d8_28) (by decide) ?_
        show Steps p.tables e below (T4.setTop (mkF m 29 #[.val (.ref a1), .val (.int p2)] [(.int (1 : Int32))])) _
        refine XS.goto X4.here hx rfl (pc0 := 29) (pc' := 33) rfl (hb hby own_d8_29) (by decide) (by decide) ?_
        show Steps p.tables e below (T4.setTop (mkF m 33 #[.val (.ref a1), .val (.int p2)] [(.int (1 : Int32))])) _
        exact retN X4 hx (t := .boolean) Bd.returns (by simp) (hb hby own_d8_33) (by rw [show nar .boolean (1 : Int32) = (own_isw w1 w2 p2) from (by simp only [own_isw, if_neg hc10, if_pos hc25]; rfl)]; exact hr)
      · refine XS.icmpYes X4.here hx rfl (pc0 := 25) (pc' := 32) rfl (hb hby own_d8_25) rfl (XT.ii_ge_t hc25) (by decide) (by decide) ?_
        show Steps p.tables e below (T4.setTop (mkF m 32 #[.val (.ref a1), .val (.int p2)] [])) _
        refine XT.iconstV X4.here hx rfl (0 : Int32) (hb hby own_d8_32) (by decide) ?_
        show Steps p.tables e below (T4.setTop (mkF m 33 #[.val (.ref a1), .val (.int p2)] [(.int (0 : Int32))])) _
        exact retN X4 hx (t := .boolean) Bd.returns (by simp) (hb hby own_d8_33) (by rw [show nar .boolean (0 : Int32) = (own_isw w1 w2 p2) from (by simp only [own_isw, if_neg hc10, if_neg hc25]; rfl)]; exact hr)
    · exact ⟨rfl, N0, e4⟩
theorem own_pd1 : parseMethodDescriptor "()I" = some ⟨[], some .int⟩ := by decide +kernel
theorem own_d4_0 : decode prog_63_method_1_code 0 = .ok (.aload_n 0, 1) := by decide +kernel
theorem own_d4_1 : decode prog_63_method_1_code 1 = .ok (.invokespecial 1, 3) := by decide +kernel
theorem own_d4_4 : decode prog_63_method_1_code 4 = .ok (.aload_n 0, 1) := by decide +kernel
theorem own_d4_5 : decode prog_63_method_1_code 5 = .ok (.aload_n 1, 1) := by decide +kernel
theorem own_d4_6 : decode prog_63_method_1_code 6 = .ok (.invokevirtual 7, 3) := by decide +kernel
theorem own_d4_9 : decode prog_63_method_1_code 9 = .ok (.putfield 13, 3) := by decide +kernel
theorem own_d4_12 : decode prog_63_method_1_code 12 = .ok (.aload_n 0, 1) := by decide +kernel
theorem own_d4_13 : decode prog_63_method_1_code 13 = .ok (.aload_n 1, 1) := by decide +kernel
theorem own_d4_14 : decode prog_63_method_1_code 14 = .ok (.invokevirtual 18, 3) := by decide +kernel
theorem own_d4_17 : decode prog_63_method_1_code 17 = .ok (.putfield 21, 3) := by decide +kernel
theorem own_d4_20 : decode prog_63_method_1_code 20 = .ok (.aload_n 0, 1) := by decide +kernel
theorem own_d4_21 : decode prog_63_method_1_code 21 = .ok (.aload_n 0, 1) := by decide +kernel
theorem own_d4_22 : decode prog_63_method_1_code 22 = .ok (.invokevirtual 23, 3) := by decide +kernel
theorem own_d4_25 : decode prog_63_method_1_code 25 = .ok (.bipush 63, 2) := by decide +kernel
theorem own_d4_27 : decode prog_63_method_1_code 27 = .ok (.iadd, 1) := by decide +kernel
theorem own_d4_28 : decode prog_63_method_1_code 28 = .ok (.bipush 64, 2) := by decide +kernel
theorem own_d4_30 : decode prog_63_method_1_code 30 = .ok (.idiv, 1) := by decide +kernel
theorem own_d4_31 : decode prog_63_method_1_code 31 = .ok (.putfield 26, 3) := by decide +kernel
theorem own_d4_34 : decode prog_63_method_1_code 34 = .ok (.return_, 1) := by decide +kernel
theorem own_ef4 (m : MethodId) (a1 : Addr) (a2 : Addr) : entryFrame m #[(.ref a1), (.ref a2)] 2 = mkF m 0 #[.val (.ref a1), .val (.ref a2)] [] := by first | (simp [entryFrame, mkF, argsToLocals, Value.category]; done) | rfl
def Q4 (Z : State) (a1 : Addr) (a2 : Addr) (w1 : Int32) (w2 : Int32) (w3 : Int32) (h0 : Heap) (n0 : Nat) (v : Option Value) (h : Heap) (L : List Loc) : Prop := v = none ∧ Fr n0 L ∧ Keep h0 h [a1] ∧ Exa Z h a1 "com/example/cardea/cardea/check/Summary$Numbering" ∧ Fld Z h a1 "com/example/cardea/cardea/check/Summary$Numbering" "queues" "I" (.int (own_q w1 w2 w3)) ∧ Fld Z h a1 "com/example/cardea/cardea/check/Summary$Numbering" "nodes" "I" (.int (own_n w3))
set_option maxRecDepth 65536 in
set_option maxHeartbeats 40000000 in
theorem rm4 (l : Launch) (Z : State) (a0 : Array Value) (hw : ∀ d ∈ tables_1, d.before a0 Z = true) (ws : List Jvm.Cond) (a1 : Addr) (a2 : Addr) (w1 : Int32) (w2 : Int32) (w3 : Int32) (h0 : Heap) (n0 : Nat) (Z0 : n0 ≤ h0.size) (E_a1 : Exa Z h0 a1 "com/example/cardea/cardea/check/Summary$Numbering") (F_queues : Fld Z h0 a1 "com/example/cardea/cardea/check/Summary$Numbering" "queues" "I" (.int (0 : Int32))) (F_nodes : Fld Z h0 a1 "com/example/cardea/cardea/check/Summary$Numbering" "nodes" "I" (.int (0 : Int32))) (F_words : Fld Z h0 a1 "com/example/cardea/cardea/check/Summary$Numbering" "words" "I" (.int (0 : Int32))) (g_a1 : n0 ≤ a1) (E_a2 : Exa Z h0 a2 "com/example/cardea/cardea/check/Layout") (G_hosts : Fld Z h0 a2 "com/example/cardea/cardea/check/Layout" "hosts" "I" (.int w1)) (G_ports : Fld Z h0 a2 "com/example/cardea/cardea/check/Layout" "ports" "I" (.int w2)) (G_switches : Fld Z h0 a2 "com/example/cardea/cardea/check/Layout" "switches" "I" (.int w3)) :
    MetFree l (⟨"com/example/cardea/cardea/check/Summary$Numbering", "<init>", "(Lcom/example/cardea/cardea/check/Layout;)V"⟩ : MethodName) (head1 (Jvm.Cond.code (⟨"com/example/cardea/cardea/check/Summary$Numbering", "<init>", "(Lcom/example/cardea/cardea/check/Layout;)V"⟩ : MethodName) prog_63_method_1_code 2 none :: ws) ({ frames := 1, cells := 0, slots := 0, locals := 20 } : Room)) (fun a U => a = #[(.ref a1), (.ref a2)] ∧ Z.Warmed39 U.vm ∧ U.heap = h0) (fun _ _ _ _ _ => True) (fun _ U o U' => ∃ v L, o = .returned v ∧ Q4 Z a1 a2 w1 w2 w3 h0 n0 v U'.heap L ∧ FrameEnd U o U' L ({ frames := 1, cells := 0, slots := 0, locals := 20 } : Room).cells ({ frames := 1, cells := 0, slots := 0, locals := 20 } : Room).slots) := by
  refine MetFree.of_bodySF (plainFor_of_name own_pn2) hisR ?_
  intro p e s m args below meth c s₁ Bd hml0 hP hK
  obtain ⟨rfl, hZ, hh⟩ := hP
  have hx := Bd.exec
  have hby := Bd.bytes
  have hml : c.maxLocals = 2 := hml0
  have hown : s.vm.findClass "com/example/cardea/cardea/check/Summary$Numbering" = some m.cls := findClass_of_methodNamed Bd.named
  have hnm := (name_of_methodNamed Bd.named Bd.method).1
  have X0 : Stand p l e ({ frames := 1, cells := 0, slots := 0, locals := 20 } : Room) s m #[(.ref a1), (.ref a2)] below meth c s₁ [] 0 0 := Stand.of_body Bd
  have e0 : s₁.heap = h0 := by rw [← hh, Bd.state]; rfl
  have N0 := Fr.nil n0
  have pre0 : ∀ t, Steps p.tables e below (s₁.setTop (mkF m 0 #[.val (.ref a1), .val (.ref a2)] [])) t → Steps p.tables e below (s₁.setTop (entryFrame m #[(.ref a1), (.ref a2)] 2)) t := fun t k => castTop (own_ef4 m a1 a2) k
  have sg0 : ∀ t, Steps p.tables e below (s₁.setTop (mkF m 1 #[.val (.ref a1), .val (.ref a2)] [(.ref a1)])) t → Steps p.tables e below (s₁.setTop (mkF m 0 #[.val (.ref a1), .val (.ref a2)] [])) t := by
    intro t kk
    show Steps p.tables e below (s₁.setTop (mkF m 0 #[.val (.ref a1), .val (.ref a2)] [])) _
    refine XS.aloadN X0.here hx rfl (hb hby own_d4_0) rfl rfl ?_
    exact kk
  obtain ⟨T1, X1, e1, st1⟩ := initO X0 hx hZ hown (hw _ (List.mem_of_getElem? (i := 26) rfl)) (hw _ (List.mem_of_getElem? (i := 12) rfl)) (hw _ (List.mem_of_getElem? (i := 13) rfl)) e0 (g := (mkF m 1 #[.val (.ref a1), .val (.ref a2)] [(.ref a1)])) rfl (by rw [hml]; rfl) rfl (hb hby own_d4_1) (by decide) (W := 0) (by show 2 * 0 + _ ≤ _; exact Nat.le_of_eq rfl) (by decide)
  have sg2 : ∀ t, Steps p.tables e below (T1.setTop (mkF m 6 #[.val (.ref a1), .val (.ref a2)] [(.ref a2), (.ref a1)])) t → Steps p.tables e below (T1.setTop (mkF m 4 #[.val (.ref a1), .val (.ref a2)] [])) t := by
    intro t kk
    show Steps p.tables e below (T1.setTop (mkF m 4 #[.val (.ref a1), .val (.ref a2)] [])) _
    refine XS.aloadN X1.here hx rfl (hb hby own_d4_4) rfl rfl ?_
    show Steps p.tables e below (T1.setTop (mkF m 5 #[.val (.ref a1), .val (.ref a2)] [(.ref a1)])) _
    refine XS.aloadN X1.here hx rfl (hb hby own_d4_5) rfl rfl ?_
    exact kk
  obtain ⟨cq2, kq2, qa2, qb2, qc2⟩ := isOf hZ e1 E_a2
  obtain ⟨_, _, ⟨T2, L2, k2, n2⟩, -, X2, ⟨Lc2, hQ2, l2, y2, z2⟩, st2⟩ := X1.virtualBack hx (y := (⟨"com/example/cardea/cardea/check/Layout", "queues", "()I"⟩ : MethodName)) (z := (⟨"com/example/cardea/cardea/check/Layout", "queues", "()I"⟩ : MethodName)) hown (mvT hZ (hw _ (List.mem_of_getElem? (i := 27) rfl))) (mvT hZ (hw _ (List.mem_of_getElem? (i := 28) rfl))) (notFace_of_selects (args := #[]) (mvT hZ (hw _ (List.mem_of_getElem? (i := 30) rfl)))) (mvT hZ (hw _ (List.mem_of_getElem? (i := 30) rfl))) (mvT hZ (hw _ (List.mem_of_getElem? (i := 29) rfl))) (by decide) (backOf (W := 1) (rm5 l Z a0 hw [] a2 w1 w2 w3 h0 n0 Z0 G_hosts G_ports G_switches) hZ (hw _ (List.mem_of_getElem? (i := 31) rfl)) (hw _ (List.mem_of_getElem? (i := 2) rfl)) (by decide) (by decide)) qa2 qc2 (g := (mkF m 6 #[.val (.ref a1), .val (.ref a2)] [(.ref a2), (.ref a1)])) rfl (by rw [hml]; rfl) (Steps.refl _) (argsL := []) (rest := [(.ref a1)]) (lenOf own_pd1 rfl) rfl (by show 2 * 0 + _ ≤ _; exact Nat.le_of_eq rfl) (hb hby own_d4_6) (fun _ _ => ⟨rfl, e1, (by decide : 0 + 0 ≤ _), (by decide : 0 + 0 ≤ _)⟩)
  dsimp only [Pt.U, Pt.locs, Pt.cells, Pt.slots] at X2 l2 y2 z2 st2 hQ2
  subst l2 y2 z2
  obtain ⟨rfl, N2q, e2⟩ := hQ2
  have N2 := Fr.app N0 N2q
  obtain ⟨T3, h3, X3, e3, W3, st3⟩ := putF X2 hx hZ hown (host := "") (Or.inl (hw _ (List.mem_of_getElem? (i := 32) rfl))) Via.refl e2 F_queues E_a1 (Or.inr ⟨(hw _ (List.mem_of_getElem? (i := 33) rfl)), rfl, hnm⟩) (hw _ (List.mem_of_getElem? (i := 21) rfl)) (ty := .int) (by decide) rfl rfl (g := (mkF m 9 #[.val (.ref a1), .val (.ref a2)] [(.int (own_q w1 w2 w3)), (.ref a1)])) rfl rfl (hb hby own_d4_9)
  have N3 := Fr.snoc X3 N2 g_a1
  have K3 : Keep h0 h3 [a1] := (Keep.refl h0 [a1]).wr W3 (Or.inl (List.mem_of_getElem? (i := 0) rfl))
  have Z_1 : n0 ≤ h3.size := Nat.le_trans Z0 (Keep.of_wr W3).1
  have E_2 := Exa.wr W3 E_a1
  have E_3 := Exa.wr W3 E_a2
  have F_4 := Fld.same W3 F_queues
  have F_5 := Fld.other W3 F_nodes (Or.inr (slot_ne (Or.inr (hw _ (List.mem_of_getElem? (i := 40) rfl))) (Or.inr (hw _ (List.mem_of_getElem? (i := 33) rfl))) (by decide) (t := .int) (t' := .int) (by decide) (by decide)))
  have F_6 := Fld.other W3 F_words (Or.inr (slot_ne (Or.inr (hw _ (List.mem_of_getElem? (i := 47) rfl))) (Or.inr (hw _ (List.mem_of_getElem? (i := 33) rfl))) (by decide) (t := .int) (t' := .int) (by decide) (by decide)))
  have F_7 := Fld.other W3 G_hosts (Or.inl (Exa.ne E_a2 E_a1 (by decide)))
  have F_8 := Fld.other W3 G_ports (Or.inl (Exa.ne E_a2 E_a1 (by decide)))
  have F_9 := Fld.other W3 G_switches (Or.inl (Exa.ne E_a2 E_a1 (by decide)))
  have sg5 : ∀ t, Steps p.tables e below (T3.setTop (mkF m 14 #[.val (.ref a1), .val (.ref a2)] [(.ref a2), (.ref a1)])) t → Steps p.tables e below (T3.setTop (mkF m 12 #[.val (.ref a1), .val (.ref a2)] [])) t := by
    intro t kk
    show Steps p.tables e below (T3.setTop (mkF m 12 #[.val (.ref a1), .val (.ref a2)] [])) _
    refine XS.aloadN X3.here hx rfl (hb hby own_d4_12) rfl rfl ?_
    show Steps p.tables e below (T3.setTop (mkF m 13 #[.val (.ref a1), .val (.ref a2)] [(.ref a1)])) _
    refine XS.aloadN X3.here hx rfl (hb hby own_d4_13) rfl rfl ?_
    exact kk
  obtain ⟨cq4, kq4, qa4, qb4, qc4⟩ := isOf hZ e3 E_3
  obtain ⟨_, _, ⟨T4, L4, k4, n4⟩, -, X4, ⟨Lc4, hQ4, l4, y4, z4⟩, st4⟩ := X3.virtualBack hx (y := (⟨"com/example/cardea/cardea/check/Layout", "nodes", "()I"⟩ : MethodName)) (z := (⟨"com/example/cardea/cardea/check/Layout", "nodes", "()I"⟩ : MethodName)) hown (mvT hZ (hw _ (List.mem_of_getElem? (i := 34) rfl))) (mvT hZ (hw _ (List.mem_of_getElem? (i := 35) rfl))) (notFace_of_selects (args := #[]) (mvT hZ (hw _ (List.mem_of_getElem? (i := 37) rfl)))) (mvT hZ (hw _ (List.mem_of_getElem? (i := 37) rfl))) (mvT hZ (hw _ (List.mem_of_getElem? (i := 36) rfl))) (by decide) (backOf (W := 1) (rm6 l Z a0 hw [] a2 w3 h3 n0 Z_1 F_9) hZ (hw _ (List.mem_of_getElem? (i := 38) rfl)) (hw _ (List.mem_of_getElem? (i := 2) rfl)) (by decide) (by decide)) qa4 qc4 (g := (mkF m 14 #[.val (.ref a1), .val (.ref a2)] [(.ref a2), (.ref a1)])) rfl (by rw [hml]; rfl) (Steps.refl _) (argsL := []) (rest := [(.ref a1)]) (lenOf own_pd1 rfl) rfl (by show 2 * 0 + _ ≤ _; exact Nat.le_of_eq rfl) (hb hby own_d4_14) (fun _ _ => ⟨rfl, e3, (by decide : 0 + 0 ≤ _), (by decide : 0 + 0 ≤ _)⟩)
  dsimp only [Pt.U, Pt.locs, Pt.cells, Pt.slots] at X4 l4 y4 z4 st4 hQ4
  subst l4 y4 z4
  obtain ⟨rfl, N4q, e4⟩ := hQ4
  have N4 := Fr.app N3 N4q
  obtain ⟨T5, h5, X5, e5, W5, st5⟩ := putF X4 hx hZ hown (host := "") (Or.inl (hw _ (List.mem_of_getElem? (i := 39) rfl))) Via.refl e4 F_5 E_2 (Or.inr ⟨(hw _ (List.mem_of_getElem? (i := 40) rfl)), rfl, hnm⟩) (hw _ (List.mem_of_getElem? (i := 21) rfl)) (ty := .int) (by decide) rfl rfl (g := (mkF m 17 #[.val (.ref a1), .val (.ref a2)] [(.int (own_n w3)), (.ref a1)])) rfl rfl (hb hby own_d4_17)
  have N5 := Fr.snoc X5 N4 g_a1
  have K5 : Keep h0 h5 [a1] := K3.wr W5 (Or.inl (List.mem_of_getElem? (i := 0) rfl))
  have Z_10 : n0 ≤ h5.size := Nat.le_trans Z_1 (Keep.of_wr W5).1
  have E_11 := Exa.wr W5 E_2
  have E_12 := Exa.wr W5 E_3
  have F_13 := Fld.other W5 F_4 (Or.inr (slot_ne (Or.inr (hw _ (List.mem_of_getElem? (i := 33) rfl))) (Or.inr (hw _ (List.mem_of_getElem? (i := 40) rfl))) (by decide) (t := .int) (t' := .int) (by decide) (by decide)))
  have F_14 := Fld.same W5 F_5
  have F_15 := Fld.other W5 F_6 (Or.inr (slot_ne (Or.inr (hw _ (List.mem_of_getElem? (i := 47) rfl))) (Or.inr (hw _ (List.mem_of_getElem? (i := 40) rfl))) (by decide) (t := .int) (t' := .int) (by decide) (by decide)))
  have F_16 := Fld.other W5 F_7 (Or.inl (Exa.ne E_3 E_2 (by decide)))
  have F_17 := Fld.other W5 F_8 (Or.inl (Exa.ne E_3 E_2 (by decide)))
  have F_18 := Fld.other W5 F_9 (Or.inl (Exa.ne E_3 E_2 (by decide)))
  have sg8 : ∀ t, Steps p.tables e below (T5.setTop (mkF m 22 #[.val (.ref a1), .val (.ref a2)] [(.ref a1), (.ref a1)])) t → Steps p.tables e below (T5.setTop (mkF m 20 #[.val (.ref a1), .val (.ref a2)] [])) t := by
    intro t kk
    show Steps p.tables e below (T5.setTop (mkF m 20 #[.val (.ref a1), .val (.ref a2)] [])) _
    refine XS.aloadN X5.here hx rfl (hb hby own_d4_20) rfl rfl ?_
    show Steps p.tables e below (T5.setTop (mkF m 21 #[.val (.ref a1), .val (.ref a2)] [(.ref a1)])) _
    refine XS.aloadN X5.here hx rfl (hb hby own_d4_21) rfl rfl ?_
    exact kk
  obtain ⟨cq6, kq6, qa6, qb6, qc6⟩ := isOf hZ e5 E_11
  obtain ⟨_, _, ⟨T6, L6, k6, n6⟩, -, X6, ⟨Lc6, hQ6, l6, y6, z6⟩, st6⟩ := X5.virtualBack hx (y := (⟨"com/example/cardea/cardea/check/Summary$Numbering", "size", "()I"⟩ : MethodName)) (z := (⟨"com/example/cardea/cardea/check/Summary$Numbering", "size", "()I"⟩ : MethodName)) hown (mvT hZ (hw _ (List.mem_of_getElem? (i := 41) rfl))) (mvT hZ (hw _ (List.mem_of_getElem? (i := 42) rfl))) (notFace_of_selects (args := #[]) (mvT hZ (hw _ (List.mem_of_getElem? (i := 44) rfl)))) (mvT hZ (hw _ (List.mem_of_getElem? (i := 44) rfl))) (mvT hZ (hw _ (List.mem_of_getElem? (i := 43) rfl))) (by decide) (backOf (W := 1) (rm7 l Z a0 hw [] a1 (own_q w1 w2 w3) (own_n w3) h5 n0 Z_10 F_13 F_14) hZ (hw _ (List.mem_of_getElem? (i := 45) rfl)) (hw _ (List.mem_of_getElem? (i := 22) rfl)) (by decide) (by decide)) qa6 qc6 (g := (mkF m 22 #[.val (.ref a1), .val (.ref a2)] [(.ref a1), (.ref a1)])) rfl (by rw [hml]; rfl) (Steps.refl _) (argsL := []) (rest := [(.ref a1)]) (lenOf own_pd1 rfl) rfl (by show 2 * 0 + _ ≤ _; exact Nat.le_of_eq rfl) (hb hby own_d4_22) (fun _ _ => ⟨rfl, e5, (by decide : 0 + 0 ≤ _), (by decide : 0 + 0 ≤ _)⟩)
  dsimp only [Pt.U, Pt.locs, Pt.cells, Pt.slots] at X6 l6 y6 z6 st6 hQ6
  subst l6 y6 z6
  obtain ⟨rfl, N6q, e6⟩ := hQ6
  have N6 := Fr.app N5 N6q
  have sg10 : ∀ t, Steps p.tables e below (T6.setTop (mkF m 31 #[.val (.ref a1), .val (.ref a2)] [(.int ((((2 : Int32) * (own_q w1 w2 w3) + (2 : Int32) * (own_n w3)) + (63 : Int32)) / (64 : Int32))), (.ref a1)])) t → Steps p.tables e below (T6.setTop (mkF m 25 #[.val (.ref a1), .val (.ref a2)] [(.int ((2 : Int32) * (own_q w1 w2 w3) + (2 : Int32) * (own_n w3))), (.ref a1)])) t := by
    intro t kk
    show Steps p.tables e below (T6.setTop (mkF m 25 #[.val (.ref a1), .val (.ref a2)] [(.int ((2 : Int32) * (own_q w1 w2 w3) + (2 : Int32) * (own_n w3))), (.ref a1)])) _
    refine XT.bipushV X6.here hx rfl (63 : Int32) (hb hby own_d4_25) (by decide) ?_
    show Steps p.tables e below (T6.setTop (mkF m 27 #[.val (.ref a1), .val (.ref a2)] [(.int (63 : Int32)), (.int ((2 : Int32) * (own_q w1 w2 w3) + (2 : Int32) * (own_n w3))), (.ref a1)])) _
    refine XS.iadd X6.here hx rfl (hb hby own_d4_27) rfl ?_
    show Steps p.tables e below (T6.setTop (mkF m 28 #[.val (.ref a1), .val (.ref a2)] [(.int (((2 : Int32) * (own_q w1 w2 w3) + (2 : Int32) * (own_n w3)) + (63 : Int32))), (.ref a1)])) _
    refine XT.bipushV X6.here hx rfl (64 : Int32) (hb hby own_d4_28) (by decide) ?_
    show Steps p.tables e below (T6.setTop (mkF m 30 #[.val (.ref a1), .val (.ref a2)] [(.int (64 : Int32)), (.int (((2 : Int32) * (own_q w1 w2 w3) + (2 : Int32) * (own_n w3)) + (63 : Int32))), (.ref a1)])) _
    refine XS.idiv X6.here hx rfl (hb hby own_d4_30) rfl (by decide) ?_
    exact kk
  obtain ⟨T7, h7, X7, e7, W7, st7⟩ := putF X6 hx hZ hown (host := "") (Or.inl (hw _ (List.mem_of_getElem? (i := 46) rfl))) Via.refl e6 F_15 E_11 (Or.inr ⟨(hw _ (List.mem_of_getElem? (i := 47) rfl)), rfl, hnm⟩) (hw _ (List.mem_of_getElem? (i := 21) rfl)) (ty := .int) (by decide) rfl rfl (g := (mkF m 31 #[.val (.ref a1), .val (.ref a2)] [(.int ((((2 : Int32) * (own_q w1 w2 w3) + (2 : Int32) * (own_n w3)) + (63 : Int32)) / (64 : Int32))), (.ref a1)])) rfl rfl (hb hby own_d4_31)
  have N7 := Fr.snoc X7 N6 g_a1
  have K7 : Keep h0 h7 [a1] := K5.wr W7 (Or.inl (List.mem_of_getElem? (i := 0) rfl))
  have Z_19 : n0 ≤ h7.size := Nat.le_trans Z_10 (Keep.of_wr W7).1
  have E_20 := Exa.wr W7 E_11
  have E_21 := Exa.wr W7 E_12
  have F_22 := Fld.other W7 F_13 (Or.inr (slot_ne (Or.inr (hw _ (List.mem_of_getElem? (i := 33) rfl))) (Or.inr (hw _ (List.mem_of_getElem? (i := 47) rfl))) (by decide) (t := .int) (t' := .int) (by decide) (by decide)))
  have F_23 := Fld.other W7 F_14 (Or.inr (slot_ne (Or.inr (hw _ (List.mem_of_getElem? (i := 40) rfl))) (Or.inr (hw _ (List.mem_of_getElem? (i := 47) rfl))) (by decide) (t := .int) (t' := .int) (by decide) (by decide)))
  have F_24 := Fld.same W7 F_15
  have F_25 := Fld.other W7 F_16 (Or.inl (Exa.ne E_12 E_11 (by decide)))
  have F_26 := Fld.other W7 F_17 (Or.inl (Exa.ne E_12 E_11 (by decide)))
  have F_27 := Fld.other W7 F_18 (Or.inl (Exa.ne E_12 E_11 (by decide)))
  obtain ⟨fs, hr, hrun, hended, hW, hsame⟩ := X7.leave (v := none) (fun _ => rfl)
  refine ⟨_, _, pre0 _ ?_, hrun, hended, _, _, rfl, ?_, ⟨_, rfl⟩, hW, hsame.mono (by decide) (by decide)⟩
  · refine sg0 _ ?_
    refine st1 _ ?_
    refine sg2 _ ?_
    refine st2.trans ?_
    refine st3 _ ?_
    refine sg5 _ ?_
    refine st4.trans ?_
    refine st5 _ ?_
    refine sg8 _ ?_
    refine st6.trans ?_
    refine sg10 _ ?_
    refine st7 _ ?_
    show Steps p.tables e below (T7.setTop (mkF m 34 #[.val (.ref a1), .val (.ref a2)] [])) _
    exact X7.returnOut hx Bd.returns (hb hby own_d4_34) hr
  · (show Q4 Z a1 a2 w1 w2 w3 h0 n0 _ T7.heap _; rw [e7]; exact ⟨rfl, N7, K7, E_20, F_22, F_23⟩)
theorem own_pd2 : parseMethodDescriptor "(III)V" = some ⟨[.int, .int, .int], none⟩ := by decide +kernel
theorem own_pd3 : parseMethodDescriptor "(Lcom/example/cardea/cardea/check/Layout;)V" = some ⟨[(.object "com/example/cardea/cardea/check/Layout")], none⟩ := by decide +kernel
theorem own_pd4 : parseMethodDescriptor "(I)Z" = some ⟨[.int], some .boolean⟩ := by decide +kernel
theorem own_pn3 : plainName "com/example/cardea/cardea/check/NumberingIsWritePinLaw" = true := by first | (simp [plainName, overriddenIn]; done) | decide +kernel
theorem own_ef0 (m : MethodId) (p1 : Int32) (p2 : Int32) (p3 : Int32) (p4 : Int32) (p5 : Int32) : entryFrame m #[(.int p1), (.int p2), (.int p3), (.int p4), (.int p5)] maxLocals = mkF m 0 #[.val (.int p1), .val (.int p2), .val (.int p3), .val (.int p4), .val (.int p5), .unset, .unset, .unset, .unset, .unset, .unset, .unset, .unset, .unset, .unset, .unset] [] := by first | (simp [entryFrame, mkF, argsToLocals, Value.category, maxLocals]; done) | rfl
def Q0 (Z : State) (p1 : Int32) (p2 : Int32) (p3 : Int32) (p4 : Int32) (p5 : Int32)  (h0 : Heap) (n0 : Nat) (v : Option Value) (h : Heap) (L : List Loc) : Prop := v = some (.int (1 : Int32)) ∧ Fr n0 L
set_option maxRecDepth 65536 in
set_option maxHeartbeats 40000000 in
theorem rm0 (l : Launch) (Z : State) (a0 : Array Value) (hw : ∀ d ∈ tables_1, d.before a0 Z = true) (ws : List Jvm.Cond) (p1 : Int32) (p2 : Int32) (p3 : Int32) (p4 : Int32) (p5 : Int32)  (h0 : Heap) (n0 : Nat) (Z0 : n0 ≤ h0.size)  :
    MetFree l x (head1 (Jvm.Cond.code x code maxLocals ret :: ws) room_1) (fun a U => a = #[(.int p1), (.int p2), (.int p3), (.int p4), (.int p5)] ∧ Z.Warmed39 U.vm ∧ U.heap = h0) (fun _ _ _ _ _ => True) (fun _ U o U' => ∃ v L, o = .returned v ∧ Q0 Z p1 p2 p3 p4 p5  h0 n0 v U'.heap L ∧ FrameEnd U o U' L room_1.cells room_1.slots) := by
  refine MetFree.of_bodySF (plainFor_of_name own_pn3) hisR ?_
  intro p e s m args below meth c s₁ Bd hml0 hP hK
  obtain ⟨rfl, hZ, hh⟩ := hP
  have hx := Bd.exec
  have hby := Bd.bytes
  have hml : c.maxLocals = 16 := hml0
  have hown : s.vm.findClass "com/example/cardea/cardea/check/NumberingIsWritePinLaw" = some m.cls := findClass_of_methodNamed Bd.named
  have hnm := (name_of_methodNamed Bd.named Bd.method).1
  have X0 : Stand p l e room_1 s m #[(.int p1), (.int p2), (.int p3), (.int p4), (.int p5)] below meth c s₁ [] 0 0 := Stand.of_body Bd
  have e0 : s₁.heap = h0 := by rw [← hh, Bd.state]; rfl
  have N0 := Fr.nil n0
  have pre0 : ∀ t, Steps p.tables e below (s₁.setTop (mkF m 0 #[.val (.int p1), .val (.int p2), .val (.int p3), .val (.int p4), .val (.int p5), .unset, .unset, .unset, .unset, .unset, .unset, .unset, .unset, .unset, .unset, .unset] [])) t → Steps p.tables e below (s₁.setTop (entryFrame m #[(.int p1), (.int p2), (.int p3), (.int p4), (.int p5)] maxLocals)) t := fun t k => castTop (own_ef0 m p1 p2 p3 p4 p5) k
  obtain ⟨v1, hv1⟩ : ∃ z : Int32, z = (p1 &&& (7 : Int32)) := ⟨_, rfl⟩
  obtain ⟨v2, hv2⟩ : ∃ z : Int32, z = (p2 &&& (7 : Int32)) := ⟨_, rfl⟩
  obtain ⟨v3, hv3⟩ : ∃ z : Int32, z = (p3 &&& (7 : Int32)) := ⟨_, rfl⟩
  have sg0 : ∀ t, Steps p.tables e below (s₁.setTop (mkF m 18 #[.val (.int p1), .val (.int p2), .val (.int p3), .val (.int p4), .val (.int p5), .val (.int v1), .val (.int v2), .val (.int v3), .unset, .unset, .unset, .unset, .unset, .unset, .unset, .unset] [])) t → Steps p.tables e below (s₁.setTop (mkF m 0 #[.val (.int p1), .val (.int p2), .val (.int p3), .val (.int p4), .val (.int p5), .unset, .unset, .unset, .unset, .unset, .unset, .unset, .unset, .unset, .unset, .unset] [])) t := by
    intro t kk
    show Steps p.tables e below (s₁.setTop (mkF m 0 #[.val (.int p1), .val (.int p2), .val (.int p3), .val (.int p4), .val (.int p5), .unset, .unset, .unset, .unset, .unset, .unset, .unset, .unset, .unset, .unset, .unset] [])) _
    refine XS.iloadN X0.here hx rfl (hb hby at_0) rfl ?_
    show Steps p.tables e below (s₁.setTop (mkF m 1 #[.val (.int p1), .val (.int p2), .val (.int p3), .val (.int p4), .val (.int p5), .unset, .unset, .unset, .unset, .unset, .unset, .unset, .unset, .unset, .unset, .unset] [(.int p1)])) _
    refine XT.bipushV X0.here hx rfl (7 : Int32) (hb hby at_1) (by decide) ?_
    show Steps p.tables e below (s₁.setTop (mkF m 3 #[.val (.int p1), .val (.int p2), .val (.int p3), .val (.int p4), .val (.int p5), .unset, .unset, .unset, .unset, .unset, .unset, .unset, .unset, .unset, .unset, .unset] [(.int (7 : Int32)), (.int p1)])) _
    refine XS.iand X0.here hx rfl (hb hby at_3) rfl ?_
    show Steps p.tables e below (s₁.setTop (mkF m 4 #[.val (.int p1), .val (.int p2), .val (.int p3), .val (.int p4), .val (.int p5), .unset, .unset, .unset, .unset, .unset, .unset, .unset, .unset, .unset, .unset, .unset] [(.int (p1 &&& (7 : Int32)))])) _
    refine XS.istore X0.here hx rfl (hb hby at_4) rfl (l' := #[.val (.int p1), .val (.int p2), .val (.int p3), .val (.int p4), .val (.int p5), .val (.int v1), .unset, .unset, .unset, .unset, .unset, .unset, .unset, .unset, .unset, .unset]) (by rw [hv1]; rfl) ?_
    show Steps p.tables e below (s₁.setTop (mkF m 6 #[.val (.int p1), .val (.int p2), .val (.int p3), .val (.int p4), .val (.int p5), .val (.int v1), .unset, .unset, .unset, .unset, .unset, .unset, .unset, .unset, .unset, .unset] [])) _
    refine XS.iloadN X0.here hx rfl (hb hby at_6) rfl ?_
    show Steps p.tables e below (s₁.setTop (mkF m 7 #[.val (.int p1), .val (.int p2), .val (.int p3), .val (.int p4), .val (.int p5), .val (.int v1), .unset, .unset, .unset, .unset, .unset, .unset, .unset, .unset, .unset, .unset] [(.int p2)])) _
    refine XT.bipushV X0.here hx rfl (7 : Int32) (hb hby at_7) (by decide) ?_
    show Steps p.tables e below (s₁.setTop (mkF m 9 #[.val (.int p1), .val (.int p2), .val (.int p3), .val (.int p4), .val (.int p5), .val (.int v1), .unset, .unset, .unset, .unset, .unset, .unset, .unset, .unset, .unset, .unset] [(.int (7 : Int32)), (.int p2)])) _
    refine XS.iand X0.here hx rfl (hb hby at_9) rfl ?_
    show Steps p.tables e below (s₁.setTop (mkF m 10 #[.val (.int p1), .val (.int p2), .val (.int p3), .val (.int p4), .val (.int p5), .val (.int v1), .unset, .unset, .unset, .unset, .unset, .unset, .unset, .unset, .unset, .unset] [(.int (p2 &&& (7 : Int32)))])) _
    refine XS.istore X0.here hx rfl (hb hby at_10) rfl (l' := #[.val (.int p1), .val (.int p2), .val (.int p3), .val (.int p4), .val (.int p5), .val (.int v1), .val (.int v2), .unset, .unset, .unset, .unset, .unset, .unset, .unset, .unset, .unset]) (by rw [hv2]; rfl) ?_
    show Steps p.tables e below (s₁.setTop (mkF m 12 #[.val (.int p1), .val (.int p2), .val (.int p3), .val (.int p4), .val (.int p5), .val (.int v1), .val (.int v2), .unset, .unset, .unset, .unset, .unset, .unset, .unset, .unset, .unset] [])) _
    refine XS.iloadN X0.here hx rfl (hb hby at_12) rfl ?_
    show Steps p.tables e below (s₁.setTop (mkF m 13 #[.val (.int p1), .val (.int p2), .val (.int p3), .val (.int p4), .val (.int p5), .val (.int v1), .val (.int v2), .unset, .unset, .unset, .unset, .unset, .unset, .unset, .unset, .unset] [(.int p3)])) _
    refine XT.bipushV X0.here hx rfl (7 : Int32) (hb hby at_13) (by decide) ?_
    show Steps p.tables e below (s₁.setTop (mkF m 15 #[.val (.int p1), .val (.int p2), .val (.int p3), .val (.int p4), .val (.int p5), .val (.int v1), .val (.int v2), .unset, .unset, .unset, .unset, .unset, .unset, .unset, .unset, .unset] [(.int (7 : Int32)), (.int p3)])) _
    refine XS.iand X0.here hx rfl (hb hby at_15) rfl ?_
    show Steps p.tables e below (s₁.setTop (mkF m 16 #[.val (.int p1), .val (.int p2), .val (.int p3), .val (.int p4), .val (.int p5), .val (.int v1), .val (.int v2), .unset, .unset, .unset, .unset, .unset, .unset, .unset, .unset, .unset] [(.int (p3 &&& (7 : Int32)))])) _
    refine XS.istore X0.here hx rfl (hb hby at_16) rfl (l' := #[.val (.int p1), .val (.int p2), .val (.int p3), .val (.int p4), .val (.int p5), .val (.int v1), .val (.int v2), .val (.int v3), .unset, .unset, .unset, .unset, .unset, .unset, .unset, .unset]) (by rw [hv3]; rfl) ?_
    exact kk
  obtain ⟨T1, h1, X1, e1, E1, A1, D1, -, st1⟩ := newO X0 hx hZ hown (hw _ (List.mem_of_getElem? (i := 0) rfl)) (hw _ (List.mem_of_getElem? (i := 1) rfl)) (hw _ (List.mem_of_getElem? (i := 2) rfl)) e0 (g := (mkF m 18 #[.val (.int p1), .val (.int p2), .val (.int p3), .val (.int p4), .val (.int p5), .val (.int v1), .val (.int v2), .val (.int v3), .unset, .unset, .unset, .unset, .unset, .unset, .unset, .unset] [])) rfl (hb hby at_18) (by decide) (by decide)
  obtain ⟨b1, g1⟩ : ∃ z, z = h0.size := ⟨_, rfl⟩
  rw [← g1] at A1 D1 st1
  have g_b1 : n0 ≤ b1 := Nat.le_trans Z0 (Nat.le_of_eq g1.symm)
  have Z_1 : n0 ≤ h1.size := Nat.le_trans Z0 E1.1
  have F_2 : Fld Z h1 b1 "com/example/cardea/cardea/check/Layout" "hosts" "I" (.int (0 : Int32)) := D1 (Or.inr (hw _ (List.mem_of_getElem? (i := 15) rfl))) (ty := .int) (by decide)
  have F_3 : Fld Z h1 b1 "com/example/cardea/cardea/check/Layout" "ports" "I" (.int (0 : Int32)) := D1 (Or.inr (hw _ (List.mem_of_getElem? (i := 17) rfl))) (ty := .int) (by decide)
  have F_4 : Fld Z h1 b1 "com/example/cardea/cardea/check/Layout" "switches" "I" (.int (0 : Int32)) := D1 (Or.inr (hw _ (List.mem_of_getElem? (i := 19) rfl))) (ty := .int) (by decide)
  have sg2 : ∀ t, Steps p.tables e below (T1.setTop (mkF m 28 #[.val (.int p1), .val (.int p2), .val (.int p3), .val (.int p4), .val (.int p5), .val (.int v1), .val (.int v2), .val (.int v3), .unset, .unset, .unset, .unset, .unset, .unset, .unset, .unset] [(.int v3), (.int v2), (.int v1), (.ref b1), (.ref b1)])) t → Steps p.tables e below (T1.setTop (mkF m 21 #[.val (.int p1), .val (.int p2), .val (.int p3), .val (.int p4), .val (.int p5), .val (.int v1), .val (.int v2), .val (.int v3), .unset, .unset, .unset, .unset, .unset, .unset, .unset, .unset] [(.ref b1)])) t := by
    intro t kk
    show Steps p.tables e below (T1.setTop (mkF m 21 #[.val (.int p1), .val (.int p2), .val (.int p3), .val (.int p4), .val (.int p5), .val (.int v1), .val (.int v2), .val (.int v3), .unset, .unset, .unset, .unset, .unset, .unset, .unset, .unset] [(.ref b1)])) _
    refine XS.dup X1.here hx rfl (hb hby at_21) rfl rfl ?_
    show Steps p.tables e below (T1.setTop (mkF m 22 #[.val (.int p1), .val (.int p2), .val (.int p3), .val (.int p4), .val (.int p5), .val (.int v1), .val (.int v2), .val (.int v3), .unset, .unset, .unset, .unset, .unset, .unset, .unset, .unset] [(.ref b1), (.ref b1)])) _
    refine XS.iload X1.here hx rfl (hb hby at_22) rfl ?_
    show Steps p.tables e below (T1.setTop (mkF m 24 #[.val (.int p1), .val (.int p2), .val (.int p3), .val (.int p4), .val (.int p5), .val (.int v1), .val (.int v2), .val (.int v3), .unset, .unset, .unset, .unset, .unset, .unset, .unset, .unset] [(.int v1), (.ref b1), (.ref b1)])) _
    refine XS.iload X1.here hx rfl (hb hby at_24) rfl ?_
    show Steps p.tables e below (T1.setTop (mkF m 26 #[.val (.int p1), .val (.int p2), .val (.int p3), .val (.int p4), .val (.int p5), .val (.int v1), .val (.int v2), .val (.int v3), .unset, .unset, .unset, .unset, .unset, .unset, .unset, .unset] [(.int v2), (.int v1), (.ref b1), (.ref b1)])) _
    refine XS.iload X1.here hx rfl (hb hby at_26) rfl ?_
    exact kk
  obtain ⟨_, _, ⟨T2, L2, k2, n2⟩, -, X2, ⟨Lc2, hQ2, l2, y2, z2⟩, st2⟩ := X1.specialBack hx (y := (⟨"com/example/cardea/cardea/check/Layout", "<init>", "(III)V"⟩ : MethodName)) rfl hown (mvT hZ (hw _ (List.mem_of_getElem? (i := 3) rfl))) (mvT hZ (hw _ (List.mem_of_getElem? (i := 4) rfl))) (mvT hZ (hw _ (List.mem_of_getElem? (i := 5) rfl))) (by decide) (backOf (W := 1) (rm1 l Z a0 hw [] b1 v1 v2 v3  h1 n0 Z_1 A1 F_2 F_3 F_4 g_b1) hZ (hw _ (List.mem_of_getElem? (i := 5) rfl)) (hw _ (List.mem_of_getElem? (i := 2) rfl)) (by decide) (by decide)) (g := (mkF m 28 #[.val (.int p1), .val (.int p2), .val (.int p3), .val (.int p4), .val (.int p5), .val (.int v1), .val (.int v2), .val (.int v3), .unset, .unset, .unset, .unset, .unset, .unset, .unset, .unset] [(.int v3), (.int v2), (.int v1), (.ref b1), (.ref b1)])) rfl (by rw [hml]; rfl) (Steps.refl _) (a := b1) (argsL := [(.int v1), (.int v2), (.int v3)]) (rest := [(.ref b1)]) (lenOf own_pd2 rfl) rfl (by show 2 * 0 + _ ≤ _; exact Nat.le_of_eq rfl) (hb hby at_28) (fun _ _ => ⟨rfl, e1, (by decide : 1 + 0 ≤ _), (by decide : 3 + 0 ≤ _)⟩)
  dsimp only [Pt.U, Pt.locs, Pt.cells, Pt.slots] at X2 l2 y2 z2 st2 hQ2
  subst l2 y2 z2
  obtain ⟨rfl, N2q, KK, EE, FA, FR, FC⟩ := hQ2
  have Z_5 : n0 ≤ T2.heap.size := Nat.le_trans Z_1 KK.1
  have E_6 := Exa.keep A1 KK
  have N2 := Fr.app N0 N2q
  have sg4 : ∀ t, Steps p.tables e below (T2.setTop (mkF m 33 #[.val (.int p1), .val (.int p2), .val (.int p3), .val (.int p4), .val (.int p5), .val (.int v1), .val (.int v2), .val (.int v3), .val (.ref b1), .unset, .unset, .unset, .unset, .unset, .unset, .unset] [])) t → Steps p.tables e below (T2.setTop (mkF m 31 #[.val (.int p1), .val (.int p2), .val (.int p3), .val (.int p4), .val (.int p5), .val (.int v1), .val (.int v2), .val (.int v3), .unset, .unset, .unset, .unset, .unset, .unset, .unset, .unset] [(.ref b1)])) t := by
    intro t kk
    show Steps p.tables e below (T2.setTop (mkF m 31 #[.val (.int p1), .val (.int p2), .val (.int p3), .val (.int p4), .val (.int p5), .val (.int v1), .val (.int v2), .val (.int v3), .unset, .unset, .unset, .unset, .unset, .unset, .unset, .unset] [(.ref b1)])) _
    refine XS.astore X2.here hx rfl (hb hby at_31) rfl rfl (l' := #[.val (.int p1), .val (.int p2), .val (.int p3), .val (.int p4), .val (.int p5), .val (.int v1), .val (.int v2), .val (.int v3), .val (.ref b1), .unset, .unset, .unset, .unset, .unset, .unset, .unset]) rfl ?_
    exact kk
  obtain ⟨T3, h3, X3, e3, E3, A3, D3, -, st3⟩ := newO X2 hx hZ hown (hw _ (List.mem_of_getElem? (i := 20) rfl)) (hw _ (List.mem_of_getElem? (i := 21) rfl)) (hw _ (List.mem_of_getElem? (i := 22) rfl)) rfl (g := (mkF m 33 #[.val (.int p1), .val (.int p2), .val (.int p3), .val (.int p4), .val (.int p5), .val (.int v1), .val (.int v2), .val (.int v3), .val (.ref b1), .unset, .unset, .unset, .unset, .unset, .unset, .unset] [])) rfl (hb hby at_33) (by decide) (by decide)
  obtain ⟨b2, g3⟩ : ∃ z, z = T2.heap.size := ⟨_, rfl⟩
  rw [← g3] at A3 D3 st3
  have g_b2 : n0 ≤ b2 := Nat.le_trans Z_5 (Nat.le_of_eq g3.symm)
  have Z_7 : n0 ≤ h3.size := Nat.le_trans Z_5 E3.1
  have E_8 := Exa.ext E3 E_6
  have F_9 := Fld.ext E3 FA
  have F_10 := Fld.ext E3 FR
  have F_11 := Fld.ext E3 FC
  have F_12 : Fld Z h3 b2 "com/example/cardea/cardea/check/Summary$Numbering" "queues" "I" (.int (0 : Int32)) := D3 (Or.inr (hw _ (List.mem_of_getElem? (i := 33) rfl))) (ty := .int) (by decide)
  have F_13 : Fld Z h3 b2 "com/example/cardea/cardea/check/Summary$Numbering" "nodes" "I" (.int (0 : Int32)) := D3 (Or.inr (hw _ (List.mem_of_getElem? (i := 40) rfl))) (ty := .int) (by decide)
  have F_14 : Fld Z h3 b2 "com/example/cardea/cardea/check/Summary$Numbering" "words" "I" (.int (0 : Int32)) := D3 (Or.inr (hw _ (List.mem_of_getElem? (i := 47) rfl))) (ty := .int) (by decide)
  have sg6 : ∀ t, Steps p.tables e below (T3.setTop (mkF m 39 #[.val (.int p1), .val (.int p2), .val (.int p3), .val (.int p4), .val (.int p5), .val (.int v1), .val (.int v2), .val (.int v3), .val (.ref b1), .unset, .unset, .unset, .unset, .unset, .unset, .unset] [(.ref b1), (.ref b2), (.ref b2)])) t → Steps p.tables e below (T3.setTop (mkF m 36 #[.val (.int p1), .val (.int p2), .val (.int p3), .val (.int p4), .val (.int p5), .val (.int v1), .val (.int v2), .val (.int v3), .val (.ref b1), .unset, .unset, .unset, .unset, .unset, .unset, .unset] [(.ref b2)])) t := by
    intro t kk
    show Steps p.tables e below (T3.setTop (mkF m 36 #[.val (.int p1), .val (.int p2), .val (.int p3), .val (.int p4), .val (.int p5), .val (.int v1), .val (.int v2), .val (.int v3), .val (.ref b1), .unset, .unset, .unset, .unset, .unset, .unset, .unset] [(.ref b2)])) _
    refine XS.dup X3.here hx rfl (hb hby at_36) rfl rfl ?_
    show Steps p.tables e below (T3.setTop (mkF m 37 #[.val (.int p1), .val (.int p2), .val (.int p3), .val (.int p4), .val (.int p5), .val (.int v1), .val (.int v2), .val (.int v3), .val (.ref b1), .unset, .unset, .unset, .unset, .unset, .unset, .unset] [(.ref b2), (.ref b2)])) _
    refine XS.aload X3.here hx rfl (hb hby at_37) rfl rfl ?_
    exact kk
  have hne : b1 ∉ [b2] := by intro hh; cases List.mem_singleton.mp hh; exact (Exa.ne E_8 A3 (by decide)) rfl
  obtain ⟨_, _, ⟨T4, L4, k4, n4⟩, -, X4, ⟨Lc4, hQ4, l4, y4, z4⟩, st4⟩ := X3.specialBack hx (y := (⟨"com/example/cardea/cardea/check/Summary$Numbering", "<init>", "(Lcom/example/cardea/cardea/check/Layout;)V"⟩ : MethodName)) rfl hown (mvT hZ (hw _ (List.mem_of_getElem? (i := 23) rfl))) (mvT hZ (hw _ (List.mem_of_getElem? (i := 24) rfl))) (mvT hZ (hw _ (List.mem_of_getElem? (i := 25) rfl))) (by decide) (backOf (W := 1) (rm4 l Z a0 hw [] b2 b1 v1 v2 v3 h3 n0 Z_7 A3 F_12 F_13 F_14 g_b2 E_8 F_9 F_10 F_11) hZ (hw _ (List.mem_of_getElem? (i := 25) rfl)) (hw _ (List.mem_of_getElem? (i := 22) rfl)) (by decide) (by decide)) (g := (mkF m 39 #[.val (.int p1), .val (.int p2), .val (.int p3), .val (.int p4), .val (.int p5), .val (.int v1), .val (.int v2), .val (.int v3), .val (.ref b1), .unset, .unset, .unset, .unset, .unset, .unset, .unset] [(.ref b1), (.ref b2), (.ref b2)])) rfl (by rw [hml]; rfl) (Steps.refl _) (a := b2) (argsL := [(.ref b1)]) (rest := [(.ref b2)]) (lenOf own_pd3 rfl) rfl (by show 2 * 0 + _ ≤ _; exact Nat.le_of_eq rfl) (hb hby at_39) (fun _ _ => ⟨rfl, e3, (by decide : 2 + 0 ≤ _), (by decide : 6 + 0 ≤ _)⟩)
  dsimp only [Pt.U, Pt.locs, Pt.cells, Pt.slots] at X4 l4 y4 z4 st4 hQ4
  subst l4 y4 z4
  obtain ⟨rfl, N4q, KN, EN, FQ, FN⟩ := hQ4
  have Z_15 : n0 ≤ T4.heap.size := Nat.le_trans Z_7 KN.1
  have E_16 := Exa.keep E_8 KN
  have E_17 := Exa.keep A3 KN
  have F_18 := Fld.keep F_9 KN hne
  have F_19 := Fld.keep F_10 KN hne
  have F_20 := Fld.keep F_11 KN hne
  have N4 := Fr.app N2 N4q
  have sg8 : ∀ t, Steps p.tables e below (T4.setTop (mkF m 44 #[.val (.int p1), .val (.int p2), .val (.int p3), .val (.int p4), .val (.int p5), .val (.int v1), .val (.int v2), .val (.int v3), .val (.ref b1), .val (.ref b2), .unset, .unset, .unset, .unset, .unset, .unset] [])) t → Steps p.tables e below (T4.setTop (mkF m 42 #[.val (.int p1), .val (.int p2), .val (.int p3), .val (.int p4), .val (.int p5), .val (.int v1), .val (.int v2), .val (.int v3), .val (.ref b1), .unset, .unset, .unset, .unset, .unset, .unset, .unset] [(.ref b2)])) t := by
    intro t kk
    show Steps p.tables e below (T4.setTop (mkF m 42 #[.val (.int p1), .val (.int p2), .val (.int p3), .val (.int p4), .val (.int p5), .val (.int v1), .val (.int v2), .val (.int v3), .val (.ref b1), .unset, .unset, .unset, .unset, .unset, .unset, .unset] [(.ref b2)])) _
    refine XS.astore X4.here hx rfl (hb hby at_42) rfl rfl (l' := #[.val (.int p1), .val (.int p2), .val (.int p3), .val (.int p4), .val (.int p5), .val (.int v1), .val (.int v2), .val (.int v3), .val (.ref b1), .val (.ref b2), .unset, .unset, .unset, .unset, .unset, .unset]) rfl ?_
    exact kk
  obtain ⟨va, hva⟩ : ∃ z : Int32, z = own_acc p4 p5 := ⟨_, rfl⟩
  have sg9 : ∀ t, Steps p.tables e below (T4.setTop (mkF m 59 #[.val (.int p1), .val (.int p2), .val (.int p3), .val (.int p4), .val (.int p5), .val (.int v1), .val (.int v2), .val (.int v3), .val (.ref b1), .val (.ref b2), .unset, .unset, .unset, .unset, .unset, .unset] [(.int va)])) t → Steps p.tables e below (T4.setTop (mkF m 44 #[.val (.int p1), .val (.int p2), .val (.int p3), .val (.int p4), .val (.int p5), .val (.int v1), .val (.int v2), .val (.int v3), .val (.ref b1), .val (.ref b2), .unset, .unset, .unset, .unset, .unset, .unset] [])) t := by
    intro t kk
    show Steps p.tables e below (T4.setTop (mkF m 44 #[.val (.int p1), .val (.int p2), .val (.int p3), .val (.int p4), .val (.int p5), .val (.int v1), .val (.int v2), .val (.int v3), .val (.ref b1), .val (.ref b2), .unset, .unset, .unset, .unset, .unset, .unset] [])) _
    refine XS.iload X4.here hx rfl (hb hby at_44) rfl ?_
    show Steps p.tables e below (T4.setTop (mkF m 46 #[.val (.int p1), .val (.int p2), .val (.int p3), .val (.int p4), .val (.int p5), .val (.int v1), .val (.int v2), .val (.int v3), .val (.ref b1), .val (.ref b2), .unset, .unset, .unset, .unset, .unset, .unset] [(.int p5)])) _
    refine XT.iconstV X4.here hx rfl (1 : Int32) (hb hby at_46) (by decide) ?_
    show Steps p.tables e below (T4.setTop (mkF m 47 #[.val (.int p1), .val (.int p2), .val (.int p3), .val (.int p4), .val (.int p5), .val (.int v1), .val (.int v2), .val (.int v3), .val (.ref b1), .val (.ref b2), .unset, .unset, .unset, .unset, .unset, .unset] [(.int (1 : Int32)), (.int p5)])) _
    refine XS.iand X4.here hx rfl (hb hby at_47) rfl ?_
    show Steps p.tables e below (T4.setTop (mkF m 48 #[.val (.int p1), .val (.int p2), .val (.int p3), .val (.int p4), .val (.int p5), .val (.int v1), .val (.int v2), .val (.int v3), .val (.ref b1), .val (.ref b2), .unset, .unset, .unset, .unset, .unset, .unset] [(.int (p5 &&& (1 : Int32)))])) _
    by_cases hc48 : (p5 &&& (1 : Int32)) = 0
    · refine XS.ifNo X4.here hx rfl (hb hby at_48) rfl (XT.i0_ne_f hc48) ?_
      show Steps p.tables e below (T4.setTop (mkF m 51 #[.val (.int p1), .val (.int p2), .val (.int p3), .val (.int p4), .val (.int p5), .val (.int v1), .val (.int v2), .val (.int v3), .val (.ref b1), .val (.ref b2), .unset, .unset, .unset, .unset, .unset, .unset] [])) _
      refine XS.iloadN X4.here hx rfl (hb hby at_51) rfl ?_
      show Steps p.tables e below (T4.setTop (mkF m 52 #[.val (.int p1), .val (.int p2), .val (.int p3), .val (.int p4), .val (.int p5), .val (.int v1), .val (.int v2), .val (.int v3), .val (.ref b1), .val (.ref b2), .unset, .unset, .unset, .unset, .unset, .unset] [(.int p4)])) _
      refine XS.goto X4.here hx rfl (pc0 := 52) (pc' := 59) rfl (hb hby at_52) (by decide) (by decide) ?_
      show Steps p.tables e below (T4.setTop (mkF m 59 #[.val (.int p1), .val (.int p2), .val (.int p3), .val (.int p4), .val (.int p5), .val (.int v1), .val (.int v2), .val (.int v3), .val (.ref b1), .val (.ref b2), .unset, .unset, .unset, .unset, .unset, .unset] [(.int p4)])) _
      have hq : va = p4 := by rw [hva]; simp only [own_acc, if_pos hc48]
      subst hq
      exact kk
    · refine XS.ifYes X4.here hx rfl (pc0 := 48) (pc' := 55) rfl (hb hby at_48) rfl (XT.i0_ne_t hc48) (by decide) (by decide) ?_
      show Steps p.tables e below (T4.setTop (mkF m 55 #[.val (.int p1), .val (.int p2), .val (.int p3), .val (.int p4), .val (.int p5), .val (.int v1), .val (.int v2), .val (.int v3), .val (.ref b1), .val (.ref b2), .unset, .unset, .unset, .unset, .unset, .unset] [])) _
      refine XS.iloadN X4.here hx rfl (hb hby at_55) rfl ?_
      show Steps p.tables e below (T4.setTop (mkF m 56 #[.val (.int p1), .val (.int p2), .val (.int p3), .val (.int p4), .val (.int p5), .val (.int v1), .val (.int v2), .val (.int v3), .val (.ref b1), .val (.ref b2), .unset, .unset, .unset, .unset, .unset, .unset] [(.int p4)])) _
      refine XT.bipushV X4.here hx rfl (64 : Int32) (hb hby at_56) (by decide) ?_
      show Steps p.tables e below (T4.setTop (mkF m 58 #[.val (.int p1), .val (.int p2), .val (.int p3), .val (.int p4), .val (.int p5), .val (.int v1), .val (.int v2), .val (.int v3), .val (.ref b1), .val (.ref b2), .unset, .unset, .unset, .unset, .unset, .unset] [(.int (64 : Int32)), (.int p4)])) _
      refine XS.irem X4.here hx rfl (hb hby at_58) rfl (by decide) ?_
      show Steps p.tables e below (T4.setTop (mkF m 59 #[.val (.int p1), .val (.int p2), .val (.int p3), .val (.int p4), .val (.int p5), .val (.int v1), .val (.int v2), .val (.int v3), .val (.ref b1), .val (.ref b2), .unset, .unset, .unset, .unset, .unset, .unset] [(.int (p4 - p4 / (64 : Int32) * (64 : Int32)))])) _
      have hq : va = (p4 - p4 / (64 : Int32) * (64 : Int32)) := by rw [hva]; simp only [own_acc, if_neg hc48]
      subst hq
      exact kk
  obtain ⟨v4, hv4⟩ : ∃ z : Int32, z = ((((2 : Int32) * v1) + v2) + ((2 : Int32) * v3)) := ⟨_, rfl⟩
  obtain ⟨v5, hv5⟩ : ∃ z : Int32, z = ((1 : Int32) + v3) := ⟨_, rfl⟩
  obtain ⟨v6, hv6⟩ : ∃ z : Int64, z = (((va.toInt64) - (v4.toInt64)) - (v5.toInt64)) := ⟨_, rfl⟩
  have sg10 : ∀ t, Steps p.tables e below (T4.setTop (mkF m 94 #[.val (.int p1), .val (.int p2), .val (.int p3), .val (.int p4), .val (.int p5), .val (.int v1), .val (.int v2), .val (.int v3), .val (.ref b1), .val (.ref b2), .val (.int va), .val (.int v4), .val (.int v5), .val (.long v6), .second, .unset] [])) t → Steps p.tables e below (T4.setTop (mkF m 59 #[.val (.int p1), .val (.int p2), .val (.int p3), .val (.int p4), .val (.int p5), .val (.int v1), .val (.int v2), .val (.int v3), .val (.ref b1), .val (.ref b2), .unset, .unset, .unset, .unset, .unset, .unset] [(.int va)])) t := by
    intro t kk
    show Steps p.tables e below (T4.setTop (mkF m 59 #[.val (.int p1), .val (.int p2), .val (.int p3), .val (.int p4), .val (.int p5), .val (.int v1), .val (.int v2), .val (.int v3), .val (.ref b1), .val (.ref b2), .unset, .unset, .unset, .unset, .unset, .unset] [(.int va)])) _
    refine XS.istore X4.here hx rfl (hb hby at_59) rfl (l' := #[.val (.int p1), .val (.int p2), .val (.int p3), .val (.int p4), .val (.int p5), .val (.int v1), .val (.int v2), .val (.int v3), .val (.ref b1), .val (.ref b2), .val (.int va), .unset, .unset, .unset, .unset, .unset]) rfl ?_
    show Steps p.tables e below (T4.setTop (mkF m 61 #[.val (.int p1), .val (.int p2), .val (.int p3), .val (.int p4), .val (.int p5), .val (.int v1), .val (.int v2), .val (.int v3), .val (.ref b1), .val (.ref b2), .val (.int va), .unset, .unset, .unset, .unset, .unset] [])) _
    refine XT.iconstV X4.here hx rfl (2 : Int32) (hb hby at_61) (by decide) ?_
    show Steps p.tables e below (T4.setTop (mkF m 62 #[.val (.int p1), .val (.int p2), .val (.int p3), .val (.int p4), .val (.int p5), .val (.int v1), .val (.int v2), .val (.int v3), .val (.ref b1), .val (.ref b2), .val (.int va), .unset, .unset, .unset, .unset, .unset] [(.int (2 : Int32))])) _
    refine XS.iload X4.here hx rfl (hb hby at_62) rfl ?_
    show Steps p.tables e below (T4.setTop (mkF m 64 #[.val (.int p1), .val (.int p2), .val (.int p3), .val (.int p4), .val (.int p5), .val (.int v1), .val (.int v2), .val (.int v3), .val (.ref b1), .val (.ref b2), .val (.int va), .unset, .unset, .unset, .unset, .unset] [(.int v1), (.int (2 : Int32))])) _
    refine XS.imul X4.here hx rfl (hb hby at_64) rfl ?_
    show Steps p.tables e below (T4.setTop (mkF m 65 #[.val (.int p1), .val (.int p2), .val (.int p3), .val (.int p4), .val (.int p5), .val (.int v1), .val (.int v2), .val (.int v3), .val (.ref b1), .val (.ref b2), .val (.int va), .unset, .unset, .unset, .unset, .unset] [(.int ((2 : Int32) * v1))])) _
    refine XS.iload X4.here hx rfl (hb hby at_65) rfl ?_
    show Steps p.tables e below (T4.setTop (mkF m 67 #[.val (.int p1), .val (.int p2), .val (.int p3), .val (.int p4), .val (.int p5), .val (.int v1), .val (.int v2), .val (.int v3), .val (.ref b1), .val (.ref b2), .val (.int va), .unset, .unset, .unset, .unset, .unset] [(.int v2), (.int ((2 : Int32) * v1))])) _
    refine XS.iadd X4.here hx rfl (hb hby at_67) rfl ?_
    show Steps p.tables e below (T4.setTop (mkF m 68 #[.val (.int p1), .val (.int p2), .val (.int p3), .val (.int p4), .val (.int p5), .val (.int v1), .val (.int v2), .val (.int v3), .val (.ref b1), .val (.ref b2), .val (.int va), .unset, .unset, .unset, .unset, .unset] [(.int (((2 : Int32) * v1) + v2))])) _
    refine XT.iconstV X4.here hx rfl (2 : Int32) (hb hby at_68) (by decide) ?_
    show Steps p.tables e below (T4.setTop (mkF m 69 #[.val (.int p1), .val (.int p2), .val (.int p3), .val (.int p4), .val (.int p5), .val (.int v1), .val (.int v2), .val (.int v3), .val (.ref b1), .val (.ref b2), .val (.int va), .unset, .unset, .unset, .unset, .unset] [(.int (2 : Int32)), (.int (((2 : Int32) * v1) + v2))])) _
    refine XS.iload X4.here hx rfl (hb hby at_69) rfl ?_
    show Steps p.tables e below (T4.setTop (mkF m 71 #[.val (.int p1), .val (.int p2), .val (.int p3), .val (.int p4), .val (.int p5), .val (.int v1), .val (.int v2), .val (.int v3), .val (.ref b1), .val (.ref b2), .val (.int va), .unset, .unset, .unset, .unset, .unset] [(.int v3), (.int (2 : Int32)), (.int (((2 : Int32) * v1) + v2))])) _
    refine XS.imul X4.here hx rfl (hb hby at_71) rfl ?_
    show Steps p.tables e below (T4.setTop (mkF m 72 #[.val (.int p1), .val (.int p2), .val (.int p3), .val (.int p4), .val (.int p5), .val (.int v1), .val (.int v2), .val (.int v3), .val (.ref b1), .val (.ref b2), .val (.int va), .unset, .unset, .unset, .unset, .unset] [(.int ((2 : Int32) * v3)), (.int (((2 : Int32) * v1) + v2))])) _
    refine XS.iadd X4.here hx rfl (hb hby at_72) rfl ?_
    show Steps p.tables e below (T4.setTop (mkF m 73 #[.val (.int p1), .val (.int p2), .val (.int p3), .val (.int p4), .val (.int p5), .val (.int v1), .val (.int v2), .val (.int v3), .val (.ref b1), .val (.ref b2), .val (.int va), .unset, .unset, .unset, .unset, .unset] [(.int ((((2 : Int32) * v1) + v2) + ((2 : Int32) * v3)))])) _
    refine XS.istore X4.here hx rfl (hb hby at_73) rfl (l' := #[.val (.int p1), .val (.int p2), .val (.int p3), .val (.int p4), .val (.int p5), .val (.int v1), .val (.int v2), .val (.int v3), .val (.ref b1), .val (.ref b2), .val (.int va), .val (.int v4), .unset, .unset, .unset, .unset]) (by rw [hv4]; rfl) ?_
    show Steps p.tables e below (T4.setTop (mkF m 75 #[.val (.int p1), .val (.int p2), .val (.int p3), .val (.int p4), .val (.int p5), .val (.int v1), .val (.int v2), .val (.int v3), .val (.ref b1), .val (.ref b2), .val (.int va), .val (.int v4), .unset, .unset, .unset, .unset] [])) _
    refine XT.iconstV X4.here hx rfl (1 : Int32) (hb hby at_75) (by decide) ?_
    show Steps p.tables e below (T4.setTop (mkF m 76 #[.val (.int p1), .val (.int p2), .val (.int p3), .val (.int p4), .val (.int p5), .val (.int v1), .val (.int v2), .val (.int v3), .val (.ref b1), .val (.ref b2), .val (.int va), .val (.int v4), .unset, .unset, .unset, .unset] [(.int (1 : Int32))])) _
    refine XS.iload X4.here hx rfl (hb hby at_76) rfl ?_
    show Steps p.tables e below (T4.setTop (mkF m 78 #[.val (.int p1), .val (.int p2), .val (.int p3), .val (.int p4), .val (.int p5), .val (.int v1), .val (.int v2), .val (.int v3), .val (.ref b1), .val (.ref b2), .val (.int va), .val (.int v4), .unset, .unset, .unset, .unset] [(.int v3), (.int (1 : Int32))])) _
    refine XS.iadd X4.here hx rfl (hb hby at_78) rfl ?_
    show Steps p.tables e below (T4.setTop (mkF m 79 #[.val (.int p1), .val (.int p2), .val (.int p3), .val (.int p4), .val (.int p5), .val (.int v1), .val (.int v2), .val (.int v3), .val (.ref b1), .val (.ref b2), .val (.int va), .val (.int v4), .unset, .unset, .unset, .unset] [(.int ((1 : Int32) + v3))])) _
    refine XS.istore X4.here hx rfl (hb hby at_79) rfl (l' := #[.val (.int p1), .val (.int p2), .val (.int p3), .val (.int p4), .val (.int p5), .val (.int v1), .val (.int v2), .val (.int v3), .val (.ref b1), .val (.ref b2), .val (.int va), .val (.int v4), .val (.int v5), .unset, .unset, .unset]) (by rw [hv5]; rfl) ?_
    show Steps p.tables e below (T4.setTop (mkF m 81 #[.val (.int p1), .val (.int p2), .val (.int p3), .val (.int p4), .val (.int p5), .val (.int v1), .val (.int v2), .val (.int v3), .val (.ref b1), .val (.ref b2), .val (.int va), .val (.int v4), .val (.int v5), .unset, .unset, .unset] [])) _
    refine XS.iload X4.here hx rfl (hb hby at_81) rfl ?_
    show Steps p.tables e below (T4.setTop (mkF m 83 #[.val (.int p1), .val (.int p2), .val (.int p3), .val (.int p4), .val (.int p5), .val (.int v1), .val (.int v2), .val (.int v3), .val (.ref b1), .val (.ref b2), .val (.int va), .val (.int v4), .val (.int v5), .unset, .unset, .unset] [(.int va)])) _
    refine XT.i2l X4.here hx rfl (hb hby at_83) rfl ?_
    show Steps p.tables e below (T4.setTop (mkF m 84 #[.val (.int p1), .val (.int p2), .val (.int p3), .val (.int p4), .val (.int p5), .val (.int v1), .val (.int v2), .val (.int v3), .val (.ref b1), .val (.ref b2), .val (.int va), .val (.int v4), .val (.int v5), .unset, .unset, .unset] [(.long (va.toInt64))])) _
    refine XS.iload X4.here hx rfl (hb hby at_84) rfl ?_
    show Steps p.tables e below (T4.setTop (mkF m 86 #[.val (.int p1), .val (.int p2), .val (.int p3), .val (.int p4), .val (.int p5), .val (.int v1), .val (.int v2), .val (.int v3), .val (.ref b1), .val (.ref b2), .val (.int va), .val (.int v4), .val (.int v5), .unset, .unset, .unset] [(.int v4), (.long (va.toInt64))])) _
    refine XT.i2l X4.here hx rfl (hb hby at_86) rfl ?_
    show Steps p.tables e below (T4.setTop (mkF m 87 #[.val (.int p1), .val (.int p2), .val (.int p3), .val (.int p4), .val (.int p5), .val (.int v1), .val (.int v2), .val (.int v3), .val (.ref b1), .val (.ref b2), .val (.int va), .val (.int v4), .val (.int v5), .unset, .unset, .unset] [(.long (v4.toInt64)), (.long (va.toInt64))])) _
    refine XT.lsub X4.here hx rfl (hb hby at_87) rfl ?_
    show Steps p.tables e below (T4.setTop (mkF m 88 #[.val (.int p1), .val (.int p2), .val (.int p3), .val (.int p4), .val (.int p5), .val (.int v1), .val (.int v2), .val (.int v3), .val (.ref b1), .val (.ref b2), .val (.int va), .val (.int v4), .val (.int v5), .unset, .unset, .unset] [(.long ((va.toInt64) - (v4.toInt64)))])) _
    refine XS.iload X4.here hx rfl (hb hby at_88) rfl ?_
    show Steps p.tables e below (T4.setTop (mkF m 90 #[.val (.int p1), .val (.int p2), .val (.int p3), .val (.int p4), .val (.int p5), .val (.int v1), .val (.int v2), .val (.int v3), .val (.ref b1), .val (.ref b2), .val (.int va), .val (.int v4), .val (.int v5), .unset, .unset, .unset] [(.int v5), (.long ((va.toInt64) - (v4.toInt64)))])) _
    refine XT.i2l X4.here hx rfl (hb hby at_90) rfl ?_
    show Steps p.tables e below (T4.setTop (mkF m 91 #[.val (.int p1), .val (.int p2), .val (.int p3), .val (.int p4), .val (.int p5), .val (.int v1), .val (.int v2), .val (.int v3), .val (.ref b1), .val (.ref b2), .val (.int va), .val (.int v4), .val (.int v5), .unset, .unset, .unset] [(.long (v5.toInt64)), (.long ((va.toInt64) - (v4.toInt64)))])) _
    refine XT.lsub X4.here hx rfl (hb hby at_91) rfl ?_
    show Steps p.tables e below (T4.setTop (mkF m 92 #[.val (.int p1), .val (.int p2), .val (.int p3), .val (.int p4), .val (.int p5), .val (.int v1), .val (.int v2), .val (.int v3), .val (.ref b1), .val (.ref b2), .val (.int va), .val (.int v4), .val (.int v5), .unset, .unset, .unset] [(.long (((va.toInt64) - (v4.toInt64)) - (v5.toInt64)))])) _
    refine XT.lstore X4.here hx rfl (hb hby at_92) rfl (l' := #[.val (.int p1), .val (.int p2), .val (.int p3), .val (.int p4), .val (.int p5), .val (.int v1), .val (.int v2), .val (.int v3), .val (.ref b1), .val (.ref b2), .val (.int va), .val (.int v4), .val (.int v5), .val (.long v6), .second, .unset]) (by rw [hv6]; rfl) ?_
    exact kk
  have hq4 : v4 = own_q v1 v2 v3 := by rw [hv4]; rfl
  have hn5 : v5 = own_n v3 := by rw [hv5]; rfl
  obtain ⟨ve, hve⟩ : ∃ z : Int32, z = own_want7 v4 v5 va := ⟨_, rfl⟩
  have sg11 : ∀ t, Steps p.tables e below (T4.setTop (mkF m 115 #[.val (.int p1), .val (.int p2), .val (.int p3), .val (.int p4), .val (.int p5), .val (.int v1), .val (.int v2), .val (.int v3), .val (.ref b1), .val (.ref b2), .val (.int va), .val (.int v4), .val (.int v5), .val (.long v6), .second, .unset] [(.int ve)])) t → Steps p.tables e below (T4.setTop (mkF m 94 #[.val (.int p1), .val (.int p2), .val (.int p3), .val (.int p4), .val (.int p5), .val (.int v1), .val (.int v2), .val (.int v3), .val (.ref b1), .val (.ref b2), .val (.int va), .val (.int v4), .val (.int v5), .val (.long v6), .second, .unset] [])) t := by
    intro t kk
    show Steps p.tables e below (T4.setTop (mkF m 94 #[.val (.int p1), .val (.int p2), .val (.int p3), .val (.int p4), .val (.int p5), .val (.int v1), .val (.int v2), .val (.int v3), .val (.ref b1), .val (.ref b2), .val (.int va), .val (.int v4), .val (.int v5), .val (.long v6), .second, .unset] [])) _
    refine XT.lload X4.here hx rfl (hb hby at_94) rfl ?_
    show Steps p.tables e below (T4.setTop (mkF m 96 #[.val (.int p1), .val (.int p2), .val (.int p3), .val (.int p4), .val (.int p5), .val (.int v1), .val (.int v2), .val (.int v3), .val (.ref b1), .val (.ref b2), .val (.int va), .val (.int v4), .val (.int v5), .val (.long v6), .second, .unset] [(.long v6)])) _
    refine XT.lconstV X4.here hx rfl (0 : Int64) (hb hby at_96) (by decide) ?_
    show Steps p.tables e below (T4.setTop (mkF m 97 #[.val (.int p1), .val (.int p2), .val (.int p3), .val (.int p4), .val (.int p5), .val (.int v1), .val (.int v2), .val (.int v3), .val (.ref b1), .val (.ref b2), .val (.int va), .val (.int v4), .val (.int v5), .val (.long v6), .second, .unset] [(.long (0 : Int64)), (.long v6)])) _
    refine XT.lcmp X4.here hx rfl (hb hby at_97) rfl ?_
    show Steps p.tables e below (T4.setTop (mkF m 98 #[.val (.int p1), .val (.int p2), .val (.int p3), .val (.int p4), .val (.int p5), .val (.int v1), .val (.int v2), .val (.int v3), .val (.ref b1), .val (.ref b2), .val (.int va), .val (.int v4), .val (.int v5), .val (.long v6), .second, .unset] [(.int (XT.cmpL v6 (0 : Int64)))])) _
    by_cases hc98 : v6 < (0 : Int64)
    · refine XS.ifYes X4.here hx rfl (pc0 := 98) (pc' := 114) rfl (hb hby at_98) rfl (XT.ll_lt_t hc98) (by decide) (by decide) ?_
      show Steps p.tables e below (T4.setTop (mkF m 114 #[.val (.int p1), .val (.int p2), .val (.int p3), .val (.int p4), .val (.int p5), .val (.int v1), .val (.int v2), .val (.int v3), .val (.ref b1), .val (.ref b2), .val (.int va), .val (.int v4), .val (.int v5), .val (.long v6), .second, .unset] [])) _
      refine XT.iconstV X4.here hx rfl (0 : Int32) (hb hby at_114) (by decide) ?_
      show Steps p.tables e below (T4.setTop (mkF m 115 #[.val (.int p1), .val (.int p2), .val (.int p3), .val (.int p4), .val (.int p5), .val (.int v1), .val (.int v2), .val (.int v3), .val (.ref b1), .val (.ref b2), .val (.int va), .val (.int v4), .val (.int v5), .val (.long v6), .second, .unset] [(.int (0 : Int32))])) _
      subst hv6
      have hq : ve = (0 : Int32) := by rw [hve]; simp only [own_want7, if_pos hc98]
      subst hq
      exact kk
    · refine XS.ifNo X4.here hx rfl (hb hby at_98) rfl (XT.ll_lt_f hc98) ?_
      show Steps p.tables e below (T4.setTop (mkF m 101 #[.val (.int p1), .val (.int p2), .val (.int p3), .val (.int p4), .val (.int p5), .val (.int v1), .val (.int v2), .val (.int v3), .val (.ref b1), .val (.ref b2), .val (.int va), .val (.int v4), .val (.int v5), .val (.long v6), .second, .unset] [])) _
      refine XT.lload X4.here hx rfl (hb hby at_101) rfl ?_
      show Steps p.tables e below (T4.setTop (mkF m 103 #[.val (.int p1), .val (.int p2), .val (.int p3), .val (.int p4), .val (.int p5), .val (.int v1), .val (.int v2), .val (.int v3), .val (.ref b1), .val (.ref b2), .val (.int va), .val (.int v4), .val (.int v5), .val (.long v6), .second, .unset] [(.long v6)])) _
      refine XS.iload X4.here hx rfl (hb hby at_103) rfl ?_
      show Steps p.tables e below (T4.setTop (mkF m 105 #[.val (.int p1), .val (.int p2), .val (.int p3), .val (.int p4), .val (.int p5), .val (.int v1), .val (.int v2), .val (.int v3), .val (.ref b1), .val (.ref b2), .val (.int va), .val (.int v4), .val (.int v5), .val (.long v6), .second, .unset] [(.int v5), (.long v6)])) _
      refine XT.i2l X4.here hx rfl (hb hby at_105) rfl ?_
      show Steps p.tables e below (T4.setTop (mkF m 106 #[.val (.int p1), .val (.int p2), .val (.int p3), .val (.int p4), .val (.int p5), .val (.int v1), .val (.int v2), .val (.int v3), .val (.ref b1), .val (.ref b2), .val (.int va), .val (.int v4), .val (.int v5), .val (.long v6), .second, .unset] [(.long (v5.toInt64)), (.long v6)])) _
      refine XT.lcmp X4.here hx rfl (hb hby at_106) rfl ?_
      show Steps p.tables e below (T4.setTop (mkF m 107 #[.val (.int p1), .val (.int p2), .val (.int p3), .val (.int p4), .val (.int p5), .val (.int v1), .val (.int v2), .val (.int v3), .val (.ref b1), .val (.ref b2), .val (.int va), .val (.int v4), .val (.int v5), .val (.long v6), .second, .unset] [(.int (XT.cmpL v6 (v5.toInt64)))])) _
      by_cases hc107 : v6 < (v5.toInt64)
      · refine XS.ifNo X4.here hx rfl (hb hby at_107) rfl (XT.ll_ge_f hc107) ?_
        show Steps p.tables e below (T4.setTop (mkF m 110 #[.val (.int p1), .val (.int p2), .val (.int p3), .val (.int p4), .val (.int p5), .val (.int v1), .val (.int v2), .val (.int v3), .val (.ref b1), .val (.ref b2), .val (.int va), .val (.int v4), .val (.int v5), .val (.long v6), .second, .unset] [])) _
        refine XT.iconstV X4.here hx rfl (1 : Int32) (hb hby at_110) (by decide) ?_
        show Steps p.tables e below (T4.setTop (mkF m 111 #[.val (.int p1), .val (.int p2), .val (.int p3), .val (.int p4), .val (.int p5), .val (.int v1), .val (.int v2), .val (.int v3), .val (.ref b1), .val (.ref b2), .val (.int va), .val (.int v4), .val (.int v5), .val (.long v6), .second, .unset] [(.int (1 : Int32))])) _
        refine XS.goto X4.here hx rfl (pc0 := 111) (pc' := 115) rfl (hb hby at_111) (by decide) (by decide) ?_
        show Steps p.tables e below (T4.setTop (mkF m 115 #[.val (.int p1), .val (.int p2), .val (.int p3), .val (.int p4), .val (.int p5), .val (.int v1), .val (.int v2), .val (.int v3), .val (.ref b1), .val (.ref b2), .val (.int va), .val (.int v4), .val (.int v5), .val (.long v6), .second, .unset] [(.int (1 : Int32))])) _
        subst hv6
        have hq : ve = (1 : Int32) := by rw [hve]; simp only [own_want7, if_neg hc98, if_pos hc107]
        subst hq
        exact kk
      · refine XS.ifYes X4.here hx rfl (pc0 := 107) (pc' := 114) rfl (hb hby at_107) rfl (XT.ll_ge_t hc107) (by decide) (by decide) ?_
        show Steps p.tables e below (T4.setTop (mkF m 114 #[.val (.int p1), .val (.int p2), .val (.int p3), .val (.int p4), .val (.int p5), .val (.int v1), .val (.int v2), .val (.int v3), .val (.ref b1), .val (.ref b2), .val (.int va), .val (.int v4), .val (.int v5), .val (.long v6), .second, .unset] [])) _
        refine XT.iconstV X4.here hx rfl (0 : Int32) (hb hby at_114) (by decide) ?_
        show Steps p.tables e below (T4.setTop (mkF m 115 #[.val (.int p1), .val (.int p2), .val (.int p3), .val (.int p4), .val (.int p5), .val (.int v1), .val (.int v2), .val (.int v3), .val (.ref b1), .val (.ref b2), .val (.int va), .val (.int v4), .val (.int v5), .val (.long v6), .second, .unset] [(.int (0 : Int32))])) _
        subst hv6
        have hq : ve = (0 : Int32) := by rw [hve]; simp only [own_want7, if_neg hc98, if_neg hc107]
        subst hq
        exact kk
  have sg12 : ∀ t, Steps p.tables e below (T4.setTop (mkF m 121 #[.val (.int p1), .val (.int p2), .val (.int p3), .val (.int p4), .val (.int p5), .val (.int v1), .val (.int v2), .val (.int v3), .val (.ref b1), .val (.ref b2), .val (.int va), .val (.int v4), .val (.int v5), .val (.long v6), .second, .val (.int ve)] [(.int va), (.ref b2)])) t → Steps p.tables e below (T4.setTop (mkF m 115 #[.val (.int p1), .val (.int p2), .val (.int p3), .val (.int p4), .val (.int p5), .val (.int v1), .val (.int v2), .val (.int v3), .val (.ref b1), .val (.ref b2), .val (.int va), .val (.int v4), .val (.int v5), .val (.long v6), .second, .unset] [(.int ve)])) t := by
    intro t kk
    show Steps p.tables e below (T4.setTop (mkF m 115 #[.val (.int p1), .val (.int p2), .val (.int p3), .val (.int p4), .val (.int p5), .val (.int v1), .val (.int v2), .val (.int v3), .val (.ref b1), .val (.ref b2), .val (.int va), .val (.int v4), .val (.int v5), .val (.long v6), .second, .unset] [(.int ve)])) _
    refine XS.istore X4.here hx rfl (hb hby at_115) rfl (l' := #[.val (.int p1), .val (.int p2), .val (.int p3), .val (.int p4), .val (.int p5), .val (.int v1), .val (.int v2), .val (.int v3), .val (.ref b1), .val (.ref b2), .val (.int va), .val (.int v4), .val (.int v5), .val (.long v6), .second, .val (.int ve)]) rfl ?_
    show Steps p.tables e below (T4.setTop (mkF m 117 #[.val (.int p1), .val (.int p2), .val (.int p3), .val (.int p4), .val (.int p5), .val (.int v1), .val (.int v2), .val (.int v3), .val (.ref b1), .val (.ref b2), .val (.int va), .val (.int v4), .val (.int v5), .val (.long v6), .second, .val (.int ve)] [])) _
    refine XS.aload X4.here hx rfl (hb hby at_117) rfl rfl ?_
    show Steps p.tables e below (T4.setTop (mkF m 119 #[.val (.int p1), .val (.int p2), .val (.int p3), .val (.int p4), .val (.int p5), .val (.int v1), .val (.int v2), .val (.int v3), .val (.ref b1), .val (.ref b2), .val (.int va), .val (.int v4), .val (.int v5), .val (.long v6), .second, .val (.int ve)] [(.ref b2)])) _
    refine XS.iload X4.here hx rfl (hb hby at_119) rfl ?_
    exact kk
  obtain ⟨cq5, kq5, qa5, qb5, qc5⟩ := isOf hZ rfl E_17
  obtain ⟨_, _, ⟨T5, L5, k5, n5⟩, -, X5, ⟨Lc5, hQ5, l5, y5, z5⟩, st5⟩ := X4.virtualBack hx (y := (⟨"com/example/cardea/cardea/check/Summary$Numbering", "isWrite", "(I)Z"⟩ : MethodName)) (z := (⟨"com/example/cardea/cardea/check/Summary$Numbering", "isWrite", "(I)Z"⟩ : MethodName)) hown (mvT hZ (hw _ (List.mem_of_getElem? (i := 48) rfl))) (mvT hZ (hw _ (List.mem_of_getElem? (i := 49) rfl))) (notFace_of_selects (args := #[]) (mvT hZ (hw _ (List.mem_of_getElem? (i := 51) rfl)))) (mvT hZ (hw _ (List.mem_of_getElem? (i := 51) rfl))) (mvT hZ (hw _ (List.mem_of_getElem? (i := 50) rfl))) (by decide) (backOf (W := 0) (rm8 l Z a0 hw [] b2 va (own_q v1 v2 v3) (own_n v3) T4.heap n0 Z_15 FQ FN) hZ (hw _ (List.mem_of_getElem? (i := 52) rfl)) (hw _ (List.mem_of_getElem? (i := 22) rfl)) (by decide) (by decide)) qa5 qc5 (g := (mkF m 121 #[.val (.int p1), .val (.int p2), .val (.int p3), .val (.int p4), .val (.int p5), .val (.int v1), .val (.int v2), .val (.int v3), .val (.ref b1), .val (.ref b2), .val (.int va), .val (.int v4), .val (.int v5), .val (.long v6), .second, .val (.int ve)] [(.int va), (.ref b2)])) rfl (by rw [hml]; rfl) (Steps.refl _) (argsL := [(.int va)]) (rest := []) (lenOf own_pd4 rfl) rfl (by show 2 * 0 + _ ≤ _; exact Nat.le_of_eq rfl) (hb hby at_121) (fun _ _ => ⟨rfl, rfl, (by decide : 2 + 0 ≤ _), (by decide : 6 + 0 ≤ _)⟩)
  dsimp only [Pt.U, Pt.locs, Pt.cells, Pt.slots] at X5 l5 y5 z5 st5 hQ5
  subst l5 y5 z5
  obtain ⟨rfl, N5q, e5⟩ := hQ5
  have N5 := Fr.app N4 N5q
  have hlaw : own_isw (own_q v1 v2 v3) (own_n v3) va = ve := by rw [hve, hq4, hn5]; exact own_law7 v1 v2 v3 va (by rw [hv1]; exact own_mask7 p1) (by rw [hv2]; exact own_mask7 p2) (by rw [hv3]; exact own_mask7 p3)
  obtain ⟨fs, hr, hrun, hended, hW, hsame⟩ := X5.leave (v := some (.int (1 : Int32))) (fun h => by rw [Bd.returns] at h; cases h)
  refine ⟨_, _, pre0 _ ?_, hrun, hended, _, _, rfl, ?_, ⟨_, rfl⟩, hW, hsame.mono (by decide) (by decide)⟩
  · refine sg0 _ ?_
    refine st1 _ ?_
    refine sg2 _ ?_
    refine st2.trans ?_
    refine sg4 _ ?_
    refine st3 _ ?_
    refine sg6 _ ?_
    refine st4.trans ?_
    refine sg8 _ ?_
    refine sg9 _ ?_
    refine sg10 _ ?_
    refine sg11 _ ?_
    refine sg12 _ ?_
    refine st5.trans ?_
    show Steps p.tables e below (T5.setTop (mkF m 124 #[.val (.int p1), .val (.int p2), .val (.int p3), .val (.int p4), .val (.int p5), .val (.int v1), .val (.int v2), .val (.int v3), .val (.ref b1), .val (.ref b2), .val (.int va), .val (.int v4), .val (.int v5), .val (.long v6), .second, .val (.int ve)] [(.int (own_isw (own_q v1 v2 v3) (own_n v3) va))])) _
    refine XS.iload X5.here hx rfl (hb hby at_124) rfl ?_
    show Steps p.tables e below (T5.setTop (mkF m 126 #[.val (.int p1), .val (.int p2), .val (.int p3), .val (.int p4), .val (.int p5), .val (.int v1), .val (.int v2), .val (.int v3), .val (.ref b1), .val (.ref b2), .val (.int va), .val (.int v4), .val (.int v5), .val (.long v6), .second, .val (.int ve)] [(.int ve), (.int (own_isw (own_q v1 v2 v3) (own_n v3) va))])) _
    refine XS.icmpNo X5.here hx rfl (hb hby at_126) rfl (XT.ii_ne_f hlaw) ?_
    show Steps p.tables e below (T5.setTop (mkF m 129 #[.val (.int p1), .val (.int p2), .val (.int p3), .val (.int p4), .val (.int p5), .val (.int v1), .val (.int v2), .val (.int v3), .val (.ref b1), .val (.ref b2), .val (.int va), .val (.int v4), .val (.int v5), .val (.long v6), .second, .val (.int ve)] [])) _
    refine XT.iconstV X5.here hx rfl (1 : Int32) (hb hby at_129) (by decide) ?_
    show Steps p.tables e below (T5.setTop (mkF m 130 #[.val (.int p1), .val (.int p2), .val (.int p3), .val (.int p4), .val (.int p5), .val (.int v1), .val (.int v2), .val (.int v3), .val (.ref b1), .val (.ref b2), .val (.int va), .val (.int v4), .val (.int v5), .val (.long v6), .second, .val (.int ve)] [(.int (1 : Int32))])) _
    refine XS.goto X5.here hx rfl (pc0 := 130) (pc' := 134) rfl (hb hby at_130) (by decide) (by decide) ?_
    show Steps p.tables e below (T5.setTop (mkF m 134 #[.val (.int p1), .val (.int p2), .val (.int p3), .val (.int p4), .val (.int p5), .val (.int v1), .val (.int v2), .val (.int v3), .val (.ref b1), .val (.ref b2), .val (.int va), .val (.int v4), .val (.int v5), .val (.long v6), .second, .val (.int ve)] [(.int (1 : Int32))])) _
    exact retN X5 hx (t := .boolean) Bd.returns (by simp) (hb hby at_134) hr
  · exact ⟨rfl, N5⟩
set_option maxRecDepth 65536 in
set_option maxHeartbeats 40000000 in
theorem comes_1 {Post : Tables → Env → Array Value → State → Outcome → State → Prop} (hpost : ∀ tb e args s v u, (limb_1_1.after args s (.returned v) u = true ∧ limb_1_2.after args s (.returned v) u = true ∧ True) → FrameEnd s (.returned v) u (Jvm.fieldLocs frame_1_writes args s ++ Jvm.arrayLocs frame_1_arrays args s ++ Jvm.staticLocs frame_1_statics s) 16 128 → Post tb e args s (.returned v) u) :
    ArmFor flags0 classFile x code maxLocals ret World_1 tables_1 room_1 Calls_1 rest_1 Pre_1 Post := by
  intro l hfl _ _ p e ha hc hk s m args below hf hA hF happ hP
  obtain ⟨hcalls, hrest, hpre⟩ := hP
  obtain ⟨-, -, -, hnamed, -, -, -, hat⟩ := (Spec.applies_iff hf).mp happ
  obtain ⟨hg, hn⟩ := and_e (Cond.before_iff.mp (show (Jvm.Cond.and given_1 narrow_1).before args s = true from hpre))
  obtain ⟨hcount, g0⟩ := and_e hg
  obtain ⟨k0, g1⟩ := and_e g0
  obtain ⟨k1, g2⟩ := and_e g1
  obtain ⟨k2, g3⟩ := and_e g2
  obtain ⟨k3, g4⟩ := and_e g3
  obtain ⟨w0, w1, w2, w3, w4, rfl⟩ : ∃ w0 w1 w2 w3 w4 : Value, args = #[w0, w1, w2, w3, w4] := by
    have hs : args.size = 5 := by simpa [Cond.value, given_1] using hcount
    obtain ⟨L⟩ := args
    match L, hs with
    | [w0, w1, w2, w3, w4], _ => exact ⟨w0, w1, w2, w3, w4, rfl⟩
  have hw := fun d (hd : d ∈ tables_1) => atoms_spec (ws := Jvm.Cond.code x code maxLocals ret :: tables_1) hat d (List.mem_cons_of_mem _ hd)
  obtain ⟨i0, ei0⟩ := is_v k0
  obtain rfl : w0 = (.int i0) := Option.some.inj ei0
  obtain ⟨i1, ei1⟩ := is_v k1
  obtain rfl : w1 = (.int i1) := Option.some.inj ei1
  obtain ⟨i2, ei2⟩ := is_v k2
  obtain rfl : w2 = (.int i2) := Option.some.inj ei2
  obtain ⟨i3, ei3⟩ := is_v k3
  obtain rfl : w3 = (.int i3) := Option.some.inj ei3
  obtain ⟨i4, ei4⟩ := is_v g4
  obtain rfl : w4 = (.int i4) := Option.some.inj ei4
  obtain ⟨n, o, h1, h2, h3, _, L, rfl, ⟨rfl, N⟩, hq⟩ := rm0 l s _ hw tables_1 i0 i1 i2 i3 i4 s.heap s.heap.size (Nat.le_refl _) p e ha hc hk s m _ below hf ((Spec.applies_iff_loose hf).mp happ).1 ⟨rfl, State.Warmed39.refl s, rfl⟩ trivial
  refine ⟨n, _, h1, h2, h3, hpost _ _ _ _ _ _ ⟨Cond.after_iff.mpr rfl, Cond.after_iff.mpr (eq_i res_at (Term.int_eval (1)) rfl), trivial⟩ ⟨hq.1, hq.2.1, (hq.2.2.sift fun y hy => Or.inr (N y hy)).mono (by decide) (by decide)⟩⟩
theorem main_1_1 : Claimed_1_1 := comes_1 fun _ _ _ _ _ _ h hF => ⟨h.1, hF⟩
theorem main_1_2 : Claimed_1_2 := comes_1 fun _ _ _ _ _ _ h hF => ⟨h.2.1, hF⟩
end Jvm.Pilot.@@N@@
namespace Jvm.Pilot.@@N@@
open Jvm Jvm.ClassFile Sem Op Lib Jvm.Free Jvm.Stand Jvm.Pilot.@@N@@.Jvm.D
/-! MADE BY PROGRAM (witnessworld.py) out of the Statement's table words and the real class files: 11 classes; the members and pool entries that the words name. The judged class is class 1, her method 1. -/
namespace start1
open Jvm.ClassFile
def u (s : String) : CpInfo := .utf8 (stringToUtf16 s)
/-- a pool by its gaps: so many unusable entries, then the entry; so many at the end -/
def gap : Nat → List CpInfo → List CpInfo
  | 0, r => r
  | n + 1, r => .unusable :: gap n r
def poolList (es : List (Nat × CpInfo)) (last : Nat) : List CpInfo := es.foldr (fun e r => gap e.1 (e.2 :: r)) (gap last [])
def pool (es : List (Nat × CpInfo)) (last : Nat) : Array CpInfo := ⟨poolList es last⟩
def fileOf (pool : Array CpInfo) (this : Nat) (attrs : Array Attribute := #[]) (ms : Array MethodInfo := #[]) (fl : Nat := 33) (sup : Nat := 0) (ifs : Array Nat := #[]) (fds : Array FieldInfo := #[]) : ClassFile where
  minorVersion := 0
  majorVersion := 65
  constantPool := pool
  accessFlags := fl
  thisClass := this
  superClass := sup
  interfaces := ifs
  fields := fds
  methods := ms
  attributes := attrs
def plain (name : String) (sup : Option ClassId) : Class where
  name := name
  kind := .ordinary
  loader := none
  accessFlags := 33
  super := sup
  interfaces := #[]
  cf := none
  fields := #[]
  methods := #[]
  instanceTypes := #[]
  staticTypes := #[]
  resolved := #[]
  callSites := []
  init := .initialized
  statics := none
  mirror := none

def pool0 : Array CpInfo := pool [(5, u "<init>"), (0, u "()V"), (1, .class_ 10), (1, u "java/lang/Object")] 113

def k0c0 : Code := { maxStack := 0, maxLocals := 1, code := object_method_1_code, exceptionTable := #[], attributes := #[] }
def k0m0 : Method := { name := "<init>", desc := "()V", sig := { parameters := [], returnType := none }, accessFlags := 1, code := some k0c0 }
/-- java/lang/Object -/
def k0 : Class := { plain "java/lang/Object" none with
  accessFlags := 33
  interfaces := #[]
  cf := some (fileOf pool0 8 #[] #[{ accessFlags := 1, nameIndex := 5, descriptorIndex := 6, attributes := #[] }] 33 0 #[] #[])
  fields := #[]
  methods := #[k0m0]
  instanceTypes := #[]
  staticTypes := #[]
  resolved := Array.replicate 124 none
  statics := none }

def pool1 : Array CpInfo := pool [(2, .class_ 4), (1, u "java/lang/Object"), (0, u "<init>"), (0, u "()V"), (0, .class_ 8), (0, u "com/example/cardea/cardea/check/Layout"), (0, .methodref 7 10), (0, .nameAndType 5 11), (0, u "(III)V"), (0, .class_ 13), (0, u "com/example/cardea/cardea/check/Summary$Numbering"), (0, .methodref 12 15), (0, .nameAndType 5 16), (0, u "(Lcom/example/cardea/cardea/check/Layout;)V"), (0, .methodref 12 18), (0, .nameAndType 19 20), (0, u "isWrite"), (0, u "(I)Z"), (0, .class_ 22), (0, u "com/example/cardea/cardea/check/NumberingIsWritePinLaw"), (2, u "law"), (0, u "(IIIII)Z")] 7

def k1m0 : Method := { name := "<init>", desc := "()V", sig := { parameters := [], returnType := none }, accessFlags := 1, code := none }
def k1c1 : Code := { maxStack := 5, maxLocals := 16, code := code, exceptionTable := #[], attributes := #[] }
def k1m1 : Method := { name := "law", desc := "(IIIII)Z", sig := { parameters := [.int, .int, .int, .int, .int], returnType := some .boolean }, accessFlags := 9, code := some k1c1 }
/-- com/example/cardea/cardea/check/NumberingIsWritePinLaw -/
def k1 : Class := { plain "com/example/cardea/cardea/check/NumberingIsWritePinLaw" (some 0) with
  accessFlags := 49
  interfaces := #[]
  cf := some (fileOf pool1 21 #[] #[{ accessFlags := 1, nameIndex := 5, descriptorIndex := 6, attributes := #[] }, { accessFlags := 9, nameIndex := 25, descriptorIndex := 26, attributes := #[] }] 49 2 #[] #[])
  fields := #[]
  methods := #[k1m0, k1m1]
  instanceTypes := #[]
  staticTypes := #[]
  resolved := Array.replicate 34 none
  statics := none }

def pool2 : Array CpInfo := pool [(1, .methodref 2 3), (0, .class_ 4), (0, .nameAndType 5 6), (0, u "java/lang/Object"), (0, u "<init>"), (0, u "()V"), (0, .class_ 8), (0, u "java/lang/Record")] 13

def k2c0 : Code := { maxStack := 1, maxLocals := 1, code := jdk_30_method_1_code, exceptionTable := #[], attributes := #[] }
def k2m0 : Method := { name := "<init>", desc := "()V", sig := { parameters := [], returnType := none }, accessFlags := 4, code := some k2c0 }
/-- java/lang/Record -/
def k2 : Class := { plain "java/lang/Record" (some 0) with
  accessFlags := 1057
  interfaces := #[]
  cf := some (fileOf pool2 7 #[] #[{ accessFlags := 4, nameIndex := 5, descriptorIndex := 6, attributes := #[] }] 1057 2 #[] #[])
  fields := #[]
  methods := #[k2m0]
  instanceTypes := #[]
  staticTypes := #[]
  resolved := Array.replicate 22 none
  statics := none }

def pool3 : Array CpInfo := pool [(1, .methodref 2 3), (0, .class_ 4), (0, .nameAndType 5 6), (0, u "java/lang/Record"), (0, u "<init>"), (0, u "()V"), (0, .fieldref 8 9), (0, .class_ 10), (0, .nameAndType 11 12), (0, u "com/example/cardea/cardea/check/Layout"), (0, u "hosts"), (0, u "I"), (0, .fieldref 8 14), (0, .nameAndType 15 12), (0, u "ports"), (0, .fieldref 8 17), (0, .nameAndType 18 12), (0, u "switches"), (2, u "queues"), (0, u "()I"), (2, u "nodes"), (3, .class_ 30), (0, u "com/example/cardea/cardea/check/Layout$Places"), (67, .class_ 100), (1, u "com/example/cardea/cardea/check/Layout$1"), (22, u "APP"), (2, u "(III)V")] 35

def k3c0 : Code := { maxStack := 2, maxLocals := 4, code := prog_26_method_1_code, exceptionTable := #[], attributes := #[] }
def k3m0 : Method := { name := "<init>", desc := "(III)V", sig := { parameters := [.int, .int, .int], returnType := none }, accessFlags := 0, code := some k3c0 }
def k3c1 : Code := { maxStack := 3, maxLocals := 1, code := prog_26_method_2_code, exceptionTable := #[], attributes := #[] }
def k3m1 : Method := { name := "queues", desc := "()I", sig := { parameters := [], returnType := some .int }, accessFlags := 0, code := some k3c1 }
def k3c2 : Code := { maxStack := 2, maxLocals := 1, code := prog_26_method_3_code, exceptionTable := #[], attributes := #[] }
def k3m2 : Method := { name := "nodes", desc := "()I", sig := { parameters := [], returnType := some .int }, accessFlags := 0, code := some k3c2 }
/-- com/example/cardea/cardea/check/Layout -/
def k3 : Class := { plain "com/example/cardea/cardea/check/Layout" (some 2) with
  accessFlags := 48
  interfaces := #[]
  cf := some (fileOf pool3 8 #[.nestMembers #[98, 29]] #[{ accessFlags := 0, nameIndex := 5, descriptorIndex := 126, attributes := #[] }, { accessFlags := 0, nameIndex := 21, descriptorIndex := 22, attributes := #[] }, { accessFlags := 0, nameIndex := 25, descriptorIndex := 22, attributes := #[] }] 48 2 #[] #[{ accessFlags := 18, nameIndex := 11, descriptorIndex := 12, attributes := #[] }, { accessFlags := 18, nameIndex := 15, descriptorIndex := 12, attributes := #[] }, { accessFlags := 18, nameIndex := 18, descriptorIndex := 12, attributes := #[] }, { accessFlags := 24, nameIndex := 123, descriptorIndex := 12, attributes := #[] }])
  fields := #[{ name := "hosts", type := .int, accessFlags := 18, slot := 0, constantValue := 0 }, { name := "ports", type := .int, accessFlags := 18, slot := 1, constantValue := 0 }, { name := "switches", type := .int, accessFlags := 18, slot := 2, constantValue := 0 }, { name := "APP", type := .int, accessFlags := 24, slot := 0, constantValue := 0 }]
  methods := #[k3m0, k3m1, k3m2]
  instanceTypes := #[.int, .int, .int]
  staticTypes := #[.int]
  resolved := Array.replicate 162 none
  statics := none }

def pool4 : Array CpInfo := pool [(1, .methodref 2 3), (0, .class_ 4), (0, .nameAndType 5 6), (0, u "java/lang/Object"), (0, u "<init>"), (0, u "()V"), (0, .methodref 8 9), (0, .class_ 10), (0, .nameAndType 11 12), (0, u "com/example/cardea/cardea/check/Layout"), (0, u "queues"), (0, u "()I"), (0, .fieldref 14 15), (0, .class_ 16), (0, .nameAndType 11 17), (0, u "com/example/cardea/cardea/check/Summary$Numbering"), (0, u "I"), (0, .methodref 8 19), (0, .nameAndType 20 12), (0, u "nodes"), (0, .fieldref 14 22), (0, .nameAndType 20 17), (0, .methodref 14 24), (0, .nameAndType 25 12), (0, u "size"), (0, .fieldref 14 27), (0, .nameAndType 28 17), (0, u "words"), (3, u "(I)Z"), (8, u "isWrite"), (6, u "(Lcom/example/cardea/cardea/check/Layout;)V"), (14, .class_ 64), (0, u "com/example/cardea/cardea/check/Summary")] 5

def k4c0 : Code := { maxStack := 3, maxLocals := 2, code := prog_63_method_1_code, exceptionTable := #[], attributes := #[] }
def k4m0 : Method := { name := "<init>", desc := "(Lcom/example/cardea/cardea/check/Layout;)V", sig := { parameters := [(.object "com/example/cardea/cardea/check/Layout")], returnType := none }, accessFlags := 0, code := some k4c0 }
def k4c1 : Code := { maxStack := 3, maxLocals := 1, code := prog_63_method_2_code, exceptionTable := #[], attributes := #[] }
def k4m1 : Method := { name := "size", desc := "()I", sig := { parameters := [], returnType := some .int }, accessFlags := 0, code := some k4c1 }
def k4c2 : Code := { maxStack := 4, maxLocals := 2, code := prog_63_method_8_code, exceptionTable := #[], attributes := #[] }
def k4m2 : Method := { name := "isWrite", desc := "(I)Z", sig := { parameters := [.int], returnType := some .boolean }, accessFlags := 0, code := some k4c2 }
/-- com/example/cardea/cardea/check/Summary$Numbering -/
def k4 : Class := { plain "com/example/cardea/cardea/check/Summary$Numbering" (some 0) with
  accessFlags := 48
  interfaces := #[]
  cf := some (fileOf pool4 14 #[.nestHost 63] #[{ accessFlags := 0, nameIndex := 5, descriptorIndex := 48, attributes := #[] }, { accessFlags := 0, nameIndex := 25, descriptorIndex := 12, attributes := #[] }, { accessFlags := 0, nameIndex := 41, descriptorIndex := 32, attributes := #[] }] 48 2 #[] #[{ accessFlags := 18, nameIndex := 11, descriptorIndex := 17, attributes := #[] }, { accessFlags := 18, nameIndex := 20, descriptorIndex := 17, attributes := #[] }, { accessFlags := 18, nameIndex := 28, descriptorIndex := 17, attributes := #[] }])
  fields := #[{ name := "queues", type := .int, accessFlags := 18, slot := 0, constantValue := 0 }, { name := "nodes", type := .int, accessFlags := 18, slot := 1, constantValue := 0 }, { name := "words", type := .int, accessFlags := 18, slot := 2, constantValue := 0 }]
  methods := #[k4m0, k4m1, k4m2]
  instanceTypes := #[.int, .int, .int]
  staticTypes := #[]
  resolved := Array.replicate 70 none
  statics := none }

def pool5 : Array CpInfo := pool [(1, u "java/lang/Cloneable"), (0, .class_ 1), (0, u "java/lang/Object"), (0, .class_ 3)] 3

/-- java/lang/Cloneable -/
def k5 : Class := { plain "java/lang/Cloneable" (some 0) with
  accessFlags := 1537
  interfaces := #[]
  cf := some (fileOf pool5 2 #[] #[] 1537 4 #[] #[])
  fields := #[]
  methods := #[]
  instanceTypes := #[]
  staticTypes := #[]
  resolved := Array.replicate 8 none
  statics := none }

def pool6 : Array CpInfo := pool [(1, u "java/io/Serializable"), (0, .class_ 1), (0, u "java/lang/Object"), (0, .class_ 3)] 3

/-- java/io/Serializable -/
def k6 : Class := { plain "java/io/Serializable" (some 0) with
  accessFlags := 1537
  interfaces := #[]
  cf := some (fileOf pool6 2 #[] #[] 1537 4 #[] #[])
  fields := #[]
  methods := #[]
  instanceTypes := #[]
  staticTypes := #[]
  resolved := Array.replicate 8 none
  statics := none }

/-- the primitive byte -/
def k7 : Class := { plain "byte" none with kind := .primitive 'B', accessFlags := 0x411 }
/-- [B -/
def k8 : Class := { plain "[B" (some 0) with kind := .array 7 .byte, interfaces := #[5, 6], accessFlags := 1041 }

/-- the primitive int -/
def k9 : Class := { plain "int" none with kind := .primitive 'I', accessFlags := 0x411 }
/-- [I -/
def k10 : Class := { plain "[I" (some 0) with kind := .array 9 .int, interfaces := #[5, 6], accessFlags := 1041 }

def heap : Heap := #[]
def classes : Array Class := #[k0, k1, k2, k3, k4, k5, k6, k7, k8, k9, k10]
def interned : List (Array UInt16 × Addr) := []
def slotsUsed : Nat := 0
def theMethod : MethodId := ⟨1, 1⟩
def args0 : Array Value := #[.int 5, .int 7, .int 3, .int 2, .int 1]
def aboutOver (below : List Frame) : State where
  vm := { classes := classes, interned := interned.toArray }
  heap := heap
  slotsUsed := slotsUsed
  threads := #[{ frames := .invoking theMethod args0 :: below }]
def below0 : List Frame := [.native { method := ⟨0, 0⟩, args := #[] }]
def about1 : State := aboutOver below0
def p0 : Program := .bare "" "" ""
def e0 : Env := launch0.env 0 0 0
theorem w_frames : about1.frames = Frame.invoking theMethod args0 :: below0 := rfl
set_option maxRecDepth 65536 in
theorem w_args : argsFit about1.vm theMethod args0 = true := by decide +kernel
set_option maxRecDepth 65536 in
theorem w_heap : heapFits about1 = true := by decide +kernel
set_option maxRecDepth 65536 in
theorem w_runnable : about1.curStatus? = some .runnable := by decide +kernel
set_option maxRecDepth 65536 in
theorem w_alone : about1.alone = true := by decide +kernel
set_option maxRecDepth 65536 in
theorem w_named : about1.methodNamed? x = some theMethod := by decide +kernel
set_option maxRecDepth 65536 in
theorem w_hears : about1.hears theMethod below0 = true := by decide +kernel
set_option maxRecDepth 65536 in
theorem w_ripe : about1.ripe theMethod args0 below0 = true := by decide +kernel
theorem w_running : about1.status = .running := rfl
set_option maxRecDepth 65536 in
theorem w_room : about1.hasRoom e0.platform room_1 = true :=
  launch0.hasRoom_least _ room_1 (by decide +kernel) (by decide +kernel) (by decide +kernel) (by decide +kernel) (by decide +kernel) (by decide +kernel)
theorem allAtoms_all (ts : List Jvm.Cond) (a : Array Jvm.Value) (st : Jvm.State) : (allAtoms ts).before a st = ts.all (fun c => c.before a st) := by
  induction ts with
  | nil => rfl
  | cons c t ih =>
    show (Jvm.Cond.and c (allAtoms t)).before a st = _
    rw [Jvm.Cond.before_and, ih, List.all_cons]
def words1 : List Jvm.Cond := Jvm.Cond.code x code maxLocals ret :: tables_1
/-- a 'code' word, met by the world's own term for the bytes: nothing is compared byte by byte -/
theorem code_word {y : MethodName} {bytes : ByteArray} {mx : Nat} {rt : Option FieldType} {a : Array Value} {s : State} {m : MethodId} {meth : Method} {c : Code} (h1 : s.methodNamed? y = some m) (h2 : s.vm.method? m = some meth) (h3 : meth.code = some c) (h4 : c.code = bytes)
    (h5 : (c.maxLocals == mx && c.exceptionTable.isEmpty && decide (c.maxStack ≤ mostOperands) && decide (meth.sig.returnType = rt) && !meth.locks && decide (parseMethodDescriptor y.desc = some meth.sig)) = true) : (Jvm.Cond.code y bytes mx rt).before a s = true := by
  simp only [Bool.and_eq_true, beq_iff_eq, Bool.not_eq_true', decide_eq_true_eq] at h5
  obtain ⟨⟨⟨⟨⟨g1, g2⟩, g3⟩, g4⟩, g5⟩, g6⟩ := h5
  simp [Cond.before, Cond.holds, Cond.value, h1, h2, h3, h4, g1, g2, g3, g4, g5, g6]
def isCode : Jvm.Cond → Bool
  | .code _ _ _ _ => true
  | _ => false
theorem all_split {L : List Jvm.Cond} {P : Jvm.Cond → Bool} (h1 : L.all (fun c => isCode c || P c) = true) (h2 : ∀ c ∈ L.filter isCode, P c = true) : L.all P = true := by
  refine List.all_eq_true.mpr fun c hc => ?_
  have h := List.all_eq_true.mp h1 c hc
  rcases Bool.eq_false_or_eq_true (isCode c) with hi | hi
  · exact h2 c (List.mem_filter.mpr ⟨hc, hi⟩)
  · simpa [hi] using h
set_option maxRecDepth 65536 in
theorem w_c0 : (Jvm.Cond.code x code maxLocals ret).before args0 about1 = true := code_word (m := ⟨1, 1⟩) (meth := k1m1) (c := k1c1) (by decide +kernel) rfl rfl rfl (by decide +kernel)
set_option maxRecDepth 65536 in
theorem w_c1 : (Jvm.Cond.code ({ cls := "com/example/cardea/cardea/check/Layout", name := "<init>", desc := "(III)V" } : Jvm.MethodName) prog_26_method_1_code (4 : Nat) (Option.none : Option Jvm.ClassFile.FieldType)).before args0 about1 = true := code_word (m := ⟨3, 0⟩) (meth := k3m0) (c := k3c0) (by decide +kernel) rfl rfl rfl (by decide +kernel)
set_option maxRecDepth 65536 in
theorem w_c2 : (Jvm.Cond.code ({ cls := "java/lang/Record", name := "<init>", desc := "()V" } : Jvm.MethodName) jdk_30_method_1_code (1 : Nat) (Option.none : Option Jvm.ClassFile.FieldType)).before args0 about1 = true := code_word (m := ⟨2, 0⟩) (meth := k2m0) (c := k2c0) (by decide +kernel) rfl rfl rfl (by decide +kernel)
set_option maxRecDepth 65536 in
theorem w_c3 : (Jvm.Cond.code ({ cls := "java/lang/Object", name := "<init>", desc := "()V" } : Jvm.MethodName) object_method_1_code (1 : Nat) (Option.none : Option Jvm.ClassFile.FieldType)).before args0 about1 = true := code_word (m := ⟨0, 0⟩) (meth := k0m0) (c := k0c0) (by decide +kernel) rfl rfl rfl (by decide +kernel)
set_option maxRecDepth 65536 in
theorem w_c4 : (Jvm.Cond.code ({ cls := "com/example/cardea/cardea/check/Summary$Numbering", name := "<init>", desc := "(Lcom/example/cardea/cardea/check/Layout;)V" } : Jvm.MethodName) prog_63_method_1_code (2 : Nat) (Option.none : Option Jvm.ClassFile.FieldType)).before args0 about1 = true := code_word (m := ⟨4, 0⟩) (meth := k4m0) (c := k4c0) (by decide +kernel) rfl rfl rfl (by decide +kernel)
set_option maxRecDepth 65536 in
theorem w_c5 : (Jvm.Cond.code ({ cls := "com/example/cardea/cardea/check/Layout", name := "queues", desc := "()I" } : Jvm.MethodName) prog_26_method_2_code (1 : Nat) (Option.some Jvm.ClassFile.FieldType.int)).before args0 about1 = true := code_word (m := ⟨3, 1⟩) (meth := k3m1) (c := k3c1) (by decide +kernel) rfl rfl rfl (by decide +kernel)
set_option maxRecDepth 65536 in
theorem w_c6 : (Jvm.Cond.code ({ cls := "com/example/cardea/cardea/check/Layout", name := "nodes", desc := "()I" } : Jvm.MethodName) prog_26_method_3_code (1 : Nat) (Option.some Jvm.ClassFile.FieldType.int)).before args0 about1 = true := code_word (m := ⟨3, 2⟩) (meth := k3m2) (c := k3c2) (by decide +kernel) rfl rfl rfl (by decide +kernel)
set_option maxRecDepth 65536 in
theorem w_c7 : (Jvm.Cond.code ({ cls := "com/example/cardea/cardea/check/Summary$Numbering", name := "size", desc := "()I" } : Jvm.MethodName) prog_63_method_2_code (1 : Nat) (Option.some Jvm.ClassFile.FieldType.int)).before args0 about1 = true := code_word (m := ⟨4, 1⟩) (meth := k4m1) (c := k4c1) (by decide +kernel) rfl rfl rfl (by decide +kernel)
set_option maxRecDepth 65536 in
theorem w_c8 : (Jvm.Cond.code ({ cls := "com/example/cardea/cardea/check/Summary$Numbering", name := "isWrite", desc := "(I)Z" } : Jvm.MethodName) prog_63_method_8_code (2 : Nat) (Option.some Jvm.ClassFile.FieldType.boolean)).before args0 about1 = true := code_word (m := ⟨4, 2⟩) (meth := k4m2) (c := k4c2) (by decide +kernel) rfl rfl rfl (by decide +kernel)
def codes1 : List Jvm.Cond := [Jvm.Cond.code x code maxLocals ret, Jvm.Cond.code ({ cls := "com/example/cardea/cardea/check/Layout", name := "<init>", desc := "(III)V" } : Jvm.MethodName) prog_26_method_1_code (4 : Nat) (Option.none : Option Jvm.ClassFile.FieldType), Jvm.Cond.code ({ cls := "java/lang/Record", name := "<init>", desc := "()V" } : Jvm.MethodName) jdk_30_method_1_code (1 : Nat) (Option.none : Option Jvm.ClassFile.FieldType), Jvm.Cond.code ({ cls := "java/lang/Object", name := "<init>", desc := "()V" } : Jvm.MethodName) object_method_1_code (1 : Nat) (Option.none : Option Jvm.ClassFile.FieldType), Jvm.Cond.code ({ cls := "com/example/cardea/cardea/check/Summary$Numbering", name := "<init>", desc := "(Lcom/example/cardea/cardea/check/Layout;)V" } : Jvm.MethodName) prog_63_method_1_code (2 : Nat) (Option.none : Option Jvm.ClassFile.FieldType), Jvm.Cond.code ({ cls := "com/example/cardea/cardea/check/Layout", name := "queues", desc := "()I" } : Jvm.MethodName) prog_26_method_2_code (1 : Nat) (Option.some Jvm.ClassFile.FieldType.int), Jvm.Cond.code ({ cls := "com/example/cardea/cardea/check/Layout", name := "nodes", desc := "()I" } : Jvm.MethodName) prog_26_method_3_code (1 : Nat) (Option.some Jvm.ClassFile.FieldType.int), Jvm.Cond.code ({ cls := "com/example/cardea/cardea/check/Summary$Numbering", name := "size", desc := "()I" } : Jvm.MethodName) prog_63_method_2_code (1 : Nat) (Option.some Jvm.ClassFile.FieldType.int), Jvm.Cond.code ({ cls := "com/example/cardea/cardea/check/Summary$Numbering", name := "isWrite", desc := "(I)Z" } : Jvm.MethodName) prog_63_method_8_code (2 : Nat) (Option.some Jvm.ClassFile.FieldType.boolean)]
set_option maxRecDepth 65536 in
theorem codes_eq : words1.filter isCode = codes1 := rfl
theorem w_codes : ∀ c ∈ words1.filter isCode, c.before args0 about1 = true := by
  rw [codes_eq]
  intro c hc
  simp only [codes1, List.mem_cons, List.not_mem_nil, or_false] at hc
  rcases hc with rfl | rfl | rfl | rfl | rfl | rfl | rfl | rfl | rfl
  · exact w_c0
  · exact w_c1
  · exact w_c2
  · exact w_c3
  · exact w_c4
  · exact w_c5
  · exact w_c6
  · exact w_c7
  · exact w_c8
set_option maxRecDepth 65536 in
theorem w_t1 : (words1.take 24).all (fun c => isCode c || c.before args0 about1) = true := by decide +kernel
set_option maxRecDepth 65536 in
theorem w_t2 : ((words1.drop 24).take 24).all (fun c => isCode c || c.before args0 about1) = true := by decide +kernel
set_option maxRecDepth 65536 in
theorem w_t3 : ((words1.drop 24).drop 24).all (fun c => isCode c || c.before args0 about1) = true := by decide +kernel
theorem w_tables : (allAtoms (Jvm.Cond.code x code maxLocals ret :: tables_1)).before args0 about1 = true := by
  rw [allAtoms_all]
  show words1.all (fun c => c.before args0 about1) = true
  refine all_split ?_ w_codes
  rw [← List.take_append_drop 24 words1, List.all_append, w_t1, ← List.take_append_drop 24 (words1.drop 24), List.all_append, w_t2, w_t3]
  rfl
set_option maxRecDepth 65536 in
theorem w_case : (Jvm.Cond.and given_1 narrow_1).before args0 about1 = true := by decide +kernel
theorem w_applies : (headSpec (Jvm.Cond.code x code maxLocals ret :: tables_1) room_1).applies x e0.platform about1 = true :=
  (Spec.applies_iff w_frames).mpr ⟨w_running, w_runnable, w_alone, w_named, w_hears, w_ripe, w_room, w_tables⟩
theorem atStart : AtStart classFile x code maxLocals ret World_1 tables_1 room_1 Calls_1 rest_1 Pre_1 launch0 p0 e0 about1 theMethod args0 below0 :=
  ⟨lists_1, trivial, launch0.admits_env _ _ _, launch0.least_env, fairChoices_fair.cas, fairChoices_fair.clock, w_frames, w_args, w_heap, w_applies, trivial, trivial, w_case⟩
end start1
theorem witness_1 : WitnessClaimed_1 := ⟨start1.p0, start1.e0, start1.about1, start1.theMethod, start1.args0, start1.below0, start1.atStart⟩
end Jvm.Pilot.@@N@@
