import JvmDerived
import JvmDerived.Pilot.@@N@@Statement
import JvmDerived.Pilot.@@N@@Code
set_option linter.unusedVariables false
set_option linter.unusedSimpArgs false
namespace Jvm.RoadKit
open Sem ClassFile Op Lib Jvm.Stand Jvm.Free Jvm.LawKit
section New
variable {p : Program} {l : Launch} {e : Env} {R : Room} {s : State} {m : MethodId} {args : Array Value} {below : List Frame} {meth : Method} {c : Code} {T : State} {locs : List Loc} {cells slots : Nat}
theorem retI (X : Stand p l e R s m args below meth c T locs cells slots) (hx : p.tables.exec = Jvm.exec) {pc : Nat} {Ls : Array Slot} {z : Int32} {rest : List Value} (hret : meth.sig.returnType = some .int) (hd : decode c.code pc = .ok (.ireturn, 1)) {fs : List Frame}
    (hl : ∀ (f : JFrame) (acts : List Action), f.method = m → f.locked = none → f.entered = [] → (doReturn e (T.setTop f) acts (some (.int z))).1 = T.setFrames fs) : Steps p.tables e below (T.setTop (mkF m pc Ls (.int z :: rest))) (T.setFrames fs) := by
  have hm' : T.vm.method? m = some meth := X.method'
  have hn : narrow .int (.int z) = .int z := rfl
  show Steps p.tables e below (T.setTop { method := m, pc := pc, locals := Ls, stack := _ :: rest, locked := none }) _
  jvm_step X.here [X.here.top, hx, hd, hm', hret, hn]
  first | (intro acts; rw [hl _ acts rfl rfl rfl]) | rw [hl _ _ rfl rfl rfl]
  exact Steps.refl _
end New
end Jvm.RoadKit
namespace Jvm.Pilot.@@N@@
open Jvm Jvm.ClassFile Sem Op Lib Jvm.Free Jvm.Stand Jvm.LawKit Jvm.RoadKit Bundle Jvm.Pilot.@@N@@.Jvm.D
theorem own_bv (x : Int32) (y : Int32) (k : Nat) (h : (y &&& 31).toUInt32.toBitVec = BitVec.ofNat 32 k) (hk : k < 32) : (XT.ushr x y).toBitVec = x.toBitVec >>> k := by
  show (x.toUInt32 >>> (y &&& 31).toUInt32).toBitVec = _
  rw [UInt32.toBitVec_shiftRight, h]
  have : BitVec.ofNat 32 k % 32 = BitVec.ofNat 32 k := by
    apply BitVec.eq_of_toNat_eq; simp; omega
  rw [this]
  show x.toBitVec >>> (BitVec.ofNat 32 k) = _
  rw [BitVec.ushiftRight_eq']
  congr 1
  simp; omega
theorem own_bvL (x : Int64) (y : Int32) (k : Nat) (h : (y.toInt64.toUInt64 &&& Int64.toUInt64 63).toBitVec = BitVec.ofNat 64 k) (hk : k < 64) : (XT.ushrL x y).toBitVec = x.toBitVec >>> k := by
  show (x.toUInt64 >>> (y.toInt64.toUInt64 &&& Int64.toUInt64 63)).toBitVec = _
  rw [UInt64.toBitVec_shiftRight, h]
  have : BitVec.ofNat 64 k % 64 = BitVec.ofNat 64 k := by
    apply BitVec.eq_of_toNat_eq; simp; omega
  rw [this]
  show x.toBitVec >>> (BitVec.ofNat 64 k) = _
  rw [BitVec.ushiftRight_eq']
  congr 1
  simp; omega
/-- the plain number of an int's bits, of a long's -/
def own_nt (x : Int32) : Nat := x.toBitVec.toNat
def own_nl (x : Int64) : Nat := x.toBitVec.toNat
theorem own_nt_inj {x y : Int32} (h : own_nt x = own_nt y) : x = y := Int32.toBitVec_inj.mp (BitVec.eq_of_toNat_eq h)
theorem own_nt_lt (x : Int32) : own_nt x < 4294967296 := x.toBitVec.isLt
theorem own_nl_lt (x : Int64) : own_nl x < 18446744073709551616 := x.toBitVec.isLt
theorem own_mod (x m : Nat) (k : Nat) (hm : m = 2 ^ k - 1) : x &&& m = x % 2 ^ k := by rw [hm]; exact Nat.and_two_pow_sub_one_eq_mod x k
theorem own_ushr (x y : Int32) (k : Nat) (h : (y &&& 31).toUInt32.toBitVec = BitVec.ofNat 32 k) (hk : k < 32) : own_nt (XT.ushr x y) = own_nt x / 2 ^ k := by
  unfold own_nt; rw [own_bv x y k h hk, BitVec.toNat_ushiftRight, Nat.shiftRight_eq_div_pow]
theorem own_ushrL (x : Int64) (y : Int32) (k : Nat) (h : (y.toInt64.toUInt64 &&& Int64.toUInt64 63).toBitVec = BitVec.ofNat 64 k) (hk : k < 64) : own_nl (XT.ushrL x y) = own_nl x / 2 ^ k := by
  unfold own_nl; rw [own_bvL x y k h hk, BitVec.toNat_ushiftRight, Nat.shiftRight_eq_div_pow]
theorem own_and31 (x : Int32) : own_nt (x &&& 31) = own_nt x % 32 := by
  unfold own_nt; rw [Int32.toBitVec_and, BitVec.toNat_and]; exact own_mod _ 31 5 (by decide)
theorem own_and255 (x : Int32) : own_nt (x &&& 255) = own_nt x % 256 := by
  unfold own_nt; rw [Int32.toBitVec_and, BitVec.toNat_and]; exact own_mod _ 255 8 (by decide)
theorem own_and31L (x : Int64) : own_nl (x &&& 31) = own_nl x % 32 := by
  unfold own_nl; rw [Int64.toBitVec_and, BitVec.toNat_and]; exact own_mod _ 31 5 (by decide)
theorem own_and255L (x : Int64) : own_nl (x &&& 255) = own_nl x % 256 := by
  unfold own_nl; rw [Int64.toBitVec_and, BitVec.toNat_and]; exact own_mod _ 255 8 (by decide)
theorem own_l2i (x : Int64) : own_nt x.toInt32 = own_nl x % 4294967296 := by
  unfold own_nt own_nl
  show (x.toBitVec.signExtend 32).toNat = _
  rw [BitVec.signExtend_eq_setWidth_of_le _ (by decide), BitVec.toNat_setWidth]
theorem own_i2l (x : Int32) (h : own_nt x < 2147483648) : own_nl x.toInt64 = own_nt x := by
  unfold own_nt own_nl at *
  show (x.toBitVec.signExtend 64).toNat = _
  have hm : x.toBitVec.msb = false := by rw [BitVec.msb_eq_false_iff_two_mul_lt]; omega
  rw [BitVec.signExtend_eq_setWidth_of_msb_false hm, BitVec.toNat_setWidth]
  exact Nat.mod_eq_of_lt (by omega)
/-- x <<< 8 ||| r on ints -/
theorem own_shl8 (x r : Int32) (hr : own_nt r < 256) : own_nt (x <<< ((8 : Int32) &&& 31) ||| r) = (own_nt x * 256 + own_nt r) % 4294967296 := by
  have e : (x <<< ((8 : Int32) &&& 31)).toBitVec = x.toBitVec <<< 8 := by
    rw [Int32.toBitVec_shiftLeft]; rfl
  have hx := own_nt_lt x
  unfold own_nt at *
  rw [Int32.toBitVec_or, e, BitVec.toNat_or, BitVec.toNat_shiftLeft, Nat.shiftLeft_eq]
  have e2 : x.toBitVec.toNat * 2 ^ 8 % 2 ^ 32 = 2 ^ 8 * (x.toBitVec.toNat % 2 ^ 24) := by omega
  rw [e2, ← Nat.two_pow_add_eq_or_of_lt (by omega)]
  omega
/-- x <<< s &&& 31 on ints, 1 ≤ s ≤ 4 -/
theorem own_shlF (x y : Int32) (s : Nat) (h : (y &&& 31).toBitVec = BitVec.ofNat 32 s) (hs : s < 5) : own_nt (x <<< (y &&& 31) &&& 31) = (own_nt x * 2 ^ s) % 32 := by
  rw [own_and31]
  have e : (x <<< (y &&& 31)).toBitVec = x.toBitVec <<< s := by
    rw [Int32.toBitVec_shiftLeft, h]
    have : (BitVec.ofNat 32 s).smod 32 = BitVec.ofNat 32 s := by
      have hs' : s = 0 ∨ s = 1 ∨ s = 2 ∨ s = 3 ∨ s = 4 := by omega
      rcases hs' with rfl | rfl | rfl | rfl | rfl <;> rfl
    rw [this, BitVec.shiftLeft_eq']
    congr 1
    simp; omega
  unfold own_nt
  rw [e, BitVec.toNat_shiftLeft, Nat.shiftLeft_eq]
  have hs' : s = 0 ∨ s = 1 ∨ s = 2 ∨ s = 3 ∨ s = 4 := by omega
  rcases hs' with rfl | rfl | rfl | rfl | rfl <;> omega
/-- (B <<< s) ||| lower on longs, B below 256 -/
theorem own_shlL (x r : Int64) (y : Int32) (s : Nat) (h : (y.toInt64 &&& 63).toBitVec = BitVec.ofNat 64 s) (hs : s ≤ 32) (hx : own_nl x < 256) : own_nl (x <<< (y.toInt64 &&& 63)) = own_nl x * 2 ^ s := by
  have e : (x <<< (y.toInt64 &&& 63)).toBitVec = x.toBitVec <<< s := by
    rw [Int64.toBitVec_shiftLeft, h]
    have : (BitVec.ofNat 64 s).smod 64 = BitVec.ofNat 64 s := by
      have : ∀ s : Fin 33, (BitVec.ofNat 64 s.val).smod 64 = BitVec.ofNat 64 s.val := by decide +kernel
      exact this ⟨s, by omega⟩
    rw [this, BitVec.shiftLeft_eq']
    congr 1
    simp; omega
  unfold own_nl at *
  rw [e, BitVec.toNat_shiftLeft, Nat.shiftLeft_eq]
  apply Nat.mod_eq_of_lt
  have h1 : x.toBitVec.toNat * 2 ^ s < 256 * 2 ^ s := Nat.mul_lt_mul_of_pos_right hx (Nat.two_pow_pos s)
  have h2 : 2 ^ s ≤ 2 ^ 32 := Nat.pow_le_pow_right (by decide) hs
  omega
theorem own_orL (x y : Int64) (q s : Nat) (hx : own_nl x = q * 2 ^ s) (hy : own_nl y < 2 ^ s) : own_nl (x ||| y) = own_nl x + own_nl y := by
  unfold own_nl at *
  rw [Int64.toBitVec_or, BitVec.toNat_or, hx, Nat.mul_comm, ← Nat.two_pow_add_eq_or_of_lt hy]
def own_raw (a b : Int64) (k : Int32) : Int32 := if k < (8 : Int32) then (XT.ushrL a ((8 : Int32) * k) &&& (255 : Int64)).toInt32 else (XT.ushrL b ((8 : Int32) * (k - (8 : Int32))) &&& (255 : Int64)).toInt32
theorem own_raw_lt (a b : Int64) (k : Int32) : own_nt (own_raw a b k) < 256 := by
  have h : ∀ x : Int64, own_nt (x &&& 255).toInt32 < 256 := fun x => by rw [own_l2i, own_and255L]; omega
  unfold own_raw
  by_cases q : k < 8
  · rw [if_pos q]; exact h _
  · rw [if_neg q]; exact h _
theorem own_small (r : Int32) : r = Int32.ofNat (own_nt r) := by
  apply own_nt_inj
  unfold own_nt
  show _ = (BitVec.ofNat 32 r.toBitVec.toNat).toNat
  simp
theorem own_back (r : Int32) (h : own_nt r < 256) : r.toInt8.toInt32 &&& (255 : Int32) = r := by
  have q : ∀ k : Fin 256, (Int32.ofNat k.val).toInt8.toInt32 &&& (255 : Int32) = Int32.ofNat k.val := by decide +kernel
  have e := q ⟨own_nt r, h⟩
  rw [own_small r]; exact e
def own_buf (x r : Int32) : Int32 := x <<< ((8 : Int32) &&& 31) ||| (r.toInt8.toInt32 &&& (255 : Int32))
theorem own_buf_nt (x r : Int32) (h : own_nt r < 256) : own_nt (own_buf x r) = (own_nt x * 256 + own_nt r) % 4294967296 := by
  unfold own_buf; rw [own_back r h]; exact own_shl8 x r h
theorem own_buf_mod (x r : Int32) (h : own_nt r < 256) : own_nt (own_buf x r) % 256 = own_nt r := by
  rw [own_buf_nt x r h]; omega
def own_idx (x p : Int32) : Int32 := XT.ushr x p &&& (31 : Int32)
def own_fl (x p : Int32) : Int32 := x <<< (((5 : Int32) - p) &&& 31) &&& (31 : Int32)
def own_in (x : Int32) (k : Nat) : List Int32 := if k < 5 then [] else if k < 10 then [own_idx x (Int32.ofNat (k - 5))] else [own_idx x (Int32.ofNat (k - 5)), own_idx x (Int32.ofNat (k - 10))]
def own_enc : Int32 → Nat → List Int32 → List Int32
  | x, k, [] => if k = 0 then [] else [own_fl x (Int32.ofNat k)]
  | x, k, r :: rs => own_in (own_buf x r) (k + 8) ++ own_enc (own_buf x r) ((k + 8) % 5) rs
def own_bA (a b : Int64) (n k : Int32) : Int64 := if k < n then (own_raw a b k).toInt64 else (0 : Int64)
theorem own_bA_lt (a b : Int64) (n k : Int32) : own_nl (own_bA a b n k) < 256 := by
  unfold own_bA
  have h := own_raw_lt a b k
  by_cases q : k < n
  · rw [if_pos q, own_i2l _ (by omega)]; exact h
  · rw [if_neg q]; decide
theorem own_bA_in (a b : Int64) (n k : Int32) (q : k < n) : own_nl (own_bA a b n k) = own_nt (own_raw a b k) := by
  unfold own_bA; rw [if_pos q, own_i2l _ (by have := own_raw_lt a b k; omega)]
theorem own_bA_out (a b : Int64) (n k : Int32) (q : ¬ k < n) : own_nl (own_bA a b n k) = 0 := by
  unfold own_bA; rw [if_neg q]; decide
def own_grp (a b : Int64) (n k : Int32) : Int64 := (((own_bA a b n k <<< ((32 : Int32).toInt64 &&& 63) ||| own_bA a b n (k + (1 : Int32)) <<< ((24 : Int32).toInt64 &&& 63)) ||| own_bA a b n (k + (2 : Int32)) <<< ((16 : Int32).toInt64 &&& 63)) ||| own_bA a b n (k + (3 : Int32)) <<< ((8 : Int32).toInt64 &&& 63)) ||| own_bA a b n (k + (4 : Int32))
theorem own_grp_nl (a b : Int64) (n k : Int32) : own_nl (own_grp a b n k) = own_nl (own_bA a b n k) * 4294967296 + own_nl (own_bA a b n (k + 1)) * 16777216 + own_nl (own_bA a b n (k + 2)) * 65536 + own_nl (own_bA a b n (k + 3)) * 256 + own_nl (own_bA a b n (k + 4)) := by
  have h0 := own_bA_lt a b n k
  have h1 := own_bA_lt a b n (k + 1)
  have h2 := own_bA_lt a b n (k + 2)
  have h3 := own_bA_lt a b n (k + 3)
  have h4 := own_bA_lt a b n (k + 4)
  unfold own_grp
  generalize own_bA a b n k = b0 at *
  generalize own_bA a b n (k + 1) = b1 at *
  generalize own_bA a b n (k + 2) = b2 at *
  generalize own_bA a b n (k + 3) = b3 at *
  generalize own_bA a b n (k + 4) = b4 at *
  have e0 := own_shlL b0 0 (32 : Int32) 32 (by decide) (by decide) h0
  have e1 := own_shlL b1 0 (24 : Int32) 24 (by decide) (by decide) h1
  have e2 := own_shlL b2 0 (16 : Int32) 16 (by decide) (by decide) h2
  have e3 := own_shlL b3 0 (8 : Int32) 8 (by decide) (by decide) h3
  generalize b0 <<< ((32 : Int32).toInt64 &&& 63) = c0 at *
  generalize b1 <<< ((24 : Int32).toInt64 &&& 63) = c1 at *
  generalize b2 <<< ((16 : Int32).toInt64 &&& 63) = c2 at *
  generalize b3 <<< ((8 : Int32).toInt64 &&& 63) = c3 at *
  have f1 := own_orL c0 c1 (own_nl b0) 32 e0 (by rw [e1]; omega)
  have f2 := own_orL (c0 ||| c1) c2 (own_nl b0 * 256 + own_nl b1) 24 (by rw [f1, e0, e1]; omega) (by rw [e2]; omega)
  have f3 := own_orL (c0 ||| c1 ||| c2) c3 (own_nl b0 * 65536 + own_nl b1 * 256 + own_nl b2) 16 (by rw [f2, f1, e0, e1, e2]; omega) (by rw [e3]; omega)
  have f4 := own_orL (c0 ||| c1 ||| c2 ||| c3) b4 (own_nl b0 * 16777216 + own_nl b1 * 65536 + own_nl b2 * 256 + own_nl b3) 8 (by rw [f3, f2, f1, e0, e1, e2, e3]; omega) (by omega)
  rw [f4, f3, f2, f1, e0, e1, e2, e3]
def own_v (g : Int64) (j : Int32) : Int32 := (XT.ushrL g ((35 : Int32) - (5 : Int32) * j) &&& (31 : Int64)).toInt32
theorem own_v_nt (g : Int64) (j : Int32) (s : Nat) (h : (((35 : Int32) - (5 : Int32) * j).toInt64.toUInt64 &&& Int64.toUInt64 63).toBitVec = BitVec.ofNat 64 s) (hs : s < 64) : own_nt (own_v g j) = own_nl g / 2 ^ s % 32 := by
  unfold own_v; rw [own_l2i, own_and31L, own_ushrL g _ s h hs]; omega
theorem own_idx_nt (x p : Int32) (s : Nat) (h : (p &&& 31).toUInt32.toBitVec = BitVec.ofNat 32 s) (hs : s < 32) : own_nt (own_idx x p) = own_nt x / 2 ^ s % 32 := by
  unfold own_idx; rw [own_and31, own_ushr x p s h hs]
theorem own_idx_lt (x p : Int32) : own_nt (own_idx x p) < 32 := by unfold own_idx; rw [own_and31]; omega
theorem own_fl_lt (x p : Int32) : own_nt (own_fl x p) < 32 := by unfold own_fl; rw [own_and31]; omega

theorem own_k0 (B0 B1 B2 B3 B4 : Nat) (g : Int64) (x r : Int32) (hg : own_nl g = (B0 * 4294967296 + B1 * 16777216 + B2 * 65536 + B3 * 256 + B4)) (h0 : B0 < 256) (h1 : B1 < 256) (h2 : B2 < 256) (h3 : B3 < 256) (h4 : B4 < 256) (hr : own_nt r = B0) : own_idx (own_buf x r) (3 : Int32) = own_v g (0 : Int32) := by
  apply own_nt_inj
  rw [own_idx_nt _ _ 3 (by decide) (by decide), own_v_nt g _ 35 (by decide) (by decide), own_buf_nt x r (by omega), hg, hr]
  generalize own_nt x = X at *
  omega
theorem own_k1 (B0 B1 B2 B3 B4 : Nat) (g : Int64) (x r : Int32) (hg : own_nl g = (B0 * 4294967296 + B1 * 16777216 + B2 * 65536 + B3 * 256 + B4)) (h0 : B0 < 256) (h1 : B1 < 256) (h2 : B2 < 256) (h3 : B3 < 256) (h4 : B4 < 256) (hr : own_nt r = B1) (hx : own_nt x % 256 = B0) : own_idx (own_buf x r) (6 : Int32) = own_v g (1 : Int32) := by
  apply own_nt_inj
  rw [own_idx_nt _ _ 6 (by decide) (by decide), own_v_nt g _ 30 (by decide) (by decide), own_buf_nt x r (by omega), hg, hr]
  generalize own_nt x = X at *
  omega
theorem own_k2 (B0 B1 B2 B3 B4 : Nat) (g : Int64) (x r : Int32) (hg : own_nl g = (B0 * 4294967296 + B1 * 16777216 + B2 * 65536 + B3 * 256 + B4)) (h0 : B0 < 256) (h1 : B1 < 256) (h2 : B2 < 256) (h3 : B3 < 256) (h4 : B4 < 256) (hr : own_nt r = B1) (hx : own_nt x % 256 = B0) : own_idx (own_buf x r) (1 : Int32) = own_v g (2 : Int32) := by
  apply own_nt_inj
  rw [own_idx_nt _ _ 1 (by decide) (by decide), own_v_nt g _ 25 (by decide) (by decide), own_buf_nt x r (by omega), hg, hr]
  generalize own_nt x = X at *
  omega
theorem own_k3 (B0 B1 B2 B3 B4 : Nat) (g : Int64) (x r : Int32) (hg : own_nl g = (B0 * 4294967296 + B1 * 16777216 + B2 * 65536 + B3 * 256 + B4)) (h0 : B0 < 256) (h1 : B1 < 256) (h2 : B2 < 256) (h3 : B3 < 256) (h4 : B4 < 256) (hr : own_nt r = B2) (hx : own_nt x % 256 = B1) : own_idx (own_buf x r) (4 : Int32) = own_v g (3 : Int32) := by
  apply own_nt_inj
  rw [own_idx_nt _ _ 4 (by decide) (by decide), own_v_nt g _ 20 (by decide) (by decide), own_buf_nt x r (by omega), hg, hr]
  generalize own_nt x = X at *
  omega
theorem own_k4 (B0 B1 B2 B3 B4 : Nat) (g : Int64) (x r : Int32) (hg : own_nl g = (B0 * 4294967296 + B1 * 16777216 + B2 * 65536 + B3 * 256 + B4)) (h0 : B0 < 256) (h1 : B1 < 256) (h2 : B2 < 256) (h3 : B3 < 256) (h4 : B4 < 256) (hr : own_nt r = B3) (hx : own_nt x % 256 = B2) : own_idx (own_buf x r) (7 : Int32) = own_v g (4 : Int32) := by
  apply own_nt_inj
  rw [own_idx_nt _ _ 7 (by decide) (by decide), own_v_nt g _ 15 (by decide) (by decide), own_buf_nt x r (by omega), hg, hr]
  generalize own_nt x = X at *
  omega
theorem own_k5 (B0 B1 B2 B3 B4 : Nat) (g : Int64) (x r : Int32) (hg : own_nl g = (B0 * 4294967296 + B1 * 16777216 + B2 * 65536 + B3 * 256 + B4)) (h0 : B0 < 256) (h1 : B1 < 256) (h2 : B2 < 256) (h3 : B3 < 256) (h4 : B4 < 256) (hr : own_nt r = B3) (hx : own_nt x % 256 = B2) : own_idx (own_buf x r) (2 : Int32) = own_v g (5 : Int32) := by
  apply own_nt_inj
  rw [own_idx_nt _ _ 2 (by decide) (by decide), own_v_nt g _ 10 (by decide) (by decide), own_buf_nt x r (by omega), hg, hr]
  generalize own_nt x = X at *
  omega
theorem own_k6 (B0 B1 B2 B3 B4 : Nat) (g : Int64) (x r : Int32) (hg : own_nl g = (B0 * 4294967296 + B1 * 16777216 + B2 * 65536 + B3 * 256 + B4)) (h0 : B0 < 256) (h1 : B1 < 256) (h2 : B2 < 256) (h3 : B3 < 256) (h4 : B4 < 256) (hr : own_nt r = B4) (hx : own_nt x % 256 = B3) : own_idx (own_buf x r) (5 : Int32) = own_v g (6 : Int32) := by
  apply own_nt_inj
  rw [own_idx_nt _ _ 5 (by decide) (by decide), own_v_nt g _ 5 (by decide) (by decide), own_buf_nt x r (by omega), hg, hr]
  generalize own_nt x = X at *
  omega
theorem own_k7 (B0 B1 B2 B3 B4 : Nat) (g : Int64) (x r : Int32) (hg : own_nl g = (B0 * 4294967296 + B1 * 16777216 + B2 * 65536 + B3 * 256 + B4)) (h0 : B0 < 256) (h1 : B1 < 256) (h2 : B2 < 256) (h3 : B3 < 256) (h4 : B4 < 256) (hr : own_nt r = B4) (hx : own_nt x % 256 = B3) : own_idx (own_buf x r) (0 : Int32) = own_v g (7 : Int32) := by
  apply own_nt_inj
  rw [own_idx_nt _ _ 0 (by decide) (by decide), own_v_nt g _ 0 (by decide) (by decide), own_buf_nt x r (by omega), hg, hr]
  generalize own_nt x = X at *
  omega
theorem own_k8 (B0 B1 B2 B3 B4 : Nat) (g : Int64) (x r : Int32) (hg : own_nl g = (B0 * 4294967296 + B1 * 16777216 + B2 * 65536 + B3 * 256 + B4)) (h0 : B0 < 256) (h1 : B1 < 256) (h2 : B2 < 256) (h3 : B3 < 256) (h4 : B4 < 256) (hr : own_nt r = B0) : own_idx (own_buf x r) (3 : Int32) = own_v g (0 : Int32) := by
  apply own_nt_inj
  rw [own_idx_nt _ _ 3 (by decide) (by decide), own_v_nt g _ 35 (by decide) (by decide), own_buf_nt x r (by omega), hg, hr]
  generalize own_nt x = X at *
  omega
theorem own_k9 (B0 B1 B2 B3 B4 : Nat) (g : Int64) (x r : Int32) (hg : own_nl g = (B0 * 4294967296 + B1 * 16777216 + B2 * 65536 + B3 * 256 + B4)) (h0 : B0 < 256) (h1 : B1 < 256) (h2 : B2 < 256) (h3 : B3 < 256) (h4 : B4 < 256) (hr : own_nt r = B1) (hx : own_nt x % 256 = B0) : own_idx (own_buf x r) (6 : Int32) = own_v g (1 : Int32) := by
  apply own_nt_inj
  rw [own_idx_nt _ _ 6 (by decide) (by decide), own_v_nt g _ 30 (by decide) (by decide), own_buf_nt x r (by omega), hg, hr]
  generalize own_nt x = X at *
  omega
theorem own_k10 (B0 B1 B2 B3 B4 : Nat) (g : Int64) (x r : Int32) (hg : own_nl g = (B0 * 4294967296 + B1 * 16777216 + B2 * 65536 + B3 * 256 + B4)) (h0 : B0 < 256) (h1 : B1 < 256) (h2 : B2 < 256) (h3 : B3 < 256) (h4 : B4 < 256) (hr : own_nt r = B1) (hx : own_nt x % 256 = B0) : own_idx (own_buf x r) (1 : Int32) = own_v g (2 : Int32) := by
  apply own_nt_inj
  rw [own_idx_nt _ _ 1 (by decide) (by decide), own_v_nt g _ 25 (by decide) (by decide), own_buf_nt x r (by omega), hg, hr]
  generalize own_nt x = X at *
  omega
theorem own_k11 (B0 B1 B2 B3 B4 : Nat) (g : Int64) (x r : Int32) (hg : own_nl g = (B0 * 4294967296 + B1 * 16777216 + B2 * 65536 + B3 * 256 + B4)) (h0 : B0 < 256) (h1 : B1 < 256) (h2 : B2 < 256) (h3 : B3 < 256) (h4 : B4 < 256) (hr : own_nt r = B2) (hx : own_nt x % 256 = B1) : own_idx (own_buf x r) (4 : Int32) = own_v g (3 : Int32) := by
  apply own_nt_inj
  rw [own_idx_nt _ _ 4 (by decide) (by decide), own_v_nt g _ 20 (by decide) (by decide), own_buf_nt x r (by omega), hg, hr]
  generalize own_nt x = X at *
  omega
theorem own_k12 (B0 B1 B2 B3 B4 : Nat) (g : Int64) (x r : Int32) (hg : own_nl g = (B0 * 4294967296 + B1 * 16777216 + B2 * 65536 + B3 * 256 + B4)) (h0 : B0 < 256) (h1 : B1 < 256) (h2 : B2 < 256) (h3 : B3 < 256) (h4 : B4 < 256) (hr : own_nt r = B3) (hx : own_nt x % 256 = B2) : own_idx (own_buf x r) (7 : Int32) = own_v g (4 : Int32) := by
  apply own_nt_inj
  rw [own_idx_nt _ _ 7 (by decide) (by decide), own_v_nt g _ 15 (by decide) (by decide), own_buf_nt x r (by omega), hg, hr]
  generalize own_nt x = X at *
  omega
theorem own_k13 (B0 B1 B2 B3 B4 : Nat) (g : Int64) (x r : Int32) (hg : own_nl g = (B0 * 4294967296 + B1 * 16777216 + B2 * 65536 + B3 * 256 + B4)) (h0 : B0 < 256) (h1 : B1 < 256) (h2 : B2 < 256) (h3 : B3 < 256) (h4 : B4 < 256) (hr : own_nt r = B3) (hx : own_nt x % 256 = B2) : own_idx (own_buf x r) (2 : Int32) = own_v g (5 : Int32) := by
  apply own_nt_inj
  rw [own_idx_nt _ _ 2 (by decide) (by decide), own_v_nt g _ 10 (by decide) (by decide), own_buf_nt x r (by omega), hg, hr]
  generalize own_nt x = X at *
  omega
theorem own_k14 (B0 B1 B2 B3 B4 : Nat) (g : Int64) (x r : Int32) (hg : own_nl g = (B0 * 4294967296 + B1 * 16777216 + B2 * 65536 + B3 * 256 + B4)) (h0 : B0 < 256) (h1 : B1 < 256) (h2 : B2 < 256) (h3 : B3 < 256) (h4 : B4 < 256) (hr : own_nt r = B4) (hx : own_nt x % 256 = B3) : own_idx (own_buf x r) (5 : Int32) = own_v g (6 : Int32) := by
  apply own_nt_inj
  rw [own_idx_nt _ _ 5 (by decide) (by decide), own_v_nt g _ 5 (by decide) (by decide), own_buf_nt x r (by omega), hg, hr]
  generalize own_nt x = X at *
  omega
theorem own_k15 (B0 B1 B2 B3 B4 : Nat) (g : Int64) (x r : Int32) (hg : own_nl g = (B0 * 4294967296 + B1 * 16777216 + B2 * 65536 + B3 * 256 + B4)) (h0 : B0 < 256) (h1 : B1 < 256) (h2 : B2 < 256) (h3 : B3 < 256) (h4 : B4 < 256) (hr : own_nt r = B4) (hx : own_nt x % 256 = B3) : own_idx (own_buf x r) (0 : Int32) = own_v g (7 : Int32) := by
  apply own_nt_inj
  rw [own_idx_nt _ _ 0 (by decide) (by decide), own_v_nt g _ 0 (by decide) (by decide), own_buf_nt x r (by omega), hg, hr]
  generalize own_nt x = X at *
  omega
theorem own_f1 (B0 : Nat) (g : Int64) (x : Int32) (hg : own_nl g = (B0 * 4294967296 + 0 * 16777216 + 0 * 65536 + 0 * 256 + 0)) (hB0 : B0 < 256) (hx : own_nt x % 256 = B0) : own_fl x (3 : Int32) = own_v g (1 : Int32) := by
  apply own_nt_inj
  unfold own_fl
  rw [own_shlF x _ 2 (by decide) (by decide), own_v_nt g _ 30 (by decide) (by decide), hg]
  generalize own_nt x = X at *
  omega
theorem own_f2 (B0 B1 : Nat) (g : Int64) (x : Int32) (hg : own_nl g = (B0 * 4294967296 + B1 * 16777216 + 0 * 65536 + 0 * 256 + 0)) (hB0 : B0 < 256) (hB1 : B1 < 256) (hx : own_nt x % 256 = B1) : own_fl x (1 : Int32) = own_v g (3 : Int32) := by
  apply own_nt_inj
  unfold own_fl
  rw [own_shlF x _ 4 (by decide) (by decide), own_v_nt g _ 20 (by decide) (by decide), hg]
  generalize own_nt x = X at *
  omega
theorem own_f3 (B0 B1 B2 : Nat) (g : Int64) (x : Int32) (hg : own_nl g = (B0 * 4294967296 + B1 * 16777216 + B2 * 65536 + 0 * 256 + 0)) (hB0 : B0 < 256) (hB1 : B1 < 256) (hB2 : B2 < 256) (hx : own_nt x % 256 = B2) : own_fl x (4 : Int32) = own_v g (4 : Int32) := by
  apply own_nt_inj
  unfold own_fl
  rw [own_shlF x _ 1 (by decide) (by decide), own_v_nt g _ 15 (by decide) (by decide), hg]
  generalize own_nt x = X at *
  omega
theorem own_f4 (B0 B1 B2 B3 : Nat) (g : Int64) (x : Int32) (hg : own_nl g = (B0 * 4294967296 + B1 * 16777216 + B2 * 65536 + B3 * 256 + 0)) (hB0 : B0 < 256) (hB1 : B1 < 256) (hB2 : B2 < 256) (hB3 : B3 < 256) (hx : own_nt x % 256 = B3) : own_fl x (2 : Int32) = own_v g (6 : Int32) := by
  apply own_nt_inj
  unfold own_fl
  rw [own_shlF x _ 3 (by decide) (by decide), own_v_nt g _ 5 (by decide) (by decide), hg]
  generalize own_nt x = X at *
  omega
theorem own_f6 (B0 : Nat) (g : Int64) (x : Int32) (hg : own_nl g = (B0 * 4294967296 + 0 * 16777216 + 0 * 65536 + 0 * 256 + 0)) (hB0 : B0 < 256) (hx : own_nt x % 256 = B0) : own_fl x (3 : Int32) = own_v g (1 : Int32) := by
  apply own_nt_inj
  unfold own_fl
  rw [own_shlF x _ 2 (by decide) (by decide), own_v_nt g _ 30 (by decide) (by decide), hg]
  generalize own_nt x = X at *
  omega
theorem own_f7 (B0 B1 : Nat) (g : Int64) (x : Int32) (hg : own_nl g = (B0 * 4294967296 + B1 * 16777216 + 0 * 65536 + 0 * 256 + 0)) (hB0 : B0 < 256) (hB1 : B1 < 256) (hx : own_nt x % 256 = B1) : own_fl x (1 : Int32) = own_v g (3 : Int32) := by
  apply own_nt_inj
  unfold own_fl
  rw [own_shlF x _ 4 (by decide) (by decide), own_v_nt g _ 20 (by decide) (by decide), hg]
  generalize own_nt x = X at *
  omega
theorem own_f8 (B0 B1 B2 : Nat) (g : Int64) (x : Int32) (hg : own_nl g = (B0 * 4294967296 + B1 * 16777216 + B2 * 65536 + 0 * 256 + 0)) (hB0 : B0 < 256) (hB1 : B1 < 256) (hB2 : B2 < 256) (hx : own_nt x % 256 = B2) : own_fl x (4 : Int32) = own_v g (4 : Int32) := by
  apply own_nt_inj
  unfold own_fl
  rw [own_shlF x _ 1 (by decide) (by decide), own_v_nt g _ 15 (by decide) (by decide), hg]
  generalize own_nt x = X at *
  omega
theorem own_f9 (B0 B1 B2 B3 : Nat) (g : Int64) (x : Int32) (hg : own_nl g = (B0 * 4294967296 + B1 * 16777216 + B2 * 65536 + B3 * 256 + 0)) (hB0 : B0 < 256) (hB1 : B1 < 256) (hB2 : B2 < 256) (hB3 : B3 < 256) (hx : own_nt x % 256 = B3) : own_fl x (2 : Int32) = own_v g (6 : Int32) := by
  apply own_nt_inj
  unfold own_fl
  rw [own_shlF x _ 3 (by decide) (by decide), own_v_nt g _ 5 (by decide) (by decide), hg]
  generalize own_nt x = X at *
  omega
theorem own_n0 (a b : Int64) : (own_enc 0 0 []).length = 0 ∧ ∀ i, i < 0 → (own_enc 0 0 []).getD i 0 = own_v (if i < 8 then own_grp a b (0 : Int32) (0 : Int32) else own_grp a b (0 : Int32) (5 : Int32)) (Int32.ofNat (i % 8)) := by
  exact ⟨rfl, fun i h => absurd h (by omega)⟩
theorem own_n1 (a b : Int64) : (own_enc 0 0 [(own_raw a b (0 : Int32))]).length = 2 ∧ ∀ i, i < 2 → (own_enc 0 0 [(own_raw a b (0 : Int32))]).getD i 0 = own_v (if i < 8 then own_grp a b (1 : Int32) (0 : Int32) else own_grp a b (1 : Int32) (5 : Int32)) (Int32.ofNat (i % 8)) := by
  have y0 : own_nt (0 : Int32) = 0 := by decide
  have l0 := own_raw_lt a b (0 : Int32)
  obtain ⟨x0, hx0⟩ : ∃ z : Int32, z = 0 := ⟨_, rfl⟩
  obtain ⟨x1, hx1⟩ : ∃ z : Int32, z = own_buf x0 (own_raw a b (0 : Int32)) := ⟨_, rfl⟩
  have m1 : own_nt x1 % 256 = own_nt (own_raw a b (0 : Int32)) := by rw [hx1]; exact own_buf_mod _ _ l0
  have e : own_enc 0 0 [(own_raw a b (0 : Int32))] = [own_idx x1 (3 : Int32), own_fl x1 (3 : Int32)] := by subst hx0 hx1; rfl
  have g0 := own_grp_nl a b (1 : Int32) (0 : Int32)
  rw [show (0 : Int32) + 1 = 1 from by decide, show (0 : Int32) + 2 = 2 from by decide, show (0 : Int32) + 3 = 3 from by decide, show (0 : Int32) + 4 = 4 from by decide] at g0
  rw [own_bA_in a b (1 : Int32) (0 : Int32) (by decide), own_bA_out a b (1 : Int32) (1 : Int32) (by decide), own_bA_out a b (1 : Int32) (2 : Int32) (by decide), own_bA_out a b (1 : Int32) (3 : Int32) (by decide), own_bA_out a b (1 : Int32) (4 : Int32) (by decide)] at g0
  refine ⟨by rw [e]; rfl, fun i hi => ?_⟩
  rw [e]
  have hc : i = 0 ∨ i = 1 := by omega
  rcases hc with rfl | rfl
  · show own_idx x1 (3 : Int32) = own_v (own_grp a b (1 : Int32) (0 : Int32)) (0 : Int32); rw [hx1]; exact own_k0 (own_nt (own_raw a b (0 : Int32))) 0 0 0 0 _ x0 _ g0 l0 (by decide) (by decide) (by decide) (by decide) rfl
  · exact own_f1 (own_nt (own_raw a b (0 : Int32))) _ x1 g0 l0 m1
theorem own_n2 (a b : Int64) : (own_enc 0 0 [(own_raw a b (0 : Int32)), (own_raw a b (1 : Int32))]).length = 4 ∧ ∀ i, i < 4 → (own_enc 0 0 [(own_raw a b (0 : Int32)), (own_raw a b (1 : Int32))]).getD i 0 = own_v (if i < 8 then own_grp a b (2 : Int32) (0 : Int32) else own_grp a b (2 : Int32) (5 : Int32)) (Int32.ofNat (i % 8)) := by
  have y0 : own_nt (0 : Int32) = 0 := by decide
  have l0 := own_raw_lt a b (0 : Int32)
  have l1 := own_raw_lt a b (1 : Int32)
  obtain ⟨x0, hx0⟩ : ∃ z : Int32, z = 0 := ⟨_, rfl⟩
  obtain ⟨x1, hx1⟩ : ∃ z : Int32, z = own_buf x0 (own_raw a b (0 : Int32)) := ⟨_, rfl⟩
  have m1 : own_nt x1 % 256 = own_nt (own_raw a b (0 : Int32)) := by rw [hx1]; exact own_buf_mod _ _ l0
  obtain ⟨x2, hx2⟩ : ∃ z : Int32, z = own_buf x1 (own_raw a b (1 : Int32)) := ⟨_, rfl⟩
  have m2 : own_nt x2 % 256 = own_nt (own_raw a b (1 : Int32)) := by rw [hx2]; exact own_buf_mod _ _ l1
  have e : own_enc 0 0 [(own_raw a b (0 : Int32)), (own_raw a b (1 : Int32))] = [own_idx x1 (3 : Int32), own_idx x2 (6 : Int32), own_idx x2 (1 : Int32), own_fl x2 (1 : Int32)] := by subst hx0 hx1 hx2; rfl
  have g0 := own_grp_nl a b (2 : Int32) (0 : Int32)
  rw [show (0 : Int32) + 1 = 1 from by decide, show (0 : Int32) + 2 = 2 from by decide, show (0 : Int32) + 3 = 3 from by decide, show (0 : Int32) + 4 = 4 from by decide] at g0
  rw [own_bA_in a b (2 : Int32) (0 : Int32) (by decide), own_bA_in a b (2 : Int32) (1 : Int32) (by decide), own_bA_out a b (2 : Int32) (2 : Int32) (by decide), own_bA_out a b (2 : Int32) (3 : Int32) (by decide), own_bA_out a b (2 : Int32) (4 : Int32) (by decide)] at g0
  refine ⟨by rw [e]; rfl, fun i hi => ?_⟩
  rw [e]
  have hc : i = 0 ∨ i = 1 ∨ i = 2 ∨ i = 3 := by omega
  rcases hc with rfl | rfl | rfl | rfl
  · show own_idx x1 (3 : Int32) = own_v (own_grp a b (2 : Int32) (0 : Int32)) (0 : Int32); rw [hx1]; exact own_k0 (own_nt (own_raw a b (0 : Int32))) (own_nt (own_raw a b (1 : Int32))) 0 0 0 _ x0 _ g0 l0 l1 (by decide) (by decide) (by decide) rfl
  · show own_idx x2 (6 : Int32) = own_v (own_grp a b (2 : Int32) (0 : Int32)) (1 : Int32); rw [hx2]; exact own_k1 (own_nt (own_raw a b (0 : Int32))) (own_nt (own_raw a b (1 : Int32))) 0 0 0 _ x1 _ g0 l0 l1 (by decide) (by decide) (by decide) rfl m1
  · show own_idx x2 (1 : Int32) = own_v (own_grp a b (2 : Int32) (0 : Int32)) (2 : Int32); rw [hx2]; exact own_k2 (own_nt (own_raw a b (0 : Int32))) (own_nt (own_raw a b (1 : Int32))) 0 0 0 _ x1 _ g0 l0 l1 (by decide) (by decide) (by decide) rfl m1
  · exact own_f2 (own_nt (own_raw a b (0 : Int32))) (own_nt (own_raw a b (1 : Int32))) _ x2 g0 l0 l1 m2
theorem own_n3 (a b : Int64) : (own_enc 0 0 [(own_raw a b (0 : Int32)), (own_raw a b (1 : Int32)), (own_raw a b (2 : Int32))]).length = 5 ∧ ∀ i, i < 5 → (own_enc 0 0 [(own_raw a b (0 : Int32)), (own_raw a b (1 : Int32)), (own_raw a b (2 : Int32))]).getD i 0 = own_v (if i < 8 then own_grp a b (3 : Int32) (0 : Int32) else own_grp a b (3 : Int32) (5 : Int32)) (Int32.ofNat (i % 8)) := by
  have y0 : own_nt (0 : Int32) = 0 := by decide
  have l0 := own_raw_lt a b (0 : Int32)
  have l1 := own_raw_lt a b (1 : Int32)
  have l2 := own_raw_lt a b (2 : Int32)
  obtain ⟨x0, hx0⟩ : ∃ z : Int32, z = 0 := ⟨_, rfl⟩
  obtain ⟨x1, hx1⟩ : ∃ z : Int32, z = own_buf x0 (own_raw a b (0 : Int32)) := ⟨_, rfl⟩
  have m1 : own_nt x1 % 256 = own_nt (own_raw a b (0 : Int32)) := by rw [hx1]; exact own_buf_mod _ _ l0
  obtain ⟨x2, hx2⟩ : ∃ z : Int32, z = own_buf x1 (own_raw a b (1 : Int32)) := ⟨_, rfl⟩
  have m2 : own_nt x2 % 256 = own_nt (own_raw a b (1 : Int32)) := by rw [hx2]; exact own_buf_mod _ _ l1
  obtain ⟨x3, hx3⟩ : ∃ z : Int32, z = own_buf x2 (own_raw a b (2 : Int32)) := ⟨_, rfl⟩
  have m3 : own_nt x3 % 256 = own_nt (own_raw a b (2 : Int32)) := by rw [hx3]; exact own_buf_mod _ _ l2
  have e : own_enc 0 0 [(own_raw a b (0 : Int32)), (own_raw a b (1 : Int32)), (own_raw a b (2 : Int32))] = [own_idx x1 (3 : Int32), own_idx x2 (6 : Int32), own_idx x2 (1 : Int32), own_idx x3 (4 : Int32), own_fl x3 (4 : Int32)] := by subst hx0 hx1 hx2 hx3; rfl
  have g0 := own_grp_nl a b (3 : Int32) (0 : Int32)
  rw [show (0 : Int32) + 1 = 1 from by decide, show (0 : Int32) + 2 = 2 from by decide, show (0 : Int32) + 3 = 3 from by decide, show (0 : Int32) + 4 = 4 from by decide] at g0
  rw [own_bA_in a b (3 : Int32) (0 : Int32) (by decide), own_bA_in a b (3 : Int32) (1 : Int32) (by decide), own_bA_in a b (3 : Int32) (2 : Int32) (by decide), own_bA_out a b (3 : Int32) (3 : Int32) (by decide), own_bA_out a b (3 : Int32) (4 : Int32) (by decide)] at g0
  refine ⟨by rw [e]; rfl, fun i hi => ?_⟩
  rw [e]
  have hc : i = 0 ∨ i = 1 ∨ i = 2 ∨ i = 3 ∨ i = 4 := by omega
  rcases hc with rfl | rfl | rfl | rfl | rfl
  · show own_idx x1 (3 : Int32) = own_v (own_grp a b (3 : Int32) (0 : Int32)) (0 : Int32); rw [hx1]; exact own_k0 (own_nt (own_raw a b (0 : Int32))) (own_nt (own_raw a b (1 : Int32))) (own_nt (own_raw a b (2 : Int32))) 0 0 _ x0 _ g0 l0 l1 l2 (by decide) (by decide) rfl
  · show own_idx x2 (6 : Int32) = own_v (own_grp a b (3 : Int32) (0 : Int32)) (1 : Int32); rw [hx2]; exact own_k1 (own_nt (own_raw a b (0 : Int32))) (own_nt (own_raw a b (1 : Int32))) (own_nt (own_raw a b (2 : Int32))) 0 0 _ x1 _ g0 l0 l1 l2 (by decide) (by decide) rfl m1
  · show own_idx x2 (1 : Int32) = own_v (own_grp a b (3 : Int32) (0 : Int32)) (2 : Int32); rw [hx2]; exact own_k2 (own_nt (own_raw a b (0 : Int32))) (own_nt (own_raw a b (1 : Int32))) (own_nt (own_raw a b (2 : Int32))) 0 0 _ x1 _ g0 l0 l1 l2 (by decide) (by decide) rfl m1
  · show own_idx x3 (4 : Int32) = own_v (own_grp a b (3 : Int32) (0 : Int32)) (3 : Int32); rw [hx3]; exact own_k3 (own_nt (own_raw a b (0 : Int32))) (own_nt (own_raw a b (1 : Int32))) (own_nt (own_raw a b (2 : Int32))) 0 0 _ x2 _ g0 l0 l1 l2 (by decide) (by decide) rfl m2
  · exact own_f3 (own_nt (own_raw a b (0 : Int32))) (own_nt (own_raw a b (1 : Int32))) (own_nt (own_raw a b (2 : Int32))) _ x3 g0 l0 l1 l2 m3
theorem own_n4 (a b : Int64) : (own_enc 0 0 [(own_raw a b (0 : Int32)), (own_raw a b (1 : Int32)), (own_raw a b (2 : Int32)), (own_raw a b (3 : Int32))]).length = 7 ∧ ∀ i, i < 7 → (own_enc 0 0 [(own_raw a b (0 : Int32)), (own_raw a b (1 : Int32)), (own_raw a b (2 : Int32)), (own_raw a b (3 : Int32))]).getD i 0 = own_v (if i < 8 then own_grp a b (4 : Int32) (0 : Int32) else own_grp a b (4 : Int32) (5 : Int32)) (Int32.ofNat (i % 8)) := by
  have y0 : own_nt (0 : Int32) = 0 := by decide
  have l0 := own_raw_lt a b (0 : Int32)
  have l1 := own_raw_lt a b (1 : Int32)
  have l2 := own_raw_lt a b (2 : Int32)
  have l3 := own_raw_lt a b (3 : Int32)
  obtain ⟨x0, hx0⟩ : ∃ z : Int32, z = 0 := ⟨_, rfl⟩
  obtain ⟨x1, hx1⟩ : ∃ z : Int32, z = own_buf x0 (own_raw a b (0 : Int32)) := ⟨_, rfl⟩
  have m1 : own_nt x1 % 256 = own_nt (own_raw a b (0 : Int32)) := by rw [hx1]; exact own_buf_mod _ _ l0
  obtain ⟨x2, hx2⟩ : ∃ z : Int32, z = own_buf x1 (own_raw a b (1 : Int32)) := ⟨_, rfl⟩
  have m2 : own_nt x2 % 256 = own_nt (own_raw a b (1 : Int32)) := by rw [hx2]; exact own_buf_mod _ _ l1
  obtain ⟨x3, hx3⟩ : ∃ z : Int32, z = own_buf x2 (own_raw a b (2 : Int32)) := ⟨_, rfl⟩
  have m3 : own_nt x3 % 256 = own_nt (own_raw a b (2 : Int32)) := by rw [hx3]; exact own_buf_mod _ _ l2
  obtain ⟨x4, hx4⟩ : ∃ z : Int32, z = own_buf x3 (own_raw a b (3 : Int32)) := ⟨_, rfl⟩
  have m4 : own_nt x4 % 256 = own_nt (own_raw a b (3 : Int32)) := by rw [hx4]; exact own_buf_mod _ _ l3
  have e : own_enc 0 0 [(own_raw a b (0 : Int32)), (own_raw a b (1 : Int32)), (own_raw a b (2 : Int32)), (own_raw a b (3 : Int32))] = [own_idx x1 (3 : Int32), own_idx x2 (6 : Int32), own_idx x2 (1 : Int32), own_idx x3 (4 : Int32), own_idx x4 (7 : Int32), own_idx x4 (2 : Int32), own_fl x4 (2 : Int32)] := by subst hx0 hx1 hx2 hx3 hx4; rfl
  have g0 := own_grp_nl a b (4 : Int32) (0 : Int32)
  rw [show (0 : Int32) + 1 = 1 from by decide, show (0 : Int32) + 2 = 2 from by decide, show (0 : Int32) + 3 = 3 from by decide, show (0 : Int32) + 4 = 4 from by decide] at g0
  rw [own_bA_in a b (4 : Int32) (0 : Int32) (by decide), own_bA_in a b (4 : Int32) (1 : Int32) (by decide), own_bA_in a b (4 : Int32) (2 : Int32) (by decide), own_bA_in a b (4 : Int32) (3 : Int32) (by decide), own_bA_out a b (4 : Int32) (4 : Int32) (by decide)] at g0
  refine ⟨by rw [e]; rfl, fun i hi => ?_⟩
  rw [e]
  have hc : i = 0 ∨ i = 1 ∨ i = 2 ∨ i = 3 ∨ i = 4 ∨ i = 5 ∨ i = 6 := by omega
  rcases hc with rfl | rfl | rfl | rfl | rfl | rfl | rfl
  · show own_idx x1 (3 : Int32) = own_v (own_grp a b (4 : Int32) (0 : Int32)) (0 : Int32); rw [hx1]; exact own_k0 (own_nt (own_raw a b (0 : Int32))) (own_nt (own_raw a b (1 : Int32))) (own_nt (own_raw a b (2 : Int32))) (own_nt (own_raw a b (3 : Int32))) 0 _ x0 _ g0 l0 l1 l2 l3 (by decide) rfl
  · show own_idx x2 (6 : Int32) = own_v (own_grp a b (4 : Int32) (0 : Int32)) (1 : Int32); rw [hx2]; exact own_k1 (own_nt (own_raw a b (0 : Int32))) (own_nt (own_raw a b (1 : Int32))) (own_nt (own_raw a b (2 : Int32))) (own_nt (own_raw a b (3 : Int32))) 0 _ x1 _ g0 l0 l1 l2 l3 (by decide) rfl m1
  · show own_idx x2 (1 : Int32) = own_v (own_grp a b (4 : Int32) (0 : Int32)) (2 : Int32); rw [hx2]; exact own_k2 (own_nt (own_raw a b (0 : Int32))) (own_nt (own_raw a b (1 : Int32))) (own_nt (own_raw a b (2 : Int32))) (own_nt (own_raw a b (3 : Int32))) 0 _ x1 _ g0 l0 l1 l2 l3 (by decide) rfl m1
  · show own_idx x3 (4 : Int32) = own_v (own_grp a b (4 : Int32) (0 : Int32)) (3 : Int32); rw [hx3]; exact own_k3 (own_nt (own_raw a b (0 : Int32))) (own_nt (own_raw a b (1 : Int32))) (own_nt (own_raw a b (2 : Int32))) (own_nt (own_raw a b (3 : Int32))) 0 _ x2 _ g0 l0 l1 l2 l3 (by decide) rfl m2
  · show own_idx x4 (7 : Int32) = own_v (own_grp a b (4 : Int32) (0 : Int32)) (4 : Int32); rw [hx4]; exact own_k4 (own_nt (own_raw a b (0 : Int32))) (own_nt (own_raw a b (1 : Int32))) (own_nt (own_raw a b (2 : Int32))) (own_nt (own_raw a b (3 : Int32))) 0 _ x3 _ g0 l0 l1 l2 l3 (by decide) rfl m3
  · show own_idx x4 (2 : Int32) = own_v (own_grp a b (4 : Int32) (0 : Int32)) (5 : Int32); rw [hx4]; exact own_k5 (own_nt (own_raw a b (0 : Int32))) (own_nt (own_raw a b (1 : Int32))) (own_nt (own_raw a b (2 : Int32))) (own_nt (own_raw a b (3 : Int32))) 0 _ x3 _ g0 l0 l1 l2 l3 (by decide) rfl m3
  · exact own_f4 (own_nt (own_raw a b (0 : Int32))) (own_nt (own_raw a b (1 : Int32))) (own_nt (own_raw a b (2 : Int32))) (own_nt (own_raw a b (3 : Int32))) _ x4 g0 l0 l1 l2 l3 m4
theorem own_n5 (a b : Int64) : (own_enc 0 0 [(own_raw a b (0 : Int32)), (own_raw a b (1 : Int32)), (own_raw a b (2 : Int32)), (own_raw a b (3 : Int32)), (own_raw a b (4 : Int32))]).length = 8 ∧ ∀ i, i < 8 → (own_enc 0 0 [(own_raw a b (0 : Int32)), (own_raw a b (1 : Int32)), (own_raw a b (2 : Int32)), (own_raw a b (3 : Int32)), (own_raw a b (4 : Int32))]).getD i 0 = own_v (if i < 8 then own_grp a b (5 : Int32) (0 : Int32) else own_grp a b (5 : Int32) (5 : Int32)) (Int32.ofNat (i % 8)) := by
  have y0 : own_nt (0 : Int32) = 0 := by decide
  have l0 := own_raw_lt a b (0 : Int32)
  have l1 := own_raw_lt a b (1 : Int32)
  have l2 := own_raw_lt a b (2 : Int32)
  have l3 := own_raw_lt a b (3 : Int32)
  have l4 := own_raw_lt a b (4 : Int32)
  obtain ⟨x0, hx0⟩ : ∃ z : Int32, z = 0 := ⟨_, rfl⟩
  obtain ⟨x1, hx1⟩ : ∃ z : Int32, z = own_buf x0 (own_raw a b (0 : Int32)) := ⟨_, rfl⟩
  have m1 : own_nt x1 % 256 = own_nt (own_raw a b (0 : Int32)) := by rw [hx1]; exact own_buf_mod _ _ l0
  obtain ⟨x2, hx2⟩ : ∃ z : Int32, z = own_buf x1 (own_raw a b (1 : Int32)) := ⟨_, rfl⟩
  have m2 : own_nt x2 % 256 = own_nt (own_raw a b (1 : Int32)) := by rw [hx2]; exact own_buf_mod _ _ l1
  obtain ⟨x3, hx3⟩ : ∃ z : Int32, z = own_buf x2 (own_raw a b (2 : Int32)) := ⟨_, rfl⟩
  have m3 : own_nt x3 % 256 = own_nt (own_raw a b (2 : Int32)) := by rw [hx3]; exact own_buf_mod _ _ l2
  obtain ⟨x4, hx4⟩ : ∃ z : Int32, z = own_buf x3 (own_raw a b (3 : Int32)) := ⟨_, rfl⟩
  have m4 : own_nt x4 % 256 = own_nt (own_raw a b (3 : Int32)) := by rw [hx4]; exact own_buf_mod _ _ l3
  obtain ⟨x5, hx5⟩ : ∃ z : Int32, z = own_buf x4 (own_raw a b (4 : Int32)) := ⟨_, rfl⟩
  have m5 : own_nt x5 % 256 = own_nt (own_raw a b (4 : Int32)) := by rw [hx5]; exact own_buf_mod _ _ l4
  have e : own_enc 0 0 [(own_raw a b (0 : Int32)), (own_raw a b (1 : Int32)), (own_raw a b (2 : Int32)), (own_raw a b (3 : Int32)), (own_raw a b (4 : Int32))] = [own_idx x1 (3 : Int32), own_idx x2 (6 : Int32), own_idx x2 (1 : Int32), own_idx x3 (4 : Int32), own_idx x4 (7 : Int32), own_idx x4 (2 : Int32), own_idx x5 (5 : Int32), own_idx x5 (0 : Int32)] := by subst hx0 hx1 hx2 hx3 hx4 hx5; rfl
  have g0 := own_grp_nl a b (5 : Int32) (0 : Int32)
  rw [show (0 : Int32) + 1 = 1 from by decide, show (0 : Int32) + 2 = 2 from by decide, show (0 : Int32) + 3 = 3 from by decide, show (0 : Int32) + 4 = 4 from by decide] at g0
  rw [own_bA_in a b (5 : Int32) (0 : Int32) (by decide), own_bA_in a b (5 : Int32) (1 : Int32) (by decide), own_bA_in a b (5 : Int32) (2 : Int32) (by decide), own_bA_in a b (5 : Int32) (3 : Int32) (by decide), own_bA_in a b (5 : Int32) (4 : Int32) (by decide)] at g0
  refine ⟨by rw [e]; rfl, fun i hi => ?_⟩
  rw [e]
  have hc : i = 0 ∨ i = 1 ∨ i = 2 ∨ i = 3 ∨ i = 4 ∨ i = 5 ∨ i = 6 ∨ i = 7 := by omega
  rcases hc with rfl | rfl | rfl | rfl | rfl | rfl | rfl | rfl
  · show own_idx x1 (3 : Int32) = own_v (own_grp a b (5 : Int32) (0 : Int32)) (0 : Int32); rw [hx1]; exact own_k0 (own_nt (own_raw a b (0 : Int32))) (own_nt (own_raw a b (1 : Int32))) (own_nt (own_raw a b (2 : Int32))) (own_nt (own_raw a b (3 : Int32))) (own_nt (own_raw a b (4 : Int32))) _ x0 _ g0 l0 l1 l2 l3 l4 rfl
  · show own_idx x2 (6 : Int32) = own_v (own_grp a b (5 : Int32) (0 : Int32)) (1 : Int32); rw [hx2]; exact own_k1 (own_nt (own_raw a b (0 : Int32))) (own_nt (own_raw a b (1 : Int32))) (own_nt (own_raw a b (2 : Int32))) (own_nt (own_raw a b (3 : Int32))) (own_nt (own_raw a b (4 : Int32))) _ x1 _ g0 l0 l1 l2 l3 l4 rfl m1
  · show own_idx x2 (1 : Int32) = own_v (own_grp a b (5 : Int32) (0 : Int32)) (2 : Int32); rw [hx2]; exact own_k2 (own_nt (own_raw a b (0 : Int32))) (own_nt (own_raw a b (1 : Int32))) (own_nt (own_raw a b (2 : Int32))) (own_nt (own_raw a b (3 : Int32))) (own_nt (own_raw a b (4 : Int32))) _ x1 _ g0 l0 l1 l2 l3 l4 rfl m1
  · show own_idx x3 (4 : Int32) = own_v (own_grp a b (5 : Int32) (0 : Int32)) (3 : Int32); rw [hx3]; exact own_k3 (own_nt (own_raw a b (0 : Int32))) (own_nt (own_raw a b (1 : Int32))) (own_nt (own_raw a b (2 : Int32))) (own_nt (own_raw a b (3 : Int32))) (own_nt (own_raw a b (4 : Int32))) _ x2 _ g0 l0 l1 l2 l3 l4 rfl m2
  · show own_idx x4 (7 : Int32) = own_v (own_grp a b (5 : Int32) (0 : Int32)) (4 : Int32); rw [hx4]; exact own_k4 (own_nt (own_raw a b (0 : Int32))) (own_nt (own_raw a b (1 : Int32))) (own_nt (own_raw a b (2 : Int32))) (own_nt (own_raw a b (3 : Int32))) (own_nt (own_raw a b (4 : Int32))) _ x3 _ g0 l0 l1 l2 l3 l4 rfl m3
  · show own_idx x4 (2 : Int32) = own_v (own_grp a b (5 : Int32) (0 : Int32)) (5 : Int32); rw [hx4]; exact own_k5 (own_nt (own_raw a b (0 : Int32))) (own_nt (own_raw a b (1 : Int32))) (own_nt (own_raw a b (2 : Int32))) (own_nt (own_raw a b (3 : Int32))) (own_nt (own_raw a b (4 : Int32))) _ x3 _ g0 l0 l1 l2 l3 l4 rfl m3
  · show own_idx x5 (5 : Int32) = own_v (own_grp a b (5 : Int32) (0 : Int32)) (6 : Int32); rw [hx5]; exact own_k6 (own_nt (own_raw a b (0 : Int32))) (own_nt (own_raw a b (1 : Int32))) (own_nt (own_raw a b (2 : Int32))) (own_nt (own_raw a b (3 : Int32))) (own_nt (own_raw a b (4 : Int32))) _ x4 _ g0 l0 l1 l2 l3 l4 rfl m4
  · show own_idx x5 (0 : Int32) = own_v (own_grp a b (5 : Int32) (0 : Int32)) (7 : Int32); rw [hx5]; exact own_k7 (own_nt (own_raw a b (0 : Int32))) (own_nt (own_raw a b (1 : Int32))) (own_nt (own_raw a b (2 : Int32))) (own_nt (own_raw a b (3 : Int32))) (own_nt (own_raw a b (4 : Int32))) _ x4 _ g0 l0 l1 l2 l3 l4 rfl m4
theorem own_n6 (a b : Int64) : (own_enc 0 0 [(own_raw a b (0 : Int32)), (own_raw a b (1 : Int32)), (own_raw a b (2 : Int32)), (own_raw a b (3 : Int32)), (own_raw a b (4 : Int32)), (own_raw a b (5 : Int32))]).length = 10 ∧ ∀ i, i < 10 → (own_enc 0 0 [(own_raw a b (0 : Int32)), (own_raw a b (1 : Int32)), (own_raw a b (2 : Int32)), (own_raw a b (3 : Int32)), (own_raw a b (4 : Int32)), (own_raw a b (5 : Int32))]).getD i 0 = own_v (if i < 8 then own_grp a b (6 : Int32) (0 : Int32) else own_grp a b (6 : Int32) (5 : Int32)) (Int32.ofNat (i % 8)) := by
  have y0 : own_nt (0 : Int32) = 0 := by decide
  have l0 := own_raw_lt a b (0 : Int32)
  have l1 := own_raw_lt a b (1 : Int32)
  have l2 := own_raw_lt a b (2 : Int32)
  have l3 := own_raw_lt a b (3 : Int32)
  have l4 := own_raw_lt a b (4 : Int32)
  have l5 := own_raw_lt a b (5 : Int32)
  obtain ⟨x0, hx0⟩ : ∃ z : Int32, z = 0 := ⟨_, rfl⟩
  obtain ⟨x1, hx1⟩ : ∃ z : Int32, z = own_buf x0 (own_raw a b (0 : Int32)) := ⟨_, rfl⟩
  have m1 : own_nt x1 % 256 = own_nt (own_raw a b (0 : Int32)) := by rw [hx1]; exact own_buf_mod _ _ l0
  obtain ⟨x2, hx2⟩ : ∃ z : Int32, z = own_buf x1 (own_raw a b (1 : Int32)) := ⟨_, rfl⟩
  have m2 : own_nt x2 % 256 = own_nt (own_raw a b (1 : Int32)) := by rw [hx2]; exact own_buf_mod _ _ l1
  obtain ⟨x3, hx3⟩ : ∃ z : Int32, z = own_buf x2 (own_raw a b (2 : Int32)) := ⟨_, rfl⟩
  have m3 : own_nt x3 % 256 = own_nt (own_raw a b (2 : Int32)) := by rw [hx3]; exact own_buf_mod _ _ l2
  obtain ⟨x4, hx4⟩ : ∃ z : Int32, z = own_buf x3 (own_raw a b (3 : Int32)) := ⟨_, rfl⟩
  have m4 : own_nt x4 % 256 = own_nt (own_raw a b (3 : Int32)) := by rw [hx4]; exact own_buf_mod _ _ l3
  obtain ⟨x5, hx5⟩ : ∃ z : Int32, z = own_buf x4 (own_raw a b (4 : Int32)) := ⟨_, rfl⟩
  have m5 : own_nt x5 % 256 = own_nt (own_raw a b (4 : Int32)) := by rw [hx5]; exact own_buf_mod _ _ l4
  obtain ⟨x6, hx6⟩ : ∃ z : Int32, z = own_buf x5 (own_raw a b (5 : Int32)) := ⟨_, rfl⟩
  have m6 : own_nt x6 % 256 = own_nt (own_raw a b (5 : Int32)) := by rw [hx6]; exact own_buf_mod _ _ l5
  have e : own_enc 0 0 [(own_raw a b (0 : Int32)), (own_raw a b (1 : Int32)), (own_raw a b (2 : Int32)), (own_raw a b (3 : Int32)), (own_raw a b (4 : Int32)), (own_raw a b (5 : Int32))] = [own_idx x1 (3 : Int32), own_idx x2 (6 : Int32), own_idx x2 (1 : Int32), own_idx x3 (4 : Int32), own_idx x4 (7 : Int32), own_idx x4 (2 : Int32), own_idx x5 (5 : Int32), own_idx x5 (0 : Int32), own_idx x6 (3 : Int32), own_fl x6 (3 : Int32)] := by subst hx0 hx1 hx2 hx3 hx4 hx5 hx6; rfl
  have g0 := own_grp_nl a b (6 : Int32) (0 : Int32)
  rw [show (0 : Int32) + 1 = 1 from by decide, show (0 : Int32) + 2 = 2 from by decide, show (0 : Int32) + 3 = 3 from by decide, show (0 : Int32) + 4 = 4 from by decide] at g0
  rw [own_bA_in a b (6 : Int32) (0 : Int32) (by decide), own_bA_in a b (6 : Int32) (1 : Int32) (by decide), own_bA_in a b (6 : Int32) (2 : Int32) (by decide), own_bA_in a b (6 : Int32) (3 : Int32) (by decide), own_bA_in a b (6 : Int32) (4 : Int32) (by decide)] at g0
  have g5 := own_grp_nl a b (6 : Int32) (5 : Int32)
  rw [show (5 : Int32) + 1 = 6 from by decide, show (5 : Int32) + 2 = 7 from by decide, show (5 : Int32) + 3 = 8 from by decide, show (5 : Int32) + 4 = 9 from by decide] at g5
  rw [own_bA_in a b (6 : Int32) (5 : Int32) (by decide), own_bA_out a b (6 : Int32) (6 : Int32) (by decide), own_bA_out a b (6 : Int32) (7 : Int32) (by decide), own_bA_out a b (6 : Int32) (8 : Int32) (by decide), own_bA_out a b (6 : Int32) (9 : Int32) (by decide)] at g5
  refine ⟨by rw [e]; rfl, fun i hi => ?_⟩
  rw [e]
  have hc : i = 0 ∨ i = 1 ∨ i = 2 ∨ i = 3 ∨ i = 4 ∨ i = 5 ∨ i = 6 ∨ i = 7 ∨ i = 8 ∨ i = 9 := by omega
  rcases hc with rfl | rfl | rfl | rfl | rfl | rfl | rfl | rfl | rfl | rfl
  · show own_idx x1 (3 : Int32) = own_v (own_grp a b (6 : Int32) (0 : Int32)) (0 : Int32); rw [hx1]; exact own_k0 (own_nt (own_raw a b (0 : Int32))) (own_nt (own_raw a b (1 : Int32))) (own_nt (own_raw a b (2 : Int32))) (own_nt (own_raw a b (3 : Int32))) (own_nt (own_raw a b (4 : Int32))) _ x0 _ g0 l0 l1 l2 l3 l4 rfl
  · show own_idx x2 (6 : Int32) = own_v (own_grp a b (6 : Int32) (0 : Int32)) (1 : Int32); rw [hx2]; exact own_k1 (own_nt (own_raw a b (0 : Int32))) (own_nt (own_raw a b (1 : Int32))) (own_nt (own_raw a b (2 : Int32))) (own_nt (own_raw a b (3 : Int32))) (own_nt (own_raw a b (4 : Int32))) _ x1 _ g0 l0 l1 l2 l3 l4 rfl m1
  · show own_idx x2 (1 : Int32) = own_v (own_grp a b (6 : Int32) (0 : Int32)) (2 : Int32); rw [hx2]; exact own_k2 (own_nt (own_raw a b (0 : Int32))) (own_nt (own_raw a b (1 : Int32))) (own_nt (own_raw a b (2 : Int32))) (own_nt (own_raw a b (3 : Int32))) (own_nt (own_raw a b (4 : Int32))) _ x1 _ g0 l0 l1 l2 l3 l4 rfl m1
  · show own_idx x3 (4 : Int32) = own_v (own_grp a b (6 : Int32) (0 : Int32)) (3 : Int32); rw [hx3]; exact own_k3 (own_nt (own_raw a b (0 : Int32))) (own_nt (own_raw a b (1 : Int32))) (own_nt (own_raw a b (2 : Int32))) (own_nt (own_raw a b (3 : Int32))) (own_nt (own_raw a b (4 : Int32))) _ x2 _ g0 l0 l1 l2 l3 l4 rfl m2
  · show own_idx x4 (7 : Int32) = own_v (own_grp a b (6 : Int32) (0 : Int32)) (4 : Int32); rw [hx4]; exact own_k4 (own_nt (own_raw a b (0 : Int32))) (own_nt (own_raw a b (1 : Int32))) (own_nt (own_raw a b (2 : Int32))) (own_nt (own_raw a b (3 : Int32))) (own_nt (own_raw a b (4 : Int32))) _ x3 _ g0 l0 l1 l2 l3 l4 rfl m3
  · show own_idx x4 (2 : Int32) = own_v (own_grp a b (6 : Int32) (0 : Int32)) (5 : Int32); rw [hx4]; exact own_k5 (own_nt (own_raw a b (0 : Int32))) (own_nt (own_raw a b (1 : Int32))) (own_nt (own_raw a b (2 : Int32))) (own_nt (own_raw a b (3 : Int32))) (own_nt (own_raw a b (4 : Int32))) _ x3 _ g0 l0 l1 l2 l3 l4 rfl m3
  · show own_idx x5 (5 : Int32) = own_v (own_grp a b (6 : Int32) (0 : Int32)) (6 : Int32); rw [hx5]; exact own_k6 (own_nt (own_raw a b (0 : Int32))) (own_nt (own_raw a b (1 : Int32))) (own_nt (own_raw a b (2 : Int32))) (own_nt (own_raw a b (3 : Int32))) (own_nt (own_raw a b (4 : Int32))) _ x4 _ g0 l0 l1 l2 l3 l4 rfl m4
  · show own_idx x5 (0 : Int32) = own_v (own_grp a b (6 : Int32) (0 : Int32)) (7 : Int32); rw [hx5]; exact own_k7 (own_nt (own_raw a b (0 : Int32))) (own_nt (own_raw a b (1 : Int32))) (own_nt (own_raw a b (2 : Int32))) (own_nt (own_raw a b (3 : Int32))) (own_nt (own_raw a b (4 : Int32))) _ x4 _ g0 l0 l1 l2 l3 l4 rfl m4
  · show own_idx x6 (3 : Int32) = own_v (own_grp a b (6 : Int32) (5 : Int32)) (0 : Int32); rw [hx6]; exact own_k8 (own_nt (own_raw a b (5 : Int32))) 0 0 0 0 _ x5 _ g5 l5 (by decide) (by decide) (by decide) (by decide) rfl
  · exact own_f6 (own_nt (own_raw a b (5 : Int32))) _ x6 g5 l5 m6
theorem own_n7 (a b : Int64) : (own_enc 0 0 [(own_raw a b (0 : Int32)), (own_raw a b (1 : Int32)), (own_raw a b (2 : Int32)), (own_raw a b (3 : Int32)), (own_raw a b (4 : Int32)), (own_raw a b (5 : Int32)), (own_raw a b (6 : Int32))]).length = 12 ∧ ∀ i, i < 12 → (own_enc 0 0 [(own_raw a b (0 : Int32)), (own_raw a b (1 : Int32)), (own_raw a b (2 : Int32)), (own_raw a b (3 : Int32)), (own_raw a b (4 : Int32)), (own_raw a b (5 : Int32)), (own_raw a b (6 : Int32))]).getD i 0 = own_v (if i < 8 then own_grp a b (7 : Int32) (0 : Int32) else own_grp a b (7 : Int32) (5 : Int32)) (Int32.ofNat (i % 8)) := by
  have y0 : own_nt (0 : Int32) = 0 := by decide
  have l0 := own_raw_lt a b (0 : Int32)
  have l1 := own_raw_lt a b (1 : Int32)
  have l2 := own_raw_lt a b (2 : Int32)
  have l3 := own_raw_lt a b (3 : Int32)
  have l4 := own_raw_lt a b (4 : Int32)
  have l5 := own_raw_lt a b (5 : Int32)
  have l6 := own_raw_lt a b (6 : Int32)
  obtain ⟨x0, hx0⟩ : ∃ z : Int32, z = 0 := ⟨_, rfl⟩
  obtain ⟨x1, hx1⟩ : ∃ z : Int32, z = own_buf x0 (own_raw a b (0 : Int32)) := ⟨_, rfl⟩
  have m1 : own_nt x1 % 256 = own_nt (own_raw a b (0 : Int32)) := by rw [hx1]; exact own_buf_mod _ _ l0
  obtain ⟨x2, hx2⟩ : ∃ z : Int32, z = own_buf x1 (own_raw a b (1 : Int32)) := ⟨_, rfl⟩
  have m2 : own_nt x2 % 256 = own_nt (own_raw a b (1 : Int32)) := by rw [hx2]; exact own_buf_mod _ _ l1
  obtain ⟨x3, hx3⟩ : ∃ z : Int32, z = own_buf x2 (own_raw a b (2 : Int32)) := ⟨_, rfl⟩
  have m3 : own_nt x3 % 256 = own_nt (own_raw a b (2 : Int32)) := by rw [hx3]; exact own_buf_mod _ _ l2
  obtain ⟨x4, hx4⟩ : ∃ z : Int32, z = own_buf x3 (own_raw a b (3 : Int32)) := ⟨_, rfl⟩
  have m4 : own_nt x4 % 256 = own_nt (own_raw a b (3 : Int32)) := by rw [hx4]; exact own_buf_mod _ _ l3
  obtain ⟨x5, hx5⟩ : ∃ z : Int32, z = own_buf x4 (own_raw a b (4 : Int32)) := ⟨_, rfl⟩
  have m5 : own_nt x5 % 256 = own_nt (own_raw a b (4 : Int32)) := by rw [hx5]; exact own_buf_mod _ _ l4
  obtain ⟨x6, hx6⟩ : ∃ z : Int32, z = own_buf x5 (own_raw a b (5 : Int32)) := ⟨_, rfl⟩
  have m6 : own_nt x6 % 256 = own_nt (own_raw a b (5 : Int32)) := by rw [hx6]; exact own_buf_mod _ _ l5
  obtain ⟨x7, hx7⟩ : ∃ z : Int32, z = own_buf x6 (own_raw a b (6 : Int32)) := ⟨_, rfl⟩
  have m7 : own_nt x7 % 256 = own_nt (own_raw a b (6 : Int32)) := by rw [hx7]; exact own_buf_mod _ _ l6
  have e : own_enc 0 0 [(own_raw a b (0 : Int32)), (own_raw a b (1 : Int32)), (own_raw a b (2 : Int32)), (own_raw a b (3 : Int32)), (own_raw a b (4 : Int32)), (own_raw a b (5 : Int32)), (own_raw a b (6 : Int32))] = [own_idx x1 (3 : Int32), own_idx x2 (6 : Int32), own_idx x2 (1 : Int32), own_idx x3 (4 : Int32), own_idx x4 (7 : Int32), own_idx x4 (2 : Int32), own_idx x5 (5 : Int32), own_idx x5 (0 : Int32), own_idx x6 (3 : Int32), own_idx x7 (6 : Int32), own_idx x7 (1 : Int32), own_fl x7 (1 : Int32)] := by subst hx0 hx1 hx2 hx3 hx4 hx5 hx6 hx7; rfl
  have g0 := own_grp_nl a b (7 : Int32) (0 : Int32)
  rw [show (0 : Int32) + 1 = 1 from by decide, show (0 : Int32) + 2 = 2 from by decide, show (0 : Int32) + 3 = 3 from by decide, show (0 : Int32) + 4 = 4 from by decide] at g0
  rw [own_bA_in a b (7 : Int32) (0 : Int32) (by decide), own_bA_in a b (7 : Int32) (1 : Int32) (by decide), own_bA_in a b (7 : Int32) (2 : Int32) (by decide), own_bA_in a b (7 : Int32) (3 : Int32) (by decide), own_bA_in a b (7 : Int32) (4 : Int32) (by decide)] at g0
  have g5 := own_grp_nl a b (7 : Int32) (5 : Int32)
  rw [show (5 : Int32) + 1 = 6 from by decide, show (5 : Int32) + 2 = 7 from by decide, show (5 : Int32) + 3 = 8 from by decide, show (5 : Int32) + 4 = 9 from by decide] at g5
  rw [own_bA_in a b (7 : Int32) (5 : Int32) (by decide), own_bA_in a b (7 : Int32) (6 : Int32) (by decide), own_bA_out a b (7 : Int32) (7 : Int32) (by decide), own_bA_out a b (7 : Int32) (8 : Int32) (by decide), own_bA_out a b (7 : Int32) (9 : Int32) (by decide)] at g5
  refine ⟨by rw [e]; rfl, fun i hi => ?_⟩
  rw [e]
  have hc : i = 0 ∨ i = 1 ∨ i = 2 ∨ i = 3 ∨ i = 4 ∨ i = 5 ∨ i = 6 ∨ i = 7 ∨ i = 8 ∨ i = 9 ∨ i = 10 ∨ i = 11 := by omega
  rcases hc with rfl | rfl | rfl | rfl | rfl | rfl | rfl | rfl | rfl | rfl | rfl | rfl
  · show own_idx x1 (3 : Int32) = own_v (own_grp a b (7 : Int32) (0 : Int32)) (0 : Int32); rw [hx1]; exact own_k0 (own_nt (own_raw a b (0 : Int32))) (own_nt (own_raw a b (1 : Int32))) (own_nt (own_raw a b (2 : Int32))) (own_nt (own_raw a b (3 : Int32))) (own_nt (own_raw a b (4 : Int32))) _ x0 _ g0 l0 l1 l2 l3 l4 rfl
  · show own_idx x2 (6 : Int32) = own_v (own_grp a b (7 : Int32) (0 : Int32)) (1 : Int32); rw [hx2]; exact own_k1 (own_nt (own_raw a b (0 : Int32))) (own_nt (own_raw a b (1 : Int32))) (own_nt (own_raw a b (2 : Int32))) (own_nt (own_raw a b (3 : Int32))) (own_nt (own_raw a b (4 : Int32))) _ x1 _ g0 l0 l1 l2 l3 l4 rfl m1
  · show own_idx x2 (1 : Int32) = own_v (own_grp a b (7 : Int32) (0 : Int32)) (2 : Int32); rw [hx2]; exact own_k2 (own_nt (own_raw a b (0 : Int32))) (own_nt (own_raw a b (1 : Int32))) (own_nt (own_raw a b (2 : Int32))) (own_nt (own_raw a b (3 : Int32))) (own_nt (own_raw a b (4 : Int32))) _ x1 _ g0 l0 l1 l2 l3 l4 rfl m1
  · show own_idx x3 (4 : Int32) = own_v (own_grp a b (7 : Int32) (0 : Int32)) (3 : Int32); rw [hx3]; exact own_k3 (own_nt (own_raw a b (0 : Int32))) (own_nt (own_raw a b (1 : Int32))) (own_nt (own_raw a b (2 : Int32))) (own_nt (own_raw a b (3 : Int32))) (own_nt (own_raw a b (4 : Int32))) _ x2 _ g0 l0 l1 l2 l3 l4 rfl m2
  · show own_idx x4 (7 : Int32) = own_v (own_grp a b (7 : Int32) (0 : Int32)) (4 : Int32); rw [hx4]; exact own_k4 (own_nt (own_raw a b (0 : Int32))) (own_nt (own_raw a b (1 : Int32))) (own_nt (own_raw a b (2 : Int32))) (own_nt (own_raw a b (3 : Int32))) (own_nt (own_raw a b (4 : Int32))) _ x3 _ g0 l0 l1 l2 l3 l4 rfl m3
  · show own_idx x4 (2 : Int32) = own_v (own_grp a b (7 : Int32) (0 : Int32)) (5 : Int32); rw [hx4]; exact own_k5 (own_nt (own_raw a b (0 : Int32))) (own_nt (own_raw a b (1 : Int32))) (own_nt (own_raw a b (2 : Int32))) (own_nt (own_raw a b (3 : Int32))) (own_nt (own_raw a b (4 : Int32))) _ x3 _ g0 l0 l1 l2 l3 l4 rfl m3
  · show own_idx x5 (5 : Int32) = own_v (own_grp a b (7 : Int32) (0 : Int32)) (6 : Int32); rw [hx5]; exact own_k6 (own_nt (own_raw a b (0 : Int32))) (own_nt (own_raw a b (1 : Int32))) (own_nt (own_raw a b (2 : Int32))) (own_nt (own_raw a b (3 : Int32))) (own_nt (own_raw a b (4 : Int32))) _ x4 _ g0 l0 l1 l2 l3 l4 rfl m4
  · show own_idx x5 (0 : Int32) = own_v (own_grp a b (7 : Int32) (0 : Int32)) (7 : Int32); rw [hx5]; exact own_k7 (own_nt (own_raw a b (0 : Int32))) (own_nt (own_raw a b (1 : Int32))) (own_nt (own_raw a b (2 : Int32))) (own_nt (own_raw a b (3 : Int32))) (own_nt (own_raw a b (4 : Int32))) _ x4 _ g0 l0 l1 l2 l3 l4 rfl m4
  · show own_idx x6 (3 : Int32) = own_v (own_grp a b (7 : Int32) (5 : Int32)) (0 : Int32); rw [hx6]; exact own_k8 (own_nt (own_raw a b (5 : Int32))) (own_nt (own_raw a b (6 : Int32))) 0 0 0 _ x5 _ g5 l5 l6 (by decide) (by decide) (by decide) rfl
  · show own_idx x7 (6 : Int32) = own_v (own_grp a b (7 : Int32) (5 : Int32)) (1 : Int32); rw [hx7]; exact own_k9 (own_nt (own_raw a b (5 : Int32))) (own_nt (own_raw a b (6 : Int32))) 0 0 0 _ x6 _ g5 l5 l6 (by decide) (by decide) (by decide) rfl m6
  · show own_idx x7 (1 : Int32) = own_v (own_grp a b (7 : Int32) (5 : Int32)) (2 : Int32); rw [hx7]; exact own_k10 (own_nt (own_raw a b (5 : Int32))) (own_nt (own_raw a b (6 : Int32))) 0 0 0 _ x6 _ g5 l5 l6 (by decide) (by decide) (by decide) rfl m6
  · exact own_f7 (own_nt (own_raw a b (5 : Int32))) (own_nt (own_raw a b (6 : Int32))) _ x7 g5 l5 l6 m7
theorem own_n8 (a b : Int64) : (own_enc 0 0 [(own_raw a b (0 : Int32)), (own_raw a b (1 : Int32)), (own_raw a b (2 : Int32)), (own_raw a b (3 : Int32)), (own_raw a b (4 : Int32)), (own_raw a b (5 : Int32)), (own_raw a b (6 : Int32)), (own_raw a b (7 : Int32))]).length = 13 ∧ ∀ i, i < 13 → (own_enc 0 0 [(own_raw a b (0 : Int32)), (own_raw a b (1 : Int32)), (own_raw a b (2 : Int32)), (own_raw a b (3 : Int32)), (own_raw a b (4 : Int32)), (own_raw a b (5 : Int32)), (own_raw a b (6 : Int32)), (own_raw a b (7 : Int32))]).getD i 0 = own_v (if i < 8 then own_grp a b (8 : Int32) (0 : Int32) else own_grp a b (8 : Int32) (5 : Int32)) (Int32.ofNat (i % 8)) := by
  have y0 : own_nt (0 : Int32) = 0 := by decide
  have l0 := own_raw_lt a b (0 : Int32)
  have l1 := own_raw_lt a b (1 : Int32)
  have l2 := own_raw_lt a b (2 : Int32)
  have l3 := own_raw_lt a b (3 : Int32)
  have l4 := own_raw_lt a b (4 : Int32)
  have l5 := own_raw_lt a b (5 : Int32)
  have l6 := own_raw_lt a b (6 : Int32)
  have l7 := own_raw_lt a b (7 : Int32)
  obtain ⟨x0, hx0⟩ : ∃ z : Int32, z = 0 := ⟨_, rfl⟩
  obtain ⟨x1, hx1⟩ : ∃ z : Int32, z = own_buf x0 (own_raw a b (0 : Int32)) := ⟨_, rfl⟩
  have m1 : own_nt x1 % 256 = own_nt (own_raw a b (0 : Int32)) := by rw [hx1]; exact own_buf_mod _ _ l0
  obtain ⟨x2, hx2⟩ : ∃ z : Int32, z = own_buf x1 (own_raw a b (1 : Int32)) := ⟨_, rfl⟩
  have m2 : own_nt x2 % 256 = own_nt (own_raw a b (1 : Int32)) := by rw [hx2]; exact own_buf_mod _ _ l1
  obtain ⟨x3, hx3⟩ : ∃ z : Int32, z = own_buf x2 (own_raw a b (2 : Int32)) := ⟨_, rfl⟩
  have m3 : own_nt x3 % 256 = own_nt (own_raw a b (2 : Int32)) := by rw [hx3]; exact own_buf_mod _ _ l2
  obtain ⟨x4, hx4⟩ : ∃ z : Int32, z = own_buf x3 (own_raw a b (3 : Int32)) := ⟨_, rfl⟩
  have m4 : own_nt x4 % 256 = own_nt (own_raw a b (3 : Int32)) := by rw [hx4]; exact own_buf_mod _ _ l3
  obtain ⟨x5, hx5⟩ : ∃ z : Int32, z = own_buf x4 (own_raw a b (4 : Int32)) := ⟨_, rfl⟩
  have m5 : own_nt x5 % 256 = own_nt (own_raw a b (4 : Int32)) := by rw [hx5]; exact own_buf_mod _ _ l4
  obtain ⟨x6, hx6⟩ : ∃ z : Int32, z = own_buf x5 (own_raw a b (5 : Int32)) := ⟨_, rfl⟩
  have m6 : own_nt x6 % 256 = own_nt (own_raw a b (5 : Int32)) := by rw [hx6]; exact own_buf_mod _ _ l5
  obtain ⟨x7, hx7⟩ : ∃ z : Int32, z = own_buf x6 (own_raw a b (6 : Int32)) := ⟨_, rfl⟩
  have m7 : own_nt x7 % 256 = own_nt (own_raw a b (6 : Int32)) := by rw [hx7]; exact own_buf_mod _ _ l6
  obtain ⟨x8, hx8⟩ : ∃ z : Int32, z = own_buf x7 (own_raw a b (7 : Int32)) := ⟨_, rfl⟩
  have m8 : own_nt x8 % 256 = own_nt (own_raw a b (7 : Int32)) := by rw [hx8]; exact own_buf_mod _ _ l7
  have e : own_enc 0 0 [(own_raw a b (0 : Int32)), (own_raw a b (1 : Int32)), (own_raw a b (2 : Int32)), (own_raw a b (3 : Int32)), (own_raw a b (4 : Int32)), (own_raw a b (5 : Int32)), (own_raw a b (6 : Int32)), (own_raw a b (7 : Int32))] = [own_idx x1 (3 : Int32), own_idx x2 (6 : Int32), own_idx x2 (1 : Int32), own_idx x3 (4 : Int32), own_idx x4 (7 : Int32), own_idx x4 (2 : Int32), own_idx x5 (5 : Int32), own_idx x5 (0 : Int32), own_idx x6 (3 : Int32), own_idx x7 (6 : Int32), own_idx x7 (1 : Int32), own_idx x8 (4 : Int32), own_fl x8 (4 : Int32)] := by subst hx0 hx1 hx2 hx3 hx4 hx5 hx6 hx7 hx8; rfl
  have g0 := own_grp_nl a b (8 : Int32) (0 : Int32)
  rw [show (0 : Int32) + 1 = 1 from by decide, show (0 : Int32) + 2 = 2 from by decide, show (0 : Int32) + 3 = 3 from by decide, show (0 : Int32) + 4 = 4 from by decide] at g0
  rw [own_bA_in a b (8 : Int32) (0 : Int32) (by decide), own_bA_in a b (8 : Int32) (1 : Int32) (by decide), own_bA_in a b (8 : Int32) (2 : Int32) (by decide), own_bA_in a b (8 : Int32) (3 : Int32) (by decide), own_bA_in a b (8 : Int32) (4 : Int32) (by decide)] at g0
  have g5 := own_grp_nl a b (8 : Int32) (5 : Int32)
  rw [show (5 : Int32) + 1 = 6 from by decide, show (5 : Int32) + 2 = 7 from by decide, show (5 : Int32) + 3 = 8 from by decide, show (5 : Int32) + 4 = 9 from by decide] at g5
  rw [own_bA_in a b (8 : Int32) (5 : Int32) (by decide), own_bA_in a b (8 : Int32) (6 : Int32) (by decide), own_bA_in a b (8 : Int32) (7 : Int32) (by decide), own_bA_out a b (8 : Int32) (8 : Int32) (by decide), own_bA_out a b (8 : Int32) (9 : Int32) (by decide)] at g5
  refine ⟨by rw [e]; rfl, fun i hi => ?_⟩
  rw [e]
  have hc : i = 0 ∨ i = 1 ∨ i = 2 ∨ i = 3 ∨ i = 4 ∨ i = 5 ∨ i = 6 ∨ i = 7 ∨ i = 8 ∨ i = 9 ∨ i = 10 ∨ i = 11 ∨ i = 12 := by omega
  rcases hc with rfl | rfl | rfl | rfl | rfl | rfl | rfl | rfl | rfl | rfl | rfl | rfl | rfl
  · show own_idx x1 (3 : Int32) = own_v (own_grp a b (8 : Int32) (0 : Int32)) (0 : Int32); rw [hx1]; exact own_k0 (own_nt (own_raw a b (0 : Int32))) (own_nt (own_raw a b (1 : Int32))) (own_nt (own_raw a b (2 : Int32))) (own_nt (own_raw a b (3 : Int32))) (own_nt (own_raw a b (4 : Int32))) _ x0 _ g0 l0 l1 l2 l3 l4 rfl
  · show own_idx x2 (6 : Int32) = own_v (own_grp a b (8 : Int32) (0 : Int32)) (1 : Int32); rw [hx2]; exact own_k1 (own_nt (own_raw a b (0 : Int32))) (own_nt (own_raw a b (1 : Int32))) (own_nt (own_raw a b (2 : Int32))) (own_nt (own_raw a b (3 : Int32))) (own_nt (own_raw a b (4 : Int32))) _ x1 _ g0 l0 l1 l2 l3 l4 rfl m1
  · show own_idx x2 (1 : Int32) = own_v (own_grp a b (8 : Int32) (0 : Int32)) (2 : Int32); rw [hx2]; exact own_k2 (own_nt (own_raw a b (0 : Int32))) (own_nt (own_raw a b (1 : Int32))) (own_nt (own_raw a b (2 : Int32))) (own_nt (own_raw a b (3 : Int32))) (own_nt (own_raw a b (4 : Int32))) _ x1 _ g0 l0 l1 l2 l3 l4 rfl m1
  · show own_idx x3 (4 : Int32) = own_v (own_grp a b (8 : Int32) (0 : Int32)) (3 : Int32); rw [hx3]; exact own_k3 (own_nt (own_raw a b (0 : Int32))) (own_nt (own_raw a b (1 : Int32))) (own_nt (own_raw a b (2 : Int32))) (own_nt (own_raw a b (3 : Int32))) (own_nt (own_raw a b (4 : Int32))) _ x2 _ g0 l0 l1 l2 l3 l4 rfl m2
  · show own_idx x4 (7 : Int32) = own_v (own_grp a b (8 : Int32) (0 : Int32)) (4 : Int32); rw [hx4]; exact own_k4 (own_nt (own_raw a b (0 : Int32))) (own_nt (own_raw a b (1 : Int32))) (own_nt (own_raw a b (2 : Int32))) (own_nt (own_raw a b (3 : Int32))) (own_nt (own_raw a b (4 : Int32))) _ x3 _ g0 l0 l1 l2 l3 l4 rfl m3
  · show own_idx x4 (2 : Int32) = own_v (own_grp a b (8 : Int32) (0 : Int32)) (5 : Int32); rw [hx4]; exact own_k5 (own_nt (own_raw a b (0 : Int32))) (own_nt (own_raw a b (1 : Int32))) (own_nt (own_raw a b (2 : Int32))) (own_nt (own_raw a b (3 : Int32))) (own_nt (own_raw a b (4 : Int32))) _ x3 _ g0 l0 l1 l2 l3 l4 rfl m3
  · show own_idx x5 (5 : Int32) = own_v (own_grp a b (8 : Int32) (0 : Int32)) (6 : Int32); rw [hx5]; exact own_k6 (own_nt (own_raw a b (0 : Int32))) (own_nt (own_raw a b (1 : Int32))) (own_nt (own_raw a b (2 : Int32))) (own_nt (own_raw a b (3 : Int32))) (own_nt (own_raw a b (4 : Int32))) _ x4 _ g0 l0 l1 l2 l3 l4 rfl m4
  · show own_idx x5 (0 : Int32) = own_v (own_grp a b (8 : Int32) (0 : Int32)) (7 : Int32); rw [hx5]; exact own_k7 (own_nt (own_raw a b (0 : Int32))) (own_nt (own_raw a b (1 : Int32))) (own_nt (own_raw a b (2 : Int32))) (own_nt (own_raw a b (3 : Int32))) (own_nt (own_raw a b (4 : Int32))) _ x4 _ g0 l0 l1 l2 l3 l4 rfl m4
  · show own_idx x6 (3 : Int32) = own_v (own_grp a b (8 : Int32) (5 : Int32)) (0 : Int32); rw [hx6]; exact own_k8 (own_nt (own_raw a b (5 : Int32))) (own_nt (own_raw a b (6 : Int32))) (own_nt (own_raw a b (7 : Int32))) 0 0 _ x5 _ g5 l5 l6 l7 (by decide) (by decide) rfl
  · show own_idx x7 (6 : Int32) = own_v (own_grp a b (8 : Int32) (5 : Int32)) (1 : Int32); rw [hx7]; exact own_k9 (own_nt (own_raw a b (5 : Int32))) (own_nt (own_raw a b (6 : Int32))) (own_nt (own_raw a b (7 : Int32))) 0 0 _ x6 _ g5 l5 l6 l7 (by decide) (by decide) rfl m6
  · show own_idx x7 (1 : Int32) = own_v (own_grp a b (8 : Int32) (5 : Int32)) (2 : Int32); rw [hx7]; exact own_k10 (own_nt (own_raw a b (5 : Int32))) (own_nt (own_raw a b (6 : Int32))) (own_nt (own_raw a b (7 : Int32))) 0 0 _ x6 _ g5 l5 l6 l7 (by decide) (by decide) rfl m6
  · show own_idx x8 (4 : Int32) = own_v (own_grp a b (8 : Int32) (5 : Int32)) (3 : Int32); rw [hx8]; exact own_k11 (own_nt (own_raw a b (5 : Int32))) (own_nt (own_raw a b (6 : Int32))) (own_nt (own_raw a b (7 : Int32))) 0 0 _ x7 _ g5 l5 l6 l7 (by decide) (by decide) rfl m7
  · exact own_f8 (own_nt (own_raw a b (5 : Int32))) (own_nt (own_raw a b (6 : Int32))) (own_nt (own_raw a b (7 : Int32))) _ x8 g5 l5 l6 l7 m8
theorem own_n9 (a b : Int64) : (own_enc 0 0 [(own_raw a b (0 : Int32)), (own_raw a b (1 : Int32)), (own_raw a b (2 : Int32)), (own_raw a b (3 : Int32)), (own_raw a b (4 : Int32)), (own_raw a b (5 : Int32)), (own_raw a b (6 : Int32)), (own_raw a b (7 : Int32)), (own_raw a b (8 : Int32))]).length = 15 ∧ ∀ i, i < 15 → (own_enc 0 0 [(own_raw a b (0 : Int32)), (own_raw a b (1 : Int32)), (own_raw a b (2 : Int32)), (own_raw a b (3 : Int32)), (own_raw a b (4 : Int32)), (own_raw a b (5 : Int32)), (own_raw a b (6 : Int32)), (own_raw a b (7 : Int32)), (own_raw a b (8 : Int32))]).getD i 0 = own_v (if i < 8 then own_grp a b (9 : Int32) (0 : Int32) else own_grp a b (9 : Int32) (5 : Int32)) (Int32.ofNat (i % 8)) := by
  have y0 : own_nt (0 : Int32) = 0 := by decide
  have l0 := own_raw_lt a b (0 : Int32)
  have l1 := own_raw_lt a b (1 : Int32)
  have l2 := own_raw_lt a b (2 : Int32)
  have l3 := own_raw_lt a b (3 : Int32)
  have l4 := own_raw_lt a b (4 : Int32)
  have l5 := own_raw_lt a b (5 : Int32)
  have l6 := own_raw_lt a b (6 : Int32)
  have l7 := own_raw_lt a b (7 : Int32)
  have l8 := own_raw_lt a b (8 : Int32)
  obtain ⟨x0, hx0⟩ : ∃ z : Int32, z = 0 := ⟨_, rfl⟩
  obtain ⟨x1, hx1⟩ : ∃ z : Int32, z = own_buf x0 (own_raw a b (0 : Int32)) := ⟨_, rfl⟩
  have m1 : own_nt x1 % 256 = own_nt (own_raw a b (0 : Int32)) := by rw [hx1]; exact own_buf_mod _ _ l0
  obtain ⟨x2, hx2⟩ : ∃ z : Int32, z = own_buf x1 (own_raw a b (1 : Int32)) := ⟨_, rfl⟩
  have m2 : own_nt x2 % 256 = own_nt (own_raw a b (1 : Int32)) := by rw [hx2]; exact own_buf_mod _ _ l1
  obtain ⟨x3, hx3⟩ : ∃ z : Int32, z = own_buf x2 (own_raw a b (2 : Int32)) := ⟨_, rfl⟩
  have m3 : own_nt x3 % 256 = own_nt (own_raw a b (2 : Int32)) := by rw [hx3]; exact own_buf_mod _ _ l2
  obtain ⟨x4, hx4⟩ : ∃ z : Int32, z = own_buf x3 (own_raw a b (3 : Int32)) := ⟨_, rfl⟩
  have m4 : own_nt x4 % 256 = own_nt (own_raw a b (3 : Int32)) := by rw [hx4]; exact own_buf_mod _ _ l3
  obtain ⟨x5, hx5⟩ : ∃ z : Int32, z = own_buf x4 (own_raw a b (4 : Int32)) := ⟨_, rfl⟩
  have m5 : own_nt x5 % 256 = own_nt (own_raw a b (4 : Int32)) := by rw [hx5]; exact own_buf_mod _ _ l4
  obtain ⟨x6, hx6⟩ : ∃ z : Int32, z = own_buf x5 (own_raw a b (5 : Int32)) := ⟨_, rfl⟩
  have m6 : own_nt x6 % 256 = own_nt (own_raw a b (5 : Int32)) := by rw [hx6]; exact own_buf_mod _ _ l5
  obtain ⟨x7, hx7⟩ : ∃ z : Int32, z = own_buf x6 (own_raw a b (6 : Int32)) := ⟨_, rfl⟩
  have m7 : own_nt x7 % 256 = own_nt (own_raw a b (6 : Int32)) := by rw [hx7]; exact own_buf_mod _ _ l6
  obtain ⟨x8, hx8⟩ : ∃ z : Int32, z = own_buf x7 (own_raw a b (7 : Int32)) := ⟨_, rfl⟩
  have m8 : own_nt x8 % 256 = own_nt (own_raw a b (7 : Int32)) := by rw [hx8]; exact own_buf_mod _ _ l7
  obtain ⟨x9, hx9⟩ : ∃ z : Int32, z = own_buf x8 (own_raw a b (8 : Int32)) := ⟨_, rfl⟩
  have m9 : own_nt x9 % 256 = own_nt (own_raw a b (8 : Int32)) := by rw [hx9]; exact own_buf_mod _ _ l8
  have e : own_enc 0 0 [(own_raw a b (0 : Int32)), (own_raw a b (1 : Int32)), (own_raw a b (2 : Int32)), (own_raw a b (3 : Int32)), (own_raw a b (4 : Int32)), (own_raw a b (5 : Int32)), (own_raw a b (6 : Int32)), (own_raw a b (7 : Int32)), (own_raw a b (8 : Int32))] = [own_idx x1 (3 : Int32), own_idx x2 (6 : Int32), own_idx x2 (1 : Int32), own_idx x3 (4 : Int32), own_idx x4 (7 : Int32), own_idx x4 (2 : Int32), own_idx x5 (5 : Int32), own_idx x5 (0 : Int32), own_idx x6 (3 : Int32), own_idx x7 (6 : Int32), own_idx x7 (1 : Int32), own_idx x8 (4 : Int32), own_idx x9 (7 : Int32), own_idx x9 (2 : Int32), own_fl x9 (2 : Int32)] := by subst hx0 hx1 hx2 hx3 hx4 hx5 hx6 hx7 hx8 hx9; rfl
  have g0 := own_grp_nl a b (9 : Int32) (0 : Int32)
  rw [show (0 : Int32) + 1 = 1 from by decide, show (0 : Int32) + 2 = 2 from by decide, show (0 : Int32) + 3 = 3 from by decide, show (0 : Int32) + 4 = 4 from by decide] at g0
  rw [own_bA_in a b (9 : Int32) (0 : Int32) (by decide), own_bA_in a b (9 : Int32) (1 : Int32) (by decide), own_bA_in a b (9 : Int32) (2 : Int32) (by decide), own_bA_in a b (9 : Int32) (3 : Int32) (by decide), own_bA_in a b (9 : Int32) (4 : Int32) (by decide)] at g0
  have g5 := own_grp_nl a b (9 : Int32) (5 : Int32)
  rw [show (5 : Int32) + 1 = 6 from by decide, show (5 : Int32) + 2 = 7 from by decide, show (5 : Int32) + 3 = 8 from by decide, show (5 : Int32) + 4 = 9 from by decide] at g5
  rw [own_bA_in a b (9 : Int32) (5 : Int32) (by decide), own_bA_in a b (9 : Int32) (6 : Int32) (by decide), own_bA_in a b (9 : Int32) (7 : Int32) (by decide), own_bA_in a b (9 : Int32) (8 : Int32) (by decide), own_bA_out a b (9 : Int32) (9 : Int32) (by decide)] at g5
  refine ⟨by rw [e]; rfl, fun i hi => ?_⟩
  rw [e]
  have hc : i = 0 ∨ i = 1 ∨ i = 2 ∨ i = 3 ∨ i = 4 ∨ i = 5 ∨ i = 6 ∨ i = 7 ∨ i = 8 ∨ i = 9 ∨ i = 10 ∨ i = 11 ∨ i = 12 ∨ i = 13 ∨ i = 14 := by omega
  rcases hc with rfl | rfl | rfl | rfl | rfl | rfl | rfl | rfl | rfl | rfl | rfl | rfl | rfl | rfl | rfl
  · show own_idx x1 (3 : Int32) = own_v (own_grp a b (9 : Int32) (0 : Int32)) (0 : Int32); rw [hx1]; exact own_k0 (own_nt (own_raw a b (0 : Int32))) (own_nt (own_raw a b (1 : Int32))) (own_nt (own_raw a b (2 : Int32))) (own_nt (own_raw a b (3 : Int32))) (own_nt (own_raw a b (4 : Int32))) _ x0 _ g0 l0 l1 l2 l3 l4 rfl
  · show own_idx x2 (6 : Int32) = own_v (own_grp a b (9 : Int32) (0 : Int32)) (1 : Int32); rw [hx2]; exact own_k1 (own_nt (own_raw a b (0 : Int32))) (own_nt (own_raw a b (1 : Int32))) (own_nt (own_raw a b (2 : Int32))) (own_nt (own_raw a b (3 : Int32))) (own_nt (own_raw a b (4 : Int32))) _ x1 _ g0 l0 l1 l2 l3 l4 rfl m1
  · show own_idx x2 (1 : Int32) = own_v (own_grp a b (9 : Int32) (0 : Int32)) (2 : Int32); rw [hx2]; exact own_k2 (own_nt (own_raw a b (0 : Int32))) (own_nt (own_raw a b (1 : Int32))) (own_nt (own_raw a b (2 : Int32))) (own_nt (own_raw a b (3 : Int32))) (own_nt (own_raw a b (4 : Int32))) _ x1 _ g0 l0 l1 l2 l3 l4 rfl m1
  · show own_idx x3 (4 : Int32) = own_v (own_grp a b (9 : Int32) (0 : Int32)) (3 : Int32); rw [hx3]; exact own_k3 (own_nt (own_raw a b (0 : Int32))) (own_nt (own_raw a b (1 : Int32))) (own_nt (own_raw a b (2 : Int32))) (own_nt (own_raw a b (3 : Int32))) (own_nt (own_raw a b (4 : Int32))) _ x2 _ g0 l0 l1 l2 l3 l4 rfl m2
  · show own_idx x4 (7 : Int32) = own_v (own_grp a b (9 : Int32) (0 : Int32)) (4 : Int32); rw [hx4]; exact own_k4 (own_nt (own_raw a b (0 : Int32))) (own_nt (own_raw a b (1 : Int32))) (own_nt (own_raw a b (2 : Int32))) (own_nt (own_raw a b (3 : Int32))) (own_nt (own_raw a b (4 : Int32))) _ x3 _ g0 l0 l1 l2 l3 l4 rfl m3
  · show own_idx x4 (2 : Int32) = own_v (own_grp a b (9 : Int32) (0 : Int32)) (5 : Int32); rw [hx4]; exact own_k5 (own_nt (own_raw a b (0 : Int32))) (own_nt (own_raw a b (1 : Int32))) (own_nt (own_raw a b (2 : Int32))) (own_nt (own_raw a b (3 : Int32))) (own_nt (own_raw a b (4 : Int32))) _ x3 _ g0 l0 l1 l2 l3 l4 rfl m3
  · show own_idx x5 (5 : Int32) = own_v (own_grp a b (9 : Int32) (0 : Int32)) (6 : Int32); rw [hx5]; exact own_k6 (own_nt (own_raw a b (0 : Int32))) (own_nt (own_raw a b (1 : Int32))) (own_nt (own_raw a b (2 : Int32))) (own_nt (own_raw a b (3 : Int32))) (own_nt (own_raw a b (4 : Int32))) _ x4 _ g0 l0 l1 l2 l3 l4 rfl m4
  · show own_idx x5 (0 : Int32) = own_v (own_grp a b (9 : Int32) (0 : Int32)) (7 : Int32); rw [hx5]; exact own_k7 (own_nt (own_raw a b (0 : Int32))) (own_nt (own_raw a b (1 : Int32))) (own_nt (own_raw a b (2 : Int32))) (own_nt (own_raw a b (3 : Int32))) (own_nt (own_raw a b (4 : Int32))) _ x4 _ g0 l0 l1 l2 l3 l4 rfl m4
  · show own_idx x6 (3 : Int32) = own_v (own_grp a b (9 : Int32) (5 : Int32)) (0 : Int32); rw [hx6]; exact own_k8 (own_nt (own_raw a b (5 : Int32))) (own_nt (own_raw a b (6 : Int32))) (own_nt (own_raw a b (7 : Int32))) (own_nt (own_raw a b (8 : Int32))) 0 _ x5 _ g5 l5 l6 l7 l8 (by decide) rfl
  · show own_idx x7 (6 : Int32) = own_v (own_grp a b (9 : Int32) (5 : Int32)) (1 : Int32); rw [hx7]; exact own_k9 (own_nt (own_raw a b (5 : Int32))) (own_nt (own_raw a b (6 : Int32))) (own_nt (own_raw a b (7 : Int32))) (own_nt (own_raw a b (8 : Int32))) 0 _ x6 _ g5 l5 l6 l7 l8 (by decide) rfl m6
  · show own_idx x7 (1 : Int32) = own_v (own_grp a b (9 : Int32) (5 : Int32)) (2 : Int32); rw [hx7]; exact own_k10 (own_nt (own_raw a b (5 : Int32))) (own_nt (own_raw a b (6 : Int32))) (own_nt (own_raw a b (7 : Int32))) (own_nt (own_raw a b (8 : Int32))) 0 _ x6 _ g5 l5 l6 l7 l8 (by decide) rfl m6
  · show own_idx x8 (4 : Int32) = own_v (own_grp a b (9 : Int32) (5 : Int32)) (3 : Int32); rw [hx8]; exact own_k11 (own_nt (own_raw a b (5 : Int32))) (own_nt (own_raw a b (6 : Int32))) (own_nt (own_raw a b (7 : Int32))) (own_nt (own_raw a b (8 : Int32))) 0 _ x7 _ g5 l5 l6 l7 l8 (by decide) rfl m7
  · show own_idx x9 (7 : Int32) = own_v (own_grp a b (9 : Int32) (5 : Int32)) (4 : Int32); rw [hx9]; exact own_k12 (own_nt (own_raw a b (5 : Int32))) (own_nt (own_raw a b (6 : Int32))) (own_nt (own_raw a b (7 : Int32))) (own_nt (own_raw a b (8 : Int32))) 0 _ x8 _ g5 l5 l6 l7 l8 (by decide) rfl m8
  · show own_idx x9 (2 : Int32) = own_v (own_grp a b (9 : Int32) (5 : Int32)) (5 : Int32); rw [hx9]; exact own_k13 (own_nt (own_raw a b (5 : Int32))) (own_nt (own_raw a b (6 : Int32))) (own_nt (own_raw a b (7 : Int32))) (own_nt (own_raw a b (8 : Int32))) 0 _ x8 _ g5 l5 l6 l7 l8 (by decide) rfl m8
  · exact own_f9 (own_nt (own_raw a b (5 : Int32))) (own_nt (own_raw a b (6 : Int32))) (own_nt (own_raw a b (7 : Int32))) (own_nt (own_raw a b (8 : Int32))) _ x9 g5 l5 l6 l7 l8 m9
theorem own_n10 (a b : Int64) : (own_enc 0 0 [(own_raw a b (0 : Int32)), (own_raw a b (1 : Int32)), (own_raw a b (2 : Int32)), (own_raw a b (3 : Int32)), (own_raw a b (4 : Int32)), (own_raw a b (5 : Int32)), (own_raw a b (6 : Int32)), (own_raw a b (7 : Int32)), (own_raw a b (8 : Int32)), (own_raw a b (9 : Int32))]).length = 16 ∧ ∀ i, i < 16 → (own_enc 0 0 [(own_raw a b (0 : Int32)), (own_raw a b (1 : Int32)), (own_raw a b (2 : Int32)), (own_raw a b (3 : Int32)), (own_raw a b (4 : Int32)), (own_raw a b (5 : Int32)), (own_raw a b (6 : Int32)), (own_raw a b (7 : Int32)), (own_raw a b (8 : Int32)), (own_raw a b (9 : Int32))]).getD i 0 = own_v (if i < 8 then own_grp a b (10 : Int32) (0 : Int32) else own_grp a b (10 : Int32) (5 : Int32)) (Int32.ofNat (i % 8)) := by
  have y0 : own_nt (0 : Int32) = 0 := by decide
  have l0 := own_raw_lt a b (0 : Int32)
  have l1 := own_raw_lt a b (1 : Int32)
  have l2 := own_raw_lt a b (2 : Int32)
  have l3 := own_raw_lt a b (3 : Int32)
  have l4 := own_raw_lt a b (4 : Int32)
  have l5 := own_raw_lt a b (5 : Int32)
  have l6 := own_raw_lt a b (6 : Int32)
  have l7 := own_raw_lt a b (7 : Int32)
  have l8 := own_raw_lt a b (8 : Int32)
  have l9 := own_raw_lt a b (9 : Int32)
  obtain ⟨x0, hx0⟩ : ∃ z : Int32, z = 0 := ⟨_, rfl⟩
  obtain ⟨x1, hx1⟩ : ∃ z : Int32, z = own_buf x0 (own_raw a b (0 : Int32)) := ⟨_, rfl⟩
  have m1 : own_nt x1 % 256 = own_nt (own_raw a b (0 : Int32)) := by rw [hx1]; exact own_buf_mod _ _ l0
  obtain ⟨x2, hx2⟩ : ∃ z : Int32, z = own_buf x1 (own_raw a b (1 : Int32)) := ⟨_, rfl⟩
  have m2 : own_nt x2 % 256 = own_nt (own_raw a b (1 : Int32)) := by rw [hx2]; exact own_buf_mod _ _ l1
  obtain ⟨x3, hx3⟩ : ∃ z : Int32, z = own_buf x2 (own_raw a b (2 : Int32)) := ⟨_, rfl⟩
  have m3 : own_nt x3 % 256 = own_nt (own_raw a b (2 : Int32)) := by rw [hx3]; exact own_buf_mod _ _ l2
  obtain ⟨x4, hx4⟩ : ∃ z : Int32, z = own_buf x3 (own_raw a b (3 : Int32)) := ⟨_, rfl⟩
  have m4 : own_nt x4 % 256 = own_nt (own_raw a b (3 : Int32)) := by rw [hx4]; exact own_buf_mod _ _ l3
  obtain ⟨x5, hx5⟩ : ∃ z : Int32, z = own_buf x4 (own_raw a b (4 : Int32)) := ⟨_, rfl⟩
  have m5 : own_nt x5 % 256 = own_nt (own_raw a b (4 : Int32)) := by rw [hx5]; exact own_buf_mod _ _ l4
  obtain ⟨x6, hx6⟩ : ∃ z : Int32, z = own_buf x5 (own_raw a b (5 : Int32)) := ⟨_, rfl⟩
  have m6 : own_nt x6 % 256 = own_nt (own_raw a b (5 : Int32)) := by rw [hx6]; exact own_buf_mod _ _ l5
  obtain ⟨x7, hx7⟩ : ∃ z : Int32, z = own_buf x6 (own_raw a b (6 : Int32)) := ⟨_, rfl⟩
  have m7 : own_nt x7 % 256 = own_nt (own_raw a b (6 : Int32)) := by rw [hx7]; exact own_buf_mod _ _ l6
  obtain ⟨x8, hx8⟩ : ∃ z : Int32, z = own_buf x7 (own_raw a b (7 : Int32)) := ⟨_, rfl⟩
  have m8 : own_nt x8 % 256 = own_nt (own_raw a b (7 : Int32)) := by rw [hx8]; exact own_buf_mod _ _ l7
  obtain ⟨x9, hx9⟩ : ∃ z : Int32, z = own_buf x8 (own_raw a b (8 : Int32)) := ⟨_, rfl⟩
  have m9 : own_nt x9 % 256 = own_nt (own_raw a b (8 : Int32)) := by rw [hx9]; exact own_buf_mod _ _ l8
  obtain ⟨x10, hx10⟩ : ∃ z : Int32, z = own_buf x9 (own_raw a b (9 : Int32)) := ⟨_, rfl⟩
  have m10 : own_nt x10 % 256 = own_nt (own_raw a b (9 : Int32)) := by rw [hx10]; exact own_buf_mod _ _ l9
  have e : own_enc 0 0 [(own_raw a b (0 : Int32)), (own_raw a b (1 : Int32)), (own_raw a b (2 : Int32)), (own_raw a b (3 : Int32)), (own_raw a b (4 : Int32)), (own_raw a b (5 : Int32)), (own_raw a b (6 : Int32)), (own_raw a b (7 : Int32)), (own_raw a b (8 : Int32)), (own_raw a b (9 : Int32))] = [own_idx x1 (3 : Int32), own_idx x2 (6 : Int32), own_idx x2 (1 : Int32), own_idx x3 (4 : Int32), own_idx x4 (7 : Int32), own_idx x4 (2 : Int32), own_idx x5 (5 : Int32), own_idx x5 (0 : Int32), own_idx x6 (3 : Int32), own_idx x7 (6 : Int32), own_idx x7 (1 : Int32), own_idx x8 (4 : Int32), own_idx x9 (7 : Int32), own_idx x9 (2 : Int32), own_idx x10 (5 : Int32), own_idx x10 (0 : Int32)] := by subst hx0 hx1 hx2 hx3 hx4 hx5 hx6 hx7 hx8 hx9 hx10; rfl
  have g0 := own_grp_nl a b (10 : Int32) (0 : Int32)
  rw [show (0 : Int32) + 1 = 1 from by decide, show (0 : Int32) + 2 = 2 from by decide, show (0 : Int32) + 3 = 3 from by decide, show (0 : Int32) + 4 = 4 from by decide] at g0
  rw [own_bA_in a b (10 : Int32) (0 : Int32) (by decide), own_bA_in a b (10 : Int32) (1 : Int32) (by decide), own_bA_in a b (10 : Int32) (2 : Int32) (by decide), own_bA_in a b (10 : Int32) (3 : Int32) (by decide), own_bA_in a b (10 : Int32) (4 : Int32) (by decide)] at g0
  have g5 := own_grp_nl a b (10 : Int32) (5 : Int32)
  rw [show (5 : Int32) + 1 = 6 from by decide, show (5 : Int32) + 2 = 7 from by decide, show (5 : Int32) + 3 = 8 from by decide, show (5 : Int32) + 4 = 9 from by decide] at g5
  rw [own_bA_in a b (10 : Int32) (5 : Int32) (by decide), own_bA_in a b (10 : Int32) (6 : Int32) (by decide), own_bA_in a b (10 : Int32) (7 : Int32) (by decide), own_bA_in a b (10 : Int32) (8 : Int32) (by decide), own_bA_in a b (10 : Int32) (9 : Int32) (by decide)] at g5
  refine ⟨by rw [e]; rfl, fun i hi => ?_⟩
  rw [e]
  have hc : i = 0 ∨ i = 1 ∨ i = 2 ∨ i = 3 ∨ i = 4 ∨ i = 5 ∨ i = 6 ∨ i = 7 ∨ i = 8 ∨ i = 9 ∨ i = 10 ∨ i = 11 ∨ i = 12 ∨ i = 13 ∨ i = 14 ∨ i = 15 := by omega
  rcases hc with rfl | rfl | rfl | rfl | rfl | rfl | rfl | rfl | rfl | rfl | rfl | rfl | rfl | rfl | rfl | rfl
  · show own_idx x1 (3 : Int32) = own_v (own_grp a b (10 : Int32) (0 : Int32)) (0 : Int32); rw [hx1]; exact own_k0 (own_nt (own_raw a b (0 : Int32))) (own_nt (own_raw a b (1 : Int32))) (own_nt (own_raw a b (2 : Int32))) (own_nt (own_raw a b (3 : Int32))) (own_nt (own_raw a b (4 : Int32))) _ x0 _ g0 l0 l1 l2 l3 l4 rfl
  · show own_idx x2 (6 : Int32) = own_v (own_grp a b (10 : Int32) (0 : Int32)) (1 : Int32); rw [hx2]; exact own_k1 (own_nt (own_raw a b (0 : Int32))) (own_nt (own_raw a b (1 : Int32))) (own_nt (own_raw a b (2 : Int32))) (own_nt (own_raw a b (3 : Int32))) (own_nt (own_raw a b (4 : Int32))) _ x1 _ g0 l0 l1 l2 l3 l4 rfl m1
  · show own_idx x2 (1 : Int32) = own_v (own_grp a b (10 : Int32) (0 : Int32)) (2 : Int32); rw [hx2]; exact own_k2 (own_nt (own_raw a b (0 : Int32))) (own_nt (own_raw a b (1 : Int32))) (own_nt (own_raw a b (2 : Int32))) (own_nt (own_raw a b (3 : Int32))) (own_nt (own_raw a b (4 : Int32))) _ x1 _ g0 l0 l1 l2 l3 l4 rfl m1
  · show own_idx x3 (4 : Int32) = own_v (own_grp a b (10 : Int32) (0 : Int32)) (3 : Int32); rw [hx3]; exact own_k3 (own_nt (own_raw a b (0 : Int32))) (own_nt (own_raw a b (1 : Int32))) (own_nt (own_raw a b (2 : Int32))) (own_nt (own_raw a b (3 : Int32))) (own_nt (own_raw a b (4 : Int32))) _ x2 _ g0 l0 l1 l2 l3 l4 rfl m2
  · show own_idx x4 (7 : Int32) = own_v (own_grp a b (10 : Int32) (0 : Int32)) (4 : Int32); rw [hx4]; exact own_k4 (own_nt (own_raw a b (0 : Int32))) (own_nt (own_raw a b (1 : Int32))) (own_nt (own_raw a b (2 : Int32))) (own_nt (own_raw a b (3 : Int32))) (own_nt (own_raw a b (4 : Int32))) _ x3 _ g0 l0 l1 l2 l3 l4 rfl m3
  · show own_idx x4 (2 : Int32) = own_v (own_grp a b (10 : Int32) (0 : Int32)) (5 : Int32); rw [hx4]; exact own_k5 (own_nt (own_raw a b (0 : Int32))) (own_nt (own_raw a b (1 : Int32))) (own_nt (own_raw a b (2 : Int32))) (own_nt (own_raw a b (3 : Int32))) (own_nt (own_raw a b (4 : Int32))) _ x3 _ g0 l0 l1 l2 l3 l4 rfl m3
  · show own_idx x5 (5 : Int32) = own_v (own_grp a b (10 : Int32) (0 : Int32)) (6 : Int32); rw [hx5]; exact own_k6 (own_nt (own_raw a b (0 : Int32))) (own_nt (own_raw a b (1 : Int32))) (own_nt (own_raw a b (2 : Int32))) (own_nt (own_raw a b (3 : Int32))) (own_nt (own_raw a b (4 : Int32))) _ x4 _ g0 l0 l1 l2 l3 l4 rfl m4
  · show own_idx x5 (0 : Int32) = own_v (own_grp a b (10 : Int32) (0 : Int32)) (7 : Int32); rw [hx5]; exact own_k7 (own_nt (own_raw a b (0 : Int32))) (own_nt (own_raw a b (1 : Int32))) (own_nt (own_raw a b (2 : Int32))) (own_nt (own_raw a b (3 : Int32))) (own_nt (own_raw a b (4 : Int32))) _ x4 _ g0 l0 l1 l2 l3 l4 rfl m4
  · show own_idx x6 (3 : Int32) = own_v (own_grp a b (10 : Int32) (5 : Int32)) (0 : Int32); rw [hx6]; exact own_k8 (own_nt (own_raw a b (5 : Int32))) (own_nt (own_raw a b (6 : Int32))) (own_nt (own_raw a b (7 : Int32))) (own_nt (own_raw a b (8 : Int32))) (own_nt (own_raw a b (9 : Int32))) _ x5 _ g5 l5 l6 l7 l8 l9 rfl
  · show own_idx x7 (6 : Int32) = own_v (own_grp a b (10 : Int32) (5 : Int32)) (1 : Int32); rw [hx7]; exact own_k9 (own_nt (own_raw a b (5 : Int32))) (own_nt (own_raw a b (6 : Int32))) (own_nt (own_raw a b (7 : Int32))) (own_nt (own_raw a b (8 : Int32))) (own_nt (own_raw a b (9 : Int32))) _ x6 _ g5 l5 l6 l7 l8 l9 rfl m6
  · show own_idx x7 (1 : Int32) = own_v (own_grp a b (10 : Int32) (5 : Int32)) (2 : Int32); rw [hx7]; exact own_k10 (own_nt (own_raw a b (5 : Int32))) (own_nt (own_raw a b (6 : Int32))) (own_nt (own_raw a b (7 : Int32))) (own_nt (own_raw a b (8 : Int32))) (own_nt (own_raw a b (9 : Int32))) _ x6 _ g5 l5 l6 l7 l8 l9 rfl m6
  · show own_idx x8 (4 : Int32) = own_v (own_grp a b (10 : Int32) (5 : Int32)) (3 : Int32); rw [hx8]; exact own_k11 (own_nt (own_raw a b (5 : Int32))) (own_nt (own_raw a b (6 : Int32))) (own_nt (own_raw a b (7 : Int32))) (own_nt (own_raw a b (8 : Int32))) (own_nt (own_raw a b (9 : Int32))) _ x7 _ g5 l5 l6 l7 l8 l9 rfl m7
  · show own_idx x9 (7 : Int32) = own_v (own_grp a b (10 : Int32) (5 : Int32)) (4 : Int32); rw [hx9]; exact own_k12 (own_nt (own_raw a b (5 : Int32))) (own_nt (own_raw a b (6 : Int32))) (own_nt (own_raw a b (7 : Int32))) (own_nt (own_raw a b (8 : Int32))) (own_nt (own_raw a b (9 : Int32))) _ x8 _ g5 l5 l6 l7 l8 l9 rfl m8
  · show own_idx x9 (2 : Int32) = own_v (own_grp a b (10 : Int32) (5 : Int32)) (5 : Int32); rw [hx9]; exact own_k13 (own_nt (own_raw a b (5 : Int32))) (own_nt (own_raw a b (6 : Int32))) (own_nt (own_raw a b (7 : Int32))) (own_nt (own_raw a b (8 : Int32))) (own_nt (own_raw a b (9 : Int32))) _ x8 _ g5 l5 l6 l7 l8 l9 rfl m8
  · show own_idx x10 (5 : Int32) = own_v (own_grp a b (10 : Int32) (5 : Int32)) (6 : Int32); rw [hx10]; exact own_k14 (own_nt (own_raw a b (5 : Int32))) (own_nt (own_raw a b (6 : Int32))) (own_nt (own_raw a b (7 : Int32))) (own_nt (own_raw a b (8 : Int32))) (own_nt (own_raw a b (9 : Int32))) _ x9 _ g5 l5 l6 l7 l8 l9 rfl m9
  · show own_idx x10 (0 : Int32) = own_v (own_grp a b (10 : Int32) (5 : Int32)) (7 : Int32); rw [hx10]; exact own_k15 (own_nt (own_raw a b (5 : Int32))) (own_nt (own_raw a b (6 : Int32))) (own_nt (own_raw a b (7 : Int32))) (own_nt (own_raw a b (8 : Int32))) (own_nt (own_raw a b (9 : Int32))) _ x9 _ g5 l5 l6 l7 l8 l9 rfl m9

section OwnHelp
variable {Z : State} {a0 : Array Value}
theorem own_decl {y : MethodName} {bytes : ByteArray} {mx : Nat} {rt : Option FieldType} (hi : (Jvm.Cond.instanceMethod y).before a0 Z = true) (hc : (Jvm.Cond.code y bytes mx rt).before a0 Z = true) : (Jvm.Cond.declares y).before a0 Z = true := by
  obtain ⟨m, meth, h1, h2, h3, -⟩ := Cond.instanceMethod_spec hi
  obtain ⟨meth', c, g1, -, -, -, -, -, -, gs⟩ := Cond.code_spec h1 hc
  cases h2.symm.trans g1
  simp [Cond.before, Cond.holds, Cond.value, h1, h2, h3, gs]
theorem own_nf {args : Array Value} {s : State} {C : String} {y y' : MethodName} (hsel : (Jvm.Cond.selects C y' y').before args s = true) (hc : y'.cls = y.cls) : NotFace s y := fun r0 h0 => by
  obtain ⟨c2, r2, m2, q1, q2, q3, q4, kP, hkP, hkPi⟩ := Cond.selects_spec hsel
  have f1 := findClass_of_methodNamed h0
  have f2 := findClass_of_methodNamed q3
  rw [hc] at f2
  have e : r0.cls = m2.cls := Option.some.inj (f1.symm.trans f2)
  exact ⟨kP, by rw [e]; exact hkP, hkPi⟩
theorem own_same {C : String} {y y' : MethodName} (hd : (Jvm.Cond.declares y).before a0 Z = true) (hs : (Jvm.Cond.selects C y' y').before a0 Z = true) (hc : y'.cls = y.cls) (hy : y.cls ≠ "java/lang/invoke/MethodHandle" ∧ y.cls ≠ "java/lang/invoke/VarHandle") : (Jvm.Cond.sameMethod y.cls y.cls y.name y.desc).before a0 Z = true := by
  obtain ⟨m, meth, hn, -, -, -⟩ := Cond.declares_spec hd
  obtain ⟨c2, r2, m2, q1, q2, q3, q4, kP, hkP, hkPi⟩ := Cond.selects_spec hs
  have f1 := findClass_of_methodNamed hn
  have f2 := findClass_of_methodNamed q3
  rw [hc] at f2
  have e : m.cls = m2.cls := Option.some.inj (f1.symm.trans f2)
  have hf := State.methodFound?_of_named hn hy
  have hn' : Z.methodNamed? ⟨y.cls, y.name, y.desc⟩ = some m := hn
  have hk : Z.vm.classes[m.cls]? = some kP := by rw [e]; exact hkP
  simp [Cond.before, Cond.holds, Cond.value, f1, hf, hn', hk, hkPi]
theorem own_app {h h' : Heap} {a : Addr} {k : ClassId} {z j x w : Int32} {vs : List Value} {c : Cell} (A : Arr Z h a c .byte) (q1 : c.cls = k) (S : c.slots.size = z.toNatClampNeg) (q3 : ¬ z < 0) (H : Has c vs (.int (0 : Int32))) (G : ∀ i, i < c.slots.size → fits .byte (vs.getD i (.int (0 : Int32))) = true)
    (W : Wr h h' a j.toNatClampNeg (.int (nar .byte x))) (hj : j.toNatClampNeg = vs.length) (hw : nar .byte x = w) : Arv Z h' a k .byte z (vs ++ [.int w]) (.int (0 : Int32)) := by
  subst hw
  have P : Arv Z h a k .byte z (vs ++ List.replicate 1 (.int (0 : Int32))) (.int (0 : Int32)) := (show Arv Z h a k .byte z vs (.int (0 : Int32)) from ⟨c, A, q1, S, q3, H, G⟩).pad (pad_rep vs _ 1)
  obtain ⟨c', A', q1', S', q3', H', G'⟩ := P
  have R := Arv.set A' q1' S' q3' H' G' (fits_nar_byte _) W vs.length hj (by simp)
  have e : (vs ++ List.replicate 1 (Value.int (0 : Int32))).set vs.length (.int (nar .byte x)) = vs ++ [.int (nar .byte x)] := by
    rw [List.set_append_right _ _ (Nat.le_refl _)]; simp
  rw [← e]; exact R
end OwnHelp
theorem own_t1 : ∀ N : Fin 40, ¬ Int32.ofNat N.val < 0 ∧ (Int32.ofNat N.val).toNatClampNeg = N.val ∧ Int32.ofNat N.val + (1 : Int32) = Int32.ofNat (N.val + 1) := by decide +kernel
theorem own_t2 : ∀ N k : Fin 40, k.val < N.val → Int32.ofNat k.val < Int32.ofNat N.val := by decide +kernel
theorem own_t3 : ∀ N k : Fin 17, k.val < N.val → ¬ (0 : Int32) < (Int32.ofNat k.val + (1 : Int32)) - (Int32.ofNat N.val >>> ((0 : Int32) &&& 31)) := by decide +kernel
theorem own_nneg {N : Nat} (h : N < 40) : ¬ Int32.ofNat N < 0 := (own_t1 ⟨N, h⟩).1
theorem own_clamp {N : Nat} (h : N < 40) : (Int32.ofNat N).toNatClampNeg = N := (own_t1 ⟨N, h⟩).2.1
theorem own_succ {N : Nat} (h : N < 40) : Int32.ofNat N + (1 : Int32) = Int32.ofNat (N + 1) := (own_t1 ⟨N, h⟩).2.2
theorem own_ltN {k N : Nat} (hk : k < N) (hN : N < 40) : Int32.ofNat k < Int32.ofNat N := own_t2 ⟨N, hN⟩ ⟨k, by omega⟩ hk
theorem own_capN {k N : Nat} (hk : k < N) (hN : N ≤ 16) : ¬ (0 : Int32) < (Int32.ofNat k + (1 : Int32)) - (Int32.ofNat N >>> ((0 : Int32) &&& 31)) := own_t3 ⟨N, by omega⟩ ⟨k, by omega⟩ hk
theorem own_shr0 (z : Int32) : z >>> ((0 : Int32) &&& 31) = z := by
  apply Int32.toBitVec_inj.mp
  rw [Int32.toBitVec_shiftRight]
  show z.toBitVec.sshiftRight' (0#32) = _
  simp
def own_chr (w : Int32) : Int32 := (w &&& (255 : Int32)).toUInt32.toUInt16.toUInt32.toInt32
def own_alpha (v : Int32) : Int32 := if v < (26 : Int32) then ((65 : Int32) + v).toUInt32.toUInt16.toUInt32.toInt32 else ((50 : Int32) + (v - (26 : Int32))).toUInt32.toUInt16.toUInt32.toInt32
def own_lit : List Int32 := [65, 66, 67, 68, 69, 70, 71, 72, 73, 74, 75, 76, 77, 78, 79, 80, 81, 82, 83, 84, 85, 86, 87, 88, 89, 90, 50, 51, 52, 53, 54, 55]
theorem own_t5 : ∀ k : Fin 32, own_chr (own_lit.getD k.val 0) = own_alpha (Int32.ofNat k.val) ∧ own_chr (own_alpha (Int32.ofNat k.val)) = own_alpha (Int32.ofNat k.val) ∧ (own_alpha (Int32.ofNat k.val)).toInt8.toInt32 = own_alpha (Int32.ofNat k.val) ∧ ¬ (255 : Int32) < own_alpha (Int32.ofNat k.val) := by decide +kernel
def own_bld (Z : State) (h : Heap) (a t : Addr) (kb : ClassId) (N : Nat) (vs : List Value) : Prop := Exa Z h a "java/lang/StringBuilder" ∧ Fld Z h a "java/lang/AbstractStringBuilder" "value" "[B" (.ref t) ∧ Fld Z h a "java/lang/AbstractStringBuilder" "coder" "B" (.int (0 : Int32)) ∧ Fld Z h a "java/lang/AbstractStringBuilder" "count" "I" (.int (Int32.ofNat (vs).length)) ∧ Arv Z h t kb .byte (Int32.ofNat N) (vs) (.int (0 : Int32)) ∧ Exa Z h t "[B"
theorem own_nin2 {x a b : Addr} (h1 : x ≠ a) (h2 : x ≠ b) : x ∉ [a, b] := by
  intro h; rcases List.mem_cons.mp h with h | h
  · exact h1 h
  · exact h2 (List.mem_singleton.mp h)
theorem own_nin1 {x a : Addr} (h1 : x ≠ a) : x ∉ [a] := fun h => h1 (List.mem_singleton.mp h)
theorem own_nin0 {x : Addr} : x ∉ ([] : List Addr) := by simp
theorem own_bld_keep {Z : State} {h h' : Heap} {a t : Addr} {kb : ClassId} {N : Nat} {vs : List Value} {ws : List Addr} (B : own_bld Z h a t kb N vs) (K : Keep h h' ws) (h1 : a ∉ ws) (h2 : t ∉ ws) : own_bld Z h' a t kb N vs :=
  ⟨B.1.keep K, B.2.1.keep K h1, B.2.2.1.keep K h1, B.2.2.2.1.keep K h1, B.2.2.2.2.1.keep K h2, B.2.2.2.2.2.keep K⟩
theorem own_bld_ext {Z : State} {h h' : Heap} {a t : Addr} {kb : ClassId} {N : Nat} {vs : List Value} (B : own_bld Z h a t kb N vs) (E : Ext h h') : own_bld Z h' a t kb N vs :=
  ⟨B.1.ext E, B.2.1.ext E, B.2.2.1.ext E, B.2.2.2.1.ext E, B.2.2.2.2.1.ext E, B.2.2.2.2.2.ext E⟩
def own_str (Z : State) (h : Heap) (a u : Addr) (kb : ClassId) (N : Nat) (vs : List Value) : Prop := Exa Z h a "java/lang/String" ∧ Fld Z h a "java/lang/String" "coder" "B" (.int (0 : Int32)) ∧ Fld Z h a "java/lang/String" "value" "[B" (.ref u) ∧ Arv Z h u kb .byte (Int32.ofNat N) vs (.int (0 : Int32))
theorem own_str_keep {Z : State} {h h' : Heap} {a t : Addr} {kb : ClassId} {N : Nat} {vs : List Value} {ws : List Addr} (B : own_str Z h a t kb N vs) (K : Keep h h' ws) (h1 : a ∉ ws) (h2 : t ∉ ws) : own_str Z h' a t kb N vs :=
  ⟨B.1.keep K, B.2.1.keep K h1, B.2.2.1.keep K h1, B.2.2.2.keep K h2⟩
def own_gs (i : Int32) (g0 g1 : Int64) : Int64 := if i < (8 : Int32) then g0 else g1
def own_js (i : Int32) : Int32 := if i < (8 : Int32) then i else (i - (8 : Int32))
def own_out (l : List Int32) : List Value := l.map fun i => Value.int (own_alpha i)
theorem own_out_app (a b : List Int32) : own_out (a ++ b) = own_out a ++ own_out b := List.map_append
theorem own_out_len (a : List Int32) : (own_out a).length = a.length := List.length_map _
theorem own_getmap (l : List Int32) (k : Nat) : (l.map Value.int).getD k (.int (0 : Int32)) = .int (l.getD k 0) := by
  rw [List.getD_eq_getElem?_getD, List.getD_eq_getElem?_getD, List.getElem?_map]; cases l[k]? <;> rfl
theorem own_t6 : ∀ k : Fin 32, ¬ Int32.ofNat k.val < 0 ∧ Int32.ofNat k.val < Int32.ofNat 32 ∧ (Int32.ofNat k.val).toNatClampNeg = k.val := by decide +kernel
theorem own_li (v : Int32) (h : own_nt v < 32) : ¬ v < 0 ∧ v < Int32.ofNat 32 ∧ (own_lit.map Value.int).getD v.toNatClampNeg (.int (0 : Int32)) = .int (own_lit.getD (own_nt v) 0) := by
  have q := own_t6 ⟨own_nt v, h⟩
  have e := own_small v
  have q' : ¬ v < 0 ∧ v < Int32.ofNat 32 ∧ v.toNatClampNeg = own_nt v := by
    rw [← e] at q; exact q
  exact ⟨q'.1, q'.2.1, by rw [q'.2.2]; exact own_getmap own_lit _⟩
theorem own_lc (v : Int32) (h : own_nt v < 32) : own_chr (own_lit.getD (own_nt v) 0) = own_alpha v ∧ own_chr (own_alpha v) = own_alpha v ∧ (own_alpha v).toInt8.toInt32 = own_alpha v ∧ ¬ (255 : Int32) < own_alpha v := by
  have q := own_t5 ⟨own_nt v, h⟩
  have e := own_small v
  rw [← e] at q; exact q
def own_ctx (Z : State) (n1 n2 : Nat) (sb t d lb : Addr) : Prop := Z.heap.size ≤ n1 ∧ n1 ≤ sb ∧ n1 ≤ t ∧ d ≠ t ∧ lb ≠ t ∧ n1 ≤ n2
def own_inv (Z : State) (h : Heap) (n2 : Nat) (sb t : Addr) (kb : ClassId) (N : Nat) (vs : List Value) (d : Addr) (kd : ClassId) (n : Nat) (bs : List Value) (la lb : Addr) (kl : ClassId) : Prop :=
  Old Z Z.heap.size h ∧ n2 ≤ h.size ∧ own_bld Z h sb t kb N vs ∧ Arv Z h d kd .byte (Int32.ofNat n) bs (.int (0 : Int32)) ∧ own_str Z h la lb kl 32 (own_lit.map Value.int)
theorem own_inv_keep {Z : State} {a0 : Array Value} {h h' : Heap} {n1 n2 : Nat} {sb t : Addr} {kb : ClassId} {N : Nat} {vs vs' : List Value} {d : Addr} {kd : ClassId} {n : Nat} {bs : List Value} {la lb : Addr} {kl : ClassId} (wi : (Jvm.Cond.instantiable "java/lang/StringBuilder" (4 : Nat)).before a0 Z = true)
    (CT : own_ctx Z n1 n2 sb t d lb) (I : own_inv Z h n2 sb t kb N vs d kd n bs la lb kl) (K : Keep h h' [sb, t]) (B : own_bld Z h' sb t kb N vs') : own_inv Z h' n2 sb t kb N vs' d kd n bs la lb kl := by
  obtain ⟨OL, Z0, BD, V_d, SD⟩ := I
  obtain ⟨hnz, g_sb, g_t, ne_dt, ne_lt, n12⟩ := CT
  have n_d : d ∉ [sb, t] := own_nin2 (Exa.neArv BD.1 V_d wi).symm ne_dt
  have n_la : la ∉ [sb, t] := own_nin2 (Exa.ne SD.1 BD.1 (by decide)) (Exa.ne SD.1 BD.2.2.2.2.2 (by decide))
  have n_lb : lb ∉ [sb, t] := own_nin2 (Exa.neArv BD.1 SD.2.2.2 wi).symm ne_lt
  refine ⟨OL.keep K ?_, Nat.le_trans Z0 K.1, B, V_d.keep K n_d, own_str_keep SD K n_la n_lb⟩
  intro x hx_
  simp only [List.mem_cons, List.not_mem_nil, or_false] at hx_
  rcases hx_ with rfl | rfl
  · exact Nat.le_trans hnz g_sb
  · exact Nat.le_trans hnz g_t
theorem own_inv_of {Z : State} {h h' : Heap} {n2 : Nat} {sb t : Addr} {kb : ClassId} {N : Nat} {vs : List Value} {d : Addr} {kd : ClassId} {n : Nat} {bs : List Value} {la lb : Addr} {kl : ClassId} (e : h' = h) (I : own_inv Z h n2 sb t kb N vs d kd n bs la lb kl) : own_inv Z h n2 sb t kb N vs d kd n bs la lb kl := I
def own_at (p : Program) (l : Launch) (e : Env) (s : State) (m : MethodId) (args : Array Value) (below : List Frame) (meth : Method) (c : Code) (Z : State) (n1 n2 : Nat) (sb t : Addr) (kb : ClassId) (N : Nat) (d : Addr) (kd : ClassId) (n : Nat) (bs : List Value) (la lb : Addr) (kl : ClassId) (T : State) (locs : List Loc) (vs : List Value) : Prop :=
  Stand p l e ({ frames := 5, cells := 6, slots := 172, locals := 72 } : Room) s m args below meth c T locs 4 152 ∧ Fr n1 locs ∧ own_inv Z T.heap n2 sb t kb N vs d kd n bs la lb kl
theorem own_t7 : ∀ k : Fin 20, (k.val < 5 → Int32.ofNat k.val < (5 : Int32)) ∧ (¬ k.val < 5 → ¬ Int32.ofNat k.val < (5 : Int32) ∧ Int32.ofNat k.val + (-5 : Int32) = Int32.ofNat (k.val - 5)) ∧ Int32.ofNat k.val + (8 : Int32) = Int32.ofNat (k.val + 8) ∧ (0 < k.val → (0 : Int32) < Int32.ofNat k.val) ∧ ¬ Int32.ofNat k.val < Int32.ofNat k.val := by decide +kernel
theorem own_lt5 {k : Nat} (h : k < 5) : Int32.ofNat k < (5 : Int32) := (own_t7 ⟨k, by omega⟩).1 h
theorem own_ge5 {k : Nat} (h : k < 15) (h5 : ¬ k < 5) : ¬ Int32.ofNat k < (5 : Int32) ∧ Int32.ofNat k + (-5 : Int32) = Int32.ofNat (k - 5) := (own_t7 ⟨k, by omega⟩).2.1 h5
theorem own_add8 {k : Nat} (h : k < 5) : Int32.ofNat k + (8 : Int32) = Int32.ofNat (k + 8) := (own_t7 ⟨k, by omega⟩).2.2.1
theorem own_pos {k : Nat} (h : k < 5) (h0 : ¬ k = 0) : (0 : Int32) < Int32.ofNat k := (own_t7 ⟨k, by omega⟩).2.2.2.1 (by show 0 < k; omega)
theorem own_irr {k : Nat} (h : k < 20) : ¬ Int32.ofNat k < Int32.ofNat k := (own_t7 ⟨k, h⟩).2.2.2.2
theorem own_t8 : ∀ n : Fin 11, (((Int32.ofNat n.val * (8 : Int32)) + (5 : Int32)) - (1 : Int32)) / (5 : Int32) = Int32.ofNat ((8 * n.val + 4) / 5) := by decide +kernel
theorem own_cap {n : Nat} (h : n ≤ 10) : (((Int32.ofNat n * (8 : Int32)) + (5 : Int32)) - (1 : Int32)) / (5 : Int32) = Int32.ofNat ((8 * n + 4) / 5) := own_t8 ⟨n, by omega⟩
theorem own_strW {Z : State} {a0 : Array Value} (hw : ∀ d ∈ tables_1, d.before a0 Z = true) : ∀ a ∈ Bundle.stringAtoms, a.before a0 Z = true := by
  intro a ha
  simp only [Bundle.stringAtoms, Bundle.sN, List.mem_cons, List.not_mem_nil, or_false] at ha
  rcases ha with rfl | rfl | rfl | rfl | rfl | rfl | rfl
  · exact (hw _ (List.mem_of_getElem? (i := 22) rfl))
  · exact (hw _ (List.mem_of_getElem? (i := 33) rfl))
  · exact (hw _ (List.mem_of_getElem? (i := 1) rfl))
  · exact (hw _ (List.mem_of_getElem? (i := 79) rfl))
  · exact (hw _ (List.mem_of_getElem? (i := 64) rfl))
  · exact (hw _ (List.mem_of_getElem? (i := 106) rfl))
  · exact (hw _ (List.mem_of_getElem? (i := 107) rfl))
/-- the constant's text, out of the sheet's own word -/
def own_text : String := match tables_1[105]? with
  | some (Jvm.Cond.stringLink _ _ t) => t
  | _ => ""
theorem own_litT : (∀ c ∈ own_text.toList, c.toNat < 256) ∧ own_text.toList.map (fun c => Value.int (Jvm.Lit.byteI c.toNat.toUInt16)) = own_lit.map Value.int := ⟨by decide +kernel, by rfl⟩
theorem own_bm32 {n : Int} (h1 : -2147483648 ≤ n) (h2 : n < 2147483648) : n.bmod (2 ^ 32) = n := Int.bmod_eq_of_le (by omega) (by omega)
-- 6
theorem own_mask (x : Int32) : 0 ≤ (x &&& 2147483647).toInt ∧ (x &&& 2147483647).toInt < 2147483648 := by
  have h : (x &&& 2147483647).toBitVec.toNat ≤ 2147483647 := by
    rw [Int32.toBitVec_and, BitVec.toNat_and]
    exact Nat.and_le_right
  have e : (x &&& 2147483647).toInt = ((x &&& 2147483647).toBitVec.toNat : Int) := by
    show (x &&& 2147483647).toBitVec.toInt = _
    rw [BitVec.toInt_eq_toNat_of_lt (by omega)]
  omega
theorem own_irem {x y : Int32} (hx : 0 ≤ x.toInt) (hy : 0 < y.toInt) : (x - x / y * y).toInt = x.toInt % y.toInt := by
  have bx := Int32.toInt_lt x
  have hq0 : 0 ≤ x.toInt / y.toInt := Int.ediv_nonneg hx (by omega)
  have hq1 : x.toInt / y.toInt ≤ x.toInt := Int.ediv_le_self _ hx
  have hq2 : x.toInt / y.toInt * y.toInt ≤ x.toInt := Int.ediv_mul_le _ (by omega)
  have hq3 : 0 ≤ x.toInt / y.toInt * y.toInt := Int.mul_nonneg hq0 (by omega)
  have e1 : (x / y).toInt = x.toInt / y.toInt := by
    rw [Int32.toInt_div, Int.tdiv_eq_ediv_of_nonneg hx, own_bm32 (by omega) (by omega)]
  have e2 : (x / y * y).toInt = x.toInt / y.toInt * y.toInt := by
    rw [Int32.toInt_mul, e1, own_bm32 (by omega) (by omega)]
  rw [Int32.toInt_sub, e2, own_bm32 (by omega) (by omega), Int.emod_def, Int.mul_comm]
theorem own_nn (x : Int32) : ∃ n : Nat, n ≤ 10 ∧ ((x &&& (2147483647 : Int32)) - (x &&& (2147483647 : Int32)) / (11 : Int32) * (11 : Int32)) = Int32.ofNat n := by
  have h := own_mask x
  have hm := own_irem (x := x &&& 2147483647) (y := 11) h.1 (by decide)
  have z : (11 : Int32).toInt = 11 := rfl
  rw [z] at hm
  have h0 : 0 ≤ (x &&& 2147483647).toInt % 11 := Int.emod_nonneg _ (by decide)
  have h1 : (x &&& 2147483647).toInt % 11 < 11 := Int.emod_lt_of_pos _ (by decide)
  generalize (x &&& 2147483647).toInt % 11 = r at *
  refine ⟨r.toNat, by omega, ?_⟩
  apply Int32.toInt_inj.mp
  rw [hm, Int32.toInt_ofNat', Int.toNat_of_nonneg h0, own_bm32 (by omega) (by omega)]
def own_rs (a b : Int64) (k : Nat) : List Int32 := (List.range k).map fun j => own_raw a b (Int32.ofNat j)
def own_by (a b : Int64) (k : Nat) : List Value := (own_rs a b k).map fun r => Value.int r.toInt8.toInt32
theorem own_rs_len (a b : Int64) (k : Nat) : (own_rs a b k).length = k := by simp [own_rs]
theorem own_by_len (a b : Int64) (k : Nat) : (own_by a b k).length = k := by simp [own_by, own_rs]
theorem own_by_succ (a b : Int64) (k : Nat) : own_by a b (k + 1) = own_by a b k ++ [.int (own_raw a b (Int32.ofNat k)).toInt8.toInt32] := by
  simp [own_by, own_rs, List.range_succ]
theorem own_t9 : ∀ N k : Fin 20, ¬ k.val < N.val → ¬ Int32.ofNat k.val < Int32.ofNat N.val := by decide +kernel
theorem own_nltN {k N : Nat} (h : ¬ k < N) (hk : k < 20) (hN : N < 20) : ¬ Int32.ofNat k < Int32.ofNat N := own_t9 ⟨N, hN⟩ ⟨k, hk⟩ h
theorem own_t10 : ∀ n : Fin 11, Int32.ofNat ((8 * n.val + 4) / 5) = (((8 : Int32) * Int32.ofNat n.val) + (4 : Int32)) / (5 : Int32) := by decide +kernel
theorem own_lenE {n : Nat} (h : n ≤ 10) : Int32.ofNat ((8 * n + 4) / 5) = (((8 : Int32) * Int32.ofNat n) + (4 : Int32)) / (5 : Int32) := own_t10 ⟨n, by omega⟩
theorem own_main (a b : Int64) (n : Nat) (h : n ≤ 10) : (own_enc 0 0 (own_rs a b n)).length = (8 * n + 4) / 5 ∧ ∀ i, i < (8 * n + 4) / 5 → (own_enc 0 0 (own_rs a b n)).getD i 0 = own_v (if i < 8 then own_grp a b (Int32.ofNat n) (0 : Int32) else own_grp a b (Int32.ofNat n) (5 : Int32)) (Int32.ofNat (i % 8)) := by
  have hc : n = 0 ∨ n = 1 ∨ n = 2 ∨ n = 3 ∨ n = 4 ∨ n = 5 ∨ n = 6 ∨ n = 7 ∨ n = 8 ∨ n = 9 ∨ n = 10 := by omega
  rcases hc with rfl | rfl | rfl | rfl | rfl | rfl | rfl | rfl | rfl | rfl | rfl
  · exact own_n0 a b
  · exact own_n1 a b
  · exact own_n2 a b
  · exact own_n3 a b
  · exact own_n4 a b
  · exact own_n5 a b
  · exact own_n6 a b
  · exact own_n7 a b
  · exact own_n8 a b
  · exact own_n9 a b
  · exact own_n10 a b
theorem own_v_lt (g : Int64) (j : Int32) : own_nt (own_v g j) < 32 := by unfold own_v; rw [own_l2i, own_and31L]; omega
theorem own_t11 : ∀ i : Fin 16, (Int32.ofNat i.val).toNatClampNeg = i.val ∧ own_js (Int32.ofNat i.val) = Int32.ofNat (i.val % 8) ∧ (Int32.ofNat i.val < (8 : Int32) ↔ i.val < 8) := by decide +kernel
theorem own_good (a b : Int64) (n : Nat) (h : n ≤ 10) (i : Nat) (hi : i < 16) (hlt : Int32.ofNat i < Int32.ofNat ((8 * n + 4) / 5)) :
    ∃ w : Int32, (own_out (own_enc 0 0 (own_rs a b n))).getD (Int32.ofNat i).toNatClampNeg (.int (0 : Int32)) = .int w ∧ own_chr w = own_alpha (own_v (own_gs (Int32.ofNat i) (own_grp a b (Int32.ofNat n) (0 : Int32)) (own_grp a b (Int32.ofNat n) (5 : Int32))) (own_js (Int32.ofNat i))) := by
  obtain ⟨hl, hm⟩ := own_main a b n h
  obtain ⟨q1, q2, q3⟩ := own_t11 ⟨i, hi⟩
  have hin : i < (8 * n + 4) / 5 := Decidable.byContradiction fun q => own_nltN q (by omega) (by omega) hlt
  have e := hm i hin
  have g : own_gs (Int32.ofNat i) (own_grp a b (Int32.ofNat n) (0 : Int32)) (own_grp a b (Int32.ofNat n) (5 : Int32)) = (if i < 8 then own_grp a b (Int32.ofNat n) (0 : Int32) else own_grp a b (Int32.ofNat n) (5 : Int32)) := by
    unfold own_gs
    have q3' : (Int32.ofNat i < (8 : Int32)) ↔ i < 8 := q3
    by_cases c8 : i < 8
    · rw [if_pos c8, if_pos (q3'.mpr c8)]
    · rw [if_neg c8, if_neg (fun z => c8 (q3'.mp z))]
  have q1' : (Int32.ofNat i).toNatClampNeg = i := q1
  have q2' : own_js (Int32.ofNat i) = Int32.ofNat (i % 8) := q2
  rw [g, q2', q1', ← e]
  have ev := own_v_lt (if i < 8 then own_grp a b (Int32.ofNat n) (0 : Int32) else own_grp a b (Int32.ofNat n) (5 : Int32)) (Int32.ofNat (i % 8))
  rw [← e] at ev
  generalize own_enc 0 0 (own_rs a b n) = I at *
  have hi2 : i < I.length := by omega
  refine ⟨own_alpha (I.getD i 0), ?_, (own_lc _ ev).2.1⟩
  simp [own_out, List.getD_eq_getElem?_getD, hi2]
theorem own_narb (x : Int32) : nar .byte (x.toInt8.toInt32) = x.toInt8.toInt32 := Value.int.inj (XT.narrow_b x)
def own_lat (p : Program) (l : Launch) (e : Env) (s : State) (m : MethodId) (args : Array Value) (below : List Frame) (meth : Method) (c : Code) (Z : State) (n0 : Nat) (dd : Addr) (kd : ClassId) (n : Nat) (T : State) (locs : List Loc) (vs : List Value) : Prop :=
  Stand p l e room_1 s m args below meth c T locs 1 10 ∧ Fr n0 locs ∧ Old Z Z.heap.size T.heap ∧ n0 ≤ T.heap.size ∧ Exa Z T.heap dd "[B" ∧ Arv Z T.heap dd kd .byte (Int32.ofNat n) vs (.int (0 : Int32))
section OwnBack
variable {p : Program} {l : Launch} {e : Env} {R : Room} {s : State} {args : Array Value} {below : List Frame} {Z : State} {a0 : Array Value} {h : Heap}
theorem own_backS {y : MethodName} {bytes : ByteArray} {maxL : Nat} {ret : Option FieldType} {rm : Room} {len W : Nat} {as' : Array Value} {Q : Option Value → Heap → List Loc → Prop}
    (hM : MetFree l y (head1 [Jvm.Cond.code y bytes maxL ret] rm) (fun a U => a = as' ∧ Z.Warmed39 U.vm ∧ U.heap = h ∧ U.vm.interned = Z.vm.interned) (fun _ _ _ _ _ => True) (fun _ U o U' => ∃ v L, o = .returned v ∧ Q v U'.heap L ∧ ReturnedEndW U o U' L rm.cells rm.slots))
    (hZ : Z.Warmed39 s.vm) (hI : s.vm.interned = Z.vm.interned) (wc : (Jvm.Cond.code y bytes maxL ret).before a0 Z = true) (wz : (Jvm.Cond.initialized y.cls).before a0 Z = true) (hf : rm.frames + 1 ≤ R.frames) (hl : W + (maxL + 11) + rm.locals ≤ R.locals) :
    BackS l R p e below s args y len W (fun A a => a = as' ∧ A.U.heap = h ∧ A.cells + rm.cells ≤ R.cells ∧ A.slots + rm.slots ≤ R.slots)
      (fun A _ v B => ∃ L, Q v B.U.heap L ∧ B.locs = A.locs ++ L ∧ B.cells = A.cells + rm.cells ∧ B.slots = A.slots + rm.slots) := by
  refine BackS.of_freeW (bytes := bytes) (maxL := maxL) (ret := ret) (E := fun _ _ o t L k n => k = rm.cells ∧ n = rm.slots ∧ ∃ v, o = .returned v ∧ Q v t.heap L) hM hf hl ?_ ?_ (fun _ _ _ _ _ _ _ _ _ => trivial) ?_ ?_
  · intro m meth c A a Y hp
    have hU : Z.Warmed39 A.U.vm := wtrans hZ Y.warmed
    refine ⟨?_, mv hU wc, mv hU wz, hp.2.2.1, hp.2.2.2⟩
    show (Jvm.Cond.and _ .tt).before a A.U = true
    rw [Cond.before_and, mv hU wc]; rfl
  · intro m meth c A a g mk Y hp
    exact ⟨hp.1, wtrans hZ Y.warmed, hp.2.1, Y.warmed.interned_eq.trans hI⟩
  · rintro _ _ _ _ ⟨v, L, h1, h2, h3⟩
    exact ⟨L, _, _, h3, rfl, rfl, v, h1, h2⟩
  · rintro m meth c A a g mk v t L k n Y hp _ _ ⟨e1, e2, v', e3, e4⟩
    cases e3; subst e1 e2
    exact ⟨L, e4, rfl, rfl, rfl⟩
end OwnBack
theorem XT_narc (x : Int32) : nar .char (own_chr x) = own_chr x := by
  have h := XT.narrow_c (x &&& (255 : Int32))
  exact Value.int.inj h
theorem own_pn0 : plainName "java/lang/AbstractStringBuilder" = true := by first | (simp [plainName, overriddenIn]; done) | decide +kernel
theorem own_d11_0 : decode jdk_68_method_68_code 0 = .ok (.getstatic 18, 3) := by decide +kernel
theorem own_d11_3 : decode jdk_68_method_68_code 3 = .ok (.ifCond .eq 14, 3) := by decide +kernel
theorem own_d11_6 : decode jdk_68_method_68_code 6 = .ok (.aload_n 0, 1) := by decide +kernel
theorem own_d11_7 : decode jdk_68_method_68_code 7 = .ok (.getfield 22, 3) := by decide +kernel
theorem own_d11_10 : decode jdk_68_method_68_code 10 = .ok (.ifCond .ne 7, 3) := by decide +kernel
theorem own_d11_13 : decode jdk_68_method_68_code 13 = .ok (.iconst 1, 1) := by decide +kernel
theorem own_d11_14 : decode jdk_68_method_68_code 14 = .ok (.goto 4, 3) := by decide +kernel
theorem own_d11_18 : decode jdk_68_method_68_code 18 = .ok (.ireturn, 1) := by decide +kernel
theorem own_ef11 (m : MethodId) (a1 : Addr)  : entryFrame m #[(.ref a1)] 1 = mkF m 0 #[.val (.ref a1)] [] := by first | (simp [entryFrame, mkF, argsToLocals, Value.category]; done) | rfl
def Q11 (Z : State) (a1 : Addr)  (h0 : Heap) (n0 : Nat) (v : Option Value) (h : Heap) (L : List Loc) : Prop := v = some (.int ((1 : Int32))) ∧ Fr n0 L ∧ h = h0
set_option maxRecDepth 65536 in
set_option maxHeartbeats 40000000 in
theorem rm11 (l : Launch) (Z : State) (a0 : Array Value) (hw : ∀ d ∈ tables_1, d.before a0 Z = true) (ws : List Jvm.Cond) (a1 : Addr)  (h0 : Heap) (n0 : Nat) (Z0 : n0 ≤ h0.size) (cz : Int32) (hcz : ¬ cz = 0) (O1 : Sta Z Z.heap "java/lang/String" "COMPACT_STRINGS" "Z" (.int cz)) (OL : Old Z Z.heap.size h0) (hnz : Z.heap.size ≤ n0) (Fc : Fld Z h0 a1 "java/lang/AbstractStringBuilder" "coder" "B" (.int (0 : Int32))) :
    MetFree l (⟨"java/lang/AbstractStringBuilder", "isLatin1", "()Z"⟩ : MethodName) (head1 (Jvm.Cond.code (⟨"java/lang/AbstractStringBuilder", "isLatin1", "()Z"⟩ : MethodName) jdk_68_method_68_code 1 (some .boolean) :: ws) ({ frames := 0, cells := 0, slots := 0, locals := 0 } : Room)) (fun a U => a = #[(.ref a1)] ∧ Z.Warmed39 U.vm ∧ U.heap = h0) (fun _ _ _ _ _ => True) (fun _ U o U' => ∃ v L, o = .returned v ∧ Q11 Z a1  h0 n0 v U'.heap L ∧ FrameEnd U o U' L ({ frames := 0, cells := 0, slots := 0, locals := 0 } : Room).cells ({ frames := 0, cells := 0, slots := 0, locals := 0 } : Room).slots) := by
  refine MetFree.of_bodySF (plainFor_of_name own_pn0) hisR ?_
  intro p e s m args below meth c s₁ Bd hml0 hP hK
  obtain ⟨rfl, hZ, hh⟩ := hP
  have hx := Bd.exec
  have hby := Bd.bytes
  have hml : c.maxLocals = 1 := hml0
  have hown : s.vm.findClass "java/lang/AbstractStringBuilder" = some m.cls := findClass_of_methodNamed Bd.named
  have hnm := (name_of_methodNamed Bd.named Bd.method).1
  have X0 : Stand p l e ({ frames := 0, cells := 0, slots := 0, locals := 0 } : Room) s m #[(.ref a1)] below meth c s₁ [] 0 0 := Stand.of_body Bd
  have e0 : s₁.heap = h0 := by rw [← hh, Bd.state]; rfl
  have N0 := Fr.nil n0
  have pre0 : ∀ t, Steps p.tables e below (s₁.setTop (mkF m 0 #[.val (.ref a1)] [])) t → Steps p.tables e below (s₁.setTop (entryFrame m #[(.ref a1)] 1)) t := fun t k => castTop (own_ef11 m a1 ) k
  obtain ⟨T1, X1, e1, st1⟩ := getS2 X0 hx hZ hown (host := "") (Or.inl (hw _ (List.mem_of_getElem? (i := 21) rfl))) Via.refl e0 (Sta.ext OL.2 O1) (g := (mkF m 0 #[.val (.ref a1)] [])) rfl (hb hby own_d11_0)
  have sg1 : ∀ tgt, Steps p.tables e below (T1.setTop (mkF m 7 #[.val (.ref a1)] [(.ref a1)])) tgt → Steps p.tables e below (T1.setTop (mkF m 3 #[.val (.ref a1)] [(.int cz)])) tgt := by
    intro tgt kk
    show Steps p.tables e below (T1.setTop (mkF m 3 #[.val (.ref a1)] [(.int cz)])) _
    refine XS.ifNo X1.here hx rfl (hb hby own_d11_3) rfl (XT.i0_eq_f hcz) ?_
    show Steps p.tables e below (T1.setTop (mkF m 6 #[.val (.ref a1)] [])) _
    refine XS.aloadN X1.here hx rfl (hb hby own_d11_6) rfl rfl ?_
    exact kk
  obtain ⟨T2, X2, e2, st2⟩ := getF X1 hx hZ hown (host := "") (Or.inl (hw _ (List.mem_of_getElem? (i := 25) rfl))) Via.refl e1 Fc (g := (mkF m 7 #[.val (.ref a1)] [(.ref a1)])) rfl rfl (hb hby own_d11_7)
  obtain ⟨fs, hr, hrun, hended, hW, hsame⟩ := X2.leave (v := some (.int (1 : Int32))) (fun h => by rw [Bd.returns] at h; cases h)
  refine ⟨_, _, pre0 _ ?_, hrun, hended, _, _, rfl, ?_, ⟨_, rfl⟩, hW, hsame.mono (by decide) (by decide)⟩
  · refine st1 _ ?_
    refine sg1 _ ?_
    refine st2 _ ?_
    show Steps p.tables e below (T2.setTop (mkF m 10 #[.val (.ref a1)] [(.int (0 : Int32))])) _
    refine XS.ifNo X2.here hx rfl (hb hby own_d11_10) rfl (XT.i0_ne_f rfl) ?_
    show Steps p.tables e below (T2.setTop (mkF m 13 #[.val (.ref a1)] [])) _
    refine XT.iconstV X2.here hx rfl (1 : Int32) (hb hby own_d11_13) (by decide) ?_
    show Steps p.tables e below (T2.setTop (mkF m 14 #[.val (.ref a1)] [(.int (1 : Int32))])) _
    refine XS.goto X2.here hx rfl (pc0 := 14) (pc' := 18) rfl (hb hby own_d11_14) (by decide) (by decide) ?_
    show Steps p.tables e below (T2.setTop (mkF m 18 #[.val (.ref a1)] [(.int (1 : Int32))])) _
    exact retN X2 hx (t := .boolean) Bd.returns (by simp) (hb hby own_d11_18) hr
  · exact ⟨rfl, N0, e2⟩
theorem own_pn1 : plainName "java/lang/String" = true := by first | (simp [plainName, overriddenIn]; done) | decide +kernel
theorem own_d20_0 : decode jdk_42_method_154_code 0 = .ok (.getstatic 38, 3) := by decide +kernel
theorem own_d20_3 : decode jdk_42_method_154_code 3 = .ok (.ifCond .eq 14, 3) := by decide +kernel
theorem own_d20_6 : decode jdk_42_method_154_code 6 = .ok (.aload_n 0, 1) := by decide +kernel
theorem own_d20_7 : decode jdk_42_method_154_code 7 = .ok (.getfield 15, 3) := by decide +kernel
theorem own_d20_10 : decode jdk_42_method_154_code 10 = .ok (.ifCond .ne 7, 3) := by decide +kernel
theorem own_d20_13 : decode jdk_42_method_154_code 13 = .ok (.iconst 1, 1) := by decide +kernel
theorem own_d20_14 : decode jdk_42_method_154_code 14 = .ok (.goto 4, 3) := by decide +kernel
theorem own_d20_18 : decode jdk_42_method_154_code 18 = .ok (.ireturn, 1) := by decide +kernel
theorem own_ef20 (m : MethodId) (a1 : Addr)  : entryFrame m #[(.ref a1)] 1 = mkF m 0 #[.val (.ref a1)] [] := by first | (simp [entryFrame, mkF, argsToLocals, Value.category]; done) | rfl
def Q20 (Z : State) (a1 : Addr)  (h0 : Heap) (n0 : Nat) (v : Option Value) (h : Heap) (L : List Loc) : Prop := v = some (.int ((1 : Int32))) ∧ Fr n0 L ∧ h = h0
set_option maxRecDepth 65536 in
set_option maxHeartbeats 40000000 in
theorem rm20 (l : Launch) (Z : State) (a0 : Array Value) (hw : ∀ d ∈ tables_1, d.before a0 Z = true) (ws : List Jvm.Cond) (a1 : Addr)  (h0 : Heap) (n0 : Nat) (Z0 : n0 ≤ h0.size) (cz : Int32) (hcz : ¬ cz = 0) (O1 : Sta Z Z.heap "java/lang/String" "COMPACT_STRINGS" "Z" (.int cz)) (OL : Old Z Z.heap.size h0) (hnz : Z.heap.size ≤ n0) (Fc : Fld Z h0 a1 "java/lang/String" "coder" "B" (.int (0 : Int32))) :
    MetFree l (⟨"java/lang/String", "isLatin1", "()Z"⟩ : MethodName) (head1 (Jvm.Cond.code (⟨"java/lang/String", "isLatin1", "()Z"⟩ : MethodName) jdk_42_method_154_code 1 (some .boolean) :: ws) ({ frames := 0, cells := 0, slots := 0, locals := 0 } : Room)) (fun a U => a = #[(.ref a1)] ∧ Z.Warmed39 U.vm ∧ U.heap = h0) (fun _ _ _ _ _ => True) (fun _ U o U' => ∃ v L, o = .returned v ∧ Q20 Z a1  h0 n0 v U'.heap L ∧ FrameEnd U o U' L ({ frames := 0, cells := 0, slots := 0, locals := 0 } : Room).cells ({ frames := 0, cells := 0, slots := 0, locals := 0 } : Room).slots) := by
  refine MetFree.of_bodySF (plainFor_of_name own_pn1) hisR ?_
  intro p e s m args below meth c s₁ Bd hml0 hP hK
  obtain ⟨rfl, hZ, hh⟩ := hP
  have hx := Bd.exec
  have hby := Bd.bytes
  have hml : c.maxLocals = 1 := hml0
  have hown : s.vm.findClass "java/lang/String" = some m.cls := findClass_of_methodNamed Bd.named
  have hnm := (name_of_methodNamed Bd.named Bd.method).1
  have X0 : Stand p l e ({ frames := 0, cells := 0, slots := 0, locals := 0 } : Room) s m #[(.ref a1)] below meth c s₁ [] 0 0 := Stand.of_body Bd
  have e0 : s₁.heap = h0 := by rw [← hh, Bd.state]; rfl
  have N0 := Fr.nil n0
  have pre0 : ∀ t, Steps p.tables e below (s₁.setTop (mkF m 0 #[.val (.ref a1)] [])) t → Steps p.tables e below (s₁.setTop (entryFrame m #[(.ref a1)] 1)) t := fun t k => castTop (own_ef20 m a1 ) k
  obtain ⟨T1, X1, e1, st1⟩ := getS2 X0 hx hZ hown (host := "") (Or.inl (hw _ (List.mem_of_getElem? (i := 97) rfl))) Via.refl e0 (Sta.ext OL.2 O1) (g := (mkF m 0 #[.val (.ref a1)] [])) rfl (hb hby own_d20_0)
  have sg1 : ∀ tgt, Steps p.tables e below (T1.setTop (mkF m 7 #[.val (.ref a1)] [(.ref a1)])) tgt → Steps p.tables e below (T1.setTop (mkF m 3 #[.val (.ref a1)] [(.int cz)])) tgt := by
    intro tgt kk
    show Steps p.tables e below (T1.setTop (mkF m 3 #[.val (.ref a1)] [(.int cz)])) _
    refine XS.ifNo X1.here hx rfl (hb hby own_d20_3) rfl (XT.i0_eq_f hcz) ?_
    show Steps p.tables e below (T1.setTop (mkF m 6 #[.val (.ref a1)] [])) _
    refine XS.aloadN X1.here hx rfl (hb hby own_d20_6) rfl rfl ?_
    exact kk
  obtain ⟨T2, X2, e2, st2⟩ := getF X1 hx hZ hown (host := "") (Or.inl (hw _ (List.mem_of_getElem? (i := 63) rfl))) Via.refl e1 Fc (g := (mkF m 7 #[.val (.ref a1)] [(.ref a1)])) rfl rfl (hb hby own_d20_7)
  obtain ⟨fs, hr, hrun, hended, hW, hsame⟩ := X2.leave (v := some (.int (1 : Int32))) (fun h => by rw [Bd.returns] at h; cases h)
  refine ⟨_, _, pre0 _ ?_, hrun, hended, _, _, rfl, ?_, ⟨_, rfl⟩, hW, hsame.mono (by decide) (by decide)⟩
  · refine st1 _ ?_
    refine sg1 _ ?_
    refine st2 _ ?_
    show Steps p.tables e below (T2.setTop (mkF m 10 #[.val (.ref a1)] [(.int (0 : Int32))])) _
    refine XS.ifNo X2.here hx rfl (hb hby own_d20_10) rfl (XT.i0_ne_f rfl) ?_
    show Steps p.tables e below (T2.setTop (mkF m 13 #[.val (.ref a1)] [])) _
    refine XT.iconstV X2.here hx rfl (1 : Int32) (hb hby own_d20_13) (by decide) ?_
    show Steps p.tables e below (T2.setTop (mkF m 14 #[.val (.ref a1)] [(.int (1 : Int32))])) _
    refine XS.goto X2.here hx rfl (pc0 := 14) (pc' := 18) rfl (hb hby own_d20_14) (by decide) (by decide) ?_
    show Steps p.tables e below (T2.setTop (mkF m 18 #[.val (.ref a1)] [(.int (1 : Int32))])) _
    exact retN X2 hx (t := .boolean) Bd.returns (by simp) (hb hby own_d20_18) hr
  · exact ⟨rfl, N0, e2⟩
theorem own_d16_0 : decode jdk_42_method_152_code 0 = .ok (.getstatic 38, 3) := by decide +kernel
theorem own_d16_3 : decode jdk_42_method_152_code 3 = .ok (.ifCond .eq 10, 3) := by decide +kernel
theorem own_d16_6 : decode jdk_42_method_152_code 6 = .ok (.aload_n 0, 1) := by decide +kernel
theorem own_d16_7 : decode jdk_42_method_152_code 7 = .ok (.getfield 15, 3) := by decide +kernel
theorem own_d16_10 : decode jdk_42_method_152_code 10 = .ok (.goto 4, 3) := by decide +kernel
theorem own_d16_14 : decode jdk_42_method_152_code 14 = .ok (.ireturn, 1) := by decide +kernel
theorem own_ef16 (m : MethodId) (a1 : Addr)  : entryFrame m #[(.ref a1)] 1 = mkF m 0 #[.val (.ref a1)] [] := by first | (simp [entryFrame, mkF, argsToLocals, Value.category]; done) | rfl
def Q16 (Z : State) (a1 : Addr)  (h0 : Heap) (n0 : Nat) (v : Option Value) (h : Heap) (L : List Loc) : Prop := v = some (.int ((0 : Int32))) ∧ Fr n0 L ∧ h = h0
set_option maxRecDepth 65536 in
set_option maxHeartbeats 40000000 in
theorem rm16 (l : Launch) (Z : State) (a0 : Array Value) (hw : ∀ d ∈ tables_1, d.before a0 Z = true) (ws : List Jvm.Cond) (a1 : Addr)  (h0 : Heap) (n0 : Nat) (Z0 : n0 ≤ h0.size) (cz : Int32) (hcz : ¬ cz = 0) (O1 : Sta Z Z.heap "java/lang/String" "COMPACT_STRINGS" "Z" (.int cz)) (OL : Old Z Z.heap.size h0) (hnz : Z.heap.size ≤ n0) (Fc : Fld Z h0 a1 "java/lang/String" "coder" "B" (.int (0 : Int32))) :
    MetFree l (⟨"java/lang/String", "coder", "()B"⟩ : MethodName) (head1 (Jvm.Cond.code (⟨"java/lang/String", "coder", "()B"⟩ : MethodName) jdk_42_method_152_code 1 (some .byte) :: ws) ({ frames := 0, cells := 0, slots := 0, locals := 0 } : Room)) (fun a U => a = #[(.ref a1)] ∧ Z.Warmed39 U.vm ∧ U.heap = h0) (fun _ _ _ _ _ => True) (fun _ U o U' => ∃ v L, o = .returned v ∧ Q16 Z a1  h0 n0 v U'.heap L ∧ FrameEnd U o U' L ({ frames := 0, cells := 0, slots := 0, locals := 0 } : Room).cells ({ frames := 0, cells := 0, slots := 0, locals := 0 } : Room).slots) := by
  refine MetFree.of_bodySF (plainFor_of_name own_pn1) hisR ?_
  intro p e s m args below meth c s₁ Bd hml0 hP hK
  obtain ⟨rfl, hZ, hh⟩ := hP
  have hx := Bd.exec
  have hby := Bd.bytes
  have hml : c.maxLocals = 1 := hml0
  have hown : s.vm.findClass "java/lang/String" = some m.cls := findClass_of_methodNamed Bd.named
  have hnm := (name_of_methodNamed Bd.named Bd.method).1
  have X0 : Stand p l e ({ frames := 0, cells := 0, slots := 0, locals := 0 } : Room) s m #[(.ref a1)] below meth c s₁ [] 0 0 := Stand.of_body Bd
  have e0 : s₁.heap = h0 := by rw [← hh, Bd.state]; rfl
  have N0 := Fr.nil n0
  have pre0 : ∀ t, Steps p.tables e below (s₁.setTop (mkF m 0 #[.val (.ref a1)] [])) t → Steps p.tables e below (s₁.setTop (entryFrame m #[(.ref a1)] 1)) t := fun t k => castTop (own_ef16 m a1 ) k
  obtain ⟨T1, X1, e1, st1⟩ := getS2 X0 hx hZ hown (host := "") (Or.inl (hw _ (List.mem_of_getElem? (i := 97) rfl))) Via.refl e0 (Sta.ext OL.2 O1) (g := (mkF m 0 #[.val (.ref a1)] [])) rfl (hb hby own_d16_0)
  have sg1 : ∀ tgt, Steps p.tables e below (T1.setTop (mkF m 7 #[.val (.ref a1)] [(.ref a1)])) tgt → Steps p.tables e below (T1.setTop (mkF m 3 #[.val (.ref a1)] [(.int cz)])) tgt := by
    intro tgt kk
    show Steps p.tables e below (T1.setTop (mkF m 3 #[.val (.ref a1)] [(.int cz)])) _
    refine XS.ifNo X1.here hx rfl (hb hby own_d16_3) rfl (XT.i0_eq_f hcz) ?_
    show Steps p.tables e below (T1.setTop (mkF m 6 #[.val (.ref a1)] [])) _
    refine XS.aloadN X1.here hx rfl (hb hby own_d16_6) rfl rfl ?_
    exact kk
  obtain ⟨T2, X2, e2, st2⟩ := getF X1 hx hZ hown (host := "") (Or.inl (hw _ (List.mem_of_getElem? (i := 63) rfl))) Via.refl e1 Fc (g := (mkF m 7 #[.val (.ref a1)] [(.ref a1)])) rfl rfl (hb hby own_d16_7)
  obtain ⟨fs, hr, hrun, hended, hW, hsame⟩ := X2.leave (v := some (.int (0 : Int32))) (fun h => by rw [Bd.returns] at h; cases h)
  refine ⟨_, _, pre0 _ ?_, hrun, hended, _, _, rfl, ?_, ⟨_, rfl⟩, hW, hsame.mono (by decide) (by decide)⟩
  · refine st1 _ ?_
    refine sg1 _ ?_
    refine st2 _ ?_
    show Steps p.tables e below (T2.setTop (mkF m 10 #[.val (.ref a1)] [(.int (0 : Int32))])) _
    refine XS.goto X2.here hx rfl (pc0 := 10) (pc' := 14) rfl (hb hby own_d16_10) (by decide) (by decide) ?_
    show Steps p.tables e below (T2.setTop (mkF m 14 #[.val (.ref a1)] [(.int (0 : Int32))])) _
    exact retN X2 hx (t := .byte) Bd.returns (by simp) (hb hby own_d16_14) hr
  · exact ⟨rfl, N0, e2⟩
theorem own_d10_0 : decode jdk_68_method_6_code 0 = .ok (.aload_n 0, 1) := by decide +kernel
theorem own_d10_1 : decode jdk_68_method_6_code 1 = .ok (.getfield 79, 3) := by decide +kernel
theorem own_d10_4 : decode jdk_68_method_6_code 4 = .ok (.ireturn, 1) := by decide +kernel
theorem own_ef10 (m : MethodId) (a1 : Addr)  : entryFrame m #[(.ref a1)] 1 = mkF m 0 #[.val (.ref a1)] [] := by first | (simp [entryFrame, mkF, argsToLocals, Value.category]; done) | rfl
def Q10 (Z : State) (a1 : Addr) (w1 : Int32) (h0 : Heap) (n0 : Nat) (v : Option Value) (h : Heap) (L : List Loc) : Prop := v = some (.int (w1)) ∧ Fr n0 L ∧ h = h0
set_option maxRecDepth 65536 in
set_option maxHeartbeats 40000000 in
theorem rm10 (l : Launch) (Z : State) (a0 : Array Value) (hw : ∀ d ∈ tables_1, d.before a0 Z = true) (ws : List Jvm.Cond) (a1 : Addr) (w1 : Int32) (h0 : Heap) (n0 : Nat) (Z0 : n0 ≤ h0.size) (Fn : Fld Z h0 a1 "java/lang/AbstractStringBuilder" "count" "I" (.int w1)) :
    MetFree l (⟨"java/lang/AbstractStringBuilder", "length", "()I"⟩ : MethodName) (head1 (Jvm.Cond.code (⟨"java/lang/AbstractStringBuilder", "length", "()I"⟩ : MethodName) jdk_68_method_6_code 1 (some .int) :: ws) ({ frames := 0, cells := 0, slots := 0, locals := 0 } : Room)) (fun a U => a = #[(.ref a1)] ∧ Z.Warmed39 U.vm ∧ U.heap = h0) (fun _ _ _ _ _ => True) (fun _ U o U' => ∃ v L, o = .returned v ∧ Q10 Z a1 w1 h0 n0 v U'.heap L ∧ FrameEnd U o U' L ({ frames := 0, cells := 0, slots := 0, locals := 0 } : Room).cells ({ frames := 0, cells := 0, slots := 0, locals := 0 } : Room).slots) := by
  refine MetFree.of_bodySF (plainFor_of_name own_pn0) hisR ?_
  intro p e s m args below meth c s₁ Bd hml0 hP hK
  obtain ⟨rfl, hZ, hh⟩ := hP
  have hx := Bd.exec
  have hby := Bd.bytes
  have hml : c.maxLocals = 1 := hml0
  have hown : s.vm.findClass "java/lang/AbstractStringBuilder" = some m.cls := findClass_of_methodNamed Bd.named
  have hnm := (name_of_methodNamed Bd.named Bd.method).1
  have X0 : Stand p l e ({ frames := 0, cells := 0, slots := 0, locals := 0 } : Room) s m #[(.ref a1)] below meth c s₁ [] 0 0 := Stand.of_body Bd
  have e0 : s₁.heap = h0 := by rw [← hh, Bd.state]; rfl
  have N0 := Fr.nil n0
  have pre0 : ∀ t, Steps p.tables e below (s₁.setTop (mkF m 0 #[.val (.ref a1)] [])) t → Steps p.tables e below (s₁.setTop (entryFrame m #[(.ref a1)] 1)) t := fun t k => castTop (own_ef10 m a1 ) k
  have sg0 : ∀ tgt, Steps p.tables e below (s₁.setTop (mkF m 1 #[.val (.ref a1)] [(.ref a1)])) tgt → Steps p.tables e below (s₁.setTop (mkF m 0 #[.val (.ref a1)] [])) tgt := by
    intro tgt kk
    show Steps p.tables e below (s₁.setTop (mkF m 0 #[.val (.ref a1)] [])) _
    refine XS.aloadN X0.here hx rfl (hb hby own_d10_0) rfl rfl ?_
    exact kk
  obtain ⟨T1, X1, e1, st1⟩ := getF X0 hx hZ hown (host := "") (Or.inl (hw _ (List.mem_of_getElem? (i := 56) rfl))) Via.refl e0 Fn (g := (mkF m 1 #[.val (.ref a1)] [(.ref a1)])) rfl rfl (hb hby own_d10_1)
  obtain ⟨fs, hr, hrun, hended, hW, hsame⟩ := X1.leave (v := some (.int w1)) (fun h => by rw [Bd.returns] at h; cases h)
  refine ⟨_, _, pre0 _ ?_, hrun, hended, _, _, rfl, ?_, ⟨_, rfl⟩, hW, hsame.mono (by decide) (by decide)⟩
  · refine sg0 _ ?_
    refine st1 _ ?_
    show Steps p.tables e below (T1.setTop (mkF m 4 #[.val (.ref a1)] [(.int w1)])) _
    exact retI X1 hx Bd.returns (hb hby own_d10_4) hr
  · exact ⟨rfl, N0, e1⟩
theorem own_pd0 : parseMethodDescriptor "()I" = some ⟨[], some .int⟩ := by decide +kernel
theorem own_pn2 : plainName "java/lang/StringBuilder" = true := by first | (simp [plainName, overriddenIn]; done) | decide +kernel
theorem own_d9_0 : decode jdk_67_method_93_code 0 = .ok (.aload_n 0, 1) := by decide +kernel
theorem own_d9_1 : decode jdk_67_method_93_code 1 = .ok (.invokespecial 343, 3) := by decide +kernel
theorem own_d9_4 : decode jdk_67_method_93_code 4 = .ok (.ireturn, 1) := by decide +kernel
theorem own_ef9 (m : MethodId) (a1 : Addr)  : entryFrame m #[(.ref a1)] 1 = mkF m 0 #[.val (.ref a1)] [] := by first | (simp [entryFrame, mkF, argsToLocals, Value.category]; done) | rfl
def Q9 (Z : State) (a1 : Addr) (w1 : Int32) (h0 : Heap) (n0 : Nat) (v : Option Value) (h : Heap) (L : List Loc) : Prop := v = some (.int (w1)) ∧ Fr n0 L ∧ h = h0
set_option maxRecDepth 65536 in
set_option maxHeartbeats 40000000 in
theorem rm9 (l : Launch) (Z : State) (a0 : Array Value) (hw : ∀ d ∈ tables_1, d.before a0 Z = true) (ws : List Jvm.Cond) (a1 : Addr) (w1 : Int32) (h0 : Heap) (n0 : Nat) (Z0 : n0 ≤ h0.size) (E_a1 : Exa Z h0 a1 "java/lang/StringBuilder") (Fn : Fld Z h0 a1 "java/lang/AbstractStringBuilder" "count" "I" (.int w1)) :
    MetFree l (⟨"java/lang/StringBuilder", "length", "()I"⟩ : MethodName) (head1 (Jvm.Cond.code (⟨"java/lang/StringBuilder", "length", "()I"⟩ : MethodName) jdk_67_method_93_code 1 (some .int) :: ws) ({ frames := 1, cells := 0, slots := 0, locals := 12 } : Room)) (fun a U => a = #[(.ref a1)] ∧ Z.Warmed39 U.vm ∧ U.heap = h0) (fun _ _ _ _ _ => True) (fun _ U o U' => ∃ v L, o = .returned v ∧ Q9 Z a1 w1 h0 n0 v U'.heap L ∧ FrameEnd U o U' L ({ frames := 1, cells := 0, slots := 0, locals := 12 } : Room).cells ({ frames := 1, cells := 0, slots := 0, locals := 12 } : Room).slots) := by
  refine MetFree.of_bodySF (plainFor_of_name own_pn2) hisR ?_
  intro p e s m args below meth c s₁ Bd hml0 hP hK
  obtain ⟨rfl, hZ, hh⟩ := hP
  have hx := Bd.exec
  have hby := Bd.bytes
  have hml : c.maxLocals = 1 := hml0
  have hown : s.vm.findClass "java/lang/StringBuilder" = some m.cls := findClass_of_methodNamed Bd.named
  have hnm := (name_of_methodNamed Bd.named Bd.method).1
  have X0 : Stand p l e ({ frames := 1, cells := 0, slots := 0, locals := 12 } : Room) s m #[(.ref a1)] below meth c s₁ [] 0 0 := Stand.of_body Bd
  have e0 : s₁.heap = h0 := by rw [← hh, Bd.state]; rfl
  have N0 := Fr.nil n0
  have pre0 : ∀ t, Steps p.tables e below (s₁.setTop (mkF m 0 #[.val (.ref a1)] [])) t → Steps p.tables e below (s₁.setTop (entryFrame m #[(.ref a1)] 1)) t := fun t k => castTop (own_ef9 m a1 ) k
  have sg0 : ∀ tgt, Steps p.tables e below (s₁.setTop (mkF m 1 #[.val (.ref a1)] [(.ref a1)])) tgt → Steps p.tables e below (s₁.setTop (mkF m 0 #[.val (.ref a1)] [])) tgt := by
    intro tgt kk
    show Steps p.tables e below (s₁.setTop (mkF m 0 #[.val (.ref a1)] [])) _
    refine XS.aloadN X0.here hx rfl (hb hby own_d9_0) rfl rfl ?_
    exact kk
  obtain ⟨_, _, ⟨T1, L1, k1, n1⟩, -, X1, ⟨Lc1, hQ1, l1, y1, z1⟩, st1⟩ := superBack X0 hx hZ (y := (⟨"java/lang/AbstractStringBuilder", "length", "()I"⟩ : MethodName)) hown (hw _ (List.mem_of_getElem? (i := 53) rfl)) (own_same (y := (⟨"java/lang/AbstractStringBuilder", "length", "()I"⟩ : MethodName)) (hw _ (List.mem_of_getElem? (i := 48) rfl)) (hw _ (List.mem_of_getElem? (i := 45) rfl)) rfl (by decide)) (hw _ (List.mem_of_getElem? (i := 49) rfl)) (hw _ (List.mem_of_getElem? (i := 54) rfl)) (by decide) (backOf (W := 0) (rm10 l Z a0 hw [] a1 w1 h0 n0 Z0 Fn) hZ (hw _ (List.mem_of_getElem? (i := 55) rfl)) (hw _ (List.mem_of_getElem? (i := 16) rfl)) (by decide) (by decide)) e0 (Ins.self E_a1) (g := (mkF m 1 #[.val (.ref a1)] [(.ref a1)])) rfl (by rw [hml]; rfl) (hw _ (List.mem_of_getElem? (i := 55) rfl)) (argsL := []) (rest := []) (lenOf own_pd0 rfl) rfl (by show 2 * 0 + _ ≤ _; exact Nat.le_of_eq rfl) (hb hby own_d9_1) (fun _ _ => ⟨rfl, e0, (by decide : 0 + 0 ≤ _), (by decide : 0 + 0 ≤ _)⟩)
  dsimp only [Pt.U, Pt.locs, Pt.cells, Pt.slots] at X1 l1 y1 z1 st1 hQ1
  subst l1 y1 z1
  obtain ⟨rfl, N1q, e1⟩ := hQ1
  have N1 := Fr.app N0 N1q
  obtain ⟨fs, hr, hrun, hended, hW, hsame⟩ := X1.leave (v := some (.int w1)) (fun h => by rw [Bd.returns] at h; cases h)
  refine ⟨_, _, pre0 _ ?_, hrun, hended, _, _, rfl, ?_, ⟨_, rfl⟩, hW, hsame.mono (by decide) (by decide)⟩
  · refine sg0 _ ?_
    refine st1.trans ?_
    show Steps p.tables e below (T1.setTop (mkF m 4 #[.val (.ref a1)] [(.int w1)])) _
    exact retI X1 hx Bd.returns (hb hby own_d9_4) hr
  · exact ⟨rfl, N1, e1⟩
theorem own_d8_0 : decode jdk_68_method_64_code 0 = .ok (.aload_n 0, 1) := by decide +kernel
theorem own_d8_1 : decode jdk_68_method_64_code 1 = .ok (.getfield 15, 3) := by decide +kernel
theorem own_d8_4 : decode jdk_68_method_64_code 4 = .ok (.areturn, 1) := by decide +kernel
theorem own_ef8 (m : MethodId) (a1 : Addr)  : entryFrame m #[(.ref a1)] 1 = mkF m 0 #[.val (.ref a1)] [] := by first | (simp [entryFrame, mkF, argsToLocals, Value.category]; done) | rfl
def Q8 (Z : State) (a1 : Addr) (t : Addr) (h0 : Heap) (n0 : Nat) (v : Option Value) (h : Heap) (L : List Loc) : Prop := v = some (.ref t) ∧ Fr n0 L ∧ h = h0
set_option maxRecDepth 65536 in
set_option maxHeartbeats 40000000 in
theorem rm8 (l : Launch) (Z : State) (a0 : Array Value) (hw : ∀ d ∈ tables_1, d.before a0 Z = true) (ws : List Jvm.Cond) (a1 : Addr) (t : Addr) (h0 : Heap) (n0 : Nat) (Z0 : n0 ≤ h0.size) (Fv : Fld Z h0 a1 "java/lang/AbstractStringBuilder" "value" "[B" (.ref t)) :
    MetFree l (⟨"java/lang/AbstractStringBuilder", "getValue", "()[B"⟩ : MethodName) (head1 (Jvm.Cond.code (⟨"java/lang/AbstractStringBuilder", "getValue", "()[B"⟩ : MethodName) jdk_68_method_64_code 1 (some (.array .byte)) :: ws) ({ frames := 0, cells := 0, slots := 0, locals := 0 } : Room)) (fun a U => a = #[(.ref a1)] ∧ Z.Warmed39 U.vm ∧ U.heap = h0) (fun _ _ _ _ _ => True) (fun _ U o U' => ∃ v L, o = .returned v ∧ Q8 Z a1 t h0 n0 v U'.heap L ∧ FrameEnd U o U' L ({ frames := 0, cells := 0, slots := 0, locals := 0 } : Room).cells ({ frames := 0, cells := 0, slots := 0, locals := 0 } : Room).slots) := by
  refine MetFree.of_bodySF (plainFor_of_name own_pn0) hisR ?_
  intro p e s m args below meth c s₁ Bd hml0 hP hK
  obtain ⟨rfl, hZ, hh⟩ := hP
  have hx := Bd.exec
  have hby := Bd.bytes
  have hml : c.maxLocals = 1 := hml0
  have hown : s.vm.findClass "java/lang/AbstractStringBuilder" = some m.cls := findClass_of_methodNamed Bd.named
  have hnm := (name_of_methodNamed Bd.named Bd.method).1
  have X0 : Stand p l e ({ frames := 0, cells := 0, slots := 0, locals := 0 } : Room) s m #[(.ref a1)] below meth c s₁ [] 0 0 := Stand.of_body Bd
  have e0 : s₁.heap = h0 := by rw [← hh, Bd.state]; rfl
  have N0 := Fr.nil n0
  have pre0 : ∀ t, Steps p.tables e below (s₁.setTop (mkF m 0 #[.val (.ref a1)] [])) t → Steps p.tables e below (s₁.setTop (entryFrame m #[(.ref a1)] 1)) t := fun t k => castTop (own_ef8 m a1 ) k
  have sg0 : ∀ tgt, Steps p.tables e below (s₁.setTop (mkF m 1 #[.val (.ref a1)] [(.ref a1)])) tgt → Steps p.tables e below (s₁.setTop (mkF m 0 #[.val (.ref a1)] [])) tgt := by
    intro tgt kk
    show Steps p.tables e below (s₁.setTop (mkF m 0 #[.val (.ref a1)] [])) _
    refine XS.aloadN X0.here hx rfl (hb hby own_d8_0) rfl rfl ?_
    exact kk
  obtain ⟨T1, X1, e1, st1⟩ := getF X0 hx hZ hown (host := "") (Or.inl (hw _ (List.mem_of_getElem? (i := 23) rfl))) Via.refl e0 Fv (g := (mkF m 1 #[.val (.ref a1)] [(.ref a1)])) rfl rfl (hb hby own_d8_1)
  obtain ⟨fs, hr, hrun, hended, hW, hsame⟩ := X1.leave (v := some (.ref t)) (fun h => by rw [Bd.returns] at h; cases h)
  refine ⟨_, _, pre0 _ ?_, hrun, hended, _, _, rfl, ?_, ⟨_, rfl⟩, hW, hsame.mono (by decide) (by decide)⟩
  · refine sg0 _ ?_
    refine st1 _ ?_
    show Steps p.tables e below (T1.setTop (mkF m 4 #[.val (.ref a1)] [(.ref t)])) _
    show Steps p.tables e below (T1.setTop (mkF m 4 #[.val (.ref a1)] [(.ref t)])) _
    jvm_step X1.here [X1.here.top, hx, (hb hby own_d8_4), X1.method', Bd.returns, Value.isRef, FieldType.isReference]
    first | (intro acts; rw [hr _ acts rfl rfl rfl]) | rw [hr _ _ rfl rfl rfl]
    exact Steps.refl _
  · exact ⟨rfl, N0, e1⟩
theorem own_pn3 : plainName "java/lang/StringLatin1" = true := by first | (simp [plainName, overriddenIn]; done) | decide +kernel
theorem own_d27_0 : decode jdk_43_method_3_code 0 = .ok (.iload_n 0, 1) := by decide +kernel
theorem own_d27_1 : decode jdk_43_method_3_code 1 = .ok (.sipush 255, 3) := by decide +kernel
theorem own_d27_4 : decode jdk_43_method_3_code 4 = .ok (.if_icmp .gt 7, 3) := by decide +kernel
theorem own_d27_7 : decode jdk_43_method_3_code 7 = .ok (.iconst 1, 1) := by decide +kernel
theorem own_d27_8 : decode jdk_43_method_3_code 8 = .ok (.goto 4, 3) := by decide +kernel
theorem own_d27_12 : decode jdk_43_method_3_code 12 = .ok (.ireturn, 1) := by decide +kernel
theorem own_ef27 (m : MethodId) (p1 : Int32)  : entryFrame m #[(.int p1)] 1 = mkF m 0 #[.val (.int p1)] [] := by first | (simp [entryFrame, mkF, argsToLocals, Value.category]; done) | rfl
def Q27 (Z : State) (p1 : Int32)  (h0 : Heap) (n0 : Nat) (v : Option Value) (h : Heap) (L : List Loc) : Prop := v = some (.int ((1 : Int32))) ∧ Fr n0 L ∧ h = h0
set_option maxRecDepth 65536 in
set_option maxHeartbeats 40000000 in
theorem rm27 (l : Launch) (Z : State) (a0 : Array Value) (hw : ∀ d ∈ tables_1, d.before a0 Z = true) (ws : List Jvm.Cond) (p1 : Int32)  (h0 : Heap) (n0 : Nat) (Z0 : n0 ≤ h0.size) (h255 : ¬ (255 : Int32) < p1) :
    MetFree l (⟨"java/lang/StringLatin1", "canEncode", "(C)Z"⟩ : MethodName) (head1 (Jvm.Cond.code (⟨"java/lang/StringLatin1", "canEncode", "(C)Z"⟩ : MethodName) jdk_43_method_3_code 1 (some .boolean) :: ws) ({ frames := 0, cells := 0, slots := 0, locals := 0 } : Room)) (fun a U => a = #[(.int p1)] ∧ Z.Warmed39 U.vm ∧ U.heap = h0) (fun _ _ _ _ _ => True) (fun _ U o U' => ∃ v L, o = .returned v ∧ Q27 Z p1  h0 n0 v U'.heap L ∧ FrameEnd U o U' L ({ frames := 0, cells := 0, slots := 0, locals := 0 } : Room).cells ({ frames := 0, cells := 0, slots := 0, locals := 0 } : Room).slots) := by
  refine MetFree.of_bodySF (plainFor_of_name own_pn3) hisR ?_
  intro p e s m args below meth c s₁ Bd hml0 hP hK
  obtain ⟨rfl, hZ, hh⟩ := hP
  have hx := Bd.exec
  have hby := Bd.bytes
  have hml : c.maxLocals = 1 := hml0
  have hown : s.vm.findClass "java/lang/StringLatin1" = some m.cls := findClass_of_methodNamed Bd.named
  have hnm := (name_of_methodNamed Bd.named Bd.method).1
  have X0 : Stand p l e ({ frames := 0, cells := 0, slots := 0, locals := 0 } : Room) s m #[(.int p1)] below meth c s₁ [] 0 0 := Stand.of_body Bd
  have e0 : s₁.heap = h0 := by rw [← hh, Bd.state]; rfl
  have N0 := Fr.nil n0
  have pre0 : ∀ t, Steps p.tables e below (s₁.setTop (mkF m 0 #[.val (.int p1)] [])) t → Steps p.tables e below (s₁.setTop (entryFrame m #[(.int p1)] 1)) t := fun t k => castTop (own_ef27 m p1 ) k
  obtain ⟨fs, hr, hrun, hended, hW, hsame⟩ := X0.leave (v := some (.int (1 : Int32))) (fun h => by rw [Bd.returns] at h; cases h)
  refine ⟨_, _, pre0 _ ?_, hrun, hended, _, _, rfl, ?_, ⟨_, rfl⟩, hW, hsame.mono (by decide) (by decide)⟩
  · show Steps p.tables e below (s₁.setTop (mkF m 0 #[.val (.int p1)] [])) _
    refine XS.iloadN X0.here hx rfl (hb hby own_d27_0) rfl ?_
    show Steps p.tables e below (s₁.setTop (mkF m 1 #[.val (.int p1)] [(.int p1)])) _
    refine XT.sipushV X0.here hx rfl (255 : Int32) (hb hby own_d27_1) (by decide) ?_
    show Steps p.tables e below (s₁.setTop (mkF m 4 #[.val (.int p1)] [(.int (255 : Int32)), (.int p1)])) _
    refine XS.icmpNo X0.here hx rfl (hb hby own_d27_4) rfl (XT.ii_gt_f h255) ?_
    show Steps p.tables e below (s₁.setTop (mkF m 7 #[.val (.int p1)] [])) _
    refine XT.iconstV X0.here hx rfl (1 : Int32) (hb hby own_d27_7) (by decide) ?_
    show Steps p.tables e below (s₁.setTop (mkF m 8 #[.val (.int p1)] [(.int (1 : Int32))])) _
    refine XS.goto X0.here hx rfl (pc0 := 8) (pc' := 12) rfl (hb hby own_d27_8) (by decide) (by decide) ?_
    show Steps p.tables e below (s₁.setTop (mkF m 12 #[.val (.int p1)] [(.int (1 : Int32))])) _
    exact retN X0 hx (t := .boolean) Bd.returns (by simp) (hb hby own_d27_12) hr
  · exact ⟨rfl, N0, e0⟩
theorem own_d26_0 : decode jdk_68_method_9_code 0 = .ok (.aload_n 0, 1) := by decide +kernel
theorem own_d26_1 : decode jdk_68_method_9_code 1 = .ok (.getfield 15, 3) := by decide +kernel
theorem own_d26_4 : decode jdk_68_method_9_code 4 = .ok (.arraylength, 1) := by decide +kernel
theorem own_d26_5 : decode jdk_68_method_9_code 5 = .ok (.aload_n 0, 1) := by decide +kernel
theorem own_d26_6 : decode jdk_68_method_9_code 6 = .ok (.getfield 22, 3) := by decide +kernel
theorem own_d26_9 : decode jdk_68_method_9_code 9 = .ok (.ishr, 1) := by decide +kernel
theorem own_d26_10 : decode jdk_68_method_9_code 10 = .ok (.istore_n 2, 1) := by decide +kernel
theorem own_d26_11 : decode jdk_68_method_9_code 11 = .ok (.iload_n 1, 1) := by decide +kernel
theorem own_d26_12 : decode jdk_68_method_9_code 12 = .ok (.iload_n 2, 1) := by decide +kernel
theorem own_d26_13 : decode jdk_68_method_9_code 13 = .ok (.isub, 1) := by decide +kernel
theorem own_d26_14 : decode jdk_68_method_9_code 14 = .ok (.ifCond .le 24, 3) := by decide +kernel
theorem own_d26_38 : decode jdk_68_method_9_code 38 = .ok (.return_, 1) := by decide +kernel
theorem own_ef26 (m : MethodId) (a1 : Addr) (p2 : Int32)  : entryFrame m #[(.ref a1), (.int p2)] 3 = mkF m 0 #[.val (.ref a1), .val (.int p2), .unset] [] := by first | (simp [entryFrame, mkF, argsToLocals, Value.category]; done) | rfl
def Q26 (Z : State) (a1 : Addr) (p2 : Int32) (t : Addr) (kb : ClassId) (z : Int32) (vs : List Value) (h0 : Heap) (n0 : Nat) (v : Option Value) (h : Heap) (L : List Loc) : Prop := v = none ∧ Fr n0 L ∧ h = h0
set_option maxRecDepth 65536 in
set_option maxHeartbeats 40000000 in
theorem rm26 (l : Launch) (Z : State) (a0 : Array Value) (hw : ∀ d ∈ tables_1, d.before a0 Z = true) (ws : List Jvm.Cond) (a1 : Addr) (p2 : Int32) (t : Addr) (kb : ClassId) (z : Int32) (vs : List Value) (h0 : Heap) (n0 : Nat) (Z0 : n0 ≤ h0.size) (Fv : Fld Z h0 a1 "java/lang/AbstractStringBuilder" "value" "[B" (.ref t))(Fc : Fld Z h0 a1 "java/lang/AbstractStringBuilder" "coder" "B" (.int (0 : Int32))) (V_t : Arv Z h0 t kb .byte z vs (.int (0 : Int32))) (hcap : ¬ (0 : Int32) < p2 - (z >>> ((0 : Int32) &&& 31))) :
    MetFree l (⟨"java/lang/AbstractStringBuilder", "ensureCapacityInternal", "(I)V"⟩ : MethodName) (head1 (Jvm.Cond.code (⟨"java/lang/AbstractStringBuilder", "ensureCapacityInternal", "(I)V"⟩ : MethodName) jdk_68_method_9_code 3 none :: ws) ({ frames := 0, cells := 0, slots := 0, locals := 0 } : Room)) (fun a U => a = #[(.ref a1), (.int p2)] ∧ Z.Warmed39 U.vm ∧ U.heap = h0) (fun _ _ _ _ _ => True) (fun _ U o U' => ∃ v L, o = .returned v ∧ Q26 Z a1 p2 t kb z vs h0 n0 v U'.heap L ∧ FrameEnd U o U' L ({ frames := 0, cells := 0, slots := 0, locals := 0 } : Room).cells ({ frames := 0, cells := 0, slots := 0, locals := 0 } : Room).slots) := by
  refine MetFree.of_bodySF (plainFor_of_name own_pn0) hisR ?_
  intro p e s m args below meth c s₁ Bd hml0 hP hK
  obtain ⟨rfl, hZ, hh⟩ := hP
  have hx := Bd.exec
  have hby := Bd.bytes
  have hml : c.maxLocals = 3 := hml0
  have hown : s.vm.findClass "java/lang/AbstractStringBuilder" = some m.cls := findClass_of_methodNamed Bd.named
  have hnm := (name_of_methodNamed Bd.named Bd.method).1
  have X0 : Stand p l e ({ frames := 0, cells := 0, slots := 0, locals := 0 } : Room) s m #[(.ref a1), (.int p2)] below meth c s₁ [] 0 0 := Stand.of_body Bd
  have e0 : s₁.heap = h0 := by rw [← hh, Bd.state]; rfl
  have N0 := Fr.nil n0
  have pre0 : ∀ t, Steps p.tables e below (s₁.setTop (mkF m 0 #[.val (.ref a1), .val (.int p2), .unset] [])) t → Steps p.tables e below (s₁.setTop (entryFrame m #[(.ref a1), (.int p2)] 3)) t := fun t k => castTop (own_ef26 m a1 p2 ) k
  have sg0 : ∀ tgt, Steps p.tables e below (s₁.setTop (mkF m 1 #[.val (.ref a1), .val (.int p2), .unset] [(.ref a1)])) tgt → Steps p.tables e below (s₁.setTop (mkF m 0 #[.val (.ref a1), .val (.int p2), .unset] [])) tgt := by
    intro tgt kk
    show Steps p.tables e below (s₁.setTop (mkF m 0 #[.val (.ref a1), .val (.int p2), .unset] [])) _
    refine XS.aloadN X0.here hx rfl (hb hby own_d26_0) rfl rfl ?_
    exact kk
  obtain ⟨T1, X1, e1, st1⟩ := getF X0 hx hZ hown (host := "") (Or.inl (hw _ (List.mem_of_getElem? (i := 23) rfl))) Via.refl e0 Fv (g := (mkF m 1 #[.val (.ref a1), .val (.int p2), .unset] [(.ref a1)])) rfl rfl (hb hby own_d26_1)
  obtain ⟨cl_c1, Ar_c1, q_c1, S_c1, N_c1, H_c1, G_c1⟩ := id V_t
  have sg2 : ∀ tgt, Steps p.tables e below (T1.setTop (mkF m 6 #[.val (.ref a1), .val (.int p2), .unset] [(.ref a1), (.int z)])) tgt → Steps p.tables e below (T1.setTop (mkF m 4 #[.val (.ref a1), .val (.int p2), .unset] [(.ref t)])) tgt := by
    intro tgt kk
    show Steps p.tables e below (T1.setTop (mkF m 4 #[.val (.ref a1), .val (.int p2), .unset] [(.ref t)])) _
    refine X1.arraylength hx (by rw [e1]; exact Ar_c1.1) (State.isArrayOf_alike hZ.alike Ar_c1.2.1) (g := (mkF m 4 #[.val (.ref a1), .val (.int p2), .unset] [(.ref t)])) rfl rfl (hb hby own_d26_4) _ ?_
    rw [len_of S_c1 N_c1]
    show Steps p.tables e below (T1.setTop (mkF m 5 #[.val (.ref a1), .val (.int p2), .unset] [(.int z)])) _
    refine XS.aloadN X1.here hx rfl (hb hby own_d26_5) rfl rfl ?_
    exact kk
  obtain ⟨T2, X2, e2, st2⟩ := getF X1 hx hZ hown (host := "") (Or.inl (hw _ (List.mem_of_getElem? (i := 25) rfl))) Via.refl e1 Fc (g := (mkF m 6 #[.val (.ref a1), .val (.int p2), .unset] [(.ref a1), (.int z)])) rfl rfl (hb hby own_d26_6)
  obtain ⟨v1, hv1⟩ : ∃ z_ : Int32, z_ = (z >>> ((0 : Int32) &&& 31)) := ⟨_, rfl⟩
  obtain ⟨fs, hr, hrun, hended, hW, hsame⟩ := X2.leave (v := none) (fun _ => rfl)
  refine ⟨_, _, pre0 _ ?_, hrun, hended, _, _, rfl, ?_, ⟨_, rfl⟩, hW, hsame.mono (by decide) (by decide)⟩
  · refine sg0 _ ?_
    refine st1 _ ?_
    refine sg2 _ ?_
    refine st2 _ ?_
    show Steps p.tables e below (T2.setTop (mkF m 9 #[.val (.ref a1), .val (.int p2), .unset] [(.int (0 : Int32)), (.int z)])) _
    refine XT.ishr X2.here hx rfl (hb hby own_d26_9) rfl ?_
    show Steps p.tables e below (T2.setTop (mkF m 10 #[.val (.ref a1), .val (.int p2), .unset] [(.int (z >>> ((0 : Int32) &&& 31)))])) _
    refine XS.istoreN X2.here hx rfl (hb hby own_d26_10) rfl (l' := #[.val (.ref a1), .val (.int p2), .val (.int v1)]) (by rw [hv1]; rfl) ?_
    show Steps p.tables e below (T2.setTop (mkF m 11 #[.val (.ref a1), .val (.int p2), .val (.int v1)] [])) _
    refine XS.iloadN X2.here hx rfl (hb hby own_d26_11) rfl ?_
    show Steps p.tables e below (T2.setTop (mkF m 12 #[.val (.ref a1), .val (.int p2), .val (.int v1)] [(.int p2)])) _
    refine XS.iloadN X2.here hx rfl (hb hby own_d26_12) rfl ?_
    show Steps p.tables e below (T2.setTop (mkF m 13 #[.val (.ref a1), .val (.int p2), .val (.int v1)] [(.int v1), (.int p2)])) _
    refine XS.isub X2.here hx rfl (hb hby own_d26_13) rfl ?_
    show Steps p.tables e below (T2.setTop (mkF m 14 #[.val (.ref a1), .val (.int p2), .val (.int v1)] [(.int (p2 - v1))])) _
    refine XS.ifYes X2.here hx rfl (pc0 := 14) (pc' := 38) rfl (hb hby own_d26_14) rfl (XT.i0_le_t (by rw [hv1]; exact hcap)) (by decide) (by decide) ?_
    show Steps p.tables e below (T2.setTop (mkF m 38 #[.val (.ref a1), .val (.int p2), .val (.int v1)] [])) _
    exact X2.returnOut hx Bd.returns (hb hby own_d26_38) hr
  · exact ⟨rfl, N0, e2⟩
theorem own_pn4 : plainName "jdk/internal/util/Preconditions" = true := by first | (simp [plainName, overriddenIn]; done) | decide +kernel
theorem own_d23_0 : decode jdk_41_method_11_code 0 = .ok (.iload_n 0, 1) := by decide +kernel
theorem own_d23_1 : decode jdk_41_method_11_code 1 = .ok (.ifCond .lt 8, 3) := by decide +kernel
theorem own_d23_4 : decode jdk_41_method_11_code 4 = .ok (.iload_n 0, 1) := by decide +kernel
theorem own_d23_5 : decode jdk_41_method_11_code 5 = .ok (.iload_n 1, 1) := by decide +kernel
theorem own_d23_6 : decode jdk_41_method_11_code 6 = .ok (.if_icmp .lt 10, 3) := by decide +kernel
theorem own_d23_16 : decode jdk_41_method_11_code 16 = .ok (.iload_n 0, 1) := by decide +kernel
theorem own_d23_17 : decode jdk_41_method_11_code 17 = .ok (.ireturn, 1) := by decide +kernel
theorem own_ef23 (m : MethodId) (p1 : Int32) (p2 : Int32) (fm : Value) (hfm : fm.isRef = true) : entryFrame m #[(.int p1), (.int p2), fm] 3 = mkF m 0 #[.val (.int p1), .val (.int p2), .val fm] [] := by cases fm <;> first | rfl | (simp [Value.isRef] at hfm)
def Q23 (Z : State) (p1 : Int32) (p2 : Int32) (fm : Value)  (h0 : Heap) (n0 : Nat) (v : Option Value) (h : Heap) (L : List Loc) : Prop := v = some (.int (p1)) ∧ Fr n0 L ∧ h = h0
set_option maxRecDepth 65536 in
set_option maxHeartbeats 40000000 in
theorem rm23 (l : Launch) (Z : State) (a0 : Array Value) (hw : ∀ d ∈ tables_1, d.before a0 Z = true) (ws : List Jvm.Cond) (p1 : Int32) (p2 : Int32) (fm : Value)  (h0 : Heap) (n0 : Nat) (Z0 : n0 ≤ h0.size) (hfm : fm.isRef = true) (h1 : ¬ p1 < 0) (h2 : p1 < p2) :
    MetFree l (⟨"jdk/internal/util/Preconditions", "checkIndex", "(IILjava/util/function/BiFunction;)I"⟩ : MethodName) (head1 (Jvm.Cond.code (⟨"jdk/internal/util/Preconditions", "checkIndex", "(IILjava/util/function/BiFunction;)I"⟩ : MethodName) jdk_41_method_11_code 3 (some .int) :: ws) ({ frames := 0, cells := 0, slots := 0, locals := 0 } : Room)) (fun a U => a = #[(.int p1), (.int p2), fm] ∧ Z.Warmed39 U.vm ∧ U.heap = h0) (fun _ _ _ _ _ => True) (fun _ U o U' => ∃ v L, o = .returned v ∧ Q23 Z p1 p2 fm  h0 n0 v U'.heap L ∧ FrameEnd U o U' L ({ frames := 0, cells := 0, slots := 0, locals := 0 } : Room).cells ({ frames := 0, cells := 0, slots := 0, locals := 0 } : Room).slots) := by
  refine MetFree.of_bodySF (plainFor_of_name own_pn4) hisR ?_
  intro p e s m args below meth c s₁ Bd hml0 hP hK
  obtain ⟨rfl, hZ, hh⟩ := hP
  have hx := Bd.exec
  have hby := Bd.bytes
  have hml : c.maxLocals = 3 := hml0
  have hown : s.vm.findClass "jdk/internal/util/Preconditions" = some m.cls := findClass_of_methodNamed Bd.named
  have hnm := (name_of_methodNamed Bd.named Bd.method).1
  have X0 : Stand p l e ({ frames := 0, cells := 0, slots := 0, locals := 0 } : Room) s m #[(.int p1), (.int p2), fm] below meth c s₁ [] 0 0 := Stand.of_body Bd
  have e0 : s₁.heap = h0 := by rw [← hh, Bd.state]; rfl
  have N0 := Fr.nil n0
  have pre0 : ∀ t, Steps p.tables e below (s₁.setTop (mkF m 0 #[.val (.int p1), .val (.int p2), .val fm] [])) t → Steps p.tables e below (s₁.setTop (entryFrame m #[(.int p1), (.int p2), fm] 3)) t := fun t k => castTop (own_ef23 m p1 p2 fm hfm) k
  obtain ⟨fs, hr, hrun, hended, hW, hsame⟩ := X0.leave (v := some (.int p1)) (fun h => by rw [Bd.returns] at h; cases h)
  refine ⟨_, _, pre0 _ ?_, hrun, hended, _, _, rfl, ?_, ⟨_, rfl⟩, hW, hsame.mono (by decide) (by decide)⟩
  · show Steps p.tables e below (s₁.setTop (mkF m 0 #[.val (.int p1), .val (.int p2), .val fm] [])) _
    refine XS.iloadN X0.here hx rfl (hb hby own_d23_0) rfl ?_
    show Steps p.tables e below (s₁.setTop (mkF m 1 #[.val (.int p1), .val (.int p2), .val fm] [(.int p1)])) _
    refine XS.ifNo X0.here hx rfl (hb hby own_d23_1) rfl (XT.i0_lt_f h1) ?_
    show Steps p.tables e below (s₁.setTop (mkF m 4 #[.val (.int p1), .val (.int p2), .val fm] [])) _
    refine XS.iloadN X0.here hx rfl (hb hby own_d23_4) rfl ?_
    show Steps p.tables e below (s₁.setTop (mkF m 5 #[.val (.int p1), .val (.int p2), .val fm] [(.int p1)])) _
    refine XS.iloadN X0.here hx rfl (hb hby own_d23_5) rfl ?_
    show Steps p.tables e below (s₁.setTop (mkF m 6 #[.val (.int p1), .val (.int p2), .val fm] [(.int p2), (.int p1)])) _
    refine XS.icmpYes X0.here hx rfl (pc0 := 6) (pc' := 16) rfl (hb hby own_d23_6) rfl (XT.ii_lt_t h2) (by decide) (by decide) ?_
    show Steps p.tables e below (s₁.setTop (mkF m 16 #[.val (.int p1), .val (.int p2), .val fm] [])) _
    refine XS.iloadN X0.here hx rfl (hb hby own_d23_16) rfl ?_
    show Steps p.tables e below (s₁.setTop (mkF m 17 #[.val (.int p1), .val (.int p2), .val fm] [(.int p1)])) _
    exact retI X0 hx Bd.returns (hb hby own_d23_17) hr
  · exact ⟨rfl, N0, e0⟩
theorem own_pd1 : parseMethodDescriptor "(IILjava/util/function/BiFunction;)I" = some ⟨[.int, .int, (.object "java/util/function/BiFunction")], some .int⟩ := by decide +kernel
theorem own_d22_0 : decode jdk_42_method_155_code 0 = .ok (.iload_n 0, 1) := by decide +kernel
theorem own_d22_1 : decode jdk_42_method_155_code 1 = .ok (.iload_n 1, 1) := by decide +kernel
theorem own_d22_2 : decode jdk_42_method_155_code 2 = .ok (.getstatic 1053, 3) := by decide +kernel
theorem own_d22_5 : decode jdk_42_method_155_code 5 = .ok (.invokestatic 1059, 3) := by decide +kernel
theorem own_d22_8 : decode jdk_42_method_155_code 8 = .ok (.pop, 1) := by decide +kernel
theorem own_d22_9 : decode jdk_42_method_155_code 9 = .ok (.return_, 1) := by decide +kernel
theorem own_ef22 (m : MethodId) (p1 : Int32) (p2 : Int32)  : entryFrame m #[(.int p1), (.int p2)] 2 = mkF m 0 #[.val (.int p1), .val (.int p2)] [] := by first | (simp [entryFrame, mkF, argsToLocals, Value.category]; done) | rfl
def Q22 (Z : State) (p1 : Int32) (p2 : Int32)  (h0 : Heap) (n0 : Nat) (v : Option Value) (h : Heap) (L : List Loc) : Prop := v = none ∧ Fr n0 L ∧ h = h0
set_option maxRecDepth 65536 in
set_option maxHeartbeats 40000000 in
theorem rm22 (l : Launch) (Z : State) (a0 : Array Value) (hw : ∀ d ∈ tables_1, d.before a0 Z = true) (ws : List Jvm.Cond) (p1 : Int32) (p2 : Int32)  (h0 : Heap) (n0 : Nat) (Z0 : n0 ≤ h0.size) (cz : Int32) (hcz : ¬ cz = 0) (O1 : Sta Z Z.heap "java/lang/String" "COMPACT_STRINGS" "Z" (.int cz)) (OL : Old Z Z.heap.size h0) (hnz : Z.heap.size ≤ n0) (fm : Value) (hfm : fm.isRef = true) (O2 : Sta Z Z.heap "jdk/internal/util/Preconditions" "SIOOBE_FORMATTER" "Ljava/util/function/BiFunction;" fm) (h1 : ¬ p1 < 0) (h2 : p1 < p2) :
    MetFree l (⟨"java/lang/String", "checkIndex", "(II)V"⟩ : MethodName) (head1 (Jvm.Cond.code (⟨"java/lang/String", "checkIndex", "(II)V"⟩ : MethodName) jdk_42_method_155_code 2 none :: ws) ({ frames := 1, cells := 0, slots := 0, locals := 14 } : Room)) (fun a U => a = #[(.int p1), (.int p2)] ∧ Z.Warmed39 U.vm ∧ U.heap = h0) (fun _ _ _ _ _ => True) (fun _ U o U' => ∃ v L, o = .returned v ∧ Q22 Z p1 p2  h0 n0 v U'.heap L ∧ FrameEnd U o U' L ({ frames := 1, cells := 0, slots := 0, locals := 14 } : Room).cells ({ frames := 1, cells := 0, slots := 0, locals := 14 } : Room).slots) := by
  refine MetFree.of_bodySF (plainFor_of_name own_pn1) hisR ?_
  intro p e s m args below meth c s₁ Bd hml0 hP hK
  obtain ⟨rfl, hZ, hh⟩ := hP
  have hx := Bd.exec
  have hby := Bd.bytes
  have hml : c.maxLocals = 2 := hml0
  have hown : s.vm.findClass "java/lang/String" = some m.cls := findClass_of_methodNamed Bd.named
  have hnm := (name_of_methodNamed Bd.named Bd.method).1
  have X0 : Stand p l e ({ frames := 1, cells := 0, slots := 0, locals := 14 } : Room) s m #[(.int p1), (.int p2)] below meth c s₁ [] 0 0 := Stand.of_body Bd
  have e0 : s₁.heap = h0 := by rw [← hh, Bd.state]; rfl
  have N0 := Fr.nil n0
  have pre0 : ∀ t, Steps p.tables e below (s₁.setTop (mkF m 0 #[.val (.int p1), .val (.int p2)] [])) t → Steps p.tables e below (s₁.setTop (entryFrame m #[(.int p1), (.int p2)] 2)) t := fun t k => castTop (own_ef22 m p1 p2 ) k
  have sg0 : ∀ tgt, Steps p.tables e below (s₁.setTop (mkF m 2 #[.val (.int p1), .val (.int p2)] [(.int p2), (.int p1)])) tgt → Steps p.tables e below (s₁.setTop (mkF m 0 #[.val (.int p1), .val (.int p2)] [])) tgt := by
    intro tgt kk
    show Steps p.tables e below (s₁.setTop (mkF m 0 #[.val (.int p1), .val (.int p2)] [])) _
    refine XS.iloadN X0.here hx rfl (hb hby own_d22_0) rfl ?_
    show Steps p.tables e below (s₁.setTop (mkF m 1 #[.val (.int p1), .val (.int p2)] [(.int p1)])) _
    refine XS.iloadN X0.here hx rfl (hb hby own_d22_1) rfl ?_
    exact kk
  obtain ⟨T1, X1, e1, st1⟩ := getS2 X0 hx hZ hown (host := "") (Or.inl (hw _ (List.mem_of_getElem? (i := 125) rfl))) Via.refl e0 (Sta.ext OL.2 O2) (g := (mkF m 2 #[.val (.int p1), .val (.int p2)] [(.int p2), (.int p1)])) rfl (hb hby own_d22_2)
  -- pc 5: jdk/internal/util/Preconditions.checkIndex
  obtain ⟨_, _, ⟨T2, L2, k2, n2⟩, -, X2, ⟨Lc2, hQ2, l2, y2, z2⟩, st2⟩ := Jvm.LawKit.callS X1 hx (y := (⟨"jdk/internal/util/Preconditions", "checkIndex", "(IILjava/util/function/BiFunction;)I"⟩ : MethodName)) hown (mvT hZ (hw _ (List.mem_of_getElem? (i := 127) rfl))) (mvT hZ (hw _ (List.mem_of_getElem? (i := 128) rfl))) (mvT hZ (hw _ (List.mem_of_getElem? (i := 126) rfl))) (mvT hZ (hw _ (List.mem_of_getElem? (i := 129) rfl))) (by decide) (backOf (W := 0) (rm23 l Z a0 hw [] p1 p2 fm  h0 n0 Z0 hfm h1 h2) hZ (hw _ (List.mem_of_getElem? (i := 129) rfl)) (hw _ (List.mem_of_getElem? (i := 126) rfl)) (by decide) (by decide)) (g := (mkF m 5 #[.val (.int p1), .val (.int p2)] [fm, (.int p2), (.int p1)])) rfl (by rw [hml]; rfl) (argsL := [(.int p1), (.int p2), fm]) (rest := []) (lenOf own_pd1 rfl) rfl (by show 2 * 0 + _ ≤ _; exact Nat.le_of_eq rfl) (hb hby own_d22_5) (fun _ _ => ⟨rfl, e1, (by decide : 0 + 0 ≤ _), (by decide : 0 + 0 ≤ _)⟩)
  dsimp only [Pt.U, Pt.locs, Pt.cells, Pt.slots] at X2 l2 y2 z2 st2 hQ2
  subst l2 y2 z2
  obtain ⟨rfl, N2q, e2⟩ := hQ2
  have N2 := Fr.app N0 N2q
  obtain ⟨fs, hr, hrun, hended, hW, hsame⟩ := X2.leave (v := none) (fun _ => rfl)
  refine ⟨_, _, pre0 _ ?_, hrun, hended, _, _, rfl, ?_, ⟨_, rfl⟩, hW, hsame.mono (by decide) (by decide)⟩
  · refine sg0 _ ?_
    refine st1 _ ?_
    refine st2 _ ?_
    show Steps p.tables e below (T2.setTop (mkF m 8 #[.val (.int p1), .val (.int p2)] [(.int p1)])) _
    refine XT.pop X2.here hx rfl (hb hby own_d22_8) rfl rfl ?_
    show Steps p.tables e below (T2.setTop (mkF m 9 #[.val (.int p1), .val (.int p2)] [])) _
    exact X2.returnOut hx Bd.returns (hb hby own_d22_9) hr
  · exact ⟨rfl, N2, e2⟩
theorem own_pd2 : parseMethodDescriptor "(II)V" = some ⟨[.int, .int], none⟩ := by decide +kernel
theorem own_d21_0 : decode jdk_43_method_2_code 0 = .ok (.iload_n 1, 1) := by decide +kernel
theorem own_d21_1 : decode jdk_43_method_2_code 1 = .ok (.aload_n 0, 1) := by decide +kernel
theorem own_d21_2 : decode jdk_43_method_2_code 2 = .ok (.arraylength, 1) := by decide +kernel
theorem own_d21_3 : decode jdk_43_method_2_code 3 = .ok (.invokestatic 9, 3) := by decide +kernel
theorem own_d21_6 : decode jdk_43_method_2_code 6 = .ok (.aload_n 0, 1) := by decide +kernel
theorem own_d21_7 : decode jdk_43_method_2_code 7 = .ok (.iload_n 1, 1) := by decide +kernel
theorem own_d21_8 : decode jdk_43_method_2_code 8 = .ok (.baload, 1) := by decide +kernel
theorem own_d21_9 : decode jdk_43_method_2_code 9 = .ok (.sipush 255, 3) := by decide +kernel
theorem own_d21_12 : decode jdk_43_method_2_code 12 = .ok (.iand, 1) := by decide +kernel
theorem own_d21_13 : decode jdk_43_method_2_code 13 = .ok (.i2c, 1) := by decide +kernel
theorem own_d21_14 : decode jdk_43_method_2_code 14 = .ok (.ireturn, 1) := by decide +kernel
theorem own_ef21 (m : MethodId) (a1 : Addr) (p2 : Int32)  : entryFrame m #[(.ref a1), (.int p2)] 2 = mkF m 0 #[.val (.ref a1), .val (.int p2)] [] := by first | (simp [entryFrame, mkF, argsToLocals, Value.category]; done) | rfl
def Q21 (Z : State) (a1 : Addr) (p2 : Int32) (kb : ClassId) (z : Int32) (vs : List Value) (w : Int32) (h0 : Heap) (n0 : Nat) (v : Option Value) (h : Heap) (L : List Loc) : Prop := v = some (.int (own_chr w)) ∧ Fr n0 L ∧ h = h0
set_option maxRecDepth 65536 in
set_option maxHeartbeats 40000000 in
theorem rm21 (l : Launch) (Z : State) (a0 : Array Value) (hw : ∀ d ∈ tables_1, d.before a0 Z = true) (ws : List Jvm.Cond) (a1 : Addr) (p2 : Int32) (kb : ClassId) (z : Int32) (vs : List Value) (w : Int32) (h0 : Heap) (n0 : Nat) (Z0 : n0 ≤ h0.size) (cz : Int32) (hcz : ¬ cz = 0) (O1 : Sta Z Z.heap "java/lang/String" "COMPACT_STRINGS" "Z" (.int cz)) (OL : Old Z Z.heap.size h0) (hnz : Z.heap.size ≤ n0) (fm : Value) (hfm : fm.isRef = true) (O2 : Sta Z Z.heap "jdk/internal/util/Preconditions" "SIOOBE_FORMATTER" "Ljava/util/function/BiFunction;" fm) (V_a1 : Arv Z h0 a1 kb .byte z vs (.int (0 : Int32))) (h1 : ¬ p2 < 0) (h2 : p2 < z) (h3 : vs.getD p2.toNatClampNeg (.int (0 : Int32)) = .int w) :
    MetFree l (⟨"java/lang/StringLatin1", "charAt", "([BI)C"⟩ : MethodName) (head1 (Jvm.Cond.code (⟨"java/lang/StringLatin1", "charAt", "([BI)C"⟩ : MethodName) jdk_43_method_2_code 2 (some .char) :: ws) ({ frames := 2, cells := 0, slots := 0, locals := 27 } : Room)) (fun a U => a = #[(.ref a1), (.int p2)] ∧ Z.Warmed39 U.vm ∧ U.heap = h0) (fun _ _ _ _ _ => True) (fun _ U o U' => ∃ v L, o = .returned v ∧ Q21 Z a1 p2 kb z vs w h0 n0 v U'.heap L ∧ FrameEnd U o U' L ({ frames := 2, cells := 0, slots := 0, locals := 27 } : Room).cells ({ frames := 2, cells := 0, slots := 0, locals := 27 } : Room).slots) := by
  refine MetFree.of_bodySF (plainFor_of_name own_pn3) hisR ?_
  intro p e s m args below meth c s₁ Bd hml0 hP hK
  obtain ⟨rfl, hZ, hh⟩ := hP
  have hx := Bd.exec
  have hby := Bd.bytes
  have hml : c.maxLocals = 2 := hml0
  have hown : s.vm.findClass "java/lang/StringLatin1" = some m.cls := findClass_of_methodNamed Bd.named
  have hnm := (name_of_methodNamed Bd.named Bd.method).1
  have X0 : Stand p l e ({ frames := 2, cells := 0, slots := 0, locals := 27 } : Room) s m #[(.ref a1), (.int p2)] below meth c s₁ [] 0 0 := Stand.of_body Bd
  have e0 : s₁.heap = h0 := by rw [← hh, Bd.state]; rfl
  have N0 := Fr.nil n0
  have pre0 : ∀ t, Steps p.tables e below (s₁.setTop (mkF m 0 #[.val (.ref a1), .val (.int p2)] [])) t → Steps p.tables e below (s₁.setTop (entryFrame m #[(.ref a1), (.int p2)] 2)) t := fun t k => castTop (own_ef21 m a1 p2 ) k
  obtain ⟨cl_c1, Ar_c1, q_c1, S_c1, N_c1, H_c1, G_c1⟩ := id V_a1
  have sg0 : ∀ tgt, Steps p.tables e below (s₁.setTop (mkF m 3 #[.val (.ref a1), .val (.int p2)] [(.int z), (.int p2)])) tgt → Steps p.tables e below (s₁.setTop (mkF m 0 #[.val (.ref a1), .val (.int p2)] [])) tgt := by
    intro tgt kk
    show Steps p.tables e below (s₁.setTop (mkF m 0 #[.val (.ref a1), .val (.int p2)] [])) _
    refine XS.iloadN X0.here hx rfl (hb hby own_d21_0) rfl ?_
    show Steps p.tables e below (s₁.setTop (mkF m 1 #[.val (.ref a1), .val (.int p2)] [(.int p2)])) _
    refine XS.aloadN X0.here hx rfl (hb hby own_d21_1) rfl rfl ?_
    show Steps p.tables e below (s₁.setTop (mkF m 2 #[.val (.ref a1), .val (.int p2)] [(.ref a1), (.int p2)])) _
    refine X0.arraylength hx (by rw [e0]; exact Ar_c1.1) (State.isArrayOf_alike hZ.alike Ar_c1.2.1) (g := (mkF m 2 #[.val (.ref a1), .val (.int p2)] [(.ref a1), (.int p2)])) rfl rfl (hb hby own_d21_2) _ ?_
    rw [len_of S_c1 N_c1]
    exact kk
  -- pc 3: java/lang/String.checkIndex
  obtain ⟨_, _, ⟨T1, L1, k1, n1⟩, -, X1, ⟨Lc1, hQ1, l1, y1, z1⟩, st1⟩ := Jvm.LawKit.callS X0 hx (y := (⟨"java/lang/String", "checkIndex", "(II)V"⟩ : MethodName)) hown (mvT hZ (hw _ (List.mem_of_getElem? (i := 122) rfl))) (mvT hZ (hw _ (List.mem_of_getElem? (i := 123) rfl))) (mvT hZ (hw _ (List.mem_of_getElem? (i := 22) rfl))) (mvT hZ (hw _ (List.mem_of_getElem? (i := 124) rfl))) (by decide) (backOf (W := 0) (rm22 l Z a0 hw [] p2 z  h0 n0 Z0 cz hcz O1 OL hnz fm hfm O2 h1 h2) hZ (hw _ (List.mem_of_getElem? (i := 124) rfl)) (hw _ (List.mem_of_getElem? (i := 22) rfl)) (by decide) (by decide)) (g := (mkF m 3 #[.val (.ref a1), .val (.int p2)] [(.int z), (.int p2)])) rfl (by rw [hml]; rfl) (argsL := [(.int p2), (.int z)]) (rest := []) (lenOf own_pd2 rfl) rfl (by show 2 * 0 + _ ≤ _; exact Nat.le_of_eq rfl) (hb hby own_d21_3) (fun _ _ => ⟨rfl, e0, (by decide : 0 + 0 ≤ _), (by decide : 0 + 0 ≤ _)⟩)
  dsimp only [Pt.U, Pt.locs, Pt.cells, Pt.slots] at X1 l1 y1 z1 st1 hQ1
  subst l1 y1 z1
  obtain ⟨rfl, N1q, e1⟩ := hQ1
  have N1 := Fr.app N0 N1q
  have hin8 : ¬ (p2 < 0 ∨ cl_c1.slots.size ≤ (p2).toNatClampNeg) := inb_of S_c1 ⟨h1, h2⟩
  have hat8 : cl_c1.slots[(p2).toNatClampNeg]? = some (.int w) := by rw [H_c1 _ (Nat.lt_of_not_le fun y => hin8 (Or.inr y))]; exact congrArg some h3
  obtain ⟨fs, hr, hrun, hended, hW, hsame⟩ := X1.leave (v := some (.int (own_chr w))) (fun h => by rw [Bd.returns] at h; cases h)
  refine ⟨_, _, pre0 _ ?_, hrun, hended, _, _, rfl, ?_, ⟨_, rfl⟩, hW, hsame.mono (by decide) (by decide)⟩
  · refine sg0 _ ?_
    refine st1 _ ?_
    show Steps p.tables e below (T1.setTop (mkF m 6 #[.val (.ref a1), .val (.int p2)] [])) _
    refine XS.aloadN X1.here hx rfl (hb hby own_d21_6) rfl rfl ?_
    show Steps p.tables e below (T1.setTop (mkF m 7 #[.val (.ref a1), .val (.int p2)] [(.ref a1)])) _
    refine XS.iloadN X1.here hx rfl (hb hby own_d21_7) rfl ?_
    show Steps p.tables e below (T1.setTop (mkF m 8 #[.val (.ref a1), .val (.int p2)] [(.int p2), (.ref a1)])) _
    refine X1.baloadBytes hx (j := p2) (v := (.int w)) (by rw [e1]; exact Ar_c1.1) (State.isArrayOf_alike hZ.alike Ar_c1.2.1) Ar_c1.2.2 hin8 hat8 (g := (mkF m 8 #[.val (.ref a1), .val (.int p2)] [(.int p2), (.ref a1)])) rfl rfl (hb hby own_d21_8) _ ?_
    show Steps p.tables e below (T1.setTop (mkF m 9 #[.val (.ref a1), .val (.int p2)] [(.int w)])) _
    refine XT.sipushV X1.here hx rfl (255 : Int32) (hb hby own_d21_9) (by decide) ?_
    show Steps p.tables e below (T1.setTop (mkF m 12 #[.val (.ref a1), .val (.int p2)] [(.int (255 : Int32)), (.int w)])) _
    refine XS.iand X1.here hx rfl (hb hby own_d21_12) rfl ?_
    show Steps p.tables e below (T1.setTop (mkF m 13 #[.val (.ref a1), .val (.int p2)] [(.int (w &&& (255 : Int32)))])) _
    refine XT.i2c X1.here hx rfl (hb hby own_d21_13) rfl ?_
    show Steps p.tables e below (T1.setTop (mkF m 14 #[.val (.ref a1), .val (.int p2)] [(.int ((w &&& (255 : Int32)).toUInt32.toUInt16.toUInt32.toInt32))])) _
    exact retN X1 hx (t := .char) Bd.returns (by simp) (hb hby own_d21_14) (by rw [show nar .char ((w &&& (255 : Int32)).toUInt32.toUInt16.toUInt32.toInt32) = (own_chr w) from (XT_narc _)]; exact hr)
  · exact ⟨rfl, N1, e1⟩
theorem own_pd3 : parseMethodDescriptor "()Z" = some ⟨[], some .boolean⟩ := by decide +kernel
theorem own_pd4 : parseMethodDescriptor "([BI)C" = some ⟨[(.array .byte), .int], some .char⟩ := by decide +kernel
theorem own_d19_0 : decode jdk_42_method_56_code 0 = .ok (.aload_n 0, 1) := by decide +kernel
theorem own_d19_1 : decode jdk_42_method_56_code 1 = .ok (.invokevirtual 492, 3) := by decide +kernel
theorem own_d19_4 : decode jdk_42_method_56_code 4 = .ok (.ifCond .eq 12, 3) := by decide +kernel
theorem own_d19_7 : decode jdk_42_method_56_code 7 = .ok (.aload_n 0, 1) := by decide +kernel
theorem own_d19_8 : decode jdk_42_method_56_code 8 = .ok (.getfield 9, 3) := by decide +kernel
theorem own_d19_11 : decode jdk_42_method_56_code 11 = .ok (.iload_n 1, 1) := by decide +kernel
theorem own_d19_12 : decode jdk_42_method_56_code 12 = .ok (.invokestatic 495, 3) := by decide +kernel
theorem own_d19_15 : decode jdk_42_method_56_code 15 = .ok (.ireturn, 1) := by decide +kernel
theorem own_ef19 (m : MethodId) (a1 : Addr) (p2 : Int32)  : entryFrame m #[(.ref a1), (.int p2)] 2 = mkF m 0 #[.val (.ref a1), .val (.int p2)] [] := by first | (simp [entryFrame, mkF, argsToLocals, Value.category]; done) | rfl
def Q19 (Z : State) (a1 : Addr) (p2 : Int32) (t : Addr) (kb : ClassId) (z : Int32) (vs : List Value) (w : Int32) (h0 : Heap) (n0 : Nat) (v : Option Value) (h : Heap) (L : List Loc) : Prop := v = some (.int (own_chr w)) ∧ Fr n0 L ∧ h = h0
set_option maxRecDepth 65536 in
set_option maxHeartbeats 40000000 in
theorem rm19 (l : Launch) (Z : State) (a0 : Array Value) (hw : ∀ d ∈ tables_1, d.before a0 Z = true) (ws : List Jvm.Cond) (a1 : Addr) (p2 : Int32) (t : Addr) (kb : ClassId) (z : Int32) (vs : List Value) (w : Int32) (h0 : Heap) (n0 : Nat) (Z0 : n0 ≤ h0.size) (cz : Int32) (hcz : ¬ cz = 0) (O1 : Sta Z Z.heap "java/lang/String" "COMPACT_STRINGS" "Z" (.int cz)) (OL : Old Z Z.heap.size h0) (hnz : Z.heap.size ≤ n0) (fm : Value) (hfm : fm.isRef = true) (O2 : Sta Z Z.heap "jdk/internal/util/Preconditions" "SIOOBE_FORMATTER" "Ljava/util/function/BiFunction;" fm) (E_a1 : Exa Z h0 a1 "java/lang/String") (Fv : Fld Z h0 a1 "java/lang/String" "value" "[B" (.ref t))(Fc : Fld Z h0 a1 "java/lang/String" "coder" "B" (.int (0 : Int32))) (V_t : Arv Z h0 t kb .byte z vs (.int (0 : Int32))) (h1 : ¬ p2 < 0) (h2 : p2 < z) (h3 : vs.getD p2.toNatClampNeg (.int (0 : Int32)) = .int w) :
    MetFree l (⟨"java/lang/String", "charAt", "(I)C"⟩ : MethodName) (head1 (Jvm.Cond.code (⟨"java/lang/String", "charAt", "(I)C"⟩ : MethodName) jdk_42_method_56_code 2 (some .char) :: ws) ({ frames := 3, cells := 0, slots := 0, locals := 40 } : Room)) (fun a U => a = #[(.ref a1), (.int p2)] ∧ Z.Warmed39 U.vm ∧ U.heap = h0) (fun _ _ _ _ _ => True) (fun _ U o U' => ∃ v L, o = .returned v ∧ Q19 Z a1 p2 t kb z vs w h0 n0 v U'.heap L ∧ FrameEnd U o U' L ({ frames := 3, cells := 0, slots := 0, locals := 40 } : Room).cells ({ frames := 3, cells := 0, slots := 0, locals := 40 } : Room).slots) := by
  refine MetFree.of_bodySF (plainFor_of_name own_pn1) hisR ?_
  intro p e s m args below meth c s₁ Bd hml0 hP hK
  obtain ⟨rfl, hZ, hh⟩ := hP
  have hx := Bd.exec
  have hby := Bd.bytes
  have hml : c.maxLocals = 2 := hml0
  have hown : s.vm.findClass "java/lang/String" = some m.cls := findClass_of_methodNamed Bd.named
  have hnm := (name_of_methodNamed Bd.named Bd.method).1
  have X0 : Stand p l e ({ frames := 3, cells := 0, slots := 0, locals := 40 } : Room) s m #[(.ref a1), (.int p2)] below meth c s₁ [] 0 0 := Stand.of_body Bd
  have e0 : s₁.heap = h0 := by rw [← hh, Bd.state]; rfl
  have N0 := Fr.nil n0
  have pre0 : ∀ t, Steps p.tables e below (s₁.setTop (mkF m 0 #[.val (.ref a1), .val (.int p2)] [])) t → Steps p.tables e below (s₁.setTop (entryFrame m #[(.ref a1), (.int p2)] 2)) t := fun t k => castTop (own_ef19 m a1 p2 ) k
  have sg0 : ∀ tgt, Steps p.tables e below (s₁.setTop (mkF m 1 #[.val (.ref a1), .val (.int p2)] [(.ref a1)])) tgt → Steps p.tables e below (s₁.setTop (mkF m 0 #[.val (.ref a1), .val (.int p2)] [])) tgt := by
    intro tgt kk
    show Steps p.tables e below (s₁.setTop (mkF m 0 #[.val (.ref a1), .val (.int p2)] [])) _
    refine XS.aloadN X0.here hx rfl (hb hby own_d19_0) rfl rfl ?_
    exact kk
  obtain ⟨cq1, kq1, qa1, qb1, qc1⟩ := isOf hZ e0 E_a1
  obtain ⟨_, _, ⟨T1, L1, k1, n1⟩, -, X1, ⟨Lc1, hQ1, l1, y1, z1⟩, st1⟩ := X0.virtualBack hx (y := (⟨"java/lang/String", "isLatin1", "()Z"⟩ : MethodName)) (z := (⟨"java/lang/String", "isLatin1", "()Z"⟩ : MethodName)) hown (mvT hZ (hw _ (List.mem_of_getElem? (i := 113) rfl))) (mvT hZ (hw _ (List.mem_of_getElem? (i := 114) rfl))) (notFace_of_selects (args := #[]) (mvT hZ (hw _ (List.mem_of_getElem? (i := 116) rfl)))) (mvT hZ (hw _ (List.mem_of_getElem? (i := 116) rfl))) (mvT hZ (hw _ (List.mem_of_getElem? (i := 115) rfl))) (by decide) (backOf (W := 0) (rm20 l Z a0 hw [] a1  h0 n0 Z0 cz hcz O1 OL hnz Fc) hZ (hw _ (List.mem_of_getElem? (i := 117) rfl)) (hw _ (List.mem_of_getElem? (i := 22) rfl)) (by decide) (by decide)) qa1 qc1 (g := (mkF m 1 #[.val (.ref a1), .val (.int p2)] [(.ref a1)])) rfl (by rw [hml]; rfl) (Steps.refl _) (argsL := []) (rest := []) (lenOf own_pd3 rfl) rfl (by show 2 * 0 + _ ≤ _; exact Nat.le_of_eq rfl) (hb hby own_d19_1) (fun _ _ => ⟨rfl, e0, (by decide : 0 + 0 ≤ _), (by decide : 0 + 0 ≤ _)⟩)
  dsimp only [Pt.U, Pt.locs, Pt.cells, Pt.slots] at X1 l1 y1 z1 st1 hQ1
  subst l1 y1 z1
  obtain ⟨rfl, N1q, e1⟩ := hQ1
  have N1 := Fr.app N0 N1q
  have sg2 : ∀ tgt, Steps p.tables e below (T1.setTop (mkF m 8 #[.val (.ref a1), .val (.int p2)] [(.ref a1)])) tgt → Steps p.tables e below (T1.setTop (mkF m 4 #[.val (.ref a1), .val (.int p2)] [(.int (1 : Int32))])) tgt := by
    intro tgt kk
    show Steps p.tables e below (T1.setTop (mkF m 4 #[.val (.ref a1), .val (.int p2)] [(.int (1 : Int32))])) _
    refine XS.ifNo X1.here hx rfl (hb hby own_d19_4) rfl (XT.i0_eq_f (by decide)) ?_
    show Steps p.tables e below (T1.setTop (mkF m 7 #[.val (.ref a1), .val (.int p2)] [])) _
    refine XS.aloadN X1.here hx rfl (hb hby own_d19_7) rfl rfl ?_
    exact kk
  obtain ⟨T2, X2, e2, st2⟩ := getF X1 hx hZ hown (host := "") (Or.inl (hw _ (List.mem_of_getElem? (i := 78) rfl))) Via.refl e1 Fv (g := (mkF m 8 #[.val (.ref a1), .val (.int p2)] [(.ref a1)])) rfl rfl (hb hby own_d19_8)
  have sg4 : ∀ tgt, Steps p.tables e below (T2.setTop (mkF m 12 #[.val (.ref a1), .val (.int p2)] [(.int p2), (.ref t)])) tgt → Steps p.tables e below (T2.setTop (mkF m 11 #[.val (.ref a1), .val (.int p2)] [(.ref t)])) tgt := by
    intro tgt kk
    show Steps p.tables e below (T2.setTop (mkF m 11 #[.val (.ref a1), .val (.int p2)] [(.ref t)])) _
    refine XS.iloadN X2.here hx rfl (hb hby own_d19_11) rfl ?_
    exact kk
  -- pc 12: java/lang/StringLatin1.charAt
  obtain ⟨_, _, ⟨T3, L3, k3, n3⟩, -, X3, ⟨Lc3, hQ3, l3, y3, z3⟩, st3⟩ := Jvm.LawKit.callS X2 hx (y := (⟨"java/lang/StringLatin1", "charAt", "([BI)C"⟩ : MethodName)) hown (mvT hZ (hw _ (List.mem_of_getElem? (i := 118) rfl))) (mvT hZ (hw _ (List.mem_of_getElem? (i := 119) rfl))) (mvT hZ (hw _ (List.mem_of_getElem? (i := 120) rfl))) (mvT hZ (hw _ (List.mem_of_getElem? (i := 121) rfl))) (by decide) (backOf (W := 0) (rm21 l Z a0 hw [] t p2 kb z vs w h0 n0 Z0 cz hcz O1 OL hnz fm hfm O2 V_t h1 h2 h3) hZ (hw _ (List.mem_of_getElem? (i := 121) rfl)) (hw _ (List.mem_of_getElem? (i := 120) rfl)) (by decide) (by decide)) (g := (mkF m 12 #[.val (.ref a1), .val (.int p2)] [(.int p2), (.ref t)])) rfl (by rw [hml]; rfl) (argsL := [(.ref t), (.int p2)]) (rest := []) (lenOf own_pd4 rfl) rfl (by show 2 * 0 + _ ≤ _; exact Nat.le_of_eq rfl) (hb hby own_d19_12) (fun _ _ => ⟨rfl, e2, (by decide : 0 + 0 ≤ _), (by decide : 0 + 0 ≤ _)⟩)
  dsimp only [Pt.U, Pt.locs, Pt.cells, Pt.slots] at X3 l3 y3 z3 st3 hQ3
  subst l3 y3 z3
  obtain ⟨rfl, N3q, e3⟩ := hQ3
  have N3 := Fr.app N1 N3q
  obtain ⟨fs, hr, hrun, hended, hW, hsame⟩ := X3.leave (v := some (.int (own_chr w))) (fun h => by rw [Bd.returns] at h; cases h)
  refine ⟨_, _, pre0 _ ?_, hrun, hended, _, _, rfl, ?_, ⟨_, rfl⟩, hW, hsame.mono (by decide) (by decide)⟩
  · refine sg0 _ ?_
    refine st1.trans ?_
    refine sg2 _ ?_
    refine st2 _ ?_
    refine sg4 _ ?_
    refine st3 _ ?_
    show Steps p.tables e below (T3.setTop (mkF m 15 #[.val (.ref a1), .val (.int p2)] [(.int (own_chr w))])) _
    exact retN X3 hx (t := .char) Bd.returns (by simp) (hb hby own_d19_15) (by rw [show nar .char (own_chr w) = (own_chr w) from (XT_narc _)]; exact hr)
  · exact ⟨rfl, N3, e3⟩
theorem own_pd5 : parseMethodDescriptor "()B" = some ⟨[], some .byte⟩ := by decide +kernel
theorem own_d15_0 : decode jdk_42_method_54_code 0 = .ok (.aload_n 0, 1) := by decide +kernel
theorem own_d15_1 : decode jdk_42_method_54_code 1 = .ok (.getfield 9, 3) := by decide +kernel
theorem own_d15_4 : decode jdk_42_method_54_code 4 = .ok (.arraylength, 1) := by decide +kernel
theorem own_d15_5 : decode jdk_42_method_54_code 5 = .ok (.aload_n 0, 1) := by decide +kernel
theorem own_d15_6 : decode jdk_42_method_54_code 6 = .ok (.invokevirtual 335, 3) := by decide +kernel
theorem own_d15_9 : decode jdk_42_method_54_code 9 = .ok (.ishr, 1) := by decide +kernel
theorem own_d15_10 : decode jdk_42_method_54_code 10 = .ok (.ireturn, 1) := by decide +kernel
theorem own_ef15 (m : MethodId) (a1 : Addr)  : entryFrame m #[(.ref a1)] 1 = mkF m 0 #[.val (.ref a1)] [] := by first | (simp [entryFrame, mkF, argsToLocals, Value.category]; done) | rfl
def Q15 (Z : State) (a1 : Addr) (t : Addr) (kb : ClassId) (z : Int32) (vs : List Value) (h0 : Heap) (n0 : Nat) (v : Option Value) (h : Heap) (L : List Loc) : Prop := v = some (.int (z)) ∧ Fr n0 L ∧ h = h0
set_option maxRecDepth 65536 in
set_option maxHeartbeats 40000000 in
theorem rm15 (l : Launch) (Z : State) (a0 : Array Value) (hw : ∀ d ∈ tables_1, d.before a0 Z = true) (ws : List Jvm.Cond) (a1 : Addr) (t : Addr) (kb : ClassId) (z : Int32) (vs : List Value) (h0 : Heap) (n0 : Nat) (Z0 : n0 ≤ h0.size) (cz : Int32) (hcz : ¬ cz = 0) (O1 : Sta Z Z.heap "java/lang/String" "COMPACT_STRINGS" "Z" (.int cz)) (OL : Old Z Z.heap.size h0) (hnz : Z.heap.size ≤ n0) (E_a1 : Exa Z h0 a1 "java/lang/String") (Fv : Fld Z h0 a1 "java/lang/String" "value" "[B" (.ref t))(Fc : Fld Z h0 a1 "java/lang/String" "coder" "B" (.int (0 : Int32))) (V_t : Arv Z h0 t kb .byte z vs (.int (0 : Int32))) :
    MetFree l (⟨"java/lang/String", "length", "()I"⟩ : MethodName) (head1 (Jvm.Cond.code (⟨"java/lang/String", "length", "()I"⟩ : MethodName) jdk_42_method_54_code 1 (some .int) :: ws) ({ frames := 1, cells := 0, slots := 0, locals := 13 } : Room)) (fun a U => a = #[(.ref a1)] ∧ Z.Warmed39 U.vm ∧ U.heap = h0) (fun _ _ _ _ _ => True) (fun _ U o U' => ∃ v L, o = .returned v ∧ Q15 Z a1 t kb z vs h0 n0 v U'.heap L ∧ FrameEnd U o U' L ({ frames := 1, cells := 0, slots := 0, locals := 13 } : Room).cells ({ frames := 1, cells := 0, slots := 0, locals := 13 } : Room).slots) := by
  refine MetFree.of_bodySF (plainFor_of_name own_pn1) hisR ?_
  intro p e s m args below meth c s₁ Bd hml0 hP hK
  obtain ⟨rfl, hZ, hh⟩ := hP
  have hx := Bd.exec
  have hby := Bd.bytes
  have hml : c.maxLocals = 1 := hml0
  have hown : s.vm.findClass "java/lang/String" = some m.cls := findClass_of_methodNamed Bd.named
  have hnm := (name_of_methodNamed Bd.named Bd.method).1
  have X0 : Stand p l e ({ frames := 1, cells := 0, slots := 0, locals := 13 } : Room) s m #[(.ref a1)] below meth c s₁ [] 0 0 := Stand.of_body Bd
  have e0 : s₁.heap = h0 := by rw [← hh, Bd.state]; rfl
  have N0 := Fr.nil n0
  have pre0 : ∀ t, Steps p.tables e below (s₁.setTop (mkF m 0 #[.val (.ref a1)] [])) t → Steps p.tables e below (s₁.setTop (entryFrame m #[(.ref a1)] 1)) t := fun t k => castTop (own_ef15 m a1 ) k
  have sg0 : ∀ tgt, Steps p.tables e below (s₁.setTop (mkF m 1 #[.val (.ref a1)] [(.ref a1)])) tgt → Steps p.tables e below (s₁.setTop (mkF m 0 #[.val (.ref a1)] [])) tgt := by
    intro tgt kk
    show Steps p.tables e below (s₁.setTop (mkF m 0 #[.val (.ref a1)] [])) _
    refine XS.aloadN X0.here hx rfl (hb hby own_d15_0) rfl rfl ?_
    exact kk
  obtain ⟨T1, X1, e1, st1⟩ := getF X0 hx hZ hown (host := "") (Or.inl (hw _ (List.mem_of_getElem? (i := 78) rfl))) Via.refl e0 Fv (g := (mkF m 1 #[.val (.ref a1)] [(.ref a1)])) rfl rfl (hb hby own_d15_1)
  obtain ⟨cl_c1, Ar_c1, q_c1, S_c1, N_c1, H_c1, G_c1⟩ := id V_t
  have sg2 : ∀ tgt, Steps p.tables e below (T1.setTop (mkF m 6 #[.val (.ref a1)] [(.ref a1), (.int z)])) tgt → Steps p.tables e below (T1.setTop (mkF m 4 #[.val (.ref a1)] [(.ref t)])) tgt := by
    intro tgt kk
    show Steps p.tables e below (T1.setTop (mkF m 4 #[.val (.ref a1)] [(.ref t)])) _
    refine X1.arraylength hx (by rw [e1]; exact Ar_c1.1) (State.isArrayOf_alike hZ.alike Ar_c1.2.1) (g := (mkF m 4 #[.val (.ref a1)] [(.ref t)])) rfl rfl (hb hby own_d15_4) _ ?_
    rw [len_of S_c1 N_c1]
    show Steps p.tables e below (T1.setTop (mkF m 5 #[.val (.ref a1)] [(.int z)])) _
    refine XS.aloadN X1.here hx rfl (hb hby own_d15_5) rfl rfl ?_
    exact kk
  obtain ⟨cq2, kq2, qa2, qb2, qc2⟩ := isOf hZ e1 E_a1
  obtain ⟨_, _, ⟨T2, L2, k2, n2⟩, -, X2, ⟨Lc2, hQ2, l2, y2, z2⟩, st2⟩ := X1.virtualBack hx (y := (⟨"java/lang/String", "coder", "()B"⟩ : MethodName)) (z := (⟨"java/lang/String", "coder", "()B"⟩ : MethodName)) hown (mvT hZ (hw _ (List.mem_of_getElem? (i := 92) rfl))) (mvT hZ (hw _ (List.mem_of_getElem? (i := 93) rfl))) (notFace_of_selects (args := #[]) (mvT hZ (hw _ (List.mem_of_getElem? (i := 95) rfl)))) (mvT hZ (hw _ (List.mem_of_getElem? (i := 95) rfl))) (mvT hZ (hw _ (List.mem_of_getElem? (i := 94) rfl))) (by decide) (backOf (W := 1) (rm16 l Z a0 hw [] a1  h0 n0 Z0 cz hcz O1 OL hnz Fc) hZ (hw _ (List.mem_of_getElem? (i := 96) rfl)) (hw _ (List.mem_of_getElem? (i := 22) rfl)) (by decide) (by decide)) qa2 qc2 (g := (mkF m 6 #[.val (.ref a1)] [(.ref a1), (.int z)])) rfl (by rw [hml]; rfl) (Steps.refl _) (argsL := []) (rest := [(.int z)]) (lenOf own_pd5 rfl) rfl (by show 2 * 0 + _ ≤ _; exact Nat.le_of_eq rfl) (hb hby own_d15_6) (fun _ _ => ⟨rfl, e1, (by decide : 0 + 0 ≤ _), (by decide : 0 + 0 ≤ _)⟩)
  dsimp only [Pt.U, Pt.locs, Pt.cells, Pt.slots] at X2 l2 y2 z2 st2 hQ2
  subst l2 y2 z2
  obtain ⟨rfl, N2q, e2⟩ := hQ2
  have N2 := Fr.app N0 N2q
  obtain ⟨fs, hr, hrun, hended, hW, hsame⟩ := X2.leave (v := some (.int z)) (fun h => by rw [Bd.returns] at h; cases h)
  refine ⟨_, _, pre0 _ ?_, hrun, hended, _, _, rfl, ?_, ⟨_, rfl⟩, hW, hsame.mono (by decide) (by decide)⟩
  · refine sg0 _ ?_
    refine st1 _ ?_
    refine sg2 _ ?_
    refine st2.trans ?_
    show Steps p.tables e below (T2.setTop (mkF m 9 #[.val (.ref a1)] [(.int (0 : Int32)), (.int z)])) _
    refine XT.ishr X2.here hx rfl (hb hby own_d15_9) rfl ?_
    show Steps p.tables e below (T2.setTop (mkF m 10 #[.val (.ref a1)] [(.int (z >>> ((0 : Int32) &&& 31)))])) _
    exact retI X2 hx Bd.returns (hb hby own_d15_10) (by rw [show (z >>> ((0 : Int32) &&& 31)) = z from (own_shr0 z)]; exact hr)
  · exact ⟨rfl, N2, e2⟩
theorem own_pd6 : parseMethodDescriptor "(I)V" = some ⟨[.int], none⟩ := by decide +kernel
theorem own_pd7 : parseMethodDescriptor "(C)Z" = some ⟨[.char], some .boolean⟩ := by decide +kernel
theorem own_d25_0 : decode jdk_68_method_31_code 0 = .ok (.aload_n 0, 1) := by decide +kernel
theorem own_d25_1 : decode jdk_68_method_31_code 1 = .ok (.aload_n 0, 1) := by decide +kernel
theorem own_d25_2 : decode jdk_68_method_31_code 2 = .ok (.getfield 79, 3) := by decide +kernel
theorem own_d25_5 : decode jdk_68_method_31_code 5 = .ok (.iconst 1, 1) := by decide +kernel
theorem own_d25_6 : decode jdk_68_method_31_code 6 = .ok (.iadd, 1) := by decide +kernel
theorem own_d25_7 : decode jdk_68_method_31_code 7 = .ok (.invokevirtual 100, 3) := by decide +kernel
theorem own_d25_10 : decode jdk_68_method_31_code 10 = .ok (.aload_n 0, 1) := by decide +kernel
theorem own_d25_11 : decode jdk_68_method_31_code 11 = .ok (.invokevirtual 83, 3) := by decide +kernel
theorem own_d25_14 : decode jdk_68_method_31_code 14 = .ok (.ifCond .eq 31, 3) := by decide +kernel
theorem own_d25_17 : decode jdk_68_method_31_code 17 = .ok (.iload_n 1, 1) := by decide +kernel
theorem own_d25_18 : decode jdk_68_method_31_code 18 = .ok (.invokestatic 191, 3) := by decide +kernel
theorem own_d25_21 : decode jdk_68_method_31_code 21 = .ok (.ifCond .eq 24, 3) := by decide +kernel
theorem own_d25_24 : decode jdk_68_method_31_code 24 = .ok (.aload_n 0, 1) := by decide +kernel
theorem own_d25_25 : decode jdk_68_method_31_code 25 = .ok (.getfield 15, 3) := by decide +kernel
theorem own_d25_28 : decode jdk_68_method_31_code 28 = .ok (.aload_n 0, 1) := by decide +kernel
theorem own_d25_29 : decode jdk_68_method_31_code 29 = .ok (.dup, 1) := by decide +kernel
theorem own_d25_30 : decode jdk_68_method_31_code 30 = .ok (.getfield 79, 3) := by decide +kernel
theorem own_d25_33 : decode jdk_68_method_31_code 33 = .ok (.dup_x1, 1) := by decide +kernel
theorem own_d25_34 : decode jdk_68_method_31_code 34 = .ok (.iconst 1, 1) := by decide +kernel
theorem own_d25_35 : decode jdk_68_method_31_code 35 = .ok (.iadd, 1) := by decide +kernel
theorem own_d25_36 : decode jdk_68_method_31_code 36 = .ok (.putfield 79, 3) := by decide +kernel
theorem own_d25_39 : decode jdk_68_method_31_code 39 = .ok (.iload_n 1, 1) := by decide +kernel
theorem own_d25_40 : decode jdk_68_method_31_code 40 = .ok (.i2b, 1) := by decide +kernel
theorem own_d25_41 : decode jdk_68_method_31_code 41 = .ok (.bastore, 1) := by decide +kernel
theorem own_d25_42 : decode jdk_68_method_31_code 42 = .ok (.goto 33, 3) := by decide +kernel
theorem own_d25_75 : decode jdk_68_method_31_code 75 = .ok (.aload_n 0, 1) := by decide +kernel
theorem own_d25_76 : decode jdk_68_method_31_code 76 = .ok (.areturn, 1) := by decide +kernel
theorem own_ef25 (m : MethodId) (a1 : Addr) (p2 : Int32)  : entryFrame m #[(.ref a1), (.int p2)] 2 = mkF m 0 #[.val (.ref a1), .val (.int p2)] [] := by first | (simp [entryFrame, mkF, argsToLocals, Value.category]; done) | rfl
def Q25 (Z : State) (a1 : Addr) (p2 : Int32) (t : Addr) (kb : ClassId) (N : Nat) (vs : List Value) (h0 : Heap) (n0 : Nat) (v : Option Value) (h : Heap) (L : List Loc) : Prop := v = some (.ref a1) ∧ Fr n0 L ∧ Keep h0 h [a1, t] ∧ own_bld Z h a1 t kb N (vs ++ [.int p2])
set_option maxRecDepth 65536 in
set_option maxHeartbeats 40000000 in
theorem rm25 (l : Launch) (Z : State) (a0 : Array Value) (hw : ∀ d ∈ tables_1, d.before a0 Z = true) (ws : List Jvm.Cond) (a1 : Addr) (p2 : Int32) (t : Addr) (kb : ClassId) (N : Nat) (vs : List Value) (h0 : Heap) (n0 : Nat) (Z0 : n0 ≤ h0.size) (cz : Int32) (hcz : ¬ cz = 0) (O1 : Sta Z Z.heap "java/lang/String" "COMPACT_STRINGS" "Z" (.int cz)) (OL : Old Z Z.heap.size h0) (hnz : Z.heap.size ≤ n0) (BD : own_bld Z h0 a1 t kb N vs) (g_a1 : n0 ≤ a1) (g_t : n0 ≤ t) (hN : N ≤ 16) (hl : vs.length < N) (h255 : ¬ (255 : Int32) < p2) (hp8 : p2.toInt8.toInt32 = p2)  :
    MetFree l (⟨"java/lang/AbstractStringBuilder", "append", "(C)Ljava/lang/AbstractStringBuilder;"⟩ : MethodName) (head1 (Jvm.Cond.code (⟨"java/lang/AbstractStringBuilder", "append", "(C)Ljava/lang/AbstractStringBuilder;"⟩ : MethodName) jdk_68_method_31_code 2 (some (.object "java/lang/AbstractStringBuilder")) :: ws) ({ frames := 1, cells := 0, slots := 0, locals := 15 } : Room)) (fun a U => a = #[(.ref a1), (.int p2)] ∧ Z.Warmed39 U.vm ∧ U.heap = h0) (fun _ _ _ _ _ => True) (fun _ U o U' => ∃ v L, o = .returned v ∧ Q25 Z a1 p2 t kb N vs h0 n0 v U'.heap L ∧ FrameEnd U o U' L ({ frames := 1, cells := 0, slots := 0, locals := 15 } : Room).cells ({ frames := 1, cells := 0, slots := 0, locals := 15 } : Room).slots) := by
  refine MetFree.of_bodySF (plainFor_of_name own_pn0) hisR ?_
  intro p e s m args below meth c s₁ Bd hml0 hP hK
  obtain ⟨rfl, hZ, hh⟩ := hP
  have hx := Bd.exec
  have hby := Bd.bytes
  have hml : c.maxLocals = 2 := hml0
  have hown : s.vm.findClass "java/lang/AbstractStringBuilder" = some m.cls := findClass_of_methodNamed Bd.named
  have hnm := (name_of_methodNamed Bd.named Bd.method).1
  have X0 : Stand p l e ({ frames := 1, cells := 0, slots := 0, locals := 15 } : Room) s m #[(.ref a1), (.int p2)] below meth c s₁ [] 0 0 := Stand.of_body Bd
  have e0 : s₁.heap = h0 := by rw [← hh, Bd.state]; rfl
  have N0 := Fr.nil n0
  have pre0 : ∀ t, Steps p.tables e below (s₁.setTop (mkF m 0 #[.val (.ref a1), .val (.int p2)] [])) t → Steps p.tables e below (s₁.setTop (entryFrame m #[(.ref a1), (.int p2)] 2)) t := fun t k => castTop (own_ef25 m a1 p2 ) k
  obtain ⟨E_a1, Fv, Fc, Fn, V_t, E_t⟩ := BD
  have sg0 : ∀ tgt, Steps p.tables e below (s₁.setTop (mkF m 2 #[.val (.ref a1), .val (.int p2)] [(.ref a1), (.ref a1)])) tgt → Steps p.tables e below (s₁.setTop (mkF m 0 #[.val (.ref a1), .val (.int p2)] [])) tgt := by
    intro tgt kk
    show Steps p.tables e below (s₁.setTop (mkF m 0 #[.val (.ref a1), .val (.int p2)] [])) _
    refine XS.aloadN X0.here hx rfl (hb hby own_d25_0) rfl rfl ?_
    show Steps p.tables e below (s₁.setTop (mkF m 1 #[.val (.ref a1), .val (.int p2)] [(.ref a1)])) _
    refine XS.aloadN X0.here hx rfl (hb hby own_d25_1) rfl rfl ?_
    exact kk
  obtain ⟨T1, X1, e1, st1⟩ := getF X0 hx hZ hown (host := "") (Or.inl (hw _ (List.mem_of_getElem? (i := 56) rfl))) Via.refl e0 Fn (g := (mkF m 2 #[.val (.ref a1), .val (.int p2)] [(.ref a1), (.ref a1)])) rfl rfl (hb hby own_d25_2)
  have sg2 : ∀ tgt, Steps p.tables e below (T1.setTop (mkF m 7 #[.val (.ref a1), .val (.int p2)] [(.int ((Int32.ofNat vs.length) + (1 : Int32))), (.ref a1)])) tgt → Steps p.tables e below (T1.setTop (mkF m 5 #[.val (.ref a1), .val (.int p2)] [(.int (Int32.ofNat vs.length)), (.ref a1)])) tgt := by
    intro tgt kk
    show Steps p.tables e below (T1.setTop (mkF m 5 #[.val (.ref a1), .val (.int p2)] [(.int (Int32.ofNat vs.length)), (.ref a1)])) _
    refine XT.iconstV X1.here hx rfl (1 : Int32) (hb hby own_d25_5) (by decide) ?_
    show Steps p.tables e below (T1.setTop (mkF m 6 #[.val (.ref a1), .val (.int p2)] [(.int (1 : Int32)), (.int (Int32.ofNat vs.length)), (.ref a1)])) _
    refine XS.iadd X1.here hx rfl (hb hby own_d25_6) rfl ?_
    exact kk
  obtain ⟨cq2, kq2, qa2, qb2, qc2⟩ := isOf hZ e1 E_a1
  obtain ⟨_, _, ⟨T2, L2, k2, n2⟩, -, X2, ⟨Lc2, hQ2, l2, y2, z2⟩, st2⟩ := X1.virtualBack hx (y := (⟨"java/lang/AbstractStringBuilder", "ensureCapacityInternal", "(I)V"⟩ : MethodName)) (z := (⟨"java/lang/AbstractStringBuilder", "ensureCapacityInternal", "(I)V"⟩ : MethodName)) hown (mvT hZ (hw _ (List.mem_of_getElem? (i := 139) rfl))) (mvT hZ (own_decl (hw _ (List.mem_of_getElem? (i := 140) rfl)) (hw _ (List.mem_of_getElem? (i := 143) rfl)))) (notFace_of_selects (args := #[]) (mvT hZ (hw _ (List.mem_of_getElem? (i := 142) rfl)))) (mvT hZ (hw _ (List.mem_of_getElem? (i := 142) rfl))) (mvT hZ (hw _ (List.mem_of_getElem? (i := 140) rfl))) (by decide) (backOf (W := 0) (rm26 l Z a0 hw [] a1 ((Int32.ofNat vs.length) + (1 : Int32)) t kb (Int32.ofNat N) vs h0 n0 Z0 Fv Fc V_t (own_capN hl hN)) hZ (hw _ (List.mem_of_getElem? (i := 143) rfl)) (hw _ (List.mem_of_getElem? (i := 16) rfl)) (by decide) (by decide)) qa2 qc2 (g := (mkF m 7 #[.val (.ref a1), .val (.int p2)] [(.int ((Int32.ofNat vs.length) + (1 : Int32))), (.ref a1)])) rfl (by rw [hml]; rfl) (Steps.refl _) (argsL := [(.int ((Int32.ofNat vs.length) + (1 : Int32)))]) (rest := []) (lenOf own_pd6 rfl) rfl (by show 2 * 0 + _ ≤ _; exact Nat.le_of_eq rfl) (hb hby own_d25_7) (fun _ _ => ⟨rfl, e1, (by decide : 0 + 0 ≤ _), (by decide : 0 + 0 ≤ _)⟩)
  dsimp only [Pt.U, Pt.locs, Pt.cells, Pt.slots] at X2 l2 y2 z2 st2 hQ2
  subst l2 y2 z2
  obtain ⟨rfl, N2q, e2⟩ := hQ2
  have N2 := Fr.app N0 N2q
  have sg4 : ∀ tgt, Steps p.tables e below (T2.setTop (mkF m 11 #[.val (.ref a1), .val (.int p2)] [(.ref a1)])) tgt → Steps p.tables e below (T2.setTop (mkF m 10 #[.val (.ref a1), .val (.int p2)] [])) tgt := by
    intro tgt kk
    show Steps p.tables e below (T2.setTop (mkF m 10 #[.val (.ref a1), .val (.int p2)] [])) _
    refine XS.aloadN X2.here hx rfl (hb hby own_d25_10) rfl rfl ?_
    exact kk
  obtain ⟨cq3, kq3, qa3, qb3, qc3⟩ := isOf hZ e2 E_a1
  obtain ⟨_, _, ⟨T3, L3, k3, n3⟩, -, X3, ⟨Lc3, hQ3, l3, y3, z3⟩, st3⟩ := X2.virtualBack hx (y := (⟨"java/lang/AbstractStringBuilder", "isLatin1", "()Z"⟩ : MethodName)) (z := (⟨"java/lang/AbstractStringBuilder", "isLatin1", "()Z"⟩ : MethodName)) hown (mvT hZ (hw _ (List.mem_of_getElem? (i := 144) rfl))) (mvT hZ (hw _ (List.mem_of_getElem? (i := 59) rfl))) (notFace_of_selects (args := #[]) (mvT hZ (hw _ (List.mem_of_getElem? (i := 61) rfl)))) (mvT hZ (hw _ (List.mem_of_getElem? (i := 61) rfl))) (mvT hZ (hw _ (List.mem_of_getElem? (i := 60) rfl))) (by decide) (backOf (W := 0) (rm11 l Z a0 hw [] a1  h0 n0 Z0 cz hcz O1 OL hnz Fc) hZ (hw _ (List.mem_of_getElem? (i := 62) rfl)) (hw _ (List.mem_of_getElem? (i := 16) rfl)) (by decide) (by decide)) qa3 qc3 (g := (mkF m 11 #[.val (.ref a1), .val (.int p2)] [(.ref a1)])) rfl (by rw [hml]; rfl) (Steps.refl _) (argsL := []) (rest := []) (lenOf own_pd3 rfl) rfl (by show 2 * 0 + _ ≤ _; exact Nat.le_of_eq rfl) (hb hby own_d25_11) (fun _ _ => ⟨rfl, e2, (by decide : 0 + 0 ≤ _), (by decide : 0 + 0 ≤ _)⟩)
  dsimp only [Pt.U, Pt.locs, Pt.cells, Pt.slots] at X3 l3 y3 z3 st3 hQ3
  subst l3 y3 z3
  obtain ⟨rfl, N3q, e3⟩ := hQ3
  have N3 := Fr.app N2 N3q
  have sg6 : ∀ tgt, Steps p.tables e below (T3.setTop (mkF m 18 #[.val (.ref a1), .val (.int p2)] [(.int p2)])) tgt → Steps p.tables e below (T3.setTop (mkF m 14 #[.val (.ref a1), .val (.int p2)] [(.int (1 : Int32))])) tgt := by
    intro tgt kk
    show Steps p.tables e below (T3.setTop (mkF m 14 #[.val (.ref a1), .val (.int p2)] [(.int (1 : Int32))])) _
    refine XS.ifNo X3.here hx rfl (hb hby own_d25_14) rfl (XT.i0_eq_f (by decide)) ?_
    show Steps p.tables e below (T3.setTop (mkF m 17 #[.val (.ref a1), .val (.int p2)] [])) _
    refine XS.iloadN X3.here hx rfl (hb hby own_d25_17) rfl ?_
    exact kk
  -- pc 18: java/lang/StringLatin1.canEncode
  obtain ⟨_, _, ⟨T4, L4, k4, n4⟩, -, X4, ⟨Lc4, hQ4, l4, y4, z4⟩, st4⟩ := Jvm.LawKit.callS X3 hx (y := (⟨"java/lang/StringLatin1", "canEncode", "(C)Z"⟩ : MethodName)) hown (mvT hZ (hw _ (List.mem_of_getElem? (i := 145) rfl))) (mvT hZ (hw _ (List.mem_of_getElem? (i := 146) rfl))) (mvT hZ (hw _ (List.mem_of_getElem? (i := 120) rfl))) (mvT hZ (hw _ (List.mem_of_getElem? (i := 147) rfl))) (by decide) (backOf (W := 0) (rm27 l Z a0 hw [] p2  h0 n0 Z0 h255) hZ (hw _ (List.mem_of_getElem? (i := 147) rfl)) (hw _ (List.mem_of_getElem? (i := 120) rfl)) (by decide) (by decide)) (g := (mkF m 18 #[.val (.ref a1), .val (.int p2)] [(.int p2)])) rfl (by rw [hml]; rfl) (argsL := [(.int p2)]) (rest := []) (lenOf own_pd7 rfl) rfl (by show 2 * 0 + _ ≤ _; exact Nat.le_of_eq rfl) (hb hby own_d25_18) (fun _ _ => ⟨rfl, e3, (by decide : 0 + 0 ≤ _), (by decide : 0 + 0 ≤ _)⟩)
  dsimp only [Pt.U, Pt.locs, Pt.cells, Pt.slots] at X4 l4 y4 z4 st4 hQ4
  subst l4 y4 z4
  obtain ⟨rfl, N4q, e4⟩ := hQ4
  have N4 := Fr.app N3 N4q
  have sg8 : ∀ tgt, Steps p.tables e below (T4.setTop (mkF m 25 #[.val (.ref a1), .val (.int p2)] [(.ref a1)])) tgt → Steps p.tables e below (T4.setTop (mkF m 21 #[.val (.ref a1), .val (.int p2)] [(.int (1 : Int32))])) tgt := by
    intro tgt kk
    show Steps p.tables e below (T4.setTop (mkF m 21 #[.val (.ref a1), .val (.int p2)] [(.int (1 : Int32))])) _
    refine XS.ifNo X4.here hx rfl (hb hby own_d25_21) rfl (XT.i0_eq_f (by decide)) ?_
    show Steps p.tables e below (T4.setTop (mkF m 24 #[.val (.ref a1), .val (.int p2)] [])) _
    refine XS.aloadN X4.here hx rfl (hb hby own_d25_24) rfl rfl ?_
    exact kk
  obtain ⟨T5, X5, e5, st5⟩ := getF X4 hx hZ hown (host := "") (Or.inl (hw _ (List.mem_of_getElem? (i := 23) rfl))) Via.refl e4 Fv (g := (mkF m 25 #[.val (.ref a1), .val (.int p2)] [(.ref a1)])) rfl rfl (hb hby own_d25_25)
  have sg10 : ∀ tgt, Steps p.tables e below (T5.setTop (mkF m 30 #[.val (.ref a1), .val (.int p2)] [(.ref a1), (.ref a1), (.ref t)])) tgt → Steps p.tables e below (T5.setTop (mkF m 28 #[.val (.ref a1), .val (.int p2)] [(.ref t)])) tgt := by
    intro tgt kk
    show Steps p.tables e below (T5.setTop (mkF m 28 #[.val (.ref a1), .val (.int p2)] [(.ref t)])) _
    refine XS.aloadN X5.here hx rfl (hb hby own_d25_28) rfl rfl ?_
    show Steps p.tables e below (T5.setTop (mkF m 29 #[.val (.ref a1), .val (.int p2)] [(.ref a1), (.ref t)])) _
    refine XS.dup X5.here hx rfl (hb hby own_d25_29) rfl rfl ?_
    exact kk
  obtain ⟨T6, X6, e6, st6⟩ := getF X5 hx hZ hown (host := "") (Or.inl (hw _ (List.mem_of_getElem? (i := 56) rfl))) Via.refl e5 Fn (g := (mkF m 30 #[.val (.ref a1), .val (.int p2)] [(.ref a1), (.ref a1), (.ref t)])) rfl rfl (hb hby own_d25_30)
  have sg12 : ∀ tgt, Steps p.tables e below (T6.setTop (mkF m 36 #[.val (.ref a1), .val (.int p2)] [(.int ((Int32.ofNat vs.length) + (1 : Int32))), (.ref a1), (.int (Int32.ofNat vs.length)), (.ref t)])) tgt → Steps p.tables e below (T6.setTop (mkF m 33 #[.val (.ref a1), .val (.int p2)] [(.int (Int32.ofNat vs.length)), (.ref a1), (.ref t)])) tgt := by
    intro tgt kk
    show Steps p.tables e below (T6.setTop (mkF m 33 #[.val (.ref a1), .val (.int p2)] [(.int (Int32.ofNat vs.length)), (.ref a1), (.ref t)])) _
    refine XS.dupX1 X6.here hx rfl (hb hby own_d25_33) rfl rfl rfl ?_
    show Steps p.tables e below (T6.setTop (mkF m 34 #[.val (.ref a1), .val (.int p2)] [(.int (Int32.ofNat vs.length)), (.ref a1), (.int (Int32.ofNat vs.length)), (.ref t)])) _
    refine XT.iconstV X6.here hx rfl (1 : Int32) (hb hby own_d25_34) (by decide) ?_
    show Steps p.tables e below (T6.setTop (mkF m 35 #[.val (.ref a1), .val (.int p2)] [(.int (1 : Int32)), (.int (Int32.ofNat vs.length)), (.ref a1), (.int (Int32.ofNat vs.length)), (.ref t)])) _
    refine XS.iadd X6.here hx rfl (hb hby own_d25_35) rfl ?_
    exact kk
  obtain ⟨T7, h7, X7, e7, W7, st7⟩ := putF X6 hx hZ hown (host := "") (Or.inl (hw _ (List.mem_of_getElem? (i := 56) rfl))) Via.refl e6 Fn E_a1 (Or.inl (hw _ (List.mem_of_getElem? (i := 57) rfl))) (hw _ (List.mem_of_getElem? (i := 7) rfl)) (ty := .int) (by decide) rfl rfl (g := (mkF m 36 #[.val (.ref a1), .val (.int p2)] [(.int ((Int32.ofNat vs.length) + (1 : Int32))), (.ref a1), (.int (Int32.ofNat vs.length)), (.ref t)])) rfl rfl (hb hby own_d25_36)
  have N7 := Fr.snoc X7 N4 g_a1
  have K7 : Keep h0 h7 [a1, t] := (Keep.refl h0 [a1, t]).wr W7 (Or.inl (List.mem_of_getElem? (i := 0) rfl))
  have Z_1 : n0 ≤ h7.size := Nat.le_trans Z0 (Keep.of_wr W7).1
  have E_2 := Exa.wr W7 E_a1
  have E_3 := Exa.wr W7 E_t
  have F_4 := Fld.other W7 Fv (Or.inr (slot_ne (Or.inl (hw _ (List.mem_of_getElem? (i := 24) rfl))) (Or.inl (hw _ (List.mem_of_getElem? (i := 57) rfl))) (by decide) (t := (.array .byte)) (t' := .int) (by decide) (by decide)))
  have F_5 := Fld.other W7 Fc (Or.inr (slot_ne (Or.inl (hw _ (List.mem_of_getElem? (i := 26) rfl))) (Or.inl (hw _ (List.mem_of_getElem? (i := 57) rfl))) (by decide) (t := .byte) (t' := .int) (by decide) (by decide)))
  have F_6 := Fld.same W7 Fn
  have V_7 := Arv.other V_t W7 (Exa.ne E_t E_a1 (by decide))
  have OL_8 := Old.wr OL W7 (Nat.le_trans hnz g_a1)
  have sg14 : ∀ tgt, Steps p.tables e below (T7.setTop (mkF m 41 #[.val (.ref a1), .val (.int p2)] [(.int (p2.toInt8.toInt32)), (.int (Int32.ofNat vs.length)), (.ref t)])) tgt → Steps p.tables e below (T7.setTop (mkF m 39 #[.val (.ref a1), .val (.int p2)] [(.int (Int32.ofNat vs.length)), (.ref t)])) tgt := by
    intro tgt kk
    show Steps p.tables e below (T7.setTop (mkF m 39 #[.val (.ref a1), .val (.int p2)] [(.int (Int32.ofNat vs.length)), (.ref t)])) _
    refine XS.iloadN X7.here hx rfl (hb hby own_d25_39) rfl ?_
    show Steps p.tables e below (T7.setTop (mkF m 40 #[.val (.ref a1), .val (.int p2)] [(.int p2), (.int (Int32.ofNat vs.length)), (.ref t)])) _
    refine XT.i2b X7.here hx rfl (hb hby own_d25_40) rfl ?_
    exact kk
  obtain ⟨cl_c9, Ar_c9, q_c9, S_c9, N_c9, H_c9, G_c9⟩ := id V_7
  have hin8_ : ¬ ((Int32.ofNat vs.length) < 0 ∨ cl_c9.slots.size ≤ ((Int32.ofNat vs.length)).toNatClampNeg) := inb_of S_c9 ⟨own_nneg (by omega), own_ltN hl (by omega)⟩
  obtain ⟨T8, h8, X8, e8, W8, st8⟩ := stB X7 hx hZ e7 Ar_c9 (j := (Int32.ofNat vs.length)) hin8_ (g := (mkF m 41 #[.val (.ref a1), .val (.int p2)] [(.int (p2.toInt8.toInt32)), (.int (Int32.ofNat vs.length)), (.ref t)])) rfl rfl (hb hby own_d25_41)
  have N8 := Fr.snoc X8 N7 g_t
  have K8 : Keep h0 h8 [a1, t] := K7.wr W8 (Or.inl (List.mem_of_getElem? (i := 1) rfl))
  have Z_10 : n0 ≤ h8.size := Nat.le_trans Z_1 (Keep.of_wr W8).1
  have E_11 := Exa.wr W8 E_2
  have E_12 := Exa.wr W8 E_3
  have F_13 := Fld.other W8 F_4 (Or.inl (Exa.ne E_2 E_3 (by decide)))
  have F_14 := Fld.other W8 F_5 (Or.inl (Exa.ne E_2 E_3 (by decide)))
  have F_15 := Fld.other W8 F_6 (Or.inl (Exa.ne E_2 E_3 (by decide)))
  have OL_16 := Old.wr OL_8 W8 (Nat.le_trans hnz g_t)
  have V8_ : Arv Z h8 t kb .byte (Int32.ofNat N) (vs ++ [.int p2]) (.int (0 : Int32)) := own_app Ar_c9 q_c9 S_c9 N_c9 H_c9 G_c9 W8 (own_clamp (by omega)) (by show (p2.toInt8.toInt32).toInt8.toInt32 = p2; rw [hp8, hp8])
  obtain ⟨fs, hr, hrun, hended, hW, hsame⟩ := X8.leave (v := some (.ref a1)) (fun h => by rw [Bd.returns] at h; cases h)
  refine ⟨_, _, pre0 _ ?_, hrun, hended, _, _, rfl, ?_, ⟨_, rfl⟩, hW, hsame.mono (by decide) (by decide)⟩
  · refine sg0 _ ?_
    refine st1 _ ?_
    refine sg2 _ ?_
    refine st2.trans ?_
    refine sg4 _ ?_
    refine st3.trans ?_
    refine sg6 _ ?_
    refine st4 _ ?_
    refine sg8 _ ?_
    refine st5 _ ?_
    refine sg10 _ ?_
    refine st6 _ ?_
    refine sg12 _ ?_
    refine st7 _ ?_
    refine sg14 _ ?_
    refine st8 _ ?_
    show Steps p.tables e below (T8.setTop (mkF m 42 #[.val (.ref a1), .val (.int p2)] [])) _
    refine XS.goto X8.here hx rfl (pc0 := 42) (pc' := 75) rfl (hb hby own_d25_42) (by decide) (by decide) ?_
    show Steps p.tables e below (T8.setTop (mkF m 75 #[.val (.ref a1), .val (.int p2)] [])) _
    refine XS.aloadN X8.here hx rfl (hb hby own_d25_75) rfl rfl ?_
    show Steps p.tables e below (T8.setTop (mkF m 76 #[.val (.ref a1), .val (.int p2)] [(.ref a1)])) _
    show Steps p.tables e below (T8.setTop (mkF m 76 #[.val (.ref a1), .val (.int p2)] [(.ref a1)])) _
    jvm_step X8.here [X8.here.top, hx, (hb hby own_d25_76), X8.method', Bd.returns, Value.isRef, FieldType.isReference]
    first | (intro acts; rw [hr _ acts rfl rfl rfl]) | rw [hr _ _ rfl rfl rfl]
    exact Steps.refl _
  · (show Q25 Z a1 p2 t kb N vs h0 n0 _ T8.heap _; rw [e8]; refine ⟨rfl, N8, K8, E_11, F_13, F_14, ?_, V8_, E_12⟩; rw [List.length_append, List.length_singleton, ← own_succ (by omega)]; exact F_15)
theorem own_pd8 : parseMethodDescriptor "(C)Ljava/lang/AbstractStringBuilder;" = some ⟨[.char], some (.object "java/lang/AbstractStringBuilder")⟩ := by decide +kernel
theorem own_d24_0 : decode jdk_67_method_14_code 0 = .ok (.aload_n 0, 1) := by decide +kernel
theorem own_d24_1 : decode jdk_67_method_14_code 1 = .ok (.iload_n 1, 1) := by decide +kernel
theorem own_d24_2 : decode jdk_67_method_14_code 2 = .ok (.invokespecial 50, 3) := by decide +kernel
theorem own_d24_5 : decode jdk_67_method_14_code 5 = .ok (.pop, 1) := by decide +kernel
theorem own_d24_6 : decode jdk_67_method_14_code 6 = .ok (.aload_n 0, 1) := by decide +kernel
theorem own_d24_7 : decode jdk_67_method_14_code 7 = .ok (.areturn, 1) := by decide +kernel
theorem own_ef24 (m : MethodId) (a1 : Addr) (p2 : Int32)  : entryFrame m #[(.ref a1), (.int p2)] 2 = mkF m 0 #[.val (.ref a1), .val (.int p2)] [] := by first | (simp [entryFrame, mkF, argsToLocals, Value.category]; done) | rfl
def Q24 (Z : State) (a1 : Addr) (p2 : Int32) (t : Addr) (kb : ClassId) (N : Nat) (vs : List Value) (h0 : Heap) (n0 : Nat) (v : Option Value) (h : Heap) (L : List Loc) : Prop := v = some (.ref a1) ∧ Fr n0 L ∧ Keep h0 h [a1, t] ∧ own_bld Z h a1 t kb N (vs ++ [.int p2])
set_option maxRecDepth 65536 in
set_option maxHeartbeats 40000000 in
theorem rm24 (l : Launch) (Z : State) (a0 : Array Value) (hw : ∀ d ∈ tables_1, d.before a0 Z = true) (ws : List Jvm.Cond) (a1 : Addr) (p2 : Int32) (t : Addr) (kb : ClassId) (N : Nat) (vs : List Value) (h0 : Heap) (n0 : Nat) (Z0 : n0 ≤ h0.size) (cz : Int32) (hcz : ¬ cz = 0) (O1 : Sta Z Z.heap "java/lang/String" "COMPACT_STRINGS" "Z" (.int cz)) (OL : Old Z Z.heap.size h0) (hnz : Z.heap.size ≤ n0) (BD : own_bld Z h0 a1 t kb N vs) (g_a1 : n0 ≤ a1) (g_t : n0 ≤ t) (hN : N ≤ 16) (hl : vs.length < N) (h255 : ¬ (255 : Int32) < p2) (hp8 : p2.toInt8.toInt32 = p2)  :
    MetFree l (⟨"java/lang/StringBuilder", "append", "(C)Ljava/lang/StringBuilder;"⟩ : MethodName) (head1 (Jvm.Cond.code (⟨"java/lang/StringBuilder", "append", "(C)Ljava/lang/StringBuilder;"⟩ : MethodName) jdk_67_method_14_code 2 (some (.object "java/lang/StringBuilder")) :: ws) ({ frames := 2, cells := 0, slots := 0, locals := 28 } : Room)) (fun a U => a = #[(.ref a1), (.int p2)] ∧ Z.Warmed39 U.vm ∧ U.heap = h0) (fun _ _ _ _ _ => True) (fun _ U o U' => ∃ v L, o = .returned v ∧ Q24 Z a1 p2 t kb N vs h0 n0 v U'.heap L ∧ FrameEnd U o U' L ({ frames := 2, cells := 0, slots := 0, locals := 28 } : Room).cells ({ frames := 2, cells := 0, slots := 0, locals := 28 } : Room).slots) := by
  refine MetFree.of_bodySF (plainFor_of_name own_pn2) hisR ?_
  intro p e s m args below meth c s₁ Bd hml0 hP hK
  obtain ⟨rfl, hZ, hh⟩ := hP
  have hx := Bd.exec
  have hby := Bd.bytes
  have hml : c.maxLocals = 2 := hml0
  have hown : s.vm.findClass "java/lang/StringBuilder" = some m.cls := findClass_of_methodNamed Bd.named
  have hnm := (name_of_methodNamed Bd.named Bd.method).1
  have X0 : Stand p l e ({ frames := 2, cells := 0, slots := 0, locals := 28 } : Room) s m #[(.ref a1), (.int p2)] below meth c s₁ [] 0 0 := Stand.of_body Bd
  have e0 : s₁.heap = h0 := by rw [← hh, Bd.state]; rfl
  have N0 := Fr.nil n0
  have pre0 : ∀ t, Steps p.tables e below (s₁.setTop (mkF m 0 #[.val (.ref a1), .val (.int p2)] [])) t → Steps p.tables e below (s₁.setTop (entryFrame m #[(.ref a1), (.int p2)] 2)) t := fun t k => castTop (own_ef24 m a1 p2 ) k
  have sg0 : ∀ tgt, Steps p.tables e below (s₁.setTop (mkF m 2 #[.val (.ref a1), .val (.int p2)] [(.int p2), (.ref a1)])) tgt → Steps p.tables e below (s₁.setTop (mkF m 0 #[.val (.ref a1), .val (.int p2)] [])) tgt := by
    intro tgt kk
    show Steps p.tables e below (s₁.setTop (mkF m 0 #[.val (.ref a1), .val (.int p2)] [])) _
    refine XS.aloadN X0.here hx rfl (hb hby own_d24_0) rfl rfl ?_
    show Steps p.tables e below (s₁.setTop (mkF m 1 #[.val (.ref a1), .val (.int p2)] [(.ref a1)])) _
    refine XS.iloadN X0.here hx rfl (hb hby own_d24_1) rfl ?_
    exact kk
  obtain ⟨_, _, ⟨T1, L1, k1, n1⟩, -, X1, ⟨Lc1, hQ1, l1, y1, z1⟩, st1⟩ := superBack X0 hx hZ (y := (⟨"java/lang/AbstractStringBuilder", "append", "(C)Ljava/lang/AbstractStringBuilder;"⟩ : MethodName)) hown (hw _ (List.mem_of_getElem? (i := 135) rfl)) (own_same (y := (⟨"java/lang/AbstractStringBuilder", "append", "(C)Ljava/lang/AbstractStringBuilder;"⟩ : MethodName)) (hw _ (List.mem_of_getElem? (i := 137) rfl)) (hw _ (List.mem_of_getElem? (i := 45) rfl)) rfl (by decide)) (hw _ (List.mem_of_getElem? (i := 136) rfl)) (hw _ (List.mem_of_getElem? (i := 54) rfl)) (by decide) (backOf (W := 0) (rm25 l Z a0 hw [] a1 p2 t kb N vs h0 n0 Z0 cz hcz O1 OL hnz BD g_a1 g_t hN hl h255 hp8) hZ (hw _ (List.mem_of_getElem? (i := 138) rfl)) (hw _ (List.mem_of_getElem? (i := 16) rfl)) (by decide) (by decide)) e0 (Ins.self BD.1) (g := (mkF m 2 #[.val (.ref a1), .val (.int p2)] [(.int p2), (.ref a1)])) rfl (by rw [hml]; rfl) (hw _ (List.mem_of_getElem? (i := 138) rfl)) (argsL := [(.int p2)]) (rest := []) (lenOf own_pd8 rfl) rfl (by show 2 * 0 + _ ≤ _; exact Nat.le_of_eq rfl) (hb hby own_d24_2) (fun _ _ => ⟨rfl, e0, (by decide : 0 + 0 ≤ _), (by decide : 0 + 0 ≤ _)⟩)
  dsimp only [Pt.U, Pt.locs, Pt.cells, Pt.slots] at X1 l1 y1 z1 st1 hQ1
  subst l1 y1 z1
  obtain ⟨rfl, N1q, KK, BB⟩ := hQ1
  have Z_1 : n0 ≤ T1.heap.size := Nat.le_trans Z0 KK.1
  have E_2 := Exa.keep BD.1 KK
  have OL_3 := Old.keep OL KK (by intro x hx_; simp only [List.mem_cons, List.not_mem_nil, or_false] at hx_; rcases hx_ with rfl | rfl <;> first | exact Nat.le_trans hnz g_a1 | exact Nat.le_trans hnz g_t)
  have N1 := Fr.app N0 N1q
  obtain ⟨fs, hr, hrun, hended, hW, hsame⟩ := X1.leave (v := some (.ref a1)) (fun h => by rw [Bd.returns] at h; cases h)
  refine ⟨_, _, pre0 _ ?_, hrun, hended, _, _, rfl, ?_, ⟨_, rfl⟩, hW, hsame.mono (by decide) (by decide)⟩
  · refine sg0 _ ?_
    refine st1.trans ?_
    show Steps p.tables e below (T1.setTop (mkF m 5 #[.val (.ref a1), .val (.int p2)] [(.ref a1)])) _
    refine XT.pop X1.here hx rfl (hb hby own_d24_5) rfl rfl ?_
    show Steps p.tables e below (T1.setTop (mkF m 6 #[.val (.ref a1), .val (.int p2)] [])) _
    refine XS.aloadN X1.here hx rfl (hb hby own_d24_6) rfl rfl ?_
    show Steps p.tables e below (T1.setTop (mkF m 7 #[.val (.ref a1), .val (.int p2)] [(.ref a1)])) _
    show Steps p.tables e below (T1.setTop (mkF m 7 #[.val (.ref a1), .val (.int p2)] [(.ref a1)])) _
    jvm_step X1.here [X1.here.top, hx, (hb hby own_d24_7), X1.method', Bd.returns, Value.isRef, FieldType.isReference]
    first | (intro acts; rw [hr _ acts rfl rfl rfl]) | rw [hr _ _ rfl rfl rfl]
    exact Steps.refl _
  · exact ⟨rfl, N1, KK, BB⟩
theorem own_d3_0 : decode jdk_68_method_2_code 0 = .ok (.aload_n 0, 1) := by decide +kernel
theorem own_d3_1 : decode jdk_68_method_2_code 1 = .ok (.invokespecial 3, 3) := by decide +kernel
theorem own_d3_4 : decode jdk_68_method_2_code 4 = .ok (.getstatic 18, 3) := by decide +kernel
theorem own_d3_7 : decode jdk_68_method_2_code 7 = .ok (.ifCond .eq 18, 3) := by decide +kernel
theorem own_d3_10 : decode jdk_68_method_2_code 10 = .ok (.aload_n 0, 1) := by decide +kernel
theorem own_d3_11 : decode jdk_68_method_2_code 11 = .ok (.iload_n 1, 1) := by decide +kernel
theorem own_d3_12 : decode jdk_68_method_2_code 12 = .ok (.newarray .byte, 2) := by decide +kernel
theorem own_d3_14 : decode jdk_68_method_2_code 14 = .ok (.putfield 15, 3) := by decide +kernel
theorem own_d3_17 : decode jdk_68_method_2_code 17 = .ok (.aload_n 0, 1) := by decide +kernel
theorem own_d3_18 : decode jdk_68_method_2_code 18 = .ok (.iconst 0, 1) := by decide +kernel
theorem own_d3_19 : decode jdk_68_method_2_code 19 = .ok (.putfield 22, 3) := by decide +kernel
theorem own_d3_22 : decode jdk_68_method_2_code 22 = .ok (.goto 16, 3) := by decide +kernel
theorem own_d3_38 : decode jdk_68_method_2_code 38 = .ok (.return_, 1) := by decide +kernel
theorem own_ef3 (m : MethodId) (a1 : Addr) (p2 : Int32)  : entryFrame m #[(.ref a1), (.int p2)] 2 = mkF m 0 #[.val (.ref a1), .val (.int p2)] [] := by first | (simp [entryFrame, mkF, argsToLocals, Value.category]; done) | rfl
def Q3 (Z : State) (a1 : Addr) (p2 : Int32) (N : Nat) (h0 : Heap) (n0 : Nat) (v : Option Value) (h : Heap) (L : List Loc) : Prop := v = none ∧ Fr n0 L ∧ Keep h0 h [a1] ∧ ∃ (t : Addr) (kb : ClassId), own_bld Z h a1 t kb N [] ∧ h0.size ≤ t
set_option maxRecDepth 65536 in
set_option maxHeartbeats 40000000 in
theorem rm3 (l : Launch) (Z : State) (a0 : Array Value) (hw : ∀ d ∈ tables_1, d.before a0 Z = true) (ws : List Jvm.Cond) (a1 : Addr) (p2 : Int32) (N : Nat) (h0 : Heap) (n0 : Nat) (Z0 : n0 ≤ h0.size) (cz : Int32) (hcz : ¬ cz = 0) (O1 : Sta Z Z.heap "java/lang/String" "COMPACT_STRINGS" "Z" (.int cz)) (OL : Old Z Z.heap.size h0) (hnz : Z.heap.size ≤ n0) (E_a1 : Exa Z h0 a1 "java/lang/StringBuilder") (Fv : Fld Z h0 a1 "java/lang/AbstractStringBuilder" "value" "[B" .null)(Fc : Fld Z h0 a1 "java/lang/AbstractStringBuilder" "coder" "B" (.int (0 : Int32)))(Fn : Fld Z h0 a1 "java/lang/AbstractStringBuilder" "count" "I" (.int (0 : Int32))) (g_a1 : n0 ≤ a1) (hN : N ≤ 16) (hp : p2 = Int32.ofNat N) :
    MetFree l (⟨"java/lang/AbstractStringBuilder", "<init>", "(I)V"⟩ : MethodName) (head1 (Jvm.Cond.code (⟨"java/lang/AbstractStringBuilder", "<init>", "(I)V"⟩ : MethodName) jdk_68_method_2_code 2 none :: ws) ({ frames := 1, cells := 1, slots := 16, locals := 12 } : Room)) (fun a U => a = #[(.ref a1), (.int p2)] ∧ Z.Warmed39 U.vm ∧ U.heap = h0) (fun _ _ _ _ _ => True) (fun _ U o U' => ∃ v L, o = .returned v ∧ Q3 Z a1 p2 N h0 n0 v U'.heap L ∧ FrameEnd U o U' L ({ frames := 1, cells := 1, slots := 16, locals := 12 } : Room).cells ({ frames := 1, cells := 1, slots := 16, locals := 12 } : Room).slots) := by
  refine MetFree.of_bodySF (plainFor_of_name own_pn0) hisR ?_
  intro p e s m args below meth c s₁ Bd hml0 hP hK
  obtain ⟨rfl, hZ, hh⟩ := hP
  have hx := Bd.exec
  have hby := Bd.bytes
  have hml : c.maxLocals = 2 := hml0
  have hown : s.vm.findClass "java/lang/AbstractStringBuilder" = some m.cls := findClass_of_methodNamed Bd.named
  have hnm := (name_of_methodNamed Bd.named Bd.method).1
  have X0 : Stand p l e ({ frames := 1, cells := 1, slots := 16, locals := 12 } : Room) s m #[(.ref a1), (.int p2)] below meth c s₁ [] 0 0 := Stand.of_body Bd
  have e0 : s₁.heap = h0 := by rw [← hh, Bd.state]; rfl
  have N0 := Fr.nil n0
  have pre0 : ∀ t, Steps p.tables e below (s₁.setTop (mkF m 0 #[.val (.ref a1), .val (.int p2)] [])) t → Steps p.tables e below (s₁.setTop (entryFrame m #[(.ref a1), (.int p2)] 2)) t := fun t k => castTop (own_ef3 m a1 p2 ) k
  subst hp
  have sg0 : ∀ tgt, Steps p.tables e below (s₁.setTop (mkF m 1 #[.val (.ref a1), .val (.int (Int32.ofNat N))] [(.ref a1)])) tgt → Steps p.tables e below (s₁.setTop (mkF m 0 #[.val (.ref a1), .val (.int (Int32.ofNat N))] [])) tgt := by
    intro tgt kk
    show Steps p.tables e below (s₁.setTop (mkF m 0 #[.val (.ref a1), .val (.int (Int32.ofNat N))] [])) _
    refine XS.aloadN X0.here hx rfl (hb hby own_d3_0) rfl rfl ?_
    exact kk
  obtain ⟨T1, X1, e1, st1⟩ := initO X0 hx hZ hown (hw _ (List.mem_of_getElem? (i := 18) rfl)) (hw _ (List.mem_of_getElem? (i := 19) rfl)) (hw _ (List.mem_of_getElem? (i := 20) rfl)) e0 (g := (mkF m 1 #[.val (.ref a1), .val (.int (Int32.ofNat N))] [(.ref a1)])) rfl (by rw [hml]; rfl) rfl (hb hby own_d3_1) (by decide) (W := 0) (by show 2 * 0 + _ ≤ _; exact Nat.le_of_eq rfl) (by decide)
  obtain ⟨T2, X2, e2, st2⟩ := getS2 X1 hx hZ hown (host := "") (Or.inl (hw _ (List.mem_of_getElem? (i := 21) rfl))) Via.refl e1 (Sta.ext OL.2 O1) (g := (mkF m 4 #[.val (.ref a1), .val (.int (Int32.ofNat N))] [])) rfl (hb hby own_d3_4)
  have sg3 : ∀ tgt, Steps p.tables e below (T2.setTop (mkF m 12 #[.val (.ref a1), .val (.int (Int32.ofNat N))] [(.int (Int32.ofNat N)), (.ref a1)])) tgt → Steps p.tables e below (T2.setTop (mkF m 7 #[.val (.ref a1), .val (.int (Int32.ofNat N))] [(.int cz)])) tgt := by
    intro tgt kk
    show Steps p.tables e below (T2.setTop (mkF m 7 #[.val (.ref a1), .val (.int (Int32.ofNat N))] [(.int cz)])) _
    refine XS.ifNo X2.here hx rfl (hb hby own_d3_7) rfl (XT.i0_eq_f hcz) ?_
    show Steps p.tables e below (T2.setTop (mkF m 10 #[.val (.ref a1), .val (.int (Int32.ofNat N))] [])) _
    refine XS.aloadN X2.here hx rfl (hb hby own_d3_10) rfl rfl ?_
    show Steps p.tables e below (T2.setTop (mkF m 11 #[.val (.ref a1), .val (.int (Int32.ofNat N))] [(.ref a1)])) _
    refine XS.iloadN X2.here hx rfl (hb hby own_d3_11) rfl ?_
    exact kk
  obtain ⟨T3, h3, kb, X3, e3, E3, A3, B3, st3⟩ := newPE X2 hx hZ (hw _ (List.mem_of_getElem? (i := 1) rfl)) e2 (g := (mkF m 12 #[.val (.ref a1), .val (.int (Int32.ofNat N))] [(.int (Int32.ofNat N)), (.ref a1)])) rfl (hb hby own_d3_12) rfl (own_nneg (by omega)) (cap := 16) (by rw [own_clamp (by omega)]; exact hN) (by decide) (by decide) (by decide) (ad := "[B") (by decide)
  obtain ⟨t, g3⟩ : ∃ z_, z_ = h0.size := ⟨_, rfl⟩
  rw [← g3] at A3 B3 st3
  have V_t : Arv Z h3 t kb .byte (Int32.ofNat N) [] (.int (0 : Int32)) := Arv.new A3 (own_nneg (by omega))
  have s_t : h0.size ≤ t := Nat.le_of_eq g3.symm
  have g_t : n0 ≤ t := Nat.le_trans Z0 s_t
  have Z_1 : n0 ≤ h3.size := Nat.le_trans Z0 E3.1
  have K3 : Keep h0 h3 [a1] := (Keep.refl h0 [a1]).ext E3
  have E_2 := Exa.ext E3 E_a1
  have F_3 := Fld.ext E3 Fv
  have F_4 := Fld.ext E3 Fc
  have F_5 := Fld.ext E3 Fn
  have OL_6 := Old.ext OL E3
  obtain ⟨T4, h4, X4, e4, W4, st4⟩ := putF X3 hx hZ hown (host := "") (Or.inl (hw _ (List.mem_of_getElem? (i := 23) rfl))) Via.refl e3 F_3 E_2 (Or.inl (hw _ (List.mem_of_getElem? (i := 24) rfl))) (hw _ (List.mem_of_getElem? (i := 7) rfl)) (ty := (.array .byte)) (by decide) rfl rfl (g := (mkF m 14 #[.val (.ref a1), .val (.int (Int32.ofNat N))] [(.ref t), (.ref a1)])) rfl rfl (hb hby own_d3_14)
  have N4 := Fr.snoc X4 N0 g_a1
  have K4 : Keep h0 h4 [a1] := K3.wr W4 (Or.inl (List.mem_of_getElem? (i := 0) rfl))
  have Z_7 : n0 ≤ h4.size := Nat.le_trans Z_1 (Keep.of_wr W4).1
  have E_8 := Exa.wr W4 E_2
  have E_9 := Exa.wr W4 B3
  have F_10 := Fld.same W4 F_3
  have F_11 := Fld.other W4 F_4 (Or.inr (slot_ne (Or.inl (hw _ (List.mem_of_getElem? (i := 26) rfl))) (Or.inl (hw _ (List.mem_of_getElem? (i := 24) rfl))) (by decide) (t := .byte) (t' := (.array .byte)) (by decide) (by decide)))
  have F_12 := Fld.other W4 F_5 (Or.inr (slot_ne (Or.inl (hw _ (List.mem_of_getElem? (i := 57) rfl))) (Or.inl (hw _ (List.mem_of_getElem? (i := 24) rfl))) (by decide) (t := .int) (t' := (.array .byte)) (by decide) (by decide)))
  have V_13 := Arv.other V_t W4 (Exa.ne B3 E_2 (by decide))
  have OL_14 := Old.wr OL_6 W4 (Nat.le_trans hnz g_a1)
  have sg6 : ∀ tgt, Steps p.tables e below (T4.setTop (mkF m 19 #[.val (.ref a1), .val (.int (Int32.ofNat N))] [(.int (0 : Int32)), (.ref a1)])) tgt → Steps p.tables e below (T4.setTop (mkF m 17 #[.val (.ref a1), .val (.int (Int32.ofNat N))] [])) tgt := by
    intro tgt kk
    show Steps p.tables e below (T4.setTop (mkF m 17 #[.val (.ref a1), .val (.int (Int32.ofNat N))] [])) _
    refine XS.aloadN X4.here hx rfl (hb hby own_d3_17) rfl rfl ?_
    show Steps p.tables e below (T4.setTop (mkF m 18 #[.val (.ref a1), .val (.int (Int32.ofNat N))] [(.ref a1)])) _
    refine XT.iconstV X4.here hx rfl (0 : Int32) (hb hby own_d3_18) (by decide) ?_
    exact kk
  obtain ⟨T5, h5, X5, e5, W5, st5⟩ := putFN X4 hx hZ hown (hw _ (List.mem_of_getElem? (i := 25) rfl)) Via.refl e4 F_11 E_8 (Or.inl (hw _ (List.mem_of_getElem? (i := 26) rfl))) (hw _ (List.mem_of_getElem? (i := 7) rfl)) (ty := .byte) (v' := (.int (0 : Int32))) (by decide) rfl rfl (g := (mkF m 19 #[.val (.ref a1), .val (.int (Int32.ofNat N))] [(.int (0 : Int32)), (.ref a1)])) rfl rfl (hb hby own_d3_19)
  have N5 := Fr.snoc X5 N4 g_a1
  have K5 : Keep h0 h5 [a1] := K4.wr W5 (Or.inl (List.mem_of_getElem? (i := 0) rfl))
  have Z_15 : n0 ≤ h5.size := Nat.le_trans Z_7 (Keep.of_wr W5).1
  have E_16 := Exa.wr W5 E_8
  have E_17 := Exa.wr W5 E_9
  have F_18 := Fld.other W5 F_10 (Or.inr (slot_ne (Or.inl (hw _ (List.mem_of_getElem? (i := 24) rfl))) (Or.inl (hw _ (List.mem_of_getElem? (i := 26) rfl))) (by decide) (t := (.array .byte)) (t' := .byte) (by decide) (by decide)))
  have F_19 := Fld.same W5 F_11
  have F_20 := Fld.other W5 F_12 (Or.inr (slot_ne (Or.inl (hw _ (List.mem_of_getElem? (i := 57) rfl))) (Or.inl (hw _ (List.mem_of_getElem? (i := 26) rfl))) (by decide) (t := .int) (t' := .byte) (by decide) (by decide)))
  have V_21 := Arv.other V_13 W5 (Exa.ne E_9 E_8 (by decide))
  have OL_22 := Old.wr OL_14 W5 (Nat.le_trans hnz g_a1)
  obtain ⟨fs, hr, hrun, hended, hW, hsame⟩ := X5.leave (v := none) (fun _ => rfl)
  refine ⟨_, _, pre0 _ ?_, hrun, hended, _, _, rfl, ?_, ⟨_, rfl⟩, hW, hsame.mono (by decide) (by decide)⟩
  · refine sg0 _ ?_
    refine st1 _ ?_
    refine st2 _ ?_
    refine sg3 _ ?_
    refine st3 _ ?_
    refine st4 _ ?_
    refine sg6 _ ?_
    refine st5 _ ?_
    show Steps p.tables e below (T5.setTop (mkF m 22 #[.val (.ref a1), .val (.int (Int32.ofNat N))] [])) _
    refine XS.goto X5.here hx rfl (pc0 := 22) (pc' := 38) rfl (hb hby own_d3_22) (by decide) (by decide) ?_
    show Steps p.tables e below (T5.setTop (mkF m 38 #[.val (.ref a1), .val (.int (Int32.ofNat N))] [])) _
    exact X5.returnOut hx Bd.returns (hb hby own_d3_38) hr
  · (show Q3 Z a1 (Int32.ofNat N) N h0 n0 _ T5.heap _; rw [e5]; exact ⟨rfl, N5, K5, t, kb, ⟨E_16, F_18, F_19, F_20, V_21, E_17⟩, s_t⟩)
theorem own_d2_0 : decode jdk_67_method_2_code 0 = .ok (.aload_n 0, 1) := by decide +kernel
theorem own_d2_1 : decode jdk_67_method_2_code 1 = .ok (.iload_n 1, 1) := by decide +kernel
theorem own_d2_2 : decode jdk_67_method_2_code 2 = .ok (.invokespecial 1, 3) := by decide +kernel
theorem own_d2_5 : decode jdk_67_method_2_code 5 = .ok (.return_, 1) := by decide +kernel
theorem own_ef2 (m : MethodId) (a1 : Addr) (p2 : Int32)  : entryFrame m #[(.ref a1), (.int p2)] 2 = mkF m 0 #[.val (.ref a1), .val (.int p2)] [] := by first | (simp [entryFrame, mkF, argsToLocals, Value.category]; done) | rfl
def Q2 (Z : State) (a1 : Addr) (p2 : Int32) (N : Nat) (h0 : Heap) (n0 : Nat) (v : Option Value) (h : Heap) (L : List Loc) : Prop := v = none ∧ Fr n0 L ∧ Keep h0 h [a1] ∧ ∃ (t : Addr) (kb : ClassId), own_bld Z h a1 t kb N [] ∧ h0.size ≤ t
set_option maxRecDepth 65536 in
set_option maxHeartbeats 40000000 in
theorem rm2 (l : Launch) (Z : State) (a0 : Array Value) (hw : ∀ d ∈ tables_1, d.before a0 Z = true) (ws : List Jvm.Cond) (a1 : Addr) (p2 : Int32) (N : Nat) (h0 : Heap) (n0 : Nat) (Z0 : n0 ≤ h0.size) (cz : Int32) (hcz : ¬ cz = 0) (O1 : Sta Z Z.heap "java/lang/String" "COMPACT_STRINGS" "Z" (.int cz)) (OL : Old Z Z.heap.size h0) (hnz : Z.heap.size ≤ n0) (E_a1 : Exa Z h0 a1 "java/lang/StringBuilder") (Fv : Fld Z h0 a1 "java/lang/AbstractStringBuilder" "value" "[B" .null)(Fc : Fld Z h0 a1 "java/lang/AbstractStringBuilder" "coder" "B" (.int (0 : Int32)))(Fn : Fld Z h0 a1 "java/lang/AbstractStringBuilder" "count" "I" (.int (0 : Int32))) (g_a1 : n0 ≤ a1) (hN : N ≤ 16) (hp : p2 = Int32.ofNat N) :
    MetFree l (⟨"java/lang/StringBuilder", "<init>", "(I)V"⟩ : MethodName) (head1 (Jvm.Cond.code (⟨"java/lang/StringBuilder", "<init>", "(I)V"⟩ : MethodName) jdk_67_method_2_code 2 none :: ws) ({ frames := 2, cells := 1, slots := 16, locals := 25 } : Room)) (fun a U => a = #[(.ref a1), (.int p2)] ∧ Z.Warmed39 U.vm ∧ U.heap = h0) (fun _ _ _ _ _ => True) (fun _ U o U' => ∃ v L, o = .returned v ∧ Q2 Z a1 p2 N h0 n0 v U'.heap L ∧ FrameEnd U o U' L ({ frames := 2, cells := 1, slots := 16, locals := 25 } : Room).cells ({ frames := 2, cells := 1, slots := 16, locals := 25 } : Room).slots) := by
  refine MetFree.of_bodySF (plainFor_of_name own_pn2) hisR ?_
  intro p e s m args below meth c s₁ Bd hml0 hP hK
  obtain ⟨rfl, hZ, hh⟩ := hP
  have hx := Bd.exec
  have hby := Bd.bytes
  have hml : c.maxLocals = 2 := hml0
  have hown : s.vm.findClass "java/lang/StringBuilder" = some m.cls := findClass_of_methodNamed Bd.named
  have hnm := (name_of_methodNamed Bd.named Bd.method).1
  have X0 : Stand p l e ({ frames := 2, cells := 1, slots := 16, locals := 25 } : Room) s m #[(.ref a1), (.int p2)] below meth c s₁ [] 0 0 := Stand.of_body Bd
  have e0 : s₁.heap = h0 := by rw [← hh, Bd.state]; rfl
  have N0 := Fr.nil n0
  have pre0 : ∀ t, Steps p.tables e below (s₁.setTop (mkF m 0 #[.val (.ref a1), .val (.int p2)] [])) t → Steps p.tables e below (s₁.setTop (entryFrame m #[(.ref a1), (.int p2)] 2)) t := fun t k => castTop (own_ef2 m a1 p2 ) k
  have sg0 : ∀ tgt, Steps p.tables e below (s₁.setTop (mkF m 2 #[.val (.ref a1), .val (.int p2)] [(.int p2), (.ref a1)])) tgt → Steps p.tables e below (s₁.setTop (mkF m 0 #[.val (.ref a1), .val (.int p2)] [])) tgt := by
    intro tgt kk
    show Steps p.tables e below (s₁.setTop (mkF m 0 #[.val (.ref a1), .val (.int p2)] [])) _
    refine XS.aloadN X0.here hx rfl (hb hby own_d2_0) rfl rfl ?_
    show Steps p.tables e below (s₁.setTop (mkF m 1 #[.val (.ref a1), .val (.int p2)] [(.ref a1)])) _
    refine XS.iloadN X0.here hx rfl (hb hby own_d2_1) rfl ?_
    exact kk
  obtain ⟨_, _, ⟨T1, L1, k1, n1⟩, -, X1, ⟨Lc1, hQ1, l1, y1, z1⟩, st1⟩ := X0.specialBack hx (y := (⟨"java/lang/AbstractStringBuilder", "<init>", "(I)V"⟩ : MethodName)) rfl hown (mvT hZ (hw _ (List.mem_of_getElem? (i := 12) rfl))) (mvT hZ (hw _ (List.mem_of_getElem? (i := 13) rfl))) (mvT hZ (hw _ (List.mem_of_getElem? (i := 17) rfl))) (by decide) (backOf (W := 0) (rm3 l Z a0 hw [] a1 p2 N h0 n0 Z0 cz hcz O1 OL hnz E_a1 Fv Fc Fn g_a1 hN hp) hZ (hw _ (List.mem_of_getElem? (i := 17) rfl)) (hw _ (List.mem_of_getElem? (i := 16) rfl)) (by decide) (by decide)) (g := (mkF m 2 #[.val (.ref a1), .val (.int p2)] [(.int p2), (.ref a1)])) rfl (by rw [hml]; rfl) (Steps.refl _) (a := a1) (argsL := [(.int p2)]) (rest := []) (lenOf own_pd6 rfl) rfl (by show 2 * 0 + _ ≤ _; exact Nat.le_of_eq rfl) (hb hby own_d2_2) (fun _ _ => ⟨rfl, e0, (by decide : 0 + 1 ≤ _), (by decide : 0 + 16 ≤ _)⟩)
  dsimp only [Pt.U, Pt.locs, Pt.cells, Pt.slots] at X1 l1 y1 z1 st1 hQ1
  subst l1 y1 z1
  obtain ⟨rfl, N1q, KK, BB⟩ := hQ1
  have Z_1 : n0 ≤ T1.heap.size := Nat.le_trans Z0 KK.1
  have E_2 := Exa.keep E_a1 KK
  have OL_3 := Old.keep OL KK (by intro x hx_; simp only [List.mem_cons, List.not_mem_nil, or_false] at hx_; subst hx_; first | exact Nat.le_trans hnz g_a1)
  have N1 := Fr.app N0 N1q
  obtain ⟨fs, hr, hrun, hended, hW, hsame⟩ := X1.leave (v := none) (fun _ => rfl)
  refine ⟨_, _, pre0 _ ?_, hrun, hended, _, _, rfl, ?_, ⟨_, rfl⟩, hW, hsame.mono (by decide) (by decide)⟩
  · refine sg0 _ ?_
    refine st1.trans ?_
    show Steps p.tables e below (T1.setTop (mkF m 5 #[.val (.ref a1), .val (.int p2)] [])) _
    exact X1.returnOut hx Bd.returns (hb hby own_d2_5) hr
  · exact ⟨rfl, N1, KK, BB⟩
theorem own_pn5 : plainName "java/util/Arrays" = true := by first | (simp [plainName, overriddenIn]; done) | decide +kernel
theorem own_d12_0 : decode jdk_65_method_132_code 0 = .ok (.iload_n 1, 1) := by decide +kernel
theorem own_d12_1 : decode jdk_65_method_132_code 1 = .ok (.ifCond .ne 9, 3) := by decide +kernel
theorem own_d12_4 : decode jdk_65_method_132_code 4 = .ok (.iload_n 2, 1) := by decide +kernel
theorem own_d12_5 : decode jdk_65_method_132_code 5 = .ok (.aload_n 0, 1) := by decide +kernel
theorem own_d12_6 : decode jdk_65_method_132_code 6 = .ok (.arraylength, 1) := by decide +kernel
theorem own_d12_7 : decode jdk_65_method_132_code 7 = .ok (.if_icmp .eq 10, 3) := by decide +kernel
theorem own_d12_17 : decode jdk_65_method_132_code 17 = .ok (.aload_n 0, 1) := by decide +kernel
theorem own_d12_18 : decode jdk_65_method_132_code 18 = .ok (.invokevirtual 310, 3) := by decide +kernel
theorem own_d12_21 : decode jdk_65_method_132_code 21 = .ok (.checkcast 311, 3) := by decide +kernel
theorem own_d12_24 : decode jdk_65_method_132_code 24 = .ok (.areturn, 1) := by decide +kernel
theorem own_ef12 (m : MethodId) (a1 : Addr) (p2 : Int32) (p3 : Int32)  : entryFrame m #[(.ref a1), (.int p2), (.int p3)] 3 = mkF m 0 #[.val (.ref a1), .val (.int p2), .val (.int p3)] [] := by first | (simp [entryFrame, mkF, argsToLocals, Value.category]; done) | rfl
def Q12 (Z : State) (a1 : Addr) (p2 : Int32) (p3 : Int32) (kb : ClassId) (N : Nat) (vs : List Value) (h0 : Heap) (n0 : Nat) (v : Option Value) (h : Heap) (L : List Loc) : Prop := ∃ u : Addr, v = some (.ref u) ∧ Fr n0 L ∧ Keep h0 h [] ∧ Arv Z h u kb .byte (Int32.ofNat N) vs (.int (0 : Int32)) ∧ h0.size ≤ u
set_option maxRecDepth 65536 in
set_option maxHeartbeats 40000000 in
theorem rm12 (l : Launch) (Z : State) (a0 : Array Value) (hw : ∀ d ∈ tables_1, d.before a0 Z = true) (ws : List Jvm.Cond) (a1 : Addr) (p2 : Int32) (p3 : Int32) (kb : ClassId) (N : Nat) (vs : List Value) (h0 : Heap) (n0 : Nat) (Z0 : n0 ≤ h0.size) (E_a1 : Exa Z h0 a1 "[B") (V_a1 : Arv Z h0 a1 kb .byte (Int32.ofNat N) vs (.int (0 : Int32))) (hN : N ≤ 16) (hp2 : p2 = 0) (hp3 : p3 = Int32.ofNat N) :
    MetFree l (⟨"java/util/Arrays", "copyOfRange", "([BII)[B"⟩ : MethodName) (head1 (Jvm.Cond.code (⟨"java/util/Arrays", "copyOfRange", "([BII)[B"⟩ : MethodName) jdk_65_method_132_code 3 (some (.array .byte)) :: ws) ({ frames := 1, cells := 1, slots := 16, locals := 14 } : Room)) (fun a U => a = #[(.ref a1), (.int p2), (.int p3)] ∧ Z.Warmed39 U.vm ∧ U.heap = h0) (fun _ _ _ _ _ => True) (fun _ U o U' => ∃ v L, o = .returned v ∧ Q12 Z a1 p2 p3 kb N vs h0 n0 v U'.heap L ∧ FrameEnd U o U' L ({ frames := 1, cells := 1, slots := 16, locals := 14 } : Room).cells ({ frames := 1, cells := 1, slots := 16, locals := 14 } : Room).slots) := by
  refine MetFree.of_bodySF (plainFor_of_name own_pn5) hisR ?_
  intro p e s m args below meth c s₁ Bd hml0 hP hK
  obtain ⟨rfl, hZ, hh⟩ := hP
  have hx := Bd.exec
  have hby := Bd.bytes
  have hml : c.maxLocals = 3 := hml0
  have hown : s.vm.findClass "java/util/Arrays" = some m.cls := findClass_of_methodNamed Bd.named
  have hnm := (name_of_methodNamed Bd.named Bd.method).1
  have X0 : Stand p l e ({ frames := 1, cells := 1, slots := 16, locals := 14 } : Room) s m #[(.ref a1), (.int p2), (.int p3)] below meth c s₁ [] 0 0 := Stand.of_body Bd
  have e0 : s₁.heap = h0 := by rw [← hh, Bd.state]; rfl
  have N0 := Fr.nil n0
  have pre0 : ∀ t, Steps p.tables e below (s₁.setTop (mkF m 0 #[.val (.ref a1), .val (.int p2), .val (.int p3)] [])) t → Steps p.tables e below (s₁.setTop (entryFrame m #[(.ref a1), (.int p2), (.int p3)] 3)) t := fun t k => castTop (own_ef12 m a1 p2 p3 ) k
  obtain ⟨cl_c1, Ar_c1, q_c1, S_c1, N_c1, H_c1, G_c1⟩ := id V_a1
  have sg0 : ∀ tgt, Steps p.tables e below (s₁.setTop (mkF m 18 #[.val (.ref a1), .val (.int p2), .val (.int p3)] [(.ref a1)])) tgt → Steps p.tables e below (s₁.setTop (mkF m 0 #[.val (.ref a1), .val (.int p2), .val (.int p3)] [])) tgt := by
    intro tgt kk
    show Steps p.tables e below (s₁.setTop (mkF m 0 #[.val (.ref a1), .val (.int p2), .val (.int p3)] [])) _
    refine XS.iloadN X0.here hx rfl (hb hby own_d12_0) rfl ?_
    show Steps p.tables e below (s₁.setTop (mkF m 1 #[.val (.ref a1), .val (.int p2), .val (.int p3)] [(.int p2)])) _
    refine XS.ifNo X0.here hx rfl (hb hby own_d12_1) rfl (XT.i0_ne_f hp2) ?_
    show Steps p.tables e below (s₁.setTop (mkF m 4 #[.val (.ref a1), .val (.int p2), .val (.int p3)] [])) _
    refine XS.iloadN X0.here hx rfl (hb hby own_d12_4) rfl ?_
    show Steps p.tables e below (s₁.setTop (mkF m 5 #[.val (.ref a1), .val (.int p2), .val (.int p3)] [(.int p3)])) _
    refine XS.aloadN X0.here hx rfl (hb hby own_d12_5) rfl rfl ?_
    show Steps p.tables e below (s₁.setTop (mkF m 6 #[.val (.ref a1), .val (.int p2), .val (.int p3)] [(.ref a1), (.int p3)])) _
    refine X0.arraylength hx (by rw [e0]; exact Ar_c1.1) (State.isArrayOf_alike hZ.alike Ar_c1.2.1) (g := (mkF m 6 #[.val (.ref a1), .val (.int p2), .val (.int p3)] [(.ref a1), (.int p3)])) rfl rfl (hb hby own_d12_6) _ ?_
    rw [len_of S_c1 N_c1]
    show Steps p.tables e below (s₁.setTop (mkF m 7 #[.val (.ref a1), .val (.int p2), .val (.int p3)] [(.int (Int32.ofNat N)), (.int p3)])) _
    refine XS.icmpYes X0.here hx rfl (pc0 := 7) (pc' := 17) rfl (hb hby own_d12_7) rfl (XT.ii_eq_t hp3) (by decide) (by decide) ?_
    show Steps p.tables e below (s₁.setTop (mkF m 17 #[.val (.ref a1), .val (.int p2), .val (.int p3)] [])) _
    refine XS.aloadN X0.here hx rfl (hb hby own_d12_17) rfl rfl ?_
    exact kk
  obtain ⟨T1, h1, X1, e1, E1, A1, B1, st1⟩ := cloneH X0 hx hZ hown (hw _ (List.mem_of_getElem? (i := 69) rfl)) (hw _ (List.mem_of_getElem? (i := 70) rfl)) (hw _ (List.mem_of_getElem? (i := 74) rfl)) (hw _ (List.mem_of_getElem? (i := 72) rfl)) (hw _ (List.mem_of_getElem? (i := 73) rfl)) (hw _ (List.mem_of_getElem? (i := 75) rfl)) e0 (Arv.arh V_a1) E_a1 (g := (mkF m 18 #[.val (.ref a1), .val (.int p2), .val (.int p3)] [(.ref a1)])) rfl (by rw [hml]; rfl) (rest := []) rfl (hb hby own_d12_18) (by decide) (W := 0) (cap := 16) (by show 2 * 0 + _ ≤ _; exact Nat.le_of_eq rfl) (by decide) (by rw [own_clamp (by omega)]; exact hN) (by decide) (by decide)
  obtain ⟨u, g1⟩ : ∃ z_, z_ = h0.size := ⟨_, rfl⟩
  rw [← g1] at A1 B1 st1
  have V_u : Arv Z h1 u kb .byte (Int32.ofNat N) vs (.int (0 : Int32)) := A1
  have s_u : h0.size ≤ u := Nat.le_of_eq g1.symm
  have g_u : n0 ≤ u := Nat.le_trans Z0 s_u
  have Z_2 : n0 ≤ h1.size := Nat.le_trans Z0 E1.1
  have K1 : Keep h0 h1 [] := (Keep.refl h0 []).ext E1
  have E_3 := Exa.ext E1 E_a1
  have V_4 := Arv.ext V_a1 E1
  obtain ⟨T2, X2, e2, st2⟩ := castY X1 hx hZ hown (hw _ (List.mem_of_getElem? (i := 76) rfl)) e1 (Ins.self B1) (g := (mkF m 21 #[.val (.ref a1), .val (.int p2), .val (.int p3)] [(.ref u)])) rfl rfl (hb hby own_d12_21)
  obtain ⟨fs, hr, hrun, hended, hW, hsame⟩ := X2.leave (v := some (.ref u)) (fun h => by rw [Bd.returns] at h; cases h)
  refine ⟨_, _, pre0 _ ?_, hrun, hended, _, _, rfl, ?_, ⟨_, rfl⟩, hW, hsame.mono (by decide) (by decide)⟩
  · refine sg0 _ ?_
    refine st1 _ ?_
    refine st2 _ ?_
    show Steps p.tables e below (T2.setTop (mkF m 24 #[.val (.ref a1), .val (.int p2), .val (.int p3)] [(.ref u)])) _
    show Steps p.tables e below (T2.setTop (mkF m 24 #[.val (.ref a1), .val (.int p2), .val (.int p3)] [(.ref u)])) _
    jvm_step X2.here [X2.here.top, hx, (hb hby own_d12_24), X2.method', Bd.returns, Value.isRef, FieldType.isReference]
    first | (intro acts; rw [hr _ acts rfl rfl rfl]) | rw [hr _ _ rfl rfl rfl]
    exact Steps.refl _
  · (show Q12 Z a1 p2 p3 kb N vs h0 n0 _ T2.heap _; rw [e2]; exact ⟨u, rfl, N0, K1, V_u, s_u⟩)
theorem own_pd9 : parseMethodDescriptor "()[B" = some ⟨[], some (.array .byte)⟩ := by decide +kernel
theorem own_pd10 : parseMethodDescriptor "([BII)[B" = some ⟨[(.array .byte), .int, .int], some (.array .byte)⟩ := by decide +kernel
theorem own_d7_0 : decode jdk_42_method_150_code 0 = .ok (.aload_n 0, 1) := by decide +kernel
theorem own_d7_1 : decode jdk_42_method_150_code 1 = .ok (.invokespecial 1, 3) := by decide +kernel
theorem own_d7_4 : decode jdk_42_method_150_code 4 = .ok (.aload_n 1, 1) := by decide +kernel
theorem own_d7_5 : decode jdk_42_method_150_code 5 = .ok (.invokevirtual 552, 3) := by decide +kernel
theorem own_d7_8 : decode jdk_42_method_150_code 8 = .ok (.astore_n 3, 1) := by decide +kernel
theorem own_d7_9 : decode jdk_42_method_150_code 9 = .ok (.aload_n 1, 1) := by decide +kernel
theorem own_d7_10 : decode jdk_42_method_150_code 10 = .ok (.invokevirtual 549, 3) := by decide +kernel
theorem own_d7_13 : decode jdk_42_method_150_code 13 = .ok (.istore 4, 2) := by decide +kernel
theorem own_d7_15 : decode jdk_42_method_150_code 15 = .ok (.aload_n 1, 1) := by decide +kernel
theorem own_d7_16 : decode jdk_42_method_150_code 16 = .ok (.invokevirtual 1047, 3) := by decide +kernel
theorem own_d7_19 : decode jdk_42_method_150_code 19 = .ok (.ifCond .eq 22, 3) := by decide +kernel
theorem own_d7_22 : decode jdk_42_method_150_code 22 = .ok (.aload_n 0, 1) := by decide +kernel
theorem own_d7_23 : decode jdk_42_method_150_code 23 = .ok (.iconst 0, 1) := by decide +kernel
theorem own_d7_24 : decode jdk_42_method_150_code 24 = .ok (.putfield 15, 3) := by decide +kernel
theorem own_d7_27 : decode jdk_42_method_150_code 27 = .ok (.aload_n 0, 1) := by decide +kernel
theorem own_d7_28 : decode jdk_42_method_150_code 28 = .ok (.aload_n 3, 1) := by decide +kernel
theorem own_d7_29 : decode jdk_42_method_150_code 29 = .ok (.iconst 0, 1) := by decide +kernel
theorem own_d7_30 : decode jdk_42_method_150_code 30 = .ok (.iload 4, 2) := by decide +kernel
theorem own_d7_32 : decode jdk_42_method_150_code 32 = .ok (.invokestatic 54, 3) := by decide +kernel
theorem own_d7_35 : decode jdk_42_method_150_code 35 = .ok (.putfield 9, 3) := by decide +kernel
theorem own_d7_38 : decode jdk_42_method_150_code 38 = .ok (.goto 59, 3) := by decide +kernel
theorem own_d7_97 : decode jdk_42_method_150_code 97 = .ok (.return_, 1) := by decide +kernel
theorem own_ef7 (m : MethodId) (a1 : Addr) (a2 : Addr)  : entryFrame m #[(.ref a1), (.ref a2), .null] 5 = mkF m 0 #[.val (.ref a1), .val (.ref a2), .val .null, .unset, .unset] [] := by first | (simp [entryFrame, mkF, argsToLocals, Value.category]; done) | rfl
def Q7 (Z : State) (a1 : Addr) (a2 : Addr) (t : Addr) (kb : ClassId) (N : Nat) (vs : List Value) (h0 : Heap) (n0 : Nat) (v : Option Value) (h : Heap) (L : List Loc) : Prop := v = none ∧ Fr n0 L ∧ Keep h0 h [a1] ∧ ∃ u : Addr, own_str Z h a1 u kb N vs ∧ h0.size ≤ u
set_option maxRecDepth 65536 in
set_option maxHeartbeats 40000000 in
theorem rm7 (l : Launch) (Z : State) (a0 : Array Value) (hw : ∀ d ∈ tables_1, d.before a0 Z = true) (ws : List Jvm.Cond) (a1 : Addr) (a2 : Addr) (t : Addr) (kb : ClassId) (N : Nat) (vs : List Value) (h0 : Heap) (n0 : Nat) (Z0 : n0 ≤ h0.size) (cz : Int32) (hcz : ¬ cz = 0) (O1 : Sta Z Z.heap "java/lang/String" "COMPACT_STRINGS" "Z" (.int cz)) (OL : Old Z Z.heap.size h0) (hnz : Z.heap.size ≤ n0) (E_a1 : Exa Z h0 a1 "java/lang/String") (Gv : Fld Z h0 a1 "java/lang/String" "value" "[B" .null)(Gc : Fld Z h0 a1 "java/lang/String" "coder" "B" (.int (0 : Int32))) (g_a1 : n0 ≤ a1) (BD : own_bld Z h0 a2 t kb N vs) (hN : N ≤ 16) (hl : vs.length = N) :
    MetFree l (⟨"java/lang/String", "<init>", "(Ljava/lang/AbstractStringBuilder;Ljava/lang/Void;)V"⟩ : MethodName) (head1 (Jvm.Cond.code (⟨"java/lang/String", "<init>", "(Ljava/lang/AbstractStringBuilder;Ljava/lang/Void;)V"⟩ : MethodName) jdk_42_method_150_code 5 none :: ws) ({ frames := 2, cells := 1, slots := 16, locals := 30 } : Room)) (fun a U => a = #[(.ref a1), (.ref a2), .null] ∧ Z.Warmed39 U.vm ∧ U.heap = h0) (fun _ _ _ _ _ => True) (fun _ U o U' => ∃ v L, o = .returned v ∧ Q7 Z a1 a2 t kb N vs h0 n0 v U'.heap L ∧ FrameEnd U o U' L ({ frames := 2, cells := 1, slots := 16, locals := 30 } : Room).cells ({ frames := 2, cells := 1, slots := 16, locals := 30 } : Room).slots) := by
  refine MetFree.of_bodySF (plainFor_of_name own_pn1) hisR ?_
  intro p e s m args below meth c s₁ Bd hml0 hP hK
  obtain ⟨rfl, hZ, hh⟩ := hP
  have hx := Bd.exec
  have hby := Bd.bytes
  have hml : c.maxLocals = 5 := hml0
  have hown : s.vm.findClass "java/lang/String" = some m.cls := findClass_of_methodNamed Bd.named
  have hnm := (name_of_methodNamed Bd.named Bd.method).1
  have X0 : Stand p l e ({ frames := 2, cells := 1, slots := 16, locals := 30 } : Room) s m #[(.ref a1), (.ref a2), .null] below meth c s₁ [] 0 0 := Stand.of_body Bd
  have e0 : s₁.heap = h0 := by rw [← hh, Bd.state]; rfl
  have N0 := Fr.nil n0
  have pre0 : ∀ t, Steps p.tables e below (s₁.setTop (mkF m 0 #[.val (.ref a1), .val (.ref a2), .val .null, .unset, .unset] [])) t → Steps p.tables e below (s₁.setTop (entryFrame m #[(.ref a1), (.ref a2), .null] 5)) t := fun t k => castTop (own_ef7 m a1 a2 ) k
  obtain ⟨E_a2, Fv, Fc, Fn, V_t, E_t⟩ := BD
  have sg0 : ∀ tgt, Steps p.tables e below (s₁.setTop (mkF m 1 #[.val (.ref a1), .val (.ref a2), .val .null, .unset, .unset] [(.ref a1)])) tgt → Steps p.tables e below (s₁.setTop (mkF m 0 #[.val (.ref a1), .val (.ref a2), .val .null, .unset, .unset] [])) tgt := by
    intro tgt kk
    show Steps p.tables e below (s₁.setTop (mkF m 0 #[.val (.ref a1), .val (.ref a2), .val .null, .unset, .unset] [])) _
    refine XS.aloadN X0.here hx rfl (hb hby own_d7_0) rfl rfl ?_
    exact kk
  obtain ⟨T1, X1, e1, st1⟩ := initO X0 hx hZ hown (hw _ (List.mem_of_getElem? (i := 41) rfl)) (hw _ (List.mem_of_getElem? (i := 19) rfl)) (hw _ (List.mem_of_getElem? (i := 20) rfl)) e0 (g := (mkF m 1 #[.val (.ref a1), .val (.ref a2), .val .null, .unset, .unset] [(.ref a1)])) rfl (by rw [hml]; rfl) rfl (hb hby own_d7_1) (by decide) (W := 0) (by show 2 * 0 + _ ≤ _; exact Nat.le_of_eq rfl) (by decide)
  have sg2 : ∀ tgt, Steps p.tables e below (T1.setTop (mkF m 5 #[.val (.ref a1), .val (.ref a2), .val .null, .unset, .unset] [(.ref a2)])) tgt → Steps p.tables e below (T1.setTop (mkF m 4 #[.val (.ref a1), .val (.ref a2), .val .null, .unset, .unset] [])) tgt := by
    intro tgt kk
    show Steps p.tables e below (T1.setTop (mkF m 4 #[.val (.ref a1), .val (.ref a2), .val .null, .unset, .unset] [])) _
    refine XS.aloadN X1.here hx rfl (hb hby own_d7_4) rfl rfl ?_
    exact kk
  obtain ⟨cq2, kq2, qa2, qb2, qc2⟩ := isOf hZ e1 E_a2
  obtain ⟨_, _, ⟨T2, L2, k2, n2⟩, -, X2, ⟨Lc2, hQ2, l2, y2, z2⟩, st2⟩ := X1.virtualBack hx (y := (⟨"java/lang/AbstractStringBuilder", "getValue", "()[B"⟩ : MethodName)) (z := (⟨"java/lang/AbstractStringBuilder", "getValue", "()[B"⟩ : MethodName)) hown (mvT hZ (hw _ (List.mem_of_getElem? (i := 42) rfl))) (mvT hZ (hw _ (List.mem_of_getElem? (i := 43) rfl))) (notFace_of_selects (args := #[]) (mvT hZ (hw _ (List.mem_of_getElem? (i := 45) rfl)))) (mvT hZ (hw _ (List.mem_of_getElem? (i := 45) rfl))) (mvT hZ (hw _ (List.mem_of_getElem? (i := 44) rfl))) (by decide) (backOf (W := 0) (rm8 l Z a0 hw [] a2 t h0 n0 Z0 Fv) hZ (hw _ (List.mem_of_getElem? (i := 46) rfl)) (hw _ (List.mem_of_getElem? (i := 16) rfl)) (by decide) (by decide)) qa2 qc2 (g := (mkF m 5 #[.val (.ref a1), .val (.ref a2), .val .null, .unset, .unset] [(.ref a2)])) rfl (by rw [hml]; rfl) (Steps.refl _) (argsL := []) (rest := []) (lenOf own_pd9 rfl) rfl (by show 2 * 0 + _ ≤ _; exact Nat.le_of_eq rfl) (hb hby own_d7_5) (fun _ _ => ⟨rfl, e1, (by decide : 0 + 0 ≤ _), (by decide : 0 + 0 ≤ _)⟩)
  dsimp only [Pt.U, Pt.locs, Pt.cells, Pt.slots] at X2 l2 y2 z2 st2 hQ2
  subst l2 y2 z2
  obtain ⟨rfl, N2q, e2⟩ := hQ2
  have N2 := Fr.app N0 N2q
  have sg4 : ∀ tgt, Steps p.tables e below (T2.setTop (mkF m 10 #[.val (.ref a1), .val (.ref a2), .val .null, .val (.ref t), .unset] [(.ref a2)])) tgt → Steps p.tables e below (T2.setTop (mkF m 8 #[.val (.ref a1), .val (.ref a2), .val .null, .unset, .unset] [(.ref t)])) tgt := by
    intro tgt kk
    show Steps p.tables e below (T2.setTop (mkF m 8 #[.val (.ref a1), .val (.ref a2), .val .null, .unset, .unset] [(.ref t)])) _
    refine XS.astoreN X2.here hx rfl (hb hby own_d7_8) rfl rfl (l' := #[.val (.ref a1), .val (.ref a2), .val .null, .val (.ref t), .unset]) rfl ?_
    show Steps p.tables e below (T2.setTop (mkF m 9 #[.val (.ref a1), .val (.ref a2), .val .null, .val (.ref t), .unset] [])) _
    refine XS.aloadN X2.here hx rfl (hb hby own_d7_9) rfl rfl ?_
    exact kk
  obtain ⟨cq3, kq3, qa3, qb3, qc3⟩ := isOf hZ e2 E_a2
  obtain ⟨_, _, ⟨T3, L3, k3, n3⟩, -, X3, ⟨Lc3, hQ3, l3, y3, z3⟩, st3⟩ := X2.virtualBack hx (y := (⟨"java/lang/AbstractStringBuilder", "length", "()I"⟩ : MethodName)) (z := (⟨"java/lang/StringBuilder", "length", "()I"⟩ : MethodName)) hown (mvT hZ (hw _ (List.mem_of_getElem? (i := 47) rfl))) (mvT hZ (hw _ (List.mem_of_getElem? (i := 48) rfl))) (own_nf (args := #[]) (mvT hZ (hw _ (List.mem_of_getElem? (i := 45) rfl))) rfl) (mvT hZ (hw _ (List.mem_of_getElem? (i := 50) rfl))) (mvT hZ (hw _ (List.mem_of_getElem? (i := 51) rfl))) (by decide) (backOf (W := 0) (rm9 l Z a0 hw [] a2 (Int32.ofNat vs.length) h0 n0 Z0 E_a2 Fn) hZ (hw _ (List.mem_of_getElem? (i := 52) rfl)) (hw _ (List.mem_of_getElem? (i := 8) rfl)) (by decide) (by decide)) qa3 qc3 (g := (mkF m 10 #[.val (.ref a1), .val (.ref a2), .val .null, .val (.ref t), .unset] [(.ref a2)])) rfl (by rw [hml]; rfl) (Steps.refl _) (argsL := []) (rest := []) (lenOf own_pd0 rfl) rfl (by show 2 * 0 + _ ≤ _; exact Nat.le_of_eq rfl) (hb hby own_d7_10) (fun _ _ => ⟨rfl, e2, (by decide : 0 + 0 ≤ _), (by decide : 0 + 0 ≤ _)⟩)
  dsimp only [Pt.U, Pt.locs, Pt.cells, Pt.slots] at X3 l3 y3 z3 st3 hQ3
  subst l3 y3 z3
  obtain ⟨rfl, N3q, e3⟩ := hQ3
  have N3 := Fr.app N2 N3q
  obtain ⟨v1, hv1⟩ : ∃ z_ : Int32, z_ = (Int32.ofNat vs.length) := ⟨_, rfl⟩
  have sg6 : ∀ tgt, Steps p.tables e below (T3.setTop (mkF m 16 #[.val (.ref a1), .val (.ref a2), .val .null, .val (.ref t), .val (.int v1)] [(.ref a2)])) tgt → Steps p.tables e below (T3.setTop (mkF m 13 #[.val (.ref a1), .val (.ref a2), .val .null, .val (.ref t), .unset] [(.int (Int32.ofNat vs.length))])) tgt := by
    intro tgt kk
    show Steps p.tables e below (T3.setTop (mkF m 13 #[.val (.ref a1), .val (.ref a2), .val .null, .val (.ref t), .unset] [(.int (Int32.ofNat vs.length))])) _
    refine XS.istore X3.here hx rfl (hb hby own_d7_13) rfl (l' := #[.val (.ref a1), .val (.ref a2), .val .null, .val (.ref t), .val (.int v1)]) (by rw [hv1]; rfl) ?_
    show Steps p.tables e below (T3.setTop (mkF m 15 #[.val (.ref a1), .val (.ref a2), .val .null, .val (.ref t), .val (.int v1)] [])) _
    refine XS.aloadN X3.here hx rfl (hb hby own_d7_15) rfl rfl ?_
    exact kk
  obtain ⟨cq4, kq4, qa4, qb4, qc4⟩ := isOf hZ e3 E_a2
  obtain ⟨_, _, ⟨T4, L4, k4, n4⟩, -, X4, ⟨Lc4, hQ4, l4, y4, z4⟩, st4⟩ := X3.virtualBack hx (y := (⟨"java/lang/AbstractStringBuilder", "isLatin1", "()Z"⟩ : MethodName)) (z := (⟨"java/lang/AbstractStringBuilder", "isLatin1", "()Z"⟩ : MethodName)) hown (mvT hZ (hw _ (List.mem_of_getElem? (i := 58) rfl))) (mvT hZ (hw _ (List.mem_of_getElem? (i := 59) rfl))) (notFace_of_selects (args := #[]) (mvT hZ (hw _ (List.mem_of_getElem? (i := 61) rfl)))) (mvT hZ (hw _ (List.mem_of_getElem? (i := 61) rfl))) (mvT hZ (hw _ (List.mem_of_getElem? (i := 60) rfl))) (by decide) (backOf (W := 0) (rm11 l Z a0 hw [] a2  h0 n0 Z0 cz hcz O1 OL hnz Fc) hZ (hw _ (List.mem_of_getElem? (i := 62) rfl)) (hw _ (List.mem_of_getElem? (i := 16) rfl)) (by decide) (by decide)) qa4 qc4 (g := (mkF m 16 #[.val (.ref a1), .val (.ref a2), .val .null, .val (.ref t), .val (.int v1)] [(.ref a2)])) rfl (by rw [hml]; rfl) (Steps.refl _) (argsL := []) (rest := []) (lenOf own_pd3 rfl) rfl (by show 2 * 0 + _ ≤ _; exact Nat.le_of_eq rfl) (hb hby own_d7_16) (fun _ _ => ⟨rfl, e3, (by decide : 0 + 0 ≤ _), (by decide : 0 + 0 ≤ _)⟩)
  dsimp only [Pt.U, Pt.locs, Pt.cells, Pt.slots] at X4 l4 y4 z4 st4 hQ4
  subst l4 y4 z4
  obtain ⟨rfl, N4q, e4⟩ := hQ4
  have N4 := Fr.app N3 N4q
  have sg8 : ∀ tgt, Steps p.tables e below (T4.setTop (mkF m 24 #[.val (.ref a1), .val (.ref a2), .val .null, .val (.ref t), .val (.int v1)] [(.int (0 : Int32)), (.ref a1)])) tgt → Steps p.tables e below (T4.setTop (mkF m 19 #[.val (.ref a1), .val (.ref a2), .val .null, .val (.ref t), .val (.int v1)] [(.int (1 : Int32))])) tgt := by
    intro tgt kk
    show Steps p.tables e below (T4.setTop (mkF m 19 #[.val (.ref a1), .val (.ref a2), .val .null, .val (.ref t), .val (.int v1)] [(.int (1 : Int32))])) _
    refine XS.ifNo X4.here hx rfl (hb hby own_d7_19) rfl (XT.i0_eq_f (by decide)) ?_
    show Steps p.tables e below (T4.setTop (mkF m 22 #[.val (.ref a1), .val (.ref a2), .val .null, .val (.ref t), .val (.int v1)] [])) _
    refine XS.aloadN X4.here hx rfl (hb hby own_d7_22) rfl rfl ?_
    show Steps p.tables e below (T4.setTop (mkF m 23 #[.val (.ref a1), .val (.ref a2), .val .null, .val (.ref t), .val (.int v1)] [(.ref a1)])) _
    refine XT.iconstV X4.here hx rfl (0 : Int32) (hb hby own_d7_23) (by decide) ?_
    exact kk
  obtain ⟨T5, h5, X5, e5, W5, st5⟩ := putFN X4 hx hZ hown (hw _ (List.mem_of_getElem? (i := 63) rfl)) Via.refl e4 Gc E_a1 (Or.inr ⟨(hw _ (List.mem_of_getElem? (i := 64) rfl)), rfl, hnm⟩) (hw _ (List.mem_of_getElem? (i := 33) rfl)) (ty := .byte) (v' := (.int (0 : Int32))) (by decide) rfl rfl (g := (mkF m 24 #[.val (.ref a1), .val (.ref a2), .val .null, .val (.ref t), .val (.int v1)] [(.int (0 : Int32)), (.ref a1)])) rfl rfl (hb hby own_d7_24)
  have N5 := Fr.snoc X5 N4 g_a1
  have K5 : Keep h0 h5 [a1] := (Keep.refl h0 [a1]).wr W5 (Or.inl (List.mem_of_getElem? (i := 0) rfl))
  have Z_1 : n0 ≤ h5.size := Nat.le_trans Z0 (Keep.of_wr W5).1
  have E_2 := Exa.wr W5 E_a1
  have E_3 := Exa.wr W5 E_a2
  have E_4 := Exa.wr W5 E_t
  have F_5 := Fld.other W5 Gv (Or.inr (slot_ne (Or.inr (hw _ (List.mem_of_getElem? (i := 79) rfl))) (Or.inr (hw _ (List.mem_of_getElem? (i := 64) rfl))) (by decide) (t := (.array .byte)) (t' := .byte) (by decide) (by decide)))
  have F_6 := Fld.same W5 Gc
  have V_7 := Arv.other V_t W5 (Exa.ne E_t E_a1 (by decide))
  have OL_8 := Old.wr OL W5 (Nat.le_trans hnz g_a1)
  have sg10 : ∀ tgt, Steps p.tables e below (T5.setTop (mkF m 32 #[.val (.ref a1), .val (.ref a2), .val .null, .val (.ref t), .val (.int v1)] [(.int v1), (.int (0 : Int32)), (.ref t), (.ref a1)])) tgt → Steps p.tables e below (T5.setTop (mkF m 27 #[.val (.ref a1), .val (.ref a2), .val .null, .val (.ref t), .val (.int v1)] [])) tgt := by
    intro tgt kk
    show Steps p.tables e below (T5.setTop (mkF m 27 #[.val (.ref a1), .val (.ref a2), .val .null, .val (.ref t), .val (.int v1)] [])) _
    refine XS.aloadN X5.here hx rfl (hb hby own_d7_27) rfl rfl ?_
    show Steps p.tables e below (T5.setTop (mkF m 28 #[.val (.ref a1), .val (.ref a2), .val .null, .val (.ref t), .val (.int v1)] [(.ref a1)])) _
    refine XS.aloadN X5.here hx rfl (hb hby own_d7_28) rfl rfl ?_
    show Steps p.tables e below (T5.setTop (mkF m 29 #[.val (.ref a1), .val (.ref a2), .val .null, .val (.ref t), .val (.int v1)] [(.ref t), (.ref a1)])) _
    refine XT.iconstV X5.here hx rfl (0 : Int32) (hb hby own_d7_29) (by decide) ?_
    show Steps p.tables e below (T5.setTop (mkF m 30 #[.val (.ref a1), .val (.ref a2), .val .null, .val (.ref t), .val (.int v1)] [(.int (0 : Int32)), (.ref t), (.ref a1)])) _
    refine XS.iload X5.here hx rfl (hb hby own_d7_30) rfl ?_
    exact kk
  -- pc 32: java/util/Arrays.copyOfRange
  obtain ⟨_, _, ⟨T6, L6, k6, n6⟩, -, X6, ⟨Lc6, hQ6, l6, y6, z6⟩, st6⟩ := Jvm.LawKit.callS X5 hx (y := (⟨"java/util/Arrays", "copyOfRange", "([BII)[B"⟩ : MethodName)) hown (mvT hZ (hw _ (List.mem_of_getElem? (i := 65) rfl))) (mvT hZ (hw _ (List.mem_of_getElem? (i := 66) rfl))) (mvT hZ (hw _ (List.mem_of_getElem? (i := 67) rfl))) (mvT hZ (hw _ (List.mem_of_getElem? (i := 68) rfl))) (by decide) (backOf (W := 1) (rm12 l Z a0 hw [] t (0 : Int32) v1 kb N vs h5 n0 Z_1 E_4 V_7 hN rfl (by rw [hv1, hl])) hZ (hw _ (List.mem_of_getElem? (i := 68) rfl)) (hw _ (List.mem_of_getElem? (i := 67) rfl)) (by decide) (by decide)) (g := (mkF m 32 #[.val (.ref a1), .val (.ref a2), .val .null, .val (.ref t), .val (.int v1)] [(.int v1), (.int (0 : Int32)), (.ref t), (.ref a1)])) rfl (by rw [hml]; rfl) (argsL := [(.ref t), (.int (0 : Int32)), (.int v1)]) (rest := [(.ref a1)]) (lenOf own_pd10 rfl) rfl (by show 2 * 0 + _ ≤ _; exact Nat.le_of_eq rfl) (hb hby own_d7_32) (fun _ _ => ⟨rfl, e5, (by decide : 0 + 1 ≤ _), (by decide : 0 + 16 ≤ _)⟩)
  dsimp only [Pt.U, Pt.locs, Pt.cells, Pt.slots] at X6 l6 y6 z6 st6 hQ6
  subst l6 y6 z6
  obtain ⟨u, rfl, N6q, KU, V_u, s_u⟩ := hQ6
  have Z_9 : n0 ≤ T6.heap.size := Nat.le_trans Z_1 KU.1
  have E_10 := Exa.keep E_2 KU
  have E_11 := Exa.keep E_3 KU
  have E_12 := Exa.keep E_4 KU
  have F_13 := Fld.keep F_5 KU own_nin0
  have F_14 := Fld.keep F_6 KU own_nin0
  have V_15 := Arv.keep V_7 KU own_nin0
  have OL_16 := Old.keep OL_8 KU (by intro x hx_; cases hx_)
  have N6 := Fr.app N5 N6q
  have KX : Keep h0 T6.heap [a1] := K5.trans KU (by intro x hx_; cases hx_)
  have s_u' : h0.size ≤ u := Nat.le_trans K5.1 s_u
  have ne_u : u ≠ a1 := Nat.ne_of_gt (Nat.lt_of_lt_of_le E_a1.lt s_u')
  obtain ⟨T7, h7, X7, e7, W7, st7⟩ := putF X6 hx hZ hown (host := "") (Or.inl (hw _ (List.mem_of_getElem? (i := 78) rfl))) Via.refl rfl F_13 E_10 (Or.inr ⟨(hw _ (List.mem_of_getElem? (i := 79) rfl)), rfl, hnm⟩) (hw _ (List.mem_of_getElem? (i := 33) rfl)) (ty := (.array .byte)) (by decide) rfl rfl (g := (mkF m 35 #[.val (.ref a1), .val (.ref a2), .val .null, .val (.ref t), .val (.int v1)] [(.ref u), (.ref a1)])) rfl rfl (hb hby own_d7_35)
  have N7 := Fr.snoc X7 N6 g_a1
  have K7 : Keep h0 h7 [a1] := KX.wr W7 (Or.inl (List.mem_of_getElem? (i := 0) rfl))
  have Z_17 : n0 ≤ h7.size := Nat.le_trans Z_9 (Keep.of_wr W7).1
  have E_18 := Exa.wr W7 E_10
  have E_19 := Exa.wr W7 E_11
  have E_20 := Exa.wr W7 E_12
  have F_21 := Fld.same W7 F_13
  have F_22 := Fld.other W7 F_14 (Or.inr (slot_ne (Or.inr (hw _ (List.mem_of_getElem? (i := 64) rfl))) (Or.inr (hw _ (List.mem_of_getElem? (i := 79) rfl))) (by decide) (t := .byte) (t' := (.array .byte)) (by decide) (by decide)))
  have V_23 := Arv.other V_15 W7 (Exa.ne E_12 E_10 (by decide))
  have V_24 := Arv.other V_u W7 ne_u
  have OL_25 := Old.wr OL_16 W7 (Nat.le_trans hnz g_a1)
  obtain ⟨fs, hr, hrun, hended, hW, hsame⟩ := X7.leave (v := none) (fun _ => rfl)
  refine ⟨_, _, pre0 _ ?_, hrun, hended, _, _, rfl, ?_, ⟨_, rfl⟩, hW, hsame.mono (by decide) (by decide)⟩
  · refine sg0 _ ?_
    refine st1 _ ?_
    refine sg2 _ ?_
    refine st2.trans ?_
    refine sg4 _ ?_
    refine st3.trans ?_
    refine sg6 _ ?_
    refine st4.trans ?_
    refine sg8 _ ?_
    refine st5 _ ?_
    refine sg10 _ ?_
    refine st6 _ ?_
    refine st7 _ ?_
    show Steps p.tables e below (T7.setTop (mkF m 38 #[.val (.ref a1), .val (.ref a2), .val .null, .val (.ref t), .val (.int v1)] [])) _
    refine XS.goto X7.here hx rfl (pc0 := 38) (pc' := 97) rfl (hb hby own_d7_38) (by decide) (by decide) ?_
    show Steps p.tables e below (T7.setTop (mkF m 97 #[.val (.ref a1), .val (.ref a2), .val .null, .val (.ref t), .val (.int v1)] [])) _
    exact X7.returnOut hx Bd.returns (hb hby own_d7_97) hr
  · (show Q7 Z a1 a2 t kb N vs h0 n0 _ T7.heap _; rw [e7]; exact ⟨rfl, N7, K7, u, ⟨E_18, F_22, F_21, V_24⟩, s_u'⟩)
theorem own_pd11 : parseMethodDescriptor "(Ljava/lang/AbstractStringBuilder;Ljava/lang/Void;)V" = some ⟨[(.object "java/lang/AbstractStringBuilder"), (.object "java/lang/Void")], none⟩ := by decide +kernel
theorem own_d6_0 : decode jdk_42_method_53_code 0 = .ok (.aload_n 0, 1) := by decide +kernel
theorem own_d6_1 : decode jdk_42_method_53_code 1 = .ok (.aload_n 1, 1) := by decide +kernel
theorem own_d6_2 : decode jdk_42_method_53_code 2 = .ok (.aconst_null, 1) := by decide +kernel
theorem own_d6_3 : decode jdk_42_method_53_code 3 = .ok (.invokespecial 489, 3) := by decide +kernel
theorem own_d6_6 : decode jdk_42_method_53_code 6 = .ok (.return_, 1) := by decide +kernel
theorem own_ef6 (m : MethodId) (a1 : Addr) (a2 : Addr)  : entryFrame m #[(.ref a1), (.ref a2)] 2 = mkF m 0 #[.val (.ref a1), .val (.ref a2)] [] := by first | (simp [entryFrame, mkF, argsToLocals, Value.category]; done) | rfl
def Q6 (Z : State) (a1 : Addr) (a2 : Addr) (t : Addr) (kb : ClassId) (N : Nat) (vs : List Value) (h0 : Heap) (n0 : Nat) (v : Option Value) (h : Heap) (L : List Loc) : Prop := v = none ∧ Fr n0 L ∧ Keep h0 h [a1] ∧ ∃ u : Addr, own_str Z h a1 u kb N vs ∧ h0.size ≤ u
set_option maxRecDepth 65536 in
set_option maxHeartbeats 40000000 in
theorem rm6 (l : Launch) (Z : State) (a0 : Array Value) (hw : ∀ d ∈ tables_1, d.before a0 Z = true) (ws : List Jvm.Cond) (a1 : Addr) (a2 : Addr) (t : Addr) (kb : ClassId) (N : Nat) (vs : List Value) (h0 : Heap) (n0 : Nat) (Z0 : n0 ≤ h0.size) (cz : Int32) (hcz : ¬ cz = 0) (O1 : Sta Z Z.heap "java/lang/String" "COMPACT_STRINGS" "Z" (.int cz)) (OL : Old Z Z.heap.size h0) (hnz : Z.heap.size ≤ n0) (E_a1 : Exa Z h0 a1 "java/lang/String") (Gv : Fld Z h0 a1 "java/lang/String" "value" "[B" .null)(Gc : Fld Z h0 a1 "java/lang/String" "coder" "B" (.int (0 : Int32))) (g_a1 : n0 ≤ a1) (BD : own_bld Z h0 a2 t kb N vs) (hN : N ≤ 16) (hl : vs.length = N) :
    MetFree l (⟨"java/lang/String", "<init>", "(Ljava/lang/StringBuilder;)V"⟩ : MethodName) (head1 (Jvm.Cond.code (⟨"java/lang/String", "<init>", "(Ljava/lang/StringBuilder;)V"⟩ : MethodName) jdk_42_method_53_code 2 none :: ws) ({ frames := 3, cells := 1, slots := 16, locals := 46 } : Room)) (fun a U => a = #[(.ref a1), (.ref a2)] ∧ Z.Warmed39 U.vm ∧ U.heap = h0) (fun _ _ _ _ _ => True) (fun _ U o U' => ∃ v L, o = .returned v ∧ Q6 Z a1 a2 t kb N vs h0 n0 v U'.heap L ∧ FrameEnd U o U' L ({ frames := 3, cells := 1, slots := 16, locals := 46 } : Room).cells ({ frames := 3, cells := 1, slots := 16, locals := 46 } : Room).slots) := by
  refine MetFree.of_bodySF (plainFor_of_name own_pn1) hisR ?_
  intro p e s m args below meth c s₁ Bd hml0 hP hK
  obtain ⟨rfl, hZ, hh⟩ := hP
  have hx := Bd.exec
  have hby := Bd.bytes
  have hml : c.maxLocals = 2 := hml0
  have hown : s.vm.findClass "java/lang/String" = some m.cls := findClass_of_methodNamed Bd.named
  have hnm := (name_of_methodNamed Bd.named Bd.method).1
  have X0 : Stand p l e ({ frames := 3, cells := 1, slots := 16, locals := 46 } : Room) s m #[(.ref a1), (.ref a2)] below meth c s₁ [] 0 0 := Stand.of_body Bd
  have e0 : s₁.heap = h0 := by rw [← hh, Bd.state]; rfl
  have N0 := Fr.nil n0
  have pre0 : ∀ t, Steps p.tables e below (s₁.setTop (mkF m 0 #[.val (.ref a1), .val (.ref a2)] [])) t → Steps p.tables e below (s₁.setTop (entryFrame m #[(.ref a1), (.ref a2)] 2)) t := fun t k => castTop (own_ef6 m a1 a2 ) k
  have sg0 : ∀ tgt, Steps p.tables e below (s₁.setTop (mkF m 3 #[.val (.ref a1), .val (.ref a2)] [.null, (.ref a2), (.ref a1)])) tgt → Steps p.tables e below (s₁.setTop (mkF m 0 #[.val (.ref a1), .val (.ref a2)] [])) tgt := by
    intro tgt kk
    show Steps p.tables e below (s₁.setTop (mkF m 0 #[.val (.ref a1), .val (.ref a2)] [])) _
    refine XS.aloadN X0.here hx rfl (hb hby own_d6_0) rfl rfl ?_
    show Steps p.tables e below (s₁.setTop (mkF m 1 #[.val (.ref a1), .val (.ref a2)] [(.ref a1)])) _
    refine XS.aloadN X0.here hx rfl (hb hby own_d6_1) rfl rfl ?_
    show Steps p.tables e below (s₁.setTop (mkF m 2 #[.val (.ref a1), .val (.ref a2)] [(.ref a2), (.ref a1)])) _
    refine XS.aconstNull X0.here hx rfl (hb hby own_d6_2) ?_
    exact kk
  obtain ⟨_, _, ⟨T1, L1, k1, n1⟩, -, X1, ⟨Lc1, hQ1, l1, y1, z1⟩, st1⟩ := X0.specialBack hx (y := (⟨"java/lang/String", "<init>", "(Ljava/lang/AbstractStringBuilder;Ljava/lang/Void;)V"⟩ : MethodName)) rfl hown (mvT hZ (hw _ (List.mem_of_getElem? (i := 38) rfl))) (mvT hZ (hw _ (List.mem_of_getElem? (i := 39) rfl))) (mvT hZ (hw _ (List.mem_of_getElem? (i := 40) rfl))) (by decide) (backOf (W := 0) (rm7 l Z a0 hw [] a1 a2 t kb N vs h0 n0 Z0 cz hcz O1 OL hnz E_a1 Gv Gc g_a1 BD hN hl) hZ (hw _ (List.mem_of_getElem? (i := 40) rfl)) (hw _ (List.mem_of_getElem? (i := 22) rfl)) (by decide) (by decide)) (g := (mkF m 3 #[.val (.ref a1), .val (.ref a2)] [.null, (.ref a2), (.ref a1)])) rfl (by rw [hml]; rfl) (Steps.refl _) (a := a1) (argsL := [(.ref a2), .null]) (rest := []) (lenOf own_pd11 rfl) rfl (by show 2 * 0 + _ ≤ _; exact Nat.le_of_eq rfl) (hb hby own_d6_3) (fun _ _ => ⟨rfl, e0, (by decide : 0 + 1 ≤ _), (by decide : 0 + 16 ≤ _)⟩)
  dsimp only [Pt.U, Pt.locs, Pt.cells, Pt.slots] at X1 l1 y1 z1 st1 hQ1
  subst l1 y1 z1
  obtain ⟨rfl, N1q, KK, BB⟩ := hQ1
  have Z_1 : n0 ≤ T1.heap.size := Nat.le_trans Z0 KK.1
  have E_2 := Exa.keep E_a1 KK
  have OL_3 := Old.keep OL KK (by intro x hx_; simp only [List.mem_cons, List.not_mem_nil, or_false] at hx_; subst hx_; first | exact Nat.le_trans hnz g_a1)
  have N1 := Fr.app N0 N1q
  obtain ⟨fs, hr, hrun, hended, hW, hsame⟩ := X1.leave (v := none) (fun _ => rfl)
  refine ⟨_, _, pre0 _ ?_, hrun, hended, _, _, rfl, ?_, ⟨_, rfl⟩, hW, hsame.mono (by decide) (by decide)⟩
  · refine sg0 _ ?_
    refine st1.trans ?_
    show Steps p.tables e below (T1.setTop (mkF m 6 #[.val (.ref a1), .val (.ref a2)] [])) _
    exact X1.returnOut hx Bd.returns (hb hby own_d6_6) hr
  · exact ⟨rfl, N1, KK, BB⟩
theorem own_pd12 : parseMethodDescriptor "(Ljava/lang/StringBuilder;)V" = some ⟨[(.object "java/lang/StringBuilder")], none⟩ := by decide +kernel
theorem own_d5_0 : decode jdk_67_method_42_code 0 = .ok (.new 18, 3) := by decide +kernel
theorem own_d5_3 : decode jdk_67_method_42_code 3 = .ok (.dup, 1) := by decide +kernel
theorem own_d5_4 : decode jdk_67_method_42_code 4 = .ok (.aload_n 0, 1) := by decide +kernel
theorem own_d5_5 : decode jdk_67_method_42_code 5 = .ok (.invokespecial 137, 3) := by decide +kernel
theorem own_d5_8 : decode jdk_67_method_42_code 8 = .ok (.areturn, 1) := by decide +kernel
theorem own_ef5 (m : MethodId) (a1 : Addr)  : entryFrame m #[(.ref a1)] 1 = mkF m 0 #[.val (.ref a1)] [] := by first | (simp [entryFrame, mkF, argsToLocals, Value.category]; done) | rfl
def Q5 (Z : State) (a1 : Addr) (t : Addr) (kb : ClassId) (N : Nat) (vs : List Value) (h0 : Heap) (n0 : Nat) (v : Option Value) (h : Heap) (L : List Loc) : Prop := ∃ r u : Addr, v = some (.ref r) ∧ Fr n0 L ∧ Keep h0 h [] ∧ own_str Z h r u kb N vs ∧ h0.size ≤ r ∧ h0.size ≤ u
set_option maxRecDepth 65536 in
set_option maxHeartbeats 40000000 in
theorem rm5 (l : Launch) (Z : State) (a0 : Array Value) (hw : ∀ d ∈ tables_1, d.before a0 Z = true) (ws : List Jvm.Cond) (a1 : Addr) (t : Addr) (kb : ClassId) (N : Nat) (vs : List Value) (h0 : Heap) (n0 : Nat) (Z0 : n0 ≤ h0.size) (cz : Int32) (hcz : ¬ cz = 0) (O1 : Sta Z Z.heap "java/lang/String" "COMPACT_STRINGS" "Z" (.int cz)) (OL : Old Z Z.heap.size h0) (hnz : Z.heap.size ≤ n0) (BD : own_bld Z h0 a1 t kb N vs) (hN : N ≤ 16) (hl : vs.length = N) :
    MetFree l (⟨"java/lang/StringBuilder", "toString", "()Ljava/lang/String;"⟩ : MethodName) (head1 (Jvm.Cond.code (⟨"java/lang/StringBuilder", "toString", "()Ljava/lang/String;"⟩ : MethodName) jdk_67_method_42_code 1 (some (.object "java/lang/String")) :: ws) ({ frames := 4, cells := 2, slots := 20, locals := 60 } : Room)) (fun a U => a = #[(.ref a1)] ∧ Z.Warmed39 U.vm ∧ U.heap = h0) (fun _ _ _ _ _ => True) (fun _ U o U' => ∃ v L, o = .returned v ∧ Q5 Z a1 t kb N vs h0 n0 v U'.heap L ∧ FrameEnd U o U' L ({ frames := 4, cells := 2, slots := 20, locals := 60 } : Room).cells ({ frames := 4, cells := 2, slots := 20, locals := 60 } : Room).slots) := by
  refine MetFree.of_bodySF (plainFor_of_name own_pn2) hisR ?_
  intro p e s m args below meth c s₁ Bd hml0 hP hK
  obtain ⟨rfl, hZ, hh⟩ := hP
  have hx := Bd.exec
  have hby := Bd.bytes
  have hml : c.maxLocals = 1 := hml0
  have hown : s.vm.findClass "java/lang/StringBuilder" = some m.cls := findClass_of_methodNamed Bd.named
  have hnm := (name_of_methodNamed Bd.named Bd.method).1
  have X0 : Stand p l e ({ frames := 4, cells := 2, slots := 20, locals := 60 } : Room) s m #[(.ref a1)] below meth c s₁ [] 0 0 := Stand.of_body Bd
  have e0 : s₁.heap = h0 := by rw [← hh, Bd.state]; rfl
  have N0 := Fr.nil n0
  have pre0 : ∀ t, Steps p.tables e below (s₁.setTop (mkF m 0 #[.val (.ref a1)] [])) t → Steps p.tables e below (s₁.setTop (entryFrame m #[(.ref a1)] 1)) t := fun t k => castTop (own_ef5 m a1 ) k
  obtain ⟨T1, h1, X1, e1, E1, A1, D1, -, st1⟩ := newO X0 hx hZ hown (hw _ (List.mem_of_getElem? (i := 32) rfl)) (hw _ (List.mem_of_getElem? (i := 33) rfl)) (hw _ (List.mem_of_getElem? (i := 22) rfl)) e0 (g := (mkF m 0 #[.val (.ref a1)] [])) rfl (hb hby own_d5_0) (by decide) (by decide)
  obtain ⟨r, g1⟩ : ∃ z_, z_ = h0.size := ⟨_, rfl⟩
  rw [← g1] at A1 D1 st1
  have g_r : n0 ≤ r := Nat.le_trans Z0 (Nat.le_of_eq g1.symm)
  have Z_1 : n0 ≤ h1.size := Nat.le_trans Z0 E1.1
  have s_r : h0.size ≤ r := Nat.le_of_eq g1.symm
  have K1 : Keep h0 h1 [] := (Keep.refl h0 []).ext E1
  have OL_2 := Old.ext OL E1
  have F_3 : Fld Z h1 r "java/lang/String" "coder" "B" (.int (0 : Int32)) := D1 (Or.inr (hw _ (List.mem_of_getElem? (i := 64) rfl))) (ty := .byte) (by decide)
  have F_4 : Fld Z h1 r "java/lang/String" "value" "[B" .null := D1 (Or.inr (hw _ (List.mem_of_getElem? (i := 79) rfl))) (ty := (.array .byte)) (by decide)
  have sg1 : ∀ tgt, Steps p.tables e below (T1.setTop (mkF m 5 #[.val (.ref a1)] [(.ref a1), (.ref r), (.ref r)])) tgt → Steps p.tables e below (T1.setTop (mkF m 3 #[.val (.ref a1)] [(.ref r)])) tgt := by
    intro tgt kk
    show Steps p.tables e below (T1.setTop (mkF m 3 #[.val (.ref a1)] [(.ref r)])) _
    refine XS.dup X1.here hx rfl (hb hby own_d5_3) rfl rfl ?_
    show Steps p.tables e below (T1.setTop (mkF m 4 #[.val (.ref a1)] [(.ref r), (.ref r)])) _
    refine XS.aloadN X1.here hx rfl (hb hby own_d5_4) rfl rfl ?_
    exact kk
  obtain ⟨_, _, ⟨T2, L2, k2, n2⟩, -, X2, ⟨Lc2, hQ2, l2, y2, z2⟩, st2⟩ := X1.specialBack hx (y := (⟨"java/lang/String", "<init>", "(Ljava/lang/StringBuilder;)V"⟩ : MethodName)) rfl hown (mvT hZ (hw _ (List.mem_of_getElem? (i := 34) rfl))) (mvT hZ (hw _ (List.mem_of_getElem? (i := 35) rfl))) (mvT hZ (hw _ (List.mem_of_getElem? (i := 37) rfl))) (by decide) (backOf (W := 1) (rm6 l Z a0 hw [] r a1 t kb N vs h1 n0 Z_1 cz hcz O1 OL_2 hnz A1 F_4 F_3 g_r (own_bld_ext BD E1) hN hl) hZ (hw _ (List.mem_of_getElem? (i := 37) rfl)) (hw _ (List.mem_of_getElem? (i := 22) rfl)) (by decide) (by decide)) (g := (mkF m 5 #[.val (.ref a1)] [(.ref a1), (.ref r), (.ref r)])) rfl (by rw [hml]; rfl) (Steps.refl _) (a := r) (argsL := [(.ref a1)]) (rest := [(.ref r)]) (lenOf own_pd12 rfl) rfl (by show 2 * 0 + _ ≤ _; exact Nat.le_of_eq rfl) (hb hby own_d5_5) (fun _ _ => ⟨rfl, e1, (by decide : 1 + 1 ≤ _), (by decide : 4 + 16 ≤ _)⟩)
  dsimp only [Pt.U, Pt.locs, Pt.cells, Pt.slots] at X2 l2 y2 z2 st2 hQ2
  subst l2 y2 z2
  obtain ⟨rfl, N2q, KK, u, BB, s_u⟩ := hQ2
  have Z_5 : n0 ≤ T2.heap.size := Nat.le_trans Z_1 KK.1
  have E_6 := Exa.keep A1 KK
  have OL_7 := Old.keep OL_2 KK (by intro x hx_; simp only [List.mem_cons, List.not_mem_nil, or_false] at hx_; subst hx_; first | exact Nat.le_trans hnz g_r)
  have N2 := Fr.app N0 N2q
  have KX : Keep h0 T2.heap [] := K1.trans KK (by intro x hx_; cases List.mem_singleton.mp hx_; exact Or.inr s_r)
  obtain ⟨fs, hr, hrun, hended, hW, hsame⟩ := X2.leave (v := some (.ref r)) (fun h => by rw [Bd.returns] at h; cases h)
  refine ⟨_, _, pre0 _ ?_, hrun, hended, _, _, rfl, ?_, ⟨_, rfl⟩, hW, hsame.mono (by decide) (by decide)⟩
  · refine st1 _ ?_
    refine sg1 _ ?_
    refine st2.trans ?_
    show Steps p.tables e below (T2.setTop (mkF m 8 #[.val (.ref a1)] [(.ref r)])) _
    show Steps p.tables e below (T2.setTop (mkF m 8 #[.val (.ref a1)] [(.ref r)])) _
    jvm_step X2.here [X2.here.top, hx, (hb hby own_d5_8), X2.method', Bd.returns, Value.isRef, FieldType.isReference]
    first | (intro acts; rw [hr _ acts rfl rfl rfl]) | rw [hr _ _ rfl rfl rfl]
    exact Steps.refl _
  · exact ⟨r, u, rfl, N2, KX, BB, s_r, Nat.le_trans K1.1 s_u⟩
theorem own_pn6 : plainName "com/example/mavs/mavs/activation/Base32EncodePinLaw" = true := by first | (simp [plainName, overriddenIn]; done) | decide +kernel
theorem own_d18_0 : decode method_3_code 0 = .ok (.iload 4, 2) := by decide +kernel
theorem own_d18_2 : decode method_3_code 2 = .ok (.bipush 8, 2) := by decide +kernel
theorem own_d18_4 : decode method_3_code 4 = .ok (.if_icmp .ge 7, 3) := by decide +kernel
theorem own_d18_7 : decode method_3_code 7 = .ok (.lload_n 0, 1) := by decide +kernel
theorem own_d18_8 : decode method_3_code 8 = .ok (.goto 4, 3) := by decide +kernel
theorem own_d18_11 : decode method_3_code 11 = .ok (.lload_n 2, 1) := by decide +kernel
theorem own_d18_12 : decode method_3_code 12 = .ok (.lstore 5, 2) := by decide +kernel
theorem own_d18_14 : decode method_3_code 14 = .ok (.bipush 8, 2) := by decide +kernel
theorem own_d18_16 : decode method_3_code 16 = .ok (.iload 4, 2) := by decide +kernel
theorem own_d18_18 : decode method_3_code 18 = .ok (.bipush 8, 2) := by decide +kernel
theorem own_d18_20 : decode method_3_code 20 = .ok (.if_icmp .ge 8, 3) := by decide +kernel
theorem own_d18_23 : decode method_3_code 23 = .ok (.iload 4, 2) := by decide +kernel
theorem own_d18_25 : decode method_3_code 25 = .ok (.goto 8, 3) := by decide +kernel
theorem own_d18_28 : decode method_3_code 28 = .ok (.iload 4, 2) := by decide +kernel
theorem own_d18_30 : decode method_3_code 30 = .ok (.bipush 8, 2) := by decide +kernel
theorem own_d18_32 : decode method_3_code 32 = .ok (.isub, 1) := by decide +kernel
theorem own_d18_33 : decode method_3_code 33 = .ok (.imul, 1) := by decide +kernel
theorem own_d18_34 : decode method_3_code 34 = .ok (.istore 7, 2) := by decide +kernel
theorem own_d18_36 : decode method_3_code 36 = .ok (.lload 5, 2) := by decide +kernel
theorem own_d18_38 : decode method_3_code 38 = .ok (.iload 7, 2) := by decide +kernel
theorem own_d18_40 : decode method_3_code 40 = .ok (.lushr, 1) := by decide +kernel
theorem own_d18_41 : decode method_3_code 41 = .ok (.ldc2_w 34, 3) := by decide +kernel
theorem own_d18_44 : decode method_3_code 44 = .ok (.land, 1) := by decide +kernel
theorem own_d18_45 : decode method_3_code 45 = .ok (.l2i, 1) := by decide +kernel
theorem own_d18_46 : decode method_3_code 46 = .ok (.ireturn, 1) := by decide +kernel
theorem own_ef18 (m : MethodId) (q1 : Int64) (q2 : Int64) (p3 : Int32)  : entryFrame m #[(.long q1), (.long q2), (.int p3)] 8 = mkF m 0 #[.val (.long q1), .second, .val (.long q2), .second, .val (.int p3), .unset, .unset, .unset] [] := by first | (simp [entryFrame, mkF, argsToLocals, Value.category]; done) | rfl
def Q18 (Z : State) (q1 : Int64) (q2 : Int64) (p3 : Int32)  (h0 : Heap) (n0 : Nat) (v : Option Value) (h : Heap) (L : List Loc) : Prop := v = some (.int (own_raw q1 q2 p3)) ∧ Fr n0 L ∧ h = h0
set_option maxRecDepth 65536 in
set_option maxHeartbeats 40000000 in
theorem rm18 (l : Launch) (Z : State) (a0 : Array Value) (hw : ∀ d ∈ tables_1, d.before a0 Z = true) (ws : List Jvm.Cond) (q1 : Int64) (q2 : Int64) (p3 : Int32)  (h0 : Heap) (n0 : Nat) (Z0 : n0 ≤ h0.size)  :
    MetFree l (⟨"com/example/mavs/mavs/activation/Base32EncodePinLaw", "rawByte", "(JJI)I"⟩ : MethodName) (head1 (Jvm.Cond.code (⟨"com/example/mavs/mavs/activation/Base32EncodePinLaw", "rawByte", "(JJI)I"⟩ : MethodName) method_3_code 8 (some .int) :: ws) ({ frames := 0, cells := 0, slots := 0, locals := 0 } : Room)) (fun a U => a = #[(.long q1), (.long q2), (.int p3)] ∧ Z.Warmed39 U.vm ∧ U.heap = h0) (fun _ _ _ _ _ => True) (fun _ U o U' => ∃ v L, o = .returned v ∧ Q18 Z q1 q2 p3  h0 n0 v U'.heap L ∧ FrameEnd U o U' L ({ frames := 0, cells := 0, slots := 0, locals := 0 } : Room).cells ({ frames := 0, cells := 0, slots := 0, locals := 0 } : Room).slots) := by
  refine MetFree.of_bodySF (plainFor_of_name own_pn6) hisR ?_
  intro p e s m args below meth c s₁ Bd hml0 hP hK
  obtain ⟨rfl, hZ, hh⟩ := hP
  have hx := Bd.exec
  have hby := Bd.bytes
  have hml : c.maxLocals = 8 := hml0
  have hown : s.vm.findClass "com/example/mavs/mavs/activation/Base32EncodePinLaw" = some m.cls := findClass_of_methodNamed Bd.named
  have hnm := (name_of_methodNamed Bd.named Bd.method).1
  have X0 : Stand p l e ({ frames := 0, cells := 0, slots := 0, locals := 0 } : Room) s m #[(.long q1), (.long q2), (.int p3)] below meth c s₁ [] 0 0 := Stand.of_body Bd
  have e0 : s₁.heap = h0 := by rw [← hh, Bd.state]; rfl
  have N0 := Fr.nil n0
  have pre0 : ∀ t, Steps p.tables e below (s₁.setTop (mkF m 0 #[.val (.long q1), .second, .val (.long q2), .second, .val (.int p3), .unset, .unset, .unset] [])) t → Steps p.tables e below (s₁.setTop (entryFrame m #[(.long q1), (.long q2), (.int p3)] 8)) t := fun t k => castTop (own_ef18 m q1 q2 p3 ) k
  obtain ⟨fs, hr, hrun, hended, hW, hsame⟩ := X0.leave (v := some (.int (own_raw q1 q2 p3))) (fun h => by rw [Bd.returns] at h; cases h)
  refine ⟨_, _, pre0 _ ?_, hrun, hended, _, _, rfl, ?_, ⟨_, rfl⟩, hW, hsame.mono (by decide) (by decide)⟩
  · show Steps p.tables e below (s₁.setTop (mkF m 0 #[.val (.long q1), .second, .val (.long q2), .second, .val (.int p3), .unset, .unset, .unset] [])) _
    refine XS.iload X0.here hx rfl (hb hby own_d18_0) rfl ?_
    show Steps p.tables e below (s₁.setTop (mkF m 2 #[.val (.long q1), .second, .val (.long q2), .second, .val (.int p3), .unset, .unset, .unset] [(.int p3)])) _
    refine XT.bipushV X0.here hx rfl (8 : Int32) (hb hby own_d18_2) (by decide) ?_
    show Steps p.tables e below (s₁.setTop (mkF m 4 #[.val (.long q1), .second, .val (.long q2), .second, .val (.int p3), .unset, .unset, .unset] [(.int (8 : Int32)), (.int p3)])) _
    by_cases hc4 : p3 < (8 : Int32)
    · refine XS.icmpNo X0.here hx rfl (hb hby own_d18_4) rfl (XT.ii_ge_f hc4) ?_
      show Steps p.tables e below (s₁.setTop (mkF m 7 #[.val (.long q1), .second, .val (.long q2), .second, .val (.int p3), .unset, .unset, .unset] [])) _
      refine XT.lloadN X0.here hx rfl (hb hby own_d18_7) rfl ?_
      show Steps p.tables e below (s₁.setTop (mkF m 8 #[.val (.long q1), .second, .val (.long q2), .second, .val (.int p3), .unset, .unset, .unset] [(.long q1)])) _
      refine XS.goto X0.here hx rfl (pc0 := 8) (pc' := 12) rfl (hb hby own_d18_8) (by decide) (by decide) ?_
      show Steps p.tables e below (s₁.setTop (mkF m 12 #[.val (.long q1), .second, .val (.long q2), .second, .val (.int p3), .unset, .unset, .unset] [(.long q1)])) _
      refine XT.lstore X0.here hx rfl (hb hby own_d18_12) rfl (l' := #[.val (.long q1), .second, .val (.long q2), .second, .val (.int p3), .val (.long q1), .second, .unset]) rfl ?_
      show Steps p.tables e below (s₁.setTop (mkF m 14 #[.val (.long q1), .second, .val (.long q2), .second, .val (.int p3), .val (.long q1), .second, .unset] [])) _
      refine XT.bipushV X0.here hx rfl (8 : Int32) (hb hby own_d18_14) (by decide) ?_
      show Steps p.tables e below (s₁.setTop (mkF m 16 #[.val (.long q1), .second, .val (.long q2), .second, .val (.int p3), .val (.long q1), .second, .unset] [(.int (8 : Int32))])) _
      refine XS.iload X0.here hx rfl (hb hby own_d18_16) rfl ?_
      show Steps p.tables e below (s₁.setTop (mkF m 18 #[.val (.long q1), .second, .val (.long q2), .second, .val (.int p3), .val (.long q1), .second, .unset] [(.int p3), (.int (8 : Int32))])) _
      refine XT.bipushV X0.here hx rfl (8 : Int32) (hb hby own_d18_18) (by decide) ?_
      show Steps p.tables e below (s₁.setTop (mkF m 20 #[.val (.long q1), .second, .val (.long q2), .second, .val (.int p3), .val (.long q1), .second, .unset] [(.int (8 : Int32)), (.int p3), (.int (8 : Int32))])) _
      by_cases hc20 : p3 < (8 : Int32)
      · refine XS.icmpNo X0.here hx rfl (hb hby own_d18_20) rfl (XT.ii_ge_f hc20) ?_
        show Steps p.tables e below (s₁.setTop (mkF m 23 #[.val (.long q1), .second, .val (.long q2), .second, .val (.int p3), .val (.long q1), .second, .unset] [(.int (8 : Int32))])) _
        refine XS.iload X0.here hx rfl (hb hby own_d18_23) rfl ?_
        show Steps p.tables e below (s₁.setTop (mkF m 25 #[.val (.long q1), .second, .val (.long q2), .second, .val (.int p3), .val (.long q1), .second, .unset] [(.int p3), (.int (8 : Int32))])) _
        refine XS.goto X0.here hx rfl (pc0 := 25) (pc' := 33) rfl (hb hby own_d18_25) (by decide) (by decide) ?_
        show Steps p.tables e below (s₁.setTop (mkF m 33 #[.val (.long q1), .second, .val (.long q2), .second, .val (.int p3), .val (.long q1), .second, .unset] [(.int p3), (.int (8 : Int32))])) _
        refine XS.imul X0.here hx rfl (hb hby own_d18_33) rfl ?_
        show Steps p.tables e below (s₁.setTop (mkF m 34 #[.val (.long q1), .second, .val (.long q2), .second, .val (.int p3), .val (.long q1), .second, .unset] [(.int ((8 : Int32) * p3))])) _
        refine XS.istore X0.here hx rfl (hb hby own_d18_34) rfl (l' := #[.val (.long q1), .second, .val (.long q2), .second, .val (.int p3), .val (.long q1), .second, .val (.int ((8 : Int32) * p3))]) rfl ?_
        show Steps p.tables e below (s₁.setTop (mkF m 36 #[.val (.long q1), .second, .val (.long q2), .second, .val (.int p3), .val (.long q1), .second, .val (.int ((8 : Int32) * p3))] [])) _
        refine XT.lload X0.here hx rfl (hb hby own_d18_36) rfl ?_
        show Steps p.tables e below (s₁.setTop (mkF m 38 #[.val (.long q1), .second, .val (.long q2), .second, .val (.int p3), .val (.long q1), .second, .val (.int ((8 : Int32) * p3))] [(.long q1)])) _
        refine XS.iload X0.here hx rfl (hb hby own_d18_38) rfl ?_
        show Steps p.tables e below (s₁.setTop (mkF m 40 #[.val (.long q1), .second, .val (.long q2), .second, .val (.int p3), .val (.long q1), .second, .val (.int ((8 : Int32) * p3))] [(.int ((8 : Int32) * p3)), (.long q1)])) _
        refine XT.lushr X0.here hx rfl (hb hby own_d18_40) rfl ?_
        show Steps p.tables e below (s₁.setTop (mkF m 41 #[.val (.long q1), .second, .val (.long q2), .second, .val (.int p3), .val (.long q1), .second, .val (.int ((8 : Int32) * p3))] [(.long (XT.ushrL q1 ((8 : Int32) * p3)))])) _
        refine X0.ldc2J hx hown (mvT hZ (hw _ (List.mem_of_getElem? (i := 104) rfl))) rfl (hb hby own_d18_41) ?_
        show Steps p.tables e below (s₁.setTop (mkF m 44 #[.val (.long q1), .second, .val (.long q2), .second, .val (.int p3), .val (.long q1), .second, .val (.int ((8 : Int32) * p3))] [(.long (255 : Int64)), (.long (XT.ushrL q1 ((8 : Int32) * p3)))])) _
        refine XT.land X0.here hx rfl (hb hby own_d18_44) rfl ?_
        show Steps p.tables e below (s₁.setTop (mkF m 45 #[.val (.long q1), .second, .val (.long q2), .second, .val (.int p3), .val (.long q1), .second, .val (.int ((8 : Int32) * p3))] [(.long ((XT.ushrL q1 ((8 : Int32) * p3)) &&& (255 : Int64)))])) _
        refine XT.l2i X0.here hx rfl (hb hby own_d18_45) rfl ?_
        show Steps p.tables e below (s₁.setTop (mkF m 46 #[.val (.long q1), .second, .val (.long q2), .second, .val (.int p3), .val (.long q1), .second, .val (.int ((8 : Int32) * p3))] [(.int (((XT.ushrL q1 ((8 : Int32) * p3)) &&& (255 : Int64)).toInt32))])) _
        exact retI X0 hx Bd.returns (hb hby own_d18_46) (by rw [show (((XT.ushrL q1 ((8 : Int32) * p3)) &&& (255 : Int64)).toInt32) = (own_raw q1 q2 p3) from (by first | (simp only [own_raw, if_pos hc4, if_pos hc20]; done) | exact absurd hc4 hc20 | exact absurd hc20 hc4)]; exact hr)
      · refine XS.icmpYes X0.here hx rfl (pc0 := 20) (pc' := 28) rfl (hb hby own_d18_20) rfl (XT.ii_ge_t hc20) (by decide) (by decide) ?_
        show Steps p.tables e below (s₁.setTop (mkF m 28 #[.val (.long q1), .second, .val (.long q2), .second, .val (.int p3), .val (.long q1), .second, .unset] [(.int (8 : Int32))])) _
        refine XS.iload X0.here hx rfl (hb hby own_d18_28) rfl ?_
        show Steps p.tables e below (s₁.setTop (mkF m 30 #[.val (.long q1), .second, .val (.long q2), .second, .val (.int p3), .val (.long q1), .second, .unset] [(.int p3), (.int (8 : Int32))])) _
        refine XT.bipushV X0.here hx rfl (8 : Int32) (hb hby own_d18_30) (by decide) ?_
        show Steps p.tables e below (s₁.setTop (mkF m 32 #[.val (.long q1), .second, .val (.long q2), .second, .val (.int p3), .val (.long q1), .second, .unset] [(.int (8 : Int32)), (.int p3), (.int (8 : Int32))])) _
        refine XS.isub X0.here hx rfl (hb hby own_d18_32) rfl ?_
        show Steps p.tables e below (s₁.setTop (mkF m 33 #[.val (.long q1), .second, .val (.long q2), .second, .val (.int p3), .val (.long q1), .second, .unset] [(.int (p3 - (8 : Int32))), (.int (8 : Int32))])) _
        refine XS.imul X0.here hx rfl (hb hby own_d18_33) rfl ?_
        show Steps p.tables e below (s₁.setTop (mkF m 34 #[.val (.long q1), .second, .val (.long q2), .second, .val (.int p3), .val (.long q1), .second, .unset] [(.int ((8 : Int32) * (p3 - (8 : Int32))))])) _
        refine XS.istore X0.here hx rfl (hb hby own_d18_34) rfl (l' := #[.val (.long q1), .second, .val (.long q2), .second, .val (.int p3), .val (.long q1), .second, .val (.int ((8 : Int32) * (p3 - (8 : Int32))))]) rfl ?_
        show Steps p.tables e below (s₁.setTop (mkF m 36 #[.val (.long q1), .second, .val (.long q2), .second, .val (.int p3), .val (.long q1), .second, .val (.int ((8 : Int32) * (p3 - (8 : Int32))))] [])) _
        refine XT.lload X0.here hx rfl (hb hby own_d18_36) rfl ?_
        show Steps p.tables e below (s₁.setTop (mkF m 38 #[.val (.long q1), .second, .val (.long q2), .second, .val (.int p3), .val (.long q1), .second, .val (.int ((8 : Int32) * (p3 - (8 : Int32))))] [(.long q1)])) _
        refine XS.iload X0.here hx rfl (hb hby own_d18_38) rfl ?_
        show Steps p.tables e below (s₁.setTop (mkF m 40 #[.val (.long q1), .second, .val (.long q2), .second, .val (.int p3), .val (.long q1), .second, .val (.int ((8 : Int32) * (p3 - (8 : Int32))))] [(.int ((8 : Int32) * (p3 - (8 : Int32)))), (.long q1)])) _
        refine XT.lushr X0.here hx rfl (hb hby own_d18_40) rfl ?_
        show Steps p.tables e below (s₁.setTop (mkF m 41 #[.val (.long q1), .second, .val (.long q2), .second, .val (.int p3), .val (.long q1), .second, .val (.int ((8 : Int32) * (p3 - (8 : Int32))))] [(.long (XT.ushrL q1 ((8 : Int32) * (p3 - (8 : Int32)))))])) _
        refine X0.ldc2J hx hown (mvT hZ (hw _ (List.mem_of_getElem? (i := 104) rfl))) rfl (hb hby own_d18_41) ?_
        show Steps p.tables e below (s₁.setTop (mkF m 44 #[.val (.long q1), .second, .val (.long q2), .second, .val (.int p3), .val (.long q1), .second, .val (.int ((8 : Int32) * (p3 - (8 : Int32))))] [(.long (255 : Int64)), (.long (XT.ushrL q1 ((8 : Int32) * (p3 - (8 : Int32)))))])) _
        refine XT.land X0.here hx rfl (hb hby own_d18_44) rfl ?_
        show Steps p.tables e below (s₁.setTop (mkF m 45 #[.val (.long q1), .second, .val (.long q2), .second, .val (.int p3), .val (.long q1), .second, .val (.int ((8 : Int32) * (p3 - (8 : Int32))))] [(.long ((XT.ushrL q1 ((8 : Int32) * (p3 - (8 : Int32)))) &&& (255 : Int64)))])) _
        refine XT.l2i X0.here hx rfl (hb hby own_d18_45) rfl ?_
        show Steps p.tables e below (s₁.setTop (mkF m 46 #[.val (.long q1), .second, .val (.long q2), .second, .val (.int p3), .val (.long q1), .second, .val (.int ((8 : Int32) * (p3 - (8 : Int32))))] [(.int (((XT.ushrL q1 ((8 : Int32) * (p3 - (8 : Int32)))) &&& (255 : Int64)).toInt32))])) _
        exact retI X0 hx Bd.returns (hb hby own_d18_46) (by rw [show (((XT.ushrL q1 ((8 : Int32) * (p3 - (8 : Int32)))) &&& (255 : Int64)).toInt32) = (own_raw q1 q2 p3) from (by first | (simp only [own_raw, if_pos hc4, if_neg hc20]; done) | exact absurd hc4 hc20 | exact absurd hc20 hc4)]; exact hr)
    · refine XS.icmpYes X0.here hx rfl (pc0 := 4) (pc' := 11) rfl (hb hby own_d18_4) rfl (XT.ii_ge_t hc4) (by decide) (by decide) ?_
      show Steps p.tables e below (s₁.setTop (mkF m 11 #[.val (.long q1), .second, .val (.long q2), .second, .val (.int p3), .unset, .unset, .unset] [])) _
      refine XT.lloadN X0.here hx rfl (hb hby own_d18_11) rfl ?_
      show Steps p.tables e below (s₁.setTop (mkF m 12 #[.val (.long q1), .second, .val (.long q2), .second, .val (.int p3), .unset, .unset, .unset] [(.long q2)])) _
      refine XT.lstore X0.here hx rfl (hb hby own_d18_12) rfl (l' := #[.val (.long q1), .second, .val (.long q2), .second, .val (.int p3), .val (.long q2), .second, .unset]) rfl ?_
      show Steps p.tables e below (s₁.setTop (mkF m 14 #[.val (.long q1), .second, .val (.long q2), .second, .val (.int p3), .val (.long q2), .second, .unset] [])) _
      refine XT.bipushV X0.here hx rfl (8 : Int32) (hb hby own_d18_14) (by decide) ?_
      show Steps p.tables e below (s₁.setTop (mkF m 16 #[.val (.long q1), .second, .val (.long q2), .second, .val (.int p3), .val (.long q2), .second, .unset] [(.int (8 : Int32))])) _
      refine XS.iload X0.here hx rfl (hb hby own_d18_16) rfl ?_
      show Steps p.tables e below (s₁.setTop (mkF m 18 #[.val (.long q1), .second, .val (.long q2), .second, .val (.int p3), .val (.long q2), .second, .unset] [(.int p3), (.int (8 : Int32))])) _
      refine XT.bipushV X0.here hx rfl (8 : Int32) (hb hby own_d18_18) (by decide) ?_
      show Steps p.tables e below (s₁.setTop (mkF m 20 #[.val (.long q1), .second, .val (.long q2), .second, .val (.int p3), .val (.long q2), .second, .unset] [(.int (8 : Int32)), (.int p3), (.int (8 : Int32))])) _
      by_cases hc20 : p3 < (8 : Int32)
      · refine XS.icmpNo X0.here hx rfl (hb hby own_d18_20) rfl (XT.ii_ge_f hc20) ?_
        show Steps p.tables e below (s₁.setTop (mkF m 23 #[.val (.long q1), .second, .val (.long q2), .second, .val (.int p3), .val (.long q2), .second, .unset] [(.int (8 : Int32))])) _
        refine XS.iload X0.here hx rfl (hb hby own_d18_23) rfl ?_
        show Steps p.tables e below (s₁.setTop (mkF m 25 #[.val (.long q1), .second, .val (.long q2), .second, .val (.int p3), .val (.long q2), .second, .unset] [(.int p3), (.int (8 : Int32))])) _
        refine XS.goto X0.here hx rfl (pc0 := 25) (pc' := 33) rfl (hb hby own_d18_25) (by decide) (by decide) ?_
        show Steps p.tables e below (s₁.setTop (mkF m 33 #[.val (.long q1), .second, .val (.long q2), .second, .val (.int p3), .val (.long q2), .second, .unset] [(.int p3), (.int (8 : Int32))])) _
        refine XS.imul X0.here hx rfl (hb hby own_d18_33) rfl ?_
        show Steps p.tables e below (s₁.setTop (mkF m 34 #[.val (.long q1), .second, .val (.long q2), .second, .val (.int p3), .val (.long q2), .second, .unset] [(.int ((8 : Int32) * p3))])) _
        refine XS.istore X0.here hx rfl (hb hby own_d18_34) rfl (l' := #[.val (.long q1), .second, .val (.long q2), .second, .val (.int p3), .val (.long q2), .second, .val (.int ((8 : Int32) * p3))]) rfl ?_
        show Steps p.tables e below (s₁.setTop (mkF m 36 #[.val (.long q1), .second, .val (.long q2), .second, .val (.int p3), .val (.long q2), .second, .val (.int ((8 : Int32) * p3))] [])) _
        refine XT.lload X0.here hx rfl (hb hby own_d18_36) rfl ?_
        show Steps p.tables e below (s₁.setTop (mkF m 38 #[.val (.long q1), .second, .val (.long q2), .second, .val (.int p3), .val (.long q2), .second, .val (.int ((8 : Int32) * p3))] [(.long q2)])) _
        refine XS.iload X0.here hx rfl (hb hby own_d18_38) rfl ?_
        show Steps p.tables e below (s₁.setTop (mkF m 40 #[.val (.long q1), .second, .val (.long q2), .second, .val (.int p3), .val (.long q2), .second, .val (.int ((8 : Int32) * p3))] [(.int ((8 : Int32) * p3)), (.long q2)])) _
        refine XT.lushr X0.here hx rfl (hb hby own_d18_40) rfl ?_
        show Steps p.tables e below (s₁.setTop (mkF m 41 #[.val (.long q1), .second, .val (.long q2), .second, .val (.int p3), .val (.long q2), .second, .val (.int ((8 : Int32) * p3))] [(.long (XT.ushrL q2 ((8 : Int32) * p3)))])) _
        refine X0.ldc2J hx hown (mvT hZ (hw _ (List.mem_of_getElem? (i := 104) rfl))) rfl (hb hby own_d18_41) ?_
        show Steps p.tables e below (s₁.setTop (mkF m 44 #[.val (.long q1), .second, .val (.long q2), .second, .val (.int p3), .val (.long q2), .second, .val (.int ((8 : Int32) * p3))] [(.long (255 : Int64)), (.long (XT.ushrL q2 ((8 : Int32) * p3)))])) _
        refine XT.land X0.here hx rfl (hb hby own_d18_44) rfl ?_
        show Steps p.tables e below (s₁.setTop (mkF m 45 #[.val (.long q1), .second, .val (.long q2), .second, .val (.int p3), .val (.long q2), .second, .val (.int ((8 : Int32) * p3))] [(.long ((XT.ushrL q2 ((8 : Int32) * p3)) &&& (255 : Int64)))])) _
        refine XT.l2i X0.here hx rfl (hb hby own_d18_45) rfl ?_
        show Steps p.tables e below (s₁.setTop (mkF m 46 #[.val (.long q1), .second, .val (.long q2), .second, .val (.int p3), .val (.long q2), .second, .val (.int ((8 : Int32) * p3))] [(.int (((XT.ushrL q2 ((8 : Int32) * p3)) &&& (255 : Int64)).toInt32))])) _
        exact retI X0 hx Bd.returns (hb hby own_d18_46) (by rw [show (((XT.ushrL q2 ((8 : Int32) * p3)) &&& (255 : Int64)).toInt32) = (own_raw q1 q2 p3) from (by first | (simp only [own_raw, if_neg hc4, if_pos hc20]; done) | exact absurd hc4 hc20 | exact absurd hc20 hc4)]; exact hr)
      · refine XS.icmpYes X0.here hx rfl (pc0 := 20) (pc' := 28) rfl (hb hby own_d18_20) rfl (XT.ii_ge_t hc20) (by decide) (by decide) ?_
        show Steps p.tables e below (s₁.setTop (mkF m 28 #[.val (.long q1), .second, .val (.long q2), .second, .val (.int p3), .val (.long q2), .second, .unset] [(.int (8 : Int32))])) _
        refine XS.iload X0.here hx rfl (hb hby own_d18_28) rfl ?_
        show Steps p.tables e below (s₁.setTop (mkF m 30 #[.val (.long q1), .second, .val (.long q2), .second, .val (.int p3), .val (.long q2), .second, .unset] [(.int p3), (.int (8 : Int32))])) _
        refine XT.bipushV X0.here hx rfl (8 : Int32) (hb hby own_d18_30) (by decide) ?_
        show Steps p.tables e below (s₁.setTop (mkF m 32 #[.val (.long q1), .second, .val (.long q2), .second, .val (.int p3), .val (.long q2), .second, .unset] [(.int (8 : Int32)), (.int p3), (.int (8 : Int32))])) _
        refine XS.isub X0.here hx rfl (hb hby own_d18_32) rfl ?_
        show Steps p.tables e below (s₁.setTop (mkF m 33 #[.val (.long q1), .second, .val (.long q2), .second, .val (.int p3), .val (.long q2), .second, .unset] [(.int (p3 - (8 : Int32))), (.int (8 : Int32))])) _
        refine XS.imul X0.here hx rfl (hb hby own_d18_33) rfl ?_
        show Steps p.tables e below (s₁.setTop (mkF m 34 #[.val (.long q1), .second, .val (.long q2), .second, .val (.int p3), .val (.long q2), .second, .unset] [(.int ((8 : Int32) * (p3 - (8 : Int32))))])) _
        refine XS.istore X0.here hx rfl (hb hby own_d18_34) rfl (l' := #[.val (.long q1), .second, .val (.long q2), .second, .val (.int p3), .val (.long q2), .second, .val (.int ((8 : Int32) * (p3 - (8 : Int32))))]) rfl ?_
        show Steps p.tables e below (s₁.setTop (mkF m 36 #[.val (.long q1), .second, .val (.long q2), .second, .val (.int p3), .val (.long q2), .second, .val (.int ((8 : Int32) * (p3 - (8 : Int32))))] [])) _
        refine XT.lload X0.here hx rfl (hb hby own_d18_36) rfl ?_
        show Steps p.tables e below (s₁.setTop (mkF m 38 #[.val (.long q1), .second, .val (.long q2), .second, .val (.int p3), .val (.long q2), .second, .val (.int ((8 : Int32) * (p3 - (8 : Int32))))] [(.long q2)])) _
        refine XS.iload X0.here hx rfl (hb hby own_d18_38) rfl ?_
        show Steps p.tables e below (s₁.setTop (mkF m 40 #[.val (.long q1), .second, .val (.long q2), .second, .val (.int p3), .val (.long q2), .second, .val (.int ((8 : Int32) * (p3 - (8 : Int32))))] [(.int ((8 : Int32) * (p3 - (8 : Int32)))), (.long q2)])) _
        refine XT.lushr X0.here hx rfl (hb hby own_d18_40) rfl ?_
        show Steps p.tables e below (s₁.setTop (mkF m 41 #[.val (.long q1), .second, .val (.long q2), .second, .val (.int p3), .val (.long q2), .second, .val (.int ((8 : Int32) * (p3 - (8 : Int32))))] [(.long (XT.ushrL q2 ((8 : Int32) * (p3 - (8 : Int32)))))])) _
        refine X0.ldc2J hx hown (mvT hZ (hw _ (List.mem_of_getElem? (i := 104) rfl))) rfl (hb hby own_d18_41) ?_
        show Steps p.tables e below (s₁.setTop (mkF m 44 #[.val (.long q1), .second, .val (.long q2), .second, .val (.int p3), .val (.long q2), .second, .val (.int ((8 : Int32) * (p3 - (8 : Int32))))] [(.long (255 : Int64)), (.long (XT.ushrL q2 ((8 : Int32) * (p3 - (8 : Int32)))))])) _
        refine XT.land X0.here hx rfl (hb hby own_d18_44) rfl ?_
        show Steps p.tables e below (s₁.setTop (mkF m 45 #[.val (.long q1), .second, .val (.long q2), .second, .val (.int p3), .val (.long q2), .second, .val (.int ((8 : Int32) * (p3 - (8 : Int32))))] [(.long ((XT.ushrL q2 ((8 : Int32) * (p3 - (8 : Int32)))) &&& (255 : Int64)))])) _
        refine XT.l2i X0.here hx rfl (hb hby own_d18_45) rfl ?_
        show Steps p.tables e below (s₁.setTop (mkF m 46 #[.val (.long q1), .second, .val (.long q2), .second, .val (.int p3), .val (.long q2), .second, .val (.int ((8 : Int32) * (p3 - (8 : Int32))))] [(.int (((XT.ushrL q2 ((8 : Int32) * (p3 - (8 : Int32)))) &&& (255 : Int64)).toInt32))])) _
        exact retI X0 hx Bd.returns (hb hby own_d18_46) (by rw [show (((XT.ushrL q2 ((8 : Int32) * (p3 - (8 : Int32)))) &&& (255 : Int64)).toInt32) = (own_raw q1 q2 p3) from (by first | (simp only [own_raw, if_neg hc4, if_neg hc20]; done) | exact absurd hc4 hc20 | exact absurd hc20 hc4)]; exact hr)
  · exact ⟨rfl, N0, e0⟩
theorem own_pd13 : parseMethodDescriptor "(JJI)I" = some ⟨[.long, .long, .int], some .int⟩ := by decide +kernel
theorem own_d14_0 : decode method_4_code 0 = .ok (.iload 5, 2) := by decide +kernel
theorem own_d14_2 : decode method_4_code 2 = .ok (.iload 4, 2) := by decide +kernel
theorem own_d14_4 : decode method_4_code 4 = .ok (.if_icmp .lt 5, 3) := by decide +kernel
theorem own_d14_7 : decode method_4_code 7 = .ok (.lconst 0, 1) := by decide +kernel
theorem own_d14_8 : decode method_4_code 8 = .ok (.lreturn, 1) := by decide +kernel
theorem own_d14_9 : decode method_4_code 9 = .ok (.lload_n 0, 1) := by decide +kernel
theorem own_d14_10 : decode method_4_code 10 = .ok (.lload_n 2, 1) := by decide +kernel
theorem own_d14_11 : decode method_4_code 11 = .ok (.iload 5, 2) := by decide +kernel
theorem own_d14_13 : decode method_4_code 13 = .ok (.invokestatic 8, 3) := by decide +kernel
theorem own_d14_16 : decode method_4_code 16 = .ok (.i2l, 1) := by decide +kernel
theorem own_d14_17 : decode method_4_code 17 = .ok (.lreturn, 1) := by decide +kernel
theorem own_ef14 (m : MethodId) (q1 : Int64) (q2 : Int64) (p3 : Int32) (p4 : Int32)  : entryFrame m #[(.long q1), (.long q2), (.int p3), (.int p4)] 6 = mkF m 0 #[.val (.long q1), .second, .val (.long q2), .second, .val (.int p3), .val (.int p4)] [] := by first | (simp [entryFrame, mkF, argsToLocals, Value.category]; done) | rfl
def Q14 (Z : State) (q1 : Int64) (q2 : Int64) (p3 : Int32) (p4 : Int32)  (h0 : Heap) (n0 : Nat) (v : Option Value) (h : Heap) (L : List Loc) : Prop := v = some (.long (own_bA q1 q2 p3 p4)) ∧ Fr n0 L ∧ h = h0
set_option maxRecDepth 65536 in
set_option maxHeartbeats 40000000 in
theorem rm14 (l : Launch) (Z : State) (a0 : Array Value) (hw : ∀ d ∈ tables_1, d.before a0 Z = true) (ws : List Jvm.Cond) (q1 : Int64) (q2 : Int64) (p3 : Int32) (p4 : Int32)  (h0 : Heap) (n0 : Nat) (Z0 : n0 ≤ h0.size)  :
    MetFree l (⟨"com/example/mavs/mavs/activation/Base32EncodePinLaw", "byteAt", "(JJII)J"⟩ : MethodName) (head1 (Jvm.Cond.code (⟨"com/example/mavs/mavs/activation/Base32EncodePinLaw", "byteAt", "(JJII)J"⟩ : MethodName) method_4_code 6 (some .long) :: ws) ({ frames := 1, cells := 0, slots := 0, locals := 19 } : Room)) (fun a U => a = #[(.long q1), (.long q2), (.int p3), (.int p4)] ∧ Z.Warmed39 U.vm ∧ U.heap = h0) (fun _ _ _ _ _ => True) (fun _ U o U' => ∃ v L, o = .returned v ∧ Q14 Z q1 q2 p3 p4  h0 n0 v U'.heap L ∧ FrameEnd U o U' L ({ frames := 1, cells := 0, slots := 0, locals := 19 } : Room).cells ({ frames := 1, cells := 0, slots := 0, locals := 19 } : Room).slots) := by
  refine MetFree.of_bodySF (plainFor_of_name own_pn6) hisR ?_
  intro p e s m args below meth c s₁ Bd hml0 hP hK
  obtain ⟨rfl, hZ, hh⟩ := hP
  have hx := Bd.exec
  have hby := Bd.bytes
  have hml : c.maxLocals = 6 := hml0
  have hown : s.vm.findClass "com/example/mavs/mavs/activation/Base32EncodePinLaw" = some m.cls := findClass_of_methodNamed Bd.named
  have hnm := (name_of_methodNamed Bd.named Bd.method).1
  have X0 : Stand p l e ({ frames := 1, cells := 0, slots := 0, locals := 19 } : Room) s m #[(.long q1), (.long q2), (.int p3), (.int p4)] below meth c s₁ [] 0 0 := Stand.of_body Bd
  have e0 : s₁.heap = h0 := by rw [← hh, Bd.state]; rfl
  have N0 := Fr.nil n0
  have pre0 : ∀ t, Steps p.tables e below (s₁.setTop (mkF m 0 #[.val (.long q1), .second, .val (.long q2), .second, .val (.int p3), .val (.int p4)] [])) t → Steps p.tables e below (s₁.setTop (entryFrame m #[(.long q1), (.long q2), (.int p3), (.int p4)] 6)) t := fun t k => castTop (own_ef14 m q1 q2 p3 p4 ) k
  have sg0 : ∀ tgt, Steps p.tables e below (s₁.setTop (mkF m 4 #[.val (.long q1), .second, .val (.long q2), .second, .val (.int p3), .val (.int p4)] [(.int p3), (.int p4)])) tgt → Steps p.tables e below (s₁.setTop (mkF m 0 #[.val (.long q1), .second, .val (.long q2), .second, .val (.int p3), .val (.int p4)] [])) tgt := by
    intro tgt kk
    show Steps p.tables e below (s₁.setTop (mkF m 0 #[.val (.long q1), .second, .val (.long q2), .second, .val (.int p3), .val (.int p4)] [])) _
    refine XS.iload X0.here hx rfl (hb hby own_d14_0) rfl ?_
    show Steps p.tables e below (s₁.setTop (mkF m 2 #[.val (.long q1), .second, .val (.long q2), .second, .val (.int p3), .val (.int p4)] [(.int p4)])) _
    refine XS.iload X0.here hx rfl (hb hby own_d14_2) rfl ?_
    exact kk
  by_cases hc4 : p4 < p3
  · skip
    have sg1 : ∀ tgt, Steps p.tables e below (s₁.setTop (mkF m 9 #[.val (.long q1), .second, .val (.long q2), .second, .val (.int p3), .val (.int p4)] [])) tgt → Steps p.tables e below (s₁.setTop (mkF m 4 #[.val (.long q1), .second, .val (.long q2), .second, .val (.int p3), .val (.int p4)] [(.int p3), (.int p4)])) tgt := by
      intro tgt kk
      show Steps p.tables e below (s₁.setTop (mkF m 4 #[.val (.long q1), .second, .val (.long q2), .second, .val (.int p3), .val (.int p4)] [(.int p3), (.int p4)])) _
      refine XS.icmpYes X0.here hx rfl (pc0 := 4) (pc' := 9) rfl (hb hby own_d14_4) rfl (XT.ii_lt_t hc4) (by decide) (by decide) ?_
      exact kk
    have sg2 : ∀ tgt, Steps p.tables e below (s₁.setTop (mkF m 13 #[.val (.long q1), .second, .val (.long q2), .second, .val (.int p3), .val (.int p4)] [(.int p4), (.long q2), (.long q1)])) tgt → Steps p.tables e below (s₁.setTop (mkF m 9 #[.val (.long q1), .second, .val (.long q2), .second, .val (.int p3), .val (.int p4)] [])) tgt := by
      intro tgt kk
      show Steps p.tables e below (s₁.setTop (mkF m 9 #[.val (.long q1), .second, .val (.long q2), .second, .val (.int p3), .val (.int p4)] [])) _
      refine XT.lloadN X0.here hx rfl (hb hby own_d14_9) rfl ?_
      show Steps p.tables e below (s₁.setTop (mkF m 10 #[.val (.long q1), .second, .val (.long q2), .second, .val (.int p3), .val (.int p4)] [(.long q1)])) _
      refine XT.lloadN X0.here hx rfl (hb hby own_d14_10) rfl ?_
      show Steps p.tables e below (s₁.setTop (mkF m 11 #[.val (.long q1), .second, .val (.long q2), .second, .val (.int p3), .val (.int p4)] [(.long q2), (.long q1)])) _
      refine XS.iload X0.here hx rfl (hb hby own_d14_11) rfl ?_
      exact kk
    -- pc 13: com/example/mavs/mavs/activation/Base32EncodePinLaw.rawByte
    obtain ⟨_, _, ⟨T1, L1, k1, n1⟩, -, X1, ⟨Lc1, hQ1, l1, y1, z1⟩, st1⟩ := Jvm.LawKit.callS X0 hx (y := (⟨"com/example/mavs/mavs/activation/Base32EncodePinLaw", "rawByte", "(JJI)I"⟩ : MethodName)) hown (mvT hZ (hw _ (List.mem_of_getElem? (i := 101) rfl))) (mvT hZ (hw _ (List.mem_of_getElem? (i := 102) rfl))) (mvT hZ (hw _ (List.mem_of_getElem? (i := 82) rfl))) (mvT hZ (hw _ (List.mem_of_getElem? (i := 103) rfl))) (by decide) (backOf (W := 0) (rm18 l Z a0 hw [] q1 q2 p4  h0 n0 Z0 ) hZ (hw _ (List.mem_of_getElem? (i := 103) rfl)) (hw _ (List.mem_of_getElem? (i := 82) rfl)) (by decide) (by decide)) (g := (mkF m 13 #[.val (.long q1), .second, .val (.long q2), .second, .val (.int p3), .val (.int p4)] [(.int p4), (.long q2), (.long q1)])) rfl (by rw [hml]; rfl) (argsL := [(.long q1), (.long q2), (.int p4)]) (rest := []) (lenOf own_pd13 rfl) rfl (by show 2 * 0 + _ ≤ _; exact Nat.le_of_eq rfl) (hb hby own_d14_13) (fun _ _ => ⟨rfl, e0, (by decide : 0 + 0 ≤ _), (by decide : 0 + 0 ≤ _)⟩)
    dsimp only [Pt.U, Pt.locs, Pt.cells, Pt.slots] at X1 l1 y1 z1 st1 hQ1
    subst l1 y1 z1
    obtain ⟨rfl, N1q, e1⟩ := hQ1
    have N1 := Fr.app N0 N1q
    obtain ⟨fs, hr, hrun, hended, hW, hsame⟩ := X1.leave (v := some (.long (own_bA q1 q2 p3 p4))) (fun h => by rw [Bd.returns] at h; cases h)
    refine ⟨_, _, pre0 _ ?_, hrun, hended, _, _, rfl, ?_, ⟨_, rfl⟩, hW, hsame.mono (by decide) (by decide)⟩
    · refine sg0 _ ?_
      refine sg1 _ ?_
      refine sg2 _ ?_
      refine st1 _ ?_
      show Steps p.tables e below (T1.setTop (mkF m 16 #[.val (.long q1), .second, .val (.long q2), .second, .val (.int p3), .val (.int p4)] [(.int (own_raw q1 q2 p4))])) _
      refine XT.i2l X1.here hx rfl (hb hby own_d14_16) rfl ?_
      show Steps p.tables e below (T1.setTop (mkF m 17 #[.val (.long q1), .second, .val (.long q2), .second, .val (.int p3), .val (.int p4)] [(.long ((own_raw q1 q2 p4).toInt64))])) _
      exact X1.lreturnOut hx Bd.returns (hb hby own_d14_17) (by rw [show ((own_raw q1 q2 p4).toInt64) = (own_bA q1 q2 p3 p4) from (by simp only [own_bA, if_pos hc4])]; exact hr)
    · exact ⟨rfl, N1, e1⟩
  · skip
    have sg1 : ∀ tgt, Steps p.tables e below (s₁.setTop (mkF m 7 #[.val (.long q1), .second, .val (.long q2), .second, .val (.int p3), .val (.int p4)] [])) tgt → Steps p.tables e below (s₁.setTop (mkF m 4 #[.val (.long q1), .second, .val (.long q2), .second, .val (.int p3), .val (.int p4)] [(.int p3), (.int p4)])) tgt := by
      intro tgt kk
      show Steps p.tables e below (s₁.setTop (mkF m 4 #[.val (.long q1), .second, .val (.long q2), .second, .val (.int p3), .val (.int p4)] [(.int p3), (.int p4)])) _
      refine XS.icmpNo X0.here hx rfl (hb hby own_d14_4) rfl (XT.ii_lt_f hc4) ?_
      exact kk
    obtain ⟨fs, hr, hrun, hended, hW, hsame⟩ := X0.leave (v := some (.long (own_bA q1 q2 p3 p4))) (fun h => by rw [Bd.returns] at h; cases h)
    refine ⟨_, _, pre0 _ ?_, hrun, hended, _, _, rfl, ?_, ⟨_, rfl⟩, hW, hsame.mono (by decide) (by decide)⟩
    · refine sg0 _ ?_
      refine sg1 _ ?_
      show Steps p.tables e below (s₁.setTop (mkF m 7 #[.val (.long q1), .second, .val (.long q2), .second, .val (.int p3), .val (.int p4)] [])) _
      refine XT.lconstV X0.here hx rfl (0 : Int64) (hb hby own_d14_7) (by decide) ?_
      show Steps p.tables e below (s₁.setTop (mkF m 8 #[.val (.long q1), .second, .val (.long q2), .second, .val (.int p3), .val (.int p4)] [(.long (0 : Int64))])) _
      exact X0.lreturnOut hx Bd.returns (hb hby own_d14_8) (by rw [show (0 : Int64) = (own_bA q1 q2 p3 p4) from (by simp only [own_bA, if_neg hc4])]; exact hr)
    · exact ⟨rfl, N0, e0⟩
theorem own_pd14 : parseMethodDescriptor "(JJII)J" = some ⟨[.long, .long, .int, .int], some .long⟩ := by decide +kernel
theorem own_d13_0 : decode method_5_code 0 = .ok (.lload_n 0, 1) := by decide +kernel
theorem own_d13_1 : decode method_5_code 1 = .ok (.lload_n 2, 1) := by decide +kernel
theorem own_d13_2 : decode method_5_code 2 = .ok (.iload 4, 2) := by decide +kernel
theorem own_d13_4 : decode method_5_code 4 = .ok (.iload 5, 2) := by decide +kernel
theorem own_d13_6 : decode method_5_code 6 = .ok (.invokestatic 36, 3) := by decide +kernel
theorem own_d13_9 : decode method_5_code 9 = .ok (.bipush 32, 2) := by decide +kernel
theorem own_d13_11 : decode method_5_code 11 = .ok (.lshl, 1) := by decide +kernel
theorem own_d13_12 : decode method_5_code 12 = .ok (.lload_n 0, 1) := by decide +kernel
theorem own_d13_13 : decode method_5_code 13 = .ok (.lload_n 2, 1) := by decide +kernel
theorem own_d13_14 : decode method_5_code 14 = .ok (.iload 4, 2) := by decide +kernel
theorem own_d13_16 : decode method_5_code 16 = .ok (.iload 5, 2) := by decide +kernel
theorem own_d13_18 : decode method_5_code 18 = .ok (.iconst 1, 1) := by decide +kernel
theorem own_d13_19 : decode method_5_code 19 = .ok (.iadd, 1) := by decide +kernel
theorem own_d13_20 : decode method_5_code 20 = .ok (.invokestatic 36, 3) := by decide +kernel
theorem own_d13_23 : decode method_5_code 23 = .ok (.bipush 24, 2) := by decide +kernel
theorem own_d13_25 : decode method_5_code 25 = .ok (.lshl, 1) := by decide +kernel
theorem own_d13_26 : decode method_5_code 26 = .ok (.lor, 1) := by decide +kernel
theorem own_d13_27 : decode method_5_code 27 = .ok (.lload_n 0, 1) := by decide +kernel
theorem own_d13_28 : decode method_5_code 28 = .ok (.lload_n 2, 1) := by decide +kernel
theorem own_d13_29 : decode method_5_code 29 = .ok (.iload 4, 2) := by decide +kernel
theorem own_d13_31 : decode method_5_code 31 = .ok (.iload 5, 2) := by decide +kernel
theorem own_d13_33 : decode method_5_code 33 = .ok (.iconst 2, 1) := by decide +kernel
theorem own_d13_34 : decode method_5_code 34 = .ok (.iadd, 1) := by decide +kernel
theorem own_d13_35 : decode method_5_code 35 = .ok (.invokestatic 36, 3) := by decide +kernel
theorem own_d13_38 : decode method_5_code 38 = .ok (.bipush 16, 2) := by decide +kernel
theorem own_d13_40 : decode method_5_code 40 = .ok (.lshl, 1) := by decide +kernel
theorem own_d13_41 : decode method_5_code 41 = .ok (.lor, 1) := by decide +kernel
theorem own_d13_42 : decode method_5_code 42 = .ok (.lload_n 0, 1) := by decide +kernel
theorem own_d13_43 : decode method_5_code 43 = .ok (.lload_n 2, 1) := by decide +kernel
theorem own_d13_44 : decode method_5_code 44 = .ok (.iload 4, 2) := by decide +kernel
theorem own_d13_46 : decode method_5_code 46 = .ok (.iload 5, 2) := by decide +kernel
theorem own_d13_48 : decode method_5_code 48 = .ok (.iconst 3, 1) := by decide +kernel
theorem own_d13_49 : decode method_5_code 49 = .ok (.iadd, 1) := by decide +kernel
theorem own_d13_50 : decode method_5_code 50 = .ok (.invokestatic 36, 3) := by decide +kernel
theorem own_d13_53 : decode method_5_code 53 = .ok (.bipush 8, 2) := by decide +kernel
theorem own_d13_55 : decode method_5_code 55 = .ok (.lshl, 1) := by decide +kernel
theorem own_d13_56 : decode method_5_code 56 = .ok (.lor, 1) := by decide +kernel
theorem own_d13_57 : decode method_5_code 57 = .ok (.lload_n 0, 1) := by decide +kernel
theorem own_d13_58 : decode method_5_code 58 = .ok (.lload_n 2, 1) := by decide +kernel
theorem own_d13_59 : decode method_5_code 59 = .ok (.iload 4, 2) := by decide +kernel
theorem own_d13_61 : decode method_5_code 61 = .ok (.iload 5, 2) := by decide +kernel
theorem own_d13_63 : decode method_5_code 63 = .ok (.iconst 4, 1) := by decide +kernel
theorem own_d13_64 : decode method_5_code 64 = .ok (.iadd, 1) := by decide +kernel
theorem own_d13_65 : decode method_5_code 65 = .ok (.invokestatic 36, 3) := by decide +kernel
theorem own_d13_68 : decode method_5_code 68 = .ok (.lor, 1) := by decide +kernel
theorem own_d13_69 : decode method_5_code 69 = .ok (.lreturn, 1) := by decide +kernel
theorem own_ef13 (m : MethodId) (q1 : Int64) (q2 : Int64) (p3 : Int32) (p4 : Int32)  : entryFrame m #[(.long q1), (.long q2), (.int p3), (.int p4)] 6 = mkF m 0 #[.val (.long q1), .second, .val (.long q2), .second, .val (.int p3), .val (.int p4)] [] := by first | (simp [entryFrame, mkF, argsToLocals, Value.category]; done) | rfl
def Q13 (Z : State) (q1 : Int64) (q2 : Int64) (p3 : Int32) (p4 : Int32)  (h0 : Heap) (n0 : Nat) (v : Option Value) (h : Heap) (L : List Loc) : Prop := v = some (.long (own_grp q1 q2 p3 p4)) ∧ Fr n0 L ∧ h = h0
set_option maxRecDepth 65536 in
set_option maxHeartbeats 40000000 in
theorem rm13 (l : Launch) (Z : State) (a0 : Array Value) (hw : ∀ d ∈ tables_1, d.before a0 Z = true) (ws : List Jvm.Cond) (q1 : Int64) (q2 : Int64) (p3 : Int32) (p4 : Int32)  (h0 : Heap) (n0 : Nat) (Z0 : n0 ≤ h0.size)  :
    MetFree l (⟨"com/example/mavs/mavs/activation/Base32EncodePinLaw", "group", "(JJII)J"⟩ : MethodName) (head1 (Jvm.Cond.code (⟨"com/example/mavs/mavs/activation/Base32EncodePinLaw", "group", "(JJII)J"⟩ : MethodName) method_5_code 6 (some .long) :: ws) ({ frames := 2, cells := 0, slots := 0, locals := 38 } : Room)) (fun a U => a = #[(.long q1), (.long q2), (.int p3), (.int p4)] ∧ Z.Warmed39 U.vm ∧ U.heap = h0) (fun _ _ _ _ _ => True) (fun _ U o U' => ∃ v L, o = .returned v ∧ Q13 Z q1 q2 p3 p4  h0 n0 v U'.heap L ∧ FrameEnd U o U' L ({ frames := 2, cells := 0, slots := 0, locals := 38 } : Room).cells ({ frames := 2, cells := 0, slots := 0, locals := 38 } : Room).slots) := by
  refine MetFree.of_bodySF (plainFor_of_name own_pn6) hisR ?_
  intro p e s m args below meth c s₁ Bd hml0 hP hK
  obtain ⟨rfl, hZ, hh⟩ := hP
  have hx := Bd.exec
  have hby := Bd.bytes
  have hml : c.maxLocals = 6 := hml0
  have hown : s.vm.findClass "com/example/mavs/mavs/activation/Base32EncodePinLaw" = some m.cls := findClass_of_methodNamed Bd.named
  have hnm := (name_of_methodNamed Bd.named Bd.method).1
  have X0 : Stand p l e ({ frames := 2, cells := 0, slots := 0, locals := 38 } : Room) s m #[(.long q1), (.long q2), (.int p3), (.int p4)] below meth c s₁ [] 0 0 := Stand.of_body Bd
  have e0 : s₁.heap = h0 := by rw [← hh, Bd.state]; rfl
  have N0 := Fr.nil n0
  have pre0 : ∀ t, Steps p.tables e below (s₁.setTop (mkF m 0 #[.val (.long q1), .second, .val (.long q2), .second, .val (.int p3), .val (.int p4)] [])) t → Steps p.tables e below (s₁.setTop (entryFrame m #[(.long q1), (.long q2), (.int p3), (.int p4)] 6)) t := fun t k => castTop (own_ef13 m q1 q2 p3 p4 ) k
  have sg0 : ∀ tgt, Steps p.tables e below (s₁.setTop (mkF m 6 #[.val (.long q1), .second, .val (.long q2), .second, .val (.int p3), .val (.int p4)] [(.int p4), (.int p3), (.long q2), (.long q1)])) tgt → Steps p.tables e below (s₁.setTop (mkF m 0 #[.val (.long q1), .second, .val (.long q2), .second, .val (.int p3), .val (.int p4)] [])) tgt := by
    intro tgt kk
    show Steps p.tables e below (s₁.setTop (mkF m 0 #[.val (.long q1), .second, .val (.long q2), .second, .val (.int p3), .val (.int p4)] [])) _
    refine XT.lloadN X0.here hx rfl (hb hby own_d13_0) rfl ?_
    show Steps p.tables e below (s₁.setTop (mkF m 1 #[.val (.long q1), .second, .val (.long q2), .second, .val (.int p3), .val (.int p4)] [(.long q1)])) _
    refine XT.lloadN X0.here hx rfl (hb hby own_d13_1) rfl ?_
    show Steps p.tables e below (s₁.setTop (mkF m 2 #[.val (.long q1), .second, .val (.long q2), .second, .val (.int p3), .val (.int p4)] [(.long q2), (.long q1)])) _
    refine XS.iload X0.here hx rfl (hb hby own_d13_2) rfl ?_
    show Steps p.tables e below (s₁.setTop (mkF m 4 #[.val (.long q1), .second, .val (.long q2), .second, .val (.int p3), .val (.int p4)] [(.int p3), (.long q2), (.long q1)])) _
    refine XS.iload X0.here hx rfl (hb hby own_d13_4) rfl ?_
    exact kk
  -- pc 6: com/example/mavs/mavs/activation/Base32EncodePinLaw.byteAt
  obtain ⟨_, _, ⟨T1, L1, k1, n1⟩, -, X1, ⟨Lc1, hQ1, l1, y1, z1⟩, st1⟩ := Jvm.LawKit.callS X0 hx (y := (⟨"com/example/mavs/mavs/activation/Base32EncodePinLaw", "byteAt", "(JJII)J"⟩ : MethodName)) hown (mvT hZ (hw _ (List.mem_of_getElem? (i := 84) rfl))) (mvT hZ (hw _ (List.mem_of_getElem? (i := 85) rfl))) (mvT hZ (hw _ (List.mem_of_getElem? (i := 82) rfl))) (mvT hZ (hw _ (List.mem_of_getElem? (i := 86) rfl))) (by decide) (backOf (W := 0) (rm14 l Z a0 hw [] q1 q2 p3 p4  h0 n0 Z0 ) hZ (hw _ (List.mem_of_getElem? (i := 86) rfl)) (hw _ (List.mem_of_getElem? (i := 82) rfl)) (by decide) (by decide)) (g := (mkF m 6 #[.val (.long q1), .second, .val (.long q2), .second, .val (.int p3), .val (.int p4)] [(.int p4), (.int p3), (.long q2), (.long q1)])) rfl (by rw [hml]; rfl) (argsL := [(.long q1), (.long q2), (.int p3), (.int p4)]) (rest := []) (lenOf own_pd14 rfl) rfl (by show 2 * 0 + _ ≤ _; exact Nat.le_of_eq rfl) (hb hby own_d13_6) (fun _ _ => ⟨rfl, e0, (by decide : 0 + 0 ≤ _), (by decide : 0 + 0 ≤ _)⟩)
  dsimp only [Pt.U, Pt.locs, Pt.cells, Pt.slots] at X1 l1 y1 z1 st1 hQ1
  subst l1 y1 z1
  obtain ⟨rfl, N1q, e1⟩ := hQ1
  have N1 := Fr.app N0 N1q
  have sg2 : ∀ tgt, Steps p.tables e below (T1.setTop (mkF m 20 #[.val (.long q1), .second, .val (.long q2), .second, .val (.int p3), .val (.int p4)] [(.int (p4 + (1 : Int32))), (.int p3), (.long q2), (.long q1), (.long ((own_bA q1 q2 p3 p4) <<< ((32 : Int32).toInt64 &&& 63)))])) tgt → Steps p.tables e below (T1.setTop (mkF m 9 #[.val (.long q1), .second, .val (.long q2), .second, .val (.int p3), .val (.int p4)] [(.long (own_bA q1 q2 p3 p4))])) tgt := by
    intro tgt kk
    show Steps p.tables e below (T1.setTop (mkF m 9 #[.val (.long q1), .second, .val (.long q2), .second, .val (.int p3), .val (.int p4)] [(.long (own_bA q1 q2 p3 p4))])) _
    refine XT.bipushV X1.here hx rfl (32 : Int32) (hb hby own_d13_9) (by decide) ?_
    show Steps p.tables e below (T1.setTop (mkF m 11 #[.val (.long q1), .second, .val (.long q2), .second, .val (.int p3), .val (.int p4)] [(.int (32 : Int32)), (.long (own_bA q1 q2 p3 p4))])) _
    refine XT.lshl X1.here hx rfl (hb hby own_d13_11) rfl ?_
    show Steps p.tables e below (T1.setTop (mkF m 12 #[.val (.long q1), .second, .val (.long q2), .second, .val (.int p3), .val (.int p4)] [(.long ((own_bA q1 q2 p3 p4) <<< ((32 : Int32).toInt64 &&& 63)))])) _
    refine XT.lloadN X1.here hx rfl (hb hby own_d13_12) rfl ?_
    show Steps p.tables e below (T1.setTop (mkF m 13 #[.val (.long q1), .second, .val (.long q2), .second, .val (.int p3), .val (.int p4)] [(.long q1), (.long ((own_bA q1 q2 p3 p4) <<< ((32 : Int32).toInt64 &&& 63)))])) _
    refine XT.lloadN X1.here hx rfl (hb hby own_d13_13) rfl ?_
    show Steps p.tables e below (T1.setTop (mkF m 14 #[.val (.long q1), .second, .val (.long q2), .second, .val (.int p3), .val (.int p4)] [(.long q2), (.long q1), (.long ((own_bA q1 q2 p3 p4) <<< ((32 : Int32).toInt64 &&& 63)))])) _
    refine XS.iload X1.here hx rfl (hb hby own_d13_14) rfl ?_
    show Steps p.tables e below (T1.setTop (mkF m 16 #[.val (.long q1), .second, .val (.long q2), .second, .val (.int p3), .val (.int p4)] [(.int p3), (.long q2), (.long q1), (.long ((own_bA q1 q2 p3 p4) <<< ((32 : Int32).toInt64 &&& 63)))])) _
    refine XS.iload X1.here hx rfl (hb hby own_d13_16) rfl ?_
    show Steps p.tables e below (T1.setTop (mkF m 18 #[.val (.long q1), .second, .val (.long q2), .second, .val (.int p3), .val (.int p4)] [(.int p4), (.int p3), (.long q2), (.long q1), (.long ((own_bA q1 q2 p3 p4) <<< ((32 : Int32).toInt64 &&& 63)))])) _
    refine XT.iconstV X1.here hx rfl (1 : Int32) (hb hby own_d13_18) (by decide) ?_
    show Steps p.tables e below (T1.setTop (mkF m 19 #[.val (.long q1), .second, .val (.long q2), .second, .val (.int p3), .val (.int p4)] [(.int (1 : Int32)), (.int p4), (.int p3), (.long q2), (.long q1), (.long ((own_bA q1 q2 p3 p4) <<< ((32 : Int32).toInt64 &&& 63)))])) _
    refine XS.iadd X1.here hx rfl (hb hby own_d13_19) rfl ?_
    exact kk
  -- pc 20: com/example/mavs/mavs/activation/Base32EncodePinLaw.byteAt
  obtain ⟨_, _, ⟨T2, L2, k2, n2⟩, -, X2, ⟨Lc2, hQ2, l2, y2, z2⟩, st2⟩ := Jvm.LawKit.callS X1 hx (y := (⟨"com/example/mavs/mavs/activation/Base32EncodePinLaw", "byteAt", "(JJII)J"⟩ : MethodName)) hown (mvT hZ (hw _ (List.mem_of_getElem? (i := 84) rfl))) (mvT hZ (hw _ (List.mem_of_getElem? (i := 85) rfl))) (mvT hZ (hw _ (List.mem_of_getElem? (i := 82) rfl))) (mvT hZ (hw _ (List.mem_of_getElem? (i := 86) rfl))) (by decide) (backOf (W := 2) (rm14 l Z a0 hw [] q1 q2 p3 (p4 + (1 : Int32))  h0 n0 Z0 ) hZ (hw _ (List.mem_of_getElem? (i := 86) rfl)) (hw _ (List.mem_of_getElem? (i := 82) rfl)) (by decide) (by decide)) (g := (mkF m 20 #[.val (.long q1), .second, .val (.long q2), .second, .val (.int p3), .val (.int p4)] [(.int (p4 + (1 : Int32))), (.int p3), (.long q2), (.long q1), (.long ((own_bA q1 q2 p3 p4) <<< ((32 : Int32).toInt64 &&& 63)))])) rfl (by rw [hml]; rfl) (argsL := [(.long q1), (.long q2), (.int p3), (.int (p4 + (1 : Int32)))]) (rest := [(.long ((own_bA q1 q2 p3 p4) <<< ((32 : Int32).toInt64 &&& 63)))]) (lenOf own_pd14 rfl) rfl (by show 2 * 0 + _ ≤ _; exact Nat.le_of_eq rfl) (hb hby own_d13_20) (fun _ _ => ⟨rfl, e1, (by decide : 0 + 0 ≤ _), (by decide : 0 + 0 ≤ _)⟩)
  dsimp only [Pt.U, Pt.locs, Pt.cells, Pt.slots] at X2 l2 y2 z2 st2 hQ2
  subst l2 y2 z2
  obtain ⟨rfl, N2q, e2⟩ := hQ2
  have N2 := Fr.app N1 N2q
  have sg4 : ∀ tgt, Steps p.tables e below (T2.setTop (mkF m 35 #[.val (.long q1), .second, .val (.long q2), .second, .val (.int p3), .val (.int p4)] [(.int (p4 + (2 : Int32))), (.int p3), (.long q2), (.long q1), (.long (((own_bA q1 q2 p3 p4) <<< ((32 : Int32).toInt64 &&& 63)) ||| ((own_bA q1 q2 p3 (p4 + (1 : Int32))) <<< ((24 : Int32).toInt64 &&& 63))))])) tgt → Steps p.tables e below (T2.setTop (mkF m 23 #[.val (.long q1), .second, .val (.long q2), .second, .val (.int p3), .val (.int p4)] [(.long (own_bA q1 q2 p3 (p4 + (1 : Int32)))), (.long ((own_bA q1 q2 p3 p4) <<< ((32 : Int32).toInt64 &&& 63)))])) tgt := by
    intro tgt kk
    show Steps p.tables e below (T2.setTop (mkF m 23 #[.val (.long q1), .second, .val (.long q2), .second, .val (.int p3), .val (.int p4)] [(.long (own_bA q1 q2 p3 (p4 + (1 : Int32)))), (.long ((own_bA q1 q2 p3 p4) <<< ((32 : Int32).toInt64 &&& 63)))])) _
    refine XT.bipushV X2.here hx rfl (24 : Int32) (hb hby own_d13_23) (by decide) ?_
    show Steps p.tables e below (T2.setTop (mkF m 25 #[.val (.long q1), .second, .val (.long q2), .second, .val (.int p3), .val (.int p4)] [(.int (24 : Int32)), (.long (own_bA q1 q2 p3 (p4 + (1 : Int32)))), (.long ((own_bA q1 q2 p3 p4) <<< ((32 : Int32).toInt64 &&& 63)))])) _
    refine XT.lshl X2.here hx rfl (hb hby own_d13_25) rfl ?_
    show Steps p.tables e below (T2.setTop (mkF m 26 #[.val (.long q1), .second, .val (.long q2), .second, .val (.int p3), .val (.int p4)] [(.long ((own_bA q1 q2 p3 (p4 + (1 : Int32))) <<< ((24 : Int32).toInt64 &&& 63))), (.long ((own_bA q1 q2 p3 p4) <<< ((32 : Int32).toInt64 &&& 63)))])) _
    refine XT.lor X2.here hx rfl (hb hby own_d13_26) rfl ?_
    show Steps p.tables e below (T2.setTop (mkF m 27 #[.val (.long q1), .second, .val (.long q2), .second, .val (.int p3), .val (.int p4)] [(.long (((own_bA q1 q2 p3 p4) <<< ((32 : Int32).toInt64 &&& 63)) ||| ((own_bA q1 q2 p3 (p4 + (1 : Int32))) <<< ((24 : Int32).toInt64 &&& 63))))])) _
    refine XT.lloadN X2.here hx rfl (hb hby own_d13_27) rfl ?_
    show Steps p.tables e below (T2.setTop (mkF m 28 #[.val (.long q1), .second, .val (.long q2), .second, .val (.int p3), .val (.int p4)] [(.long q1), (.long (((own_bA q1 q2 p3 p4) <<< ((32 : Int32).toInt64 &&& 63)) ||| ((own_bA q1 q2 p3 (p4 + (1 : Int32))) <<< ((24 : Int32).toInt64 &&& 63))))])) _
    refine XT.lloadN X2.here hx rfl (hb hby own_d13_28) rfl ?_
    show Steps p.tables e below (T2.setTop (mkF m 29 #[.val (.long q1), .second, .val (.long q2), .second, .val (.int p3), .val (.int p4)] [(.long q2), (.long q1), (.long (((own_bA q1 q2 p3 p4) <<< ((32 : Int32).toInt64 &&& 63)) ||| ((own_bA q1 q2 p3 (p4 + (1 : Int32))) <<< ((24 : Int32).toInt64 &&& 63))))])) _
    refine XS.iload X2.here hx rfl (hb hby own_d13_29) rfl ?_
    show Steps p.tables e below (T2.setTop (mkF m 31 #[.val (.long q1), .second, .val (.long q2), .second, .val (.int p3), .val (.int p4)] [(.int p3), (.long q2), (.long q1), (.long (((own_bA q1 q2 p3 p4) <<< ((32 : Int32).toInt64 &&& 63)) ||| ((own_bA q1 q2 p3 (p4 + (1 : Int32))) <<< ((24 : Int32).toInt64 &&& 63))))])) _
    refine XS.iload X2.here hx rfl (hb hby own_d13_31) rfl ?_
    show Steps p.tables e below (T2.setTop (mkF m 33 #[.val (.long q1), .second, .val (.long q2), .second, .val (.int p3), .val (.int p4)] [(.int p4), (.int p3), (.long q2), (.long q1), (.long (((own_bA q1 q2 p3 p4) <<< ((32 : Int32).toInt64 &&& 63)) ||| ((own_bA q1 q2 p3 (p4 + (1 : Int32))) <<< ((24 : Int32).toInt64 &&& 63))))])) _
    refine XT.iconstV X2.here hx rfl (2 : Int32) (hb hby own_d13_33) (by decide) ?_
    show Steps p.tables e below (T2.setTop (mkF m 34 #[.val (.long q1), .second, .val (.long q2), .second, .val (.int p3), .val (.int p4)] [(.int (2 : Int32)), (.int p4), (.int p3), (.long q2), (.long q1), (.long (((own_bA q1 q2 p3 p4) <<< ((32 : Int32).toInt64 &&& 63)) ||| ((own_bA q1 q2 p3 (p4 + (1 : Int32))) <<< ((24 : Int32).toInt64 &&& 63))))])) _
    refine XS.iadd X2.here hx rfl (hb hby own_d13_34) rfl ?_
    exact kk
  -- pc 35: com/example/mavs/mavs/activation/Base32EncodePinLaw.byteAt
  obtain ⟨_, _, ⟨T3, L3, k3, n3⟩, -, X3, ⟨Lc3, hQ3, l3, y3, z3⟩, st3⟩ := Jvm.LawKit.callS X2 hx (y := (⟨"com/example/mavs/mavs/activation/Base32EncodePinLaw", "byteAt", "(JJII)J"⟩ : MethodName)) hown (mvT hZ (hw _ (List.mem_of_getElem? (i := 84) rfl))) (mvT hZ (hw _ (List.mem_of_getElem? (i := 85) rfl))) (mvT hZ (hw _ (List.mem_of_getElem? (i := 82) rfl))) (mvT hZ (hw _ (List.mem_of_getElem? (i := 86) rfl))) (by decide) (backOf (W := 2) (rm14 l Z a0 hw [] q1 q2 p3 (p4 + (2 : Int32))  h0 n0 Z0 ) hZ (hw _ (List.mem_of_getElem? (i := 86) rfl)) (hw _ (List.mem_of_getElem? (i := 82) rfl)) (by decide) (by decide)) (g := (mkF m 35 #[.val (.long q1), .second, .val (.long q2), .second, .val (.int p3), .val (.int p4)] [(.int (p4 + (2 : Int32))), (.int p3), (.long q2), (.long q1), (.long (((own_bA q1 q2 p3 p4) <<< ((32 : Int32).toInt64 &&& 63)) ||| ((own_bA q1 q2 p3 (p4 + (1 : Int32))) <<< ((24 : Int32).toInt64 &&& 63))))])) rfl (by rw [hml]; rfl) (argsL := [(.long q1), (.long q2), (.int p3), (.int (p4 + (2 : Int32)))]) (rest := [(.long (((own_bA q1 q2 p3 p4) <<< ((32 : Int32).toInt64 &&& 63)) ||| ((own_bA q1 q2 p3 (p4 + (1 : Int32))) <<< ((24 : Int32).toInt64 &&& 63))))]) (lenOf own_pd14 rfl) rfl (by show 2 * 0 + _ ≤ _; exact Nat.le_of_eq rfl) (hb hby own_d13_35) (fun _ _ => ⟨rfl, e2, (by decide : 0 + 0 ≤ _), (by decide : 0 + 0 ≤ _)⟩)
  dsimp only [Pt.U, Pt.locs, Pt.cells, Pt.slots] at X3 l3 y3 z3 st3 hQ3
  subst l3 y3 z3
  obtain ⟨rfl, N3q, e3⟩ := hQ3
  have N3 := Fr.app N2 N3q
  have sg6 : ∀ tgt, Steps p.tables e below (T3.setTop (mkF m 50 #[.val (.long q1), .second, .val (.long q2), .second, .val (.int p3), .val (.int p4)] [(.int (p4 + (3 : Int32))), (.int p3), (.long q2), (.long q1), (.long ((((own_bA q1 q2 p3 p4) <<< ((32 : Int32).toInt64 &&& 63)) ||| ((own_bA q1 q2 p3 (p4 + (1 : Int32))) <<< ((24 : Int32).toInt64 &&& 63))) ||| ((own_bA q1 q2 p3 (p4 + (2 : Int32))) <<< ((16 : Int32).toInt64 &&& 63))))])) tgt → Steps p.tables e below (T3.setTop (mkF m 38 #[.val (.long q1), .second, .val (.long q2), .second, .val (.int p3), .val (.int p4)] [(.long (own_bA q1 q2 p3 (p4 + (2 : Int32)))), (.long (((own_bA q1 q2 p3 p4) <<< ((32 : Int32).toInt64 &&& 63)) ||| ((own_bA q1 q2 p3 (p4 + (1 : Int32))) <<< ((24 : Int32).toInt64 &&& 63))))])) tgt := by
    intro tgt kk
    show Steps p.tables e below (T3.setTop (mkF m 38 #[.val (.long q1), .second, .val (.long q2), .second, .val (.int p3), .val (.int p4)] [(.long (own_bA q1 q2 p3 (p4 + (2 : Int32)))), (.long (((own_bA q1 q2 p3 p4) <<< ((32 : Int32).toInt64 &&& 63)) ||| ((own_bA q1 q2 p3 (p4 + (1 : Int32))) <<< ((24 : Int32).toInt64 &&& 63))))])) _
    refine XT.bipushV X3.here hx rfl (16 : Int32) (hb hby own_d13_38) (by decide) ?_
    show Steps p.tables e below (T3.setTop (mkF m 40 #[.val (.long q1), .second, .val (.long q2), .second, .val (.int p3), .val (.int p4)] [(.int (16 : Int32)), (.long (own_bA q1 q2 p3 (p4 + (2 : Int32)))), (.long (((own_bA q1 q2 p3 p4) <<< ((32 : Int32).toInt64 &&& 63)) ||| ((own_bA q1 q2 p3 (p4 + (1 : Int32))) <<< ((24 : Int32).toInt64 &&& 63))))])) _
    refine XT.lshl X3.here hx rfl (hb hby own_d13_40) rfl ?_
    show Steps p.tables e below (T3.setTop (mkF m 41 #[.val (.long q1), .second, .val (.long q2), .second, .val (.int p3), .val (.int p4)] [(.long ((own_bA q1 q2 p3 (p4 + (2 : Int32))) <<< ((16 : Int32).toInt64 &&& 63))), (.long (((own_bA q1 q2 p3 p4) <<< ((32 : Int32).toInt64 &&& 63)) ||| ((own_bA q1 q2 p3 (p4 + (1 : Int32))) <<< ((24 : Int32).toInt64 &&& 63))))])) _
    refine XT.lor X3.here hx rfl (hb hby own_d13_41) rfl ?_
    show Steps p.tables e below (T3.setTop (mkF m 42 #[.val (.long q1), .second, .val (.long q2), .second, .val (.int p3), .val (.int p4)] [(.long ((((own_bA q1 q2 p3 p4) <<< ((32 : Int32).toInt64 &&& 63)) ||| ((own_bA q1 q2 p3 (p4 + (1 : Int32))) <<< ((24 : Int32).toInt64 &&& 63))) ||| ((own_bA q1 q2 p3 (p4 + (2 : Int32))) <<< ((16 : Int32).toInt64 &&& 63))))])) _
    refine XT.lloadN X3.here hx rfl (hb hby own_d13_42) rfl ?_
    show Steps p.tables e below (T3.setTop (mkF m 43 #[.val (.long q1), .second, .val (.long q2), .second, .val (.int p3), .val (.int p4)] [(.long q1), (.long ((((own_bA q1 q2 p3 p4) <<< ((32 : Int32).toInt64 &&& 63)) ||| ((own_bA q1 q2 p3 (p4 + (1 : Int32))) <<< ((24 : Int32).toInt64 &&& 63))) ||| ((own_bA q1 q2 p3 (p4 + (2 : Int32))) <<< ((16 : Int32).toInt64 &&& 63))))])) _
    refine XT.lloadN X3.here hx rfl (hb hby own_d13_43) rfl ?_
    show Steps p.tables e below (T3.setTop (mkF m 44 #[.val (.long q1), .second, .val (.long q2), .second, .val (.int p3), .val (.int p4)] [(.long q2), (.long q1), (.long ((((own_bA q1 q2 p3 p4) <<< ((32 : Int32).toInt64 &&& 63)) ||| ((own_bA q1 q2 p3 (p4 + (1 : Int32))) <<< ((24 : Int32).toInt64 &&& 63))) ||| ((own_bA q1 q2 p3 (p4 + (2 : Int32))) <<< ((16 : Int32).toInt64 &&& 63))))])) _
    refine XS.iload X3.here hx rfl (hb hby own_d13_44) rfl ?_
    show Steps p.tables e below (T3.setTop (mkF m 46 #[.val (.long q1), .second, .val (.long q2), .second, .val (.int p3), .val (.int p4)] [(.int p3), (.long q2), (.long q1), (.long ((((own_bA q1 q2 p3 p4) <<< ((32 : Int32).toInt64 &&& 63)) ||| ((own_bA q1 q2 p3 (p4 + (1 : Int32))) <<< ((24 : Int32).toInt64 &&& 63))) ||| ((own_bA q1 q2 p3 (p4 + (2 : Int32))) <<< ((16 : Int32).toInt64 &&& 63))))])) _
    refine XS.iload X3.here hx rfl (hb hby own_d13_46) rfl ?_
    show Steps p.tables e below (T3.setTop (mkF m 48 #[.val (.long q1), .second, .val (.long q2), .second, .val (.int p3), .val (.int p4)] [(.int p4), (.int p3), (.long q2), (.long q1), (.long ((((own_bA q1 q2 p3 p4) <<< ((32 : Int32).toInt64 &&& 63)) ||| ((own_bA q1 q2 p3 (p4 + (1 : Int32))) <<< ((24 : Int32).toInt64 &&& 63))) ||| ((own_bA q1 q2 p3 (p4 + (2 : Int32))) <<< ((16 : Int32).toInt64 &&& 63))))])) _
    refine XT.iconstV X3.here hx rfl (3 : Int32) (hb hby own_d13_48) (by decide) ?_
    show Steps p.tables e below (T3.setTop (mkF m 49 #[.val (.long q1), .second, .val (.long q2), .second, .val (.int p3), .val (.int p4)] [(.int (3 : Int32)), (.int p4), (.int p3), (.long q2), (.long q1), (.long ((((own_bA q1 q2 p3 p4) <<< ((32 : Int32).toInt64 &&& 63)) ||| ((own_bA q1 q2 p3 (p4 + (1 : Int32))) <<< ((24 : Int32).toInt64 &&& 63))) ||| ((own_bA q1 q2 p3 (p4 + (2 : Int32))) <<< ((16 : Int32).toInt64 &&& 63))))])) _
    refine XS.iadd X3.here hx rfl (hb hby own_d13_49) rfl ?_
    exact kk
  -- pc 50: com/example/mavs/mavs/activation/Base32EncodePinLaw.byteAt
  obtain ⟨_, _, ⟨T4, L4, k4, n4⟩, -, X4, ⟨Lc4, hQ4, l4, y4, z4⟩, st4⟩ := Jvm.LawKit.callS X3 hx (y := (⟨"com/example/mavs/mavs/activation/Base32EncodePinLaw", "byteAt", "(JJII)J"⟩ : MethodName)) hown (mvT hZ (hw _ (List.mem_of_getElem? (i := 84) rfl))) (mvT hZ (hw _ (List.mem_of_getElem? (i := 85) rfl))) (mvT hZ (hw _ (List.mem_of_getElem? (i := 82) rfl))) (mvT hZ (hw _ (List.mem_of_getElem? (i := 86) rfl))) (by decide) (backOf (W := 2) (rm14 l Z a0 hw [] q1 q2 p3 (p4 + (3 : Int32))  h0 n0 Z0 ) hZ (hw _ (List.mem_of_getElem? (i := 86) rfl)) (hw _ (List.mem_of_getElem? (i := 82) rfl)) (by decide) (by decide)) (g := (mkF m 50 #[.val (.long q1), .second, .val (.long q2), .second, .val (.int p3), .val (.int p4)] [(.int (p4 + (3 : Int32))), (.int p3), (.long q2), (.long q1), (.long ((((own_bA q1 q2 p3 p4) <<< ((32 : Int32).toInt64 &&& 63)) ||| ((own_bA q1 q2 p3 (p4 + (1 : Int32))) <<< ((24 : Int32).toInt64 &&& 63))) ||| ((own_bA q1 q2 p3 (p4 + (2 : Int32))) <<< ((16 : Int32).toInt64 &&& 63))))])) rfl (by rw [hml]; rfl) (argsL := [(.long q1), (.long q2), (.int p3), (.int (p4 + (3 : Int32)))]) (rest := [(.long ((((own_bA q1 q2 p3 p4) <<< ((32 : Int32).toInt64 &&& 63)) ||| ((own_bA q1 q2 p3 (p4 + (1 : Int32))) <<< ((24 : Int32).toInt64 &&& 63))) ||| ((own_bA q1 q2 p3 (p4 + (2 : Int32))) <<< ((16 : Int32).toInt64 &&& 63))))]) (lenOf own_pd14 rfl) rfl (by show 2 * 0 + _ ≤ _; exact Nat.le_of_eq rfl) (hb hby own_d13_50) (fun _ _ => ⟨rfl, e3, (by decide : 0 + 0 ≤ _), (by decide : 0 + 0 ≤ _)⟩)
  dsimp only [Pt.U, Pt.locs, Pt.cells, Pt.slots] at X4 l4 y4 z4 st4 hQ4
  subst l4 y4 z4
  obtain ⟨rfl, N4q, e4⟩ := hQ4
  have N4 := Fr.app N3 N4q
  have sg8 : ∀ tgt, Steps p.tables e below (T4.setTop (mkF m 65 #[.val (.long q1), .second, .val (.long q2), .second, .val (.int p3), .val (.int p4)] [(.int (p4 + (4 : Int32))), (.int p3), (.long q2), (.long q1), (.long (((((own_bA q1 q2 p3 p4) <<< ((32 : Int32).toInt64 &&& 63)) ||| ((own_bA q1 q2 p3 (p4 + (1 : Int32))) <<< ((24 : Int32).toInt64 &&& 63))) ||| ((own_bA q1 q2 p3 (p4 + (2 : Int32))) <<< ((16 : Int32).toInt64 &&& 63))) ||| ((own_bA q1 q2 p3 (p4 + (3 : Int32))) <<< ((8 : Int32).toInt64 &&& 63))))])) tgt → Steps p.tables e below (T4.setTop (mkF m 53 #[.val (.long q1), .second, .val (.long q2), .second, .val (.int p3), .val (.int p4)] [(.long (own_bA q1 q2 p3 (p4 + (3 : Int32)))), (.long ((((own_bA q1 q2 p3 p4) <<< ((32 : Int32).toInt64 &&& 63)) ||| ((own_bA q1 q2 p3 (p4 + (1 : Int32))) <<< ((24 : Int32).toInt64 &&& 63))) ||| ((own_bA q1 q2 p3 (p4 + (2 : Int32))) <<< ((16 : Int32).toInt64 &&& 63))))])) tgt := by
    intro tgt kk
    show Steps p.tables e below (T4.setTop (mkF m 53 #[.val (.long q1), .second, .val (.long q2), .second, .val (.int p3), .val (.int p4)] [(.long (own_bA q1 q2 p3 (p4 + (3 : Int32)))), (.long ((((own_bA q1 q2 p3 p4) <<< ((32 : Int32).toInt64 &&& 63)) ||| ((own_bA q1 q2 p3 (p4 + (1 : Int32))) <<< ((24 : Int32).toInt64 &&& 63))) ||| ((own_bA q1 q2 p3 (p4 + (2 : Int32))) <<< ((16 : Int32).toInt64 &&& 63))))])) _
    refine XT.bipushV X4.here hx rfl (8 : Int32) (hb hby own_d13_53) (by decide) ?_
    show Steps p.tables e below (T4.setTop (mkF m 55 #[.val (.long q1), .second, .val (.long q2), .second, .val (.int p3), .val (.int p4)] [(.int (8 : Int32)), (.long (own_bA q1 q2 p3 (p4 + (3 : Int32)))), (.long ((((own_bA q1 q2 p3 p4) <<< ((32 : Int32).toInt64 &&& 63)) ||| ((own_bA q1 q2 p3 (p4 + (1 : Int32))) <<< ((24 : Int32).toInt64 &&& 63))) ||| ((own_bA q1 q2 p3 (p4 + (2 : Int32))) <<< ((16 : Int32).toInt64 &&& 63))))])) _
    refine XT.lshl X4.here hx rfl (hb hby own_d13_55) rfl ?_
    show Steps p.tables e below (T4.setTop (mkF m 56 #[.val (.long q1), .second, .val (.long q2), .second, .val (.int p3), .val (.int p4)] [(.long ((own_bA q1 q2 p3 (p4 + (3 : Int32))) <<< ((8 : Int32).toInt64 &&& 63))), (.long ((((own_bA q1 q2 p3 p4) <<< ((32 : Int32).toInt64 &&& 63)) ||| ((own_bA q1 q2 p3 (p4 + (1 : Int32))) <<< ((24 : Int32).toInt64 &&& 63))) ||| ((own_bA q1 q2 p3 (p4 + (2 : Int32))) <<< ((16 : Int32).toInt64 &&& 63))))])) _
    refine XT.lor X4.here hx rfl (hb hby own_d13_56) rfl ?_
    show Steps p.tables e below (T4.setTop (mkF m 57 #[.val (.long q1), .second, .val (.long q2), .second, .val (.int p3), .val (.int p4)] [(.long (((((own_bA q1 q2 p3 p4) <<< ((32 : Int32).toInt64 &&& 63)) ||| ((own_bA q1 q2 p3 (p4 + (1 : Int32))) <<< ((24 : Int32).toInt64 &&& 63))) ||| ((own_bA q1 q2 p3 (p4 + (2 : Int32))) <<< ((16 : Int32).toInt64 &&& 63))) ||| ((own_bA q1 q2 p3 (p4 + (3 : Int32))) <<< ((8 : Int32).toInt64 &&& 63))))])) _
    refine XT.lloadN X4.here hx rfl (hb hby own_d13_57) rfl ?_
    show Steps p.tables e below (T4.setTop (mkF m 58 #[.val (.long q1), .second, .val (.long q2), .second, .val (.int p3), .val (.int p4)] [(.long q1), (.long (((((own_bA q1 q2 p3 p4) <<< ((32 : Int32).toInt64 &&& 63)) ||| ((own_bA q1 q2 p3 (p4 + (1 : Int32))) <<< ((24 : Int32).toInt64 &&& 63))) ||| ((own_bA q1 q2 p3 (p4 + (2 : Int32))) <<< ((16 : Int32).toInt64 &&& 63))) ||| ((own_bA q1 q2 p3 (p4 + (3 : Int32))) <<< ((8 : Int32).toInt64 &&& 63))))])) _
    refine XT.lloadN X4.here hx rfl (hb hby own_d13_58) rfl ?_
    show Steps p.tables e below (T4.setTop (mkF m 59 #[.val (.long q1), .second, .val (.long q2), .second, .val (.int p3), .val (.int p4)] [(.long q2), (.long q1), (.long (((((own_bA q1 q2 p3 p4) <<< ((32 : Int32).toInt64 &&& 63)) ||| ((own_bA q1 q2 p3 (p4 + (1 : Int32))) <<< ((24 : Int32).toInt64 &&& 63))) ||| ((own_bA q1 q2 p3 (p4 + (2 : Int32))) <<< ((16 : Int32).toInt64 &&& 63))) ||| ((own_bA q1 q2 p3 (p4 + (3 : Int32))) <<< ((8 : Int32).toInt64 &&& 63))))])) _
    refine XS.iload X4.here hx rfl (hb hby own_d13_59) rfl ?_
    show Steps p.tables e below (T4.setTop (mkF m 61 #[.val (.long q1), .second, .val (.long q2), .second, .val (.int p3), .val (.int p4)] [(.int p3), (.long q2), (.long q1), (.long (((((own_bA q1 q2 p3 p4) <<< ((32 : Int32).toInt64 &&& 63)) ||| ((own_bA q1 q2 p3 (p4 + (1 : Int32))) <<< ((24 : Int32).toInt64 &&& 63))) ||| ((own_bA q1 q2 p3 (p4 + (2 : Int32))) <<< ((16 : Int32).toInt64 &&& 63))) ||| ((own_bA q1 q2 p3 (p4 + (3 : Int32))) <<< ((8 : Int32).toInt64 &&& 63))))])) _
    refine XS.iload X4.here hx rfl (hb hby own_d13_61) rfl ?_
    show Steps p.tables e below (T4.setTop (mkF m 63 #[.val (.long q1), .second, .val (.long q2), .second, .val (.int p3), .val (.int p4)] [(.int p4), (.int p3), (.long q2), (.long q1), (.long (((((own_bA q1 q2 p3 p4) <<< ((32 : Int32).toInt64 &&& 63)) ||| ((own_bA q1 q2 p3 (p4 + (1 : Int32))) <<< ((24 : Int32).toInt64 &&& 63))) ||| ((own_bA q1 q2 p3 (p4 + (2 : Int32))) <<< ((16 : Int32).toInt64 &&& 63))) ||| ((own_bA q1 q2 p3 (p4 + (3 : Int32))) <<< ((8 : Int32).toInt64 &&& 63))))])) _
    refine XT.iconstV X4.here hx rfl (4 : Int32) (hb hby own_d13_63) (by decide) ?_
    show Steps p.tables e below (T4.setTop (mkF m 64 #[.val (.long q1), .second, .val (.long q2), .second, .val (.int p3), .val (.int p4)] [(.int (4 : Int32)), (.int p4), (.int p3), (.long q2), (.long q1), (.long (((((own_bA q1 q2 p3 p4) <<< ((32 : Int32).toInt64 &&& 63)) ||| ((own_bA q1 q2 p3 (p4 + (1 : Int32))) <<< ((24 : Int32).toInt64 &&& 63))) ||| ((own_bA q1 q2 p3 (p4 + (2 : Int32))) <<< ((16 : Int32).toInt64 &&& 63))) ||| ((own_bA q1 q2 p3 (p4 + (3 : Int32))) <<< ((8 : Int32).toInt64 &&& 63))))])) _
    refine XS.iadd X4.here hx rfl (hb hby own_d13_64) rfl ?_
    exact kk
  -- pc 65: com/example/mavs/mavs/activation/Base32EncodePinLaw.byteAt
  obtain ⟨_, _, ⟨T5, L5, k5, n5⟩, -, X5, ⟨Lc5, hQ5, l5, y5, z5⟩, st5⟩ := Jvm.LawKit.callS X4 hx (y := (⟨"com/example/mavs/mavs/activation/Base32EncodePinLaw", "byteAt", "(JJII)J"⟩ : MethodName)) hown (mvT hZ (hw _ (List.mem_of_getElem? (i := 84) rfl))) (mvT hZ (hw _ (List.mem_of_getElem? (i := 85) rfl))) (mvT hZ (hw _ (List.mem_of_getElem? (i := 82) rfl))) (mvT hZ (hw _ (List.mem_of_getElem? (i := 86) rfl))) (by decide) (backOf (W := 2) (rm14 l Z a0 hw [] q1 q2 p3 (p4 + (4 : Int32))  h0 n0 Z0 ) hZ (hw _ (List.mem_of_getElem? (i := 86) rfl)) (hw _ (List.mem_of_getElem? (i := 82) rfl)) (by decide) (by decide)) (g := (mkF m 65 #[.val (.long q1), .second, .val (.long q2), .second, .val (.int p3), .val (.int p4)] [(.int (p4 + (4 : Int32))), (.int p3), (.long q2), (.long q1), (.long (((((own_bA q1 q2 p3 p4) <<< ((32 : Int32).toInt64 &&& 63)) ||| ((own_bA q1 q2 p3 (p4 + (1 : Int32))) <<< ((24 : Int32).toInt64 &&& 63))) ||| ((own_bA q1 q2 p3 (p4 + (2 : Int32))) <<< ((16 : Int32).toInt64 &&& 63))) ||| ((own_bA q1 q2 p3 (p4 + (3 : Int32))) <<< ((8 : Int32).toInt64 &&& 63))))])) rfl (by rw [hml]; rfl) (argsL := [(.long q1), (.long q2), (.int p3), (.int (p4 + (4 : Int32)))]) (rest := [(.long (((((own_bA q1 q2 p3 p4) <<< ((32 : Int32).toInt64 &&& 63)) ||| ((own_bA q1 q2 p3 (p4 + (1 : Int32))) <<< ((24 : Int32).toInt64 &&& 63))) ||| ((own_bA q1 q2 p3 (p4 + (2 : Int32))) <<< ((16 : Int32).toInt64 &&& 63))) ||| ((own_bA q1 q2 p3 (p4 + (3 : Int32))) <<< ((8 : Int32).toInt64 &&& 63))))]) (lenOf own_pd14 rfl) rfl (by show 2 * 0 + _ ≤ _; exact Nat.le_of_eq rfl) (hb hby own_d13_65) (fun _ _ => ⟨rfl, e4, (by decide : 0 + 0 ≤ _), (by decide : 0 + 0 ≤ _)⟩)
  dsimp only [Pt.U, Pt.locs, Pt.cells, Pt.slots] at X5 l5 y5 z5 st5 hQ5
  subst l5 y5 z5
  obtain ⟨rfl, N5q, e5⟩ := hQ5
  have N5 := Fr.app N4 N5q
  obtain ⟨fs, hr, hrun, hended, hW, hsame⟩ := X5.leave (v := some (.long (own_grp q1 q2 p3 p4))) (fun h => by rw [Bd.returns] at h; cases h)
  refine ⟨_, _, pre0 _ ?_, hrun, hended, _, _, rfl, ?_, ⟨_, rfl⟩, hW, hsame.mono (by decide) (by decide)⟩
  · refine sg0 _ ?_
    refine st1 _ ?_
    refine sg2 _ ?_
    refine st2 _ ?_
    refine sg4 _ ?_
    refine st3 _ ?_
    refine sg6 _ ?_
    refine st4 _ ?_
    refine sg8 _ ?_
    refine st5 _ ?_
    show Steps p.tables e below (T5.setTop (mkF m 68 #[.val (.long q1), .second, .val (.long q2), .second, .val (.int p3), .val (.int p4)] [(.long (own_bA q1 q2 p3 (p4 + (4 : Int32)))), (.long (((((own_bA q1 q2 p3 p4) <<< ((32 : Int32).toInt64 &&& 63)) ||| ((own_bA q1 q2 p3 (p4 + (1 : Int32))) <<< ((24 : Int32).toInt64 &&& 63))) ||| ((own_bA q1 q2 p3 (p4 + (2 : Int32))) <<< ((16 : Int32).toInt64 &&& 63))) ||| ((own_bA q1 q2 p3 (p4 + (3 : Int32))) <<< ((8 : Int32).toInt64 &&& 63))))])) _
    refine XT.lor X5.here hx rfl (hb hby own_d13_68) rfl ?_
    show Steps p.tables e below (T5.setTop (mkF m 69 #[.val (.long q1), .second, .val (.long q2), .second, .val (.int p3), .val (.int p4)] [(.long ((((((own_bA q1 q2 p3 p4) <<< ((32 : Int32).toInt64 &&& 63)) ||| ((own_bA q1 q2 p3 (p4 + (1 : Int32))) <<< ((24 : Int32).toInt64 &&& 63))) ||| ((own_bA q1 q2 p3 (p4 + (2 : Int32))) <<< ((16 : Int32).toInt64 &&& 63))) ||| ((own_bA q1 q2 p3 (p4 + (3 : Int32))) <<< ((8 : Int32).toInt64 &&& 63))) ||| (own_bA q1 q2 p3 (p4 + (4 : Int32)))))])) _
    exact X5.lreturnOut hx Bd.returns (hb hby own_d13_69) (by rw [show ((((((own_bA q1 q2 p3 p4) <<< ((32 : Int32).toInt64 &&& 63)) ||| ((own_bA q1 q2 p3 (p4 + (1 : Int32))) <<< ((24 : Int32).toInt64 &&& 63))) ||| ((own_bA q1 q2 p3 (p4 + (2 : Int32))) <<< ((16 : Int32).toInt64 &&& 63))) ||| ((own_bA q1 q2 p3 (p4 + (3 : Int32))) <<< ((8 : Int32).toInt64 &&& 63))) ||| (own_bA q1 q2 p3 (p4 + (4 : Int32)))) = (own_grp q1 q2 p3 p4) from rfl]; exact hr)
  · exact ⟨rfl, N5, e5⟩
theorem own_d28_0 : decode method_6_code 0 = .ok (.iload_n 0, 1) := by decide +kernel
theorem own_d28_1 : decode method_6_code 1 = .ok (.bipush 26, 2) := by decide +kernel
theorem own_d28_3 : decode method_6_code 3 = .ok (.if_icmp .ge 9, 3) := by decide +kernel
theorem own_d28_6 : decode method_6_code 6 = .ok (.bipush 65, 2) := by decide +kernel
theorem own_d28_8 : decode method_6_code 8 = .ok (.iload_n 0, 1) := by decide +kernel
theorem own_d28_9 : decode method_6_code 9 = .ok (.iadd, 1) := by decide +kernel
theorem own_d28_10 : decode method_6_code 10 = .ok (.i2c, 1) := by decide +kernel
theorem own_d28_11 : decode method_6_code 11 = .ok (.ireturn, 1) := by decide +kernel
theorem own_d28_12 : decode method_6_code 12 = .ok (.bipush 50, 2) := by decide +kernel
theorem own_d28_14 : decode method_6_code 14 = .ok (.iload_n 0, 1) := by decide +kernel
theorem own_d28_15 : decode method_6_code 15 = .ok (.bipush 26, 2) := by decide +kernel
theorem own_d28_17 : decode method_6_code 17 = .ok (.isub, 1) := by decide +kernel
theorem own_d28_18 : decode method_6_code 18 = .ok (.iadd, 1) := by decide +kernel
theorem own_d28_19 : decode method_6_code 19 = .ok (.i2c, 1) := by decide +kernel
theorem own_d28_20 : decode method_6_code 20 = .ok (.ireturn, 1) := by decide +kernel
theorem own_ef28 (m : MethodId) (p1 : Int32)  : entryFrame m #[(.int p1)] 1 = mkF m 0 #[.val (.int p1)] [] := by first | (simp [entryFrame, mkF, argsToLocals, Value.category]; done) | rfl
def Q28 (Z : State) (p1 : Int32)  (h0 : Heap) (n0 : Nat) (v : Option Value) (h : Heap) (L : List Loc) : Prop := v = some (.int (own_alpha p1)) ∧ Fr n0 L ∧ h = h0
set_option maxRecDepth 65536 in
set_option maxHeartbeats 40000000 in
theorem rm28 (l : Launch) (Z : State) (a0 : Array Value) (hw : ∀ d ∈ tables_1, d.before a0 Z = true) (ws : List Jvm.Cond) (p1 : Int32)  (h0 : Heap) (n0 : Nat) (Z0 : n0 ≤ h0.size)  :
    MetFree l (⟨"com/example/mavs/mavs/activation/Base32EncodePinLaw", "alpha", "(I)C"⟩ : MethodName) (head1 (Jvm.Cond.code (⟨"com/example/mavs/mavs/activation/Base32EncodePinLaw", "alpha", "(I)C"⟩ : MethodName) method_6_code 1 (some .char) :: ws) ({ frames := 0, cells := 0, slots := 0, locals := 0 } : Room)) (fun a U => a = #[(.int p1)] ∧ Z.Warmed39 U.vm ∧ U.heap = h0) (fun _ _ _ _ _ => True) (fun _ U o U' => ∃ v L, o = .returned v ∧ Q28 Z p1  h0 n0 v U'.heap L ∧ FrameEnd U o U' L ({ frames := 0, cells := 0, slots := 0, locals := 0 } : Room).cells ({ frames := 0, cells := 0, slots := 0, locals := 0 } : Room).slots) := by
  refine MetFree.of_bodySF (plainFor_of_name own_pn6) hisR ?_
  intro p e s m args below meth c s₁ Bd hml0 hP hK
  obtain ⟨rfl, hZ, hh⟩ := hP
  have hx := Bd.exec
  have hby := Bd.bytes
  have hml : c.maxLocals = 1 := hml0
  have hown : s.vm.findClass "com/example/mavs/mavs/activation/Base32EncodePinLaw" = some m.cls := findClass_of_methodNamed Bd.named
  have hnm := (name_of_methodNamed Bd.named Bd.method).1
  have X0 : Stand p l e ({ frames := 0, cells := 0, slots := 0, locals := 0 } : Room) s m #[(.int p1)] below meth c s₁ [] 0 0 := Stand.of_body Bd
  have e0 : s₁.heap = h0 := by rw [← hh, Bd.state]; rfl
  have N0 := Fr.nil n0
  have pre0 : ∀ t, Steps p.tables e below (s₁.setTop (mkF m 0 #[.val (.int p1)] [])) t → Steps p.tables e below (s₁.setTop (entryFrame m #[(.int p1)] 1)) t := fun t k => castTop (own_ef28 m p1 ) k
  obtain ⟨fs, hr, hrun, hended, hW, hsame⟩ := X0.leave (v := some (.int (own_alpha p1))) (fun h => by rw [Bd.returns] at h; cases h)
  refine ⟨_, _, pre0 _ ?_, hrun, hended, _, _, rfl, ?_, ⟨_, rfl⟩, hW, hsame.mono (by decide) (by decide)⟩
  · show Steps p.tables e below (s₁.setTop (mkF m 0 #[.val (.int p1)] [])) _
    refine XS.iloadN X0.here hx rfl (hb hby own_d28_0) rfl ?_
    show Steps p.tables e below (s₁.setTop (mkF m 1 #[.val (.int p1)] [(.int p1)])) _
    refine XT.bipushV X0.here hx rfl (26 : Int32) (hb hby own_d28_1) (by decide) ?_
    show Steps p.tables e below (s₁.setTop (mkF m 3 #[.val (.int p1)] [(.int (26 : Int32)), (.int p1)])) _
    by_cases hc3 : p1 < (26 : Int32)
    · refine XS.icmpNo X0.here hx rfl (hb hby own_d28_3) rfl (XT.ii_ge_f hc3) ?_
      show Steps p.tables e below (s₁.setTop (mkF m 6 #[.val (.int p1)] [])) _
      refine XT.bipushV X0.here hx rfl (65 : Int32) (hb hby own_d28_6) (by decide) ?_
      show Steps p.tables e below (s₁.setTop (mkF m 8 #[.val (.int p1)] [(.int (65 : Int32))])) _
      refine XS.iloadN X0.here hx rfl (hb hby own_d28_8) rfl ?_
      show Steps p.tables e below (s₁.setTop (mkF m 9 #[.val (.int p1)] [(.int p1), (.int (65 : Int32))])) _
      refine XS.iadd X0.here hx rfl (hb hby own_d28_9) rfl ?_
      show Steps p.tables e below (s₁.setTop (mkF m 10 #[.val (.int p1)] [(.int ((65 : Int32) + p1))])) _
      refine XT.i2c X0.here hx rfl (hb hby own_d28_10) rfl ?_
      show Steps p.tables e below (s₁.setTop (mkF m 11 #[.val (.int p1)] [(.int (((65 : Int32) + p1).toUInt32.toUInt16.toUInt32.toInt32))])) _
      exact retN X0 hx (t := .char) Bd.returns (by simp) (hb hby own_d28_11) (by rw [show nar .char (((65 : Int32) + p1).toUInt32.toUInt16.toUInt32.toInt32) = (own_alpha p1) from (by simp only [own_alpha, if_pos hc3]; exact Value.int.inj (XT.narrow_c _))]; exact hr)
    · refine XS.icmpYes X0.here hx rfl (pc0 := 3) (pc' := 12) rfl (hb hby own_d28_3) rfl (XT.ii_ge_t hc3) (by decide) (by decide) ?_
      show Steps p.tables e below (s₁.setTop (mkF m 12 #[.val (.int p1)] [])) _
      refine XT.bipushV X0.here hx rfl (50 : Int32) (hb hby own_d28_12) (by decide) ?_
      show Steps p.tables e below (s₁.setTop (mkF m 14 #[.val (.int p1)] [(.int (50 : Int32))])) _
      refine XS.iloadN X0.here hx rfl (hb hby own_d28_14) rfl ?_
      show Steps p.tables e below (s₁.setTop (mkF m 15 #[.val (.int p1)] [(.int p1), (.int (50 : Int32))])) _
      refine XT.bipushV X0.here hx rfl (26 : Int32) (hb hby own_d28_15) (by decide) ?_
      show Steps p.tables e below (s₁.setTop (mkF m 17 #[.val (.int p1)] [(.int (26 : Int32)), (.int p1), (.int (50 : Int32))])) _
      refine XS.isub X0.here hx rfl (hb hby own_d28_17) rfl ?_
      show Steps p.tables e below (s₁.setTop (mkF m 18 #[.val (.int p1)] [(.int (p1 - (26 : Int32))), (.int (50 : Int32))])) _
      refine XS.iadd X0.here hx rfl (hb hby own_d28_18) rfl ?_
      show Steps p.tables e below (s₁.setTop (mkF m 19 #[.val (.int p1)] [(.int ((50 : Int32) + (p1 - (26 : Int32))))])) _
      refine XT.i2c X0.here hx rfl (hb hby own_d28_19) rfl ?_
      show Steps p.tables e below (s₁.setTop (mkF m 20 #[.val (.int p1)] [(.int (((50 : Int32) + (p1 - (26 : Int32))).toUInt32.toUInt16.toUInt32.toInt32))])) _
      exact retN X0 hx (t := .char) Bd.returns (by simp) (hb hby own_d28_20) (by rw [show nar .char (((50 : Int32) + (p1 - (26 : Int32))).toUInt32.toUInt16.toUInt32.toInt32) = (own_alpha p1) from (by simp only [own_alpha, if_neg hc3]; exact Value.int.inj (XT.narrow_c _))]; exact hr)
  · exact ⟨rfl, N0, e0⟩
theorem own_pd15 : parseMethodDescriptor "(I)C" = some ⟨[.int], some .char⟩ := by decide +kernel
theorem own_d17_0 : decode method_7_code 0 = .ok (.iload_n 1, 1) := by decide +kernel
theorem own_d17_1 : decode method_7_code 1 = .ok (.aload_n 0, 1) := by decide +kernel
theorem own_d17_2 : decode method_7_code 2 = .ok (.invokevirtual 24, 3) := by decide +kernel
theorem own_d17_5 : decode method_7_code 5 = .ok (.if_icmp .lt 5, 3) := by decide +kernel
theorem own_d17_8 : decode method_7_code 8 = .ok (.iconst 1, 1) := by decide +kernel
theorem own_d17_9 : decode method_7_code 9 = .ok (.ireturn, 1) := by decide +kernel
theorem own_d17_10 : decode method_7_code 10 = .ok (.iload_n 1, 1) := by decide +kernel
theorem own_d17_11 : decode method_7_code 11 = .ok (.bipush 8, 2) := by decide +kernel
theorem own_d17_13 : decode method_7_code 13 = .ok (.if_icmp .ge 7, 3) := by decide +kernel
theorem own_d17_16 : decode method_7_code 16 = .ok (.lload_n 2, 1) := by decide +kernel
theorem own_d17_17 : decode method_7_code 17 = .ok (.goto 5, 3) := by decide +kernel
theorem own_d17_20 : decode method_7_code 20 = .ok (.lload 4, 2) := by decide +kernel
theorem own_d17_22 : decode method_7_code 22 = .ok (.lstore 6, 2) := by decide +kernel
theorem own_d17_24 : decode method_7_code 24 = .ok (.iload_n 1, 1) := by decide +kernel
theorem own_d17_25 : decode method_7_code 25 = .ok (.bipush 8, 2) := by decide +kernel
theorem own_d17_27 : decode method_7_code 27 = .ok (.if_icmp .ge 7, 3) := by decide +kernel
theorem own_d17_30 : decode method_7_code 30 = .ok (.iload_n 1, 1) := by decide +kernel
theorem own_d17_31 : decode method_7_code 31 = .ok (.goto 7, 3) := by decide +kernel
theorem own_d17_34 : decode method_7_code 34 = .ok (.iload_n 1, 1) := by decide +kernel
theorem own_d17_35 : decode method_7_code 35 = .ok (.bipush 8, 2) := by decide +kernel
theorem own_d17_37 : decode method_7_code 37 = .ok (.isub, 1) := by decide +kernel
theorem own_d17_38 : decode method_7_code 38 = .ok (.istore 8, 2) := by decide +kernel
theorem own_d17_40 : decode method_7_code 40 = .ok (.lload 6, 2) := by decide +kernel
theorem own_d17_42 : decode method_7_code 42 = .ok (.bipush 35, 2) := by decide +kernel
theorem own_d17_44 : decode method_7_code 44 = .ok (.iconst 5, 1) := by decide +kernel
theorem own_d17_45 : decode method_7_code 45 = .ok (.iload 8, 2) := by decide +kernel
theorem own_d17_47 : decode method_7_code 47 = .ok (.imul, 1) := by decide +kernel
theorem own_d17_48 : decode method_7_code 48 = .ok (.isub, 1) := by decide +kernel
theorem own_d17_49 : decode method_7_code 49 = .ok (.lushr, 1) := by decide +kernel
theorem own_d17_50 : decode method_7_code 50 = .ok (.ldc2_w 39, 3) := by decide +kernel
theorem own_d17_53 : decode method_7_code 53 = .ok (.land, 1) := by decide +kernel
theorem own_d17_54 : decode method_7_code 54 = .ok (.l2i, 1) := by decide +kernel
theorem own_d17_55 : decode method_7_code 55 = .ok (.istore 9, 2) := by decide +kernel
theorem own_d17_57 : decode method_7_code 57 = .ok (.aload_n 0, 1) := by decide +kernel
theorem own_d17_58 : decode method_7_code 58 = .ok (.iload_n 1, 1) := by decide +kernel
theorem own_d17_59 : decode method_7_code 59 = .ok (.invokevirtual 41, 3) := by decide +kernel
theorem own_d17_62 : decode method_7_code 62 = .ok (.iload 9, 2) := by decide +kernel
theorem own_d17_64 : decode method_7_code 64 = .ok (.invokestatic 45, 3) := by decide +kernel
theorem own_d17_67 : decode method_7_code 67 = .ok (.if_icmp .ne 7, 3) := by decide +kernel
theorem own_d17_70 : decode method_7_code 70 = .ok (.iconst 1, 1) := by decide +kernel
theorem own_d17_71 : decode method_7_code 71 = .ok (.goto 4, 3) := by decide +kernel
theorem own_d17_75 : decode method_7_code 75 = .ok (.ireturn, 1) := by decide +kernel
theorem own_ef17 (m : MethodId) (a1 : Addr) (p2 : Int32) (q3 : Int64) (q4 : Int64)  : entryFrame m #[(.ref a1), (.int p2), (.long q3), (.long q4)] 10 = mkF m 0 #[.val (.ref a1), .val (.int p2), .val (.long q3), .second, .val (.long q4), .second, .unset, .unset, .unset, .unset] [] := by first | (simp [entryFrame, mkF, argsToLocals, Value.category]; done) | rfl
def Q17 (Z : State) (a1 : Addr) (p2 : Int32) (q3 : Int64) (q4 : Int64) (u : Addr) (kb : ClassId) (N : Nat) (vs : List Value) (h0 : Heap) (n0 : Nat) (v : Option Value) (h : Heap) (L : List Loc) : Prop := v = some (.int ((1 : Int32))) ∧ Fr n0 L ∧ h = h0
set_option maxRecDepth 65536 in
set_option maxHeartbeats 40000000 in
theorem rm17 (l : Launch) (Z : State) (a0 : Array Value) (hw : ∀ d ∈ tables_1, d.before a0 Z = true) (ws : List Jvm.Cond) (a1 : Addr) (p2 : Int32) (q3 : Int64) (q4 : Int64) (u : Addr) (kb : ClassId) (N : Nat) (vs : List Value) (h0 : Heap) (n0 : Nat) (Z0 : n0 ≤ h0.size) (cz : Int32) (hcz : ¬ cz = 0) (O1 : Sta Z Z.heap "java/lang/String" "COMPACT_STRINGS" "Z" (.int cz)) (OL : Old Z Z.heap.size h0) (hnz : Z.heap.size ≤ n0) (fm : Value) (hfm : fm.isRef = true) (O2 : Sta Z Z.heap "jdk/internal/util/Preconditions" "SIOOBE_FORMATTER" "Ljava/util/function/BiFunction;" fm) (SD : own_str Z h0 a1 u kb N vs) (hN : N ≤ 16) (hp : ¬ p2 < 0) (hgood : p2 < Int32.ofNat N → ∃ w : Int32, vs.getD p2.toNatClampNeg (.int (0 : Int32)) = .int w ∧ own_chr w = own_alpha (own_v (own_gs p2 q3 q4) (own_js p2))) :
    MetFree l (⟨"com/example/mavs/mavs/activation/Base32EncodePinLaw", "at", "(Ljava/lang/String;IJJ)Z"⟩ : MethodName) (head1 (Jvm.Cond.code (⟨"com/example/mavs/mavs/activation/Base32EncodePinLaw", "at", "(Ljava/lang/String;IJJ)Z"⟩ : MethodName) method_7_code 10 (some .boolean) :: ws) ({ frames := 4, cells := 0, slots := 0, locals := 53 } : Room)) (fun a U => a = #[(.ref a1), (.int p2), (.long q3), (.long q4)] ∧ Z.Warmed39 U.vm ∧ U.heap = h0) (fun _ _ _ _ _ => True) (fun _ U o U' => ∃ v L, o = .returned v ∧ Q17 Z a1 p2 q3 q4 u kb N vs h0 n0 v U'.heap L ∧ FrameEnd U o U' L ({ frames := 4, cells := 0, slots := 0, locals := 53 } : Room).cells ({ frames := 4, cells := 0, slots := 0, locals := 53 } : Room).slots) := by
  refine MetFree.of_bodySF (plainFor_of_name own_pn6) hisR ?_
  intro p e s m args below meth c s₁ Bd hml0 hP hK
  obtain ⟨rfl, hZ, hh⟩ := hP
  have hx := Bd.exec
  have hby := Bd.bytes
  have hml : c.maxLocals = 10 := hml0
  have hown : s.vm.findClass "com/example/mavs/mavs/activation/Base32EncodePinLaw" = some m.cls := findClass_of_methodNamed Bd.named
  have hnm := (name_of_methodNamed Bd.named Bd.method).1
  have X0 : Stand p l e ({ frames := 4, cells := 0, slots := 0, locals := 53 } : Room) s m #[(.ref a1), (.int p2), (.long q3), (.long q4)] below meth c s₁ [] 0 0 := Stand.of_body Bd
  have e0 : s₁.heap = h0 := by rw [← hh, Bd.state]; rfl
  have N0 := Fr.nil n0
  have pre0 : ∀ t, Steps p.tables e below (s₁.setTop (mkF m 0 #[.val (.ref a1), .val (.int p2), .val (.long q3), .second, .val (.long q4), .second, .unset, .unset, .unset, .unset] [])) t → Steps p.tables e below (s₁.setTop (entryFrame m #[(.ref a1), (.int p2), (.long q3), (.long q4)] 10)) t := fun t k => castTop (own_ef17 m a1 p2 q3 q4 ) k
  obtain ⟨E_a1, Fc, Fv, V_u⟩ := SD
  have sg0 : ∀ tgt, Steps p.tables e below (s₁.setTop (mkF m 2 #[.val (.ref a1), .val (.int p2), .val (.long q3), .second, .val (.long q4), .second, .unset, .unset, .unset, .unset] [(.ref a1), (.int p2)])) tgt → Steps p.tables e below (s₁.setTop (mkF m 0 #[.val (.ref a1), .val (.int p2), .val (.long q3), .second, .val (.long q4), .second, .unset, .unset, .unset, .unset] [])) tgt := by
    intro tgt kk
    show Steps p.tables e below (s₁.setTop (mkF m 0 #[.val (.ref a1), .val (.int p2), .val (.long q3), .second, .val (.long q4), .second, .unset, .unset, .unset, .unset] [])) _
    refine XS.iloadN X0.here hx rfl (hb hby own_d17_0) rfl ?_
    show Steps p.tables e below (s₁.setTop (mkF m 1 #[.val (.ref a1), .val (.int p2), .val (.long q3), .second, .val (.long q4), .second, .unset, .unset, .unset, .unset] [(.int p2)])) _
    refine XS.aloadN X0.here hx rfl (hb hby own_d17_1) rfl rfl ?_
    exact kk
  obtain ⟨cq1, kq1, qa1, qb1, qc1⟩ := isOf hZ e0 E_a1
  obtain ⟨_, _, ⟨T1, L1, k1, n1⟩, -, X1, ⟨Lc1, hQ1, l1, y1, z1⟩, st1⟩ := X0.virtualBack hx (y := (⟨"java/lang/String", "length", "()I"⟩ : MethodName)) (z := (⟨"java/lang/String", "length", "()I"⟩ : MethodName)) hown (mvT hZ (hw _ (List.mem_of_getElem? (i := 87) rfl))) (mvT hZ (hw _ (List.mem_of_getElem? (i := 88) rfl))) (notFace_of_selects (args := #[]) (mvT hZ (hw _ (List.mem_of_getElem? (i := 90) rfl)))) (mvT hZ (hw _ (List.mem_of_getElem? (i := 90) rfl))) (mvT hZ (hw _ (List.mem_of_getElem? (i := 89) rfl))) (by decide) (backOf (W := 1) (rm15 l Z a0 hw [] a1 u kb (Int32.ofNat N) vs h0 n0 Z0 cz hcz O1 OL hnz E_a1 Fv Fc V_u) hZ (hw _ (List.mem_of_getElem? (i := 91) rfl)) (hw _ (List.mem_of_getElem? (i := 22) rfl)) (by decide) (by decide)) qa1 qc1 (g := (mkF m 2 #[.val (.ref a1), .val (.int p2), .val (.long q3), .second, .val (.long q4), .second, .unset, .unset, .unset, .unset] [(.ref a1), (.int p2)])) rfl (by rw [hml]; rfl) (Steps.refl _) (argsL := []) (rest := [(.int p2)]) (lenOf own_pd0 rfl) rfl (by show 2 * 0 + _ ≤ _; exact Nat.le_of_eq rfl) (hb hby own_d17_2) (fun _ _ => ⟨rfl, e0, (by decide : 0 + 0 ≤ _), (by decide : 0 + 0 ≤ _)⟩)
  dsimp only [Pt.U, Pt.locs, Pt.cells, Pt.slots] at X1 l1 y1 z1 st1 hQ1
  subst l1 y1 z1
  obtain ⟨rfl, N1q, e1⟩ := hQ1
  have N1 := Fr.app N0 N1q
  by_cases hc5 : p2 < (Int32.ofNat N)
  · skip
    have sg2 : ∀ tgt, Steps p.tables e below (T1.setTop (mkF m 10 #[.val (.ref a1), .val (.int p2), .val (.long q3), .second, .val (.long q4), .second, .unset, .unset, .unset, .unset] [])) tgt → Steps p.tables e below (T1.setTop (mkF m 5 #[.val (.ref a1), .val (.int p2), .val (.long q3), .second, .val (.long q4), .second, .unset, .unset, .unset, .unset] [(.int (Int32.ofNat N)), (.int p2)])) tgt := by
      intro tgt kk
      show Steps p.tables e below (T1.setTop (mkF m 5 #[.val (.ref a1), .val (.int p2), .val (.long q3), .second, .val (.long q4), .second, .unset, .unset, .unset, .unset] [(.int (Int32.ofNat N)), (.int p2)])) _
      refine XS.icmpYes X1.here hx rfl (pc0 := 5) (pc' := 10) rfl (hb hby own_d17_5) rfl (XT.ii_lt_t hc5) (by decide) (by decide) ?_
      exact kk
    obtain ⟨w, hw1, hw2⟩ := hgood hc5
    obtain ⟨vg, hvg⟩ : ∃ z_ : Int64, z_ = own_gs p2 q3 q4 := ⟨_, rfl⟩
    have sg3 : ∀ tgt, Steps p.tables e below (T1.setTop (mkF m 22 #[.val (.ref a1), .val (.int p2), .val (.long q3), .second, .val (.long q4), .second, .unset, .unset, .unset, .unset] [(.long vg)])) tgt → Steps p.tables e below (T1.setTop (mkF m 10 #[.val (.ref a1), .val (.int p2), .val (.long q3), .second, .val (.long q4), .second, .unset, .unset, .unset, .unset] [])) tgt := by
      intro tgt kk
      show Steps p.tables e below (T1.setTop (mkF m 10 #[.val (.ref a1), .val (.int p2), .val (.long q3), .second, .val (.long q4), .second, .unset, .unset, .unset, .unset] [])) _
      refine XS.iloadN X1.here hx rfl (hb hby own_d17_10) rfl ?_
      show Steps p.tables e below (T1.setTop (mkF m 11 #[.val (.ref a1), .val (.int p2), .val (.long q3), .second, .val (.long q4), .second, .unset, .unset, .unset, .unset] [(.int p2)])) _
      refine XT.bipushV X1.here hx rfl (8 : Int32) (hb hby own_d17_11) (by decide) ?_
      show Steps p.tables e below (T1.setTop (mkF m 13 #[.val (.ref a1), .val (.int p2), .val (.long q3), .second, .val (.long q4), .second, .unset, .unset, .unset, .unset] [(.int (8 : Int32)), (.int p2)])) _
      by_cases hc13 : p2 < (8 : Int32)
      · refine XS.icmpNo X1.here hx rfl (hb hby own_d17_13) rfl (XT.ii_ge_f hc13) ?_
        show Steps p.tables e below (T1.setTop (mkF m 16 #[.val (.ref a1), .val (.int p2), .val (.long q3), .second, .val (.long q4), .second, .unset, .unset, .unset, .unset] [])) _
        refine XT.lloadN X1.here hx rfl (hb hby own_d17_16) rfl ?_
        show Steps p.tables e below (T1.setTop (mkF m 17 #[.val (.ref a1), .val (.int p2), .val (.long q3), .second, .val (.long q4), .second, .unset, .unset, .unset, .unset] [(.long q3)])) _
        refine XS.goto X1.here hx rfl (pc0 := 17) (pc' := 22) rfl (hb hby own_d17_17) (by decide) (by decide) ?_
        show Steps p.tables e below (T1.setTop (mkF m 22 #[.val (.ref a1), .val (.int p2), .val (.long q3), .second, .val (.long q4), .second, .unset, .unset, .unset, .unset] [(.long q3)])) _
        have hq : vg = q3 := by rw [hvg]; simp only [own_gs, if_pos hc13]
        subst hq
        exact kk
      · refine XS.icmpYes X1.here hx rfl (pc0 := 13) (pc' := 20) rfl (hb hby own_d17_13) rfl (XT.ii_ge_t hc13) (by decide) (by decide) ?_
        show Steps p.tables e below (T1.setTop (mkF m 20 #[.val (.ref a1), .val (.int p2), .val (.long q3), .second, .val (.long q4), .second, .unset, .unset, .unset, .unset] [])) _
        refine XT.lload X1.here hx rfl (hb hby own_d17_20) rfl ?_
        show Steps p.tables e below (T1.setTop (mkF m 22 #[.val (.ref a1), .val (.int p2), .val (.long q3), .second, .val (.long q4), .second, .unset, .unset, .unset, .unset] [(.long q4)])) _
        have hq : vg = q4 := by rw [hvg]; simp only [own_gs, if_neg hc13]
        subst hq
        exact kk
    have sg4 : ∀ tgt, Steps p.tables e below (T1.setTop (mkF m 24 #[.val (.ref a1), .val (.int p2), .val (.long q3), .second, .val (.long q4), .second, .val (.long vg), .second, .unset, .unset] [])) tgt → Steps p.tables e below (T1.setTop (mkF m 22 #[.val (.ref a1), .val (.int p2), .val (.long q3), .second, .val (.long q4), .second, .unset, .unset, .unset, .unset] [(.long vg)])) tgt := by
      intro tgt kk
      show Steps p.tables e below (T1.setTop (mkF m 22 #[.val (.ref a1), .val (.int p2), .val (.long q3), .second, .val (.long q4), .second, .unset, .unset, .unset, .unset] [(.long vg)])) _
      refine XT.lstore X1.here hx rfl (hb hby own_d17_22) rfl (l' := #[.val (.ref a1), .val (.int p2), .val (.long q3), .second, .val (.long q4), .second, .val (.long vg), .second, .unset, .unset]) rfl ?_
      exact kk
    obtain ⟨vj, hvj⟩ : ∃ z_ : Int32, z_ = own_js p2 := ⟨_, rfl⟩
    have sg5 : ∀ tgt, Steps p.tables e below (T1.setTop (mkF m 38 #[.val (.ref a1), .val (.int p2), .val (.long q3), .second, .val (.long q4), .second, .val (.long vg), .second, .unset, .unset] [(.int vj)])) tgt → Steps p.tables e below (T1.setTop (mkF m 24 #[.val (.ref a1), .val (.int p2), .val (.long q3), .second, .val (.long q4), .second, .val (.long vg), .second, .unset, .unset] [])) tgt := by
      intro tgt kk
      show Steps p.tables e below (T1.setTop (mkF m 24 #[.val (.ref a1), .val (.int p2), .val (.long q3), .second, .val (.long q4), .second, .val (.long vg), .second, .unset, .unset] [])) _
      refine XS.iloadN X1.here hx rfl (hb hby own_d17_24) rfl ?_
      show Steps p.tables e below (T1.setTop (mkF m 25 #[.val (.ref a1), .val (.int p2), .val (.long q3), .second, .val (.long q4), .second, .val (.long vg), .second, .unset, .unset] [(.int p2)])) _
      refine XT.bipushV X1.here hx rfl (8 : Int32) (hb hby own_d17_25) (by decide) ?_
      show Steps p.tables e below (T1.setTop (mkF m 27 #[.val (.ref a1), .val (.int p2), .val (.long q3), .second, .val (.long q4), .second, .val (.long vg), .second, .unset, .unset] [(.int (8 : Int32)), (.int p2)])) _
      by_cases hc27 : p2 < (8 : Int32)
      · refine XS.icmpNo X1.here hx rfl (hb hby own_d17_27) rfl (XT.ii_ge_f hc27) ?_
        show Steps p.tables e below (T1.setTop (mkF m 30 #[.val (.ref a1), .val (.int p2), .val (.long q3), .second, .val (.long q4), .second, .val (.long vg), .second, .unset, .unset] [])) _
        refine XS.iloadN X1.here hx rfl (hb hby own_d17_30) rfl ?_
        show Steps p.tables e below (T1.setTop (mkF m 31 #[.val (.ref a1), .val (.int p2), .val (.long q3), .second, .val (.long q4), .second, .val (.long vg), .second, .unset, .unset] [(.int p2)])) _
        refine XS.goto X1.here hx rfl (pc0 := 31) (pc' := 38) rfl (hb hby own_d17_31) (by decide) (by decide) ?_
        show Steps p.tables e below (T1.setTop (mkF m 38 #[.val (.ref a1), .val (.int p2), .val (.long q3), .second, .val (.long q4), .second, .val (.long vg), .second, .unset, .unset] [(.int p2)])) _
        have hq : vj = p2 := by rw [hvj]; simp only [own_js, if_pos hc27]
        subst hq
        exact kk
      · refine XS.icmpYes X1.here hx rfl (pc0 := 27) (pc' := 34) rfl (hb hby own_d17_27) rfl (XT.ii_ge_t hc27) (by decide) (by decide) ?_
        show Steps p.tables e below (T1.setTop (mkF m 34 #[.val (.ref a1), .val (.int p2), .val (.long q3), .second, .val (.long q4), .second, .val (.long vg), .second, .unset, .unset] [])) _
        refine XS.iloadN X1.here hx rfl (hb hby own_d17_34) rfl ?_
        show Steps p.tables e below (T1.setTop (mkF m 35 #[.val (.ref a1), .val (.int p2), .val (.long q3), .second, .val (.long q4), .second, .val (.long vg), .second, .unset, .unset] [(.int p2)])) _
        refine XT.bipushV X1.here hx rfl (8 : Int32) (hb hby own_d17_35) (by decide) ?_
        show Steps p.tables e below (T1.setTop (mkF m 37 #[.val (.ref a1), .val (.int p2), .val (.long q3), .second, .val (.long q4), .second, .val (.long vg), .second, .unset, .unset] [(.int (8 : Int32)), (.int p2)])) _
        refine XS.isub X1.here hx rfl (hb hby own_d17_37) rfl ?_
        show Steps p.tables e below (T1.setTop (mkF m 38 #[.val (.ref a1), .val (.int p2), .val (.long q3), .second, .val (.long q4), .second, .val (.long vg), .second, .unset, .unset] [(.int (p2 - (8 : Int32)))])) _
        have hq : vj = (p2 - (8 : Int32)) := by rw [hvj]; simp only [own_js, if_neg hc27]
        subst hq
        exact kk
    obtain ⟨v1, hv1⟩ : ∃ z_ : Int32, z_ = (((XT.ushrL vg ((35 : Int32) - ((5 : Int32) * vj))) &&& (31 : Int64)).toInt32) := ⟨_, rfl⟩
    have sg6 : ∀ tgt, Steps p.tables e below (T1.setTop (mkF m 59 #[.val (.ref a1), .val (.int p2), .val (.long q3), .second, .val (.long q4), .second, .val (.long vg), .second, .val (.int vj), .val (.int v1)] [(.int p2), (.ref a1)])) tgt → Steps p.tables e below (T1.setTop (mkF m 38 #[.val (.ref a1), .val (.int p2), .val (.long q3), .second, .val (.long q4), .second, .val (.long vg), .second, .unset, .unset] [(.int vj)])) tgt := by
      intro tgt kk
      show Steps p.tables e below (T1.setTop (mkF m 38 #[.val (.ref a1), .val (.int p2), .val (.long q3), .second, .val (.long q4), .second, .val (.long vg), .second, .unset, .unset] [(.int vj)])) _
      refine XS.istore X1.here hx rfl (hb hby own_d17_38) rfl (l' := #[.val (.ref a1), .val (.int p2), .val (.long q3), .second, .val (.long q4), .second, .val (.long vg), .second, .val (.int vj), .unset]) rfl ?_
      show Steps p.tables e below (T1.setTop (mkF m 40 #[.val (.ref a1), .val (.int p2), .val (.long q3), .second, .val (.long q4), .second, .val (.long vg), .second, .val (.int vj), .unset] [])) _
      refine XT.lload X1.here hx rfl (hb hby own_d17_40) rfl ?_
      show Steps p.tables e below (T1.setTop (mkF m 42 #[.val (.ref a1), .val (.int p2), .val (.long q3), .second, .val (.long q4), .second, .val (.long vg), .second, .val (.int vj), .unset] [(.long vg)])) _
      refine XT.bipushV X1.here hx rfl (35 : Int32) (hb hby own_d17_42) (by decide) ?_
      show Steps p.tables e below (T1.setTop (mkF m 44 #[.val (.ref a1), .val (.int p2), .val (.long q3), .second, .val (.long q4), .second, .val (.long vg), .second, .val (.int vj), .unset] [(.int (35 : Int32)), (.long vg)])) _
      refine XT.iconstV X1.here hx rfl (5 : Int32) (hb hby own_d17_44) (by decide) ?_
      show Steps p.tables e below (T1.setTop (mkF m 45 #[.val (.ref a1), .val (.int p2), .val (.long q3), .second, .val (.long q4), .second, .val (.long vg), .second, .val (.int vj), .unset] [(.int (5 : Int32)), (.int (35 : Int32)), (.long vg)])) _
      refine XS.iload X1.here hx rfl (hb hby own_d17_45) rfl ?_
      show Steps p.tables e below (T1.setTop (mkF m 47 #[.val (.ref a1), .val (.int p2), .val (.long q3), .second, .val (.long q4), .second, .val (.long vg), .second, .val (.int vj), .unset] [(.int vj), (.int (5 : Int32)), (.int (35 : Int32)), (.long vg)])) _
      refine XS.imul X1.here hx rfl (hb hby own_d17_47) rfl ?_
      show Steps p.tables e below (T1.setTop (mkF m 48 #[.val (.ref a1), .val (.int p2), .val (.long q3), .second, .val (.long q4), .second, .val (.long vg), .second, .val (.int vj), .unset] [(.int ((5 : Int32) * vj)), (.int (35 : Int32)), (.long vg)])) _
      refine XS.isub X1.here hx rfl (hb hby own_d17_48) rfl ?_
      show Steps p.tables e below (T1.setTop (mkF m 49 #[.val (.ref a1), .val (.int p2), .val (.long q3), .second, .val (.long q4), .second, .val (.long vg), .second, .val (.int vj), .unset] [(.int ((35 : Int32) - ((5 : Int32) * vj))), (.long vg)])) _
      refine XT.lushr X1.here hx rfl (hb hby own_d17_49) rfl ?_
      show Steps p.tables e below (T1.setTop (mkF m 50 #[.val (.ref a1), .val (.int p2), .val (.long q3), .second, .val (.long q4), .second, .val (.long vg), .second, .val (.int vj), .unset] [(.long (XT.ushrL vg ((35 : Int32) - ((5 : Int32) * vj))))])) _
      refine X1.ldc2J hx hown (mvT hZ (hw _ (List.mem_of_getElem? (i := 148) rfl))) rfl (hb hby own_d17_50) ?_
      show Steps p.tables e below (T1.setTop (mkF m 53 #[.val (.ref a1), .val (.int p2), .val (.long q3), .second, .val (.long q4), .second, .val (.long vg), .second, .val (.int vj), .unset] [(.long (31 : Int64)), (.long (XT.ushrL vg ((35 : Int32) - ((5 : Int32) * vj))))])) _
      refine XT.land X1.here hx rfl (hb hby own_d17_53) rfl ?_
      show Steps p.tables e below (T1.setTop (mkF m 54 #[.val (.ref a1), .val (.int p2), .val (.long q3), .second, .val (.long q4), .second, .val (.long vg), .second, .val (.int vj), .unset] [(.long ((XT.ushrL vg ((35 : Int32) - ((5 : Int32) * vj))) &&& (31 : Int64)))])) _
      refine XT.l2i X1.here hx rfl (hb hby own_d17_54) rfl ?_
      show Steps p.tables e below (T1.setTop (mkF m 55 #[.val (.ref a1), .val (.int p2), .val (.long q3), .second, .val (.long q4), .second, .val (.long vg), .second, .val (.int vj), .unset] [(.int (((XT.ushrL vg ((35 : Int32) - ((5 : Int32) * vj))) &&& (31 : Int64)).toInt32))])) _
      refine XS.istore X1.here hx rfl (hb hby own_d17_55) rfl (l' := #[.val (.ref a1), .val (.int p2), .val (.long q3), .second, .val (.long q4), .second, .val (.long vg), .second, .val (.int vj), .val (.int v1)]) (by rw [hv1]; rfl) ?_
      show Steps p.tables e below (T1.setTop (mkF m 57 #[.val (.ref a1), .val (.int p2), .val (.long q3), .second, .val (.long q4), .second, .val (.long vg), .second, .val (.int vj), .val (.int v1)] [])) _
      refine XS.aloadN X1.here hx rfl (hb hby own_d17_57) rfl rfl ?_
      show Steps p.tables e below (T1.setTop (mkF m 58 #[.val (.ref a1), .val (.int p2), .val (.long q3), .second, .val (.long q4), .second, .val (.long vg), .second, .val (.int vj), .val (.int v1)] [(.ref a1)])) _
      refine XS.iloadN X1.here hx rfl (hb hby own_d17_58) rfl ?_
      exact kk
    obtain ⟨cq2, kq2, qa2, qb2, qc2⟩ := isOf hZ e1 E_a1
    obtain ⟨_, _, ⟨T2, L2, k2, n2⟩, -, X2, ⟨Lc2, hQ2, l2, y2, z2⟩, st2⟩ := X1.virtualBack hx (y := (⟨"java/lang/String", "charAt", "(I)C"⟩ : MethodName)) (z := (⟨"java/lang/String", "charAt", "(I)C"⟩ : MethodName)) hown (mvT hZ (hw _ (List.mem_of_getElem? (i := 149) rfl))) (mvT hZ (hw _ (List.mem_of_getElem? (i := 109) rfl))) (notFace_of_selects (args := #[]) (mvT hZ (hw _ (List.mem_of_getElem? (i := 111) rfl)))) (mvT hZ (hw _ (List.mem_of_getElem? (i := 111) rfl))) (mvT hZ (hw _ (List.mem_of_getElem? (i := 110) rfl))) (by decide) (backOf (W := 0) (rm19 l Z a0 hw [] a1 p2 u kb (Int32.ofNat N) vs w h0 n0 Z0 cz hcz O1 OL hnz fm hfm O2 E_a1 Fv Fc V_u hp hc5 hw1) hZ (hw _ (List.mem_of_getElem? (i := 112) rfl)) (hw _ (List.mem_of_getElem? (i := 22) rfl)) (by decide) (by decide)) qa2 qc2 (g := (mkF m 59 #[.val (.ref a1), .val (.int p2), .val (.long q3), .second, .val (.long q4), .second, .val (.long vg), .second, .val (.int vj), .val (.int v1)] [(.int p2), (.ref a1)])) rfl (by rw [hml]; rfl) (Steps.refl _) (argsL := [(.int p2)]) (rest := []) (lenOf own_pd15 rfl) rfl (by show 2 * 0 + _ ≤ _; exact Nat.le_of_eq rfl) (hb hby own_d17_59) (fun _ _ => ⟨rfl, e1, (by decide : 0 + 0 ≤ _), (by decide : 0 + 0 ≤ _)⟩)
    dsimp only [Pt.U, Pt.locs, Pt.cells, Pt.slots] at X2 l2 y2 z2 st2 hQ2
    subst l2 y2 z2
    obtain ⟨rfl, N2q, e2⟩ := hQ2
    have N2 := Fr.app N1 N2q
    have sg8 : ∀ tgt, Steps p.tables e below (T2.setTop (mkF m 64 #[.val (.ref a1), .val (.int p2), .val (.long q3), .second, .val (.long q4), .second, .val (.long vg), .second, .val (.int vj), .val (.int v1)] [(.int v1), (.int (own_chr w))])) tgt → Steps p.tables e below (T2.setTop (mkF m 62 #[.val (.ref a1), .val (.int p2), .val (.long q3), .second, .val (.long q4), .second, .val (.long vg), .second, .val (.int vj), .val (.int v1)] [(.int (own_chr w))])) tgt := by
      intro tgt kk
      show Steps p.tables e below (T2.setTop (mkF m 62 #[.val (.ref a1), .val (.int p2), .val (.long q3), .second, .val (.long q4), .second, .val (.long vg), .second, .val (.int vj), .val (.int v1)] [(.int (own_chr w))])) _
      refine XS.iload X2.here hx rfl (hb hby own_d17_62) rfl ?_
      exact kk
    -- pc 64: com/example/mavs/mavs/activation/Base32EncodePinLaw.alpha
    obtain ⟨_, _, ⟨T3, L3, k3, n3⟩, -, X3, ⟨Lc3, hQ3, l3, y3, z3⟩, st3⟩ := Jvm.LawKit.callS X2 hx (y := (⟨"com/example/mavs/mavs/activation/Base32EncodePinLaw", "alpha", "(I)C"⟩ : MethodName)) hown (mvT hZ (hw _ (List.mem_of_getElem? (i := 150) rfl))) (mvT hZ (hw _ (List.mem_of_getElem? (i := 151) rfl))) (mvT hZ (hw _ (List.mem_of_getElem? (i := 82) rfl))) (mvT hZ (hw _ (List.mem_of_getElem? (i := 152) rfl))) (by decide) (backOf (W := 1) (rm28 l Z a0 hw [] v1  h0 n0 Z0 ) hZ (hw _ (List.mem_of_getElem? (i := 152) rfl)) (hw _ (List.mem_of_getElem? (i := 82) rfl)) (by decide) (by decide)) (g := (mkF m 64 #[.val (.ref a1), .val (.int p2), .val (.long q3), .second, .val (.long q4), .second, .val (.long vg), .second, .val (.int vj), .val (.int v1)] [(.int v1), (.int (own_chr w))])) rfl (by rw [hml]; rfl) (argsL := [(.int v1)]) (rest := [(.int (own_chr w))]) (lenOf own_pd15 rfl) rfl (by show 2 * 0 + _ ≤ _; exact Nat.le_of_eq rfl) (hb hby own_d17_64) (fun _ _ => ⟨rfl, e2, (by decide : 0 + 0 ≤ _), (by decide : 0 + 0 ≤ _)⟩)
    dsimp only [Pt.U, Pt.locs, Pt.cells, Pt.slots] at X3 l3 y3 z3 st3 hQ3
    subst l3 y3 z3
    obtain ⟨rfl, N3q, e3⟩ := hQ3
    have N3 := Fr.app N2 N3q
    obtain ⟨fs, hr, hrun, hended, hW, hsame⟩ := X3.leave (v := some (.int (1 : Int32))) (fun h => by rw [Bd.returns] at h; cases h)
    refine ⟨_, _, pre0 _ ?_, hrun, hended, _, _, rfl, ?_, ⟨_, rfl⟩, hW, hsame.mono (by decide) (by decide)⟩
    · refine sg0 _ ?_
      refine st1.trans ?_
      refine sg2 _ ?_
      refine sg3 _ ?_
      refine sg4 _ ?_
      refine sg5 _ ?_
      refine sg6 _ ?_
      refine st2.trans ?_
      refine sg8 _ ?_
      refine st3 _ ?_
      show Steps p.tables e below (T3.setTop (mkF m 67 #[.val (.ref a1), .val (.int p2), .val (.long q3), .second, .val (.long q4), .second, .val (.long vg), .second, .val (.int vj), .val (.int v1)] [(.int (own_alpha v1)), (.int (own_chr w))])) _
      refine XS.icmpNo X3.here hx rfl (hb hby own_d17_67) rfl (XT.ii_ne_f (by rw [hv1, hvg, hvj]; exact hw2)) ?_
      show Steps p.tables e below (T3.setTop (mkF m 70 #[.val (.ref a1), .val (.int p2), .val (.long q3), .second, .val (.long q4), .second, .val (.long vg), .second, .val (.int vj), .val (.int v1)] [])) _
      refine XT.iconstV X3.here hx rfl (1 : Int32) (hb hby own_d17_70) (by decide) ?_
      show Steps p.tables e below (T3.setTop (mkF m 71 #[.val (.ref a1), .val (.int p2), .val (.long q3), .second, .val (.long q4), .second, .val (.long vg), .second, .val (.int vj), .val (.int v1)] [(.int (1 : Int32))])) _
      refine XS.goto X3.here hx rfl (pc0 := 71) (pc' := 75) rfl (hb hby own_d17_71) (by decide) (by decide) ?_
      show Steps p.tables e below (T3.setTop (mkF m 75 #[.val (.ref a1), .val (.int p2), .val (.long q3), .second, .val (.long q4), .second, .val (.long vg), .second, .val (.int vj), .val (.int v1)] [(.int (1 : Int32))])) _
      exact retN X3 hx (t := .boolean) Bd.returns (by simp) (hb hby own_d17_75) hr
    · exact ⟨rfl, N3, e3⟩
  · skip
    have sg2 : ∀ tgt, Steps p.tables e below (T1.setTop (mkF m 8 #[.val (.ref a1), .val (.int p2), .val (.long q3), .second, .val (.long q4), .second, .unset, .unset, .unset, .unset] [])) tgt → Steps p.tables e below (T1.setTop (mkF m 5 #[.val (.ref a1), .val (.int p2), .val (.long q3), .second, .val (.long q4), .second, .unset, .unset, .unset, .unset] [(.int (Int32.ofNat N)), (.int p2)])) tgt := by
      intro tgt kk
      show Steps p.tables e below (T1.setTop (mkF m 5 #[.val (.ref a1), .val (.int p2), .val (.long q3), .second, .val (.long q4), .second, .unset, .unset, .unset, .unset] [(.int (Int32.ofNat N)), (.int p2)])) _
      refine XS.icmpNo X1.here hx rfl (hb hby own_d17_5) rfl (XT.ii_lt_f hc5) ?_
      exact kk
    obtain ⟨fs, hr, hrun, hended, hW, hsame⟩ := X1.leave (v := some (.int (1 : Int32))) (fun h => by rw [Bd.returns] at h; cases h)
    refine ⟨_, _, pre0 _ ?_, hrun, hended, _, _, rfl, ?_, ⟨_, rfl⟩, hW, hsame.mono (by decide) (by decide)⟩
    · refine sg0 _ ?_
      refine st1.trans ?_
      refine sg2 _ ?_
      show Steps p.tables e below (T1.setTop (mkF m 8 #[.val (.ref a1), .val (.int p2), .val (.long q3), .second, .val (.long q4), .second, .unset, .unset, .unset, .unset] [])) _
      refine XT.iconstV X1.here hx rfl (1 : Int32) (hb hby own_d17_8) (by decide) ?_
      show Steps p.tables e below (T1.setTop (mkF m 9 #[.val (.ref a1), .val (.int p2), .val (.long q3), .second, .val (.long q4), .second, .unset, .unset, .unset, .unset] [(.int (1 : Int32))])) _
      exact retN X1 hx (t := .boolean) Bd.returns (by simp) (hb hby own_d17_9) hr
    · exact ⟨rfl, N1, e1⟩
theorem own_pd16 : parseMethodDescriptor "(C)Ljava/lang/StringBuilder;" = some ⟨[.char], some (.object "java/lang/StringBuilder")⟩ := by decide +kernel
theorem own_d1_34 : decode prog_3_method_2_code 34 = .ok (.iload 6, 2) := by decide +kernel
theorem own_d1_36 : decode prog_3_method_2_code 36 = .ok (.iload 5, 2) := by decide +kernel
theorem own_d1_38 : decode prog_3_method_2_code 38 = .ok (.if_icmp .ge 58, 3) := by decide +kernel
theorem own_d1_41 : decode prog_3_method_2_code 41 = .ok (.aload 4, 2) := by decide +kernel
theorem own_d1_43 : decode prog_3_method_2_code 43 = .ok (.iload 6, 2) := by decide +kernel
theorem own_d1_45 : decode prog_3_method_2_code 45 = .ok (.baload, 1) := by decide +kernel
theorem own_d1_46 : decode prog_3_method_2_code 46 = .ok (.istore 7, 2) := by decide +kernel
theorem own_d1_48 : decode prog_3_method_2_code 48 = .ok (.iload_n 2, 1) := by decide +kernel
theorem own_d1_49 : decode prog_3_method_2_code 49 = .ok (.bipush 8, 2) := by decide +kernel
theorem own_d1_51 : decode prog_3_method_2_code 51 = .ok (.ishl, 1) := by decide +kernel
theorem own_d1_52 : decode prog_3_method_2_code 52 = .ok (.iload 7, 2) := by decide +kernel
theorem own_d1_54 : decode prog_3_method_2_code 54 = .ok (.sipush 255, 3) := by decide +kernel
theorem own_d1_57 : decode prog_3_method_2_code 57 = .ok (.iand, 1) := by decide +kernel
theorem own_d1_58 : decode prog_3_method_2_code 58 = .ok (.ior, 1) := by decide +kernel
theorem own_d1_59 : decode prog_3_method_2_code 59 = .ok (.istore_n 2, 1) := by decide +kernel
theorem own_d1_60 : decode prog_3_method_2_code 60 = .ok (.iinc 3 8, 3) := by decide +kernel
theorem own_d1_63 : decode prog_3_method_2_code 63 = .ok (.iload_n 3, 1) := by decide +kernel
theorem own_d1_64 : decode prog_3_method_2_code 64 = .ok (.iconst 5, 1) := by decide +kernel
theorem own_d1_65 : decode prog_3_method_2_code 65 = .ok (.if_icmp .lt 25, 3) := by decide +kernel
theorem own_d1_68 : decode prog_3_method_2_code 68 = .ok (.iinc 3 (-5), 3) := by decide +kernel
theorem own_d1_71 : decode prog_3_method_2_code 71 = .ok (.aload_n 1, 1) := by decide +kernel
theorem own_d1_72 : decode prog_3_method_2_code 72 = .ok (.ldc 16, 2) := by decide +kernel
theorem own_d1_74 : decode prog_3_method_2_code 74 = .ok (.iload_n 2, 1) := by decide +kernel
theorem own_d1_75 : decode prog_3_method_2_code 75 = .ok (.iload_n 3, 1) := by decide +kernel
theorem own_d1_76 : decode prog_3_method_2_code 76 = .ok (.iushr, 1) := by decide +kernel
theorem own_d1_77 : decode prog_3_method_2_code 77 = .ok (.bipush 31, 2) := by decide +kernel
theorem own_d1_79 : decode prog_3_method_2_code 79 = .ok (.iand, 1) := by decide +kernel
theorem own_d1_80 : decode prog_3_method_2_code 80 = .ok (.invokevirtual 18, 3) := by decide +kernel
theorem own_d1_83 : decode prog_3_method_2_code 83 = .ok (.invokevirtual 24, 3) := by decide +kernel
theorem own_d1_86 : decode prog_3_method_2_code 86 = .ok (.pop, 1) := by decide +kernel
theorem own_d1_87 : decode prog_3_method_2_code 87 = .ok (.goto (-24), 3) := by decide +kernel
theorem own_d1_90 : decode prog_3_method_2_code 90 = .ok (.iinc 6 1, 3) := by decide +kernel
theorem own_d1_93 : decode prog_3_method_2_code 93 = .ok (.goto (-59), 3) := by decide +kernel
theorem own_d1_96 : decode prog_3_method_2_code 96 = .ok (.iload_n 3, 1) := by decide +kernel
theorem own_d1_97 : decode prog_3_method_2_code 97 = .ok (.ifCond .le 21, 3) := by decide +kernel
theorem own_d1_100 : decode prog_3_method_2_code 100 = .ok (.aload_n 1, 1) := by decide +kernel
theorem own_d1_101 : decode prog_3_method_2_code 101 = .ok (.ldc 16, 2) := by decide +kernel
theorem own_d1_103 : decode prog_3_method_2_code 103 = .ok (.iload_n 2, 1) := by decide +kernel
theorem own_d1_104 : decode prog_3_method_2_code 104 = .ok (.iconst 5, 1) := by decide +kernel
theorem own_d1_105 : decode prog_3_method_2_code 105 = .ok (.iload_n 3, 1) := by decide +kernel
theorem own_d1_106 : decode prog_3_method_2_code 106 = .ok (.isub, 1) := by decide +kernel
theorem own_d1_107 : decode prog_3_method_2_code 107 = .ok (.ishl, 1) := by decide +kernel
theorem own_d1_108 : decode prog_3_method_2_code 108 = .ok (.bipush 31, 2) := by decide +kernel
theorem own_d1_110 : decode prog_3_method_2_code 110 = .ok (.iand, 1) := by decide +kernel
theorem own_d1_111 : decode prog_3_method_2_code 111 = .ok (.invokevirtual 18, 3) := by decide +kernel
theorem own_d1_114 : decode prog_3_method_2_code 114 = .ok (.invokevirtual 24, 3) := by decide +kernel
theorem own_d1_117 : decode prog_3_method_2_code 117 = .ok (.pop, 1) := by decide +kernel
set_option maxRecDepth 65536 in
set_option maxHeartbeats 40000000 in
theorem own_emit {p : Program} {l : Launch} {e : Env} {s : State} {m : MethodId} {args : Array Value} {below : List Frame} {meth : Method} {c : Code} {Z : State} {a0 : Array Value} (hw : ∀ d ∈ tables_1, d.before a0 Z = true) {n1 n2 : Nat} {sb t : Addr} {kb : ClassId} {N : Nat} (hN : N ≤ 16) {d : Addr} {kd : ClassId} {n : Nat} {bs : List Value} {la lb : Addr} {kl : ClassId} {cz : Int32} (hcz : ¬ cz = 0) (O1 : Sta Z Z.heap "java/lang/String" "COMPACT_STRINGS" "Z" (.int cz)) {fm : Value} (hfm : fm.isRef = true) (O2 : Sta Z Z.heap "jdk/internal/util/Preconditions" "SIOOBE_FORMATTER" "Ljava/util/function/BiFunction;" fm) (CT : own_ctx Z n1 n2 sb t d lb) (hx : p.tables.exec = Jvm.exec) (hby : c.code = prog_3_method_2_code) (hml : c.maxLocals = 8) (hZ : Z.Warmed39 s.vm) (hown : s.vm.findClass "com/example/mavs/mavs/activation/Base32" = some m.cls) (LT : Lit s "com/example/mavs/mavs/activation/Base32" 16 la)  {T : State} {locs : List Loc} {vs : List Value} (A : own_at p l e s m args below meth c Z n1 n2 sb t kb N d kd n bs la lb kl T locs vs) (buf bits i : Int32) (s7 : Slot) (hl : vs.length < N) :
    ∃ (T' : State) (locs' : List Loc), own_at p l e s m args below meth c Z n1 n2 sb t kb N d kd n bs la lb kl T' locs' (vs ++ [.int (own_alpha (own_idx buf bits))]) ∧ ∀ tgt, Steps p.tables e below (T'.setTop (mkF m 63 #[.val (.ref d), .val (.ref sb), .val (.int buf), .val (.int bits), .val (.ref d), .val (.int (Int32.ofNat n)), .val (.int i), s7] [])) tgt → Steps p.tables e below (T.setTop (mkF m 74 #[.val (.ref d), .val (.ref sb), .val (.int buf), .val (.int bits), .val (.ref d), .val (.int (Int32.ofNat n)), .val (.int i), s7] [(.ref la), (.ref sb)])) tgt := by
  have CT0 := CT
  obtain ⟨X, N0, IV⟩ := A
  have IV0 := IV
  obtain ⟨OL, Z00, BD, V_d, SD⟩ := IV
  obtain ⟨hnz, g_sb, g_t, ne_dt, ne_lt, n12⟩ := CT
  have Z0 := Nat.le_trans n12 Z00
  have hix := own_idx_lt buf bits
  obtain ⟨h1, h2, h3⟩ := own_li (own_idx buf bits) hix
  obtain ⟨hal, -, hp8, h255⟩ := own_lc (own_idx buf bits) hix
  have sg0 : ∀ tgt, Steps p.tables e below (T.setTop (mkF m 80 #[.val (.ref d), .val (.ref sb), .val (.int buf), .val (.int bits), .val (.ref d), .val (.int (Int32.ofNat n)), .val (.int i), s7] [(.int ((XT.ushr buf bits) &&& (31 : Int32))), (.ref la), (.ref sb)])) tgt → Steps p.tables e below (T.setTop (mkF m 74 #[.val (.ref d), .val (.ref sb), .val (.int buf), .val (.int bits), .val (.ref d), .val (.int (Int32.ofNat n)), .val (.int i), s7] [(.ref la), (.ref sb)])) tgt := by
    intro tgt kk
    show Steps p.tables e below (T.setTop (mkF m 74 #[.val (.ref d), .val (.ref sb), .val (.int buf), .val (.int bits), .val (.ref d), .val (.int (Int32.ofNat n)), .val (.int i), s7] [(.ref la), (.ref sb)])) _
    refine XS.iloadN X.here hx rfl (hb hby own_d1_74) rfl ?_
    show Steps p.tables e below (T.setTop (mkF m 75 #[.val (.ref d), .val (.ref sb), .val (.int buf), .val (.int bits), .val (.ref d), .val (.int (Int32.ofNat n)), .val (.int i), s7] [(.int buf), (.ref la), (.ref sb)])) _
    refine XS.iloadN X.here hx rfl (hb hby own_d1_75) rfl ?_
    show Steps p.tables e below (T.setTop (mkF m 76 #[.val (.ref d), .val (.ref sb), .val (.int buf), .val (.int bits), .val (.ref d), .val (.int (Int32.ofNat n)), .val (.int i), s7] [(.int bits), (.int buf), (.ref la), (.ref sb)])) _
    refine XT.iushr X.here hx rfl (hb hby own_d1_76) rfl ?_
    show Steps p.tables e below (T.setTop (mkF m 77 #[.val (.ref d), .val (.ref sb), .val (.int buf), .val (.int bits), .val (.ref d), .val (.int (Int32.ofNat n)), .val (.int i), s7] [(.int (XT.ushr buf bits)), (.ref la), (.ref sb)])) _
    refine XT.bipushV X.here hx rfl (31 : Int32) (hb hby own_d1_77) (by decide) ?_
    show Steps p.tables e below (T.setTop (mkF m 79 #[.val (.ref d), .val (.ref sb), .val (.int buf), .val (.int bits), .val (.ref d), .val (.int (Int32.ofNat n)), .val (.int i), s7] [(.int (31 : Int32)), (.int (XT.ushr buf bits)), (.ref la), (.ref sb)])) _
    refine XS.iand X.here hx rfl (hb hby own_d1_79) rfl ?_
    exact kk
  obtain ⟨cq1, kq1, qa1, qb1, qc1⟩ := isOf hZ rfl SD.1
  obtain ⟨_, _, ⟨T1, L1, k1, n1⟩, -, X1, ⟨Lc1, hQ1, l1, y1, z1⟩, st1⟩ := X.virtualBack hx (y := (⟨"java/lang/String", "charAt", "(I)C"⟩ : MethodName)) (z := (⟨"java/lang/String", "charAt", "(I)C"⟩ : MethodName)) hown (mvT hZ (hw _ (List.mem_of_getElem? (i := 108) rfl))) (mvT hZ (hw _ (List.mem_of_getElem? (i := 109) rfl))) (notFace_of_selects (args := #[]) (mvT hZ (hw _ (List.mem_of_getElem? (i := 111) rfl)))) (mvT hZ (hw _ (List.mem_of_getElem? (i := 111) rfl))) (mvT hZ (hw _ (List.mem_of_getElem? (i := 110) rfl))) (by decide) (backOf (W := 1) (rm19 l Z a0 hw [] la (own_idx buf bits) lb kl (Int32.ofNat 32) (own_lit.map Value.int) (own_lit.getD (own_nt (own_idx buf bits)) 0) T.heap n1 Z0 cz hcz O1 OL hnz fm hfm O2 SD.1 SD.2.2.1 SD.2.1 SD.2.2.2 h1 h2 h3) hZ (hw _ (List.mem_of_getElem? (i := 112) rfl)) (hw _ (List.mem_of_getElem? (i := 22) rfl)) (by decide) (by decide)) qa1 qc1 (g := (mkF m 80 #[.val (.ref d), .val (.ref sb), .val (.int buf), .val (.int bits), .val (.ref d), .val (.int (Int32.ofNat n)), .val (.int i), s7] [(.int (own_idx buf bits)), (.ref la), (.ref sb)])) rfl (by rw [hml]; rfl) (Steps.refl _) (argsL := [(.int (own_idx buf bits))]) (rest := [(.ref sb)]) (lenOf own_pd15 rfl) rfl (by show 2 * 0 + _ ≤ _; exact Nat.le_of_eq rfl) (hb hby own_d1_80) (fun _ _ => ⟨rfl, rfl, (by decide : 4 + 0 ≤ _), (by decide : 152 + 0 ≤ _)⟩)
  dsimp only [Pt.U, Pt.locs, Pt.cells, Pt.slots] at X1 l1 y1 z1 st1 hQ1
  subst l1 y1 z1
  obtain ⟨rfl, N1q, e1⟩ := hQ1
  have N1 := Fr.app N0 N1q
  obtain ⟨cq2, kq2, qa2, qb2, qc2⟩ := isOf hZ e1 BD.1
  obtain ⟨_, _, ⟨T2, L2, k2, n2⟩, -, X2, ⟨Lc2, hQ2, l2, y2, z2⟩, st2⟩ := X1.virtualBack hx (y := (⟨"java/lang/StringBuilder", "append", "(C)Ljava/lang/StringBuilder;"⟩ : MethodName)) (z := (⟨"java/lang/StringBuilder", "append", "(C)Ljava/lang/StringBuilder;"⟩ : MethodName)) hown (mvT hZ (hw _ (List.mem_of_getElem? (i := 130) rfl))) (mvT hZ (hw _ (List.mem_of_getElem? (i := 131) rfl))) (notFace_of_selects (args := #[]) (mvT hZ (hw _ (List.mem_of_getElem? (i := 133) rfl)))) (mvT hZ (hw _ (List.mem_of_getElem? (i := 133) rfl))) (mvT hZ (hw _ (List.mem_of_getElem? (i := 132) rfl))) (by decide) (backOf (W := 0) (rm24 l Z a0 hw [] sb (own_chr (own_lit.getD (own_nt (own_idx buf bits)) 0)) t kb N vs T.heap n1 Z0 cz hcz O1 OL hnz BD g_sb g_t hN hl (by rw [hal]; exact h255) (by rw [hal]; exact hp8)) hZ (hw _ (List.mem_of_getElem? (i := 134) rfl)) (hw _ (List.mem_of_getElem? (i := 8) rfl)) (by decide) (by decide)) qa2 qc2 (g := (mkF m 83 #[.val (.ref d), .val (.ref sb), .val (.int buf), .val (.int bits), .val (.ref d), .val (.int (Int32.ofNat n)), .val (.int i), s7] [(.int (own_chr (own_lit.getD (own_nt (own_idx buf bits)) 0))), (.ref sb)])) rfl (by rw [hml]; rfl) (Steps.refl _) (argsL := [(.int (own_chr (own_lit.getD (own_nt (own_idx buf bits)) 0)))]) (rest := []) (lenOf own_pd16 rfl) rfl (by show 2 * 0 + _ ≤ _; exact Nat.le_of_eq rfl) (hb hby own_d1_83) (fun _ _ => ⟨rfl, e1, (by decide : 4 + 0 ≤ _), (by decide : 152 + 0 ≤ _)⟩)
  dsimp only [Pt.U, Pt.locs, Pt.cells, Pt.slots] at X2 l2 y2 z2 st2 hQ2
  subst l2 y2 z2
  obtain ⟨rfl, N2q, KK, BB⟩ := hQ2
  have Z_1 : n1 ≤ T2.heap.size := Nat.le_trans Z0 KK.1
  have E_2 := Exa.keep SD.1 KK
  have E_3 := Exa.keep BD.1 KK
  have OL_4 := Old.keep OL KK (by intro x hx_; simp only [List.mem_cons, List.not_mem_nil, or_false] at hx_; rcases hx_ with rfl | rfl <;> first | exact Nat.le_trans hnz g_sb | exact Nat.le_trans hnz g_t)
  have N2 := Fr.app N1 N2q
  rw [hal] at BB
  have sg3 : ∀ tgt, Steps p.tables e below (T2.setTop (mkF m 63 #[.val (.ref d), .val (.ref sb), .val (.int buf), .val (.int bits), .val (.ref d), .val (.int (Int32.ofNat n)), .val (.int i), s7] [])) tgt → Steps p.tables e below (T2.setTop (mkF m 86 #[.val (.ref d), .val (.ref sb), .val (.int buf), .val (.int bits), .val (.ref d), .val (.int (Int32.ofNat n)), .val (.int i), s7] [(.ref sb)])) tgt := by
    intro tgt kk
    show Steps p.tables e below (T2.setTop (mkF m 86 #[.val (.ref d), .val (.ref sb), .val (.int buf), .val (.int bits), .val (.ref d), .val (.int (Int32.ofNat n)), .val (.int i), s7] [(.ref sb)])) _
    refine XT.pop X2.here hx rfl (hb hby own_d1_86) rfl rfl ?_
    show Steps p.tables e below (T2.setTop (mkF m 87 #[.val (.ref d), .val (.ref sb), .val (.int buf), .val (.int bits), .val (.ref d), .val (.int (Int32.ofNat n)), .val (.int i), s7] [])) _
    refine XS.goto X2.here hx rfl (pc0 := 87) (pc' := 63) rfl (hb hby own_d1_87) (by decide) (by decide) ?_
    exact kk
  refine ⟨T2, _, ⟨X2, N2, own_inv_keep (hw _ (List.mem_of_getElem? (i := 7) rfl)) CT0 (own_inv_of e1 IV0) KK BB⟩, fun tgt kk => ?_⟩
  refine sg0 _ ?_
  refine st1.trans ?_
  refine st2.trans ?_
  refine sg3 _ ?_
  exact kk
set_option maxRecDepth 65536 in
set_option maxHeartbeats 40000000 in
theorem own_emitF {p : Program} {l : Launch} {e : Env} {s : State} {m : MethodId} {args : Array Value} {below : List Frame} {meth : Method} {c : Code} {Z : State} {a0 : Array Value} (hw : ∀ d ∈ tables_1, d.before a0 Z = true) {n1 n2 : Nat} {sb t : Addr} {kb : ClassId} {N : Nat} (hN : N ≤ 16) {d : Addr} {kd : ClassId} {n : Nat} {bs : List Value} {la lb : Addr} {kl : ClassId} {cz : Int32} (hcz : ¬ cz = 0) (O1 : Sta Z Z.heap "java/lang/String" "COMPACT_STRINGS" "Z" (.int cz)) {fm : Value} (hfm : fm.isRef = true) (O2 : Sta Z Z.heap "jdk/internal/util/Preconditions" "SIOOBE_FORMATTER" "Ljava/util/function/BiFunction;" fm) (CT : own_ctx Z n1 n2 sb t d lb) (hx : p.tables.exec = Jvm.exec) (hby : c.code = prog_3_method_2_code) (hml : c.maxLocals = 8) (hZ : Z.Warmed39 s.vm) (hown : s.vm.findClass "com/example/mavs/mavs/activation/Base32" = some m.cls) (LT : Lit s "com/example/mavs/mavs/activation/Base32" 16 la)  {T : State} {locs : List Loc} {vs : List Value} (A : own_at p l e s m args below meth c Z n1 n2 sb t kb N d kd n bs la lb kl T locs vs) (buf bits i : Int32) (s7 : Slot) (hl : vs.length < N) :
    ∃ (T' : State) (locs' : List Loc), own_at p l e s m args below meth c Z n1 n2 sb t kb N d kd n bs la lb kl T' locs' (vs ++ [.int (own_alpha (own_fl buf bits))]) ∧ ∀ tgt, Steps p.tables e below (T'.setTop (mkF m 118 #[.val (.ref d), .val (.ref sb), .val (.int buf), .val (.int bits), .val (.ref d), .val (.int (Int32.ofNat n)), .val (.int i), s7] [])) tgt → Steps p.tables e below (T.setTop (mkF m 103 #[.val (.ref d), .val (.ref sb), .val (.int buf), .val (.int bits), .val (.ref d), .val (.int (Int32.ofNat n)), .val (.int i), s7] [(.ref la), (.ref sb)])) tgt := by
  have CT0 := CT
  obtain ⟨X, N0, IV⟩ := A
  have IV0 := IV
  obtain ⟨OL, Z00, BD, V_d, SD⟩ := IV
  obtain ⟨hnz, g_sb, g_t, ne_dt, ne_lt, n12⟩ := CT
  have Z0 := Nat.le_trans n12 Z00
  have hix := own_fl_lt buf bits
  obtain ⟨h1, h2, h3⟩ := own_li (own_fl buf bits) hix
  obtain ⟨hal, -, hp8, h255⟩ := own_lc (own_fl buf bits) hix
  have sg0 : ∀ tgt, Steps p.tables e below (T.setTop (mkF m 111 #[.val (.ref d), .val (.ref sb), .val (.int buf), .val (.int bits), .val (.ref d), .val (.int (Int32.ofNat n)), .val (.int i), s7] [(.int ((buf <<< (((5 : Int32) - bits) &&& 31)) &&& (31 : Int32))), (.ref la), (.ref sb)])) tgt → Steps p.tables e below (T.setTop (mkF m 103 #[.val (.ref d), .val (.ref sb), .val (.int buf), .val (.int bits), .val (.ref d), .val (.int (Int32.ofNat n)), .val (.int i), s7] [(.ref la), (.ref sb)])) tgt := by
    intro tgt kk
    show Steps p.tables e below (T.setTop (mkF m 103 #[.val (.ref d), .val (.ref sb), .val (.int buf), .val (.int bits), .val (.ref d), .val (.int (Int32.ofNat n)), .val (.int i), s7] [(.ref la), (.ref sb)])) _
    refine XS.iloadN X.here hx rfl (hb hby own_d1_103) rfl ?_
    show Steps p.tables e below (T.setTop (mkF m 104 #[.val (.ref d), .val (.ref sb), .val (.int buf), .val (.int bits), .val (.ref d), .val (.int (Int32.ofNat n)), .val (.int i), s7] [(.int buf), (.ref la), (.ref sb)])) _
    refine XT.iconstV X.here hx rfl (5 : Int32) (hb hby own_d1_104) (by decide) ?_
    show Steps p.tables e below (T.setTop (mkF m 105 #[.val (.ref d), .val (.ref sb), .val (.int buf), .val (.int bits), .val (.ref d), .val (.int (Int32.ofNat n)), .val (.int i), s7] [(.int (5 : Int32)), (.int buf), (.ref la), (.ref sb)])) _
    refine XS.iloadN X.here hx rfl (hb hby own_d1_105) rfl ?_
    show Steps p.tables e below (T.setTop (mkF m 106 #[.val (.ref d), .val (.ref sb), .val (.int buf), .val (.int bits), .val (.ref d), .val (.int (Int32.ofNat n)), .val (.int i), s7] [(.int bits), (.int (5 : Int32)), (.int buf), (.ref la), (.ref sb)])) _
    refine XS.isub X.here hx rfl (hb hby own_d1_106) rfl ?_
    show Steps p.tables e below (T.setTop (mkF m 107 #[.val (.ref d), .val (.ref sb), .val (.int buf), .val (.int bits), .val (.ref d), .val (.int (Int32.ofNat n)), .val (.int i), s7] [(.int ((5 : Int32) - bits)), (.int buf), (.ref la), (.ref sb)])) _
    refine XT.ishl X.here hx rfl (hb hby own_d1_107) rfl ?_
    show Steps p.tables e below (T.setTop (mkF m 108 #[.val (.ref d), .val (.ref sb), .val (.int buf), .val (.int bits), .val (.ref d), .val (.int (Int32.ofNat n)), .val (.int i), s7] [(.int (buf <<< (((5 : Int32) - bits) &&& 31))), (.ref la), (.ref sb)])) _
    refine XT.bipushV X.here hx rfl (31 : Int32) (hb hby own_d1_108) (by decide) ?_
    show Steps p.tables e below (T.setTop (mkF m 110 #[.val (.ref d), .val (.ref sb), .val (.int buf), .val (.int bits), .val (.ref d), .val (.int (Int32.ofNat n)), .val (.int i), s7] [(.int (31 : Int32)), (.int (buf <<< (((5 : Int32) - bits) &&& 31))), (.ref la), (.ref sb)])) _
    refine XS.iand X.here hx rfl (hb hby own_d1_110) rfl ?_
    exact kk
  obtain ⟨cq1, kq1, qa1, qb1, qc1⟩ := isOf hZ rfl SD.1
  obtain ⟨_, _, ⟨T1, L1, k1, n1⟩, -, X1, ⟨Lc1, hQ1, l1, y1, z1⟩, st1⟩ := X.virtualBack hx (y := (⟨"java/lang/String", "charAt", "(I)C"⟩ : MethodName)) (z := (⟨"java/lang/String", "charAt", "(I)C"⟩ : MethodName)) hown (mvT hZ (hw _ (List.mem_of_getElem? (i := 108) rfl))) (mvT hZ (hw _ (List.mem_of_getElem? (i := 109) rfl))) (notFace_of_selects (args := #[]) (mvT hZ (hw _ (List.mem_of_getElem? (i := 111) rfl)))) (mvT hZ (hw _ (List.mem_of_getElem? (i := 111) rfl))) (mvT hZ (hw _ (List.mem_of_getElem? (i := 110) rfl))) (by decide) (backOf (W := 1) (rm19 l Z a0 hw [] la (own_fl buf bits) lb kl (Int32.ofNat 32) (own_lit.map Value.int) (own_lit.getD (own_nt (own_fl buf bits)) 0) T.heap n1 Z0 cz hcz O1 OL hnz fm hfm O2 SD.1 SD.2.2.1 SD.2.1 SD.2.2.2 h1 h2 h3) hZ (hw _ (List.mem_of_getElem? (i := 112) rfl)) (hw _ (List.mem_of_getElem? (i := 22) rfl)) (by decide) (by decide)) qa1 qc1 (g := (mkF m 111 #[.val (.ref d), .val (.ref sb), .val (.int buf), .val (.int bits), .val (.ref d), .val (.int (Int32.ofNat n)), .val (.int i), s7] [(.int (own_fl buf bits)), (.ref la), (.ref sb)])) rfl (by rw [hml]; rfl) (Steps.refl _) (argsL := [(.int (own_fl buf bits))]) (rest := [(.ref sb)]) (lenOf own_pd15 rfl) rfl (by show 2 * 0 + _ ≤ _; exact Nat.le_of_eq rfl) (hb hby own_d1_111) (fun _ _ => ⟨rfl, rfl, (by decide : 4 + 0 ≤ _), (by decide : 152 + 0 ≤ _)⟩)
  dsimp only [Pt.U, Pt.locs, Pt.cells, Pt.slots] at X1 l1 y1 z1 st1 hQ1
  subst l1 y1 z1
  obtain ⟨rfl, N1q, e1⟩ := hQ1
  have N1 := Fr.app N0 N1q
  obtain ⟨cq2, kq2, qa2, qb2, qc2⟩ := isOf hZ e1 BD.1
  obtain ⟨_, _, ⟨T2, L2, k2, n2⟩, -, X2, ⟨Lc2, hQ2, l2, y2, z2⟩, st2⟩ := X1.virtualBack hx (y := (⟨"java/lang/StringBuilder", "append", "(C)Ljava/lang/StringBuilder;"⟩ : MethodName)) (z := (⟨"java/lang/StringBuilder", "append", "(C)Ljava/lang/StringBuilder;"⟩ : MethodName)) hown (mvT hZ (hw _ (List.mem_of_getElem? (i := 130) rfl))) (mvT hZ (hw _ (List.mem_of_getElem? (i := 131) rfl))) (notFace_of_selects (args := #[]) (mvT hZ (hw _ (List.mem_of_getElem? (i := 133) rfl)))) (mvT hZ (hw _ (List.mem_of_getElem? (i := 133) rfl))) (mvT hZ (hw _ (List.mem_of_getElem? (i := 132) rfl))) (by decide) (backOf (W := 0) (rm24 l Z a0 hw [] sb (own_chr (own_lit.getD (own_nt (own_fl buf bits)) 0)) t kb N vs T.heap n1 Z0 cz hcz O1 OL hnz BD g_sb g_t hN hl (by rw [hal]; exact h255) (by rw [hal]; exact hp8)) hZ (hw _ (List.mem_of_getElem? (i := 134) rfl)) (hw _ (List.mem_of_getElem? (i := 8) rfl)) (by decide) (by decide)) qa2 qc2 (g := (mkF m 114 #[.val (.ref d), .val (.ref sb), .val (.int buf), .val (.int bits), .val (.ref d), .val (.int (Int32.ofNat n)), .val (.int i), s7] [(.int (own_chr (own_lit.getD (own_nt (own_fl buf bits)) 0))), (.ref sb)])) rfl (by rw [hml]; rfl) (Steps.refl _) (argsL := [(.int (own_chr (own_lit.getD (own_nt (own_fl buf bits)) 0)))]) (rest := []) (lenOf own_pd16 rfl) rfl (by show 2 * 0 + _ ≤ _; exact Nat.le_of_eq rfl) (hb hby own_d1_114) (fun _ _ => ⟨rfl, e1, (by decide : 4 + 0 ≤ _), (by decide : 152 + 0 ≤ _)⟩)
  dsimp only [Pt.U, Pt.locs, Pt.cells, Pt.slots] at X2 l2 y2 z2 st2 hQ2
  subst l2 y2 z2
  obtain ⟨rfl, N2q, KK, BB⟩ := hQ2
  have Z_1 : n1 ≤ T2.heap.size := Nat.le_trans Z0 KK.1
  have E_2 := Exa.keep SD.1 KK
  have E_3 := Exa.keep BD.1 KK
  have OL_4 := Old.keep OL KK (by intro x hx_; simp only [List.mem_cons, List.not_mem_nil, or_false] at hx_; rcases hx_ with rfl | rfl <;> first | exact Nat.le_trans hnz g_sb | exact Nat.le_trans hnz g_t)
  have N2 := Fr.app N1 N2q
  rw [hal] at BB
  have sg3 : ∀ tgt, Steps p.tables e below (T2.setTop (mkF m 118 #[.val (.ref d), .val (.ref sb), .val (.int buf), .val (.int bits), .val (.ref d), .val (.int (Int32.ofNat n)), .val (.int i), s7] [])) tgt → Steps p.tables e below (T2.setTop (mkF m 117 #[.val (.ref d), .val (.ref sb), .val (.int buf), .val (.int bits), .val (.ref d), .val (.int (Int32.ofNat n)), .val (.int i), s7] [(.ref sb)])) tgt := by
    intro tgt kk
    show Steps p.tables e below (T2.setTop (mkF m 117 #[.val (.ref d), .val (.ref sb), .val (.int buf), .val (.int bits), .val (.ref d), .val (.int (Int32.ofNat n)), .val (.int i), s7] [(.ref sb)])) _
    refine XT.pop X2.here hx rfl (hb hby own_d1_117) rfl rfl ?_
    exact kk
  refine ⟨T2, _, ⟨X2, N2, own_inv_keep (hw _ (List.mem_of_getElem? (i := 7) rfl)) CT0 (own_inv_of e1 IV0) KK BB⟩, fun tgt kk => ?_⟩
  refine sg0 _ ?_
  refine st1.trans ?_
  refine st2.trans ?_
  refine sg3 _ ?_
  exact kk
set_option maxRecDepth 65536 in
set_option maxHeartbeats 40000000 in
theorem own_turn {p : Program} {l : Launch} {e : Env} {s : State} {m : MethodId} {args : Array Value} {below : List Frame} {meth : Method} {c : Code} {Z : State} {a0 : Array Value} (hw : ∀ d ∈ tables_1, d.before a0 Z = true) {n1 n2 : Nat} {sb t : Addr} {kb : ClassId} {N : Nat} (hN : N ≤ 16) {d : Addr} {kd : ClassId} {n : Nat} {bs : List Value} {la lb : Addr} {kl : ClassId} {cz : Int32} (hcz : ¬ cz = 0) (O1 : Sta Z Z.heap "java/lang/String" "COMPACT_STRINGS" "Z" (.int cz)) {fm : Value} (hfm : fm.isRef = true) (O2 : Sta Z Z.heap "jdk/internal/util/Preconditions" "SIOOBE_FORMATTER" "Ljava/util/function/BiFunction;" fm) (CT : own_ctx Z n1 n2 sb t d lb) (hx : p.tables.exec = Jvm.exec) (hby : c.code = prog_3_method_2_code) (hml : c.maxLocals = 8) (hZ : Z.Warmed39 s.vm) (hown : s.vm.findClass "com/example/mavs/mavs/activation/Base32" = some m.cls) (LT : Lit s "com/example/mavs/mavs/activation/Base32" 16 la)  {T : State} {locs : List Loc} {vs : List Value} (A : own_at p l e s m args below meth c Z n1 n2 sb t kb N d kd n bs la lb kl T locs vs) (buf bits i : Int32) (s7 : Slot) (h5 : ¬ bits < (5 : Int32)) (hl : vs.length < N) :
    ∃ (T' : State) (locs' : List Loc), own_at p l e s m args below meth c Z n1 n2 sb t kb N d kd n bs la lb kl T' locs' (vs ++ [.int (own_alpha (own_idx buf (bits + (-5 : Int32))))]) ∧ ∀ tgt, Steps p.tables e below (T'.setTop (mkF m 63 #[.val (.ref d), .val (.ref sb), .val (.int buf), .val (.int (bits + (-5 : Int32))), .val (.ref d), .val (.int (Int32.ofNat n)), .val (.int i), s7] [])) tgt → Steps p.tables e below (T.setTop (mkF m 63 #[.val (.ref d), .val (.ref sb), .val (.int buf), .val (.int bits), .val (.ref d), .val (.int (Int32.ofNat n)), .val (.int i), s7] [])) tgt := by
  have X := A.1
  have sg0 : ∀ tgt, Steps p.tables e below (T.setTop (mkF m 72 #[.val (.ref d), .val (.ref sb), .val (.int buf), .val (.int (bits + (-5 : Int32))), .val (.ref d), .val (.int (Int32.ofNat n)), .val (.int i), s7] [(.ref sb)])) tgt → Steps p.tables e below (T.setTop (mkF m 63 #[.val (.ref d), .val (.ref sb), .val (.int buf), .val (.int bits), .val (.ref d), .val (.int (Int32.ofNat n)), .val (.int i), s7] [])) tgt := by
    intro tgt kk
    show Steps p.tables e below (T.setTop (mkF m 63 #[.val (.ref d), .val (.ref sb), .val (.int buf), .val (.int bits), .val (.ref d), .val (.int (Int32.ofNat n)), .val (.int i), s7] [])) _
    refine XS.iloadN X.here hx rfl (hb hby own_d1_63) rfl ?_
    show Steps p.tables e below (T.setTop (mkF m 64 #[.val (.ref d), .val (.ref sb), .val (.int buf), .val (.int bits), .val (.ref d), .val (.int (Int32.ofNat n)), .val (.int i), s7] [(.int bits)])) _
    refine XT.iconstV X.here hx rfl (5 : Int32) (hb hby own_d1_64) (by decide) ?_
    show Steps p.tables e below (T.setTop (mkF m 65 #[.val (.ref d), .val (.ref sb), .val (.int buf), .val (.int bits), .val (.ref d), .val (.int (Int32.ofNat n)), .val (.int i), s7] [(.int (5 : Int32)), (.int bits)])) _
    refine XS.icmpNo X.here hx rfl (hb hby own_d1_65) rfl (XT.ii_lt_f h5) ?_
    show Steps p.tables e below (T.setTop (mkF m 68 #[.val (.ref d), .val (.ref sb), .val (.int buf), .val (.int bits), .val (.ref d), .val (.int (Int32.ofNat n)), .val (.int i), s7] [])) _
    refine XT.iincV X.here hx rfl (-5 : Int32) (hb hby own_d1_68) (by decide) rfl (l' := #[.val (.ref d), .val (.ref sb), .val (.int buf), .val (.int (bits + (-5 : Int32))), .val (.ref d), .val (.int (Int32.ofNat n)), .val (.int i), s7]) rfl ?_
    show Steps p.tables e below (T.setTop (mkF m 71 #[.val (.ref d), .val (.ref sb), .val (.int buf), .val (.int (bits + (-5 : Int32))), .val (.ref d), .val (.int (Int32.ofNat n)), .val (.int i), s7] [])) _
    refine XS.aloadN X.here hx rfl (hb hby own_d1_71) rfl rfl ?_
    exact kk
  have stl := ldcR (Z := s) (a0 := args) X hx (State.Warmed39.refl _) hown (refOfLit (mvS (s := s) (vm0 := s.vm) hZ (hw _ (List.mem_of_getElem? (i := 105) rfl))) LT) LT (g := (mkF m 72 #[.val (.ref d), .val (.ref sb), .val (.int buf), .val (.int (bits + (-5 : Int32))), .val (.ref d), .val (.int (Int32.ofNat n)), .val (.int i), s7] [(.ref sb)])) rfl (hb hby own_d1_72)
  obtain ⟨T1, locs1, A1, st1⟩ := own_emit hw hN hcz O1 hfm O2 CT hx hby hml hZ hown LT A buf (bits + (-5 : Int32)) i s7 hl
  refine ⟨T1, locs1, A1, fun tgt kk => ?_⟩
  refine sg0 _ ?_
  refine stl _ ?_
  refine st1 _ ?_
  exact kk
set_option maxRecDepth 65536 in
set_option maxHeartbeats 40000000 in
theorem own_exit {p : Program} {l : Launch} {e : Env} {s : State} {m : MethodId} {args : Array Value} {below : List Frame} {meth : Method} {c : Code} {Z : State} {sb d : Addr} {n : Nat} (hx : p.tables.exec = Jvm.exec) (hby : c.code = prog_3_method_2_code) (hZ : Z.Warmed39 s.vm)  {T : State} {locs : List Loc} {cells slots : Nat} (X : Stand p l e ({ frames := 5, cells := 6, slots := 172, locals := 72 } : Room) s m args below meth c T locs cells slots) (buf bits i : Int32) (s7 : Slot) (h5 : bits < (5 : Int32)) (tgt : State) :
    Steps p.tables e below (T.setTop (mkF m 34 #[.val (.ref d), .val (.ref sb), .val (.int buf), .val (.int bits), .val (.ref d), .val (.int (Int32.ofNat n)), .val (.int (i + (1 : Int32))), s7] [])) tgt → Steps p.tables e below (T.setTop (mkF m 63 #[.val (.ref d), .val (.ref sb), .val (.int buf), .val (.int bits), .val (.ref d), .val (.int (Int32.ofNat n)), .val (.int i), s7] [])) tgt := by
  have sg0 : ∀ tgt, Steps p.tables e below (T.setTop (mkF m 34 #[.val (.ref d), .val (.ref sb), .val (.int buf), .val (.int bits), .val (.ref d), .val (.int (Int32.ofNat n)), .val (.int (i + (1 : Int32))), s7] [])) tgt → Steps p.tables e below (T.setTop (mkF m 63 #[.val (.ref d), .val (.ref sb), .val (.int buf), .val (.int bits), .val (.ref d), .val (.int (Int32.ofNat n)), .val (.int i), s7] [])) tgt := by
    intro tgt kk
    show Steps p.tables e below (T.setTop (mkF m 63 #[.val (.ref d), .val (.ref sb), .val (.int buf), .val (.int bits), .val (.ref d), .val (.int (Int32.ofNat n)), .val (.int i), s7] [])) _
    refine XS.iloadN X.here hx rfl (hb hby own_d1_63) rfl ?_
    show Steps p.tables e below (T.setTop (mkF m 64 #[.val (.ref d), .val (.ref sb), .val (.int buf), .val (.int bits), .val (.ref d), .val (.int (Int32.ofNat n)), .val (.int i), s7] [(.int bits)])) _
    refine XT.iconstV X.here hx rfl (5 : Int32) (hb hby own_d1_64) (by decide) ?_
    show Steps p.tables e below (T.setTop (mkF m 65 #[.val (.ref d), .val (.ref sb), .val (.int buf), .val (.int bits), .val (.ref d), .val (.int (Int32.ofNat n)), .val (.int i), s7] [(.int (5 : Int32)), (.int bits)])) _
    refine XS.icmpYes X.here hx rfl (pc0 := 65) (pc' := 90) rfl (hb hby own_d1_65) rfl (XT.ii_lt_t h5) (by decide) (by decide) ?_
    show Steps p.tables e below (T.setTop (mkF m 90 #[.val (.ref d), .val (.ref sb), .val (.int buf), .val (.int bits), .val (.ref d), .val (.int (Int32.ofNat n)), .val (.int i), s7] [])) _
    refine XT.iincV X.here hx rfl (1 : Int32) (hb hby own_d1_90) (by decide) rfl (l' := #[.val (.ref d), .val (.ref sb), .val (.int buf), .val (.int bits), .val (.ref d), .val (.int (Int32.ofNat n)), .val (.int (i + (1 : Int32))), s7]) rfl ?_
    show Steps p.tables e below (T.setTop (mkF m 93 #[.val (.ref d), .val (.ref sb), .val (.int buf), .val (.int bits), .val (.ref d), .val (.int (Int32.ofNat n)), .val (.int (i + (1 : Int32))), s7] [])) _
    refine XS.goto X.here hx rfl (pc0 := 93) (pc' := 34) rfl (hb hby own_d1_93) (by decide) (by decide) ?_
    exact kk
  refine fun kk => ?_
  refine sg0 _ ?_
  exact kk
set_option maxRecDepth 65536 in
set_option maxHeartbeats 40000000 in
theorem own_byteU {p : Program} {l : Launch} {e : Env} {s : State} {m : MethodId} {args : Array Value} {below : List Frame} {meth : Method} {c : Code} {Z : State} {sb d : Addr} {n : Nat} (hx : p.tables.exec = Jvm.exec) (hby : c.code = prog_3_method_2_code) (hZ : Z.Warmed39 s.vm)  {T : State} {locs : List Loc} {cells slots : Nat} (X : Stand p l e ({ frames := 5, cells := 6, slots := 172, locals := 72 } : Room) s m args below meth c T locs cells slots) {kd : ClassId} {bs : List Value} (buf bits i x : Int32) (V_d : Arv Z T.heap d kd .byte (Int32.ofNat n) bs (.int (0 : Int32))) (hi0 : ¬ i < 0) (hi : i < Int32.ofNat n) (hbx : bs.getD i.toNatClampNeg (.int (0 : Int32)) = .int x) (tgt : State) :
    Steps p.tables e below (T.setTop (mkF m 63 #[.val (.ref d), .val (.ref sb), .val (.int (buf <<< ((8 : Int32) &&& 31) ||| (x &&& (255 : Int32)))), .val (.int (bits + (8 : Int32))), .val (.ref d), .val (.int (Int32.ofNat n)), .val (.int i), .val (.int x)] [])) tgt → Steps p.tables e below (T.setTop (mkF m 34 #[.val (.ref d), .val (.ref sb), .val (.int buf), .val (.int bits), .val (.ref d), .val (.int (Int32.ofNat n)), .val (.int i), .unset] [])) tgt := by
  obtain ⟨cl_c1, Ar_c1, q_c1, S_c1, N_c1, H_c1, G_c1⟩ := id V_d
  have hin45 : ¬ (i < 0 ∨ cl_c1.slots.size ≤ (i).toNatClampNeg) := inb_of S_c1 ⟨hi0, hi⟩
  have hat45 : cl_c1.slots[(i).toNatClampNeg]? = some (.int x) := by rw [H_c1 _ (Nat.lt_of_not_le fun y => hin45 (Or.inr y))]; exact congrArg some hbx
  obtain ⟨v1, hv1⟩ : ∃ z_ : Int32, z_ = ((buf <<< ((8 : Int32) &&& 31)) ||| (x &&& (255 : Int32))) := ⟨_, rfl⟩
  have sg0 : ∀ tgt, Steps p.tables e below (T.setTop (mkF m 63 #[.val (.ref d), .val (.ref sb), .val (.int v1), .val (.int (bits + (8 : Int32))), .val (.ref d), .val (.int (Int32.ofNat n)), .val (.int i), .val (.int x)] [])) tgt → Steps p.tables e below (T.setTop (mkF m 34 #[.val (.ref d), .val (.ref sb), .val (.int buf), .val (.int bits), .val (.ref d), .val (.int (Int32.ofNat n)), .val (.int i), .unset] [])) tgt := by
    intro tgt kk
    show Steps p.tables e below (T.setTop (mkF m 34 #[.val (.ref d), .val (.ref sb), .val (.int buf), .val (.int bits), .val (.ref d), .val (.int (Int32.ofNat n)), .val (.int i), .unset] [])) _
    refine XS.iload X.here hx rfl (hb hby own_d1_34) rfl ?_
    show Steps p.tables e below (T.setTop (mkF m 36 #[.val (.ref d), .val (.ref sb), .val (.int buf), .val (.int bits), .val (.ref d), .val (.int (Int32.ofNat n)), .val (.int i), .unset] [(.int i)])) _
    refine XS.iload X.here hx rfl (hb hby own_d1_36) rfl ?_
    show Steps p.tables e below (T.setTop (mkF m 38 #[.val (.ref d), .val (.ref sb), .val (.int buf), .val (.int bits), .val (.ref d), .val (.int (Int32.ofNat n)), .val (.int i), .unset] [(.int (Int32.ofNat n)), (.int i)])) _
    refine XS.icmpNo X.here hx rfl (hb hby own_d1_38) rfl (XT.ii_ge_f hi) ?_
    show Steps p.tables e below (T.setTop (mkF m 41 #[.val (.ref d), .val (.ref sb), .val (.int buf), .val (.int bits), .val (.ref d), .val (.int (Int32.ofNat n)), .val (.int i), .unset] [])) _
    refine XS.aload X.here hx rfl (hb hby own_d1_41) rfl rfl ?_
    show Steps p.tables e below (T.setTop (mkF m 43 #[.val (.ref d), .val (.ref sb), .val (.int buf), .val (.int bits), .val (.ref d), .val (.int (Int32.ofNat n)), .val (.int i), .unset] [(.ref d)])) _
    refine XS.iload X.here hx rfl (hb hby own_d1_43) rfl ?_
    show Steps p.tables e below (T.setTop (mkF m 45 #[.val (.ref d), .val (.ref sb), .val (.int buf), .val (.int bits), .val (.ref d), .val (.int (Int32.ofNat n)), .val (.int i), .unset] [(.int i), (.ref d)])) _
    refine X.baloadBytes hx (j := i) (v := (.int x)) Ar_c1.1 (State.isArrayOf_alike hZ.alike Ar_c1.2.1) Ar_c1.2.2 hin45 hat45 (g := (mkF m 45 #[.val (.ref d), .val (.ref sb), .val (.int buf), .val (.int bits), .val (.ref d), .val (.int (Int32.ofNat n)), .val (.int i), .unset] [(.int i), (.ref d)])) rfl rfl (hb hby own_d1_45) _ ?_
    show Steps p.tables e below (T.setTop (mkF m 46 #[.val (.ref d), .val (.ref sb), .val (.int buf), .val (.int bits), .val (.ref d), .val (.int (Int32.ofNat n)), .val (.int i), .unset] [(.int x)])) _
    refine XS.istore X.here hx rfl (hb hby own_d1_46) rfl (l' := #[.val (.ref d), .val (.ref sb), .val (.int buf), .val (.int bits), .val (.ref d), .val (.int (Int32.ofNat n)), .val (.int i), .val (.int x)]) rfl ?_
    show Steps p.tables e below (T.setTop (mkF m 48 #[.val (.ref d), .val (.ref sb), .val (.int buf), .val (.int bits), .val (.ref d), .val (.int (Int32.ofNat n)), .val (.int i), .val (.int x)] [])) _
    refine XS.iloadN X.here hx rfl (hb hby own_d1_48) rfl ?_
    show Steps p.tables e below (T.setTop (mkF m 49 #[.val (.ref d), .val (.ref sb), .val (.int buf), .val (.int bits), .val (.ref d), .val (.int (Int32.ofNat n)), .val (.int i), .val (.int x)] [(.int buf)])) _
    refine XT.bipushV X.here hx rfl (8 : Int32) (hb hby own_d1_49) (by decide) ?_
    show Steps p.tables e below (T.setTop (mkF m 51 #[.val (.ref d), .val (.ref sb), .val (.int buf), .val (.int bits), .val (.ref d), .val (.int (Int32.ofNat n)), .val (.int i), .val (.int x)] [(.int (8 : Int32)), (.int buf)])) _
    refine XT.ishl X.here hx rfl (hb hby own_d1_51) rfl ?_
    show Steps p.tables e below (T.setTop (mkF m 52 #[.val (.ref d), .val (.ref sb), .val (.int buf), .val (.int bits), .val (.ref d), .val (.int (Int32.ofNat n)), .val (.int i), .val (.int x)] [(.int (buf <<< ((8 : Int32) &&& 31)))])) _
    refine XS.iload X.here hx rfl (hb hby own_d1_52) rfl ?_
    show Steps p.tables e below (T.setTop (mkF m 54 #[.val (.ref d), .val (.ref sb), .val (.int buf), .val (.int bits), .val (.ref d), .val (.int (Int32.ofNat n)), .val (.int i), .val (.int x)] [(.int x), (.int (buf <<< ((8 : Int32) &&& 31)))])) _
    refine XT.sipushV X.here hx rfl (255 : Int32) (hb hby own_d1_54) (by decide) ?_
    show Steps p.tables e below (T.setTop (mkF m 57 #[.val (.ref d), .val (.ref sb), .val (.int buf), .val (.int bits), .val (.ref d), .val (.int (Int32.ofNat n)), .val (.int i), .val (.int x)] [(.int (255 : Int32)), (.int x), (.int (buf <<< ((8 : Int32) &&& 31)))])) _
    refine XS.iand X.here hx rfl (hb hby own_d1_57) rfl ?_
    show Steps p.tables e below (T.setTop (mkF m 58 #[.val (.ref d), .val (.ref sb), .val (.int buf), .val (.int bits), .val (.ref d), .val (.int (Int32.ofNat n)), .val (.int i), .val (.int x)] [(.int (x &&& (255 : Int32))), (.int (buf <<< ((8 : Int32) &&& 31)))])) _
    refine XT.ior X.here hx rfl (hb hby own_d1_58) rfl ?_
    show Steps p.tables e below (T.setTop (mkF m 59 #[.val (.ref d), .val (.ref sb), .val (.int buf), .val (.int bits), .val (.ref d), .val (.int (Int32.ofNat n)), .val (.int i), .val (.int x)] [(.int ((buf <<< ((8 : Int32) &&& 31)) ||| (x &&& (255 : Int32))))])) _
    refine XS.istoreN X.here hx rfl (hb hby own_d1_59) rfl (l' := #[.val (.ref d), .val (.ref sb), .val (.int v1), .val (.int bits), .val (.ref d), .val (.int (Int32.ofNat n)), .val (.int i), .val (.int x)]) (by rw [hv1]; rfl) ?_
    show Steps p.tables e below (T.setTop (mkF m 60 #[.val (.ref d), .val (.ref sb), .val (.int v1), .val (.int bits), .val (.ref d), .val (.int (Int32.ofNat n)), .val (.int i), .val (.int x)] [])) _
    refine XT.iincV X.here hx rfl (8 : Int32) (hb hby own_d1_60) (by decide) rfl (l' := #[.val (.ref d), .val (.ref sb), .val (.int v1), .val (.int (bits + (8 : Int32))), .val (.ref d), .val (.int (Int32.ofNat n)), .val (.int i), .val (.int x)]) rfl ?_
    exact kk
  refine fun kk => ?_
  refine sg0 _ ?_
  subst hv1; exact kk
set_option maxRecDepth 65536 in
set_option maxHeartbeats 40000000 in
theorem own_byteV {p : Program} {l : Launch} {e : Env} {s : State} {m : MethodId} {args : Array Value} {below : List Frame} {meth : Method} {c : Code} {Z : State} {sb d : Addr} {n : Nat} (hx : p.tables.exec = Jvm.exec) (hby : c.code = prog_3_method_2_code) (hZ : Z.Warmed39 s.vm)  {T : State} {locs : List Loc} {cells slots : Nat} (X : Stand p l e ({ frames := 5, cells := 6, slots := 172, locals := 72 } : Room) s m args below meth c T locs cells slots) {kd : ClassId} {bs : List Value} (buf bits i x : Int32) (w7 : Int32) (V_d : Arv Z T.heap d kd .byte (Int32.ofNat n) bs (.int (0 : Int32))) (hi0 : ¬ i < 0) (hi : i < Int32.ofNat n) (hbx : bs.getD i.toNatClampNeg (.int (0 : Int32)) = .int x) (tgt : State) :
    Steps p.tables e below (T.setTop (mkF m 63 #[.val (.ref d), .val (.ref sb), .val (.int (buf <<< ((8 : Int32) &&& 31) ||| (x &&& (255 : Int32)))), .val (.int (bits + (8 : Int32))), .val (.ref d), .val (.int (Int32.ofNat n)), .val (.int i), .val (.int x)] [])) tgt → Steps p.tables e below (T.setTop (mkF m 34 #[.val (.ref d), .val (.ref sb), .val (.int buf), .val (.int bits), .val (.ref d), .val (.int (Int32.ofNat n)), .val (.int i), .val (.int w7)] [])) tgt := by
  obtain ⟨cl_c1, Ar_c1, q_c1, S_c1, N_c1, H_c1, G_c1⟩ := id V_d
  have hin45 : ¬ (i < 0 ∨ cl_c1.slots.size ≤ (i).toNatClampNeg) := inb_of S_c1 ⟨hi0, hi⟩
  have hat45 : cl_c1.slots[(i).toNatClampNeg]? = some (.int x) := by rw [H_c1 _ (Nat.lt_of_not_le fun y => hin45 (Or.inr y))]; exact congrArg some hbx
  obtain ⟨v1, hv1⟩ : ∃ z_ : Int32, z_ = ((buf <<< ((8 : Int32) &&& 31)) ||| (x &&& (255 : Int32))) := ⟨_, rfl⟩
  have sg0 : ∀ tgt, Steps p.tables e below (T.setTop (mkF m 63 #[.val (.ref d), .val (.ref sb), .val (.int v1), .val (.int (bits + (8 : Int32))), .val (.ref d), .val (.int (Int32.ofNat n)), .val (.int i), .val (.int x)] [])) tgt → Steps p.tables e below (T.setTop (mkF m 34 #[.val (.ref d), .val (.ref sb), .val (.int buf), .val (.int bits), .val (.ref d), .val (.int (Int32.ofNat n)), .val (.int i), .val (.int w7)] [])) tgt := by
    intro tgt kk
    show Steps p.tables e below (T.setTop (mkF m 34 #[.val (.ref d), .val (.ref sb), .val (.int buf), .val (.int bits), .val (.ref d), .val (.int (Int32.ofNat n)), .val (.int i), .val (.int w7)] [])) _
    refine XS.iload X.here hx rfl (hb hby own_d1_34) rfl ?_
    show Steps p.tables e below (T.setTop (mkF m 36 #[.val (.ref d), .val (.ref sb), .val (.int buf), .val (.int bits), .val (.ref d), .val (.int (Int32.ofNat n)), .val (.int i), .val (.int w7)] [(.int i)])) _
    refine XS.iload X.here hx rfl (hb hby own_d1_36) rfl ?_
    show Steps p.tables e below (T.setTop (mkF m 38 #[.val (.ref d), .val (.ref sb), .val (.int buf), .val (.int bits), .val (.ref d), .val (.int (Int32.ofNat n)), .val (.int i), .val (.int w7)] [(.int (Int32.ofNat n)), (.int i)])) _
    refine XS.icmpNo X.here hx rfl (hb hby own_d1_38) rfl (XT.ii_ge_f hi) ?_
    show Steps p.tables e below (T.setTop (mkF m 41 #[.val (.ref d), .val (.ref sb), .val (.int buf), .val (.int bits), .val (.ref d), .val (.int (Int32.ofNat n)), .val (.int i), .val (.int w7)] [])) _
    refine XS.aload X.here hx rfl (hb hby own_d1_41) rfl rfl ?_
    show Steps p.tables e below (T.setTop (mkF m 43 #[.val (.ref d), .val (.ref sb), .val (.int buf), .val (.int bits), .val (.ref d), .val (.int (Int32.ofNat n)), .val (.int i), .val (.int w7)] [(.ref d)])) _
    refine XS.iload X.here hx rfl (hb hby own_d1_43) rfl ?_
    show Steps p.tables e below (T.setTop (mkF m 45 #[.val (.ref d), .val (.ref sb), .val (.int buf), .val (.int bits), .val (.ref d), .val (.int (Int32.ofNat n)), .val (.int i), .val (.int w7)] [(.int i), (.ref d)])) _
    refine X.baloadBytes hx (j := i) (v := (.int x)) Ar_c1.1 (State.isArrayOf_alike hZ.alike Ar_c1.2.1) Ar_c1.2.2 hin45 hat45 (g := (mkF m 45 #[.val (.ref d), .val (.ref sb), .val (.int buf), .val (.int bits), .val (.ref d), .val (.int (Int32.ofNat n)), .val (.int i), .val (.int w7)] [(.int i), (.ref d)])) rfl rfl (hb hby own_d1_45) _ ?_
    show Steps p.tables e below (T.setTop (mkF m 46 #[.val (.ref d), .val (.ref sb), .val (.int buf), .val (.int bits), .val (.ref d), .val (.int (Int32.ofNat n)), .val (.int i), .val (.int w7)] [(.int x)])) _
    refine XS.istore X.here hx rfl (hb hby own_d1_46) rfl (l' := #[.val (.ref d), .val (.ref sb), .val (.int buf), .val (.int bits), .val (.ref d), .val (.int (Int32.ofNat n)), .val (.int i), .val (.int x)]) rfl ?_
    show Steps p.tables e below (T.setTop (mkF m 48 #[.val (.ref d), .val (.ref sb), .val (.int buf), .val (.int bits), .val (.ref d), .val (.int (Int32.ofNat n)), .val (.int i), .val (.int x)] [])) _
    refine XS.iloadN X.here hx rfl (hb hby own_d1_48) rfl ?_
    show Steps p.tables e below (T.setTop (mkF m 49 #[.val (.ref d), .val (.ref sb), .val (.int buf), .val (.int bits), .val (.ref d), .val (.int (Int32.ofNat n)), .val (.int i), .val (.int x)] [(.int buf)])) _
    refine XT.bipushV X.here hx rfl (8 : Int32) (hb hby own_d1_49) (by decide) ?_
    show Steps p.tables e below (T.setTop (mkF m 51 #[.val (.ref d), .val (.ref sb), .val (.int buf), .val (.int bits), .val (.ref d), .val (.int (Int32.ofNat n)), .val (.int i), .val (.int x)] [(.int (8 : Int32)), (.int buf)])) _
    refine XT.ishl X.here hx rfl (hb hby own_d1_51) rfl ?_
    show Steps p.tables e below (T.setTop (mkF m 52 #[.val (.ref d), .val (.ref sb), .val (.int buf), .val (.int bits), .val (.ref d), .val (.int (Int32.ofNat n)), .val (.int i), .val (.int x)] [(.int (buf <<< ((8 : Int32) &&& 31)))])) _
    refine XS.iload X.here hx rfl (hb hby own_d1_52) rfl ?_
    show Steps p.tables e below (T.setTop (mkF m 54 #[.val (.ref d), .val (.ref sb), .val (.int buf), .val (.int bits), .val (.ref d), .val (.int (Int32.ofNat n)), .val (.int i), .val (.int x)] [(.int x), (.int (buf <<< ((8 : Int32) &&& 31)))])) _
    refine XT.sipushV X.here hx rfl (255 : Int32) (hb hby own_d1_54) (by decide) ?_
    show Steps p.tables e below (T.setTop (mkF m 57 #[.val (.ref d), .val (.ref sb), .val (.int buf), .val (.int bits), .val (.ref d), .val (.int (Int32.ofNat n)), .val (.int i), .val (.int x)] [(.int (255 : Int32)), (.int x), (.int (buf <<< ((8 : Int32) &&& 31)))])) _
    refine XS.iand X.here hx rfl (hb hby own_d1_57) rfl ?_
    show Steps p.tables e below (T.setTop (mkF m 58 #[.val (.ref d), .val (.ref sb), .val (.int buf), .val (.int bits), .val (.ref d), .val (.int (Int32.ofNat n)), .val (.int i), .val (.int x)] [(.int (x &&& (255 : Int32))), (.int (buf <<< ((8 : Int32) &&& 31)))])) _
    refine XT.ior X.here hx rfl (hb hby own_d1_58) rfl ?_
    show Steps p.tables e below (T.setTop (mkF m 59 #[.val (.ref d), .val (.ref sb), .val (.int buf), .val (.int bits), .val (.ref d), .val (.int (Int32.ofNat n)), .val (.int i), .val (.int x)] [(.int ((buf <<< ((8 : Int32) &&& 31)) ||| (x &&& (255 : Int32))))])) _
    refine XS.istoreN X.here hx rfl (hb hby own_d1_59) rfl (l' := #[.val (.ref d), .val (.ref sb), .val (.int v1), .val (.int bits), .val (.ref d), .val (.int (Int32.ofNat n)), .val (.int i), .val (.int x)]) (by rw [hv1]; rfl) ?_
    show Steps p.tables e below (T.setTop (mkF m 60 #[.val (.ref d), .val (.ref sb), .val (.int v1), .val (.int bits), .val (.ref d), .val (.int (Int32.ofNat n)), .val (.int i), .val (.int x)] [])) _
    refine XT.iincV X.here hx rfl (8 : Int32) (hb hby own_d1_60) (by decide) rfl (l' := #[.val (.ref d), .val (.ref sb), .val (.int v1), .val (.int (bits + (8 : Int32))), .val (.ref d), .val (.int (Int32.ofNat n)), .val (.int i), .val (.int x)]) rfl ?_
    exact kk
  refine fun kk => ?_
  refine sg0 _ ?_
  subst hv1; exact kk
set_option maxRecDepth 65536 in
set_option maxHeartbeats 40000000 in
theorem own_end0 {p : Program} {l : Launch} {e : Env} {s : State} {m : MethodId} {args : Array Value} {below : List Frame} {meth : Method} {c : Code} {Z : State} {sb d : Addr} {n : Nat} (hx : p.tables.exec = Jvm.exec) (hby : c.code = prog_3_method_2_code) (hZ : Z.Warmed39 s.vm)  {T : State} {locs : List Loc} {cells slots : Nat} (X : Stand p l e ({ frames := 5, cells := 6, slots := 172, locals := 72 } : Room) s m args below meth c T locs cells slots) (buf bits i : Int32) (s7 : Slot) (hi : ¬ i < Int32.ofNat n) (hb0 : ¬ (0 : Int32) < bits) (tgt : State) :
    Steps p.tables e below (T.setTop (mkF m 118 #[.val (.ref d), .val (.ref sb), .val (.int buf), .val (.int bits), .val (.ref d), .val (.int (Int32.ofNat n)), .val (.int i), s7] [])) tgt → Steps p.tables e below (T.setTop (mkF m 34 #[.val (.ref d), .val (.ref sb), .val (.int buf), .val (.int bits), .val (.ref d), .val (.int (Int32.ofNat n)), .val (.int i), s7] [])) tgt := by
  have sg0 : ∀ tgt, Steps p.tables e below (T.setTop (mkF m 118 #[.val (.ref d), .val (.ref sb), .val (.int buf), .val (.int bits), .val (.ref d), .val (.int (Int32.ofNat n)), .val (.int i), s7] [])) tgt → Steps p.tables e below (T.setTop (mkF m 34 #[.val (.ref d), .val (.ref sb), .val (.int buf), .val (.int bits), .val (.ref d), .val (.int (Int32.ofNat n)), .val (.int i), s7] [])) tgt := by
    intro tgt kk
    show Steps p.tables e below (T.setTop (mkF m 34 #[.val (.ref d), .val (.ref sb), .val (.int buf), .val (.int bits), .val (.ref d), .val (.int (Int32.ofNat n)), .val (.int i), s7] [])) _
    refine XS.iload X.here hx rfl (hb hby own_d1_34) rfl ?_
    show Steps p.tables e below (T.setTop (mkF m 36 #[.val (.ref d), .val (.ref sb), .val (.int buf), .val (.int bits), .val (.ref d), .val (.int (Int32.ofNat n)), .val (.int i), s7] [(.int i)])) _
    refine XS.iload X.here hx rfl (hb hby own_d1_36) rfl ?_
    show Steps p.tables e below (T.setTop (mkF m 38 #[.val (.ref d), .val (.ref sb), .val (.int buf), .val (.int bits), .val (.ref d), .val (.int (Int32.ofNat n)), .val (.int i), s7] [(.int (Int32.ofNat n)), (.int i)])) _
    refine XS.icmpYes X.here hx rfl (pc0 := 38) (pc' := 96) rfl (hb hby own_d1_38) rfl (XT.ii_ge_t hi) (by decide) (by decide) ?_
    show Steps p.tables e below (T.setTop (mkF m 96 #[.val (.ref d), .val (.ref sb), .val (.int buf), .val (.int bits), .val (.ref d), .val (.int (Int32.ofNat n)), .val (.int i), s7] [])) _
    refine XS.iloadN X.here hx rfl (hb hby own_d1_96) rfl ?_
    show Steps p.tables e below (T.setTop (mkF m 97 #[.val (.ref d), .val (.ref sb), .val (.int buf), .val (.int bits), .val (.ref d), .val (.int (Int32.ofNat n)), .val (.int i), s7] [(.int bits)])) _
    refine XS.ifYes X.here hx rfl (pc0 := 97) (pc' := 118) rfl (hb hby own_d1_97) rfl (XT.i0_le_t hb0) (by decide) (by decide) ?_
    exact kk
  refine fun kk => ?_
  refine sg0 _ ?_
  exact kk
set_option maxRecDepth 65536 in
set_option maxHeartbeats 40000000 in
theorem own_end1 {p : Program} {l : Launch} {e : Env} {s : State} {m : MethodId} {args : Array Value} {below : List Frame} {meth : Method} {c : Code} {Z : State} {a0 : Array Value} (hw : ∀ d ∈ tables_1, d.before a0 Z = true) {n1 n2 : Nat} {sb t : Addr} {kb : ClassId} {N : Nat} (hN : N ≤ 16) {d : Addr} {kd : ClassId} {n : Nat} {bs : List Value} {la lb : Addr} {kl : ClassId} {cz : Int32} (hcz : ¬ cz = 0) (O1 : Sta Z Z.heap "java/lang/String" "COMPACT_STRINGS" "Z" (.int cz)) {fm : Value} (hfm : fm.isRef = true) (O2 : Sta Z Z.heap "jdk/internal/util/Preconditions" "SIOOBE_FORMATTER" "Ljava/util/function/BiFunction;" fm) (CT : own_ctx Z n1 n2 sb t d lb) (hx : p.tables.exec = Jvm.exec) (hby : c.code = prog_3_method_2_code) (hml : c.maxLocals = 8) (hZ : Z.Warmed39 s.vm) (hown : s.vm.findClass "com/example/mavs/mavs/activation/Base32" = some m.cls) (LT : Lit s "com/example/mavs/mavs/activation/Base32" 16 la)  {T : State} {locs : List Loc} {vs : List Value} (A : own_at p l e s m args below meth c Z n1 n2 sb t kb N d kd n bs la lb kl T locs vs) (buf bits i : Int32) (s7 : Slot) (hi : ¬ i < Int32.ofNat n) (hb0 : (0 : Int32) < bits) (hl : vs.length < N) :
    ∃ (T' : State) (locs' : List Loc), own_at p l e s m args below meth c Z n1 n2 sb t kb N d kd n bs la lb kl T' locs' (vs ++ [.int (own_alpha (own_fl buf bits))]) ∧ ∀ tgt, Steps p.tables e below (T'.setTop (mkF m 118 #[.val (.ref d), .val (.ref sb), .val (.int buf), .val (.int bits), .val (.ref d), .val (.int (Int32.ofNat n)), .val (.int i), s7] [])) tgt → Steps p.tables e below (T.setTop (mkF m 34 #[.val (.ref d), .val (.ref sb), .val (.int buf), .val (.int bits), .val (.ref d), .val (.int (Int32.ofNat n)), .val (.int i), s7] [])) tgt := by
  have X := A.1
  have sg0 : ∀ tgt, Steps p.tables e below (T.setTop (mkF m 101 #[.val (.ref d), .val (.ref sb), .val (.int buf), .val (.int bits), .val (.ref d), .val (.int (Int32.ofNat n)), .val (.int i), s7] [(.ref sb)])) tgt → Steps p.tables e below (T.setTop (mkF m 34 #[.val (.ref d), .val (.ref sb), .val (.int buf), .val (.int bits), .val (.ref d), .val (.int (Int32.ofNat n)), .val (.int i), s7] [])) tgt := by
    intro tgt kk
    show Steps p.tables e below (T.setTop (mkF m 34 #[.val (.ref d), .val (.ref sb), .val (.int buf), .val (.int bits), .val (.ref d), .val (.int (Int32.ofNat n)), .val (.int i), s7] [])) _
    refine XS.iload X.here hx rfl (hb hby own_d1_34) rfl ?_
    show Steps p.tables e below (T.setTop (mkF m 36 #[.val (.ref d), .val (.ref sb), .val (.int buf), .val (.int bits), .val (.ref d), .val (.int (Int32.ofNat n)), .val (.int i), s7] [(.int i)])) _
    refine XS.iload X.here hx rfl (hb hby own_d1_36) rfl ?_
    show Steps p.tables e below (T.setTop (mkF m 38 #[.val (.ref d), .val (.ref sb), .val (.int buf), .val (.int bits), .val (.ref d), .val (.int (Int32.ofNat n)), .val (.int i), s7] [(.int (Int32.ofNat n)), (.int i)])) _
    refine XS.icmpYes X.here hx rfl (pc0 := 38) (pc' := 96) rfl (hb hby own_d1_38) rfl (XT.ii_ge_t hi) (by decide) (by decide) ?_
    show Steps p.tables e below (T.setTop (mkF m 96 #[.val (.ref d), .val (.ref sb), .val (.int buf), .val (.int bits), .val (.ref d), .val (.int (Int32.ofNat n)), .val (.int i), s7] [])) _
    refine XS.iloadN X.here hx rfl (hb hby own_d1_96) rfl ?_
    show Steps p.tables e below (T.setTop (mkF m 97 #[.val (.ref d), .val (.ref sb), .val (.int buf), .val (.int bits), .val (.ref d), .val (.int (Int32.ofNat n)), .val (.int i), s7] [(.int bits)])) _
    refine XS.ifNo X.here hx rfl (hb hby own_d1_97) rfl (XT.i0_le_f hb0) ?_
    show Steps p.tables e below (T.setTop (mkF m 100 #[.val (.ref d), .val (.ref sb), .val (.int buf), .val (.int bits), .val (.ref d), .val (.int (Int32.ofNat n)), .val (.int i), s7] [])) _
    refine XS.aloadN X.here hx rfl (hb hby own_d1_100) rfl rfl ?_
    exact kk
  have stl := ldcR (Z := s) (a0 := args) X hx (State.Warmed39.refl _) hown (refOfLit (mvS (s := s) (vm0 := s.vm) hZ (hw _ (List.mem_of_getElem? (i := 105) rfl))) LT) LT (g := (mkF m 101 #[.val (.ref d), .val (.ref sb), .val (.int buf), .val (.int bits), .val (.ref d), .val (.int (Int32.ofNat n)), .val (.int i), s7] [(.ref sb)])) rfl (hb hby own_d1_101)
  obtain ⟨T1, locs1, A1, st1⟩ := own_emitF hw hN hcz O1 hfm O2 CT hx hby hml hZ hown LT A buf bits i s7 hl
  refine ⟨T1, locs1, A1, fun tgt kk => ?_⟩
  refine sg0 _ ?_
  refine stl _ ?_
  refine st1 _ ?_
  exact kk
set_option maxRecDepth 65536 in
set_option maxHeartbeats 40000000 in
theorem own_inner {p : Program} {l : Launch} {e : Env} {s : State} {m : MethodId} {args : Array Value} {below : List Frame} {meth : Method} {c : Code} {Z : State} {a0 : Array Value} (hw : ∀ d ∈ tables_1, d.before a0 Z = true) {n1 n2 : Nat} {sb t : Addr} {kb : ClassId} {N : Nat} (hN : N ≤ 16) {d : Addr} {kd : ClassId} {n : Nat} {bs : List Value} {la lb : Addr} {kl : ClassId} {cz : Int32} (hcz : ¬ cz = 0) (O1 : Sta Z Z.heap "java/lang/String" "COMPACT_STRINGS" "Z" (.int cz)) {fm : Value} (hfm : fm.isRef = true) (O2 : Sta Z Z.heap "jdk/internal/util/Preconditions" "SIOOBE_FORMATTER" "Ljava/util/function/BiFunction;" fm) (CT : own_ctx Z n1 n2 sb t d lb) (hx : p.tables.exec = Jvm.exec) (hby : c.code = prog_3_method_2_code) (hml : c.maxLocals = 8) (hZ : Z.Warmed39 s.vm) (hown : s.vm.findClass "com/example/mavs/mavs/activation/Base32" = some m.cls) (LT : Lit s "com/example/mavs/mavs/activation/Base32" 16 la)  {T : State} {locs : List Loc} {vs : List Value} (A : own_at p l e s m args below meth c Z n1 n2 sb t kb N d kd n bs la lb kl T locs vs) (buf i : Int32) (s7 : Slot) (k : Nat) (hk : k < 15) (hl : vs.length + (own_in buf k).length ≤ N) :
    ∃ (T' : State) (locs' : List Loc), own_at p l e s m args below meth c Z n1 n2 sb t kb N d kd n bs la lb kl T' locs' (vs ++ own_out (own_in buf k)) ∧ ∀ tgt, Steps p.tables e below (T'.setTop (mkF m 34 #[.val (.ref d), .val (.ref sb), .val (.int buf), .val (.int (Int32.ofNat (k % 5))), .val (.ref d), .val (.int (Int32.ofNat n)), .val (.int (i + (1 : Int32))), s7] [])) tgt → Steps p.tables e below (T.setTop (mkF m 63 #[.val (.ref d), .val (.ref sb), .val (.int buf), .val (.int (Int32.ofNat k)), .val (.ref d), .val (.int (Int32.ofNat n)), .val (.int i), s7] [])) tgt := by
  by_cases h5 : k < 5
  · have hin : own_in buf k = [] := by unfold own_in; rw [if_pos h5]
    refine ⟨T, locs, ?_, fun tgt kk => ?_⟩
    · rw [hin]; show own_at p l e s m args below meth c Z n1 n2 sb t kb N d kd n bs la lb kl T locs (vs ++ []); rw [List.append_nil]; exact A
    · rw [Nat.mod_eq_of_lt h5] at kk
      exact own_exit hx hby hZ A.1 buf (Int32.ofNat k) i s7 (own_lt5 h5) tgt kk
  · have g := own_ge5 hk h5
    by_cases h10 : k < 10
    · have hin : own_in buf k = [own_idx buf (Int32.ofNat (k - 5))] := by unfold own_in; rw [if_neg h5, if_pos h10]
      rw [hin] at hl
      obtain ⟨T1, l1, A1, s1⟩ := own_turn hw hN hcz O1 hfm O2 CT hx hby hml hZ hown LT A buf (Int32.ofNat k) i s7 g.1 (by simp at hl; omega)
      rw [g.2] at A1 s1
      refine ⟨T1, l1, ?_, fun tgt kk => s1 tgt ?_⟩
      · rw [hin]; exact A1
      · rw [show k % 5 = k - 5 from by omega] at kk
        exact own_exit hx hby hZ A1.1 buf (Int32.ofNat (k - 5)) i s7 (own_lt5 (by omega)) tgt kk
    · have hin : own_in buf k = [own_idx buf (Int32.ofNat (k - 5)), own_idx buf (Int32.ofNat (k - 10))] := by unfold own_in; rw [if_neg h5, if_neg h10]
      rw [hin] at hl
      have hl' : vs.length + 2 ≤ N := by simpa using hl
      obtain ⟨T1, l1, A1, s1⟩ := own_turn hw hN hcz O1 hfm O2 CT hx hby hml hZ hown LT A buf (Int32.ofNat k) i s7 g.1 (by omega)
      rw [g.2] at A1 s1
      have g2 := own_ge5 (k := k - 5) (by omega) (by omega)
      obtain ⟨T2, l2, A2, s2⟩ := own_turn hw hN hcz O1 hfm O2 CT hx hby hml hZ hown LT A1 buf (Int32.ofNat (k - 5)) i s7 g2.1 (by rw [List.length_append, List.length_singleton]; omega)
      rw [g2.2, show k - 5 - 5 = k - 10 from by omega] at A2 s2
      refine ⟨T2, l2, ?_, fun tgt kk => s1 tgt (s2 tgt ?_)⟩
      · rw [hin]; rw [List.append_assoc] at A2; exact A2
      · rw [show k % 5 = k - 10 from by omega] at kk
        exact own_exit hx hby hZ A2.1 buf (Int32.ofNat (k - 10)) i s7 (own_lt5 (by omega)) tgt kk
set_option maxRecDepth 65536 in
set_option maxHeartbeats 40000000 in
theorem own_outer {p : Program} {l : Launch} {e : Env} {s : State} {m : MethodId} {args : Array Value} {below : List Frame} {meth : Method} {c : Code} {Z : State} {a0 : Array Value} (hw : ∀ d ∈ tables_1, d.before a0 Z = true) {n1 n2 : Nat} {sb t : Addr} {kb : ClassId} {N : Nat} (hN : N ≤ 16) {d : Addr} {kd : ClassId} {n : Nat} {bs : List Value} {la lb : Addr} {kl : ClassId} {cz : Int32} (hcz : ¬ cz = 0) (O1 : Sta Z Z.heap "java/lang/String" "COMPACT_STRINGS" "Z" (.int cz)) {fm : Value} (hfm : fm.isRef = true) (O2 : Sta Z Z.heap "jdk/internal/util/Preconditions" "SIOOBE_FORMATTER" "Ljava/util/function/BiFunction;" fm) (CT : own_ctx Z n1 n2 sb t d lb) (hx : p.tables.exec = Jvm.exec) (hby : c.code = prog_3_method_2_code) (hml : c.maxLocals = 8) (hZ : Z.Warmed39 s.vm) (hown : s.vm.findClass "com/example/mavs/mavs/activation/Base32" = some m.cls) (LT : Lit s "com/example/mavs/mavs/activation/Base32" 16 la)  (hn : n ≤ 10) (rest : List Int32) : ∀ (j : Nat) (T : State) (locs : List Loc) (vs : List Value) (buf : Int32) (k : Nat) (s7 : Slot), own_at p l e s m args below meth c Z n1 n2 sb t kb N d kd n bs la lb kl T locs vs → j + rest.length = n → (∀ q (hq : q < rest.length), bs.getD (j + q) (.int (0 : Int32)) = .int (rest[q].toInt8.toInt32)) → k < 5 → (s7 = .unset ∨ ∃ w : Int32, s7 = .val (.int w)) → vs.length + (own_enc buf k rest).length ≤ N →
    ∃ (T' : State) (locs' : List Loc) (buf' bits' i' : Int32) (s7' : Slot), own_at p l e s m args below meth c Z n1 n2 sb t kb N d kd n bs la lb kl T' locs' (vs ++ own_out (own_enc buf k rest)) ∧ ∀ tgt, Steps p.tables e below (T'.setTop (mkF m 118 #[.val (.ref d), .val (.ref sb), .val (.int buf'), .val (.int bits'), .val (.ref d), .val (.int (Int32.ofNat n)), .val (.int i'), s7'] [])) tgt → Steps p.tables e below (T.setTop (mkF m 34 #[.val (.ref d), .val (.ref sb), .val (.int buf), .val (.int (Int32.ofNat k)), .val (.ref d), .val (.int (Int32.ofNat n)), .val (.int (Int32.ofNat j)), s7] [])) tgt := by
  induction rest with
  | nil =>
    intro j T locs vs buf k s7 A hj hbs hk hs hc
    have hj' : j = n := by simpa using hj
    have hi : ¬ Int32.ofNat j < Int32.ofNat n := by rw [hj']; exact own_irr (by omega)
    by_cases k0 : k = 0
    · subst k0
      refine ⟨T, locs, buf, Int32.ofNat 0, Int32.ofNat j, s7, ?_, fun tgt kk => own_end0 hx hby hZ A.1 buf (Int32.ofNat 0) (Int32.ofNat j) s7 hi (by decide) tgt kk⟩
      show own_at p l e s m args below meth c Z n1 n2 sb t kb N d kd n bs la lb kl T locs (vs ++ []); rw [List.append_nil]; exact A
    · have e : own_enc buf k [] = [own_fl buf (Int32.ofNat k)] := by simp only [own_enc, if_neg k0]
      rw [e] at hc
      obtain ⟨T1, l1, A1, s1⟩ := own_end1 hw hN hcz O1 hfm O2 CT hx hby hml hZ hown LT A buf (Int32.ofNat k) (Int32.ofNat j) s7 hi (own_pos hk k0) (by simp at hc; omega)
      exact ⟨T1, l1, buf, _, _, s7, by rw [e]; exact A1, s1⟩
  | cons r rest ih =>
    intro j T locs vs buf k s7 A hj hbs hk hs hc
    have hj2 : j + 1 + rest.length = n := by simp at hj; omega
    have hjn : j < n := by omega
    have e : own_enc buf k (r :: rest) = own_in (own_buf buf r) (k + 8) ++ own_enc (own_buf buf r) ((k + 8) % 5) rest := rfl
    rw [e] at hc ⊢
    rw [List.length_append] at hc
    have hb0 : bs.getD (Int32.ofNat j).toNatClampNeg (.int (0 : Int32)) = .int (r.toInt8.toInt32) := by rw [own_clamp (by omega)]; exact hbs 0 (by simp)
    obtain ⟨T1, l1, A1, s1⟩ := own_inner hw hN hcz O1 hfm O2 CT hx hby hml hZ hown LT A (own_buf buf r) (Int32.ofNat j) (.val (.int r.toInt8.toInt32)) (k + 8) (by omega) (by omega)
    obtain ⟨T2, l2, b2, t2, i2, q2, A2, s2⟩ := ih (j + 1) T1 l1 _ (own_buf buf r) ((k + 8) % 5) (.val (.int r.toInt8.toInt32)) A1 hj2 (fun q hq => by
      have h := hbs (q + 1) (by simp; omega)
      rw [show j + 1 + q = j + (q + 1) from by omega]; simpa using h) (Nat.mod_lt _ (by decide)) (Or.inr ⟨_, rfl⟩) (by rw [List.length_append, own_out_len]; omega)
    refine ⟨T2, l2, b2, t2, i2, q2, ?_, fun tgt kk => ?_⟩
    · rw [own_out_app, ← List.append_assoc]; exact A2
    · have kk1 := s2 tgt kk
      rw [← own_succ (by omega)] at kk1
      have kk2 := s1 tgt kk1
      rw [← own_add8 hk] at kk2
      rcases hs with rfl | ⟨w7, rfl⟩
      · exact own_byteU hx hby hZ A.1 buf (Int32.ofNat k) (Int32.ofNat j) (r.toInt8.toInt32) A.2.2.2.2.2.1 (own_nneg (by omega)) (own_ltN hjn (by omega)) hb0 tgt kk2
      · exact own_byteV hx hby hZ A.1 buf (Int32.ofNat k) (Int32.ofNat j) (r.toInt8.toInt32) w7 A.2.2.2.2.2.1 (own_nneg (by omega)) (own_ltN hjn (by omega)) hb0 tgt kk2
theorem own_pd17 : parseMethodDescriptor "()Ljava/lang/String;" = some ⟨[], some (.object "java/lang/String")⟩ := by decide +kernel
theorem own_pn7 : plainName "com/example/mavs/mavs/activation/Base32" = true := by first | (simp [plainName, overriddenIn]; done) | decide +kernel
theorem own_d1_0 : decode prog_3_method_2_code 0 = .ok (.new 7, 3) := by decide +kernel
theorem own_d1_3 : decode prog_3_method_2_code 3 = .ok (.dup, 1) := by decide +kernel
theorem own_d1_4 : decode prog_3_method_2_code 4 = .ok (.aload_n 0, 1) := by decide +kernel
theorem own_d1_5 : decode prog_3_method_2_code 5 = .ok (.arraylength, 1) := by decide +kernel
theorem own_d1_6 : decode prog_3_method_2_code 6 = .ok (.bipush 8, 2) := by decide +kernel
theorem own_d1_8 : decode prog_3_method_2_code 8 = .ok (.imul, 1) := by decide +kernel
theorem own_d1_9 : decode prog_3_method_2_code 9 = .ok (.iconst 5, 1) := by decide +kernel
theorem own_d1_10 : decode prog_3_method_2_code 10 = .ok (.iadd, 1) := by decide +kernel
theorem own_d1_11 : decode prog_3_method_2_code 11 = .ok (.iconst 1, 1) := by decide +kernel
theorem own_d1_12 : decode prog_3_method_2_code 12 = .ok (.isub, 1) := by decide +kernel
theorem own_d1_13 : decode prog_3_method_2_code 13 = .ok (.iconst 5, 1) := by decide +kernel
theorem own_d1_14 : decode prog_3_method_2_code 14 = .ok (.idiv, 1) := by decide +kernel
theorem own_d1_15 : decode prog_3_method_2_code 15 = .ok (.invokespecial 13, 3) := by decide +kernel
theorem own_d1_18 : decode prog_3_method_2_code 18 = .ok (.astore_n 1, 1) := by decide +kernel
theorem own_d1_19 : decode prog_3_method_2_code 19 = .ok (.iconst 0, 1) := by decide +kernel
theorem own_d1_20 : decode prog_3_method_2_code 20 = .ok (.istore_n 2, 1) := by decide +kernel
theorem own_d1_21 : decode prog_3_method_2_code 21 = .ok (.iconst 0, 1) := by decide +kernel
theorem own_d1_22 : decode prog_3_method_2_code 22 = .ok (.istore_n 3, 1) := by decide +kernel
theorem own_d1_23 : decode prog_3_method_2_code 23 = .ok (.aload_n 0, 1) := by decide +kernel
theorem own_d1_24 : decode prog_3_method_2_code 24 = .ok (.astore 4, 2) := by decide +kernel
theorem own_d1_26 : decode prog_3_method_2_code 26 = .ok (.aload 4, 2) := by decide +kernel
theorem own_d1_28 : decode prog_3_method_2_code 28 = .ok (.arraylength, 1) := by decide +kernel
theorem own_d1_29 : decode prog_3_method_2_code 29 = .ok (.istore 5, 2) := by decide +kernel
theorem own_d1_31 : decode prog_3_method_2_code 31 = .ok (.iconst 0, 1) := by decide +kernel
theorem own_d1_32 : decode prog_3_method_2_code 32 = .ok (.istore 6, 2) := by decide +kernel
theorem own_d1_118 : decode prog_3_method_2_code 118 = .ok (.aload_n 1, 1) := by decide +kernel
theorem own_d1_119 : decode prog_3_method_2_code 119 = .ok (.invokevirtual 28, 3) := by decide +kernel
theorem own_d1_122 : decode prog_3_method_2_code 122 = .ok (.areturn, 1) := by decide +kernel
theorem own_ef1 (m : MethodId) (a1 : Addr)  : entryFrame m #[(.ref a1)] 8 = mkF m 0 #[.val (.ref a1), .unset, .unset, .unset, .unset, .unset, .unset, .unset] [] := by first | (simp [entryFrame, mkF, argsToLocals, Value.category]; done) | rfl
def Q1 (Z : State) (a1 : Addr) (kd : ClassId) (n : Nat) (rs : List Int32) (h0 : Heap) (n0 : Nat) (v : Option Value) (h : Heap) (L : List Loc) : Prop := ∃ (r u : Addr) (kb : ClassId), v = some (.ref r) ∧ Fr n0 L ∧ own_str Z h r u kb ((8 * n + 4) / 5) (own_out (own_enc 0 0 rs)) ∧ Old Z Z.heap.size h ∧ h0.size ≤ h.size
set_option maxRecDepth 65536 in
set_option maxHeartbeats 40000000 in
theorem rm1 (l : Launch) (Z : State) (a0 : Array Value) (hw : ∀ d ∈ tables_1, d.before a0 Z = true) (ws : List Jvm.Cond) (a1 : Addr) (kd : ClassId) (n : Nat) (rs : List Int32) (h0 : Heap) (n0 : Nat) (Z0 : n0 ≤ h0.size) (cz : Int32) (hcz : ¬ cz = 0) (O1 : Sta Z Z.heap "java/lang/String" "COMPACT_STRINGS" "Z" (.int cz)) (OL : Old Z Z.heap.size h0) (fm : Value) (hfm : fm.isRef = true) (O2 : Sta Z Z.heap "jdk/internal/util/Preconditions" "SIOOBE_FORMATTER" "Ljava/util/function/BiFunction;" fm) (CH : Jvm.Lit.constHeld Z "com/example/mavs/mavs/activation/Base32" 16) (hcw : Jvm.Lit.compactW.before a0 Z = true) (V_a1 : Arv Z h0 a1 kd .byte (Int32.ofNat n) (rs.map fun r => Value.int r.toInt8.toInt32) (.int (0 : Int32))) (hn : n ≤ 10) (hrs : rs.length = n) (hlen : (own_enc 0 0 rs).length = ((8 * n + 4) / 5)) :
    MetFree l (⟨"com/example/mavs/mavs/activation/Base32", "encode", "([B)Ljava/lang/String;"⟩ : MethodName) (head1 (Jvm.Cond.code (⟨"com/example/mavs/mavs/activation/Base32", "encode", "([B)Ljava/lang/String;"⟩ : MethodName) prog_3_method_2_code 8 (some (.object "java/lang/String")) :: ws) ({ frames := 5, cells := 6, slots := 172, locals := 72 } : Room)) (fun a U => a = #[(.ref a1)] ∧ Z.Warmed39 U.vm ∧ U.heap = h0 ∧ U.vm.interned = Z.vm.interned) (fun _ _ _ _ _ => True) (fun _ U o U' => ∃ v L, o = .returned v ∧ Q1 Z a1 kd n rs h0 n0 v U'.heap L ∧ ReturnedEndW U o U' L ({ frames := 5, cells := 6, slots := 172, locals := 72 } : Room).cells ({ frames := 5, cells := 6, slots := 172, locals := 72 } : Room).slots) := by
  refine MetFree.of_bodySF (plainFor_of_name own_pn7) hisR ?_
  intro p e s m args below meth c s₁ Bd hml0 hP hK
  obtain ⟨rfl, hZ, hh, hint⟩ := hP
  have hx := Bd.exec
  have hby := Bd.bytes
  have hml : c.maxLocals = 8 := hml0
  have hown : s.vm.findClass "com/example/mavs/mavs/activation/Base32" = some m.cls := findClass_of_methodNamed Bd.named
  have hnm := (name_of_methodNamed Bd.named Bd.method).1
  have X0 : Stand p l e ({ frames := 5, cells := 6, slots := 172, locals := 72 } : Room) s m #[(.ref a1)] below meth c s₁ [] 0 0 := Stand.of_body Bd
  have e0 : s₁.heap = h0 := by rw [← hh, Bd.state]; rfl
  have N0 := Fr.nil n0
  have pre0 : ∀ t, Steps p.tables e below (s₁.setTop (mkF m 0 #[.val (.ref a1), .unset, .unset, .unset, .unset, .unset, .unset, .unset] [])) t → Steps p.tables e below (s₁.setTop (entryFrame m #[(.ref a1)] 8)) t := fun t k => castTop (own_ef1 m a1 ) k
  have hnz : Z.heap.size ≤ h0.size := OL.2.1
  have Z9 : h0.size ≤ h0.size := Nat.le_refl _
  have N9 := Fr.nil h0.size
  have hN : ((8 * n + 4) / 5) ≤ 16 := by omega
  obtain ⟨T1, h1, X1, e1, E1, A1, D1, -, st1⟩ := newO X0 hx hZ hown (hw _ (List.mem_of_getElem? (i := 6) rfl)) (hw _ (List.mem_of_getElem? (i := 7) rfl)) (hw _ (List.mem_of_getElem? (i := 8) rfl)) e0 (g := (mkF m 0 #[.val (.ref a1), .unset, .unset, .unset, .unset, .unset, .unset, .unset] [])) rfl (hb hby own_d1_0) (by decide) (by decide)
  obtain ⟨sb, g1⟩ : ∃ z_, z_ = h0.size := ⟨_, rfl⟩
  rw [← g1] at A1 D1 st1
  have g_sb : h0.size ≤ sb := Nat.le_trans Z9 (Nat.le_of_eq g1.symm)
  have Z_1 : h0.size ≤ h1.size := Nat.le_trans Z9 E1.1
  have s_sb : h0.size ≤ sb := Nat.le_of_eq g1.symm
  have V_2 := Arv.ext V_a1 E1
  have OL_3 := Old.ext OL E1
  have F_4 : Fld Z h1 sb "java/lang/AbstractStringBuilder" "value" "[B" .null := D1 (Or.inl (hw _ (List.mem_of_getElem? (i := 24) rfl))) (ty := (.array .byte)) (by decide)
  have F_5 : Fld Z h1 sb "java/lang/AbstractStringBuilder" "coder" "B" (.int (0 : Int32)) := D1 (Or.inl (hw _ (List.mem_of_getElem? (i := 26) rfl))) (ty := .byte) (by decide)
  have F_6 : Fld Z h1 sb "java/lang/AbstractStringBuilder" "count" "I" (.int (0 : Int32)) := D1 (Or.inl (hw _ (List.mem_of_getElem? (i := 57) rfl))) (ty := .int) (by decide)
  obtain ⟨cl_c7, Ar_c7, q_c7, S_c7, N_c7, H_c7, G_c7⟩ := id V_2
  have sg1 : ∀ tgt, Steps p.tables e below (T1.setTop (mkF m 15 #[.val (.ref a1), .unset, .unset, .unset, .unset, .unset, .unset, .unset] [(.int (((((Int32.ofNat n) * (8 : Int32)) + (5 : Int32)) - (1 : Int32)) / (5 : Int32))), (.ref sb), (.ref sb)])) tgt → Steps p.tables e below (T1.setTop (mkF m 3 #[.val (.ref a1), .unset, .unset, .unset, .unset, .unset, .unset, .unset] [(.ref sb)])) tgt := by
    intro tgt kk
    show Steps p.tables e below (T1.setTop (mkF m 3 #[.val (.ref a1), .unset, .unset, .unset, .unset, .unset, .unset, .unset] [(.ref sb)])) _
    refine XS.dup X1.here hx rfl (hb hby own_d1_3) rfl rfl ?_
    show Steps p.tables e below (T1.setTop (mkF m 4 #[.val (.ref a1), .unset, .unset, .unset, .unset, .unset, .unset, .unset] [(.ref sb), (.ref sb)])) _
    refine XS.aloadN X1.here hx rfl (hb hby own_d1_4) rfl rfl ?_
    show Steps p.tables e below (T1.setTop (mkF m 5 #[.val (.ref a1), .unset, .unset, .unset, .unset, .unset, .unset, .unset] [(.ref a1), (.ref sb), (.ref sb)])) _
    refine X1.arraylength hx (by rw [e1]; exact Ar_c7.1) (State.isArrayOf_alike hZ.alike Ar_c7.2.1) (g := (mkF m 5 #[.val (.ref a1), .unset, .unset, .unset, .unset, .unset, .unset, .unset] [(.ref a1), (.ref sb), (.ref sb)])) rfl rfl (hb hby own_d1_5) _ ?_
    rw [len_of S_c7 N_c7]
    show Steps p.tables e below (T1.setTop (mkF m 6 #[.val (.ref a1), .unset, .unset, .unset, .unset, .unset, .unset, .unset] [(.int (Int32.ofNat n)), (.ref sb), (.ref sb)])) _
    refine XT.bipushV X1.here hx rfl (8 : Int32) (hb hby own_d1_6) (by decide) ?_
    show Steps p.tables e below (T1.setTop (mkF m 8 #[.val (.ref a1), .unset, .unset, .unset, .unset, .unset, .unset, .unset] [(.int (8 : Int32)), (.int (Int32.ofNat n)), (.ref sb), (.ref sb)])) _
    refine XS.imul X1.here hx rfl (hb hby own_d1_8) rfl ?_
    show Steps p.tables e below (T1.setTop (mkF m 9 #[.val (.ref a1), .unset, .unset, .unset, .unset, .unset, .unset, .unset] [(.int ((Int32.ofNat n) * (8 : Int32))), (.ref sb), (.ref sb)])) _
    refine XT.iconstV X1.here hx rfl (5 : Int32) (hb hby own_d1_9) (by decide) ?_
    show Steps p.tables e below (T1.setTop (mkF m 10 #[.val (.ref a1), .unset, .unset, .unset, .unset, .unset, .unset, .unset] [(.int (5 : Int32)), (.int ((Int32.ofNat n) * (8 : Int32))), (.ref sb), (.ref sb)])) _
    refine XS.iadd X1.here hx rfl (hb hby own_d1_10) rfl ?_
    show Steps p.tables e below (T1.setTop (mkF m 11 #[.val (.ref a1), .unset, .unset, .unset, .unset, .unset, .unset, .unset] [(.int (((Int32.ofNat n) * (8 : Int32)) + (5 : Int32))), (.ref sb), (.ref sb)])) _
    refine XT.iconstV X1.here hx rfl (1 : Int32) (hb hby own_d1_11) (by decide) ?_
    show Steps p.tables e below (T1.setTop (mkF m 12 #[.val (.ref a1), .unset, .unset, .unset, .unset, .unset, .unset, .unset] [(.int (1 : Int32)), (.int (((Int32.ofNat n) * (8 : Int32)) + (5 : Int32))), (.ref sb), (.ref sb)])) _
    refine XS.isub X1.here hx rfl (hb hby own_d1_12) rfl ?_
    show Steps p.tables e below (T1.setTop (mkF m 13 #[.val (.ref a1), .unset, .unset, .unset, .unset, .unset, .unset, .unset] [(.int ((((Int32.ofNat n) * (8 : Int32)) + (5 : Int32)) - (1 : Int32))), (.ref sb), (.ref sb)])) _
    refine XT.iconstV X1.here hx rfl (5 : Int32) (hb hby own_d1_13) (by decide) ?_
    show Steps p.tables e below (T1.setTop (mkF m 14 #[.val (.ref a1), .unset, .unset, .unset, .unset, .unset, .unset, .unset] [(.int (5 : Int32)), (.int ((((Int32.ofNat n) * (8 : Int32)) + (5 : Int32)) - (1 : Int32))), (.ref sb), (.ref sb)])) _
    refine XS.idiv X1.here hx rfl (hb hby own_d1_14) rfl (by decide) ?_
    exact kk
  have ne_d : a1 ≠ sb := (Exa.neArv A1 V_2 (hw _ (List.mem_of_getElem? (i := 7) rfl))).symm
  obtain ⟨_, _, ⟨T2, L2, k2, n2⟩, -, X2, ⟨Lc2, hQ2, l2, y2, z2⟩, st2⟩ := X1.specialBack hx (y := (⟨"java/lang/StringBuilder", "<init>", "(I)V"⟩ : MethodName)) rfl hown (mvT hZ (hw _ (List.mem_of_getElem? (i := 9) rfl))) (mvT hZ (hw _ (List.mem_of_getElem? (i := 10) rfl))) (mvT hZ (hw _ (List.mem_of_getElem? (i := 11) rfl))) (by decide) (backOf (W := 1) (rm2 l Z a0 hw [] sb (((((Int32.ofNat n) * (8 : Int32)) + (5 : Int32)) - (1 : Int32)) / (5 : Int32)) ((8 * n + 4) / 5) h1 h0.size Z_1 cz hcz O1 OL_3 hnz A1 F_4 F_5 F_6 g_sb hN (own_cap hn)) hZ (hw _ (List.mem_of_getElem? (i := 11) rfl)) (hw _ (List.mem_of_getElem? (i := 8) rfl)) (by decide) (by decide)) (g := (mkF m 15 #[.val (.ref a1), .unset, .unset, .unset, .unset, .unset, .unset, .unset] [(.int (((((Int32.ofNat n) * (8 : Int32)) + (5 : Int32)) - (1 : Int32)) / (5 : Int32))), (.ref sb), (.ref sb)])) rfl (by rw [hml]; rfl) (Steps.refl _) (a := sb) (argsL := [(.int (((((Int32.ofNat n) * (8 : Int32)) + (5 : Int32)) - (1 : Int32)) / (5 : Int32)))]) (rest := [(.ref sb)]) (lenOf own_pd6 rfl) rfl (by show 2 * 0 + _ ≤ _; exact Nat.le_of_eq rfl) (hb hby own_d1_15) (fun _ _ => ⟨rfl, e1, (by decide : 1 + 1 ≤ _), (by decide : 4 + 16 ≤ _)⟩)
  dsimp only [Pt.U, Pt.locs, Pt.cells, Pt.slots] at X2 l2 y2 z2 st2 hQ2
  subst l2 y2 z2
  obtain ⟨rfl, N2q, KK, t, kb, BD, s_t⟩ := hQ2
  have Z_8 : h0.size ≤ T2.heap.size := Nat.le_trans Z_1 KK.1
  have E_9 := Exa.keep A1 KK
  have V_10 := Arv.keep V_2 KK (own_nin1 ne_d)
  have OL_11 := Old.keep OL_3 KK (by intro x hx_; simp only [List.mem_cons, List.not_mem_nil, or_false] at hx_; subst hx_; first | exact Nat.le_trans hnz g_sb)
  have N2 := Fr.app N9 N2q
  have s_t' : h0.size ≤ t := Nat.le_trans Z_1 s_t
  have ne_dt : a1 ≠ t := Nat.ne_of_lt (Nat.lt_of_lt_of_le V_2.lt s_t)
  obtain ⟨cl_c12, Ar_c12, q_c12, S_c12, N_c12, H_c12, G_c12⟩ := id V_10
  obtain ⟨v1, hv1⟩ : ∃ z_ : Int32, z_ = (Int32.ofNat n) := ⟨_, rfl⟩
  have sg3 : ∀ tgt, Steps p.tables e below (T2.setTop (mkF m 34 #[.val (.ref a1), .val (.ref sb), .val (.int (0 : Int32)), .val (.int (0 : Int32)), .val (.ref a1), .val (.int v1), .val (.int (0 : Int32)), .unset] [])) tgt → Steps p.tables e below (T2.setTop (mkF m 18 #[.val (.ref a1), .unset, .unset, .unset, .unset, .unset, .unset, .unset] [(.ref sb)])) tgt := by
    intro tgt kk
    show Steps p.tables e below (T2.setTop (mkF m 18 #[.val (.ref a1), .unset, .unset, .unset, .unset, .unset, .unset, .unset] [(.ref sb)])) _
    refine XS.astoreN X2.here hx rfl (hb hby own_d1_18) rfl rfl (l' := #[.val (.ref a1), .val (.ref sb), .unset, .unset, .unset, .unset, .unset, .unset]) rfl ?_
    show Steps p.tables e below (T2.setTop (mkF m 19 #[.val (.ref a1), .val (.ref sb), .unset, .unset, .unset, .unset, .unset, .unset] [])) _
    refine XT.iconstV X2.here hx rfl (0 : Int32) (hb hby own_d1_19) (by decide) ?_
    show Steps p.tables e below (T2.setTop (mkF m 20 #[.val (.ref a1), .val (.ref sb), .unset, .unset, .unset, .unset, .unset, .unset] [(.int (0 : Int32))])) _
    refine XS.istoreN X2.here hx rfl (hb hby own_d1_20) rfl (l' := #[.val (.ref a1), .val (.ref sb), .val (.int (0 : Int32)), .unset, .unset, .unset, .unset, .unset]) rfl ?_
    show Steps p.tables e below (T2.setTop (mkF m 21 #[.val (.ref a1), .val (.ref sb), .val (.int (0 : Int32)), .unset, .unset, .unset, .unset, .unset] [])) _
    refine XT.iconstV X2.here hx rfl (0 : Int32) (hb hby own_d1_21) (by decide) ?_
    show Steps p.tables e below (T2.setTop (mkF m 22 #[.val (.ref a1), .val (.ref sb), .val (.int (0 : Int32)), .unset, .unset, .unset, .unset, .unset] [(.int (0 : Int32))])) _
    refine XS.istoreN X2.here hx rfl (hb hby own_d1_22) rfl (l' := #[.val (.ref a1), .val (.ref sb), .val (.int (0 : Int32)), .val (.int (0 : Int32)), .unset, .unset, .unset, .unset]) rfl ?_
    show Steps p.tables e below (T2.setTop (mkF m 23 #[.val (.ref a1), .val (.ref sb), .val (.int (0 : Int32)), .val (.int (0 : Int32)), .unset, .unset, .unset, .unset] [])) _
    refine XS.aloadN X2.here hx rfl (hb hby own_d1_23) rfl rfl ?_
    show Steps p.tables e below (T2.setTop (mkF m 24 #[.val (.ref a1), .val (.ref sb), .val (.int (0 : Int32)), .val (.int (0 : Int32)), .unset, .unset, .unset, .unset] [(.ref a1)])) _
    refine XS.astore X2.here hx rfl (hb hby own_d1_24) rfl rfl (l' := #[.val (.ref a1), .val (.ref sb), .val (.int (0 : Int32)), .val (.int (0 : Int32)), .val (.ref a1), .unset, .unset, .unset]) rfl ?_
    show Steps p.tables e below (T2.setTop (mkF m 26 #[.val (.ref a1), .val (.ref sb), .val (.int (0 : Int32)), .val (.int (0 : Int32)), .val (.ref a1), .unset, .unset, .unset] [])) _
    refine XS.aload X2.here hx rfl (hb hby own_d1_26) rfl rfl ?_
    show Steps p.tables e below (T2.setTop (mkF m 28 #[.val (.ref a1), .val (.ref sb), .val (.int (0 : Int32)), .val (.int (0 : Int32)), .val (.ref a1), .unset, .unset, .unset] [(.ref a1)])) _
    refine X2.arraylength hx Ar_c12.1 (State.isArrayOf_alike hZ.alike Ar_c12.2.1) (g := (mkF m 28 #[.val (.ref a1), .val (.ref sb), .val (.int (0 : Int32)), .val (.int (0 : Int32)), .val (.ref a1), .unset, .unset, .unset] [(.ref a1)])) rfl rfl (hb hby own_d1_28) _ ?_
    rw [len_of S_c12 N_c12]
    show Steps p.tables e below (T2.setTop (mkF m 29 #[.val (.ref a1), .val (.ref sb), .val (.int (0 : Int32)), .val (.int (0 : Int32)), .val (.ref a1), .unset, .unset, .unset] [(.int (Int32.ofNat n))])) _
    refine XS.istore X2.here hx rfl (hb hby own_d1_29) rfl (l' := #[.val (.ref a1), .val (.ref sb), .val (.int (0 : Int32)), .val (.int (0 : Int32)), .val (.ref a1), .val (.int v1), .unset, .unset]) (by rw [hv1]; rfl) ?_
    show Steps p.tables e below (T2.setTop (mkF m 31 #[.val (.ref a1), .val (.ref sb), .val (.int (0 : Int32)), .val (.int (0 : Int32)), .val (.ref a1), .val (.int v1), .unset, .unset] [])) _
    refine XT.iconstV X2.here hx rfl (0 : Int32) (hb hby own_d1_31) (by decide) ?_
    show Steps p.tables e below (T2.setTop (mkF m 32 #[.val (.ref a1), .val (.ref sb), .val (.int (0 : Int32)), .val (.int (0 : Int32)), .val (.ref a1), .val (.int v1), .unset, .unset] [(.int (0 : Int32))])) _
    refine XS.istore X2.here hx rfl (hb hby own_d1_32) rfl (l' := #[.val (.ref a1), .val (.ref sb), .val (.int (0 : Int32)), .val (.int (0 : Int32)), .val (.ref a1), .val (.int v1), .val (.int (0 : Int32)), .unset]) rfl ?_
    exact kk
  subst hv1
  rcases rs with _ | ⟨r, rest⟩
  · obtain rfl : n = 0 := hrs.symm
    have sg5 : ∀ tgt, Steps p.tables e below (T2.setTop (mkF m 119 #[.val (.ref a1), .val (.ref sb), .val (.int (0 : Int32)), .val (.int (0 : Int32)), .val (.ref a1), .val (.int (Int32.ofNat 0)), .val (.int (0 : Int32)), .unset] [(.ref sb)])) tgt → Steps p.tables e below (T2.setTop (mkF m 118 #[.val (.ref a1), .val (.ref sb), .val (.int (0 : Int32)), .val (.int (0 : Int32)), .val (.ref a1), .val (.int (Int32.ofNat 0)), .val (.int (0 : Int32)), .unset] [])) tgt := by
      intro tgt kk
      show Steps p.tables e below (T2.setTop (mkF m 118 #[.val (.ref a1), .val (.ref sb), .val (.int (0 : Int32)), .val (.int (0 : Int32)), .val (.ref a1), .val (.int (Int32.ofNat 0)), .val (.int (0 : Int32)), .unset] [])) _
      refine XS.aloadN X2.here hx rfl (hb hby own_d1_118) rfl rfl ?_
      exact kk
    obtain ⟨cq3, kq3, qa3, qb3, qc3⟩ := isOf hZ rfl BD.1
    obtain ⟨_, _, ⟨T3, L3, k3, n3⟩, -, X3, ⟨Lc3, hQ3, l3, y3, z3⟩, st3⟩ := X2.virtualBack hx (y := (⟨"java/lang/StringBuilder", "toString", "()Ljava/lang/String;"⟩ : MethodName)) (z := (⟨"java/lang/StringBuilder", "toString", "()Ljava/lang/String;"⟩ : MethodName)) hown (mvT hZ (hw _ (List.mem_of_getElem? (i := 27) rfl))) (mvT hZ (hw _ (List.mem_of_getElem? (i := 28) rfl))) (notFace_of_selects (args := #[]) (mvT hZ (hw _ (List.mem_of_getElem? (i := 30) rfl)))) (mvT hZ (hw _ (List.mem_of_getElem? (i := 30) rfl))) (mvT hZ (hw _ (List.mem_of_getElem? (i := 29) rfl))) (by decide) (backOf (W := 0) (rm5 l Z a0 hw [] sb t kb ((8 * 0 + 4) / 5) [] T2.heap h0.size Z_8 cz hcz O1 OL_11 hnz BD hN rfl) hZ (hw _ (List.mem_of_getElem? (i := 31) rfl)) (hw _ (List.mem_of_getElem? (i := 8) rfl)) (by decide) (by decide)) qa3 qc3 (g := (mkF m 119 #[.val (.ref a1), .val (.ref sb), .val (.int (0 : Int32)), .val (.int (0 : Int32)), .val (.ref a1), .val (.int (Int32.ofNat 0)), .val (.int (0 : Int32)), .unset] [(.ref sb)])) rfl (by rw [hml]; rfl) (Steps.refl _) (argsL := []) (rest := []) (lenOf own_pd17 rfl) rfl (by show 2 * 0 + _ ≤ _; exact Nat.le_of_eq rfl) (hb hby own_d1_119) (fun _ _ => ⟨rfl, rfl, (by decide : 2 + 2 ≤ _), (by decide : 20 + 20 ≤ _)⟩)
    dsimp only [Pt.U, Pt.locs, Pt.cells, Pt.slots] at X3 l3 y3 z3 st3 hQ3
    subst l3 y3 z3
    obtain ⟨rr, u, rfl, N3q, KK2, SD, s_r, s_u⟩ := hQ3
    have Z_13 : h0.size ≤ T3.heap.size := Nat.le_trans Z_8 KK2.1
    have E_14 := Exa.keep BD.1 KK2
    have OL_15 := Old.keep OL_11 KK2 (by intro x hx_; cases hx_)
    have N3 := Fr.app N2 N3q
    obtain ⟨fs, hr, hrun, hended, hE⟩ := Stand.leaveW (s := s) (vm₁ := s.vm) X3 ((State.WarmedH.refl s).since 0) (Nat.zero_le _) (v := some (.ref rr)) (fun h => by rw [Bd.returns] at h; cases h)
    refine ⟨_, _, pre0 _ ?_, hrun, hended, _, _, rfl, ?_, hE.1, hE.2.1, hE.2.2.1, hE.2.2.2.mono (by decide) (by decide)⟩
    · refine st1 _ ?_
      refine sg1 _ ?_
      refine st2.trans ?_
      refine sg3 _ ?_
      refine own_end0 hx hby hZ (n := 0) X2 (0 : Int32) (0 : Int32) (0 : Int32) .unset (by decide) (by decide) _ ?_
      refine sg5 _ ?_
      refine st3.trans ?_
      show Steps p.tables e below (T3.setTop (mkF m 122 #[.val (.ref a1), .val (.ref sb), .val (.int (0 : Int32)), .val (.int (0 : Int32)), .val (.ref a1), .val (.int (Int32.ofNat 0)), .val (.int (0 : Int32)), .unset] [(.ref rr)])) _
      show Steps p.tables e below (T3.setTop (mkF m 122 #[.val (.ref a1), .val (.ref sb), .val (.int (0 : Int32)), .val (.int (0 : Int32)), .val (.ref a1), .val (.int (Int32.ofNat 0)), .val (.int (0 : Int32)), .unset] [(.ref rr)])) _
      jvm_step X3.here [X3.here.top, hx, (hb hby own_d1_122), X3.method', Bd.returns, Value.isRef, FieldType.isReference]
      first | (intro acts; rw [hr _ acts rfl rfl rfl]) | rw [hr _ _ rfl rfl rfl]
      exact Steps.refl _
    · exact ⟨rr, u, kb, rfl, fun y hy => Nat.le_trans Z0 (N3 y hy), SD, OL_15, Z_13⟩
  · have hn1 : 1 ≤ n := by simp at hrs; omega
    have sg5 : ∀ tgt, Steps p.tables e below (T2.setTop (mkF m 72 #[.val (.ref a1), .val (.ref sb), .val (.int (own_buf (0 : Int32) r)), .val (.int (((0 : Int32) + (8 : Int32)) + (-5 : Int32))), .val (.ref a1), .val (.int (Int32.ofNat n)), .val (.int (0 : Int32)), .val (.int r.toInt8.toInt32)] [(.ref sb)])) tgt → Steps p.tables e below (T2.setTop (mkF m 63 #[.val (.ref a1), .val (.ref sb), .val (.int (own_buf (0 : Int32) r)), .val (.int ((0 : Int32) + (8 : Int32))), .val (.ref a1), .val (.int (Int32.ofNat n)), .val (.int (0 : Int32)), .val (.int r.toInt8.toInt32)] [])) tgt := by
      intro tgt kk
      show Steps p.tables e below (T2.setTop (mkF m 63 #[.val (.ref a1), .val (.ref sb), .val (.int (own_buf (0 : Int32) r)), .val (.int ((0 : Int32) + (8 : Int32))), .val (.ref a1), .val (.int (Int32.ofNat n)), .val (.int (0 : Int32)), .val (.int r.toInt8.toInt32)] [])) _
      refine XS.iloadN X2.here hx rfl (hb hby own_d1_63) rfl ?_
      show Steps p.tables e below (T2.setTop (mkF m 64 #[.val (.ref a1), .val (.ref sb), .val (.int (own_buf (0 : Int32) r)), .val (.int ((0 : Int32) + (8 : Int32))), .val (.ref a1), .val (.int (Int32.ofNat n)), .val (.int (0 : Int32)), .val (.int r.toInt8.toInt32)] [(.int ((0 : Int32) + (8 : Int32)))])) _
      refine XT.iconstV X2.here hx rfl (5 : Int32) (hb hby own_d1_64) (by decide) ?_
      show Steps p.tables e below (T2.setTop (mkF m 65 #[.val (.ref a1), .val (.ref sb), .val (.int (own_buf (0 : Int32) r)), .val (.int ((0 : Int32) + (8 : Int32))), .val (.ref a1), .val (.int (Int32.ofNat n)), .val (.int (0 : Int32)), .val (.int r.toInt8.toInt32)] [(.int (5 : Int32)), (.int ((0 : Int32) + (8 : Int32)))])) _
      refine XS.icmpNo X2.here hx rfl (hb hby own_d1_65) rfl (XT.ii_lt_f (by decide)) ?_
      show Steps p.tables e below (T2.setTop (mkF m 68 #[.val (.ref a1), .val (.ref sb), .val (.int (own_buf (0 : Int32) r)), .val (.int ((0 : Int32) + (8 : Int32))), .val (.ref a1), .val (.int (Int32.ofNat n)), .val (.int (0 : Int32)), .val (.int r.toInt8.toInt32)] [])) _
      refine XT.iincV X2.here hx rfl (-5 : Int32) (hb hby own_d1_68) (by decide) rfl (l' := #[.val (.ref a1), .val (.ref sb), .val (.int (own_buf (0 : Int32) r)), .val (.int (((0 : Int32) + (8 : Int32)) + (-5 : Int32))), .val (.ref a1), .val (.int (Int32.ofNat n)), .val (.int (0 : Int32)), .val (.int r.toInt8.toInt32)]) rfl ?_
      show Steps p.tables e below (T2.setTop (mkF m 71 #[.val (.ref a1), .val (.ref sb), .val (.int (own_buf (0 : Int32) r)), .val (.int (((0 : Int32) + (8 : Int32)) + (-5 : Int32))), .val (.ref a1), .val (.int (Int32.ofNat n)), .val (.int (0 : Int32)), .val (.int r.toInt8.toInt32)] [])) _
      refine XS.aloadN X2.here hx rfl (hb hby own_d1_71) rfl rfl ?_
      exact kk
    obtain ⟨la, T9, h9, k9, lb, kl, X9, e9, E9, S9, hk9, hZ9, hown9, E_la, Fc, Fv, V_lb, -, -, -, LT, hloc, st9⟩ := ldcSVd (s := s) (vm0 := s.vm) (z := Int32.ofNat 32) X2 hx hZ hown (hw _ (List.mem_of_getElem? (i := 105) rfl)) (own_strW hw) rfl ((State.WarmedH.refl s).since 0) (Nat.zero_le _) (by rw [hh]; exact N2) (fun b_ cl q => by rw [hh]; exact OL.2.2 b_ cl q) (Ts := []) ⟨#[], by rw [hint]; simp, fun q hq => by simp at hq⟩ (by simp) CH hcw own_litT (by decide) (by decide) (g := (mkF m 72 #[.val (.ref a1), .val (.ref sb), .val (.int (own_buf (0 : Int32) r)), .val (.int (((0 : Int32) + (8 : Int32)) + (-5 : Int32))), .val (.ref a1), .val (.int (Int32.ofNat n)), .val (.int (0 : Int32)), .val (.int r.toInt8.toInt32)] [(.ref sb)])) rfl (hb hby own_d1_72) (n := 128) (by decide) (by decide) (by decide) (by decide)
    subst e9
    have ne_lt : lb ≠ t := by
      rcases hloc with ⟨-, q⟩ | ⟨-, q⟩
      · rw [hh] at q; exact Nat.ne_of_lt (Nat.lt_of_lt_of_le q s_t')
      · exact Nat.ne_of_gt (Nat.lt_of_lt_of_le BD.2.2.2.2.1.lt q)
    have CT : own_ctx Z h0.size T9.heap.size sb t a1 lb := ⟨hnz, g_sb, s_t', ne_dt, ne_lt, Nat.le_trans Z_8 E9.1⟩
    have A9 : own_at p l e (s.setVm T9.vm) m #[(.ref a1)] below meth c Z h0.size T9.heap.size sb t kb ((8 * n + 4) / 5) a1 kd n ((r :: rest).map fun r => Value.int r.toInt8.toInt32) la lb kl T9 _ [] := ⟨X9, N2, OL_11.ext E9, Nat.le_refl _, own_bld_ext BD E9, V_10.ext E9, ⟨E_la, Fc, Fv, V_lb⟩⟩
    have hl1 : (own_enc (own_buf (0 : Int32) r) 3 rest).length + 1 = ((8 * n + 4) / 5) := hlen
    obtain ⟨T10, l10, A10, st10⟩ := own_emit hw hN hcz O1 hfm O2 CT hx hby hml hZ9 hown9 LT A9 (own_buf (0 : Int32) r) (((0 : Int32) + (8 : Int32)) + (-5 : Int32)) (0 : Int32) (.val (.int r.toInt8.toInt32)) (by show 0 < ((8 * n + 4) / 5); omega)
    rw [show ((0 : Int32) + (8 : Int32)) + (-5 : Int32) = Int32.ofNat 3 from by decide] at A10 st10
    obtain ⟨T11, l11, A11, st11⟩ := own_inner hw hN hcz O1 hfm O2 CT hx hby hml hZ9 hown9 LT A10 (own_buf (0 : Int32) r) (0 : Int32) (.val (.int r.toInt8.toInt32)) 3 (by decide) (by show 1 + 0 ≤ ((8 * n + 4) / 5); omega)
    rw [show (0 : Int32) + (1 : Int32) = Int32.ofNat 1 from by decide] at st11
    obtain ⟨T12, l12, b12, t12, i12, q12, A12, st12⟩ := own_outer hw hN hcz O1 hfm O2 CT hx hby hml hZ9 hown9 LT hn rest 1 T11 l11 _ (own_buf (0 : Int32) r) 3 (.val (.int r.toInt8.toInt32)) A11 (by simp at hrs; omega) (fun q hq => by rw [Nat.add_comm]; simp [List.getD_eq_getElem?_getD, hq]) (by decide) (Or.inr ⟨_, rfl⟩) (by show 1 + _ ≤ ((8 * n + 4) / 5); omega)
    have A13 : own_at p l e (s.setVm T9.vm) m #[(.ref a1)] below meth c Z h0.size T9.heap.size sb t kb ((8 * n + 4) / 5) a1 kd n ((r :: rest).map fun r => Value.int r.toInt8.toInt32) la lb kl T12 l12 (own_out (own_enc 0 0 (r :: rest))) := A12
    obtain ⟨X13, N13, OL13, Z13', BD13, V13, SD13⟩ := A13
    have Z13 : h0.size ≤ T12.heap.size := Nat.le_trans CT.2.2.2.2.2 Z13'
    have sg10 : ∀ tgt, Steps p.tables e below (T12.setTop (mkF m 119 #[.val (.ref a1), .val (.ref sb), .val (.int b12), .val (.int t12), .val (.ref a1), .val (.int (Int32.ofNat n)), .val (.int i12), q12] [(.ref sb)])) tgt → Steps p.tables e below (T12.setTop (mkF m 118 #[.val (.ref a1), .val (.ref sb), .val (.int b12), .val (.int t12), .val (.ref a1), .val (.int (Int32.ofNat n)), .val (.int i12), q12] [])) tgt := by
      intro tgt kk
      show Steps p.tables e below (T12.setTop (mkF m 118 #[.val (.ref a1), .val (.ref sb), .val (.int b12), .val (.int t12), .val (.ref a1), .val (.int (Int32.ofNat n)), .val (.int i12), q12] [])) _
      refine XS.aloadN X13.here hx rfl (hb hby own_d1_118) rfl rfl ?_
      exact kk
    obtain ⟨cq4, kq4, qa4, qb4, qc4⟩ := isOf hZ9 rfl BD13.1
    obtain ⟨_, _, ⟨T4, L4, k4, n4⟩, -, X4, ⟨Lc4, hQ4, l4, y4, z4⟩, st4⟩ := X13.virtualBack hx (y := (⟨"java/lang/StringBuilder", "toString", "()Ljava/lang/String;"⟩ : MethodName)) (z := (⟨"java/lang/StringBuilder", "toString", "()Ljava/lang/String;"⟩ : MethodName)) hown9 (mvT hZ9 (hw _ (List.mem_of_getElem? (i := 27) rfl))) (mvT hZ9 (hw _ (List.mem_of_getElem? (i := 28) rfl))) (notFace_of_selects (args := #[]) (mvT hZ9 (hw _ (List.mem_of_getElem? (i := 30) rfl)))) (mvT hZ9 (hw _ (List.mem_of_getElem? (i := 30) rfl))) (mvT hZ9 (hw _ (List.mem_of_getElem? (i := 29) rfl))) (by decide) (backOf (W := 0) (rm5 l Z a0 hw [] sb t kb ((8 * n + 4) / 5) (own_out (own_enc 0 0 (r :: rest))) T12.heap h0.size Z13 cz hcz O1 OL13 hnz BD13 hN (by rw [own_out_len]; exact hlen)) hZ9 (hw _ (List.mem_of_getElem? (i := 31) rfl)) (hw _ (List.mem_of_getElem? (i := 8) rfl)) (by decide) (by decide)) qa4 qc4 (g := (mkF m 119 #[.val (.ref a1), .val (.ref sb), .val (.int b12), .val (.int t12), .val (.ref a1), .val (.int (Int32.ofNat n)), .val (.int i12), q12] [(.ref sb)])) rfl (by rw [hml]; rfl) (Steps.refl _) (argsL := []) (rest := []) (lenOf own_pd17 rfl) rfl (by show 2 * 0 + _ ≤ _; exact Nat.le_of_eq rfl) (hb hby own_d1_119) (fun _ _ => ⟨rfl, rfl, (by decide : 4 + 2 ≤ _), (by decide : 152 + 20 ≤ _)⟩)
    dsimp only [Pt.U, Pt.locs, Pt.cells, Pt.slots] at X4 l4 y4 z4 st4 hQ4
    subst l4 y4 z4
    obtain ⟨rr, u, rfl, N4q, KK2, SD, s_r, s_u⟩ := hQ4
    have Z_16 : h0.size ≤ T4.heap.size := Nat.le_trans Z13 KK2.1
    have E_17 := Exa.keep BD13.1 KK2
    have OL_18 := Old.keep OL13 KK2 (by intro x hx_; cases hx_)
    have N4 := Fr.app N13 N4q
    obtain ⟨fs, hr, hrun, hended, hE⟩ := Stand.leaveW (s := s) (vm₁ := T9.vm) X4 S9 (Nat.le_trans hk9 (Nat.le_trans Z13' KK2.1)) (v := some (.ref rr)) (fun h => by rw [Bd.returns] at h; cases h)
    refine ⟨_, _, pre0 _ ?_, hrun, hended, _, _, rfl, ?_, hE.1, hE.2.1, hE.2.2.1, hE.2.2.2.mono (by decide) (by decide)⟩
    · refine st1 _ ?_
      refine sg1 _ ?_
      refine st2.trans ?_
      refine sg3 _ ?_
      refine own_byteU hx hby hZ (sb := sb) X2 (0 : Int32) (0 : Int32) (0 : Int32) (r.toInt8.toInt32) V_10 (by decide) (show (0 : Int32) < Int32.ofNat n from own_ltN (k := 0) (by omega) (by omega)) (by rw [show (0 : Int32).toNatClampNeg = 0 from by decide]; rfl) _ ?_
      refine sg5 _ ?_
      refine st9 _ ?_
      refine st10 _ ?_
      refine st11 _ ?_
      refine st12 _ ?_
      refine sg10 _ ?_
      refine st4.trans ?_
      show Steps p.tables e below (T4.setTop (mkF m 122 #[.val (.ref a1), .val (.ref sb), .val (.int b12), .val (.int t12), .val (.ref a1), .val (.int (Int32.ofNat n)), .val (.int i12), q12] [(.ref rr)])) _
      show Steps p.tables e below (T4.setTop (mkF m 122 #[.val (.ref a1), .val (.ref sb), .val (.int b12), .val (.int t12), .val (.ref a1), .val (.int (Int32.ofNat n)), .val (.int i12), q12] [(.ref rr)])) _
      jvm_step X4.here [X4.here.top, hx, (hb hby own_d1_122), X4.method', Bd.returns, Value.isRef, FieldType.isReference]
      first | (intro acts; rw [hr _ acts rfl rfl rfl]) | rw [hr _ _ rfl rfl rfl]
      exact Steps.refl _
    · exact ⟨rr, u, kb, rfl, fun y hy => Nat.le_trans Z0 (N4 y hy), SD, OL_18, Z_16⟩
set_option maxRecDepth 65536 in
set_option maxHeartbeats 40000000 in
theorem own_blkY0 {p : Program} {l : Launch} {e : Env} {s : State} {m : MethodId} {args : Array Value} {below : List Frame} {meth : Method} {c : Code} {Z : State} {a0 : Array Value} (hw : ∀ d ∈ tables_1, d.before a0 Z = true) {n0 : Nat} {dd : Addr} {kd : ClassId} {n : Nat} (hn : n ≤ 10) (hnz : Z.heap.size ≤ n0) (g_dd : n0 ≤ dd) (hx : p.tables.exec = Jvm.exec) (hby : c.code = code) (hml : c.maxLocals = 13) (hZ : Z.Warmed39 s.vm) (hown : s.vm.findClass "com/example/mavs/mavs/activation/Base32EncodePinLaw" = some m.cls) (p1 : Int32) (q2 q3 : Int64) {T : State} {locs : List Loc} (hk : 0 < n) (A : own_lat p l e s m args below meth c Z n0 dd kd n T locs (own_by q2 q3 0)) :
    ∃ (T' : State) (locs' : List Loc), own_lat p l e s m args below meth c Z n0 dd kd n T' locs' (own_by q2 q3 (0 + 1)) ∧ ∀ tgt, Steps p.tables e below (T'.setTop (mkF m 31 #[.val (.int p1), .val (.long q2), .second, .val (.long q3), .second, .val (.int (Int32.ofNat n)), .val (.ref dd), .unset, .unset, .unset, .unset, .unset, .unset] [])) tgt → Steps p.tables e below (T.setTop (mkF m 15 #[.val (.int p1), .val (.long q2), .second, .val (.long q3), .second, .val (.int (Int32.ofNat n)), .val (.ref dd), .unset, .unset, .unset, .unset, .unset, .unset] [])) tgt := by
  obtain ⟨X, N0, OL, Z0, E_d, V_d⟩ := A
  have sg0 : ∀ tgt, Steps p.tables e below (T.setTop (mkF m 26 #[.val (.int p1), .val (.long q2), .second, .val (.long q3), .second, .val (.int (Int32.ofNat n)), .val (.ref dd), .unset, .unset, .unset, .unset, .unset, .unset] [(.int (0 : Int32)), (.long q3), (.long q2), (.int (0 : Int32)), (.ref dd)])) tgt → Steps p.tables e below (T.setTop (mkF m 15 #[.val (.int p1), .val (.long q2), .second, .val (.long q3), .second, .val (.int (Int32.ofNat n)), .val (.ref dd), .unset, .unset, .unset, .unset, .unset, .unset] [])) tgt := by
    intro tgt kk
    show Steps p.tables e below (T.setTop (mkF m 15 #[.val (.int p1), .val (.long q2), .second, .val (.long q3), .second, .val (.int (Int32.ofNat n)), .val (.ref dd), .unset, .unset, .unset, .unset, .unset, .unset] [])) _
    refine XS.iload X.here hx rfl (hb hby at_15) rfl ?_
    show Steps p.tables e below (T.setTop (mkF m 17 #[.val (.int p1), .val (.long q2), .second, .val (.long q3), .second, .val (.int (Int32.ofNat n)), .val (.ref dd), .unset, .unset, .unset, .unset, .unset, .unset] [(.int (Int32.ofNat n))])) _
    refine XS.ifNo X.here hx rfl (hb hby at_17) rfl (XT.i0_le_f (show (0 : Int32) < Int32.ofNat n from own_ltN (k := 0) hk (by omega))) ?_
    show Steps p.tables e below (T.setTop (mkF m 20 #[.val (.int p1), .val (.long q2), .second, .val (.long q3), .second, .val (.int (Int32.ofNat n)), .val (.ref dd), .unset, .unset, .unset, .unset, .unset, .unset] [])) _
    refine XS.aload X.here hx rfl (hb hby at_20) rfl rfl ?_
    show Steps p.tables e below (T.setTop (mkF m 22 #[.val (.int p1), .val (.long q2), .second, .val (.long q3), .second, .val (.int (Int32.ofNat n)), .val (.ref dd), .unset, .unset, .unset, .unset, .unset, .unset] [(.ref dd)])) _
    refine XT.iconstV X.here hx rfl (0 : Int32) (hb hby at_22) (by decide) ?_
    show Steps p.tables e below (T.setTop (mkF m 23 #[.val (.int p1), .val (.long q2), .second, .val (.long q3), .second, .val (.int (Int32.ofNat n)), .val (.ref dd), .unset, .unset, .unset, .unset, .unset, .unset] [(.int (0 : Int32)), (.ref dd)])) _
    refine XT.lloadN X.here hx rfl (hb hby at_23) rfl ?_
    show Steps p.tables e below (T.setTop (mkF m 24 #[.val (.int p1), .val (.long q2), .second, .val (.long q3), .second, .val (.int (Int32.ofNat n)), .val (.ref dd), .unset, .unset, .unset, .unset, .unset, .unset] [(.long q2), (.int (0 : Int32)), (.ref dd)])) _
    refine XT.lloadN X.here hx rfl (hb hby at_24) rfl ?_
    show Steps p.tables e below (T.setTop (mkF m 25 #[.val (.int p1), .val (.long q2), .second, .val (.long q3), .second, .val (.int (Int32.ofNat n)), .val (.ref dd), .unset, .unset, .unset, .unset, .unset, .unset] [(.long q3), (.long q2), (.int (0 : Int32)), (.ref dd)])) _
    refine XT.iconstV X.here hx rfl (0 : Int32) (hb hby at_25) (by decide) ?_
    exact kk
  -- pc 26: com/example/mavs/mavs/activation/Base32EncodePinLaw.rawByte
  obtain ⟨_, _, ⟨T1, L1, k1, n1⟩, -, X1, ⟨Lc1, hQ1, l1, y1, z1⟩, st1⟩ := Jvm.LawKit.callS X hx (y := (⟨"com/example/mavs/mavs/activation/Base32EncodePinLaw", "rawByte", "(JJI)I"⟩ : MethodName)) hown (mvT hZ (hw _ (List.mem_of_getElem? (i := 101) rfl))) (mvT hZ (hw _ (List.mem_of_getElem? (i := 102) rfl))) (mvT hZ (hw _ (List.mem_of_getElem? (i := 82) rfl))) (mvT hZ (hw _ (List.mem_of_getElem? (i := 103) rfl))) (by decide) (backOf (W := 2) (rm18 l Z a0 hw [] q2 q3 (0 : Int32)  T.heap n0 Z0 ) hZ (hw _ (List.mem_of_getElem? (i := 103) rfl)) (hw _ (List.mem_of_getElem? (i := 82) rfl)) (by decide) (by decide)) (g := (mkF m 26 #[.val (.int p1), .val (.long q2), .second, .val (.long q3), .second, .val (.int (Int32.ofNat n)), .val (.ref dd), .unset, .unset, .unset, .unset, .unset, .unset] [(.int (0 : Int32)), (.long q3), (.long q2), (.int (0 : Int32)), (.ref dd)])) rfl (by rw [hml]; rfl) (argsL := [(.long q2), (.long q3), (.int (0 : Int32))]) (rest := [(.int (0 : Int32)), (.ref dd)]) (lenOf own_pd13 rfl) rfl (by show 2 * 0 + _ ≤ _; exact Nat.le_of_eq rfl) (hb hby at_26) (fun _ _ => ⟨rfl, rfl, (by decide : 1 + 0 ≤ _), (by decide : 10 + 0 ≤ _)⟩)
  dsimp only [Pt.U, Pt.locs, Pt.cells, Pt.slots] at X1 l1 y1 z1 st1 hQ1
  subst l1 y1 z1
  obtain ⟨rfl, N1q, e1⟩ := hQ1
  have N1 := Fr.app N0 N1q
  have sg2 : ∀ tgt, Steps p.tables e below (T1.setTop (mkF m 30 #[.val (.int p1), .val (.long q2), .second, .val (.long q3), .second, .val (.int (Int32.ofNat n)), .val (.ref dd), .unset, .unset, .unset, .unset, .unset, .unset] [(.int ((own_raw q2 q3 (0 : Int32)).toInt8.toInt32)), (.int (0 : Int32)), (.ref dd)])) tgt → Steps p.tables e below (T1.setTop (mkF m 29 #[.val (.int p1), .val (.long q2), .second, .val (.long q3), .second, .val (.int (Int32.ofNat n)), .val (.ref dd), .unset, .unset, .unset, .unset, .unset, .unset] [(.int (own_raw q2 q3 (0 : Int32))), (.int (0 : Int32)), (.ref dd)])) tgt := by
    intro tgt kk
    show Steps p.tables e below (T1.setTop (mkF m 29 #[.val (.int p1), .val (.long q2), .second, .val (.long q3), .second, .val (.int (Int32.ofNat n)), .val (.ref dd), .unset, .unset, .unset, .unset, .unset, .unset] [(.int (own_raw q2 q3 (0 : Int32))), (.int (0 : Int32)), (.ref dd)])) _
    refine XT.i2b X1.here hx rfl (hb hby at_29) rfl ?_
    exact kk
  obtain ⟨cl_c1, Ar_c1, q_c1, S_c1, N_c1, H_c1, G_c1⟩ := id V_d
  have hin2_ : ¬ ((0 : Int32) < 0 ∨ cl_c1.slots.size ≤ ((0 : Int32)).toNatClampNeg) := inb_of S_c1 ⟨by decide, (show (0 : Int32) < Int32.ofNat n from own_ltN (k := 0) hk (by omega))⟩
  obtain ⟨T2, h2, X2, e2, W2, st2⟩ := stB X1 hx hZ e1 Ar_c1 (j := (0 : Int32)) hin2_ (g := (mkF m 30 #[.val (.int p1), .val (.long q2), .second, .val (.long q3), .second, .val (.int (Int32.ofNat n)), .val (.ref dd), .unset, .unset, .unset, .unset, .unset, .unset] [(.int ((own_raw q2 q3 (0 : Int32)).toInt8.toInt32)), (.int (0 : Int32)), (.ref dd)])) rfl rfl (hb hby at_30)
  have N2 := Fr.snoc X2 N1 g_dd
  have Z_2 : n0 ≤ h2.size := Nat.le_trans Z0 (Keep.of_wr W2).1
  have E_3 := Exa.wr W2 E_d
  have OL_4 := Old.wr OL W2 (Nat.le_trans hnz g_dd)
  have V2_ : Arv Z h2 dd kd .byte (Int32.ofNat n) ((own_by q2 q3 0) ++ [.int ((own_raw q2 q3 (0 : Int32)).toInt8.toInt32)]) (.int (0 : Int32)) := own_app Ar_c1 q_c1 S_c1 N_c1 H_c1 G_c1 W2 (by rw [own_by_len]; decide) (own_narb _)
  subst e2
  have VV : Arv Z T2.heap dd kd .byte (Int32.ofNat n) (own_by q2 q3 (0 + 1)) (.int (0 : Int32)) := by rw [own_by_succ]; exact V2_
  refine ⟨T2, _, ⟨X2, N2, OL_4, Z_2, E_3, VV⟩, fun tgt kk => ?_⟩
  refine sg0 _ ?_
  refine st1 _ ?_
  refine sg2 _ ?_
  refine st2 _ ?_
  exact kk
set_option maxRecDepth 65536 in
set_option maxHeartbeats 40000000 in
theorem own_blkN0 {p : Program} {l : Launch} {e : Env} {s : State} {m : MethodId} {args : Array Value} {below : List Frame} {meth : Method} {c : Code} {Z : State} {a0 : Array Value} (hw : ∀ d ∈ tables_1, d.before a0 Z = true) {n0 : Nat} {dd : Addr} {kd : ClassId} {n : Nat} (hn : n ≤ 10) (hnz : Z.heap.size ≤ n0) (g_dd : n0 ≤ dd) (hx : p.tables.exec = Jvm.exec) (hby : c.code = code) (hml : c.maxLocals = 13) (hZ : Z.Warmed39 s.vm) (hown : s.vm.findClass "com/example/mavs/mavs/activation/Base32EncodePinLaw" = some m.cls) (p1 : Int32) (q2 q3 : Int64) {T : State} {locs : List Loc} (hk : ¬ 0 < n) (X : Stand p l e room_1 s m args below meth c T locs 1 10) (tgt : State) :
    Steps p.tables e below (T.setTop (mkF m 31 #[.val (.int p1), .val (.long q2), .second, .val (.long q3), .second, .val (.int (Int32.ofNat n)), .val (.ref dd), .unset, .unset, .unset, .unset, .unset, .unset] [])) tgt → Steps p.tables e below (T.setTop (mkF m 15 #[.val (.int p1), .val (.long q2), .second, .val (.long q3), .second, .val (.int (Int32.ofNat n)), .val (.ref dd), .unset, .unset, .unset, .unset, .unset, .unset] [])) tgt := by
  have sg0 : ∀ tgt, Steps p.tables e below (T.setTop (mkF m 31 #[.val (.int p1), .val (.long q2), .second, .val (.long q3), .second, .val (.int (Int32.ofNat n)), .val (.ref dd), .unset, .unset, .unset, .unset, .unset, .unset] [])) tgt → Steps p.tables e below (T.setTop (mkF m 15 #[.val (.int p1), .val (.long q2), .second, .val (.long q3), .second, .val (.int (Int32.ofNat n)), .val (.ref dd), .unset, .unset, .unset, .unset, .unset, .unset] [])) tgt := by
    intro tgt kk
    show Steps p.tables e below (T.setTop (mkF m 15 #[.val (.int p1), .val (.long q2), .second, .val (.long q3), .second, .val (.int (Int32.ofNat n)), .val (.ref dd), .unset, .unset, .unset, .unset, .unset, .unset] [])) _
    refine XS.iload X.here hx rfl (hb hby at_15) rfl ?_
    show Steps p.tables e below (T.setTop (mkF m 17 #[.val (.int p1), .val (.long q2), .second, .val (.long q3), .second, .val (.int (Int32.ofNat n)), .val (.ref dd), .unset, .unset, .unset, .unset, .unset, .unset] [(.int (Int32.ofNat n))])) _
    refine XS.ifYes X.here hx rfl (pc0 := 17) (pc' := 31) rfl (hb hby at_17) rfl (XT.i0_le_t (show ¬ (0 : Int32) < Int32.ofNat n from own_nltN (k := 0) hk (by omega) (by omega))) (by decide) (by decide) ?_
    exact kk
  refine fun kk => ?_
  refine sg0 _ ?_
  exact kk
theorem own_blk0 {p : Program} {l : Launch} {e : Env} {s : State} {m : MethodId} {args : Array Value} {below : List Frame} {meth : Method} {c : Code} {Z : State} {a0 : Array Value} (hw : ∀ d ∈ tables_1, d.before a0 Z = true) {n0 : Nat} {dd : Addr} {kd : ClassId} {n : Nat} (hn : n ≤ 10) (hnz : Z.heap.size ≤ n0) (g_dd : n0 ≤ dd) (hx : p.tables.exec = Jvm.exec) (hby : c.code = code) (hml : c.maxLocals = 13) (hZ : Z.Warmed39 s.vm) (hown : s.vm.findClass "com/example/mavs/mavs/activation/Base32EncodePinLaw" = some m.cls) (p1 : Int32) (q2 q3 : Int64) {T : State} {locs : List Loc} (A : own_lat p l e s m args below meth c Z n0 dd kd n T locs (own_by q2 q3 (min 0 n))) :
    ∃ (T' : State) (locs' : List Loc), own_lat p l e s m args below meth c Z n0 dd kd n T' locs' (own_by q2 q3 (min (0 + 1) n)) ∧ ∀ tgt, Steps p.tables e below (T'.setTop (mkF m 31 #[.val (.int p1), .val (.long q2), .second, .val (.long q3), .second, .val (.int (Int32.ofNat n)), .val (.ref dd), .unset, .unset, .unset, .unset, .unset, .unset] [])) tgt → Steps p.tables e below (T.setTop (mkF m 15 #[.val (.int p1), .val (.long q2), .second, .val (.long q3), .second, .val (.int (Int32.ofNat n)), .val (.ref dd), .unset, .unset, .unset, .unset, .unset, .unset] [])) tgt := by
  by_cases hk : 0 < n
  · rw [Nat.min_eq_left (show 0 ≤ n by omega)] at A
    rw [Nat.min_eq_left (show 0 + 1 ≤ n by omega)]
    exact own_blkY0 hw hn hnz g_dd hx hby hml hZ hown p1 q2 q3 hk A
  · rw [Nat.min_eq_right (show n ≤ 0 by omega)] at A
    rw [Nat.min_eq_right (show n ≤ 0 + 1 by omega)]
    exact ⟨T, locs, A, fun tgt kk => own_blkN0 (kd := kd) hw hn hnz g_dd hx hby hml hZ hown p1 q2 q3 hk A.1 tgt kk⟩
set_option maxRecDepth 65536 in
set_option maxHeartbeats 40000000 in
theorem own_blkY1 {p : Program} {l : Launch} {e : Env} {s : State} {m : MethodId} {args : Array Value} {below : List Frame} {meth : Method} {c : Code} {Z : State} {a0 : Array Value} (hw : ∀ d ∈ tables_1, d.before a0 Z = true) {n0 : Nat} {dd : Addr} {kd : ClassId} {n : Nat} (hn : n ≤ 10) (hnz : Z.heap.size ≤ n0) (g_dd : n0 ≤ dd) (hx : p.tables.exec = Jvm.exec) (hby : c.code = code) (hml : c.maxLocals = 13) (hZ : Z.Warmed39 s.vm) (hown : s.vm.findClass "com/example/mavs/mavs/activation/Base32EncodePinLaw" = some m.cls) (p1 : Int32) (q2 q3 : Int64) {T : State} {locs : List Loc} (hk : 1 < n) (A : own_lat p l e s m args below meth c Z n0 dd kd n T locs (own_by q2 q3 1)) :
    ∃ (T' : State) (locs' : List Loc), own_lat p l e s m args below meth c Z n0 dd kd n T' locs' (own_by q2 q3 (1 + 1)) ∧ ∀ tgt, Steps p.tables e below (T'.setTop (mkF m 48 #[.val (.int p1), .val (.long q2), .second, .val (.long q3), .second, .val (.int (Int32.ofNat n)), .val (.ref dd), .unset, .unset, .unset, .unset, .unset, .unset] [])) tgt → Steps p.tables e below (T.setTop (mkF m 31 #[.val (.int p1), .val (.long q2), .second, .val (.long q3), .second, .val (.int (Int32.ofNat n)), .val (.ref dd), .unset, .unset, .unset, .unset, .unset, .unset] [])) tgt := by
  obtain ⟨X, N0, OL, Z0, E_d, V_d⟩ := A
  have sg0 : ∀ tgt, Steps p.tables e below (T.setTop (mkF m 43 #[.val (.int p1), .val (.long q2), .second, .val (.long q3), .second, .val (.int (Int32.ofNat n)), .val (.ref dd), .unset, .unset, .unset, .unset, .unset, .unset] [(.int (1 : Int32)), (.long q3), (.long q2), (.int (1 : Int32)), (.ref dd)])) tgt → Steps p.tables e below (T.setTop (mkF m 31 #[.val (.int p1), .val (.long q2), .second, .val (.long q3), .second, .val (.int (Int32.ofNat n)), .val (.ref dd), .unset, .unset, .unset, .unset, .unset, .unset] [])) tgt := by
    intro tgt kk
    show Steps p.tables e below (T.setTop (mkF m 31 #[.val (.int p1), .val (.long q2), .second, .val (.long q3), .second, .val (.int (Int32.ofNat n)), .val (.ref dd), .unset, .unset, .unset, .unset, .unset, .unset] [])) _
    refine XS.iload X.here hx rfl (hb hby at_31) rfl ?_
    show Steps p.tables e below (T.setTop (mkF m 33 #[.val (.int p1), .val (.long q2), .second, .val (.long q3), .second, .val (.int (Int32.ofNat n)), .val (.ref dd), .unset, .unset, .unset, .unset, .unset, .unset] [(.int (Int32.ofNat n))])) _
    refine XT.iconstV X.here hx rfl (1 : Int32) (hb hby at_33) (by decide) ?_
    show Steps p.tables e below (T.setTop (mkF m 34 #[.val (.int p1), .val (.long q2), .second, .val (.long q3), .second, .val (.int (Int32.ofNat n)), .val (.ref dd), .unset, .unset, .unset, .unset, .unset, .unset] [(.int (1 : Int32)), (.int (Int32.ofNat n))])) _
    refine XS.icmpNo X.here hx rfl (hb hby at_34) rfl (XT.ii_le_f (show (1 : Int32) < Int32.ofNat n from own_ltN (k := 1) hk (by omega))) ?_
    show Steps p.tables e below (T.setTop (mkF m 37 #[.val (.int p1), .val (.long q2), .second, .val (.long q3), .second, .val (.int (Int32.ofNat n)), .val (.ref dd), .unset, .unset, .unset, .unset, .unset, .unset] [])) _
    refine XS.aload X.here hx rfl (hb hby at_37) rfl rfl ?_
    show Steps p.tables e below (T.setTop (mkF m 39 #[.val (.int p1), .val (.long q2), .second, .val (.long q3), .second, .val (.int (Int32.ofNat n)), .val (.ref dd), .unset, .unset, .unset, .unset, .unset, .unset] [(.ref dd)])) _
    refine XT.iconstV X.here hx rfl (1 : Int32) (hb hby at_39) (by decide) ?_
    show Steps p.tables e below (T.setTop (mkF m 40 #[.val (.int p1), .val (.long q2), .second, .val (.long q3), .second, .val (.int (Int32.ofNat n)), .val (.ref dd), .unset, .unset, .unset, .unset, .unset, .unset] [(.int (1 : Int32)), (.ref dd)])) _
    refine XT.lloadN X.here hx rfl (hb hby at_40) rfl ?_
    show Steps p.tables e below (T.setTop (mkF m 41 #[.val (.int p1), .val (.long q2), .second, .val (.long q3), .second, .val (.int (Int32.ofNat n)), .val (.ref dd), .unset, .unset, .unset, .unset, .unset, .unset] [(.long q2), (.int (1 : Int32)), (.ref dd)])) _
    refine XT.lloadN X.here hx rfl (hb hby at_41) rfl ?_
    show Steps p.tables e below (T.setTop (mkF m 42 #[.val (.int p1), .val (.long q2), .second, .val (.long q3), .second, .val (.int (Int32.ofNat n)), .val (.ref dd), .unset, .unset, .unset, .unset, .unset, .unset] [(.long q3), (.long q2), (.int (1 : Int32)), (.ref dd)])) _
    refine XT.iconstV X.here hx rfl (1 : Int32) (hb hby at_42) (by decide) ?_
    exact kk
  -- pc 43: com/example/mavs/mavs/activation/Base32EncodePinLaw.rawByte
  obtain ⟨_, _, ⟨T1, L1, k1, n1⟩, -, X1, ⟨Lc1, hQ1, l1, y1, z1⟩, st1⟩ := Jvm.LawKit.callS X hx (y := (⟨"com/example/mavs/mavs/activation/Base32EncodePinLaw", "rawByte", "(JJI)I"⟩ : MethodName)) hown (mvT hZ (hw _ (List.mem_of_getElem? (i := 101) rfl))) (mvT hZ (hw _ (List.mem_of_getElem? (i := 102) rfl))) (mvT hZ (hw _ (List.mem_of_getElem? (i := 82) rfl))) (mvT hZ (hw _ (List.mem_of_getElem? (i := 103) rfl))) (by decide) (backOf (W := 2) (rm18 l Z a0 hw [] q2 q3 (1 : Int32)  T.heap n0 Z0 ) hZ (hw _ (List.mem_of_getElem? (i := 103) rfl)) (hw _ (List.mem_of_getElem? (i := 82) rfl)) (by decide) (by decide)) (g := (mkF m 43 #[.val (.int p1), .val (.long q2), .second, .val (.long q3), .second, .val (.int (Int32.ofNat n)), .val (.ref dd), .unset, .unset, .unset, .unset, .unset, .unset] [(.int (1 : Int32)), (.long q3), (.long q2), (.int (1 : Int32)), (.ref dd)])) rfl (by rw [hml]; rfl) (argsL := [(.long q2), (.long q3), (.int (1 : Int32))]) (rest := [(.int (1 : Int32)), (.ref dd)]) (lenOf own_pd13 rfl) rfl (by show 2 * 0 + _ ≤ _; exact Nat.le_of_eq rfl) (hb hby at_43) (fun _ _ => ⟨rfl, rfl, (by decide : 1 + 0 ≤ _), (by decide : 10 + 0 ≤ _)⟩)
  dsimp only [Pt.U, Pt.locs, Pt.cells, Pt.slots] at X1 l1 y1 z1 st1 hQ1
  subst l1 y1 z1
  obtain ⟨rfl, N1q, e1⟩ := hQ1
  have N1 := Fr.app N0 N1q
  have sg2 : ∀ tgt, Steps p.tables e below (T1.setTop (mkF m 47 #[.val (.int p1), .val (.long q2), .second, .val (.long q3), .second, .val (.int (Int32.ofNat n)), .val (.ref dd), .unset, .unset, .unset, .unset, .unset, .unset] [(.int ((own_raw q2 q3 (1 : Int32)).toInt8.toInt32)), (.int (1 : Int32)), (.ref dd)])) tgt → Steps p.tables e below (T1.setTop (mkF m 46 #[.val (.int p1), .val (.long q2), .second, .val (.long q3), .second, .val (.int (Int32.ofNat n)), .val (.ref dd), .unset, .unset, .unset, .unset, .unset, .unset] [(.int (own_raw q2 q3 (1 : Int32))), (.int (1 : Int32)), (.ref dd)])) tgt := by
    intro tgt kk
    show Steps p.tables e below (T1.setTop (mkF m 46 #[.val (.int p1), .val (.long q2), .second, .val (.long q3), .second, .val (.int (Int32.ofNat n)), .val (.ref dd), .unset, .unset, .unset, .unset, .unset, .unset] [(.int (own_raw q2 q3 (1 : Int32))), (.int (1 : Int32)), (.ref dd)])) _
    refine XT.i2b X1.here hx rfl (hb hby at_46) rfl ?_
    exact kk
  obtain ⟨cl_c1, Ar_c1, q_c1, S_c1, N_c1, H_c1, G_c1⟩ := id V_d
  have hin2_ : ¬ ((1 : Int32) < 0 ∨ cl_c1.slots.size ≤ ((1 : Int32)).toNatClampNeg) := inb_of S_c1 ⟨by decide, (show (1 : Int32) < Int32.ofNat n from own_ltN (k := 1) hk (by omega))⟩
  obtain ⟨T2, h2, X2, e2, W2, st2⟩ := stB X1 hx hZ e1 Ar_c1 (j := (1 : Int32)) hin2_ (g := (mkF m 47 #[.val (.int p1), .val (.long q2), .second, .val (.long q3), .second, .val (.int (Int32.ofNat n)), .val (.ref dd), .unset, .unset, .unset, .unset, .unset, .unset] [(.int ((own_raw q2 q3 (1 : Int32)).toInt8.toInt32)), (.int (1 : Int32)), (.ref dd)])) rfl rfl (hb hby at_47)
  have N2 := Fr.snoc X2 N1 g_dd
  have Z_2 : n0 ≤ h2.size := Nat.le_trans Z0 (Keep.of_wr W2).1
  have E_3 := Exa.wr W2 E_d
  have OL_4 := Old.wr OL W2 (Nat.le_trans hnz g_dd)
  have V2_ : Arv Z h2 dd kd .byte (Int32.ofNat n) ((own_by q2 q3 1) ++ [.int ((own_raw q2 q3 (1 : Int32)).toInt8.toInt32)]) (.int (0 : Int32)) := own_app Ar_c1 q_c1 S_c1 N_c1 H_c1 G_c1 W2 (by rw [own_by_len]; decide) (own_narb _)
  subst e2
  have VV : Arv Z T2.heap dd kd .byte (Int32.ofNat n) (own_by q2 q3 (1 + 1)) (.int (0 : Int32)) := by rw [own_by_succ]; exact V2_
  refine ⟨T2, _, ⟨X2, N2, OL_4, Z_2, E_3, VV⟩, fun tgt kk => ?_⟩
  refine sg0 _ ?_
  refine st1 _ ?_
  refine sg2 _ ?_
  refine st2 _ ?_
  exact kk
set_option maxRecDepth 65536 in
set_option maxHeartbeats 40000000 in
theorem own_blkN1 {p : Program} {l : Launch} {e : Env} {s : State} {m : MethodId} {args : Array Value} {below : List Frame} {meth : Method} {c : Code} {Z : State} {a0 : Array Value} (hw : ∀ d ∈ tables_1, d.before a0 Z = true) {n0 : Nat} {dd : Addr} {kd : ClassId} {n : Nat} (hn : n ≤ 10) (hnz : Z.heap.size ≤ n0) (g_dd : n0 ≤ dd) (hx : p.tables.exec = Jvm.exec) (hby : c.code = code) (hml : c.maxLocals = 13) (hZ : Z.Warmed39 s.vm) (hown : s.vm.findClass "com/example/mavs/mavs/activation/Base32EncodePinLaw" = some m.cls) (p1 : Int32) (q2 q3 : Int64) {T : State} {locs : List Loc} (hk : ¬ 1 < n) (X : Stand p l e room_1 s m args below meth c T locs 1 10) (tgt : State) :
    Steps p.tables e below (T.setTop (mkF m 48 #[.val (.int p1), .val (.long q2), .second, .val (.long q3), .second, .val (.int (Int32.ofNat n)), .val (.ref dd), .unset, .unset, .unset, .unset, .unset, .unset] [])) tgt → Steps p.tables e below (T.setTop (mkF m 31 #[.val (.int p1), .val (.long q2), .second, .val (.long q3), .second, .val (.int (Int32.ofNat n)), .val (.ref dd), .unset, .unset, .unset, .unset, .unset, .unset] [])) tgt := by
  have sg0 : ∀ tgt, Steps p.tables e below (T.setTop (mkF m 48 #[.val (.int p1), .val (.long q2), .second, .val (.long q3), .second, .val (.int (Int32.ofNat n)), .val (.ref dd), .unset, .unset, .unset, .unset, .unset, .unset] [])) tgt → Steps p.tables e below (T.setTop (mkF m 31 #[.val (.int p1), .val (.long q2), .second, .val (.long q3), .second, .val (.int (Int32.ofNat n)), .val (.ref dd), .unset, .unset, .unset, .unset, .unset, .unset] [])) tgt := by
    intro tgt kk
    show Steps p.tables e below (T.setTop (mkF m 31 #[.val (.int p1), .val (.long q2), .second, .val (.long q3), .second, .val (.int (Int32.ofNat n)), .val (.ref dd), .unset, .unset, .unset, .unset, .unset, .unset] [])) _
    refine XS.iload X.here hx rfl (hb hby at_31) rfl ?_
    show Steps p.tables e below (T.setTop (mkF m 33 #[.val (.int p1), .val (.long q2), .second, .val (.long q3), .second, .val (.int (Int32.ofNat n)), .val (.ref dd), .unset, .unset, .unset, .unset, .unset, .unset] [(.int (Int32.ofNat n))])) _
    refine XT.iconstV X.here hx rfl (1 : Int32) (hb hby at_33) (by decide) ?_
    show Steps p.tables e below (T.setTop (mkF m 34 #[.val (.int p1), .val (.long q2), .second, .val (.long q3), .second, .val (.int (Int32.ofNat n)), .val (.ref dd), .unset, .unset, .unset, .unset, .unset, .unset] [(.int (1 : Int32)), (.int (Int32.ofNat n))])) _
    refine XS.icmpYes X.here hx rfl (pc0 := 34) (pc' := 48) rfl (hb hby at_34) rfl (XT.ii_le_t (show ¬ (1 : Int32) < Int32.ofNat n from own_nltN (k := 1) hk (by omega) (by omega))) (by decide) (by decide) ?_
    exact kk
  refine fun kk => ?_
  refine sg0 _ ?_
  exact kk
theorem own_blk1 {p : Program} {l : Launch} {e : Env} {s : State} {m : MethodId} {args : Array Value} {below : List Frame} {meth : Method} {c : Code} {Z : State} {a0 : Array Value} (hw : ∀ d ∈ tables_1, d.before a0 Z = true) {n0 : Nat} {dd : Addr} {kd : ClassId} {n : Nat} (hn : n ≤ 10) (hnz : Z.heap.size ≤ n0) (g_dd : n0 ≤ dd) (hx : p.tables.exec = Jvm.exec) (hby : c.code = code) (hml : c.maxLocals = 13) (hZ : Z.Warmed39 s.vm) (hown : s.vm.findClass "com/example/mavs/mavs/activation/Base32EncodePinLaw" = some m.cls) (p1 : Int32) (q2 q3 : Int64) {T : State} {locs : List Loc} (A : own_lat p l e s m args below meth c Z n0 dd kd n T locs (own_by q2 q3 (min 1 n))) :
    ∃ (T' : State) (locs' : List Loc), own_lat p l e s m args below meth c Z n0 dd kd n T' locs' (own_by q2 q3 (min (1 + 1) n)) ∧ ∀ tgt, Steps p.tables e below (T'.setTop (mkF m 48 #[.val (.int p1), .val (.long q2), .second, .val (.long q3), .second, .val (.int (Int32.ofNat n)), .val (.ref dd), .unset, .unset, .unset, .unset, .unset, .unset] [])) tgt → Steps p.tables e below (T.setTop (mkF m 31 #[.val (.int p1), .val (.long q2), .second, .val (.long q3), .second, .val (.int (Int32.ofNat n)), .val (.ref dd), .unset, .unset, .unset, .unset, .unset, .unset] [])) tgt := by
  by_cases hk : 1 < n
  · rw [Nat.min_eq_left (show 1 ≤ n by omega)] at A
    rw [Nat.min_eq_left (show 1 + 1 ≤ n by omega)]
    exact own_blkY1 hw hn hnz g_dd hx hby hml hZ hown p1 q2 q3 hk A
  · rw [Nat.min_eq_right (show n ≤ 1 by omega)] at A
    rw [Nat.min_eq_right (show n ≤ 1 + 1 by omega)]
    exact ⟨T, locs, A, fun tgt kk => own_blkN1 (kd := kd) hw hn hnz g_dd hx hby hml hZ hown p1 q2 q3 hk A.1 tgt kk⟩
set_option maxRecDepth 65536 in
set_option maxHeartbeats 40000000 in
theorem own_blkY2 {p : Program} {l : Launch} {e : Env} {s : State} {m : MethodId} {args : Array Value} {below : List Frame} {meth : Method} {c : Code} {Z : State} {a0 : Array Value} (hw : ∀ d ∈ tables_1, d.before a0 Z = true) {n0 : Nat} {dd : Addr} {kd : ClassId} {n : Nat} (hn : n ≤ 10) (hnz : Z.heap.size ≤ n0) (g_dd : n0 ≤ dd) (hx : p.tables.exec = Jvm.exec) (hby : c.code = code) (hml : c.maxLocals = 13) (hZ : Z.Warmed39 s.vm) (hown : s.vm.findClass "com/example/mavs/mavs/activation/Base32EncodePinLaw" = some m.cls) (p1 : Int32) (q2 q3 : Int64) {T : State} {locs : List Loc} (hk : 2 < n) (A : own_lat p l e s m args below meth c Z n0 dd kd n T locs (own_by q2 q3 2)) :
    ∃ (T' : State) (locs' : List Loc), own_lat p l e s m args below meth c Z n0 dd kd n T' locs' (own_by q2 q3 (2 + 1)) ∧ ∀ tgt, Steps p.tables e below (T'.setTop (mkF m 65 #[.val (.int p1), .val (.long q2), .second, .val (.long q3), .second, .val (.int (Int32.ofNat n)), .val (.ref dd), .unset, .unset, .unset, .unset, .unset, .unset] [])) tgt → Steps p.tables e below (T.setTop (mkF m 48 #[.val (.int p1), .val (.long q2), .second, .val (.long q3), .second, .val (.int (Int32.ofNat n)), .val (.ref dd), .unset, .unset, .unset, .unset, .unset, .unset] [])) tgt := by
  obtain ⟨X, N0, OL, Z0, E_d, V_d⟩ := A
  have sg0 : ∀ tgt, Steps p.tables e below (T.setTop (mkF m 60 #[.val (.int p1), .val (.long q2), .second, .val (.long q3), .second, .val (.int (Int32.ofNat n)), .val (.ref dd), .unset, .unset, .unset, .unset, .unset, .unset] [(.int (2 : Int32)), (.long q3), (.long q2), (.int (2 : Int32)), (.ref dd)])) tgt → Steps p.tables e below (T.setTop (mkF m 48 #[.val (.int p1), .val (.long q2), .second, .val (.long q3), .second, .val (.int (Int32.ofNat n)), .val (.ref dd), .unset, .unset, .unset, .unset, .unset, .unset] [])) tgt := by
    intro tgt kk
    show Steps p.tables e below (T.setTop (mkF m 48 #[.val (.int p1), .val (.long q2), .second, .val (.long q3), .second, .val (.int (Int32.ofNat n)), .val (.ref dd), .unset, .unset, .unset, .unset, .unset, .unset] [])) _
    refine XS.iload X.here hx rfl (hb hby at_48) rfl ?_
    show Steps p.tables e below (T.setTop (mkF m 50 #[.val (.int p1), .val (.long q2), .second, .val (.long q3), .second, .val (.int (Int32.ofNat n)), .val (.ref dd), .unset, .unset, .unset, .unset, .unset, .unset] [(.int (Int32.ofNat n))])) _
    refine XT.iconstV X.here hx rfl (2 : Int32) (hb hby at_50) (by decide) ?_
    show Steps p.tables e below (T.setTop (mkF m 51 #[.val (.int p1), .val (.long q2), .second, .val (.long q3), .second, .val (.int (Int32.ofNat n)), .val (.ref dd), .unset, .unset, .unset, .unset, .unset, .unset] [(.int (2 : Int32)), (.int (Int32.ofNat n))])) _
    refine XS.icmpNo X.here hx rfl (hb hby at_51) rfl (XT.ii_le_f (show (2 : Int32) < Int32.ofNat n from own_ltN (k := 2) hk (by omega))) ?_
    show Steps p.tables e below (T.setTop (mkF m 54 #[.val (.int p1), .val (.long q2), .second, .val (.long q3), .second, .val (.int (Int32.ofNat n)), .val (.ref dd), .unset, .unset, .unset, .unset, .unset, .unset] [])) _
    refine XS.aload X.here hx rfl (hb hby at_54) rfl rfl ?_
    show Steps p.tables e below (T.setTop (mkF m 56 #[.val (.int p1), .val (.long q2), .second, .val (.long q3), .second, .val (.int (Int32.ofNat n)), .val (.ref dd), .unset, .unset, .unset, .unset, .unset, .unset] [(.ref dd)])) _
    refine XT.iconstV X.here hx rfl (2 : Int32) (hb hby at_56) (by decide) ?_
    show Steps p.tables e below (T.setTop (mkF m 57 #[.val (.int p1), .val (.long q2), .second, .val (.long q3), .second, .val (.int (Int32.ofNat n)), .val (.ref dd), .unset, .unset, .unset, .unset, .unset, .unset] [(.int (2 : Int32)), (.ref dd)])) _
    refine XT.lloadN X.here hx rfl (hb hby at_57) rfl ?_
    show Steps p.tables e below (T.setTop (mkF m 58 #[.val (.int p1), .val (.long q2), .second, .val (.long q3), .second, .val (.int (Int32.ofNat n)), .val (.ref dd), .unset, .unset, .unset, .unset, .unset, .unset] [(.long q2), (.int (2 : Int32)), (.ref dd)])) _
    refine XT.lloadN X.here hx rfl (hb hby at_58) rfl ?_
    show Steps p.tables e below (T.setTop (mkF m 59 #[.val (.int p1), .val (.long q2), .second, .val (.long q3), .second, .val (.int (Int32.ofNat n)), .val (.ref dd), .unset, .unset, .unset, .unset, .unset, .unset] [(.long q3), (.long q2), (.int (2 : Int32)), (.ref dd)])) _
    refine XT.iconstV X.here hx rfl (2 : Int32) (hb hby at_59) (by decide) ?_
    exact kk
  -- pc 60: com/example/mavs/mavs/activation/Base32EncodePinLaw.rawByte
  obtain ⟨_, _, ⟨T1, L1, k1, n1⟩, -, X1, ⟨Lc1, hQ1, l1, y1, z1⟩, st1⟩ := Jvm.LawKit.callS X hx (y := (⟨"com/example/mavs/mavs/activation/Base32EncodePinLaw", "rawByte", "(JJI)I"⟩ : MethodName)) hown (mvT hZ (hw _ (List.mem_of_getElem? (i := 101) rfl))) (mvT hZ (hw _ (List.mem_of_getElem? (i := 102) rfl))) (mvT hZ (hw _ (List.mem_of_getElem? (i := 82) rfl))) (mvT hZ (hw _ (List.mem_of_getElem? (i := 103) rfl))) (by decide) (backOf (W := 2) (rm18 l Z a0 hw [] q2 q3 (2 : Int32)  T.heap n0 Z0 ) hZ (hw _ (List.mem_of_getElem? (i := 103) rfl)) (hw _ (List.mem_of_getElem? (i := 82) rfl)) (by decide) (by decide)) (g := (mkF m 60 #[.val (.int p1), .val (.long q2), .second, .val (.long q3), .second, .val (.int (Int32.ofNat n)), .val (.ref dd), .unset, .unset, .unset, .unset, .unset, .unset] [(.int (2 : Int32)), (.long q3), (.long q2), (.int (2 : Int32)), (.ref dd)])) rfl (by rw [hml]; rfl) (argsL := [(.long q2), (.long q3), (.int (2 : Int32))]) (rest := [(.int (2 : Int32)), (.ref dd)]) (lenOf own_pd13 rfl) rfl (by show 2 * 0 + _ ≤ _; exact Nat.le_of_eq rfl) (hb hby at_60) (fun _ _ => ⟨rfl, rfl, (by decide : 1 + 0 ≤ _), (by decide : 10 + 0 ≤ _)⟩)
  dsimp only [Pt.U, Pt.locs, Pt.cells, Pt.slots] at X1 l1 y1 z1 st1 hQ1
  subst l1 y1 z1
  obtain ⟨rfl, N1q, e1⟩ := hQ1
  have N1 := Fr.app N0 N1q
  have sg2 : ∀ tgt, Steps p.tables e below (T1.setTop (mkF m 64 #[.val (.int p1), .val (.long q2), .second, .val (.long q3), .second, .val (.int (Int32.ofNat n)), .val (.ref dd), .unset, .unset, .unset, .unset, .unset, .unset] [(.int ((own_raw q2 q3 (2 : Int32)).toInt8.toInt32)), (.int (2 : Int32)), (.ref dd)])) tgt → Steps p.tables e below (T1.setTop (mkF m 63 #[.val (.int p1), .val (.long q2), .second, .val (.long q3), .second, .val (.int (Int32.ofNat n)), .val (.ref dd), .unset, .unset, .unset, .unset, .unset, .unset] [(.int (own_raw q2 q3 (2 : Int32))), (.int (2 : Int32)), (.ref dd)])) tgt := by
    intro tgt kk
    show Steps p.tables e below (T1.setTop (mkF m 63 #[.val (.int p1), .val (.long q2), .second, .val (.long q3), .second, .val (.int (Int32.ofNat n)), .val (.ref dd), .unset, .unset, .unset, .unset, .unset, .unset] [(.int (own_raw q2 q3 (2 : Int32))), (.int (2 : Int32)), (.ref dd)])) _
    refine XT.i2b X1.here hx rfl (hb hby at_63) rfl ?_
    exact kk
  obtain ⟨cl_c1, Ar_c1, q_c1, S_c1, N_c1, H_c1, G_c1⟩ := id V_d
  have hin2_ : ¬ ((2 : Int32) < 0 ∨ cl_c1.slots.size ≤ ((2 : Int32)).toNatClampNeg) := inb_of S_c1 ⟨by decide, (show (2 : Int32) < Int32.ofNat n from own_ltN (k := 2) hk (by omega))⟩
  obtain ⟨T2, h2, X2, e2, W2, st2⟩ := stB X1 hx hZ e1 Ar_c1 (j := (2 : Int32)) hin2_ (g := (mkF m 64 #[.val (.int p1), .val (.long q2), .second, .val (.long q3), .second, .val (.int (Int32.ofNat n)), .val (.ref dd), .unset, .unset, .unset, .unset, .unset, .unset] [(.int ((own_raw q2 q3 (2 : Int32)).toInt8.toInt32)), (.int (2 : Int32)), (.ref dd)])) rfl rfl (hb hby at_64)
  have N2 := Fr.snoc X2 N1 g_dd
  have Z_2 : n0 ≤ h2.size := Nat.le_trans Z0 (Keep.of_wr W2).1
  have E_3 := Exa.wr W2 E_d
  have OL_4 := Old.wr OL W2 (Nat.le_trans hnz g_dd)
  have V2_ : Arv Z h2 dd kd .byte (Int32.ofNat n) ((own_by q2 q3 2) ++ [.int ((own_raw q2 q3 (2 : Int32)).toInt8.toInt32)]) (.int (0 : Int32)) := own_app Ar_c1 q_c1 S_c1 N_c1 H_c1 G_c1 W2 (by rw [own_by_len]; decide) (own_narb _)
  subst e2
  have VV : Arv Z T2.heap dd kd .byte (Int32.ofNat n) (own_by q2 q3 (2 + 1)) (.int (0 : Int32)) := by rw [own_by_succ]; exact V2_
  refine ⟨T2, _, ⟨X2, N2, OL_4, Z_2, E_3, VV⟩, fun tgt kk => ?_⟩
  refine sg0 _ ?_
  refine st1 _ ?_
  refine sg2 _ ?_
  refine st2 _ ?_
  exact kk
set_option maxRecDepth 65536 in
set_option maxHeartbeats 40000000 in
theorem own_blkN2 {p : Program} {l : Launch} {e : Env} {s : State} {m : MethodId} {args : Array Value} {below : List Frame} {meth : Method} {c : Code} {Z : State} {a0 : Array Value} (hw : ∀ d ∈ tables_1, d.before a0 Z = true) {n0 : Nat} {dd : Addr} {kd : ClassId} {n : Nat} (hn : n ≤ 10) (hnz : Z.heap.size ≤ n0) (g_dd : n0 ≤ dd) (hx : p.tables.exec = Jvm.exec) (hby : c.code = code) (hml : c.maxLocals = 13) (hZ : Z.Warmed39 s.vm) (hown : s.vm.findClass "com/example/mavs/mavs/activation/Base32EncodePinLaw" = some m.cls) (p1 : Int32) (q2 q3 : Int64) {T : State} {locs : List Loc} (hk : ¬ 2 < n) (X : Stand p l e room_1 s m args below meth c T locs 1 10) (tgt : State) :
    Steps p.tables e below (T.setTop (mkF m 65 #[.val (.int p1), .val (.long q2), .second, .val (.long q3), .second, .val (.int (Int32.ofNat n)), .val (.ref dd), .unset, .unset, .unset, .unset, .unset, .unset] [])) tgt → Steps p.tables e below (T.setTop (mkF m 48 #[.val (.int p1), .val (.long q2), .second, .val (.long q3), .second, .val (.int (Int32.ofNat n)), .val (.ref dd), .unset, .unset, .unset, .unset, .unset, .unset] [])) tgt := by
  have sg0 : ∀ tgt, Steps p.tables e below (T.setTop (mkF m 65 #[.val (.int p1), .val (.long q2), .second, .val (.long q3), .second, .val (.int (Int32.ofNat n)), .val (.ref dd), .unset, .unset, .unset, .unset, .unset, .unset] [])) tgt → Steps p.tables e below (T.setTop (mkF m 48 #[.val (.int p1), .val (.long q2), .second, .val (.long q3), .second, .val (.int (Int32.ofNat n)), .val (.ref dd), .unset, .unset, .unset, .unset, .unset, .unset] [])) tgt := by
    intro tgt kk
    show Steps p.tables e below (T.setTop (mkF m 48 #[.val (.int p1), .val (.long q2), .second, .val (.long q3), .second, .val (.int (Int32.ofNat n)), .val (.ref dd), .unset, .unset, .unset, .unset, .unset, .unset] [])) _
    refine XS.iload X.here hx rfl (hb hby at_48) rfl ?_
    show Steps p.tables e below (T.setTop (mkF m 50 #[.val (.int p1), .val (.long q2), .second, .val (.long q3), .second, .val (.int (Int32.ofNat n)), .val (.ref dd), .unset, .unset, .unset, .unset, .unset, .unset] [(.int (Int32.ofNat n))])) _
    refine XT.iconstV X.here hx rfl (2 : Int32) (hb hby at_50) (by decide) ?_
    show Steps p.tables e below (T.setTop (mkF m 51 #[.val (.int p1), .val (.long q2), .second, .val (.long q3), .second, .val (.int (Int32.ofNat n)), .val (.ref dd), .unset, .unset, .unset, .unset, .unset, .unset] [(.int (2 : Int32)), (.int (Int32.ofNat n))])) _
    refine XS.icmpYes X.here hx rfl (pc0 := 51) (pc' := 65) rfl (hb hby at_51) rfl (XT.ii_le_t (show ¬ (2 : Int32) < Int32.ofNat n from own_nltN (k := 2) hk (by omega) (by omega))) (by decide) (by decide) ?_
    exact kk
  refine fun kk => ?_
  refine sg0 _ ?_
  exact kk
theorem own_blk2 {p : Program} {l : Launch} {e : Env} {s : State} {m : MethodId} {args : Array Value} {below : List Frame} {meth : Method} {c : Code} {Z : State} {a0 : Array Value} (hw : ∀ d ∈ tables_1, d.before a0 Z = true) {n0 : Nat} {dd : Addr} {kd : ClassId} {n : Nat} (hn : n ≤ 10) (hnz : Z.heap.size ≤ n0) (g_dd : n0 ≤ dd) (hx : p.tables.exec = Jvm.exec) (hby : c.code = code) (hml : c.maxLocals = 13) (hZ : Z.Warmed39 s.vm) (hown : s.vm.findClass "com/example/mavs/mavs/activation/Base32EncodePinLaw" = some m.cls) (p1 : Int32) (q2 q3 : Int64) {T : State} {locs : List Loc} (A : own_lat p l e s m args below meth c Z n0 dd kd n T locs (own_by q2 q3 (min 2 n))) :
    ∃ (T' : State) (locs' : List Loc), own_lat p l e s m args below meth c Z n0 dd kd n T' locs' (own_by q2 q3 (min (2 + 1) n)) ∧ ∀ tgt, Steps p.tables e below (T'.setTop (mkF m 65 #[.val (.int p1), .val (.long q2), .second, .val (.long q3), .second, .val (.int (Int32.ofNat n)), .val (.ref dd), .unset, .unset, .unset, .unset, .unset, .unset] [])) tgt → Steps p.tables e below (T.setTop (mkF m 48 #[.val (.int p1), .val (.long q2), .second, .val (.long q3), .second, .val (.int (Int32.ofNat n)), .val (.ref dd), .unset, .unset, .unset, .unset, .unset, .unset] [])) tgt := by
  by_cases hk : 2 < n
  · rw [Nat.min_eq_left (show 2 ≤ n by omega)] at A
    rw [Nat.min_eq_left (show 2 + 1 ≤ n by omega)]
    exact own_blkY2 hw hn hnz g_dd hx hby hml hZ hown p1 q2 q3 hk A
  · rw [Nat.min_eq_right (show n ≤ 2 by omega)] at A
    rw [Nat.min_eq_right (show n ≤ 2 + 1 by omega)]
    exact ⟨T, locs, A, fun tgt kk => own_blkN2 (kd := kd) hw hn hnz g_dd hx hby hml hZ hown p1 q2 q3 hk A.1 tgt kk⟩
set_option maxRecDepth 65536 in
set_option maxHeartbeats 40000000 in
theorem own_blkY3 {p : Program} {l : Launch} {e : Env} {s : State} {m : MethodId} {args : Array Value} {below : List Frame} {meth : Method} {c : Code} {Z : State} {a0 : Array Value} (hw : ∀ d ∈ tables_1, d.before a0 Z = true) {n0 : Nat} {dd : Addr} {kd : ClassId} {n : Nat} (hn : n ≤ 10) (hnz : Z.heap.size ≤ n0) (g_dd : n0 ≤ dd) (hx : p.tables.exec = Jvm.exec) (hby : c.code = code) (hml : c.maxLocals = 13) (hZ : Z.Warmed39 s.vm) (hown : s.vm.findClass "com/example/mavs/mavs/activation/Base32EncodePinLaw" = some m.cls) (p1 : Int32) (q2 q3 : Int64) {T : State} {locs : List Loc} (hk : 3 < n) (A : own_lat p l e s m args below meth c Z n0 dd kd n T locs (own_by q2 q3 3)) :
    ∃ (T' : State) (locs' : List Loc), own_lat p l e s m args below meth c Z n0 dd kd n T' locs' (own_by q2 q3 (3 + 1)) ∧ ∀ tgt, Steps p.tables e below (T'.setTop (mkF m 82 #[.val (.int p1), .val (.long q2), .second, .val (.long q3), .second, .val (.int (Int32.ofNat n)), .val (.ref dd), .unset, .unset, .unset, .unset, .unset, .unset] [])) tgt → Steps p.tables e below (T.setTop (mkF m 65 #[.val (.int p1), .val (.long q2), .second, .val (.long q3), .second, .val (.int (Int32.ofNat n)), .val (.ref dd), .unset, .unset, .unset, .unset, .unset, .unset] [])) tgt := by
  obtain ⟨X, N0, OL, Z0, E_d, V_d⟩ := A
  have sg0 : ∀ tgt, Steps p.tables e below (T.setTop (mkF m 77 #[.val (.int p1), .val (.long q2), .second, .val (.long q3), .second, .val (.int (Int32.ofNat n)), .val (.ref dd), .unset, .unset, .unset, .unset, .unset, .unset] [(.int (3 : Int32)), (.long q3), (.long q2), (.int (3 : Int32)), (.ref dd)])) tgt → Steps p.tables e below (T.setTop (mkF m 65 #[.val (.int p1), .val (.long q2), .second, .val (.long q3), .second, .val (.int (Int32.ofNat n)), .val (.ref dd), .unset, .unset, .unset, .unset, .unset, .unset] [])) tgt := by
    intro tgt kk
    show Steps p.tables e below (T.setTop (mkF m 65 #[.val (.int p1), .val (.long q2), .second, .val (.long q3), .second, .val (.int (Int32.ofNat n)), .val (.ref dd), .unset, .unset, .unset, .unset, .unset, .unset] [])) _
    refine XS.iload X.here hx rfl (hb hby at_65) rfl ?_
    show Steps p.tables e below (T.setTop (mkF m 67 #[.val (.int p1), .val (.long q2), .second, .val (.long q3), .second, .val (.int (Int32.ofNat n)), .val (.ref dd), .unset, .unset, .unset, .unset, .unset, .unset] [(.int (Int32.ofNat n))])) _
    refine XT.iconstV X.here hx rfl (3 : Int32) (hb hby at_67) (by decide) ?_
    show Steps p.tables e below (T.setTop (mkF m 68 #[.val (.int p1), .val (.long q2), .second, .val (.long q3), .second, .val (.int (Int32.ofNat n)), .val (.ref dd), .unset, .unset, .unset, .unset, .unset, .unset] [(.int (3 : Int32)), (.int (Int32.ofNat n))])) _
    refine XS.icmpNo X.here hx rfl (hb hby at_68) rfl (XT.ii_le_f (show (3 : Int32) < Int32.ofNat n from own_ltN (k := 3) hk (by omega))) ?_
    show Steps p.tables e below (T.setTop (mkF m 71 #[.val (.int p1), .val (.long q2), .second, .val (.long q3), .second, .val (.int (Int32.ofNat n)), .val (.ref dd), .unset, .unset, .unset, .unset, .unset, .unset] [])) _
    refine XS.aload X.here hx rfl (hb hby at_71) rfl rfl ?_
    show Steps p.tables e below (T.setTop (mkF m 73 #[.val (.int p1), .val (.long q2), .second, .val (.long q3), .second, .val (.int (Int32.ofNat n)), .val (.ref dd), .unset, .unset, .unset, .unset, .unset, .unset] [(.ref dd)])) _
    refine XT.iconstV X.here hx rfl (3 : Int32) (hb hby at_73) (by decide) ?_
    show Steps p.tables e below (T.setTop (mkF m 74 #[.val (.int p1), .val (.long q2), .second, .val (.long q3), .second, .val (.int (Int32.ofNat n)), .val (.ref dd), .unset, .unset, .unset, .unset, .unset, .unset] [(.int (3 : Int32)), (.ref dd)])) _
    refine XT.lloadN X.here hx rfl (hb hby at_74) rfl ?_
    show Steps p.tables e below (T.setTop (mkF m 75 #[.val (.int p1), .val (.long q2), .second, .val (.long q3), .second, .val (.int (Int32.ofNat n)), .val (.ref dd), .unset, .unset, .unset, .unset, .unset, .unset] [(.long q2), (.int (3 : Int32)), (.ref dd)])) _
    refine XT.lloadN X.here hx rfl (hb hby at_75) rfl ?_
    show Steps p.tables e below (T.setTop (mkF m 76 #[.val (.int p1), .val (.long q2), .second, .val (.long q3), .second, .val (.int (Int32.ofNat n)), .val (.ref dd), .unset, .unset, .unset, .unset, .unset, .unset] [(.long q3), (.long q2), (.int (3 : Int32)), (.ref dd)])) _
    refine XT.iconstV X.here hx rfl (3 : Int32) (hb hby at_76) (by decide) ?_
    exact kk
  -- pc 77: com/example/mavs/mavs/activation/Base32EncodePinLaw.rawByte
  obtain ⟨_, _, ⟨T1, L1, k1, n1⟩, -, X1, ⟨Lc1, hQ1, l1, y1, z1⟩, st1⟩ := Jvm.LawKit.callS X hx (y := (⟨"com/example/mavs/mavs/activation/Base32EncodePinLaw", "rawByte", "(JJI)I"⟩ : MethodName)) hown (mvT hZ (hw _ (List.mem_of_getElem? (i := 101) rfl))) (mvT hZ (hw _ (List.mem_of_getElem? (i := 102) rfl))) (mvT hZ (hw _ (List.mem_of_getElem? (i := 82) rfl))) (mvT hZ (hw _ (List.mem_of_getElem? (i := 103) rfl))) (by decide) (backOf (W := 2) (rm18 l Z a0 hw [] q2 q3 (3 : Int32)  T.heap n0 Z0 ) hZ (hw _ (List.mem_of_getElem? (i := 103) rfl)) (hw _ (List.mem_of_getElem? (i := 82) rfl)) (by decide) (by decide)) (g := (mkF m 77 #[.val (.int p1), .val (.long q2), .second, .val (.long q3), .second, .val (.int (Int32.ofNat n)), .val (.ref dd), .unset, .unset, .unset, .unset, .unset, .unset] [(.int (3 : Int32)), (.long q3), (.long q2), (.int (3 : Int32)), (.ref dd)])) rfl (by rw [hml]; rfl) (argsL := [(.long q2), (.long q3), (.int (3 : Int32))]) (rest := [(.int (3 : Int32)), (.ref dd)]) (lenOf own_pd13 rfl) rfl (by show 2 * 0 + _ ≤ _; exact Nat.le_of_eq rfl) (hb hby at_77) (fun _ _ => ⟨rfl, rfl, (by decide : 1 + 0 ≤ _), (by decide : 10 + 0 ≤ _)⟩)
  dsimp only [Pt.U, Pt.locs, Pt.cells, Pt.slots] at X1 l1 y1 z1 st1 hQ1
  subst l1 y1 z1
  obtain ⟨rfl, N1q, e1⟩ := hQ1
  have N1 := Fr.app N0 N1q
  have sg2 : ∀ tgt, Steps p.tables e below (T1.setTop (mkF m 81 #[.val (.int p1), .val (.long q2), .second, .val (.long q3), .second, .val (.int (Int32.ofNat n)), .val (.ref dd), .unset, .unset, .unset, .unset, .unset, .unset] [(.int ((own_raw q2 q3 (3 : Int32)).toInt8.toInt32)), (.int (3 : Int32)), (.ref dd)])) tgt → Steps p.tables e below (T1.setTop (mkF m 80 #[.val (.int p1), .val (.long q2), .second, .val (.long q3), .second, .val (.int (Int32.ofNat n)), .val (.ref dd), .unset, .unset, .unset, .unset, .unset, .unset] [(.int (own_raw q2 q3 (3 : Int32))), (.int (3 : Int32)), (.ref dd)])) tgt := by
    intro tgt kk
    show Steps p.tables e below (T1.setTop (mkF m 80 #[.val (.int p1), .val (.long q2), .second, .val (.long q3), .second, .val (.int (Int32.ofNat n)), .val (.ref dd), .unset, .unset, .unset, .unset, .unset, .unset] [(.int (own_raw q2 q3 (3 : Int32))), (.int (3 : Int32)), (.ref dd)])) _
    refine XT.i2b X1.here hx rfl (hb hby at_80) rfl ?_
    exact kk
  obtain ⟨cl_c1, Ar_c1, q_c1, S_c1, N_c1, H_c1, G_c1⟩ := id V_d
  have hin2_ : ¬ ((3 : Int32) < 0 ∨ cl_c1.slots.size ≤ ((3 : Int32)).toNatClampNeg) := inb_of S_c1 ⟨by decide, (show (3 : Int32) < Int32.ofNat n from own_ltN (k := 3) hk (by omega))⟩
  obtain ⟨T2, h2, X2, e2, W2, st2⟩ := stB X1 hx hZ e1 Ar_c1 (j := (3 : Int32)) hin2_ (g := (mkF m 81 #[.val (.int p1), .val (.long q2), .second, .val (.long q3), .second, .val (.int (Int32.ofNat n)), .val (.ref dd), .unset, .unset, .unset, .unset, .unset, .unset] [(.int ((own_raw q2 q3 (3 : Int32)).toInt8.toInt32)), (.int (3 : Int32)), (.ref dd)])) rfl rfl (hb hby at_81)
  have N2 := Fr.snoc X2 N1 g_dd
  have Z_2 : n0 ≤ h2.size := Nat.le_trans Z0 (Keep.of_wr W2).1
  have E_3 := Exa.wr W2 E_d
  have OL_4 := Old.wr OL W2 (Nat.le_trans hnz g_dd)
  have V2_ : Arv Z h2 dd kd .byte (Int32.ofNat n) ((own_by q2 q3 3) ++ [.int ((own_raw q2 q3 (3 : Int32)).toInt8.toInt32)]) (.int (0 : Int32)) := own_app Ar_c1 q_c1 S_c1 N_c1 H_c1 G_c1 W2 (by rw [own_by_len]; decide) (own_narb _)
  subst e2
  have VV : Arv Z T2.heap dd kd .byte (Int32.ofNat n) (own_by q2 q3 (3 + 1)) (.int (0 : Int32)) := by rw [own_by_succ]; exact V2_
  refine ⟨T2, _, ⟨X2, N2, OL_4, Z_2, E_3, VV⟩, fun tgt kk => ?_⟩
  refine sg0 _ ?_
  refine st1 _ ?_
  refine sg2 _ ?_
  refine st2 _ ?_
  exact kk
set_option maxRecDepth 65536 in
set_option maxHeartbeats 40000000 in
theorem own_blkN3 {p : Program} {l : Launch} {e : Env} {s : State} {m : MethodId} {args : Array Value} {below : List Frame} {meth : Method} {c : Code} {Z : State} {a0 : Array Value} (hw : ∀ d ∈ tables_1, d.before a0 Z = true) {n0 : Nat} {dd : Addr} {kd : ClassId} {n : Nat} (hn : n ≤ 10) (hnz : Z.heap.size ≤ n0) (g_dd : n0 ≤ dd) (hx : p.tables.exec = Jvm.exec) (hby : c.code = code) (hml : c.maxLocals = 13) (hZ : Z.Warmed39 s.vm) (hown : s.vm.findClass "com/example/mavs/mavs/activation/Base32EncodePinLaw" = some m.cls) (p1 : Int32) (q2 q3 : Int64) {T : State} {locs : List Loc} (hk : ¬ 3 < n) (X : Stand p l e room_1 s m args below meth c T locs 1 10) (tgt : State) :
    Steps p.tables e below (T.setTop (mkF m 82 #[.val (.int p1), .val (.long q2), .second, .val (.long q3), .second, .val (.int (Int32.ofNat n)), .val (.ref dd), .unset, .unset, .unset, .unset, .unset, .unset] [])) tgt → Steps p.tables e below (T.setTop (mkF m 65 #[.val (.int p1), .val (.long q2), .second, .val (.long q3), .second, .val (.int (Int32.ofNat n)), .val (.ref dd), .unset, .unset, .unset, .unset, .unset, .unset] [])) tgt := by
  have sg0 : ∀ tgt, Steps p.tables e below (T.setTop (mkF m 82 #[.val (.int p1), .val (.long q2), .second, .val (.long q3), .second, .val (.int (Int32.ofNat n)), .val (.ref dd), .unset, .unset, .unset, .unset, .unset, .unset] [])) tgt → Steps p.tables e below (T.setTop (mkF m 65 #[.val (.int p1), .val (.long q2), .second, .val (.long q3), .second, .val (.int (Int32.ofNat n)), .val (.ref dd), .unset, .unset, .unset, .unset, .unset, .unset] [])) tgt := by
    intro tgt kk
    show Steps p.tables e below (T.setTop (mkF m 65 #[.val (.int p1), .val (.long q2), .second, .val (.long q3), .second, .val (.int (Int32.ofNat n)), .val (.ref dd), .unset, .unset, .unset, .unset, .unset, .unset] [])) _
    refine XS.iload X.here hx rfl (hb hby at_65) rfl ?_
    show Steps p.tables e below (T.setTop (mkF m 67 #[.val (.int p1), .val (.long q2), .second, .val (.long q3), .second, .val (.int (Int32.ofNat n)), .val (.ref dd), .unset, .unset, .unset, .unset, .unset, .unset] [(.int (Int32.ofNat n))])) _
    refine XT.iconstV X.here hx rfl (3 : Int32) (hb hby at_67) (by decide) ?_
    show Steps p.tables e below (T.setTop (mkF m 68 #[.val (.int p1), .val (.long q2), .second, .val (.long q3), .second, .val (.int (Int32.ofNat n)), .val (.ref dd), .unset, .unset, .unset, .unset, .unset, .unset] [(.int (3 : Int32)), (.int (Int32.ofNat n))])) _
    refine XS.icmpYes X.here hx rfl (pc0 := 68) (pc' := 82) rfl (hb hby at_68) rfl (XT.ii_le_t (show ¬ (3 : Int32) < Int32.ofNat n from own_nltN (k := 3) hk (by omega) (by omega))) (by decide) (by decide) ?_
    exact kk
  refine fun kk => ?_
  refine sg0 _ ?_
  exact kk
theorem own_blk3 {p : Program} {l : Launch} {e : Env} {s : State} {m : MethodId} {args : Array Value} {below : List Frame} {meth : Method} {c : Code} {Z : State} {a0 : Array Value} (hw : ∀ d ∈ tables_1, d.before a0 Z = true) {n0 : Nat} {dd : Addr} {kd : ClassId} {n : Nat} (hn : n ≤ 10) (hnz : Z.heap.size ≤ n0) (g_dd : n0 ≤ dd) (hx : p.tables.exec = Jvm.exec) (hby : c.code = code) (hml : c.maxLocals = 13) (hZ : Z.Warmed39 s.vm) (hown : s.vm.findClass "com/example/mavs/mavs/activation/Base32EncodePinLaw" = some m.cls) (p1 : Int32) (q2 q3 : Int64) {T : State} {locs : List Loc} (A : own_lat p l e s m args below meth c Z n0 dd kd n T locs (own_by q2 q3 (min 3 n))) :
    ∃ (T' : State) (locs' : List Loc), own_lat p l e s m args below meth c Z n0 dd kd n T' locs' (own_by q2 q3 (min (3 + 1) n)) ∧ ∀ tgt, Steps p.tables e below (T'.setTop (mkF m 82 #[.val (.int p1), .val (.long q2), .second, .val (.long q3), .second, .val (.int (Int32.ofNat n)), .val (.ref dd), .unset, .unset, .unset, .unset, .unset, .unset] [])) tgt → Steps p.tables e below (T.setTop (mkF m 65 #[.val (.int p1), .val (.long q2), .second, .val (.long q3), .second, .val (.int (Int32.ofNat n)), .val (.ref dd), .unset, .unset, .unset, .unset, .unset, .unset] [])) tgt := by
  by_cases hk : 3 < n
  · rw [Nat.min_eq_left (show 3 ≤ n by omega)] at A
    rw [Nat.min_eq_left (show 3 + 1 ≤ n by omega)]
    exact own_blkY3 hw hn hnz g_dd hx hby hml hZ hown p1 q2 q3 hk A
  · rw [Nat.min_eq_right (show n ≤ 3 by omega)] at A
    rw [Nat.min_eq_right (show n ≤ 3 + 1 by omega)]
    exact ⟨T, locs, A, fun tgt kk => own_blkN3 (kd := kd) hw hn hnz g_dd hx hby hml hZ hown p1 q2 q3 hk A.1 tgt kk⟩
set_option maxRecDepth 65536 in
set_option maxHeartbeats 40000000 in
theorem own_blkY4 {p : Program} {l : Launch} {e : Env} {s : State} {m : MethodId} {args : Array Value} {below : List Frame} {meth : Method} {c : Code} {Z : State} {a0 : Array Value} (hw : ∀ d ∈ tables_1, d.before a0 Z = true) {n0 : Nat} {dd : Addr} {kd : ClassId} {n : Nat} (hn : n ≤ 10) (hnz : Z.heap.size ≤ n0) (g_dd : n0 ≤ dd) (hx : p.tables.exec = Jvm.exec) (hby : c.code = code) (hml : c.maxLocals = 13) (hZ : Z.Warmed39 s.vm) (hown : s.vm.findClass "com/example/mavs/mavs/activation/Base32EncodePinLaw" = some m.cls) (p1 : Int32) (q2 q3 : Int64) {T : State} {locs : List Loc} (hk : 4 < n) (A : own_lat p l e s m args below meth c Z n0 dd kd n T locs (own_by q2 q3 4)) :
    ∃ (T' : State) (locs' : List Loc), own_lat p l e s m args below meth c Z n0 dd kd n T' locs' (own_by q2 q3 (4 + 1)) ∧ ∀ tgt, Steps p.tables e below (T'.setTop (mkF m 99 #[.val (.int p1), .val (.long q2), .second, .val (.long q3), .second, .val (.int (Int32.ofNat n)), .val (.ref dd), .unset, .unset, .unset, .unset, .unset, .unset] [])) tgt → Steps p.tables e below (T.setTop (mkF m 82 #[.val (.int p1), .val (.long q2), .second, .val (.long q3), .second, .val (.int (Int32.ofNat n)), .val (.ref dd), .unset, .unset, .unset, .unset, .unset, .unset] [])) tgt := by
  obtain ⟨X, N0, OL, Z0, E_d, V_d⟩ := A
  have sg0 : ∀ tgt, Steps p.tables e below (T.setTop (mkF m 94 #[.val (.int p1), .val (.long q2), .second, .val (.long q3), .second, .val (.int (Int32.ofNat n)), .val (.ref dd), .unset, .unset, .unset, .unset, .unset, .unset] [(.int (4 : Int32)), (.long q3), (.long q2), (.int (4 : Int32)), (.ref dd)])) tgt → Steps p.tables e below (T.setTop (mkF m 82 #[.val (.int p1), .val (.long q2), .second, .val (.long q3), .second, .val (.int (Int32.ofNat n)), .val (.ref dd), .unset, .unset, .unset, .unset, .unset, .unset] [])) tgt := by
    intro tgt kk
    show Steps p.tables e below (T.setTop (mkF m 82 #[.val (.int p1), .val (.long q2), .second, .val (.long q3), .second, .val (.int (Int32.ofNat n)), .val (.ref dd), .unset, .unset, .unset, .unset, .unset, .unset] [])) _
    refine XS.iload X.here hx rfl (hb hby at_82) rfl ?_
    show Steps p.tables e below (T.setTop (mkF m 84 #[.val (.int p1), .val (.long q2), .second, .val (.long q3), .second, .val (.int (Int32.ofNat n)), .val (.ref dd), .unset, .unset, .unset, .unset, .unset, .unset] [(.int (Int32.ofNat n))])) _
    refine XT.iconstV X.here hx rfl (4 : Int32) (hb hby at_84) (by decide) ?_
    show Steps p.tables e below (T.setTop (mkF m 85 #[.val (.int p1), .val (.long q2), .second, .val (.long q3), .second, .val (.int (Int32.ofNat n)), .val (.ref dd), .unset, .unset, .unset, .unset, .unset, .unset] [(.int (4 : Int32)), (.int (Int32.ofNat n))])) _
    refine XS.icmpNo X.here hx rfl (hb hby at_85) rfl (XT.ii_le_f (show (4 : Int32) < Int32.ofNat n from own_ltN (k := 4) hk (by omega))) ?_
    show Steps p.tables e below (T.setTop (mkF m 88 #[.val (.int p1), .val (.long q2), .second, .val (.long q3), .second, .val (.int (Int32.ofNat n)), .val (.ref dd), .unset, .unset, .unset, .unset, .unset, .unset] [])) _
    refine XS.aload X.here hx rfl (hb hby at_88) rfl rfl ?_
    show Steps p.tables e below (T.setTop (mkF m 90 #[.val (.int p1), .val (.long q2), .second, .val (.long q3), .second, .val (.int (Int32.ofNat n)), .val (.ref dd), .unset, .unset, .unset, .unset, .unset, .unset] [(.ref dd)])) _
    refine XT.iconstV X.here hx rfl (4 : Int32) (hb hby at_90) (by decide) ?_
    show Steps p.tables e below (T.setTop (mkF m 91 #[.val (.int p1), .val (.long q2), .second, .val (.long q3), .second, .val (.int (Int32.ofNat n)), .val (.ref dd), .unset, .unset, .unset, .unset, .unset, .unset] [(.int (4 : Int32)), (.ref dd)])) _
    refine XT.lloadN X.here hx rfl (hb hby at_91) rfl ?_
    show Steps p.tables e below (T.setTop (mkF m 92 #[.val (.int p1), .val (.long q2), .second, .val (.long q3), .second, .val (.int (Int32.ofNat n)), .val (.ref dd), .unset, .unset, .unset, .unset, .unset, .unset] [(.long q2), (.int (4 : Int32)), (.ref dd)])) _
    refine XT.lloadN X.here hx rfl (hb hby at_92) rfl ?_
    show Steps p.tables e below (T.setTop (mkF m 93 #[.val (.int p1), .val (.long q2), .second, .val (.long q3), .second, .val (.int (Int32.ofNat n)), .val (.ref dd), .unset, .unset, .unset, .unset, .unset, .unset] [(.long q3), (.long q2), (.int (4 : Int32)), (.ref dd)])) _
    refine XT.iconstV X.here hx rfl (4 : Int32) (hb hby at_93) (by decide) ?_
    exact kk
  -- pc 94: com/example/mavs/mavs/activation/Base32EncodePinLaw.rawByte
  obtain ⟨_, _, ⟨T1, L1, k1, n1⟩, -, X1, ⟨Lc1, hQ1, l1, y1, z1⟩, st1⟩ := Jvm.LawKit.callS X hx (y := (⟨"com/example/mavs/mavs/activation/Base32EncodePinLaw", "rawByte", "(JJI)I"⟩ : MethodName)) hown (mvT hZ (hw _ (List.mem_of_getElem? (i := 101) rfl))) (mvT hZ (hw _ (List.mem_of_getElem? (i := 102) rfl))) (mvT hZ (hw _ (List.mem_of_getElem? (i := 82) rfl))) (mvT hZ (hw _ (List.mem_of_getElem? (i := 103) rfl))) (by decide) (backOf (W := 2) (rm18 l Z a0 hw [] q2 q3 (4 : Int32)  T.heap n0 Z0 ) hZ (hw _ (List.mem_of_getElem? (i := 103) rfl)) (hw _ (List.mem_of_getElem? (i := 82) rfl)) (by decide) (by decide)) (g := (mkF m 94 #[.val (.int p1), .val (.long q2), .second, .val (.long q3), .second, .val (.int (Int32.ofNat n)), .val (.ref dd), .unset, .unset, .unset, .unset, .unset, .unset] [(.int (4 : Int32)), (.long q3), (.long q2), (.int (4 : Int32)), (.ref dd)])) rfl (by rw [hml]; rfl) (argsL := [(.long q2), (.long q3), (.int (4 : Int32))]) (rest := [(.int (4 : Int32)), (.ref dd)]) (lenOf own_pd13 rfl) rfl (by show 2 * 0 + _ ≤ _; exact Nat.le_of_eq rfl) (hb hby at_94) (fun _ _ => ⟨rfl, rfl, (by decide : 1 + 0 ≤ _), (by decide : 10 + 0 ≤ _)⟩)
  dsimp only [Pt.U, Pt.locs, Pt.cells, Pt.slots] at X1 l1 y1 z1 st1 hQ1
  subst l1 y1 z1
  obtain ⟨rfl, N1q, e1⟩ := hQ1
  have N1 := Fr.app N0 N1q
  have sg2 : ∀ tgt, Steps p.tables e below (T1.setTop (mkF m 98 #[.val (.int p1), .val (.long q2), .second, .val (.long q3), .second, .val (.int (Int32.ofNat n)), .val (.ref dd), .unset, .unset, .unset, .unset, .unset, .unset] [(.int ((own_raw q2 q3 (4 : Int32)).toInt8.toInt32)), (.int (4 : Int32)), (.ref dd)])) tgt → Steps p.tables e below (T1.setTop (mkF m 97 #[.val (.int p1), .val (.long q2), .second, .val (.long q3), .second, .val (.int (Int32.ofNat n)), .val (.ref dd), .unset, .unset, .unset, .unset, .unset, .unset] [(.int (own_raw q2 q3 (4 : Int32))), (.int (4 : Int32)), (.ref dd)])) tgt := by
    intro tgt kk
    show Steps p.tables e below (T1.setTop (mkF m 97 #[.val (.int p1), .val (.long q2), .second, .val (.long q3), .second, .val (.int (Int32.ofNat n)), .val (.ref dd), .unset, .unset, .unset, .unset, .unset, .unset] [(.int (own_raw q2 q3 (4 : Int32))), (.int (4 : Int32)), (.ref dd)])) _
    refine XT.i2b X1.here hx rfl (hb hby at_97) rfl ?_
    exact kk
  obtain ⟨cl_c1, Ar_c1, q_c1, S_c1, N_c1, H_c1, G_c1⟩ := id V_d
  have hin2_ : ¬ ((4 : Int32) < 0 ∨ cl_c1.slots.size ≤ ((4 : Int32)).toNatClampNeg) := inb_of S_c1 ⟨by decide, (show (4 : Int32) < Int32.ofNat n from own_ltN (k := 4) hk (by omega))⟩
  obtain ⟨T2, h2, X2, e2, W2, st2⟩ := stB X1 hx hZ e1 Ar_c1 (j := (4 : Int32)) hin2_ (g := (mkF m 98 #[.val (.int p1), .val (.long q2), .second, .val (.long q3), .second, .val (.int (Int32.ofNat n)), .val (.ref dd), .unset, .unset, .unset, .unset, .unset, .unset] [(.int ((own_raw q2 q3 (4 : Int32)).toInt8.toInt32)), (.int (4 : Int32)), (.ref dd)])) rfl rfl (hb hby at_98)
  have N2 := Fr.snoc X2 N1 g_dd
  have Z_2 : n0 ≤ h2.size := Nat.le_trans Z0 (Keep.of_wr W2).1
  have E_3 := Exa.wr W2 E_d
  have OL_4 := Old.wr OL W2 (Nat.le_trans hnz g_dd)
  have V2_ : Arv Z h2 dd kd .byte (Int32.ofNat n) ((own_by q2 q3 4) ++ [.int ((own_raw q2 q3 (4 : Int32)).toInt8.toInt32)]) (.int (0 : Int32)) := own_app Ar_c1 q_c1 S_c1 N_c1 H_c1 G_c1 W2 (by rw [own_by_len]; decide) (own_narb _)
  subst e2
  have VV : Arv Z T2.heap dd kd .byte (Int32.ofNat n) (own_by q2 q3 (4 + 1)) (.int (0 : Int32)) := by rw [own_by_succ]; exact V2_
  refine ⟨T2, _, ⟨X2, N2, OL_4, Z_2, E_3, VV⟩, fun tgt kk => ?_⟩
  refine sg0 _ ?_
  refine st1 _ ?_
  refine sg2 _ ?_
  refine st2 _ ?_
  exact kk
set_option maxRecDepth 65536 in
set_option maxHeartbeats 40000000 in
theorem own_blkN4 {p : Program} {l : Launch} {e : Env} {s : State} {m : MethodId} {args : Array Value} {below : List Frame} {meth : Method} {c : Code} {Z : State} {a0 : Array Value} (hw : ∀ d ∈ tables_1, d.before a0 Z = true) {n0 : Nat} {dd : Addr} {kd : ClassId} {n : Nat} (hn : n ≤ 10) (hnz : Z.heap.size ≤ n0) (g_dd : n0 ≤ dd) (hx : p.tables.exec = Jvm.exec) (hby : c.code = code) (hml : c.maxLocals = 13) (hZ : Z.Warmed39 s.vm) (hown : s.vm.findClass "com/example/mavs/mavs/activation/Base32EncodePinLaw" = some m.cls) (p1 : Int32) (q2 q3 : Int64) {T : State} {locs : List Loc} (hk : ¬ 4 < n) (X : Stand p l e room_1 s m args below meth c T locs 1 10) (tgt : State) :
    Steps p.tables e below (T.setTop (mkF m 99 #[.val (.int p1), .val (.long q2), .second, .val (.long q3), .second, .val (.int (Int32.ofNat n)), .val (.ref dd), .unset, .unset, .unset, .unset, .unset, .unset] [])) tgt → Steps p.tables e below (T.setTop (mkF m 82 #[.val (.int p1), .val (.long q2), .second, .val (.long q3), .second, .val (.int (Int32.ofNat n)), .val (.ref dd), .unset, .unset, .unset, .unset, .unset, .unset] [])) tgt := by
  have sg0 : ∀ tgt, Steps p.tables e below (T.setTop (mkF m 99 #[.val (.int p1), .val (.long q2), .second, .val (.long q3), .second, .val (.int (Int32.ofNat n)), .val (.ref dd), .unset, .unset, .unset, .unset, .unset, .unset] [])) tgt → Steps p.tables e below (T.setTop (mkF m 82 #[.val (.int p1), .val (.long q2), .second, .val (.long q3), .second, .val (.int (Int32.ofNat n)), .val (.ref dd), .unset, .unset, .unset, .unset, .unset, .unset] [])) tgt := by
    intro tgt kk
    show Steps p.tables e below (T.setTop (mkF m 82 #[.val (.int p1), .val (.long q2), .second, .val (.long q3), .second, .val (.int (Int32.ofNat n)), .val (.ref dd), .unset, .unset, .unset, .unset, .unset, .unset] [])) _
    refine XS.iload X.here hx rfl (hb hby at_82) rfl ?_
    show Steps p.tables e below (T.setTop (mkF m 84 #[.val (.int p1), .val (.long q2), .second, .val (.long q3), .second, .val (.int (Int32.ofNat n)), .val (.ref dd), .unset, .unset, .unset, .unset, .unset, .unset] [(.int (Int32.ofNat n))])) _
    refine XT.iconstV X.here hx rfl (4 : Int32) (hb hby at_84) (by decide) ?_
    show Steps p.tables e below (T.setTop (mkF m 85 #[.val (.int p1), .val (.long q2), .second, .val (.long q3), .second, .val (.int (Int32.ofNat n)), .val (.ref dd), .unset, .unset, .unset, .unset, .unset, .unset] [(.int (4 : Int32)), (.int (Int32.ofNat n))])) _
    refine XS.icmpYes X.here hx rfl (pc0 := 85) (pc' := 99) rfl (hb hby at_85) rfl (XT.ii_le_t (show ¬ (4 : Int32) < Int32.ofNat n from own_nltN (k := 4) hk (by omega) (by omega))) (by decide) (by decide) ?_
    exact kk
  refine fun kk => ?_
  refine sg0 _ ?_
  exact kk
theorem own_blk4 {p : Program} {l : Launch} {e : Env} {s : State} {m : MethodId} {args : Array Value} {below : List Frame} {meth : Method} {c : Code} {Z : State} {a0 : Array Value} (hw : ∀ d ∈ tables_1, d.before a0 Z = true) {n0 : Nat} {dd : Addr} {kd : ClassId} {n : Nat} (hn : n ≤ 10) (hnz : Z.heap.size ≤ n0) (g_dd : n0 ≤ dd) (hx : p.tables.exec = Jvm.exec) (hby : c.code = code) (hml : c.maxLocals = 13) (hZ : Z.Warmed39 s.vm) (hown : s.vm.findClass "com/example/mavs/mavs/activation/Base32EncodePinLaw" = some m.cls) (p1 : Int32) (q2 q3 : Int64) {T : State} {locs : List Loc} (A : own_lat p l e s m args below meth c Z n0 dd kd n T locs (own_by q2 q3 (min 4 n))) :
    ∃ (T' : State) (locs' : List Loc), own_lat p l e s m args below meth c Z n0 dd kd n T' locs' (own_by q2 q3 (min (4 + 1) n)) ∧ ∀ tgt, Steps p.tables e below (T'.setTop (mkF m 99 #[.val (.int p1), .val (.long q2), .second, .val (.long q3), .second, .val (.int (Int32.ofNat n)), .val (.ref dd), .unset, .unset, .unset, .unset, .unset, .unset] [])) tgt → Steps p.tables e below (T.setTop (mkF m 82 #[.val (.int p1), .val (.long q2), .second, .val (.long q3), .second, .val (.int (Int32.ofNat n)), .val (.ref dd), .unset, .unset, .unset, .unset, .unset, .unset] [])) tgt := by
  by_cases hk : 4 < n
  · rw [Nat.min_eq_left (show 4 ≤ n by omega)] at A
    rw [Nat.min_eq_left (show 4 + 1 ≤ n by omega)]
    exact own_blkY4 hw hn hnz g_dd hx hby hml hZ hown p1 q2 q3 hk A
  · rw [Nat.min_eq_right (show n ≤ 4 by omega)] at A
    rw [Nat.min_eq_right (show n ≤ 4 + 1 by omega)]
    exact ⟨T, locs, A, fun tgt kk => own_blkN4 (kd := kd) hw hn hnz g_dd hx hby hml hZ hown p1 q2 q3 hk A.1 tgt kk⟩
set_option maxRecDepth 65536 in
set_option maxHeartbeats 40000000 in
theorem own_blkY5 {p : Program} {l : Launch} {e : Env} {s : State} {m : MethodId} {args : Array Value} {below : List Frame} {meth : Method} {c : Code} {Z : State} {a0 : Array Value} (hw : ∀ d ∈ tables_1, d.before a0 Z = true) {n0 : Nat} {dd : Addr} {kd : ClassId} {n : Nat} (hn : n ≤ 10) (hnz : Z.heap.size ≤ n0) (g_dd : n0 ≤ dd) (hx : p.tables.exec = Jvm.exec) (hby : c.code = code) (hml : c.maxLocals = 13) (hZ : Z.Warmed39 s.vm) (hown : s.vm.findClass "com/example/mavs/mavs/activation/Base32EncodePinLaw" = some m.cls) (p1 : Int32) (q2 q3 : Int64) {T : State} {locs : List Loc} (hk : 5 < n) (A : own_lat p l e s m args below meth c Z n0 dd kd n T locs (own_by q2 q3 5)) :
    ∃ (T' : State) (locs' : List Loc), own_lat p l e s m args below meth c Z n0 dd kd n T' locs' (own_by q2 q3 (5 + 1)) ∧ ∀ tgt, Steps p.tables e below (T'.setTop (mkF m 116 #[.val (.int p1), .val (.long q2), .second, .val (.long q3), .second, .val (.int (Int32.ofNat n)), .val (.ref dd), .unset, .unset, .unset, .unset, .unset, .unset] [])) tgt → Steps p.tables e below (T.setTop (mkF m 99 #[.val (.int p1), .val (.long q2), .second, .val (.long q3), .second, .val (.int (Int32.ofNat n)), .val (.ref dd), .unset, .unset, .unset, .unset, .unset, .unset] [])) tgt := by
  obtain ⟨X, N0, OL, Z0, E_d, V_d⟩ := A
  have sg0 : ∀ tgt, Steps p.tables e below (T.setTop (mkF m 111 #[.val (.int p1), .val (.long q2), .second, .val (.long q3), .second, .val (.int (Int32.ofNat n)), .val (.ref dd), .unset, .unset, .unset, .unset, .unset, .unset] [(.int (5 : Int32)), (.long q3), (.long q2), (.int (5 : Int32)), (.ref dd)])) tgt → Steps p.tables e below (T.setTop (mkF m 99 #[.val (.int p1), .val (.long q2), .second, .val (.long q3), .second, .val (.int (Int32.ofNat n)), .val (.ref dd), .unset, .unset, .unset, .unset, .unset, .unset] [])) tgt := by
    intro tgt kk
    show Steps p.tables e below (T.setTop (mkF m 99 #[.val (.int p1), .val (.long q2), .second, .val (.long q3), .second, .val (.int (Int32.ofNat n)), .val (.ref dd), .unset, .unset, .unset, .unset, .unset, .unset] [])) _
    refine XS.iload X.here hx rfl (hb hby at_99) rfl ?_
    show Steps p.tables e below (T.setTop (mkF m 101 #[.val (.int p1), .val (.long q2), .second, .val (.long q3), .second, .val (.int (Int32.ofNat n)), .val (.ref dd), .unset, .unset, .unset, .unset, .unset, .unset] [(.int (Int32.ofNat n))])) _
    refine XT.iconstV X.here hx rfl (5 : Int32) (hb hby at_101) (by decide) ?_
    show Steps p.tables e below (T.setTop (mkF m 102 #[.val (.int p1), .val (.long q2), .second, .val (.long q3), .second, .val (.int (Int32.ofNat n)), .val (.ref dd), .unset, .unset, .unset, .unset, .unset, .unset] [(.int (5 : Int32)), (.int (Int32.ofNat n))])) _
    refine XS.icmpNo X.here hx rfl (hb hby at_102) rfl (XT.ii_le_f (show (5 : Int32) < Int32.ofNat n from own_ltN (k := 5) hk (by omega))) ?_
    show Steps p.tables e below (T.setTop (mkF m 105 #[.val (.int p1), .val (.long q2), .second, .val (.long q3), .second, .val (.int (Int32.ofNat n)), .val (.ref dd), .unset, .unset, .unset, .unset, .unset, .unset] [])) _
    refine XS.aload X.here hx rfl (hb hby at_105) rfl rfl ?_
    show Steps p.tables e below (T.setTop (mkF m 107 #[.val (.int p1), .val (.long q2), .second, .val (.long q3), .second, .val (.int (Int32.ofNat n)), .val (.ref dd), .unset, .unset, .unset, .unset, .unset, .unset] [(.ref dd)])) _
    refine XT.iconstV X.here hx rfl (5 : Int32) (hb hby at_107) (by decide) ?_
    show Steps p.tables e below (T.setTop (mkF m 108 #[.val (.int p1), .val (.long q2), .second, .val (.long q3), .second, .val (.int (Int32.ofNat n)), .val (.ref dd), .unset, .unset, .unset, .unset, .unset, .unset] [(.int (5 : Int32)), (.ref dd)])) _
    refine XT.lloadN X.here hx rfl (hb hby at_108) rfl ?_
    show Steps p.tables e below (T.setTop (mkF m 109 #[.val (.int p1), .val (.long q2), .second, .val (.long q3), .second, .val (.int (Int32.ofNat n)), .val (.ref dd), .unset, .unset, .unset, .unset, .unset, .unset] [(.long q2), (.int (5 : Int32)), (.ref dd)])) _
    refine XT.lloadN X.here hx rfl (hb hby at_109) rfl ?_
    show Steps p.tables e below (T.setTop (mkF m 110 #[.val (.int p1), .val (.long q2), .second, .val (.long q3), .second, .val (.int (Int32.ofNat n)), .val (.ref dd), .unset, .unset, .unset, .unset, .unset, .unset] [(.long q3), (.long q2), (.int (5 : Int32)), (.ref dd)])) _
    refine XT.iconstV X.here hx rfl (5 : Int32) (hb hby at_110) (by decide) ?_
    exact kk
  -- pc 111: com/example/mavs/mavs/activation/Base32EncodePinLaw.rawByte
  obtain ⟨_, _, ⟨T1, L1, k1, n1⟩, -, X1, ⟨Lc1, hQ1, l1, y1, z1⟩, st1⟩ := Jvm.LawKit.callS X hx (y := (⟨"com/example/mavs/mavs/activation/Base32EncodePinLaw", "rawByte", "(JJI)I"⟩ : MethodName)) hown (mvT hZ (hw _ (List.mem_of_getElem? (i := 101) rfl))) (mvT hZ (hw _ (List.mem_of_getElem? (i := 102) rfl))) (mvT hZ (hw _ (List.mem_of_getElem? (i := 82) rfl))) (mvT hZ (hw _ (List.mem_of_getElem? (i := 103) rfl))) (by decide) (backOf (W := 2) (rm18 l Z a0 hw [] q2 q3 (5 : Int32)  T.heap n0 Z0 ) hZ (hw _ (List.mem_of_getElem? (i := 103) rfl)) (hw _ (List.mem_of_getElem? (i := 82) rfl)) (by decide) (by decide)) (g := (mkF m 111 #[.val (.int p1), .val (.long q2), .second, .val (.long q3), .second, .val (.int (Int32.ofNat n)), .val (.ref dd), .unset, .unset, .unset, .unset, .unset, .unset] [(.int (5 : Int32)), (.long q3), (.long q2), (.int (5 : Int32)), (.ref dd)])) rfl (by rw [hml]; rfl) (argsL := [(.long q2), (.long q3), (.int (5 : Int32))]) (rest := [(.int (5 : Int32)), (.ref dd)]) (lenOf own_pd13 rfl) rfl (by show 2 * 0 + _ ≤ _; exact Nat.le_of_eq rfl) (hb hby at_111) (fun _ _ => ⟨rfl, rfl, (by decide : 1 + 0 ≤ _), (by decide : 10 + 0 ≤ _)⟩)
  dsimp only [Pt.U, Pt.locs, Pt.cells, Pt.slots] at X1 l1 y1 z1 st1 hQ1
  subst l1 y1 z1
  obtain ⟨rfl, N1q, e1⟩ := hQ1
  have N1 := Fr.app N0 N1q
  have sg2 : ∀ tgt, Steps p.tables e below (T1.setTop (mkF m 115 #[.val (.int p1), .val (.long q2), .second, .val (.long q3), .second, .val (.int (Int32.ofNat n)), .val (.ref dd), .unset, .unset, .unset, .unset, .unset, .unset] [(.int ((own_raw q2 q3 (5 : Int32)).toInt8.toInt32)), (.int (5 : Int32)), (.ref dd)])) tgt → Steps p.tables e below (T1.setTop (mkF m 114 #[.val (.int p1), .val (.long q2), .second, .val (.long q3), .second, .val (.int (Int32.ofNat n)), .val (.ref dd), .unset, .unset, .unset, .unset, .unset, .unset] [(.int (own_raw q2 q3 (5 : Int32))), (.int (5 : Int32)), (.ref dd)])) tgt := by
    intro tgt kk
    show Steps p.tables e below (T1.setTop (mkF m 114 #[.val (.int p1), .val (.long q2), .second, .val (.long q3), .second, .val (.int (Int32.ofNat n)), .val (.ref dd), .unset, .unset, .unset, .unset, .unset, .unset] [(.int (own_raw q2 q3 (5 : Int32))), (.int (5 : Int32)), (.ref dd)])) _
    refine XT.i2b X1.here hx rfl (hb hby at_114) rfl ?_
    exact kk
  obtain ⟨cl_c1, Ar_c1, q_c1, S_c1, N_c1, H_c1, G_c1⟩ := id V_d
  have hin2_ : ¬ ((5 : Int32) < 0 ∨ cl_c1.slots.size ≤ ((5 : Int32)).toNatClampNeg) := inb_of S_c1 ⟨by decide, (show (5 : Int32) < Int32.ofNat n from own_ltN (k := 5) hk (by omega))⟩
  obtain ⟨T2, h2, X2, e2, W2, st2⟩ := stB X1 hx hZ e1 Ar_c1 (j := (5 : Int32)) hin2_ (g := (mkF m 115 #[.val (.int p1), .val (.long q2), .second, .val (.long q3), .second, .val (.int (Int32.ofNat n)), .val (.ref dd), .unset, .unset, .unset, .unset, .unset, .unset] [(.int ((own_raw q2 q3 (5 : Int32)).toInt8.toInt32)), (.int (5 : Int32)), (.ref dd)])) rfl rfl (hb hby at_115)
  have N2 := Fr.snoc X2 N1 g_dd
  have Z_2 : n0 ≤ h2.size := Nat.le_trans Z0 (Keep.of_wr W2).1
  have E_3 := Exa.wr W2 E_d
  have OL_4 := Old.wr OL W2 (Nat.le_trans hnz g_dd)
  have V2_ : Arv Z h2 dd kd .byte (Int32.ofNat n) ((own_by q2 q3 5) ++ [.int ((own_raw q2 q3 (5 : Int32)).toInt8.toInt32)]) (.int (0 : Int32)) := own_app Ar_c1 q_c1 S_c1 N_c1 H_c1 G_c1 W2 (by rw [own_by_len]; decide) (own_narb _)
  subst e2
  have VV : Arv Z T2.heap dd kd .byte (Int32.ofNat n) (own_by q2 q3 (5 + 1)) (.int (0 : Int32)) := by rw [own_by_succ]; exact V2_
  refine ⟨T2, _, ⟨X2, N2, OL_4, Z_2, E_3, VV⟩, fun tgt kk => ?_⟩
  refine sg0 _ ?_
  refine st1 _ ?_
  refine sg2 _ ?_
  refine st2 _ ?_
  exact kk
set_option maxRecDepth 65536 in
set_option maxHeartbeats 40000000 in
theorem own_blkN5 {p : Program} {l : Launch} {e : Env} {s : State} {m : MethodId} {args : Array Value} {below : List Frame} {meth : Method} {c : Code} {Z : State} {a0 : Array Value} (hw : ∀ d ∈ tables_1, d.before a0 Z = true) {n0 : Nat} {dd : Addr} {kd : ClassId} {n : Nat} (hn : n ≤ 10) (hnz : Z.heap.size ≤ n0) (g_dd : n0 ≤ dd) (hx : p.tables.exec = Jvm.exec) (hby : c.code = code) (hml : c.maxLocals = 13) (hZ : Z.Warmed39 s.vm) (hown : s.vm.findClass "com/example/mavs/mavs/activation/Base32EncodePinLaw" = some m.cls) (p1 : Int32) (q2 q3 : Int64) {T : State} {locs : List Loc} (hk : ¬ 5 < n) (X : Stand p l e room_1 s m args below meth c T locs 1 10) (tgt : State) :
    Steps p.tables e below (T.setTop (mkF m 116 #[.val (.int p1), .val (.long q2), .second, .val (.long q3), .second, .val (.int (Int32.ofNat n)), .val (.ref dd), .unset, .unset, .unset, .unset, .unset, .unset] [])) tgt → Steps p.tables e below (T.setTop (mkF m 99 #[.val (.int p1), .val (.long q2), .second, .val (.long q3), .second, .val (.int (Int32.ofNat n)), .val (.ref dd), .unset, .unset, .unset, .unset, .unset, .unset] [])) tgt := by
  have sg0 : ∀ tgt, Steps p.tables e below (T.setTop (mkF m 116 #[.val (.int p1), .val (.long q2), .second, .val (.long q3), .second, .val (.int (Int32.ofNat n)), .val (.ref dd), .unset, .unset, .unset, .unset, .unset, .unset] [])) tgt → Steps p.tables e below (T.setTop (mkF m 99 #[.val (.int p1), .val (.long q2), .second, .val (.long q3), .second, .val (.int (Int32.ofNat n)), .val (.ref dd), .unset, .unset, .unset, .unset, .unset, .unset] [])) tgt := by
    intro tgt kk
    show Steps p.tables e below (T.setTop (mkF m 99 #[.val (.int p1), .val (.long q2), .second, .val (.long q3), .second, .val (.int (Int32.ofNat n)), .val (.ref dd), .unset, .unset, .unset, .unset, .unset, .unset] [])) _
    refine XS.iload X.here hx rfl (hb hby at_99) rfl ?_
    show Steps p.tables e below (T.setTop (mkF m 101 #[.val (.int p1), .val (.long q2), .second, .val (.long q3), .second, .val (.int (Int32.ofNat n)), .val (.ref dd), .unset, .unset, .unset, .unset, .unset, .unset] [(.int (Int32.ofNat n))])) _
    refine XT.iconstV X.here hx rfl (5 : Int32) (hb hby at_101) (by decide) ?_
    show Steps p.tables e below (T.setTop (mkF m 102 #[.val (.int p1), .val (.long q2), .second, .val (.long q3), .second, .val (.int (Int32.ofNat n)), .val (.ref dd), .unset, .unset, .unset, .unset, .unset, .unset] [(.int (5 : Int32)), (.int (Int32.ofNat n))])) _
    refine XS.icmpYes X.here hx rfl (pc0 := 102) (pc' := 116) rfl (hb hby at_102) rfl (XT.ii_le_t (show ¬ (5 : Int32) < Int32.ofNat n from own_nltN (k := 5) hk (by omega) (by omega))) (by decide) (by decide) ?_
    exact kk
  refine fun kk => ?_
  refine sg0 _ ?_
  exact kk
theorem own_blk5 {p : Program} {l : Launch} {e : Env} {s : State} {m : MethodId} {args : Array Value} {below : List Frame} {meth : Method} {c : Code} {Z : State} {a0 : Array Value} (hw : ∀ d ∈ tables_1, d.before a0 Z = true) {n0 : Nat} {dd : Addr} {kd : ClassId} {n : Nat} (hn : n ≤ 10) (hnz : Z.heap.size ≤ n0) (g_dd : n0 ≤ dd) (hx : p.tables.exec = Jvm.exec) (hby : c.code = code) (hml : c.maxLocals = 13) (hZ : Z.Warmed39 s.vm) (hown : s.vm.findClass "com/example/mavs/mavs/activation/Base32EncodePinLaw" = some m.cls) (p1 : Int32) (q2 q3 : Int64) {T : State} {locs : List Loc} (A : own_lat p l e s m args below meth c Z n0 dd kd n T locs (own_by q2 q3 (min 5 n))) :
    ∃ (T' : State) (locs' : List Loc), own_lat p l e s m args below meth c Z n0 dd kd n T' locs' (own_by q2 q3 (min (5 + 1) n)) ∧ ∀ tgt, Steps p.tables e below (T'.setTop (mkF m 116 #[.val (.int p1), .val (.long q2), .second, .val (.long q3), .second, .val (.int (Int32.ofNat n)), .val (.ref dd), .unset, .unset, .unset, .unset, .unset, .unset] [])) tgt → Steps p.tables e below (T.setTop (mkF m 99 #[.val (.int p1), .val (.long q2), .second, .val (.long q3), .second, .val (.int (Int32.ofNat n)), .val (.ref dd), .unset, .unset, .unset, .unset, .unset, .unset] [])) tgt := by
  by_cases hk : 5 < n
  · rw [Nat.min_eq_left (show 5 ≤ n by omega)] at A
    rw [Nat.min_eq_left (show 5 + 1 ≤ n by omega)]
    exact own_blkY5 hw hn hnz g_dd hx hby hml hZ hown p1 q2 q3 hk A
  · rw [Nat.min_eq_right (show n ≤ 5 by omega)] at A
    rw [Nat.min_eq_right (show n ≤ 5 + 1 by omega)]
    exact ⟨T, locs, A, fun tgt kk => own_blkN5 (kd := kd) hw hn hnz g_dd hx hby hml hZ hown p1 q2 q3 hk A.1 tgt kk⟩
set_option maxRecDepth 65536 in
set_option maxHeartbeats 40000000 in
theorem own_blkY6 {p : Program} {l : Launch} {e : Env} {s : State} {m : MethodId} {args : Array Value} {below : List Frame} {meth : Method} {c : Code} {Z : State} {a0 : Array Value} (hw : ∀ d ∈ tables_1, d.before a0 Z = true) {n0 : Nat} {dd : Addr} {kd : ClassId} {n : Nat} (hn : n ≤ 10) (hnz : Z.heap.size ≤ n0) (g_dd : n0 ≤ dd) (hx : p.tables.exec = Jvm.exec) (hby : c.code = code) (hml : c.maxLocals = 13) (hZ : Z.Warmed39 s.vm) (hown : s.vm.findClass "com/example/mavs/mavs/activation/Base32EncodePinLaw" = some m.cls) (p1 : Int32) (q2 q3 : Int64) {T : State} {locs : List Loc} (hk : 6 < n) (A : own_lat p l e s m args below meth c Z n0 dd kd n T locs (own_by q2 q3 6)) :
    ∃ (T' : State) (locs' : List Loc), own_lat p l e s m args below meth c Z n0 dd kd n T' locs' (own_by q2 q3 (6 + 1)) ∧ ∀ tgt, Steps p.tables e below (T'.setTop (mkF m 136 #[.val (.int p1), .val (.long q2), .second, .val (.long q3), .second, .val (.int (Int32.ofNat n)), .val (.ref dd), .unset, .unset, .unset, .unset, .unset, .unset] [])) tgt → Steps p.tables e below (T.setTop (mkF m 116 #[.val (.int p1), .val (.long q2), .second, .val (.long q3), .second, .val (.int (Int32.ofNat n)), .val (.ref dd), .unset, .unset, .unset, .unset, .unset, .unset] [])) tgt := by
  obtain ⟨X, N0, OL, Z0, E_d, V_d⟩ := A
  have sg0 : ∀ tgt, Steps p.tables e below (T.setTop (mkF m 131 #[.val (.int p1), .val (.long q2), .second, .val (.long q3), .second, .val (.int (Int32.ofNat n)), .val (.ref dd), .unset, .unset, .unset, .unset, .unset, .unset] [(.int (6 : Int32)), (.long q3), (.long q2), (.int (6 : Int32)), (.ref dd)])) tgt → Steps p.tables e below (T.setTop (mkF m 116 #[.val (.int p1), .val (.long q2), .second, .val (.long q3), .second, .val (.int (Int32.ofNat n)), .val (.ref dd), .unset, .unset, .unset, .unset, .unset, .unset] [])) tgt := by
    intro tgt kk
    show Steps p.tables e below (T.setTop (mkF m 116 #[.val (.int p1), .val (.long q2), .second, .val (.long q3), .second, .val (.int (Int32.ofNat n)), .val (.ref dd), .unset, .unset, .unset, .unset, .unset, .unset] [])) _
    refine XS.iload X.here hx rfl (hb hby at_116) rfl ?_
    show Steps p.tables e below (T.setTop (mkF m 118 #[.val (.int p1), .val (.long q2), .second, .val (.long q3), .second, .val (.int (Int32.ofNat n)), .val (.ref dd), .unset, .unset, .unset, .unset, .unset, .unset] [(.int (Int32.ofNat n))])) _
    refine XT.bipushV X.here hx rfl (6 : Int32) (hb hby at_118) (by decide) ?_
    show Steps p.tables e below (T.setTop (mkF m 120 #[.val (.int p1), .val (.long q2), .second, .val (.long q3), .second, .val (.int (Int32.ofNat n)), .val (.ref dd), .unset, .unset, .unset, .unset, .unset, .unset] [(.int (6 : Int32)), (.int (Int32.ofNat n))])) _
    refine XS.icmpNo X.here hx rfl (hb hby at_120) rfl (XT.ii_le_f (show (6 : Int32) < Int32.ofNat n from own_ltN (k := 6) hk (by omega))) ?_
    show Steps p.tables e below (T.setTop (mkF m 123 #[.val (.int p1), .val (.long q2), .second, .val (.long q3), .second, .val (.int (Int32.ofNat n)), .val (.ref dd), .unset, .unset, .unset, .unset, .unset, .unset] [])) _
    refine XS.aload X.here hx rfl (hb hby at_123) rfl rfl ?_
    show Steps p.tables e below (T.setTop (mkF m 125 #[.val (.int p1), .val (.long q2), .second, .val (.long q3), .second, .val (.int (Int32.ofNat n)), .val (.ref dd), .unset, .unset, .unset, .unset, .unset, .unset] [(.ref dd)])) _
    refine XT.bipushV X.here hx rfl (6 : Int32) (hb hby at_125) (by decide) ?_
    show Steps p.tables e below (T.setTop (mkF m 127 #[.val (.int p1), .val (.long q2), .second, .val (.long q3), .second, .val (.int (Int32.ofNat n)), .val (.ref dd), .unset, .unset, .unset, .unset, .unset, .unset] [(.int (6 : Int32)), (.ref dd)])) _
    refine XT.lloadN X.here hx rfl (hb hby at_127) rfl ?_
    show Steps p.tables e below (T.setTop (mkF m 128 #[.val (.int p1), .val (.long q2), .second, .val (.long q3), .second, .val (.int (Int32.ofNat n)), .val (.ref dd), .unset, .unset, .unset, .unset, .unset, .unset] [(.long q2), (.int (6 : Int32)), (.ref dd)])) _
    refine XT.lloadN X.here hx rfl (hb hby at_128) rfl ?_
    show Steps p.tables e below (T.setTop (mkF m 129 #[.val (.int p1), .val (.long q2), .second, .val (.long q3), .second, .val (.int (Int32.ofNat n)), .val (.ref dd), .unset, .unset, .unset, .unset, .unset, .unset] [(.long q3), (.long q2), (.int (6 : Int32)), (.ref dd)])) _
    refine XT.bipushV X.here hx rfl (6 : Int32) (hb hby at_129) (by decide) ?_
    exact kk
  -- pc 131: com/example/mavs/mavs/activation/Base32EncodePinLaw.rawByte
  obtain ⟨_, _, ⟨T1, L1, k1, n1⟩, -, X1, ⟨Lc1, hQ1, l1, y1, z1⟩, st1⟩ := Jvm.LawKit.callS X hx (y := (⟨"com/example/mavs/mavs/activation/Base32EncodePinLaw", "rawByte", "(JJI)I"⟩ : MethodName)) hown (mvT hZ (hw _ (List.mem_of_getElem? (i := 101) rfl))) (mvT hZ (hw _ (List.mem_of_getElem? (i := 102) rfl))) (mvT hZ (hw _ (List.mem_of_getElem? (i := 82) rfl))) (mvT hZ (hw _ (List.mem_of_getElem? (i := 103) rfl))) (by decide) (backOf (W := 2) (rm18 l Z a0 hw [] q2 q3 (6 : Int32)  T.heap n0 Z0 ) hZ (hw _ (List.mem_of_getElem? (i := 103) rfl)) (hw _ (List.mem_of_getElem? (i := 82) rfl)) (by decide) (by decide)) (g := (mkF m 131 #[.val (.int p1), .val (.long q2), .second, .val (.long q3), .second, .val (.int (Int32.ofNat n)), .val (.ref dd), .unset, .unset, .unset, .unset, .unset, .unset] [(.int (6 : Int32)), (.long q3), (.long q2), (.int (6 : Int32)), (.ref dd)])) rfl (by rw [hml]; rfl) (argsL := [(.long q2), (.long q3), (.int (6 : Int32))]) (rest := [(.int (6 : Int32)), (.ref dd)]) (lenOf own_pd13 rfl) rfl (by show 2 * 0 + _ ≤ _; exact Nat.le_of_eq rfl) (hb hby at_131) (fun _ _ => ⟨rfl, rfl, (by decide : 1 + 0 ≤ _), (by decide : 10 + 0 ≤ _)⟩)
  dsimp only [Pt.U, Pt.locs, Pt.cells, Pt.slots] at X1 l1 y1 z1 st1 hQ1
  subst l1 y1 z1
  obtain ⟨rfl, N1q, e1⟩ := hQ1
  have N1 := Fr.app N0 N1q
  have sg2 : ∀ tgt, Steps p.tables e below (T1.setTop (mkF m 135 #[.val (.int p1), .val (.long q2), .second, .val (.long q3), .second, .val (.int (Int32.ofNat n)), .val (.ref dd), .unset, .unset, .unset, .unset, .unset, .unset] [(.int ((own_raw q2 q3 (6 : Int32)).toInt8.toInt32)), (.int (6 : Int32)), (.ref dd)])) tgt → Steps p.tables e below (T1.setTop (mkF m 134 #[.val (.int p1), .val (.long q2), .second, .val (.long q3), .second, .val (.int (Int32.ofNat n)), .val (.ref dd), .unset, .unset, .unset, .unset, .unset, .unset] [(.int (own_raw q2 q3 (6 : Int32))), (.int (6 : Int32)), (.ref dd)])) tgt := by
    intro tgt kk
    show Steps p.tables e below (T1.setTop (mkF m 134 #[.val (.int p1), .val (.long q2), .second, .val (.long q3), .second, .val (.int (Int32.ofNat n)), .val (.ref dd), .unset, .unset, .unset, .unset, .unset, .unset] [(.int (own_raw q2 q3 (6 : Int32))), (.int (6 : Int32)), (.ref dd)])) _
    refine XT.i2b X1.here hx rfl (hb hby at_134) rfl ?_
    exact kk
  obtain ⟨cl_c1, Ar_c1, q_c1, S_c1, N_c1, H_c1, G_c1⟩ := id V_d
  have hin2_ : ¬ ((6 : Int32) < 0 ∨ cl_c1.slots.size ≤ ((6 : Int32)).toNatClampNeg) := inb_of S_c1 ⟨by decide, (show (6 : Int32) < Int32.ofNat n from own_ltN (k := 6) hk (by omega))⟩
  obtain ⟨T2, h2, X2, e2, W2, st2⟩ := stB X1 hx hZ e1 Ar_c1 (j := (6 : Int32)) hin2_ (g := (mkF m 135 #[.val (.int p1), .val (.long q2), .second, .val (.long q3), .second, .val (.int (Int32.ofNat n)), .val (.ref dd), .unset, .unset, .unset, .unset, .unset, .unset] [(.int ((own_raw q2 q3 (6 : Int32)).toInt8.toInt32)), (.int (6 : Int32)), (.ref dd)])) rfl rfl (hb hby at_135)
  have N2 := Fr.snoc X2 N1 g_dd
  have Z_2 : n0 ≤ h2.size := Nat.le_trans Z0 (Keep.of_wr W2).1
  have E_3 := Exa.wr W2 E_d
  have OL_4 := Old.wr OL W2 (Nat.le_trans hnz g_dd)
  have V2_ : Arv Z h2 dd kd .byte (Int32.ofNat n) ((own_by q2 q3 6) ++ [.int ((own_raw q2 q3 (6 : Int32)).toInt8.toInt32)]) (.int (0 : Int32)) := own_app Ar_c1 q_c1 S_c1 N_c1 H_c1 G_c1 W2 (by rw [own_by_len]; decide) (own_narb _)
  subst e2
  have VV : Arv Z T2.heap dd kd .byte (Int32.ofNat n) (own_by q2 q3 (6 + 1)) (.int (0 : Int32)) := by rw [own_by_succ]; exact V2_
  refine ⟨T2, _, ⟨X2, N2, OL_4, Z_2, E_3, VV⟩, fun tgt kk => ?_⟩
  refine sg0 _ ?_
  refine st1 _ ?_
  refine sg2 _ ?_
  refine st2 _ ?_
  exact kk
set_option maxRecDepth 65536 in
set_option maxHeartbeats 40000000 in
theorem own_blkN6 {p : Program} {l : Launch} {e : Env} {s : State} {m : MethodId} {args : Array Value} {below : List Frame} {meth : Method} {c : Code} {Z : State} {a0 : Array Value} (hw : ∀ d ∈ tables_1, d.before a0 Z = true) {n0 : Nat} {dd : Addr} {kd : ClassId} {n : Nat} (hn : n ≤ 10) (hnz : Z.heap.size ≤ n0) (g_dd : n0 ≤ dd) (hx : p.tables.exec = Jvm.exec) (hby : c.code = code) (hml : c.maxLocals = 13) (hZ : Z.Warmed39 s.vm) (hown : s.vm.findClass "com/example/mavs/mavs/activation/Base32EncodePinLaw" = some m.cls) (p1 : Int32) (q2 q3 : Int64) {T : State} {locs : List Loc} (hk : ¬ 6 < n) (X : Stand p l e room_1 s m args below meth c T locs 1 10) (tgt : State) :
    Steps p.tables e below (T.setTop (mkF m 136 #[.val (.int p1), .val (.long q2), .second, .val (.long q3), .second, .val (.int (Int32.ofNat n)), .val (.ref dd), .unset, .unset, .unset, .unset, .unset, .unset] [])) tgt → Steps p.tables e below (T.setTop (mkF m 116 #[.val (.int p1), .val (.long q2), .second, .val (.long q3), .second, .val (.int (Int32.ofNat n)), .val (.ref dd), .unset, .unset, .unset, .unset, .unset, .unset] [])) tgt := by
  have sg0 : ∀ tgt, Steps p.tables e below (T.setTop (mkF m 136 #[.val (.int p1), .val (.long q2), .second, .val (.long q3), .second, .val (.int (Int32.ofNat n)), .val (.ref dd), .unset, .unset, .unset, .unset, .unset, .unset] [])) tgt → Steps p.tables e below (T.setTop (mkF m 116 #[.val (.int p1), .val (.long q2), .second, .val (.long q3), .second, .val (.int (Int32.ofNat n)), .val (.ref dd), .unset, .unset, .unset, .unset, .unset, .unset] [])) tgt := by
    intro tgt kk
    show Steps p.tables e below (T.setTop (mkF m 116 #[.val (.int p1), .val (.long q2), .second, .val (.long q3), .second, .val (.int (Int32.ofNat n)), .val (.ref dd), .unset, .unset, .unset, .unset, .unset, .unset] [])) _
    refine XS.iload X.here hx rfl (hb hby at_116) rfl ?_
    show Steps p.tables e below (T.setTop (mkF m 118 #[.val (.int p1), .val (.long q2), .second, .val (.long q3), .second, .val (.int (Int32.ofNat n)), .val (.ref dd), .unset, .unset, .unset, .unset, .unset, .unset] [(.int (Int32.ofNat n))])) _
    refine XT.bipushV X.here hx rfl (6 : Int32) (hb hby at_118) (by decide) ?_
    show Steps p.tables e below (T.setTop (mkF m 120 #[.val (.int p1), .val (.long q2), .second, .val (.long q3), .second, .val (.int (Int32.ofNat n)), .val (.ref dd), .unset, .unset, .unset, .unset, .unset, .unset] [(.int (6 : Int32)), (.int (Int32.ofNat n))])) _
    refine XS.icmpYes X.here hx rfl (pc0 := 120) (pc' := 136) rfl (hb hby at_120) rfl (XT.ii_le_t (show ¬ (6 : Int32) < Int32.ofNat n from own_nltN (k := 6) hk (by omega) (by omega))) (by decide) (by decide) ?_
    exact kk
  refine fun kk => ?_
  refine sg0 _ ?_
  exact kk
theorem own_blk6 {p : Program} {l : Launch} {e : Env} {s : State} {m : MethodId} {args : Array Value} {below : List Frame} {meth : Method} {c : Code} {Z : State} {a0 : Array Value} (hw : ∀ d ∈ tables_1, d.before a0 Z = true) {n0 : Nat} {dd : Addr} {kd : ClassId} {n : Nat} (hn : n ≤ 10) (hnz : Z.heap.size ≤ n0) (g_dd : n0 ≤ dd) (hx : p.tables.exec = Jvm.exec) (hby : c.code = code) (hml : c.maxLocals = 13) (hZ : Z.Warmed39 s.vm) (hown : s.vm.findClass "com/example/mavs/mavs/activation/Base32EncodePinLaw" = some m.cls) (p1 : Int32) (q2 q3 : Int64) {T : State} {locs : List Loc} (A : own_lat p l e s m args below meth c Z n0 dd kd n T locs (own_by q2 q3 (min 6 n))) :
    ∃ (T' : State) (locs' : List Loc), own_lat p l e s m args below meth c Z n0 dd kd n T' locs' (own_by q2 q3 (min (6 + 1) n)) ∧ ∀ tgt, Steps p.tables e below (T'.setTop (mkF m 136 #[.val (.int p1), .val (.long q2), .second, .val (.long q3), .second, .val (.int (Int32.ofNat n)), .val (.ref dd), .unset, .unset, .unset, .unset, .unset, .unset] [])) tgt → Steps p.tables e below (T.setTop (mkF m 116 #[.val (.int p1), .val (.long q2), .second, .val (.long q3), .second, .val (.int (Int32.ofNat n)), .val (.ref dd), .unset, .unset, .unset, .unset, .unset, .unset] [])) tgt := by
  by_cases hk : 6 < n
  · rw [Nat.min_eq_left (show 6 ≤ n by omega)] at A
    rw [Nat.min_eq_left (show 6 + 1 ≤ n by omega)]
    exact own_blkY6 hw hn hnz g_dd hx hby hml hZ hown p1 q2 q3 hk A
  · rw [Nat.min_eq_right (show n ≤ 6 by omega)] at A
    rw [Nat.min_eq_right (show n ≤ 6 + 1 by omega)]
    exact ⟨T, locs, A, fun tgt kk => own_blkN6 (kd := kd) hw hn hnz g_dd hx hby hml hZ hown p1 q2 q3 hk A.1 tgt kk⟩
set_option maxRecDepth 65536 in
set_option maxHeartbeats 40000000 in
theorem own_blkY7 {p : Program} {l : Launch} {e : Env} {s : State} {m : MethodId} {args : Array Value} {below : List Frame} {meth : Method} {c : Code} {Z : State} {a0 : Array Value} (hw : ∀ d ∈ tables_1, d.before a0 Z = true) {n0 : Nat} {dd : Addr} {kd : ClassId} {n : Nat} (hn : n ≤ 10) (hnz : Z.heap.size ≤ n0) (g_dd : n0 ≤ dd) (hx : p.tables.exec = Jvm.exec) (hby : c.code = code) (hml : c.maxLocals = 13) (hZ : Z.Warmed39 s.vm) (hown : s.vm.findClass "com/example/mavs/mavs/activation/Base32EncodePinLaw" = some m.cls) (p1 : Int32) (q2 q3 : Int64) {T : State} {locs : List Loc} (hk : 7 < n) (A : own_lat p l e s m args below meth c Z n0 dd kd n T locs (own_by q2 q3 7)) :
    ∃ (T' : State) (locs' : List Loc), own_lat p l e s m args below meth c Z n0 dd kd n T' locs' (own_by q2 q3 (7 + 1)) ∧ ∀ tgt, Steps p.tables e below (T'.setTop (mkF m 156 #[.val (.int p1), .val (.long q2), .second, .val (.long q3), .second, .val (.int (Int32.ofNat n)), .val (.ref dd), .unset, .unset, .unset, .unset, .unset, .unset] [])) tgt → Steps p.tables e below (T.setTop (mkF m 136 #[.val (.int p1), .val (.long q2), .second, .val (.long q3), .second, .val (.int (Int32.ofNat n)), .val (.ref dd), .unset, .unset, .unset, .unset, .unset, .unset] [])) tgt := by
  obtain ⟨X, N0, OL, Z0, E_d, V_d⟩ := A
  have sg0 : ∀ tgt, Steps p.tables e below (T.setTop (mkF m 151 #[.val (.int p1), .val (.long q2), .second, .val (.long q3), .second, .val (.int (Int32.ofNat n)), .val (.ref dd), .unset, .unset, .unset, .unset, .unset, .unset] [(.int (7 : Int32)), (.long q3), (.long q2), (.int (7 : Int32)), (.ref dd)])) tgt → Steps p.tables e below (T.setTop (mkF m 136 #[.val (.int p1), .val (.long q2), .second, .val (.long q3), .second, .val (.int (Int32.ofNat n)), .val (.ref dd), .unset, .unset, .unset, .unset, .unset, .unset] [])) tgt := by
    intro tgt kk
    show Steps p.tables e below (T.setTop (mkF m 136 #[.val (.int p1), .val (.long q2), .second, .val (.long q3), .second, .val (.int (Int32.ofNat n)), .val (.ref dd), .unset, .unset, .unset, .unset, .unset, .unset] [])) _
    refine XS.iload X.here hx rfl (hb hby at_136) rfl ?_
    show Steps p.tables e below (T.setTop (mkF m 138 #[.val (.int p1), .val (.long q2), .second, .val (.long q3), .second, .val (.int (Int32.ofNat n)), .val (.ref dd), .unset, .unset, .unset, .unset, .unset, .unset] [(.int (Int32.ofNat n))])) _
    refine XT.bipushV X.here hx rfl (7 : Int32) (hb hby at_138) (by decide) ?_
    show Steps p.tables e below (T.setTop (mkF m 140 #[.val (.int p1), .val (.long q2), .second, .val (.long q3), .second, .val (.int (Int32.ofNat n)), .val (.ref dd), .unset, .unset, .unset, .unset, .unset, .unset] [(.int (7 : Int32)), (.int (Int32.ofNat n))])) _
    refine XS.icmpNo X.here hx rfl (hb hby at_140) rfl (XT.ii_le_f (show (7 : Int32) < Int32.ofNat n from own_ltN (k := 7) hk (by omega))) ?_
    show Steps p.tables e below (T.setTop (mkF m 143 #[.val (.int p1), .val (.long q2), .second, .val (.long q3), .second, .val (.int (Int32.ofNat n)), .val (.ref dd), .unset, .unset, .unset, .unset, .unset, .unset] [])) _
    refine XS.aload X.here hx rfl (hb hby at_143) rfl rfl ?_
    show Steps p.tables e below (T.setTop (mkF m 145 #[.val (.int p1), .val (.long q2), .second, .val (.long q3), .second, .val (.int (Int32.ofNat n)), .val (.ref dd), .unset, .unset, .unset, .unset, .unset, .unset] [(.ref dd)])) _
    refine XT.bipushV X.here hx rfl (7 : Int32) (hb hby at_145) (by decide) ?_
    show Steps p.tables e below (T.setTop (mkF m 147 #[.val (.int p1), .val (.long q2), .second, .val (.long q3), .second, .val (.int (Int32.ofNat n)), .val (.ref dd), .unset, .unset, .unset, .unset, .unset, .unset] [(.int (7 : Int32)), (.ref dd)])) _
    refine XT.lloadN X.here hx rfl (hb hby at_147) rfl ?_
    show Steps p.tables e below (T.setTop (mkF m 148 #[.val (.int p1), .val (.long q2), .second, .val (.long q3), .second, .val (.int (Int32.ofNat n)), .val (.ref dd), .unset, .unset, .unset, .unset, .unset, .unset] [(.long q2), (.int (7 : Int32)), (.ref dd)])) _
    refine XT.lloadN X.here hx rfl (hb hby at_148) rfl ?_
    show Steps p.tables e below (T.setTop (mkF m 149 #[.val (.int p1), .val (.long q2), .second, .val (.long q3), .second, .val (.int (Int32.ofNat n)), .val (.ref dd), .unset, .unset, .unset, .unset, .unset, .unset] [(.long q3), (.long q2), (.int (7 : Int32)), (.ref dd)])) _
    refine XT.bipushV X.here hx rfl (7 : Int32) (hb hby at_149) (by decide) ?_
    exact kk
  -- pc 151: com/example/mavs/mavs/activation/Base32EncodePinLaw.rawByte
  obtain ⟨_, _, ⟨T1, L1, k1, n1⟩, -, X1, ⟨Lc1, hQ1, l1, y1, z1⟩, st1⟩ := Jvm.LawKit.callS X hx (y := (⟨"com/example/mavs/mavs/activation/Base32EncodePinLaw", "rawByte", "(JJI)I"⟩ : MethodName)) hown (mvT hZ (hw _ (List.mem_of_getElem? (i := 101) rfl))) (mvT hZ (hw _ (List.mem_of_getElem? (i := 102) rfl))) (mvT hZ (hw _ (List.mem_of_getElem? (i := 82) rfl))) (mvT hZ (hw _ (List.mem_of_getElem? (i := 103) rfl))) (by decide) (backOf (W := 2) (rm18 l Z a0 hw [] q2 q3 (7 : Int32)  T.heap n0 Z0 ) hZ (hw _ (List.mem_of_getElem? (i := 103) rfl)) (hw _ (List.mem_of_getElem? (i := 82) rfl)) (by decide) (by decide)) (g := (mkF m 151 #[.val (.int p1), .val (.long q2), .second, .val (.long q3), .second, .val (.int (Int32.ofNat n)), .val (.ref dd), .unset, .unset, .unset, .unset, .unset, .unset] [(.int (7 : Int32)), (.long q3), (.long q2), (.int (7 : Int32)), (.ref dd)])) rfl (by rw [hml]; rfl) (argsL := [(.long q2), (.long q3), (.int (7 : Int32))]) (rest := [(.int (7 : Int32)), (.ref dd)]) (lenOf own_pd13 rfl) rfl (by show 2 * 0 + _ ≤ _; exact Nat.le_of_eq rfl) (hb hby at_151) (fun _ _ => ⟨rfl, rfl, (by decide : 1 + 0 ≤ _), (by decide : 10 + 0 ≤ _)⟩)
  dsimp only [Pt.U, Pt.locs, Pt.cells, Pt.slots] at X1 l1 y1 z1 st1 hQ1
  subst l1 y1 z1
  obtain ⟨rfl, N1q, e1⟩ := hQ1
  have N1 := Fr.app N0 N1q
  have sg2 : ∀ tgt, Steps p.tables e below (T1.setTop (mkF m 155 #[.val (.int p1), .val (.long q2), .second, .val (.long q3), .second, .val (.int (Int32.ofNat n)), .val (.ref dd), .unset, .unset, .unset, .unset, .unset, .unset] [(.int ((own_raw q2 q3 (7 : Int32)).toInt8.toInt32)), (.int (7 : Int32)), (.ref dd)])) tgt → Steps p.tables e below (T1.setTop (mkF m 154 #[.val (.int p1), .val (.long q2), .second, .val (.long q3), .second, .val (.int (Int32.ofNat n)), .val (.ref dd), .unset, .unset, .unset, .unset, .unset, .unset] [(.int (own_raw q2 q3 (7 : Int32))), (.int (7 : Int32)), (.ref dd)])) tgt := by
    intro tgt kk
    show Steps p.tables e below (T1.setTop (mkF m 154 #[.val (.int p1), .val (.long q2), .second, .val (.long q3), .second, .val (.int (Int32.ofNat n)), .val (.ref dd), .unset, .unset, .unset, .unset, .unset, .unset] [(.int (own_raw q2 q3 (7 : Int32))), (.int (7 : Int32)), (.ref dd)])) _
    refine XT.i2b X1.here hx rfl (hb hby at_154) rfl ?_
    exact kk
  obtain ⟨cl_c1, Ar_c1, q_c1, S_c1, N_c1, H_c1, G_c1⟩ := id V_d
  have hin2_ : ¬ ((7 : Int32) < 0 ∨ cl_c1.slots.size ≤ ((7 : Int32)).toNatClampNeg) := inb_of S_c1 ⟨by decide, (show (7 : Int32) < Int32.ofNat n from own_ltN (k := 7) hk (by omega))⟩
  obtain ⟨T2, h2, X2, e2, W2, st2⟩ := stB X1 hx hZ e1 Ar_c1 (j := (7 : Int32)) hin2_ (g := (mkF m 155 #[.val (.int p1), .val (.long q2), .second, .val (.long q3), .second, .val (.int (Int32.ofNat n)), .val (.ref dd), .unset, .unset, .unset, .unset, .unset, .unset] [(.int ((own_raw q2 q3 (7 : Int32)).toInt8.toInt32)), (.int (7 : Int32)), (.ref dd)])) rfl rfl (hb hby at_155)
  have N2 := Fr.snoc X2 N1 g_dd
  have Z_2 : n0 ≤ h2.size := Nat.le_trans Z0 (Keep.of_wr W2).1
  have E_3 := Exa.wr W2 E_d
  have OL_4 := Old.wr OL W2 (Nat.le_trans hnz g_dd)
  have V2_ : Arv Z h2 dd kd .byte (Int32.ofNat n) ((own_by q2 q3 7) ++ [.int ((own_raw q2 q3 (7 : Int32)).toInt8.toInt32)]) (.int (0 : Int32)) := own_app Ar_c1 q_c1 S_c1 N_c1 H_c1 G_c1 W2 (by rw [own_by_len]; decide) (own_narb _)
  subst e2
  have VV : Arv Z T2.heap dd kd .byte (Int32.ofNat n) (own_by q2 q3 (7 + 1)) (.int (0 : Int32)) := by rw [own_by_succ]; exact V2_
  refine ⟨T2, _, ⟨X2, N2, OL_4, Z_2, E_3, VV⟩, fun tgt kk => ?_⟩
  refine sg0 _ ?_
  refine st1 _ ?_
  refine sg2 _ ?_
  refine st2 _ ?_
  exact kk
set_option maxRecDepth 65536 in
set_option maxHeartbeats 40000000 in
theorem own_blkN7 {p : Program} {l : Launch} {e : Env} {s : State} {m : MethodId} {args : Array Value} {below : List Frame} {meth : Method} {c : Code} {Z : State} {a0 : Array Value} (hw : ∀ d ∈ tables_1, d.before a0 Z = true) {n0 : Nat} {dd : Addr} {kd : ClassId} {n : Nat} (hn : n ≤ 10) (hnz : Z.heap.size ≤ n0) (g_dd : n0 ≤ dd) (hx : p.tables.exec = Jvm.exec) (hby : c.code = code) (hml : c.maxLocals = 13) (hZ : Z.Warmed39 s.vm) (hown : s.vm.findClass "com/example/mavs/mavs/activation/Base32EncodePinLaw" = some m.cls) (p1 : Int32) (q2 q3 : Int64) {T : State} {locs : List Loc} (hk : ¬ 7 < n) (X : Stand p l e room_1 s m args below meth c T locs 1 10) (tgt : State) :
    Steps p.tables e below (T.setTop (mkF m 156 #[.val (.int p1), .val (.long q2), .second, .val (.long q3), .second, .val (.int (Int32.ofNat n)), .val (.ref dd), .unset, .unset, .unset, .unset, .unset, .unset] [])) tgt → Steps p.tables e below (T.setTop (mkF m 136 #[.val (.int p1), .val (.long q2), .second, .val (.long q3), .second, .val (.int (Int32.ofNat n)), .val (.ref dd), .unset, .unset, .unset, .unset, .unset, .unset] [])) tgt := by
  have sg0 : ∀ tgt, Steps p.tables e below (T.setTop (mkF m 156 #[.val (.int p1), .val (.long q2), .second, .val (.long q3), .second, .val (.int (Int32.ofNat n)), .val (.ref dd), .unset, .unset, .unset, .unset, .unset, .unset] [])) tgt → Steps p.tables e below (T.setTop (mkF m 136 #[.val (.int p1), .val (.long q2), .second, .val (.long q3), .second, .val (.int (Int32.ofNat n)), .val (.ref dd), .unset, .unset, .unset, .unset, .unset, .unset] [])) tgt := by
    intro tgt kk
    show Steps p.tables e below (T.setTop (mkF m 136 #[.val (.int p1), .val (.long q2), .second, .val (.long q3), .second, .val (.int (Int32.ofNat n)), .val (.ref dd), .unset, .unset, .unset, .unset, .unset, .unset] [])) _
    refine XS.iload X.here hx rfl (hb hby at_136) rfl ?_
    show Steps p.tables e below (T.setTop (mkF m 138 #[.val (.int p1), .val (.long q2), .second, .val (.long q3), .second, .val (.int (Int32.ofNat n)), .val (.ref dd), .unset, .unset, .unset, .unset, .unset, .unset] [(.int (Int32.ofNat n))])) _
    refine XT.bipushV X.here hx rfl (7 : Int32) (hb hby at_138) (by decide) ?_
    show Steps p.tables e below (T.setTop (mkF m 140 #[.val (.int p1), .val (.long q2), .second, .val (.long q3), .second, .val (.int (Int32.ofNat n)), .val (.ref dd), .unset, .unset, .unset, .unset, .unset, .unset] [(.int (7 : Int32)), (.int (Int32.ofNat n))])) _
    refine XS.icmpYes X.here hx rfl (pc0 := 140) (pc' := 156) rfl (hb hby at_140) rfl (XT.ii_le_t (show ¬ (7 : Int32) < Int32.ofNat n from own_nltN (k := 7) hk (by omega) (by omega))) (by decide) (by decide) ?_
    exact kk
  refine fun kk => ?_
  refine sg0 _ ?_
  exact kk
theorem own_blk7 {p : Program} {l : Launch} {e : Env} {s : State} {m : MethodId} {args : Array Value} {below : List Frame} {meth : Method} {c : Code} {Z : State} {a0 : Array Value} (hw : ∀ d ∈ tables_1, d.before a0 Z = true) {n0 : Nat} {dd : Addr} {kd : ClassId} {n : Nat} (hn : n ≤ 10) (hnz : Z.heap.size ≤ n0) (g_dd : n0 ≤ dd) (hx : p.tables.exec = Jvm.exec) (hby : c.code = code) (hml : c.maxLocals = 13) (hZ : Z.Warmed39 s.vm) (hown : s.vm.findClass "com/example/mavs/mavs/activation/Base32EncodePinLaw" = some m.cls) (p1 : Int32) (q2 q3 : Int64) {T : State} {locs : List Loc} (A : own_lat p l e s m args below meth c Z n0 dd kd n T locs (own_by q2 q3 (min 7 n))) :
    ∃ (T' : State) (locs' : List Loc), own_lat p l e s m args below meth c Z n0 dd kd n T' locs' (own_by q2 q3 (min (7 + 1) n)) ∧ ∀ tgt, Steps p.tables e below (T'.setTop (mkF m 156 #[.val (.int p1), .val (.long q2), .second, .val (.long q3), .second, .val (.int (Int32.ofNat n)), .val (.ref dd), .unset, .unset, .unset, .unset, .unset, .unset] [])) tgt → Steps p.tables e below (T.setTop (mkF m 136 #[.val (.int p1), .val (.long q2), .second, .val (.long q3), .second, .val (.int (Int32.ofNat n)), .val (.ref dd), .unset, .unset, .unset, .unset, .unset, .unset] [])) tgt := by
  by_cases hk : 7 < n
  · rw [Nat.min_eq_left (show 7 ≤ n by omega)] at A
    rw [Nat.min_eq_left (show 7 + 1 ≤ n by omega)]
    exact own_blkY7 hw hn hnz g_dd hx hby hml hZ hown p1 q2 q3 hk A
  · rw [Nat.min_eq_right (show n ≤ 7 by omega)] at A
    rw [Nat.min_eq_right (show n ≤ 7 + 1 by omega)]
    exact ⟨T, locs, A, fun tgt kk => own_blkN7 (kd := kd) hw hn hnz g_dd hx hby hml hZ hown p1 q2 q3 hk A.1 tgt kk⟩
set_option maxRecDepth 65536 in
set_option maxHeartbeats 40000000 in
theorem own_blkY8 {p : Program} {l : Launch} {e : Env} {s : State} {m : MethodId} {args : Array Value} {below : List Frame} {meth : Method} {c : Code} {Z : State} {a0 : Array Value} (hw : ∀ d ∈ tables_1, d.before a0 Z = true) {n0 : Nat} {dd : Addr} {kd : ClassId} {n : Nat} (hn : n ≤ 10) (hnz : Z.heap.size ≤ n0) (g_dd : n0 ≤ dd) (hx : p.tables.exec = Jvm.exec) (hby : c.code = code) (hml : c.maxLocals = 13) (hZ : Z.Warmed39 s.vm) (hown : s.vm.findClass "com/example/mavs/mavs/activation/Base32EncodePinLaw" = some m.cls) (p1 : Int32) (q2 q3 : Int64) {T : State} {locs : List Loc} (hk : 8 < n) (A : own_lat p l e s m args below meth c Z n0 dd kd n T locs (own_by q2 q3 8)) :
    ∃ (T' : State) (locs' : List Loc), own_lat p l e s m args below meth c Z n0 dd kd n T' locs' (own_by q2 q3 (8 + 1)) ∧ ∀ tgt, Steps p.tables e below (T'.setTop (mkF m 176 #[.val (.int p1), .val (.long q2), .second, .val (.long q3), .second, .val (.int (Int32.ofNat n)), .val (.ref dd), .unset, .unset, .unset, .unset, .unset, .unset] [])) tgt → Steps p.tables e below (T.setTop (mkF m 156 #[.val (.int p1), .val (.long q2), .second, .val (.long q3), .second, .val (.int (Int32.ofNat n)), .val (.ref dd), .unset, .unset, .unset, .unset, .unset, .unset] [])) tgt := by
  obtain ⟨X, N0, OL, Z0, E_d, V_d⟩ := A
  have sg0 : ∀ tgt, Steps p.tables e below (T.setTop (mkF m 171 #[.val (.int p1), .val (.long q2), .second, .val (.long q3), .second, .val (.int (Int32.ofNat n)), .val (.ref dd), .unset, .unset, .unset, .unset, .unset, .unset] [(.int (8 : Int32)), (.long q3), (.long q2), (.int (8 : Int32)), (.ref dd)])) tgt → Steps p.tables e below (T.setTop (mkF m 156 #[.val (.int p1), .val (.long q2), .second, .val (.long q3), .second, .val (.int (Int32.ofNat n)), .val (.ref dd), .unset, .unset, .unset, .unset, .unset, .unset] [])) tgt := by
    intro tgt kk
    show Steps p.tables e below (T.setTop (mkF m 156 #[.val (.int p1), .val (.long q2), .second, .val (.long q3), .second, .val (.int (Int32.ofNat n)), .val (.ref dd), .unset, .unset, .unset, .unset, .unset, .unset] [])) _
    refine XS.iload X.here hx rfl (hb hby at_156) rfl ?_
    show Steps p.tables e below (T.setTop (mkF m 158 #[.val (.int p1), .val (.long q2), .second, .val (.long q3), .second, .val (.int (Int32.ofNat n)), .val (.ref dd), .unset, .unset, .unset, .unset, .unset, .unset] [(.int (Int32.ofNat n))])) _
    refine XT.bipushV X.here hx rfl (8 : Int32) (hb hby at_158) (by decide) ?_
    show Steps p.tables e below (T.setTop (mkF m 160 #[.val (.int p1), .val (.long q2), .second, .val (.long q3), .second, .val (.int (Int32.ofNat n)), .val (.ref dd), .unset, .unset, .unset, .unset, .unset, .unset] [(.int (8 : Int32)), (.int (Int32.ofNat n))])) _
    refine XS.icmpNo X.here hx rfl (hb hby at_160) rfl (XT.ii_le_f (show (8 : Int32) < Int32.ofNat n from own_ltN (k := 8) hk (by omega))) ?_
    show Steps p.tables e below (T.setTop (mkF m 163 #[.val (.int p1), .val (.long q2), .second, .val (.long q3), .second, .val (.int (Int32.ofNat n)), .val (.ref dd), .unset, .unset, .unset, .unset, .unset, .unset] [])) _
    refine XS.aload X.here hx rfl (hb hby at_163) rfl rfl ?_
    show Steps p.tables e below (T.setTop (mkF m 165 #[.val (.int p1), .val (.long q2), .second, .val (.long q3), .second, .val (.int (Int32.ofNat n)), .val (.ref dd), .unset, .unset, .unset, .unset, .unset, .unset] [(.ref dd)])) _
    refine XT.bipushV X.here hx rfl (8 : Int32) (hb hby at_165) (by decide) ?_
    show Steps p.tables e below (T.setTop (mkF m 167 #[.val (.int p1), .val (.long q2), .second, .val (.long q3), .second, .val (.int (Int32.ofNat n)), .val (.ref dd), .unset, .unset, .unset, .unset, .unset, .unset] [(.int (8 : Int32)), (.ref dd)])) _
    refine XT.lloadN X.here hx rfl (hb hby at_167) rfl ?_
    show Steps p.tables e below (T.setTop (mkF m 168 #[.val (.int p1), .val (.long q2), .second, .val (.long q3), .second, .val (.int (Int32.ofNat n)), .val (.ref dd), .unset, .unset, .unset, .unset, .unset, .unset] [(.long q2), (.int (8 : Int32)), (.ref dd)])) _
    refine XT.lloadN X.here hx rfl (hb hby at_168) rfl ?_
    show Steps p.tables e below (T.setTop (mkF m 169 #[.val (.int p1), .val (.long q2), .second, .val (.long q3), .second, .val (.int (Int32.ofNat n)), .val (.ref dd), .unset, .unset, .unset, .unset, .unset, .unset] [(.long q3), (.long q2), (.int (8 : Int32)), (.ref dd)])) _
    refine XT.bipushV X.here hx rfl (8 : Int32) (hb hby at_169) (by decide) ?_
    exact kk
  -- pc 171: com/example/mavs/mavs/activation/Base32EncodePinLaw.rawByte
  obtain ⟨_, _, ⟨T1, L1, k1, n1⟩, -, X1, ⟨Lc1, hQ1, l1, y1, z1⟩, st1⟩ := Jvm.LawKit.callS X hx (y := (⟨"com/example/mavs/mavs/activation/Base32EncodePinLaw", "rawByte", "(JJI)I"⟩ : MethodName)) hown (mvT hZ (hw _ (List.mem_of_getElem? (i := 101) rfl))) (mvT hZ (hw _ (List.mem_of_getElem? (i := 102) rfl))) (mvT hZ (hw _ (List.mem_of_getElem? (i := 82) rfl))) (mvT hZ (hw _ (List.mem_of_getElem? (i := 103) rfl))) (by decide) (backOf (W := 2) (rm18 l Z a0 hw [] q2 q3 (8 : Int32)  T.heap n0 Z0 ) hZ (hw _ (List.mem_of_getElem? (i := 103) rfl)) (hw _ (List.mem_of_getElem? (i := 82) rfl)) (by decide) (by decide)) (g := (mkF m 171 #[.val (.int p1), .val (.long q2), .second, .val (.long q3), .second, .val (.int (Int32.ofNat n)), .val (.ref dd), .unset, .unset, .unset, .unset, .unset, .unset] [(.int (8 : Int32)), (.long q3), (.long q2), (.int (8 : Int32)), (.ref dd)])) rfl (by rw [hml]; rfl) (argsL := [(.long q2), (.long q3), (.int (8 : Int32))]) (rest := [(.int (8 : Int32)), (.ref dd)]) (lenOf own_pd13 rfl) rfl (by show 2 * 0 + _ ≤ _; exact Nat.le_of_eq rfl) (hb hby at_171) (fun _ _ => ⟨rfl, rfl, (by decide : 1 + 0 ≤ _), (by decide : 10 + 0 ≤ _)⟩)
  dsimp only [Pt.U, Pt.locs, Pt.cells, Pt.slots] at X1 l1 y1 z1 st1 hQ1
  subst l1 y1 z1
  obtain ⟨rfl, N1q, e1⟩ := hQ1
  have N1 := Fr.app N0 N1q
  have sg2 : ∀ tgt, Steps p.tables e below (T1.setTop (mkF m 175 #[.val (.int p1), .val (.long q2), .second, .val (.long q3), .second, .val (.int (Int32.ofNat n)), .val (.ref dd), .unset, .unset, .unset, .unset, .unset, .unset] [(.int ((own_raw q2 q3 (8 : Int32)).toInt8.toInt32)), (.int (8 : Int32)), (.ref dd)])) tgt → Steps p.tables e below (T1.setTop (mkF m 174 #[.val (.int p1), .val (.long q2), .second, .val (.long q3), .second, .val (.int (Int32.ofNat n)), .val (.ref dd), .unset, .unset, .unset, .unset, .unset, .unset] [(.int (own_raw q2 q3 (8 : Int32))), (.int (8 : Int32)), (.ref dd)])) tgt := by
    intro tgt kk
    show Steps p.tables e below (T1.setTop (mkF m 174 #[.val (.int p1), .val (.long q2), .second, .val (.long q3), .second, .val (.int (Int32.ofNat n)), .val (.ref dd), .unset, .unset, .unset, .unset, .unset, .unset] [(.int (own_raw q2 q3 (8 : Int32))), (.int (8 : Int32)), (.ref dd)])) _
    refine XT.i2b X1.here hx rfl (hb hby at_174) rfl ?_
    exact kk
  obtain ⟨cl_c1, Ar_c1, q_c1, S_c1, N_c1, H_c1, G_c1⟩ := id V_d
  have hin2_ : ¬ ((8 : Int32) < 0 ∨ cl_c1.slots.size ≤ ((8 : Int32)).toNatClampNeg) := inb_of S_c1 ⟨by decide, (show (8 : Int32) < Int32.ofNat n from own_ltN (k := 8) hk (by omega))⟩
  obtain ⟨T2, h2, X2, e2, W2, st2⟩ := stB X1 hx hZ e1 Ar_c1 (j := (8 : Int32)) hin2_ (g := (mkF m 175 #[.val (.int p1), .val (.long q2), .second, .val (.long q3), .second, .val (.int (Int32.ofNat n)), .val (.ref dd), .unset, .unset, .unset, .unset, .unset, .unset] [(.int ((own_raw q2 q3 (8 : Int32)).toInt8.toInt32)), (.int (8 : Int32)), (.ref dd)])) rfl rfl (hb hby at_175)
  have N2 := Fr.snoc X2 N1 g_dd
  have Z_2 : n0 ≤ h2.size := Nat.le_trans Z0 (Keep.of_wr W2).1
  have E_3 := Exa.wr W2 E_d
  have OL_4 := Old.wr OL W2 (Nat.le_trans hnz g_dd)
  have V2_ : Arv Z h2 dd kd .byte (Int32.ofNat n) ((own_by q2 q3 8) ++ [.int ((own_raw q2 q3 (8 : Int32)).toInt8.toInt32)]) (.int (0 : Int32)) := own_app Ar_c1 q_c1 S_c1 N_c1 H_c1 G_c1 W2 (by rw [own_by_len]; decide) (own_narb _)
  subst e2
  have VV : Arv Z T2.heap dd kd .byte (Int32.ofNat n) (own_by q2 q3 (8 + 1)) (.int (0 : Int32)) := by rw [own_by_succ]; exact V2_
  refine ⟨T2, _, ⟨X2, N2, OL_4, Z_2, E_3, VV⟩, fun tgt kk => ?_⟩
  refine sg0 _ ?_
  refine st1 _ ?_
  refine sg2 _ ?_
  refine st2 _ ?_
  exact kk
set_option maxRecDepth 65536 in
set_option maxHeartbeats 40000000 in
theorem own_blkN8 {p : Program} {l : Launch} {e : Env} {s : State} {m : MethodId} {args : Array Value} {below : List Frame} {meth : Method} {c : Code} {Z : State} {a0 : Array Value} (hw : ∀ d ∈ tables_1, d.before a0 Z = true) {n0 : Nat} {dd : Addr} {kd : ClassId} {n : Nat} (hn : n ≤ 10) (hnz : Z.heap.size ≤ n0) (g_dd : n0 ≤ dd) (hx : p.tables.exec = Jvm.exec) (hby : c.code = code) (hml : c.maxLocals = 13) (hZ : Z.Warmed39 s.vm) (hown : s.vm.findClass "com/example/mavs/mavs/activation/Base32EncodePinLaw" = some m.cls) (p1 : Int32) (q2 q3 : Int64) {T : State} {locs : List Loc} (hk : ¬ 8 < n) (X : Stand p l e room_1 s m args below meth c T locs 1 10) (tgt : State) :
    Steps p.tables e below (T.setTop (mkF m 176 #[.val (.int p1), .val (.long q2), .second, .val (.long q3), .second, .val (.int (Int32.ofNat n)), .val (.ref dd), .unset, .unset, .unset, .unset, .unset, .unset] [])) tgt → Steps p.tables e below (T.setTop (mkF m 156 #[.val (.int p1), .val (.long q2), .second, .val (.long q3), .second, .val (.int (Int32.ofNat n)), .val (.ref dd), .unset, .unset, .unset, .unset, .unset, .unset] [])) tgt := by
  have sg0 : ∀ tgt, Steps p.tables e below (T.setTop (mkF m 176 #[.val (.int p1), .val (.long q2), .second, .val (.long q3), .second, .val (.int (Int32.ofNat n)), .val (.ref dd), .unset, .unset, .unset, .unset, .unset, .unset] [])) tgt → Steps p.tables e below (T.setTop (mkF m 156 #[.val (.int p1), .val (.long q2), .second, .val (.long q3), .second, .val (.int (Int32.ofNat n)), .val (.ref dd), .unset, .unset, .unset, .unset, .unset, .unset] [])) tgt := by
    intro tgt kk
    show Steps p.tables e below (T.setTop (mkF m 156 #[.val (.int p1), .val (.long q2), .second, .val (.long q3), .second, .val (.int (Int32.ofNat n)), .val (.ref dd), .unset, .unset, .unset, .unset, .unset, .unset] [])) _
    refine XS.iload X.here hx rfl (hb hby at_156) rfl ?_
    show Steps p.tables e below (T.setTop (mkF m 158 #[.val (.int p1), .val (.long q2), .second, .val (.long q3), .second, .val (.int (Int32.ofNat n)), .val (.ref dd), .unset, .unset, .unset, .unset, .unset, .unset] [(.int (Int32.ofNat n))])) _
    refine XT.bipushV X.here hx rfl (8 : Int32) (hb hby at_158) (by decide) ?_
    show Steps p.tables e below (T.setTop (mkF m 160 #[.val (.int p1), .val (.long q2), .second, .val (.long q3), .second, .val (.int (Int32.ofNat n)), .val (.ref dd), .unset, .unset, .unset, .unset, .unset, .unset] [(.int (8 : Int32)), (.int (Int32.ofNat n))])) _
    refine XS.icmpYes X.here hx rfl (pc0 := 160) (pc' := 176) rfl (hb hby at_160) rfl (XT.ii_le_t (show ¬ (8 : Int32) < Int32.ofNat n from own_nltN (k := 8) hk (by omega) (by omega))) (by decide) (by decide) ?_
    exact kk
  refine fun kk => ?_
  refine sg0 _ ?_
  exact kk
theorem own_blk8 {p : Program} {l : Launch} {e : Env} {s : State} {m : MethodId} {args : Array Value} {below : List Frame} {meth : Method} {c : Code} {Z : State} {a0 : Array Value} (hw : ∀ d ∈ tables_1, d.before a0 Z = true) {n0 : Nat} {dd : Addr} {kd : ClassId} {n : Nat} (hn : n ≤ 10) (hnz : Z.heap.size ≤ n0) (g_dd : n0 ≤ dd) (hx : p.tables.exec = Jvm.exec) (hby : c.code = code) (hml : c.maxLocals = 13) (hZ : Z.Warmed39 s.vm) (hown : s.vm.findClass "com/example/mavs/mavs/activation/Base32EncodePinLaw" = some m.cls) (p1 : Int32) (q2 q3 : Int64) {T : State} {locs : List Loc} (A : own_lat p l e s m args below meth c Z n0 dd kd n T locs (own_by q2 q3 (min 8 n))) :
    ∃ (T' : State) (locs' : List Loc), own_lat p l e s m args below meth c Z n0 dd kd n T' locs' (own_by q2 q3 (min (8 + 1) n)) ∧ ∀ tgt, Steps p.tables e below (T'.setTop (mkF m 176 #[.val (.int p1), .val (.long q2), .second, .val (.long q3), .second, .val (.int (Int32.ofNat n)), .val (.ref dd), .unset, .unset, .unset, .unset, .unset, .unset] [])) tgt → Steps p.tables e below (T.setTop (mkF m 156 #[.val (.int p1), .val (.long q2), .second, .val (.long q3), .second, .val (.int (Int32.ofNat n)), .val (.ref dd), .unset, .unset, .unset, .unset, .unset, .unset] [])) tgt := by
  by_cases hk : 8 < n
  · rw [Nat.min_eq_left (show 8 ≤ n by omega)] at A
    rw [Nat.min_eq_left (show 8 + 1 ≤ n by omega)]
    exact own_blkY8 hw hn hnz g_dd hx hby hml hZ hown p1 q2 q3 hk A
  · rw [Nat.min_eq_right (show n ≤ 8 by omega)] at A
    rw [Nat.min_eq_right (show n ≤ 8 + 1 by omega)]
    exact ⟨T, locs, A, fun tgt kk => own_blkN8 (kd := kd) hw hn hnz g_dd hx hby hml hZ hown p1 q2 q3 hk A.1 tgt kk⟩
set_option maxRecDepth 65536 in
set_option maxHeartbeats 40000000 in
theorem own_blkY9 {p : Program} {l : Launch} {e : Env} {s : State} {m : MethodId} {args : Array Value} {below : List Frame} {meth : Method} {c : Code} {Z : State} {a0 : Array Value} (hw : ∀ d ∈ tables_1, d.before a0 Z = true) {n0 : Nat} {dd : Addr} {kd : ClassId} {n : Nat} (hn : n ≤ 10) (hnz : Z.heap.size ≤ n0) (g_dd : n0 ≤ dd) (hx : p.tables.exec = Jvm.exec) (hby : c.code = code) (hml : c.maxLocals = 13) (hZ : Z.Warmed39 s.vm) (hown : s.vm.findClass "com/example/mavs/mavs/activation/Base32EncodePinLaw" = some m.cls) (p1 : Int32) (q2 q3 : Int64) {T : State} {locs : List Loc} (hk : 9 < n) (A : own_lat p l e s m args below meth c Z n0 dd kd n T locs (own_by q2 q3 9)) :
    ∃ (T' : State) (locs' : List Loc), own_lat p l e s m args below meth c Z n0 dd kd n T' locs' (own_by q2 q3 (9 + 1)) ∧ ∀ tgt, Steps p.tables e below (T'.setTop (mkF m 196 #[.val (.int p1), .val (.long q2), .second, .val (.long q3), .second, .val (.int (Int32.ofNat n)), .val (.ref dd), .unset, .unset, .unset, .unset, .unset, .unset] [])) tgt → Steps p.tables e below (T.setTop (mkF m 176 #[.val (.int p1), .val (.long q2), .second, .val (.long q3), .second, .val (.int (Int32.ofNat n)), .val (.ref dd), .unset, .unset, .unset, .unset, .unset, .unset] [])) tgt := by
  obtain ⟨X, N0, OL, Z0, E_d, V_d⟩ := A
  have sg0 : ∀ tgt, Steps p.tables e below (T.setTop (mkF m 191 #[.val (.int p1), .val (.long q2), .second, .val (.long q3), .second, .val (.int (Int32.ofNat n)), .val (.ref dd), .unset, .unset, .unset, .unset, .unset, .unset] [(.int (9 : Int32)), (.long q3), (.long q2), (.int (9 : Int32)), (.ref dd)])) tgt → Steps p.tables e below (T.setTop (mkF m 176 #[.val (.int p1), .val (.long q2), .second, .val (.long q3), .second, .val (.int (Int32.ofNat n)), .val (.ref dd), .unset, .unset, .unset, .unset, .unset, .unset] [])) tgt := by
    intro tgt kk
    show Steps p.tables e below (T.setTop (mkF m 176 #[.val (.int p1), .val (.long q2), .second, .val (.long q3), .second, .val (.int (Int32.ofNat n)), .val (.ref dd), .unset, .unset, .unset, .unset, .unset, .unset] [])) _
    refine XS.iload X.here hx rfl (hb hby at_176) rfl ?_
    show Steps p.tables e below (T.setTop (mkF m 178 #[.val (.int p1), .val (.long q2), .second, .val (.long q3), .second, .val (.int (Int32.ofNat n)), .val (.ref dd), .unset, .unset, .unset, .unset, .unset, .unset] [(.int (Int32.ofNat n))])) _
    refine XT.bipushV X.here hx rfl (9 : Int32) (hb hby at_178) (by decide) ?_
    show Steps p.tables e below (T.setTop (mkF m 180 #[.val (.int p1), .val (.long q2), .second, .val (.long q3), .second, .val (.int (Int32.ofNat n)), .val (.ref dd), .unset, .unset, .unset, .unset, .unset, .unset] [(.int (9 : Int32)), (.int (Int32.ofNat n))])) _
    refine XS.icmpNo X.here hx rfl (hb hby at_180) rfl (XT.ii_le_f (show (9 : Int32) < Int32.ofNat n from own_ltN (k := 9) hk (by omega))) ?_
    show Steps p.tables e below (T.setTop (mkF m 183 #[.val (.int p1), .val (.long q2), .second, .val (.long q3), .second, .val (.int (Int32.ofNat n)), .val (.ref dd), .unset, .unset, .unset, .unset, .unset, .unset] [])) _
    refine XS.aload X.here hx rfl (hb hby at_183) rfl rfl ?_
    show Steps p.tables e below (T.setTop (mkF m 185 #[.val (.int p1), .val (.long q2), .second, .val (.long q3), .second, .val (.int (Int32.ofNat n)), .val (.ref dd), .unset, .unset, .unset, .unset, .unset, .unset] [(.ref dd)])) _
    refine XT.bipushV X.here hx rfl (9 : Int32) (hb hby at_185) (by decide) ?_
    show Steps p.tables e below (T.setTop (mkF m 187 #[.val (.int p1), .val (.long q2), .second, .val (.long q3), .second, .val (.int (Int32.ofNat n)), .val (.ref dd), .unset, .unset, .unset, .unset, .unset, .unset] [(.int (9 : Int32)), (.ref dd)])) _
    refine XT.lloadN X.here hx rfl (hb hby at_187) rfl ?_
    show Steps p.tables e below (T.setTop (mkF m 188 #[.val (.int p1), .val (.long q2), .second, .val (.long q3), .second, .val (.int (Int32.ofNat n)), .val (.ref dd), .unset, .unset, .unset, .unset, .unset, .unset] [(.long q2), (.int (9 : Int32)), (.ref dd)])) _
    refine XT.lloadN X.here hx rfl (hb hby at_188) rfl ?_
    show Steps p.tables e below (T.setTop (mkF m 189 #[.val (.int p1), .val (.long q2), .second, .val (.long q3), .second, .val (.int (Int32.ofNat n)), .val (.ref dd), .unset, .unset, .unset, .unset, .unset, .unset] [(.long q3), (.long q2), (.int (9 : Int32)), (.ref dd)])) _
    refine XT.bipushV X.here hx rfl (9 : Int32) (hb hby at_189) (by decide) ?_
    exact kk
  -- pc 191: com/example/mavs/mavs/activation/Base32EncodePinLaw.rawByte
  obtain ⟨_, _, ⟨T1, L1, k1, n1⟩, -, X1, ⟨Lc1, hQ1, l1, y1, z1⟩, st1⟩ := Jvm.LawKit.callS X hx (y := (⟨"com/example/mavs/mavs/activation/Base32EncodePinLaw", "rawByte", "(JJI)I"⟩ : MethodName)) hown (mvT hZ (hw _ (List.mem_of_getElem? (i := 101) rfl))) (mvT hZ (hw _ (List.mem_of_getElem? (i := 102) rfl))) (mvT hZ (hw _ (List.mem_of_getElem? (i := 82) rfl))) (mvT hZ (hw _ (List.mem_of_getElem? (i := 103) rfl))) (by decide) (backOf (W := 2) (rm18 l Z a0 hw [] q2 q3 (9 : Int32)  T.heap n0 Z0 ) hZ (hw _ (List.mem_of_getElem? (i := 103) rfl)) (hw _ (List.mem_of_getElem? (i := 82) rfl)) (by decide) (by decide)) (g := (mkF m 191 #[.val (.int p1), .val (.long q2), .second, .val (.long q3), .second, .val (.int (Int32.ofNat n)), .val (.ref dd), .unset, .unset, .unset, .unset, .unset, .unset] [(.int (9 : Int32)), (.long q3), (.long q2), (.int (9 : Int32)), (.ref dd)])) rfl (by rw [hml]; rfl) (argsL := [(.long q2), (.long q3), (.int (9 : Int32))]) (rest := [(.int (9 : Int32)), (.ref dd)]) (lenOf own_pd13 rfl) rfl (by show 2 * 0 + _ ≤ _; exact Nat.le_of_eq rfl) (hb hby at_191) (fun _ _ => ⟨rfl, rfl, (by decide : 1 + 0 ≤ _), (by decide : 10 + 0 ≤ _)⟩)
  dsimp only [Pt.U, Pt.locs, Pt.cells, Pt.slots] at X1 l1 y1 z1 st1 hQ1
  subst l1 y1 z1
  obtain ⟨rfl, N1q, e1⟩ := hQ1
  have N1 := Fr.app N0 N1q
  have sg2 : ∀ tgt, Steps p.tables e below (T1.setTop (mkF m 195 #[.val (.int p1), .val (.long q2), .second, .val (.long q3), .second, .val (.int (Int32.ofNat n)), .val (.ref dd), .unset, .unset, .unset, .unset, .unset, .unset] [(.int ((own_raw q2 q3 (9 : Int32)).toInt8.toInt32)), (.int (9 : Int32)), (.ref dd)])) tgt → Steps p.tables e below (T1.setTop (mkF m 194 #[.val (.int p1), .val (.long q2), .second, .val (.long q3), .second, .val (.int (Int32.ofNat n)), .val (.ref dd), .unset, .unset, .unset, .unset, .unset, .unset] [(.int (own_raw q2 q3 (9 : Int32))), (.int (9 : Int32)), (.ref dd)])) tgt := by
    intro tgt kk
    show Steps p.tables e below (T1.setTop (mkF m 194 #[.val (.int p1), .val (.long q2), .second, .val (.long q3), .second, .val (.int (Int32.ofNat n)), .val (.ref dd), .unset, .unset, .unset, .unset, .unset, .unset] [(.int (own_raw q2 q3 (9 : Int32))), (.int (9 : Int32)), (.ref dd)])) _
    refine XT.i2b X1.here hx rfl (hb hby at_194) rfl ?_
    exact kk
  obtain ⟨cl_c1, Ar_c1, q_c1, S_c1, N_c1, H_c1, G_c1⟩ := id V_d
  have hin2_ : ¬ ((9 : Int32) < 0 ∨ cl_c1.slots.size ≤ ((9 : Int32)).toNatClampNeg) := inb_of S_c1 ⟨by decide, (show (9 : Int32) < Int32.ofNat n from own_ltN (k := 9) hk (by omega))⟩
  obtain ⟨T2, h2, X2, e2, W2, st2⟩ := stB X1 hx hZ e1 Ar_c1 (j := (9 : Int32)) hin2_ (g := (mkF m 195 #[.val (.int p1), .val (.long q2), .second, .val (.long q3), .second, .val (.int (Int32.ofNat n)), .val (.ref dd), .unset, .unset, .unset, .unset, .unset, .unset] [(.int ((own_raw q2 q3 (9 : Int32)).toInt8.toInt32)), (.int (9 : Int32)), (.ref dd)])) rfl rfl (hb hby at_195)
  have N2 := Fr.snoc X2 N1 g_dd
  have Z_2 : n0 ≤ h2.size := Nat.le_trans Z0 (Keep.of_wr W2).1
  have E_3 := Exa.wr W2 E_d
  have OL_4 := Old.wr OL W2 (Nat.le_trans hnz g_dd)
  have V2_ : Arv Z h2 dd kd .byte (Int32.ofNat n) ((own_by q2 q3 9) ++ [.int ((own_raw q2 q3 (9 : Int32)).toInt8.toInt32)]) (.int (0 : Int32)) := own_app Ar_c1 q_c1 S_c1 N_c1 H_c1 G_c1 W2 (by rw [own_by_len]; decide) (own_narb _)
  subst e2
  have VV : Arv Z T2.heap dd kd .byte (Int32.ofNat n) (own_by q2 q3 (9 + 1)) (.int (0 : Int32)) := by rw [own_by_succ]; exact V2_
  refine ⟨T2, _, ⟨X2, N2, OL_4, Z_2, E_3, VV⟩, fun tgt kk => ?_⟩
  refine sg0 _ ?_
  refine st1 _ ?_
  refine sg2 _ ?_
  refine st2 _ ?_
  exact kk
set_option maxRecDepth 65536 in
set_option maxHeartbeats 40000000 in
theorem own_blkN9 {p : Program} {l : Launch} {e : Env} {s : State} {m : MethodId} {args : Array Value} {below : List Frame} {meth : Method} {c : Code} {Z : State} {a0 : Array Value} (hw : ∀ d ∈ tables_1, d.before a0 Z = true) {n0 : Nat} {dd : Addr} {kd : ClassId} {n : Nat} (hn : n ≤ 10) (hnz : Z.heap.size ≤ n0) (g_dd : n0 ≤ dd) (hx : p.tables.exec = Jvm.exec) (hby : c.code = code) (hml : c.maxLocals = 13) (hZ : Z.Warmed39 s.vm) (hown : s.vm.findClass "com/example/mavs/mavs/activation/Base32EncodePinLaw" = some m.cls) (p1 : Int32) (q2 q3 : Int64) {T : State} {locs : List Loc} (hk : ¬ 9 < n) (X : Stand p l e room_1 s m args below meth c T locs 1 10) (tgt : State) :
    Steps p.tables e below (T.setTop (mkF m 196 #[.val (.int p1), .val (.long q2), .second, .val (.long q3), .second, .val (.int (Int32.ofNat n)), .val (.ref dd), .unset, .unset, .unset, .unset, .unset, .unset] [])) tgt → Steps p.tables e below (T.setTop (mkF m 176 #[.val (.int p1), .val (.long q2), .second, .val (.long q3), .second, .val (.int (Int32.ofNat n)), .val (.ref dd), .unset, .unset, .unset, .unset, .unset, .unset] [])) tgt := by
  have sg0 : ∀ tgt, Steps p.tables e below (T.setTop (mkF m 196 #[.val (.int p1), .val (.long q2), .second, .val (.long q3), .second, .val (.int (Int32.ofNat n)), .val (.ref dd), .unset, .unset, .unset, .unset, .unset, .unset] [])) tgt → Steps p.tables e below (T.setTop (mkF m 176 #[.val (.int p1), .val (.long q2), .second, .val (.long q3), .second, .val (.int (Int32.ofNat n)), .val (.ref dd), .unset, .unset, .unset, .unset, .unset, .unset] [])) tgt := by
    intro tgt kk
    show Steps p.tables e below (T.setTop (mkF m 176 #[.val (.int p1), .val (.long q2), .second, .val (.long q3), .second, .val (.int (Int32.ofNat n)), .val (.ref dd), .unset, .unset, .unset, .unset, .unset, .unset] [])) _
    refine XS.iload X.here hx rfl (hb hby at_176) rfl ?_
    show Steps p.tables e below (T.setTop (mkF m 178 #[.val (.int p1), .val (.long q2), .second, .val (.long q3), .second, .val (.int (Int32.ofNat n)), .val (.ref dd), .unset, .unset, .unset, .unset, .unset, .unset] [(.int (Int32.ofNat n))])) _
    refine XT.bipushV X.here hx rfl (9 : Int32) (hb hby at_178) (by decide) ?_
    show Steps p.tables e below (T.setTop (mkF m 180 #[.val (.int p1), .val (.long q2), .second, .val (.long q3), .second, .val (.int (Int32.ofNat n)), .val (.ref dd), .unset, .unset, .unset, .unset, .unset, .unset] [(.int (9 : Int32)), (.int (Int32.ofNat n))])) _
    refine XS.icmpYes X.here hx rfl (pc0 := 180) (pc' := 196) rfl (hb hby at_180) rfl (XT.ii_le_t (show ¬ (9 : Int32) < Int32.ofNat n from own_nltN (k := 9) hk (by omega) (by omega))) (by decide) (by decide) ?_
    exact kk
  refine fun kk => ?_
  refine sg0 _ ?_
  exact kk
theorem own_blk9 {p : Program} {l : Launch} {e : Env} {s : State} {m : MethodId} {args : Array Value} {below : List Frame} {meth : Method} {c : Code} {Z : State} {a0 : Array Value} (hw : ∀ d ∈ tables_1, d.before a0 Z = true) {n0 : Nat} {dd : Addr} {kd : ClassId} {n : Nat} (hn : n ≤ 10) (hnz : Z.heap.size ≤ n0) (g_dd : n0 ≤ dd) (hx : p.tables.exec = Jvm.exec) (hby : c.code = code) (hml : c.maxLocals = 13) (hZ : Z.Warmed39 s.vm) (hown : s.vm.findClass "com/example/mavs/mavs/activation/Base32EncodePinLaw" = some m.cls) (p1 : Int32) (q2 q3 : Int64) {T : State} {locs : List Loc} (A : own_lat p l e s m args below meth c Z n0 dd kd n T locs (own_by q2 q3 (min 9 n))) :
    ∃ (T' : State) (locs' : List Loc), own_lat p l e s m args below meth c Z n0 dd kd n T' locs' (own_by q2 q3 (min (9 + 1) n)) ∧ ∀ tgt, Steps p.tables e below (T'.setTop (mkF m 196 #[.val (.int p1), .val (.long q2), .second, .val (.long q3), .second, .val (.int (Int32.ofNat n)), .val (.ref dd), .unset, .unset, .unset, .unset, .unset, .unset] [])) tgt → Steps p.tables e below (T.setTop (mkF m 176 #[.val (.int p1), .val (.long q2), .second, .val (.long q3), .second, .val (.int (Int32.ofNat n)), .val (.ref dd), .unset, .unset, .unset, .unset, .unset, .unset] [])) tgt := by
  by_cases hk : 9 < n
  · rw [Nat.min_eq_left (show 9 ≤ n by omega)] at A
    rw [Nat.min_eq_left (show 9 + 1 ≤ n by omega)]
    exact own_blkY9 hw hn hnz g_dd hx hby hml hZ hown p1 q2 q3 hk A
  · rw [Nat.min_eq_right (show n ≤ 9 by omega)] at A
    rw [Nat.min_eq_right (show n ≤ 9 + 1 by omega)]
    exact ⟨T, locs, A, fun tgt kk => own_blkN9 (kd := kd) hw hn hnz g_dd hx hby hml hZ hown p1 q2 q3 hk A.1 tgt kk⟩
theorem own_pd18 : parseMethodDescriptor "([B)Ljava/lang/String;" = some ⟨[(.array .byte)], some (.object "java/lang/String")⟩ := by decide +kernel
theorem own_pd19 : parseMethodDescriptor "(Ljava/lang/String;IJJ)Z" = some ⟨[(.object "java/lang/String"), .int, .long, .long], some .boolean⟩ := by decide +kernel
theorem own_ef0 (m : MethodId) (p1 : Int32) (q2 : Int64) (q3 : Int64)  : entryFrame m #[(.int p1), (.long q2), (.long q3)] maxLocals = mkF m 0 #[.val (.int p1), .val (.long q2), .second, .val (.long q3), .second, .unset, .unset, .unset, .unset, .unset, .unset, .unset, .unset] [] := by first | (simp [entryFrame, mkF, argsToLocals, Value.category, maxLocals]; done) | rfl
def Q0 (Z : State) (p1 : Int32) (q2 : Int64) (q3 : Int64)  (h0 : Heap) (n0 : Nat) (v : Option Value) (h : Heap) (L : List Loc) : Prop := v = some (.int (1 : Int32)) ∧ Fr n0 L
set_option maxRecDepth 65536 in
set_option maxHeartbeats 40000000 in
theorem rm0 (l : Launch) (Z : State) (a0 : Array Value) (hw : ∀ d ∈ tables_1, d.before a0 Z = true) (ws : List Jvm.Cond) (p1 : Int32) (q2 : Int64) (q3 : Int64)  (h0 : Heap) (n0 : Nat) (Z0 : n0 ≤ h0.size) (cz : Int32) (hcz : ¬ cz = 0) (O1 : Sta Z Z.heap "java/lang/String" "COMPACT_STRINGS" "Z" (.int cz)) (OL : Old Z Z.heap.size h0) (hnz : Z.heap.size ≤ n0) (fm : Value) (hfm : fm.isRef = true) (O2 : Sta Z Z.heap "jdk/internal/util/Preconditions" "SIOOBE_FORMATTER" "Ljava/util/function/BiFunction;" fm) (CH : Jvm.Lit.constHeld Z "com/example/mavs/mavs/activation/Base32" 16) (hcw : Jvm.Lit.compactW.before a0 Z = true) :
    MetFree l x (head1 (Jvm.Cond.code x code maxLocals ret :: ws) room_1) (fun a U => a = #[(.int p1), (.long q2), (.long q3)] ∧ Z.Warmed39 U.vm ∧ U.heap = h0 ∧ U.vm.interned = Z.vm.interned) (fun _ _ _ _ _ => True) (fun _ U o U' => ∃ v L, o = .returned v ∧ Q0 Z p1 q2 q3  h0 n0 v U'.heap L ∧ ReturnedEndW U o U' L room_1.cells room_1.slots) := by
  refine MetFree.of_bodySF (plainFor_of_name own_pn6) hisR ?_
  intro p e s m args below meth c s₁ Bd hml0 hP hK
  obtain ⟨rfl, hZ, hh, hint⟩ := hP
  have hx := Bd.exec
  have hby := Bd.bytes
  have hml : c.maxLocals = 13 := hml0
  have hown : s.vm.findClass "com/example/mavs/mavs/activation/Base32EncodePinLaw" = some m.cls := findClass_of_methodNamed Bd.named
  have hnm := (name_of_methodNamed Bd.named Bd.method).1
  have X0 : Stand p l e room_1 s m #[(.int p1), (.long q2), (.long q3)] below meth c s₁ [] 0 0 := Stand.of_body Bd
  have e0 : s₁.heap = h0 := by rw [← hh, Bd.state]; rfl
  have N0 := Fr.nil n0
  have pre0 : ∀ t, Steps p.tables e below (s₁.setTop (mkF m 0 #[.val (.int p1), .val (.long q2), .second, .val (.long q3), .second, .unset, .unset, .unset, .unset, .unset, .unset, .unset, .unset] [])) t → Steps p.tables e below (s₁.setTop (entryFrame m #[(.int p1), (.long q2), (.long q3)] maxLocals)) t := fun t k => castTop (own_ef0 m p1 q2 q3 ) k
  obtain ⟨n, hn, hnv⟩ := own_nn p1
  obtain ⟨v1, hv1⟩ : ∃ z_ : Int32, z_ = ((p1 &&& (2147483647 : Int32)) - (p1 &&& (2147483647 : Int32)) / (11 : Int32) * (11 : Int32)) := ⟨_, rfl⟩
  have sg0 : ∀ tgt, Steps p.tables e below (s₁.setTop (mkF m 11 #[.val (.int p1), .val (.long q2), .second, .val (.long q3), .second, .val (.int v1), .unset, .unset, .unset, .unset, .unset, .unset, .unset] [(.int v1)])) tgt → Steps p.tables e below (s₁.setTop (mkF m 0 #[.val (.int p1), .val (.long q2), .second, .val (.long q3), .second, .unset, .unset, .unset, .unset, .unset, .unset, .unset, .unset] [])) tgt := by
    intro tgt kk
    show Steps p.tables e below (s₁.setTop (mkF m 0 #[.val (.int p1), .val (.long q2), .second, .val (.long q3), .second, .unset, .unset, .unset, .unset, .unset, .unset, .unset, .unset] [])) _
    refine XS.iloadN X0.here hx rfl (hb hby at_0) rfl ?_
    show Steps p.tables e below (s₁.setTop (mkF m 1 #[.val (.int p1), .val (.long q2), .second, .val (.long q3), .second, .unset, .unset, .unset, .unset, .unset, .unset, .unset, .unset] [(.int p1)])) _
    refine X0.ldcI hx hown (mvT hZ (hw _ (List.mem_of_getElem? (i := 0) rfl))) rfl (hb hby at_1) ?_
    show Steps p.tables e below (s₁.setTop (mkF m 3 #[.val (.int p1), .val (.long q2), .second, .val (.long q3), .second, .unset, .unset, .unset, .unset, .unset, .unset, .unset, .unset] [(.int (2147483647 : Int32)), (.int p1)])) _
    refine XS.iand X0.here hx rfl (hb hby at_3) rfl ?_
    show Steps p.tables e below (s₁.setTop (mkF m 4 #[.val (.int p1), .val (.long q2), .second, .val (.long q3), .second, .unset, .unset, .unset, .unset, .unset, .unset, .unset, .unset] [(.int (p1 &&& (2147483647 : Int32)))])) _
    refine XT.bipushV X0.here hx rfl (11 : Int32) (hb hby at_4) (by decide) ?_
    show Steps p.tables e below (s₁.setTop (mkF m 6 #[.val (.int p1), .val (.long q2), .second, .val (.long q3), .second, .unset, .unset, .unset, .unset, .unset, .unset, .unset, .unset] [(.int (11 : Int32)), (.int (p1 &&& (2147483647 : Int32)))])) _
    refine XS.irem X0.here hx rfl (hb hby at_6) rfl (by decide) ?_
    show Steps p.tables e below (s₁.setTop (mkF m 7 #[.val (.int p1), .val (.long q2), .second, .val (.long q3), .second, .unset, .unset, .unset, .unset, .unset, .unset, .unset, .unset] [(.int ((p1 &&& (2147483647 : Int32)) - (p1 &&& (2147483647 : Int32)) / (11 : Int32) * (11 : Int32)))])) _
    refine XS.istore X0.here hx rfl (hb hby at_7) rfl (l' := #[.val (.int p1), .val (.long q2), .second, .val (.long q3), .second, .val (.int v1), .unset, .unset, .unset, .unset, .unset, .unset, .unset]) (by rw [hv1]; rfl) ?_
    show Steps p.tables e below (s₁.setTop (mkF m 9 #[.val (.int p1), .val (.long q2), .second, .val (.long q3), .second, .val (.int v1), .unset, .unset, .unset, .unset, .unset, .unset, .unset] [])) _
    refine XS.iload X0.here hx rfl (hb hby at_9) rfl ?_
    exact kk
  rw [hnv] at hv1
  subst hv1
  obtain ⟨T1, h1, kd, X1, e1, E1, A1, B1, st1⟩ := newPE X0 hx hZ (hw _ (List.mem_of_getElem? (i := 1) rfl)) e0 (g := (mkF m 11 #[.val (.int p1), .val (.long q2), .second, .val (.long q3), .second, .val (.int (Int32.ofNat n)), .unset, .unset, .unset, .unset, .unset, .unset, .unset] [(.int (Int32.ofNat n))])) rfl (hb hby at_11) rfl (own_nneg (by omega)) (cap := 10) (by rw [own_clamp (by omega)]; exact hn) (by decide) (by decide) (by decide) (ad := "[B") (by decide)
  obtain ⟨dd, g1⟩ : ∃ z_, z_ = h0.size := ⟨_, rfl⟩
  rw [← g1] at A1 B1 st1
  have V_dd : Arv Z h1 dd kd .byte (Int32.ofNat n) [] (.int (0 : Int32)) := Arv.new A1 (own_nneg (by omega))
  have s_dd : h0.size ≤ dd := Nat.le_of_eq g1.symm
  have g_dd : n0 ≤ dd := Nat.le_trans Z0 s_dd
  have Z_1 : n0 ≤ h1.size := Nat.le_trans Z0 E1.1
  have OL_2 := Old.ext OL E1
  have sg2 : ∀ tgt, Steps p.tables e below (T1.setTop (mkF m 15 #[.val (.int p1), .val (.long q2), .second, .val (.long q3), .second, .val (.int (Int32.ofNat n)), .val (.ref dd), .unset, .unset, .unset, .unset, .unset, .unset] [])) tgt → Steps p.tables e below (T1.setTop (mkF m 13 #[.val (.int p1), .val (.long q2), .second, .val (.long q3), .second, .val (.int (Int32.ofNat n)), .unset, .unset, .unset, .unset, .unset, .unset, .unset] [(.ref dd)])) tgt := by
    intro tgt kk
    show Steps p.tables e below (T1.setTop (mkF m 13 #[.val (.int p1), .val (.long q2), .second, .val (.long q3), .second, .val (.int (Int32.ofNat n)), .unset, .unset, .unset, .unset, .unset, .unset, .unset] [(.ref dd)])) _
    refine XS.astore X1.here hx rfl (hb hby at_13) rfl rfl (l' := #[.val (.int p1), .val (.long q2), .second, .val (.long q3), .second, .val (.int (Int32.ofNat n)), .val (.ref dd), .unset, .unset, .unset, .unset, .unset, .unset]) rfl ?_
    exact kk
  subst e1
  have A0 : own_lat p l e s m #[(.int p1), (.long q2), (.long q3)] below meth c Z n0 dd kd n T1 [] (own_by q2 q3 (min 0 n)) := by rw [Nat.zero_min]; exact ⟨X1, N0, OL_2, Z_1, B1, V_dd⟩
  obtain ⟨Tb0, lb0, A1, sb0⟩ := own_blk0 hw hn hnz g_dd hx hby hml hZ hown p1 q2 q3 A0
  obtain ⟨Tb1, lb1, A2, sb1⟩ := own_blk1 hw hn hnz g_dd hx hby hml hZ hown p1 q2 q3 A1
  obtain ⟨Tb2, lb2, A3, sb2⟩ := own_blk2 hw hn hnz g_dd hx hby hml hZ hown p1 q2 q3 A2
  obtain ⟨Tb3, lb3, A4, sb3⟩ := own_blk3 hw hn hnz g_dd hx hby hml hZ hown p1 q2 q3 A3
  obtain ⟨Tb4, lb4, A5, sb4⟩ := own_blk4 hw hn hnz g_dd hx hby hml hZ hown p1 q2 q3 A4
  obtain ⟨Tb5, lb5, A6, sb5⟩ := own_blk5 hw hn hnz g_dd hx hby hml hZ hown p1 q2 q3 A5
  obtain ⟨Tb6, lb6, A7, sb6⟩ := own_blk6 hw hn hnz g_dd hx hby hml hZ hown p1 q2 q3 A6
  obtain ⟨Tb7, lb7, A8, sb7⟩ := own_blk7 hw hn hnz g_dd hx hby hml hZ hown p1 q2 q3 A7
  obtain ⟨Tb8, lb8, A9, sb8⟩ := own_blk8 hw hn hnz g_dd hx hby hml hZ hown p1 q2 q3 A8
  obtain ⟨Tb9, lb9, A10, sb9⟩ := own_blk9 hw hn hnz g_dd hx hby hml hZ hown p1 q2 q3 A9
  have A10' : own_lat p l e s m #[(.int p1), (.long q2), (.long q3)] below meth c Z n0 dd kd n Tb9 lb9 (own_by q2 q3 n) := by rw [Nat.min_eq_right (show n ≤ 9 + 1 from hn)] at A10; exact A10
  obtain ⟨X10, N10, OL10, Z10, E10, V10⟩ := A10'
  have sg13 : ∀ tgt, Steps p.tables e below (Tb9.setTop (mkF m 198 #[.val (.int p1), .val (.long q2), .second, .val (.long q3), .second, .val (.int (Int32.ofNat n)), .val (.ref dd), .unset, .unset, .unset, .unset, .unset, .unset] [(.ref dd)])) tgt → Steps p.tables e below (Tb9.setTop (mkF m 196 #[.val (.int p1), .val (.long q2), .second, .val (.long q3), .second, .val (.int (Int32.ofNat n)), .val (.ref dd), .unset, .unset, .unset, .unset, .unset, .unset] [])) tgt := by
    intro tgt kk
    show Steps p.tables e below (Tb9.setTop (mkF m 196 #[.val (.int p1), .val (.long q2), .second, .val (.long q3), .second, .val (.int (Int32.ofNat n)), .val (.ref dd), .unset, .unset, .unset, .unset, .unset, .unset] [])) _
    refine XS.aload X10.here hx rfl (hb hby at_196) rfl rfl ?_
    exact kk
  obtain ⟨hlen, -⟩ := own_main q2 q3 n hn
  obtain ⟨_, _, ⟨T20, L20, k20, n20⟩, -, X20, S20, g20, ⟨Lc20, hQ20, l20, y20, z20⟩, st20⟩ := callSS X10 hx (y := (⟨"com/example/mavs/mavs/activation/Base32", "encode", "([B)Ljava/lang/String;"⟩ : MethodName)) hown (mvT hZ (hw _ (List.mem_of_getElem? (i := 2) rfl))) (mvT hZ (hw _ (List.mem_of_getElem? (i := 3) rfl))) (mvT hZ (hw _ (List.mem_of_getElem? (i := 4) rfl))) (mvT hZ (hw _ (List.mem_of_getElem? (i := 5) rfl))) (by decide) (own_backS (W := 0) (rm1 l Z a0 hw [] dd kd n (own_rs q2 q3 n) Tb9.heap n0 Z10 cz hcz O1 OL10 fm hfm O2 CH hcw V10 hn (own_rs_len q2 q3 n) hlen) hZ hint (hw _ (List.mem_of_getElem? (i := 5) rfl)) (hw _ (List.mem_of_getElem? (i := 4) rfl)) (by decide) (by decide)) (g := (mkF m 198 #[.val (.int p1), .val (.long q2), .second, .val (.long q3), .second, .val (.int (Int32.ofNat n)), .val (.ref dd), .unset, .unset, .unset, .unset, .unset, .unset] [(.ref dd)])) rfl (by rw [hml]; rfl) (argsL := [(.ref dd)]) (rest := []) (lenOf own_pd18 rfl) rfl (by show 2 * 0 + _ ≤ _; exact Nat.le_of_eq rfl) (hb hby at_198) (fun _ _ => ⟨rfl, rfl, (by decide : 1 + 6 ≤ _), (by decide : 10 + 172 ≤ _)⟩)
  dsimp only [Pt.U, Pt.locs, Pt.cells, Pt.slots] at X20 S20 g20 l20 y20 z20 st20 hQ20
  subst l20 y20 z20
  obtain ⟨rr, u, kb, rfl, N20q, SD, OL20, s20⟩ := hQ20
  have N20 := Fr.app N10 N20q
  have hZ20 : Z.Warmed39 (s.setVm T20.vm).vm := State.Warmed39.trans hZ S20.1
  have hown20 : (s.setVm T20.vm).vm.findClass "com/example/mavs/mavs/activation/Base32EncodePinLaw" = some m.cls := (S20.1.alike.findClass _ _).trans hown
  have Z20 : n0 ≤ T20.heap.size := Nat.le_trans Z10 s20
  have hN : ((8 * n + 4) / 5) ≤ 16 := by omega
  have sg15 : ∀ tgt, Steps p.tables e below (T20.setTop (mkF m 215 #[.val (.int p1), .val (.long q2), .second, .val (.long q3), .second, .val (.int (Int32.ofNat n)), .val (.ref dd), .val (.ref rr), .unset, .unset, .unset, .unset, .unset] [(.int (0 : Int32)), (.int (Int32.ofNat n)), (.long q3), (.long q2)])) tgt → Steps p.tables e below (T20.setTop (mkF m 201 #[.val (.int p1), .val (.long q2), .second, .val (.long q3), .second, .val (.int (Int32.ofNat n)), .val (.ref dd), .unset, .unset, .unset, .unset, .unset, .unset] [(.ref rr)])) tgt := by
    intro tgt kk
    show Steps p.tables e below (T20.setTop (mkF m 201 #[.val (.int p1), .val (.long q2), .second, .val (.long q3), .second, .val (.int (Int32.ofNat n)), .val (.ref dd), .unset, .unset, .unset, .unset, .unset, .unset] [(.ref rr)])) _
    refine XS.astore X20.here hx rfl (hb hby at_201) rfl rfl (l' := #[.val (.int p1), .val (.long q2), .second, .val (.long q3), .second, .val (.int (Int32.ofNat n)), .val (.ref dd), .val (.ref rr), .unset, .unset, .unset, .unset, .unset]) rfl ?_
    show Steps p.tables e below (T20.setTop (mkF m 203 #[.val (.int p1), .val (.long q2), .second, .val (.long q3), .second, .val (.int (Int32.ofNat n)), .val (.ref dd), .val (.ref rr), .unset, .unset, .unset, .unset, .unset] [])) _
    refine XS.aload X20.here hx rfl (hb hby at_203) rfl rfl ?_
    show Steps p.tables e below (T20.setTop (mkF m 205 #[.val (.int p1), .val (.long q2), .second, .val (.long q3), .second, .val (.int (Int32.ofNat n)), .val (.ref dd), .val (.ref rr), .unset, .unset, .unset, .unset, .unset] [(.ref rr)])) _
    refine XT.ifnonnullYes X20.here hx rfl (pc0 := 205) (pc' := 210) rfl (hb hby at_205) rfl (by decide) (by decide) ?_
    show Steps p.tables e below (T20.setTop (mkF m 210 #[.val (.int p1), .val (.long q2), .second, .val (.long q3), .second, .val (.int (Int32.ofNat n)), .val (.ref dd), .val (.ref rr), .unset, .unset, .unset, .unset, .unset] [])) _
    refine XT.lloadN X20.here hx rfl (hb hby at_210) rfl ?_
    show Steps p.tables e below (T20.setTop (mkF m 211 #[.val (.int p1), .val (.long q2), .second, .val (.long q3), .second, .val (.int (Int32.ofNat n)), .val (.ref dd), .val (.ref rr), .unset, .unset, .unset, .unset, .unset] [(.long q2)])) _
    refine XT.lloadN X20.here hx rfl (hb hby at_211) rfl ?_
    show Steps p.tables e below (T20.setTop (mkF m 212 #[.val (.int p1), .val (.long q2), .second, .val (.long q3), .second, .val (.int (Int32.ofNat n)), .val (.ref dd), .val (.ref rr), .unset, .unset, .unset, .unset, .unset] [(.long q3), (.long q2)])) _
    refine XS.iload X20.here hx rfl (hb hby at_212) rfl ?_
    show Steps p.tables e below (T20.setTop (mkF m 214 #[.val (.int p1), .val (.long q2), .second, .val (.long q3), .second, .val (.int (Int32.ofNat n)), .val (.ref dd), .val (.ref rr), .unset, .unset, .unset, .unset, .unset] [(.int (Int32.ofNat n)), (.long q3), (.long q2)])) _
    refine XT.iconstV X20.here hx rfl (0 : Int32) (hb hby at_214) (by decide) ?_
    exact kk
  -- pc 215: com/example/mavs/mavs/activation/Base32EncodePinLaw.group
  obtain ⟨_, _, ⟨T21, L21, k21, n21⟩, -, X21, ⟨Lc21, hQ21, l21, y21, z21⟩, st21⟩ := Jvm.LawKit.callS X20 hx (y := (⟨"com/example/mavs/mavs/activation/Base32EncodePinLaw", "group", "(JJII)J"⟩ : MethodName)) hown20 (mvT hZ20 (hw _ (List.mem_of_getElem? (i := 80) rfl))) (mvT hZ20 (hw _ (List.mem_of_getElem? (i := 81) rfl))) (mvT hZ20 (hw _ (List.mem_of_getElem? (i := 82) rfl))) (mvT hZ20 (hw _ (List.mem_of_getElem? (i := 83) rfl))) (by decide) (backOf (W := 0) (rm13 l Z a0 hw [] q2 q3 (Int32.ofNat n) (0 : Int32)  T20.heap n0 Z20 ) hZ20 (hw _ (List.mem_of_getElem? (i := 83) rfl)) (hw _ (List.mem_of_getElem? (i := 82) rfl)) (by decide) (by decide)) (g := (mkF m 215 #[.val (.int p1), .val (.long q2), .second, .val (.long q3), .second, .val (.int (Int32.ofNat n)), .val (.ref dd), .val (.ref rr), .unset, .unset, .unset, .unset, .unset] [(.int (0 : Int32)), (.int (Int32.ofNat n)), (.long q3), (.long q2)])) rfl (by rw [hml]; rfl) (argsL := [(.long q2), (.long q3), (.int (Int32.ofNat n)), (.int (0 : Int32))]) (rest := []) (lenOf own_pd14 rfl) rfl (by show 2 * 0 + _ ≤ _; exact Nat.le_of_eq rfl) (hb hby at_215) (fun _ _ => ⟨rfl, rfl, (by decide : 7 + 0 ≤ _), (by decide : 182 + 0 ≤ _)⟩)
  dsimp only [Pt.U, Pt.locs, Pt.cells, Pt.slots] at X21 l21 y21 z21 st21 hQ21
  subst l21 y21 z21
  obtain ⟨rfl, N21q, e21⟩ := hQ21
  have N21 := Fr.app N20 N21q
  obtain ⟨v2, hv2⟩ : ∃ z_ : Int64, z_ = (own_grp q2 q3 (Int32.ofNat n) (0 : Int32)) := ⟨_, rfl⟩
  have sg17 : ∀ tgt, Steps p.tables e below (T21.setTop (mkF m 225 #[.val (.int p1), .val (.long q2), .second, .val (.long q3), .second, .val (.int (Int32.ofNat n)), .val (.ref dd), .val (.ref rr), .val (.long v2), .second, .unset, .unset, .unset] [(.int (5 : Int32)), (.int (Int32.ofNat n)), (.long q3), (.long q2)])) tgt → Steps p.tables e below (T21.setTop (mkF m 218 #[.val (.int p1), .val (.long q2), .second, .val (.long q3), .second, .val (.int (Int32.ofNat n)), .val (.ref dd), .val (.ref rr), .unset, .unset, .unset, .unset, .unset] [(.long (own_grp q2 q3 (Int32.ofNat n) (0 : Int32)))])) tgt := by
    intro tgt kk
    show Steps p.tables e below (T21.setTop (mkF m 218 #[.val (.int p1), .val (.long q2), .second, .val (.long q3), .second, .val (.int (Int32.ofNat n)), .val (.ref dd), .val (.ref rr), .unset, .unset, .unset, .unset, .unset] [(.long (own_grp q2 q3 (Int32.ofNat n) (0 : Int32)))])) _
    refine XT.lstore X21.here hx rfl (hb hby at_218) rfl (l' := #[.val (.int p1), .val (.long q2), .second, .val (.long q3), .second, .val (.int (Int32.ofNat n)), .val (.ref dd), .val (.ref rr), .val (.long v2), .second, .unset, .unset, .unset]) (by rw [hv2]; rfl) ?_
    show Steps p.tables e below (T21.setTop (mkF m 220 #[.val (.int p1), .val (.long q2), .second, .val (.long q3), .second, .val (.int (Int32.ofNat n)), .val (.ref dd), .val (.ref rr), .val (.long v2), .second, .unset, .unset, .unset] [])) _
    refine XT.lloadN X21.here hx rfl (hb hby at_220) rfl ?_
    show Steps p.tables e below (T21.setTop (mkF m 221 #[.val (.int p1), .val (.long q2), .second, .val (.long q3), .second, .val (.int (Int32.ofNat n)), .val (.ref dd), .val (.ref rr), .val (.long v2), .second, .unset, .unset, .unset] [(.long q2)])) _
    refine XT.lloadN X21.here hx rfl (hb hby at_221) rfl ?_
    show Steps p.tables e below (T21.setTop (mkF m 222 #[.val (.int p1), .val (.long q2), .second, .val (.long q3), .second, .val (.int (Int32.ofNat n)), .val (.ref dd), .val (.ref rr), .val (.long v2), .second, .unset, .unset, .unset] [(.long q3), (.long q2)])) _
    refine XS.iload X21.here hx rfl (hb hby at_222) rfl ?_
    show Steps p.tables e below (T21.setTop (mkF m 224 #[.val (.int p1), .val (.long q2), .second, .val (.long q3), .second, .val (.int (Int32.ofNat n)), .val (.ref dd), .val (.ref rr), .val (.long v2), .second, .unset, .unset, .unset] [(.int (Int32.ofNat n)), (.long q3), (.long q2)])) _
    refine XT.iconstV X21.here hx rfl (5 : Int32) (hb hby at_224) (by decide) ?_
    exact kk
  -- pc 225: com/example/mavs/mavs/activation/Base32EncodePinLaw.group
  obtain ⟨_, _, ⟨T22, L22, k22, n22⟩, -, X22, ⟨Lc22, hQ22, l22, y22, z22⟩, st22⟩ := Jvm.LawKit.callS X21 hx (y := (⟨"com/example/mavs/mavs/activation/Base32EncodePinLaw", "group", "(JJII)J"⟩ : MethodName)) hown20 (mvT hZ20 (hw _ (List.mem_of_getElem? (i := 80) rfl))) (mvT hZ20 (hw _ (List.mem_of_getElem? (i := 81) rfl))) (mvT hZ20 (hw _ (List.mem_of_getElem? (i := 82) rfl))) (mvT hZ20 (hw _ (List.mem_of_getElem? (i := 83) rfl))) (by decide) (backOf (W := 0) (rm13 l Z a0 hw [] q2 q3 (Int32.ofNat n) (5 : Int32)  T20.heap n0 Z20 ) hZ20 (hw _ (List.mem_of_getElem? (i := 83) rfl)) (hw _ (List.mem_of_getElem? (i := 82) rfl)) (by decide) (by decide)) (g := (mkF m 225 #[.val (.int p1), .val (.long q2), .second, .val (.long q3), .second, .val (.int (Int32.ofNat n)), .val (.ref dd), .val (.ref rr), .val (.long v2), .second, .unset, .unset, .unset] [(.int (5 : Int32)), (.int (Int32.ofNat n)), (.long q3), (.long q2)])) rfl (by rw [hml]; rfl) (argsL := [(.long q2), (.long q3), (.int (Int32.ofNat n)), (.int (5 : Int32))]) (rest := []) (lenOf own_pd14 rfl) rfl (by show 2 * 0 + _ ≤ _; exact Nat.le_of_eq rfl) (hb hby at_225) (fun _ _ => ⟨rfl, e21, (by decide : 7 + 0 ≤ _), (by decide : 182 + 0 ≤ _)⟩)
  dsimp only [Pt.U, Pt.locs, Pt.cells, Pt.slots] at X22 l22 y22 z22 st22 hQ22
  subst l22 y22 z22
  obtain ⟨rfl, N22q, e22⟩ := hQ22
  have N22 := Fr.app N21 N22q
  obtain ⟨v3, hv3⟩ : ∃ z_ : Int64, z_ = (own_grp q2 q3 (Int32.ofNat n) (5 : Int32)) := ⟨_, rfl⟩
  have sg19 : ∀ tgt, Steps p.tables e below (T22.setTop (mkF m 232 #[.val (.int p1), .val (.long q2), .second, .val (.long q3), .second, .val (.int (Int32.ofNat n)), .val (.ref dd), .val (.ref rr), .val (.long v2), .second, .val (.long v3), .second, .unset] [(.ref rr)])) tgt → Steps p.tables e below (T22.setTop (mkF m 228 #[.val (.int p1), .val (.long q2), .second, .val (.long q3), .second, .val (.int (Int32.ofNat n)), .val (.ref dd), .val (.ref rr), .val (.long v2), .second, .unset, .unset, .unset] [(.long (own_grp q2 q3 (Int32.ofNat n) (5 : Int32)))])) tgt := by
    intro tgt kk
    show Steps p.tables e below (T22.setTop (mkF m 228 #[.val (.int p1), .val (.long q2), .second, .val (.long q3), .second, .val (.int (Int32.ofNat n)), .val (.ref dd), .val (.ref rr), .val (.long v2), .second, .unset, .unset, .unset] [(.long (own_grp q2 q3 (Int32.ofNat n) (5 : Int32)))])) _
    refine XT.lstore X22.here hx rfl (hb hby at_228) rfl (l' := #[.val (.int p1), .val (.long q2), .second, .val (.long q3), .second, .val (.int (Int32.ofNat n)), .val (.ref dd), .val (.ref rr), .val (.long v2), .second, .val (.long v3), .second, .unset]) (by rw [hv3]; rfl) ?_
    show Steps p.tables e below (T22.setTop (mkF m 230 #[.val (.int p1), .val (.long q2), .second, .val (.long q3), .second, .val (.int (Int32.ofNat n)), .val (.ref dd), .val (.ref rr), .val (.long v2), .second, .val (.long v3), .second, .unset] [])) _
    refine XS.aload X22.here hx rfl (hb hby at_230) rfl rfl ?_
    exact kk
  obtain ⟨cq23, kq23, qa23, qb23, qc23⟩ := isOf hZ20 e22 SD.1
  obtain ⟨_, _, ⟨T23, L23, k23, n23⟩, -, X23, ⟨Lc23, hQ23, l23, y23, z23⟩, st23⟩ := X22.virtualBack hx (y := (⟨"java/lang/String", "length", "()I"⟩ : MethodName)) (z := (⟨"java/lang/String", "length", "()I"⟩ : MethodName)) hown20 (mvT hZ20 (hw _ (List.mem_of_getElem? (i := 87) rfl))) (mvT hZ20 (hw _ (List.mem_of_getElem? (i := 88) rfl))) (notFace_of_selects (args := #[]) (mvT hZ20 (hw _ (List.mem_of_getElem? (i := 90) rfl)))) (mvT hZ20 (hw _ (List.mem_of_getElem? (i := 90) rfl))) (mvT hZ20 (hw _ (List.mem_of_getElem? (i := 89) rfl))) (by decide) (backOf (W := 0) (rm15 l Z a0 hw [] rr u kb (Int32.ofNat ((8 * n + 4) / 5)) (own_out (own_enc 0 0 (own_rs q2 q3 n))) T20.heap n0 Z20 cz hcz O1 OL20 hnz SD.1 SD.2.2.1 SD.2.1 SD.2.2.2) hZ20 (hw _ (List.mem_of_getElem? (i := 91) rfl)) (hw _ (List.mem_of_getElem? (i := 22) rfl)) (by decide) (by decide)) qa23 qc23 (g := (mkF m 232 #[.val (.int p1), .val (.long q2), .second, .val (.long q3), .second, .val (.int (Int32.ofNat n)), .val (.ref dd), .val (.ref rr), .val (.long v2), .second, .val (.long v3), .second, .unset] [(.ref rr)])) rfl (by rw [hml]; rfl) (Steps.refl _) (argsL := []) (rest := []) (lenOf own_pd0 rfl) rfl (by show 2 * 0 + _ ≤ _; exact Nat.le_of_eq rfl) (hb hby at_232) (fun _ _ => ⟨rfl, e22, (by decide : 7 + 0 ≤ _), (by decide : 182 + 0 ≤ _)⟩)
  dsimp only [Pt.U, Pt.locs, Pt.cells, Pt.slots] at X23 l23 y23 z23 st23 hQ23
  subst l23 y23 z23
  obtain ⟨rfl, N23q, e23⟩ := hQ23
  have N23 := Fr.app N22 N23q
  have sg21 : ∀ tgt, Steps p.tables e below (T23.setTop (mkF m 266 #[.val (.int p1), .val (.long q2), .second, .val (.long q3), .second, .val (.int (Int32.ofNat n)), .val (.ref dd), .val (.ref rr), .val (.long v2), .second, .val (.long v3), .second, .val (.int (1 : Int32))] [(.long v3), (.long v2), (.int (0 : Int32)), (.ref rr)])) tgt → Steps p.tables e below (T23.setTop (mkF m 235 #[.val (.int p1), .val (.long q2), .second, .val (.long q3), .second, .val (.int (Int32.ofNat n)), .val (.ref dd), .val (.ref rr), .val (.long v2), .second, .val (.long v3), .second, .unset] [(.int (Int32.ofNat ((8 * n + 4) / 5)))])) tgt := by
    intro tgt kk
    show Steps p.tables e below (T23.setTop (mkF m 235 #[.val (.int p1), .val (.long q2), .second, .val (.long q3), .second, .val (.int (Int32.ofNat n)), .val (.ref dd), .val (.ref rr), .val (.long v2), .second, .val (.long v3), .second, .unset] [(.int (Int32.ofNat ((8 * n + 4) / 5)))])) _
    refine XT.bipushV X23.here hx rfl (8 : Int32) (hb hby at_235) (by decide) ?_
    show Steps p.tables e below (T23.setTop (mkF m 237 #[.val (.int p1), .val (.long q2), .second, .val (.long q3), .second, .val (.int (Int32.ofNat n)), .val (.ref dd), .val (.ref rr), .val (.long v2), .second, .val (.long v3), .second, .unset] [(.int (8 : Int32)), (.int (Int32.ofNat ((8 * n + 4) / 5)))])) _
    refine XS.iload X23.here hx rfl (hb hby at_237) rfl ?_
    show Steps p.tables e below (T23.setTop (mkF m 239 #[.val (.int p1), .val (.long q2), .second, .val (.long q3), .second, .val (.int (Int32.ofNat n)), .val (.ref dd), .val (.ref rr), .val (.long v2), .second, .val (.long v3), .second, .unset] [(.int (Int32.ofNat n)), (.int (8 : Int32)), (.int (Int32.ofNat ((8 * n + 4) / 5)))])) _
    refine XS.imul X23.here hx rfl (hb hby at_239) rfl ?_
    show Steps p.tables e below (T23.setTop (mkF m 240 #[.val (.int p1), .val (.long q2), .second, .val (.long q3), .second, .val (.int (Int32.ofNat n)), .val (.ref dd), .val (.ref rr), .val (.long v2), .second, .val (.long v3), .second, .unset] [(.int ((8 : Int32) * (Int32.ofNat n))), (.int (Int32.ofNat ((8 * n + 4) / 5)))])) _
    refine XT.iconstV X23.here hx rfl (4 : Int32) (hb hby at_240) (by decide) ?_
    show Steps p.tables e below (T23.setTop (mkF m 241 #[.val (.int p1), .val (.long q2), .second, .val (.long q3), .second, .val (.int (Int32.ofNat n)), .val (.ref dd), .val (.ref rr), .val (.long v2), .second, .val (.long v3), .second, .unset] [(.int (4 : Int32)), (.int ((8 : Int32) * (Int32.ofNat n))), (.int (Int32.ofNat ((8 * n + 4) / 5)))])) _
    refine XS.iadd X23.here hx rfl (hb hby at_241) rfl ?_
    show Steps p.tables e below (T23.setTop (mkF m 242 #[.val (.int p1), .val (.long q2), .second, .val (.long q3), .second, .val (.int (Int32.ofNat n)), .val (.ref dd), .val (.ref rr), .val (.long v2), .second, .val (.long v3), .second, .unset] [(.int (((8 : Int32) * (Int32.ofNat n)) + (4 : Int32))), (.int (Int32.ofNat ((8 * n + 4) / 5)))])) _
    refine XT.iconstV X23.here hx rfl (5 : Int32) (hb hby at_242) (by decide) ?_
    show Steps p.tables e below (T23.setTop (mkF m 243 #[.val (.int p1), .val (.long q2), .second, .val (.long q3), .second, .val (.int (Int32.ofNat n)), .val (.ref dd), .val (.ref rr), .val (.long v2), .second, .val (.long v3), .second, .unset] [(.int (5 : Int32)), (.int (((8 : Int32) * (Int32.ofNat n)) + (4 : Int32))), (.int (Int32.ofNat ((8 * n + 4) / 5)))])) _
    refine XS.idiv X23.here hx rfl (hb hby at_243) rfl (by decide) ?_
    show Steps p.tables e below (T23.setTop (mkF m 244 #[.val (.int p1), .val (.long q2), .second, .val (.long q3), .second, .val (.int (Int32.ofNat n)), .val (.ref dd), .val (.ref rr), .val (.long v2), .second, .val (.long v3), .second, .unset] [(.int ((((8 : Int32) * (Int32.ofNat n)) + (4 : Int32)) / (5 : Int32))), (.int (Int32.ofNat ((8 * n + 4) / 5)))])) _
    refine XS.icmpNo X23.here hx rfl (hb hby at_244) rfl (XT.ii_ne_f (own_lenE hn)) ?_
    show Steps p.tables e below (T23.setTop (mkF m 247 #[.val (.int p1), .val (.long q2), .second, .val (.long q3), .second, .val (.int (Int32.ofNat n)), .val (.ref dd), .val (.ref rr), .val (.long v2), .second, .val (.long v3), .second, .unset] [])) _
    refine XT.iconstV X23.here hx rfl (1 : Int32) (hb hby at_247) (by decide) ?_
    show Steps p.tables e below (T23.setTop (mkF m 248 #[.val (.int p1), .val (.long q2), .second, .val (.long q3), .second, .val (.int (Int32.ofNat n)), .val (.ref dd), .val (.ref rr), .val (.long v2), .second, .val (.long v3), .second, .unset] [(.int (1 : Int32))])) _
    refine XS.goto X23.here hx rfl (pc0 := 248) (pc' := 252) rfl (hb hby at_248) (by decide) (by decide) ?_
    show Steps p.tables e below (T23.setTop (mkF m 252 #[.val (.int p1), .val (.long q2), .second, .val (.long q3), .second, .val (.int (Int32.ofNat n)), .val (.ref dd), .val (.ref rr), .val (.long v2), .second, .val (.long v3), .second, .unset] [(.int (1 : Int32))])) _
    refine XS.istore X23.here hx rfl (hb hby at_252) rfl (l' := #[.val (.int p1), .val (.long q2), .second, .val (.long q3), .second, .val (.int (Int32.ofNat n)), .val (.ref dd), .val (.ref rr), .val (.long v2), .second, .val (.long v3), .second, .val (.int (1 : Int32))]) rfl ?_
    show Steps p.tables e below (T23.setTop (mkF m 254 #[.val (.int p1), .val (.long q2), .second, .val (.long q3), .second, .val (.int (Int32.ofNat n)), .val (.ref dd), .val (.ref rr), .val (.long v2), .second, .val (.long v3), .second, .val (.int (1 : Int32))] [])) _
    refine XS.iload X23.here hx rfl (hb hby at_254) rfl ?_
    show Steps p.tables e below (T23.setTop (mkF m 256 #[.val (.int p1), .val (.long q2), .second, .val (.long q3), .second, .val (.int (Int32.ofNat n)), .val (.ref dd), .val (.ref rr), .val (.long v2), .second, .val (.long v3), .second, .val (.int (1 : Int32))] [(.int (1 : Int32))])) _
    refine XS.ifNo X23.here hx rfl (hb hby at_256) rfl (XT.i0_eq_f (by decide)) ?_
    show Steps p.tables e below (T23.setTop (mkF m 259 #[.val (.int p1), .val (.long q2), .second, .val (.long q3), .second, .val (.int (Int32.ofNat n)), .val (.ref dd), .val (.ref rr), .val (.long v2), .second, .val (.long v3), .second, .val (.int (1 : Int32))] [])) _
    refine XS.aload X23.here hx rfl (hb hby at_259) rfl rfl ?_
    show Steps p.tables e below (T23.setTop (mkF m 261 #[.val (.int p1), .val (.long q2), .second, .val (.long q3), .second, .val (.int (Int32.ofNat n)), .val (.ref dd), .val (.ref rr), .val (.long v2), .second, .val (.long v3), .second, .val (.int (1 : Int32))] [(.ref rr)])) _
    refine XT.iconstV X23.here hx rfl (0 : Int32) (hb hby at_261) (by decide) ?_
    show Steps p.tables e below (T23.setTop (mkF m 262 #[.val (.int p1), .val (.long q2), .second, .val (.long q3), .second, .val (.int (Int32.ofNat n)), .val (.ref dd), .val (.ref rr), .val (.long v2), .second, .val (.long v3), .second, .val (.int (1 : Int32))] [(.int (0 : Int32)), (.ref rr)])) _
    refine XT.lload X23.here hx rfl (hb hby at_262) rfl ?_
    show Steps p.tables e below (T23.setTop (mkF m 264 #[.val (.int p1), .val (.long q2), .second, .val (.long q3), .second, .val (.int (Int32.ofNat n)), .val (.ref dd), .val (.ref rr), .val (.long v2), .second, .val (.long v3), .second, .val (.int (1 : Int32))] [(.long v2), (.int (0 : Int32)), (.ref rr)])) _
    refine XT.lload X23.here hx rfl (hb hby at_264) rfl ?_
    exact kk
  -- pc 266: com/example/mavs/mavs/activation/Base32EncodePinLaw.at
  obtain ⟨_, _, ⟨T24, L24, k24, n24⟩, -, X24, ⟨Lc24, hQ24, l24, y24, z24⟩, st24⟩ := Jvm.LawKit.callS X23 hx (y := (⟨"com/example/mavs/mavs/activation/Base32EncodePinLaw", "at", "(Ljava/lang/String;IJJ)Z"⟩ : MethodName)) hown20 (mvT hZ20 (hw _ (List.mem_of_getElem? (i := 98) rfl))) (mvT hZ20 (hw _ (List.mem_of_getElem? (i := 99) rfl))) (mvT hZ20 (hw _ (List.mem_of_getElem? (i := 82) rfl))) (mvT hZ20 (hw _ (List.mem_of_getElem? (i := 100) rfl))) (by decide) (backOf (W := 0) (rm17 l Z a0 hw [] rr (0 : Int32) v2 v3 u kb ((8 * n + 4) / 5) (own_out (own_enc 0 0 (own_rs q2 q3 n))) T20.heap n0 Z20 cz hcz O1 OL20 hnz fm hfm O2 SD hN (by decide) (by rw [hv2, hv3]; exact own_good q2 q3 n hn 0 (by decide))) hZ20 (hw _ (List.mem_of_getElem? (i := 100) rfl)) (hw _ (List.mem_of_getElem? (i := 82) rfl)) (by decide) (by decide)) (g := (mkF m 266 #[.val (.int p1), .val (.long q2), .second, .val (.long q3), .second, .val (.int (Int32.ofNat n)), .val (.ref dd), .val (.ref rr), .val (.long v2), .second, .val (.long v3), .second, .val (.int (1 : Int32))] [(.long v3), (.long v2), (.int (0 : Int32)), (.ref rr)])) rfl (by rw [hml]; rfl) (argsL := [(.ref rr), (.int (0 : Int32)), (.long v2), (.long v3)]) (rest := []) (lenOf own_pd19 rfl) rfl (by show 2 * 0 + _ ≤ _; exact Nat.le_of_eq rfl) (hb hby at_266) (fun _ _ => ⟨rfl, e23, (by decide : 7 + 0 ≤ _), (by decide : 182 + 0 ≤ _)⟩)
  dsimp only [Pt.U, Pt.locs, Pt.cells, Pt.slots] at X24 l24 y24 z24 st24 hQ24
  subst l24 y24 z24
  obtain ⟨rfl, N24q, e24⟩ := hQ24
  have N24 := Fr.app N23 N24q
  have sg23 : ∀ tgt, Steps p.tables e below (T24.setTop (mkF m 279 #[.val (.int p1), .val (.long q2), .second, .val (.long q3), .second, .val (.int (Int32.ofNat n)), .val (.ref dd), .val (.ref rr), .val (.long v2), .second, .val (.long v3), .second, .val (.int (1 : Int32))] [(.long v3), (.long v2), (.int (1 : Int32)), (.ref rr)])) tgt → Steps p.tables e below (T24.setTop (mkF m 269 #[.val (.int p1), .val (.long q2), .second, .val (.long q3), .second, .val (.int (Int32.ofNat n)), .val (.ref dd), .val (.ref rr), .val (.long v2), .second, .val (.long v3), .second, .val (.int (1 : Int32))] [(.int (1 : Int32))])) tgt := by
    intro tgt kk
    show Steps p.tables e below (T24.setTop (mkF m 269 #[.val (.int p1), .val (.long q2), .second, .val (.long q3), .second, .val (.int (Int32.ofNat n)), .val (.ref dd), .val (.ref rr), .val (.long v2), .second, .val (.long v3), .second, .val (.int (1 : Int32))] [(.int (1 : Int32))])) _
    refine XS.ifNo X24.here hx rfl (hb hby at_269) rfl (XT.i0_eq_f (by decide)) ?_
    show Steps p.tables e below (T24.setTop (mkF m 272 #[.val (.int p1), .val (.long q2), .second, .val (.long q3), .second, .val (.int (Int32.ofNat n)), .val (.ref dd), .val (.ref rr), .val (.long v2), .second, .val (.long v3), .second, .val (.int (1 : Int32))] [])) _
    refine XS.aload X24.here hx rfl (hb hby at_272) rfl rfl ?_
    show Steps p.tables e below (T24.setTop (mkF m 274 #[.val (.int p1), .val (.long q2), .second, .val (.long q3), .second, .val (.int (Int32.ofNat n)), .val (.ref dd), .val (.ref rr), .val (.long v2), .second, .val (.long v3), .second, .val (.int (1 : Int32))] [(.ref rr)])) _
    refine XT.iconstV X24.here hx rfl (1 : Int32) (hb hby at_274) (by decide) ?_
    show Steps p.tables e below (T24.setTop (mkF m 275 #[.val (.int p1), .val (.long q2), .second, .val (.long q3), .second, .val (.int (Int32.ofNat n)), .val (.ref dd), .val (.ref rr), .val (.long v2), .second, .val (.long v3), .second, .val (.int (1 : Int32))] [(.int (1 : Int32)), (.ref rr)])) _
    refine XT.lload X24.here hx rfl (hb hby at_275) rfl ?_
    show Steps p.tables e below (T24.setTop (mkF m 277 #[.val (.int p1), .val (.long q2), .second, .val (.long q3), .second, .val (.int (Int32.ofNat n)), .val (.ref dd), .val (.ref rr), .val (.long v2), .second, .val (.long v3), .second, .val (.int (1 : Int32))] [(.long v2), (.int (1 : Int32)), (.ref rr)])) _
    refine XT.lload X24.here hx rfl (hb hby at_277) rfl ?_
    exact kk
  -- pc 279: com/example/mavs/mavs/activation/Base32EncodePinLaw.at
  obtain ⟨_, _, ⟨T25, L25, k25, n25⟩, -, X25, ⟨Lc25, hQ25, l25, y25, z25⟩, st25⟩ := Jvm.LawKit.callS X24 hx (y := (⟨"com/example/mavs/mavs/activation/Base32EncodePinLaw", "at", "(Ljava/lang/String;IJJ)Z"⟩ : MethodName)) hown20 (mvT hZ20 (hw _ (List.mem_of_getElem? (i := 98) rfl))) (mvT hZ20 (hw _ (List.mem_of_getElem? (i := 99) rfl))) (mvT hZ20 (hw _ (List.mem_of_getElem? (i := 82) rfl))) (mvT hZ20 (hw _ (List.mem_of_getElem? (i := 100) rfl))) (by decide) (backOf (W := 0) (rm17 l Z a0 hw [] rr (1 : Int32) v2 v3 u kb ((8 * n + 4) / 5) (own_out (own_enc 0 0 (own_rs q2 q3 n))) T20.heap n0 Z20 cz hcz O1 OL20 hnz fm hfm O2 SD hN (by decide) (by rw [hv2, hv3]; exact own_good q2 q3 n hn 1 (by decide))) hZ20 (hw _ (List.mem_of_getElem? (i := 100) rfl)) (hw _ (List.mem_of_getElem? (i := 82) rfl)) (by decide) (by decide)) (g := (mkF m 279 #[.val (.int p1), .val (.long q2), .second, .val (.long q3), .second, .val (.int (Int32.ofNat n)), .val (.ref dd), .val (.ref rr), .val (.long v2), .second, .val (.long v3), .second, .val (.int (1 : Int32))] [(.long v3), (.long v2), (.int (1 : Int32)), (.ref rr)])) rfl (by rw [hml]; rfl) (argsL := [(.ref rr), (.int (1 : Int32)), (.long v2), (.long v3)]) (rest := []) (lenOf own_pd19 rfl) rfl (by show 2 * 0 + _ ≤ _; exact Nat.le_of_eq rfl) (hb hby at_279) (fun _ _ => ⟨rfl, e24, (by decide : 7 + 0 ≤ _), (by decide : 182 + 0 ≤ _)⟩)
  dsimp only [Pt.U, Pt.locs, Pt.cells, Pt.slots] at X25 l25 y25 z25 st25 hQ25
  subst l25 y25 z25
  obtain ⟨rfl, N25q, e25⟩ := hQ25
  have N25 := Fr.app N24 N25q
  have sg25 : ∀ tgt, Steps p.tables e below (T25.setTop (mkF m 292 #[.val (.int p1), .val (.long q2), .second, .val (.long q3), .second, .val (.int (Int32.ofNat n)), .val (.ref dd), .val (.ref rr), .val (.long v2), .second, .val (.long v3), .second, .val (.int (1 : Int32))] [(.long v3), (.long v2), (.int (2 : Int32)), (.ref rr)])) tgt → Steps p.tables e below (T25.setTop (mkF m 282 #[.val (.int p1), .val (.long q2), .second, .val (.long q3), .second, .val (.int (Int32.ofNat n)), .val (.ref dd), .val (.ref rr), .val (.long v2), .second, .val (.long v3), .second, .val (.int (1 : Int32))] [(.int (1 : Int32))])) tgt := by
    intro tgt kk
    show Steps p.tables e below (T25.setTop (mkF m 282 #[.val (.int p1), .val (.long q2), .second, .val (.long q3), .second, .val (.int (Int32.ofNat n)), .val (.ref dd), .val (.ref rr), .val (.long v2), .second, .val (.long v3), .second, .val (.int (1 : Int32))] [(.int (1 : Int32))])) _
    refine XS.ifNo X25.here hx rfl (hb hby at_282) rfl (XT.i0_eq_f (by decide)) ?_
    show Steps p.tables e below (T25.setTop (mkF m 285 #[.val (.int p1), .val (.long q2), .second, .val (.long q3), .second, .val (.int (Int32.ofNat n)), .val (.ref dd), .val (.ref rr), .val (.long v2), .second, .val (.long v3), .second, .val (.int (1 : Int32))] [])) _
    refine XS.aload X25.here hx rfl (hb hby at_285) rfl rfl ?_
    show Steps p.tables e below (T25.setTop (mkF m 287 #[.val (.int p1), .val (.long q2), .second, .val (.long q3), .second, .val (.int (Int32.ofNat n)), .val (.ref dd), .val (.ref rr), .val (.long v2), .second, .val (.long v3), .second, .val (.int (1 : Int32))] [(.ref rr)])) _
    refine XT.iconstV X25.here hx rfl (2 : Int32) (hb hby at_287) (by decide) ?_
    show Steps p.tables e below (T25.setTop (mkF m 288 #[.val (.int p1), .val (.long q2), .second, .val (.long q3), .second, .val (.int (Int32.ofNat n)), .val (.ref dd), .val (.ref rr), .val (.long v2), .second, .val (.long v3), .second, .val (.int (1 : Int32))] [(.int (2 : Int32)), (.ref rr)])) _
    refine XT.lload X25.here hx rfl (hb hby at_288) rfl ?_
    show Steps p.tables e below (T25.setTop (mkF m 290 #[.val (.int p1), .val (.long q2), .second, .val (.long q3), .second, .val (.int (Int32.ofNat n)), .val (.ref dd), .val (.ref rr), .val (.long v2), .second, .val (.long v3), .second, .val (.int (1 : Int32))] [(.long v2), (.int (2 : Int32)), (.ref rr)])) _
    refine XT.lload X25.here hx rfl (hb hby at_290) rfl ?_
    exact kk
  -- pc 292: com/example/mavs/mavs/activation/Base32EncodePinLaw.at
  obtain ⟨_, _, ⟨T26, L26, k26, n26⟩, -, X26, ⟨Lc26, hQ26, l26, y26, z26⟩, st26⟩ := Jvm.LawKit.callS X25 hx (y := (⟨"com/example/mavs/mavs/activation/Base32EncodePinLaw", "at", "(Ljava/lang/String;IJJ)Z"⟩ : MethodName)) hown20 (mvT hZ20 (hw _ (List.mem_of_getElem? (i := 98) rfl))) (mvT hZ20 (hw _ (List.mem_of_getElem? (i := 99) rfl))) (mvT hZ20 (hw _ (List.mem_of_getElem? (i := 82) rfl))) (mvT hZ20 (hw _ (List.mem_of_getElem? (i := 100) rfl))) (by decide) (backOf (W := 0) (rm17 l Z a0 hw [] rr (2 : Int32) v2 v3 u kb ((8 * n + 4) / 5) (own_out (own_enc 0 0 (own_rs q2 q3 n))) T20.heap n0 Z20 cz hcz O1 OL20 hnz fm hfm O2 SD hN (by decide) (by rw [hv2, hv3]; exact own_good q2 q3 n hn 2 (by decide))) hZ20 (hw _ (List.mem_of_getElem? (i := 100) rfl)) (hw _ (List.mem_of_getElem? (i := 82) rfl)) (by decide) (by decide)) (g := (mkF m 292 #[.val (.int p1), .val (.long q2), .second, .val (.long q3), .second, .val (.int (Int32.ofNat n)), .val (.ref dd), .val (.ref rr), .val (.long v2), .second, .val (.long v3), .second, .val (.int (1 : Int32))] [(.long v3), (.long v2), (.int (2 : Int32)), (.ref rr)])) rfl (by rw [hml]; rfl) (argsL := [(.ref rr), (.int (2 : Int32)), (.long v2), (.long v3)]) (rest := []) (lenOf own_pd19 rfl) rfl (by show 2 * 0 + _ ≤ _; exact Nat.le_of_eq rfl) (hb hby at_292) (fun _ _ => ⟨rfl, e25, (by decide : 7 + 0 ≤ _), (by decide : 182 + 0 ≤ _)⟩)
  dsimp only [Pt.U, Pt.locs, Pt.cells, Pt.slots] at X26 l26 y26 z26 st26 hQ26
  subst l26 y26 z26
  obtain ⟨rfl, N26q, e26⟩ := hQ26
  have N26 := Fr.app N25 N26q
  have sg27 : ∀ tgt, Steps p.tables e below (T26.setTop (mkF m 305 #[.val (.int p1), .val (.long q2), .second, .val (.long q3), .second, .val (.int (Int32.ofNat n)), .val (.ref dd), .val (.ref rr), .val (.long v2), .second, .val (.long v3), .second, .val (.int (1 : Int32))] [(.long v3), (.long v2), (.int (3 : Int32)), (.ref rr)])) tgt → Steps p.tables e below (T26.setTop (mkF m 295 #[.val (.int p1), .val (.long q2), .second, .val (.long q3), .second, .val (.int (Int32.ofNat n)), .val (.ref dd), .val (.ref rr), .val (.long v2), .second, .val (.long v3), .second, .val (.int (1 : Int32))] [(.int (1 : Int32))])) tgt := by
    intro tgt kk
    show Steps p.tables e below (T26.setTop (mkF m 295 #[.val (.int p1), .val (.long q2), .second, .val (.long q3), .second, .val (.int (Int32.ofNat n)), .val (.ref dd), .val (.ref rr), .val (.long v2), .second, .val (.long v3), .second, .val (.int (1 : Int32))] [(.int (1 : Int32))])) _
    refine XS.ifNo X26.here hx rfl (hb hby at_295) rfl (XT.i0_eq_f (by decide)) ?_
    show Steps p.tables e below (T26.setTop (mkF m 298 #[.val (.int p1), .val (.long q2), .second, .val (.long q3), .second, .val (.int (Int32.ofNat n)), .val (.ref dd), .val (.ref rr), .val (.long v2), .second, .val (.long v3), .second, .val (.int (1 : Int32))] [])) _
    refine XS.aload X26.here hx rfl (hb hby at_298) rfl rfl ?_
    show Steps p.tables e below (T26.setTop (mkF m 300 #[.val (.int p1), .val (.long q2), .second, .val (.long q3), .second, .val (.int (Int32.ofNat n)), .val (.ref dd), .val (.ref rr), .val (.long v2), .second, .val (.long v3), .second, .val (.int (1 : Int32))] [(.ref rr)])) _
    refine XT.iconstV X26.here hx rfl (3 : Int32) (hb hby at_300) (by decide) ?_
    show Steps p.tables e below (T26.setTop (mkF m 301 #[.val (.int p1), .val (.long q2), .second, .val (.long q3), .second, .val (.int (Int32.ofNat n)), .val (.ref dd), .val (.ref rr), .val (.long v2), .second, .val (.long v3), .second, .val (.int (1 : Int32))] [(.int (3 : Int32)), (.ref rr)])) _
    refine XT.lload X26.here hx rfl (hb hby at_301) rfl ?_
    show Steps p.tables e below (T26.setTop (mkF m 303 #[.val (.int p1), .val (.long q2), .second, .val (.long q3), .second, .val (.int (Int32.ofNat n)), .val (.ref dd), .val (.ref rr), .val (.long v2), .second, .val (.long v3), .second, .val (.int (1 : Int32))] [(.long v2), (.int (3 : Int32)), (.ref rr)])) _
    refine XT.lload X26.here hx rfl (hb hby at_303) rfl ?_
    exact kk
  -- pc 305: com/example/mavs/mavs/activation/Base32EncodePinLaw.at
  obtain ⟨_, _, ⟨T27, L27, k27, n27⟩, -, X27, ⟨Lc27, hQ27, l27, y27, z27⟩, st27⟩ := Jvm.LawKit.callS X26 hx (y := (⟨"com/example/mavs/mavs/activation/Base32EncodePinLaw", "at", "(Ljava/lang/String;IJJ)Z"⟩ : MethodName)) hown20 (mvT hZ20 (hw _ (List.mem_of_getElem? (i := 98) rfl))) (mvT hZ20 (hw _ (List.mem_of_getElem? (i := 99) rfl))) (mvT hZ20 (hw _ (List.mem_of_getElem? (i := 82) rfl))) (mvT hZ20 (hw _ (List.mem_of_getElem? (i := 100) rfl))) (by decide) (backOf (W := 0) (rm17 l Z a0 hw [] rr (3 : Int32) v2 v3 u kb ((8 * n + 4) / 5) (own_out (own_enc 0 0 (own_rs q2 q3 n))) T20.heap n0 Z20 cz hcz O1 OL20 hnz fm hfm O2 SD hN (by decide) (by rw [hv2, hv3]; exact own_good q2 q3 n hn 3 (by decide))) hZ20 (hw _ (List.mem_of_getElem? (i := 100) rfl)) (hw _ (List.mem_of_getElem? (i := 82) rfl)) (by decide) (by decide)) (g := (mkF m 305 #[.val (.int p1), .val (.long q2), .second, .val (.long q3), .second, .val (.int (Int32.ofNat n)), .val (.ref dd), .val (.ref rr), .val (.long v2), .second, .val (.long v3), .second, .val (.int (1 : Int32))] [(.long v3), (.long v2), (.int (3 : Int32)), (.ref rr)])) rfl (by rw [hml]; rfl) (argsL := [(.ref rr), (.int (3 : Int32)), (.long v2), (.long v3)]) (rest := []) (lenOf own_pd19 rfl) rfl (by show 2 * 0 + _ ≤ _; exact Nat.le_of_eq rfl) (hb hby at_305) (fun _ _ => ⟨rfl, e26, (by decide : 7 + 0 ≤ _), (by decide : 182 + 0 ≤ _)⟩)
  dsimp only [Pt.U, Pt.locs, Pt.cells, Pt.slots] at X27 l27 y27 z27 st27 hQ27
  subst l27 y27 z27
  obtain ⟨rfl, N27q, e27⟩ := hQ27
  have N27 := Fr.app N26 N27q
  have sg29 : ∀ tgt, Steps p.tables e below (T27.setTop (mkF m 330 #[.val (.int p1), .val (.long q2), .second, .val (.long q3), .second, .val (.int (Int32.ofNat n)), .val (.ref dd), .val (.ref rr), .val (.long v2), .second, .val (.long v3), .second, .val (.int (1 : Int32))] [(.long v3), (.long v2), (.int (4 : Int32)), (.ref rr)])) tgt → Steps p.tables e below (T27.setTop (mkF m 308 #[.val (.int p1), .val (.long q2), .second, .val (.long q3), .second, .val (.int (Int32.ofNat n)), .val (.ref dd), .val (.ref rr), .val (.long v2), .second, .val (.long v3), .second, .val (.int (1 : Int32))] [(.int (1 : Int32))])) tgt := by
    intro tgt kk
    show Steps p.tables e below (T27.setTop (mkF m 308 #[.val (.int p1), .val (.long q2), .second, .val (.long q3), .second, .val (.int (Int32.ofNat n)), .val (.ref dd), .val (.ref rr), .val (.long v2), .second, .val (.long v3), .second, .val (.int (1 : Int32))] [(.int (1 : Int32))])) _
    refine XS.ifNo X27.here hx rfl (hb hby at_308) rfl (XT.i0_eq_f (by decide)) ?_
    show Steps p.tables e below (T27.setTop (mkF m 311 #[.val (.int p1), .val (.long q2), .second, .val (.long q3), .second, .val (.int (Int32.ofNat n)), .val (.ref dd), .val (.ref rr), .val (.long v2), .second, .val (.long v3), .second, .val (.int (1 : Int32))] [])) _
    refine XT.iconstV X27.here hx rfl (1 : Int32) (hb hby at_311) (by decide) ?_
    show Steps p.tables e below (T27.setTop (mkF m 312 #[.val (.int p1), .val (.long q2), .second, .val (.long q3), .second, .val (.int (Int32.ofNat n)), .val (.ref dd), .val (.ref rr), .val (.long v2), .second, .val (.long v3), .second, .val (.int (1 : Int32))] [(.int (1 : Int32))])) _
    refine XS.goto X27.here hx rfl (pc0 := 312) (pc' := 316) rfl (hb hby at_312) (by decide) (by decide) ?_
    show Steps p.tables e below (T27.setTop (mkF m 316 #[.val (.int p1), .val (.long q2), .second, .val (.long q3), .second, .val (.int (Int32.ofNat n)), .val (.ref dd), .val (.ref rr), .val (.long v2), .second, .val (.long v3), .second, .val (.int (1 : Int32))] [(.int (1 : Int32))])) _
    refine XS.istore X27.here hx rfl (hb hby at_316) rfl (l' := #[.val (.int p1), .val (.long q2), .second, .val (.long q3), .second, .val (.int (Int32.ofNat n)), .val (.ref dd), .val (.ref rr), .val (.long v2), .second, .val (.long v3), .second, .val (.int (1 : Int32))]) rfl ?_
    show Steps p.tables e below (T27.setTop (mkF m 318 #[.val (.int p1), .val (.long q2), .second, .val (.long q3), .second, .val (.int (Int32.ofNat n)), .val (.ref dd), .val (.ref rr), .val (.long v2), .second, .val (.long v3), .second, .val (.int (1 : Int32))] [])) _
    refine XS.iload X27.here hx rfl (hb hby at_318) rfl ?_
    show Steps p.tables e below (T27.setTop (mkF m 320 #[.val (.int p1), .val (.long q2), .second, .val (.long q3), .second, .val (.int (Int32.ofNat n)), .val (.ref dd), .val (.ref rr), .val (.long v2), .second, .val (.long v3), .second, .val (.int (1 : Int32))] [(.int (1 : Int32))])) _
    refine XS.ifNo X27.here hx rfl (hb hby at_320) rfl (XT.i0_eq_f (by decide)) ?_
    show Steps p.tables e below (T27.setTop (mkF m 323 #[.val (.int p1), .val (.long q2), .second, .val (.long q3), .second, .val (.int (Int32.ofNat n)), .val (.ref dd), .val (.ref rr), .val (.long v2), .second, .val (.long v3), .second, .val (.int (1 : Int32))] [])) _
    refine XS.aload X27.here hx rfl (hb hby at_323) rfl rfl ?_
    show Steps p.tables e below (T27.setTop (mkF m 325 #[.val (.int p1), .val (.long q2), .second, .val (.long q3), .second, .val (.int (Int32.ofNat n)), .val (.ref dd), .val (.ref rr), .val (.long v2), .second, .val (.long v3), .second, .val (.int (1 : Int32))] [(.ref rr)])) _
    refine XT.iconstV X27.here hx rfl (4 : Int32) (hb hby at_325) (by decide) ?_
    show Steps p.tables e below (T27.setTop (mkF m 326 #[.val (.int p1), .val (.long q2), .second, .val (.long q3), .second, .val (.int (Int32.ofNat n)), .val (.ref dd), .val (.ref rr), .val (.long v2), .second, .val (.long v3), .second, .val (.int (1 : Int32))] [(.int (4 : Int32)), (.ref rr)])) _
    refine XT.lload X27.here hx rfl (hb hby at_326) rfl ?_
    show Steps p.tables e below (T27.setTop (mkF m 328 #[.val (.int p1), .val (.long q2), .second, .val (.long q3), .second, .val (.int (Int32.ofNat n)), .val (.ref dd), .val (.ref rr), .val (.long v2), .second, .val (.long v3), .second, .val (.int (1 : Int32))] [(.long v2), (.int (4 : Int32)), (.ref rr)])) _
    refine XT.lload X27.here hx rfl (hb hby at_328) rfl ?_
    exact kk
  -- pc 330: com/example/mavs/mavs/activation/Base32EncodePinLaw.at
  obtain ⟨_, _, ⟨T28, L28, k28, n28⟩, -, X28, ⟨Lc28, hQ28, l28, y28, z28⟩, st28⟩ := Jvm.LawKit.callS X27 hx (y := (⟨"com/example/mavs/mavs/activation/Base32EncodePinLaw", "at", "(Ljava/lang/String;IJJ)Z"⟩ : MethodName)) hown20 (mvT hZ20 (hw _ (List.mem_of_getElem? (i := 98) rfl))) (mvT hZ20 (hw _ (List.mem_of_getElem? (i := 99) rfl))) (mvT hZ20 (hw _ (List.mem_of_getElem? (i := 82) rfl))) (mvT hZ20 (hw _ (List.mem_of_getElem? (i := 100) rfl))) (by decide) (backOf (W := 0) (rm17 l Z a0 hw [] rr (4 : Int32) v2 v3 u kb ((8 * n + 4) / 5) (own_out (own_enc 0 0 (own_rs q2 q3 n))) T20.heap n0 Z20 cz hcz O1 OL20 hnz fm hfm O2 SD hN (by decide) (by rw [hv2, hv3]; exact own_good q2 q3 n hn 4 (by decide))) hZ20 (hw _ (List.mem_of_getElem? (i := 100) rfl)) (hw _ (List.mem_of_getElem? (i := 82) rfl)) (by decide) (by decide)) (g := (mkF m 330 #[.val (.int p1), .val (.long q2), .second, .val (.long q3), .second, .val (.int (Int32.ofNat n)), .val (.ref dd), .val (.ref rr), .val (.long v2), .second, .val (.long v3), .second, .val (.int (1 : Int32))] [(.long v3), (.long v2), (.int (4 : Int32)), (.ref rr)])) rfl (by rw [hml]; rfl) (argsL := [(.ref rr), (.int (4 : Int32)), (.long v2), (.long v3)]) (rest := []) (lenOf own_pd19 rfl) rfl (by show 2 * 0 + _ ≤ _; exact Nat.le_of_eq rfl) (hb hby at_330) (fun _ _ => ⟨rfl, e27, (by decide : 7 + 0 ≤ _), (by decide : 182 + 0 ≤ _)⟩)
  dsimp only [Pt.U, Pt.locs, Pt.cells, Pt.slots] at X28 l28 y28 z28 st28 hQ28
  subst l28 y28 z28
  obtain ⟨rfl, N28q, e28⟩ := hQ28
  have N28 := Fr.app N27 N28q
  have sg31 : ∀ tgt, Steps p.tables e below (T28.setTop (mkF m 343 #[.val (.int p1), .val (.long q2), .second, .val (.long q3), .second, .val (.int (Int32.ofNat n)), .val (.ref dd), .val (.ref rr), .val (.long v2), .second, .val (.long v3), .second, .val (.int (1 : Int32))] [(.long v3), (.long v2), (.int (5 : Int32)), (.ref rr)])) tgt → Steps p.tables e below (T28.setTop (mkF m 333 #[.val (.int p1), .val (.long q2), .second, .val (.long q3), .second, .val (.int (Int32.ofNat n)), .val (.ref dd), .val (.ref rr), .val (.long v2), .second, .val (.long v3), .second, .val (.int (1 : Int32))] [(.int (1 : Int32))])) tgt := by
    intro tgt kk
    show Steps p.tables e below (T28.setTop (mkF m 333 #[.val (.int p1), .val (.long q2), .second, .val (.long q3), .second, .val (.int (Int32.ofNat n)), .val (.ref dd), .val (.ref rr), .val (.long v2), .second, .val (.long v3), .second, .val (.int (1 : Int32))] [(.int (1 : Int32))])) _
    refine XS.ifNo X28.here hx rfl (hb hby at_333) rfl (XT.i0_eq_f (by decide)) ?_
    show Steps p.tables e below (T28.setTop (mkF m 336 #[.val (.int p1), .val (.long q2), .second, .val (.long q3), .second, .val (.int (Int32.ofNat n)), .val (.ref dd), .val (.ref rr), .val (.long v2), .second, .val (.long v3), .second, .val (.int (1 : Int32))] [])) _
    refine XS.aload X28.here hx rfl (hb hby at_336) rfl rfl ?_
    show Steps p.tables e below (T28.setTop (mkF m 338 #[.val (.int p1), .val (.long q2), .second, .val (.long q3), .second, .val (.int (Int32.ofNat n)), .val (.ref dd), .val (.ref rr), .val (.long v2), .second, .val (.long v3), .second, .val (.int (1 : Int32))] [(.ref rr)])) _
    refine XT.iconstV X28.here hx rfl (5 : Int32) (hb hby at_338) (by decide) ?_
    show Steps p.tables e below (T28.setTop (mkF m 339 #[.val (.int p1), .val (.long q2), .second, .val (.long q3), .second, .val (.int (Int32.ofNat n)), .val (.ref dd), .val (.ref rr), .val (.long v2), .second, .val (.long v3), .second, .val (.int (1 : Int32))] [(.int (5 : Int32)), (.ref rr)])) _
    refine XT.lload X28.here hx rfl (hb hby at_339) rfl ?_
    show Steps p.tables e below (T28.setTop (mkF m 341 #[.val (.int p1), .val (.long q2), .second, .val (.long q3), .second, .val (.int (Int32.ofNat n)), .val (.ref dd), .val (.ref rr), .val (.long v2), .second, .val (.long v3), .second, .val (.int (1 : Int32))] [(.long v2), (.int (5 : Int32)), (.ref rr)])) _
    refine XT.lload X28.here hx rfl (hb hby at_341) rfl ?_
    exact kk
  -- pc 343: com/example/mavs/mavs/activation/Base32EncodePinLaw.at
  obtain ⟨_, _, ⟨T29, L29, k29, n29⟩, -, X29, ⟨Lc29, hQ29, l29, y29, z29⟩, st29⟩ := Jvm.LawKit.callS X28 hx (y := (⟨"com/example/mavs/mavs/activation/Base32EncodePinLaw", "at", "(Ljava/lang/String;IJJ)Z"⟩ : MethodName)) hown20 (mvT hZ20 (hw _ (List.mem_of_getElem? (i := 98) rfl))) (mvT hZ20 (hw _ (List.mem_of_getElem? (i := 99) rfl))) (mvT hZ20 (hw _ (List.mem_of_getElem? (i := 82) rfl))) (mvT hZ20 (hw _ (List.mem_of_getElem? (i := 100) rfl))) (by decide) (backOf (W := 0) (rm17 l Z a0 hw [] rr (5 : Int32) v2 v3 u kb ((8 * n + 4) / 5) (own_out (own_enc 0 0 (own_rs q2 q3 n))) T20.heap n0 Z20 cz hcz O1 OL20 hnz fm hfm O2 SD hN (by decide) (by rw [hv2, hv3]; exact own_good q2 q3 n hn 5 (by decide))) hZ20 (hw _ (List.mem_of_getElem? (i := 100) rfl)) (hw _ (List.mem_of_getElem? (i := 82) rfl)) (by decide) (by decide)) (g := (mkF m 343 #[.val (.int p1), .val (.long q2), .second, .val (.long q3), .second, .val (.int (Int32.ofNat n)), .val (.ref dd), .val (.ref rr), .val (.long v2), .second, .val (.long v3), .second, .val (.int (1 : Int32))] [(.long v3), (.long v2), (.int (5 : Int32)), (.ref rr)])) rfl (by rw [hml]; rfl) (argsL := [(.ref rr), (.int (5 : Int32)), (.long v2), (.long v3)]) (rest := []) (lenOf own_pd19 rfl) rfl (by show 2 * 0 + _ ≤ _; exact Nat.le_of_eq rfl) (hb hby at_343) (fun _ _ => ⟨rfl, e28, (by decide : 7 + 0 ≤ _), (by decide : 182 + 0 ≤ _)⟩)
  dsimp only [Pt.U, Pt.locs, Pt.cells, Pt.slots] at X29 l29 y29 z29 st29 hQ29
  subst l29 y29 z29
  obtain ⟨rfl, N29q, e29⟩ := hQ29
  have N29 := Fr.app N28 N29q
  have sg33 : ∀ tgt, Steps p.tables e below (T29.setTop (mkF m 357 #[.val (.int p1), .val (.long q2), .second, .val (.long q3), .second, .val (.int (Int32.ofNat n)), .val (.ref dd), .val (.ref rr), .val (.long v2), .second, .val (.long v3), .second, .val (.int (1 : Int32))] [(.long v3), (.long v2), (.int (6 : Int32)), (.ref rr)])) tgt → Steps p.tables e below (T29.setTop (mkF m 346 #[.val (.int p1), .val (.long q2), .second, .val (.long q3), .second, .val (.int (Int32.ofNat n)), .val (.ref dd), .val (.ref rr), .val (.long v2), .second, .val (.long v3), .second, .val (.int (1 : Int32))] [(.int (1 : Int32))])) tgt := by
    intro tgt kk
    show Steps p.tables e below (T29.setTop (mkF m 346 #[.val (.int p1), .val (.long q2), .second, .val (.long q3), .second, .val (.int (Int32.ofNat n)), .val (.ref dd), .val (.ref rr), .val (.long v2), .second, .val (.long v3), .second, .val (.int (1 : Int32))] [(.int (1 : Int32))])) _
    refine XS.ifNo X29.here hx rfl (hb hby at_346) rfl (XT.i0_eq_f (by decide)) ?_
    show Steps p.tables e below (T29.setTop (mkF m 349 #[.val (.int p1), .val (.long q2), .second, .val (.long q3), .second, .val (.int (Int32.ofNat n)), .val (.ref dd), .val (.ref rr), .val (.long v2), .second, .val (.long v3), .second, .val (.int (1 : Int32))] [])) _
    refine XS.aload X29.here hx rfl (hb hby at_349) rfl rfl ?_
    show Steps p.tables e below (T29.setTop (mkF m 351 #[.val (.int p1), .val (.long q2), .second, .val (.long q3), .second, .val (.int (Int32.ofNat n)), .val (.ref dd), .val (.ref rr), .val (.long v2), .second, .val (.long v3), .second, .val (.int (1 : Int32))] [(.ref rr)])) _
    refine XT.bipushV X29.here hx rfl (6 : Int32) (hb hby at_351) (by decide) ?_
    show Steps p.tables e below (T29.setTop (mkF m 353 #[.val (.int p1), .val (.long q2), .second, .val (.long q3), .second, .val (.int (Int32.ofNat n)), .val (.ref dd), .val (.ref rr), .val (.long v2), .second, .val (.long v3), .second, .val (.int (1 : Int32))] [(.int (6 : Int32)), (.ref rr)])) _
    refine XT.lload X29.here hx rfl (hb hby at_353) rfl ?_
    show Steps p.tables e below (T29.setTop (mkF m 355 #[.val (.int p1), .val (.long q2), .second, .val (.long q3), .second, .val (.int (Int32.ofNat n)), .val (.ref dd), .val (.ref rr), .val (.long v2), .second, .val (.long v3), .second, .val (.int (1 : Int32))] [(.long v2), (.int (6 : Int32)), (.ref rr)])) _
    refine XT.lload X29.here hx rfl (hb hby at_355) rfl ?_
    exact kk
  -- pc 357: com/example/mavs/mavs/activation/Base32EncodePinLaw.at
  obtain ⟨_, _, ⟨T30, L30, k30, n30⟩, -, X30, ⟨Lc30, hQ30, l30, y30, z30⟩, st30⟩ := Jvm.LawKit.callS X29 hx (y := (⟨"com/example/mavs/mavs/activation/Base32EncodePinLaw", "at", "(Ljava/lang/String;IJJ)Z"⟩ : MethodName)) hown20 (mvT hZ20 (hw _ (List.mem_of_getElem? (i := 98) rfl))) (mvT hZ20 (hw _ (List.mem_of_getElem? (i := 99) rfl))) (mvT hZ20 (hw _ (List.mem_of_getElem? (i := 82) rfl))) (mvT hZ20 (hw _ (List.mem_of_getElem? (i := 100) rfl))) (by decide) (backOf (W := 0) (rm17 l Z a0 hw [] rr (6 : Int32) v2 v3 u kb ((8 * n + 4) / 5) (own_out (own_enc 0 0 (own_rs q2 q3 n))) T20.heap n0 Z20 cz hcz O1 OL20 hnz fm hfm O2 SD hN (by decide) (by rw [hv2, hv3]; exact own_good q2 q3 n hn 6 (by decide))) hZ20 (hw _ (List.mem_of_getElem? (i := 100) rfl)) (hw _ (List.mem_of_getElem? (i := 82) rfl)) (by decide) (by decide)) (g := (mkF m 357 #[.val (.int p1), .val (.long q2), .second, .val (.long q3), .second, .val (.int (Int32.ofNat n)), .val (.ref dd), .val (.ref rr), .val (.long v2), .second, .val (.long v3), .second, .val (.int (1 : Int32))] [(.long v3), (.long v2), (.int (6 : Int32)), (.ref rr)])) rfl (by rw [hml]; rfl) (argsL := [(.ref rr), (.int (6 : Int32)), (.long v2), (.long v3)]) (rest := []) (lenOf own_pd19 rfl) rfl (by show 2 * 0 + _ ≤ _; exact Nat.le_of_eq rfl) (hb hby at_357) (fun _ _ => ⟨rfl, e29, (by decide : 7 + 0 ≤ _), (by decide : 182 + 0 ≤ _)⟩)
  dsimp only [Pt.U, Pt.locs, Pt.cells, Pt.slots] at X30 l30 y30 z30 st30 hQ30
  subst l30 y30 z30
  obtain ⟨rfl, N30q, e30⟩ := hQ30
  have N30 := Fr.app N29 N30q
  have sg35 : ∀ tgt, Steps p.tables e below (T30.setTop (mkF m 371 #[.val (.int p1), .val (.long q2), .second, .val (.long q3), .second, .val (.int (Int32.ofNat n)), .val (.ref dd), .val (.ref rr), .val (.long v2), .second, .val (.long v3), .second, .val (.int (1 : Int32))] [(.long v3), (.long v2), (.int (7 : Int32)), (.ref rr)])) tgt → Steps p.tables e below (T30.setTop (mkF m 360 #[.val (.int p1), .val (.long q2), .second, .val (.long q3), .second, .val (.int (Int32.ofNat n)), .val (.ref dd), .val (.ref rr), .val (.long v2), .second, .val (.long v3), .second, .val (.int (1 : Int32))] [(.int (1 : Int32))])) tgt := by
    intro tgt kk
    show Steps p.tables e below (T30.setTop (mkF m 360 #[.val (.int p1), .val (.long q2), .second, .val (.long q3), .second, .val (.int (Int32.ofNat n)), .val (.ref dd), .val (.ref rr), .val (.long v2), .second, .val (.long v3), .second, .val (.int (1 : Int32))] [(.int (1 : Int32))])) _
    refine XS.ifNo X30.here hx rfl (hb hby at_360) rfl (XT.i0_eq_f (by decide)) ?_
    show Steps p.tables e below (T30.setTop (mkF m 363 #[.val (.int p1), .val (.long q2), .second, .val (.long q3), .second, .val (.int (Int32.ofNat n)), .val (.ref dd), .val (.ref rr), .val (.long v2), .second, .val (.long v3), .second, .val (.int (1 : Int32))] [])) _
    refine XS.aload X30.here hx rfl (hb hby at_363) rfl rfl ?_
    show Steps p.tables e below (T30.setTop (mkF m 365 #[.val (.int p1), .val (.long q2), .second, .val (.long q3), .second, .val (.int (Int32.ofNat n)), .val (.ref dd), .val (.ref rr), .val (.long v2), .second, .val (.long v3), .second, .val (.int (1 : Int32))] [(.ref rr)])) _
    refine XT.bipushV X30.here hx rfl (7 : Int32) (hb hby at_365) (by decide) ?_
    show Steps p.tables e below (T30.setTop (mkF m 367 #[.val (.int p1), .val (.long q2), .second, .val (.long q3), .second, .val (.int (Int32.ofNat n)), .val (.ref dd), .val (.ref rr), .val (.long v2), .second, .val (.long v3), .second, .val (.int (1 : Int32))] [(.int (7 : Int32)), (.ref rr)])) _
    refine XT.lload X30.here hx rfl (hb hby at_367) rfl ?_
    show Steps p.tables e below (T30.setTop (mkF m 369 #[.val (.int p1), .val (.long q2), .second, .val (.long q3), .second, .val (.int (Int32.ofNat n)), .val (.ref dd), .val (.ref rr), .val (.long v2), .second, .val (.long v3), .second, .val (.int (1 : Int32))] [(.long v2), (.int (7 : Int32)), (.ref rr)])) _
    refine XT.lload X30.here hx rfl (hb hby at_369) rfl ?_
    exact kk
  -- pc 371: com/example/mavs/mavs/activation/Base32EncodePinLaw.at
  obtain ⟨_, _, ⟨T31, L31, k31, n31⟩, -, X31, ⟨Lc31, hQ31, l31, y31, z31⟩, st31⟩ := Jvm.LawKit.callS X30 hx (y := (⟨"com/example/mavs/mavs/activation/Base32EncodePinLaw", "at", "(Ljava/lang/String;IJJ)Z"⟩ : MethodName)) hown20 (mvT hZ20 (hw _ (List.mem_of_getElem? (i := 98) rfl))) (mvT hZ20 (hw _ (List.mem_of_getElem? (i := 99) rfl))) (mvT hZ20 (hw _ (List.mem_of_getElem? (i := 82) rfl))) (mvT hZ20 (hw _ (List.mem_of_getElem? (i := 100) rfl))) (by decide) (backOf (W := 0) (rm17 l Z a0 hw [] rr (7 : Int32) v2 v3 u kb ((8 * n + 4) / 5) (own_out (own_enc 0 0 (own_rs q2 q3 n))) T20.heap n0 Z20 cz hcz O1 OL20 hnz fm hfm O2 SD hN (by decide) (by rw [hv2, hv3]; exact own_good q2 q3 n hn 7 (by decide))) hZ20 (hw _ (List.mem_of_getElem? (i := 100) rfl)) (hw _ (List.mem_of_getElem? (i := 82) rfl)) (by decide) (by decide)) (g := (mkF m 371 #[.val (.int p1), .val (.long q2), .second, .val (.long q3), .second, .val (.int (Int32.ofNat n)), .val (.ref dd), .val (.ref rr), .val (.long v2), .second, .val (.long v3), .second, .val (.int (1 : Int32))] [(.long v3), (.long v2), (.int (7 : Int32)), (.ref rr)])) rfl (by rw [hml]; rfl) (argsL := [(.ref rr), (.int (7 : Int32)), (.long v2), (.long v3)]) (rest := []) (lenOf own_pd19 rfl) rfl (by show 2 * 0 + _ ≤ _; exact Nat.le_of_eq rfl) (hb hby at_371) (fun _ _ => ⟨rfl, e30, (by decide : 7 + 0 ≤ _), (by decide : 182 + 0 ≤ _)⟩)
  dsimp only [Pt.U, Pt.locs, Pt.cells, Pt.slots] at X31 l31 y31 z31 st31 hQ31
  subst l31 y31 z31
  obtain ⟨rfl, N31q, e31⟩ := hQ31
  have N31 := Fr.app N30 N31q
  have sg37 : ∀ tgt, Steps p.tables e below (T31.setTop (mkF m 397 #[.val (.int p1), .val (.long q2), .second, .val (.long q3), .second, .val (.int (Int32.ofNat n)), .val (.ref dd), .val (.ref rr), .val (.long v2), .second, .val (.long v3), .second, .val (.int (1 : Int32))] [(.long v3), (.long v2), (.int (8 : Int32)), (.ref rr)])) tgt → Steps p.tables e below (T31.setTop (mkF m 374 #[.val (.int p1), .val (.long q2), .second, .val (.long q3), .second, .val (.int (Int32.ofNat n)), .val (.ref dd), .val (.ref rr), .val (.long v2), .second, .val (.long v3), .second, .val (.int (1 : Int32))] [(.int (1 : Int32))])) tgt := by
    intro tgt kk
    show Steps p.tables e below (T31.setTop (mkF m 374 #[.val (.int p1), .val (.long q2), .second, .val (.long q3), .second, .val (.int (Int32.ofNat n)), .val (.ref dd), .val (.ref rr), .val (.long v2), .second, .val (.long v3), .second, .val (.int (1 : Int32))] [(.int (1 : Int32))])) _
    refine XS.ifNo X31.here hx rfl (hb hby at_374) rfl (XT.i0_eq_f (by decide)) ?_
    show Steps p.tables e below (T31.setTop (mkF m 377 #[.val (.int p1), .val (.long q2), .second, .val (.long q3), .second, .val (.int (Int32.ofNat n)), .val (.ref dd), .val (.ref rr), .val (.long v2), .second, .val (.long v3), .second, .val (.int (1 : Int32))] [])) _
    refine XT.iconstV X31.here hx rfl (1 : Int32) (hb hby at_377) (by decide) ?_
    show Steps p.tables e below (T31.setTop (mkF m 378 #[.val (.int p1), .val (.long q2), .second, .val (.long q3), .second, .val (.int (Int32.ofNat n)), .val (.ref dd), .val (.ref rr), .val (.long v2), .second, .val (.long v3), .second, .val (.int (1 : Int32))] [(.int (1 : Int32))])) _
    refine XS.goto X31.here hx rfl (pc0 := 378) (pc' := 382) rfl (hb hby at_378) (by decide) (by decide) ?_
    show Steps p.tables e below (T31.setTop (mkF m 382 #[.val (.int p1), .val (.long q2), .second, .val (.long q3), .second, .val (.int (Int32.ofNat n)), .val (.ref dd), .val (.ref rr), .val (.long v2), .second, .val (.long v3), .second, .val (.int (1 : Int32))] [(.int (1 : Int32))])) _
    refine XS.istore X31.here hx rfl (hb hby at_382) rfl (l' := #[.val (.int p1), .val (.long q2), .second, .val (.long q3), .second, .val (.int (Int32.ofNat n)), .val (.ref dd), .val (.ref rr), .val (.long v2), .second, .val (.long v3), .second, .val (.int (1 : Int32))]) rfl ?_
    show Steps p.tables e below (T31.setTop (mkF m 384 #[.val (.int p1), .val (.long q2), .second, .val (.long q3), .second, .val (.int (Int32.ofNat n)), .val (.ref dd), .val (.ref rr), .val (.long v2), .second, .val (.long v3), .second, .val (.int (1 : Int32))] [])) _
    refine XS.iload X31.here hx rfl (hb hby at_384) rfl ?_
    show Steps p.tables e below (T31.setTop (mkF m 386 #[.val (.int p1), .val (.long q2), .second, .val (.long q3), .second, .val (.int (Int32.ofNat n)), .val (.ref dd), .val (.ref rr), .val (.long v2), .second, .val (.long v3), .second, .val (.int (1 : Int32))] [(.int (1 : Int32))])) _
    refine XS.ifNo X31.here hx rfl (hb hby at_386) rfl (XT.i0_eq_f (by decide)) ?_
    show Steps p.tables e below (T31.setTop (mkF m 389 #[.val (.int p1), .val (.long q2), .second, .val (.long q3), .second, .val (.int (Int32.ofNat n)), .val (.ref dd), .val (.ref rr), .val (.long v2), .second, .val (.long v3), .second, .val (.int (1 : Int32))] [])) _
    refine XS.aload X31.here hx rfl (hb hby at_389) rfl rfl ?_
    show Steps p.tables e below (T31.setTop (mkF m 391 #[.val (.int p1), .val (.long q2), .second, .val (.long q3), .second, .val (.int (Int32.ofNat n)), .val (.ref dd), .val (.ref rr), .val (.long v2), .second, .val (.long v3), .second, .val (.int (1 : Int32))] [(.ref rr)])) _
    refine XT.bipushV X31.here hx rfl (8 : Int32) (hb hby at_391) (by decide) ?_
    show Steps p.tables e below (T31.setTop (mkF m 393 #[.val (.int p1), .val (.long q2), .second, .val (.long q3), .second, .val (.int (Int32.ofNat n)), .val (.ref dd), .val (.ref rr), .val (.long v2), .second, .val (.long v3), .second, .val (.int (1 : Int32))] [(.int (8 : Int32)), (.ref rr)])) _
    refine XT.lload X31.here hx rfl (hb hby at_393) rfl ?_
    show Steps p.tables e below (T31.setTop (mkF m 395 #[.val (.int p1), .val (.long q2), .second, .val (.long q3), .second, .val (.int (Int32.ofNat n)), .val (.ref dd), .val (.ref rr), .val (.long v2), .second, .val (.long v3), .second, .val (.int (1 : Int32))] [(.long v2), (.int (8 : Int32)), (.ref rr)])) _
    refine XT.lload X31.here hx rfl (hb hby at_395) rfl ?_
    exact kk
  -- pc 397: com/example/mavs/mavs/activation/Base32EncodePinLaw.at
  obtain ⟨_, _, ⟨T32, L32, k32, n32⟩, -, X32, ⟨Lc32, hQ32, l32, y32, z32⟩, st32⟩ := Jvm.LawKit.callS X31 hx (y := (⟨"com/example/mavs/mavs/activation/Base32EncodePinLaw", "at", "(Ljava/lang/String;IJJ)Z"⟩ : MethodName)) hown20 (mvT hZ20 (hw _ (List.mem_of_getElem? (i := 98) rfl))) (mvT hZ20 (hw _ (List.mem_of_getElem? (i := 99) rfl))) (mvT hZ20 (hw _ (List.mem_of_getElem? (i := 82) rfl))) (mvT hZ20 (hw _ (List.mem_of_getElem? (i := 100) rfl))) (by decide) (backOf (W := 0) (rm17 l Z a0 hw [] rr (8 : Int32) v2 v3 u kb ((8 * n + 4) / 5) (own_out (own_enc 0 0 (own_rs q2 q3 n))) T20.heap n0 Z20 cz hcz O1 OL20 hnz fm hfm O2 SD hN (by decide) (by rw [hv2, hv3]; exact own_good q2 q3 n hn 8 (by decide))) hZ20 (hw _ (List.mem_of_getElem? (i := 100) rfl)) (hw _ (List.mem_of_getElem? (i := 82) rfl)) (by decide) (by decide)) (g := (mkF m 397 #[.val (.int p1), .val (.long q2), .second, .val (.long q3), .second, .val (.int (Int32.ofNat n)), .val (.ref dd), .val (.ref rr), .val (.long v2), .second, .val (.long v3), .second, .val (.int (1 : Int32))] [(.long v3), (.long v2), (.int (8 : Int32)), (.ref rr)])) rfl (by rw [hml]; rfl) (argsL := [(.ref rr), (.int (8 : Int32)), (.long v2), (.long v3)]) (rest := []) (lenOf own_pd19 rfl) rfl (by show 2 * 0 + _ ≤ _; exact Nat.le_of_eq rfl) (hb hby at_397) (fun _ _ => ⟨rfl, e31, (by decide : 7 + 0 ≤ _), (by decide : 182 + 0 ≤ _)⟩)
  dsimp only [Pt.U, Pt.locs, Pt.cells, Pt.slots] at X32 l32 y32 z32 st32 hQ32
  subst l32 y32 z32
  obtain ⟨rfl, N32q, e32⟩ := hQ32
  have N32 := Fr.app N31 N32q
  have sg39 : ∀ tgt, Steps p.tables e below (T32.setTop (mkF m 411 #[.val (.int p1), .val (.long q2), .second, .val (.long q3), .second, .val (.int (Int32.ofNat n)), .val (.ref dd), .val (.ref rr), .val (.long v2), .second, .val (.long v3), .second, .val (.int (1 : Int32))] [(.long v3), (.long v2), (.int (9 : Int32)), (.ref rr)])) tgt → Steps p.tables e below (T32.setTop (mkF m 400 #[.val (.int p1), .val (.long q2), .second, .val (.long q3), .second, .val (.int (Int32.ofNat n)), .val (.ref dd), .val (.ref rr), .val (.long v2), .second, .val (.long v3), .second, .val (.int (1 : Int32))] [(.int (1 : Int32))])) tgt := by
    intro tgt kk
    show Steps p.tables e below (T32.setTop (mkF m 400 #[.val (.int p1), .val (.long q2), .second, .val (.long q3), .second, .val (.int (Int32.ofNat n)), .val (.ref dd), .val (.ref rr), .val (.long v2), .second, .val (.long v3), .second, .val (.int (1 : Int32))] [(.int (1 : Int32))])) _
    refine XS.ifNo X32.here hx rfl (hb hby at_400) rfl (XT.i0_eq_f (by decide)) ?_
    show Steps p.tables e below (T32.setTop (mkF m 403 #[.val (.int p1), .val (.long q2), .second, .val (.long q3), .second, .val (.int (Int32.ofNat n)), .val (.ref dd), .val (.ref rr), .val (.long v2), .second, .val (.long v3), .second, .val (.int (1 : Int32))] [])) _
    refine XS.aload X32.here hx rfl (hb hby at_403) rfl rfl ?_
    show Steps p.tables e below (T32.setTop (mkF m 405 #[.val (.int p1), .val (.long q2), .second, .val (.long q3), .second, .val (.int (Int32.ofNat n)), .val (.ref dd), .val (.ref rr), .val (.long v2), .second, .val (.long v3), .second, .val (.int (1 : Int32))] [(.ref rr)])) _
    refine XT.bipushV X32.here hx rfl (9 : Int32) (hb hby at_405) (by decide) ?_
    show Steps p.tables e below (T32.setTop (mkF m 407 #[.val (.int p1), .val (.long q2), .second, .val (.long q3), .second, .val (.int (Int32.ofNat n)), .val (.ref dd), .val (.ref rr), .val (.long v2), .second, .val (.long v3), .second, .val (.int (1 : Int32))] [(.int (9 : Int32)), (.ref rr)])) _
    refine XT.lload X32.here hx rfl (hb hby at_407) rfl ?_
    show Steps p.tables e below (T32.setTop (mkF m 409 #[.val (.int p1), .val (.long q2), .second, .val (.long q3), .second, .val (.int (Int32.ofNat n)), .val (.ref dd), .val (.ref rr), .val (.long v2), .second, .val (.long v3), .second, .val (.int (1 : Int32))] [(.long v2), (.int (9 : Int32)), (.ref rr)])) _
    refine XT.lload X32.here hx rfl (hb hby at_409) rfl ?_
    exact kk
  -- pc 411: com/example/mavs/mavs/activation/Base32EncodePinLaw.at
  obtain ⟨_, _, ⟨T33, L33, k33, n33⟩, -, X33, ⟨Lc33, hQ33, l33, y33, z33⟩, st33⟩ := Jvm.LawKit.callS X32 hx (y := (⟨"com/example/mavs/mavs/activation/Base32EncodePinLaw", "at", "(Ljava/lang/String;IJJ)Z"⟩ : MethodName)) hown20 (mvT hZ20 (hw _ (List.mem_of_getElem? (i := 98) rfl))) (mvT hZ20 (hw _ (List.mem_of_getElem? (i := 99) rfl))) (mvT hZ20 (hw _ (List.mem_of_getElem? (i := 82) rfl))) (mvT hZ20 (hw _ (List.mem_of_getElem? (i := 100) rfl))) (by decide) (backOf (W := 0) (rm17 l Z a0 hw [] rr (9 : Int32) v2 v3 u kb ((8 * n + 4) / 5) (own_out (own_enc 0 0 (own_rs q2 q3 n))) T20.heap n0 Z20 cz hcz O1 OL20 hnz fm hfm O2 SD hN (by decide) (by rw [hv2, hv3]; exact own_good q2 q3 n hn 9 (by decide))) hZ20 (hw _ (List.mem_of_getElem? (i := 100) rfl)) (hw _ (List.mem_of_getElem? (i := 82) rfl)) (by decide) (by decide)) (g := (mkF m 411 #[.val (.int p1), .val (.long q2), .second, .val (.long q3), .second, .val (.int (Int32.ofNat n)), .val (.ref dd), .val (.ref rr), .val (.long v2), .second, .val (.long v3), .second, .val (.int (1 : Int32))] [(.long v3), (.long v2), (.int (9 : Int32)), (.ref rr)])) rfl (by rw [hml]; rfl) (argsL := [(.ref rr), (.int (9 : Int32)), (.long v2), (.long v3)]) (rest := []) (lenOf own_pd19 rfl) rfl (by show 2 * 0 + _ ≤ _; exact Nat.le_of_eq rfl) (hb hby at_411) (fun _ _ => ⟨rfl, e32, (by decide : 7 + 0 ≤ _), (by decide : 182 + 0 ≤ _)⟩)
  dsimp only [Pt.U, Pt.locs, Pt.cells, Pt.slots] at X33 l33 y33 z33 st33 hQ33
  subst l33 y33 z33
  obtain ⟨rfl, N33q, e33⟩ := hQ33
  have N33 := Fr.app N32 N33q
  have sg41 : ∀ tgt, Steps p.tables e below (T33.setTop (mkF m 425 #[.val (.int p1), .val (.long q2), .second, .val (.long q3), .second, .val (.int (Int32.ofNat n)), .val (.ref dd), .val (.ref rr), .val (.long v2), .second, .val (.long v3), .second, .val (.int (1 : Int32))] [(.long v3), (.long v2), (.int (10 : Int32)), (.ref rr)])) tgt → Steps p.tables e below (T33.setTop (mkF m 414 #[.val (.int p1), .val (.long q2), .second, .val (.long q3), .second, .val (.int (Int32.ofNat n)), .val (.ref dd), .val (.ref rr), .val (.long v2), .second, .val (.long v3), .second, .val (.int (1 : Int32))] [(.int (1 : Int32))])) tgt := by
    intro tgt kk
    show Steps p.tables e below (T33.setTop (mkF m 414 #[.val (.int p1), .val (.long q2), .second, .val (.long q3), .second, .val (.int (Int32.ofNat n)), .val (.ref dd), .val (.ref rr), .val (.long v2), .second, .val (.long v3), .second, .val (.int (1 : Int32))] [(.int (1 : Int32))])) _
    refine XS.ifNo X33.here hx rfl (hb hby at_414) rfl (XT.i0_eq_f (by decide)) ?_
    show Steps p.tables e below (T33.setTop (mkF m 417 #[.val (.int p1), .val (.long q2), .second, .val (.long q3), .second, .val (.int (Int32.ofNat n)), .val (.ref dd), .val (.ref rr), .val (.long v2), .second, .val (.long v3), .second, .val (.int (1 : Int32))] [])) _
    refine XS.aload X33.here hx rfl (hb hby at_417) rfl rfl ?_
    show Steps p.tables e below (T33.setTop (mkF m 419 #[.val (.int p1), .val (.long q2), .second, .val (.long q3), .second, .val (.int (Int32.ofNat n)), .val (.ref dd), .val (.ref rr), .val (.long v2), .second, .val (.long v3), .second, .val (.int (1 : Int32))] [(.ref rr)])) _
    refine XT.bipushV X33.here hx rfl (10 : Int32) (hb hby at_419) (by decide) ?_
    show Steps p.tables e below (T33.setTop (mkF m 421 #[.val (.int p1), .val (.long q2), .second, .val (.long q3), .second, .val (.int (Int32.ofNat n)), .val (.ref dd), .val (.ref rr), .val (.long v2), .second, .val (.long v3), .second, .val (.int (1 : Int32))] [(.int (10 : Int32)), (.ref rr)])) _
    refine XT.lload X33.here hx rfl (hb hby at_421) rfl ?_
    show Steps p.tables e below (T33.setTop (mkF m 423 #[.val (.int p1), .val (.long q2), .second, .val (.long q3), .second, .val (.int (Int32.ofNat n)), .val (.ref dd), .val (.ref rr), .val (.long v2), .second, .val (.long v3), .second, .val (.int (1 : Int32))] [(.long v2), (.int (10 : Int32)), (.ref rr)])) _
    refine XT.lload X33.here hx rfl (hb hby at_423) rfl ?_
    exact kk
  -- pc 425: com/example/mavs/mavs/activation/Base32EncodePinLaw.at
  obtain ⟨_, _, ⟨T34, L34, k34, n34⟩, -, X34, ⟨Lc34, hQ34, l34, y34, z34⟩, st34⟩ := Jvm.LawKit.callS X33 hx (y := (⟨"com/example/mavs/mavs/activation/Base32EncodePinLaw", "at", "(Ljava/lang/String;IJJ)Z"⟩ : MethodName)) hown20 (mvT hZ20 (hw _ (List.mem_of_getElem? (i := 98) rfl))) (mvT hZ20 (hw _ (List.mem_of_getElem? (i := 99) rfl))) (mvT hZ20 (hw _ (List.mem_of_getElem? (i := 82) rfl))) (mvT hZ20 (hw _ (List.mem_of_getElem? (i := 100) rfl))) (by decide) (backOf (W := 0) (rm17 l Z a0 hw [] rr (10 : Int32) v2 v3 u kb ((8 * n + 4) / 5) (own_out (own_enc 0 0 (own_rs q2 q3 n))) T20.heap n0 Z20 cz hcz O1 OL20 hnz fm hfm O2 SD hN (by decide) (by rw [hv2, hv3]; exact own_good q2 q3 n hn 10 (by decide))) hZ20 (hw _ (List.mem_of_getElem? (i := 100) rfl)) (hw _ (List.mem_of_getElem? (i := 82) rfl)) (by decide) (by decide)) (g := (mkF m 425 #[.val (.int p1), .val (.long q2), .second, .val (.long q3), .second, .val (.int (Int32.ofNat n)), .val (.ref dd), .val (.ref rr), .val (.long v2), .second, .val (.long v3), .second, .val (.int (1 : Int32))] [(.long v3), (.long v2), (.int (10 : Int32)), (.ref rr)])) rfl (by rw [hml]; rfl) (argsL := [(.ref rr), (.int (10 : Int32)), (.long v2), (.long v3)]) (rest := []) (lenOf own_pd19 rfl) rfl (by show 2 * 0 + _ ≤ _; exact Nat.le_of_eq rfl) (hb hby at_425) (fun _ _ => ⟨rfl, e33, (by decide : 7 + 0 ≤ _), (by decide : 182 + 0 ≤ _)⟩)
  dsimp only [Pt.U, Pt.locs, Pt.cells, Pt.slots] at X34 l34 y34 z34 st34 hQ34
  subst l34 y34 z34
  obtain ⟨rfl, N34q, e34⟩ := hQ34
  have N34 := Fr.app N33 N34q
  have sg43 : ∀ tgt, Steps p.tables e below (T34.setTop (mkF m 439 #[.val (.int p1), .val (.long q2), .second, .val (.long q3), .second, .val (.int (Int32.ofNat n)), .val (.ref dd), .val (.ref rr), .val (.long v2), .second, .val (.long v3), .second, .val (.int (1 : Int32))] [(.long v3), (.long v2), (.int (11 : Int32)), (.ref rr)])) tgt → Steps p.tables e below (T34.setTop (mkF m 428 #[.val (.int p1), .val (.long q2), .second, .val (.long q3), .second, .val (.int (Int32.ofNat n)), .val (.ref dd), .val (.ref rr), .val (.long v2), .second, .val (.long v3), .second, .val (.int (1 : Int32))] [(.int (1 : Int32))])) tgt := by
    intro tgt kk
    show Steps p.tables e below (T34.setTop (mkF m 428 #[.val (.int p1), .val (.long q2), .second, .val (.long q3), .second, .val (.int (Int32.ofNat n)), .val (.ref dd), .val (.ref rr), .val (.long v2), .second, .val (.long v3), .second, .val (.int (1 : Int32))] [(.int (1 : Int32))])) _
    refine XS.ifNo X34.here hx rfl (hb hby at_428) rfl (XT.i0_eq_f (by decide)) ?_
    show Steps p.tables e below (T34.setTop (mkF m 431 #[.val (.int p1), .val (.long q2), .second, .val (.long q3), .second, .val (.int (Int32.ofNat n)), .val (.ref dd), .val (.ref rr), .val (.long v2), .second, .val (.long v3), .second, .val (.int (1 : Int32))] [])) _
    refine XS.aload X34.here hx rfl (hb hby at_431) rfl rfl ?_
    show Steps p.tables e below (T34.setTop (mkF m 433 #[.val (.int p1), .val (.long q2), .second, .val (.long q3), .second, .val (.int (Int32.ofNat n)), .val (.ref dd), .val (.ref rr), .val (.long v2), .second, .val (.long v3), .second, .val (.int (1 : Int32))] [(.ref rr)])) _
    refine XT.bipushV X34.here hx rfl (11 : Int32) (hb hby at_433) (by decide) ?_
    show Steps p.tables e below (T34.setTop (mkF m 435 #[.val (.int p1), .val (.long q2), .second, .val (.long q3), .second, .val (.int (Int32.ofNat n)), .val (.ref dd), .val (.ref rr), .val (.long v2), .second, .val (.long v3), .second, .val (.int (1 : Int32))] [(.int (11 : Int32)), (.ref rr)])) _
    refine XT.lload X34.here hx rfl (hb hby at_435) rfl ?_
    show Steps p.tables e below (T34.setTop (mkF m 437 #[.val (.int p1), .val (.long q2), .second, .val (.long q3), .second, .val (.int (Int32.ofNat n)), .val (.ref dd), .val (.ref rr), .val (.long v2), .second, .val (.long v3), .second, .val (.int (1 : Int32))] [(.long v2), (.int (11 : Int32)), (.ref rr)])) _
    refine XT.lload X34.here hx rfl (hb hby at_437) rfl ?_
    exact kk
  -- pc 439: com/example/mavs/mavs/activation/Base32EncodePinLaw.at
  obtain ⟨_, _, ⟨T35, L35, k35, n35⟩, -, X35, ⟨Lc35, hQ35, l35, y35, z35⟩, st35⟩ := Jvm.LawKit.callS X34 hx (y := (⟨"com/example/mavs/mavs/activation/Base32EncodePinLaw", "at", "(Ljava/lang/String;IJJ)Z"⟩ : MethodName)) hown20 (mvT hZ20 (hw _ (List.mem_of_getElem? (i := 98) rfl))) (mvT hZ20 (hw _ (List.mem_of_getElem? (i := 99) rfl))) (mvT hZ20 (hw _ (List.mem_of_getElem? (i := 82) rfl))) (mvT hZ20 (hw _ (List.mem_of_getElem? (i := 100) rfl))) (by decide) (backOf (W := 0) (rm17 l Z a0 hw [] rr (11 : Int32) v2 v3 u kb ((8 * n + 4) / 5) (own_out (own_enc 0 0 (own_rs q2 q3 n))) T20.heap n0 Z20 cz hcz O1 OL20 hnz fm hfm O2 SD hN (by decide) (by rw [hv2, hv3]; exact own_good q2 q3 n hn 11 (by decide))) hZ20 (hw _ (List.mem_of_getElem? (i := 100) rfl)) (hw _ (List.mem_of_getElem? (i := 82) rfl)) (by decide) (by decide)) (g := (mkF m 439 #[.val (.int p1), .val (.long q2), .second, .val (.long q3), .second, .val (.int (Int32.ofNat n)), .val (.ref dd), .val (.ref rr), .val (.long v2), .second, .val (.long v3), .second, .val (.int (1 : Int32))] [(.long v3), (.long v2), (.int (11 : Int32)), (.ref rr)])) rfl (by rw [hml]; rfl) (argsL := [(.ref rr), (.int (11 : Int32)), (.long v2), (.long v3)]) (rest := []) (lenOf own_pd19 rfl) rfl (by show 2 * 0 + _ ≤ _; exact Nat.le_of_eq rfl) (hb hby at_439) (fun _ _ => ⟨rfl, e34, (by decide : 7 + 0 ≤ _), (by decide : 182 + 0 ≤ _)⟩)
  dsimp only [Pt.U, Pt.locs, Pt.cells, Pt.slots] at X35 l35 y35 z35 st35 hQ35
  subst l35 y35 z35
  obtain ⟨rfl, N35q, e35⟩ := hQ35
  have N35 := Fr.app N34 N35q
  have sg45 : ∀ tgt, Steps p.tables e below (T35.setTop (mkF m 465 #[.val (.int p1), .val (.long q2), .second, .val (.long q3), .second, .val (.int (Int32.ofNat n)), .val (.ref dd), .val (.ref rr), .val (.long v2), .second, .val (.long v3), .second, .val (.int (1 : Int32))] [(.long v3), (.long v2), (.int (12 : Int32)), (.ref rr)])) tgt → Steps p.tables e below (T35.setTop (mkF m 442 #[.val (.int p1), .val (.long q2), .second, .val (.long q3), .second, .val (.int (Int32.ofNat n)), .val (.ref dd), .val (.ref rr), .val (.long v2), .second, .val (.long v3), .second, .val (.int (1 : Int32))] [(.int (1 : Int32))])) tgt := by
    intro tgt kk
    show Steps p.tables e below (T35.setTop (mkF m 442 #[.val (.int p1), .val (.long q2), .second, .val (.long q3), .second, .val (.int (Int32.ofNat n)), .val (.ref dd), .val (.ref rr), .val (.long v2), .second, .val (.long v3), .second, .val (.int (1 : Int32))] [(.int (1 : Int32))])) _
    refine XS.ifNo X35.here hx rfl (hb hby at_442) rfl (XT.i0_eq_f (by decide)) ?_
    show Steps p.tables e below (T35.setTop (mkF m 445 #[.val (.int p1), .val (.long q2), .second, .val (.long q3), .second, .val (.int (Int32.ofNat n)), .val (.ref dd), .val (.ref rr), .val (.long v2), .second, .val (.long v3), .second, .val (.int (1 : Int32))] [])) _
    refine XT.iconstV X35.here hx rfl (1 : Int32) (hb hby at_445) (by decide) ?_
    show Steps p.tables e below (T35.setTop (mkF m 446 #[.val (.int p1), .val (.long q2), .second, .val (.long q3), .second, .val (.int (Int32.ofNat n)), .val (.ref dd), .val (.ref rr), .val (.long v2), .second, .val (.long v3), .second, .val (.int (1 : Int32))] [(.int (1 : Int32))])) _
    refine XS.goto X35.here hx rfl (pc0 := 446) (pc' := 450) rfl (hb hby at_446) (by decide) (by decide) ?_
    show Steps p.tables e below (T35.setTop (mkF m 450 #[.val (.int p1), .val (.long q2), .second, .val (.long q3), .second, .val (.int (Int32.ofNat n)), .val (.ref dd), .val (.ref rr), .val (.long v2), .second, .val (.long v3), .second, .val (.int (1 : Int32))] [(.int (1 : Int32))])) _
    refine XS.istore X35.here hx rfl (hb hby at_450) rfl (l' := #[.val (.int p1), .val (.long q2), .second, .val (.long q3), .second, .val (.int (Int32.ofNat n)), .val (.ref dd), .val (.ref rr), .val (.long v2), .second, .val (.long v3), .second, .val (.int (1 : Int32))]) rfl ?_
    show Steps p.tables e below (T35.setTop (mkF m 452 #[.val (.int p1), .val (.long q2), .second, .val (.long q3), .second, .val (.int (Int32.ofNat n)), .val (.ref dd), .val (.ref rr), .val (.long v2), .second, .val (.long v3), .second, .val (.int (1 : Int32))] [])) _
    refine XS.iload X35.here hx rfl (hb hby at_452) rfl ?_
    show Steps p.tables e below (T35.setTop (mkF m 454 #[.val (.int p1), .val (.long q2), .second, .val (.long q3), .second, .val (.int (Int32.ofNat n)), .val (.ref dd), .val (.ref rr), .val (.long v2), .second, .val (.long v3), .second, .val (.int (1 : Int32))] [(.int (1 : Int32))])) _
    refine XS.ifNo X35.here hx rfl (hb hby at_454) rfl (XT.i0_eq_f (by decide)) ?_
    show Steps p.tables e below (T35.setTop (mkF m 457 #[.val (.int p1), .val (.long q2), .second, .val (.long q3), .second, .val (.int (Int32.ofNat n)), .val (.ref dd), .val (.ref rr), .val (.long v2), .second, .val (.long v3), .second, .val (.int (1 : Int32))] [])) _
    refine XS.aload X35.here hx rfl (hb hby at_457) rfl rfl ?_
    show Steps p.tables e below (T35.setTop (mkF m 459 #[.val (.int p1), .val (.long q2), .second, .val (.long q3), .second, .val (.int (Int32.ofNat n)), .val (.ref dd), .val (.ref rr), .val (.long v2), .second, .val (.long v3), .second, .val (.int (1 : Int32))] [(.ref rr)])) _
    refine XT.bipushV X35.here hx rfl (12 : Int32) (hb hby at_459) (by decide) ?_
    show Steps p.tables e below (T35.setTop (mkF m 461 #[.val (.int p1), .val (.long q2), .second, .val (.long q3), .second, .val (.int (Int32.ofNat n)), .val (.ref dd), .val (.ref rr), .val (.long v2), .second, .val (.long v3), .second, .val (.int (1 : Int32))] [(.int (12 : Int32)), (.ref rr)])) _
    refine XT.lload X35.here hx rfl (hb hby at_461) rfl ?_
    show Steps p.tables e below (T35.setTop (mkF m 463 #[.val (.int p1), .val (.long q2), .second, .val (.long q3), .second, .val (.int (Int32.ofNat n)), .val (.ref dd), .val (.ref rr), .val (.long v2), .second, .val (.long v3), .second, .val (.int (1 : Int32))] [(.long v2), (.int (12 : Int32)), (.ref rr)])) _
    refine XT.lload X35.here hx rfl (hb hby at_463) rfl ?_
    exact kk
  -- pc 465: com/example/mavs/mavs/activation/Base32EncodePinLaw.at
  obtain ⟨_, _, ⟨T36, L36, k36, n36⟩, -, X36, ⟨Lc36, hQ36, l36, y36, z36⟩, st36⟩ := Jvm.LawKit.callS X35 hx (y := (⟨"com/example/mavs/mavs/activation/Base32EncodePinLaw", "at", "(Ljava/lang/String;IJJ)Z"⟩ : MethodName)) hown20 (mvT hZ20 (hw _ (List.mem_of_getElem? (i := 98) rfl))) (mvT hZ20 (hw _ (List.mem_of_getElem? (i := 99) rfl))) (mvT hZ20 (hw _ (List.mem_of_getElem? (i := 82) rfl))) (mvT hZ20 (hw _ (List.mem_of_getElem? (i := 100) rfl))) (by decide) (backOf (W := 0) (rm17 l Z a0 hw [] rr (12 : Int32) v2 v3 u kb ((8 * n + 4) / 5) (own_out (own_enc 0 0 (own_rs q2 q3 n))) T20.heap n0 Z20 cz hcz O1 OL20 hnz fm hfm O2 SD hN (by decide) (by rw [hv2, hv3]; exact own_good q2 q3 n hn 12 (by decide))) hZ20 (hw _ (List.mem_of_getElem? (i := 100) rfl)) (hw _ (List.mem_of_getElem? (i := 82) rfl)) (by decide) (by decide)) (g := (mkF m 465 #[.val (.int p1), .val (.long q2), .second, .val (.long q3), .second, .val (.int (Int32.ofNat n)), .val (.ref dd), .val (.ref rr), .val (.long v2), .second, .val (.long v3), .second, .val (.int (1 : Int32))] [(.long v3), (.long v2), (.int (12 : Int32)), (.ref rr)])) rfl (by rw [hml]; rfl) (argsL := [(.ref rr), (.int (12 : Int32)), (.long v2), (.long v3)]) (rest := []) (lenOf own_pd19 rfl) rfl (by show 2 * 0 + _ ≤ _; exact Nat.le_of_eq rfl) (hb hby at_465) (fun _ _ => ⟨rfl, e35, (by decide : 7 + 0 ≤ _), (by decide : 182 + 0 ≤ _)⟩)
  dsimp only [Pt.U, Pt.locs, Pt.cells, Pt.slots] at X36 l36 y36 z36 st36 hQ36
  subst l36 y36 z36
  obtain ⟨rfl, N36q, e36⟩ := hQ36
  have N36 := Fr.app N35 N36q
  have sg47 : ∀ tgt, Steps p.tables e below (T36.setTop (mkF m 479 #[.val (.int p1), .val (.long q2), .second, .val (.long q3), .second, .val (.int (Int32.ofNat n)), .val (.ref dd), .val (.ref rr), .val (.long v2), .second, .val (.long v3), .second, .val (.int (1 : Int32))] [(.long v3), (.long v2), (.int (13 : Int32)), (.ref rr)])) tgt → Steps p.tables e below (T36.setTop (mkF m 468 #[.val (.int p1), .val (.long q2), .second, .val (.long q3), .second, .val (.int (Int32.ofNat n)), .val (.ref dd), .val (.ref rr), .val (.long v2), .second, .val (.long v3), .second, .val (.int (1 : Int32))] [(.int (1 : Int32))])) tgt := by
    intro tgt kk
    show Steps p.tables e below (T36.setTop (mkF m 468 #[.val (.int p1), .val (.long q2), .second, .val (.long q3), .second, .val (.int (Int32.ofNat n)), .val (.ref dd), .val (.ref rr), .val (.long v2), .second, .val (.long v3), .second, .val (.int (1 : Int32))] [(.int (1 : Int32))])) _
    refine XS.ifNo X36.here hx rfl (hb hby at_468) rfl (XT.i0_eq_f (by decide)) ?_
    show Steps p.tables e below (T36.setTop (mkF m 471 #[.val (.int p1), .val (.long q2), .second, .val (.long q3), .second, .val (.int (Int32.ofNat n)), .val (.ref dd), .val (.ref rr), .val (.long v2), .second, .val (.long v3), .second, .val (.int (1 : Int32))] [])) _
    refine XS.aload X36.here hx rfl (hb hby at_471) rfl rfl ?_
    show Steps p.tables e below (T36.setTop (mkF m 473 #[.val (.int p1), .val (.long q2), .second, .val (.long q3), .second, .val (.int (Int32.ofNat n)), .val (.ref dd), .val (.ref rr), .val (.long v2), .second, .val (.long v3), .second, .val (.int (1 : Int32))] [(.ref rr)])) _
    refine XT.bipushV X36.here hx rfl (13 : Int32) (hb hby at_473) (by decide) ?_
    show Steps p.tables e below (T36.setTop (mkF m 475 #[.val (.int p1), .val (.long q2), .second, .val (.long q3), .second, .val (.int (Int32.ofNat n)), .val (.ref dd), .val (.ref rr), .val (.long v2), .second, .val (.long v3), .second, .val (.int (1 : Int32))] [(.int (13 : Int32)), (.ref rr)])) _
    refine XT.lload X36.here hx rfl (hb hby at_475) rfl ?_
    show Steps p.tables e below (T36.setTop (mkF m 477 #[.val (.int p1), .val (.long q2), .second, .val (.long q3), .second, .val (.int (Int32.ofNat n)), .val (.ref dd), .val (.ref rr), .val (.long v2), .second, .val (.long v3), .second, .val (.int (1 : Int32))] [(.long v2), (.int (13 : Int32)), (.ref rr)])) _
    refine XT.lload X36.here hx rfl (hb hby at_477) rfl ?_
    exact kk
  -- pc 479: com/example/mavs/mavs/activation/Base32EncodePinLaw.at
  obtain ⟨_, _, ⟨T37, L37, k37, n37⟩, -, X37, ⟨Lc37, hQ37, l37, y37, z37⟩, st37⟩ := Jvm.LawKit.callS X36 hx (y := (⟨"com/example/mavs/mavs/activation/Base32EncodePinLaw", "at", "(Ljava/lang/String;IJJ)Z"⟩ : MethodName)) hown20 (mvT hZ20 (hw _ (List.mem_of_getElem? (i := 98) rfl))) (mvT hZ20 (hw _ (List.mem_of_getElem? (i := 99) rfl))) (mvT hZ20 (hw _ (List.mem_of_getElem? (i := 82) rfl))) (mvT hZ20 (hw _ (List.mem_of_getElem? (i := 100) rfl))) (by decide) (backOf (W := 0) (rm17 l Z a0 hw [] rr (13 : Int32) v2 v3 u kb ((8 * n + 4) / 5) (own_out (own_enc 0 0 (own_rs q2 q3 n))) T20.heap n0 Z20 cz hcz O1 OL20 hnz fm hfm O2 SD hN (by decide) (by rw [hv2, hv3]; exact own_good q2 q3 n hn 13 (by decide))) hZ20 (hw _ (List.mem_of_getElem? (i := 100) rfl)) (hw _ (List.mem_of_getElem? (i := 82) rfl)) (by decide) (by decide)) (g := (mkF m 479 #[.val (.int p1), .val (.long q2), .second, .val (.long q3), .second, .val (.int (Int32.ofNat n)), .val (.ref dd), .val (.ref rr), .val (.long v2), .second, .val (.long v3), .second, .val (.int (1 : Int32))] [(.long v3), (.long v2), (.int (13 : Int32)), (.ref rr)])) rfl (by rw [hml]; rfl) (argsL := [(.ref rr), (.int (13 : Int32)), (.long v2), (.long v3)]) (rest := []) (lenOf own_pd19 rfl) rfl (by show 2 * 0 + _ ≤ _; exact Nat.le_of_eq rfl) (hb hby at_479) (fun _ _ => ⟨rfl, e36, (by decide : 7 + 0 ≤ _), (by decide : 182 + 0 ≤ _)⟩)
  dsimp only [Pt.U, Pt.locs, Pt.cells, Pt.slots] at X37 l37 y37 z37 st37 hQ37
  subst l37 y37 z37
  obtain ⟨rfl, N37q, e37⟩ := hQ37
  have N37 := Fr.app N36 N37q
  have sg49 : ∀ tgt, Steps p.tables e below (T37.setTop (mkF m 493 #[.val (.int p1), .val (.long q2), .second, .val (.long q3), .second, .val (.int (Int32.ofNat n)), .val (.ref dd), .val (.ref rr), .val (.long v2), .second, .val (.long v3), .second, .val (.int (1 : Int32))] [(.long v3), (.long v2), (.int (14 : Int32)), (.ref rr)])) tgt → Steps p.tables e below (T37.setTop (mkF m 482 #[.val (.int p1), .val (.long q2), .second, .val (.long q3), .second, .val (.int (Int32.ofNat n)), .val (.ref dd), .val (.ref rr), .val (.long v2), .second, .val (.long v3), .second, .val (.int (1 : Int32))] [(.int (1 : Int32))])) tgt := by
    intro tgt kk
    show Steps p.tables e below (T37.setTop (mkF m 482 #[.val (.int p1), .val (.long q2), .second, .val (.long q3), .second, .val (.int (Int32.ofNat n)), .val (.ref dd), .val (.ref rr), .val (.long v2), .second, .val (.long v3), .second, .val (.int (1 : Int32))] [(.int (1 : Int32))])) _
    refine XS.ifNo X37.here hx rfl (hb hby at_482) rfl (XT.i0_eq_f (by decide)) ?_
    show Steps p.tables e below (T37.setTop (mkF m 485 #[.val (.int p1), .val (.long q2), .second, .val (.long q3), .second, .val (.int (Int32.ofNat n)), .val (.ref dd), .val (.ref rr), .val (.long v2), .second, .val (.long v3), .second, .val (.int (1 : Int32))] [])) _
    refine XS.aload X37.here hx rfl (hb hby at_485) rfl rfl ?_
    show Steps p.tables e below (T37.setTop (mkF m 487 #[.val (.int p1), .val (.long q2), .second, .val (.long q3), .second, .val (.int (Int32.ofNat n)), .val (.ref dd), .val (.ref rr), .val (.long v2), .second, .val (.long v3), .second, .val (.int (1 : Int32))] [(.ref rr)])) _
    refine XT.bipushV X37.here hx rfl (14 : Int32) (hb hby at_487) (by decide) ?_
    show Steps p.tables e below (T37.setTop (mkF m 489 #[.val (.int p1), .val (.long q2), .second, .val (.long q3), .second, .val (.int (Int32.ofNat n)), .val (.ref dd), .val (.ref rr), .val (.long v2), .second, .val (.long v3), .second, .val (.int (1 : Int32))] [(.int (14 : Int32)), (.ref rr)])) _
    refine XT.lload X37.here hx rfl (hb hby at_489) rfl ?_
    show Steps p.tables e below (T37.setTop (mkF m 491 #[.val (.int p1), .val (.long q2), .second, .val (.long q3), .second, .val (.int (Int32.ofNat n)), .val (.ref dd), .val (.ref rr), .val (.long v2), .second, .val (.long v3), .second, .val (.int (1 : Int32))] [(.long v2), (.int (14 : Int32)), (.ref rr)])) _
    refine XT.lload X37.here hx rfl (hb hby at_491) rfl ?_
    exact kk
  -- pc 493: com/example/mavs/mavs/activation/Base32EncodePinLaw.at
  obtain ⟨_, _, ⟨T38, L38, k38, n38⟩, -, X38, ⟨Lc38, hQ38, l38, y38, z38⟩, st38⟩ := Jvm.LawKit.callS X37 hx (y := (⟨"com/example/mavs/mavs/activation/Base32EncodePinLaw", "at", "(Ljava/lang/String;IJJ)Z"⟩ : MethodName)) hown20 (mvT hZ20 (hw _ (List.mem_of_getElem? (i := 98) rfl))) (mvT hZ20 (hw _ (List.mem_of_getElem? (i := 99) rfl))) (mvT hZ20 (hw _ (List.mem_of_getElem? (i := 82) rfl))) (mvT hZ20 (hw _ (List.mem_of_getElem? (i := 100) rfl))) (by decide) (backOf (W := 0) (rm17 l Z a0 hw [] rr (14 : Int32) v2 v3 u kb ((8 * n + 4) / 5) (own_out (own_enc 0 0 (own_rs q2 q3 n))) T20.heap n0 Z20 cz hcz O1 OL20 hnz fm hfm O2 SD hN (by decide) (by rw [hv2, hv3]; exact own_good q2 q3 n hn 14 (by decide))) hZ20 (hw _ (List.mem_of_getElem? (i := 100) rfl)) (hw _ (List.mem_of_getElem? (i := 82) rfl)) (by decide) (by decide)) (g := (mkF m 493 #[.val (.int p1), .val (.long q2), .second, .val (.long q3), .second, .val (.int (Int32.ofNat n)), .val (.ref dd), .val (.ref rr), .val (.long v2), .second, .val (.long v3), .second, .val (.int (1 : Int32))] [(.long v3), (.long v2), (.int (14 : Int32)), (.ref rr)])) rfl (by rw [hml]; rfl) (argsL := [(.ref rr), (.int (14 : Int32)), (.long v2), (.long v3)]) (rest := []) (lenOf own_pd19 rfl) rfl (by show 2 * 0 + _ ≤ _; exact Nat.le_of_eq rfl) (hb hby at_493) (fun _ _ => ⟨rfl, e37, (by decide : 7 + 0 ≤ _), (by decide : 182 + 0 ≤ _)⟩)
  dsimp only [Pt.U, Pt.locs, Pt.cells, Pt.slots] at X38 l38 y38 z38 st38 hQ38
  subst l38 y38 z38
  obtain ⟨rfl, N38q, e38⟩ := hQ38
  have N38 := Fr.app N37 N38q
  have sg51 : ∀ tgt, Steps p.tables e below (T38.setTop (mkF m 507 #[.val (.int p1), .val (.long q2), .second, .val (.long q3), .second, .val (.int (Int32.ofNat n)), .val (.ref dd), .val (.ref rr), .val (.long v2), .second, .val (.long v3), .second, .val (.int (1 : Int32))] [(.long v3), (.long v2), (.int (15 : Int32)), (.ref rr)])) tgt → Steps p.tables e below (T38.setTop (mkF m 496 #[.val (.int p1), .val (.long q2), .second, .val (.long q3), .second, .val (.int (Int32.ofNat n)), .val (.ref dd), .val (.ref rr), .val (.long v2), .second, .val (.long v3), .second, .val (.int (1 : Int32))] [(.int (1 : Int32))])) tgt := by
    intro tgt kk
    show Steps p.tables e below (T38.setTop (mkF m 496 #[.val (.int p1), .val (.long q2), .second, .val (.long q3), .second, .val (.int (Int32.ofNat n)), .val (.ref dd), .val (.ref rr), .val (.long v2), .second, .val (.long v3), .second, .val (.int (1 : Int32))] [(.int (1 : Int32))])) _
    refine XS.ifNo X38.here hx rfl (hb hby at_496) rfl (XT.i0_eq_f (by decide)) ?_
    show Steps p.tables e below (T38.setTop (mkF m 499 #[.val (.int p1), .val (.long q2), .second, .val (.long q3), .second, .val (.int (Int32.ofNat n)), .val (.ref dd), .val (.ref rr), .val (.long v2), .second, .val (.long v3), .second, .val (.int (1 : Int32))] [])) _
    refine XS.aload X38.here hx rfl (hb hby at_499) rfl rfl ?_
    show Steps p.tables e below (T38.setTop (mkF m 501 #[.val (.int p1), .val (.long q2), .second, .val (.long q3), .second, .val (.int (Int32.ofNat n)), .val (.ref dd), .val (.ref rr), .val (.long v2), .second, .val (.long v3), .second, .val (.int (1 : Int32))] [(.ref rr)])) _
    refine XT.bipushV X38.here hx rfl (15 : Int32) (hb hby at_501) (by decide) ?_
    show Steps p.tables e below (T38.setTop (mkF m 503 #[.val (.int p1), .val (.long q2), .second, .val (.long q3), .second, .val (.int (Int32.ofNat n)), .val (.ref dd), .val (.ref rr), .val (.long v2), .second, .val (.long v3), .second, .val (.int (1 : Int32))] [(.int (15 : Int32)), (.ref rr)])) _
    refine XT.lload X38.here hx rfl (hb hby at_503) rfl ?_
    show Steps p.tables e below (T38.setTop (mkF m 505 #[.val (.int p1), .val (.long q2), .second, .val (.long q3), .second, .val (.int (Int32.ofNat n)), .val (.ref dd), .val (.ref rr), .val (.long v2), .second, .val (.long v3), .second, .val (.int (1 : Int32))] [(.long v2), (.int (15 : Int32)), (.ref rr)])) _
    refine XT.lload X38.here hx rfl (hb hby at_505) rfl ?_
    exact kk
  -- pc 507: com/example/mavs/mavs/activation/Base32EncodePinLaw.at
  obtain ⟨_, _, ⟨T39, L39, k39, n39⟩, -, X39, ⟨Lc39, hQ39, l39, y39, z39⟩, st39⟩ := Jvm.LawKit.callS X38 hx (y := (⟨"com/example/mavs/mavs/activation/Base32EncodePinLaw", "at", "(Ljava/lang/String;IJJ)Z"⟩ : MethodName)) hown20 (mvT hZ20 (hw _ (List.mem_of_getElem? (i := 98) rfl))) (mvT hZ20 (hw _ (List.mem_of_getElem? (i := 99) rfl))) (mvT hZ20 (hw _ (List.mem_of_getElem? (i := 82) rfl))) (mvT hZ20 (hw _ (List.mem_of_getElem? (i := 100) rfl))) (by decide) (backOf (W := 0) (rm17 l Z a0 hw [] rr (15 : Int32) v2 v3 u kb ((8 * n + 4) / 5) (own_out (own_enc 0 0 (own_rs q2 q3 n))) T20.heap n0 Z20 cz hcz O1 OL20 hnz fm hfm O2 SD hN (by decide) (by rw [hv2, hv3]; exact own_good q2 q3 n hn 15 (by decide))) hZ20 (hw _ (List.mem_of_getElem? (i := 100) rfl)) (hw _ (List.mem_of_getElem? (i := 82) rfl)) (by decide) (by decide)) (g := (mkF m 507 #[.val (.int p1), .val (.long q2), .second, .val (.long q3), .second, .val (.int (Int32.ofNat n)), .val (.ref dd), .val (.ref rr), .val (.long v2), .second, .val (.long v3), .second, .val (.int (1 : Int32))] [(.long v3), (.long v2), (.int (15 : Int32)), (.ref rr)])) rfl (by rw [hml]; rfl) (argsL := [(.ref rr), (.int (15 : Int32)), (.long v2), (.long v3)]) (rest := []) (lenOf own_pd19 rfl) rfl (by show 2 * 0 + _ ≤ _; exact Nat.le_of_eq rfl) (hb hby at_507) (fun _ _ => ⟨rfl, e38, (by decide : 7 + 0 ≤ _), (by decide : 182 + 0 ≤ _)⟩)
  dsimp only [Pt.U, Pt.locs, Pt.cells, Pt.slots] at X39 l39 y39 z39 st39 hQ39
  subst l39 y39 z39
  obtain ⟨rfl, N39q, e39⟩ := hQ39
  have N39 := Fr.app N38 N39q
  obtain ⟨fs, hr, hrun, hended, hE⟩ := Stand.leaveW (s := s) (vm₁ := T20.vm) X39 S20 (by rw [e39]; exact Nat.le_refl _) (v := some (.int (1 : Int32))) (fun h => by rw [Bd.returns] at h; cases h)
  refine ⟨_, _, pre0 _ ?_, hrun, hended, _, _, rfl, ?_, hE.1, hE.2.1, hE.2.2.1, hE.2.2.2.mono (by decide) (by decide)⟩
  · refine sg0 _ ?_
    refine st1 _ ?_
    refine sg2 _ ?_
    refine sb0 _ ?_
    refine sb1 _ ?_
    refine sb2 _ ?_
    refine sb3 _ ?_
    refine sb4 _ ?_
    refine sb5 _ ?_
    refine sb6 _ ?_
    refine sb7 _ ?_
    refine sb8 _ ?_
    refine sb9 _ ?_
    refine sg13 _ ?_
    refine st20.trans ?_
    refine sg15 _ ?_
    refine st21 _ ?_
    refine sg17 _ ?_
    refine st22 _ ?_
    refine sg19 _ ?_
    refine st23.trans ?_
    refine sg21 _ ?_
    refine st24 _ ?_
    refine sg23 _ ?_
    refine st25 _ ?_
    refine sg25 _ ?_
    refine st26 _ ?_
    refine sg27 _ ?_
    refine st27 _ ?_
    refine sg29 _ ?_
    refine st28 _ ?_
    refine sg31 _ ?_
    refine st29 _ ?_
    refine sg33 _ ?_
    refine st30 _ ?_
    refine sg35 _ ?_
    refine st31 _ ?_
    refine sg37 _ ?_
    refine st32 _ ?_
    refine sg39 _ ?_
    refine st33 _ ?_
    refine sg41 _ ?_
    refine st34 _ ?_
    refine sg43 _ ?_
    refine st35 _ ?_
    refine sg45 _ ?_
    refine st36 _ ?_
    refine sg47 _ ?_
    refine st37 _ ?_
    refine sg49 _ ?_
    refine st38 _ ?_
    refine sg51 _ ?_
    refine st39 _ ?_
    show Steps p.tables e below (T39.setTop (mkF m 510 #[.val (.int p1), .val (.long q2), .second, .val (.long q3), .second, .val (.int (Int32.ofNat n)), .val (.ref dd), .val (.ref rr), .val (.long v2), .second, .val (.long v3), .second, .val (.int (1 : Int32))] [(.int (1 : Int32))])) _
    refine XS.ifNo X39.here hx rfl (hb hby at_510) rfl (XT.i0_eq_f (by decide)) ?_
    show Steps p.tables e below (T39.setTop (mkF m 513 #[.val (.int p1), .val (.long q2), .second, .val (.long q3), .second, .val (.int (Int32.ofNat n)), .val (.ref dd), .val (.ref rr), .val (.long v2), .second, .val (.long v3), .second, .val (.int (1 : Int32))] [])) _
    refine XT.iconstV X39.here hx rfl (1 : Int32) (hb hby at_513) (by decide) ?_
    show Steps p.tables e below (T39.setTop (mkF m 514 #[.val (.int p1), .val (.long q2), .second, .val (.long q3), .second, .val (.int (Int32.ofNat n)), .val (.ref dd), .val (.ref rr), .val (.long v2), .second, .val (.long v3), .second, .val (.int (1 : Int32))] [(.int (1 : Int32))])) _
    refine XS.goto X39.here hx rfl (pc0 := 514) (pc' := 518) rfl (hb hby at_514) (by decide) (by decide) ?_
    show Steps p.tables e below (T39.setTop (mkF m 518 #[.val (.int p1), .val (.long q2), .second, .val (.long q3), .second, .val (.int (Int32.ofNat n)), .val (.ref dd), .val (.ref rr), .val (.long v2), .second, .val (.long v3), .second, .val (.int (1 : Int32))] [(.int (1 : Int32))])) _
    refine XS.istore X39.here hx rfl (hb hby at_518) rfl (l' := #[.val (.int p1), .val (.long q2), .second, .val (.long q3), .second, .val (.int (Int32.ofNat n)), .val (.ref dd), .val (.ref rr), .val (.long v2), .second, .val (.long v3), .second, .val (.int (1 : Int32))]) rfl ?_
    show Steps p.tables e below (T39.setTop (mkF m 520 #[.val (.int p1), .val (.long q2), .second, .val (.long q3), .second, .val (.int (Int32.ofNat n)), .val (.ref dd), .val (.ref rr), .val (.long v2), .second, .val (.long v3), .second, .val (.int (1 : Int32))] [])) _
    refine XS.iload X39.here hx rfl (hb hby at_520) rfl ?_
    show Steps p.tables e below (T39.setTop (mkF m 522 #[.val (.int p1), .val (.long q2), .second, .val (.long q3), .second, .val (.int (Int32.ofNat n)), .val (.ref dd), .val (.ref rr), .val (.long v2), .second, .val (.long v3), .second, .val (.int (1 : Int32))] [(.int (1 : Int32))])) _
    exact retN X39 hx (t := .boolean) Bd.returns (by simp) (hb hby at_522) hr
  · exact ⟨rfl, N39⟩
set_option maxRecDepth 65536 in
set_option maxHeartbeats 40000000 in
theorem comes_1 {Post : Tables → Env → Array Value → State → Outcome → State → Prop} (hpost : ∀ tb e args s v u, (limb_1_1.after args s (.returned v) u = true ∧ limb_1_2.after args s (.returned v) u = true ∧ True) → ReturnedEndW s (.returned v) u (Jvm.fieldLocs frame_1_writes args s ++ Jvm.arrayLocs frame_1_arrays args s ++ Jvm.staticLocs frame_1_statics s) 24 1216 → Post tb e args s (.returned v) u) :
    ArmFor flags0 classFile x code maxLocals ret World_1 tables_1 room_1 Calls_1 rest_1 Pre_1 Post := by
  intro l hfl _ _ p e ha hc hk s m args below hf hA hF happ hP
  obtain ⟨hcalls, hrest, hpre⟩ := hP
  obtain ⟨-, -, -, hnamed, -, -, -, hat⟩ := (Spec.applies_iff hf).mp happ
  obtain ⟨hg, hn⟩ := and_e (Cond.before_iff.mp (show (Jvm.Cond.and given_1 narrow_1).before args s = true from hpre))
  obtain ⟨hcount, g0⟩ := and_e hg
  obtain ⟨k0, g1⟩ := and_e g0
  obtain ⟨k1, g2⟩ := and_e g1
  obtain ⟨w0, w1, w2, rfl⟩ : ∃ w0 w1 w2 : Value, args = #[w0, w1, w2] := by
    have hs : args.size = 3 := by simpa [Cond.value, given_1] using hcount
    obtain ⟨L⟩ := args
    match L, hs with
    | [w0, w1, w2], _ => exact ⟨w0, w1, w2, rfl⟩
  have hw := fun d (hd : d ∈ tables_1) => atoms_spec (ws := Jvm.Cond.code x code maxLocals ret :: tables_1) hat d (List.mem_cons_of_mem _ hd)
  obtain ⟨hsets, hown0⟩ := atoms_of _ (rest_1_c_eq ▸ (show rest_1_c.before _ s = true from hrest))
  have n3 := not_v (Cond.before_iff.mp (hsets _ (List.mem_of_getElem? (i := 2) rfl)))
  obtain ⟨i0, ei0⟩ := is_v k0
  obtain rfl : w0 = (.int i0) := Option.some.inj ei0
  obtain ⟨i1, ei1⟩ := isL_v k1
  obtain rfl : w1 = (.long i1) := Option.some.inj ei1
  obtain ⟨i2, ei2⟩ := isL_v g2
  obtain rfl : w2 = (.long i2) := Option.some.inj ei2
  obtain ⟨i7, e6⟩ := is_v (Cond.before_iff.mp (hsets _ (List.mem_of_getElem? (i := 1) rfl)))
  have S8 : Sta s s.heap "java/lang/String" "COMPACT_STRINGS" "Z" (.int i7) := Sta.start e6 (Or.inl (hsets _ (List.mem_of_getElem? (i := 0) rfl)))
  obtain ⟨v9, e10, r11⟩ := isR_v (Cond.before_iff.mp (hsets _ (List.mem_of_getElem? (i := 8) rfl)))
  have S12 : Sta s s.heap "jdk/internal/util/Preconditions" "SIOOBE_FORMATTER" "Ljava/util/function/BiFunction;" v9 := Sta.start e10 (Or.inl (hsets _ (List.mem_of_getElem? (i := 7) rfl)))
  have c13 : ¬ (i7 = (0 : Int32)) := gotF (Cond.eq_ints e6 (Term.int_eval (0))) n3
  have hcw : Jvm.Lit.compactW.before #[(.int i0), (.long i1), (.long i2)] s = true := hsets _ (List.mem_of_getElem? (i := 2) rfl)
  have CH : Jvm.Lit.constHeld s "com/example/mavs/mavs/activation/Base32" 16 := hcalls.1 ("com/example/mavs/mavs/activation/Base32", 16) (List.mem_of_getElem? (i := 0) rfl)
  obtain ⟨n, o, h1, h2, h3, _, L, rfl, ⟨rfl, N⟩, hq⟩ := rm0 l s _ hw tables_1 i0 i1 i2 s.heap s.heap.size (Nat.le_refl _) i7 c13 S8 (Old.start s) (Nat.le_refl _) v9 r11 S12 CH hcw p e ha hc hk s m _ below hf ((Spec.applies_iff_loose hf).mp happ).1 ⟨rfl, State.Warmed39.refl s, rfl, rfl⟩ trivial
  refine ⟨n, _, h1, h2, h3, hpost _ _ _ _ _ _ ⟨Cond.after_iff.mpr rfl, Cond.after_iff.mpr (eq_i res_at (Term.int_eval (1)) rfl), trivial⟩ ⟨hq.1, hq.2.1, hq.2.2.1, (hq.2.2.2.sift fun y hy => Or.inr (N y hy)).mono (by decide) (by decide)⟩⟩
theorem main_1_1 : Claimed_1_1 := comes_1 fun _ _ _ _ _ _ h hF => ⟨h.1, hF⟩
theorem main_1_2 : Claimed_1_2 := comes_1 fun _ _ _ _ _ _ h hF => ⟨h.2.1, hF⟩
end Jvm.Pilot.@@N@@
namespace Jvm.Pilot.@@N@@
open Jvm Jvm.ClassFile Sem Op Lib Jvm.Free Jvm.Stand Jvm.Pilot.@@N@@.Jvm.D
/-! MADE BY PROGRAM (witnessworld.py) out of the Statement's table words and the real class files: 21 classes; the members and pool entries that the words name. The judged class is class 1, her method 1. -/
namespace start1
open Jvm.ClassFile
def u (s : String) : CpInfo := .utf8 (stringToUtf16 s)
/-- a pool by its gaps: so many unusable entries, then the entry; so many at the end -/
def gap : Nat → List CpInfo → List CpInfo
  | 0, r => r
  | n + 1, r => .unusable :: gap n r
def poolList (es : List (Nat × CpInfo)) (last : Nat) : List CpInfo := es.foldr (fun e r => gap e.1 (e.2 :: r)) (gap last [])
def pool (es : List (Nat × CpInfo)) (last : Nat) : Array CpInfo := ⟨poolList es last⟩
def fileOf (pool : Array CpInfo) (this : Nat) (attrs : Array Attribute := #[]) (ms : Array MethodInfo := #[]) (fl : Nat := 33) (sup : Nat := 0) (ifs : Array Nat := #[]) (fds : Array FieldInfo := #[]) : ClassFile where
  minorVersion := 0
  majorVersion := 65
  constantPool := pool
  accessFlags := fl
  thisClass := this
  superClass := sup
  interfaces := ifs
  fields := fds
  methods := ms
  attributes := attrs
def plain (name : String) (sup : Option ClassId) : Class where
  name := name
  kind := .ordinary
  loader := none
  accessFlags := 33
  super := sup
  interfaces := #[]
  cf := none
  fields := #[]
  methods := #[]
  instanceTypes := #[]
  staticTypes := #[]
  resolved := #[]
  callSites := []
  init := .initialized
  statics := none
  mirror := none

def pool0 : Array CpInfo := pool [(5, u "<init>"), (0, u "()V"), (1, .class_ 10), (1, u "java/lang/Object"), (85, u "clone"), (0, u "()Ljava/lang/Object;")] 26

def k0c0 : Code := { maxStack := 0, maxLocals := 1, code := object_method_1_code, exceptionTable := #[], attributes := #[] }
def k0m0 : Method := { name := "<init>", desc := "()V", sig := { parameters := [], returnType := none }, accessFlags := 1, code := some k0c0 }
def k0m1 : Method := { name := "clone", desc := "()Ljava/lang/Object;", sig := { parameters := [], returnType := some (.object "java/lang/Object") }, accessFlags := 260, code := none }
/-- java/lang/Object -/
def k0 : Class := { plain "java/lang/Object" none with
  accessFlags := 33
  interfaces := #[]
  cf := some (fileOf pool0 8 #[] #[{ accessFlags := 1, nameIndex := 5, descriptorIndex := 6, attributes := #[] }, { accessFlags := 260, nameIndex := 96, descriptorIndex := 97, attributes := #[] }] 33 0 #[] #[])
  fields := #[]
  methods := #[k0m0, k0m1]
  instanceTypes := #[]
  staticTypes := #[]
  resolved := Array.replicate 124 none
  statics := none }

def pool1 : Array CpInfo := pool [(2, .class_ 4), (1, u "java/lang/Object"), (0, u "<init>"), (0, u "()V"), (0, .integer 2147483647), (0, .methodref 9 10), (0, .class_ 11), (0, .nameAndType 12 13), (0, u "com/example/mavs/mavs/activation/Base32EncodePinLaw"), (0, u "rawByte"), (0, u "(JJI)I"), (0, .methodref 15 16), (0, .class_ 17), (0, .nameAndType 18 19), (0, u "com/example/mavs/mavs/activation/Base32"), (0, u "encode"), (0, u "([B)Ljava/lang/String;"), (0, .methodref 9 21), (0, .nameAndType 22 23), (0, u "group"), (0, u "(JJII)J"), (0, .methodref 25 26), (0, .class_ 27), (0, .nameAndType 28 29), (0, u "java/lang/String"), (0, u "length"), (0, u "()I"), (0, .methodref 9 31), (0, .nameAndType 32 33), (0, u "at"), (0, u "(Ljava/lang/String;IJJ)Z"), (0, .long 255), (1, .methodref 9 37), (0, .nameAndType 38 23), (0, u "byteAt"), (0, .long 31), (1, .methodref 25 42), (0, .nameAndType 43 44), (0, u "charAt"), (0, u "(I)C"), (0, .methodref 9 46), (0, .nameAndType 47 44), (0, u "alpha"), (2, u "law"), (0, u "(IJJ)Z")] 5

def k1m0 : Method := { name := "<init>", desc := "()V", sig := { parameters := [], returnType := none }, accessFlags := 1, code := none }
def k1c1 : Code := { maxStack := 7, maxLocals := 13, code := code, exceptionTable := #[], attributes := #[] }
def k1m1 : Method := { name := "law", desc := "(IJJ)Z", sig := { parameters := [.int, .long, .long], returnType := some .boolean }, accessFlags := 9, code := some k1c1 }
def k1c2 : Code := { maxStack := 4, maxLocals := 8, code := method_3_code, exceptionTable := #[], attributes := #[] }
def k1m2 : Method := { name := "rawByte", desc := "(JJI)I", sig := { parameters := [.long, .long, .int], returnType := some .int }, accessFlags := 10, code := some k1c2 }
def k1c3 : Code := { maxStack := 5, maxLocals := 6, code := method_4_code, exceptionTable := #[], attributes := #[] }
def k1m3 : Method := { name := "byteAt", desc := "(JJII)J", sig := { parameters := [.long, .long, .int, .int], returnType := some .long }, accessFlags := 10, code := some k1c3 }
def k1c4 : Code := { maxStack := 9, maxLocals := 6, code := method_5_code, exceptionTable := #[], attributes := #[] }
def k1m4 : Method := { name := "group", desc := "(JJII)J", sig := { parameters := [.long, .long, .int, .int], returnType := some .long }, accessFlags := 10, code := some k1c4 }
def k1c5 : Code := { maxStack := 3, maxLocals := 1, code := method_6_code, exceptionTable := #[], attributes := #[] }
def k1m5 : Method := { name := "alpha", desc := "(I)C", sig := { parameters := [.int], returnType := some .char }, accessFlags := 10, code := some k1c5 }
def k1c6 : Code := { maxStack := 5, maxLocals := 10, code := method_7_code, exceptionTable := #[], attributes := #[] }
def k1m6 : Method := { name := "at", desc := "(Ljava/lang/String;IJJ)Z", sig := { parameters := [(.object "java/lang/String"), .int, .long, .long], returnType := some .boolean }, accessFlags := 10, code := some k1c6 }
/-- com/example/mavs/mavs/activation/Base32EncodePinLaw -/
def k1 : Class := { plain "com/example/mavs/mavs/activation/Base32EncodePinLaw" (some 0) with
  accessFlags := 49
  interfaces := #[]
  cf := some (fileOf pool1 9 #[] #[{ accessFlags := 1, nameIndex := 5, descriptorIndex := 6, attributes := #[] }, { accessFlags := 9, nameIndex := 50, descriptorIndex := 51, attributes := #[] }, { accessFlags := 10, nameIndex := 12, descriptorIndex := 13, attributes := #[] }, { accessFlags := 10, nameIndex := 38, descriptorIndex := 23, attributes := #[] }, { accessFlags := 10, nameIndex := 22, descriptorIndex := 23, attributes := #[] }, { accessFlags := 10, nameIndex := 47, descriptorIndex := 44, attributes := #[] }, { accessFlags := 10, nameIndex := 32, descriptorIndex := 33, attributes := #[] }] 49 2 #[] #[])
  fields := #[]
  methods := #[k1m0, k1m1, k1m2, k1m3, k1m4, k1m5, k1m6]
  instanceTypes := #[]
  staticTypes := #[]
  resolved := Array.replicate 57 none
  statics := none }

def pool2 : Array CpInfo := pool [(2, .class_ 4), (1, u "java/lang/Object"), (0, u "<init>"), (0, u "()V"), (0, .class_ 8), (0, u "java/lang/StringBuilder"), (2, .class_ 12), (0, u "com/example/mavs/mavs/activation/Base32"), (0, .methodref 7 14), (0, .nameAndType 5 15), (0, u "(I)V"), (0, .string 17), (0, u "ABCDEFGHIJKLMNOPQRSTUVWXYZ234567"), (0, .methodref 19 20), (0, .class_ 21), (0, .nameAndType 22 23), (0, u "java/lang/String"), (0, u "charAt"), (0, u "(I)C"), (0, .methodref 7 25), (0, .nameAndType 26 27), (0, u "append"), (0, u "(C)Ljava/lang/StringBuilder;"), (0, .methodref 7 29), (0, .nameAndType 30 31), (0, u "toString"), (0, u "()Ljava/lang/String;"), (9, u "VALUES"), (0, u "[I"), (19, u "ALPHABET"), (0, u "Ljava/lang/String;"), (1, u "BITS_PER_CHARACTER"), (0, u "I"), (3, u "encode"), (0, u "([B)Ljava/lang/String;")] 25

def k2m0 : Method := { name := "<init>", desc := "()V", sig := { parameters := [], returnType := none }, accessFlags := 2, code := none }
def k2c1 : Code := { maxStack := 5, maxLocals := 8, code := prog_3_method_2_code, exceptionTable := #[], attributes := #[] }
def k2m1 : Method := { name := "encode", desc := "([B)Ljava/lang/String;", sig := { parameters := [(.array .byte)], returnType := some (.object "java/lang/String") }, accessFlags := 8, code := some k2c1 }
/-- com/example/mavs/mavs/activation/Base32 -/
def k2 : Class := { plain "com/example/mavs/mavs/activation/Base32" (some 0) with
  accessFlags := 48
  interfaces := #[]
  cf := some (fileOf pool2 11 #[] #[{ accessFlags := 2, nameIndex := 5, descriptorIndex := 6, attributes := #[] }, { accessFlags := 8, nameIndex := 70, descriptorIndex := 71, attributes := #[] }] 48 2 #[] #[{ accessFlags := 26, nameIndex := 62, descriptorIndex := 63, attributes := #[] }, { accessFlags := 26, nameIndex := 65, descriptorIndex := 66, attributes := #[] }, { accessFlags := 26, nameIndex := 41, descriptorIndex := 42, attributes := #[] }])
  fields := #[{ name := "ALPHABET", type := (.object "java/lang/String"), accessFlags := 26, slot := 0, constantValue := 0 }, { name := "BITS_PER_CHARACTER", type := .int, accessFlags := 26, slot := 1, constantValue := 0 }, { name := "VALUES", type := (.array .int), accessFlags := 26, slot := 2, constantValue := 0 }]
  methods := #[k2m0, k2m1]
  instanceTypes := #[]
  staticTypes := #[(.object "java/lang/String"), .int, (.array .int)]
  resolved := Array.replicate 97 none
  statics := none }

def pool3 : Array CpInfo := pool [(1, .class_ 2), (0, u "java/lang/Appendable"), (0, .class_ 4), (0, u "java/lang/Object")] 9

/-- java/lang/Appendable -/
def k3 : Class := { plain "java/lang/Appendable" (some 0) with
  accessFlags := 1537
  interfaces := #[]
  cf := some (fileOf pool3 1 #[] #[] 1537 3 #[] #[])
  fields := #[]
  methods := #[]
  instanceTypes := #[]
  staticTypes := #[]
  resolved := Array.replicate 14 none
  statics := none }

def pool4 : Array CpInfo := pool [(2, .class_ 4), (1, u "java/lang/CharSequence"), (42, .class_ 48), (0, u "java/lang/CharSequence$1CodePointIterator"), (10, .class_ 60), (0, u "java/lang/CharSequence$1CharIterator"), (5, .class_ 67), (0, u "java/lang/Object")] 63

/-- java/lang/CharSequence -/
def k4 : Class := { plain "java/lang/CharSequence" (some 0) with
  accessFlags := 1537
  interfaces := #[]
  cf := some (fileOf pool4 2 #[.nestMembers #[47, 59]] #[] 1537 66 #[] #[])
  fields := #[]
  methods := #[]
  instanceTypes := #[]
  staticTypes := #[]
  resolved := Array.replicate 131 none
  statics := none }

def pool5 : Array CpInfo := pool [(1, .class_ 2), (0, u "java/lang/String"), (0, .methodref 4 5), (0, .class_ 6), (0, .nameAndType 7 8), (0, u "java/lang/Object"), (0, u "<init>"), (0, u "()V"), (1, .class_ 12), (1, u "java/lang/AbstractStringBuilder"), (0, u "EMPTYVALUE"), (0, u "[B"), (0, .fieldref 10 16), (0, .nameAndType 17 14), (0, u "value"), (0, .fieldref 1 19), (0, .nameAndType 20 21), (0, u "COMPACT_STRINGS"), (0, u "Z"), (0, .fieldref 10 23), (0, .nameAndType 24 25), (0, u "coder"), (0, u "B"), (8, u "length"), (0, u "()I"), (9, u "append"), (2, .class_ 49), (0, u "java/lang/CharSequence"), (25, u "maybeLatin1"), (3, .fieldref 10 80), (0, .nameAndType 81 82), (0, u "count"), (0, u "I"), (0, .methodref 10 84), (0, .nameAndType 85 86), (0, u "isLatin1"), (0, u "()Z"), (1, .class_ 90), (1, u "java/lang/StringLatin1"), (9, .methodref 10 101), (0, .nameAndType 102 103), (0, u "ensureCapacityInternal"), (0, u "(I)V"), (87, .methodref 88 192), (0, .nameAndType 193 194), (0, u "canEncode"), (0, u "(C)Z"), (97, u "(C)Ljava/lang/AbstractStringBuilder;"), (110, u "()[B"), (40, .class_ 445), (0, u "java/lang/Appendable"), (106, u "getValue")] 56

def k5m0 : Method := { name := "<init>", desc := "()V", sig := { parameters := [], returnType := none }, accessFlags := 0, code := none }
def k5c1 : Code := { maxStack := 2, maxLocals := 2, code := jdk_68_method_2_code, exceptionTable := #[], attributes := #[] }
def k5m1 : Method := { name := "<init>", desc := "(I)V", sig := { parameters := [.int], returnType := none }, accessFlags := 0, code := some k5c1 }
def k5c2 : Code := { maxStack := 1, maxLocals := 1, code := jdk_68_method_6_code, exceptionTable := #[], attributes := #[] }
def k5m2 : Method := { name := "length", desc := "()I", sig := { parameters := [], returnType := some .int }, accessFlags := 1, code := some k5c2 }
def k5c3 : Code := { maxStack := 4, maxLocals := 3, code := jdk_68_method_9_code, exceptionTable := #[], attributes := #[] }
def k5m3 : Method := { name := "ensureCapacityInternal", desc := "(I)V", sig := { parameters := [.int], returnType := none }, accessFlags := 2, code := some k5c3 }
def k5c4 : Code := { maxStack := 5, maxLocals := 2, code := jdk_68_method_31_code, exceptionTable := #[], attributes := #[] }
def k5m4 : Method := { name := "append", desc := "(C)Ljava/lang/AbstractStringBuilder;", sig := { parameters := [.char], returnType := some (.object "java/lang/AbstractStringBuilder") }, accessFlags := 1, code := some k5c4 }
def k5c5 : Code := { maxStack := 1, maxLocals := 1, code := jdk_68_method_64_code, exceptionTable := #[], attributes := #[] }
def k5m5 : Method := { name := "getValue", desc := "()[B", sig := { parameters := [], returnType := some (.array .byte) }, accessFlags := 16, code := some k5c5 }
def k5c6 : Code := { maxStack := 1, maxLocals := 1, code := jdk_68_method_68_code, exceptionTable := #[], attributes := #[] }
def k5m6 : Method := { name := "isLatin1", desc := "()Z", sig := { parameters := [], returnType := some .boolean }, accessFlags := 16, code := some k5c6 }
/-- java/lang/AbstractStringBuilder -/
def k5 : Class := { plain "java/lang/AbstractStringBuilder" (some 0) with
  accessFlags := 1056
  interfaces := #[3, 4]
  cf := some (fileOf pool5 10 #[] #[{ accessFlags := 0, nameIndex := 7, descriptorIndex := 8, attributes := #[] }, { accessFlags := 0, nameIndex := 7, descriptorIndex := 103, attributes := #[] }, { accessFlags := 1, nameIndex := 34, descriptorIndex := 35, attributes := #[] }, { accessFlags := 2, nameIndex := 102, descriptorIndex := 103, attributes := #[] }, { accessFlags := 1, nameIndex := 45, descriptorIndex := 292, attributes := #[] }, { accessFlags := 16, nameIndex := 552, descriptorIndex := 403, attributes := #[] }, { accessFlags := 16, nameIndex := 85, descriptorIndex := 86, attributes := #[] }] 1056 4 #[444, 48] #[{ accessFlags := 0, nameIndex := 17, descriptorIndex := 14, attributes := #[] }, { accessFlags := 0, nameIndex := 24, descriptorIndex := 25, attributes := #[] }, { accessFlags := 0, nameIndex := 75, descriptorIndex := 21, attributes := #[] }, { accessFlags := 0, nameIndex := 81, descriptorIndex := 82, attributes := #[] }, { accessFlags := 26, nameIndex := 13, descriptorIndex := 14, attributes := #[] }])
  fields := #[{ name := "value", type := (.array .byte), accessFlags := 0, slot := 0, constantValue := 0 }, { name := "coder", type := .byte, accessFlags := 0, slot := 1, constantValue := 0 }, { name := "maybeLatin1", type := .boolean, accessFlags := 0, slot := 2, constantValue := 0 }, { name := "count", type := .int, accessFlags := 0, slot := 3, constantValue := 0 }, { name := "EMPTYVALUE", type := (.array .byte), accessFlags := 26, slot := 0, constantValue := 0 }]
  methods := #[k5m0, k5m1, k5m2, k5m3, k5m4, k5m5, k5m6]
  instanceTypes := #[(.array .byte), .byte, .boolean, .int]
  staticTypes := #[(.array .byte)]
  resolved := Array.replicate 609 none
  statics := none }

def pool6 : Array CpInfo := pool [(1, .class_ 2), (0, u "java/io/Serializable"), (0, .class_ 4), (0, u "java/lang/Object")] 2

/-- java/io/Serializable -/
def k6 : Class := { plain "java/io/Serializable" (some 0) with
  accessFlags := 1537
  interfaces := #[]
  cf := some (fileOf pool6 1 #[] #[] 1537 3 #[] #[])
  fields := #[]
  methods := #[]
  instanceTypes := #[]
  staticTypes := #[]
  resolved := Array.replicate 7 none
  statics := none }

def pool7 : Array CpInfo := pool [(1, .class_ 2), (0, u "java/lang/Comparable"), (0, .class_ 4), (0, u "java/lang/Object")] 7

/-- java/lang/Comparable -/
def k7 : Class := { plain "java/lang/Comparable" (some 0) with
  accessFlags := 1537
  interfaces := #[]
  cf := some (fileOf pool7 1 #[] #[] 1537 3 #[] #[])
  fields := #[]
  methods := #[]
  instanceTypes := #[]
  staticTypes := #[]
  resolved := Array.replicate 12 none
  statics := none }

def pool8 : Array CpInfo := pool [(1, .methodref 2 3), (0, .class_ 4), (0, .nameAndType 5 6), (0, u "java/lang/AbstractStringBuilder"), (0, u "<init>"), (0, u "(I)V"), (11, .class_ 20), (1, u "java/lang/String"), (3, .class_ 26), (1, u "java/lang/StringBuilder"), (0, u "append"), (22, .methodref 2 51), (0, .nameAndType 27 52), (0, u "(C)Ljava/lang/AbstractStringBuilder;"), (84, .methodref 18 138), (0, .nameAndType 5 139), (0, u "(Ljava/lang/StringBuilder;)V"), (5, u "()V"), (10, u "()I"), (129, u "(C)Ljava/lang/StringBuilder;"), (56, .methodref 2 344), (0, .nameAndType 345 156), (0, u "length"), (3, .class_ 350), (0, u "java/lang/Appendable"), (0, .class_ 352), (0, u "java/io/Serializable"), (0, .class_ 354), (0, u "java/lang/Comparable"), (0, .class_ 356), (0, u "java/lang/CharSequence"), (0, u "serialVersionUID"), (0, u "J"), (40, u "toString"), (0, u "()Ljava/lang/String;")] 21

def k8m0 : Method := { name := "<init>", desc := "()V", sig := { parameters := [], returnType := none }, accessFlags := 1, code := none }
def k8c1 : Code := { maxStack := 2, maxLocals := 2, code := jdk_67_method_2_code, exceptionTable := #[], attributes := #[] }
def k8m1 : Method := { name := "<init>", desc := "(I)V", sig := { parameters := [.int], returnType := none }, accessFlags := 1, code := some k8c1 }
def k8c2 : Code := { maxStack := 2, maxLocals := 2, code := jdk_67_method_14_code, exceptionTable := #[], attributes := #[] }
def k8m2 : Method := { name := "append", desc := "(C)Ljava/lang/StringBuilder;", sig := { parameters := [.char], returnType := some (.object "java/lang/StringBuilder") }, accessFlags := 1, code := some k8c2 }
def k8c3 : Code := { maxStack := 3, maxLocals := 1, code := jdk_67_method_42_code, exceptionTable := #[], attributes := #[] }
def k8m3 : Method := { name := "toString", desc := "()Ljava/lang/String;", sig := { parameters := [], returnType := some (.object "java/lang/String") }, accessFlags := 1, code := some k8c3 }
def k8c4 : Code := { maxStack := 1, maxLocals := 1, code := jdk_67_method_93_code, exceptionTable := #[], attributes := #[] }
def k8m4 : Method := { name := "length", desc := "()I", sig := { parameters := [], returnType := some .int }, accessFlags := 4161, code := some k8c4 }
/-- java/lang/StringBuilder -/
def k8 : Class := { plain "java/lang/StringBuilder" (some 5) with
  accessFlags := 49
  interfaces := #[3, 6, 7, 4]
  cf := some (fileOf pool8 24 #[] #[{ accessFlags := 1, nameIndex := 5, descriptorIndex := 145, attributes := #[] }, { accessFlags := 1, nameIndex := 5, descriptorIndex := 6, attributes := #[] }, { accessFlags := 1, nameIndex := 27, descriptorIndex := 286, attributes := #[] }, { accessFlags := 1, nameIndex := 399, descriptorIndex := 400, attributes := #[] }, { accessFlags := 4161, nameIndex := 345, descriptorIndex := 156, attributes := #[] }] 49 2 #[349, 351, 353, 355] #[{ accessFlags := 24, nameIndex := 357, descriptorIndex := 358, attributes := #[] }])
  fields := #[{ name := "serialVersionUID", type := .long, accessFlags := 24, slot := 0, constantValue := 0 }]
  methods := #[k8m0, k8m1, k8m2, k8m3, k8m4]
  instanceTypes := #[(.array .byte), .byte, .boolean, .int]
  staticTypes := #[.long]
  resolved := Array.replicate 422 none
  statics := none }

def pool9 : Array CpInfo := pool [(1, .class_ 2), (0, u "java/lang/constant/Constable"), (0, .class_ 4), (0, u "java/lang/Object")] 6

/-- java/lang/constant/Constable -/
def k9 : Class := { plain "java/lang/constant/Constable" (some 0) with
  accessFlags := 1537
  interfaces := #[]
  cf := some (fileOf pool9 1 #[] #[] 1537 3 #[] #[])
  fields := #[]
  methods := #[]
  instanceTypes := #[]
  staticTypes := #[]
  resolved := Array.replicate 11 none
  statics := none }

def pool10 : Array CpInfo := pool [(1, .class_ 2), (0, u "java/lang/constant/ConstantDesc"), (0, .class_ 4), (0, u "java/lang/Object")] 32

/-- java/lang/constant/ConstantDesc -/
def k10 : Class := { plain "java/lang/constant/ConstantDesc" (some 0) with
  accessFlags := 1537
  interfaces := #[]
  cf := some (fileOf pool10 1 #[] #[] 1537 3 #[] #[])
  fields := #[]
  methods := #[]
  instanceTypes := #[]
  staticTypes := #[]
  resolved := Array.replicate 37 none
  statics := none }

def pool11 : Array CpInfo := pool [(1, .methodref 2 3), (0, .class_ 4), (0, .nameAndType 5 6), (0, u "java/lang/Object"), (0, u "<init>"), (0, u "()V"), (2, .fieldref 10 11), (0, .class_ 12), (0, .nameAndType 13 14), (0, u "java/lang/String"), (0, u "value"), (0, u "[B"), (0, .fieldref 10 16), (0, .nameAndType 17 18), (0, u "coder"), (0, u "B"), (2, u "hash"), (0, u "I"), (2, u "hashIsZero"), (0, u "Z"), (11, .fieldref 10 39), (0, .nameAndType 40 26), (0, u "COMPACT_STRINGS"), (13, .methodref 55 56), (0, .class_ 57), (0, .nameAndType 58 59), (0, u "java/util/Arrays"), (0, u "copyOfRange"), (0, u "([BII)[B"), (47, .class_ 109), (1, u "java/lang/StringLatin1"), (32, u "()Z"), (191, u "()I"), (0, .methodref 10 336), (0, .nameAndType 17 337), (0, u "()B"), (2, u "()[B"), (22, u "([BI)C"), (27, u "(II)V"), (35, u "(I)C"), (61, .methodref 10 490), (0, .nameAndType 5 491), (0, u "(Ljava/lang/AbstractStringBuilder;Ljava/lang/Void;)V"), (0, .methodref 10 493), (0, .nameAndType 494 142), (0, u "isLatin1"), (0, .methodref 107 496), (0, .nameAndType 497 363), (0, u "charAt"), (3, u "checkIndex"), (4, .nameAndType 507 334), (0, u "length"), (41, .methodref 550 506), (0, .class_ 551), (0, u "java/lang/AbstractStringBuilder"), (0, .methodref 550 553), (0, .nameAndType 554 340), (0, u "getValue"), (20, .class_ 576), (0, u "java/lang/CharSequence"), (22, u "CASE_INSENSITIVE_ORDER"), (0, u "Ljava/util/Comparator;"), (446, .methodref 550 493), (5, .fieldref 1054 1055), (0, .class_ 1056), (0, .nameAndType 1057 1058), (0, u "jdk/internal/util/Preconditions"), (0, u "SIOOBE_FORMATTER"), (0, u "Ljava/util/function/BiFunction;"), (0, .methodref 1054 1060), (0, .nameAndType 501 1061), (0, u "(IILjava/util/function/BiFunction;)I"), (39, u "serialPersistentFields"), (0, u "[Ljava/io/ObjectStreamField;"), (0, .class_ 1104), (0, u "java/lang/String$CaseInsensitiveComparator"), (1, .class_ 1107), (0, u "java/io/Serializable"), (0, .class_ 1109), (0, u "java/lang/Comparable"), (0, .class_ 1111), (0, u "java/lang/constant/Constable"), (0, .class_ 1113), (0, u "java/lang/constant/ConstantDesc"), (2, u "serialVersionUID"), (0, u "J"), (3, u "REPL"), (0, u "C"), (2, u "LATIN1"), (1, u "UTF16"), (105, u "(Ljava/lang/StringBuilder;)V")] 217

def k11m0 : Method := { name := "<init>", desc := "()V", sig := { parameters := [], returnType := none }, accessFlags := 1, code := none }
def k11c1 : Code := { maxStack := 3, maxLocals := 2, code := jdk_42_method_53_code, exceptionTable := #[], attributes := #[] }
def k11m1 : Method := { name := "<init>", desc := "(Ljava/lang/StringBuilder;)V", sig := { parameters := [(.object "java/lang/StringBuilder")], returnType := none }, accessFlags := 1, code := some k11c1 }
def k11c2 : Code := { maxStack := 2, maxLocals := 1, code := jdk_42_method_54_code, exceptionTable := #[], attributes := #[] }
def k11m2 : Method := { name := "length", desc := "()I", sig := { parameters := [], returnType := some .int }, accessFlags := 1, code := some k11c2 }
def k11c3 : Code := { maxStack := 2, maxLocals := 2, code := jdk_42_method_56_code, exceptionTable := #[], attributes := #[] }
def k11m3 : Method := { name := "charAt", desc := "(I)C", sig := { parameters := [.int], returnType := some .char }, accessFlags := 1, code := some k11c3 }
def k11c4 : Code := { maxStack := 5, maxLocals := 5, code := jdk_42_method_150_code, exceptionTable := #[], attributes := #[] }
def k11m4 : Method := { name := "<init>", desc := "(Ljava/lang/AbstractStringBuilder;Ljava/lang/Void;)V", sig := { parameters := [(.object "java/lang/AbstractStringBuilder"), (.object "java/lang/Void")], returnType := none }, accessFlags := 0, code := some k11c4 }
def k11c5 : Code := { maxStack := 1, maxLocals := 1, code := jdk_42_method_152_code, exceptionTable := #[], attributes := #[] }
def k11m5 : Method := { name := "coder", desc := "()B", sig := { parameters := [], returnType := some .byte }, accessFlags := 0, code := some k11c5 }
def k11c6 : Code := { maxStack := 1, maxLocals := 1, code := jdk_42_method_154_code, exceptionTable := #[], attributes := #[] }
def k11m6 : Method := { name := "isLatin1", desc := "()Z", sig := { parameters := [], returnType := some .boolean }, accessFlags := 0, code := some k11c6 }
def k11c7 : Code := { maxStack := 3, maxLocals := 2, code := jdk_42_method_155_code, exceptionTable := #[], attributes := #[] }
def k11m7 : Method := { name := "checkIndex", desc := "(II)V", sig := { parameters := [.int, .int], returnType := none }, accessFlags := 8, code := some k11c7 }
/-- java/lang/String -/
def k11 : Class := { plain "java/lang/String" (some 0) with
  accessFlags := 49
  interfaces := #[6, 7, 4, 9, 10]
  cf := some (fileOf pool11 10 #[.nestMembers #[1103]] #[{ accessFlags := 1, nameIndex := 5, descriptorIndex := 6, attributes := #[] }, { accessFlags := 1, nameIndex := 5, descriptorIndex := 1233, attributes := #[] }, { accessFlags := 1, nameIndex := 507, descriptorIndex := 334, attributes := #[] }, { accessFlags := 1, nameIndex := 497, descriptorIndex := 427, attributes := #[] }, { accessFlags := 0, nameIndex := 5, descriptorIndex := 491, attributes := #[] }, { accessFlags := 0, nameIndex := 17, descriptorIndex := 337, attributes := #[] }, { accessFlags := 0, nameIndex := 494, descriptorIndex := 142, attributes := #[] }, { accessFlags := 8, nameIndex := 501, descriptorIndex := 391, attributes := #[] }] 49 2 #[1106, 1108, 575, 1110, 1112] #[{ accessFlags := 18, nameIndex := 13, descriptorIndex := 14, attributes := #[] }, { accessFlags := 18, nameIndex := 17, descriptorIndex := 18, attributes := #[] }, { accessFlags := 2, nameIndex := 21, descriptorIndex := 22, attributes := #[] }, { accessFlags := 2, nameIndex := 25, descriptorIndex := 26, attributes := #[] }, { accessFlags := 26, nameIndex := 1116, descriptorIndex := 1117, attributes := #[] }, { accessFlags := 24, nameIndex := 40, descriptorIndex := 26, attributes := #[] }, { accessFlags := 26, nameIndex := 1101, descriptorIndex := 1102, attributes := #[] }, { accessFlags := 26, nameIndex := 1121, descriptorIndex := 1122, attributes := #[] }, { accessFlags := 25, nameIndex := 599, descriptorIndex := 600, attributes := #[] }, { accessFlags := 24, nameIndex := 1125, descriptorIndex := 18, attributes := #[] }, { accessFlags := 24, nameIndex := 1127, descriptorIndex := 18, attributes := #[] }])
  fields := #[{ name := "value", type := (.array .byte), accessFlags := 18, slot := 0, constantValue := 0 }, { name := "coder", type := .byte, accessFlags := 18, slot := 1, constantValue := 0 }, { name := "hash", type := .int, accessFlags := 2, slot := 2, constantValue := 0 }, { name := "hashIsZero", type := .boolean, accessFlags := 2, slot := 3, constantValue := 0 }, { name := "serialVersionUID", type := .long, accessFlags := 26, slot := 0, constantValue := 0 }, { name := "COMPACT_STRINGS", type := .boolean, accessFlags := 24, slot := 1, constantValue := 0 }, { name := "serialPersistentFields", type := (.array (.object "java/io/ObjectStreamField")), accessFlags := 26, slot := 2, constantValue := 0 }, { name := "REPL", type := .char, accessFlags := 26, slot := 3, constantValue := 0 }, { name := "CASE_INSENSITIVE_ORDER", type := (.object "java/util/Comparator"), accessFlags := 25, slot := 4, constantValue := 0 }, { name := "LATIN1", type := .byte, accessFlags := 24, slot := 5, constantValue := 0 }, { name := "UTF16", type := .byte, accessFlags := 24, slot := 6, constantValue := 0 }]
  methods := #[k11m0, k11m1, k11m2, k11m3, k11m4, k11m5, k11m6, k11m7]
  instanceTypes := #[(.array .byte), .byte, .int, .boolean]
  staticTypes := #[.long, .boolean, (.array (.object "java/io/ObjectStreamField")), .char, (.object "java/util/Comparator"), .byte, .byte]
  resolved := Array.replicate 1451 none
  statics := some 0 }

def pool12 : Array CpInfo := pool [(2, .class_ 4), (1, u "java/lang/Object"), (0, u "<init>"), (0, u "()V"), (7, .class_ 16), (1, u "java/util/Arrays"), (57, .class_ 76), (1, u "java/util/Arrays$NaturalOrder"), (32, u "()Ljava/lang/Object;"), (3, .class_ 115), (1, u "java/util/Arrays$LegacyMergeSort"), (1, u "Z"), (10, .nameAndType 129 109), (0, u "clone"), (9, u "copyOfRange"), (170, .methodref 311 128), (0, .class_ 312), (0, u "[B"), (29, u "([BII)[B"), (32, .class_ 376), (0, u "java/util/Arrays$ArrayList"), (68, u "$assertionsDisabled"), (269, u "MIN_ARRAY_SORT_GRAN"), (0, u "I"), (2, u "INSERTIONSORT_THRESHOLD"), (255, .class_ 976), (0, u "java/util/Arrays$ArrayItr")] 52

def k12m0 : Method := { name := "<init>", desc := "()V", sig := { parameters := [], returnType := none }, accessFlags := 2, code := none }
def k12c1 : Code := { maxStack := 3, maxLocals := 3, code := jdk_65_method_132_code, exceptionTable := #[], attributes := #[] }
def k12m1 : Method := { name := "copyOfRange", desc := "([BII)[B", sig := { parameters := [(.array .byte), .int, .int], returnType := some (.array .byte) }, accessFlags := 9, code := some k12c1 }
/-- java/util/Arrays -/
def k12 : Class := { plain "java/util/Arrays" (some 0) with
  accessFlags := 49
  interfaces := #[]
  cf := some (fileOf pool12 14 #[.nestMembers #[975, 375, 113, 74]] #[{ accessFlags := 2, nameIndex := 5, descriptorIndex := 6, attributes := #[] }, { accessFlags := 9, nameIndex := 139, descriptorIndex := 342, attributes := #[] }] 49 2 #[] #[{ accessFlags := 26, nameIndex := 715, descriptorIndex := 716, attributes := #[] }, { accessFlags := 26, nameIndex := 719, descriptorIndex := 716, attributes := #[] }, { accessFlags := 4120, nameIndex := 445, descriptorIndex := 117, attributes := #[] }])
  fields := #[{ name := "MIN_ARRAY_SORT_GRAN", type := .int, accessFlags := 26, slot := 0, constantValue := 0 }, { name := "INSERTIONSORT_THRESHOLD", type := .int, accessFlags := 26, slot := 1, constantValue := 0 }, { name := "$assertionsDisabled", type := .boolean, accessFlags := 4120, slot := 2, constantValue := 0 }]
  methods := #[k12m0, k12m1]
  instanceTypes := #[]
  staticTypes := #[.int, .int, .boolean]
  resolved := Array.replicate 1029 none
  statics := none }

def pool13 : Array CpInfo := pool [(1, .class_ 2), (0, u "java/lang/Cloneable"), (0, .class_ 4), (0, u "java/lang/Object")] 2

/-- java/lang/Cloneable -/
def k13 : Class := { plain "java/lang/Cloneable" (some 0) with
  accessFlags := 1537
  interfaces := #[]
  cf := some (fileOf pool13 1 #[] #[] 1537 3 #[] #[])
  fields := #[]
  methods := #[]
  instanceTypes := #[]
  staticTypes := #[]
  resolved := Array.replicate 7 none
  statics := none }

def pool14 : Array CpInfo := pool [(1, .class_ 2), (0, u "java/lang/String"), (1, .class_ 6), (1, u "java/lang/Object"), (0, u "<init>"), (0, u "()V"), (0, .methodref 1 10), (0, .nameAndType 11 12), (0, u "checkIndex"), (0, u "(II)V"), (1, .class_ 16), (1, u "java/lang/StringLatin1"), (36, u "([BI)C"), (36, u "canEncode"), (14, u "(C)Z"), (15, u "$assertionsDisabled"), (0, u "Z"), (98, .class_ 223), (1, u "java/lang/StringLatin1$LinesSpliterator"), (28, u "charAt"), (137, .class_ 391), (0, u "java/lang/StringLatin1$CharsSpliterator")] 3

def k14m0 : Method := { name := "<init>", desc := "()V", sig := { parameters := [], returnType := none }, accessFlags := 0, code := none }
def k14c1 : Code := { maxStack := 2, maxLocals := 2, code := jdk_43_method_2_code, exceptionTable := #[], attributes := #[] }
def k14m1 : Method := { name := "charAt", desc := "([BI)C", sig := { parameters := [(.array .byte), .int], returnType := some .char }, accessFlags := 9, code := some k14c1 }
def k14c2 : Code := { maxStack := 2, maxLocals := 1, code := jdk_43_method_3_code, exceptionTable := #[], attributes := #[] }
def k14m2 : Method := { name := "canEncode", desc := "(C)Z", sig := { parameters := [.char], returnType := some .boolean }, accessFlags := 9, code := some k14c2 }
/-- java/lang/StringLatin1 -/
def k14 : Class := { plain "java/lang/StringLatin1" (some 0) with
  accessFlags := 48
  interfaces := #[]
  cf := some (fileOf pool14 14 #[.nestMembers #[390, 221]] #[{ accessFlags := 0, nameIndex := 7, descriptorIndex := 8, attributes := #[] }, { accessFlags := 9, nameIndex := 252, descriptorIndex := 53, attributes := #[] }, { accessFlags := 9, nameIndex := 90, descriptorIndex := 105, attributes := #[] }] 48 4 #[] #[{ accessFlags := 4120, nameIndex := 121, descriptorIndex := 122, attributes := #[] }])
  fields := #[{ name := "$assertionsDisabled", type := .boolean, accessFlags := 4120, slot := 0, constantValue := 0 }]
  methods := #[k14m0, k14m1, k14m2]
  instanceTypes := #[]
  staticTypes := #[.boolean]
  resolved := Array.replicate 395 none
  statics := none }

def pool15 : Array CpInfo := pool [(2, .class_ 4), (1, u "java/lang/Object"), (0, u "<init>"), (0, u "()V"), (17, .class_ 26), (1, u "jdk/internal/util/Preconditions"), (6, u "checkIndex"), (21, .class_ 56), (0, u "jdk/internal/util/Preconditions$4"), (57, .class_ 115), (0, u "jdk/internal/util/Preconditions$1"), (7, u "SIOOBE_FORMATTER"), (0, u "Ljava/util/function/BiFunction;"), (0, .class_ 126), (0, u "jdk/internal/util/Preconditions$2"), (3, u "AIOOBE_FORMATTER"), (0, .class_ 132), (0, u "jdk/internal/util/Preconditions$3"), (3, u "IOOBE_FORMATTER"), (41, u "(IILjava/util/function/BiFunction;)I")] 15

def k15m0 : Method := { name := "<init>", desc := "()V", sig := { parameters := [], returnType := none }, accessFlags := 1, code := none }
def k15c1 : Code := { maxStack := 3, maxLocals := 3, code := jdk_41_method_11_code, exceptionTable := #[], attributes := #[] }
def k15m1 : Method := { name := "checkIndex", desc := "(IILjava/util/function/BiFunction;)I", sig := { parameters := [.int, .int, (.object "java/util/function/BiFunction")], returnType := some .int }, accessFlags := 9, code := some k15c1 }
/-- jdk/internal/util/Preconditions -/
def k15 : Class := { plain "jdk/internal/util/Preconditions" (some 0) with
  accessFlags := 33
  interfaces := #[]
  cf := some (fileOf pool15 24 #[.nestMembers #[55, 131, 125, 114]] #[{ accessFlags := 1, nameIndex := 5, descriptorIndex := 6, attributes := #[] }, { accessFlags := 9, nameIndex := 33, descriptorIndex := 178, attributes := #[] }] 33 2 #[] #[{ accessFlags := 25, nameIndex := 123, descriptorIndex := 124, attributes := #[] }, { accessFlags := 25, nameIndex := 130, descriptorIndex := 124, attributes := #[] }, { accessFlags := 25, nameIndex := 136, descriptorIndex := 124, attributes := #[] }])
  fields := #[{ name := "SIOOBE_FORMATTER", type := (.object "java/util/function/BiFunction"), accessFlags := 25, slot := 0, constantValue := 0 }, { name := "AIOOBE_FORMATTER", type := (.object "java/util/function/BiFunction"), accessFlags := 25, slot := 1, constantValue := 0 }, { name := "IOOBE_FORMATTER", type := (.object "java/util/function/BiFunction"), accessFlags := 25, slot := 2, constantValue := 0 }]
  methods := #[k15m0, k15m1]
  instanceTypes := #[]
  staticTypes := #[(.object "java/util/function/BiFunction"), (.object "java/util/function/BiFunction"), (.object "java/util/function/BiFunction")]
  resolved := Array.replicate 194 none
  statics := some 1 }

def pool16 : Array CpInfo := pool [(9, u "<init>"), (6, .class_ 18), (1, u "java/lang/Object"), (0, u "()V"), (1, .class_ 23), (1, u "jdk/internal/util/ArraysSupport"), (0, u "LOG2_ARRAY_LONG_INDEX_SCALE"), (0, u "I"), (2, u "U"), (0, u "Ljdk/internal/misc/Unsafe;"), (8, u "BIG_ENDIAN"), (0, u "Z"), (8, u "LOG2_BYTE_BIT_SIZE"), (4, u "LOG2_ARRAY_INT_INDEX_SCALE"), (54, u "JLA"), (0, u "Ljdk/internal/access/JavaLangAccess;"), (11, u "LOG2_ARRAY_BOOLEAN_INDEX_SCALE"), (9, u "LOG2_ARRAY_BYTE_INDEX_SCALE"), (5, u "LOG2_ARRAY_CHAR_INDEX_SCALE"), (5, u "LOG2_ARRAY_SHORT_INDEX_SCALE"), (18, u "LOG2_ARRAY_FLOAT_INDEX_SCALE"), (24, u "LOG2_ARRAY_DOUBLE_INDEX_SCALE"), (89, u "T_BOOLEAN"), (2, u "T_CHAR"), (1, u "T_FLOAT"), (1, u "T_DOUBLE"), (1, u "T_BYTE"), (1, u "T_SHORT"), (1, u "T_INT"), (1, u "T_LONG"), (1, u "SOFT_MAX_ARRAY_LENGTH")] 83

def k16m0 : Method := { name := "<init>", desc := "()V", sig := { parameters := [], returnType := none }, accessFlags := 2, code := none }
/-- jdk/internal/util/ArraysSupport -/
def k16 : Class := { plain "jdk/internal/util/ArraysSupport" (some 0) with
  accessFlags := 33
  interfaces := #[]
  cf := some (fileOf pool16 21 #[] #[{ accessFlags := 2, nameIndex := 9, descriptorIndex := 19, attributes := #[] }] 33 16 #[] #[{ accessFlags := 24, nameIndex := 28, descriptorIndex := 29, attributes := #[] }, { accessFlags := 26, nameIndex := 38, descriptorIndex := 39, attributes := #[] }, { accessFlags := 25, nameIndex := 121, descriptorIndex := 25, attributes := #[] }, { accessFlags := 25, nameIndex := 131, descriptorIndex := 25, attributes := #[] }, { accessFlags := 25, nameIndex := 137, descriptorIndex := 25, attributes := #[] }, { accessFlags := 25, nameIndex := 143, descriptorIndex := 25, attributes := #[] }, { accessFlags := 25, nameIndex := 53, descriptorIndex := 25, attributes := #[] }, { accessFlags := 25, nameIndex := 24, descriptorIndex := 25, attributes := #[] }, { accessFlags := 25, nameIndex := 162, descriptorIndex := 25, attributes := #[] }, { accessFlags := 25, nameIndex := 187, descriptorIndex := 25, attributes := #[] }, { accessFlags := 26, nameIndex := 48, descriptorIndex := 25, attributes := #[] }, { accessFlags := 25, nameIndex := 277, descriptorIndex := 25, attributes := #[] }, { accessFlags := 25, nameIndex := 280, descriptorIndex := 25, attributes := #[] }, { accessFlags := 25, nameIndex := 282, descriptorIndex := 25, attributes := #[] }, { accessFlags := 25, nameIndex := 284, descriptorIndex := 25, attributes := #[] }, { accessFlags := 25, nameIndex := 286, descriptorIndex := 25, attributes := #[] }, { accessFlags := 25, nameIndex := 288, descriptorIndex := 25, attributes := #[] }, { accessFlags := 25, nameIndex := 290, descriptorIndex := 25, attributes := #[] }, { accessFlags := 25, nameIndex := 292, descriptorIndex := 25, attributes := #[] }, { accessFlags := 26, nameIndex := 108, descriptorIndex := 109, attributes := #[] }, { accessFlags := 25, nameIndex := 294, descriptorIndex := 25, attributes := #[] }])
  fields := #[{ name := "U", type := (.object "jdk/internal/misc/Unsafe"), accessFlags := 24, slot := 0, constantValue := 0 }, { name := "BIG_ENDIAN", type := .boolean, accessFlags := 26, slot := 1, constantValue := 0 }, { name := "LOG2_ARRAY_BOOLEAN_INDEX_SCALE", type := .int, accessFlags := 25, slot := 2, constantValue := 0 }, { name := "LOG2_ARRAY_BYTE_INDEX_SCALE", type := .int, accessFlags := 25, slot := 3, constantValue := 0 }, { name := "LOG2_ARRAY_CHAR_INDEX_SCALE", type := .int, accessFlags := 25, slot := 4, constantValue := 0 }, { name := "LOG2_ARRAY_SHORT_INDEX_SCALE", type := .int, accessFlags := 25, slot := 5, constantValue := 0 }, { name := "LOG2_ARRAY_INT_INDEX_SCALE", type := .int, accessFlags := 25, slot := 6, constantValue := 0 }, { name := "LOG2_ARRAY_LONG_INDEX_SCALE", type := .int, accessFlags := 25, slot := 7, constantValue := 0 }, { name := "LOG2_ARRAY_FLOAT_INDEX_SCALE", type := .int, accessFlags := 25, slot := 8, constantValue := 0 }, { name := "LOG2_ARRAY_DOUBLE_INDEX_SCALE", type := .int, accessFlags := 25, slot := 9, constantValue := 0 }, { name := "LOG2_BYTE_BIT_SIZE", type := .int, accessFlags := 26, slot := 10, constantValue := 0 }, { name := "T_BOOLEAN", type := .int, accessFlags := 25, slot := 11, constantValue := 0 }, { name := "T_CHAR", type := .int, accessFlags := 25, slot := 12, constantValue := 0 }, { name := "T_FLOAT", type := .int, accessFlags := 25, slot := 13, constantValue := 0 }, { name := "T_DOUBLE", type := .int, accessFlags := 25, slot := 14, constantValue := 0 }, { name := "T_BYTE", type := .int, accessFlags := 25, slot := 15, constantValue := 0 }, { name := "T_SHORT", type := .int, accessFlags := 25, slot := 16, constantValue := 0 }, { name := "T_INT", type := .int, accessFlags := 25, slot := 17, constantValue := 0 }, { name := "T_LONG", type := .int, accessFlags := 25, slot := 18, constantValue := 0 }, { name := "JLA", type := (.object "jdk/internal/access/JavaLangAccess"), accessFlags := 26, slot := 19, constantValue := 0 }, { name := "SOFT_MAX_ARRAY_LENGTH", type := .int, accessFlags := 25, slot := 20, constantValue := 0 }]
  methods := #[k16m0]
  instanceTypes := #[]
  staticTypes := #[(.object "jdk/internal/misc/Unsafe"), .boolean, .int, .int, .int, .int, .int, .int, .int, .int, .int, .int, .int, .int, .int, .int, .int, .int, .int, (.object "jdk/internal/access/JavaLangAccess"), .int]
  resolved := Array.replicate 378 none
  statics := none }

/-- the primitive byte -/
def k17 : Class := { plain "byte" none with kind := .primitive 'B', accessFlags := 0x411 }
/-- [B -/
def k18 : Class := { plain "[B" (some 0) with kind := .array 17 .byte, interfaces := #[13, 6], accessFlags := 1041 }

/-- the primitive int -/
def k19 : Class := { plain "int" none with kind := .primitive 'I', accessFlags := 0x411 }
/-- [I -/
def k20 : Class := { plain "[I" (some 0) with kind := .array 19 .int, interfaces := #[13, 6], accessFlags := 1041 }

def heap : Heap := #[{ cls := 11, slots := #[.long 0, .int 1, .null, .int 0, .null, .int 0, .int 0], vm := .statics 11 },
  { cls := 15, slots := #[.null, .null, .null], vm := .statics 15 }]
def classes : Array Class := #[k0, k1, k2, k3, k4, k5, k6, k7, k8, k9, k10, k11, k12, k13, k14, k15, k16, k17, k18, k19, k20]
def interned : List (Array UInt16 × Addr) := []
def slotsUsed : Nat := 10
def theMethod : MethodId := ⟨1, 1⟩
def args0 : Array Value := #[.int 5, .long 7, .long 3]
def aboutOver (below : List Frame) : State where
  vm := { classes := classes, interned := interned.toArray }
  heap := heap
  slotsUsed := slotsUsed
  threads := #[{ frames := .invoking theMethod args0 :: below }]
def below0 : List Frame := [.native { method := ⟨0, 0⟩, args := #[] }]
def about1 : State := aboutOver below0
def p0 : Program := .bare "" "" ""
def e0 : Env := launch0.env 0 0 0
theorem w_frames : about1.frames = Frame.invoking theMethod args0 :: below0 := rfl
set_option maxRecDepth 65536 in
theorem w_args : argsFit about1.vm theMethod args0 = true := by decide +kernel
set_option maxRecDepth 65536 in
theorem w_heap : heapFits about1 = true := by decide +kernel
set_option maxRecDepth 65536 in
theorem w_runnable : about1.curStatus? = some .runnable := by decide +kernel
set_option maxRecDepth 65536 in
theorem w_alone : about1.alone = true := by decide +kernel
set_option maxRecDepth 65536 in
theorem w_named : about1.methodNamed? x = some theMethod := by decide +kernel
set_option maxRecDepth 65536 in
theorem w_hears : about1.hears theMethod below0 = true := by decide +kernel
set_option maxRecDepth 65536 in
theorem w_ripe : about1.ripe theMethod args0 below0 = true := by decide +kernel
theorem w_running : about1.status = .running := rfl
set_option maxRecDepth 65536 in
theorem w_room : about1.hasRoom e0.platform room_1 = true :=
  launch0.hasRoom_least _ room_1 (by decide +kernel) (by decide +kernel) (by decide +kernel) (by decide +kernel) (by decide +kernel) (by decide +kernel)
theorem allAtoms_all (ts : List Jvm.Cond) (a : Array Jvm.Value) (st : Jvm.State) : (allAtoms ts).before a st = ts.all (fun c => c.before a st) := by
  induction ts with
  | nil => rfl
  | cons c t ih =>
    show (Jvm.Cond.and c (allAtoms t)).before a st = _
    rw [Jvm.Cond.before_and, ih, List.all_cons]
def words1 : List Jvm.Cond := Jvm.Cond.code x code maxLocals ret :: tables_1
/-- a 'code' word, met by the world's own term for the bytes: nothing is compared byte by byte -/
theorem code_word {y : MethodName} {bytes : ByteArray} {mx : Nat} {rt : Option FieldType} {a : Array Value} {s : State} {m : MethodId} {meth : Method} {c : Code} (h1 : s.methodNamed? y = some m) (h2 : s.vm.method? m = some meth) (h3 : meth.code = some c) (h4 : c.code = bytes)
    (h5 : (c.maxLocals == mx && c.exceptionTable.isEmpty && decide (c.maxStack ≤ mostOperands) && decide (meth.sig.returnType = rt) && !meth.locks && decide (parseMethodDescriptor y.desc = some meth.sig)) = true) : (Jvm.Cond.code y bytes mx rt).before a s = true := by
  simp only [Bool.and_eq_true, beq_iff_eq, Bool.not_eq_true', decide_eq_true_eq] at h5
  obtain ⟨⟨⟨⟨⟨g1, g2⟩, g3⟩, g4⟩, g5⟩, g6⟩ := h5
  simp [Cond.before, Cond.holds, Cond.value, h1, h2, h3, h4, g1, g2, g3, g4, g5, g6]
def isCode : Jvm.Cond → Bool
  | .code _ _ _ _ => true
  | _ => false
theorem all_split {L : List Jvm.Cond} {P : Jvm.Cond → Bool} (h1 : L.all (fun c => isCode c || P c) = true) (h2 : ∀ c ∈ L.filter isCode, P c = true) : L.all P = true := by
  refine List.all_eq_true.mpr fun c hc => ?_
  have h := List.all_eq_true.mp h1 c hc
  rcases Bool.eq_false_or_eq_true (isCode c) with hi | hi
  · exact h2 c (List.mem_filter.mpr ⟨hc, hi⟩)
  · simpa [hi] using h
set_option maxRecDepth 65536 in
theorem w_c0 : (Jvm.Cond.code x code maxLocals ret).before args0 about1 = true := code_word (m := ⟨1, 1⟩) (meth := k1m1) (c := k1c1) (by decide +kernel) rfl rfl rfl (by decide +kernel)
set_option maxRecDepth 65536 in
theorem w_c1 : (Jvm.Cond.code ({ cls := "com/example/mavs/mavs/activation/Base32", name := "encode", desc := "([B)Ljava/lang/String;" } : Jvm.MethodName) prog_3_method_2_code (8 : Nat) (Option.some (Jvm.ClassFile.FieldType.object "java/lang/String"))).before args0 about1 = true := code_word (m := ⟨2, 1⟩) (meth := k2m1) (c := k2c1) (by decide +kernel) rfl rfl rfl (by decide +kernel)
set_option maxRecDepth 65536 in
theorem w_c2 : (Jvm.Cond.code ({ cls := "java/lang/StringBuilder", name := "<init>", desc := "(I)V" } : Jvm.MethodName) jdk_67_method_2_code (2 : Nat) (Option.none : Option Jvm.ClassFile.FieldType)).before args0 about1 = true := code_word (m := ⟨8, 1⟩) (meth := k8m1) (c := k8c1) (by decide +kernel) rfl rfl rfl (by decide +kernel)
set_option maxRecDepth 65536 in
theorem w_c3 : (Jvm.Cond.code ({ cls := "java/lang/AbstractStringBuilder", name := "<init>", desc := "(I)V" } : Jvm.MethodName) jdk_68_method_2_code (2 : Nat) (Option.none : Option Jvm.ClassFile.FieldType)).before args0 about1 = true := code_word (m := ⟨5, 1⟩) (meth := k5m1) (c := k5c1) (by decide +kernel) rfl rfl rfl (by decide +kernel)
set_option maxRecDepth 65536 in
theorem w_c4 : (Jvm.Cond.code ({ cls := "java/lang/Object", name := "<init>", desc := "()V" } : Jvm.MethodName) object_method_1_code (1 : Nat) (Option.none : Option Jvm.ClassFile.FieldType)).before args0 about1 = true := code_word (m := ⟨0, 0⟩) (meth := k0m0) (c := k0c0) (by decide +kernel) rfl rfl rfl (by decide +kernel)
set_option maxRecDepth 65536 in
theorem w_c5 : (Jvm.Cond.code ({ cls := "java/lang/StringBuilder", name := "toString", desc := "()Ljava/lang/String;" } : Jvm.MethodName) jdk_67_method_42_code (1 : Nat) (Option.some (Jvm.ClassFile.FieldType.object "java/lang/String"))).before args0 about1 = true := code_word (m := ⟨8, 3⟩) (meth := k8m3) (c := k8c3) (by decide +kernel) rfl rfl rfl (by decide +kernel)
set_option maxRecDepth 65536 in
theorem w_c6 : (Jvm.Cond.code ({ cls := "java/lang/String", name := "<init>", desc := "(Ljava/lang/StringBuilder;)V" } : Jvm.MethodName) jdk_42_method_53_code (2 : Nat) (Option.none : Option Jvm.ClassFile.FieldType)).before args0 about1 = true := code_word (m := ⟨11, 1⟩) (meth := k11m1) (c := k11c1) (by decide +kernel) rfl rfl rfl (by decide +kernel)
set_option maxRecDepth 65536 in
theorem w_c7 : (Jvm.Cond.code ({ cls := "java/lang/String", name := "<init>", desc := "(Ljava/lang/AbstractStringBuilder;Ljava/lang/Void;)V" } : Jvm.MethodName) jdk_42_method_150_code (5 : Nat) (Option.none : Option Jvm.ClassFile.FieldType)).before args0 about1 = true := code_word (m := ⟨11, 4⟩) (meth := k11m4) (c := k11c4) (by decide +kernel) rfl rfl rfl (by decide +kernel)
set_option maxRecDepth 65536 in
theorem w_c8 : (Jvm.Cond.code ({ cls := "java/lang/AbstractStringBuilder", name := "getValue", desc := "()[B" } : Jvm.MethodName) jdk_68_method_64_code (1 : Nat) (Option.some (Jvm.ClassFile.FieldType.array Jvm.ClassFile.FieldType.byte))).before args0 about1 = true := code_word (m := ⟨5, 5⟩) (meth := k5m5) (c := k5c5) (by decide +kernel) rfl rfl rfl (by decide +kernel)
set_option maxRecDepth 65536 in
theorem w_c9 : (Jvm.Cond.code ({ cls := "java/lang/StringBuilder", name := "length", desc := "()I" } : Jvm.MethodName) jdk_67_method_93_code (1 : Nat) (Option.some Jvm.ClassFile.FieldType.int)).before args0 about1 = true := code_word (m := ⟨8, 4⟩) (meth := k8m4) (c := k8c4) (by decide +kernel) rfl rfl rfl (by decide +kernel)
set_option maxRecDepth 65536 in
theorem w_c10 : (Jvm.Cond.code ({ cls := "java/lang/AbstractStringBuilder", name := "length", desc := "()I" } : Jvm.MethodName) jdk_68_method_6_code (1 : Nat) (Option.some Jvm.ClassFile.FieldType.int)).before args0 about1 = true := code_word (m := ⟨5, 2⟩) (meth := k5m2) (c := k5c2) (by decide +kernel) rfl rfl rfl (by decide +kernel)
set_option maxRecDepth 65536 in
theorem w_c11 : (Jvm.Cond.code ({ cls := "java/lang/AbstractStringBuilder", name := "isLatin1", desc := "()Z" } : Jvm.MethodName) jdk_68_method_68_code (1 : Nat) (Option.some Jvm.ClassFile.FieldType.boolean)).before args0 about1 = true := code_word (m := ⟨5, 6⟩) (meth := k5m6) (c := k5c6) (by decide +kernel) rfl rfl rfl (by decide +kernel)
set_option maxRecDepth 65536 in
theorem w_c12 : (Jvm.Cond.code ({ cls := "java/util/Arrays", name := "copyOfRange", desc := "([BII)[B" } : Jvm.MethodName) jdk_65_method_132_code (3 : Nat) (Option.some (Jvm.ClassFile.FieldType.array Jvm.ClassFile.FieldType.byte))).before args0 about1 = true := code_word (m := ⟨12, 1⟩) (meth := k12m1) (c := k12c1) (by decide +kernel) rfl rfl rfl (by decide +kernel)
set_option maxRecDepth 65536 in
theorem w_c13 : (Jvm.Cond.code ({ cls := "com/example/mavs/mavs/activation/Base32EncodePinLaw", name := "group", desc := "(JJII)J" } : Jvm.MethodName) method_5_code (6 : Nat) (Option.some Jvm.ClassFile.FieldType.long)).before args0 about1 = true := code_word (m := ⟨1, 4⟩) (meth := k1m4) (c := k1c4) (by decide +kernel) rfl rfl rfl (by decide +kernel)
set_option maxRecDepth 65536 in
theorem w_c14 : (Jvm.Cond.code ({ cls := "com/example/mavs/mavs/activation/Base32EncodePinLaw", name := "byteAt", desc := "(JJII)J" } : Jvm.MethodName) method_4_code (6 : Nat) (Option.some Jvm.ClassFile.FieldType.long)).before args0 about1 = true := code_word (m := ⟨1, 3⟩) (meth := k1m3) (c := k1c3) (by decide +kernel) rfl rfl rfl (by decide +kernel)
set_option maxRecDepth 65536 in
theorem w_c15 : (Jvm.Cond.code ({ cls := "java/lang/String", name := "length", desc := "()I" } : Jvm.MethodName) jdk_42_method_54_code (1 : Nat) (Option.some Jvm.ClassFile.FieldType.int)).before args0 about1 = true := code_word (m := ⟨11, 2⟩) (meth := k11m2) (c := k11c2) (by decide +kernel) rfl rfl rfl (by decide +kernel)
set_option maxRecDepth 65536 in
theorem w_c16 : (Jvm.Cond.code ({ cls := "java/lang/String", name := "coder", desc := "()B" } : Jvm.MethodName) jdk_42_method_152_code (1 : Nat) (Option.some Jvm.ClassFile.FieldType.byte)).before args0 about1 = true := code_word (m := ⟨11, 5⟩) (meth := k11m5) (c := k11c5) (by decide +kernel) rfl rfl rfl (by decide +kernel)
set_option maxRecDepth 65536 in
theorem w_c17 : (Jvm.Cond.code ({ cls := "com/example/mavs/mavs/activation/Base32EncodePinLaw", name := "at", desc := "(Ljava/lang/String;IJJ)Z" } : Jvm.MethodName) method_7_code (10 : Nat) (Option.some Jvm.ClassFile.FieldType.boolean)).before args0 about1 = true := code_word (m := ⟨1, 6⟩) (meth := k1m6) (c := k1c6) (by decide +kernel) rfl rfl rfl (by decide +kernel)
set_option maxRecDepth 65536 in
theorem w_c18 : (Jvm.Cond.code ({ cls := "com/example/mavs/mavs/activation/Base32EncodePinLaw", name := "rawByte", desc := "(JJI)I" } : Jvm.MethodName) method_3_code (8 : Nat) (Option.some Jvm.ClassFile.FieldType.int)).before args0 about1 = true := code_word (m := ⟨1, 2⟩) (meth := k1m2) (c := k1c2) (by decide +kernel) rfl rfl rfl (by decide +kernel)
set_option maxRecDepth 65536 in
theorem w_c19 : (Jvm.Cond.code ({ cls := "java/lang/String", name := "charAt", desc := "(I)C" } : Jvm.MethodName) jdk_42_method_56_code (2 : Nat) (Option.some Jvm.ClassFile.FieldType.char)).before args0 about1 = true := code_word (m := ⟨11, 3⟩) (meth := k11m3) (c := k11c3) (by decide +kernel) rfl rfl rfl (by decide +kernel)
set_option maxRecDepth 65536 in
theorem w_c20 : (Jvm.Cond.code ({ cls := "java/lang/String", name := "isLatin1", desc := "()Z" } : Jvm.MethodName) jdk_42_method_154_code (1 : Nat) (Option.some Jvm.ClassFile.FieldType.boolean)).before args0 about1 = true := code_word (m := ⟨11, 6⟩) (meth := k11m6) (c := k11c6) (by decide +kernel) rfl rfl rfl (by decide +kernel)
set_option maxRecDepth 65536 in
theorem w_c21 : (Jvm.Cond.code ({ cls := "java/lang/StringLatin1", name := "charAt", desc := "([BI)C" } : Jvm.MethodName) jdk_43_method_2_code (2 : Nat) (Option.some Jvm.ClassFile.FieldType.char)).before args0 about1 = true := code_word (m := ⟨14, 1⟩) (meth := k14m1) (c := k14c1) (by decide +kernel) rfl rfl rfl (by decide +kernel)
set_option maxRecDepth 65536 in
theorem w_c22 : (Jvm.Cond.code ({ cls := "java/lang/String", name := "checkIndex", desc := "(II)V" } : Jvm.MethodName) jdk_42_method_155_code (2 : Nat) (Option.none : Option Jvm.ClassFile.FieldType)).before args0 about1 = true := code_word (m := ⟨11, 7⟩) (meth := k11m7) (c := k11c7) (by decide +kernel) rfl rfl rfl (by decide +kernel)
set_option maxRecDepth 65536 in
theorem w_c23 : (Jvm.Cond.code ({ cls := "jdk/internal/util/Preconditions", name := "checkIndex", desc := "(IILjava/util/function/BiFunction;)I" } : Jvm.MethodName) jdk_41_method_11_code (3 : Nat) (Option.some Jvm.ClassFile.FieldType.int)).before args0 about1 = true := code_word (m := ⟨15, 1⟩) (meth := k15m1) (c := k15c1) (by decide +kernel) rfl rfl rfl (by decide +kernel)
set_option maxRecDepth 65536 in
theorem w_c24 : (Jvm.Cond.code ({ cls := "java/lang/StringBuilder", name := "append", desc := "(C)Ljava/lang/StringBuilder;" } : Jvm.MethodName) jdk_67_method_14_code (2 : Nat) (Option.some (Jvm.ClassFile.FieldType.object "java/lang/StringBuilder"))).before args0 about1 = true := code_word (m := ⟨8, 2⟩) (meth := k8m2) (c := k8c2) (by decide +kernel) rfl rfl rfl (by decide +kernel)
set_option maxRecDepth 65536 in
theorem w_c25 : (Jvm.Cond.code ({ cls := "java/lang/AbstractStringBuilder", name := "append", desc := "(C)Ljava/lang/AbstractStringBuilder;" } : Jvm.MethodName) jdk_68_method_31_code (2 : Nat) (Option.some (Jvm.ClassFile.FieldType.object "java/lang/AbstractStringBuilder"))).before args0 about1 = true := code_word (m := ⟨5, 4⟩) (meth := k5m4) (c := k5c4) (by decide +kernel) rfl rfl rfl (by decide +kernel)
set_option maxRecDepth 65536 in
theorem w_c26 : (Jvm.Cond.code ({ cls := "java/lang/AbstractStringBuilder", name := "ensureCapacityInternal", desc := "(I)V" } : Jvm.MethodName) jdk_68_method_9_code (3 : Nat) (Option.none : Option Jvm.ClassFile.FieldType)).before args0 about1 = true := code_word (m := ⟨5, 3⟩) (meth := k5m3) (c := k5c3) (by decide +kernel) rfl rfl rfl (by decide +kernel)
set_option maxRecDepth 65536 in
theorem w_c27 : (Jvm.Cond.code ({ cls := "java/lang/StringLatin1", name := "canEncode", desc := "(C)Z" } : Jvm.MethodName) jdk_43_method_3_code (1 : Nat) (Option.some Jvm.ClassFile.FieldType.boolean)).before args0 about1 = true := code_word (m := ⟨14, 2⟩) (meth := k14m2) (c := k14c2) (by decide +kernel) rfl rfl rfl (by decide +kernel)
set_option maxRecDepth 65536 in
theorem w_c28 : (Jvm.Cond.code ({ cls := "com/example/mavs/mavs/activation/Base32EncodePinLaw", name := "alpha", desc := "(I)C" } : Jvm.MethodName) method_6_code (1 : Nat) (Option.some Jvm.ClassFile.FieldType.char)).before args0 about1 = true := code_word (m := ⟨1, 5⟩) (meth := k1m5) (c := k1c5) (by decide +kernel) rfl rfl rfl (by decide +kernel)
def codes1 : List Jvm.Cond := [Jvm.Cond.code x code maxLocals ret, Jvm.Cond.code ({ cls := "com/example/mavs/mavs/activation/Base32", name := "encode", desc := "([B)Ljava/lang/String;" } : Jvm.MethodName) prog_3_method_2_code (8 : Nat) (Option.some (Jvm.ClassFile.FieldType.object "java/lang/String")), Jvm.Cond.code ({ cls := "java/lang/StringBuilder", name := "<init>", desc := "(I)V" } : Jvm.MethodName) jdk_67_method_2_code (2 : Nat) (Option.none : Option Jvm.ClassFile.FieldType), Jvm.Cond.code ({ cls := "java/lang/AbstractStringBuilder", name := "<init>", desc := "(I)V" } : Jvm.MethodName) jdk_68_method_2_code (2 : Nat) (Option.none : Option Jvm.ClassFile.FieldType), Jvm.Cond.code ({ cls := "java/lang/Object", name := "<init>", desc := "()V" } : Jvm.MethodName) object_method_1_code (1 : Nat) (Option.none : Option Jvm.ClassFile.FieldType), Jvm.Cond.code ({ cls := "java/lang/StringBuilder", name := "toString", desc := "()Ljava/lang/String;" } : Jvm.MethodName) jdk_67_method_42_code (1 : Nat) (Option.some (Jvm.ClassFile.FieldType.object "java/lang/String")), Jvm.Cond.code ({ cls := "java/lang/String", name := "<init>", desc := "(Ljava/lang/StringBuilder;)V" } : Jvm.MethodName) jdk_42_method_53_code (2 : Nat) (Option.none : Option Jvm.ClassFile.FieldType), Jvm.Cond.code ({ cls := "java/lang/String", name := "<init>", desc := "(Ljava/lang/AbstractStringBuilder;Ljava/lang/Void;)V" } : Jvm.MethodName) jdk_42_method_150_code (5 : Nat) (Option.none : Option Jvm.ClassFile.FieldType), Jvm.Cond.code ({ cls := "java/lang/AbstractStringBuilder", name := "getValue", desc := "()[B" } : Jvm.MethodName) jdk_68_method_64_code (1 : Nat) (Option.some (Jvm.ClassFile.FieldType.array Jvm.ClassFile.FieldType.byte)), Jvm.Cond.code ({ cls := "java/lang/StringBuilder", name := "length", desc := "()I" } : Jvm.MethodName) jdk_67_method_93_code (1 : Nat) (Option.some Jvm.ClassFile.FieldType.int), Jvm.Cond.code ({ cls := "java/lang/AbstractStringBuilder", name := "length", desc := "()I" } : Jvm.MethodName) jdk_68_method_6_code (1 : Nat) (Option.some Jvm.ClassFile.FieldType.int), Jvm.Cond.code ({ cls := "java/lang/AbstractStringBuilder", name := "isLatin1", desc := "()Z" } : Jvm.MethodName) jdk_68_method_68_code (1 : Nat) (Option.some Jvm.ClassFile.FieldType.boolean), Jvm.Cond.code ({ cls := "java/util/Arrays", name := "copyOfRange", desc := "([BII)[B" } : Jvm.MethodName) jdk_65_method_132_code (3 : Nat) (Option.some (Jvm.ClassFile.FieldType.array Jvm.ClassFile.FieldType.byte)), Jvm.Cond.code ({ cls := "com/example/mavs/mavs/activation/Base32EncodePinLaw", name := "group", desc := "(JJII)J" } : Jvm.MethodName) method_5_code (6 : Nat) (Option.some Jvm.ClassFile.FieldType.long), Jvm.Cond.code ({ cls := "com/example/mavs/mavs/activation/Base32EncodePinLaw", name := "byteAt", desc := "(JJII)J" } : Jvm.MethodName) method_4_code (6 : Nat) (Option.some Jvm.ClassFile.FieldType.long), Jvm.Cond.code ({ cls := "java/lang/String", name := "length", desc := "()I" } : Jvm.MethodName) jdk_42_method_54_code (1 : Nat) (Option.some Jvm.ClassFile.FieldType.int), Jvm.Cond.code ({ cls := "java/lang/String", name := "coder", desc := "()B" } : Jvm.MethodName) jdk_42_method_152_code (1 : Nat) (Option.some Jvm.ClassFile.FieldType.byte), Jvm.Cond.code ({ cls := "com/example/mavs/mavs/activation/Base32EncodePinLaw", name := "at", desc := "(Ljava/lang/String;IJJ)Z" } : Jvm.MethodName) method_7_code (10 : Nat) (Option.some Jvm.ClassFile.FieldType.boolean), Jvm.Cond.code ({ cls := "com/example/mavs/mavs/activation/Base32EncodePinLaw", name := "rawByte", desc := "(JJI)I" } : Jvm.MethodName) method_3_code (8 : Nat) (Option.some Jvm.ClassFile.FieldType.int), Jvm.Cond.code ({ cls := "java/lang/String", name := "charAt", desc := "(I)C" } : Jvm.MethodName) jdk_42_method_56_code (2 : Nat) (Option.some Jvm.ClassFile.FieldType.char), Jvm.Cond.code ({ cls := "java/lang/String", name := "isLatin1", desc := "()Z" } : Jvm.MethodName) jdk_42_method_154_code (1 : Nat) (Option.some Jvm.ClassFile.FieldType.boolean), Jvm.Cond.code ({ cls := "java/lang/StringLatin1", name := "charAt", desc := "([BI)C" } : Jvm.MethodName) jdk_43_method_2_code (2 : Nat) (Option.some Jvm.ClassFile.FieldType.char), Jvm.Cond.code ({ cls := "java/lang/String", name := "checkIndex", desc := "(II)V" } : Jvm.MethodName) jdk_42_method_155_code (2 : Nat) (Option.none : Option Jvm.ClassFile.FieldType), Jvm.Cond.code ({ cls := "jdk/internal/util/Preconditions", name := "checkIndex", desc := "(IILjava/util/function/BiFunction;)I" } : Jvm.MethodName) jdk_41_method_11_code (3 : Nat) (Option.some Jvm.ClassFile.FieldType.int), Jvm.Cond.code ({ cls := "java/lang/StringBuilder", name := "append", desc := "(C)Ljava/lang/StringBuilder;" } : Jvm.MethodName) jdk_67_method_14_code (2 : Nat) (Option.some (Jvm.ClassFile.FieldType.object "java/lang/StringBuilder")), Jvm.Cond.code ({ cls := "java/lang/AbstractStringBuilder", name := "append", desc := "(C)Ljava/lang/AbstractStringBuilder;" } : Jvm.MethodName) jdk_68_method_31_code (2 : Nat) (Option.some (Jvm.ClassFile.FieldType.object "java/lang/AbstractStringBuilder")), Jvm.Cond.code ({ cls := "java/lang/AbstractStringBuilder", name := "ensureCapacityInternal", desc := "(I)V" } : Jvm.MethodName) jdk_68_method_9_code (3 : Nat) (Option.none : Option Jvm.ClassFile.FieldType), Jvm.Cond.code ({ cls := "java/lang/StringLatin1", name := "canEncode", desc := "(C)Z" } : Jvm.MethodName) jdk_43_method_3_code (1 : Nat) (Option.some Jvm.ClassFile.FieldType.boolean), Jvm.Cond.code ({ cls := "com/example/mavs/mavs/activation/Base32EncodePinLaw", name := "alpha", desc := "(I)C" } : Jvm.MethodName) method_6_code (1 : Nat) (Option.some Jvm.ClassFile.FieldType.char)]
set_option maxRecDepth 65536 in
theorem codes_eq : words1.filter isCode = codes1 := rfl
theorem w_codes : ∀ c ∈ words1.filter isCode, c.before args0 about1 = true := by
  rw [codes_eq]
  intro c hc
  simp only [codes1, List.mem_cons, List.not_mem_nil, or_false] at hc
  rcases hc with rfl | rfl | rfl | rfl | rfl | rfl | rfl | rfl | rfl | rfl | rfl | rfl | rfl | rfl | rfl | rfl | rfl | rfl | rfl | rfl | rfl | rfl | rfl | rfl | rfl | rfl | rfl | rfl | rfl
  · exact w_c0
  · exact w_c1
  · exact w_c2
  · exact w_c3
  · exact w_c4
  · exact w_c5
  · exact w_c6
  · exact w_c7
  · exact w_c8
  · exact w_c9
  · exact w_c10
  · exact w_c11
  · exact w_c12
  · exact w_c13
  · exact w_c14
  · exact w_c15
  · exact w_c16
  · exact w_c17
  · exact w_c18
  · exact w_c19
  · exact w_c20
  · exact w_c21
  · exact w_c22
  · exact w_c23
  · exact w_c24
  · exact w_c25
  · exact w_c26
  · exact w_c27
  · exact w_c28
set_option maxRecDepth 65536 in
theorem w_t1 : (words1.take 24).all (fun c => isCode c || c.before args0 about1) = true := by decide +kernel
set_option maxRecDepth 65536 in
theorem w_t2 : ((words1.drop 24).take 24).all (fun c => isCode c || c.before args0 about1) = true := by decide +kernel
set_option maxRecDepth 65536 in
theorem w_t3 : (((words1.drop 24).drop 24).take 24).all (fun c => isCode c || c.before args0 about1) = true := by decide +kernel
set_option maxRecDepth 65536 in
theorem w_t4 : ((((words1.drop 24).drop 24).drop 24).take 24).all (fun c => isCode c || c.before args0 about1) = true := by decide +kernel
set_option maxRecDepth 65536 in
theorem w_t5 : (((((words1.drop 24).drop 24).drop 24).drop 24).take 24).all (fun c => isCode c || c.before args0 about1) = true := by decide +kernel
set_option maxRecDepth 65536 in
theorem w_t6 : ((((((words1.drop 24).drop 24).drop 24).drop 24).drop 24).take 24).all (fun c => isCode c || c.before args0 about1) = true := by decide +kernel
set_option maxRecDepth 65536 in
theorem w_t7 : ((((((words1.drop 24).drop 24).drop 24).drop 24).drop 24).drop 24).all (fun c => isCode c || c.before args0 about1) = true := by decide +kernel
theorem w_tables : (allAtoms (Jvm.Cond.code x code maxLocals ret :: tables_1)).before args0 about1 = true := by
  rw [allAtoms_all]
  show words1.all (fun c => c.before args0 about1) = true
  refine all_split ?_ w_codes
  rw [← List.take_append_drop 24 words1, List.all_append, w_t1, ← List.take_append_drop 24 (words1.drop 24), List.all_append, w_t2, ← List.take_append_drop 24 ((words1.drop 24).drop 24), List.all_append, w_t3, ← List.take_append_drop 24 (((words1.drop 24).drop 24).drop 24), List.all_append, w_t4, ← List.take_append_drop 24 ((((words1.drop 24).drop 24).drop 24).drop 24), List.all_append, w_t5, ← List.take_append_drop 24 (((((words1.drop 24).drop 24).drop 24).drop 24).drop 24), List.all_append, w_t6, w_t7]
  rfl
set_option maxRecDepth 65536 in
theorem w_rest : rest_1_c.before args0 about1 = true := by decide +kernel
set_option maxRecDepth 65536 in
theorem w_case : (Jvm.Cond.and given_1 narrow_1).before args0 about1 = true := by decide +kernel
set_option maxRecDepth 65536 in
theorem w_consts : constsHeld consts_1 about1 := Jvm.Lit.constsHeldB_iff.mp (by decide +kernel)
theorem w_applies : (headSpec (Jvm.Cond.code x code maxLocals ret :: tables_1) room_1).applies x e0.platform about1 = true :=
  (Spec.applies_iff w_frames).mpr ⟨w_running, w_runnable, w_alone, w_named, w_hears, w_ripe, w_room, w_tables⟩
theorem atStart : AtStart classFile x code maxLocals ret World_1 tables_1 room_1 Calls_1 rest_1 Pre_1 launch0 p0 e0 about1 theMethod args0 below0 :=
  ⟨lists_1, trivial, launch0.admits_env _ _ _, launch0.least_env, fairChoices_fair.cas, fairChoices_fair.clock, w_frames, w_args, w_heap, w_applies, ⟨w_consts, trivial⟩, w_rest, w_case⟩
end start1
theorem witness_1 : WitnessClaimed_1 := ⟨start1.p0, start1.e0, start1.about1, start1.theMethod, start1.args0, start1.below0, start1.atStart⟩
end Jvm.Pilot.@@N@@
