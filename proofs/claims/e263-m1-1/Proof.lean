import JvmDerived
import JvmDerived.Pilot.@@N@@Statement
import JvmDerived.Pilot.@@N@@Code
set_option linter.unusedVariables false
set_option linter.unusedSimpArgs false
namespace Jvm.RoadKit
open Sem ClassFile Op Lib Jvm.Stand Jvm.Free Jvm.LawKit
section New
variable {p : Program} {l : Launch} {e : Env} {R : Room} {s : State} {m : MethodId} {args : Array Value} {below : List Frame} {meth : Method} {c : Code} {T : State} {locs : List Loc} {cells slots : Nat}
theorem retI (X : Stand p l e R s m args below meth c T locs cells slots) (hx : p.tables.exec = Jvm.exec) {pc : Nat} {Ls : Array Slot} {z : Int32} {rest : List Value} (hret : meth.sig.returnType = some .int) (hd : decode c.code pc = .ok (.ireturn, 1)) {fs : List Frame}
    (hl : ∀ (f : JFrame) (acts : List Action), f.method = m → f.locked = none → f.entered = [] → (doReturn e (T.setTop f) acts (some (.int z))).1 = T.setFrames fs) : Steps p.tables e below (T.setTop (mkF m pc Ls (.int z :: rest))) (T.setFrames fs) := by
  have hm' : T.vm.method? m = some meth := X.method'
  have hn : narrow .int (.int z) = .int z := rfl
  show Steps p.tables e below (T.setTop { method := m, pc := pc, locals := Ls, stack := _ :: rest, locked := none }) _
  jvm_step X.here [X.here.top, hx, hd, hm', hret, hn]
  first | (intro acts; rw [hl _ acts rfl rfl rfl]) | rw [hl _ _ rfl rfl rfl]
  exact Steps.refl _
end New
end Jvm.RoadKit
namespace Jvm.Pilot.@@N@@
open Jvm Jvm.ClassFile Sem Op Lib Jvm.Free Jvm.Stand Jvm.LawKit Jvm.RoadKit Bundle Jvm.Pilot.@@N@@.Jvm.D

theorem pd_0 : parseMethodDescriptor "([BII)J" = some ⟨[(.array .byte), .int, .int], some .long⟩ := by decide +kernel
theorem pd_1 : parseMethodDescriptor "(J)I" = some ⟨[.long], some .int⟩ := by decide +kernel
def own_sh (x b : Int32) : Int32 := ((x <<< ((8 : Int32) &&& 31)) ||| b)
def own_ln (n d2 d3 d4 d5 : Int32) : Int32 := (if ((0 : Int32) + (1 : Int32)) < n then (if (((0 : Int32) + (1 : Int32)) + (1 : Int32)) < n then (if ((((0 : Int32) + (1 : Int32)) + (1 : Int32)) + (1 : Int32)) < n then (own_sh (own_sh (own_sh (own_sh (0 : Int32) d2) d3) d4) d5) else (own_sh (own_sh (own_sh (0 : Int32) d2) d3) d4)) else (own_sh (own_sh (0 : Int32) d2) d3)) else (own_sh (0 : Int32) d2))
def own_pack (id hl len : Int32) : Int64 := (((id.toInt64) <<< ((40 : Int32) &&& 0x3f).toInt64) ||| ((hl.toInt64) <<< ((32 : Int32) &&& 0x3f).toInt64)) ||| ((len.toInt64) &&& (4294967295 : Int64))
def own_fin (at1 lim id hl len : Int32) : Int64 := if ((lim - at1) - hl) < len then (-1 : Int64) else own_pack id hl len
def own_pm (at1 lim id fi d2 d3 d4 d5 : Int32) : Int64 :=
  if (lim - at1) < (2 : Int32) then (-1 : Int64) else if (id &&& (31 : Int32)) = (31 : Int32) then (-1 : Int64) else if (id &&& (223 : Int32)) = (0 : Int32) then (-1 : Int64) else
  if fi < (128 : Int32) then own_fin at1 lim id (2 : Int32) fi else
  if (fi &&& (127 : Int32)) = (0 : Int32) then (-1 : Int64) else if (4 : Int32) < (fi &&& (127 : Int32)) then (-1 : Int64) else if ((lim - at1) - (2 : Int32)) < (fi &&& (127 : Int32)) then (-1 : Int64) else
  if (own_ln (fi &&& (127 : Int32)) d2 d3 d4 d5) < (0 : Int32) then (-1 : Int64) else own_fin at1 lim id ((2 : Int32) + (fi &&& (127 : Int32))) (own_ln (fi &&& (127 : Int32)) d2 d3 d4 d5)
def own_ph (at1 lim b0 b1 b2 b3 b4 b5 : Int32) : Int64 := own_pm at1 lim (b0 &&& (255 : Int32)) (b1 &&& (255 : Int32)) (b2 &&& (255 : Int32)) (b3 &&& (255 : Int32)) (b4 &&& (255 : Int32)) (b5 &&& (255 : Int32))
def own_bb (w : Int64) : Nat → Int32
  | 0 => nar .byte ((w.toInt32).toInt8.toInt32)
  | 1 => nar .byte ((((w.toUInt64 >>> ((8 : Int32) &&& 0x3f).toInt64.toUInt64).toInt64).toInt32).toInt8.toInt32)
  | 2 => nar .byte ((((w.toUInt64 >>> ((16 : Int32) &&& 0x3f).toInt64.toUInt64).toInt64).toInt32).toInt8.toInt32)
  | 3 => nar .byte ((((w.toUInt64 >>> ((24 : Int32) &&& 0x3f).toInt64.toUInt64).toInt64).toInt32).toInt8.toInt32)
  | 4 => nar .byte ((((w.toUInt64 >>> ((32 : Int32) &&& 0x3f).toInt64.toUInt64).toInt64).toInt32).toInt8.toInt32)
  | 5 => nar .byte ((((w.toUInt64 >>> ((40 : Int32) &&& 0x3f).toInt64.toUInt64).toInt64).toInt32).toInt8.toInt32)
  | _ => 0
theorem own_at7 {x a : Int32} (h : a = x &&& (7 : Int32)) : 0 ≤ a.toInt ∧ a.toInt ≤ 7 := by
  have e := c_mask x 7 3 (by decide) (by decide)
  rw [← h] at e; omega
theorem own_ixn {a i : Int32} {n : Nat} (H7 : 0 ≤ a.toInt ∧ a.toInt ≤ 7) (e : i.toInt = n) (hn : n < 100) : (a + i).toInt = a.toInt + n := by
  have := c_iadd a i; have := rng32 (a + i); omega
theorem own_ix1 {a : Int32} (H7 : 0 ≤ a.toInt ∧ a.toInt ≤ 7) : (a + (1 : Int32)).toInt = a.toInt + (1 : Nat) := own_ixn H7 (by decide) (by decide)
theorem own_ix2 {a i k : Int32} {n n' : Nat} (H7 : 0 ≤ a.toInt ∧ a.toInt ≤ 7) (e : i.toInt = n) (e' : k.toInt = n') {q : Nat} (hq : n + n' = q ∧ q < 100) : ((a + i) + k).toInt = a.toInt + q := by
  have h1 := own_ixn H7 e (by omega)
  have := c_iadd (a + i) k; have := rng32 ((a + i) + k); omega
theorem own_nn {a i : Int32} {n : Nat} (H7 : 0 ≤ a.toInt ∧ a.toInt ≤ 7) (e : i.toInt = n) (hn : n < 100) : (a + i).toNatClampNeg = a.toNatClampNeg + n := by
  have h1 := own_ixn H7 e hn
  rw [Int32.toNatClampNeg, Int32.toNatClampNeg]; omega
theorem own_inn {j : Int32} {c : Cell} (h0 : 0 ≤ j.toInt) (h1 : j.toInt < 264) (cs : c.slots.size = 264) : ¬ (j < 0 ∨ c.slots.size ≤ j.toNatClampNeg) := by
  rw [cs, Int32.lt_iff_toInt_lt, Int32.toNatClampNeg]
  have : (0 : Int32).toInt = 0 := by decide
  omega
theorem own_in0 {a : Int32} {c : Cell} (H7 : 0 ≤ a.toInt ∧ a.toInt ≤ 7) (cs : c.slots.size = 264) : ¬ (a < 0 ∨ c.slots.size ≤ a.toNatClampNeg) := own_inn H7.1 (by omega) cs
theorem own_ini {a i : Int32} {c : Cell} (H7 : 0 ≤ a.toInt ∧ a.toInt ≤ 7) {n : Nat} (e : i.toInt = n) (hn : n < 100) (cs : c.slots.size = 264) : ¬ ((a + i) < 0 ∨ c.slots.size ≤ (a + i).toNatClampNeg) := by
  have h := own_ixn H7 e hn
  exact own_inn (by omega) (by omega) cs
theorem own_pos {x fi nn : Int32} (h1 : fi = x &&& (255 : Int32)) (h2 : nn = fi &&& (127 : Int32)) (h : ¬ nn = (0 : Int32)) : (0 : Int32) < nn := by
  have e := c_mask fi 127 7 (by decide) (by decide)
  rw [Int32.lt_iff_toInt_lt]
  have e0 : (0 : Int32).toInt = 0 := by decide
  have : nn.toInt ≠ 0 := fun q => h (Int32.toInt_inj.mp (q.trans e0.symm))
  rw [← h2] at e
  omega
theorem own_four {nn : Int32} (h : ¬ (4 : Int32) < nn) : ¬ (((((0 : Int32) + (1 : Int32)) + (1 : Int32)) + (1 : Int32)) + (1 : Int32)) < nn := by
  have e : (((((0 : Int32) + (1 : Int32)) + (1 : Int32)) + (1 : Int32)) + (1 : Int32)) = 4 := by decide
  rw [e]; exact h
theorem own_slots (c : Cell) (cs : c.slots.size = 264) (a : Nat) (ha : a ≤ 7) (v0 v1 v2 v3 v4 v5 v6 v7 : Value) (k : Nat) (hk : k < 6) :
    ((((((((c.setSlot a v0).setSlot (a + 1) v1).setSlot (a + 2) v2).setSlot (a + 3) v3).setSlot (a + 4) v4).setSlot (a + 5) v5).setSlot (a + 6) v6).setSlot (a + 7) v7).slots[a + k]? = some (match k with | 0 => v0 | 1 => v1 | 2 => v2 | 3 => v3 | 4 => v4 | _ => v5) := by
  simp only [Cell.setSlot, Array.getElem?_setIfInBounds, Array.size_setIfInBounds, cs]
  match k, hk with
  | 0, _ => simp; omega
  | 1, _ => simp; omega
  | 2, _ => simp; omega
  | 3, _ => simp; omega
  | 4, _ => simp; omega
  | 5, _ => simp; omega
theorem own_pb {at1 : Int32} {w : Int64} {c0 c1 c2 c3 c4 c5 c6 c7 c8 : Cell} (H7 : 0 ≤ at1.toInt ∧ at1.toInt ≤ 7) (cs0 : c0.slots.size = 264)
    (h1 : c1 = c0.setSlot (at1).toNatClampNeg (.int (nar .byte ((w.toInt32).toInt8.toInt32))))
    (h2 : c2 = c1.setSlot ((at1 + (1 : Int32))).toNatClampNeg (.int (nar .byte ((((w.toUInt64 >>> ((8 : Int32) &&& 0x3f).toInt64.toUInt64).toInt64).toInt32).toInt8.toInt32))))
    (h3 : c3 = c2.setSlot ((at1 + (2 : Int32))).toNatClampNeg (.int (nar .byte ((((w.toUInt64 >>> ((16 : Int32) &&& 0x3f).toInt64.toUInt64).toInt64).toInt32).toInt8.toInt32))))
    (h4 : c4 = c3.setSlot ((at1 + (3 : Int32))).toNatClampNeg (.int (nar .byte ((((w.toUInt64 >>> ((24 : Int32) &&& 0x3f).toInt64.toUInt64).toInt64).toInt32).toInt8.toInt32))))
    (h5 : c5 = c4.setSlot ((at1 + (4 : Int32))).toNatClampNeg (.int (nar .byte ((((w.toUInt64 >>> ((32 : Int32) &&& 0x3f).toInt64.toUInt64).toInt64).toInt32).toInt8.toInt32))))
    (h6 : c6 = c5.setSlot ((at1 + (5 : Int32))).toNatClampNeg (.int (nar .byte ((((w.toUInt64 >>> ((40 : Int32) &&& 0x3f).toInt64.toUInt64).toInt64).toInt32).toInt8.toInt32))))
    {x6 x7 : Int32} (h7 : c7 = c6.setSlot ((at1 + (6 : Int32))).toNatClampNeg (.int x6)) (h8 : c8 = c7.setSlot ((at1 + (7 : Int32))).toNatClampNeg (.int x7)) :
    ∀ (j : Int32) (k : Nat), k < 6 → j.toInt = at1.toInt + k → ¬ (j < 0 ∨ c8.slots.size ≤ j.toNatClampNeg) ∧ c8.slots[j.toNatClampNeg]? = some (.int (own_bb w k)) := by
  intro j k hk hj
  have cs8 : c8.slots.size = 264 := by rw [h8, sz_set, h7, sz_set, h6, sz_set, h5, sz_set, h4, sz_set, h3, sz_set, h2, sz_set, h1, sz_set]; exact cs0
  refine ⟨own_inn (by omega) (by omega) cs8, ?_⟩
  have ej : j.toNatClampNeg = at1.toNatClampNeg + k := by rw [Int32.toNatClampNeg, Int32.toNatClampNeg]; omega
  have ha : at1.toNatClampNeg ≤ 7 := by rw [Int32.toNatClampNeg]; omega
  rw [own_nn H7 (n := 1) (by decide) (by decide)] at h2
  rw [own_nn H7 (n := 2) (by decide) (by decide)] at h3
  rw [own_nn H7 (n := 3) (by decide) (by decide)] at h4
  rw [own_nn H7 (n := 4) (by decide) (by decide)] at h5
  rw [own_nn H7 (n := 5) (by decide) (by decide)] at h6
  rw [own_nn H7 (n := 6) (by decide) (by decide)] at h7
  rw [own_nn H7 (n := 7) (by decide) (by decide)] at h8
  rw [ej, h8, h7, h6, h5, h4, h3, h2, h1, own_slots c0 cs0 _ ha _ _ _ _ _ _ _ _ k hk]
  match k, hk with
  | 0, _ => rfl
  | 1, _ => rfl
  | 2, _ => rfl
  | 3, _ => rfl
  | 4, _ => rfl
  | 5, _ => rfl
theorem own_byte (x : Int64) : (nar .byte (x.toInt32.toInt8.toInt32)) &&& (255 : Int32) = (x &&& (255 : Int64)).toInt32 := by
  apply Int32.toInt_inj.mp
  have e1 := c_mask (nar .byte (x.toInt32.toInt8.toInt32)) 255 8 (by decide) (by decide)
  have e2 : (nar .byte (x.toInt32.toInt8.toInt32)).toInt = ((x.toInt32.toInt8.toInt32).toInt8.toInt32).toInt := rfl
  have e3 := c_i2b (x.toInt32.toInt8.toInt32)
  have e4 := c_i2b x.toInt32
  have e5 := c_l2i x
  have e6 := c_l2i (x &&& 255)
  have e7 := c_maskL x 255 8 (by decide) (by decide)
  have r := rng32 ((x &&& 255).toInt32)
  omega
theorem own_b64 {x b : Int64} (h : b = x &&& (255 : Int64)) : 0 ≤ b.toInt ∧ b.toInt < 256 ∧ b.toInt32.toInt = b.toInt := by
  have e := c_maskL x 255 8 (by decide) (by decide)
  rw [← h] at e
  have e2 := c_l2i b
  have r := rng32 b.toInt32
  omega
theorem own_cg (x : Int32) : (x.toInt - (x.toBitVec.toNat : Int)) % 4294967296 = 0 ∧ x.toBitVec.toNat < 4294967296 := by
  refine ⟨?_, x.toBitVec.isLt⟩
  rw [Int32.toInt, BitVec.toInt_eq_toNat_bmod]; exact bm32 _
theorem own_cg64 (x : Int64) : (x.toInt - (x.toBitVec.toNat : Int)) % 18446744073709551616 = 0 ∧ x.toBitVec.toNat < 18446744073709551616 := by
  refine ⟨?_, x.toBitVec.isLt⟩
  rw [Int64.toInt, BitVec.toInt_eq_toNat_bmod]; exact bm64 _
theorem own_shl (x d : Int32) (h0 : 0 ≤ d.toInt) (h1 : d.toInt < 256) : ((own_sh x d).toInt - (x.toInt * 256 + d.toInt)) % 4294967296 = 0 := by
  unfold own_sh
  have a1 := c_ishl x 8 8 (by decide)
  generalize (x <<< ((8 : Int32) &&& 31)) = y at *
  have cy := own_cg y
  have cd := own_cg d
  have cz := own_cg (y ||| d)
  have k : (y ||| d).toBitVec.toNat = y.toBitVec.toNat + d.toBitVec.toNat := by
    rw [Int32.toBitVec_or, BitVec.toNat_or]
    have hy : y.toBitVec.toNat = 2 ^ 8 * (y.toBitVec.toNat / 256) := by omega
    rw [hy, ← Nat.two_pow_add_eq_or_of_lt (by omega)]
  omega
theorem own_or64 (x y : Int64) (k : Nat) (K : Nat) (hK : 2 ^ k = K) (hx : x.toInt % K = 0) (hx0 : 0 ≤ x.toInt) (hy0 : 0 ≤ y.toInt) (hy : y.toInt < K) (hs : x.toInt + y.toInt < 9223372036854775808) : (x ||| y).toInt = x.toInt + y.toInt := by
  have cx := own_cg64 x
  have cy := own_cg64 y
  have cz := own_cg64 (x ||| y)
  have rx := rng64 x
  have ry := rng64 y
  have rz := rng64 (x ||| y)
  have ex : (x.toBitVec.toNat : Int) = x.toInt := by omega
  have ey : (y.toBitVec.toNat : Int) = y.toInt := by omega
  have k1 : (x ||| y).toBitVec.toNat = x.toBitVec.toNat + y.toBitVec.toNat := by
    rw [Int64.toBitVec_or, BitVec.toNat_or]
    have hm : x.toBitVec.toNat % K = 0 := by
      have : ((x.toBitVec.toNat % K : Nat) : Int) = 0 := by rw [Int.natCast_emod, ex]; exact hx
      omega
    have hd : x.toBitVec.toNat = 2 ^ k * (x.toBitVec.toNat / K) := by rw [hK]; exact (Nat.mul_div_cancel' (Nat.dvd_of_mod_eq_zero hm)).symm
    rw [hd, ← Nat.two_pow_add_eq_or_of_lt (by rw [hK]; omega)]
  omega
theorem own_packed {id hl len : Int32} (i0 : 0 ≤ id.toInt) (i1 : id.toInt < 256) (l0 : 0 ≤ hl.toInt) (l1 : hl.toInt < 256) (n0 : 0 ≤ len.toInt) : (own_pack id hl len).toInt = id.toInt * 1099511627776 + hl.toInt * 4294967296 + len.toInt := by
  unfold own_pack
  have a1 := c_lshl id.toInt64 40 40 (by decide)
  have a2 := c_lshl hl.toInt64 32 32 (by decide)
  have a3 := c_maskL len.toInt64 4294967295 32 (by decide) (by decide)
  rw [c_i2l] at a1 a2 a3
  have rl := rng32 len
  generalize (id.toInt64 <<< ((40 : Int32) &&& 0x3f).toInt64) = X at *
  generalize (hl.toInt64 <<< ((32 : Int32) &&& 0x3f).toInt64) = Y at *
  generalize (len.toInt64 &&& (4294967295 : Int64)) = W at *
  have rX := rng64 X
  have rY := rng64 Y
  have eX : X.toInt = id.toInt * 1099511627776 := by omega
  have eY : Y.toInt = hl.toInt * 4294967296 := by omega
  have eW : W.toInt = len.toInt := by omega
  have s1 := own_or64 X Y 40 1099511627776 (by decide) (by omega) (by omega) (by omega) (by omega) (by omega)
  have s2 := own_or64 (X ||| Y) W 32 4294967296 (by decide) (by omega) (by omega) (by omega) (by omega) (by omega)
  omega
theorem own_read {r : Int64} {id hl len : Int32} (e : r.toInt = id.toInt * 1099511627776 + hl.toInt * 4294967296 + len.toInt) (i0 : 0 ≤ id.toInt) (i1 : id.toInt < 256) (l0 : 0 ≤ hl.toInt) (l1 : hl.toInt < 256) (n0 : 0 ≤ len.toInt) :
    ¬ (lcmpW r (-1 : Int64)) = (0 : Int32) ∧ (((r.toUInt64 >>> ((40 : Int32) &&& 0x3f).toInt64.toUInt64).toInt64).toInt32) = id ∧ ((((r.toUInt64 >>> ((32 : Int32) &&& 0x3f).toInt64.toUInt64).toInt64).toInt32) &&& (255 : Int32)) = hl ∧ (r.toInt32) = len := by
  have rl := rng32 len
  refine ⟨?_, ?_, ?_, ?_⟩
  · rw [lw_eq]; intro q
    have : r.toInt = (-1 : Int64).toInt := by rw [q]
    have e1 : (-1 : Int64).toInt = -1 := by decide
    omega
  · apply Int32.toInt_inj.mp
    have a1 := c_lushr r 40 40 (by decide) (by decide)
    have a2 := c_l2i ((r.toUInt64 >>> ((40 : Int32) &&& 0x3f).toInt64.toUInt64).toInt64)
    have a3 := rng32 (((r.toUInt64 >>> ((40 : Int32) &&& 0x3f).toInt64.toUInt64).toInt64).toInt32)
    omega
  · apply Int32.toInt_inj.mp
    have a1 := c_lushr r 32 32 (by decide) (by decide)
    have a2 := c_l2i ((r.toUInt64 >>> ((32 : Int32) &&& 0x3f).toInt64.toUInt64).toInt64)
    have a3 := c_mask (((r.toUInt64 >>> ((32 : Int32) &&& 0x3f).toInt64.toUInt64).toInt64).toInt32) 255 8 (by decide) (by decide)
    omega
  · apply Int32.toInt_inj.mp
    have a2 := c_l2i r
    have a3 := rng32 r.toInt32
    omega
theorem own_223 : ∀ k : Fin 256, ((Int32.ofNat k.1 &&& (223 : Int32)) = (0 : Int32)) ↔ ((((Int32.ofNat k.1).toUInt32 >>> ((6 : Int32) &&& 31).toUInt32).toInt32) = (0 : Int32) ∧ (Int32.ofNat k.1 &&& (31 : Int32)) = (0 : Int32)) := by decide +kernel
theorem own_of (x : Int32) (n : Nat) (h0 : 0 ≤ x.toInt) (h1 : x.toInt < n) (hn : n < 2147483648) : ∃ k : Fin n, x = Int32.ofNat k.1 := by
  refine ⟨⟨x.toInt.toNat, by omega⟩, ?_⟩
  apply Int32.toInt_inj.mp
  rw [Int32.toInt_ofNat_of_lt (by show x.toInt.toNat < _; omega)]
  show x.toInt = ((x.toInt.toNat : Nat) : Int)
  omega
theorem own_lt {x y : Int32} : x < y ↔ x.toInt < y.toInt := Int32.lt_iff_toInt_lt
theorem own_lt64 {x y : Int64} : x < y ↔ x.toInt < y.toInt := Int64.lt_iff_toInt_lt
theorem own_ne {x y : Int32} (h : x.toInt = y.toInt) : x = y := Int32.toInt_inj.mp h
/-- the length's octets, 1 to 4 of them: as an int (it wraps) and as a long -/
theorem own_len {n : Int32} {b2 b3 b4 b5 : Int64} (h2 : 0 ≤ b2.toInt ∧ b2.toInt < 256 ∧ b2.toInt32.toInt = b2.toInt) (h3 : 0 ≤ b3.toInt ∧ b3.toInt < 256 ∧ b3.toInt32.toInt = b3.toInt) (h4 : 0 ≤ b4.toInt ∧ b4.toInt < 256 ∧ b4.toInt32.toInt = b4.toInt) (h5 : 0 ≤ b5.toInt ∧ b5.toInt < 256 ∧ b5.toInt32.toInt = b5.toInt) (n1 : 1 ≤ n.toInt) (n4 : n.toInt ≤ 4) {len : Int64}
    (hl : len = (if (1 : Int32) < n then (if n = (2 : Int32) then ((b2 * (256 : Int64)) + b3) else (if n = (3 : Int32) then ((((b2 * (256 : Int64)) + b3) * (256 : Int64)) + b4) else ((((((b2 * (256 : Int64)) + b3) * (256 : Int64)) + b4) * (256 : Int64)) + b5))) else b2)) :
    0 ≤ len.toInt ∧ len.toInt < 4294967296 ∧ ((own_ln n b2.toInt32 b3.toInt32 b4.toInt32 b5.toInt32).toInt - len.toInt) % 4294967296 = 0 := by
  have e1 : (1 : Int32).toInt = 1 := by decide
  have e2 : (2 : Int32).toInt = 2 := by decide
  have e3 : (3 : Int32).toInt = 3 := by decide
  have e0 : (0 : Int32).toInt = 0 := by decide
  have e256 : (256 : Int64).toInt = 256 := by decide
  have f1 : ((0 : Int32) + (1 : Int32)) = 1 := by decide
  have f2 : ((1 : Int32) + (1 : Int32)) = 2 := by decide
  have f3 : ((2 : Int32) + (1 : Int32)) = 3 := by decide
  have g1 := own_shl (0 : Int32) b2.toInt32 (by omega) (by omega)
  have g2 := own_shl (own_sh (0 : Int32) b2.toInt32) b3.toInt32 (by omega) (by omega)
  have g3 := own_shl (own_sh (own_sh (0 : Int32) b2.toInt32) b3.toInt32) b4.toInt32 (by omega) (by omega)
  have g4 := own_shl (own_sh (own_sh (own_sh (0 : Int32) b2.toInt32) b3.toInt32) b4.toInt32) b5.toInt32 (by omega) (by omega)
  have m1 := c_lmul b2 256
  have m2 := c_ladd (b2 * 256) b3
  have m3 := c_lmul (b2 * 256 + b3) 256
  have m4 := c_ladd ((b2 * 256 + b3) * 256) b4
  have m5 := c_lmul ((b2 * 256 + b3) * 256 + b4) 256
  have m6 := c_ladd (((b2 * 256 + b3) * 256 + b4) * 256) b5
  rw [e256] at m1 m3 m5
  have r1 := rng64 (b2 * 256)
  have r2 := rng64 (b2 * 256 + b3)
  have r3 := rng64 ((b2 * 256 + b3) * 256)
  have r4 := rng64 ((b2 * 256 + b3) * 256 + b4)
  have r5 := rng64 (((b2 * 256 + b3) * 256 + b4) * 256)
  have r6 := rng64 (((b2 * 256 + b3) * 256 + b4) * 256 + b5)
  unfold own_ln
  rw [f1, f2, f3]
  simp only [own_lt, e1, e2, e3] at hl ⊢
  by_cases q1 : 1 < n.toInt
  · by_cases q2 : n = 2
    · have : n.toInt = 2 := by rw [q2]; decide
      rw [if_pos q1, if_pos q2] at hl
      rw [if_pos q1, if_neg (by omega : ¬ 2 < n.toInt), hl]
      omega
    · have n2 : n.toInt ≠ 2 := fun q => q2 (own_ne (q.trans e2.symm))
      by_cases q3 : n = 3
      · have : n.toInt = 3 := by rw [q3]; decide
        rw [if_pos q1, if_neg q2, if_pos q3] at hl
        rw [if_pos q1, if_pos (by omega : 2 < n.toInt), if_neg (by omega : ¬ 3 < n.toInt), hl]
        omega
      · have n3 : n.toInt ≠ 3 := fun q => q3 (own_ne (q.trans e3.symm))
        rw [if_pos q1, if_neg q2, if_neg q3] at hl
        rw [if_pos q1, if_pos (by omega : 2 < n.toInt), if_pos (by omega : 3 < n.toInt), hl]
        omega
  · rw [if_neg q1] at hl
    rw [if_neg q1, hl]
    omega
theorem own_rej {r : Int32} {rr : Int64} {P : Prop} (h : r = 1) (e : rr = -1) : (¬ r = (0 : Int32) → (lcmpW rr (-1 : Int64)) = (0 : Int32)) ∧ (r = (0 : Int32) → P) := by
  refine ⟨fun _ => (lw_eq _ _).mpr e, fun q => ?_⟩
  rw [q] at h; exact absurd h (by decide)
theorem own_law {q0 rr b2 b3 b4 b5 room len : Int64} {q1 q2 at1 lim idd fi tg tc r1 r2 r3 r4 r5 hl : Int32}
    (hat1 : at1 = (q1 &&& (7 : Int32))) (hlim : lim = ((q2 &&& (2147483647 : Int32)) % (265 : Int32)))
    (hrr : rr = (own_ph at1 lim (own_bb q0 0) (own_bb q0 1) (own_bb q0 2) (own_bb q0 3) (own_bb q0 4) (own_bb q0 5)))
    (hidd : idd = ((q0 &&& (255 : Int64)).toInt32))
    (hfi : fi = ((((q0.toUInt64 >>> ((8 : Int32) &&& 0x3f).toInt64.toUInt64).toInt64) &&& (255 : Int64)).toInt32))
    (hb2 : b2 = (((q0.toUInt64 >>> ((16 : Int32) &&& 0x3f).toInt64.toUInt64).toInt64) &&& (255 : Int64)))
    (hb3 : b3 = (((q0.toUInt64 >>> ((24 : Int32) &&& 0x3f).toInt64.toUInt64).toInt64) &&& (255 : Int64)))
    (hb4 : b4 = (((q0.toUInt64 >>> ((32 : Int32) &&& 0x3f).toInt64.toUInt64).toInt64) &&& (255 : Int64)))
    (hb5 : b5 = (((q0.toUInt64 >>> ((40 : Int32) &&& 0x3f).toInt64.toUInt64).toInt64) &&& (255 : Int64)))
    (hroom : room = ((lim.toInt64) - (at1.toInt64)))
    (hr1 : r1 = (if (lcmpW room (2 : Int64)) < (0 : Int32) then (1 : Int32) else (0 : Int32)))
    (htg : tg = (idd &&& (31 : Int32))) (htc : tc = ((idd.toUInt32 >>> ((6 : Int32) &&& 31).toUInt32).toInt32))
    (hr2 : r2 = (if tg = (31 : Int32) then (1 : Int32) else r1))
    (hr3 : r3 = (if tc = (0 : Int32) then (if tg = (0 : Int32) then (1 : Int32) else r2) else r2))
    (hr4 : r4 = (if fi < (128 : Int32) then r3 else (if (0 : Int32) < (lcmpW (if (1 : Int32) < (fi - (128 : Int32)) then (if (fi - (128 : Int32)) = (2 : Int32) then ((b2 * (256 : Int64)) + b3) else (if (fi - (128 : Int32)) = (3 : Int32) then ((((b2 * (256 : Int64)) + b3) * (256 : Int64)) + b4) else ((((((b2 * (256 : Int64)) + b3) * (256 : Int64)) + b4) * (256 : Int64)) + b5))) else b2) (2147483647 : Int64)) then (1 : Int32) else (if (fi - (128 : Int32)) = (0 : Int32) then (1 : Int32) else (if (4 : Int32) < (fi - (128 : Int32)) then (1 : Int32) else (if (0 : Int32) < (lcmpW ((fi - (128 : Int32)).toInt64) (room - (2 : Int64))) then (1 : Int32) else r3))))))
    (hhl : hl = (if fi < (128 : Int32) then (2 : Int32) else ((2 : Int32) + (fi - (128 : Int32)))))
    (hlen : len = (if fi < (128 : Int32) then (fi.toInt64) else (if (1 : Int32) < (fi - (128 : Int32)) then (if (fi - (128 : Int32)) = (2 : Int32) then ((b2 * (256 : Int64)) + b3) else (if (fi - (128 : Int32)) = (3 : Int32) then ((((b2 * (256 : Int64)) + b3) * (256 : Int64)) + b4) else ((((((b2 * (256 : Int64)) + b3) * (256 : Int64)) + b4) * (256 : Int64)) + b5))) else b2)))
    (hr5 : r5 = (if (0 : Int32) < (lcmpW len (room - (hl.toInt64))) then (1 : Int32) else r4)) :
    (¬ r5 = (0 : Int32) → (lcmpW rr (-1 : Int64)) = (0 : Int32)) ∧ (r5 = (0 : Int32) → ¬ (lcmpW rr (-1 : Int64)) = (0 : Int32) ∧ (((rr.toUInt64 >>> ((40 : Int32) &&& 0x3f).toInt64.toUInt64).toInt64).toInt32) = idd ∧ ((((rr.toUInt64 >>> ((32 : Int32) &&& 0x3f).toInt64.toUInt64).toInt64).toInt32) &&& (255 : Int32)) = hl ∧ (rr.toInt32) = (len.toInt32)) := by
  have A := own_at7 hat1
  have z0 : (0 : Int32).toInt = 0 := by decide
  have z2 : (2 : Int32).toInt = 2 := by decide
  have z4 : (4 : Int32).toInt = 4 := by decide
  have z128 : (128 : Int32).toInt = 128 := by decide
  have y2 : (2 : Int64).toInt = 2 := by decide
  have ym : (2147483647 : Int64).toInt = 2147483647 := by decide
  have LM : 0 ≤ lim.toInt ∧ lim.toInt ≤ 264 := by
    have e1 := c_mask q2 2147483647 31 (by decide) (by decide)
    have e2 := (c_irem (q2 &&& 2147483647) 265 265 (by decide)).1 (by omega)
    rw [← hlim] at e2; omega
  have I0 := own_b64 (x := q0) rfl
  rw [← hidd] at I0
  have F0 := own_b64 (x := ((q0.toUInt64 >>> ((8 : Int32) &&& 0x3f).toInt64.toUInt64).toInt64)) rfl
  rw [← hfi] at F0
  have B2 := own_b64 hb2
  have B3 := own_b64 hb3
  have B4 := own_b64 hb4
  have B5 := own_b64 hb5
  have R : rr = own_pm at1 lim idd fi b2.toInt32 b3.toInt32 b4.toInt32 b5.toInt32 := by
    rw [hrr, hidd, hfi, hb2, hb3, hb4, hb5]
    unfold own_ph
    have k0 : own_bb q0 0 &&& (255 : Int32) = _ := own_byte _
    have k1 : own_bb q0 1 &&& (255 : Int32) = _ := own_byte _
    have k2 : own_bb q0 2 &&& (255 : Int32) = _ := own_byte _
    have k3 : own_bb q0 3 &&& (255 : Int32) = _ := own_byte _
    have k4 : own_bb q0 4 &&& (255 : Int32) = _ := own_byte _
    have k5 : own_bb q0 5 &&& (255 : Int32) = _ := own_byte _
    rw [k0, k1, k2, k3, k4, k5]
  have RM : room.toInt = lim.toInt - at1.toInt := by
    have e := c_lsub lim.toInt64 at1.toInt64
    rw [c_i2l, c_i2l, ← hroom] at e
    have := rng64 room; omega
  have LA : (lim - at1).toInt = lim.toInt - at1.toInt := by
    have e := c_isub lim at1
    have := rng32 (lim - at1); omega
  have p5 : r4 = 1 → r5 = 1 := fun q => by rw [hr5, q]; simp only [ite_self]
  have p4 : r3 = 1 → r4 = 1 := fun q => by rw [hr4, q]; simp only [ite_self]
  have p3 : r2 = 1 → r3 = 1 := fun q => by rw [hr3, q]; simp only [ite_self]
  have p2 : r1 = 1 → r2 = 1 := fun q => by rw [hr2, q]; simp only [ite_self]
  clear hrr hidd hfi hb2 hb3 hb4 hb5 hroom hlim hat1
  unfold own_pm at R
  by_cases c1 : (lim - at1) < (2 : Int32)
  · rw [if_pos c1] at R
    rw [own_lt] at c1
    have : r1 = 1 := by rw [hr1, if_pos ((lw_lt _ _).mpr (own_lt64.mpr (by omega)))]
    exact own_rej (p5 (p4 (p3 (p2 this)))) R
  rw [if_neg c1] at R
  rw [own_lt] at c1
  have hr1' : r1 = 0 := by rw [hr1, if_neg (fun q => by rw [lw_lt, own_lt64] at q; omega)]
  by_cases c2 : (idd &&& (31 : Int32)) = (31 : Int32)
  · rw [if_pos c2] at R
    have : r2 = 1 := by rw [hr2, if_pos (htg.trans c2)]
    exact own_rej (p5 (p4 (p3 this))) R
  rw [if_neg c2] at R
  have hr2' : r2 = 0 := by rw [hr2, if_neg (fun q => c2 (htg.symm.trans q)), hr1']
  obtain ⟨k, hk⟩ := own_of idd 256 (by omega) (by omega) (by decide)
  have k223 := own_223 k
  rw [← hk, ← htc, ← htg] at k223
  by_cases c3 : (idd &&& (223 : Int32)) = (0 : Int32)
  · rw [if_pos c3] at R
    have q := k223.mp c3
    have : r3 = 1 := by rw [hr3, if_pos q.1, if_pos q.2]
    exact own_rej (p5 (p4 this)) R
  rw [if_neg c3] at R
  have hr3' : r3 = 0 := by
    by_cases q : tc = 0
    · by_cases q' : tg = 0
      · exact absurd (k223.mpr ⟨q, q'⟩) c3
      · rw [hr3, if_pos q, if_neg q', hr2']
    · rw [hr3, if_neg q, hr2']
  by_cases c4 : fi < (128 : Int32)
  · rw [if_pos c4] at R hr4 hhl hlen
    have hr4' : r4 = 0 := by rw [hr4, hr3']
    unfold own_fin at R
    have e1 := c_isub (lim - at1) 2
    have e2 := rng32 ((lim - at1) - 2)
    have e3 : len.toInt = fi.toInt := by rw [hlen, c_i2l]
    have e4 := c_lsub room hl.toInt64
    rw [c_i2l, hhl] at e4
    have e5 := rng64 (room - (2 : Int32).toInt64)
    by_cases c5 : ((lim - at1) - (2 : Int32)) < fi
    · rw [if_pos c5] at R
      rw [own_lt] at c5
      have : r5 = 1 := by rw [hr5, if_pos ((lw_gt _ _).mpr (own_lt64.mpr (by rw [hhl]; omega)))]
      exact own_rej this R
    · rw [if_neg c5] at R
      rw [own_lt] at c5
      have r50 : r5 = 0 := by rw [hr5, if_neg (fun q => by rw [lw_gt, own_lt64, hhl] at q; omega), hr4']
      refine ⟨fun q => absurd r50 q, fun _ => ?_⟩
      have pk := own_packed (id := idd) (hl := (2 : Int32)) (len := fi) (by omega) (by omega) (by omega) (by omega) (by omega)
      rw [← R] at pk
      have g := own_read pk (by omega) (by omega) (by omega) (by omega) (by omega)
      refine ⟨g.1, g.2.1, g.2.2.1.trans hhl.symm, g.2.2.2.trans (own_ne ?_)⟩
      have a1 := c_l2i len
      have a2 := rng32 len.toInt32
      have a3 := rng32 fi
      omega
  · rw [if_neg c4] at R hr4 hhl hlen
    rw [own_lt] at c4
    have N1 : (fi - (128 : Int32)).toInt = fi.toInt - 128 := by
      have e := c_isub fi 128
      have := rng32 (fi - 128); omega
    have N2 : (fi &&& (127 : Int32)) = fi - (128 : Int32) := by
      apply own_ne
      have e := c_mask fi 127 7 (by decide) (by decide)
      omega
    rw [N2] at R
    by_cases n0 : (fi - (128 : Int32)) = (0 : Int32)
    · rw [if_pos n0] at R
      have : r4 = 1 := by rw [hr4]; simp only [if_pos n0, ite_self]
      exact own_rej (p5 this) R
    rw [if_neg n0] at R
    have n0' : (fi - (128 : Int32)).toInt ≠ 0 := fun q => n0 (own_ne (q.trans z0.symm))
    by_cases n4 : (4 : Int32) < (fi - (128 : Int32))
    · rw [if_pos n4] at R
      have : r4 = 1 := by rw [hr4]; simp only [if_neg n0, if_pos n4, ite_self]
      exact own_rej (p5 this) R
    rw [if_neg n4] at R
    have e1 := c_isub (lim - at1) 2
    have e2 := rng32 ((lim - at1) - 2)
    have e3 := c_lsub room 2
    have e4 := rng64 (room - 2)
    have e5 := c_i2l (fi - (128 : Int32))
    by_cases n5 : ((lim - at1) - (2 : Int32)) < (fi - (128 : Int32))
    · rw [if_pos n5] at R
      rw [own_lt] at n5
      have g : (0 : Int32) < (lcmpW ((fi - (128 : Int32)).toInt64) (room - (2 : Int64))) := (lw_gt _ _).mpr (own_lt64.mpr (by omega))
      have : r4 = 1 := by rw [hr4]; simp only [if_neg n0, if_neg n4, if_pos g, ite_self]
      exact own_rej (p5 this) R
    rw [if_neg n5] at R
    have g : ¬ (0 : Int32) < (lcmpW ((fi - (128 : Int32)).toInt64) (room - (2 : Int64))) := fun q => by
      rw [own_lt] at n5
      rw [lw_gt, own_lt64] at q; omega
    rw [if_neg n0, if_neg n4, if_neg g, ← hlen] at hr4
    rw [own_lt] at n4
    obtain ⟨v0, v1, v2⟩ := own_len B2 B3 B4 B5 (by omega) (by omega) hlen
    have rl := rng32 (own_ln (fi - (128 : Int32)) b2.toInt32 b3.toInt32 b4.toInt32 b5.toInt32)
    generalize own_ln (fi - (128 : Int32)) b2.toInt32 b3.toInt32 b4.toInt32 b5.toInt32 = ln at *
    by_cases c6 : ln < (0 : Int32)
    · rw [if_pos c6] at R
      rw [own_lt] at c6
      have : r4 = 1 := by rw [hr4, if_pos ((lw_gt _ _).mpr (own_lt64.mpr (by omega)))]
      exact own_rej (p5 this) R
    rw [if_neg c6] at R
    rw [own_lt] at c6
    have hr4' : r4 = 0 := by rw [hr4, if_neg (fun q => by rw [lw_gt, own_lt64] at q; omega), hr3']
    have H1 : hl.toInt = fi.toInt - 126 := by
      have e := c_iadd 2 (fi - (128 : Int32))
      rw [← hhl] at e
      have := rng32 hl; omega
    rw [← hhl] at R
    unfold own_fin at R
    have e6 := c_isub (lim - at1) hl
    have e7 := rng32 ((lim - at1) - hl)
    have e8 := c_lsub room hl.toInt64
    rw [c_i2l] at e8
    have e9 := rng64 (room - hl.toInt64)
    by_cases c7 : ((lim - at1) - hl) < ln
    · rw [if_pos c7] at R
      rw [own_lt] at c7
      have : r5 = 1 := by rw [hr5, if_pos ((lw_gt _ _).mpr (own_lt64.mpr (by omega)))]
      exact own_rej this R
    · rw [if_neg c7] at R
      rw [own_lt] at c7
      have r50 : r5 = 0 := by rw [hr5, if_neg (fun q => by rw [lw_gt, own_lt64] at q; omega), hr4']
      refine ⟨fun q => absurd r50 q, fun _ => ?_⟩
      have pk := own_packed (id := idd) (hl := hl) (len := ln) (by omega) (by omega) (by omega) (by omega) (by omega)
      rw [← R] at pk
      have g := own_read pk (by omega) (by omega) (by omega) (by omega) (by omega)
      refine ⟨g.1, g.2.1, g.2.2.1, g.2.2.2.trans (own_ne ?_)⟩
      have a1 := c_l2i len
      have a2 := rng32 len.toInt32
      omega

theorem d1_0 : decode prog_164_method_6_code 0 = .ok (.iload_n 2, 1) := by decide +kernel
theorem d1_1 : decode prog_164_method_6_code 1 = .ok (.iload_n 1, 1) := by decide +kernel
theorem d1_2 : decode prog_164_method_6_code 2 = .ok (.isub, 1) := by decide +kernel
theorem d1_3 : decode prog_164_method_6_code 3 = .ok (.iconst 2, 1) := by decide +kernel
theorem d1_4 : decode prog_164_method_6_code 4 = .ok (.if_icmp .ge 7, 3) := by decide +kernel
theorem d1_7 : decode prog_164_method_6_code 7 = .ok (.ldc2_w 113, 3) := by decide +kernel
theorem d1_10 : decode prog_164_method_6_code 10 = .ok (.lreturn, 1) := by decide +kernel
theorem d1_11 : decode prog_164_method_6_code 11 = .ok (.aload_n 0, 1) := by decide +kernel
theorem d1_12 : decode prog_164_method_6_code 12 = .ok (.iload_n 1, 1) := by decide +kernel
theorem d1_13 : decode prog_164_method_6_code 13 = .ok (.baload, 1) := by decide +kernel
theorem d1_14 : decode prog_164_method_6_code 14 = .ok (.sipush 255, 3) := by decide +kernel
theorem d1_17 : decode prog_164_method_6_code 17 = .ok (.iand, 1) := by decide +kernel
theorem d1_18 : decode prog_164_method_6_code 18 = .ok (.istore_n 3, 1) := by decide +kernel
theorem d1_19 : decode prog_164_method_6_code 19 = .ok (.iload_n 3, 1) := by decide +kernel
theorem d1_20 : decode prog_164_method_6_code 20 = .ok (.bipush 31, 2) := by decide +kernel
theorem d1_22 : decode prog_164_method_6_code 22 = .ok (.iand, 1) := by decide +kernel
theorem d1_23 : decode prog_164_method_6_code 23 = .ok (.bipush 31, 2) := by decide +kernel
theorem d1_25 : decode prog_164_method_6_code 25 = .ok (.if_icmp .eq 11, 3) := by decide +kernel
theorem d1_28 : decode prog_164_method_6_code 28 = .ok (.iload_n 3, 1) := by decide +kernel
theorem d1_29 : decode prog_164_method_6_code 29 = .ok (.sipush 223, 3) := by decide +kernel
theorem d1_32 : decode prog_164_method_6_code 32 = .ok (.iand, 1) := by decide +kernel
theorem d1_33 : decode prog_164_method_6_code 33 = .ok (.ifCond .ne 7, 3) := by decide +kernel
theorem d1_36 : decode prog_164_method_6_code 36 = .ok (.ldc2_w 113, 3) := by decide +kernel
theorem d1_39 : decode prog_164_method_6_code 39 = .ok (.lreturn, 1) := by decide +kernel
theorem d1_40 : decode prog_164_method_6_code 40 = .ok (.aload_n 0, 1) := by decide +kernel
theorem d1_41 : decode prog_164_method_6_code 41 = .ok (.iload_n 1, 1) := by decide +kernel
theorem d1_42 : decode prog_164_method_6_code 42 = .ok (.iconst 1, 1) := by decide +kernel
theorem d1_43 : decode prog_164_method_6_code 43 = .ok (.iadd, 1) := by decide +kernel
theorem d1_44 : decode prog_164_method_6_code 44 = .ok (.baload, 1) := by decide +kernel
theorem d1_45 : decode prog_164_method_6_code 45 = .ok (.sipush 255, 3) := by decide +kernel
theorem d1_48 : decode prog_164_method_6_code 48 = .ok (.iand, 1) := by decide +kernel
theorem d1_49 : decode prog_164_method_6_code 49 = .ok (.istore 4, 2) := by decide +kernel
theorem d1_51 : decode prog_164_method_6_code 51 = .ok (.iconst 2, 1) := by decide +kernel
theorem d1_52 : decode prog_164_method_6_code 52 = .ok (.istore 5, 2) := by decide +kernel
theorem d1_54 : decode prog_164_method_6_code 54 = .ok (.iload 4, 2) := by decide +kernel
theorem d1_56 : decode prog_164_method_6_code 56 = .ok (.istore 6, 2) := by decide +kernel
theorem d1_58 : decode prog_164_method_6_code 58 = .ok (.iload 4, 2) := by decide +kernel
theorem d1_60 : decode prog_164_method_6_code 60 = .ok (.sipush 128, 3) := by decide +kernel
theorem d1_63 : decode prog_164_method_6_code 63 = .ok (.if_icmp .lt 90, 3) := by decide +kernel
theorem d1_66 : decode prog_164_method_6_code 66 = .ok (.iload 4, 2) := by decide +kernel
theorem d1_68 : decode prog_164_method_6_code 68 = .ok (.bipush 127, 2) := by decide +kernel
theorem d1_70 : decode prog_164_method_6_code 70 = .ok (.iand, 1) := by decide +kernel
theorem d1_71 : decode prog_164_method_6_code 71 = .ok (.istore 7, 2) := by decide +kernel
theorem d1_73 : decode prog_164_method_6_code 73 = .ok (.iload 7, 2) := by decide +kernel
theorem d1_75 : decode prog_164_method_6_code 75 = .ok (.ifCond .eq 19, 3) := by decide +kernel
theorem d1_78 : decode prog_164_method_6_code 78 = .ok (.iload 7, 2) := by decide +kernel
theorem d1_80 : decode prog_164_method_6_code 80 = .ok (.iconst 4, 1) := by decide +kernel
theorem d1_81 : decode prog_164_method_6_code 81 = .ok (.if_icmp .gt 13, 3) := by decide +kernel
theorem d1_84 : decode prog_164_method_6_code 84 = .ok (.iload 7, 2) := by decide +kernel
theorem d1_86 : decode prog_164_method_6_code 86 = .ok (.iload_n 2, 1) := by decide +kernel
theorem d1_87 : decode prog_164_method_6_code 87 = .ok (.iload_n 1, 1) := by decide +kernel
theorem d1_88 : decode prog_164_method_6_code 88 = .ok (.isub, 1) := by decide +kernel
theorem d1_89 : decode prog_164_method_6_code 89 = .ok (.iconst 2, 1) := by decide +kernel
theorem d1_90 : decode prog_164_method_6_code 90 = .ok (.isub, 1) := by decide +kernel
theorem d1_91 : decode prog_164_method_6_code 91 = .ok (.if_icmp .le 7, 3) := by decide +kernel
theorem d1_94 : decode prog_164_method_6_code 94 = .ok (.ldc2_w 113, 3) := by decide +kernel
theorem d1_97 : decode prog_164_method_6_code 97 = .ok (.lreturn, 1) := by decide +kernel
theorem d1_98 : decode prog_164_method_6_code 98 = .ok (.iconst 0, 1) := by decide +kernel
theorem d1_99 : decode prog_164_method_6_code 99 = .ok (.istore 6, 2) := by decide +kernel
theorem d1_101 : decode prog_164_method_6_code 101 = .ok (.iconst 0, 1) := by decide +kernel
theorem d1_102 : decode prog_164_method_6_code 102 = .ok (.istore 8, 2) := by decide +kernel
theorem d1_104 : decode prog_164_method_6_code 104 = .ok (.iload 8, 2) := by decide +kernel
theorem d1_106 : decode prog_164_method_6_code 106 = .ok (.iload 7, 2) := by decide +kernel
theorem d1_108 : decode prog_164_method_6_code 108 = .ok (.if_icmp .ge 29, 3) := by decide +kernel
theorem d1_111 : decode prog_164_method_6_code 111 = .ok (.iload 6, 2) := by decide +kernel
theorem d1_113 : decode prog_164_method_6_code 113 = .ok (.bipush 8, 2) := by decide +kernel
theorem d1_115 : decode prog_164_method_6_code 115 = .ok (.ishl, 1) := by decide +kernel
theorem d1_116 : decode prog_164_method_6_code 116 = .ok (.aload_n 0, 1) := by decide +kernel
theorem d1_117 : decode prog_164_method_6_code 117 = .ok (.iload_n 1, 1) := by decide +kernel
theorem d1_118 : decode prog_164_method_6_code 118 = .ok (.iconst 2, 1) := by decide +kernel
theorem d1_119 : decode prog_164_method_6_code 119 = .ok (.iadd, 1) := by decide +kernel
theorem d1_120 : decode prog_164_method_6_code 120 = .ok (.iload 8, 2) := by decide +kernel
theorem d1_122 : decode prog_164_method_6_code 122 = .ok (.iadd, 1) := by decide +kernel
theorem d1_123 : decode prog_164_method_6_code 123 = .ok (.baload, 1) := by decide +kernel
theorem d1_124 : decode prog_164_method_6_code 124 = .ok (.sipush 255, 3) := by decide +kernel
theorem d1_127 : decode prog_164_method_6_code 127 = .ok (.iand, 1) := by decide +kernel
theorem d1_128 : decode prog_164_method_6_code 128 = .ok (.ior, 1) := by decide +kernel
theorem d1_129 : decode prog_164_method_6_code 129 = .ok (.istore 6, 2) := by decide +kernel
theorem d1_131 : decode prog_164_method_6_code 131 = .ok (.iinc 8 1, 3) := by decide +kernel
theorem d1_134 : decode prog_164_method_6_code 134 = .ok (.goto (-30), 3) := by decide +kernel
theorem d1_137 : decode prog_164_method_6_code 137 = .ok (.iload 5, 2) := by decide +kernel
theorem d1_139 : decode prog_164_method_6_code 139 = .ok (.iload 7, 2) := by decide +kernel
theorem d1_141 : decode prog_164_method_6_code 141 = .ok (.iadd, 1) := by decide +kernel
theorem d1_142 : decode prog_164_method_6_code 142 = .ok (.istore 5, 2) := by decide +kernel
theorem d1_144 : decode prog_164_method_6_code 144 = .ok (.iload 6, 2) := by decide +kernel
theorem d1_146 : decode prog_164_method_6_code 146 = .ok (.ifCond .ge 7, 3) := by decide +kernel
theorem d1_149 : decode prog_164_method_6_code 149 = .ok (.ldc2_w 113, 3) := by decide +kernel
theorem d1_152 : decode prog_164_method_6_code 152 = .ok (.lreturn, 1) := by decide +kernel
theorem d1_153 : decode prog_164_method_6_code 153 = .ok (.iload 6, 2) := by decide +kernel
theorem d1_155 : decode prog_164_method_6_code 155 = .ok (.iload_n 2, 1) := by decide +kernel
theorem d1_156 : decode prog_164_method_6_code 156 = .ok (.iload_n 1, 1) := by decide +kernel
theorem d1_157 : decode prog_164_method_6_code 157 = .ok (.isub, 1) := by decide +kernel
theorem d1_158 : decode prog_164_method_6_code 158 = .ok (.iload 5, 2) := by decide +kernel
theorem d1_160 : decode prog_164_method_6_code 160 = .ok (.isub, 1) := by decide +kernel
theorem d1_161 : decode prog_164_method_6_code 161 = .ok (.if_icmp .le 7, 3) := by decide +kernel
theorem d1_164 : decode prog_164_method_6_code 164 = .ok (.ldc2_w 113, 3) := by decide +kernel
theorem d1_167 : decode prog_164_method_6_code 167 = .ok (.lreturn, 1) := by decide +kernel
theorem d1_168 : decode prog_164_method_6_code 168 = .ok (.iload_n 3, 1) := by decide +kernel
theorem d1_169 : decode prog_164_method_6_code 169 = .ok (.i2l, 1) := by decide +kernel
theorem d1_170 : decode prog_164_method_6_code 170 = .ok (.bipush 40, 2) := by decide +kernel
theorem d1_172 : decode prog_164_method_6_code 172 = .ok (.lshl, 1) := by decide +kernel
theorem d1_173 : decode prog_164_method_6_code 173 = .ok (.iload 5, 2) := by decide +kernel
theorem d1_175 : decode prog_164_method_6_code 175 = .ok (.i2l, 1) := by decide +kernel
theorem d1_176 : decode prog_164_method_6_code 176 = .ok (.bipush 32, 2) := by decide +kernel
theorem d1_178 : decode prog_164_method_6_code 178 = .ok (.lshl, 1) := by decide +kernel
theorem d1_179 : decode prog_164_method_6_code 179 = .ok (.lor, 1) := by decide +kernel
theorem d1_180 : decode prog_164_method_6_code 180 = .ok (.iload 6, 2) := by decide +kernel
theorem d1_182 : decode prog_164_method_6_code 182 = .ok (.i2l, 1) := by decide +kernel
theorem d1_183 : decode prog_164_method_6_code 183 = .ok (.ldc2_w 115, 3) := by decide +kernel
theorem d1_186 : decode prog_164_method_6_code 186 = .ok (.land, 1) := by decide +kernel
theorem d1_187 : decode prog_164_method_6_code 187 = .ok (.lor, 1) := by decide +kernel
theorem d1_188 : decode prog_164_method_6_code 188 = .ok (.lreturn, 1) := by decide +kernel
theorem pn_1 : plainName "com/example/tagloom/tagloom/tlv/TlvDecoder" = true := by first | (simp [plainName, overriddenIn]; done) | decide +kernel
theorem d2_0 : decode prog_164_method_7_code 0 = .ok (.lload_n 0, 1) := by decide +kernel
theorem d2_1 : decode prog_164_method_7_code 1 = .ok (.bipush 40, 2) := by decide +kernel
theorem d2_3 : decode prog_164_method_7_code 3 = .ok (.lushr, 1) := by decide +kernel
theorem d2_4 : decode prog_164_method_7_code 4 = .ok (.l2i, 1) := by decide +kernel
theorem d2_5 : decode prog_164_method_7_code 5 = .ok (.ireturn, 1) := by decide +kernel
theorem pn_2 : plainName "com/example/tagloom/tagloom/tlv/TlvDecoder" = true := by first | (simp [plainName, overriddenIn]; done) | decide +kernel
theorem d3_0 : decode prog_164_method_8_code 0 = .ok (.lload_n 0, 1) := by decide +kernel
theorem d3_1 : decode prog_164_method_8_code 1 = .ok (.bipush 32, 2) := by decide +kernel
theorem d3_3 : decode prog_164_method_8_code 3 = .ok (.lushr, 1) := by decide +kernel
theorem d3_4 : decode prog_164_method_8_code 4 = .ok (.l2i, 1) := by decide +kernel
theorem d3_5 : decode prog_164_method_8_code 5 = .ok (.sipush 255, 3) := by decide +kernel
theorem d3_8 : decode prog_164_method_8_code 8 = .ok (.iand, 1) := by decide +kernel
theorem d3_9 : decode prog_164_method_8_code 9 = .ok (.ireturn, 1) := by decide +kernel
theorem pn_3 : plainName "com/example/tagloom/tagloom/tlv/TlvDecoder" = true := by first | (simp [plainName, overriddenIn]; done) | decide +kernel
theorem d4_0 : decode prog_164_method_9_code 0 = .ok (.lload_n 0, 1) := by decide +kernel
theorem d4_1 : decode prog_164_method_9_code 1 = .ok (.l2i, 1) := by decide +kernel
theorem d4_2 : decode prog_164_method_9_code 2 = .ok (.ireturn, 1) := by decide +kernel
theorem pn_4 : plainName "com/example/tagloom/tagloom/tlv/TlvDecoder" = true := by first | (simp [plainName, overriddenIn]; done) | decide +kernel
theorem pn_0 : plainName "com/example/tagloom/tagloom/tlv/TlvDecoderPlainHeaderPinLaw" = true := by first | (simp [plainName, overriddenIn]; done) | decide +kernel
theorem ef_2 (m : MethodId) (q1 : Int64) : entryFrame m #[(.long q1)] 2 = mkF m 0 #[.val (.long q1), .second] [] := by first | (simp [entryFrame, mkF, argsToLocals, Value.category]; done) | rfl
def Q2 (q1 : Int64) (h0 : Heap) (n0 : Nat) (v : Option Value) (h : Heap) (L : List Loc) : Prop := v = some (.int (((q1.toUInt64 >>> ((40 : Int32) &&& 0x3f).toInt64.toUInt64).toInt64).toInt32)) ∧ Fr n0 L ∧ h = h0
set_option maxRecDepth 65536 in
set_option maxHeartbeats 40000000 in
theorem rm2 (l : Launch) (Z : State) (a0 : Array Value) (hw : ∀ d ∈ tables_1, d.before a0 Z = true) (ws : List Jvm.Cond) (q1 : Int64) (h0 : Heap) (n0 : Nat) (Z0 : n0 ≤ h0.size) :
    MetFree l (⟨"com/example/tagloom/tagloom/tlv/TlvDecoder", "plainIdentifier", "(J)I"⟩ : MethodName) (head1 (Jvm.Cond.code (⟨"com/example/tagloom/tagloom/tlv/TlvDecoder", "plainIdentifier", "(J)I"⟩ : MethodName) prog_164_method_7_code 2 (some .int) :: ws) ({ frames := 0, cells := 0, slots := 0, locals := 0 } : Room)) (fun a U => a = #[(.long q1)] ∧ Z.Warmed39 U.vm ∧ U.heap = h0) (fun _ _ _ _ _ => True) (fun _ U o U' => ∃ v L, o = .returned v ∧ Q2 q1 h0 n0 v U'.heap L ∧ FrameEnd U o U' L ({ frames := 0, cells := 0, slots := 0, locals := 0 } : Room).cells ({ frames := 0, cells := 0, slots := 0, locals := 0 } : Room).slots) := by
  refine MetFree.of_bodySF (plainFor_of_name pn_2) hisR ?_
  intro p e s m args below meth c s₁ Bd hml0 hP hK
  obtain ⟨rfl, hZ, hh⟩ := hP
  have hx := Bd.exec
  have hby := Bd.bytes
  have hml : c.maxLocals = 2 := hml0
  have hown : s.vm.findClass "com/example/tagloom/tagloom/tlv/TlvDecoder" = some m.cls := findClass_of_methodNamed Bd.named
  have hnm := (name_of_methodNamed Bd.named Bd.method).1
  have X0 : Stand p l e ({ frames := 0, cells := 0, slots := 0, locals := 0 } : Room) s m #[(.long q1)] below meth c s₁ [] 0 0 := Stand.of_body Bd
  have e0 : s₁.heap = h0 := by rw [← hh, Bd.state]; rfl
  have N0 := Fr.nil n0
  have pre0 : ∀ tgt, Steps p.tables e below (s₁.setTop (mkF m 0 #[.val (.long q1), .second] [])) tgt → Steps p.tables e below (s₁.setTop (entryFrame m #[(.long q1)] 2)) tgt := fun tgt k => castTop (ef_2 m q1) k
  obtain ⟨fs, hr, hrun, hended, hW, hsame⟩ := X0.leave (v := some (.int (((q1.toUInt64 >>> ((40 : Int32) &&& 0x3f).toInt64.toUInt64).toInt64).toInt32))) (fun h => by rw [Bd.returns] at h; cases h)
  refine ⟨_, _, pre0 _ ?_, hrun, hended, _, _, rfl, ?_, ⟨_, rfl⟩, hW, hsame.mono (by decide) (by decide)⟩
  · show Steps p.tables e below (s₁.setTop (mkF m 0 #[.val (.long q1), .second] [])) _
    refine XS.lloadN X0.here hx rfl (hb hby d2_0) rfl ?_
    show Steps p.tables e below (s₁.setTop (mkF m 1 #[.val (.long q1), .second] [(.long q1)])) _
    refine XS.bipush X0.here hx rfl (hb hby d2_1) ?_
    show Steps p.tables e below (s₁.setTop (mkF m 3 #[.val (.long q1), .second] [(.int (40 : Int32)), (.long q1)])) _
    refine XS.lushr X0.here hx rfl (hb hby d2_3) rfl ?_
    show Steps p.tables e below (s₁.setTop (mkF m 4 #[.val (.long q1), .second] [(.long ((q1.toUInt64 >>> ((40 : Int32) &&& 0x3f).toInt64.toUInt64).toInt64))])) _
    refine XS.l2i X0.here hx rfl (hb hby d2_4) rfl ?_
    show Steps p.tables e below (s₁.setTop (mkF m 5 #[.val (.long q1), .second] [(.int (((q1.toUInt64 >>> ((40 : Int32) &&& 0x3f).toInt64.toUInt64).toInt64).toInt32))])) _
    exact retI X0 hx Bd.returns (hb hby d2_5) hr
  · show Q2 q1 h0 n0 _ s₁.heap _
    rw [e0]
    exact ⟨rfl, N0, rfl⟩
theorem ef_3 (m : MethodId) (q1 : Int64) : entryFrame m #[(.long q1)] 2 = mkF m 0 #[.val (.long q1), .second] [] := by first | (simp [entryFrame, mkF, argsToLocals, Value.category]; done) | rfl
def Q3 (q1 : Int64) (h0 : Heap) (n0 : Nat) (v : Option Value) (h : Heap) (L : List Loc) : Prop := v = some (.int (((((q1.toUInt64 >>> ((32 : Int32) &&& 0x3f).toInt64.toUInt64).toInt64).toInt32) &&& (255 : Int32)))) ∧ Fr n0 L ∧ h = h0
set_option maxRecDepth 65536 in
set_option maxHeartbeats 40000000 in
theorem rm3 (l : Launch) (Z : State) (a0 : Array Value) (hw : ∀ d ∈ tables_1, d.before a0 Z = true) (ws : List Jvm.Cond) (q1 : Int64) (h0 : Heap) (n0 : Nat) (Z0 : n0 ≤ h0.size) :
    MetFree l (⟨"com/example/tagloom/tagloom/tlv/TlvDecoder", "plainHeaderLength", "(J)I"⟩ : MethodName) (head1 (Jvm.Cond.code (⟨"com/example/tagloom/tagloom/tlv/TlvDecoder", "plainHeaderLength", "(J)I"⟩ : MethodName) prog_164_method_8_code 2 (some .int) :: ws) ({ frames := 0, cells := 0, slots := 0, locals := 0 } : Room)) (fun a U => a = #[(.long q1)] ∧ Z.Warmed39 U.vm ∧ U.heap = h0) (fun _ _ _ _ _ => True) (fun _ U o U' => ∃ v L, o = .returned v ∧ Q3 q1 h0 n0 v U'.heap L ∧ FrameEnd U o U' L ({ frames := 0, cells := 0, slots := 0, locals := 0 } : Room).cells ({ frames := 0, cells := 0, slots := 0, locals := 0 } : Room).slots) := by
  refine MetFree.of_bodySF (plainFor_of_name pn_3) hisR ?_
  intro p e s m args below meth c s₁ Bd hml0 hP hK
  obtain ⟨rfl, hZ, hh⟩ := hP
  have hx := Bd.exec
  have hby := Bd.bytes
  have hml : c.maxLocals = 2 := hml0
  have hown : s.vm.findClass "com/example/tagloom/tagloom/tlv/TlvDecoder" = some m.cls := findClass_of_methodNamed Bd.named
  have hnm := (name_of_methodNamed Bd.named Bd.method).1
  have X0 : Stand p l e ({ frames := 0, cells := 0, slots := 0, locals := 0 } : Room) s m #[(.long q1)] below meth c s₁ [] 0 0 := Stand.of_body Bd
  have e0 : s₁.heap = h0 := by rw [← hh, Bd.state]; rfl
  have N0 := Fr.nil n0
  have pre0 : ∀ tgt, Steps p.tables e below (s₁.setTop (mkF m 0 #[.val (.long q1), .second] [])) tgt → Steps p.tables e below (s₁.setTop (entryFrame m #[(.long q1)] 2)) tgt := fun tgt k => castTop (ef_3 m q1) k
  obtain ⟨fs, hr, hrun, hended, hW, hsame⟩ := X0.leave (v := some (.int ((((q1.toUInt64 >>> ((32 : Int32) &&& 0x3f).toInt64.toUInt64).toInt64).toInt32) &&& (255 : Int32)))) (fun h => by rw [Bd.returns] at h; cases h)
  refine ⟨_, _, pre0 _ ?_, hrun, hended, _, _, rfl, ?_, ⟨_, rfl⟩, hW, hsame.mono (by decide) (by decide)⟩
  · show Steps p.tables e below (s₁.setTop (mkF m 0 #[.val (.long q1), .second] [])) _
    refine XS.lloadN X0.here hx rfl (hb hby d3_0) rfl ?_
    show Steps p.tables e below (s₁.setTop (mkF m 1 #[.val (.long q1), .second] [(.long q1)])) _
    refine XS.bipush X0.here hx rfl (hb hby d3_1) ?_
    show Steps p.tables e below (s₁.setTop (mkF m 3 #[.val (.long q1), .second] [(.int (32 : Int32)), (.long q1)])) _
    refine XS.lushr X0.here hx rfl (hb hby d3_3) rfl ?_
    show Steps p.tables e below (s₁.setTop (mkF m 4 #[.val (.long q1), .second] [(.long ((q1.toUInt64 >>> ((32 : Int32) &&& 0x3f).toInt64.toUInt64).toInt64))])) _
    refine XS.l2i X0.here hx rfl (hb hby d3_4) rfl ?_
    show Steps p.tables e below (s₁.setTop (mkF m 5 #[.val (.long q1), .second] [(.int (((q1.toUInt64 >>> ((32 : Int32) &&& 0x3f).toInt64.toUInt64).toInt64).toInt32))])) _
    refine XS.sipush X0.here hx rfl (hb hby d3_5) ?_
    show Steps p.tables e below (s₁.setTop (mkF m 8 #[.val (.long q1), .second] [(.int (255 : Int32)), (.int (((q1.toUInt64 >>> ((32 : Int32) &&& 0x3f).toInt64.toUInt64).toInt64).toInt32))])) _
    refine XS.iand X0.here hx rfl (hb hby d3_8) rfl ?_
    show Steps p.tables e below (s₁.setTop (mkF m 9 #[.val (.long q1), .second] [(.int ((((q1.toUInt64 >>> ((32 : Int32) &&& 0x3f).toInt64.toUInt64).toInt64).toInt32) &&& (255 : Int32)))])) _
    exact retI X0 hx Bd.returns (hb hby d3_9) hr
  · show Q3 q1 h0 n0 _ s₁.heap _
    rw [e0]
    exact ⟨rfl, N0, rfl⟩
theorem ef_4 (m : MethodId) (q1 : Int64) : entryFrame m #[(.long q1)] 2 = mkF m 0 #[.val (.long q1), .second] [] := by first | (simp [entryFrame, mkF, argsToLocals, Value.category]; done) | rfl
def Q4 (q1 : Int64) (h0 : Heap) (n0 : Nat) (v : Option Value) (h : Heap) (L : List Loc) : Prop := v = some (.int (q1.toInt32)) ∧ Fr n0 L ∧ h = h0
set_option maxRecDepth 65536 in
set_option maxHeartbeats 40000000 in
theorem rm4 (l : Launch) (Z : State) (a0 : Array Value) (hw : ∀ d ∈ tables_1, d.before a0 Z = true) (ws : List Jvm.Cond) (q1 : Int64) (h0 : Heap) (n0 : Nat) (Z0 : n0 ≤ h0.size) :
    MetFree l (⟨"com/example/tagloom/tagloom/tlv/TlvDecoder", "plainLength", "(J)I"⟩ : MethodName) (head1 (Jvm.Cond.code (⟨"com/example/tagloom/tagloom/tlv/TlvDecoder", "plainLength", "(J)I"⟩ : MethodName) prog_164_method_9_code 2 (some .int) :: ws) ({ frames := 0, cells := 0, slots := 0, locals := 0 } : Room)) (fun a U => a = #[(.long q1)] ∧ Z.Warmed39 U.vm ∧ U.heap = h0) (fun _ _ _ _ _ => True) (fun _ U o U' => ∃ v L, o = .returned v ∧ Q4 q1 h0 n0 v U'.heap L ∧ FrameEnd U o U' L ({ frames := 0, cells := 0, slots := 0, locals := 0 } : Room).cells ({ frames := 0, cells := 0, slots := 0, locals := 0 } : Room).slots) := by
  refine MetFree.of_bodySF (plainFor_of_name pn_4) hisR ?_
  intro p e s m args below meth c s₁ Bd hml0 hP hK
  obtain ⟨rfl, hZ, hh⟩ := hP
  have hx := Bd.exec
  have hby := Bd.bytes
  have hml : c.maxLocals = 2 := hml0
  have hown : s.vm.findClass "com/example/tagloom/tagloom/tlv/TlvDecoder" = some m.cls := findClass_of_methodNamed Bd.named
  have hnm := (name_of_methodNamed Bd.named Bd.method).1
  have X0 : Stand p l e ({ frames := 0, cells := 0, slots := 0, locals := 0 } : Room) s m #[(.long q1)] below meth c s₁ [] 0 0 := Stand.of_body Bd
  have e0 : s₁.heap = h0 := by rw [← hh, Bd.state]; rfl
  have N0 := Fr.nil n0
  have pre0 : ∀ tgt, Steps p.tables e below (s₁.setTop (mkF m 0 #[.val (.long q1), .second] [])) tgt → Steps p.tables e below (s₁.setTop (entryFrame m #[(.long q1)] 2)) tgt := fun tgt k => castTop (ef_4 m q1) k
  obtain ⟨fs, hr, hrun, hended, hW, hsame⟩ := X0.leave (v := some (.int (q1.toInt32))) (fun h => by rw [Bd.returns] at h; cases h)
  refine ⟨_, _, pre0 _ ?_, hrun, hended, _, _, rfl, ?_, ⟨_, rfl⟩, hW, hsame.mono (by decide) (by decide)⟩
  · show Steps p.tables e below (s₁.setTop (mkF m 0 #[.val (.long q1), .second] [])) _
    refine XS.lloadN X0.here hx rfl (hb hby d4_0) rfl ?_
    show Steps p.tables e below (s₁.setTop (mkF m 1 #[.val (.long q1), .second] [(.long q1)])) _
    refine XS.l2i X0.here hx rfl (hb hby d4_1) rfl ?_
    show Steps p.tables e below (s₁.setTop (mkF m 2 #[.val (.long q1), .second] [(.int (q1.toInt32))])) _
    exact retI X0 hx Bd.returns (hb hby d4_2) hr
  · show Q4 q1 h0 n0 _ s₁.heap _
    rw [e0]
    exact ⟨rfl, N0, rfl⟩
set_option maxRecDepth 65536 in
set_option maxHeartbeats 40000000 in
theorem lp_98 {p : Program} {l : Launch} {e : Env} {R : Room} {s : State} {m : MethodId} {args : Array Value} {below : List Frame} {meth : Method} {c : Code} {T0 : State} {locs : List Loc} {cells slots : Nat} {Z : State} {a0 : Array Value} (bb : Nat → Int32) (o1 : Addr) (at1 : Int32) (s2 : Slot) (s3 : Slot) (s4 : Slot) (s5 : Slot) (l6 : Int32) (nn : Int32) (v0 : Int32) (hv0 : v0 = (if ((0 : Int32) + (1 : Int32)) < nn then (if (((0 : Int32) + (1 : Int32)) + (1 : Int32)) < nn then (if ((((0 : Int32) + (1 : Int32)) + (1 : Int32)) + (1 : Int32)) < nn then (((((((((0 : Int32) <<< ((8 : Int32) &&& 31)) ||| ((bb 2) &&& (255 : Int32))) <<< ((8 : Int32) &&& 31)) ||| ((bb 3) &&& (255 : Int32))) <<< ((8 : Int32) &&& 31)) ||| ((bb 4) &&& (255 : Int32))) <<< ((8 : Int32) &&& 31)) ||| ((bb 5) &&& (255 : Int32))) else (((((((0 : Int32) <<< ((8 : Int32) &&& 31)) ||| ((bb 2) &&& (255 : Int32))) <<< ((8 : Int32) &&& 31)) ||| ((bb 3) &&& (255 : Int32))) <<< ((8 : Int32) &&& 31)) ||| ((bb 4) &&& (255 : Int32)))) else (((((0 : Int32) <<< ((8 : Int32) &&& 31)) ||| ((bb 2) &&& (255 : Int32))) <<< ((8 : Int32) &&& 31)) ||| ((bb 3) &&& (255 : Int32)))) else (((0 : Int32) <<< ((8 : Int32) &&& 31)) ||| ((bb 2) &&& (255 : Int32))))) (v1 : Int32) (hv1 : v1 = (if ((0 : Int32) + (1 : Int32)) < nn then (if (((0 : Int32) + (1 : Int32)) + (1 : Int32)) < nn then (if ((((0 : Int32) + (1 : Int32)) + (1 : Int32)) + (1 : Int32)) < nn then (((((0 : Int32) + (1 : Int32)) + (1 : Int32)) + (1 : Int32)) + (1 : Int32)) else ((((0 : Int32) + (1 : Int32)) + (1 : Int32)) + (1 : Int32))) else (((0 : Int32) + (1 : Int32)) + (1 : Int32))) else ((0 : Int32) + (1 : Int32))))
    (X0 : Stand p l e R s m args below meth c T0 locs cells slots) (hx : p.tables.exec = Jvm.exec) (hZ : Z.Warmed39 s.vm) (hw : ∀ d ∈ tables_1, d.before a0 Z = true) (hby : c.code = prog_164_method_6_code) (hown : s.vm.findClass "com/example/tagloom/tagloom/tlv/TlvDecoder" = some m.cls) (h0 : Heap) (e0 : T0.heap = h0) (cl : Cell) (Ar : Arr Z h0 o1 cl .byte) (H7 : 0 ≤ at1.toInt ∧ at1.toInt ≤ 7) (PB : ∀ (j : Int32) (k : Nat), k < 6 → j.toInt = at1.toInt + k → ¬ (j < 0 ∨ cl.slots.size ≤ j.toNatClampNeg) ∧ cl.slots[j.toNatClampNeg]? = some (.int (bb k))) (hpos : (0 : Int32) < nn) (h4 : ¬ (4 : Int32) < nn) {target : State}
    (kt : Steps p.tables e below (T0.setTop (mkF m 137 #[.val (.ref o1), .val (.int at1), s2, s3, s4, s5, .val (.int v0), .val (.int nn), .val (.int v1)] [])) target) : Steps p.tables e below (T0.setTop (mkF m 98 #[.val (.ref o1), .val (.int at1), s2, s3, s4, s5, .val (.int l6), .val (.int nn), .unset] [])) target := by
  have PB1 := PB ((at1 + (2 : Int32)) + (0 : Int32)) 2 (by decide) (own_ix2 (n := 2) (n' := 0) H7 (by decide) (by decide) (by decide))
  by_cases hc108_2 : ((0 : Int32) + (1 : Int32)) < nn
  ·
    have PB2 := PB ((at1 + (2 : Int32)) + ((0 : Int32) + (1 : Int32))) 3 (by decide) (own_ix2 (n := 2) (n' := 1) H7 (by decide) (by decide) (by decide))
    by_cases hc108_3 : (((0 : Int32) + (1 : Int32)) + (1 : Int32)) < nn
    ·
      have PB3 := PB ((at1 + (2 : Int32)) + (((0 : Int32) + (1 : Int32)) + (1 : Int32))) 4 (by decide) (own_ix2 (n := 2) (n' := 2) H7 (by decide) (by decide) (by decide))
      by_cases hc108_4 : ((((0 : Int32) + (1 : Int32)) + (1 : Int32)) + (1 : Int32)) < nn
      ·
        have PB4 := PB ((at1 + (2 : Int32)) + ((((0 : Int32) + (1 : Int32)) + (1 : Int32)) + (1 : Int32))) 5 (by decide) (own_ix2 (n := 2) (n' := 3) H7 (by decide) (by decide) (by decide))
        simp only [if_pos hc108_2, if_pos hc108_3, if_pos hc108_4] at hv0
        rw [hv0] at kt
        simp only [if_pos hc108_2, if_pos hc108_3, if_pos hc108_4] at hv1
        rw [hv1] at kt
        show Steps p.tables e below (T0.setTop (mkF m 98 #[.val (.ref o1), .val (.int at1), s2, s3, s4, s5, .val (.int l6), .val (.int nn), .unset] [])) _
        refine XS.iconst X0.here hx rfl (hb hby d1_98) ?_
        show Steps p.tables e below (T0.setTop (mkF m 99 #[.val (.ref o1), .val (.int at1), s2, s3, s4, s5, .val (.int l6), .val (.int nn), .unset] [(.int (0 : Int32))])) _
        refine XS.istore X0.here hx rfl (hb hby d1_99) rfl (l' := #[.val (.ref o1), .val (.int at1), s2, s3, s4, s5, .val (.int (0 : Int32)), .val (.int nn), .unset]) rfl ?_
        show Steps p.tables e below (T0.setTop (mkF m 101 #[.val (.ref o1), .val (.int at1), s2, s3, s4, s5, .val (.int (0 : Int32)), .val (.int nn), .unset] [])) _
        refine XS.iconst X0.here hx rfl (hb hby d1_101) ?_
        show Steps p.tables e below (T0.setTop (mkF m 102 #[.val (.ref o1), .val (.int at1), s2, s3, s4, s5, .val (.int (0 : Int32)), .val (.int nn), .unset] [(.int (0 : Int32))])) _
        refine XS.istore X0.here hx rfl (hb hby d1_102) rfl (l' := #[.val (.ref o1), .val (.int at1), s2, s3, s4, s5, .val (.int (0 : Int32)), .val (.int nn), .val (.int (0 : Int32))]) rfl ?_
        show Steps p.tables e below (T0.setTop (mkF m 104 #[.val (.ref o1), .val (.int at1), s2, s3, s4, s5, .val (.int (0 : Int32)), .val (.int nn), .val (.int (0 : Int32))] [])) _
        refine XS.iload X0.here hx rfl (hb hby d1_104) rfl ?_
        show Steps p.tables e below (T0.setTop (mkF m 106 #[.val (.ref o1), .val (.int at1), s2, s3, s4, s5, .val (.int (0 : Int32)), .val (.int nn), .val (.int (0 : Int32))] [(.int (0 : Int32))])) _
        refine XS.iload X0.here hx rfl (hb hby d1_106) rfl ?_
        show Steps p.tables e below (T0.setTop (mkF m 108 #[.val (.ref o1), .val (.int at1), s2, s3, s4, s5, .val (.int (0 : Int32)), .val (.int nn), .val (.int (0 : Int32))] [(.int nn), (.int (0 : Int32))])) _
        refine XS.icmpNo X0.here hx rfl (hb hby d1_108) rfl (tlt hpos).2.1 ?_
        show Steps p.tables e below (T0.setTop (mkF m 111 #[.val (.ref o1), .val (.int at1), s2, s3, s4, s5, .val (.int (0 : Int32)), .val (.int nn), .val (.int (0 : Int32))] [])) _
        refine XS.iload X0.here hx rfl (hb hby d1_111) rfl ?_
        show Steps p.tables e below (T0.setTop (mkF m 113 #[.val (.ref o1), .val (.int at1), s2, s3, s4, s5, .val (.int (0 : Int32)), .val (.int nn), .val (.int (0 : Int32))] [(.int (0 : Int32))])) _
        refine XS.bipush X0.here hx rfl (hb hby d1_113) ?_
        show Steps p.tables e below (T0.setTop (mkF m 115 #[.val (.ref o1), .val (.int at1), s2, s3, s4, s5, .val (.int (0 : Int32)), .val (.int nn), .val (.int (0 : Int32))] [(.int (8 : Int32)), (.int (0 : Int32))])) _
        refine XS.ishl X0.here hx rfl (hb hby d1_115) rfl ?_
        show Steps p.tables e below (T0.setTop (mkF m 116 #[.val (.ref o1), .val (.int at1), s2, s3, s4, s5, .val (.int (0 : Int32)), .val (.int nn), .val (.int (0 : Int32))] [(.int ((0 : Int32) <<< ((8 : Int32) &&& 31)))])) _
        refine XS.aloadN X0.here hx rfl (hb hby d1_116) rfl rfl ?_
        show Steps p.tables e below (T0.setTop (mkF m 117 #[.val (.ref o1), .val (.int at1), s2, s3, s4, s5, .val (.int (0 : Int32)), .val (.int nn), .val (.int (0 : Int32))] [(.ref o1), (.int ((0 : Int32) <<< ((8 : Int32) &&& 31)))])) _
        refine XS.iloadN X0.here hx rfl (hb hby d1_117) rfl ?_
        show Steps p.tables e below (T0.setTop (mkF m 118 #[.val (.ref o1), .val (.int at1), s2, s3, s4, s5, .val (.int (0 : Int32)), .val (.int nn), .val (.int (0 : Int32))] [(.int at1), (.ref o1), (.int ((0 : Int32) <<< ((8 : Int32) &&& 31)))])) _
        refine XS.iconst X0.here hx rfl (hb hby d1_118) ?_
        show Steps p.tables e below (T0.setTop (mkF m 119 #[.val (.ref o1), .val (.int at1), s2, s3, s4, s5, .val (.int (0 : Int32)), .val (.int nn), .val (.int (0 : Int32))] [(.int (2 : Int32)), (.int at1), (.ref o1), (.int ((0 : Int32) <<< ((8 : Int32) &&& 31)))])) _
        refine XS.iadd X0.here hx rfl (hb hby d1_119) rfl ?_
        show Steps p.tables e below (T0.setTop (mkF m 120 #[.val (.ref o1), .val (.int at1), s2, s3, s4, s5, .val (.int (0 : Int32)), .val (.int nn), .val (.int (0 : Int32))] [(.int (at1 + (2 : Int32))), (.ref o1), (.int ((0 : Int32) <<< ((8 : Int32) &&& 31)))])) _
        refine XS.iload X0.here hx rfl (hb hby d1_120) rfl ?_
        show Steps p.tables e below (T0.setTop (mkF m 122 #[.val (.ref o1), .val (.int at1), s2, s3, s4, s5, .val (.int (0 : Int32)), .val (.int nn), .val (.int (0 : Int32))] [(.int (0 : Int32)), (.int (at1 + (2 : Int32))), (.ref o1), (.int ((0 : Int32) <<< ((8 : Int32) &&& 31)))])) _
        refine XS.iadd X0.here hx rfl (hb hby d1_122) rfl ?_
        show Steps p.tables e below (T0.setTop (mkF m 123 #[.val (.ref o1), .val (.int at1), s2, s3, s4, s5, .val (.int (0 : Int32)), .val (.int nn), .val (.int (0 : Int32))] [(.int ((at1 + (2 : Int32)) + (0 : Int32))), (.ref o1), (.int ((0 : Int32) <<< ((8 : Int32) &&& 31)))])) _
        refine X0.baloadBytes hx (j := ((at1 + (2 : Int32)) + (0 : Int32))) (v := (.int (bb 2))) (by rw [e0]; exact Ar.1) (State.isArrayOf_alike hZ.alike Ar.2.1) Ar.2.2 PB1.1 PB1.2 (g := (mkF m 123 #[.val (.ref o1), .val (.int at1), s2, s3, s4, s5, .val (.int (0 : Int32)), .val (.int nn), .val (.int (0 : Int32))] [(.int ((at1 + (2 : Int32)) + (0 : Int32))), (.ref o1), (.int ((0 : Int32) <<< ((8 : Int32) &&& 31)))])) rfl rfl (hb hby d1_123) _ ?_
        show Steps p.tables e below (T0.setTop (mkF m 124 #[.val (.ref o1), .val (.int at1), s2, s3, s4, s5, .val (.int (0 : Int32)), .val (.int nn), .val (.int (0 : Int32))] [(.int (bb 2)), (.int ((0 : Int32) <<< ((8 : Int32) &&& 31)))])) _
        refine XS.sipush X0.here hx rfl (hb hby d1_124) ?_
        show Steps p.tables e below (T0.setTop (mkF m 127 #[.val (.ref o1), .val (.int at1), s2, s3, s4, s5, .val (.int (0 : Int32)), .val (.int nn), .val (.int (0 : Int32))] [(.int (255 : Int32)), (.int (bb 2)), (.int ((0 : Int32) <<< ((8 : Int32) &&& 31)))])) _
        refine XS.iand X0.here hx rfl (hb hby d1_127) rfl ?_
        show Steps p.tables e below (T0.setTop (mkF m 128 #[.val (.ref o1), .val (.int at1), s2, s3, s4, s5, .val (.int (0 : Int32)), .val (.int nn), .val (.int (0 : Int32))] [(.int ((bb 2) &&& (255 : Int32))), (.int ((0 : Int32) <<< ((8 : Int32) &&& 31)))])) _
        refine XS.ior X0.here hx rfl (hb hby d1_128) rfl ?_
        show Steps p.tables e below (T0.setTop (mkF m 129 #[.val (.ref o1), .val (.int at1), s2, s3, s4, s5, .val (.int (0 : Int32)), .val (.int nn), .val (.int (0 : Int32))] [(.int (((0 : Int32) <<< ((8 : Int32) &&& 31)) ||| ((bb 2) &&& (255 : Int32))))])) _
        refine XS.istore X0.here hx rfl (hb hby d1_129) rfl (l' := #[.val (.ref o1), .val (.int at1), s2, s3, s4, s5, .val (.int (((0 : Int32) <<< ((8 : Int32) &&& 31)) ||| ((bb 2) &&& (255 : Int32)))), .val (.int nn), .val (.int (0 : Int32))]) rfl ?_
        show Steps p.tables e below (T0.setTop (mkF m 131 #[.val (.ref o1), .val (.int at1), s2, s3, s4, s5, .val (.int (((0 : Int32) <<< ((8 : Int32) &&& 31)) ||| ((bb 2) &&& (255 : Int32)))), .val (.int nn), .val (.int (0 : Int32))] [])) _
        refine XS.iinc X0.here hx rfl (hb hby d1_131) rfl (l' := #[.val (.ref o1), .val (.int at1), s2, s3, s4, s5, .val (.int (((0 : Int32) <<< ((8 : Int32) &&& 31)) ||| ((bb 2) &&& (255 : Int32)))), .val (.int nn), .val (.int ((0 : Int32) + (1 : Int32)))]) rfl ?_
        show Steps p.tables e below (T0.setTop (mkF m 134 #[.val (.ref o1), .val (.int at1), s2, s3, s4, s5, .val (.int (((0 : Int32) <<< ((8 : Int32) &&& 31)) ||| ((bb 2) &&& (255 : Int32)))), .val (.int nn), .val (.int ((0 : Int32) + (1 : Int32)))] [])) _
        refine XS.goto X0.here hx rfl (pc0 := 134) (pc' := 104) rfl (hb hby d1_134) (by decide) (by decide) ?_
        show Steps p.tables e below (T0.setTop (mkF m 104 #[.val (.ref o1), .val (.int at1), s2, s3, s4, s5, .val (.int (((0 : Int32) <<< ((8 : Int32) &&& 31)) ||| ((bb 2) &&& (255 : Int32)))), .val (.int nn), .val (.int ((0 : Int32) + (1 : Int32)))] [])) _
        refine XS.iload X0.here hx rfl (hb hby d1_104) rfl ?_
        show Steps p.tables e below (T0.setTop (mkF m 106 #[.val (.ref o1), .val (.int at1), s2, s3, s4, s5, .val (.int (((0 : Int32) <<< ((8 : Int32) &&& 31)) ||| ((bb 2) &&& (255 : Int32)))), .val (.int nn), .val (.int ((0 : Int32) + (1 : Int32)))] [(.int ((0 : Int32) + (1 : Int32)))])) _
        refine XS.iload X0.here hx rfl (hb hby d1_106) rfl ?_
        show Steps p.tables e below (T0.setTop (mkF m 108 #[.val (.ref o1), .val (.int at1), s2, s3, s4, s5, .val (.int (((0 : Int32) <<< ((8 : Int32) &&& 31)) ||| ((bb 2) &&& (255 : Int32)))), .val (.int nn), .val (.int ((0 : Int32) + (1 : Int32)))] [(.int nn), (.int ((0 : Int32) + (1 : Int32)))])) _
        refine XS.icmpNo X0.here hx rfl (hb hby d1_108) rfl (tlt hc108_2).2.1 ?_
        show Steps p.tables e below (T0.setTop (mkF m 111 #[.val (.ref o1), .val (.int at1), s2, s3, s4, s5, .val (.int (((0 : Int32) <<< ((8 : Int32) &&& 31)) ||| ((bb 2) &&& (255 : Int32)))), .val (.int nn), .val (.int ((0 : Int32) + (1 : Int32)))] [])) _
        refine XS.iload X0.here hx rfl (hb hby d1_111) rfl ?_
        show Steps p.tables e below (T0.setTop (mkF m 113 #[.val (.ref o1), .val (.int at1), s2, s3, s4, s5, .val (.int (((0 : Int32) <<< ((8 : Int32) &&& 31)) ||| ((bb 2) &&& (255 : Int32)))), .val (.int nn), .val (.int ((0 : Int32) + (1 : Int32)))] [(.int (((0 : Int32) <<< ((8 : Int32) &&& 31)) ||| ((bb 2) &&& (255 : Int32))))])) _
        refine XS.bipush X0.here hx rfl (hb hby d1_113) ?_
        show Steps p.tables e below (T0.setTop (mkF m 115 #[.val (.ref o1), .val (.int at1), s2, s3, s4, s5, .val (.int (((0 : Int32) <<< ((8 : Int32) &&& 31)) ||| ((bb 2) &&& (255 : Int32)))), .val (.int nn), .val (.int ((0 : Int32) + (1 : Int32)))] [(.int (8 : Int32)), (.int (((0 : Int32) <<< ((8 : Int32) &&& 31)) ||| ((bb 2) &&& (255 : Int32))))])) _
        refine XS.ishl X0.here hx rfl (hb hby d1_115) rfl ?_
        show Steps p.tables e below (T0.setTop (mkF m 116 #[.val (.ref o1), .val (.int at1), s2, s3, s4, s5, .val (.int (((0 : Int32) <<< ((8 : Int32) &&& 31)) ||| ((bb 2) &&& (255 : Int32)))), .val (.int nn), .val (.int ((0 : Int32) + (1 : Int32)))] [(.int ((((0 : Int32) <<< ((8 : Int32) &&& 31)) ||| ((bb 2) &&& (255 : Int32))) <<< ((8 : Int32) &&& 31)))])) _
        refine XS.aloadN X0.here hx rfl (hb hby d1_116) rfl rfl ?_
        show Steps p.tables e below (T0.setTop (mkF m 117 #[.val (.ref o1), .val (.int at1), s2, s3, s4, s5, .val (.int (((0 : Int32) <<< ((8 : Int32) &&& 31)) ||| ((bb 2) &&& (255 : Int32)))), .val (.int nn), .val (.int ((0 : Int32) + (1 : Int32)))] [(.ref o1), (.int ((((0 : Int32) <<< ((8 : Int32) &&& 31)) ||| ((bb 2) &&& (255 : Int32))) <<< ((8 : Int32) &&& 31)))])) _
        refine XS.iloadN X0.here hx rfl (hb hby d1_117) rfl ?_
        show Steps p.tables e below (T0.setTop (mkF m 118 #[.val (.ref o1), .val (.int at1), s2, s3, s4, s5, .val (.int (((0 : Int32) <<< ((8 : Int32) &&& 31)) ||| ((bb 2) &&& (255 : Int32)))), .val (.int nn), .val (.int ((0 : Int32) + (1 : Int32)))] [(.int at1), (.ref o1), (.int ((((0 : Int32) <<< ((8 : Int32) &&& 31)) ||| ((bb 2) &&& (255 : Int32))) <<< ((8 : Int32) &&& 31)))])) _
        refine XS.iconst X0.here hx rfl (hb hby d1_118) ?_
        show Steps p.tables e below (T0.setTop (mkF m 119 #[.val (.ref o1), .val (.int at1), s2, s3, s4, s5, .val (.int (((0 : Int32) <<< ((8 : Int32) &&& 31)) ||| ((bb 2) &&& (255 : Int32)))), .val (.int nn), .val (.int ((0 : Int32) + (1 : Int32)))] [(.int (2 : Int32)), (.int at1), (.ref o1), (.int ((((0 : Int32) <<< ((8 : Int32) &&& 31)) ||| ((bb 2) &&& (255 : Int32))) <<< ((8 : Int32) &&& 31)))])) _
        refine XS.iadd X0.here hx rfl (hb hby d1_119) rfl ?_
        show Steps p.tables e below (T0.setTop (mkF m 120 #[.val (.ref o1), .val (.int at1), s2, s3, s4, s5, .val (.int (((0 : Int32) <<< ((8 : Int32) &&& 31)) ||| ((bb 2) &&& (255 : Int32)))), .val (.int nn), .val (.int ((0 : Int32) + (1 : Int32)))] [(.int (at1 + (2 : Int32))), (.ref o1), (.int ((((0 : Int32) <<< ((8 : Int32) &&& 31)) ||| ((bb 2) &&& (255 : Int32))) <<< ((8 : Int32) &&& 31)))])) _
        refine XS.iload X0.here hx rfl (hb hby d1_120) rfl ?_
        show Steps p.tables e below (T0.setTop (mkF m 122 #[.val (.ref o1), .val (.int at1), s2, s3, s4, s5, .val (.int (((0 : Int32) <<< ((8 : Int32) &&& 31)) ||| ((bb 2) &&& (255 : Int32)))), .val (.int nn), .val (.int ((0 : Int32) + (1 : Int32)))] [(.int ((0 : Int32) + (1 : Int32))), (.int (at1 + (2 : Int32))), (.ref o1), (.int ((((0 : Int32) <<< ((8 : Int32) &&& 31)) ||| ((bb 2) &&& (255 : Int32))) <<< ((8 : Int32) &&& 31)))])) _
        refine XS.iadd X0.here hx rfl (hb hby d1_122) rfl ?_
        show Steps p.tables e below (T0.setTop (mkF m 123 #[.val (.ref o1), .val (.int at1), s2, s3, s4, s5, .val (.int (((0 : Int32) <<< ((8 : Int32) &&& 31)) ||| ((bb 2) &&& (255 : Int32)))), .val (.int nn), .val (.int ((0 : Int32) + (1 : Int32)))] [(.int ((at1 + (2 : Int32)) + ((0 : Int32) + (1 : Int32)))), (.ref o1), (.int ((((0 : Int32) <<< ((8 : Int32) &&& 31)) ||| ((bb 2) &&& (255 : Int32))) <<< ((8 : Int32) &&& 31)))])) _
        refine X0.baloadBytes hx (j := ((at1 + (2 : Int32)) + ((0 : Int32) + (1 : Int32)))) (v := (.int (bb 3))) (by rw [e0]; exact Ar.1) (State.isArrayOf_alike hZ.alike Ar.2.1) Ar.2.2 PB2.1 PB2.2 (g := (mkF m 123 #[.val (.ref o1), .val (.int at1), s2, s3, s4, s5, .val (.int (((0 : Int32) <<< ((8 : Int32) &&& 31)) ||| ((bb 2) &&& (255 : Int32)))), .val (.int nn), .val (.int ((0 : Int32) + (1 : Int32)))] [(.int ((at1 + (2 : Int32)) + ((0 : Int32) + (1 : Int32)))), (.ref o1), (.int ((((0 : Int32) <<< ((8 : Int32) &&& 31)) ||| ((bb 2) &&& (255 : Int32))) <<< ((8 : Int32) &&& 31)))])) rfl rfl (hb hby d1_123) _ ?_
        show Steps p.tables e below (T0.setTop (mkF m 124 #[.val (.ref o1), .val (.int at1), s2, s3, s4, s5, .val (.int (((0 : Int32) <<< ((8 : Int32) &&& 31)) ||| ((bb 2) &&& (255 : Int32)))), .val (.int nn), .val (.int ((0 : Int32) + (1 : Int32)))] [(.int (bb 3)), (.int ((((0 : Int32) <<< ((8 : Int32) &&& 31)) ||| ((bb 2) &&& (255 : Int32))) <<< ((8 : Int32) &&& 31)))])) _
        refine XS.sipush X0.here hx rfl (hb hby d1_124) ?_
        show Steps p.tables e below (T0.setTop (mkF m 127 #[.val (.ref o1), .val (.int at1), s2, s3, s4, s5, .val (.int (((0 : Int32) <<< ((8 : Int32) &&& 31)) ||| ((bb 2) &&& (255 : Int32)))), .val (.int nn), .val (.int ((0 : Int32) + (1 : Int32)))] [(.int (255 : Int32)), (.int (bb 3)), (.int ((((0 : Int32) <<< ((8 : Int32) &&& 31)) ||| ((bb 2) &&& (255 : Int32))) <<< ((8 : Int32) &&& 31)))])) _
        refine XS.iand X0.here hx rfl (hb hby d1_127) rfl ?_
        show Steps p.tables e below (T0.setTop (mkF m 128 #[.val (.ref o1), .val (.int at1), s2, s3, s4, s5, .val (.int (((0 : Int32) <<< ((8 : Int32) &&& 31)) ||| ((bb 2) &&& (255 : Int32)))), .val (.int nn), .val (.int ((0 : Int32) + (1 : Int32)))] [(.int ((bb 3) &&& (255 : Int32))), (.int ((((0 : Int32) <<< ((8 : Int32) &&& 31)) ||| ((bb 2) &&& (255 : Int32))) <<< ((8 : Int32) &&& 31)))])) _
        refine XS.ior X0.here hx rfl (hb hby d1_128) rfl ?_
        show Steps p.tables e below (T0.setTop (mkF m 129 #[.val (.ref o1), .val (.int at1), s2, s3, s4, s5, .val (.int (((0 : Int32) <<< ((8 : Int32) &&& 31)) ||| ((bb 2) &&& (255 : Int32)))), .val (.int nn), .val (.int ((0 : Int32) + (1 : Int32)))] [(.int (((((0 : Int32) <<< ((8 : Int32) &&& 31)) ||| ((bb 2) &&& (255 : Int32))) <<< ((8 : Int32) &&& 31)) ||| ((bb 3) &&& (255 : Int32))))])) _
        refine XS.istore X0.here hx rfl (hb hby d1_129) rfl (l' := #[.val (.ref o1), .val (.int at1), s2, s3, s4, s5, .val (.int (((((0 : Int32) <<< ((8 : Int32) &&& 31)) ||| ((bb 2) &&& (255 : Int32))) <<< ((8 : Int32) &&& 31)) ||| ((bb 3) &&& (255 : Int32)))), .val (.int nn), .val (.int ((0 : Int32) + (1 : Int32)))]) rfl ?_
        show Steps p.tables e below (T0.setTop (mkF m 131 #[.val (.ref o1), .val (.int at1), s2, s3, s4, s5, .val (.int (((((0 : Int32) <<< ((8 : Int32) &&& 31)) ||| ((bb 2) &&& (255 : Int32))) <<< ((8 : Int32) &&& 31)) ||| ((bb 3) &&& (255 : Int32)))), .val (.int nn), .val (.int ((0 : Int32) + (1 : Int32)))] [])) _
        refine XS.iinc X0.here hx rfl (hb hby d1_131) rfl (l' := #[.val (.ref o1), .val (.int at1), s2, s3, s4, s5, .val (.int (((((0 : Int32) <<< ((8 : Int32) &&& 31)) ||| ((bb 2) &&& (255 : Int32))) <<< ((8 : Int32) &&& 31)) ||| ((bb 3) &&& (255 : Int32)))), .val (.int nn), .val (.int (((0 : Int32) + (1 : Int32)) + (1 : Int32)))]) rfl ?_
        show Steps p.tables e below (T0.setTop (mkF m 134 #[.val (.ref o1), .val (.int at1), s2, s3, s4, s5, .val (.int (((((0 : Int32) <<< ((8 : Int32) &&& 31)) ||| ((bb 2) &&& (255 : Int32))) <<< ((8 : Int32) &&& 31)) ||| ((bb 3) &&& (255 : Int32)))), .val (.int nn), .val (.int (((0 : Int32) + (1 : Int32)) + (1 : Int32)))] [])) _
        refine XS.goto X0.here hx rfl (pc0 := 134) (pc' := 104) rfl (hb hby d1_134) (by decide) (by decide) ?_
        show Steps p.tables e below (T0.setTop (mkF m 104 #[.val (.ref o1), .val (.int at1), s2, s3, s4, s5, .val (.int (((((0 : Int32) <<< ((8 : Int32) &&& 31)) ||| ((bb 2) &&& (255 : Int32))) <<< ((8 : Int32) &&& 31)) ||| ((bb 3) &&& (255 : Int32)))), .val (.int nn), .val (.int (((0 : Int32) + (1 : Int32)) + (1 : Int32)))] [])) _
        refine XS.iload X0.here hx rfl (hb hby d1_104) rfl ?_
        show Steps p.tables e below (T0.setTop (mkF m 106 #[.val (.ref o1), .val (.int at1), s2, s3, s4, s5, .val (.int (((((0 : Int32) <<< ((8 : Int32) &&& 31)) ||| ((bb 2) &&& (255 : Int32))) <<< ((8 : Int32) &&& 31)) ||| ((bb 3) &&& (255 : Int32)))), .val (.int nn), .val (.int (((0 : Int32) + (1 : Int32)) + (1 : Int32)))] [(.int (((0 : Int32) + (1 : Int32)) + (1 : Int32)))])) _
        refine XS.iload X0.here hx rfl (hb hby d1_106) rfl ?_
        show Steps p.tables e below (T0.setTop (mkF m 108 #[.val (.ref o1), .val (.int at1), s2, s3, s4, s5, .val (.int (((((0 : Int32) <<< ((8 : Int32) &&& 31)) ||| ((bb 2) &&& (255 : Int32))) <<< ((8 : Int32) &&& 31)) ||| ((bb 3) &&& (255 : Int32)))), .val (.int nn), .val (.int (((0 : Int32) + (1 : Int32)) + (1 : Int32)))] [(.int nn), (.int (((0 : Int32) + (1 : Int32)) + (1 : Int32)))])) _
        refine XS.icmpNo X0.here hx rfl (hb hby d1_108) rfl (tlt hc108_3).2.1 ?_
        show Steps p.tables e below (T0.setTop (mkF m 111 #[.val (.ref o1), .val (.int at1), s2, s3, s4, s5, .val (.int (((((0 : Int32) <<< ((8 : Int32) &&& 31)) ||| ((bb 2) &&& (255 : Int32))) <<< ((8 : Int32) &&& 31)) ||| ((bb 3) &&& (255 : Int32)))), .val (.int nn), .val (.int (((0 : Int32) + (1 : Int32)) + (1 : Int32)))] [])) _
        refine XS.iload X0.here hx rfl (hb hby d1_111) rfl ?_
        show Steps p.tables e below (T0.setTop (mkF m 113 #[.val (.ref o1), .val (.int at1), s2, s3, s4, s5, .val (.int (((((0 : Int32) <<< ((8 : Int32) &&& 31)) ||| ((bb 2) &&& (255 : Int32))) <<< ((8 : Int32) &&& 31)) ||| ((bb 3) &&& (255 : Int32)))), .val (.int nn), .val (.int (((0 : Int32) + (1 : Int32)) + (1 : Int32)))] [(.int (((((0 : Int32) <<< ((8 : Int32) &&& 31)) ||| ((bb 2) &&& (255 : Int32))) <<< ((8 : Int32) &&& 31)) ||| ((bb 3) &&& (255 : Int32))))])) _
        refine XS.bipush X0.here hx rfl (hb hby d1_113) ?_
        show Steps p.tables e below (T0.setTop (mkF m 115 #[.val (.ref o1), .val (.int at1), s2, s3, s4, s5, .val (.int (((((0 : Int32) <<< ((8 : Int32) &&& 31)) ||| ((bb 2) &&& (255 : Int32))) <<< ((8 : Int32) &&& 31)) ||| ((bb 3) &&& (255 : Int32)))), .val (.int nn), .val (.int (((0 : Int32) + (1 : Int32)) + (1 : Int32)))] [(.int (8 : Int32)), (.int (((((0 : Int32) <<< ((8 : Int32) &&& 31)) ||| ((bb 2) &&& (255 : Int32))) <<< ((8 : Int32) &&& 31)) ||| ((bb 3) &&& (255 : Int32))))])) _
        refine XS.ishl X0.here hx rfl (hb hby d1_115) rfl ?_
        show Steps p.tables e below (T0.setTop (mkF m 116 #[.val (.ref o1), .val (.int at1), s2, s3, s4, s5, .val (.int (((((0 : Int32) <<< ((8 : Int32) &&& 31)) ||| ((bb 2) &&& (255 : Int32))) <<< ((8 : Int32) &&& 31)) ||| ((bb 3) &&& (255 : Int32)))), .val (.int nn), .val (.int (((0 : Int32) + (1 : Int32)) + (1 : Int32)))] [(.int ((((((0 : Int32) <<< ((8 : Int32) &&& 31)) ||| ((bb 2) &&& (255 : Int32))) <<< ((8 : Int32) &&& 31)) ||| ((bb 3) &&& (255 : Int32))) <<< ((8 : Int32) &&& 31)))])) _
        refine XS.aloadN X0.here hx rfl (hb hby d1_116) rfl rfl ?_
        show Steps p.tables e below (T0.setTop (mkF m 117 #[.val (.ref o1), .val (.int at1), s2, s3, s4, s5, .val (.int (((((0 : Int32) <<< ((8 : Int32) &&& 31)) ||| ((bb 2) &&& (255 : Int32))) <<< ((8 : Int32) &&& 31)) ||| ((bb 3) &&& (255 : Int32)))), .val (.int nn), .val (.int (((0 : Int32) + (1 : Int32)) + (1 : Int32)))] [(.ref o1), (.int ((((((0 : Int32) <<< ((8 : Int32) &&& 31)) ||| ((bb 2) &&& (255 : Int32))) <<< ((8 : Int32) &&& 31)) ||| ((bb 3) &&& (255 : Int32))) <<< ((8 : Int32) &&& 31)))])) _
        refine XS.iloadN X0.here hx rfl (hb hby d1_117) rfl ?_
        show Steps p.tables e below (T0.setTop (mkF m 118 #[.val (.ref o1), .val (.int at1), s2, s3, s4, s5, .val (.int (((((0 : Int32) <<< ((8 : Int32) &&& 31)) ||| ((bb 2) &&& (255 : Int32))) <<< ((8 : Int32) &&& 31)) ||| ((bb 3) &&& (255 : Int32)))), .val (.int nn), .val (.int (((0 : Int32) + (1 : Int32)) + (1 : Int32)))] [(.int at1), (.ref o1), (.int ((((((0 : Int32) <<< ((8 : Int32) &&& 31)) ||| ((bb 2) &&& (255 : Int32))) <<< ((8 : Int32) &&& 31)) ||| ((bb 3) &&& (255 : Int32))) <<< ((8 : Int32) &&& 31)))])) _
        refine XS.iconst X0.here hx rfl (hb hby d1_118) ?_
        show Steps p.tables e below (T0.setTop (mkF m 119 #[.val (.ref o1), .val (.int at1), s2, s3, s4, s5, .val (.int (((((0 : Int32) <<< ((8 : Int32) &&& 31)) ||| ((bb 2) &&& (255 : Int32))) <<< ((8 : Int32) &&& 31)) ||| ((bb 3) &&& (255 : Int32)))), .val (.int nn), .val (.int (((0 : Int32) + (1 : Int32)) + (1 : Int32)))] [(.int (2 : Int32)), (.int at1), (.ref o1), (.int ((((((0 : Int32) <<< ((8 : Int32) &&& 31)) ||| ((bb 2) &&& (255 : Int32))) <<< ((8 : Int32) &&& 31)) ||| ((bb 3) &&& (255 : Int32))) <<< ((8 : Int32) &&& 31)))])) _
        refine XS.iadd X0.here hx rfl (hb hby d1_119) rfl ?_
        show Steps p.tables e below (T0.setTop (mkF m 120 #[.val (.ref o1), .val (.int at1), s2, s3, s4, s5, .val (.int (((((0 : Int32) <<< ((8 : Int32) &&& 31)) ||| ((bb 2) &&& (255 : Int32))) <<< ((8 : Int32) &&& 31)) ||| ((bb 3) &&& (255 : Int32)))), .val (.int nn), .val (.int (((0 : Int32) + (1 : Int32)) + (1 : Int32)))] [(.int (at1 + (2 : Int32))), (.ref o1), (.int ((((((0 : Int32) <<< ((8 : Int32) &&& 31)) ||| ((bb 2) &&& (255 : Int32))) <<< ((8 : Int32) &&& 31)) ||| ((bb 3) &&& (255 : Int32))) <<< ((8 : Int32) &&& 31)))])) _
        refine XS.iload X0.here hx rfl (hb hby d1_120) rfl ?_
        show Steps p.tables e below (T0.setTop (mkF m 122 #[.val (.ref o1), .val (.int at1), s2, s3, s4, s5, .val (.int (((((0 : Int32) <<< ((8 : Int32) &&& 31)) ||| ((bb 2) &&& (255 : Int32))) <<< ((8 : Int32) &&& 31)) ||| ((bb 3) &&& (255 : Int32)))), .val (.int nn), .val (.int (((0 : Int32) + (1 : Int32)) + (1 : Int32)))] [(.int (((0 : Int32) + (1 : Int32)) + (1 : Int32))), (.int (at1 + (2 : Int32))), (.ref o1), (.int ((((((0 : Int32) <<< ((8 : Int32) &&& 31)) ||| ((bb 2) &&& (255 : Int32))) <<< ((8 : Int32) &&& 31)) ||| ((bb 3) &&& (255 : Int32))) <<< ((8 : Int32) &&& 31)))])) _
        refine XS.iadd X0.here hx rfl (hb hby d1_122) rfl ?_
        show Steps p.tables e below (T0.setTop (mkF m 123 #[.val (.ref o1), .val (.int at1), s2, s3, s4, s5, .val (.int (((((0 : Int32) <<< ((8 : Int32) &&& 31)) ||| ((bb 2) &&& (255 : Int32))) <<< ((8 : Int32) &&& 31)) ||| ((bb 3) &&& (255 : Int32)))), .val (.int nn), .val (.int (((0 : Int32) + (1 : Int32)) + (1 : Int32)))] [(.int ((at1 + (2 : Int32)) + (((0 : Int32) + (1 : Int32)) + (1 : Int32)))), (.ref o1), (.int ((((((0 : Int32) <<< ((8 : Int32) &&& 31)) ||| ((bb 2) &&& (255 : Int32))) <<< ((8 : Int32) &&& 31)) ||| ((bb 3) &&& (255 : Int32))) <<< ((8 : Int32) &&& 31)))])) _
        refine X0.baloadBytes hx (j := ((at1 + (2 : Int32)) + (((0 : Int32) + (1 : Int32)) + (1 : Int32)))) (v := (.int (bb 4))) (by rw [e0]; exact Ar.1) (State.isArrayOf_alike hZ.alike Ar.2.1) Ar.2.2 PB3.1 PB3.2 (g := (mkF m 123 #[.val (.ref o1), .val (.int at1), s2, s3, s4, s5, .val (.int (((((0 : Int32) <<< ((8 : Int32) &&& 31)) ||| ((bb 2) &&& (255 : Int32))) <<< ((8 : Int32) &&& 31)) ||| ((bb 3) &&& (255 : Int32)))), .val (.int nn), .val (.int (((0 : Int32) + (1 : Int32)) + (1 : Int32)))] [(.int ((at1 + (2 : Int32)) + (((0 : Int32) + (1 : Int32)) + (1 : Int32)))), (.ref o1), (.int ((((((0 : Int32) <<< ((8 : Int32) &&& 31)) ||| ((bb 2) &&& (255 : Int32))) <<< ((8 : Int32) &&& 31)) ||| ((bb 3) &&& (255 : Int32))) <<< ((8 : Int32) &&& 31)))])) rfl rfl (hb hby d1_123) _ ?_
        show Steps p.tables e below (T0.setTop (mkF m 124 #[.val (.ref o1), .val (.int at1), s2, s3, s4, s5, .val (.int (((((0 : Int32) <<< ((8 : Int32) &&& 31)) ||| ((bb 2) &&& (255 : Int32))) <<< ((8 : Int32) &&& 31)) ||| ((bb 3) &&& (255 : Int32)))), .val (.int nn), .val (.int (((0 : Int32) + (1 : Int32)) + (1 : Int32)))] [(.int (bb 4)), (.int ((((((0 : Int32) <<< ((8 : Int32) &&& 31)) ||| ((bb 2) &&& (255 : Int32))) <<< ((8 : Int32) &&& 31)) ||| ((bb 3) &&& (255 : Int32))) <<< ((8 : Int32) &&& 31)))])) _
        refine XS.sipush X0.here hx rfl (hb hby d1_124) ?_
        show Steps p.tables e below (T0.setTop (mkF m 127 #[.val (.ref o1), .val (.int at1), s2, s3, s4, s5, .val (.int (((((0 : Int32) <<< ((8 : Int32) &&& 31)) ||| ((bb 2) &&& (255 : Int32))) <<< ((8 : Int32) &&& 31)) ||| ((bb 3) &&& (255 : Int32)))), .val (.int nn), .val (.int (((0 : Int32) + (1 : Int32)) + (1 : Int32)))] [(.int (255 : Int32)), (.int (bb 4)), (.int ((((((0 : Int32) <<< ((8 : Int32) &&& 31)) ||| ((bb 2) &&& (255 : Int32))) <<< ((8 : Int32) &&& 31)) ||| ((bb 3) &&& (255 : Int32))) <<< ((8 : Int32) &&& 31)))])) _
        refine XS.iand X0.here hx rfl (hb hby d1_127) rfl ?_
        show Steps p.tables e below (T0.setTop (mkF m 128 #[.val (.ref o1), .val (.int at1), s2, s3, s4, s5, .val (.int (((((0 : Int32) <<< ((8 : Int32) &&& 31)) ||| ((bb 2) &&& (255 : Int32))) <<< ((8 : Int32) &&& 31)) ||| ((bb 3) &&& (255 : Int32)))), .val (.int nn), .val (.int (((0 : Int32) + (1 : Int32)) + (1 : Int32)))] [(.int ((bb 4) &&& (255 : Int32))), (.int ((((((0 : Int32) <<< ((8 : Int32) &&& 31)) ||| ((bb 2) &&& (255 : Int32))) <<< ((8 : Int32) &&& 31)) ||| ((bb 3) &&& (255 : Int32))) <<< ((8 : Int32) &&& 31)))])) _
        refine XS.ior X0.here hx rfl (hb hby d1_128) rfl ?_
        show Steps p.tables e below (T0.setTop (mkF m 129 #[.val (.ref o1), .val (.int at1), s2, s3, s4, s5, .val (.int (((((0 : Int32) <<< ((8 : Int32) &&& 31)) ||| ((bb 2) &&& (255 : Int32))) <<< ((8 : Int32) &&& 31)) ||| ((bb 3) &&& (255 : Int32)))), .val (.int nn), .val (.int (((0 : Int32) + (1 : Int32)) + (1 : Int32)))] [(.int (((((((0 : Int32) <<< ((8 : Int32) &&& 31)) ||| ((bb 2) &&& (255 : Int32))) <<< ((8 : Int32) &&& 31)) ||| ((bb 3) &&& (255 : Int32))) <<< ((8 : Int32) &&& 31)) ||| ((bb 4) &&& (255 : Int32))))])) _
        refine XS.istore X0.here hx rfl (hb hby d1_129) rfl (l' := #[.val (.ref o1), .val (.int at1), s2, s3, s4, s5, .val (.int (((((((0 : Int32) <<< ((8 : Int32) &&& 31)) ||| ((bb 2) &&& (255 : Int32))) <<< ((8 : Int32) &&& 31)) ||| ((bb 3) &&& (255 : Int32))) <<< ((8 : Int32) &&& 31)) ||| ((bb 4) &&& (255 : Int32)))), .val (.int nn), .val (.int (((0 : Int32) + (1 : Int32)) + (1 : Int32)))]) rfl ?_
        show Steps p.tables e below (T0.setTop (mkF m 131 #[.val (.ref o1), .val (.int at1), s2, s3, s4, s5, .val (.int (((((((0 : Int32) <<< ((8 : Int32) &&& 31)) ||| ((bb 2) &&& (255 : Int32))) <<< ((8 : Int32) &&& 31)) ||| ((bb 3) &&& (255 : Int32))) <<< ((8 : Int32) &&& 31)) ||| ((bb 4) &&& (255 : Int32)))), .val (.int nn), .val (.int (((0 : Int32) + (1 : Int32)) + (1 : Int32)))] [])) _
        refine XS.iinc X0.here hx rfl (hb hby d1_131) rfl (l' := #[.val (.ref o1), .val (.int at1), s2, s3, s4, s5, .val (.int (((((((0 : Int32) <<< ((8 : Int32) &&& 31)) ||| ((bb 2) &&& (255 : Int32))) <<< ((8 : Int32) &&& 31)) ||| ((bb 3) &&& (255 : Int32))) <<< ((8 : Int32) &&& 31)) ||| ((bb 4) &&& (255 : Int32)))), .val (.int nn), .val (.int ((((0 : Int32) + (1 : Int32)) + (1 : Int32)) + (1 : Int32)))]) rfl ?_
        show Steps p.tables e below (T0.setTop (mkF m 134 #[.val (.ref o1), .val (.int at1), s2, s3, s4, s5, .val (.int (((((((0 : Int32) <<< ((8 : Int32) &&& 31)) ||| ((bb 2) &&& (255 : Int32))) <<< ((8 : Int32) &&& 31)) ||| ((bb 3) &&& (255 : Int32))) <<< ((8 : Int32) &&& 31)) ||| ((bb 4) &&& (255 : Int32)))), .val (.int nn), .val (.int ((((0 : Int32) + (1 : Int32)) + (1 : Int32)) + (1 : Int32)))] [])) _
        refine XS.goto X0.here hx rfl (pc0 := 134) (pc' := 104) rfl (hb hby d1_134) (by decide) (by decide) ?_
        show Steps p.tables e below (T0.setTop (mkF m 104 #[.val (.ref o1), .val (.int at1), s2, s3, s4, s5, .val (.int (((((((0 : Int32) <<< ((8 : Int32) &&& 31)) ||| ((bb 2) &&& (255 : Int32))) <<< ((8 : Int32) &&& 31)) ||| ((bb 3) &&& (255 : Int32))) <<< ((8 : Int32) &&& 31)) ||| ((bb 4) &&& (255 : Int32)))), .val (.int nn), .val (.int ((((0 : Int32) + (1 : Int32)) + (1 : Int32)) + (1 : Int32)))] [])) _
        refine XS.iload X0.here hx rfl (hb hby d1_104) rfl ?_
        show Steps p.tables e below (T0.setTop (mkF m 106 #[.val (.ref o1), .val (.int at1), s2, s3, s4, s5, .val (.int (((((((0 : Int32) <<< ((8 : Int32) &&& 31)) ||| ((bb 2) &&& (255 : Int32))) <<< ((8 : Int32) &&& 31)) ||| ((bb 3) &&& (255 : Int32))) <<< ((8 : Int32) &&& 31)) ||| ((bb 4) &&& (255 : Int32)))), .val (.int nn), .val (.int ((((0 : Int32) + (1 : Int32)) + (1 : Int32)) + (1 : Int32)))] [(.int ((((0 : Int32) + (1 : Int32)) + (1 : Int32)) + (1 : Int32)))])) _
        refine XS.iload X0.here hx rfl (hb hby d1_106) rfl ?_
        show Steps p.tables e below (T0.setTop (mkF m 108 #[.val (.ref o1), .val (.int at1), s2, s3, s4, s5, .val (.int (((((((0 : Int32) <<< ((8 : Int32) &&& 31)) ||| ((bb 2) &&& (255 : Int32))) <<< ((8 : Int32) &&& 31)) ||| ((bb 3) &&& (255 : Int32))) <<< ((8 : Int32) &&& 31)) ||| ((bb 4) &&& (255 : Int32)))), .val (.int nn), .val (.int ((((0 : Int32) + (1 : Int32)) + (1 : Int32)) + (1 : Int32)))] [(.int nn), (.int ((((0 : Int32) + (1 : Int32)) + (1 : Int32)) + (1 : Int32)))])) _
        refine XS.icmpNo X0.here hx rfl (hb hby d1_108) rfl (tlt hc108_4).2.1 ?_
        show Steps p.tables e below (T0.setTop (mkF m 111 #[.val (.ref o1), .val (.int at1), s2, s3, s4, s5, .val (.int (((((((0 : Int32) <<< ((8 : Int32) &&& 31)) ||| ((bb 2) &&& (255 : Int32))) <<< ((8 : Int32) &&& 31)) ||| ((bb 3) &&& (255 : Int32))) <<< ((8 : Int32) &&& 31)) ||| ((bb 4) &&& (255 : Int32)))), .val (.int nn), .val (.int ((((0 : Int32) + (1 : Int32)) + (1 : Int32)) + (1 : Int32)))] [])) _
        refine XS.iload X0.here hx rfl (hb hby d1_111) rfl ?_
        show Steps p.tables e below (T0.setTop (mkF m 113 #[.val (.ref o1), .val (.int at1), s2, s3, s4, s5, .val (.int (((((((0 : Int32) <<< ((8 : Int32) &&& 31)) ||| ((bb 2) &&& (255 : Int32))) <<< ((8 : Int32) &&& 31)) ||| ((bb 3) &&& (255 : Int32))) <<< ((8 : Int32) &&& 31)) ||| ((bb 4) &&& (255 : Int32)))), .val (.int nn), .val (.int ((((0 : Int32) + (1 : Int32)) + (1 : Int32)) + (1 : Int32)))] [(.int (((((((0 : Int32) <<< ((8 : Int32) &&& 31)) ||| ((bb 2) &&& (255 : Int32))) <<< ((8 : Int32) &&& 31)) ||| ((bb 3) &&& (255 : Int32))) <<< ((8 : Int32) &&& 31)) ||| ((bb 4) &&& (255 : Int32))))])) _
        refine XS.bipush X0.here hx rfl (hb hby d1_113) ?_
        show Steps p.tables e below (T0.setTop (mkF m 115 #[.val (.ref o1), .val (.int at1), s2, s3, s4, s5, .val (.int (((((((0 : Int32) <<< ((8 : Int32) &&& 31)) ||| ((bb 2) &&& (255 : Int32))) <<< ((8 : Int32) &&& 31)) ||| ((bb 3) &&& (255 : Int32))) <<< ((8 : Int32) &&& 31)) ||| ((bb 4) &&& (255 : Int32)))), .val (.int nn), .val (.int ((((0 : Int32) + (1 : Int32)) + (1 : Int32)) + (1 : Int32)))] [(.int (8 : Int32)), (.int (((((((0 : Int32) <<< ((8 : Int32) &&& 31)) ||| ((bb 2) &&& (255 : Int32))) <<< ((8 : Int32) &&& 31)) ||| ((bb 3) &&& (255 : Int32))) <<< ((8 : Int32) &&& 31)) ||| ((bb 4) &&& (255 : Int32))))])) _
        refine XS.ishl X0.here hx rfl (hb hby d1_115) rfl ?_
        show Steps p.tables e below (T0.setTop (mkF m 116 #[.val (.ref o1), .val (.int at1), s2, s3, s4, s5, .val (.int (((((((0 : Int32) <<< ((8 : Int32) &&& 31)) ||| ((bb 2) &&& (255 : Int32))) <<< ((8 : Int32) &&& 31)) ||| ((bb 3) &&& (255 : Int32))) <<< ((8 : Int32) &&& 31)) ||| ((bb 4) &&& (255 : Int32)))), .val (.int nn), .val (.int ((((0 : Int32) + (1 : Int32)) + (1 : Int32)) + (1 : Int32)))] [(.int ((((((((0 : Int32) <<< ((8 : Int32) &&& 31)) ||| ((bb 2) &&& (255 : Int32))) <<< ((8 : Int32) &&& 31)) ||| ((bb 3) &&& (255 : Int32))) <<< ((8 : Int32) &&& 31)) ||| ((bb 4) &&& (255 : Int32))) <<< ((8 : Int32) &&& 31)))])) _
        refine XS.aloadN X0.here hx rfl (hb hby d1_116) rfl rfl ?_
        show Steps p.tables e below (T0.setTop (mkF m 117 #[.val (.ref o1), .val (.int at1), s2, s3, s4, s5, .val (.int (((((((0 : Int32) <<< ((8 : Int32) &&& 31)) ||| ((bb 2) &&& (255 : Int32))) <<< ((8 : Int32) &&& 31)) ||| ((bb 3) &&& (255 : Int32))) <<< ((8 : Int32) &&& 31)) ||| ((bb 4) &&& (255 : Int32)))), .val (.int nn), .val (.int ((((0 : Int32) + (1 : Int32)) + (1 : Int32)) + (1 : Int32)))] [(.ref o1), (.int ((((((((0 : Int32) <<< ((8 : Int32) &&& 31)) ||| ((bb 2) &&& (255 : Int32))) <<< ((8 : Int32) &&& 31)) ||| ((bb 3) &&& (255 : Int32))) <<< ((8 : Int32) &&& 31)) ||| ((bb 4) &&& (255 : Int32))) <<< ((8 : Int32) &&& 31)))])) _
        refine XS.iloadN X0.here hx rfl (hb hby d1_117) rfl ?_
        show Steps p.tables e below (T0.setTop (mkF m 118 #[.val (.ref o1), .val (.int at1), s2, s3, s4, s5, .val (.int (((((((0 : Int32) <<< ((8 : Int32) &&& 31)) ||| ((bb 2) &&& (255 : Int32))) <<< ((8 : Int32) &&& 31)) ||| ((bb 3) &&& (255 : Int32))) <<< ((8 : Int32) &&& 31)) ||| ((bb 4) &&& (255 : Int32)))), .val (.int nn), .val (.int ((((0 : Int32) + (1 : Int32)) + (1 : Int32)) + (1 : Int32)))] [(.int at1), (.ref o1), (.int ((((((((0 : Int32) <<< ((8 : Int32) &&& 31)) ||| ((bb 2) &&& (255 : Int32))) <<< ((8 : Int32) &&& 31)) ||| ((bb 3) &&& (255 : Int32))) <<< ((8 : Int32) &&& 31)) ||| ((bb 4) &&& (255 : Int32))) <<< ((8 : Int32) &&& 31)))])) _
        refine XS.iconst X0.here hx rfl (hb hby d1_118) ?_
        show Steps p.tables e below (T0.setTop (mkF m 119 #[.val (.ref o1), .val (.int at1), s2, s3, s4, s5, .val (.int (((((((0 : Int32) <<< ((8 : Int32) &&& 31)) ||| ((bb 2) &&& (255 : Int32))) <<< ((8 : Int32) &&& 31)) ||| ((bb 3) &&& (255 : Int32))) <<< ((8 : Int32) &&& 31)) ||| ((bb 4) &&& (255 : Int32)))), .val (.int nn), .val (.int ((((0 : Int32) + (1 : Int32)) + (1 : Int32)) + (1 : Int32)))] [(.int (2 : Int32)), (.int at1), (.ref o1), (.int ((((((((0 : Int32) <<< ((8 : Int32) &&& 31)) ||| ((bb 2) &&& (255 : Int32))) <<< ((8 : Int32) &&& 31)) ||| ((bb 3) &&& (255 : Int32))) <<< ((8 : Int32) &&& 31)) ||| ((bb 4) &&& (255 : Int32))) <<< ((8 : Int32) &&& 31)))])) _
        refine XS.iadd X0.here hx rfl (hb hby d1_119) rfl ?_
        show Steps p.tables e below (T0.setTop (mkF m 120 #[.val (.ref o1), .val (.int at1), s2, s3, s4, s5, .val (.int (((((((0 : Int32) <<< ((8 : Int32) &&& 31)) ||| ((bb 2) &&& (255 : Int32))) <<< ((8 : Int32) &&& 31)) ||| ((bb 3) &&& (255 : Int32))) <<< ((8 : Int32) &&& 31)) ||| ((bb 4) &&& (255 : Int32)))), .val (.int nn), .val (.int ((((0 : Int32) + (1 : Int32)) + (1 : Int32)) + (1 : Int32)))] [(.int (at1 + (2 : Int32))), (.ref o1), (.int ((((((((0 : Int32) <<< ((8 : Int32) &&& 31)) ||| ((bb 2) &&& (255 : Int32))) <<< ((8 : Int32) &&& 31)) ||| ((bb 3) &&& (255 : Int32))) <<< ((8 : Int32) &&& 31)) ||| ((bb 4) &&& (255 : Int32))) <<< ((8 : Int32) &&& 31)))])) _
        refine XS.iload X0.here hx rfl (hb hby d1_120) rfl ?_
        show Steps p.tables e below (T0.setTop (mkF m 122 #[.val (.ref o1), .val (.int at1), s2, s3, s4, s5, .val (.int (((((((0 : Int32) <<< ((8 : Int32) &&& 31)) ||| ((bb 2) &&& (255 : Int32))) <<< ((8 : Int32) &&& 31)) ||| ((bb 3) &&& (255 : Int32))) <<< ((8 : Int32) &&& 31)) ||| ((bb 4) &&& (255 : Int32)))), .val (.int nn), .val (.int ((((0 : Int32) + (1 : Int32)) + (1 : Int32)) + (1 : Int32)))] [(.int ((((0 : Int32) + (1 : Int32)) + (1 : Int32)) + (1 : Int32))), (.int (at1 + (2 : Int32))), (.ref o1), (.int ((((((((0 : Int32) <<< ((8 : Int32) &&& 31)) ||| ((bb 2) &&& (255 : Int32))) <<< ((8 : Int32) &&& 31)) ||| ((bb 3) &&& (255 : Int32))) <<< ((8 : Int32) &&& 31)) ||| ((bb 4) &&& (255 : Int32))) <<< ((8 : Int32) &&& 31)))])) _
        refine XS.iadd X0.here hx rfl (hb hby d1_122) rfl ?_
        show Steps p.tables e below (T0.setTop (mkF m 123 #[.val (.ref o1), .val (.int at1), s2, s3, s4, s5, .val (.int (((((((0 : Int32) <<< ((8 : Int32) &&& 31)) ||| ((bb 2) &&& (255 : Int32))) <<< ((8 : Int32) &&& 31)) ||| ((bb 3) &&& (255 : Int32))) <<< ((8 : Int32) &&& 31)) ||| ((bb 4) &&& (255 : Int32)))), .val (.int nn), .val (.int ((((0 : Int32) + (1 : Int32)) + (1 : Int32)) + (1 : Int32)))] [(.int ((at1 + (2 : Int32)) + ((((0 : Int32) + (1 : Int32)) + (1 : Int32)) + (1 : Int32)))), (.ref o1), (.int ((((((((0 : Int32) <<< ((8 : Int32) &&& 31)) ||| ((bb 2) &&& (255 : Int32))) <<< ((8 : Int32) &&& 31)) ||| ((bb 3) &&& (255 : Int32))) <<< ((8 : Int32) &&& 31)) ||| ((bb 4) &&& (255 : Int32))) <<< ((8 : Int32) &&& 31)))])) _
        refine X0.baloadBytes hx (j := ((at1 + (2 : Int32)) + ((((0 : Int32) + (1 : Int32)) + (1 : Int32)) + (1 : Int32)))) (v := (.int (bb 5))) (by rw [e0]; exact Ar.1) (State.isArrayOf_alike hZ.alike Ar.2.1) Ar.2.2 PB4.1 PB4.2 (g := (mkF m 123 #[.val (.ref o1), .val (.int at1), s2, s3, s4, s5, .val (.int (((((((0 : Int32) <<< ((8 : Int32) &&& 31)) ||| ((bb 2) &&& (255 : Int32))) <<< ((8 : Int32) &&& 31)) ||| ((bb 3) &&& (255 : Int32))) <<< ((8 : Int32) &&& 31)) ||| ((bb 4) &&& (255 : Int32)))), .val (.int nn), .val (.int ((((0 : Int32) + (1 : Int32)) + (1 : Int32)) + (1 : Int32)))] [(.int ((at1 + (2 : Int32)) + ((((0 : Int32) + (1 : Int32)) + (1 : Int32)) + (1 : Int32)))), (.ref o1), (.int ((((((((0 : Int32) <<< ((8 : Int32) &&& 31)) ||| ((bb 2) &&& (255 : Int32))) <<< ((8 : Int32) &&& 31)) ||| ((bb 3) &&& (255 : Int32))) <<< ((8 : Int32) &&& 31)) ||| ((bb 4) &&& (255 : Int32))) <<< ((8 : Int32) &&& 31)))])) rfl rfl (hb hby d1_123) _ ?_
        show Steps p.tables e below (T0.setTop (mkF m 124 #[.val (.ref o1), .val (.int at1), s2, s3, s4, s5, .val (.int (((((((0 : Int32) <<< ((8 : Int32) &&& 31)) ||| ((bb 2) &&& (255 : Int32))) <<< ((8 : Int32) &&& 31)) ||| ((bb 3) &&& (255 : Int32))) <<< ((8 : Int32) &&& 31)) ||| ((bb 4) &&& (255 : Int32)))), .val (.int nn), .val (.int ((((0 : Int32) + (1 : Int32)) + (1 : Int32)) + (1 : Int32)))] [(.int (bb 5)), (.int ((((((((0 : Int32) <<< ((8 : Int32) &&& 31)) ||| ((bb 2) &&& (255 : Int32))) <<< ((8 : Int32) &&& 31)) ||| ((bb 3) &&& (255 : Int32))) <<< ((8 : Int32) &&& 31)) ||| ((bb 4) &&& (255 : Int32))) <<< ((8 : Int32) &&& 31)))])) _
        refine XS.sipush X0.here hx rfl (hb hby d1_124) ?_
        show Steps p.tables e below (T0.setTop (mkF m 127 #[.val (.ref o1), .val (.int at1), s2, s3, s4, s5, .val (.int (((((((0 : Int32) <<< ((8 : Int32) &&& 31)) ||| ((bb 2) &&& (255 : Int32))) <<< ((8 : Int32) &&& 31)) ||| ((bb 3) &&& (255 : Int32))) <<< ((8 : Int32) &&& 31)) ||| ((bb 4) &&& (255 : Int32)))), .val (.int nn), .val (.int ((((0 : Int32) + (1 : Int32)) + (1 : Int32)) + (1 : Int32)))] [(.int (255 : Int32)), (.int (bb 5)), (.int ((((((((0 : Int32) <<< ((8 : Int32) &&& 31)) ||| ((bb 2) &&& (255 : Int32))) <<< ((8 : Int32) &&& 31)) ||| ((bb 3) &&& (255 : Int32))) <<< ((8 : Int32) &&& 31)) ||| ((bb 4) &&& (255 : Int32))) <<< ((8 : Int32) &&& 31)))])) _
        refine XS.iand X0.here hx rfl (hb hby d1_127) rfl ?_
        show Steps p.tables e below (T0.setTop (mkF m 128 #[.val (.ref o1), .val (.int at1), s2, s3, s4, s5, .val (.int (((((((0 : Int32) <<< ((8 : Int32) &&& 31)) ||| ((bb 2) &&& (255 : Int32))) <<< ((8 : Int32) &&& 31)) ||| ((bb 3) &&& (255 : Int32))) <<< ((8 : Int32) &&& 31)) ||| ((bb 4) &&& (255 : Int32)))), .val (.int nn), .val (.int ((((0 : Int32) + (1 : Int32)) + (1 : Int32)) + (1 : Int32)))] [(.int ((bb 5) &&& (255 : Int32))), (.int ((((((((0 : Int32) <<< ((8 : Int32) &&& 31)) ||| ((bb 2) &&& (255 : Int32))) <<< ((8 : Int32) &&& 31)) ||| ((bb 3) &&& (255 : Int32))) <<< ((8 : Int32) &&& 31)) ||| ((bb 4) &&& (255 : Int32))) <<< ((8 : Int32) &&& 31)))])) _
        refine XS.ior X0.here hx rfl (hb hby d1_128) rfl ?_
        show Steps p.tables e below (T0.setTop (mkF m 129 #[.val (.ref o1), .val (.int at1), s2, s3, s4, s5, .val (.int (((((((0 : Int32) <<< ((8 : Int32) &&& 31)) ||| ((bb 2) &&& (255 : Int32))) <<< ((8 : Int32) &&& 31)) ||| ((bb 3) &&& (255 : Int32))) <<< ((8 : Int32) &&& 31)) ||| ((bb 4) &&& (255 : Int32)))), .val (.int nn), .val (.int ((((0 : Int32) + (1 : Int32)) + (1 : Int32)) + (1 : Int32)))] [(.int (((((((((0 : Int32) <<< ((8 : Int32) &&& 31)) ||| ((bb 2) &&& (255 : Int32))) <<< ((8 : Int32) &&& 31)) ||| ((bb 3) &&& (255 : Int32))) <<< ((8 : Int32) &&& 31)) ||| ((bb 4) &&& (255 : Int32))) <<< ((8 : Int32) &&& 31)) ||| ((bb 5) &&& (255 : Int32))))])) _
        refine XS.istore X0.here hx rfl (hb hby d1_129) rfl (l' := #[.val (.ref o1), .val (.int at1), s2, s3, s4, s5, .val (.int (((((((((0 : Int32) <<< ((8 : Int32) &&& 31)) ||| ((bb 2) &&& (255 : Int32))) <<< ((8 : Int32) &&& 31)) ||| ((bb 3) &&& (255 : Int32))) <<< ((8 : Int32) &&& 31)) ||| ((bb 4) &&& (255 : Int32))) <<< ((8 : Int32) &&& 31)) ||| ((bb 5) &&& (255 : Int32)))), .val (.int nn), .val (.int ((((0 : Int32) + (1 : Int32)) + (1 : Int32)) + (1 : Int32)))]) rfl ?_
        show Steps p.tables e below (T0.setTop (mkF m 131 #[.val (.ref o1), .val (.int at1), s2, s3, s4, s5, .val (.int (((((((((0 : Int32) <<< ((8 : Int32) &&& 31)) ||| ((bb 2) &&& (255 : Int32))) <<< ((8 : Int32) &&& 31)) ||| ((bb 3) &&& (255 : Int32))) <<< ((8 : Int32) &&& 31)) ||| ((bb 4) &&& (255 : Int32))) <<< ((8 : Int32) &&& 31)) ||| ((bb 5) &&& (255 : Int32)))), .val (.int nn), .val (.int ((((0 : Int32) + (1 : Int32)) + (1 : Int32)) + (1 : Int32)))] [])) _
        refine XS.iinc X0.here hx rfl (hb hby d1_131) rfl (l' := #[.val (.ref o1), .val (.int at1), s2, s3, s4, s5, .val (.int (((((((((0 : Int32) <<< ((8 : Int32) &&& 31)) ||| ((bb 2) &&& (255 : Int32))) <<< ((8 : Int32) &&& 31)) ||| ((bb 3) &&& (255 : Int32))) <<< ((8 : Int32) &&& 31)) ||| ((bb 4) &&& (255 : Int32))) <<< ((8 : Int32) &&& 31)) ||| ((bb 5) &&& (255 : Int32)))), .val (.int nn), .val (.int (((((0 : Int32) + (1 : Int32)) + (1 : Int32)) + (1 : Int32)) + (1 : Int32)))]) rfl ?_
        show Steps p.tables e below (T0.setTop (mkF m 134 #[.val (.ref o1), .val (.int at1), s2, s3, s4, s5, .val (.int (((((((((0 : Int32) <<< ((8 : Int32) &&& 31)) ||| ((bb 2) &&& (255 : Int32))) <<< ((8 : Int32) &&& 31)) ||| ((bb 3) &&& (255 : Int32))) <<< ((8 : Int32) &&& 31)) ||| ((bb 4) &&& (255 : Int32))) <<< ((8 : Int32) &&& 31)) ||| ((bb 5) &&& (255 : Int32)))), .val (.int nn), .val (.int (((((0 : Int32) + (1 : Int32)) + (1 : Int32)) + (1 : Int32)) + (1 : Int32)))] [])) _
        refine XS.goto X0.here hx rfl (pc0 := 134) (pc' := 104) rfl (hb hby d1_134) (by decide) (by decide) ?_
        show Steps p.tables e below (T0.setTop (mkF m 104 #[.val (.ref o1), .val (.int at1), s2, s3, s4, s5, .val (.int (((((((((0 : Int32) <<< ((8 : Int32) &&& 31)) ||| ((bb 2) &&& (255 : Int32))) <<< ((8 : Int32) &&& 31)) ||| ((bb 3) &&& (255 : Int32))) <<< ((8 : Int32) &&& 31)) ||| ((bb 4) &&& (255 : Int32))) <<< ((8 : Int32) &&& 31)) ||| ((bb 5) &&& (255 : Int32)))), .val (.int nn), .val (.int (((((0 : Int32) + (1 : Int32)) + (1 : Int32)) + (1 : Int32)) + (1 : Int32)))] [])) _
        refine XS.iload X0.here hx rfl (hb hby d1_104) rfl ?_
        show Steps p.tables e below (T0.setTop (mkF m 106 #[.val (.ref o1), .val (.int at1), s2, s3, s4, s5, .val (.int (((((((((0 : Int32) <<< ((8 : Int32) &&& 31)) ||| ((bb 2) &&& (255 : Int32))) <<< ((8 : Int32) &&& 31)) ||| ((bb 3) &&& (255 : Int32))) <<< ((8 : Int32) &&& 31)) ||| ((bb 4) &&& (255 : Int32))) <<< ((8 : Int32) &&& 31)) ||| ((bb 5) &&& (255 : Int32)))), .val (.int nn), .val (.int (((((0 : Int32) + (1 : Int32)) + (1 : Int32)) + (1 : Int32)) + (1 : Int32)))] [(.int (((((0 : Int32) + (1 : Int32)) + (1 : Int32)) + (1 : Int32)) + (1 : Int32)))])) _
        refine XS.iload X0.here hx rfl (hb hby d1_106) rfl ?_
        show Steps p.tables e below (T0.setTop (mkF m 108 #[.val (.ref o1), .val (.int at1), s2, s3, s4, s5, .val (.int (((((((((0 : Int32) <<< ((8 : Int32) &&& 31)) ||| ((bb 2) &&& (255 : Int32))) <<< ((8 : Int32) &&& 31)) ||| ((bb 3) &&& (255 : Int32))) <<< ((8 : Int32) &&& 31)) ||| ((bb 4) &&& (255 : Int32))) <<< ((8 : Int32) &&& 31)) ||| ((bb 5) &&& (255 : Int32)))), .val (.int nn), .val (.int (((((0 : Int32) + (1 : Int32)) + (1 : Int32)) + (1 : Int32)) + (1 : Int32)))] [(.int nn), (.int (((((0 : Int32) + (1 : Int32)) + (1 : Int32)) + (1 : Int32)) + (1 : Int32)))])) _
        refine XS.icmpYes X0.here hx rfl (pc0 := 108) (pc' := 137) rfl (hb hby d1_108) rfl (flt (own_four h4 : ¬ (((((0 : Int32) + (1 : Int32)) + (1 : Int32)) + (1 : Int32)) + (1 : Int32)) < nn)).2.1 (by decide) (by decide) ?_
        show Steps p.tables e below (T0.setTop (mkF m 137 #[.val (.ref o1), .val (.int at1), s2, s3, s4, s5, .val (.int (((((((((0 : Int32) <<< ((8 : Int32) &&& 31)) ||| ((bb 2) &&& (255 : Int32))) <<< ((8 : Int32) &&& 31)) ||| ((bb 3) &&& (255 : Int32))) <<< ((8 : Int32) &&& 31)) ||| ((bb 4) &&& (255 : Int32))) <<< ((8 : Int32) &&& 31)) ||| ((bb 5) &&& (255 : Int32)))), .val (.int nn), .val (.int (((((0 : Int32) + (1 : Int32)) + (1 : Int32)) + (1 : Int32)) + (1 : Int32)))] [])) _
        exact kt
      ·
        simp only [if_pos hc108_2, if_pos hc108_3, if_neg hc108_4] at hv0
        rw [hv0] at kt
        simp only [if_pos hc108_2, if_pos hc108_3, if_neg hc108_4] at hv1
        rw [hv1] at kt
        show Steps p.tables e below (T0.setTop (mkF m 98 #[.val (.ref o1), .val (.int at1), s2, s3, s4, s5, .val (.int l6), .val (.int nn), .unset] [])) _
        refine XS.iconst X0.here hx rfl (hb hby d1_98) ?_
        show Steps p.tables e below (T0.setTop (mkF m 99 #[.val (.ref o1), .val (.int at1), s2, s3, s4, s5, .val (.int l6), .val (.int nn), .unset] [(.int (0 : Int32))])) _
        refine XS.istore X0.here hx rfl (hb hby d1_99) rfl (l' := #[.val (.ref o1), .val (.int at1), s2, s3, s4, s5, .val (.int (0 : Int32)), .val (.int nn), .unset]) rfl ?_
        show Steps p.tables e below (T0.setTop (mkF m 101 #[.val (.ref o1), .val (.int at1), s2, s3, s4, s5, .val (.int (0 : Int32)), .val (.int nn), .unset] [])) _
        refine XS.iconst X0.here hx rfl (hb hby d1_101) ?_
        show Steps p.tables e below (T0.setTop (mkF m 102 #[.val (.ref o1), .val (.int at1), s2, s3, s4, s5, .val (.int (0 : Int32)), .val (.int nn), .unset] [(.int (0 : Int32))])) _
        refine XS.istore X0.here hx rfl (hb hby d1_102) rfl (l' := #[.val (.ref o1), .val (.int at1), s2, s3, s4, s5, .val (.int (0 : Int32)), .val (.int nn), .val (.int (0 : Int32))]) rfl ?_
        show Steps p.tables e below (T0.setTop (mkF m 104 #[.val (.ref o1), .val (.int at1), s2, s3, s4, s5, .val (.int (0 : Int32)), .val (.int nn), .val (.int (0 : Int32))] [])) _
        refine XS.iload X0.here hx rfl (hb hby d1_104) rfl ?_
        show Steps p.tables e below (T0.setTop (mkF m 106 #[.val (.ref o1), .val (.int at1), s2, s3, s4, s5, .val (.int (0 : Int32)), .val (.int nn), .val (.int (0 : Int32))] [(.int (0 : Int32))])) _
        refine XS.iload X0.here hx rfl (hb hby d1_106) rfl ?_
        show Steps p.tables e below (T0.setTop (mkF m 108 #[.val (.ref o1), .val (.int at1), s2, s3, s4, s5, .val (.int (0 : Int32)), .val (.int nn), .val (.int (0 : Int32))] [(.int nn), (.int (0 : Int32))])) _
        refine XS.icmpNo X0.here hx rfl (hb hby d1_108) rfl (tlt hpos).2.1 ?_
        show Steps p.tables e below (T0.setTop (mkF m 111 #[.val (.ref o1), .val (.int at1), s2, s3, s4, s5, .val (.int (0 : Int32)), .val (.int nn), .val (.int (0 : Int32))] [])) _
        refine XS.iload X0.here hx rfl (hb hby d1_111) rfl ?_
        show Steps p.tables e below (T0.setTop (mkF m 113 #[.val (.ref o1), .val (.int at1), s2, s3, s4, s5, .val (.int (0 : Int32)), .val (.int nn), .val (.int (0 : Int32))] [(.int (0 : Int32))])) _
        refine XS.bipush X0.here hx rfl (hb hby d1_113) ?_
        show Steps p.tables e below (T0.setTop (mkF m 115 #[.val (.ref o1), .val (.int at1), s2, s3, s4, s5, .val (.int (0 : Int32)), .val (.int nn), .val (.int (0 : Int32))] [(.int (8 : Int32)), (.int (0 : Int32))])) _
        refine XS.ishl X0.here hx rfl (hb hby d1_115) rfl ?_
        show Steps p.tables e below (T0.setTop (mkF m 116 #[.val (.ref o1), .val (.int at1), s2, s3, s4, s5, .val (.int (0 : Int32)), .val (.int nn), .val (.int (0 : Int32))] [(.int ((0 : Int32) <<< ((8 : Int32) &&& 31)))])) _
        refine XS.aloadN X0.here hx rfl (hb hby d1_116) rfl rfl ?_
        show Steps p.tables e below (T0.setTop (mkF m 117 #[.val (.ref o1), .val (.int at1), s2, s3, s4, s5, .val (.int (0 : Int32)), .val (.int nn), .val (.int (0 : Int32))] [(.ref o1), (.int ((0 : Int32) <<< ((8 : Int32) &&& 31)))])) _
        refine XS.iloadN X0.here hx rfl (hb hby d1_117) rfl ?_
        show Steps p.tables e below (T0.setTop (mkF m 118 #[.val (.ref o1), .val (.int at1), s2, s3, s4, s5, .val (.int (0 : Int32)), .val (.int nn), .val (.int (0 : Int32))] [(.int at1), (.ref o1), (.int ((0 : Int32) <<< ((8 : Int32) &&& 31)))])) _
        refine XS.iconst X0.here hx rfl (hb hby d1_118) ?_
        show Steps p.tables e below (T0.setTop (mkF m 119 #[.val (.ref o1), .val (.int at1), s2, s3, s4, s5, .val (.int (0 : Int32)), .val (.int nn), .val (.int (0 : Int32))] [(.int (2 : Int32)), (.int at1), (.ref o1), (.int ((0 : Int32) <<< ((8 : Int32) &&& 31)))])) _
        refine XS.iadd X0.here hx rfl (hb hby d1_119) rfl ?_
        show Steps p.tables e below (T0.setTop (mkF m 120 #[.val (.ref o1), .val (.int at1), s2, s3, s4, s5, .val (.int (0 : Int32)), .val (.int nn), .val (.int (0 : Int32))] [(.int (at1 + (2 : Int32))), (.ref o1), (.int ((0 : Int32) <<< ((8 : Int32) &&& 31)))])) _
        refine XS.iload X0.here hx rfl (hb hby d1_120) rfl ?_
        show Steps p.tables e below (T0.setTop (mkF m 122 #[.val (.ref o1), .val (.int at1), s2, s3, s4, s5, .val (.int (0 : Int32)), .val (.int nn), .val (.int (0 : Int32))] [(.int (0 : Int32)), (.int (at1 + (2 : Int32))), (.ref o1), (.int ((0 : Int32) <<< ((8 : Int32) &&& 31)))])) _
        refine XS.iadd X0.here hx rfl (hb hby d1_122) rfl ?_
        show Steps p.tables e below (T0.setTop (mkF m 123 #[.val (.ref o1), .val (.int at1), s2, s3, s4, s5, .val (.int (0 : Int32)), .val (.int nn), .val (.int (0 : Int32))] [(.int ((at1 + (2 : Int32)) + (0 : Int32))), (.ref o1), (.int ((0 : Int32) <<< ((8 : Int32) &&& 31)))])) _
        refine X0.baloadBytes hx (j := ((at1 + (2 : Int32)) + (0 : Int32))) (v := (.int (bb 2))) (by rw [e0]; exact Ar.1) (State.isArrayOf_alike hZ.alike Ar.2.1) Ar.2.2 PB1.1 PB1.2 (g := (mkF m 123 #[.val (.ref o1), .val (.int at1), s2, s3, s4, s5, .val (.int (0 : Int32)), .val (.int nn), .val (.int (0 : Int32))] [(.int ((at1 + (2 : Int32)) + (0 : Int32))), (.ref o1), (.int ((0 : Int32) <<< ((8 : Int32) &&& 31)))])) rfl rfl (hb hby d1_123) _ ?_
        show Steps p.tables e below (T0.setTop (mkF m 124 #[.val (.ref o1), .val (.int at1), s2, s3, s4, s5, .val (.int (0 : Int32)), .val (.int nn), .val (.int (0 : Int32))] [(.int (bb 2)), (.int ((0 : Int32) <<< ((8 : Int32) &&& 31)))])) _
        refine XS.sipush X0.here hx rfl (hb hby d1_124) ?_
        show Steps p.tables e below (T0.setTop (mkF m 127 #[.val (.ref o1), .val (.int at1), s2, s3, s4, s5, .val (.int (0 : Int32)), .val (.int nn), .val (.int (0 : Int32))] [(.int (255 : Int32)), (.int (bb 2)), (.int ((0 : Int32) <<< ((8 : Int32) &&& 31)))])) _
        refine XS.iand X0.here hx rfl (hb hby d1_127) rfl ?_
        show Steps p.tables e below (T0.setTop (mkF m 128 #[.val (.ref o1), .val (.int at1), s2, s3, s4, s5, .val (.int (0 : Int32)), .val (.int nn), .val (.int (0 : Int32))] [(.int ((bb 2) &&& (255 : Int32))), (.int ((0 : Int32) <<< ((8 : Int32) &&& 31)))])) _
        refine XS.ior X0.here hx rfl (hb hby d1_128) rfl ?_
        show Steps p.tables e below (T0.setTop (mkF m 129 #[.val (.ref o1), .val (.int at1), s2, s3, s4, s5, .val (.int (0 : Int32)), .val (.int nn), .val (.int (0 : Int32))] [(.int (((0 : Int32) <<< ((8 : Int32) &&& 31)) ||| ((bb 2) &&& (255 : Int32))))])) _
        refine XS.istore X0.here hx rfl (hb hby d1_129) rfl (l' := #[.val (.ref o1), .val (.int at1), s2, s3, s4, s5, .val (.int (((0 : Int32) <<< ((8 : Int32) &&& 31)) ||| ((bb 2) &&& (255 : Int32)))), .val (.int nn), .val (.int (0 : Int32))]) rfl ?_
        show Steps p.tables e below (T0.setTop (mkF m 131 #[.val (.ref o1), .val (.int at1), s2, s3, s4, s5, .val (.int (((0 : Int32) <<< ((8 : Int32) &&& 31)) ||| ((bb 2) &&& (255 : Int32)))), .val (.int nn), .val (.int (0 : Int32))] [])) _
        refine XS.iinc X0.here hx rfl (hb hby d1_131) rfl (l' := #[.val (.ref o1), .val (.int at1), s2, s3, s4, s5, .val (.int (((0 : Int32) <<< ((8 : Int32) &&& 31)) ||| ((bb 2) &&& (255 : Int32)))), .val (.int nn), .val (.int ((0 : Int32) + (1 : Int32)))]) rfl ?_
        show Steps p.tables e below (T0.setTop (mkF m 134 #[.val (.ref o1), .val (.int at1), s2, s3, s4, s5, .val (.int (((0 : Int32) <<< ((8 : Int32) &&& 31)) ||| ((bb 2) &&& (255 : Int32)))), .val (.int nn), .val (.int ((0 : Int32) + (1 : Int32)))] [])) _
        refine XS.goto X0.here hx rfl (pc0 := 134) (pc' := 104) rfl (hb hby d1_134) (by decide) (by decide) ?_
        show Steps p.tables e below (T0.setTop (mkF m 104 #[.val (.ref o1), .val (.int at1), s2, s3, s4, s5, .val (.int (((0 : Int32) <<< ((8 : Int32) &&& 31)) ||| ((bb 2) &&& (255 : Int32)))), .val (.int nn), .val (.int ((0 : Int32) + (1 : Int32)))] [])) _
        refine XS.iload X0.here hx rfl (hb hby d1_104) rfl ?_
        show Steps p.tables e below (T0.setTop (mkF m 106 #[.val (.ref o1), .val (.int at1), s2, s3, s4, s5, .val (.int (((0 : Int32) <<< ((8 : Int32) &&& 31)) ||| ((bb 2) &&& (255 : Int32)))), .val (.int nn), .val (.int ((0 : Int32) + (1 : Int32)))] [(.int ((0 : Int32) + (1 : Int32)))])) _
        refine XS.iload X0.here hx rfl (hb hby d1_106) rfl ?_
        show Steps p.tables e below (T0.setTop (mkF m 108 #[.val (.ref o1), .val (.int at1), s2, s3, s4, s5, .val (.int (((0 : Int32) <<< ((8 : Int32) &&& 31)) ||| ((bb 2) &&& (255 : Int32)))), .val (.int nn), .val (.int ((0 : Int32) + (1 : Int32)))] [(.int nn), (.int ((0 : Int32) + (1 : Int32)))])) _
        refine XS.icmpNo X0.here hx rfl (hb hby d1_108) rfl (tlt hc108_2).2.1 ?_
        show Steps p.tables e below (T0.setTop (mkF m 111 #[.val (.ref o1), .val (.int at1), s2, s3, s4, s5, .val (.int (((0 : Int32) <<< ((8 : Int32) &&& 31)) ||| ((bb 2) &&& (255 : Int32)))), .val (.int nn), .val (.int ((0 : Int32) + (1 : Int32)))] [])) _
        refine XS.iload X0.here hx rfl (hb hby d1_111) rfl ?_
        show Steps p.tables e below (T0.setTop (mkF m 113 #[.val (.ref o1), .val (.int at1), s2, s3, s4, s5, .val (.int (((0 : Int32) <<< ((8 : Int32) &&& 31)) ||| ((bb 2) &&& (255 : Int32)))), .val (.int nn), .val (.int ((0 : Int32) + (1 : Int32)))] [(.int (((0 : Int32) <<< ((8 : Int32) &&& 31)) ||| ((bb 2) &&& (255 : Int32))))])) _
        refine XS.bipush X0.here hx rfl (hb hby d1_113) ?_
        show Steps p.tables e below (T0.setTop (mkF m 115 #[.val (.ref o1), .val (.int at1), s2, s3, s4, s5, .val (.int (((0 : Int32) <<< ((8 : Int32) &&& 31)) ||| ((bb 2) &&& (255 : Int32)))), .val (.int nn), .val (.int ((0 : Int32) + (1 : Int32)))] [(.int (8 : Int32)), (.int (((0 : Int32) <<< ((8 : Int32) &&& 31)) ||| ((bb 2) &&& (255 : Int32))))])) _
        refine XS.ishl X0.here hx rfl (hb hby d1_115) rfl ?_
        show Steps p.tables e below (T0.setTop (mkF m 116 #[.val (.ref o1), .val (.int at1), s2, s3, s4, s5, .val (.int (((0 : Int32) <<< ((8 : Int32) &&& 31)) ||| ((bb 2) &&& (255 : Int32)))), .val (.int nn), .val (.int ((0 : Int32) + (1 : Int32)))] [(.int ((((0 : Int32) <<< ((8 : Int32) &&& 31)) ||| ((bb 2) &&& (255 : Int32))) <<< ((8 : Int32) &&& 31)))])) _
        refine XS.aloadN X0.here hx rfl (hb hby d1_116) rfl rfl ?_
        show Steps p.tables e below (T0.setTop (mkF m 117 #[.val (.ref o1), .val (.int at1), s2, s3, s4, s5, .val (.int (((0 : Int32) <<< ((8 : Int32) &&& 31)) ||| ((bb 2) &&& (255 : Int32)))), .val (.int nn), .val (.int ((0 : Int32) + (1 : Int32)))] [(.ref o1), (.int ((((0 : Int32) <<< ((8 : Int32) &&& 31)) ||| ((bb 2) &&& (255 : Int32))) <<< ((8 : Int32) &&& 31)))])) _
        refine XS.iloadN X0.here hx rfl (hb hby d1_117) rfl ?_
        show Steps p.tables e below (T0.setTop (mkF m 118 #[.val (.ref o1), .val (.int at1), s2, s3, s4, s5, .val (.int (((0 : Int32) <<< ((8 : Int32) &&& 31)) ||| ((bb 2) &&& (255 : Int32)))), .val (.int nn), .val (.int ((0 : Int32) + (1 : Int32)))] [(.int at1), (.ref o1), (.int ((((0 : Int32) <<< ((8 : Int32) &&& 31)) ||| ((bb 2) &&& (255 : Int32))) <<< ((8 : Int32) &&& 31)))])) _
        refine XS.iconst X0.here hx rfl (hb hby d1_118) ?_
        show Steps p.tables e below (T0.setTop (mkF m 119 #[.val (.ref o1), .val (.int at1), s2, s3, s4, s5, .val (.int (((0 : Int32) <<< ((8 : Int32) &&& 31)) ||| ((bb 2) &&& (255 : Int32)))), .val (.int nn), .val (.int ((0 : Int32) + (1 : Int32)))] [(.int (2 : Int32)), (.int at1), (.ref o1), (.int ((((0 : Int32) <<< ((8 : Int32) &&& 31)) ||| ((bb 2) &&& (255 : Int32))) <<< ((8 : Int32) &&& 31)))])) _
        refine XS.iadd X0.here hx rfl (hb hby d1_119) rfl ?_
        show Steps p.tables e below (T0.setTop (mkF m 120 #[.val (.ref o1), .val (.int at1), s2, s3, s4, s5, .val (.int (((0 : Int32) <<< ((8 : Int32) &&& 31)) ||| ((bb 2) &&& (255 : Int32)))), .val (.int nn), .val (.int ((0 : Int32) + (1 : Int32)))] [(.int (at1 + (2 : Int32))), (.ref o1), (.int ((((0 : Int32) <<< ((8 : Int32) &&& 31)) ||| ((bb 2) &&& (255 : Int32))) <<< ((8 : Int32) &&& 31)))])) _
        refine XS.iload X0.here hx rfl (hb hby d1_120) rfl ?_
        show Steps p.tables e below (T0.setTop (mkF m 122 #[.val (.ref o1), .val (.int at1), s2, s3, s4, s5, .val (.int (((0 : Int32) <<< ((8 : Int32) &&& 31)) ||| ((bb 2) &&& (255 : Int32)))), .val (.int nn), .val (.int ((0 : Int32) + (1 : Int32)))] [(.int ((0 : Int32) + (1 : Int32))), (.int (at1 + (2 : Int32))), (.ref o1), (.int ((((0 : Int32) <<< ((8 : Int32) &&& 31)) ||| ((bb 2) &&& (255 : Int32))) <<< ((8 : Int32) &&& 31)))])) _
        refine XS.iadd X0.here hx rfl (hb hby d1_122) rfl ?_
        show Steps p.tables e below (T0.setTop (mkF m 123 #[.val (.ref o1), .val (.int at1), s2, s3, s4, s5, .val (.int (((0 : Int32) <<< ((8 : Int32) &&& 31)) ||| ((bb 2) &&& (255 : Int32)))), .val (.int nn), .val (.int ((0 : Int32) + (1 : Int32)))] [(.int ((at1 + (2 : Int32)) + ((0 : Int32) + (1 : Int32)))), (.ref o1), (.int ((((0 : Int32) <<< ((8 : Int32) &&& 31)) ||| ((bb 2) &&& (255 : Int32))) <<< ((8 : Int32) &&& 31)))])) _
        refine X0.baloadBytes hx (j := ((at1 + (2 : Int32)) + ((0 : Int32) + (1 : Int32)))) (v := (.int (bb 3))) (by rw [e0]; exact Ar.1) (State.isArrayOf_alike hZ.alike Ar.2.1) Ar.2.2 PB2.1 PB2.2 (g := (mkF m 123 #[.val (.ref o1), .val (.int at1), s2, s3, s4, s5, .val (.int (((0 : Int32) <<< ((8 : Int32) &&& 31)) ||| ((bb 2) &&& (255 : Int32)))), .val (.int nn), .val (.int ((0 : Int32) + (1 : Int32)))] [(.int ((at1 + (2 : Int32)) + ((0 : Int32) + (1 : Int32)))), (.ref o1), (.int ((((0 : Int32) <<< ((8 : Int32) &&& 31)) ||| ((bb 2) &&& (255 : Int32))) <<< ((8 : Int32) &&& 31)))])) rfl rfl (hb hby d1_123) _ ?_
        show Steps p.tables e below (T0.setTop (mkF m 124 #[.val (.ref o1), .val (.int at1), s2, s3, s4, s5, .val (.int (((0 : Int32) <<< ((8 : Int32) &&& 31)) ||| ((bb 2) &&& (255 : Int32)))), .val (.int nn), .val (.int ((0 : Int32) + (1 : Int32)))] [(.int (bb 3)), (.int ((((0 : Int32) <<< ((8 : Int32) &&& 31)) ||| ((bb 2) &&& (255 : Int32))) <<< ((8 : Int32) &&& 31)))])) _
        refine XS.sipush X0.here hx rfl (hb hby d1_124) ?_
        show Steps p.tables e below (T0.setTop (mkF m 127 #[.val (.ref o1), .val (.int at1), s2, s3, s4, s5, .val (.int (((0 : Int32) <<< ((8 : Int32) &&& 31)) ||| ((bb 2) &&& (255 : Int32)))), .val (.int nn), .val (.int ((0 : Int32) + (1 : Int32)))] [(.int (255 : Int32)), (.int (bb 3)), (.int ((((0 : Int32) <<< ((8 : Int32) &&& 31)) ||| ((bb 2) &&& (255 : Int32))) <<< ((8 : Int32) &&& 31)))])) _
        refine XS.iand X0.here hx rfl (hb hby d1_127) rfl ?_
        show Steps p.tables e below (T0.setTop (mkF m 128 #[.val (.ref o1), .val (.int at1), s2, s3, s4, s5, .val (.int (((0 : Int32) <<< ((8 : Int32) &&& 31)) ||| ((bb 2) &&& (255 : Int32)))), .val (.int nn), .val (.int ((0 : Int32) + (1 : Int32)))] [(.int ((bb 3) &&& (255 : Int32))), (.int ((((0 : Int32) <<< ((8 : Int32) &&& 31)) ||| ((bb 2) &&& (255 : Int32))) <<< ((8 : Int32) &&& 31)))])) _
        refine XS.ior X0.here hx rfl (hb hby d1_128) rfl ?_
        show Steps p.tables e below (T0.setTop (mkF m 129 #[.val (.ref o1), .val (.int at1), s2, s3, s4, s5, .val (.int (((0 : Int32) <<< ((8 : Int32) &&& 31)) ||| ((bb 2) &&& (255 : Int32)))), .val (.int nn), .val (.int ((0 : Int32) + (1 : Int32)))] [(.int (((((0 : Int32) <<< ((8 : Int32) &&& 31)) ||| ((bb 2) &&& (255 : Int32))) <<< ((8 : Int32) &&& 31)) ||| ((bb 3) &&& (255 : Int32))))])) _
        refine XS.istore X0.here hx rfl (hb hby d1_129) rfl (l' := #[.val (.ref o1), .val (.int at1), s2, s3, s4, s5, .val (.int (((((0 : Int32) <<< ((8 : Int32) &&& 31)) ||| ((bb 2) &&& (255 : Int32))) <<< ((8 : Int32) &&& 31)) ||| ((bb 3) &&& (255 : Int32)))), .val (.int nn), .val (.int ((0 : Int32) + (1 : Int32)))]) rfl ?_
        show Steps p.tables e below (T0.setTop (mkF m 131 #[.val (.ref o1), .val (.int at1), s2, s3, s4, s5, .val (.int (((((0 : Int32) <<< ((8 : Int32) &&& 31)) ||| ((bb 2) &&& (255 : Int32))) <<< ((8 : Int32) &&& 31)) ||| ((bb 3) &&& (255 : Int32)))), .val (.int nn), .val (.int ((0 : Int32) + (1 : Int32)))] [])) _
        refine XS.iinc X0.here hx rfl (hb hby d1_131) rfl (l' := #[.val (.ref o1), .val (.int at1), s2, s3, s4, s5, .val (.int (((((0 : Int32) <<< ((8 : Int32) &&& 31)) ||| ((bb 2) &&& (255 : Int32))) <<< ((8 : Int32) &&& 31)) ||| ((bb 3) &&& (255 : Int32)))), .val (.int nn), .val (.int (((0 : Int32) + (1 : Int32)) + (1 : Int32)))]) rfl ?_
        show Steps p.tables e below (T0.setTop (mkF m 134 #[.val (.ref o1), .val (.int at1), s2, s3, s4, s5, .val (.int (((((0 : Int32) <<< ((8 : Int32) &&& 31)) ||| ((bb 2) &&& (255 : Int32))) <<< ((8 : Int32) &&& 31)) ||| ((bb 3) &&& (255 : Int32)))), .val (.int nn), .val (.int (((0 : Int32) + (1 : Int32)) + (1 : Int32)))] [])) _
        refine XS.goto X0.here hx rfl (pc0 := 134) (pc' := 104) rfl (hb hby d1_134) (by decide) (by decide) ?_
        show Steps p.tables e below (T0.setTop (mkF m 104 #[.val (.ref o1), .val (.int at1), s2, s3, s4, s5, .val (.int (((((0 : Int32) <<< ((8 : Int32) &&& 31)) ||| ((bb 2) &&& (255 : Int32))) <<< ((8 : Int32) &&& 31)) ||| ((bb 3) &&& (255 : Int32)))), .val (.int nn), .val (.int (((0 : Int32) + (1 : Int32)) + (1 : Int32)))] [])) _
        refine XS.iload X0.here hx rfl (hb hby d1_104) rfl ?_
        show Steps p.tables e below (T0.setTop (mkF m 106 #[.val (.ref o1), .val (.int at1), s2, s3, s4, s5, .val (.int (((((0 : Int32) <<< ((8 : Int32) &&& 31)) ||| ((bb 2) &&& (255 : Int32))) <<< ((8 : Int32) &&& 31)) ||| ((bb 3) &&& (255 : Int32)))), .val (.int nn), .val (.int (((0 : Int32) + (1 : Int32)) + (1 : Int32)))] [(.int (((0 : Int32) + (1 : Int32)) + (1 : Int32)))])) _
        refine XS.iload X0.here hx rfl (hb hby d1_106) rfl ?_
        show Steps p.tables e below (T0.setTop (mkF m 108 #[.val (.ref o1), .val (.int at1), s2, s3, s4, s5, .val (.int (((((0 : Int32) <<< ((8 : Int32) &&& 31)) ||| ((bb 2) &&& (255 : Int32))) <<< ((8 : Int32) &&& 31)) ||| ((bb 3) &&& (255 : Int32)))), .val (.int nn), .val (.int (((0 : Int32) + (1 : Int32)) + (1 : Int32)))] [(.int nn), (.int (((0 : Int32) + (1 : Int32)) + (1 : Int32)))])) _
        refine XS.icmpNo X0.here hx rfl (hb hby d1_108) rfl (tlt hc108_3).2.1 ?_
        show Steps p.tables e below (T0.setTop (mkF m 111 #[.val (.ref o1), .val (.int at1), s2, s3, s4, s5, .val (.int (((((0 : Int32) <<< ((8 : Int32) &&& 31)) ||| ((bb 2) &&& (255 : Int32))) <<< ((8 : Int32) &&& 31)) ||| ((bb 3) &&& (255 : Int32)))), .val (.int nn), .val (.int (((0 : Int32) + (1 : Int32)) + (1 : Int32)))] [])) _
        refine XS.iload X0.here hx rfl (hb hby d1_111) rfl ?_
        show Steps p.tables e below (T0.setTop (mkF m 113 #[.val (.ref o1), .val (.int at1), s2, s3, s4, s5, .val (.int (((((0 : Int32) <<< ((8 : Int32) &&& 31)) ||| ((bb 2) &&& (255 : Int32))) <<< ((8 : Int32) &&& 31)) ||| ((bb 3) &&& (255 : Int32)))), .val (.int nn), .val (.int (((0 : Int32) + (1 : Int32)) + (1 : Int32)))] [(.int (((((0 : Int32) <<< ((8 : Int32) &&& 31)) ||| ((bb 2) &&& (255 : Int32))) <<< ((8 : Int32) &&& 31)) ||| ((bb 3) &&& (255 : Int32))))])) _
        refine XS.bipush X0.here hx rfl (hb hby d1_113) ?_
        show Steps p.tables e below (T0.setTop (mkF m 115 #[.val (.ref o1), .val (.int at1), s2, s3, s4, s5, .val (.int (((((0 : Int32) <<< ((8 : Int32) &&& 31)) ||| ((bb 2) &&& (255 : Int32))) <<< ((8 : Int32) &&& 31)) ||| ((bb 3) &&& (255 : Int32)))), .val (.int nn), .val (.int (((0 : Int32) + (1 : Int32)) + (1 : Int32)))] [(.int (8 : Int32)), (.int (((((0 : Int32) <<< ((8 : Int32) &&& 31)) ||| ((bb 2) &&& (255 : Int32))) <<< ((8 : Int32) &&& 31)) ||| ((bb 3) &&& (255 : Int32))))])) _
        refine XS.ishl X0.here hx rfl (hb hby d1_115) rfl ?_
        show Steps p.tables e below (T0.setTop (mkF m 116 #[.val (.ref o1), .val (.int at1), s2, s3, s4, s5, .val (.int (((((0 : Int32) <<< ((8 : Int32) &&& 31)) ||| ((bb 2) &&& (255 : Int32))) <<< ((8 : Int32) &&& 31)) ||| ((bb 3) &&& (255 : Int32)))), .val (.int nn), .val (.int (((0 : Int32) + (1 : Int32)) + (1 : Int32)))] [(.int ((((((0 : Int32) <<< ((8 : Int32) &&& 31)) ||| ((bb 2) &&& (255 : Int32))) <<< ((8 : Int32) &&& 31)) ||| ((bb 3) &&& (255 : Int32))) <<< ((8 : Int32) &&& 31)))])) _
        refine XS.aloadN X0.here hx rfl (hb hby d1_116) rfl rfl ?_
        show Steps p.tables e below (T0.setTop (mkF m 117 #[.val (.ref o1), .val (.int at1), s2, s3, s4, s5, .val (.int (((((0 : Int32) <<< ((8 : Int32) &&& 31)) ||| ((bb 2) &&& (255 : Int32))) <<< ((8 : Int32) &&& 31)) ||| ((bb 3) &&& (255 : Int32)))), .val (.int nn), .val (.int (((0 : Int32) + (1 : Int32)) + (1 : Int32)))] [(.ref o1), (.int ((((((0 : Int32) <<< ((8 : Int32) &&& 31)) ||| ((bb 2) &&& (255 : Int32))) <<< ((8 : Int32) &&& 31)) ||| ((bb 3) &&& (255 : Int32))) <<< ((8 : Int32) &&& 31)))])) _
        refine XS.iloadN X0.here hx rfl (hb hby d1_117) rfl ?_
        show Steps p.tables e below (T0.setTop (mkF m 118 #[.val (.ref o1), .val (.int at1), s2, s3, s4, s5, .val (.int (((((0 : Int32) <<< ((8 : Int32) &&& 31)) ||| ((bb 2) &&& (255 : Int32))) <<< ((8 : Int32) &&& 31)) ||| ((bb 3) &&& (255 : Int32)))), .val (.int nn), .val (.int (((0 : Int32) + (1 : Int32)) + (1 : Int32)))] [(.int at1), (.ref o1), (.int ((((((0 : Int32) <<< ((8 : Int32) &&& 31)) ||| ((bb 2) &&& (255 : Int32))) <<< ((8 : Int32) &&& 31)) ||| ((bb 3) &&& (255 : Int32))) <<< ((8 : Int32) &&& 31)))])) _
        refine XS.iconst X0.here hx rfl (hb hby d1_118) ?_
        show Steps p.tables e below (T0.setTop (mkF m 119 #[.val (.ref o1), .val (.int at1), s2, s3, s4, s5, .val (.int (((((0 : Int32) <<< ((8 : Int32) &&& 31)) ||| ((bb 2) &&& (255 : Int32))) <<< ((8 : Int32) &&& 31)) ||| ((bb 3) &&& (255 : Int32)))), .val (.int nn), .val (.int (((0 : Int32) + (1 : Int32)) + (1 : Int32)))] [(.int (2 : Int32)), (.int at1), (.ref o1), (.int ((((((0 : Int32) <<< ((8 : Int32) &&& 31)) ||| ((bb 2) &&& (255 : Int32))) <<< ((8 : Int32) &&& 31)) ||| ((bb 3) &&& (255 : Int32))) <<< ((8 : Int32) &&& 31)))])) _
        refine XS.iadd X0.here hx rfl (hb hby d1_119) rfl ?_
        show Steps p.tables e below (T0.setTop (mkF m 120 #[.val (.ref o1), .val (.int at1), s2, s3, s4, s5, .val (.int (((((0 : Int32) <<< ((8 : Int32) &&& 31)) ||| ((bb 2) &&& (255 : Int32))) <<< ((8 : Int32) &&& 31)) ||| ((bb 3) &&& (255 : Int32)))), .val (.int nn), .val (.int (((0 : Int32) + (1 : Int32)) + (1 : Int32)))] [(.int (at1 + (2 : Int32))), (.ref o1), (.int ((((((0 : Int32) <<< ((8 : Int32) &&& 31)) ||| ((bb 2) &&& (255 : Int32))) <<< ((8 : Int32) &&& 31)) ||| ((bb 3) &&& (255 : Int32))) <<< ((8 : Int32) &&& 31)))])) _
        refine XS.iload X0.here hx rfl (hb hby d1_120) rfl ?_
        show Steps p.tables e below (T0.setTop (mkF m 122 #[.val (.ref o1), .val (.int at1), s2, s3, s4, s5, .val (.int (((((0 : Int32) <<< ((8 : Int32) &&& 31)) ||| ((bb 2) &&& (255 : Int32))) <<< ((8 : Int32) &&& 31)) ||| ((bb 3) &&& (255 : Int32)))), .val (.int nn), .val (.int (((0 : Int32) + (1 : Int32)) + (1 : Int32)))] [(.int (((0 : Int32) + (1 : Int32)) + (1 : Int32))), (.int (at1 + (2 : Int32))), (.ref o1), (.int ((((((0 : Int32) <<< ((8 : Int32) &&& 31)) ||| ((bb 2) &&& (255 : Int32))) <<< ((8 : Int32) &&& 31)) ||| ((bb 3) &&& (255 : Int32))) <<< ((8 : Int32) &&& 31)))])) _
        refine XS.iadd X0.here hx rfl (hb hby d1_122) rfl ?_
        show Steps p.tables e below (T0.setTop (mkF m 123 #[.val (.ref o1), .val (.int at1), s2, s3, s4, s5, .val (.int (((((0 : Int32) <<< ((8 : Int32) &&& 31)) ||| ((bb 2) &&& (255 : Int32))) <<< ((8 : Int32) &&& 31)) ||| ((bb 3) &&& (255 : Int32)))), .val (.int nn), .val (.int (((0 : Int32) + (1 : Int32)) + (1 : Int32)))] [(.int ((at1 + (2 : Int32)) + (((0 : Int32) + (1 : Int32)) + (1 : Int32)))), (.ref o1), (.int ((((((0 : Int32) <<< ((8 : Int32) &&& 31)) ||| ((bb 2) &&& (255 : Int32))) <<< ((8 : Int32) &&& 31)) ||| ((bb 3) &&& (255 : Int32))) <<< ((8 : Int32) &&& 31)))])) _
        refine X0.baloadBytes hx (j := ((at1 + (2 : Int32)) + (((0 : Int32) + (1 : Int32)) + (1 : Int32)))) (v := (.int (bb 4))) (by rw [e0]; exact Ar.1) (State.isArrayOf_alike hZ.alike Ar.2.1) Ar.2.2 PB3.1 PB3.2 (g := (mkF m 123 #[.val (.ref o1), .val (.int at1), s2, s3, s4, s5, .val (.int (((((0 : Int32) <<< ((8 : Int32) &&& 31)) ||| ((bb 2) &&& (255 : Int32))) <<< ((8 : Int32) &&& 31)) ||| ((bb 3) &&& (255 : Int32)))), .val (.int nn), .val (.int (((0 : Int32) + (1 : Int32)) + (1 : Int32)))] [(.int ((at1 + (2 : Int32)) + (((0 : Int32) + (1 : Int32)) + (1 : Int32)))), (.ref o1), (.int ((((((0 : Int32) <<< ((8 : Int32) &&& 31)) ||| ((bb 2) &&& (255 : Int32))) <<< ((8 : Int32) &&& 31)) ||| ((bb 3) &&& (255 : Int32))) <<< ((8 : Int32) &&& 31)))])) rfl rfl (hb hby d1_123) _ ?_
        show Steps p.tables e below (T0.setTop (mkF m 124 #[.val (.ref o1), .val (.int at1), s2, s3, s4, s5, .val (.int (((((0 : Int32) <<< ((8 : Int32) &&& 31)) ||| ((bb 2) &&& (255 : Int32))) <<< ((8 : Int32) &&& 31)) ||| ((bb 3) &&& (255 : Int32)))), .val (.int nn), .val (.int (((0 : Int32) + (1 : Int32)) + (1 : Int32)))] [(.int (bb 4)), (.int ((((((0 : Int32) <<< ((8 : Int32) &&& 31)) ||| ((bb 2) &&& (255 : Int32))) <<< ((8 : Int32) &&& 31)) ||| ((bb 3) &&& (255 : Int32))) <<< ((8 : Int32) &&& 31)))])) _
        refine XS.sipush X0.here hx rfl (hb hby d1_124) ?_
        show Steps p.tables e below (T0.setTop (mkF m 127 #[.val (.ref o1), .val (.int at1), s2, s3, s4, s5, .val (.int (((((0 : Int32) <<< ((8 : Int32) &&& 31)) ||| ((bb 2) &&& (255 : Int32))) <<< ((8 : Int32) &&& 31)) ||| ((bb 3) &&& (255 : Int32)))), .val (.int nn), .val (.int (((0 : Int32) + (1 : Int32)) + (1 : Int32)))] [(.int (255 : Int32)), (.int (bb 4)), (.int ((((((0 : Int32) <<< ((8 : Int32) &&& 31)) ||| ((bb 2) &&& (255 : Int32))) <<< ((8 : Int32) &&& 31)) ||| ((bb 3) &&& (255 : Int32))) <<< ((8 : Int32) &&& 31)))])) _
        refine XS.iand X0.here hx rfl (hb hby d1_127) rfl ?_
        show Steps p.tables e below (T0.setTop (mkF m 128 #[.val (.ref o1), .val (.int at1), s2, s3, s4, s5, .val (.int (((((0 : Int32) <<< ((8 : Int32) &&& 31)) ||| ((bb 2) &&& (255 : Int32))) <<< ((8 : Int32) &&& 31)) ||| ((bb 3) &&& (255 : Int32)))), .val (.int nn), .val (.int (((0 : Int32) + (1 : Int32)) + (1 : Int32)))] [(.int ((bb 4) &&& (255 : Int32))), (.int ((((((0 : Int32) <<< ((8 : Int32) &&& 31)) ||| ((bb 2) &&& (255 : Int32))) <<< ((8 : Int32) &&& 31)) ||| ((bb 3) &&& (255 : Int32))) <<< ((8 : Int32) &&& 31)))])) _
        refine XS.ior X0.here hx rfl (hb hby d1_128) rfl ?_
        show Steps p.tables e below (T0.setTop (mkF m 129 #[.val (.ref o1), .val (.int at1), s2, s3, s4, s5, .val (.int (((((0 : Int32) <<< ((8 : Int32) &&& 31)) ||| ((bb 2) &&& (255 : Int32))) <<< ((8 : Int32) &&& 31)) ||| ((bb 3) &&& (255 : Int32)))), .val (.int nn), .val (.int (((0 : Int32) + (1 : Int32)) + (1 : Int32)))] [(.int (((((((0 : Int32) <<< ((8 : Int32) &&& 31)) ||| ((bb 2) &&& (255 : Int32))) <<< ((8 : Int32) &&& 31)) ||| ((bb 3) &&& (255 : Int32))) <<< ((8 : Int32) &&& 31)) ||| ((bb 4) &&& (255 : Int32))))])) _
        refine XS.istore X0.here hx rfl (hb hby d1_129) rfl (l' := #[.val (.ref o1), .val (.int at1), s2, s3, s4, s5, .val (.int (((((((0 : Int32) <<< ((8 : Int32) &&& 31)) ||| ((bb 2) &&& (255 : Int32))) <<< ((8 : Int32) &&& 31)) ||| ((bb 3) &&& (255 : Int32))) <<< ((8 : Int32) &&& 31)) ||| ((bb 4) &&& (255 : Int32)))), .val (.int nn), .val (.int (((0 : Int32) + (1 : Int32)) + (1 : Int32)))]) rfl ?_
        show Steps p.tables e below (T0.setTop (mkF m 131 #[.val (.ref o1), .val (.int at1), s2, s3, s4, s5, .val (.int (((((((0 : Int32) <<< ((8 : Int32) &&& 31)) ||| ((bb 2) &&& (255 : Int32))) <<< ((8 : Int32) &&& 31)) ||| ((bb 3) &&& (255 : Int32))) <<< ((8 : Int32) &&& 31)) ||| ((bb 4) &&& (255 : Int32)))), .val (.int nn), .val (.int (((0 : Int32) + (1 : Int32)) + (1 : Int32)))] [])) _
        refine XS.iinc X0.here hx rfl (hb hby d1_131) rfl (l' := #[.val (.ref o1), .val (.int at1), s2, s3, s4, s5, .val (.int (((((((0 : Int32) <<< ((8 : Int32) &&& 31)) ||| ((bb 2) &&& (255 : Int32))) <<< ((8 : Int32) &&& 31)) ||| ((bb 3) &&& (255 : Int32))) <<< ((8 : Int32) &&& 31)) ||| ((bb 4) &&& (255 : Int32)))), .val (.int nn), .val (.int ((((0 : Int32) + (1 : Int32)) + (1 : Int32)) + (1 : Int32)))]) rfl ?_
        show Steps p.tables e below (T0.setTop (mkF m 134 #[.val (.ref o1), .val (.int at1), s2, s3, s4, s5, .val (.int (((((((0 : Int32) <<< ((8 : Int32) &&& 31)) ||| ((bb 2) &&& (255 : Int32))) <<< ((8 : Int32) &&& 31)) ||| ((bb 3) &&& (255 : Int32))) <<< ((8 : Int32) &&& 31)) ||| ((bb 4) &&& (255 : Int32)))), .val (.int nn), .val (.int ((((0 : Int32) + (1 : Int32)) + (1 : Int32)) + (1 : Int32)))] [])) _
        refine XS.goto X0.here hx rfl (pc0 := 134) (pc' := 104) rfl (hb hby d1_134) (by decide) (by decide) ?_
        show Steps p.tables e below (T0.setTop (mkF m 104 #[.val (.ref o1), .val (.int at1), s2, s3, s4, s5, .val (.int (((((((0 : Int32) <<< ((8 : Int32) &&& 31)) ||| ((bb 2) &&& (255 : Int32))) <<< ((8 : Int32) &&& 31)) ||| ((bb 3) &&& (255 : Int32))) <<< ((8 : Int32) &&& 31)) ||| ((bb 4) &&& (255 : Int32)))), .val (.int nn), .val (.int ((((0 : Int32) + (1 : Int32)) + (1 : Int32)) + (1 : Int32)))] [])) _
        refine XS.iload X0.here hx rfl (hb hby d1_104) rfl ?_
        show Steps p.tables e below (T0.setTop (mkF m 106 #[.val (.ref o1), .val (.int at1), s2, s3, s4, s5, .val (.int (((((((0 : Int32) <<< ((8 : Int32) &&& 31)) ||| ((bb 2) &&& (255 : Int32))) <<< ((8 : Int32) &&& 31)) ||| ((bb 3) &&& (255 : Int32))) <<< ((8 : Int32) &&& 31)) ||| ((bb 4) &&& (255 : Int32)))), .val (.int nn), .val (.int ((((0 : Int32) + (1 : Int32)) + (1 : Int32)) + (1 : Int32)))] [(.int ((((0 : Int32) + (1 : Int32)) + (1 : Int32)) + (1 : Int32)))])) _
        refine XS.iload X0.here hx rfl (hb hby d1_106) rfl ?_
        show Steps p.tables e below (T0.setTop (mkF m 108 #[.val (.ref o1), .val (.int at1), s2, s3, s4, s5, .val (.int (((((((0 : Int32) <<< ((8 : Int32) &&& 31)) ||| ((bb 2) &&& (255 : Int32))) <<< ((8 : Int32) &&& 31)) ||| ((bb 3) &&& (255 : Int32))) <<< ((8 : Int32) &&& 31)) ||| ((bb 4) &&& (255 : Int32)))), .val (.int nn), .val (.int ((((0 : Int32) + (1 : Int32)) + (1 : Int32)) + (1 : Int32)))] [(.int nn), (.int ((((0 : Int32) + (1 : Int32)) + (1 : Int32)) + (1 : Int32)))])) _
        refine XS.icmpYes X0.here hx rfl (pc0 := 108) (pc' := 137) rfl (hb hby d1_108) rfl (flt hc108_4).2.1 (by decide) (by decide) ?_
        show Steps p.tables e below (T0.setTop (mkF m 137 #[.val (.ref o1), .val (.int at1), s2, s3, s4, s5, .val (.int (((((((0 : Int32) <<< ((8 : Int32) &&& 31)) ||| ((bb 2) &&& (255 : Int32))) <<< ((8 : Int32) &&& 31)) ||| ((bb 3) &&& (255 : Int32))) <<< ((8 : Int32) &&& 31)) ||| ((bb 4) &&& (255 : Int32)))), .val (.int nn), .val (.int ((((0 : Int32) + (1 : Int32)) + (1 : Int32)) + (1 : Int32)))] [])) _
        exact kt
    ·
      simp only [if_pos hc108_2, if_neg hc108_3] at hv0
      rw [hv0] at kt
      simp only [if_pos hc108_2, if_neg hc108_3] at hv1
      rw [hv1] at kt
      show Steps p.tables e below (T0.setTop (mkF m 98 #[.val (.ref o1), .val (.int at1), s2, s3, s4, s5, .val (.int l6), .val (.int nn), .unset] [])) _
      refine XS.iconst X0.here hx rfl (hb hby d1_98) ?_
      show Steps p.tables e below (T0.setTop (mkF m 99 #[.val (.ref o1), .val (.int at1), s2, s3, s4, s5, .val (.int l6), .val (.int nn), .unset] [(.int (0 : Int32))])) _
      refine XS.istore X0.here hx rfl (hb hby d1_99) rfl (l' := #[.val (.ref o1), .val (.int at1), s2, s3, s4, s5, .val (.int (0 : Int32)), .val (.int nn), .unset]) rfl ?_
      show Steps p.tables e below (T0.setTop (mkF m 101 #[.val (.ref o1), .val (.int at1), s2, s3, s4, s5, .val (.int (0 : Int32)), .val (.int nn), .unset] [])) _
      refine XS.iconst X0.here hx rfl (hb hby d1_101) ?_
      show Steps p.tables e below (T0.setTop (mkF m 102 #[.val (.ref o1), .val (.int at1), s2, s3, s4, s5, .val (.int (0 : Int32)), .val (.int nn), .unset] [(.int (0 : Int32))])) _
      refine XS.istore X0.here hx rfl (hb hby d1_102) rfl (l' := #[.val (.ref o1), .val (.int at1), s2, s3, s4, s5, .val (.int (0 : Int32)), .val (.int nn), .val (.int (0 : Int32))]) rfl ?_
      show Steps p.tables e below (T0.setTop (mkF m 104 #[.val (.ref o1), .val (.int at1), s2, s3, s4, s5, .val (.int (0 : Int32)), .val (.int nn), .val (.int (0 : Int32))] [])) _
      refine XS.iload X0.here hx rfl (hb hby d1_104) rfl ?_
      show Steps p.tables e below (T0.setTop (mkF m 106 #[.val (.ref o1), .val (.int at1), s2, s3, s4, s5, .val (.int (0 : Int32)), .val (.int nn), .val (.int (0 : Int32))] [(.int (0 : Int32))])) _
      refine XS.iload X0.here hx rfl (hb hby d1_106) rfl ?_
      show Steps p.tables e below (T0.setTop (mkF m 108 #[.val (.ref o1), .val (.int at1), s2, s3, s4, s5, .val (.int (0 : Int32)), .val (.int nn), .val (.int (0 : Int32))] [(.int nn), (.int (0 : Int32))])) _
      refine XS.icmpNo X0.here hx rfl (hb hby d1_108) rfl (tlt hpos).2.1 ?_
      show Steps p.tables e below (T0.setTop (mkF m 111 #[.val (.ref o1), .val (.int at1), s2, s3, s4, s5, .val (.int (0 : Int32)), .val (.int nn), .val (.int (0 : Int32))] [])) _
      refine XS.iload X0.here hx rfl (hb hby d1_111) rfl ?_
      show Steps p.tables e below (T0.setTop (mkF m 113 #[.val (.ref o1), .val (.int at1), s2, s3, s4, s5, .val (.int (0 : Int32)), .val (.int nn), .val (.int (0 : Int32))] [(.int (0 : Int32))])) _
      refine XS.bipush X0.here hx rfl (hb hby d1_113) ?_
      show Steps p.tables e below (T0.setTop (mkF m 115 #[.val (.ref o1), .val (.int at1), s2, s3, s4, s5, .val (.int (0 : Int32)), .val (.int nn), .val (.int (0 : Int32))] [(.int (8 : Int32)), (.int (0 : Int32))])) _
      refine XS.ishl X0.here hx rfl (hb hby d1_115) rfl ?_
      show Steps p.tables e below (T0.setTop (mkF m 116 #[.val (.ref o1), .val (.int at1), s2, s3, s4, s5, .val (.int (0 : Int32)), .val (.int nn), .val (.int (0 : Int32))] [(.int ((0 : Int32) <<< ((8 : Int32) &&& 31)))])) _
      refine XS.aloadN X0.here hx rfl (hb hby d1_116) rfl rfl ?_
      show Steps p.tables e below (T0.setTop (mkF m 117 #[.val (.ref o1), .val (.int at1), s2, s3, s4, s5, .val (.int (0 : Int32)), .val (.int nn), .val (.int (0 : Int32))] [(.ref o1), (.int ((0 : Int32) <<< ((8 : Int32) &&& 31)))])) _
      refine XS.iloadN X0.here hx rfl (hb hby d1_117) rfl ?_
      show Steps p.tables e below (T0.setTop (mkF m 118 #[.val (.ref o1), .val (.int at1), s2, s3, s4, s5, .val (.int (0 : Int32)), .val (.int nn), .val (.int (0 : Int32))] [(.int at1), (.ref o1), (.int ((0 : Int32) <<< ((8 : Int32) &&& 31)))])) _
      refine XS.iconst X0.here hx rfl (hb hby d1_118) ?_
      show Steps p.tables e below (T0.setTop (mkF m 119 #[.val (.ref o1), .val (.int at1), s2, s3, s4, s5, .val (.int (0 : Int32)), .val (.int nn), .val (.int (0 : Int32))] [(.int (2 : Int32)), (.int at1), (.ref o1), (.int ((0 : Int32) <<< ((8 : Int32) &&& 31)))])) _
      refine XS.iadd X0.here hx rfl (hb hby d1_119) rfl ?_
      show Steps p.tables e below (T0.setTop (mkF m 120 #[.val (.ref o1), .val (.int at1), s2, s3, s4, s5, .val (.int (0 : Int32)), .val (.int nn), .val (.int (0 : Int32))] [(.int (at1 + (2 : Int32))), (.ref o1), (.int ((0 : Int32) <<< ((8 : Int32) &&& 31)))])) _
      refine XS.iload X0.here hx rfl (hb hby d1_120) rfl ?_
      show Steps p.tables e below (T0.setTop (mkF m 122 #[.val (.ref o1), .val (.int at1), s2, s3, s4, s5, .val (.int (0 : Int32)), .val (.int nn), .val (.int (0 : Int32))] [(.int (0 : Int32)), (.int (at1 + (2 : Int32))), (.ref o1), (.int ((0 : Int32) <<< ((8 : Int32) &&& 31)))])) _
      refine XS.iadd X0.here hx rfl (hb hby d1_122) rfl ?_
      show Steps p.tables e below (T0.setTop (mkF m 123 #[.val (.ref o1), .val (.int at1), s2, s3, s4, s5, .val (.int (0 : Int32)), .val (.int nn), .val (.int (0 : Int32))] [(.int ((at1 + (2 : Int32)) + (0 : Int32))), (.ref o1), (.int ((0 : Int32) <<< ((8 : Int32) &&& 31)))])) _
      refine X0.baloadBytes hx (j := ((at1 + (2 : Int32)) + (0 : Int32))) (v := (.int (bb 2))) (by rw [e0]; exact Ar.1) (State.isArrayOf_alike hZ.alike Ar.2.1) Ar.2.2 PB1.1 PB1.2 (g := (mkF m 123 #[.val (.ref o1), .val (.int at1), s2, s3, s4, s5, .val (.int (0 : Int32)), .val (.int nn), .val (.int (0 : Int32))] [(.int ((at1 + (2 : Int32)) + (0 : Int32))), (.ref o1), (.int ((0 : Int32) <<< ((8 : Int32) &&& 31)))])) rfl rfl (hb hby d1_123) _ ?_
      show Steps p.tables e below (T0.setTop (mkF m 124 #[.val (.ref o1), .val (.int at1), s2, s3, s4, s5, .val (.int (0 : Int32)), .val (.int nn), .val (.int (0 : Int32))] [(.int (bb 2)), (.int ((0 : Int32) <<< ((8 : Int32) &&& 31)))])) _
      refine XS.sipush X0.here hx rfl (hb hby d1_124) ?_
      show Steps p.tables e below (T0.setTop (mkF m 127 #[.val (.ref o1), .val (.int at1), s2, s3, s4, s5, .val (.int (0 : Int32)), .val (.int nn), .val (.int (0 : Int32))] [(.int (255 : Int32)), (.int (bb 2)), (.int ((0 : Int32) <<< ((8 : Int32) &&& 31)))])) _
      refine XS.iand X0.here hx rfl (hb hby d1_127) rfl ?_
      show Steps p.tables e below (T0.setTop (mkF m 128 #[.val (.ref o1), .val (.int at1), s2, s3, s4, s5, .val (.int (0 : Int32)), .val (.int nn), .val (.int (0 : Int32))] [(.int ((bb 2) &&& (255 : Int32))), (.int ((0 : Int32) <<< ((8 : Int32) &&& 31)))])) _
      refine XS.ior X0.here hx rfl (hb hby d1_128) rfl ?_
      show Steps p.tables e below (T0.setTop (mkF m 129 #[.val (.ref o1), .val (.int at1), s2, s3, s4, s5, .val (.int (0 : Int32)), .val (.int nn), .val (.int (0 : Int32))] [(.int (((0 : Int32) <<< ((8 : Int32) &&& 31)) ||| ((bb 2) &&& (255 : Int32))))])) _
      refine XS.istore X0.here hx rfl (hb hby d1_129) rfl (l' := #[.val (.ref o1), .val (.int at1), s2, s3, s4, s5, .val (.int (((0 : Int32) <<< ((8 : Int32) &&& 31)) ||| ((bb 2) &&& (255 : Int32)))), .val (.int nn), .val (.int (0 : Int32))]) rfl ?_
      show Steps p.tables e below (T0.setTop (mkF m 131 #[.val (.ref o1), .val (.int at1), s2, s3, s4, s5, .val (.int (((0 : Int32) <<< ((8 : Int32) &&& 31)) ||| ((bb 2) &&& (255 : Int32)))), .val (.int nn), .val (.int (0 : Int32))] [])) _
      refine XS.iinc X0.here hx rfl (hb hby d1_131) rfl (l' := #[.val (.ref o1), .val (.int at1), s2, s3, s4, s5, .val (.int (((0 : Int32) <<< ((8 : Int32) &&& 31)) ||| ((bb 2) &&& (255 : Int32)))), .val (.int nn), .val (.int ((0 : Int32) + (1 : Int32)))]) rfl ?_
      show Steps p.tables e below (T0.setTop (mkF m 134 #[.val (.ref o1), .val (.int at1), s2, s3, s4, s5, .val (.int (((0 : Int32) <<< ((8 : Int32) &&& 31)) ||| ((bb 2) &&& (255 : Int32)))), .val (.int nn), .val (.int ((0 : Int32) + (1 : Int32)))] [])) _
      refine XS.goto X0.here hx rfl (pc0 := 134) (pc' := 104) rfl (hb hby d1_134) (by decide) (by decide) ?_
      show Steps p.tables e below (T0.setTop (mkF m 104 #[.val (.ref o1), .val (.int at1), s2, s3, s4, s5, .val (.int (((0 : Int32) <<< ((8 : Int32) &&& 31)) ||| ((bb 2) &&& (255 : Int32)))), .val (.int nn), .val (.int ((0 : Int32) + (1 : Int32)))] [])) _
      refine XS.iload X0.here hx rfl (hb hby d1_104) rfl ?_
      show Steps p.tables e below (T0.setTop (mkF m 106 #[.val (.ref o1), .val (.int at1), s2, s3, s4, s5, .val (.int (((0 : Int32) <<< ((8 : Int32) &&& 31)) ||| ((bb 2) &&& (255 : Int32)))), .val (.int nn), .val (.int ((0 : Int32) + (1 : Int32)))] [(.int ((0 : Int32) + (1 : Int32)))])) _
      refine XS.iload X0.here hx rfl (hb hby d1_106) rfl ?_
      show Steps p.tables e below (T0.setTop (mkF m 108 #[.val (.ref o1), .val (.int at1), s2, s3, s4, s5, .val (.int (((0 : Int32) <<< ((8 : Int32) &&& 31)) ||| ((bb 2) &&& (255 : Int32)))), .val (.int nn), .val (.int ((0 : Int32) + (1 : Int32)))] [(.int nn), (.int ((0 : Int32) + (1 : Int32)))])) _
      refine XS.icmpNo X0.here hx rfl (hb hby d1_108) rfl (tlt hc108_2).2.1 ?_
      show Steps p.tables e below (T0.setTop (mkF m 111 #[.val (.ref o1), .val (.int at1), s2, s3, s4, s5, .val (.int (((0 : Int32) <<< ((8 : Int32) &&& 31)) ||| ((bb 2) &&& (255 : Int32)))), .val (.int nn), .val (.int ((0 : Int32) + (1 : Int32)))] [])) _
      refine XS.iload X0.here hx rfl (hb hby d1_111) rfl ?_
      show Steps p.tables e below (T0.setTop (mkF m 113 #[.val (.ref o1), .val (.int at1), s2, s3, s4, s5, .val (.int (((0 : Int32) <<< ((8 : Int32) &&& 31)) ||| ((bb 2) &&& (255 : Int32)))), .val (.int nn), .val (.int ((0 : Int32) + (1 : Int32)))] [(.int (((0 : Int32) <<< ((8 : Int32) &&& 31)) ||| ((bb 2) &&& (255 : Int32))))])) _
      refine XS.bipush X0.here hx rfl (hb hby d1_113) ?_
      show Steps p.tables e below (T0.setTop (mkF m 115 #[.val (.ref o1), .val (.int at1), s2, s3, s4, s5, .val (.int (((0 : Int32) <<< ((8 : Int32) &&& 31)) ||| ((bb 2) &&& (255 : Int32)))), .val (.int nn), .val (.int ((0 : Int32) + (1 : Int32)))] [(.int (8 : Int32)), (.int (((0 : Int32) <<< ((8 : Int32) &&& 31)) ||| ((bb 2) &&& (255 : Int32))))])) _
      refine XS.ishl X0.here hx rfl (hb hby d1_115) rfl ?_
      show Steps p.tables e below (T0.setTop (mkF m 116 #[.val (.ref o1), .val (.int at1), s2, s3, s4, s5, .val (.int (((0 : Int32) <<< ((8 : Int32) &&& 31)) ||| ((bb 2) &&& (255 : Int32)))), .val (.int nn), .val (.int ((0 : Int32) + (1 : Int32)))] [(.int ((((0 : Int32) <<< ((8 : Int32) &&& 31)) ||| ((bb 2) &&& (255 : Int32))) <<< ((8 : Int32) &&& 31)))])) _
      refine XS.aloadN X0.here hx rfl (hb hby d1_116) rfl rfl ?_
      show Steps p.tables e below (T0.setTop (mkF m 117 #[.val (.ref o1), .val (.int at1), s2, s3, s4, s5, .val (.int (((0 : Int32) <<< ((8 : Int32) &&& 31)) ||| ((bb 2) &&& (255 : Int32)))), .val (.int nn), .val (.int ((0 : Int32) + (1 : Int32)))] [(.ref o1), (.int ((((0 : Int32) <<< ((8 : Int32) &&& 31)) ||| ((bb 2) &&& (255 : Int32))) <<< ((8 : Int32) &&& 31)))])) _
      refine XS.iloadN X0.here hx rfl (hb hby d1_117) rfl ?_
      show Steps p.tables e below (T0.setTop (mkF m 118 #[.val (.ref o1), .val (.int at1), s2, s3, s4, s5, .val (.int (((0 : Int32) <<< ((8 : Int32) &&& 31)) ||| ((bb 2) &&& (255 : Int32)))), .val (.int nn), .val (.int ((0 : Int32) + (1 : Int32)))] [(.int at1), (.ref o1), (.int ((((0 : Int32) <<< ((8 : Int32) &&& 31)) ||| ((bb 2) &&& (255 : Int32))) <<< ((8 : Int32) &&& 31)))])) _
      refine XS.iconst X0.here hx rfl (hb hby d1_118) ?_
      show Steps p.tables e below (T0.setTop (mkF m 119 #[.val (.ref o1), .val (.int at1), s2, s3, s4, s5, .val (.int (((0 : Int32) <<< ((8 : Int32) &&& 31)) ||| ((bb 2) &&& (255 : Int32)))), .val (.int nn), .val (.int ((0 : Int32) + (1 : Int32)))] [(.int (2 : Int32)), (.int at1), (.ref o1), (.int ((((0 : Int32) <<< ((8 : Int32) &&& 31)) ||| ((bb 2) &&& (255 : Int32))) <<< ((8 : Int32) &&& 31)))])) _
      refine XS.iadd X0.here hx rfl (hb hby d1_119) rfl ?_
      show Steps p.tables e below (T0.setTop (mkF m 120 #[.val (.ref o1), .val (.int at1), s2, s3, s4, s5, .val (.int (((0 : Int32) <<< ((8 : Int32) &&& 31)) ||| ((bb 2) &&& (255 : Int32)))), .val (.int nn), .val (.int ((0 : Int32) + (1 : Int32)))] [(.int (at1 + (2 : Int32))), (.ref o1), (.int ((((0 : Int32) <<< ((8 : Int32) &&& 31)) ||| ((bb 2) &&& (255 : Int32))) <<< ((8 : Int32) &&& 31)))])) _
      refine XS.iload X0.here hx rfl (hb hby d1_120) rfl ?_
      show Steps p.tables e below (T0.setTop (mkF m 122 #[.val (.ref o1), .val (.int at1), s2, s3, s4, s5, .val (.int (((0 : Int32) <<< ((8 : Int32) &&& 31)) ||| ((bb 2) &&& (255 : Int32)))), .val (.int nn), .val (.int ((0 : Int32) + (1 : Int32)))] [(.int ((0 : Int32) + (1 : Int32))), (.int (at1 + (2 : Int32))), (.ref o1), (.int ((((0 : Int32) <<< ((8 : Int32) &&& 31)) ||| ((bb 2) &&& (255 : Int32))) <<< ((8 : Int32) &&& 31)))])) _
      refine XS.iadd X0.here hx rfl (hb hby d1_122) rfl ?_
      show Steps p.tables e below (T0.setTop (mkF m 123 #[.val (.ref o1), .val (.int at1), s2, s3, s4, s5, .val (.int (((0 : Int32) <<< ((8 : Int32) &&& 31)) ||| ((bb 2) &&& (255 : Int32)))), .val (.int nn), .val (.int ((0 : Int32) + (1 : Int32)))] [(.int ((at1 + (2 : Int32)) + ((0 : Int32) + (1 : Int32)))), (.ref o1), (.int ((((0 : Int32) <<< ((8 : Int32) &&& 31)) ||| ((bb 2) &&& (255 : Int32))) <<< ((8 : Int32) &&& 31)))])) _
      refine X0.baloadBytes hx (j := ((at1 + (2 : Int32)) + ((0 : Int32) + (1 : Int32)))) (v := (.int (bb 3))) (by rw [e0]; exact Ar.1) (State.isArrayOf_alike hZ.alike Ar.2.1) Ar.2.2 PB2.1 PB2.2 (g := (mkF m 123 #[.val (.ref o1), .val (.int at1), s2, s3, s4, s5, .val (.int (((0 : Int32) <<< ((8 : Int32) &&& 31)) ||| ((bb 2) &&& (255 : Int32)))), .val (.int nn), .val (.int ((0 : Int32) + (1 : Int32)))] [(.int ((at1 + (2 : Int32)) + ((0 : Int32) + (1 : Int32)))), (.ref o1), (.int ((((0 : Int32) <<< ((8 : Int32) &&& 31)) ||| ((bb 2) &&& (255 : Int32))) <<< ((8 : Int32) &&& 31)))])) rfl rfl (hb hby d1_123) _ ?_
      show Steps p.tables e below (T0.setTop (mkF m 124 #[.val (.ref o1), .val (.int at1), s2, s3, s4, s5, .val (.int (((0 : Int32) <<< ((8 : Int32) &&& 31)) ||| ((bb 2) &&& (255 : Int32)))), .val (.int nn), .val (.int ((0 : Int32) + (1 : Int32)))] [(.int (bb 3)), (.int ((((0 : Int32) <<< ((8 : Int32) &&& 31)) ||| ((bb 2) &&& (255 : Int32))) <<< ((8 : Int32) &&& 31)))])) _
      refine XS.sipush X0.here hx rfl (hb hby d1_124) ?_
      show Steps p.tables e below (T0.setTop (mkF m 127 #[.val (.ref o1), .val (.int at1), s2, s3, s4, s5, .val (.int (((0 : Int32) <<< ((8 : Int32) &&& 31)) ||| ((bb 2) &&& (255 : Int32)))), .val (.int nn), .val (.int ((0 : Int32) + (1 : Int32)))] [(.int (255 : Int32)), (.int (bb 3)), (.int ((((0 : Int32) <<< ((8 : Int32) &&& 31)) ||| ((bb 2) &&& (255 : Int32))) <<< ((8 : Int32) &&& 31)))])) _
      refine XS.iand X0.here hx rfl (hb hby d1_127) rfl ?_
      show Steps p.tables e below (T0.setTop (mkF m 128 #[.val (.ref o1), .val (.int at1), s2, s3, s4, s5, .val (.int (((0 : Int32) <<< ((8 : Int32) &&& 31)) ||| ((bb 2) &&& (255 : Int32)))), .val (.int nn), .val (.int ((0 : Int32) + (1 : Int32)))] [(.int ((bb 3) &&& (255 : Int32))), (.int ((((0 : Int32) <<< ((8 : Int32) &&& 31)) ||| ((bb 2) &&& (255 : Int32))) <<< ((8 : Int32) &&& 31)))])) _
      refine XS.ior X0.here hx rfl (hb hby d1_128) rfl ?_
      show Steps p.tables e below (T0.setTop (mkF m 129 #[.val (.ref o1), .val (.int at1), s2, s3, s4, s5, .val (.int (((0 : Int32) <<< ((8 : Int32) &&& 31)) ||| ((bb 2) &&& (255 : Int32)))), .val (.int nn), .val (.int ((0 : Int32) + (1 : Int32)))] [(.int (((((0 : Int32) <<< ((8 : Int32) &&& 31)) ||| ((bb 2) &&& (255 : Int32))) <<< ((8 : Int32) &&& 31)) ||| ((bb 3) &&& (255 : Int32))))])) _
      refine XS.istore X0.here hx rfl (hb hby d1_129) rfl (l' := #[.val (.ref o1), .val (.int at1), s2, s3, s4, s5, .val (.int (((((0 : Int32) <<< ((8 : Int32) &&& 31)) ||| ((bb 2) &&& (255 : Int32))) <<< ((8 : Int32) &&& 31)) ||| ((bb 3) &&& (255 : Int32)))), .val (.int nn), .val (.int ((0 : Int32) + (1 : Int32)))]) rfl ?_
      show Steps p.tables e below (T0.setTop (mkF m 131 #[.val (.ref o1), .val (.int at1), s2, s3, s4, s5, .val (.int (((((0 : Int32) <<< ((8 : Int32) &&& 31)) ||| ((bb 2) &&& (255 : Int32))) <<< ((8 : Int32) &&& 31)) ||| ((bb 3) &&& (255 : Int32)))), .val (.int nn), .val (.int ((0 : Int32) + (1 : Int32)))] [])) _
      refine XS.iinc X0.here hx rfl (hb hby d1_131) rfl (l' := #[.val (.ref o1), .val (.int at1), s2, s3, s4, s5, .val (.int (((((0 : Int32) <<< ((8 : Int32) &&& 31)) ||| ((bb 2) &&& (255 : Int32))) <<< ((8 : Int32) &&& 31)) ||| ((bb 3) &&& (255 : Int32)))), .val (.int nn), .val (.int (((0 : Int32) + (1 : Int32)) + (1 : Int32)))]) rfl ?_
      show Steps p.tables e below (T0.setTop (mkF m 134 #[.val (.ref o1), .val (.int at1), s2, s3, s4, s5, .val (.int (((((0 : Int32) <<< ((8 : Int32) &&& 31)) ||| ((bb 2) &&& (255 : Int32))) <<< ((8 : Int32) &&& 31)) ||| ((bb 3) &&& (255 : Int32)))), .val (.int nn), .val (.int (((0 : Int32) + (1 : Int32)) + (1 : Int32)))] [])) _
      refine XS.goto X0.here hx rfl (pc0 := 134) (pc' := 104) rfl (hb hby d1_134) (by decide) (by decide) ?_
      show Steps p.tables e below (T0.setTop (mkF m 104 #[.val (.ref o1), .val (.int at1), s2, s3, s4, s5, .val (.int (((((0 : Int32) <<< ((8 : Int32) &&& 31)) ||| ((bb 2) &&& (255 : Int32))) <<< ((8 : Int32) &&& 31)) ||| ((bb 3) &&& (255 : Int32)))), .val (.int nn), .val (.int (((0 : Int32) + (1 : Int32)) + (1 : Int32)))] [])) _
      refine XS.iload X0.here hx rfl (hb hby d1_104) rfl ?_
      show Steps p.tables e below (T0.setTop (mkF m 106 #[.val (.ref o1), .val (.int at1), s2, s3, s4, s5, .val (.int (((((0 : Int32) <<< ((8 : Int32) &&& 31)) ||| ((bb 2) &&& (255 : Int32))) <<< ((8 : Int32) &&& 31)) ||| ((bb 3) &&& (255 : Int32)))), .val (.int nn), .val (.int (((0 : Int32) + (1 : Int32)) + (1 : Int32)))] [(.int (((0 : Int32) + (1 : Int32)) + (1 : Int32)))])) _
      refine XS.iload X0.here hx rfl (hb hby d1_106) rfl ?_
      show Steps p.tables e below (T0.setTop (mkF m 108 #[.val (.ref o1), .val (.int at1), s2, s3, s4, s5, .val (.int (((((0 : Int32) <<< ((8 : Int32) &&& 31)) ||| ((bb 2) &&& (255 : Int32))) <<< ((8 : Int32) &&& 31)) ||| ((bb 3) &&& (255 : Int32)))), .val (.int nn), .val (.int (((0 : Int32) + (1 : Int32)) + (1 : Int32)))] [(.int nn), (.int (((0 : Int32) + (1 : Int32)) + (1 : Int32)))])) _
      refine XS.icmpYes X0.here hx rfl (pc0 := 108) (pc' := 137) rfl (hb hby d1_108) rfl (flt hc108_3).2.1 (by decide) (by decide) ?_
      show Steps p.tables e below (T0.setTop (mkF m 137 #[.val (.ref o1), .val (.int at1), s2, s3, s4, s5, .val (.int (((((0 : Int32) <<< ((8 : Int32) &&& 31)) ||| ((bb 2) &&& (255 : Int32))) <<< ((8 : Int32) &&& 31)) ||| ((bb 3) &&& (255 : Int32)))), .val (.int nn), .val (.int (((0 : Int32) + (1 : Int32)) + (1 : Int32)))] [])) _
      exact kt
  ·
    simp only [if_neg hc108_2] at hv0
    rw [hv0] at kt
    simp only [if_neg hc108_2] at hv1
    rw [hv1] at kt
    show Steps p.tables e below (T0.setTop (mkF m 98 #[.val (.ref o1), .val (.int at1), s2, s3, s4, s5, .val (.int l6), .val (.int nn), .unset] [])) _
    refine XS.iconst X0.here hx rfl (hb hby d1_98) ?_
    show Steps p.tables e below (T0.setTop (mkF m 99 #[.val (.ref o1), .val (.int at1), s2, s3, s4, s5, .val (.int l6), .val (.int nn), .unset] [(.int (0 : Int32))])) _
    refine XS.istore X0.here hx rfl (hb hby d1_99) rfl (l' := #[.val (.ref o1), .val (.int at1), s2, s3, s4, s5, .val (.int (0 : Int32)), .val (.int nn), .unset]) rfl ?_
    show Steps p.tables e below (T0.setTop (mkF m 101 #[.val (.ref o1), .val (.int at1), s2, s3, s4, s5, .val (.int (0 : Int32)), .val (.int nn), .unset] [])) _
    refine XS.iconst X0.here hx rfl (hb hby d1_101) ?_
    show Steps p.tables e below (T0.setTop (mkF m 102 #[.val (.ref o1), .val (.int at1), s2, s3, s4, s5, .val (.int (0 : Int32)), .val (.int nn), .unset] [(.int (0 : Int32))])) _
    refine XS.istore X0.here hx rfl (hb hby d1_102) rfl (l' := #[.val (.ref o1), .val (.int at1), s2, s3, s4, s5, .val (.int (0 : Int32)), .val (.int nn), .val (.int (0 : Int32))]) rfl ?_
    show Steps p.tables e below (T0.setTop (mkF m 104 #[.val (.ref o1), .val (.int at1), s2, s3, s4, s5, .val (.int (0 : Int32)), .val (.int nn), .val (.int (0 : Int32))] [])) _
    refine XS.iload X0.here hx rfl (hb hby d1_104) rfl ?_
    show Steps p.tables e below (T0.setTop (mkF m 106 #[.val (.ref o1), .val (.int at1), s2, s3, s4, s5, .val (.int (0 : Int32)), .val (.int nn), .val (.int (0 : Int32))] [(.int (0 : Int32))])) _
    refine XS.iload X0.here hx rfl (hb hby d1_106) rfl ?_
    show Steps p.tables e below (T0.setTop (mkF m 108 #[.val (.ref o1), .val (.int at1), s2, s3, s4, s5, .val (.int (0 : Int32)), .val (.int nn), .val (.int (0 : Int32))] [(.int nn), (.int (0 : Int32))])) _
    refine XS.icmpNo X0.here hx rfl (hb hby d1_108) rfl (tlt hpos).2.1 ?_
    show Steps p.tables e below (T0.setTop (mkF m 111 #[.val (.ref o1), .val (.int at1), s2, s3, s4, s5, .val (.int (0 : Int32)), .val (.int nn), .val (.int (0 : Int32))] [])) _
    refine XS.iload X0.here hx rfl (hb hby d1_111) rfl ?_
    show Steps p.tables e below (T0.setTop (mkF m 113 #[.val (.ref o1), .val (.int at1), s2, s3, s4, s5, .val (.int (0 : Int32)), .val (.int nn), .val (.int (0 : Int32))] [(.int (0 : Int32))])) _
    refine XS.bipush X0.here hx rfl (hb hby d1_113) ?_
    show Steps p.tables e below (T0.setTop (mkF m 115 #[.val (.ref o1), .val (.int at1), s2, s3, s4, s5, .val (.int (0 : Int32)), .val (.int nn), .val (.int (0 : Int32))] [(.int (8 : Int32)), (.int (0 : Int32))])) _
    refine XS.ishl X0.here hx rfl (hb hby d1_115) rfl ?_
    show Steps p.tables e below (T0.setTop (mkF m 116 #[.val (.ref o1), .val (.int at1), s2, s3, s4, s5, .val (.int (0 : Int32)), .val (.int nn), .val (.int (0 : Int32))] [(.int ((0 : Int32) <<< ((8 : Int32) &&& 31)))])) _
    refine XS.aloadN X0.here hx rfl (hb hby d1_116) rfl rfl ?_
    show Steps p.tables e below (T0.setTop (mkF m 117 #[.val (.ref o1), .val (.int at1), s2, s3, s4, s5, .val (.int (0 : Int32)), .val (.int nn), .val (.int (0 : Int32))] [(.ref o1), (.int ((0 : Int32) <<< ((8 : Int32) &&& 31)))])) _
    refine XS.iloadN X0.here hx rfl (hb hby d1_117) rfl ?_
    show Steps p.tables e below (T0.setTop (mkF m 118 #[.val (.ref o1), .val (.int at1), s2, s3, s4, s5, .val (.int (0 : Int32)), .val (.int nn), .val (.int (0 : Int32))] [(.int at1), (.ref o1), (.int ((0 : Int32) <<< ((8 : Int32) &&& 31)))])) _
    refine XS.iconst X0.here hx rfl (hb hby d1_118) ?_
    show Steps p.tables e below (T0.setTop (mkF m 119 #[.val (.ref o1), .val (.int at1), s2, s3, s4, s5, .val (.int (0 : Int32)), .val (.int nn), .val (.int (0 : Int32))] [(.int (2 : Int32)), (.int at1), (.ref o1), (.int ((0 : Int32) <<< ((8 : Int32) &&& 31)))])) _
    refine XS.iadd X0.here hx rfl (hb hby d1_119) rfl ?_
    show Steps p.tables e below (T0.setTop (mkF m 120 #[.val (.ref o1), .val (.int at1), s2, s3, s4, s5, .val (.int (0 : Int32)), .val (.int nn), .val (.int (0 : Int32))] [(.int (at1 + (2 : Int32))), (.ref o1), (.int ((0 : Int32) <<< ((8 : Int32) &&& 31)))])) _
    refine XS.iload X0.here hx rfl (hb hby d1_120) rfl ?_
    show Steps p.tables e below (T0.setTop (mkF m 122 #[.val (.ref o1), .val (.int at1), s2, s3, s4, s5, .val (.int (0 : Int32)), .val (.int nn), .val (.int (0 : Int32))] [(.int (0 : Int32)), (.int (at1 + (2 : Int32))), (.ref o1), (.int ((0 : Int32) <<< ((8 : Int32) &&& 31)))])) _
    refine XS.iadd X0.here hx rfl (hb hby d1_122) rfl ?_
    show Steps p.tables e below (T0.setTop (mkF m 123 #[.val (.ref o1), .val (.int at1), s2, s3, s4, s5, .val (.int (0 : Int32)), .val (.int nn), .val (.int (0 : Int32))] [(.int ((at1 + (2 : Int32)) + (0 : Int32))), (.ref o1), (.int ((0 : Int32) <<< ((8 : Int32) &&& 31)))])) _
    refine X0.baloadBytes hx (j := ((at1 + (2 : Int32)) + (0 : Int32))) (v := (.int (bb 2))) (by rw [e0]; exact Ar.1) (State.isArrayOf_alike hZ.alike Ar.2.1) Ar.2.2 PB1.1 PB1.2 (g := (mkF m 123 #[.val (.ref o1), .val (.int at1), s2, s3, s4, s5, .val (.int (0 : Int32)), .val (.int nn), .val (.int (0 : Int32))] [(.int ((at1 + (2 : Int32)) + (0 : Int32))), (.ref o1), (.int ((0 : Int32) <<< ((8 : Int32) &&& 31)))])) rfl rfl (hb hby d1_123) _ ?_
    show Steps p.tables e below (T0.setTop (mkF m 124 #[.val (.ref o1), .val (.int at1), s2, s3, s4, s5, .val (.int (0 : Int32)), .val (.int nn), .val (.int (0 : Int32))] [(.int (bb 2)), (.int ((0 : Int32) <<< ((8 : Int32) &&& 31)))])) _
    refine XS.sipush X0.here hx rfl (hb hby d1_124) ?_
    show Steps p.tables e below (T0.setTop (mkF m 127 #[.val (.ref o1), .val (.int at1), s2, s3, s4, s5, .val (.int (0 : Int32)), .val (.int nn), .val (.int (0 : Int32))] [(.int (255 : Int32)), (.int (bb 2)), (.int ((0 : Int32) <<< ((8 : Int32) &&& 31)))])) _
    refine XS.iand X0.here hx rfl (hb hby d1_127) rfl ?_
    show Steps p.tables e below (T0.setTop (mkF m 128 #[.val (.ref o1), .val (.int at1), s2, s3, s4, s5, .val (.int (0 : Int32)), .val (.int nn), .val (.int (0 : Int32))] [(.int ((bb 2) &&& (255 : Int32))), (.int ((0 : Int32) <<< ((8 : Int32) &&& 31)))])) _
    refine XS.ior X0.here hx rfl (hb hby d1_128) rfl ?_
    show Steps p.tables e below (T0.setTop (mkF m 129 #[.val (.ref o1), .val (.int at1), s2, s3, s4, s5, .val (.int (0 : Int32)), .val (.int nn), .val (.int (0 : Int32))] [(.int (((0 : Int32) <<< ((8 : Int32) &&& 31)) ||| ((bb 2) &&& (255 : Int32))))])) _
    refine XS.istore X0.here hx rfl (hb hby d1_129) rfl (l' := #[.val (.ref o1), .val (.int at1), s2, s3, s4, s5, .val (.int (((0 : Int32) <<< ((8 : Int32) &&& 31)) ||| ((bb 2) &&& (255 : Int32)))), .val (.int nn), .val (.int (0 : Int32))]) rfl ?_
    show Steps p.tables e below (T0.setTop (mkF m 131 #[.val (.ref o1), .val (.int at1), s2, s3, s4, s5, .val (.int (((0 : Int32) <<< ((8 : Int32) &&& 31)) ||| ((bb 2) &&& (255 : Int32)))), .val (.int nn), .val (.int (0 : Int32))] [])) _
    refine XS.iinc X0.here hx rfl (hb hby d1_131) rfl (l' := #[.val (.ref o1), .val (.int at1), s2, s3, s4, s5, .val (.int (((0 : Int32) <<< ((8 : Int32) &&& 31)) ||| ((bb 2) &&& (255 : Int32)))), .val (.int nn), .val (.int ((0 : Int32) + (1 : Int32)))]) rfl ?_
    show Steps p.tables e below (T0.setTop (mkF m 134 #[.val (.ref o1), .val (.int at1), s2, s3, s4, s5, .val (.int (((0 : Int32) <<< ((8 : Int32) &&& 31)) ||| ((bb 2) &&& (255 : Int32)))), .val (.int nn), .val (.int ((0 : Int32) + (1 : Int32)))] [])) _
    refine XS.goto X0.here hx rfl (pc0 := 134) (pc' := 104) rfl (hb hby d1_134) (by decide) (by decide) ?_
    show Steps p.tables e below (T0.setTop (mkF m 104 #[.val (.ref o1), .val (.int at1), s2, s3, s4, s5, .val (.int (((0 : Int32) <<< ((8 : Int32) &&& 31)) ||| ((bb 2) &&& (255 : Int32)))), .val (.int nn), .val (.int ((0 : Int32) + (1 : Int32)))] [])) _
    refine XS.iload X0.here hx rfl (hb hby d1_104) rfl ?_
    show Steps p.tables e below (T0.setTop (mkF m 106 #[.val (.ref o1), .val (.int at1), s2, s3, s4, s5, .val (.int (((0 : Int32) <<< ((8 : Int32) &&& 31)) ||| ((bb 2) &&& (255 : Int32)))), .val (.int nn), .val (.int ((0 : Int32) + (1 : Int32)))] [(.int ((0 : Int32) + (1 : Int32)))])) _
    refine XS.iload X0.here hx rfl (hb hby d1_106) rfl ?_
    show Steps p.tables e below (T0.setTop (mkF m 108 #[.val (.ref o1), .val (.int at1), s2, s3, s4, s5, .val (.int (((0 : Int32) <<< ((8 : Int32) &&& 31)) ||| ((bb 2) &&& (255 : Int32)))), .val (.int nn), .val (.int ((0 : Int32) + (1 : Int32)))] [(.int nn), (.int ((0 : Int32) + (1 : Int32)))])) _
    refine XS.icmpYes X0.here hx rfl (pc0 := 108) (pc' := 137) rfl (hb hby d1_108) rfl (flt hc108_2).2.1 (by decide) (by decide) ?_
    show Steps p.tables e below (T0.setTop (mkF m 137 #[.val (.ref o1), .val (.int at1), s2, s3, s4, s5, .val (.int (((0 : Int32) <<< ((8 : Int32) &&& 31)) ||| ((bb 2) &&& (255 : Int32)))), .val (.int nn), .val (.int ((0 : Int32) + (1 : Int32)))] [])) _
    exact kt
theorem ef_1 (m : MethodId) (o1 : Addr) (at1 : Int32) (lim : Int32) : entryFrame m #[(.ref o1), (.int at1), (.int lim)] 9 = mkF m 0 #[.val (.ref o1), .val (.int at1), .val (.int lim), .unset, .unset, .unset, .unset, .unset, .unset] [] := by first | (simp [entryFrame, mkF, argsToLocals, Value.category]; done) | rfl
def Q1 (at1 lim : Int32) (bb : Nat → Int32) (h0 : Heap) (n0 : Nat) (v : Option Value) (h : Heap) (L : List Loc) : Prop := v = some (.long (own_ph at1 lim (bb 0) (bb 1) (bb 2) (bb 3) (bb 4) (bb 5))) ∧ Fr n0 L ∧ h = h0
set_option maxRecDepth 65536 in
set_option maxHeartbeats 40000000 in
theorem rm1 (l : Launch) (Z : State) (a0 : Array Value) (hw : ∀ d ∈ tables_1, d.before a0 Z = true) (ws : List Jvm.Cond) (o1 : Addr) (at1 lim : Int32) (cl : Cell) (bb : Nat → Int32) (h0 : Heap) (n0 : Nat) (Z0 : n0 ≤ h0.size) (Ar : Arr Z h0 o1 cl .byte) (H7 : 0 ≤ at1.toInt ∧ at1.toInt ≤ 7) (PB : ∀ (j : Int32) (k : Nat), k < 6 → j.toInt = at1.toInt + k → ¬ (j < 0 ∨ cl.slots.size ≤ j.toNatClampNeg) ∧ cl.slots[j.toNatClampNeg]? = some (.int (bb k))) :
    MetFree l (⟨"com/example/tagloom/tagloom/tlv/TlvDecoder", "plainHeader", "([BII)J"⟩ : MethodName) (head1 (Jvm.Cond.code (⟨"com/example/tagloom/tagloom/tlv/TlvDecoder", "plainHeader", "([BII)J"⟩ : MethodName) prog_164_method_6_code 9 (some .long) :: ws) ({ frames := 0, cells := 0, slots := 0, locals := 0 } : Room)) (fun a U => a = #[(.ref o1), (.int at1), (.int lim)] ∧ Z.Warmed39 U.vm ∧ U.heap = h0) (fun _ _ _ _ _ => True) (fun _ U o U' => ∃ v L, o = .returned v ∧ Q1 at1 lim bb h0 n0 v U'.heap L ∧ FrameEnd U o U' L ({ frames := 0, cells := 0, slots := 0, locals := 0 } : Room).cells ({ frames := 0, cells := 0, slots := 0, locals := 0 } : Room).slots) := by
  refine MetFree.of_bodySF (plainFor_of_name pn_1) hisR ?_
  intro p e s m args below meth c s₁ Bd hml0 hP hK
  obtain ⟨rfl, hZ, hh⟩ := hP
  have hx := Bd.exec
  have hby := Bd.bytes
  have hml : c.maxLocals = 9 := hml0
  have hown : s.vm.findClass "com/example/tagloom/tagloom/tlv/TlvDecoder" = some m.cls := findClass_of_methodNamed Bd.named
  have hnm := (name_of_methodNamed Bd.named Bd.method).1
  have X0 : Stand p l e ({ frames := 0, cells := 0, slots := 0, locals := 0 } : Room) s m #[(.ref o1), (.int at1), (.int lim)] below meth c s₁ [] 0 0 := Stand.of_body Bd
  have e0 : s₁.heap = h0 := by rw [← hh, Bd.state]; rfl
  have N0 := Fr.nil n0
  have pre0 : ∀ tgt, Steps p.tables e below (s₁.setTop (mkF m 0 #[.val (.ref o1), .val (.int at1), .val (.int lim), .unset, .unset, .unset, .unset, .unset, .unset] [])) tgt → Steps p.tables e below (s₁.setTop (entryFrame m #[(.ref o1), (.int at1), (.int lim)] 9)) tgt := fun tgt k => castTop (ef_1 m o1 at1 lim) k
  by_cases hc4 : (lim - at1) < (2 : Int32)
  ·
    obtain ⟨fs, hr, hrun, hended, hW, hsame⟩ := X0.leave (v := some (.long (-1 : Int64))) (fun h => by rw [Bd.returns] at h; cases h)
    refine ⟨_, _, pre0 _ ?_, hrun, hended, _, _, rfl, ?_, ⟨_, rfl⟩, hW, hsame.mono (by decide) (by decide)⟩
    · show Steps p.tables e below (s₁.setTop (mkF m 0 #[.val (.ref o1), .val (.int at1), .val (.int lim), .unset, .unset, .unset, .unset, .unset, .unset] [])) _
      refine XS.iloadN X0.here hx rfl (hb hby d1_0) rfl ?_
      show Steps p.tables e below (s₁.setTop (mkF m 1 #[.val (.ref o1), .val (.int at1), .val (.int lim), .unset, .unset, .unset, .unset, .unset, .unset] [(.int lim)])) _
      refine XS.iloadN X0.here hx rfl (hb hby d1_1) rfl ?_
      show Steps p.tables e below (s₁.setTop (mkF m 2 #[.val (.ref o1), .val (.int at1), .val (.int lim), .unset, .unset, .unset, .unset, .unset, .unset] [(.int at1), (.int lim)])) _
      refine XS.isub X0.here hx rfl (hb hby d1_2) rfl ?_
      show Steps p.tables e below (s₁.setTop (mkF m 3 #[.val (.ref o1), .val (.int at1), .val (.int lim), .unset, .unset, .unset, .unset, .unset, .unset] [(.int (lim - at1))])) _
      refine XS.iconst X0.here hx rfl (hb hby d1_3) ?_
      show Steps p.tables e below (s₁.setTop (mkF m 4 #[.val (.ref o1), .val (.int at1), .val (.int lim), .unset, .unset, .unset, .unset, .unset, .unset] [(.int (2 : Int32)), (.int (lim - at1))])) _
      refine XS.icmpNo X0.here hx rfl (hb hby d1_4) rfl (tlt hc4).2.1 ?_
      show Steps p.tables e below (s₁.setTop (mkF m 7 #[.val (.ref o1), .val (.int at1), .val (.int lim), .unset, .unset, .unset, .unset, .unset, .unset] [])) _
      refine X0.ldc2Long hx hown (mvT hZ (hw _ (List.mem_of_getElem? (i := 6) rfl))) (g := (mkF m 7 #[.val (.ref o1), .val (.int at1), .val (.int lim), .unset, .unset, .unset, .unset, .unset, .unset] [])) rfl (hb hby d1_7) _ ?_
      show Steps p.tables e below (s₁.setTop (mkF m 10 #[.val (.ref o1), .val (.int at1), .val (.int lim), .unset, .unset, .unset, .unset, .unset, .unset] [(.long (-1 : Int64))])) _
      exact X0.lreturnOut hx Bd.returns (hb hby d1_10) hr
    · show Q1 at1 lim bb h0 n0 _ s₁.heap _
      rw [e0]
      exact ⟨(by simp only [own_ph, own_pm, own_fin, own_pack, if_pos hc4]), N0, rfl⟩
  ·
    have PB1 := PB at1 0 (by decide) (by omega)
    obtain ⟨idv, hidv⟩ : ∃ z : Int32, z = ((bb 0) &&& (255 : Int32)) := ⟨_, rfl⟩
    by_cases hc25 : (idv &&& (31 : Int32)) = (31 : Int32)
    ·
      obtain ⟨fs, hr, hrun, hended, hW, hsame⟩ := X0.leave (v := some (.long (-1 : Int64))) (fun h => by rw [Bd.returns] at h; cases h)
      refine ⟨_, _, pre0 _ ?_, hrun, hended, _, _, rfl, ?_, ⟨_, rfl⟩, hW, hsame.mono (by decide) (by decide)⟩
      · show Steps p.tables e below (s₁.setTop (mkF m 0 #[.val (.ref o1), .val (.int at1), .val (.int lim), .unset, .unset, .unset, .unset, .unset, .unset] [])) _
        refine XS.iloadN X0.here hx rfl (hb hby d1_0) rfl ?_
        show Steps p.tables e below (s₁.setTop (mkF m 1 #[.val (.ref o1), .val (.int at1), .val (.int lim), .unset, .unset, .unset, .unset, .unset, .unset] [(.int lim)])) _
        refine XS.iloadN X0.here hx rfl (hb hby d1_1) rfl ?_
        show Steps p.tables e below (s₁.setTop (mkF m 2 #[.val (.ref o1), .val (.int at1), .val (.int lim), .unset, .unset, .unset, .unset, .unset, .unset] [(.int at1), (.int lim)])) _
        refine XS.isub X0.here hx rfl (hb hby d1_2) rfl ?_
        show Steps p.tables e below (s₁.setTop (mkF m 3 #[.val (.ref o1), .val (.int at1), .val (.int lim), .unset, .unset, .unset, .unset, .unset, .unset] [(.int (lim - at1))])) _
        refine XS.iconst X0.here hx rfl (hb hby d1_3) ?_
        show Steps p.tables e below (s₁.setTop (mkF m 4 #[.val (.ref o1), .val (.int at1), .val (.int lim), .unset, .unset, .unset, .unset, .unset, .unset] [(.int (2 : Int32)), (.int (lim - at1))])) _
        refine XS.icmpYes X0.here hx rfl (pc0 := 4) (pc' := 11) rfl (hb hby d1_4) rfl (flt hc4).2.1 (by decide) (by decide) ?_
        show Steps p.tables e below (s₁.setTop (mkF m 11 #[.val (.ref o1), .val (.int at1), .val (.int lim), .unset, .unset, .unset, .unset, .unset, .unset] [])) _
        refine XS.aloadN X0.here hx rfl (hb hby d1_11) rfl rfl ?_
        show Steps p.tables e below (s₁.setTop (mkF m 12 #[.val (.ref o1), .val (.int at1), .val (.int lim), .unset, .unset, .unset, .unset, .unset, .unset] [(.ref o1)])) _
        refine XS.iloadN X0.here hx rfl (hb hby d1_12) rfl ?_
        show Steps p.tables e below (s₁.setTop (mkF m 13 #[.val (.ref o1), .val (.int at1), .val (.int lim), .unset, .unset, .unset, .unset, .unset, .unset] [(.int at1), (.ref o1)])) _
        refine X0.baloadBytes hx (j := at1) (v := (.int (bb 0))) (by rw [e0]; exact Ar.1) (State.isArrayOf_alike hZ.alike Ar.2.1) Ar.2.2 PB1.1 PB1.2 (g := (mkF m 13 #[.val (.ref o1), .val (.int at1), .val (.int lim), .unset, .unset, .unset, .unset, .unset, .unset] [(.int at1), (.ref o1)])) rfl rfl (hb hby d1_13) _ ?_
        show Steps p.tables e below (s₁.setTop (mkF m 14 #[.val (.ref o1), .val (.int at1), .val (.int lim), .unset, .unset, .unset, .unset, .unset, .unset] [(.int (bb 0))])) _
        refine XS.sipush X0.here hx rfl (hb hby d1_14) ?_
        show Steps p.tables e below (s₁.setTop (mkF m 17 #[.val (.ref o1), .val (.int at1), .val (.int lim), .unset, .unset, .unset, .unset, .unset, .unset] [(.int (255 : Int32)), (.int (bb 0))])) _
        refine XS.iand X0.here hx rfl (hb hby d1_17) rfl ?_
        show Steps p.tables e below (s₁.setTop (mkF m 18 #[.val (.ref o1), .val (.int at1), .val (.int lim), .unset, .unset, .unset, .unset, .unset, .unset] [(.int ((bb 0) &&& (255 : Int32)))])) _
        refine XS.istoreN X0.here hx rfl (hb hby d1_18) rfl (l' := #[.val (.ref o1), .val (.int at1), .val (.int lim), .val (.int ((bb 0) &&& (255 : Int32))), .unset, .unset, .unset, .unset, .unset]) rfl ?_
        show Steps p.tables e below (s₁.setTop (mkF m 19 #[.val (.ref o1), .val (.int at1), .val (.int lim), .val (.int ((bb 0) &&& (255 : Int32))), .unset, .unset, .unset, .unset, .unset] [])) _
        rw [← hidv]
        show Steps p.tables e below (s₁.setTop (mkF m 19 #[.val (.ref o1), .val (.int at1), .val (.int lim), .val (.int idv), .unset, .unset, .unset, .unset, .unset] [])) _
        refine XS.iloadN X0.here hx rfl (hb hby d1_19) rfl ?_
        show Steps p.tables e below (s₁.setTop (mkF m 20 #[.val (.ref o1), .val (.int at1), .val (.int lim), .val (.int idv), .unset, .unset, .unset, .unset, .unset] [(.int idv)])) _
        refine XS.bipush X0.here hx rfl (hb hby d1_20) ?_
        show Steps p.tables e below (s₁.setTop (mkF m 22 #[.val (.ref o1), .val (.int at1), .val (.int lim), .val (.int idv), .unset, .unset, .unset, .unset, .unset] [(.int (31 : Int32)), (.int idv)])) _
        refine XS.iand X0.here hx rfl (hb hby d1_22) rfl ?_
        show Steps p.tables e below (s₁.setTop (mkF m 23 #[.val (.ref o1), .val (.int at1), .val (.int lim), .val (.int idv), .unset, .unset, .unset, .unset, .unset] [(.int (idv &&& (31 : Int32)))])) _
        refine XS.bipush X0.here hx rfl (hb hby d1_23) ?_
        show Steps p.tables e below (s₁.setTop (mkF m 25 #[.val (.ref o1), .val (.int at1), .val (.int lim), .val (.int idv), .unset, .unset, .unset, .unset, .unset] [(.int (31 : Int32)), (.int (idv &&& (31 : Int32)))])) _
        refine XS.icmpYes X0.here hx rfl (pc0 := 25) (pc' := 36) rfl (hb hby d1_25) rfl (teq hc25).1 (by decide) (by decide) ?_
        show Steps p.tables e below (s₁.setTop (mkF m 36 #[.val (.ref o1), .val (.int at1), .val (.int lim), .val (.int idv), .unset, .unset, .unset, .unset, .unset] [])) _
        refine X0.ldc2Long hx hown (mvT hZ (hw _ (List.mem_of_getElem? (i := 6) rfl))) (g := (mkF m 36 #[.val (.ref o1), .val (.int at1), .val (.int lim), .val (.int idv), .unset, .unset, .unset, .unset, .unset] [])) rfl (hb hby d1_36) _ ?_
        show Steps p.tables e below (s₁.setTop (mkF m 39 #[.val (.ref o1), .val (.int at1), .val (.int lim), .val (.int idv), .unset, .unset, .unset, .unset, .unset] [(.long (-1 : Int64))])) _
        exact X0.lreturnOut hx Bd.returns (hb hby d1_39) hr
      · show Q1 at1 lim bb h0 n0 _ s₁.heap _
        rw [e0]
        exact ⟨(by subst hidv; simp only [own_ph, own_pm, own_fin, own_pack, if_neg hc4, if_pos hc25]), N0, rfl⟩
    ·
      by_cases hc33 : (idv &&& (223 : Int32)) = (0 : Int32)
      ·
        obtain ⟨fs, hr, hrun, hended, hW, hsame⟩ := X0.leave (v := some (.long (-1 : Int64))) (fun h => by rw [Bd.returns] at h; cases h)
        refine ⟨_, _, pre0 _ ?_, hrun, hended, _, _, rfl, ?_, ⟨_, rfl⟩, hW, hsame.mono (by decide) (by decide)⟩
        · show Steps p.tables e below (s₁.setTop (mkF m 0 #[.val (.ref o1), .val (.int at1), .val (.int lim), .unset, .unset, .unset, .unset, .unset, .unset] [])) _
          refine XS.iloadN X0.here hx rfl (hb hby d1_0) rfl ?_
          show Steps p.tables e below (s₁.setTop (mkF m 1 #[.val (.ref o1), .val (.int at1), .val (.int lim), .unset, .unset, .unset, .unset, .unset, .unset] [(.int lim)])) _
          refine XS.iloadN X0.here hx rfl (hb hby d1_1) rfl ?_
          show Steps p.tables e below (s₁.setTop (mkF m 2 #[.val (.ref o1), .val (.int at1), .val (.int lim), .unset, .unset, .unset, .unset, .unset, .unset] [(.int at1), (.int lim)])) _
          refine XS.isub X0.here hx rfl (hb hby d1_2) rfl ?_
          show Steps p.tables e below (s₁.setTop (mkF m 3 #[.val (.ref o1), .val (.int at1), .val (.int lim), .unset, .unset, .unset, .unset, .unset, .unset] [(.int (lim - at1))])) _
          refine XS.iconst X0.here hx rfl (hb hby d1_3) ?_
          show Steps p.tables e below (s₁.setTop (mkF m 4 #[.val (.ref o1), .val (.int at1), .val (.int lim), .unset, .unset, .unset, .unset, .unset, .unset] [(.int (2 : Int32)), (.int (lim - at1))])) _
          refine XS.icmpYes X0.here hx rfl (pc0 := 4) (pc' := 11) rfl (hb hby d1_4) rfl (flt hc4).2.1 (by decide) (by decide) ?_
          show Steps p.tables e below (s₁.setTop (mkF m 11 #[.val (.ref o1), .val (.int at1), .val (.int lim), .unset, .unset, .unset, .unset, .unset, .unset] [])) _
          refine XS.aloadN X0.here hx rfl (hb hby d1_11) rfl rfl ?_
          show Steps p.tables e below (s₁.setTop (mkF m 12 #[.val (.ref o1), .val (.int at1), .val (.int lim), .unset, .unset, .unset, .unset, .unset, .unset] [(.ref o1)])) _
          refine XS.iloadN X0.here hx rfl (hb hby d1_12) rfl ?_
          show Steps p.tables e below (s₁.setTop (mkF m 13 #[.val (.ref o1), .val (.int at1), .val (.int lim), .unset, .unset, .unset, .unset, .unset, .unset] [(.int at1), (.ref o1)])) _
          refine X0.baloadBytes hx (j := at1) (v := (.int (bb 0))) (by rw [e0]; exact Ar.1) (State.isArrayOf_alike hZ.alike Ar.2.1) Ar.2.2 PB1.1 PB1.2 (g := (mkF m 13 #[.val (.ref o1), .val (.int at1), .val (.int lim), .unset, .unset, .unset, .unset, .unset, .unset] [(.int at1), (.ref o1)])) rfl rfl (hb hby d1_13) _ ?_
          show Steps p.tables e below (s₁.setTop (mkF m 14 #[.val (.ref o1), .val (.int at1), .val (.int lim), .unset, .unset, .unset, .unset, .unset, .unset] [(.int (bb 0))])) _
          refine XS.sipush X0.here hx rfl (hb hby d1_14) ?_
          show Steps p.tables e below (s₁.setTop (mkF m 17 #[.val (.ref o1), .val (.int at1), .val (.int lim), .unset, .unset, .unset, .unset, .unset, .unset] [(.int (255 : Int32)), (.int (bb 0))])) _
          refine XS.iand X0.here hx rfl (hb hby d1_17) rfl ?_
          show Steps p.tables e below (s₁.setTop (mkF m 18 #[.val (.ref o1), .val (.int at1), .val (.int lim), .unset, .unset, .unset, .unset, .unset, .unset] [(.int ((bb 0) &&& (255 : Int32)))])) _
          refine XS.istoreN X0.here hx rfl (hb hby d1_18) rfl (l' := #[.val (.ref o1), .val (.int at1), .val (.int lim), .val (.int ((bb 0) &&& (255 : Int32))), .unset, .unset, .unset, .unset, .unset]) rfl ?_
          show Steps p.tables e below (s₁.setTop (mkF m 19 #[.val (.ref o1), .val (.int at1), .val (.int lim), .val (.int ((bb 0) &&& (255 : Int32))), .unset, .unset, .unset, .unset, .unset] [])) _
          rw [← hidv]
          show Steps p.tables e below (s₁.setTop (mkF m 19 #[.val (.ref o1), .val (.int at1), .val (.int lim), .val (.int idv), .unset, .unset, .unset, .unset, .unset] [])) _
          refine XS.iloadN X0.here hx rfl (hb hby d1_19) rfl ?_
          show Steps p.tables e below (s₁.setTop (mkF m 20 #[.val (.ref o1), .val (.int at1), .val (.int lim), .val (.int idv), .unset, .unset, .unset, .unset, .unset] [(.int idv)])) _
          refine XS.bipush X0.here hx rfl (hb hby d1_20) ?_
          show Steps p.tables e below (s₁.setTop (mkF m 22 #[.val (.ref o1), .val (.int at1), .val (.int lim), .val (.int idv), .unset, .unset, .unset, .unset, .unset] [(.int (31 : Int32)), (.int idv)])) _
          refine XS.iand X0.here hx rfl (hb hby d1_22) rfl ?_
          show Steps p.tables e below (s₁.setTop (mkF m 23 #[.val (.ref o1), .val (.int at1), .val (.int lim), .val (.int idv), .unset, .unset, .unset, .unset, .unset] [(.int (idv &&& (31 : Int32)))])) _
          refine XS.bipush X0.here hx rfl (hb hby d1_23) ?_
          show Steps p.tables e below (s₁.setTop (mkF m 25 #[.val (.ref o1), .val (.int at1), .val (.int lim), .val (.int idv), .unset, .unset, .unset, .unset, .unset] [(.int (31 : Int32)), (.int (idv &&& (31 : Int32)))])) _
          refine XS.icmpNo X0.here hx rfl (hb hby d1_25) rfl (feq hc25).1 ?_
          show Steps p.tables e below (s₁.setTop (mkF m 28 #[.val (.ref o1), .val (.int at1), .val (.int lim), .val (.int idv), .unset, .unset, .unset, .unset, .unset] [])) _
          refine XS.iloadN X0.here hx rfl (hb hby d1_28) rfl ?_
          show Steps p.tables e below (s₁.setTop (mkF m 29 #[.val (.ref o1), .val (.int at1), .val (.int lim), .val (.int idv), .unset, .unset, .unset, .unset, .unset] [(.int idv)])) _
          refine XS.sipush X0.here hx rfl (hb hby d1_29) ?_
          show Steps p.tables e below (s₁.setTop (mkF m 32 #[.val (.ref o1), .val (.int at1), .val (.int lim), .val (.int idv), .unset, .unset, .unset, .unset, .unset] [(.int (223 : Int32)), (.int idv)])) _
          refine XS.iand X0.here hx rfl (hb hby d1_32) rfl ?_
          show Steps p.tables e below (s₁.setTop (mkF m 33 #[.val (.ref o1), .val (.int at1), .val (.int lim), .val (.int idv), .unset, .unset, .unset, .unset, .unset] [(.int (idv &&& (223 : Int32)))])) _
          refine XS.ifNo X0.here hx rfl (hb hby d1_33) rfl ((if0 _ _).trans (teq hc33).2) ?_
          show Steps p.tables e below (s₁.setTop (mkF m 36 #[.val (.ref o1), .val (.int at1), .val (.int lim), .val (.int idv), .unset, .unset, .unset, .unset, .unset] [])) _
          refine X0.ldc2Long hx hown (mvT hZ (hw _ (List.mem_of_getElem? (i := 6) rfl))) (g := (mkF m 36 #[.val (.ref o1), .val (.int at1), .val (.int lim), .val (.int idv), .unset, .unset, .unset, .unset, .unset] [])) rfl (hb hby d1_36) _ ?_
          show Steps p.tables e below (s₁.setTop (mkF m 39 #[.val (.ref o1), .val (.int at1), .val (.int lim), .val (.int idv), .unset, .unset, .unset, .unset, .unset] [(.long (-1 : Int64))])) _
          exact X0.lreturnOut hx Bd.returns (hb hby d1_39) hr
        · show Q1 at1 lim bb h0 n0 _ s₁.heap _
          rw [e0]
          exact ⟨(by subst hidv; simp only [own_ph, own_pm, own_fin, own_pack, if_neg hc4, if_neg hc25, if_pos hc33]), N0, rfl⟩
      ·
        have PB2 := PB (at1 + (1 : Int32)) 1 (by decide) (own_ix1 H7)
        obtain ⟨fiv, hfiv⟩ : ∃ z : Int32, z = ((bb 1) &&& (255 : Int32)) := ⟨_, rfl⟩
        by_cases hc63 : fiv < (128 : Int32)
        ·
          by_cases hc161 : ((lim - at1) - (2 : Int32)) < fiv
          ·
            obtain ⟨fs, hr, hrun, hended, hW, hsame⟩ := X0.leave (v := some (.long (-1 : Int64))) (fun h => by rw [Bd.returns] at h; cases h)
            refine ⟨_, _, pre0 _ ?_, hrun, hended, _, _, rfl, ?_, ⟨_, rfl⟩, hW, hsame.mono (by decide) (by decide)⟩
            · show Steps p.tables e below (s₁.setTop (mkF m 0 #[.val (.ref o1), .val (.int at1), .val (.int lim), .unset, .unset, .unset, .unset, .unset, .unset] [])) _
              refine XS.iloadN X0.here hx rfl (hb hby d1_0) rfl ?_
              show Steps p.tables e below (s₁.setTop (mkF m 1 #[.val (.ref o1), .val (.int at1), .val (.int lim), .unset, .unset, .unset, .unset, .unset, .unset] [(.int lim)])) _
              refine XS.iloadN X0.here hx rfl (hb hby d1_1) rfl ?_
              show Steps p.tables e below (s₁.setTop (mkF m 2 #[.val (.ref o1), .val (.int at1), .val (.int lim), .unset, .unset, .unset, .unset, .unset, .unset] [(.int at1), (.int lim)])) _
              refine XS.isub X0.here hx rfl (hb hby d1_2) rfl ?_
              show Steps p.tables e below (s₁.setTop (mkF m 3 #[.val (.ref o1), .val (.int at1), .val (.int lim), .unset, .unset, .unset, .unset, .unset, .unset] [(.int (lim - at1))])) _
              refine XS.iconst X0.here hx rfl (hb hby d1_3) ?_
              show Steps p.tables e below (s₁.setTop (mkF m 4 #[.val (.ref o1), .val (.int at1), .val (.int lim), .unset, .unset, .unset, .unset, .unset, .unset] [(.int (2 : Int32)), (.int (lim - at1))])) _
              refine XS.icmpYes X0.here hx rfl (pc0 := 4) (pc' := 11) rfl (hb hby d1_4) rfl (flt hc4).2.1 (by decide) (by decide) ?_
              show Steps p.tables e below (s₁.setTop (mkF m 11 #[.val (.ref o1), .val (.int at1), .val (.int lim), .unset, .unset, .unset, .unset, .unset, .unset] [])) _
              refine XS.aloadN X0.here hx rfl (hb hby d1_11) rfl rfl ?_
              show Steps p.tables e below (s₁.setTop (mkF m 12 #[.val (.ref o1), .val (.int at1), .val (.int lim), .unset, .unset, .unset, .unset, .unset, .unset] [(.ref o1)])) _
              refine XS.iloadN X0.here hx rfl (hb hby d1_12) rfl ?_
              show Steps p.tables e below (s₁.setTop (mkF m 13 #[.val (.ref o1), .val (.int at1), .val (.int lim), .unset, .unset, .unset, .unset, .unset, .unset] [(.int at1), (.ref o1)])) _
              refine X0.baloadBytes hx (j := at1) (v := (.int (bb 0))) (by rw [e0]; exact Ar.1) (State.isArrayOf_alike hZ.alike Ar.2.1) Ar.2.2 PB1.1 PB1.2 (g := (mkF m 13 #[.val (.ref o1), .val (.int at1), .val (.int lim), .unset, .unset, .unset, .unset, .unset, .unset] [(.int at1), (.ref o1)])) rfl rfl (hb hby d1_13) _ ?_
              show Steps p.tables e below (s₁.setTop (mkF m 14 #[.val (.ref o1), .val (.int at1), .val (.int lim), .unset, .unset, .unset, .unset, .unset, .unset] [(.int (bb 0))])) _
              refine XS.sipush X0.here hx rfl (hb hby d1_14) ?_
              show Steps p.tables e below (s₁.setTop (mkF m 17 #[.val (.ref o1), .val (.int at1), .val (.int lim), .unset, .unset, .unset, .unset, .unset, .unset] [(.int (255 : Int32)), (.int (bb 0))])) _
              refine XS.iand X0.here hx rfl (hb hby d1_17) rfl ?_
              show Steps p.tables e below (s₁.setTop (mkF m 18 #[.val (.ref o1), .val (.int at1), .val (.int lim), .unset, .unset, .unset, .unset, .unset, .unset] [(.int ((bb 0) &&& (255 : Int32)))])) _
              refine XS.istoreN X0.here hx rfl (hb hby d1_18) rfl (l' := #[.val (.ref o1), .val (.int at1), .val (.int lim), .val (.int ((bb 0) &&& (255 : Int32))), .unset, .unset, .unset, .unset, .unset]) rfl ?_
              show Steps p.tables e below (s₁.setTop (mkF m 19 #[.val (.ref o1), .val (.int at1), .val (.int lim), .val (.int ((bb 0) &&& (255 : Int32))), .unset, .unset, .unset, .unset, .unset] [])) _
              rw [← hidv]
              show Steps p.tables e below (s₁.setTop (mkF m 19 #[.val (.ref o1), .val (.int at1), .val (.int lim), .val (.int idv), .unset, .unset, .unset, .unset, .unset] [])) _
              refine XS.iloadN X0.here hx rfl (hb hby d1_19) rfl ?_
              show Steps p.tables e below (s₁.setTop (mkF m 20 #[.val (.ref o1), .val (.int at1), .val (.int lim), .val (.int idv), .unset, .unset, .unset, .unset, .unset] [(.int idv)])) _
              refine XS.bipush X0.here hx rfl (hb hby d1_20) ?_
              show Steps p.tables e below (s₁.setTop (mkF m 22 #[.val (.ref o1), .val (.int at1), .val (.int lim), .val (.int idv), .unset, .unset, .unset, .unset, .unset] [(.int (31 : Int32)), (.int idv)])) _
              refine XS.iand X0.here hx rfl (hb hby d1_22) rfl ?_
              show Steps p.tables e below (s₁.setTop (mkF m 23 #[.val (.ref o1), .val (.int at1), .val (.int lim), .val (.int idv), .unset, .unset, .unset, .unset, .unset] [(.int (idv &&& (31 : Int32)))])) _
              refine XS.bipush X0.here hx rfl (hb hby d1_23) ?_
              show Steps p.tables e below (s₁.setTop (mkF m 25 #[.val (.ref o1), .val (.int at1), .val (.int lim), .val (.int idv), .unset, .unset, .unset, .unset, .unset] [(.int (31 : Int32)), (.int (idv &&& (31 : Int32)))])) _
              refine XS.icmpNo X0.here hx rfl (hb hby d1_25) rfl (feq hc25).1 ?_
              show Steps p.tables e below (s₁.setTop (mkF m 28 #[.val (.ref o1), .val (.int at1), .val (.int lim), .val (.int idv), .unset, .unset, .unset, .unset, .unset] [])) _
              refine XS.iloadN X0.here hx rfl (hb hby d1_28) rfl ?_
              show Steps p.tables e below (s₁.setTop (mkF m 29 #[.val (.ref o1), .val (.int at1), .val (.int lim), .val (.int idv), .unset, .unset, .unset, .unset, .unset] [(.int idv)])) _
              refine XS.sipush X0.here hx rfl (hb hby d1_29) ?_
              show Steps p.tables e below (s₁.setTop (mkF m 32 #[.val (.ref o1), .val (.int at1), .val (.int lim), .val (.int idv), .unset, .unset, .unset, .unset, .unset] [(.int (223 : Int32)), (.int idv)])) _
              refine XS.iand X0.here hx rfl (hb hby d1_32) rfl ?_
              show Steps p.tables e below (s₁.setTop (mkF m 33 #[.val (.ref o1), .val (.int at1), .val (.int lim), .val (.int idv), .unset, .unset, .unset, .unset, .unset] [(.int (idv &&& (223 : Int32)))])) _
              refine XS.ifYes X0.here hx rfl (pc0 := 33) (pc' := 40) rfl (hb hby d1_33) rfl ((if0 _ _).trans (feq hc33).2) (by decide) (by decide) ?_
              show Steps p.tables e below (s₁.setTop (mkF m 40 #[.val (.ref o1), .val (.int at1), .val (.int lim), .val (.int idv), .unset, .unset, .unset, .unset, .unset] [])) _
              refine XS.aloadN X0.here hx rfl (hb hby d1_40) rfl rfl ?_
              show Steps p.tables e below (s₁.setTop (mkF m 41 #[.val (.ref o1), .val (.int at1), .val (.int lim), .val (.int idv), .unset, .unset, .unset, .unset, .unset] [(.ref o1)])) _
              refine XS.iloadN X0.here hx rfl (hb hby d1_41) rfl ?_
              show Steps p.tables e below (s₁.setTop (mkF m 42 #[.val (.ref o1), .val (.int at1), .val (.int lim), .val (.int idv), .unset, .unset, .unset, .unset, .unset] [(.int at1), (.ref o1)])) _
              refine XS.iconst X0.here hx rfl (hb hby d1_42) ?_
              show Steps p.tables e below (s₁.setTop (mkF m 43 #[.val (.ref o1), .val (.int at1), .val (.int lim), .val (.int idv), .unset, .unset, .unset, .unset, .unset] [(.int (1 : Int32)), (.int at1), (.ref o1)])) _
              refine XS.iadd X0.here hx rfl (hb hby d1_43) rfl ?_
              show Steps p.tables e below (s₁.setTop (mkF m 44 #[.val (.ref o1), .val (.int at1), .val (.int lim), .val (.int idv), .unset, .unset, .unset, .unset, .unset] [(.int (at1 + (1 : Int32))), (.ref o1)])) _
              refine X0.baloadBytes hx (j := (at1 + (1 : Int32))) (v := (.int (bb 1))) (by rw [e0]; exact Ar.1) (State.isArrayOf_alike hZ.alike Ar.2.1) Ar.2.2 PB2.1 PB2.2 (g := (mkF m 44 #[.val (.ref o1), .val (.int at1), .val (.int lim), .val (.int idv), .unset, .unset, .unset, .unset, .unset] [(.int (at1 + (1 : Int32))), (.ref o1)])) rfl rfl (hb hby d1_44) _ ?_
              show Steps p.tables e below (s₁.setTop (mkF m 45 #[.val (.ref o1), .val (.int at1), .val (.int lim), .val (.int idv), .unset, .unset, .unset, .unset, .unset] [(.int (bb 1))])) _
              refine XS.sipush X0.here hx rfl (hb hby d1_45) ?_
              show Steps p.tables e below (s₁.setTop (mkF m 48 #[.val (.ref o1), .val (.int at1), .val (.int lim), .val (.int idv), .unset, .unset, .unset, .unset, .unset] [(.int (255 : Int32)), (.int (bb 1))])) _
              refine XS.iand X0.here hx rfl (hb hby d1_48) rfl ?_
              show Steps p.tables e below (s₁.setTop (mkF m 49 #[.val (.ref o1), .val (.int at1), .val (.int lim), .val (.int idv), .unset, .unset, .unset, .unset, .unset] [(.int ((bb 1) &&& (255 : Int32)))])) _
              refine XS.istore X0.here hx rfl (hb hby d1_49) rfl (l' := #[.val (.ref o1), .val (.int at1), .val (.int lim), .val (.int idv), .val (.int ((bb 1) &&& (255 : Int32))), .unset, .unset, .unset, .unset]) rfl ?_
              show Steps p.tables e below (s₁.setTop (mkF m 51 #[.val (.ref o1), .val (.int at1), .val (.int lim), .val (.int idv), .val (.int ((bb 1) &&& (255 : Int32))), .unset, .unset, .unset, .unset] [])) _
              rw [← hfiv]
              show Steps p.tables e below (s₁.setTop (mkF m 51 #[.val (.ref o1), .val (.int at1), .val (.int lim), .val (.int idv), .val (.int fiv), .unset, .unset, .unset, .unset] [])) _
              refine XS.iconst X0.here hx rfl (hb hby d1_51) ?_
              show Steps p.tables e below (s₁.setTop (mkF m 52 #[.val (.ref o1), .val (.int at1), .val (.int lim), .val (.int idv), .val (.int fiv), .unset, .unset, .unset, .unset] [(.int (2 : Int32))])) _
              refine XS.istore X0.here hx rfl (hb hby d1_52) rfl (l' := #[.val (.ref o1), .val (.int at1), .val (.int lim), .val (.int idv), .val (.int fiv), .val (.int (2 : Int32)), .unset, .unset, .unset]) rfl ?_
              show Steps p.tables e below (s₁.setTop (mkF m 54 #[.val (.ref o1), .val (.int at1), .val (.int lim), .val (.int idv), .val (.int fiv), .val (.int (2 : Int32)), .unset, .unset, .unset] [])) _
              refine XS.iload X0.here hx rfl (hb hby d1_54) rfl ?_
              show Steps p.tables e below (s₁.setTop (mkF m 56 #[.val (.ref o1), .val (.int at1), .val (.int lim), .val (.int idv), .val (.int fiv), .val (.int (2 : Int32)), .unset, .unset, .unset] [(.int fiv)])) _
              refine XS.istore X0.here hx rfl (hb hby d1_56) rfl (l' := #[.val (.ref o1), .val (.int at1), .val (.int lim), .val (.int idv), .val (.int fiv), .val (.int (2 : Int32)), .val (.int fiv), .unset, .unset]) rfl ?_
              show Steps p.tables e below (s₁.setTop (mkF m 58 #[.val (.ref o1), .val (.int at1), .val (.int lim), .val (.int idv), .val (.int fiv), .val (.int (2 : Int32)), .val (.int fiv), .unset, .unset] [])) _
              refine XS.iload X0.here hx rfl (hb hby d1_58) rfl ?_
              show Steps p.tables e below (s₁.setTop (mkF m 60 #[.val (.ref o1), .val (.int at1), .val (.int lim), .val (.int idv), .val (.int fiv), .val (.int (2 : Int32)), .val (.int fiv), .unset, .unset] [(.int fiv)])) _
              refine XS.sipush X0.here hx rfl (hb hby d1_60) ?_
              show Steps p.tables e below (s₁.setTop (mkF m 63 #[.val (.ref o1), .val (.int at1), .val (.int lim), .val (.int idv), .val (.int fiv), .val (.int (2 : Int32)), .val (.int fiv), .unset, .unset] [(.int (128 : Int32)), (.int fiv)])) _
              refine XS.icmpYes X0.here hx rfl (pc0 := 63) (pc' := 153) rfl (hb hby d1_63) rfl (tlt hc63).1 (by decide) (by decide) ?_
              show Steps p.tables e below (s₁.setTop (mkF m 153 #[.val (.ref o1), .val (.int at1), .val (.int lim), .val (.int idv), .val (.int fiv), .val (.int (2 : Int32)), .val (.int fiv), .unset, .unset] [])) _
              refine XS.iload X0.here hx rfl (hb hby d1_153) rfl ?_
              show Steps p.tables e below (s₁.setTop (mkF m 155 #[.val (.ref o1), .val (.int at1), .val (.int lim), .val (.int idv), .val (.int fiv), .val (.int (2 : Int32)), .val (.int fiv), .unset, .unset] [(.int fiv)])) _
              refine XS.iloadN X0.here hx rfl (hb hby d1_155) rfl ?_
              show Steps p.tables e below (s₁.setTop (mkF m 156 #[.val (.ref o1), .val (.int at1), .val (.int lim), .val (.int idv), .val (.int fiv), .val (.int (2 : Int32)), .val (.int fiv), .unset, .unset] [(.int lim), (.int fiv)])) _
              refine XS.iloadN X0.here hx rfl (hb hby d1_156) rfl ?_
              show Steps p.tables e below (s₁.setTop (mkF m 157 #[.val (.ref o1), .val (.int at1), .val (.int lim), .val (.int idv), .val (.int fiv), .val (.int (2 : Int32)), .val (.int fiv), .unset, .unset] [(.int at1), (.int lim), (.int fiv)])) _
              refine XS.isub X0.here hx rfl (hb hby d1_157) rfl ?_
              show Steps p.tables e below (s₁.setTop (mkF m 158 #[.val (.ref o1), .val (.int at1), .val (.int lim), .val (.int idv), .val (.int fiv), .val (.int (2 : Int32)), .val (.int fiv), .unset, .unset] [(.int (lim - at1)), (.int fiv)])) _
              refine XS.iload X0.here hx rfl (hb hby d1_158) rfl ?_
              show Steps p.tables e below (s₁.setTop (mkF m 160 #[.val (.ref o1), .val (.int at1), .val (.int lim), .val (.int idv), .val (.int fiv), .val (.int (2 : Int32)), .val (.int fiv), .unset, .unset] [(.int (2 : Int32)), (.int (lim - at1)), (.int fiv)])) _
              refine XS.isub X0.here hx rfl (hb hby d1_160) rfl ?_
              show Steps p.tables e below (s₁.setTop (mkF m 161 #[.val (.ref o1), .val (.int at1), .val (.int lim), .val (.int idv), .val (.int fiv), .val (.int (2 : Int32)), .val (.int fiv), .unset, .unset] [(.int ((lim - at1) - (2 : Int32))), (.int fiv)])) _
              refine XS.icmpNo X0.here hx rfl (hb hby d1_161) rfl (tlt hc161).2.2.2 ?_
              show Steps p.tables e below (s₁.setTop (mkF m 164 #[.val (.ref o1), .val (.int at1), .val (.int lim), .val (.int idv), .val (.int fiv), .val (.int (2 : Int32)), .val (.int fiv), .unset, .unset] [])) _
              refine X0.ldc2Long hx hown (mvT hZ (hw _ (List.mem_of_getElem? (i := 6) rfl))) (g := (mkF m 164 #[.val (.ref o1), .val (.int at1), .val (.int lim), .val (.int idv), .val (.int fiv), .val (.int (2 : Int32)), .val (.int fiv), .unset, .unset] [])) rfl (hb hby d1_164) _ ?_
              show Steps p.tables e below (s₁.setTop (mkF m 167 #[.val (.ref o1), .val (.int at1), .val (.int lim), .val (.int idv), .val (.int fiv), .val (.int (2 : Int32)), .val (.int fiv), .unset, .unset] [(.long (-1 : Int64))])) _
              exact X0.lreturnOut hx Bd.returns (hb hby d1_167) hr
            · show Q1 at1 lim bb h0 n0 _ s₁.heap _
              rw [e0]
              exact ⟨(by subst hfiv; subst hidv; simp only [own_ph, own_pm, own_fin, own_pack, if_neg hc4, if_neg hc25, if_neg hc33, if_pos hc63, if_pos hc161]), N0, rfl⟩
          ·
            obtain ⟨fs, hr, hrun, hended, hW, hsame⟩ := X0.leave (v := some (.long ((((idv.toInt64) <<< ((40 : Int32) &&& 0x3f).toInt64) ||| (((2 : Int32).toInt64) <<< ((32 : Int32) &&& 0x3f).toInt64)) ||| ((fiv.toInt64) &&& (4294967295 : Int64))))) (fun h => by rw [Bd.returns] at h; cases h)
            refine ⟨_, _, pre0 _ ?_, hrun, hended, _, _, rfl, ?_, ⟨_, rfl⟩, hW, hsame.mono (by decide) (by decide)⟩
            · show Steps p.tables e below (s₁.setTop (mkF m 0 #[.val (.ref o1), .val (.int at1), .val (.int lim), .unset, .unset, .unset, .unset, .unset, .unset] [])) _
              refine XS.iloadN X0.here hx rfl (hb hby d1_0) rfl ?_
              show Steps p.tables e below (s₁.setTop (mkF m 1 #[.val (.ref o1), .val (.int at1), .val (.int lim), .unset, .unset, .unset, .unset, .unset, .unset] [(.int lim)])) _
              refine XS.iloadN X0.here hx rfl (hb hby d1_1) rfl ?_
              show Steps p.tables e below (s₁.setTop (mkF m 2 #[.val (.ref o1), .val (.int at1), .val (.int lim), .unset, .unset, .unset, .unset, .unset, .unset] [(.int at1), (.int lim)])) _
              refine XS.isub X0.here hx rfl (hb hby d1_2) rfl ?_
              show Steps p.tables e below (s₁.setTop (mkF m 3 #[.val (.ref o1), .val (.int at1), .val (.int lim), .unset, .unset, .unset, .unset, .unset, .unset] [(.int (lim - at1))])) _
              refine XS.iconst X0.here hx rfl (hb hby d1_3) ?_
              show Steps p.tables e below (s₁.setTop (mkF m 4 #[.val (.ref o1), .val (.int at1), .val (.int lim), .unset, .unset, .unset, .unset, .unset, .unset] [(.int (2 : Int32)), (.int (lim - at1))])) _
              refine XS.icmpYes X0.here hx rfl (pc0 := 4) (pc' := 11) rfl (hb hby d1_4) rfl (flt hc4).2.1 (by decide) (by decide) ?_
              show Steps p.tables e below (s₁.setTop (mkF m 11 #[.val (.ref o1), .val (.int at1), .val (.int lim), .unset, .unset, .unset, .unset, .unset, .unset] [])) _
              refine XS.aloadN X0.here hx rfl (hb hby d1_11) rfl rfl ?_
              show Steps p.tables e below (s₁.setTop (mkF m 12 #[.val (.ref o1), .val (.int at1), .val (.int lim), .unset, .unset, .unset, .unset, .unset, .unset] [(.ref o1)])) _
              refine XS.iloadN X0.here hx rfl (hb hby d1_12) rfl ?_
              show Steps p.tables e below (s₁.setTop (mkF m 13 #[.val (.ref o1), .val (.int at1), .val (.int lim), .unset, .unset, .unset, .unset, .unset, .unset] [(.int at1), (.ref o1)])) _
              refine X0.baloadBytes hx (j := at1) (v := (.int (bb 0))) (by rw [e0]; exact Ar.1) (State.isArrayOf_alike hZ.alike Ar.2.1) Ar.2.2 PB1.1 PB1.2 (g := (mkF m 13 #[.val (.ref o1), .val (.int at1), .val (.int lim), .unset, .unset, .unset, .unset, .unset, .unset] [(.int at1), (.ref o1)])) rfl rfl (hb hby d1_13) _ ?_
              show Steps p.tables e below (s₁.setTop (mkF m 14 #[.val (.ref o1), .val (.int at1), .val (.int lim), .unset, .unset, .unset, .unset, .unset, .unset] [(.int (bb 0))])) _
              refine XS.sipush X0.here hx rfl (hb hby d1_14) ?_
              show Steps p.tables e below (s₁.setTop (mkF m 17 #[.val (.ref o1), .val (.int at1), .val (.int lim), .unset, .unset, .unset, .unset, .unset, .unset] [(.int (255 : Int32)), (.int (bb 0))])) _
              refine XS.iand X0.here hx rfl (hb hby d1_17) rfl ?_
              show Steps p.tables e below (s₁.setTop (mkF m 18 #[.val (.ref o1), .val (.int at1), .val (.int lim), .unset, .unset, .unset, .unset, .unset, .unset] [(.int ((bb 0) &&& (255 : Int32)))])) _
              refine XS.istoreN X0.here hx rfl (hb hby d1_18) rfl (l' := #[.val (.ref o1), .val (.int at1), .val (.int lim), .val (.int ((bb 0) &&& (255 : Int32))), .unset, .unset, .unset, .unset, .unset]) rfl ?_
              show Steps p.tables e below (s₁.setTop (mkF m 19 #[.val (.ref o1), .val (.int at1), .val (.int lim), .val (.int ((bb 0) &&& (255 : Int32))), .unset, .unset, .unset, .unset, .unset] [])) _
              rw [← hidv]
              show Steps p.tables e below (s₁.setTop (mkF m 19 #[.val (.ref o1), .val (.int at1), .val (.int lim), .val (.int idv), .unset, .unset, .unset, .unset, .unset] [])) _
              refine XS.iloadN X0.here hx rfl (hb hby d1_19) rfl ?_
              show Steps p.tables e below (s₁.setTop (mkF m 20 #[.val (.ref o1), .val (.int at1), .val (.int lim), .val (.int idv), .unset, .unset, .unset, .unset, .unset] [(.int idv)])) _
              refine XS.bipush X0.here hx rfl (hb hby d1_20) ?_
              show Steps p.tables e below (s₁.setTop (mkF m 22 #[.val (.ref o1), .val (.int at1), .val (.int lim), .val (.int idv), .unset, .unset, .unset, .unset, .unset] [(.int (31 : Int32)), (.int idv)])) _
              refine XS.iand X0.here hx rfl (hb hby d1_22) rfl ?_
              show Steps p.tables e below (s₁.setTop (mkF m 23 #[.val (.ref o1), .val (.int at1), .val (.int lim), .val (.int idv), .unset, .unset, .unset, .unset, .unset] [(.int (idv &&& (31 : Int32)))])) _
              refine XS.bipush X0.here hx rfl (hb hby d1_23) ?_
              show Steps p.tables e below (s₁.setTop (mkF m 25 #[.val (.ref o1), .val (.int at1), .val (.int lim), .val (.int idv), .unset, .unset, .unset, .unset, .unset] [(.int (31 : Int32)), (.int (idv &&& (31 : Int32)))])) _
              refine XS.icmpNo X0.here hx rfl (hb hby d1_25) rfl (feq hc25).1 ?_
              show Steps p.tables e below (s₁.setTop (mkF m 28 #[.val (.ref o1), .val (.int at1), .val (.int lim), .val (.int idv), .unset, .unset, .unset, .unset, .unset] [])) _
              refine XS.iloadN X0.here hx rfl (hb hby d1_28) rfl ?_
              show Steps p.tables e below (s₁.setTop (mkF m 29 #[.val (.ref o1), .val (.int at1), .val (.int lim), .val (.int idv), .unset, .unset, .unset, .unset, .unset] [(.int idv)])) _
              refine XS.sipush X0.here hx rfl (hb hby d1_29) ?_
              show Steps p.tables e below (s₁.setTop (mkF m 32 #[.val (.ref o1), .val (.int at1), .val (.int lim), .val (.int idv), .unset, .unset, .unset, .unset, .unset] [(.int (223 : Int32)), (.int idv)])) _
              refine XS.iand X0.here hx rfl (hb hby d1_32) rfl ?_
              show Steps p.tables e below (s₁.setTop (mkF m 33 #[.val (.ref o1), .val (.int at1), .val (.int lim), .val (.int idv), .unset, .unset, .unset, .unset, .unset] [(.int (idv &&& (223 : Int32)))])) _
              refine XS.ifYes X0.here hx rfl (pc0 := 33) (pc' := 40) rfl (hb hby d1_33) rfl ((if0 _ _).trans (feq hc33).2) (by decide) (by decide) ?_
              show Steps p.tables e below (s₁.setTop (mkF m 40 #[.val (.ref o1), .val (.int at1), .val (.int lim), .val (.int idv), .unset, .unset, .unset, .unset, .unset] [])) _
              refine XS.aloadN X0.here hx rfl (hb hby d1_40) rfl rfl ?_
              show Steps p.tables e below (s₁.setTop (mkF m 41 #[.val (.ref o1), .val (.int at1), .val (.int lim), .val (.int idv), .unset, .unset, .unset, .unset, .unset] [(.ref o1)])) _
              refine XS.iloadN X0.here hx rfl (hb hby d1_41) rfl ?_
              show Steps p.tables e below (s₁.setTop (mkF m 42 #[.val (.ref o1), .val (.int at1), .val (.int lim), .val (.int idv), .unset, .unset, .unset, .unset, .unset] [(.int at1), (.ref o1)])) _
              refine XS.iconst X0.here hx rfl (hb hby d1_42) ?_
              show Steps p.tables e below (s₁.setTop (mkF m 43 #[.val (.ref o1), .val (.int at1), .val (.int lim), .val (.int idv), .unset, .unset, .unset, .unset, .unset] [(.int (1 : Int32)), (.int at1), (.ref o1)])) _
              refine XS.iadd X0.here hx rfl (hb hby d1_43) rfl ?_
              show Steps p.tables e below (s₁.setTop (mkF m 44 #[.val (.ref o1), .val (.int at1), .val (.int lim), .val (.int idv), .unset, .unset, .unset, .unset, .unset] [(.int (at1 + (1 : Int32))), (.ref o1)])) _
              refine X0.baloadBytes hx (j := (at1 + (1 : Int32))) (v := (.int (bb 1))) (by rw [e0]; exact Ar.1) (State.isArrayOf_alike hZ.alike Ar.2.1) Ar.2.2 PB2.1 PB2.2 (g := (mkF m 44 #[.val (.ref o1), .val (.int at1), .val (.int lim), .val (.int idv), .unset, .unset, .unset, .unset, .unset] [(.int (at1 + (1 : Int32))), (.ref o1)])) rfl rfl (hb hby d1_44) _ ?_
              show Steps p.tables e below (s₁.setTop (mkF m 45 #[.val (.ref o1), .val (.int at1), .val (.int lim), .val (.int idv), .unset, .unset, .unset, .unset, .unset] [(.int (bb 1))])) _
              refine XS.sipush X0.here hx rfl (hb hby d1_45) ?_
              show Steps p.tables e below (s₁.setTop (mkF m 48 #[.val (.ref o1), .val (.int at1), .val (.int lim), .val (.int idv), .unset, .unset, .unset, .unset, .unset] [(.int (255 : Int32)), (.int (bb 1))])) _
              refine XS.iand X0.here hx rfl (hb hby d1_48) rfl ?_
              show Steps p.tables e below (s₁.setTop (mkF m 49 #[.val (.ref o1), .val (.int at1), .val (.int lim), .val (.int idv), .unset, .unset, .unset, .unset, .unset] [(.int ((bb 1) &&& (255 : Int32)))])) _
              refine XS.istore X0.here hx rfl (hb hby d1_49) rfl (l' := #[.val (.ref o1), .val (.int at1), .val (.int lim), .val (.int idv), .val (.int ((bb 1) &&& (255 : Int32))), .unset, .unset, .unset, .unset]) rfl ?_
              show Steps p.tables e below (s₁.setTop (mkF m 51 #[.val (.ref o1), .val (.int at1), .val (.int lim), .val (.int idv), .val (.int ((bb 1) &&& (255 : Int32))), .unset, .unset, .unset, .unset] [])) _
              rw [← hfiv]
              show Steps p.tables e below (s₁.setTop (mkF m 51 #[.val (.ref o1), .val (.int at1), .val (.int lim), .val (.int idv), .val (.int fiv), .unset, .unset, .unset, .unset] [])) _
              refine XS.iconst X0.here hx rfl (hb hby d1_51) ?_
              show Steps p.tables e below (s₁.setTop (mkF m 52 #[.val (.ref o1), .val (.int at1), .val (.int lim), .val (.int idv), .val (.int fiv), .unset, .unset, .unset, .unset] [(.int (2 : Int32))])) _
              refine XS.istore X0.here hx rfl (hb hby d1_52) rfl (l' := #[.val (.ref o1), .val (.int at1), .val (.int lim), .val (.int idv), .val (.int fiv), .val (.int (2 : Int32)), .unset, .unset, .unset]) rfl ?_
              show Steps p.tables e below (s₁.setTop (mkF m 54 #[.val (.ref o1), .val (.int at1), .val (.int lim), .val (.int idv), .val (.int fiv), .val (.int (2 : Int32)), .unset, .unset, .unset] [])) _
              refine XS.iload X0.here hx rfl (hb hby d1_54) rfl ?_
              show Steps p.tables e below (s₁.setTop (mkF m 56 #[.val (.ref o1), .val (.int at1), .val (.int lim), .val (.int idv), .val (.int fiv), .val (.int (2 : Int32)), .unset, .unset, .unset] [(.int fiv)])) _
              refine XS.istore X0.here hx rfl (hb hby d1_56) rfl (l' := #[.val (.ref o1), .val (.int at1), .val (.int lim), .val (.int idv), .val (.int fiv), .val (.int (2 : Int32)), .val (.int fiv), .unset, .unset]) rfl ?_
              show Steps p.tables e below (s₁.setTop (mkF m 58 #[.val (.ref o1), .val (.int at1), .val (.int lim), .val (.int idv), .val (.int fiv), .val (.int (2 : Int32)), .val (.int fiv), .unset, .unset] [])) _
              refine XS.iload X0.here hx rfl (hb hby d1_58) rfl ?_
              show Steps p.tables e below (s₁.setTop (mkF m 60 #[.val (.ref o1), .val (.int at1), .val (.int lim), .val (.int idv), .val (.int fiv), .val (.int (2 : Int32)), .val (.int fiv), .unset, .unset] [(.int fiv)])) _
              refine XS.sipush X0.here hx rfl (hb hby d1_60) ?_
              show Steps p.tables e below (s₁.setTop (mkF m 63 #[.val (.ref o1), .val (.int at1), .val (.int lim), .val (.int idv), .val (.int fiv), .val (.int (2 : Int32)), .val (.int fiv), .unset, .unset] [(.int (128 : Int32)), (.int fiv)])) _
              refine XS.icmpYes X0.here hx rfl (pc0 := 63) (pc' := 153) rfl (hb hby d1_63) rfl (tlt hc63).1 (by decide) (by decide) ?_
              show Steps p.tables e below (s₁.setTop (mkF m 153 #[.val (.ref o1), .val (.int at1), .val (.int lim), .val (.int idv), .val (.int fiv), .val (.int (2 : Int32)), .val (.int fiv), .unset, .unset] [])) _
              refine XS.iload X0.here hx rfl (hb hby d1_153) rfl ?_
              show Steps p.tables e below (s₁.setTop (mkF m 155 #[.val (.ref o1), .val (.int at1), .val (.int lim), .val (.int idv), .val (.int fiv), .val (.int (2 : Int32)), .val (.int fiv), .unset, .unset] [(.int fiv)])) _
              refine XS.iloadN X0.here hx rfl (hb hby d1_155) rfl ?_
              show Steps p.tables e below (s₁.setTop (mkF m 156 #[.val (.ref o1), .val (.int at1), .val (.int lim), .val (.int idv), .val (.int fiv), .val (.int (2 : Int32)), .val (.int fiv), .unset, .unset] [(.int lim), (.int fiv)])) _
              refine XS.iloadN X0.here hx rfl (hb hby d1_156) rfl ?_
              show Steps p.tables e below (s₁.setTop (mkF m 157 #[.val (.ref o1), .val (.int at1), .val (.int lim), .val (.int idv), .val (.int fiv), .val (.int (2 : Int32)), .val (.int fiv), .unset, .unset] [(.int at1), (.int lim), (.int fiv)])) _
              refine XS.isub X0.here hx rfl (hb hby d1_157) rfl ?_
              show Steps p.tables e below (s₁.setTop (mkF m 158 #[.val (.ref o1), .val (.int at1), .val (.int lim), .val (.int idv), .val (.int fiv), .val (.int (2 : Int32)), .val (.int fiv), .unset, .unset] [(.int (lim - at1)), (.int fiv)])) _
              refine XS.iload X0.here hx rfl (hb hby d1_158) rfl ?_
              show Steps p.tables e below (s₁.setTop (mkF m 160 #[.val (.ref o1), .val (.int at1), .val (.int lim), .val (.int idv), .val (.int fiv), .val (.int (2 : Int32)), .val (.int fiv), .unset, .unset] [(.int (2 : Int32)), (.int (lim - at1)), (.int fiv)])) _
              refine XS.isub X0.here hx rfl (hb hby d1_160) rfl ?_
              show Steps p.tables e below (s₁.setTop (mkF m 161 #[.val (.ref o1), .val (.int at1), .val (.int lim), .val (.int idv), .val (.int fiv), .val (.int (2 : Int32)), .val (.int fiv), .unset, .unset] [(.int ((lim - at1) - (2 : Int32))), (.int fiv)])) _
              refine XS.icmpYes X0.here hx rfl (pc0 := 161) (pc' := 168) rfl (hb hby d1_161) rfl (flt hc161).2.2.2 (by decide) (by decide) ?_
              show Steps p.tables e below (s₁.setTop (mkF m 168 #[.val (.ref o1), .val (.int at1), .val (.int lim), .val (.int idv), .val (.int fiv), .val (.int (2 : Int32)), .val (.int fiv), .unset, .unset] [])) _
              refine XS.iloadN X0.here hx rfl (hb hby d1_168) rfl ?_
              show Steps p.tables e below (s₁.setTop (mkF m 169 #[.val (.ref o1), .val (.int at1), .val (.int lim), .val (.int idv), .val (.int fiv), .val (.int (2 : Int32)), .val (.int fiv), .unset, .unset] [(.int idv)])) _
              refine XS.i2l X0.here hx rfl (hb hby d1_169) rfl ?_
              show Steps p.tables e below (s₁.setTop (mkF m 170 #[.val (.ref o1), .val (.int at1), .val (.int lim), .val (.int idv), .val (.int fiv), .val (.int (2 : Int32)), .val (.int fiv), .unset, .unset] [(.long (idv.toInt64))])) _
              refine XS.bipush X0.here hx rfl (hb hby d1_170) ?_
              show Steps p.tables e below (s₁.setTop (mkF m 172 #[.val (.ref o1), .val (.int at1), .val (.int lim), .val (.int idv), .val (.int fiv), .val (.int (2 : Int32)), .val (.int fiv), .unset, .unset] [(.int (40 : Int32)), (.long (idv.toInt64))])) _
              refine XS.lshl X0.here hx rfl (hb hby d1_172) rfl ?_
              show Steps p.tables e below (s₁.setTop (mkF m 173 #[.val (.ref o1), .val (.int at1), .val (.int lim), .val (.int idv), .val (.int fiv), .val (.int (2 : Int32)), .val (.int fiv), .unset, .unset] [(.long ((idv.toInt64) <<< ((40 : Int32) &&& 0x3f).toInt64))])) _
              refine XS.iload X0.here hx rfl (hb hby d1_173) rfl ?_
              show Steps p.tables e below (s₁.setTop (mkF m 175 #[.val (.ref o1), .val (.int at1), .val (.int lim), .val (.int idv), .val (.int fiv), .val (.int (2 : Int32)), .val (.int fiv), .unset, .unset] [(.int (2 : Int32)), (.long ((idv.toInt64) <<< ((40 : Int32) &&& 0x3f).toInt64))])) _
              refine XS.i2l X0.here hx rfl (hb hby d1_175) rfl ?_
              show Steps p.tables e below (s₁.setTop (mkF m 176 #[.val (.ref o1), .val (.int at1), .val (.int lim), .val (.int idv), .val (.int fiv), .val (.int (2 : Int32)), .val (.int fiv), .unset, .unset] [(.long ((2 : Int32).toInt64)), (.long ((idv.toInt64) <<< ((40 : Int32) &&& 0x3f).toInt64))])) _
              refine XS.bipush X0.here hx rfl (hb hby d1_176) ?_
              show Steps p.tables e below (s₁.setTop (mkF m 178 #[.val (.ref o1), .val (.int at1), .val (.int lim), .val (.int idv), .val (.int fiv), .val (.int (2 : Int32)), .val (.int fiv), .unset, .unset] [(.int (32 : Int32)), (.long ((2 : Int32).toInt64)), (.long ((idv.toInt64) <<< ((40 : Int32) &&& 0x3f).toInt64))])) _
              refine XS.lshl X0.here hx rfl (hb hby d1_178) rfl ?_
              show Steps p.tables e below (s₁.setTop (mkF m 179 #[.val (.ref o1), .val (.int at1), .val (.int lim), .val (.int idv), .val (.int fiv), .val (.int (2 : Int32)), .val (.int fiv), .unset, .unset] [(.long (((2 : Int32).toInt64) <<< ((32 : Int32) &&& 0x3f).toInt64)), (.long ((idv.toInt64) <<< ((40 : Int32) &&& 0x3f).toInt64))])) _
              refine XS.lor X0.here hx rfl (hb hby d1_179) rfl ?_
              show Steps p.tables e below (s₁.setTop (mkF m 180 #[.val (.ref o1), .val (.int at1), .val (.int lim), .val (.int idv), .val (.int fiv), .val (.int (2 : Int32)), .val (.int fiv), .unset, .unset] [(.long (((idv.toInt64) <<< ((40 : Int32) &&& 0x3f).toInt64) ||| (((2 : Int32).toInt64) <<< ((32 : Int32) &&& 0x3f).toInt64)))])) _
              refine XS.iload X0.here hx rfl (hb hby d1_180) rfl ?_
              show Steps p.tables e below (s₁.setTop (mkF m 182 #[.val (.ref o1), .val (.int at1), .val (.int lim), .val (.int idv), .val (.int fiv), .val (.int (2 : Int32)), .val (.int fiv), .unset, .unset] [(.int fiv), (.long (((idv.toInt64) <<< ((40 : Int32) &&& 0x3f).toInt64) ||| (((2 : Int32).toInt64) <<< ((32 : Int32) &&& 0x3f).toInt64)))])) _
              refine XS.i2l X0.here hx rfl (hb hby d1_182) rfl ?_
              show Steps p.tables e below (s₁.setTop (mkF m 183 #[.val (.ref o1), .val (.int at1), .val (.int lim), .val (.int idv), .val (.int fiv), .val (.int (2 : Int32)), .val (.int fiv), .unset, .unset] [(.long (fiv.toInt64)), (.long (((idv.toInt64) <<< ((40 : Int32) &&& 0x3f).toInt64) ||| (((2 : Int32).toInt64) <<< ((32 : Int32) &&& 0x3f).toInt64)))])) _
              refine X0.ldc2Long hx hown (mvT hZ (hw _ (List.mem_of_getElem? (i := 12) rfl))) (g := (mkF m 183 #[.val (.ref o1), .val (.int at1), .val (.int lim), .val (.int idv), .val (.int fiv), .val (.int (2 : Int32)), .val (.int fiv), .unset, .unset] [(.long (fiv.toInt64)), (.long (((idv.toInt64) <<< ((40 : Int32) &&& 0x3f).toInt64) ||| (((2 : Int32).toInt64) <<< ((32 : Int32) &&& 0x3f).toInt64)))])) rfl (hb hby d1_183) _ ?_
              show Steps p.tables e below (s₁.setTop (mkF m 186 #[.val (.ref o1), .val (.int at1), .val (.int lim), .val (.int idv), .val (.int fiv), .val (.int (2 : Int32)), .val (.int fiv), .unset, .unset] [(.long (4294967295 : Int64)), (.long (fiv.toInt64)), (.long (((idv.toInt64) <<< ((40 : Int32) &&& 0x3f).toInt64) ||| (((2 : Int32).toInt64) <<< ((32 : Int32) &&& 0x3f).toInt64)))])) _
              refine XS.land X0.here hx rfl (hb hby d1_186) rfl ?_
              show Steps p.tables e below (s₁.setTop (mkF m 187 #[.val (.ref o1), .val (.int at1), .val (.int lim), .val (.int idv), .val (.int fiv), .val (.int (2 : Int32)), .val (.int fiv), .unset, .unset] [(.long ((fiv.toInt64) &&& (4294967295 : Int64))), (.long (((idv.toInt64) <<< ((40 : Int32) &&& 0x3f).toInt64) ||| (((2 : Int32).toInt64) <<< ((32 : Int32) &&& 0x3f).toInt64)))])) _
              refine XS.lor X0.here hx rfl (hb hby d1_187) rfl ?_
              show Steps p.tables e below (s₁.setTop (mkF m 188 #[.val (.ref o1), .val (.int at1), .val (.int lim), .val (.int idv), .val (.int fiv), .val (.int (2 : Int32)), .val (.int fiv), .unset, .unset] [(.long ((((idv.toInt64) <<< ((40 : Int32) &&& 0x3f).toInt64) ||| (((2 : Int32).toInt64) <<< ((32 : Int32) &&& 0x3f).toInt64)) ||| ((fiv.toInt64) &&& (4294967295 : Int64))))])) _
              exact X0.lreturnOut hx Bd.returns (hb hby d1_188) hr
            · show Q1 at1 lim bb h0 n0 _ s₁.heap _
              rw [e0]
              exact ⟨(by subst hfiv; subst hidv; simp only [own_ph, own_pm, own_fin, own_pack, if_neg hc4, if_neg hc25, if_neg hc33, if_pos hc63, if_neg hc161]), N0, rfl⟩
        ·
          obtain ⟨nnv, hnnv⟩ : ∃ z : Int32, z = (fiv &&& (127 : Int32)) := ⟨_, rfl⟩
          by_cases hc75 : nnv = (0 : Int32)
          ·
            obtain ⟨fs, hr, hrun, hended, hW, hsame⟩ := X0.leave (v := some (.long (-1 : Int64))) (fun h => by rw [Bd.returns] at h; cases h)
            refine ⟨_, _, pre0 _ ?_, hrun, hended, _, _, rfl, ?_, ⟨_, rfl⟩, hW, hsame.mono (by decide) (by decide)⟩
            · show Steps p.tables e below (s₁.setTop (mkF m 0 #[.val (.ref o1), .val (.int at1), .val (.int lim), .unset, .unset, .unset, .unset, .unset, .unset] [])) _
              refine XS.iloadN X0.here hx rfl (hb hby d1_0) rfl ?_
              show Steps p.tables e below (s₁.setTop (mkF m 1 #[.val (.ref o1), .val (.int at1), .val (.int lim), .unset, .unset, .unset, .unset, .unset, .unset] [(.int lim)])) _
              refine XS.iloadN X0.here hx rfl (hb hby d1_1) rfl ?_
              show Steps p.tables e below (s₁.setTop (mkF m 2 #[.val (.ref o1), .val (.int at1), .val (.int lim), .unset, .unset, .unset, .unset, .unset, .unset] [(.int at1), (.int lim)])) _
              refine XS.isub X0.here hx rfl (hb hby d1_2) rfl ?_
              show Steps p.tables e below (s₁.setTop (mkF m 3 #[.val (.ref o1), .val (.int at1), .val (.int lim), .unset, .unset, .unset, .unset, .unset, .unset] [(.int (lim - at1))])) _
              refine XS.iconst X0.here hx rfl (hb hby d1_3) ?_
              show Steps p.tables e below (s₁.setTop (mkF m 4 #[.val (.ref o1), .val (.int at1), .val (.int lim), .unset, .unset, .unset, .unset, .unset, .unset] [(.int (2 : Int32)), (.int (lim - at1))])) _
              refine XS.icmpYes X0.here hx rfl (pc0 := 4) (pc' := 11) rfl (hb hby d1_4) rfl (flt hc4).2.1 (by decide) (by decide) ?_
              show Steps p.tables e below (s₁.setTop (mkF m 11 #[.val (.ref o1), .val (.int at1), .val (.int lim), .unset, .unset, .unset, .unset, .unset, .unset] [])) _
              refine XS.aloadN X0.here hx rfl (hb hby d1_11) rfl rfl ?_
              show Steps p.tables e below (s₁.setTop (mkF m 12 #[.val (.ref o1), .val (.int at1), .val (.int lim), .unset, .unset, .unset, .unset, .unset, .unset] [(.ref o1)])) _
              refine XS.iloadN X0.here hx rfl (hb hby d1_12) rfl ?_
              show Steps p.tables e below (s₁.setTop (mkF m 13 #[.val (.ref o1), .val (.int at1), .val (.int lim), .unset, .unset, .unset, .unset, .unset, .unset] [(.int at1), (.ref o1)])) _
              refine X0.baloadBytes hx (j := at1) (v := (.int (bb 0))) (by rw [e0]; exact Ar.1) (State.isArrayOf_alike hZ.alike Ar.2.1) Ar.2.2 PB1.1 PB1.2 (g := (mkF m 13 #[.val (.ref o1), .val (.int at1), .val (.int lim), .unset, .unset, .unset, .unset, .unset, .unset] [(.int at1), (.ref o1)])) rfl rfl (hb hby d1_13) _ ?_
              show Steps p.tables e below (s₁.setTop (mkF m 14 #[.val (.ref o1), .val (.int at1), .val (.int lim), .unset, .unset, .unset, .unset, .unset, .unset] [(.int (bb 0))])) _
              refine XS.sipush X0.here hx rfl (hb hby d1_14) ?_
              show Steps p.tables e below (s₁.setTop (mkF m 17 #[.val (.ref o1), .val (.int at1), .val (.int lim), .unset, .unset, .unset, .unset, .unset, .unset] [(.int (255 : Int32)), (.int (bb 0))])) _
              refine XS.iand X0.here hx rfl (hb hby d1_17) rfl ?_
              show Steps p.tables e below (s₁.setTop (mkF m 18 #[.val (.ref o1), .val (.int at1), .val (.int lim), .unset, .unset, .unset, .unset, .unset, .unset] [(.int ((bb 0) &&& (255 : Int32)))])) _
              refine XS.istoreN X0.here hx rfl (hb hby d1_18) rfl (l' := #[.val (.ref o1), .val (.int at1), .val (.int lim), .val (.int ((bb 0) &&& (255 : Int32))), .unset, .unset, .unset, .unset, .unset]) rfl ?_
              show Steps p.tables e below (s₁.setTop (mkF m 19 #[.val (.ref o1), .val (.int at1), .val (.int lim), .val (.int ((bb 0) &&& (255 : Int32))), .unset, .unset, .unset, .unset, .unset] [])) _
              rw [← hidv]
              show Steps p.tables e below (s₁.setTop (mkF m 19 #[.val (.ref o1), .val (.int at1), .val (.int lim), .val (.int idv), .unset, .unset, .unset, .unset, .unset] [])) _
              refine XS.iloadN X0.here hx rfl (hb hby d1_19) rfl ?_
              show Steps p.tables e below (s₁.setTop (mkF m 20 #[.val (.ref o1), .val (.int at1), .val (.int lim), .val (.int idv), .unset, .unset, .unset, .unset, .unset] [(.int idv)])) _
              refine XS.bipush X0.here hx rfl (hb hby d1_20) ?_
              show Steps p.tables e below (s₁.setTop (mkF m 22 #[.val (.ref o1), .val (.int at1), .val (.int lim), .val (.int idv), .unset, .unset, .unset, .unset, .unset] [(.int (31 : Int32)), (.int idv)])) _
              refine XS.iand X0.here hx rfl (hb hby d1_22) rfl ?_
              show Steps p.tables e below (s₁.setTop (mkF m 23 #[.val (.ref o1), .val (.int at1), .val (.int lim), .val (.int idv), .unset, .unset, .unset, .unset, .unset] [(.int (idv &&& (31 : Int32)))])) _
              refine XS.bipush X0.here hx rfl (hb hby d1_23) ?_
              show Steps p.tables e below (s₁.setTop (mkF m 25 #[.val (.ref o1), .val (.int at1), .val (.int lim), .val (.int idv), .unset, .unset, .unset, .unset, .unset] [(.int (31 : Int32)), (.int (idv &&& (31 : Int32)))])) _
              refine XS.icmpNo X0.here hx rfl (hb hby d1_25) rfl (feq hc25).1 ?_
              show Steps p.tables e below (s₁.setTop (mkF m 28 #[.val (.ref o1), .val (.int at1), .val (.int lim), .val (.int idv), .unset, .unset, .unset, .unset, .unset] [])) _
              refine XS.iloadN X0.here hx rfl (hb hby d1_28) rfl ?_
              show Steps p.tables e below (s₁.setTop (mkF m 29 #[.val (.ref o1), .val (.int at1), .val (.int lim), .val (.int idv), .unset, .unset, .unset, .unset, .unset] [(.int idv)])) _
              refine XS.sipush X0.here hx rfl (hb hby d1_29) ?_
              show Steps p.tables e below (s₁.setTop (mkF m 32 #[.val (.ref o1), .val (.int at1), .val (.int lim), .val (.int idv), .unset, .unset, .unset, .unset, .unset] [(.int (223 : Int32)), (.int idv)])) _
              refine XS.iand X0.here hx rfl (hb hby d1_32) rfl ?_
              show Steps p.tables e below (s₁.setTop (mkF m 33 #[.val (.ref o1), .val (.int at1), .val (.int lim), .val (.int idv), .unset, .unset, .unset, .unset, .unset] [(.int (idv &&& (223 : Int32)))])) _
              refine XS.ifYes X0.here hx rfl (pc0 := 33) (pc' := 40) rfl (hb hby d1_33) rfl ((if0 _ _).trans (feq hc33).2) (by decide) (by decide) ?_
              show Steps p.tables e below (s₁.setTop (mkF m 40 #[.val (.ref o1), .val (.int at1), .val (.int lim), .val (.int idv), .unset, .unset, .unset, .unset, .unset] [])) _
              refine XS.aloadN X0.here hx rfl (hb hby d1_40) rfl rfl ?_
              show Steps p.tables e below (s₁.setTop (mkF m 41 #[.val (.ref o1), .val (.int at1), .val (.int lim), .val (.int idv), .unset, .unset, .unset, .unset, .unset] [(.ref o1)])) _
              refine XS.iloadN X0.here hx rfl (hb hby d1_41) rfl ?_
              show Steps p.tables e below (s₁.setTop (mkF m 42 #[.val (.ref o1), .val (.int at1), .val (.int lim), .val (.int idv), .unset, .unset, .unset, .unset, .unset] [(.int at1), (.ref o1)])) _
              refine XS.iconst X0.here hx rfl (hb hby d1_42) ?_
              show Steps p.tables e below (s₁.setTop (mkF m 43 #[.val (.ref o1), .val (.int at1), .val (.int lim), .val (.int idv), .unset, .unset, .unset, .unset, .unset] [(.int (1 : Int32)), (.int at1), (.ref o1)])) _
              refine XS.iadd X0.here hx rfl (hb hby d1_43) rfl ?_
              show Steps p.tables e below (s₁.setTop (mkF m 44 #[.val (.ref o1), .val (.int at1), .val (.int lim), .val (.int idv), .unset, .unset, .unset, .unset, .unset] [(.int (at1 + (1 : Int32))), (.ref o1)])) _
              refine X0.baloadBytes hx (j := (at1 + (1 : Int32))) (v := (.int (bb 1))) (by rw [e0]; exact Ar.1) (State.isArrayOf_alike hZ.alike Ar.2.1) Ar.2.2 PB2.1 PB2.2 (g := (mkF m 44 #[.val (.ref o1), .val (.int at1), .val (.int lim), .val (.int idv), .unset, .unset, .unset, .unset, .unset] [(.int (at1 + (1 : Int32))), (.ref o1)])) rfl rfl (hb hby d1_44) _ ?_
              show Steps p.tables e below (s₁.setTop (mkF m 45 #[.val (.ref o1), .val (.int at1), .val (.int lim), .val (.int idv), .unset, .unset, .unset, .unset, .unset] [(.int (bb 1))])) _
              refine XS.sipush X0.here hx rfl (hb hby d1_45) ?_
              show Steps p.tables e below (s₁.setTop (mkF m 48 #[.val (.ref o1), .val (.int at1), .val (.int lim), .val (.int idv), .unset, .unset, .unset, .unset, .unset] [(.int (255 : Int32)), (.int (bb 1))])) _
              refine XS.iand X0.here hx rfl (hb hby d1_48) rfl ?_
              show Steps p.tables e below (s₁.setTop (mkF m 49 #[.val (.ref o1), .val (.int at1), .val (.int lim), .val (.int idv), .unset, .unset, .unset, .unset, .unset] [(.int ((bb 1) &&& (255 : Int32)))])) _
              refine XS.istore X0.here hx rfl (hb hby d1_49) rfl (l' := #[.val (.ref o1), .val (.int at1), .val (.int lim), .val (.int idv), .val (.int ((bb 1) &&& (255 : Int32))), .unset, .unset, .unset, .unset]) rfl ?_
              show Steps p.tables e below (s₁.setTop (mkF m 51 #[.val (.ref o1), .val (.int at1), .val (.int lim), .val (.int idv), .val (.int ((bb 1) &&& (255 : Int32))), .unset, .unset, .unset, .unset] [])) _
              rw [← hfiv]
              show Steps p.tables e below (s₁.setTop (mkF m 51 #[.val (.ref o1), .val (.int at1), .val (.int lim), .val (.int idv), .val (.int fiv), .unset, .unset, .unset, .unset] [])) _
              refine XS.iconst X0.here hx rfl (hb hby d1_51) ?_
              show Steps p.tables e below (s₁.setTop (mkF m 52 #[.val (.ref o1), .val (.int at1), .val (.int lim), .val (.int idv), .val (.int fiv), .unset, .unset, .unset, .unset] [(.int (2 : Int32))])) _
              refine XS.istore X0.here hx rfl (hb hby d1_52) rfl (l' := #[.val (.ref o1), .val (.int at1), .val (.int lim), .val (.int idv), .val (.int fiv), .val (.int (2 : Int32)), .unset, .unset, .unset]) rfl ?_
              show Steps p.tables e below (s₁.setTop (mkF m 54 #[.val (.ref o1), .val (.int at1), .val (.int lim), .val (.int idv), .val (.int fiv), .val (.int (2 : Int32)), .unset, .unset, .unset] [])) _
              refine XS.iload X0.here hx rfl (hb hby d1_54) rfl ?_
              show Steps p.tables e below (s₁.setTop (mkF m 56 #[.val (.ref o1), .val (.int at1), .val (.int lim), .val (.int idv), .val (.int fiv), .val (.int (2 : Int32)), .unset, .unset, .unset] [(.int fiv)])) _
              refine XS.istore X0.here hx rfl (hb hby d1_56) rfl (l' := #[.val (.ref o1), .val (.int at1), .val (.int lim), .val (.int idv), .val (.int fiv), .val (.int (2 : Int32)), .val (.int fiv), .unset, .unset]) rfl ?_
              show Steps p.tables e below (s₁.setTop (mkF m 58 #[.val (.ref o1), .val (.int at1), .val (.int lim), .val (.int idv), .val (.int fiv), .val (.int (2 : Int32)), .val (.int fiv), .unset, .unset] [])) _
              refine XS.iload X0.here hx rfl (hb hby d1_58) rfl ?_
              show Steps p.tables e below (s₁.setTop (mkF m 60 #[.val (.ref o1), .val (.int at1), .val (.int lim), .val (.int idv), .val (.int fiv), .val (.int (2 : Int32)), .val (.int fiv), .unset, .unset] [(.int fiv)])) _
              refine XS.sipush X0.here hx rfl (hb hby d1_60) ?_
              show Steps p.tables e below (s₁.setTop (mkF m 63 #[.val (.ref o1), .val (.int at1), .val (.int lim), .val (.int idv), .val (.int fiv), .val (.int (2 : Int32)), .val (.int fiv), .unset, .unset] [(.int (128 : Int32)), (.int fiv)])) _
              refine XS.icmpNo X0.here hx rfl (hb hby d1_63) rfl (flt hc63).1 ?_
              show Steps p.tables e below (s₁.setTop (mkF m 66 #[.val (.ref o1), .val (.int at1), .val (.int lim), .val (.int idv), .val (.int fiv), .val (.int (2 : Int32)), .val (.int fiv), .unset, .unset] [])) _
              refine XS.iload X0.here hx rfl (hb hby d1_66) rfl ?_
              show Steps p.tables e below (s₁.setTop (mkF m 68 #[.val (.ref o1), .val (.int at1), .val (.int lim), .val (.int idv), .val (.int fiv), .val (.int (2 : Int32)), .val (.int fiv), .unset, .unset] [(.int fiv)])) _
              refine XS.bipush X0.here hx rfl (hb hby d1_68) ?_
              show Steps p.tables e below (s₁.setTop (mkF m 70 #[.val (.ref o1), .val (.int at1), .val (.int lim), .val (.int idv), .val (.int fiv), .val (.int (2 : Int32)), .val (.int fiv), .unset, .unset] [(.int (127 : Int32)), (.int fiv)])) _
              refine XS.iand X0.here hx rfl (hb hby d1_70) rfl ?_
              show Steps p.tables e below (s₁.setTop (mkF m 71 #[.val (.ref o1), .val (.int at1), .val (.int lim), .val (.int idv), .val (.int fiv), .val (.int (2 : Int32)), .val (.int fiv), .unset, .unset] [(.int (fiv &&& (127 : Int32)))])) _
              refine XS.istore X0.here hx rfl (hb hby d1_71) rfl (l' := #[.val (.ref o1), .val (.int at1), .val (.int lim), .val (.int idv), .val (.int fiv), .val (.int (2 : Int32)), .val (.int fiv), .val (.int (fiv &&& (127 : Int32))), .unset]) rfl ?_
              show Steps p.tables e below (s₁.setTop (mkF m 73 #[.val (.ref o1), .val (.int at1), .val (.int lim), .val (.int idv), .val (.int fiv), .val (.int (2 : Int32)), .val (.int fiv), .val (.int (fiv &&& (127 : Int32))), .unset] [])) _
              rw [← hnnv]
              show Steps p.tables e below (s₁.setTop (mkF m 73 #[.val (.ref o1), .val (.int at1), .val (.int lim), .val (.int idv), .val (.int fiv), .val (.int (2 : Int32)), .val (.int fiv), .val (.int nnv), .unset] [])) _
              refine XS.iload X0.here hx rfl (hb hby d1_73) rfl ?_
              show Steps p.tables e below (s₁.setTop (mkF m 75 #[.val (.ref o1), .val (.int at1), .val (.int lim), .val (.int idv), .val (.int fiv), .val (.int (2 : Int32)), .val (.int fiv), .val (.int nnv), .unset] [(.int nnv)])) _
              refine XS.ifYes X0.here hx rfl (pc0 := 75) (pc' := 94) rfl (hb hby d1_75) rfl ((if0 _ _).trans (teq hc75).1) (by decide) (by decide) ?_
              show Steps p.tables e below (s₁.setTop (mkF m 94 #[.val (.ref o1), .val (.int at1), .val (.int lim), .val (.int idv), .val (.int fiv), .val (.int (2 : Int32)), .val (.int fiv), .val (.int nnv), .unset] [])) _
              refine X0.ldc2Long hx hown (mvT hZ (hw _ (List.mem_of_getElem? (i := 6) rfl))) (g := (mkF m 94 #[.val (.ref o1), .val (.int at1), .val (.int lim), .val (.int idv), .val (.int fiv), .val (.int (2 : Int32)), .val (.int fiv), .val (.int nnv), .unset] [])) rfl (hb hby d1_94) _ ?_
              show Steps p.tables e below (s₁.setTop (mkF m 97 #[.val (.ref o1), .val (.int at1), .val (.int lim), .val (.int idv), .val (.int fiv), .val (.int (2 : Int32)), .val (.int fiv), .val (.int nnv), .unset] [(.long (-1 : Int64))])) _
              exact X0.lreturnOut hx Bd.returns (hb hby d1_97) hr
            · show Q1 at1 lim bb h0 n0 _ s₁.heap _
              rw [e0]
              exact ⟨(by subst hnnv; subst hfiv; subst hidv; simp only [own_ph, own_pm, own_fin, own_pack, if_neg hc4, if_neg hc25, if_neg hc33, if_neg hc63, if_pos hc75]), N0, rfl⟩
          ·
            by_cases hc81 : (4 : Int32) < nnv
            ·
              obtain ⟨fs, hr, hrun, hended, hW, hsame⟩ := X0.leave (v := some (.long (-1 : Int64))) (fun h => by rw [Bd.returns] at h; cases h)
              refine ⟨_, _, pre0 _ ?_, hrun, hended, _, _, rfl, ?_, ⟨_, rfl⟩, hW, hsame.mono (by decide) (by decide)⟩
              · show Steps p.tables e below (s₁.setTop (mkF m 0 #[.val (.ref o1), .val (.int at1), .val (.int lim), .unset, .unset, .unset, .unset, .unset, .unset] [])) _
                refine XS.iloadN X0.here hx rfl (hb hby d1_0) rfl ?_
                show Steps p.tables e below (s₁.setTop (mkF m 1 #[.val (.ref o1), .val (.int at1), .val (.int lim), .unset, .unset, .unset, .unset, .unset, .unset] [(.int lim)])) _
                refine XS.iloadN X0.here hx rfl (hb hby d1_1) rfl ?_
                show Steps p.tables e below (s₁.setTop (mkF m 2 #[.val (.ref o1), .val (.int at1), .val (.int lim), .unset, .unset, .unset, .unset, .unset, .unset] [(.int at1), (.int lim)])) _
                refine XS.isub X0.here hx rfl (hb hby d1_2) rfl ?_
                show Steps p.tables e below (s₁.setTop (mkF m 3 #[.val (.ref o1), .val (.int at1), .val (.int lim), .unset, .unset, .unset, .unset, .unset, .unset] [(.int (lim - at1))])) _
                refine XS.iconst X0.here hx rfl (hb hby d1_3) ?_
                show Steps p.tables e below (s₁.setTop (mkF m 4 #[.val (.ref o1), .val (.int at1), .val (.int lim), .unset, .unset, .unset, .unset, .unset, .unset] [(.int (2 : Int32)), (.int (lim - at1))])) _
                refine XS.icmpYes X0.here hx rfl (pc0 := 4) (pc' := 11) rfl (hb hby d1_4) rfl (flt hc4).2.1 (by decide) (by decide) ?_
                show Steps p.tables e below (s₁.setTop (mkF m 11 #[.val (.ref o1), .val (.int at1), .val (.int lim), .unset, .unset, .unset, .unset, .unset, .unset] [])) _
                refine XS.aloadN X0.here hx rfl (hb hby d1_11) rfl rfl ?_
                show Steps p.tables e below (s₁.setTop (mkF m 12 #[.val (.ref o1), .val (.int at1), .val (.int lim), .unset, .unset, .unset, .unset, .unset, .unset] [(.ref o1)])) _
                refine XS.iloadN X0.here hx rfl (hb hby d1_12) rfl ?_
                show Steps p.tables e below (s₁.setTop (mkF m 13 #[.val (.ref o1), .val (.int at1), .val (.int lim), .unset, .unset, .unset, .unset, .unset, .unset] [(.int at1), (.ref o1)])) _
                refine X0.baloadBytes hx (j := at1) (v := (.int (bb 0))) (by rw [e0]; exact Ar.1) (State.isArrayOf_alike hZ.alike Ar.2.1) Ar.2.2 PB1.1 PB1.2 (g := (mkF m 13 #[.val (.ref o1), .val (.int at1), .val (.int lim), .unset, .unset, .unset, .unset, .unset, .unset] [(.int at1), (.ref o1)])) rfl rfl (hb hby d1_13) _ ?_
                show Steps p.tables e below (s₁.setTop (mkF m 14 #[.val (.ref o1), .val (.int at1), .val (.int lim), .unset, .unset, .unset, .unset, .unset, .unset] [(.int (bb 0))])) _
                refine XS.sipush X0.here hx rfl (hb hby d1_14) ?_
                show Steps p.tables e below (s₁.setTop (mkF m 17 #[.val (.ref o1), .val (.int at1), .val (.int lim), .unset, .unset, .unset, .unset, .unset, .unset] [(.int (255 : Int32)), (.int (bb 0))])) _
                refine XS.iand X0.here hx rfl (hb hby d1_17) rfl ?_
                show Steps p.tables e below (s₁.setTop (mkF m 18 #[.val (.ref o1), .val (.int at1), .val (.int lim), .unset, .unset, .unset, .unset, .unset, .unset] [(.int ((bb 0) &&& (255 : Int32)))])) _
                refine XS.istoreN X0.here hx rfl (hb hby d1_18) rfl (l' := #[.val (.ref o1), .val (.int at1), .val (.int lim), .val (.int ((bb 0) &&& (255 : Int32))), .unset, .unset, .unset, .unset, .unset]) rfl ?_
                show Steps p.tables e below (s₁.setTop (mkF m 19 #[.val (.ref o1), .val (.int at1), .val (.int lim), .val (.int ((bb 0) &&& (255 : Int32))), .unset, .unset, .unset, .unset, .unset] [])) _
                rw [← hidv]
                show Steps p.tables e below (s₁.setTop (mkF m 19 #[.val (.ref o1), .val (.int at1), .val (.int lim), .val (.int idv), .unset, .unset, .unset, .unset, .unset] [])) _
                refine XS.iloadN X0.here hx rfl (hb hby d1_19) rfl ?_
                show Steps p.tables e below (s₁.setTop (mkF m 20 #[.val (.ref o1), .val (.int at1), .val (.int lim), .val (.int idv), .unset, .unset, .unset, .unset, .unset] [(.int idv)])) _
                refine XS.bipush X0.here hx rfl (hb hby d1_20) ?_
                show Steps p.tables e below (s₁.setTop (mkF m 22 #[.val (.ref o1), .val (.int at1), .val (.int lim), .val (.int idv), .unset, .unset, .unset, .unset, .unset] [(.int (31 : Int32)), (.int idv)])) _
                refine XS.iand X0.here hx rfl (hb hby d1_22) rfl ?_
                show Steps p.tables e below (s₁.setTop (mkF m 23 #[.val (.ref o1), .val (.int at1), .val (.int lim), .val (.int idv), .unset, .unset, .unset, .unset, .unset] [(.int (idv &&& (31 : Int32)))])) _
                refine XS.bipush X0.here hx rfl (hb hby d1_23) ?_
                show Steps p.tables e below (s₁.setTop (mkF m 25 #[.val (.ref o1), .val (.int at1), .val (.int lim), .val (.int idv), .unset, .unset, .unset, .unset, .unset] [(.int (31 : Int32)), (.int (idv &&& (31 : Int32)))])) _
                refine XS.icmpNo X0.here hx rfl (hb hby d1_25) rfl (feq hc25).1 ?_
                show Steps p.tables e below (s₁.setTop (mkF m 28 #[.val (.ref o1), .val (.int at1), .val (.int lim), .val (.int idv), .unset, .unset, .unset, .unset, .unset] [])) _
                refine XS.iloadN X0.here hx rfl (hb hby d1_28) rfl ?_
                show Steps p.tables e below (s₁.setTop (mkF m 29 #[.val (.ref o1), .val (.int at1), .val (.int lim), .val (.int idv), .unset, .unset, .unset, .unset, .unset] [(.int idv)])) _
                refine XS.sipush X0.here hx rfl (hb hby d1_29) ?_
                show Steps p.tables e below (s₁.setTop (mkF m 32 #[.val (.ref o1), .val (.int at1), .val (.int lim), .val (.int idv), .unset, .unset, .unset, .unset, .unset] [(.int (223 : Int32)), (.int idv)])) _
                refine XS.iand X0.here hx rfl (hb hby d1_32) rfl ?_
                show Steps p.tables e below (s₁.setTop (mkF m 33 #[.val (.ref o1), .val (.int at1), .val (.int lim), .val (.int idv), .unset, .unset, .unset, .unset, .unset] [(.int (idv &&& (223 : Int32)))])) _
                refine XS.ifYes X0.here hx rfl (pc0 := 33) (pc' := 40) rfl (hb hby d1_33) rfl ((if0 _ _).trans (feq hc33).2) (by decide) (by decide) ?_
                show Steps p.tables e below (s₁.setTop (mkF m 40 #[.val (.ref o1), .val (.int at1), .val (.int lim), .val (.int idv), .unset, .unset, .unset, .unset, .unset] [])) _
                refine XS.aloadN X0.here hx rfl (hb hby d1_40) rfl rfl ?_
                show Steps p.tables e below (s₁.setTop (mkF m 41 #[.val (.ref o1), .val (.int at1), .val (.int lim), .val (.int idv), .unset, .unset, .unset, .unset, .unset] [(.ref o1)])) _
                refine XS.iloadN X0.here hx rfl (hb hby d1_41) rfl ?_
                show Steps p.tables e below (s₁.setTop (mkF m 42 #[.val (.ref o1), .val (.int at1), .val (.int lim), .val (.int idv), .unset, .unset, .unset, .unset, .unset] [(.int at1), (.ref o1)])) _
                refine XS.iconst X0.here hx rfl (hb hby d1_42) ?_
                show Steps p.tables e below (s₁.setTop (mkF m 43 #[.val (.ref o1), .val (.int at1), .val (.int lim), .val (.int idv), .unset, .unset, .unset, .unset, .unset] [(.int (1 : Int32)), (.int at1), (.ref o1)])) _
                refine XS.iadd X0.here hx rfl (hb hby d1_43) rfl ?_
                show Steps p.tables e below (s₁.setTop (mkF m 44 #[.val (.ref o1), .val (.int at1), .val (.int lim), .val (.int idv), .unset, .unset, .unset, .unset, .unset] [(.int (at1 + (1 : Int32))), (.ref o1)])) _
                refine X0.baloadBytes hx (j := (at1 + (1 : Int32))) (v := (.int (bb 1))) (by rw [e0]; exact Ar.1) (State.isArrayOf_alike hZ.alike Ar.2.1) Ar.2.2 PB2.1 PB2.2 (g := (mkF m 44 #[.val (.ref o1), .val (.int at1), .val (.int lim), .val (.int idv), .unset, .unset, .unset, .unset, .unset] [(.int (at1 + (1 : Int32))), (.ref o1)])) rfl rfl (hb hby d1_44) _ ?_
                show Steps p.tables e below (s₁.setTop (mkF m 45 #[.val (.ref o1), .val (.int at1), .val (.int lim), .val (.int idv), .unset, .unset, .unset, .unset, .unset] [(.int (bb 1))])) _
                refine XS.sipush X0.here hx rfl (hb hby d1_45) ?_
                show Steps p.tables e below (s₁.setTop (mkF m 48 #[.val (.ref o1), .val (.int at1), .val (.int lim), .val (.int idv), .unset, .unset, .unset, .unset, .unset] [(.int (255 : Int32)), (.int (bb 1))])) _
                refine XS.iand X0.here hx rfl (hb hby d1_48) rfl ?_
                show Steps p.tables e below (s₁.setTop (mkF m 49 #[.val (.ref o1), .val (.int at1), .val (.int lim), .val (.int idv), .unset, .unset, .unset, .unset, .unset] [(.int ((bb 1) &&& (255 : Int32)))])) _
                refine XS.istore X0.here hx rfl (hb hby d1_49) rfl (l' := #[.val (.ref o1), .val (.int at1), .val (.int lim), .val (.int idv), .val (.int ((bb 1) &&& (255 : Int32))), .unset, .unset, .unset, .unset]) rfl ?_
                show Steps p.tables e below (s₁.setTop (mkF m 51 #[.val (.ref o1), .val (.int at1), .val (.int lim), .val (.int idv), .val (.int ((bb 1) &&& (255 : Int32))), .unset, .unset, .unset, .unset] [])) _
                rw [← hfiv]
                show Steps p.tables e below (s₁.setTop (mkF m 51 #[.val (.ref o1), .val (.int at1), .val (.int lim), .val (.int idv), .val (.int fiv), .unset, .unset, .unset, .unset] [])) _
                refine XS.iconst X0.here hx rfl (hb hby d1_51) ?_
                show Steps p.tables e below (s₁.setTop (mkF m 52 #[.val (.ref o1), .val (.int at1), .val (.int lim), .val (.int idv), .val (.int fiv), .unset, .unset, .unset, .unset] [(.int (2 : Int32))])) _
                refine XS.istore X0.here hx rfl (hb hby d1_52) rfl (l' := #[.val (.ref o1), .val (.int at1), .val (.int lim), .val (.int idv), .val (.int fiv), .val (.int (2 : Int32)), .unset, .unset, .unset]) rfl ?_
                show Steps p.tables e below (s₁.setTop (mkF m 54 #[.val (.ref o1), .val (.int at1), .val (.int lim), .val (.int idv), .val (.int fiv), .val (.int (2 : Int32)), .unset, .unset, .unset] [])) _
                refine XS.iload X0.here hx rfl (hb hby d1_54) rfl ?_
                show Steps p.tables e below (s₁.setTop (mkF m 56 #[.val (.ref o1), .val (.int at1), .val (.int lim), .val (.int idv), .val (.int fiv), .val (.int (2 : Int32)), .unset, .unset, .unset] [(.int fiv)])) _
                refine XS.istore X0.here hx rfl (hb hby d1_56) rfl (l' := #[.val (.ref o1), .val (.int at1), .val (.int lim), .val (.int idv), .val (.int fiv), .val (.int (2 : Int32)), .val (.int fiv), .unset, .unset]) rfl ?_
                show Steps p.tables e below (s₁.setTop (mkF m 58 #[.val (.ref o1), .val (.int at1), .val (.int lim), .val (.int idv), .val (.int fiv), .val (.int (2 : Int32)), .val (.int fiv), .unset, .unset] [])) _
                refine XS.iload X0.here hx rfl (hb hby d1_58) rfl ?_
                show Steps p.tables e below (s₁.setTop (mkF m 60 #[.val (.ref o1), .val (.int at1), .val (.int lim), .val (.int idv), .val (.int fiv), .val (.int (2 : Int32)), .val (.int fiv), .unset, .unset] [(.int fiv)])) _
                refine XS.sipush X0.here hx rfl (hb hby d1_60) ?_
                show Steps p.tables e below (s₁.setTop (mkF m 63 #[.val (.ref o1), .val (.int at1), .val (.int lim), .val (.int idv), .val (.int fiv), .val (.int (2 : Int32)), .val (.int fiv), .unset, .unset] [(.int (128 : Int32)), (.int fiv)])) _
                refine XS.icmpNo X0.here hx rfl (hb hby d1_63) rfl (flt hc63).1 ?_
                show Steps p.tables e below (s₁.setTop (mkF m 66 #[.val (.ref o1), .val (.int at1), .val (.int lim), .val (.int idv), .val (.int fiv), .val (.int (2 : Int32)), .val (.int fiv), .unset, .unset] [])) _
                refine XS.iload X0.here hx rfl (hb hby d1_66) rfl ?_
                show Steps p.tables e below (s₁.setTop (mkF m 68 #[.val (.ref o1), .val (.int at1), .val (.int lim), .val (.int idv), .val (.int fiv), .val (.int (2 : Int32)), .val (.int fiv), .unset, .unset] [(.int fiv)])) _
                refine XS.bipush X0.here hx rfl (hb hby d1_68) ?_
                show Steps p.tables e below (s₁.setTop (mkF m 70 #[.val (.ref o1), .val (.int at1), .val (.int lim), .val (.int idv), .val (.int fiv), .val (.int (2 : Int32)), .val (.int fiv), .unset, .unset] [(.int (127 : Int32)), (.int fiv)])) _
                refine XS.iand X0.here hx rfl (hb hby d1_70) rfl ?_
                show Steps p.tables e below (s₁.setTop (mkF m 71 #[.val (.ref o1), .val (.int at1), .val (.int lim), .val (.int idv), .val (.int fiv), .val (.int (2 : Int32)), .val (.int fiv), .unset, .unset] [(.int (fiv &&& (127 : Int32)))])) _
                refine XS.istore X0.here hx rfl (hb hby d1_71) rfl (l' := #[.val (.ref o1), .val (.int at1), .val (.int lim), .val (.int idv), .val (.int fiv), .val (.int (2 : Int32)), .val (.int fiv), .val (.int (fiv &&& (127 : Int32))), .unset]) rfl ?_
                show Steps p.tables e below (s₁.setTop (mkF m 73 #[.val (.ref o1), .val (.int at1), .val (.int lim), .val (.int idv), .val (.int fiv), .val (.int (2 : Int32)), .val (.int fiv), .val (.int (fiv &&& (127 : Int32))), .unset] [])) _
                rw [← hnnv]
                show Steps p.tables e below (s₁.setTop (mkF m 73 #[.val (.ref o1), .val (.int at1), .val (.int lim), .val (.int idv), .val (.int fiv), .val (.int (2 : Int32)), .val (.int fiv), .val (.int nnv), .unset] [])) _
                refine XS.iload X0.here hx rfl (hb hby d1_73) rfl ?_
                show Steps p.tables e below (s₁.setTop (mkF m 75 #[.val (.ref o1), .val (.int at1), .val (.int lim), .val (.int idv), .val (.int fiv), .val (.int (2 : Int32)), .val (.int fiv), .val (.int nnv), .unset] [(.int nnv)])) _
                refine XS.ifNo X0.here hx rfl (hb hby d1_75) rfl ((if0 _ _).trans (feq hc75).1) ?_
                show Steps p.tables e below (s₁.setTop (mkF m 78 #[.val (.ref o1), .val (.int at1), .val (.int lim), .val (.int idv), .val (.int fiv), .val (.int (2 : Int32)), .val (.int fiv), .val (.int nnv), .unset] [])) _
                refine XS.iload X0.here hx rfl (hb hby d1_78) rfl ?_
                show Steps p.tables e below (s₁.setTop (mkF m 80 #[.val (.ref o1), .val (.int at1), .val (.int lim), .val (.int idv), .val (.int fiv), .val (.int (2 : Int32)), .val (.int fiv), .val (.int nnv), .unset] [(.int nnv)])) _
                refine XS.iconst X0.here hx rfl (hb hby d1_80) ?_
                show Steps p.tables e below (s₁.setTop (mkF m 81 #[.val (.ref o1), .val (.int at1), .val (.int lim), .val (.int idv), .val (.int fiv), .val (.int (2 : Int32)), .val (.int fiv), .val (.int nnv), .unset] [(.int (4 : Int32)), (.int nnv)])) _
                refine XS.icmpYes X0.here hx rfl (pc0 := 81) (pc' := 94) rfl (hb hby d1_81) rfl (tlt hc81).2.2.1 (by decide) (by decide) ?_
                show Steps p.tables e below (s₁.setTop (mkF m 94 #[.val (.ref o1), .val (.int at1), .val (.int lim), .val (.int idv), .val (.int fiv), .val (.int (2 : Int32)), .val (.int fiv), .val (.int nnv), .unset] [])) _
                refine X0.ldc2Long hx hown (mvT hZ (hw _ (List.mem_of_getElem? (i := 6) rfl))) (g := (mkF m 94 #[.val (.ref o1), .val (.int at1), .val (.int lim), .val (.int idv), .val (.int fiv), .val (.int (2 : Int32)), .val (.int fiv), .val (.int nnv), .unset] [])) rfl (hb hby d1_94) _ ?_
                show Steps p.tables e below (s₁.setTop (mkF m 97 #[.val (.ref o1), .val (.int at1), .val (.int lim), .val (.int idv), .val (.int fiv), .val (.int (2 : Int32)), .val (.int fiv), .val (.int nnv), .unset] [(.long (-1 : Int64))])) _
                exact X0.lreturnOut hx Bd.returns (hb hby d1_97) hr
              · show Q1 at1 lim bb h0 n0 _ s₁.heap _
                rw [e0]
                exact ⟨(by subst hnnv; subst hfiv; subst hidv; simp only [own_ph, own_pm, own_fin, own_pack, if_neg hc4, if_neg hc25, if_neg hc33, if_neg hc63, if_neg hc75, if_pos hc81]), N0, rfl⟩
            ·
              by_cases hc91 : ((lim - at1) - (2 : Int32)) < nnv
              ·
                obtain ⟨fs, hr, hrun, hended, hW, hsame⟩ := X0.leave (v := some (.long (-1 : Int64))) (fun h => by rw [Bd.returns] at h; cases h)
                refine ⟨_, _, pre0 _ ?_, hrun, hended, _, _, rfl, ?_, ⟨_, rfl⟩, hW, hsame.mono (by decide) (by decide)⟩
                · show Steps p.tables e below (s₁.setTop (mkF m 0 #[.val (.ref o1), .val (.int at1), .val (.int lim), .unset, .unset, .unset, .unset, .unset, .unset] [])) _
                  refine XS.iloadN X0.here hx rfl (hb hby d1_0) rfl ?_
                  show Steps p.tables e below (s₁.setTop (mkF m 1 #[.val (.ref o1), .val (.int at1), .val (.int lim), .unset, .unset, .unset, .unset, .unset, .unset] [(.int lim)])) _
                  refine XS.iloadN X0.here hx rfl (hb hby d1_1) rfl ?_
                  show Steps p.tables e below (s₁.setTop (mkF m 2 #[.val (.ref o1), .val (.int at1), .val (.int lim), .unset, .unset, .unset, .unset, .unset, .unset] [(.int at1), (.int lim)])) _
                  refine XS.isub X0.here hx rfl (hb hby d1_2) rfl ?_
                  show Steps p.tables e below (s₁.setTop (mkF m 3 #[.val (.ref o1), .val (.int at1), .val (.int lim), .unset, .unset, .unset, .unset, .unset, .unset] [(.int (lim - at1))])) _
                  refine XS.iconst X0.here hx rfl (hb hby d1_3) ?_
                  show Steps p.tables e below (s₁.setTop (mkF m 4 #[.val (.ref o1), .val (.int at1), .val (.int lim), .unset, .unset, .unset, .unset, .unset, .unset] [(.int (2 : Int32)), (.int (lim - at1))])) _
                  refine XS.icmpYes X0.here hx rfl (pc0 := 4) (pc' := 11) rfl (hb hby d1_4) rfl (flt hc4).2.1 (by decide) (by decide) ?_
                  show Steps p.tables e below (s₁.setTop (mkF m 11 #[.val (.ref o1), .val (.int at1), .val (.int lim), .unset, .unset, .unset, .unset, .unset, .unset] [])) _
                  refine XS.aloadN X0.here hx rfl (hb hby d1_11) rfl rfl ?_
                  show Steps p.tables e below (s₁.setTop (mkF m 12 #[.val (.ref o1), .val (.int at1), .val (.int lim), .unset, .unset, .unset, .unset, .unset, .unset] [(.ref o1)])) _
                  refine XS.iloadN X0.here hx rfl (hb hby d1_12) rfl ?_
                  show Steps p.tables e below (s₁.setTop (mkF m 13 #[.val (.ref o1), .val (.int at1), .val (.int lim), .unset, .unset, .unset, .unset, .unset, .unset] [(.int at1), (.ref o1)])) _
                  refine X0.baloadBytes hx (j := at1) (v := (.int (bb 0))) (by rw [e0]; exact Ar.1) (State.isArrayOf_alike hZ.alike Ar.2.1) Ar.2.2 PB1.1 PB1.2 (g := (mkF m 13 #[.val (.ref o1), .val (.int at1), .val (.int lim), .unset, .unset, .unset, .unset, .unset, .unset] [(.int at1), (.ref o1)])) rfl rfl (hb hby d1_13) _ ?_
                  show Steps p.tables e below (s₁.setTop (mkF m 14 #[.val (.ref o1), .val (.int at1), .val (.int lim), .unset, .unset, .unset, .unset, .unset, .unset] [(.int (bb 0))])) _
                  refine XS.sipush X0.here hx rfl (hb hby d1_14) ?_
                  show Steps p.tables e below (s₁.setTop (mkF m 17 #[.val (.ref o1), .val (.int at1), .val (.int lim), .unset, .unset, .unset, .unset, .unset, .unset] [(.int (255 : Int32)), (.int (bb 0))])) _
                  refine XS.iand X0.here hx rfl (hb hby d1_17) rfl ?_
                  show Steps p.tables e below (s₁.setTop (mkF m 18 #[.val (.ref o1), .val (.int at1), .val (.int lim), .unset, .unset, .unset, .unset, .unset, .unset] [(.int ((bb 0) &&& (255 : Int32)))])) _
                  refine XS.istoreN X0.here hx rfl (hb hby d1_18) rfl (l' := #[.val (.ref o1), .val (.int at1), .val (.int lim), .val (.int ((bb 0) &&& (255 : Int32))), .unset, .unset, .unset, .unset, .unset]) rfl ?_
                  show Steps p.tables e below (s₁.setTop (mkF m 19 #[.val (.ref o1), .val (.int at1), .val (.int lim), .val (.int ((bb 0) &&& (255 : Int32))), .unset, .unset, .unset, .unset, .unset] [])) _
                  rw [← hidv]
                  show Steps p.tables e below (s₁.setTop (mkF m 19 #[.val (.ref o1), .val (.int at1), .val (.int lim), .val (.int idv), .unset, .unset, .unset, .unset, .unset] [])) _
                  refine XS.iloadN X0.here hx rfl (hb hby d1_19) rfl ?_
                  show Steps p.tables e below (s₁.setTop (mkF m 20 #[.val (.ref o1), .val (.int at1), .val (.int lim), .val (.int idv), .unset, .unset, .unset, .unset, .unset] [(.int idv)])) _
                  refine XS.bipush X0.here hx rfl (hb hby d1_20) ?_
                  show Steps p.tables e below (s₁.setTop (mkF m 22 #[.val (.ref o1), .val (.int at1), .val (.int lim), .val (.int idv), .unset, .unset, .unset, .unset, .unset] [(.int (31 : Int32)), (.int idv)])) _
                  refine XS.iand X0.here hx rfl (hb hby d1_22) rfl ?_
                  show Steps p.tables e below (s₁.setTop (mkF m 23 #[.val (.ref o1), .val (.int at1), .val (.int lim), .val (.int idv), .unset, .unset, .unset, .unset, .unset] [(.int (idv &&& (31 : Int32)))])) _
                  refine XS.bipush X0.here hx rfl (hb hby d1_23) ?_
                  show Steps p.tables e below (s₁.setTop (mkF m 25 #[.val (.ref o1), .val (.int at1), .val (.int lim), .val (.int idv), .unset, .unset, .unset, .unset, .unset] [(.int (31 : Int32)), (.int (idv &&& (31 : Int32)))])) _
                  refine XS.icmpNo X0.here hx rfl (hb hby d1_25) rfl (feq hc25).1 ?_
                  show Steps p.tables e below (s₁.setTop (mkF m 28 #[.val (.ref o1), .val (.int at1), .val (.int lim), .val (.int idv), .unset, .unset, .unset, .unset, .unset] [])) _
                  refine XS.iloadN X0.here hx rfl (hb hby d1_28) rfl ?_
                  show Steps p.tables e below (s₁.setTop (mkF m 29 #[.val (.ref o1), .val (.int at1), .val (.int lim), .val (.int idv), .unset, .unset, .unset, .unset, .unset] [(.int idv)])) _
                  refine XS.sipush X0.here hx rfl (hb hby d1_29) ?_
                  show Steps p.tables e below (s₁.setTop (mkF m 32 #[.val (.ref o1), .val (.int at1), .val (.int lim), .val (.int idv), .unset, .unset, .unset, .unset, .unset] [(.int (223 : Int32)), (.int idv)])) _
                  refine XS.iand X0.here hx rfl (hb hby d1_32) rfl ?_
                  show Steps p.tables e below (s₁.setTop (mkF m 33 #[.val (.ref o1), .val (.int at1), .val (.int lim), .val (.int idv), .unset, .unset, .unset, .unset, .unset] [(.int (idv &&& (223 : Int32)))])) _
                  refine XS.ifYes X0.here hx rfl (pc0 := 33) (pc' := 40) rfl (hb hby d1_33) rfl ((if0 _ _).trans (feq hc33).2) (by decide) (by decide) ?_
                  show Steps p.tables e below (s₁.setTop (mkF m 40 #[.val (.ref o1), .val (.int at1), .val (.int lim), .val (.int idv), .unset, .unset, .unset, .unset, .unset] [])) _
                  refine XS.aloadN X0.here hx rfl (hb hby d1_40) rfl rfl ?_
                  show Steps p.tables e below (s₁.setTop (mkF m 41 #[.val (.ref o1), .val (.int at1), .val (.int lim), .val (.int idv), .unset, .unset, .unset, .unset, .unset] [(.ref o1)])) _
                  refine XS.iloadN X0.here hx rfl (hb hby d1_41) rfl ?_
                  show Steps p.tables e below (s₁.setTop (mkF m 42 #[.val (.ref o1), .val (.int at1), .val (.int lim), .val (.int idv), .unset, .unset, .unset, .unset, .unset] [(.int at1), (.ref o1)])) _
                  refine XS.iconst X0.here hx rfl (hb hby d1_42) ?_
                  show Steps p.tables e below (s₁.setTop (mkF m 43 #[.val (.ref o1), .val (.int at1), .val (.int lim), .val (.int idv), .unset, .unset, .unset, .unset, .unset] [(.int (1 : Int32)), (.int at1), (.ref o1)])) _
                  refine XS.iadd X0.here hx rfl (hb hby d1_43) rfl ?_
                  show Steps p.tables e below (s₁.setTop (mkF m 44 #[.val (.ref o1), .val (.int at1), .val (.int lim), .val (.int idv), .unset, .unset, .unset, .unset, .unset] [(.int (at1 + (1 : Int32))), (.ref o1)])) _
                  refine X0.baloadBytes hx (j := (at1 + (1 : Int32))) (v := (.int (bb 1))) (by rw [e0]; exact Ar.1) (State.isArrayOf_alike hZ.alike Ar.2.1) Ar.2.2 PB2.1 PB2.2 (g := (mkF m 44 #[.val (.ref o1), .val (.int at1), .val (.int lim), .val (.int idv), .unset, .unset, .unset, .unset, .unset] [(.int (at1 + (1 : Int32))), (.ref o1)])) rfl rfl (hb hby d1_44) _ ?_
                  show Steps p.tables e below (s₁.setTop (mkF m 45 #[.val (.ref o1), .val (.int at1), .val (.int lim), .val (.int idv), .unset, .unset, .unset, .unset, .unset] [(.int (bb 1))])) _
                  refine XS.sipush X0.here hx rfl (hb hby d1_45) ?_
                  show Steps p.tables e below (s₁.setTop (mkF m 48 #[.val (.ref o1), .val (.int at1), .val (.int lim), .val (.int idv), .unset, .unset, .unset, .unset, .unset] [(.int (255 : Int32)), (.int (bb 1))])) _
                  refine XS.iand X0.here hx rfl (hb hby d1_48) rfl ?_
                  show Steps p.tables e below (s₁.setTop (mkF m 49 #[.val (.ref o1), .val (.int at1), .val (.int lim), .val (.int idv), .unset, .unset, .unset, .unset, .unset] [(.int ((bb 1) &&& (255 : Int32)))])) _
                  refine XS.istore X0.here hx rfl (hb hby d1_49) rfl (l' := #[.val (.ref o1), .val (.int at1), .val (.int lim), .val (.int idv), .val (.int ((bb 1) &&& (255 : Int32))), .unset, .unset, .unset, .unset]) rfl ?_
                  show Steps p.tables e below (s₁.setTop (mkF m 51 #[.val (.ref o1), .val (.int at1), .val (.int lim), .val (.int idv), .val (.int ((bb 1) &&& (255 : Int32))), .unset, .unset, .unset, .unset] [])) _
                  rw [← hfiv]
                  show Steps p.tables e below (s₁.setTop (mkF m 51 #[.val (.ref o1), .val (.int at1), .val (.int lim), .val (.int idv), .val (.int fiv), .unset, .unset, .unset, .unset] [])) _
                  refine XS.iconst X0.here hx rfl (hb hby d1_51) ?_
                  show Steps p.tables e below (s₁.setTop (mkF m 52 #[.val (.ref o1), .val (.int at1), .val (.int lim), .val (.int idv), .val (.int fiv), .unset, .unset, .unset, .unset] [(.int (2 : Int32))])) _
                  refine XS.istore X0.here hx rfl (hb hby d1_52) rfl (l' := #[.val (.ref o1), .val (.int at1), .val (.int lim), .val (.int idv), .val (.int fiv), .val (.int (2 : Int32)), .unset, .unset, .unset]) rfl ?_
                  show Steps p.tables e below (s₁.setTop (mkF m 54 #[.val (.ref o1), .val (.int at1), .val (.int lim), .val (.int idv), .val (.int fiv), .val (.int (2 : Int32)), .unset, .unset, .unset] [])) _
                  refine XS.iload X0.here hx rfl (hb hby d1_54) rfl ?_
                  show Steps p.tables e below (s₁.setTop (mkF m 56 #[.val (.ref o1), .val (.int at1), .val (.int lim), .val (.int idv), .val (.int fiv), .val (.int (2 : Int32)), .unset, .unset, .unset] [(.int fiv)])) _
                  refine XS.istore X0.here hx rfl (hb hby d1_56) rfl (l' := #[.val (.ref o1), .val (.int at1), .val (.int lim), .val (.int idv), .val (.int fiv), .val (.int (2 : Int32)), .val (.int fiv), .unset, .unset]) rfl ?_
                  show Steps p.tables e below (s₁.setTop (mkF m 58 #[.val (.ref o1), .val (.int at1), .val (.int lim), .val (.int idv), .val (.int fiv), .val (.int (2 : Int32)), .val (.int fiv), .unset, .unset] [])) _
                  refine XS.iload X0.here hx rfl (hb hby d1_58) rfl ?_
                  show Steps p.tables e below (s₁.setTop (mkF m 60 #[.val (.ref o1), .val (.int at1), .val (.int lim), .val (.int idv), .val (.int fiv), .val (.int (2 : Int32)), .val (.int fiv), .unset, .unset] [(.int fiv)])) _
                  refine XS.sipush X0.here hx rfl (hb hby d1_60) ?_
                  show Steps p.tables e below (s₁.setTop (mkF m 63 #[.val (.ref o1), .val (.int at1), .val (.int lim), .val (.int idv), .val (.int fiv), .val (.int (2 : Int32)), .val (.int fiv), .unset, .unset] [(.int (128 : Int32)), (.int fiv)])) _
                  refine XS.icmpNo X0.here hx rfl (hb hby d1_63) rfl (flt hc63).1 ?_
                  show Steps p.tables e below (s₁.setTop (mkF m 66 #[.val (.ref o1), .val (.int at1), .val (.int lim), .val (.int idv), .val (.int fiv), .val (.int (2 : Int32)), .val (.int fiv), .unset, .unset] [])) _
                  refine XS.iload X0.here hx rfl (hb hby d1_66) rfl ?_
                  show Steps p.tables e below (s₁.setTop (mkF m 68 #[.val (.ref o1), .val (.int at1), .val (.int lim), .val (.int idv), .val (.int fiv), .val (.int (2 : Int32)), .val (.int fiv), .unset, .unset] [(.int fiv)])) _
                  refine XS.bipush X0.here hx rfl (hb hby d1_68) ?_
                  show Steps p.tables e below (s₁.setTop (mkF m 70 #[.val (.ref o1), .val (.int at1), .val (.int lim), .val (.int idv), .val (.int fiv), .val (.int (2 : Int32)), .val (.int fiv), .unset, .unset] [(.int (127 : Int32)), (.int fiv)])) _
                  refine XS.iand X0.here hx rfl (hb hby d1_70) rfl ?_
                  show Steps p.tables e below (s₁.setTop (mkF m 71 #[.val (.ref o1), .val (.int at1), .val (.int lim), .val (.int idv), .val (.int fiv), .val (.int (2 : Int32)), .val (.int fiv), .unset, .unset] [(.int (fiv &&& (127 : Int32)))])) _
                  refine XS.istore X0.here hx rfl (hb hby d1_71) rfl (l' := #[.val (.ref o1), .val (.int at1), .val (.int lim), .val (.int idv), .val (.int fiv), .val (.int (2 : Int32)), .val (.int fiv), .val (.int (fiv &&& (127 : Int32))), .unset]) rfl ?_
                  show Steps p.tables e below (s₁.setTop (mkF m 73 #[.val (.ref o1), .val (.int at1), .val (.int lim), .val (.int idv), .val (.int fiv), .val (.int (2 : Int32)), .val (.int fiv), .val (.int (fiv &&& (127 : Int32))), .unset] [])) _
                  rw [← hnnv]
                  show Steps p.tables e below (s₁.setTop (mkF m 73 #[.val (.ref o1), .val (.int at1), .val (.int lim), .val (.int idv), .val (.int fiv), .val (.int (2 : Int32)), .val (.int fiv), .val (.int nnv), .unset] [])) _
                  refine XS.iload X0.here hx rfl (hb hby d1_73) rfl ?_
                  show Steps p.tables e below (s₁.setTop (mkF m 75 #[.val (.ref o1), .val (.int at1), .val (.int lim), .val (.int idv), .val (.int fiv), .val (.int (2 : Int32)), .val (.int fiv), .val (.int nnv), .unset] [(.int nnv)])) _
                  refine XS.ifNo X0.here hx rfl (hb hby d1_75) rfl ((if0 _ _).trans (feq hc75).1) ?_
                  show Steps p.tables e below (s₁.setTop (mkF m 78 #[.val (.ref o1), .val (.int at1), .val (.int lim), .val (.int idv), .val (.int fiv), .val (.int (2 : Int32)), .val (.int fiv), .val (.int nnv), .unset] [])) _
                  refine XS.iload X0.here hx rfl (hb hby d1_78) rfl ?_
                  show Steps p.tables e below (s₁.setTop (mkF m 80 #[.val (.ref o1), .val (.int at1), .val (.int lim), .val (.int idv), .val (.int fiv), .val (.int (2 : Int32)), .val (.int fiv), .val (.int nnv), .unset] [(.int nnv)])) _
                  refine XS.iconst X0.here hx rfl (hb hby d1_80) ?_
                  show Steps p.tables e below (s₁.setTop (mkF m 81 #[.val (.ref o1), .val (.int at1), .val (.int lim), .val (.int idv), .val (.int fiv), .val (.int (2 : Int32)), .val (.int fiv), .val (.int nnv), .unset] [(.int (4 : Int32)), (.int nnv)])) _
                  refine XS.icmpNo X0.here hx rfl (hb hby d1_81) rfl (flt hc81).2.2.1 ?_
                  show Steps p.tables e below (s₁.setTop (mkF m 84 #[.val (.ref o1), .val (.int at1), .val (.int lim), .val (.int idv), .val (.int fiv), .val (.int (2 : Int32)), .val (.int fiv), .val (.int nnv), .unset] [])) _
                  refine XS.iload X0.here hx rfl (hb hby d1_84) rfl ?_
                  show Steps p.tables e below (s₁.setTop (mkF m 86 #[.val (.ref o1), .val (.int at1), .val (.int lim), .val (.int idv), .val (.int fiv), .val (.int (2 : Int32)), .val (.int fiv), .val (.int nnv), .unset] [(.int nnv)])) _
                  refine XS.iloadN X0.here hx rfl (hb hby d1_86) rfl ?_
                  show Steps p.tables e below (s₁.setTop (mkF m 87 #[.val (.ref o1), .val (.int at1), .val (.int lim), .val (.int idv), .val (.int fiv), .val (.int (2 : Int32)), .val (.int fiv), .val (.int nnv), .unset] [(.int lim), (.int nnv)])) _
                  refine XS.iloadN X0.here hx rfl (hb hby d1_87) rfl ?_
                  show Steps p.tables e below (s₁.setTop (mkF m 88 #[.val (.ref o1), .val (.int at1), .val (.int lim), .val (.int idv), .val (.int fiv), .val (.int (2 : Int32)), .val (.int fiv), .val (.int nnv), .unset] [(.int at1), (.int lim), (.int nnv)])) _
                  refine XS.isub X0.here hx rfl (hb hby d1_88) rfl ?_
                  show Steps p.tables e below (s₁.setTop (mkF m 89 #[.val (.ref o1), .val (.int at1), .val (.int lim), .val (.int idv), .val (.int fiv), .val (.int (2 : Int32)), .val (.int fiv), .val (.int nnv), .unset] [(.int (lim - at1)), (.int nnv)])) _
                  refine XS.iconst X0.here hx rfl (hb hby d1_89) ?_
                  show Steps p.tables e below (s₁.setTop (mkF m 90 #[.val (.ref o1), .val (.int at1), .val (.int lim), .val (.int idv), .val (.int fiv), .val (.int (2 : Int32)), .val (.int fiv), .val (.int nnv), .unset] [(.int (2 : Int32)), (.int (lim - at1)), (.int nnv)])) _
                  refine XS.isub X0.here hx rfl (hb hby d1_90) rfl ?_
                  show Steps p.tables e below (s₁.setTop (mkF m 91 #[.val (.ref o1), .val (.int at1), .val (.int lim), .val (.int idv), .val (.int fiv), .val (.int (2 : Int32)), .val (.int fiv), .val (.int nnv), .unset] [(.int ((lim - at1) - (2 : Int32))), (.int nnv)])) _
                  refine XS.icmpNo X0.here hx rfl (hb hby d1_91) rfl (tlt hc91).2.2.2 ?_
                  show Steps p.tables e below (s₁.setTop (mkF m 94 #[.val (.ref o1), .val (.int at1), .val (.int lim), .val (.int idv), .val (.int fiv), .val (.int (2 : Int32)), .val (.int fiv), .val (.int nnv), .unset] [])) _
                  refine X0.ldc2Long hx hown (mvT hZ (hw _ (List.mem_of_getElem? (i := 6) rfl))) (g := (mkF m 94 #[.val (.ref o1), .val (.int at1), .val (.int lim), .val (.int idv), .val (.int fiv), .val (.int (2 : Int32)), .val (.int fiv), .val (.int nnv), .unset] [])) rfl (hb hby d1_94) _ ?_
                  show Steps p.tables e below (s₁.setTop (mkF m 97 #[.val (.ref o1), .val (.int at1), .val (.int lim), .val (.int idv), .val (.int fiv), .val (.int (2 : Int32)), .val (.int fiv), .val (.int nnv), .unset] [(.long (-1 : Int64))])) _
                  exact X0.lreturnOut hx Bd.returns (hb hby d1_97) hr
                · show Q1 at1 lim bb h0 n0 _ s₁.heap _
                  rw [e0]
                  exact ⟨(by subst hnnv; subst hfiv; subst hidv; simp only [own_ph, own_pm, own_fin, own_pack, if_neg hc4, if_neg hc25, if_neg hc33, if_neg hc63, if_neg hc75, if_neg hc81, if_pos hc91]), N0, rfl⟩
              ·
                obtain ⟨v0_98, hv0_98⟩ : ∃ z : Int32, z = (if ((0 : Int32) + (1 : Int32)) < nnv then (if (((0 : Int32) + (1 : Int32)) + (1 : Int32)) < nnv then (if ((((0 : Int32) + (1 : Int32)) + (1 : Int32)) + (1 : Int32)) < nnv then (((((((((0 : Int32) <<< ((8 : Int32) &&& 31)) ||| ((bb 2) &&& (255 : Int32))) <<< ((8 : Int32) &&& 31)) ||| ((bb 3) &&& (255 : Int32))) <<< ((8 : Int32) &&& 31)) ||| ((bb 4) &&& (255 : Int32))) <<< ((8 : Int32) &&& 31)) ||| ((bb 5) &&& (255 : Int32))) else (((((((0 : Int32) <<< ((8 : Int32) &&& 31)) ||| ((bb 2) &&& (255 : Int32))) <<< ((8 : Int32) &&& 31)) ||| ((bb 3) &&& (255 : Int32))) <<< ((8 : Int32) &&& 31)) ||| ((bb 4) &&& (255 : Int32)))) else (((((0 : Int32) <<< ((8 : Int32) &&& 31)) ||| ((bb 2) &&& (255 : Int32))) <<< ((8 : Int32) &&& 31)) ||| ((bb 3) &&& (255 : Int32)))) else (((0 : Int32) <<< ((8 : Int32) &&& 31)) ||| ((bb 2) &&& (255 : Int32)))) := ⟨_, rfl⟩
                obtain ⟨v1_98, hv1_98⟩ : ∃ z : Int32, z = (if ((0 : Int32) + (1 : Int32)) < nnv then (if (((0 : Int32) + (1 : Int32)) + (1 : Int32)) < nnv then (if ((((0 : Int32) + (1 : Int32)) + (1 : Int32)) + (1 : Int32)) < nnv then (((((0 : Int32) + (1 : Int32)) + (1 : Int32)) + (1 : Int32)) + (1 : Int32)) else ((((0 : Int32) + (1 : Int32)) + (1 : Int32)) + (1 : Int32))) else (((0 : Int32) + (1 : Int32)) + (1 : Int32))) else ((0 : Int32) + (1 : Int32))) := ⟨_, rfl⟩
                have hv0_98 : v0_98 = own_ln nnv ((bb 2) &&& (255 : Int32)) ((bb 3) &&& (255 : Int32)) ((bb 4) &&& (255 : Int32)) ((bb 5) &&& (255 : Int32)) := hv0_98
                by_cases hc146 : v0_98 < (0 : Int32)
                ·
                  obtain ⟨fs, hr, hrun, hended, hW, hsame⟩ := X0.leave (v := some (.long (-1 : Int64))) (fun h => by rw [Bd.returns] at h; cases h)
                  refine ⟨_, _, pre0 _ ?_, hrun, hended, _, _, rfl, ?_, ⟨_, rfl⟩, hW, hsame.mono (by decide) (by decide)⟩
                  · show Steps p.tables e below (s₁.setTop (mkF m 0 #[.val (.ref o1), .val (.int at1), .val (.int lim), .unset, .unset, .unset, .unset, .unset, .unset] [])) _
                    refine XS.iloadN X0.here hx rfl (hb hby d1_0) rfl ?_
                    show Steps p.tables e below (s₁.setTop (mkF m 1 #[.val (.ref o1), .val (.int at1), .val (.int lim), .unset, .unset, .unset, .unset, .unset, .unset] [(.int lim)])) _
                    refine XS.iloadN X0.here hx rfl (hb hby d1_1) rfl ?_
                    show Steps p.tables e below (s₁.setTop (mkF m 2 #[.val (.ref o1), .val (.int at1), .val (.int lim), .unset, .unset, .unset, .unset, .unset, .unset] [(.int at1), (.int lim)])) _
                    refine XS.isub X0.here hx rfl (hb hby d1_2) rfl ?_
                    show Steps p.tables e below (s₁.setTop (mkF m 3 #[.val (.ref o1), .val (.int at1), .val (.int lim), .unset, .unset, .unset, .unset, .unset, .unset] [(.int (lim - at1))])) _
                    refine XS.iconst X0.here hx rfl (hb hby d1_3) ?_
                    show Steps p.tables e below (s₁.setTop (mkF m 4 #[.val (.ref o1), .val (.int at1), .val (.int lim), .unset, .unset, .unset, .unset, .unset, .unset] [(.int (2 : Int32)), (.int (lim - at1))])) _
                    refine XS.icmpYes X0.here hx rfl (pc0 := 4) (pc' := 11) rfl (hb hby d1_4) rfl (flt hc4).2.1 (by decide) (by decide) ?_
                    show Steps p.tables e below (s₁.setTop (mkF m 11 #[.val (.ref o1), .val (.int at1), .val (.int lim), .unset, .unset, .unset, .unset, .unset, .unset] [])) _
                    refine XS.aloadN X0.here hx rfl (hb hby d1_11) rfl rfl ?_
                    show Steps p.tables e below (s₁.setTop (mkF m 12 #[.val (.ref o1), .val (.int at1), .val (.int lim), .unset, .unset, .unset, .unset, .unset, .unset] [(.ref o1)])) _
                    refine XS.iloadN X0.here hx rfl (hb hby d1_12) rfl ?_
                    show Steps p.tables e below (s₁.setTop (mkF m 13 #[.val (.ref o1), .val (.int at1), .val (.int lim), .unset, .unset, .unset, .unset, .unset, .unset] [(.int at1), (.ref o1)])) _
                    refine X0.baloadBytes hx (j := at1) (v := (.int (bb 0))) (by rw [e0]; exact Ar.1) (State.isArrayOf_alike hZ.alike Ar.2.1) Ar.2.2 PB1.1 PB1.2 (g := (mkF m 13 #[.val (.ref o1), .val (.int at1), .val (.int lim), .unset, .unset, .unset, .unset, .unset, .unset] [(.int at1), (.ref o1)])) rfl rfl (hb hby d1_13) _ ?_
                    show Steps p.tables e below (s₁.setTop (mkF m 14 #[.val (.ref o1), .val (.int at1), .val (.int lim), .unset, .unset, .unset, .unset, .unset, .unset] [(.int (bb 0))])) _
                    refine XS.sipush X0.here hx rfl (hb hby d1_14) ?_
                    show Steps p.tables e below (s₁.setTop (mkF m 17 #[.val (.ref o1), .val (.int at1), .val (.int lim), .unset, .unset, .unset, .unset, .unset, .unset] [(.int (255 : Int32)), (.int (bb 0))])) _
                    refine XS.iand X0.here hx rfl (hb hby d1_17) rfl ?_
                    show Steps p.tables e below (s₁.setTop (mkF m 18 #[.val (.ref o1), .val (.int at1), .val (.int lim), .unset, .unset, .unset, .unset, .unset, .unset] [(.int ((bb 0) &&& (255 : Int32)))])) _
                    refine XS.istoreN X0.here hx rfl (hb hby d1_18) rfl (l' := #[.val (.ref o1), .val (.int at1), .val (.int lim), .val (.int ((bb 0) &&& (255 : Int32))), .unset, .unset, .unset, .unset, .unset]) rfl ?_
                    show Steps p.tables e below (s₁.setTop (mkF m 19 #[.val (.ref o1), .val (.int at1), .val (.int lim), .val (.int ((bb 0) &&& (255 : Int32))), .unset, .unset, .unset, .unset, .unset] [])) _
                    rw [← hidv]
                    show Steps p.tables e below (s₁.setTop (mkF m 19 #[.val (.ref o1), .val (.int at1), .val (.int lim), .val (.int idv), .unset, .unset, .unset, .unset, .unset] [])) _
                    refine XS.iloadN X0.here hx rfl (hb hby d1_19) rfl ?_
                    show Steps p.tables e below (s₁.setTop (mkF m 20 #[.val (.ref o1), .val (.int at1), .val (.int lim), .val (.int idv), .unset, .unset, .unset, .unset, .unset] [(.int idv)])) _
                    refine XS.bipush X0.here hx rfl (hb hby d1_20) ?_
                    show Steps p.tables e below (s₁.setTop (mkF m 22 #[.val (.ref o1), .val (.int at1), .val (.int lim), .val (.int idv), .unset, .unset, .unset, .unset, .unset] [(.int (31 : Int32)), (.int idv)])) _
                    refine XS.iand X0.here hx rfl (hb hby d1_22) rfl ?_
                    show Steps p.tables e below (s₁.setTop (mkF m 23 #[.val (.ref o1), .val (.int at1), .val (.int lim), .val (.int idv), .unset, .unset, .unset, .unset, .unset] [(.int (idv &&& (31 : Int32)))])) _
                    refine XS.bipush X0.here hx rfl (hb hby d1_23) ?_
                    show Steps p.tables e below (s₁.setTop (mkF m 25 #[.val (.ref o1), .val (.int at1), .val (.int lim), .val (.int idv), .unset, .unset, .unset, .unset, .unset] [(.int (31 : Int32)), (.int (idv &&& (31 : Int32)))])) _
                    refine XS.icmpNo X0.here hx rfl (hb hby d1_25) rfl (feq hc25).1 ?_
                    show Steps p.tables e below (s₁.setTop (mkF m 28 #[.val (.ref o1), .val (.int at1), .val (.int lim), .val (.int idv), .unset, .unset, .unset, .unset, .unset] [])) _
                    refine XS.iloadN X0.here hx rfl (hb hby d1_28) rfl ?_
                    show Steps p.tables e below (s₁.setTop (mkF m 29 #[.val (.ref o1), .val (.int at1), .val (.int lim), .val (.int idv), .unset, .unset, .unset, .unset, .unset] [(.int idv)])) _
                    refine XS.sipush X0.here hx rfl (hb hby d1_29) ?_
                    show Steps p.tables e below (s₁.setTop (mkF m 32 #[.val (.ref o1), .val (.int at1), .val (.int lim), .val (.int idv), .unset, .unset, .unset, .unset, .unset] [(.int (223 : Int32)), (.int idv)])) _
                    refine XS.iand X0.here hx rfl (hb hby d1_32) rfl ?_
                    show Steps p.tables e below (s₁.setTop (mkF m 33 #[.val (.ref o1), .val (.int at1), .val (.int lim), .val (.int idv), .unset, .unset, .unset, .unset, .unset] [(.int (idv &&& (223 : Int32)))])) _
                    refine XS.ifYes X0.here hx rfl (pc0 := 33) (pc' := 40) rfl (hb hby d1_33) rfl ((if0 _ _).trans (feq hc33).2) (by decide) (by decide) ?_
                    show Steps p.tables e below (s₁.setTop (mkF m 40 #[.val (.ref o1), .val (.int at1), .val (.int lim), .val (.int idv), .unset, .unset, .unset, .unset, .unset] [])) _
                    refine XS.aloadN X0.here hx rfl (hb hby d1_40) rfl rfl ?_
                    show Steps p.tables e below (s₁.setTop (mkF m 41 #[.val (.ref o1), .val (.int at1), .val (.int lim), .val (.int idv), .unset, .unset, .unset, .unset, .unset] [(.ref o1)])) _
                    refine XS.iloadN X0.here hx rfl (hb hby d1_41) rfl ?_
                    show Steps p.tables e below (s₁.setTop (mkF m 42 #[.val (.ref o1), .val (.int at1), .val (.int lim), .val (.int idv), .unset, .unset, .unset, .unset, .unset] [(.int at1), (.ref o1)])) _
                    refine XS.iconst X0.here hx rfl (hb hby d1_42) ?_
                    show Steps p.tables e below (s₁.setTop (mkF m 43 #[.val (.ref o1), .val (.int at1), .val (.int lim), .val (.int idv), .unset, .unset, .unset, .unset, .unset] [(.int (1 : Int32)), (.int at1), (.ref o1)])) _
                    refine XS.iadd X0.here hx rfl (hb hby d1_43) rfl ?_
                    show Steps p.tables e below (s₁.setTop (mkF m 44 #[.val (.ref o1), .val (.int at1), .val (.int lim), .val (.int idv), .unset, .unset, .unset, .unset, .unset] [(.int (at1 + (1 : Int32))), (.ref o1)])) _
                    refine X0.baloadBytes hx (j := (at1 + (1 : Int32))) (v := (.int (bb 1))) (by rw [e0]; exact Ar.1) (State.isArrayOf_alike hZ.alike Ar.2.1) Ar.2.2 PB2.1 PB2.2 (g := (mkF m 44 #[.val (.ref o1), .val (.int at1), .val (.int lim), .val (.int idv), .unset, .unset, .unset, .unset, .unset] [(.int (at1 + (1 : Int32))), (.ref o1)])) rfl rfl (hb hby d1_44) _ ?_
                    show Steps p.tables e below (s₁.setTop (mkF m 45 #[.val (.ref o1), .val (.int at1), .val (.int lim), .val (.int idv), .unset, .unset, .unset, .unset, .unset] [(.int (bb 1))])) _
                    refine XS.sipush X0.here hx rfl (hb hby d1_45) ?_
                    show Steps p.tables e below (s₁.setTop (mkF m 48 #[.val (.ref o1), .val (.int at1), .val (.int lim), .val (.int idv), .unset, .unset, .unset, .unset, .unset] [(.int (255 : Int32)), (.int (bb 1))])) _
                    refine XS.iand X0.here hx rfl (hb hby d1_48) rfl ?_
                    show Steps p.tables e below (s₁.setTop (mkF m 49 #[.val (.ref o1), .val (.int at1), .val (.int lim), .val (.int idv), .unset, .unset, .unset, .unset, .unset] [(.int ((bb 1) &&& (255 : Int32)))])) _
                    refine XS.istore X0.here hx rfl (hb hby d1_49) rfl (l' := #[.val (.ref o1), .val (.int at1), .val (.int lim), .val (.int idv), .val (.int ((bb 1) &&& (255 : Int32))), .unset, .unset, .unset, .unset]) rfl ?_
                    show Steps p.tables e below (s₁.setTop (mkF m 51 #[.val (.ref o1), .val (.int at1), .val (.int lim), .val (.int idv), .val (.int ((bb 1) &&& (255 : Int32))), .unset, .unset, .unset, .unset] [])) _
                    rw [← hfiv]
                    show Steps p.tables e below (s₁.setTop (mkF m 51 #[.val (.ref o1), .val (.int at1), .val (.int lim), .val (.int idv), .val (.int fiv), .unset, .unset, .unset, .unset] [])) _
                    refine XS.iconst X0.here hx rfl (hb hby d1_51) ?_
                    show Steps p.tables e below (s₁.setTop (mkF m 52 #[.val (.ref o1), .val (.int at1), .val (.int lim), .val (.int idv), .val (.int fiv), .unset, .unset, .unset, .unset] [(.int (2 : Int32))])) _
                    refine XS.istore X0.here hx rfl (hb hby d1_52) rfl (l' := #[.val (.ref o1), .val (.int at1), .val (.int lim), .val (.int idv), .val (.int fiv), .val (.int (2 : Int32)), .unset, .unset, .unset]) rfl ?_
                    show Steps p.tables e below (s₁.setTop (mkF m 54 #[.val (.ref o1), .val (.int at1), .val (.int lim), .val (.int idv), .val (.int fiv), .val (.int (2 : Int32)), .unset, .unset, .unset] [])) _
                    refine XS.iload X0.here hx rfl (hb hby d1_54) rfl ?_
                    show Steps p.tables e below (s₁.setTop (mkF m 56 #[.val (.ref o1), .val (.int at1), .val (.int lim), .val (.int idv), .val (.int fiv), .val (.int (2 : Int32)), .unset, .unset, .unset] [(.int fiv)])) _
                    refine XS.istore X0.here hx rfl (hb hby d1_56) rfl (l' := #[.val (.ref o1), .val (.int at1), .val (.int lim), .val (.int idv), .val (.int fiv), .val (.int (2 : Int32)), .val (.int fiv), .unset, .unset]) rfl ?_
                    show Steps p.tables e below (s₁.setTop (mkF m 58 #[.val (.ref o1), .val (.int at1), .val (.int lim), .val (.int idv), .val (.int fiv), .val (.int (2 : Int32)), .val (.int fiv), .unset, .unset] [])) _
                    refine XS.iload X0.here hx rfl (hb hby d1_58) rfl ?_
                    show Steps p.tables e below (s₁.setTop (mkF m 60 #[.val (.ref o1), .val (.int at1), .val (.int lim), .val (.int idv), .val (.int fiv), .val (.int (2 : Int32)), .val (.int fiv), .unset, .unset] [(.int fiv)])) _
                    refine XS.sipush X0.here hx rfl (hb hby d1_60) ?_
                    show Steps p.tables e below (s₁.setTop (mkF m 63 #[.val (.ref o1), .val (.int at1), .val (.int lim), .val (.int idv), .val (.int fiv), .val (.int (2 : Int32)), .val (.int fiv), .unset, .unset] [(.int (128 : Int32)), (.int fiv)])) _
                    refine XS.icmpNo X0.here hx rfl (hb hby d1_63) rfl (flt hc63).1 ?_
                    show Steps p.tables e below (s₁.setTop (mkF m 66 #[.val (.ref o1), .val (.int at1), .val (.int lim), .val (.int idv), .val (.int fiv), .val (.int (2 : Int32)), .val (.int fiv), .unset, .unset] [])) _
                    refine XS.iload X0.here hx rfl (hb hby d1_66) rfl ?_
                    show Steps p.tables e below (s₁.setTop (mkF m 68 #[.val (.ref o1), .val (.int at1), .val (.int lim), .val (.int idv), .val (.int fiv), .val (.int (2 : Int32)), .val (.int fiv), .unset, .unset] [(.int fiv)])) _
                    refine XS.bipush X0.here hx rfl (hb hby d1_68) ?_
                    show Steps p.tables e below (s₁.setTop (mkF m 70 #[.val (.ref o1), .val (.int at1), .val (.int lim), .val (.int idv), .val (.int fiv), .val (.int (2 : Int32)), .val (.int fiv), .unset, .unset] [(.int (127 : Int32)), (.int fiv)])) _
                    refine XS.iand X0.here hx rfl (hb hby d1_70) rfl ?_
                    show Steps p.tables e below (s₁.setTop (mkF m 71 #[.val (.ref o1), .val (.int at1), .val (.int lim), .val (.int idv), .val (.int fiv), .val (.int (2 : Int32)), .val (.int fiv), .unset, .unset] [(.int (fiv &&& (127 : Int32)))])) _
                    refine XS.istore X0.here hx rfl (hb hby d1_71) rfl (l' := #[.val (.ref o1), .val (.int at1), .val (.int lim), .val (.int idv), .val (.int fiv), .val (.int (2 : Int32)), .val (.int fiv), .val (.int (fiv &&& (127 : Int32))), .unset]) rfl ?_
                    show Steps p.tables e below (s₁.setTop (mkF m 73 #[.val (.ref o1), .val (.int at1), .val (.int lim), .val (.int idv), .val (.int fiv), .val (.int (2 : Int32)), .val (.int fiv), .val (.int (fiv &&& (127 : Int32))), .unset] [])) _
                    rw [← hnnv]
                    show Steps p.tables e below (s₁.setTop (mkF m 73 #[.val (.ref o1), .val (.int at1), .val (.int lim), .val (.int idv), .val (.int fiv), .val (.int (2 : Int32)), .val (.int fiv), .val (.int nnv), .unset] [])) _
                    refine XS.iload X0.here hx rfl (hb hby d1_73) rfl ?_
                    show Steps p.tables e below (s₁.setTop (mkF m 75 #[.val (.ref o1), .val (.int at1), .val (.int lim), .val (.int idv), .val (.int fiv), .val (.int (2 : Int32)), .val (.int fiv), .val (.int nnv), .unset] [(.int nnv)])) _
                    refine XS.ifNo X0.here hx rfl (hb hby d1_75) rfl ((if0 _ _).trans (feq hc75).1) ?_
                    show Steps p.tables e below (s₁.setTop (mkF m 78 #[.val (.ref o1), .val (.int at1), .val (.int lim), .val (.int idv), .val (.int fiv), .val (.int (2 : Int32)), .val (.int fiv), .val (.int nnv), .unset] [])) _
                    refine XS.iload X0.here hx rfl (hb hby d1_78) rfl ?_
                    show Steps p.tables e below (s₁.setTop (mkF m 80 #[.val (.ref o1), .val (.int at1), .val (.int lim), .val (.int idv), .val (.int fiv), .val (.int (2 : Int32)), .val (.int fiv), .val (.int nnv), .unset] [(.int nnv)])) _
                    refine XS.iconst X0.here hx rfl (hb hby d1_80) ?_
                    show Steps p.tables e below (s₁.setTop (mkF m 81 #[.val (.ref o1), .val (.int at1), .val (.int lim), .val (.int idv), .val (.int fiv), .val (.int (2 : Int32)), .val (.int fiv), .val (.int nnv), .unset] [(.int (4 : Int32)), (.int nnv)])) _
                    refine XS.icmpNo X0.here hx rfl (hb hby d1_81) rfl (flt hc81).2.2.1 ?_
                    show Steps p.tables e below (s₁.setTop (mkF m 84 #[.val (.ref o1), .val (.int at1), .val (.int lim), .val (.int idv), .val (.int fiv), .val (.int (2 : Int32)), .val (.int fiv), .val (.int nnv), .unset] [])) _
                    refine XS.iload X0.here hx rfl (hb hby d1_84) rfl ?_
                    show Steps p.tables e below (s₁.setTop (mkF m 86 #[.val (.ref o1), .val (.int at1), .val (.int lim), .val (.int idv), .val (.int fiv), .val (.int (2 : Int32)), .val (.int fiv), .val (.int nnv), .unset] [(.int nnv)])) _
                    refine XS.iloadN X0.here hx rfl (hb hby d1_86) rfl ?_
                    show Steps p.tables e below (s₁.setTop (mkF m 87 #[.val (.ref o1), .val (.int at1), .val (.int lim), .val (.int idv), .val (.int fiv), .val (.int (2 : Int32)), .val (.int fiv), .val (.int nnv), .unset] [(.int lim), (.int nnv)])) _
                    refine XS.iloadN X0.here hx rfl (hb hby d1_87) rfl ?_
                    show Steps p.tables e below (s₁.setTop (mkF m 88 #[.val (.ref o1), .val (.int at1), .val (.int lim), .val (.int idv), .val (.int fiv), .val (.int (2 : Int32)), .val (.int fiv), .val (.int nnv), .unset] [(.int at1), (.int lim), (.int nnv)])) _
                    refine XS.isub X0.here hx rfl (hb hby d1_88) rfl ?_
                    show Steps p.tables e below (s₁.setTop (mkF m 89 #[.val (.ref o1), .val (.int at1), .val (.int lim), .val (.int idv), .val (.int fiv), .val (.int (2 : Int32)), .val (.int fiv), .val (.int nnv), .unset] [(.int (lim - at1)), (.int nnv)])) _
                    refine XS.iconst X0.here hx rfl (hb hby d1_89) ?_
                    show Steps p.tables e below (s₁.setTop (mkF m 90 #[.val (.ref o1), .val (.int at1), .val (.int lim), .val (.int idv), .val (.int fiv), .val (.int (2 : Int32)), .val (.int fiv), .val (.int nnv), .unset] [(.int (2 : Int32)), (.int (lim - at1)), (.int nnv)])) _
                    refine XS.isub X0.here hx rfl (hb hby d1_90) rfl ?_
                    show Steps p.tables e below (s₁.setTop (mkF m 91 #[.val (.ref o1), .val (.int at1), .val (.int lim), .val (.int idv), .val (.int fiv), .val (.int (2 : Int32)), .val (.int fiv), .val (.int nnv), .unset] [(.int ((lim - at1) - (2 : Int32))), (.int nnv)])) _
                    refine XS.icmpYes X0.here hx rfl (pc0 := 91) (pc' := 98) rfl (hb hby d1_91) rfl (flt hc91).2.2.2 (by decide) (by decide) ?_
                    show Steps p.tables e below (s₁.setTop (mkF m 98 #[.val (.ref o1), .val (.int at1), .val (.int lim), .val (.int idv), .val (.int fiv), .val (.int (2 : Int32)), .val (.int fiv), .val (.int nnv), .unset] [])) _
                    refine lp_98 bb (o1) (at1) (.val (.int lim)) (.val (.int idv)) (.val (.int fiv)) (.val (.int (2 : Int32))) (fiv) (nnv) v0_98 hv0_98 v1_98 hv1_98 X0 hx hZ hw hby hown h0 e0 cl Ar H7 PB (own_pos hfiv hnnv hc75) hc81 ?_
                    show Steps p.tables e below (s₁.setTop (mkF m 137 #[.val (.ref o1), .val (.int at1), .val (.int lim), .val (.int idv), .val (.int fiv), .val (.int (2 : Int32)), .val (.int v0_98), .val (.int nnv), .val (.int v1_98)] [])) _
                    refine XS.iload X0.here hx rfl (hb hby d1_137) rfl ?_
                    show Steps p.tables e below (s₁.setTop (mkF m 139 #[.val (.ref o1), .val (.int at1), .val (.int lim), .val (.int idv), .val (.int fiv), .val (.int (2 : Int32)), .val (.int v0_98), .val (.int nnv), .val (.int v1_98)] [(.int (2 : Int32))])) _
                    refine XS.iload X0.here hx rfl (hb hby d1_139) rfl ?_
                    show Steps p.tables e below (s₁.setTop (mkF m 141 #[.val (.ref o1), .val (.int at1), .val (.int lim), .val (.int idv), .val (.int fiv), .val (.int (2 : Int32)), .val (.int v0_98), .val (.int nnv), .val (.int v1_98)] [(.int nnv), (.int (2 : Int32))])) _
                    refine XS.iadd X0.here hx rfl (hb hby d1_141) rfl ?_
                    show Steps p.tables e below (s₁.setTop (mkF m 142 #[.val (.ref o1), .val (.int at1), .val (.int lim), .val (.int idv), .val (.int fiv), .val (.int (2 : Int32)), .val (.int v0_98), .val (.int nnv), .val (.int v1_98)] [(.int ((2 : Int32) + nnv))])) _
                    refine XS.istore X0.here hx rfl (hb hby d1_142) rfl (l' := #[.val (.ref o1), .val (.int at1), .val (.int lim), .val (.int idv), .val (.int fiv), .val (.int ((2 : Int32) + nnv)), .val (.int v0_98), .val (.int nnv), .val (.int v1_98)]) rfl ?_
                    show Steps p.tables e below (s₁.setTop (mkF m 144 #[.val (.ref o1), .val (.int at1), .val (.int lim), .val (.int idv), .val (.int fiv), .val (.int ((2 : Int32) + nnv)), .val (.int v0_98), .val (.int nnv), .val (.int v1_98)] [])) _
                    refine XS.iload X0.here hx rfl (hb hby d1_144) rfl ?_
                    show Steps p.tables e below (s₁.setTop (mkF m 146 #[.val (.ref o1), .val (.int at1), .val (.int lim), .val (.int idv), .val (.int fiv), .val (.int ((2 : Int32) + nnv)), .val (.int v0_98), .val (.int nnv), .val (.int v1_98)] [(.int v0_98)])) _
                    refine XS.ifNo X0.here hx rfl (hb hby d1_146) rfl ((if0 _ _).trans (tlt hc146).2.1) ?_
                    show Steps p.tables e below (s₁.setTop (mkF m 149 #[.val (.ref o1), .val (.int at1), .val (.int lim), .val (.int idv), .val (.int fiv), .val (.int ((2 : Int32) + nnv)), .val (.int v0_98), .val (.int nnv), .val (.int v1_98)] [])) _
                    refine X0.ldc2Long hx hown (mvT hZ (hw _ (List.mem_of_getElem? (i := 6) rfl))) (g := (mkF m 149 #[.val (.ref o1), .val (.int at1), .val (.int lim), .val (.int idv), .val (.int fiv), .val (.int ((2 : Int32) + nnv)), .val (.int v0_98), .val (.int nnv), .val (.int v1_98)] [])) rfl (hb hby d1_149) _ ?_
                    show Steps p.tables e below (s₁.setTop (mkF m 152 #[.val (.ref o1), .val (.int at1), .val (.int lim), .val (.int idv), .val (.int fiv), .val (.int ((2 : Int32) + nnv)), .val (.int v0_98), .val (.int nnv), .val (.int v1_98)] [(.long (-1 : Int64))])) _
                    exact X0.lreturnOut hx Bd.returns (hb hby d1_152) hr
                  · show Q1 at1 lim bb h0 n0 _ s₁.heap _
                    rw [e0]
                    exact ⟨(by subst hv0_98; subst hnnv; subst hfiv; subst hidv; simp only [own_ph, own_pm, own_fin, own_pack, if_neg hc4, if_neg hc25, if_neg hc33, if_neg hc63, if_neg hc75, if_neg hc81, if_neg hc91, if_pos hc146]), N0, rfl⟩
                ·
                  by_cases hc161 : ((lim - at1) - ((2 : Int32) + nnv)) < v0_98
                  ·
                    obtain ⟨fs, hr, hrun, hended, hW, hsame⟩ := X0.leave (v := some (.long (-1 : Int64))) (fun h => by rw [Bd.returns] at h; cases h)
                    refine ⟨_, _, pre0 _ ?_, hrun, hended, _, _, rfl, ?_, ⟨_, rfl⟩, hW, hsame.mono (by decide) (by decide)⟩
                    · show Steps p.tables e below (s₁.setTop (mkF m 0 #[.val (.ref o1), .val (.int at1), .val (.int lim), .unset, .unset, .unset, .unset, .unset, .unset] [])) _
                      refine XS.iloadN X0.here hx rfl (hb hby d1_0) rfl ?_
                      show Steps p.tables e below (s₁.setTop (mkF m 1 #[.val (.ref o1), .val (.int at1), .val (.int lim), .unset, .unset, .unset, .unset, .unset, .unset] [(.int lim)])) _
                      refine XS.iloadN X0.here hx rfl (hb hby d1_1) rfl ?_
                      show Steps p.tables e below (s₁.setTop (mkF m 2 #[.val (.ref o1), .val (.int at1), .val (.int lim), .unset, .unset, .unset, .unset, .unset, .unset] [(.int at1), (.int lim)])) _
                      refine XS.isub X0.here hx rfl (hb hby d1_2) rfl ?_
                      show Steps p.tables e below (s₁.setTop (mkF m 3 #[.val (.ref o1), .val (.int at1), .val (.int lim), .unset, .unset, .unset, .unset, .unset, .unset] [(.int (lim - at1))])) _
                      refine XS.iconst X0.here hx rfl (hb hby d1_3) ?_
                      show Steps p.tables e below (s₁.setTop (mkF m 4 #[.val (.ref o1), .val (.int at1), .val (.int lim), .unset, .unset, .unset, .unset, .unset, .unset] [(.int (2 : Int32)), (.int (lim - at1))])) _
                      refine XS.icmpYes X0.here hx rfl (pc0 := 4) (pc' := 11) rfl (hb hby d1_4) rfl (flt hc4).2.1 (by decide) (by decide) ?_
                      show Steps p.tables e below (s₁.setTop (mkF m 11 #[.val (.ref o1), .val (.int at1), .val (.int lim), .unset, .unset, .unset, .unset, .unset, .unset] [])) _
                      refine XS.aloadN X0.here hx rfl (hb hby d1_11) rfl rfl ?_
                      show Steps p.tables e below (s₁.setTop (mkF m 12 #[.val (.ref o1), .val (.int at1), .val (.int lim), .unset, .unset, .unset, .unset, .unset, .unset] [(.ref o1)])) _
                      refine XS.iloadN X0.here hx rfl (hb hby d1_12) rfl ?_
                      show Steps p.tables e below (s₁.setTop (mkF m 13 #[.val (.ref o1), .val (.int at1), .val (.int lim), .unset, .unset, .unset, .unset, .unset, .unset] [(.int at1), (.ref o1)])) _
                      refine X0.baloadBytes hx (j := at1) (v := (.int (bb 0))) (by rw [e0]; exact Ar.1) (State.isArrayOf_alike hZ.alike Ar.2.1) Ar.2.2 PB1.1 PB1.2 (g := (mkF m 13 #[.val (.ref o1), .val (.int at1), .val (.int lim), .unset, .unset, .unset, .unset, .unset, .unset] [(.int at1), (.ref o1)])) rfl rfl (hb hby d1_13) _ ?_
                      show Steps p.tables e below (s₁.setTop (mkF m 14 #[.val (.ref o1), .val (.int at1), .val (.int lim), .unset, .unset, .unset, .unset, .unset, .unset] [(.int (bb 0))])) _
                      refine XS.sipush X0.here hx rfl (hb hby d1_14) ?_
                      show Steps p.tables e below (s₁.setTop (mkF m 17 #[.val (.ref o1), .val (.int at1), .val (.int lim), .unset, .unset, .unset, .unset, .unset, .unset] [(.int (255 : Int32)), (.int (bb 0))])) _
                      refine XS.iand X0.here hx rfl (hb hby d1_17) rfl ?_
                      show Steps p.tables e below (s₁.setTop (mkF m 18 #[.val (.ref o1), .val (.int at1), .val (.int lim), .unset, .unset, .unset, .unset, .unset, .unset] [(.int ((bb 0) &&& (255 : Int32)))])) _
                      refine XS.istoreN X0.here hx rfl (hb hby d1_18) rfl (l' := #[.val (.ref o1), .val (.int at1), .val (.int lim), .val (.int ((bb 0) &&& (255 : Int32))), .unset, .unset, .unset, .unset, .unset]) rfl ?_
                      show Steps p.tables e below (s₁.setTop (mkF m 19 #[.val (.ref o1), .val (.int at1), .val (.int lim), .val (.int ((bb 0) &&& (255 : Int32))), .unset, .unset, .unset, .unset, .unset] [])) _
                      rw [← hidv]
                      show Steps p.tables e below (s₁.setTop (mkF m 19 #[.val (.ref o1), .val (.int at1), .val (.int lim), .val (.int idv), .unset, .unset, .unset, .unset, .unset] [])) _
                      refine XS.iloadN X0.here hx rfl (hb hby d1_19) rfl ?_
                      show Steps p.tables e below (s₁.setTop (mkF m 20 #[.val (.ref o1), .val (.int at1), .val (.int lim), .val (.int idv), .unset, .unset, .unset, .unset, .unset] [(.int idv)])) _
                      refine XS.bipush X0.here hx rfl (hb hby d1_20) ?_
                      show Steps p.tables e below (s₁.setTop (mkF m 22 #[.val (.ref o1), .val (.int at1), .val (.int lim), .val (.int idv), .unset, .unset, .unset, .unset, .unset] [(.int (31 : Int32)), (.int idv)])) _
                      refine XS.iand X0.here hx rfl (hb hby d1_22) rfl ?_
                      show Steps p.tables e below (s₁.setTop (mkF m 23 #[.val (.ref o1), .val (.int at1), .val (.int lim), .val (.int idv), .unset, .unset, .unset, .unset, .unset] [(.int (idv &&& (31 : Int32)))])) _
                      refine XS.bipush X0.here hx rfl (hb hby d1_23) ?_
                      show Steps p.tables e below (s₁.setTop (mkF m 25 #[.val (.ref o1), .val (.int at1), .val (.int lim), .val (.int idv), .unset, .unset, .unset, .unset, .unset] [(.int (31 : Int32)), (.int (idv &&& (31 : Int32)))])) _
                      refine XS.icmpNo X0.here hx rfl (hb hby d1_25) rfl (feq hc25).1 ?_
                      show Steps p.tables e below (s₁.setTop (mkF m 28 #[.val (.ref o1), .val (.int at1), .val (.int lim), .val (.int idv), .unset, .unset, .unset, .unset, .unset] [])) _
                      refine XS.iloadN X0.here hx rfl (hb hby d1_28) rfl ?_
                      show Steps p.tables e below (s₁.setTop (mkF m 29 #[.val (.ref o1), .val (.int at1), .val (.int lim), .val (.int idv), .unset, .unset, .unset, .unset, .unset] [(.int idv)])) _
                      refine XS.sipush X0.here hx rfl (hb hby d1_29) ?_
                      show Steps p.tables e below (s₁.setTop (mkF m 32 #[.val (.ref o1), .val (.int at1), .val (.int lim), .val (.int idv), .unset, .unset, .unset, .unset, .unset] [(.int (223 : Int32)), (.int idv)])) _
                      refine XS.iand X0.here hx rfl (hb hby d1_32) rfl ?_
                      show Steps p.tables e below (s₁.setTop (mkF m 33 #[.val (.ref o1), .val (.int at1), .val (.int lim), .val (.int idv), .unset, .unset, .unset, .unset, .unset] [(.int (idv &&& (223 : Int32)))])) _
                      refine XS.ifYes X0.here hx rfl (pc0 := 33) (pc' := 40) rfl (hb hby d1_33) rfl ((if0 _ _).trans (feq hc33).2) (by decide) (by decide) ?_
                      show Steps p.tables e below (s₁.setTop (mkF m 40 #[.val (.ref o1), .val (.int at1), .val (.int lim), .val (.int idv), .unset, .unset, .unset, .unset, .unset] [])) _
                      refine XS.aloadN X0.here hx rfl (hb hby d1_40) rfl rfl ?_
                      show Steps p.tables e below (s₁.setTop (mkF m 41 #[.val (.ref o1), .val (.int at1), .val (.int lim), .val (.int idv), .unset, .unset, .unset, .unset, .unset] [(.ref o1)])) _
                      refine XS.iloadN X0.here hx rfl (hb hby d1_41) rfl ?_
                      show Steps p.tables e below (s₁.setTop (mkF m 42 #[.val (.ref o1), .val (.int at1), .val (.int lim), .val (.int idv), .unset, .unset, .unset, .unset, .unset] [(.int at1), (.ref o1)])) _
                      refine XS.iconst X0.here hx rfl (hb hby d1_42) ?_
                      show Steps p.tables e below (s₁.setTop (mkF m 43 #[.val (.ref o1), .val (.int at1), .val (.int lim), .val (.int idv), .unset, .unset, .unset, .unset, .unset] [(.int (1 : Int32)), (.int at1), (.ref o1)])) _
                      refine XS.iadd X0.here hx rfl (hb hby d1_43) rfl ?_
                      show Steps p.tables e below (s₁.setTop (mkF m 44 #[.val (.ref o1), .val (.int at1), .val (.int lim), .val (.int idv), .unset, .unset, .unset, .unset, .unset] [(.int (at1 + (1 : Int32))), (.ref o1)])) _
                      refine X0.baloadBytes hx (j := (at1 + (1 : Int32))) (v := (.int (bb 1))) (by rw [e0]; exact Ar.1) (State.isArrayOf_alike hZ.alike Ar.2.1) Ar.2.2 PB2.1 PB2.2 (g := (mkF m 44 #[.val (.ref o1), .val (.int at1), .val (.int lim), .val (.int idv), .unset, .unset, .unset, .unset, .unset] [(.int (at1 + (1 : Int32))), (.ref o1)])) rfl rfl (hb hby d1_44) _ ?_
                      show Steps p.tables e below (s₁.setTop (mkF m 45 #[.val (.ref o1), .val (.int at1), .val (.int lim), .val (.int idv), .unset, .unset, .unset, .unset, .unset] [(.int (bb 1))])) _
                      refine XS.sipush X0.here hx rfl (hb hby d1_45) ?_
                      show Steps p.tables e below (s₁.setTop (mkF m 48 #[.val (.ref o1), .val (.int at1), .val (.int lim), .val (.int idv), .unset, .unset, .unset, .unset, .unset] [(.int (255 : Int32)), (.int (bb 1))])) _
                      refine XS.iand X0.here hx rfl (hb hby d1_48) rfl ?_
                      show Steps p.tables e below (s₁.setTop (mkF m 49 #[.val (.ref o1), .val (.int at1), .val (.int lim), .val (.int idv), .unset, .unset, .unset, .unset, .unset] [(.int ((bb 1) &&& (255 : Int32)))])) _
                      refine XS.istore X0.here hx rfl (hb hby d1_49) rfl (l' := #[.val (.ref o1), .val (.int at1), .val (.int lim), .val (.int idv), .val (.int ((bb 1) &&& (255 : Int32))), .unset, .unset, .unset, .unset]) rfl ?_
                      show Steps p.tables e below (s₁.setTop (mkF m 51 #[.val (.ref o1), .val (.int at1), .val (.int lim), .val (.int idv), .val (.int ((bb 1) &&& (255 : Int32))), .unset, .unset, .unset, .unset] [])) _
                      rw [← hfiv]
                      show Steps p.tables e below (s₁.setTop (mkF m 51 #[.val (.ref o1), .val (.int at1), .val (.int lim), .val (.int idv), .val (.int fiv), .unset, .unset, .unset, .unset] [])) _
                      refine XS.iconst X0.here hx rfl (hb hby d1_51) ?_
                      show Steps p.tables e below (s₁.setTop (mkF m 52 #[.val (.ref o1), .val (.int at1), .val (.int lim), .val (.int idv), .val (.int fiv), .unset, .unset, .unset, .unset] [(.int (2 : Int32))])) _
                      refine XS.istore X0.here hx rfl (hb hby d1_52) rfl (l' := #[.val (.ref o1), .val (.int at1), .val (.int lim), .val (.int idv), .val (.int fiv), .val (.int (2 : Int32)), .unset, .unset, .unset]) rfl ?_
                      show Steps p.tables e below (s₁.setTop (mkF m 54 #[.val (.ref o1), .val (.int at1), .val (.int lim), .val (.int idv), .val (.int fiv), .val (.int (2 : Int32)), .unset, .unset, .unset] [])) _
                      refine XS.iload X0.here hx rfl (hb hby d1_54) rfl ?_
                      show Steps p.tables e below (s₁.setTop (mkF m 56 #[.val (.ref o1), .val (.int at1), .val (.int lim), .val (.int idv), .val (.int fiv), .val (.int (2 : Int32)), .unset, .unset, .unset] [(.int fiv)])) _
                      refine XS.istore X0.here hx rfl (hb hby d1_56) rfl (l' := #[.val (.ref o1), .val (.int at1), .val (.int lim), .val (.int idv), .val (.int fiv), .val (.int (2 : Int32)), .val (.int fiv), .unset, .unset]) rfl ?_
                      show Steps p.tables e below (s₁.setTop (mkF m 58 #[.val (.ref o1), .val (.int at1), .val (.int lim), .val (.int idv), .val (.int fiv), .val (.int (2 : Int32)), .val (.int fiv), .unset, .unset] [])) _
                      refine XS.iload X0.here hx rfl (hb hby d1_58) rfl ?_
                      show Steps p.tables e below (s₁.setTop (mkF m 60 #[.val (.ref o1), .val (.int at1), .val (.int lim), .val (.int idv), .val (.int fiv), .val (.int (2 : Int32)), .val (.int fiv), .unset, .unset] [(.int fiv)])) _
                      refine XS.sipush X0.here hx rfl (hb hby d1_60) ?_
                      show Steps p.tables e below (s₁.setTop (mkF m 63 #[.val (.ref o1), .val (.int at1), .val (.int lim), .val (.int idv), .val (.int fiv), .val (.int (2 : Int32)), .val (.int fiv), .unset, .unset] [(.int (128 : Int32)), (.int fiv)])) _
                      refine XS.icmpNo X0.here hx rfl (hb hby d1_63) rfl (flt hc63).1 ?_
                      show Steps p.tables e below (s₁.setTop (mkF m 66 #[.val (.ref o1), .val (.int at1), .val (.int lim), .val (.int idv), .val (.int fiv), .val (.int (2 : Int32)), .val (.int fiv), .unset, .unset] [])) _
                      refine XS.iload X0.here hx rfl (hb hby d1_66) rfl ?_
                      show Steps p.tables e below (s₁.setTop (mkF m 68 #[.val (.ref o1), .val (.int at1), .val (.int lim), .val (.int idv), .val (.int fiv), .val (.int (2 : Int32)), .val (.int fiv), .unset, .unset] [(.int fiv)])) _
                      refine XS.bipush X0.here hx rfl (hb hby d1_68) ?_
                      show Steps p.tables e below (s₁.setTop (mkF m 70 #[.val (.ref o1), .val (.int at1), .val (.int lim), .val (.int idv), .val (.int fiv), .val (.int (2 : Int32)), .val (.int fiv), .unset, .unset] [(.int (127 : Int32)), (.int fiv)])) _
                      refine XS.iand X0.here hx rfl (hb hby d1_70) rfl ?_
                      show Steps p.tables e below (s₁.setTop (mkF m 71 #[.val (.ref o1), .val (.int at1), .val (.int lim), .val (.int idv), .val (.int fiv), .val (.int (2 : Int32)), .val (.int fiv), .unset, .unset] [(.int (fiv &&& (127 : Int32)))])) _
                      refine XS.istore X0.here hx rfl (hb hby d1_71) rfl (l' := #[.val (.ref o1), .val (.int at1), .val (.int lim), .val (.int idv), .val (.int fiv), .val (.int (2 : Int32)), .val (.int fiv), .val (.int (fiv &&& (127 : Int32))), .unset]) rfl ?_
                      show Steps p.tables e below (s₁.setTop (mkF m 73 #[.val (.ref o1), .val (.int at1), .val (.int lim), .val (.int idv), .val (.int fiv), .val (.int (2 : Int32)), .val (.int fiv), .val (.int (fiv &&& (127 : Int32))), .unset] [])) _
                      rw [← hnnv]
                      show Steps p.tables e below (s₁.setTop (mkF m 73 #[.val (.ref o1), .val (.int at1), .val (.int lim), .val (.int idv), .val (.int fiv), .val (.int (2 : Int32)), .val (.int fiv), .val (.int nnv), .unset] [])) _
                      refine XS.iload X0.here hx rfl (hb hby d1_73) rfl ?_
                      show Steps p.tables e below (s₁.setTop (mkF m 75 #[.val (.ref o1), .val (.int at1), .val (.int lim), .val (.int idv), .val (.int fiv), .val (.int (2 : Int32)), .val (.int fiv), .val (.int nnv), .unset] [(.int nnv)])) _
                      refine XS.ifNo X0.here hx rfl (hb hby d1_75) rfl ((if0 _ _).trans (feq hc75).1) ?_
                      show Steps p.tables e below (s₁.setTop (mkF m 78 #[.val (.ref o1), .val (.int at1), .val (.int lim), .val (.int idv), .val (.int fiv), .val (.int (2 : Int32)), .val (.int fiv), .val (.int nnv), .unset] [])) _
                      refine XS.iload X0.here hx rfl (hb hby d1_78) rfl ?_
                      show Steps p.tables e below (s₁.setTop (mkF m 80 #[.val (.ref o1), .val (.int at1), .val (.int lim), .val (.int idv), .val (.int fiv), .val (.int (2 : Int32)), .val (.int fiv), .val (.int nnv), .unset] [(.int nnv)])) _
                      refine XS.iconst X0.here hx rfl (hb hby d1_80) ?_
                      show Steps p.tables e below (s₁.setTop (mkF m 81 #[.val (.ref o1), .val (.int at1), .val (.int lim), .val (.int idv), .val (.int fiv), .val (.int (2 : Int32)), .val (.int fiv), .val (.int nnv), .unset] [(.int (4 : Int32)), (.int nnv)])) _
                      refine XS.icmpNo X0.here hx rfl (hb hby d1_81) rfl (flt hc81).2.2.1 ?_
                      show Steps p.tables e below (s₁.setTop (mkF m 84 #[.val (.ref o1), .val (.int at1), .val (.int lim), .val (.int idv), .val (.int fiv), .val (.int (2 : Int32)), .val (.int fiv), .val (.int nnv), .unset] [])) _
                      refine XS.iload X0.here hx rfl (hb hby d1_84) rfl ?_
                      show Steps p.tables e below (s₁.setTop (mkF m 86 #[.val (.ref o1), .val (.int at1), .val (.int lim), .val (.int idv), .val (.int fiv), .val (.int (2 : Int32)), .val (.int fiv), .val (.int nnv), .unset] [(.int nnv)])) _
                      refine XS.iloadN X0.here hx rfl (hb hby d1_86) rfl ?_
                      show Steps p.tables e below (s₁.setTop (mkF m 87 #[.val (.ref o1), .val (.int at1), .val (.int lim), .val (.int idv), .val (.int fiv), .val (.int (2 : Int32)), .val (.int fiv), .val (.int nnv), .unset] [(.int lim), (.int nnv)])) _
                      refine XS.iloadN X0.here hx rfl (hb hby d1_87) rfl ?_
                      show Steps p.tables e below (s₁.setTop (mkF m 88 #[.val (.ref o1), .val (.int at1), .val (.int lim), .val (.int idv), .val (.int fiv), .val (.int (2 : Int32)), .val (.int fiv), .val (.int nnv), .unset] [(.int at1), (.int lim), (.int nnv)])) _
                      refine XS.isub X0.here hx rfl (hb hby d1_88) rfl ?_
                      show Steps p.tables e below (s₁.setTop (mkF m 89 #[.val (.ref o1), .val (.int at1), .val (.int lim), .val (.int idv), .val (.int fiv), .val (.int (2 : Int32)), .val (.int fiv), .val (.int nnv), .unset] [(.int (lim - at1)), (.int nnv)])) _
                      refine XS.iconst X0.here hx rfl (hb hby d1_89) ?_
                      show Steps p.tables e below (s₁.setTop (mkF m 90 #[.val (.ref o1), .val (.int at1), .val (.int lim), .val (.int idv), .val (.int fiv), .val (.int (2 : Int32)), .val (.int fiv), .val (.int nnv), .unset] [(.int (2 : Int32)), (.int (lim - at1)), (.int nnv)])) _
                      refine XS.isub X0.here hx rfl (hb hby d1_90) rfl ?_
                      show Steps p.tables e below (s₁.setTop (mkF m 91 #[.val (.ref o1), .val (.int at1), .val (.int lim), .val (.int idv), .val (.int fiv), .val (.int (2 : Int32)), .val (.int fiv), .val (.int nnv), .unset] [(.int ((lim - at1) - (2 : Int32))), (.int nnv)])) _
                      refine XS.icmpYes X0.here hx rfl (pc0 := 91) (pc' := 98) rfl (hb hby d1_91) rfl (flt hc91).2.2.2 (by decide) (by decide) ?_
                      show Steps p.tables e below (s₁.setTop (mkF m 98 #[.val (.ref o1), .val (.int at1), .val (.int lim), .val (.int idv), .val (.int fiv), .val (.int (2 : Int32)), .val (.int fiv), .val (.int nnv), .unset] [])) _
                      refine lp_98 bb (o1) (at1) (.val (.int lim)) (.val (.int idv)) (.val (.int fiv)) (.val (.int (2 : Int32))) (fiv) (nnv) v0_98 hv0_98 v1_98 hv1_98 X0 hx hZ hw hby hown h0 e0 cl Ar H7 PB (own_pos hfiv hnnv hc75) hc81 ?_
                      show Steps p.tables e below (s₁.setTop (mkF m 137 #[.val (.ref o1), .val (.int at1), .val (.int lim), .val (.int idv), .val (.int fiv), .val (.int (2 : Int32)), .val (.int v0_98), .val (.int nnv), .val (.int v1_98)] [])) _
                      refine XS.iload X0.here hx rfl (hb hby d1_137) rfl ?_
                      show Steps p.tables e below (s₁.setTop (mkF m 139 #[.val (.ref o1), .val (.int at1), .val (.int lim), .val (.int idv), .val (.int fiv), .val (.int (2 : Int32)), .val (.int v0_98), .val (.int nnv), .val (.int v1_98)] [(.int (2 : Int32))])) _
                      refine XS.iload X0.here hx rfl (hb hby d1_139) rfl ?_
                      show Steps p.tables e below (s₁.setTop (mkF m 141 #[.val (.ref o1), .val (.int at1), .val (.int lim), .val (.int idv), .val (.int fiv), .val (.int (2 : Int32)), .val (.int v0_98), .val (.int nnv), .val (.int v1_98)] [(.int nnv), (.int (2 : Int32))])) _
                      refine XS.iadd X0.here hx rfl (hb hby d1_141) rfl ?_
                      show Steps p.tables e below (s₁.setTop (mkF m 142 #[.val (.ref o1), .val (.int at1), .val (.int lim), .val (.int idv), .val (.int fiv), .val (.int (2 : Int32)), .val (.int v0_98), .val (.int nnv), .val (.int v1_98)] [(.int ((2 : Int32) + nnv))])) _
                      refine XS.istore X0.here hx rfl (hb hby d1_142) rfl (l' := #[.val (.ref o1), .val (.int at1), .val (.int lim), .val (.int idv), .val (.int fiv), .val (.int ((2 : Int32) + nnv)), .val (.int v0_98), .val (.int nnv), .val (.int v1_98)]) rfl ?_
                      show Steps p.tables e below (s₁.setTop (mkF m 144 #[.val (.ref o1), .val (.int at1), .val (.int lim), .val (.int idv), .val (.int fiv), .val (.int ((2 : Int32) + nnv)), .val (.int v0_98), .val (.int nnv), .val (.int v1_98)] [])) _
                      refine XS.iload X0.here hx rfl (hb hby d1_144) rfl ?_
                      show Steps p.tables e below (s₁.setTop (mkF m 146 #[.val (.ref o1), .val (.int at1), .val (.int lim), .val (.int idv), .val (.int fiv), .val (.int ((2 : Int32) + nnv)), .val (.int v0_98), .val (.int nnv), .val (.int v1_98)] [(.int v0_98)])) _
                      refine XS.ifYes X0.here hx rfl (pc0 := 146) (pc' := 153) rfl (hb hby d1_146) rfl ((if0 _ _).trans (flt hc146).2.1) (by decide) (by decide) ?_
                      show Steps p.tables e below (s₁.setTop (mkF m 153 #[.val (.ref o1), .val (.int at1), .val (.int lim), .val (.int idv), .val (.int fiv), .val (.int ((2 : Int32) + nnv)), .val (.int v0_98), .val (.int nnv), .val (.int v1_98)] [])) _
                      refine XS.iload X0.here hx rfl (hb hby d1_153) rfl ?_
                      show Steps p.tables e below (s₁.setTop (mkF m 155 #[.val (.ref o1), .val (.int at1), .val (.int lim), .val (.int idv), .val (.int fiv), .val (.int ((2 : Int32) + nnv)), .val (.int v0_98), .val (.int nnv), .val (.int v1_98)] [(.int v0_98)])) _
                      refine XS.iloadN X0.here hx rfl (hb hby d1_155) rfl ?_
                      show Steps p.tables e below (s₁.setTop (mkF m 156 #[.val (.ref o1), .val (.int at1), .val (.int lim), .val (.int idv), .val (.int fiv), .val (.int ((2 : Int32) + nnv)), .val (.int v0_98), .val (.int nnv), .val (.int v1_98)] [(.int lim), (.int v0_98)])) _
                      refine XS.iloadN X0.here hx rfl (hb hby d1_156) rfl ?_
                      show Steps p.tables e below (s₁.setTop (mkF m 157 #[.val (.ref o1), .val (.int at1), .val (.int lim), .val (.int idv), .val (.int fiv), .val (.int ((2 : Int32) + nnv)), .val (.int v0_98), .val (.int nnv), .val (.int v1_98)] [(.int at1), (.int lim), (.int v0_98)])) _
                      refine XS.isub X0.here hx rfl (hb hby d1_157) rfl ?_
                      show Steps p.tables e below (s₁.setTop (mkF m 158 #[.val (.ref o1), .val (.int at1), .val (.int lim), .val (.int idv), .val (.int fiv), .val (.int ((2 : Int32) + nnv)), .val (.int v0_98), .val (.int nnv), .val (.int v1_98)] [(.int (lim - at1)), (.int v0_98)])) _
                      refine XS.iload X0.here hx rfl (hb hby d1_158) rfl ?_
                      show Steps p.tables e below (s₁.setTop (mkF m 160 #[.val (.ref o1), .val (.int at1), .val (.int lim), .val (.int idv), .val (.int fiv), .val (.int ((2 : Int32) + nnv)), .val (.int v0_98), .val (.int nnv), .val (.int v1_98)] [(.int ((2 : Int32) + nnv)), (.int (lim - at1)), (.int v0_98)])) _
                      refine XS.isub X0.here hx rfl (hb hby d1_160) rfl ?_
                      show Steps p.tables e below (s₁.setTop (mkF m 161 #[.val (.ref o1), .val (.int at1), .val (.int lim), .val (.int idv), .val (.int fiv), .val (.int ((2 : Int32) + nnv)), .val (.int v0_98), .val (.int nnv), .val (.int v1_98)] [(.int ((lim - at1) - ((2 : Int32) + nnv))), (.int v0_98)])) _
                      refine XS.icmpNo X0.here hx rfl (hb hby d1_161) rfl (tlt hc161).2.2.2 ?_
                      show Steps p.tables e below (s₁.setTop (mkF m 164 #[.val (.ref o1), .val (.int at1), .val (.int lim), .val (.int idv), .val (.int fiv), .val (.int ((2 : Int32) + nnv)), .val (.int v0_98), .val (.int nnv), .val (.int v1_98)] [])) _
                      refine X0.ldc2Long hx hown (mvT hZ (hw _ (List.mem_of_getElem? (i := 6) rfl))) (g := (mkF m 164 #[.val (.ref o1), .val (.int at1), .val (.int lim), .val (.int idv), .val (.int fiv), .val (.int ((2 : Int32) + nnv)), .val (.int v0_98), .val (.int nnv), .val (.int v1_98)] [])) rfl (hb hby d1_164) _ ?_
                      show Steps p.tables e below (s₁.setTop (mkF m 167 #[.val (.ref o1), .val (.int at1), .val (.int lim), .val (.int idv), .val (.int fiv), .val (.int ((2 : Int32) + nnv)), .val (.int v0_98), .val (.int nnv), .val (.int v1_98)] [(.long (-1 : Int64))])) _
                      exact X0.lreturnOut hx Bd.returns (hb hby d1_167) hr
                    · show Q1 at1 lim bb h0 n0 _ s₁.heap _
                      rw [e0]
                      exact ⟨(by subst hv0_98; subst hnnv; subst hfiv; subst hidv; simp only [own_ph, own_pm, own_fin, own_pack, if_neg hc4, if_neg hc25, if_neg hc33, if_neg hc63, if_neg hc75, if_neg hc81, if_neg hc91, if_neg hc146, if_pos hc161]), N0, rfl⟩
                  ·
                    obtain ⟨fs, hr, hrun, hended, hW, hsame⟩ := X0.leave (v := some (.long ((((idv.toInt64) <<< ((40 : Int32) &&& 0x3f).toInt64) ||| ((((2 : Int32) + nnv).toInt64) <<< ((32 : Int32) &&& 0x3f).toInt64)) ||| ((v0_98.toInt64) &&& (4294967295 : Int64))))) (fun h => by rw [Bd.returns] at h; cases h)
                    refine ⟨_, _, pre0 _ ?_, hrun, hended, _, _, rfl, ?_, ⟨_, rfl⟩, hW, hsame.mono (by decide) (by decide)⟩
                    · show Steps p.tables e below (s₁.setTop (mkF m 0 #[.val (.ref o1), .val (.int at1), .val (.int lim), .unset, .unset, .unset, .unset, .unset, .unset] [])) _
                      refine XS.iloadN X0.here hx rfl (hb hby d1_0) rfl ?_
                      show Steps p.tables e below (s₁.setTop (mkF m 1 #[.val (.ref o1), .val (.int at1), .val (.int lim), .unset, .unset, .unset, .unset, .unset, .unset] [(.int lim)])) _
                      refine XS.iloadN X0.here hx rfl (hb hby d1_1) rfl ?_
                      show Steps p.tables e below (s₁.setTop (mkF m 2 #[.val (.ref o1), .val (.int at1), .val (.int lim), .unset, .unset, .unset, .unset, .unset, .unset] [(.int at1), (.int lim)])) _
                      refine XS.isub X0.here hx rfl (hb hby d1_2) rfl ?_
                      show Steps p.tables e below (s₁.setTop (mkF m 3 #[.val (.ref o1), .val (.int at1), .val (.int lim), .unset, .unset, .unset, .unset, .unset, .unset] [(.int (lim - at1))])) _
                      refine XS.iconst X0.here hx rfl (hb hby d1_3) ?_
                      show Steps p.tables e below (s₁.setTop (mkF m 4 #[.val (.ref o1), .val (.int at1), .val (.int lim), .unset, .unset, .unset, .unset, .unset, .unset] [(.int (2 : Int32)), (.int (lim - at1))])) _
                      refine XS.icmpYes X0.here hx rfl (pc0 := 4) (pc' := 11) rfl (hb hby d1_4) rfl (flt hc4).2.1 (by decide) (by decide) ?_
                      show Steps p.tables e below (s₁.setTop (mkF m 11 #[.val (.ref o1), .val (.int at1), .val (.int lim), .unset, .unset, .unset, .unset, .unset, .unset] [])) _
                      refine XS.aloadN X0.here hx rfl (hb hby d1_11) rfl rfl ?_
                      show Steps p.tables e below (s₁.setTop (mkF m 12 #[.val (.ref o1), .val (.int at1), .val (.int lim), .unset, .unset, .unset, .unset, .unset, .unset] [(.ref o1)])) _
                      refine XS.iloadN X0.here hx rfl (hb hby d1_12) rfl ?_
                      show Steps p.tables e below (s₁.setTop (mkF m 13 #[.val (.ref o1), .val (.int at1), .val (.int lim), .unset, .unset, .unset, .unset, .unset, .unset] [(.int at1), (.ref o1)])) _
                      refine X0.baloadBytes hx (j := at1) (v := (.int (bb 0))) (by rw [e0]; exact Ar.1) (State.isArrayOf_alike hZ.alike Ar.2.1) Ar.2.2 PB1.1 PB1.2 (g := (mkF m 13 #[.val (.ref o1), .val (.int at1), .val (.int lim), .unset, .unset, .unset, .unset, .unset, .unset] [(.int at1), (.ref o1)])) rfl rfl (hb hby d1_13) _ ?_
                      show Steps p.tables e below (s₁.setTop (mkF m 14 #[.val (.ref o1), .val (.int at1), .val (.int lim), .unset, .unset, .unset, .unset, .unset, .unset] [(.int (bb 0))])) _
                      refine XS.sipush X0.here hx rfl (hb hby d1_14) ?_
                      show Steps p.tables e below (s₁.setTop (mkF m 17 #[.val (.ref o1), .val (.int at1), .val (.int lim), .unset, .unset, .unset, .unset, .unset, .unset] [(.int (255 : Int32)), (.int (bb 0))])) _
                      refine XS.iand X0.here hx rfl (hb hby d1_17) rfl ?_
                      show Steps p.tables e below (s₁.setTop (mkF m 18 #[.val (.ref o1), .val (.int at1), .val (.int lim), .unset, .unset, .unset, .unset, .unset, .unset] [(.int ((bb 0) &&& (255 : Int32)))])) _
                      refine XS.istoreN X0.here hx rfl (hb hby d1_18) rfl (l' := #[.val (.ref o1), .val (.int at1), .val (.int lim), .val (.int ((bb 0) &&& (255 : Int32))), .unset, .unset, .unset, .unset, .unset]) rfl ?_
                      show Steps p.tables e below (s₁.setTop (mkF m 19 #[.val (.ref o1), .val (.int at1), .val (.int lim), .val (.int ((bb 0) &&& (255 : Int32))), .unset, .unset, .unset, .unset, .unset] [])) _
                      rw [← hidv]
                      show Steps p.tables e below (s₁.setTop (mkF m 19 #[.val (.ref o1), .val (.int at1), .val (.int lim), .val (.int idv), .unset, .unset, .unset, .unset, .unset] [])) _
                      refine XS.iloadN X0.here hx rfl (hb hby d1_19) rfl ?_
                      show Steps p.tables e below (s₁.setTop (mkF m 20 #[.val (.ref o1), .val (.int at1), .val (.int lim), .val (.int idv), .unset, .unset, .unset, .unset, .unset] [(.int idv)])) _
                      refine XS.bipush X0.here hx rfl (hb hby d1_20) ?_
                      show Steps p.tables e below (s₁.setTop (mkF m 22 #[.val (.ref o1), .val (.int at1), .val (.int lim), .val (.int idv), .unset, .unset, .unset, .unset, .unset] [(.int (31 : Int32)), (.int idv)])) _
                      refine XS.iand X0.here hx rfl (hb hby d1_22) rfl ?_
                      show Steps p.tables e below (s₁.setTop (mkF m 23 #[.val (.ref o1), .val (.int at1), .val (.int lim), .val (.int idv), .unset, .unset, .unset, .unset, .unset] [(.int (idv &&& (31 : Int32)))])) _
                      refine XS.bipush X0.here hx rfl (hb hby d1_23) ?_
                      show Steps p.tables e below (s₁.setTop (mkF m 25 #[.val (.ref o1), .val (.int at1), .val (.int lim), .val (.int idv), .unset, .unset, .unset, .unset, .unset] [(.int (31 : Int32)), (.int (idv &&& (31 : Int32)))])) _
                      refine XS.icmpNo X0.here hx rfl (hb hby d1_25) rfl (feq hc25).1 ?_
                      show Steps p.tables e below (s₁.setTop (mkF m 28 #[.val (.ref o1), .val (.int at1), .val (.int lim), .val (.int idv), .unset, .unset, .unset, .unset, .unset] [])) _
                      refine XS.iloadN X0.here hx rfl (hb hby d1_28) rfl ?_
                      show Steps p.tables e below (s₁.setTop (mkF m 29 #[.val (.ref o1), .val (.int at1), .val (.int lim), .val (.int idv), .unset, .unset, .unset, .unset, .unset] [(.int idv)])) _
                      refine XS.sipush X0.here hx rfl (hb hby d1_29) ?_
                      show Steps p.tables e below (s₁.setTop (mkF m 32 #[.val (.ref o1), .val (.int at1), .val (.int lim), .val (.int idv), .unset, .unset, .unset, .unset, .unset] [(.int (223 : Int32)), (.int idv)])) _
                      refine XS.iand X0.here hx rfl (hb hby d1_32) rfl ?_
                      show Steps p.tables e below (s₁.setTop (mkF m 33 #[.val (.ref o1), .val (.int at1), .val (.int lim), .val (.int idv), .unset, .unset, .unset, .unset, .unset] [(.int (idv &&& (223 : Int32)))])) _
                      refine XS.ifYes X0.here hx rfl (pc0 := 33) (pc' := 40) rfl (hb hby d1_33) rfl ((if0 _ _).trans (feq hc33).2) (by decide) (by decide) ?_
                      show Steps p.tables e below (s₁.setTop (mkF m 40 #[.val (.ref o1), .val (.int at1), .val (.int lim), .val (.int idv), .unset, .unset, .unset, .unset, .unset] [])) _
                      refine XS.aloadN X0.here hx rfl (hb hby d1_40) rfl rfl ?_
                      show Steps p.tables e below (s₁.setTop (mkF m 41 #[.val (.ref o1), .val (.int at1), .val (.int lim), .val (.int idv), .unset, .unset, .unset, .unset, .unset] [(.ref o1)])) _
                      refine XS.iloadN X0.here hx rfl (hb hby d1_41) rfl ?_
                      show Steps p.tables e below (s₁.setTop (mkF m 42 #[.val (.ref o1), .val (.int at1), .val (.int lim), .val (.int idv), .unset, .unset, .unset, .unset, .unset] [(.int at1), (.ref o1)])) _
                      refine XS.iconst X0.here hx rfl (hb hby d1_42) ?_
                      show Steps p.tables e below (s₁.setTop (mkF m 43 #[.val (.ref o1), .val (.int at1), .val (.int lim), .val (.int idv), .unset, .unset, .unset, .unset, .unset] [(.int (1 : Int32)), (.int at1), (.ref o1)])) _
                      refine XS.iadd X0.here hx rfl (hb hby d1_43) rfl ?_
                      show Steps p.tables e below (s₁.setTop (mkF m 44 #[.val (.ref o1), .val (.int at1), .val (.int lim), .val (.int idv), .unset, .unset, .unset, .unset, .unset] [(.int (at1 + (1 : Int32))), (.ref o1)])) _
                      refine X0.baloadBytes hx (j := (at1 + (1 : Int32))) (v := (.int (bb 1))) (by rw [e0]; exact Ar.1) (State.isArrayOf_alike hZ.alike Ar.2.1) Ar.2.2 PB2.1 PB2.2 (g := (mkF m 44 #[.val (.ref o1), .val (.int at1), .val (.int lim), .val (.int idv), .unset, .unset, .unset, .unset, .unset] [(.int (at1 + (1 : Int32))), (.ref o1)])) rfl rfl (hb hby d1_44) _ ?_
                      show Steps p.tables e below (s₁.setTop (mkF m 45 #[.val (.ref o1), .val (.int at1), .val (.int lim), .val (.int idv), .unset, .unset, .unset, .unset, .unset] [(.int (bb 1))])) _
                      refine XS.sipush X0.here hx rfl (hb hby d1_45) ?_
                      show Steps p.tables e below (s₁.setTop (mkF m 48 #[.val (.ref o1), .val (.int at1), .val (.int lim), .val (.int idv), .unset, .unset, .unset, .unset, .unset] [(.int (255 : Int32)), (.int (bb 1))])) _
                      refine XS.iand X0.here hx rfl (hb hby d1_48) rfl ?_
                      show Steps p.tables e below (s₁.setTop (mkF m 49 #[.val (.ref o1), .val (.int at1), .val (.int lim), .val (.int idv), .unset, .unset, .unset, .unset, .unset] [(.int ((bb 1) &&& (255 : Int32)))])) _
                      refine XS.istore X0.here hx rfl (hb hby d1_49) rfl (l' := #[.val (.ref o1), .val (.int at1), .val (.int lim), .val (.int idv), .val (.int ((bb 1) &&& (255 : Int32))), .unset, .unset, .unset, .unset]) rfl ?_
                      show Steps p.tables e below (s₁.setTop (mkF m 51 #[.val (.ref o1), .val (.int at1), .val (.int lim), .val (.int idv), .val (.int ((bb 1) &&& (255 : Int32))), .unset, .unset, .unset, .unset] [])) _
                      rw [← hfiv]
                      show Steps p.tables e below (s₁.setTop (mkF m 51 #[.val (.ref o1), .val (.int at1), .val (.int lim), .val (.int idv), .val (.int fiv), .unset, .unset, .unset, .unset] [])) _
                      refine XS.iconst X0.here hx rfl (hb hby d1_51) ?_
                      show Steps p.tables e below (s₁.setTop (mkF m 52 #[.val (.ref o1), .val (.int at1), .val (.int lim), .val (.int idv), .val (.int fiv), .unset, .unset, .unset, .unset] [(.int (2 : Int32))])) _
                      refine XS.istore X0.here hx rfl (hb hby d1_52) rfl (l' := #[.val (.ref o1), .val (.int at1), .val (.int lim), .val (.int idv), .val (.int fiv), .val (.int (2 : Int32)), .unset, .unset, .unset]) rfl ?_
                      show Steps p.tables e below (s₁.setTop (mkF m 54 #[.val (.ref o1), .val (.int at1), .val (.int lim), .val (.int idv), .val (.int fiv), .val (.int (2 : Int32)), .unset, .unset, .unset] [])) _
                      refine XS.iload X0.here hx rfl (hb hby d1_54) rfl ?_
                      show Steps p.tables e below (s₁.setTop (mkF m 56 #[.val (.ref o1), .val (.int at1), .val (.int lim), .val (.int idv), .val (.int fiv), .val (.int (2 : Int32)), .unset, .unset, .unset] [(.int fiv)])) _
                      refine XS.istore X0.here hx rfl (hb hby d1_56) rfl (l' := #[.val (.ref o1), .val (.int at1), .val (.int lim), .val (.int idv), .val (.int fiv), .val (.int (2 : Int32)), .val (.int fiv), .unset, .unset]) rfl ?_
                      show Steps p.tables e below (s₁.setTop (mkF m 58 #[.val (.ref o1), .val (.int at1), .val (.int lim), .val (.int idv), .val (.int fiv), .val (.int (2 : Int32)), .val (.int fiv), .unset, .unset] [])) _
                      refine XS.iload X0.here hx rfl (hb hby d1_58) rfl ?_
                      show Steps p.tables e below (s₁.setTop (mkF m 60 #[.val (.ref o1), .val (.int at1), .val (.int lim), .val (.int idv), .val (.int fiv), .val (.int (2 : Int32)), .val (.int fiv), .unset, .unset] [(.int fiv)])) _
                      refine XS.sipush X0.here hx rfl (hb hby d1_60) ?_
                      show Steps p.tables e below (s₁.setTop (mkF m 63 #[.val (.ref o1), .val (.int at1), .val (.int lim), .val (.int idv), .val (.int fiv), .val (.int (2 : Int32)), .val (.int fiv), .unset, .unset] [(.int (128 : Int32)), (.int fiv)])) _
                      refine XS.icmpNo X0.here hx rfl (hb hby d1_63) rfl (flt hc63).1 ?_
                      show Steps p.tables e below (s₁.setTop (mkF m 66 #[.val (.ref o1), .val (.int at1), .val (.int lim), .val (.int idv), .val (.int fiv), .val (.int (2 : Int32)), .val (.int fiv), .unset, .unset] [])) _
                      refine XS.iload X0.here hx rfl (hb hby d1_66) rfl ?_
                      show Steps p.tables e below (s₁.setTop (mkF m 68 #[.val (.ref o1), .val (.int at1), .val (.int lim), .val (.int idv), .val (.int fiv), .val (.int (2 : Int32)), .val (.int fiv), .unset, .unset] [(.int fiv)])) _
                      refine XS.bipush X0.here hx rfl (hb hby d1_68) ?_
                      show Steps p.tables e below (s₁.setTop (mkF m 70 #[.val (.ref o1), .val (.int at1), .val (.int lim), .val (.int idv), .val (.int fiv), .val (.int (2 : Int32)), .val (.int fiv), .unset, .unset] [(.int (127 : Int32)), (.int fiv)])) _
                      refine XS.iand X0.here hx rfl (hb hby d1_70) rfl ?_
                      show Steps p.tables e below (s₁.setTop (mkF m 71 #[.val (.ref o1), .val (.int at1), .val (.int lim), .val (.int idv), .val (.int fiv), .val (.int (2 : Int32)), .val (.int fiv), .unset, .unset] [(.int (fiv &&& (127 : Int32)))])) _
                      refine XS.istore X0.here hx rfl (hb hby d1_71) rfl (l' := #[.val (.ref o1), .val (.int at1), .val (.int lim), .val (.int idv), .val (.int fiv), .val (.int (2 : Int32)), .val (.int fiv), .val (.int (fiv &&& (127 : Int32))), .unset]) rfl ?_
                      show Steps p.tables e below (s₁.setTop (mkF m 73 #[.val (.ref o1), .val (.int at1), .val (.int lim), .val (.int idv), .val (.int fiv), .val (.int (2 : Int32)), .val (.int fiv), .val (.int (fiv &&& (127 : Int32))), .unset] [])) _
                      rw [← hnnv]
                      show Steps p.tables e below (s₁.setTop (mkF m 73 #[.val (.ref o1), .val (.int at1), .val (.int lim), .val (.int idv), .val (.int fiv), .val (.int (2 : Int32)), .val (.int fiv), .val (.int nnv), .unset] [])) _
                      refine XS.iload X0.here hx rfl (hb hby d1_73) rfl ?_
                      show Steps p.tables e below (s₁.setTop (mkF m 75 #[.val (.ref o1), .val (.int at1), .val (.int lim), .val (.int idv), .val (.int fiv), .val (.int (2 : Int32)), .val (.int fiv), .val (.int nnv), .unset] [(.int nnv)])) _
                      refine XS.ifNo X0.here hx rfl (hb hby d1_75) rfl ((if0 _ _).trans (feq hc75).1) ?_
                      show Steps p.tables e below (s₁.setTop (mkF m 78 #[.val (.ref o1), .val (.int at1), .val (.int lim), .val (.int idv), .val (.int fiv), .val (.int (2 : Int32)), .val (.int fiv), .val (.int nnv), .unset] [])) _
                      refine XS.iload X0.here hx rfl (hb hby d1_78) rfl ?_
                      show Steps p.tables e below (s₁.setTop (mkF m 80 #[.val (.ref o1), .val (.int at1), .val (.int lim), .val (.int idv), .val (.int fiv), .val (.int (2 : Int32)), .val (.int fiv), .val (.int nnv), .unset] [(.int nnv)])) _
                      refine XS.iconst X0.here hx rfl (hb hby d1_80) ?_
                      show Steps p.tables e below (s₁.setTop (mkF m 81 #[.val (.ref o1), .val (.int at1), .val (.int lim), .val (.int idv), .val (.int fiv), .val (.int (2 : Int32)), .val (.int fiv), .val (.int nnv), .unset] [(.int (4 : Int32)), (.int nnv)])) _
                      refine XS.icmpNo X0.here hx rfl (hb hby d1_81) rfl (flt hc81).2.2.1 ?_
                      show Steps p.tables e below (s₁.setTop (mkF m 84 #[.val (.ref o1), .val (.int at1), .val (.int lim), .val (.int idv), .val (.int fiv), .val (.int (2 : Int32)), .val (.int fiv), .val (.int nnv), .unset] [])) _
                      refine XS.iload X0.here hx rfl (hb hby d1_84) rfl ?_
                      show Steps p.tables e below (s₁.setTop (mkF m 86 #[.val (.ref o1), .val (.int at1), .val (.int lim), .val (.int idv), .val (.int fiv), .val (.int (2 : Int32)), .val (.int fiv), .val (.int nnv), .unset] [(.int nnv)])) _
                      refine XS.iloadN X0.here hx rfl (hb hby d1_86) rfl ?_
                      show Steps p.tables e below (s₁.setTop (mkF m 87 #[.val (.ref o1), .val (.int at1), .val (.int lim), .val (.int idv), .val (.int fiv), .val (.int (2 : Int32)), .val (.int fiv), .val (.int nnv), .unset] [(.int lim), (.int nnv)])) _
                      refine XS.iloadN X0.here hx rfl (hb hby d1_87) rfl ?_
                      show Steps p.tables e below (s₁.setTop (mkF m 88 #[.val (.ref o1), .val (.int at1), .val (.int lim), .val (.int idv), .val (.int fiv), .val (.int (2 : Int32)), .val (.int fiv), .val (.int nnv), .unset] [(.int at1), (.int lim), (.int nnv)])) _
                      refine XS.isub X0.here hx rfl (hb hby d1_88) rfl ?_
                      show Steps p.tables e below (s₁.setTop (mkF m 89 #[.val (.ref o1), .val (.int at1), .val (.int lim), .val (.int idv), .val (.int fiv), .val (.int (2 : Int32)), .val (.int fiv), .val (.int nnv), .unset] [(.int (lim - at1)), (.int nnv)])) _
                      refine XS.iconst X0.here hx rfl (hb hby d1_89) ?_
                      show Steps p.tables e below (s₁.setTop (mkF m 90 #[.val (.ref o1), .val (.int at1), .val (.int lim), .val (.int idv), .val (.int fiv), .val (.int (2 : Int32)), .val (.int fiv), .val (.int nnv), .unset] [(.int (2 : Int32)), (.int (lim - at1)), (.int nnv)])) _
                      refine XS.isub X0.here hx rfl (hb hby d1_90) rfl ?_
                      show Steps p.tables e below (s₁.setTop (mkF m 91 #[.val (.ref o1), .val (.int at1), .val (.int lim), .val (.int idv), .val (.int fiv), .val (.int (2 : Int32)), .val (.int fiv), .val (.int nnv), .unset] [(.int ((lim - at1) - (2 : Int32))), (.int nnv)])) _
                      refine XS.icmpYes X0.here hx rfl (pc0 := 91) (pc' := 98) rfl (hb hby d1_91) rfl (flt hc91).2.2.2 (by decide) (by decide) ?_
                      show Steps p.tables e below (s₁.setTop (mkF m 98 #[.val (.ref o1), .val (.int at1), .val (.int lim), .val (.int idv), .val (.int fiv), .val (.int (2 : Int32)), .val (.int fiv), .val (.int nnv), .unset] [])) _
                      refine lp_98 bb (o1) (at1) (.val (.int lim)) (.val (.int idv)) (.val (.int fiv)) (.val (.int (2 : Int32))) (fiv) (nnv) v0_98 hv0_98 v1_98 hv1_98 X0 hx hZ hw hby hown h0 e0 cl Ar H7 PB (own_pos hfiv hnnv hc75) hc81 ?_
                      show Steps p.tables e below (s₁.setTop (mkF m 137 #[.val (.ref o1), .val (.int at1), .val (.int lim), .val (.int idv), .val (.int fiv), .val (.int (2 : Int32)), .val (.int v0_98), .val (.int nnv), .val (.int v1_98)] [])) _
                      refine XS.iload X0.here hx rfl (hb hby d1_137) rfl ?_
                      show Steps p.tables e below (s₁.setTop (mkF m 139 #[.val (.ref o1), .val (.int at1), .val (.int lim), .val (.int idv), .val (.int fiv), .val (.int (2 : Int32)), .val (.int v0_98), .val (.int nnv), .val (.int v1_98)] [(.int (2 : Int32))])) _
                      refine XS.iload X0.here hx rfl (hb hby d1_139) rfl ?_
                      show Steps p.tables e below (s₁.setTop (mkF m 141 #[.val (.ref o1), .val (.int at1), .val (.int lim), .val (.int idv), .val (.int fiv), .val (.int (2 : Int32)), .val (.int v0_98), .val (.int nnv), .val (.int v1_98)] [(.int nnv), (.int (2 : Int32))])) _
                      refine XS.iadd X0.here hx rfl (hb hby d1_141) rfl ?_
                      show Steps p.tables e below (s₁.setTop (mkF m 142 #[.val (.ref o1), .val (.int at1), .val (.int lim), .val (.int idv), .val (.int fiv), .val (.int (2 : Int32)), .val (.int v0_98), .val (.int nnv), .val (.int v1_98)] [(.int ((2 : Int32) + nnv))])) _
                      refine XS.istore X0.here hx rfl (hb hby d1_142) rfl (l' := #[.val (.ref o1), .val (.int at1), .val (.int lim), .val (.int idv), .val (.int fiv), .val (.int ((2 : Int32) + nnv)), .val (.int v0_98), .val (.int nnv), .val (.int v1_98)]) rfl ?_
                      show Steps p.tables e below (s₁.setTop (mkF m 144 #[.val (.ref o1), .val (.int at1), .val (.int lim), .val (.int idv), .val (.int fiv), .val (.int ((2 : Int32) + nnv)), .val (.int v0_98), .val (.int nnv), .val (.int v1_98)] [])) _
                      refine XS.iload X0.here hx rfl (hb hby d1_144) rfl ?_
                      show Steps p.tables e below (s₁.setTop (mkF m 146 #[.val (.ref o1), .val (.int at1), .val (.int lim), .val (.int idv), .val (.int fiv), .val (.int ((2 : Int32) + nnv)), .val (.int v0_98), .val (.int nnv), .val (.int v1_98)] [(.int v0_98)])) _
                      refine XS.ifYes X0.here hx rfl (pc0 := 146) (pc' := 153) rfl (hb hby d1_146) rfl ((if0 _ _).trans (flt hc146).2.1) (by decide) (by decide) ?_
                      show Steps p.tables e below (s₁.setTop (mkF m 153 #[.val (.ref o1), .val (.int at1), .val (.int lim), .val (.int idv), .val (.int fiv), .val (.int ((2 : Int32) + nnv)), .val (.int v0_98), .val (.int nnv), .val (.int v1_98)] [])) _
                      refine XS.iload X0.here hx rfl (hb hby d1_153) rfl ?_
                      show Steps p.tables e below (s₁.setTop (mkF m 155 #[.val (.ref o1), .val (.int at1), .val (.int lim), .val (.int idv), .val (.int fiv), .val (.int ((2 : Int32) + nnv)), .val (.int v0_98), .val (.int nnv), .val (.int v1_98)] [(.int v0_98)])) _
                      refine XS.iloadN X0.here hx rfl (hb hby d1_155) rfl ?_
                      show Steps p.tables e below (s₁.setTop (mkF m 156 #[.val (.ref o1), .val (.int at1), .val (.int lim), .val (.int idv), .val (.int fiv), .val (.int ((2 : Int32) + nnv)), .val (.int v0_98), .val (.int nnv), .val (.int v1_98)] [(.int lim), (.int v0_98)])) _
                      refine XS.iloadN X0.here hx rfl (hb hby d1_156) rfl ?_
                      show Steps p.tables e below (s₁.setTop (mkF m 157 #[.val (.ref o1), .val (.int at1), .val (.int lim), .val (.int idv), .val (.int fiv), .val (.int ((2 : Int32) + nnv)), .val (.int v0_98), .val (.int nnv), .val (.int v1_98)] [(.int at1), (.int lim), (.int v0_98)])) _
                      refine XS.isub X0.here hx rfl (hb hby d1_157) rfl ?_
                      show Steps p.tables e below (s₁.setTop (mkF m 158 #[.val (.ref o1), .val (.int at1), .val (.int lim), .val (.int idv), .val (.int fiv), .val (.int ((2 : Int32) + nnv)), .val (.int v0_98), .val (.int nnv), .val (.int v1_98)] [(.int (lim - at1)), (.int v0_98)])) _
                      refine XS.iload X0.here hx rfl (hb hby d1_158) rfl ?_
                      show Steps p.tables e below (s₁.setTop (mkF m 160 #[.val (.ref o1), .val (.int at1), .val (.int lim), .val (.int idv), .val (.int fiv), .val (.int ((2 : Int32) + nnv)), .val (.int v0_98), .val (.int nnv), .val (.int v1_98)] [(.int ((2 : Int32) + nnv)), (.int (lim - at1)), (.int v0_98)])) _
                      refine XS.isub X0.here hx rfl (hb hby d1_160) rfl ?_
                      show Steps p.tables e below (s₁.setTop (mkF m 161 #[.val (.ref o1), .val (.int at1), .val (.int lim), .val (.int idv), .val (.int fiv), .val (.int ((2 : Int32) + nnv)), .val (.int v0_98), .val (.int nnv), .val (.int v1_98)] [(.int ((lim - at1) - ((2 : Int32) + nnv))), (.int v0_98)])) _
                      refine XS.icmpYes X0.here hx rfl (pc0 := 161) (pc' := 168) rfl (hb hby d1_161) rfl (flt hc161).2.2.2 (by decide) (by decide) ?_
                      show Steps p.tables e below (s₁.setTop (mkF m 168 #[.val (.ref o1), .val (.int at1), .val (.int lim), .val (.int idv), .val (.int fiv), .val (.int ((2 : Int32) + nnv)), .val (.int v0_98), .val (.int nnv), .val (.int v1_98)] [])) _
                      refine XS.iloadN X0.here hx rfl (hb hby d1_168) rfl ?_
                      show Steps p.tables e below (s₁.setTop (mkF m 169 #[.val (.ref o1), .val (.int at1), .val (.int lim), .val (.int idv), .val (.int fiv), .val (.int ((2 : Int32) + nnv)), .val (.int v0_98), .val (.int nnv), .val (.int v1_98)] [(.int idv)])) _
                      refine XS.i2l X0.here hx rfl (hb hby d1_169) rfl ?_
                      show Steps p.tables e below (s₁.setTop (mkF m 170 #[.val (.ref o1), .val (.int at1), .val (.int lim), .val (.int idv), .val (.int fiv), .val (.int ((2 : Int32) + nnv)), .val (.int v0_98), .val (.int nnv), .val (.int v1_98)] [(.long (idv.toInt64))])) _
                      refine XS.bipush X0.here hx rfl (hb hby d1_170) ?_
                      show Steps p.tables e below (s₁.setTop (mkF m 172 #[.val (.ref o1), .val (.int at1), .val (.int lim), .val (.int idv), .val (.int fiv), .val (.int ((2 : Int32) + nnv)), .val (.int v0_98), .val (.int nnv), .val (.int v1_98)] [(.int (40 : Int32)), (.long (idv.toInt64))])) _
                      refine XS.lshl X0.here hx rfl (hb hby d1_172) rfl ?_
                      show Steps p.tables e below (s₁.setTop (mkF m 173 #[.val (.ref o1), .val (.int at1), .val (.int lim), .val (.int idv), .val (.int fiv), .val (.int ((2 : Int32) + nnv)), .val (.int v0_98), .val (.int nnv), .val (.int v1_98)] [(.long ((idv.toInt64) <<< ((40 : Int32) &&& 0x3f).toInt64))])) _
                      refine XS.iload X0.here hx rfl (hb hby d1_173) rfl ?_
                      show Steps p.tables e below (s₁.setTop (mkF m 175 #[.val (.ref o1), .val (.int at1), .val (.int lim), .val (.int idv), .val (.int fiv), .val (.int ((2 : Int32) + nnv)), .val (.int v0_98), .val (.int nnv), .val (.int v1_98)] [(.int ((2 : Int32) + nnv)), (.long ((idv.toInt64) <<< ((40 : Int32) &&& 0x3f).toInt64))])) _
                      refine XS.i2l X0.here hx rfl (hb hby d1_175) rfl ?_
                      show Steps p.tables e below (s₁.setTop (mkF m 176 #[.val (.ref o1), .val (.int at1), .val (.int lim), .val (.int idv), .val (.int fiv), .val (.int ((2 : Int32) + nnv)), .val (.int v0_98), .val (.int nnv), .val (.int v1_98)] [(.long (((2 : Int32) + nnv).toInt64)), (.long ((idv.toInt64) <<< ((40 : Int32) &&& 0x3f).toInt64))])) _
                      refine XS.bipush X0.here hx rfl (hb hby d1_176) ?_
                      show Steps p.tables e below (s₁.setTop (mkF m 178 #[.val (.ref o1), .val (.int at1), .val (.int lim), .val (.int idv), .val (.int fiv), .val (.int ((2 : Int32) + nnv)), .val (.int v0_98), .val (.int nnv), .val (.int v1_98)] [(.int (32 : Int32)), (.long (((2 : Int32) + nnv).toInt64)), (.long ((idv.toInt64) <<< ((40 : Int32) &&& 0x3f).toInt64))])) _
                      refine XS.lshl X0.here hx rfl (hb hby d1_178) rfl ?_
                      show Steps p.tables e below (s₁.setTop (mkF m 179 #[.val (.ref o1), .val (.int at1), .val (.int lim), .val (.int idv), .val (.int fiv), .val (.int ((2 : Int32) + nnv)), .val (.int v0_98), .val (.int nnv), .val (.int v1_98)] [(.long ((((2 : Int32) + nnv).toInt64) <<< ((32 : Int32) &&& 0x3f).toInt64)), (.long ((idv.toInt64) <<< ((40 : Int32) &&& 0x3f).toInt64))])) _
                      refine XS.lor X0.here hx rfl (hb hby d1_179) rfl ?_
                      show Steps p.tables e below (s₁.setTop (mkF m 180 #[.val (.ref o1), .val (.int at1), .val (.int lim), .val (.int idv), .val (.int fiv), .val (.int ((2 : Int32) + nnv)), .val (.int v0_98), .val (.int nnv), .val (.int v1_98)] [(.long (((idv.toInt64) <<< ((40 : Int32) &&& 0x3f).toInt64) ||| ((((2 : Int32) + nnv).toInt64) <<< ((32 : Int32) &&& 0x3f).toInt64)))])) _
                      refine XS.iload X0.here hx rfl (hb hby d1_180) rfl ?_
                      show Steps p.tables e below (s₁.setTop (mkF m 182 #[.val (.ref o1), .val (.int at1), .val (.int lim), .val (.int idv), .val (.int fiv), .val (.int ((2 : Int32) + nnv)), .val (.int v0_98), .val (.int nnv), .val (.int v1_98)] [(.int v0_98), (.long (((idv.toInt64) <<< ((40 : Int32) &&& 0x3f).toInt64) ||| ((((2 : Int32) + nnv).toInt64) <<< ((32 : Int32) &&& 0x3f).toInt64)))])) _
                      refine XS.i2l X0.here hx rfl (hb hby d1_182) rfl ?_
                      show Steps p.tables e below (s₁.setTop (mkF m 183 #[.val (.ref o1), .val (.int at1), .val (.int lim), .val (.int idv), .val (.int fiv), .val (.int ((2 : Int32) + nnv)), .val (.int v0_98), .val (.int nnv), .val (.int v1_98)] [(.long (v0_98.toInt64)), (.long (((idv.toInt64) <<< ((40 : Int32) &&& 0x3f).toInt64) ||| ((((2 : Int32) + nnv).toInt64) <<< ((32 : Int32) &&& 0x3f).toInt64)))])) _
                      refine X0.ldc2Long hx hown (mvT hZ (hw _ (List.mem_of_getElem? (i := 12) rfl))) (g := (mkF m 183 #[.val (.ref o1), .val (.int at1), .val (.int lim), .val (.int idv), .val (.int fiv), .val (.int ((2 : Int32) + nnv)), .val (.int v0_98), .val (.int nnv), .val (.int v1_98)] [(.long (v0_98.toInt64)), (.long (((idv.toInt64) <<< ((40 : Int32) &&& 0x3f).toInt64) ||| ((((2 : Int32) + nnv).toInt64) <<< ((32 : Int32) &&& 0x3f).toInt64)))])) rfl (hb hby d1_183) _ ?_
                      show Steps p.tables e below (s₁.setTop (mkF m 186 #[.val (.ref o1), .val (.int at1), .val (.int lim), .val (.int idv), .val (.int fiv), .val (.int ((2 : Int32) + nnv)), .val (.int v0_98), .val (.int nnv), .val (.int v1_98)] [(.long (4294967295 : Int64)), (.long (v0_98.toInt64)), (.long (((idv.toInt64) <<< ((40 : Int32) &&& 0x3f).toInt64) ||| ((((2 : Int32) + nnv).toInt64) <<< ((32 : Int32) &&& 0x3f).toInt64)))])) _
                      refine XS.land X0.here hx rfl (hb hby d1_186) rfl ?_
                      show Steps p.tables e below (s₁.setTop (mkF m 187 #[.val (.ref o1), .val (.int at1), .val (.int lim), .val (.int idv), .val (.int fiv), .val (.int ((2 : Int32) + nnv)), .val (.int v0_98), .val (.int nnv), .val (.int v1_98)] [(.long ((v0_98.toInt64) &&& (4294967295 : Int64))), (.long (((idv.toInt64) <<< ((40 : Int32) &&& 0x3f).toInt64) ||| ((((2 : Int32) + nnv).toInt64) <<< ((32 : Int32) &&& 0x3f).toInt64)))])) _
                      refine XS.lor X0.here hx rfl (hb hby d1_187) rfl ?_
                      show Steps p.tables e below (s₁.setTop (mkF m 188 #[.val (.ref o1), .val (.int at1), .val (.int lim), .val (.int idv), .val (.int fiv), .val (.int ((2 : Int32) + nnv)), .val (.int v0_98), .val (.int nnv), .val (.int v1_98)] [(.long ((((idv.toInt64) <<< ((40 : Int32) &&& 0x3f).toInt64) ||| ((((2 : Int32) + nnv).toInt64) <<< ((32 : Int32) &&& 0x3f).toInt64)) ||| ((v0_98.toInt64) &&& (4294967295 : Int64))))])) _
                      exact X0.lreturnOut hx Bd.returns (hb hby d1_188) hr
                    · show Q1 at1 lim bb h0 n0 _ s₁.heap _
                      rw [e0]
                      exact ⟨(by subst hv0_98; subst hnnv; subst hfiv; subst hidv; simp only [own_ph, own_pm, own_fin, own_pack, if_neg hc4, if_neg hc25, if_neg hc33, if_neg hc63, if_neg hc75, if_neg hc81, if_neg hc91, if_neg hc146, if_neg hc161]), N0, rfl⟩
set_option maxRecDepth 65536 in
set_option maxHeartbeats 40000000 in
theorem sg_206 {p : Program} {l : Launch} {e : Env} {R : Room} {s : State} {m : MethodId} {args : Array Value} {below : List Frame} {meth : Method} {c : Code} {T0 : State} {locs : List Loc} {cells slots : Nat} {Z : State} {a0 : Array Value}  (s0 : Slot) (s1 : Slot) (s2 : Slot) (s3 : Slot) (s4 : Slot) (s5 : Slot) (s6 : Slot) (s7 : Slot) (s8 : Slot) (s9 : Slot) (s10 : Slot) (s11 : Slot) (s12 : Slot) (s13 : Slot) (s14 : Slot) (s15 : Slot) (s16 : Slot) (s17 : Slot) (s18 : Slot) (room : Int64) (rj : Int32) (s22 : Slot) (s23 : Slot) (s24 : Slot) (s25 : Slot) (s26 : Slot) (s27 : Slot) (v0 : Int32) (hv0 : v0 = (if (lcmpW room (2 : Int64)) < (0 : Int32) then (1 : Int32) else rj))
    (X0 : Stand p l e R s m args below meth c T0 locs cells slots) (hx : p.tables.exec = Jvm.exec) (hZ : Z.Warmed39 s.vm) (hw : ∀ d ∈ tables_1, d.before a0 Z = true) (hby : c.code = code) (hown : s.vm.findClass "com/example/tagloom/tagloom/tlv/TlvDecoderPlainHeaderPinLaw" = some m.cls) {target : State}
    (kt : Steps p.tables e below (T0.setTop (mkF m 218 #[s0, s1, s2, s3, s4, s5, s6, s7, s8, s9, s10, s11, s12, s13, s14, s15, s16, s17, s18, .val (.long room), .second, .val (.int v0), s22, s23, s24, s25, s26, s27] [])) target) : Steps p.tables e below (T0.setTop (mkF m 206 #[s0, s1, s2, s3, s4, s5, s6, s7, s8, s9, s10, s11, s12, s13, s14, s15, s16, s17, s18, .val (.long room), .second, .val (.int rj), s22, s23, s24, s25, s26, s27] [])) target := by
  by_cases hc212 : (lcmpW room (2 : Int64)) < (0 : Int32)
  ·
    simp only [if_pos hc212] at hv0
    rw [hv0] at kt
    show Steps p.tables e below (T0.setTop (mkF m 206 #[s0, s1, s2, s3, s4, s5, s6, s7, s8, s9, s10, s11, s12, s13, s14, s15, s16, s17, s18, .val (.long room), .second, .val (.int rj), s22, s23, s24, s25, s26, s27] [])) _
    refine XS.lload X0.here hx rfl (hb hby at_206) rfl ?_
    show Steps p.tables e below (T0.setTop (mkF m 208 #[s0, s1, s2, s3, s4, s5, s6, s7, s8, s9, s10, s11, s12, s13, s14, s15, s16, s17, s18, .val (.long room), .second, .val (.int rj), s22, s23, s24, s25, s26, s27] [(.long room)])) _
    refine X0.ldc2Long hx hown (mvT hZ (hw _ (List.mem_of_getElem? (i := 8) rfl))) (g := (mkF m 208 #[s0, s1, s2, s3, s4, s5, s6, s7, s8, s9, s10, s11, s12, s13, s14, s15, s16, s17, s18, .val (.long room), .second, .val (.int rj), s22, s23, s24, s25, s26, s27] [(.long room)])) rfl (hb hby at_208) _ ?_
    show Steps p.tables e below (T0.setTop (mkF m 211 #[s0, s1, s2, s3, s4, s5, s6, s7, s8, s9, s10, s11, s12, s13, s14, s15, s16, s17, s18, .val (.long room), .second, .val (.int rj), s22, s23, s24, s25, s26, s27] [(.long (2 : Int64)), (.long room)])) _
    refine XS.lcmp X0.here hx rfl (hb hby at_211) rfl ?_
    show Steps p.tables e below (T0.setTop (mkF m 212 #[s0, s1, s2, s3, s4, s5, s6, s7, s8, s9, s10, s11, s12, s13, s14, s15, s16, s17, s18, .val (.long room), .second, .val (.int rj), s22, s23, s24, s25, s26, s27] [(.int (lcmpW room (2 : Int64)))])) _
    refine XS.ifNo X0.here hx rfl (hb hby at_212) rfl ((if0 _ _).trans (tlt hc212).2.1) ?_
    show Steps p.tables e below (T0.setTop (mkF m 215 #[s0, s1, s2, s3, s4, s5, s6, s7, s8, s9, s10, s11, s12, s13, s14, s15, s16, s17, s18, .val (.long room), .second, .val (.int rj), s22, s23, s24, s25, s26, s27] [])) _
    refine XS.iconst X0.here hx rfl (hb hby at_215) ?_
    show Steps p.tables e below (T0.setTop (mkF m 216 #[s0, s1, s2, s3, s4, s5, s6, s7, s8, s9, s10, s11, s12, s13, s14, s15, s16, s17, s18, .val (.long room), .second, .val (.int rj), s22, s23, s24, s25, s26, s27] [(.int (1 : Int32))])) _
    refine XS.istore X0.here hx rfl (hb hby at_216) rfl (l' := #[s0, s1, s2, s3, s4, s5, s6, s7, s8, s9, s10, s11, s12, s13, s14, s15, s16, s17, s18, .val (.long room), .second, .val (.int (1 : Int32)), s22, s23, s24, s25, s26, s27]) rfl ?_
    show Steps p.tables e below (T0.setTop (mkF m 218 #[s0, s1, s2, s3, s4, s5, s6, s7, s8, s9, s10, s11, s12, s13, s14, s15, s16, s17, s18, .val (.long room), .second, .val (.int (1 : Int32)), s22, s23, s24, s25, s26, s27] [])) _
    exact kt
  ·
    simp only [if_neg hc212] at hv0
    rw [hv0] at kt
    show Steps p.tables e below (T0.setTop (mkF m 206 #[s0, s1, s2, s3, s4, s5, s6, s7, s8, s9, s10, s11, s12, s13, s14, s15, s16, s17, s18, .val (.long room), .second, .val (.int rj), s22, s23, s24, s25, s26, s27] [])) _
    refine XS.lload X0.here hx rfl (hb hby at_206) rfl ?_
    show Steps p.tables e below (T0.setTop (mkF m 208 #[s0, s1, s2, s3, s4, s5, s6, s7, s8, s9, s10, s11, s12, s13, s14, s15, s16, s17, s18, .val (.long room), .second, .val (.int rj), s22, s23, s24, s25, s26, s27] [(.long room)])) _
    refine X0.ldc2Long hx hown (mvT hZ (hw _ (List.mem_of_getElem? (i := 8) rfl))) (g := (mkF m 208 #[s0, s1, s2, s3, s4, s5, s6, s7, s8, s9, s10, s11, s12, s13, s14, s15, s16, s17, s18, .val (.long room), .second, .val (.int rj), s22, s23, s24, s25, s26, s27] [(.long room)])) rfl (hb hby at_208) _ ?_
    show Steps p.tables e below (T0.setTop (mkF m 211 #[s0, s1, s2, s3, s4, s5, s6, s7, s8, s9, s10, s11, s12, s13, s14, s15, s16, s17, s18, .val (.long room), .second, .val (.int rj), s22, s23, s24, s25, s26, s27] [(.long (2 : Int64)), (.long room)])) _
    refine XS.lcmp X0.here hx rfl (hb hby at_211) rfl ?_
    show Steps p.tables e below (T0.setTop (mkF m 212 #[s0, s1, s2, s3, s4, s5, s6, s7, s8, s9, s10, s11, s12, s13, s14, s15, s16, s17, s18, .val (.long room), .second, .val (.int rj), s22, s23, s24, s25, s26, s27] [(.int (lcmpW room (2 : Int64)))])) _
    refine XS.ifYes X0.here hx rfl (pc0 := 212) (pc' := 218) rfl (hb hby at_212) rfl ((if0 _ _).trans (flt hc212).2.1) (by decide) (by decide) ?_
    show Steps p.tables e below (T0.setTop (mkF m 218 #[s0, s1, s2, s3, s4, s5, s6, s7, s8, s9, s10, s11, s12, s13, s14, s15, s16, s17, s18, .val (.long room), .second, .val (.int rj), s22, s23, s24, s25, s26, s27] [])) _
    exact kt
set_option maxRecDepth 65536 in
set_option maxHeartbeats 40000000 in
theorem sg_232 {p : Program} {l : Launch} {e : Env} {R : Room} {s : State} {m : MethodId} {args : Array Value} {below : List Frame} {meth : Method} {c : Code} {T0 : State} {locs : List Loc} {cells slots : Nat} {Z : State} {a0 : Array Value}  (s0 : Slot) (s1 : Slot) (s2 : Slot) (s3 : Slot) (s4 : Slot) (s5 : Slot) (s6 : Slot) (s7 : Slot) (s8 : Slot) (s9 : Slot) (s10 : Slot) (s11 : Slot) (s12 : Slot) (s13 : Slot) (s14 : Slot) (s15 : Slot) (s16 : Slot) (s17 : Slot) (s18 : Slot) (s19 : Slot) (s20 : Slot) (rj : Int32) (tg : Int32) (s23 : Slot) (s24 : Slot) (s25 : Slot) (s26 : Slot) (s27 : Slot) (v0 : Int32) (hv0 : v0 = (if tg = (31 : Int32) then (1 : Int32) else rj))
    (X0 : Stand p l e R s m args below meth c T0 locs cells slots) (hx : p.tables.exec = Jvm.exec) (hZ : Z.Warmed39 s.vm) (hw : ∀ d ∈ tables_1, d.before a0 Z = true) (hby : c.code = code) (hown : s.vm.findClass "com/example/tagloom/tagloom/tlv/TlvDecoderPlainHeaderPinLaw" = some m.cls) {target : State}
    (kt : Steps p.tables e below (T0.setTop (mkF m 242 #[s0, s1, s2, s3, s4, s5, s6, s7, s8, s9, s10, s11, s12, s13, s14, s15, s16, s17, s18, s19, s20, .val (.int v0), .val (.int tg), s23, s24, s25, s26, s27] [])) target) : Steps p.tables e below (T0.setTop (mkF m 232 #[s0, s1, s2, s3, s4, s5, s6, s7, s8, s9, s10, s11, s12, s13, s14, s15, s16, s17, s18, s19, s20, .val (.int rj), .val (.int tg), s23, s24, s25, s26, s27] [])) target := by
  by_cases hc236 : tg = (31 : Int32)
  ·
    simp only [if_pos hc236] at hv0
    rw [hv0] at kt
    show Steps p.tables e below (T0.setTop (mkF m 232 #[s0, s1, s2, s3, s4, s5, s6, s7, s8, s9, s10, s11, s12, s13, s14, s15, s16, s17, s18, s19, s20, .val (.int rj), .val (.int tg), s23, s24, s25, s26, s27] [])) _
    refine XS.iload X0.here hx rfl (hb hby at_232) rfl ?_
    show Steps p.tables e below (T0.setTop (mkF m 234 #[s0, s1, s2, s3, s4, s5, s6, s7, s8, s9, s10, s11, s12, s13, s14, s15, s16, s17, s18, s19, s20, .val (.int rj), .val (.int tg), s23, s24, s25, s26, s27] [(.int tg)])) _
    refine XS.bipush X0.here hx rfl (hb hby at_234) ?_
    show Steps p.tables e below (T0.setTop (mkF m 236 #[s0, s1, s2, s3, s4, s5, s6, s7, s8, s9, s10, s11, s12, s13, s14, s15, s16, s17, s18, s19, s20, .val (.int rj), .val (.int tg), s23, s24, s25, s26, s27] [(.int (31 : Int32)), (.int tg)])) _
    refine XS.icmpNo X0.here hx rfl (hb hby at_236) rfl (teq hc236).2 ?_
    show Steps p.tables e below (T0.setTop (mkF m 239 #[s0, s1, s2, s3, s4, s5, s6, s7, s8, s9, s10, s11, s12, s13, s14, s15, s16, s17, s18, s19, s20, .val (.int rj), .val (.int tg), s23, s24, s25, s26, s27] [])) _
    refine XS.iconst X0.here hx rfl (hb hby at_239) ?_
    show Steps p.tables e below (T0.setTop (mkF m 240 #[s0, s1, s2, s3, s4, s5, s6, s7, s8, s9, s10, s11, s12, s13, s14, s15, s16, s17, s18, s19, s20, .val (.int rj), .val (.int tg), s23, s24, s25, s26, s27] [(.int (1 : Int32))])) _
    refine XS.istore X0.here hx rfl (hb hby at_240) rfl (l' := #[s0, s1, s2, s3, s4, s5, s6, s7, s8, s9, s10, s11, s12, s13, s14, s15, s16, s17, s18, s19, s20, .val (.int (1 : Int32)), .val (.int tg), s23, s24, s25, s26, s27]) rfl ?_
    show Steps p.tables e below (T0.setTop (mkF m 242 #[s0, s1, s2, s3, s4, s5, s6, s7, s8, s9, s10, s11, s12, s13, s14, s15, s16, s17, s18, s19, s20, .val (.int (1 : Int32)), .val (.int tg), s23, s24, s25, s26, s27] [])) _
    exact kt
  ·
    simp only [if_neg hc236] at hv0
    rw [hv0] at kt
    show Steps p.tables e below (T0.setTop (mkF m 232 #[s0, s1, s2, s3, s4, s5, s6, s7, s8, s9, s10, s11, s12, s13, s14, s15, s16, s17, s18, s19, s20, .val (.int rj), .val (.int tg), s23, s24, s25, s26, s27] [])) _
    refine XS.iload X0.here hx rfl (hb hby at_232) rfl ?_
    show Steps p.tables e below (T0.setTop (mkF m 234 #[s0, s1, s2, s3, s4, s5, s6, s7, s8, s9, s10, s11, s12, s13, s14, s15, s16, s17, s18, s19, s20, .val (.int rj), .val (.int tg), s23, s24, s25, s26, s27] [(.int tg)])) _
    refine XS.bipush X0.here hx rfl (hb hby at_234) ?_
    show Steps p.tables e below (T0.setTop (mkF m 236 #[s0, s1, s2, s3, s4, s5, s6, s7, s8, s9, s10, s11, s12, s13, s14, s15, s16, s17, s18, s19, s20, .val (.int rj), .val (.int tg), s23, s24, s25, s26, s27] [(.int (31 : Int32)), (.int tg)])) _
    refine XS.icmpYes X0.here hx rfl (pc0 := 236) (pc' := 242) rfl (hb hby at_236) rfl (feq hc236).2 (by decide) (by decide) ?_
    show Steps p.tables e below (T0.setTop (mkF m 242 #[s0, s1, s2, s3, s4, s5, s6, s7, s8, s9, s10, s11, s12, s13, s14, s15, s16, s17, s18, s19, s20, .val (.int rj), .val (.int tg), s23, s24, s25, s26, s27] [])) _
    exact kt
set_option maxRecDepth 65536 in
set_option maxHeartbeats 40000000 in
theorem sg_242 {p : Program} {l : Launch} {e : Env} {R : Room} {s : State} {m : MethodId} {args : Array Value} {below : List Frame} {meth : Method} {c : Code} {T0 : State} {locs : List Loc} {cells slots : Nat} {Z : State} {a0 : Array Value}  (s0 : Slot) (s1 : Slot) (s2 : Slot) (s3 : Slot) (s4 : Slot) (s5 : Slot) (s6 : Slot) (s7 : Slot) (s8 : Slot) (s9 : Slot) (s10 : Slot) (s11 : Slot) (s12 : Slot) (s13 : Slot) (s14 : Slot) (s15 : Slot) (s16 : Slot) (s17 : Slot) (s18 : Slot) (s19 : Slot) (s20 : Slot) (rj : Int32) (tg : Int32) (tc : Int32) (s24 : Slot) (s25 : Slot) (s26 : Slot) (s27 : Slot) (v0 : Int32) (hv0 : v0 = (if tc = (0 : Int32) then (if tg = (0 : Int32) then (1 : Int32) else rj) else rj))
    (X0 : Stand p l e R s m args below meth c T0 locs cells slots) (hx : p.tables.exec = Jvm.exec) (hZ : Z.Warmed39 s.vm) (hw : ∀ d ∈ tables_1, d.before a0 Z = true) (hby : c.code = code) (hown : s.vm.findClass "com/example/tagloom/tagloom/tlv/TlvDecoderPlainHeaderPinLaw" = some m.cls) {target : State}
    (kt : Steps p.tables e below (T0.setTop (mkF m 255 #[s0, s1, s2, s3, s4, s5, s6, s7, s8, s9, s10, s11, s12, s13, s14, s15, s16, s17, s18, s19, s20, .val (.int v0), .val (.int tg), .val (.int tc), s24, s25, s26, s27] [])) target) : Steps p.tables e below (T0.setTop (mkF m 242 #[s0, s1, s2, s3, s4, s5, s6, s7, s8, s9, s10, s11, s12, s13, s14, s15, s16, s17, s18, s19, s20, .val (.int rj), .val (.int tg), .val (.int tc), s24, s25, s26, s27] [])) target := by
  by_cases hc244 : tc = (0 : Int32)
  ·
    by_cases hc249 : tg = (0 : Int32)
    ·
      simp only [if_pos hc244, if_pos hc249] at hv0
      rw [hv0] at kt
      show Steps p.tables e below (T0.setTop (mkF m 242 #[s0, s1, s2, s3, s4, s5, s6, s7, s8, s9, s10, s11, s12, s13, s14, s15, s16, s17, s18, s19, s20, .val (.int rj), .val (.int tg), .val (.int tc), s24, s25, s26, s27] [])) _
      refine XS.iload X0.here hx rfl (hb hby at_242) rfl ?_
      show Steps p.tables e below (T0.setTop (mkF m 244 #[s0, s1, s2, s3, s4, s5, s6, s7, s8, s9, s10, s11, s12, s13, s14, s15, s16, s17, s18, s19, s20, .val (.int rj), .val (.int tg), .val (.int tc), s24, s25, s26, s27] [(.int tc)])) _
      refine XS.ifNo X0.here hx rfl (hb hby at_244) rfl ((if0 _ _).trans (teq hc244).2) ?_
      show Steps p.tables e below (T0.setTop (mkF m 247 #[s0, s1, s2, s3, s4, s5, s6, s7, s8, s9, s10, s11, s12, s13, s14, s15, s16, s17, s18, s19, s20, .val (.int rj), .val (.int tg), .val (.int tc), s24, s25, s26, s27] [])) _
      refine XS.iload X0.here hx rfl (hb hby at_247) rfl ?_
      show Steps p.tables e below (T0.setTop (mkF m 249 #[s0, s1, s2, s3, s4, s5, s6, s7, s8, s9, s10, s11, s12, s13, s14, s15, s16, s17, s18, s19, s20, .val (.int rj), .val (.int tg), .val (.int tc), s24, s25, s26, s27] [(.int tg)])) _
      refine XS.ifNo X0.here hx rfl (hb hby at_249) rfl ((if0 _ _).trans (teq hc249).2) ?_
      show Steps p.tables e below (T0.setTop (mkF m 252 #[s0, s1, s2, s3, s4, s5, s6, s7, s8, s9, s10, s11, s12, s13, s14, s15, s16, s17, s18, s19, s20, .val (.int rj), .val (.int tg), .val (.int tc), s24, s25, s26, s27] [])) _
      refine XS.iconst X0.here hx rfl (hb hby at_252) ?_
      show Steps p.tables e below (T0.setTop (mkF m 253 #[s0, s1, s2, s3, s4, s5, s6, s7, s8, s9, s10, s11, s12, s13, s14, s15, s16, s17, s18, s19, s20, .val (.int rj), .val (.int tg), .val (.int tc), s24, s25, s26, s27] [(.int (1 : Int32))])) _
      refine XS.istore X0.here hx rfl (hb hby at_253) rfl (l' := #[s0, s1, s2, s3, s4, s5, s6, s7, s8, s9, s10, s11, s12, s13, s14, s15, s16, s17, s18, s19, s20, .val (.int (1 : Int32)), .val (.int tg), .val (.int tc), s24, s25, s26, s27]) rfl ?_
      show Steps p.tables e below (T0.setTop (mkF m 255 #[s0, s1, s2, s3, s4, s5, s6, s7, s8, s9, s10, s11, s12, s13, s14, s15, s16, s17, s18, s19, s20, .val (.int (1 : Int32)), .val (.int tg), .val (.int tc), s24, s25, s26, s27] [])) _
      exact kt
    ·
      simp only [if_pos hc244, if_neg hc249] at hv0
      rw [hv0] at kt
      show Steps p.tables e below (T0.setTop (mkF m 242 #[s0, s1, s2, s3, s4, s5, s6, s7, s8, s9, s10, s11, s12, s13, s14, s15, s16, s17, s18, s19, s20, .val (.int rj), .val (.int tg), .val (.int tc), s24, s25, s26, s27] [])) _
      refine XS.iload X0.here hx rfl (hb hby at_242) rfl ?_
      show Steps p.tables e below (T0.setTop (mkF m 244 #[s0, s1, s2, s3, s4, s5, s6, s7, s8, s9, s10, s11, s12, s13, s14, s15, s16, s17, s18, s19, s20, .val (.int rj), .val (.int tg), .val (.int tc), s24, s25, s26, s27] [(.int tc)])) _
      refine XS.ifNo X0.here hx rfl (hb hby at_244) rfl ((if0 _ _).trans (teq hc244).2) ?_
      show Steps p.tables e below (T0.setTop (mkF m 247 #[s0, s1, s2, s3, s4, s5, s6, s7, s8, s9, s10, s11, s12, s13, s14, s15, s16, s17, s18, s19, s20, .val (.int rj), .val (.int tg), .val (.int tc), s24, s25, s26, s27] [])) _
      refine XS.iload X0.here hx rfl (hb hby at_247) rfl ?_
      show Steps p.tables e below (T0.setTop (mkF m 249 #[s0, s1, s2, s3, s4, s5, s6, s7, s8, s9, s10, s11, s12, s13, s14, s15, s16, s17, s18, s19, s20, .val (.int rj), .val (.int tg), .val (.int tc), s24, s25, s26, s27] [(.int tg)])) _
      refine XS.ifYes X0.here hx rfl (pc0 := 249) (pc' := 255) rfl (hb hby at_249) rfl ((if0 _ _).trans (feq hc249).2) (by decide) (by decide) ?_
      show Steps p.tables e below (T0.setTop (mkF m 255 #[s0, s1, s2, s3, s4, s5, s6, s7, s8, s9, s10, s11, s12, s13, s14, s15, s16, s17, s18, s19, s20, .val (.int rj), .val (.int tg), .val (.int tc), s24, s25, s26, s27] [])) _
      exact kt
  ·
    simp only [if_neg hc244] at hv0
    rw [hv0] at kt
    show Steps p.tables e below (T0.setTop (mkF m 242 #[s0, s1, s2, s3, s4, s5, s6, s7, s8, s9, s10, s11, s12, s13, s14, s15, s16, s17, s18, s19, s20, .val (.int rj), .val (.int tg), .val (.int tc), s24, s25, s26, s27] [])) _
    refine XS.iload X0.here hx rfl (hb hby at_242) rfl ?_
    show Steps p.tables e below (T0.setTop (mkF m 244 #[s0, s1, s2, s3, s4, s5, s6, s7, s8, s9, s10, s11, s12, s13, s14, s15, s16, s17, s18, s19, s20, .val (.int rj), .val (.int tg), .val (.int tc), s24, s25, s26, s27] [(.int tc)])) _
    refine XS.ifYes X0.here hx rfl (pc0 := 244) (pc' := 255) rfl (hb hby at_244) rfl ((if0 _ _).trans (feq hc244).2) (by decide) (by decide) ?_
    show Steps p.tables e below (T0.setTop (mkF m 255 #[s0, s1, s2, s3, s4, s5, s6, s7, s8, s9, s10, s11, s12, s13, s14, s15, s16, s17, s18, s19, s20, .val (.int rj), .val (.int tg), .val (.int tc), s24, s25, s26, s27] [])) _
    exact kt
set_option maxRecDepth 65536 in
set_option maxHeartbeats 40000000 in
theorem sg_288 {p : Program} {l : Launch} {e : Env} {R : Room} {s : State} {m : MethodId} {args : Array Value} {below : List Frame} {meth : Method} {c : Code} {T0 : State} {locs : List Loc} {cells slots : Nat} {Z : State} {a0 : Array Value}  (s0 : Slot) (s1 : Slot) (s2 : Slot) (s3 : Slot) (s4 : Slot) (s5 : Slot) (s6 : Slot) (s7 : Slot) (s8 : Slot) (s9 : Slot) (s10 : Slot) (s11 : Slot) (s12 : Slot) (s13 : Slot) (s14 : Slot) (s15 : Slot) (s16 : Slot) (s17 : Slot) (s18 : Slot) (room : Int64) (rj : Int32) (s22 : Slot) (s23 : Slot) (s24 : Slot) (s25 : Slot) (s26 : Slot) (nn : Int32) (v0 : Int32) (hv0 : v0 = (if nn = (0 : Int32) then (1 : Int32) else (if (4 : Int32) < nn then (1 : Int32) else (if (0 : Int32) < (lcmpW (nn.toInt64) (room - (2 : Int64))) then (1 : Int32) else rj))))
    (X0 : Stand p l e R s m args below meth c T0 locs cells slots) (hx : p.tables.exec = Jvm.exec) (hZ : Z.Warmed39 s.vm) (hw : ∀ d ∈ tables_1, d.before a0 Z = true) (hby : c.code = code) (hown : s.vm.findClass "com/example/tagloom/tagloom/tlv/TlvDecoderPlainHeaderPinLaw" = some m.cls) {target : State}
    (kt : Steps p.tables e below (T0.setTop (mkF m 315 #[s0, s1, s2, s3, s4, s5, s6, s7, s8, s9, s10, s11, s12, s13, s14, s15, s16, s17, s18, .val (.long room), .second, .val (.int v0), s22, s23, s24, s25, s26, .val (.int nn)] [])) target) : Steps p.tables e below (T0.setTop (mkF m 288 #[s0, s1, s2, s3, s4, s5, s6, s7, s8, s9, s10, s11, s12, s13, s14, s15, s16, s17, s18, .val (.long room), .second, .val (.int rj), s22, s23, s24, s25, s26, .val (.int nn)] [])) target := by
  by_cases hc290 : nn = (0 : Int32)
  ·
    simp only [if_pos hc290] at hv0
    rw [hv0] at kt
    show Steps p.tables e below (T0.setTop (mkF m 288 #[s0, s1, s2, s3, s4, s5, s6, s7, s8, s9, s10, s11, s12, s13, s14, s15, s16, s17, s18, .val (.long room), .second, .val (.int rj), s22, s23, s24, s25, s26, .val (.int nn)] [])) _
    refine XS.iload X0.here hx rfl (hb hby at_288) rfl ?_
    show Steps p.tables e below (T0.setTop (mkF m 290 #[s0, s1, s2, s3, s4, s5, s6, s7, s8, s9, s10, s11, s12, s13, s14, s15, s16, s17, s18, .val (.long room), .second, .val (.int rj), s22, s23, s24, s25, s26, .val (.int nn)] [(.int nn)])) _
    refine XS.ifYes X0.here hx rfl (pc0 := 290) (pc' := 312) rfl (hb hby at_290) rfl ((if0 _ _).trans (teq hc290).1) (by decide) (by decide) ?_
    show Steps p.tables e below (T0.setTop (mkF m 312 #[s0, s1, s2, s3, s4, s5, s6, s7, s8, s9, s10, s11, s12, s13, s14, s15, s16, s17, s18, .val (.long room), .second, .val (.int rj), s22, s23, s24, s25, s26, .val (.int nn)] [])) _
    refine XS.iconst X0.here hx rfl (hb hby at_312) ?_
    show Steps p.tables e below (T0.setTop (mkF m 313 #[s0, s1, s2, s3, s4, s5, s6, s7, s8, s9, s10, s11, s12, s13, s14, s15, s16, s17, s18, .val (.long room), .second, .val (.int rj), s22, s23, s24, s25, s26, .val (.int nn)] [(.int (1 : Int32))])) _
    refine XS.istore X0.here hx rfl (hb hby at_313) rfl (l' := #[s0, s1, s2, s3, s4, s5, s6, s7, s8, s9, s10, s11, s12, s13, s14, s15, s16, s17, s18, .val (.long room), .second, .val (.int (1 : Int32)), s22, s23, s24, s25, s26, .val (.int nn)]) rfl ?_
    show Steps p.tables e below (T0.setTop (mkF m 315 #[s0, s1, s2, s3, s4, s5, s6, s7, s8, s9, s10, s11, s12, s13, s14, s15, s16, s17, s18, .val (.long room), .second, .val (.int (1 : Int32)), s22, s23, s24, s25, s26, .val (.int nn)] [])) _
    exact kt
  ·
    by_cases hc296 : (4 : Int32) < nn
    ·
      simp only [if_neg hc290, if_pos hc296] at hv0
      rw [hv0] at kt
      show Steps p.tables e below (T0.setTop (mkF m 288 #[s0, s1, s2, s3, s4, s5, s6, s7, s8, s9, s10, s11, s12, s13, s14, s15, s16, s17, s18, .val (.long room), .second, .val (.int rj), s22, s23, s24, s25, s26, .val (.int nn)] [])) _
      refine XS.iload X0.here hx rfl (hb hby at_288) rfl ?_
      show Steps p.tables e below (T0.setTop (mkF m 290 #[s0, s1, s2, s3, s4, s5, s6, s7, s8, s9, s10, s11, s12, s13, s14, s15, s16, s17, s18, .val (.long room), .second, .val (.int rj), s22, s23, s24, s25, s26, .val (.int nn)] [(.int nn)])) _
      refine XS.ifNo X0.here hx rfl (hb hby at_290) rfl ((if0 _ _).trans (feq hc290).1) ?_
      show Steps p.tables e below (T0.setTop (mkF m 293 #[s0, s1, s2, s3, s4, s5, s6, s7, s8, s9, s10, s11, s12, s13, s14, s15, s16, s17, s18, .val (.long room), .second, .val (.int rj), s22, s23, s24, s25, s26, .val (.int nn)] [])) _
      refine XS.iload X0.here hx rfl (hb hby at_293) rfl ?_
      show Steps p.tables e below (T0.setTop (mkF m 295 #[s0, s1, s2, s3, s4, s5, s6, s7, s8, s9, s10, s11, s12, s13, s14, s15, s16, s17, s18, .val (.long room), .second, .val (.int rj), s22, s23, s24, s25, s26, .val (.int nn)] [(.int nn)])) _
      refine XS.iconst X0.here hx rfl (hb hby at_295) ?_
      show Steps p.tables e below (T0.setTop (mkF m 296 #[s0, s1, s2, s3, s4, s5, s6, s7, s8, s9, s10, s11, s12, s13, s14, s15, s16, s17, s18, .val (.long room), .second, .val (.int rj), s22, s23, s24, s25, s26, .val (.int nn)] [(.int (4 : Int32)), (.int nn)])) _
      refine XS.icmpYes X0.here hx rfl (pc0 := 296) (pc' := 312) rfl (hb hby at_296) rfl (tlt hc296).2.2.1 (by decide) (by decide) ?_
      show Steps p.tables e below (T0.setTop (mkF m 312 #[s0, s1, s2, s3, s4, s5, s6, s7, s8, s9, s10, s11, s12, s13, s14, s15, s16, s17, s18, .val (.long room), .second, .val (.int rj), s22, s23, s24, s25, s26, .val (.int nn)] [])) _
      refine XS.iconst X0.here hx rfl (hb hby at_312) ?_
      show Steps p.tables e below (T0.setTop (mkF m 313 #[s0, s1, s2, s3, s4, s5, s6, s7, s8, s9, s10, s11, s12, s13, s14, s15, s16, s17, s18, .val (.long room), .second, .val (.int rj), s22, s23, s24, s25, s26, .val (.int nn)] [(.int (1 : Int32))])) _
      refine XS.istore X0.here hx rfl (hb hby at_313) rfl (l' := #[s0, s1, s2, s3, s4, s5, s6, s7, s8, s9, s10, s11, s12, s13, s14, s15, s16, s17, s18, .val (.long room), .second, .val (.int (1 : Int32)), s22, s23, s24, s25, s26, .val (.int nn)]) rfl ?_
      show Steps p.tables e below (T0.setTop (mkF m 315 #[s0, s1, s2, s3, s4, s5, s6, s7, s8, s9, s10, s11, s12, s13, s14, s15, s16, s17, s18, .val (.long room), .second, .val (.int (1 : Int32)), s22, s23, s24, s25, s26, .val (.int nn)] [])) _
      exact kt
    ·
      by_cases hc309 : (0 : Int32) < (lcmpW (nn.toInt64) (room - (2 : Int64)))
      ·
        simp only [if_neg hc290, if_neg hc296, if_pos hc309] at hv0
        rw [hv0] at kt
        show Steps p.tables e below (T0.setTop (mkF m 288 #[s0, s1, s2, s3, s4, s5, s6, s7, s8, s9, s10, s11, s12, s13, s14, s15, s16, s17, s18, .val (.long room), .second, .val (.int rj), s22, s23, s24, s25, s26, .val (.int nn)] [])) _
        refine XS.iload X0.here hx rfl (hb hby at_288) rfl ?_
        show Steps p.tables e below (T0.setTop (mkF m 290 #[s0, s1, s2, s3, s4, s5, s6, s7, s8, s9, s10, s11, s12, s13, s14, s15, s16, s17, s18, .val (.long room), .second, .val (.int rj), s22, s23, s24, s25, s26, .val (.int nn)] [(.int nn)])) _
        refine XS.ifNo X0.here hx rfl (hb hby at_290) rfl ((if0 _ _).trans (feq hc290).1) ?_
        show Steps p.tables e below (T0.setTop (mkF m 293 #[s0, s1, s2, s3, s4, s5, s6, s7, s8, s9, s10, s11, s12, s13, s14, s15, s16, s17, s18, .val (.long room), .second, .val (.int rj), s22, s23, s24, s25, s26, .val (.int nn)] [])) _
        refine XS.iload X0.here hx rfl (hb hby at_293) rfl ?_
        show Steps p.tables e below (T0.setTop (mkF m 295 #[s0, s1, s2, s3, s4, s5, s6, s7, s8, s9, s10, s11, s12, s13, s14, s15, s16, s17, s18, .val (.long room), .second, .val (.int rj), s22, s23, s24, s25, s26, .val (.int nn)] [(.int nn)])) _
        refine XS.iconst X0.here hx rfl (hb hby at_295) ?_
        show Steps p.tables e below (T0.setTop (mkF m 296 #[s0, s1, s2, s3, s4, s5, s6, s7, s8, s9, s10, s11, s12, s13, s14, s15, s16, s17, s18, .val (.long room), .second, .val (.int rj), s22, s23, s24, s25, s26, .val (.int nn)] [(.int (4 : Int32)), (.int nn)])) _
        refine XS.icmpNo X0.here hx rfl (hb hby at_296) rfl (flt hc296).2.2.1 ?_
        show Steps p.tables e below (T0.setTop (mkF m 299 #[s0, s1, s2, s3, s4, s5, s6, s7, s8, s9, s10, s11, s12, s13, s14, s15, s16, s17, s18, .val (.long room), .second, .val (.int rj), s22, s23, s24, s25, s26, .val (.int nn)] [])) _
        refine XS.iload X0.here hx rfl (hb hby at_299) rfl ?_
        show Steps p.tables e below (T0.setTop (mkF m 301 #[s0, s1, s2, s3, s4, s5, s6, s7, s8, s9, s10, s11, s12, s13, s14, s15, s16, s17, s18, .val (.long room), .second, .val (.int rj), s22, s23, s24, s25, s26, .val (.int nn)] [(.int nn)])) _
        refine XS.i2l X0.here hx rfl (hb hby at_301) rfl ?_
        show Steps p.tables e below (T0.setTop (mkF m 302 #[s0, s1, s2, s3, s4, s5, s6, s7, s8, s9, s10, s11, s12, s13, s14, s15, s16, s17, s18, .val (.long room), .second, .val (.int rj), s22, s23, s24, s25, s26, .val (.int nn)] [(.long (nn.toInt64))])) _
        refine XS.lload X0.here hx rfl (hb hby at_302) rfl ?_
        show Steps p.tables e below (T0.setTop (mkF m 304 #[s0, s1, s2, s3, s4, s5, s6, s7, s8, s9, s10, s11, s12, s13, s14, s15, s16, s17, s18, .val (.long room), .second, .val (.int rj), s22, s23, s24, s25, s26, .val (.int nn)] [(.long room), (.long (nn.toInt64))])) _
        refine X0.ldc2Long hx hown (mvT hZ (hw _ (List.mem_of_getElem? (i := 8) rfl))) (g := (mkF m 304 #[s0, s1, s2, s3, s4, s5, s6, s7, s8, s9, s10, s11, s12, s13, s14, s15, s16, s17, s18, .val (.long room), .second, .val (.int rj), s22, s23, s24, s25, s26, .val (.int nn)] [(.long room), (.long (nn.toInt64))])) rfl (hb hby at_304) _ ?_
        show Steps p.tables e below (T0.setTop (mkF m 307 #[s0, s1, s2, s3, s4, s5, s6, s7, s8, s9, s10, s11, s12, s13, s14, s15, s16, s17, s18, .val (.long room), .second, .val (.int rj), s22, s23, s24, s25, s26, .val (.int nn)] [(.long (2 : Int64)), (.long room), (.long (nn.toInt64))])) _
        refine XS.lsub X0.here hx rfl (hb hby at_307) rfl ?_
        show Steps p.tables e below (T0.setTop (mkF m 308 #[s0, s1, s2, s3, s4, s5, s6, s7, s8, s9, s10, s11, s12, s13, s14, s15, s16, s17, s18, .val (.long room), .second, .val (.int rj), s22, s23, s24, s25, s26, .val (.int nn)] [(.long (room - (2 : Int64))), (.long (nn.toInt64))])) _
        refine XS.lcmp X0.here hx rfl (hb hby at_308) rfl ?_
        show Steps p.tables e below (T0.setTop (mkF m 309 #[s0, s1, s2, s3, s4, s5, s6, s7, s8, s9, s10, s11, s12, s13, s14, s15, s16, s17, s18, .val (.long room), .second, .val (.int rj), s22, s23, s24, s25, s26, .val (.int nn)] [(.int (lcmpW (nn.toInt64) (room - (2 : Int64))))])) _
        refine XS.ifNo X0.here hx rfl (hb hby at_309) rfl ((if0 _ _).trans (tlt hc309).2.2.2) ?_
        show Steps p.tables e below (T0.setTop (mkF m 312 #[s0, s1, s2, s3, s4, s5, s6, s7, s8, s9, s10, s11, s12, s13, s14, s15, s16, s17, s18, .val (.long room), .second, .val (.int rj), s22, s23, s24, s25, s26, .val (.int nn)] [])) _
        refine XS.iconst X0.here hx rfl (hb hby at_312) ?_
        show Steps p.tables e below (T0.setTop (mkF m 313 #[s0, s1, s2, s3, s4, s5, s6, s7, s8, s9, s10, s11, s12, s13, s14, s15, s16, s17, s18, .val (.long room), .second, .val (.int rj), s22, s23, s24, s25, s26, .val (.int nn)] [(.int (1 : Int32))])) _
        refine XS.istore X0.here hx rfl (hb hby at_313) rfl (l' := #[s0, s1, s2, s3, s4, s5, s6, s7, s8, s9, s10, s11, s12, s13, s14, s15, s16, s17, s18, .val (.long room), .second, .val (.int (1 : Int32)), s22, s23, s24, s25, s26, .val (.int nn)]) rfl ?_
        show Steps p.tables e below (T0.setTop (mkF m 315 #[s0, s1, s2, s3, s4, s5, s6, s7, s8, s9, s10, s11, s12, s13, s14, s15, s16, s17, s18, .val (.long room), .second, .val (.int (1 : Int32)), s22, s23, s24, s25, s26, .val (.int nn)] [])) _
        exact kt
      ·
        simp only [if_neg hc290, if_neg hc296, if_neg hc309] at hv0
        rw [hv0] at kt
        show Steps p.tables e below (T0.setTop (mkF m 288 #[s0, s1, s2, s3, s4, s5, s6, s7, s8, s9, s10, s11, s12, s13, s14, s15, s16, s17, s18, .val (.long room), .second, .val (.int rj), s22, s23, s24, s25, s26, .val (.int nn)] [])) _
        refine XS.iload X0.here hx rfl (hb hby at_288) rfl ?_
        show Steps p.tables e below (T0.setTop (mkF m 290 #[s0, s1, s2, s3, s4, s5, s6, s7, s8, s9, s10, s11, s12, s13, s14, s15, s16, s17, s18, .val (.long room), .second, .val (.int rj), s22, s23, s24, s25, s26, .val (.int nn)] [(.int nn)])) _
        refine XS.ifNo X0.here hx rfl (hb hby at_290) rfl ((if0 _ _).trans (feq hc290).1) ?_
        show Steps p.tables e below (T0.setTop (mkF m 293 #[s0, s1, s2, s3, s4, s5, s6, s7, s8, s9, s10, s11, s12, s13, s14, s15, s16, s17, s18, .val (.long room), .second, .val (.int rj), s22, s23, s24, s25, s26, .val (.int nn)] [])) _
        refine XS.iload X0.here hx rfl (hb hby at_293) rfl ?_
        show Steps p.tables e below (T0.setTop (mkF m 295 #[s0, s1, s2, s3, s4, s5, s6, s7, s8, s9, s10, s11, s12, s13, s14, s15, s16, s17, s18, .val (.long room), .second, .val (.int rj), s22, s23, s24, s25, s26, .val (.int nn)] [(.int nn)])) _
        refine XS.iconst X0.here hx rfl (hb hby at_295) ?_
        show Steps p.tables e below (T0.setTop (mkF m 296 #[s0, s1, s2, s3, s4, s5, s6, s7, s8, s9, s10, s11, s12, s13, s14, s15, s16, s17, s18, .val (.long room), .second, .val (.int rj), s22, s23, s24, s25, s26, .val (.int nn)] [(.int (4 : Int32)), (.int nn)])) _
        refine XS.icmpNo X0.here hx rfl (hb hby at_296) rfl (flt hc296).2.2.1 ?_
        show Steps p.tables e below (T0.setTop (mkF m 299 #[s0, s1, s2, s3, s4, s5, s6, s7, s8, s9, s10, s11, s12, s13, s14, s15, s16, s17, s18, .val (.long room), .second, .val (.int rj), s22, s23, s24, s25, s26, .val (.int nn)] [])) _
        refine XS.iload X0.here hx rfl (hb hby at_299) rfl ?_
        show Steps p.tables e below (T0.setTop (mkF m 301 #[s0, s1, s2, s3, s4, s5, s6, s7, s8, s9, s10, s11, s12, s13, s14, s15, s16, s17, s18, .val (.long room), .second, .val (.int rj), s22, s23, s24, s25, s26, .val (.int nn)] [(.int nn)])) _
        refine XS.i2l X0.here hx rfl (hb hby at_301) rfl ?_
        show Steps p.tables e below (T0.setTop (mkF m 302 #[s0, s1, s2, s3, s4, s5, s6, s7, s8, s9, s10, s11, s12, s13, s14, s15, s16, s17, s18, .val (.long room), .second, .val (.int rj), s22, s23, s24, s25, s26, .val (.int nn)] [(.long (nn.toInt64))])) _
        refine XS.lload X0.here hx rfl (hb hby at_302) rfl ?_
        show Steps p.tables e below (T0.setTop (mkF m 304 #[s0, s1, s2, s3, s4, s5, s6, s7, s8, s9, s10, s11, s12, s13, s14, s15, s16, s17, s18, .val (.long room), .second, .val (.int rj), s22, s23, s24, s25, s26, .val (.int nn)] [(.long room), (.long (nn.toInt64))])) _
        refine X0.ldc2Long hx hown (mvT hZ (hw _ (List.mem_of_getElem? (i := 8) rfl))) (g := (mkF m 304 #[s0, s1, s2, s3, s4, s5, s6, s7, s8, s9, s10, s11, s12, s13, s14, s15, s16, s17, s18, .val (.long room), .second, .val (.int rj), s22, s23, s24, s25, s26, .val (.int nn)] [(.long room), (.long (nn.toInt64))])) rfl (hb hby at_304) _ ?_
        show Steps p.tables e below (T0.setTop (mkF m 307 #[s0, s1, s2, s3, s4, s5, s6, s7, s8, s9, s10, s11, s12, s13, s14, s15, s16, s17, s18, .val (.long room), .second, .val (.int rj), s22, s23, s24, s25, s26, .val (.int nn)] [(.long (2 : Int64)), (.long room), (.long (nn.toInt64))])) _
        refine XS.lsub X0.here hx rfl (hb hby at_307) rfl ?_
        show Steps p.tables e below (T0.setTop (mkF m 308 #[s0, s1, s2, s3, s4, s5, s6, s7, s8, s9, s10, s11, s12, s13, s14, s15, s16, s17, s18, .val (.long room), .second, .val (.int rj), s22, s23, s24, s25, s26, .val (.int nn)] [(.long (room - (2 : Int64))), (.long (nn.toInt64))])) _
        refine XS.lcmp X0.here hx rfl (hb hby at_308) rfl ?_
        show Steps p.tables e below (T0.setTop (mkF m 309 #[s0, s1, s2, s3, s4, s5, s6, s7, s8, s9, s10, s11, s12, s13, s14, s15, s16, s17, s18, .val (.long room), .second, .val (.int rj), s22, s23, s24, s25, s26, .val (.int nn)] [(.int (lcmpW (nn.toInt64) (room - (2 : Int64))))])) _
        refine XS.ifYes X0.here hx rfl (pc0 := 309) (pc' := 315) rfl (hb hby at_309) rfl ((if0 _ _).trans (flt hc309).2.2.2) (by decide) (by decide) ?_
        show Steps p.tables e below (T0.setTop (mkF m 315 #[s0, s1, s2, s3, s4, s5, s6, s7, s8, s9, s10, s11, s12, s13, s14, s15, s16, s17, s18, .val (.long room), .second, .val (.int rj), s22, s23, s24, s25, s26, .val (.int nn)] [])) _
        exact kt
set_option maxRecDepth 65536 in
set_option maxHeartbeats 40000000 in
theorem sg_315 {p : Program} {l : Launch} {e : Env} {R : Room} {s : State} {m : MethodId} {args : Array Value} {below : List Frame} {meth : Method} {c : Code} {T0 : State} {locs : List Loc} {cells slots : Nat} {Z : State} {a0 : Array Value}  (s0 : Slot) (s1 : Slot) (s2 : Slot) (s3 : Slot) (s4 : Slot) (s5 : Slot) (s6 : Slot) (s7 : Slot) (s8 : Slot) (s9 : Slot) (s10 : Slot) (b2 : Int64) (b3 : Int64) (b4 : Int64) (b5 : Int64) (s19 : Slot) (s20 : Slot) (s21 : Slot) (s22 : Slot) (s23 : Slot) (s24 : Slot) (nn : Int32) (v0 : Int64) (hv0 : v0 = (if (1 : Int32) < nn then (if nn = (2 : Int32) then ((b2 * (256 : Int64)) + b3) else (if nn = (3 : Int32) then ((((b2 * (256 : Int64)) + b3) * (256 : Int64)) + b4) else ((((((b2 * (256 : Int64)) + b3) * (256 : Int64)) + b4) * (256 : Int64)) + b5))) else b2))
    (X0 : Stand p l e R s m args below meth c T0 locs cells slots) (hx : p.tables.exec = Jvm.exec) (hZ : Z.Warmed39 s.vm) (hw : ∀ d ∈ tables_1, d.before a0 Z = true) (hby : c.code = code) (hown : s.vm.findClass "com/example/tagloom/tagloom/tlv/TlvDecoderPlainHeaderPinLaw" = some m.cls) {target : State}
    (kt : Steps p.tables e below (T0.setTop (mkF m 400 #[s0, s1, s2, s3, s4, s5, s6, s7, s8, s9, s10, .val (.long b2), .second, .val (.long b3), .second, .val (.long b4), .second, .val (.long b5), .second, s19, s20, s21, s22, s23, s24, .val (.long v0), .second, .val (.int nn)] [])) target) : Steps p.tables e below (T0.setTop (mkF m 315 #[s0, s1, s2, s3, s4, s5, s6, s7, s8, s9, s10, .val (.long b2), .second, .val (.long b3), .second, .val (.long b4), .second, .val (.long b5), .second, s19, s20, s21, s22, s23, s24, .unset, .unset, .val (.int nn)] [])) target := by
  by_cases hc318 : (1 : Int32) < nn
  ·
    by_cases hc331 : nn = (2 : Int32)
    ·
      simp only [if_pos hc318, if_pos hc331] at hv0
      rw [hv0] at kt
      show Steps p.tables e below (T0.setTop (mkF m 315 #[s0, s1, s2, s3, s4, s5, s6, s7, s8, s9, s10, .val (.long b2), .second, .val (.long b3), .second, .val (.long b4), .second, .val (.long b5), .second, s19, s20, s21, s22, s23, s24, .unset, .unset, .val (.int nn)] [])) _
      refine XS.iload X0.here hx rfl (hb hby at_315) rfl ?_
      show Steps p.tables e below (T0.setTop (mkF m 317 #[s0, s1, s2, s3, s4, s5, s6, s7, s8, s9, s10, .val (.long b2), .second, .val (.long b3), .second, .val (.long b4), .second, .val (.long b5), .second, s19, s20, s21, s22, s23, s24, .unset, .unset, .val (.int nn)] [(.int nn)])) _
      refine XS.iconst X0.here hx rfl (hb hby at_317) ?_
      show Steps p.tables e below (T0.setTop (mkF m 318 #[s0, s1, s2, s3, s4, s5, s6, s7, s8, s9, s10, .val (.long b2), .second, .val (.long b3), .second, .val (.long b4), .second, .val (.long b5), .second, s19, s20, s21, s22, s23, s24, .unset, .unset, .val (.int nn)] [(.int (1 : Int32)), (.int nn)])) _
      refine XS.icmpYes X0.here hx rfl (pc0 := 318) (pc' := 328) rfl (hb hby at_318) rfl (tlt hc318).2.2.1 (by decide) (by decide) ?_
      show Steps p.tables e below (T0.setTop (mkF m 328 #[s0, s1, s2, s3, s4, s5, s6, s7, s8, s9, s10, .val (.long b2), .second, .val (.long b3), .second, .val (.long b4), .second, .val (.long b5), .second, s19, s20, s21, s22, s23, s24, .unset, .unset, .val (.int nn)] [])) _
      refine XS.iload X0.here hx rfl (hb hby at_328) rfl ?_
      show Steps p.tables e below (T0.setTop (mkF m 330 #[s0, s1, s2, s3, s4, s5, s6, s7, s8, s9, s10, .val (.long b2), .second, .val (.long b3), .second, .val (.long b4), .second, .val (.long b5), .second, s19, s20, s21, s22, s23, s24, .unset, .unset, .val (.int nn)] [(.int nn)])) _
      refine XS.iconst X0.here hx rfl (hb hby at_330) ?_
      show Steps p.tables e below (T0.setTop (mkF m 331 #[s0, s1, s2, s3, s4, s5, s6, s7, s8, s9, s10, .val (.long b2), .second, .val (.long b3), .second, .val (.long b4), .second, .val (.long b5), .second, s19, s20, s21, s22, s23, s24, .unset, .unset, .val (.int nn)] [(.int (2 : Int32)), (.int nn)])) _
      refine XS.icmpNo X0.here hx rfl (hb hby at_331) rfl (teq hc331).2 ?_
      show Steps p.tables e below (T0.setTop (mkF m 334 #[s0, s1, s2, s3, s4, s5, s6, s7, s8, s9, s10, .val (.long b2), .second, .val (.long b3), .second, .val (.long b4), .second, .val (.long b5), .second, s19, s20, s21, s22, s23, s24, .unset, .unset, .val (.int nn)] [])) _
      refine XS.lload X0.here hx rfl (hb hby at_334) rfl ?_
      show Steps p.tables e below (T0.setTop (mkF m 336 #[s0, s1, s2, s3, s4, s5, s6, s7, s8, s9, s10, .val (.long b2), .second, .val (.long b3), .second, .val (.long b4), .second, .val (.long b5), .second, s19, s20, s21, s22, s23, s24, .unset, .unset, .val (.int nn)] [(.long b2)])) _
      refine X0.ldc2Long hx hown (mvT hZ (hw _ (List.mem_of_getElem? (i := 10) rfl))) (g := (mkF m 336 #[s0, s1, s2, s3, s4, s5, s6, s7, s8, s9, s10, .val (.long b2), .second, .val (.long b3), .second, .val (.long b4), .second, .val (.long b5), .second, s19, s20, s21, s22, s23, s24, .unset, .unset, .val (.int nn)] [(.long b2)])) rfl (hb hby at_336) _ ?_
      show Steps p.tables e below (T0.setTop (mkF m 339 #[s0, s1, s2, s3, s4, s5, s6, s7, s8, s9, s10, .val (.long b2), .second, .val (.long b3), .second, .val (.long b4), .second, .val (.long b5), .second, s19, s20, s21, s22, s23, s24, .unset, .unset, .val (.int nn)] [(.long (256 : Int64)), (.long b2)])) _
      refine XS.lmul X0.here hx rfl (hb hby at_339) rfl ?_
      show Steps p.tables e below (T0.setTop (mkF m 340 #[s0, s1, s2, s3, s4, s5, s6, s7, s8, s9, s10, .val (.long b2), .second, .val (.long b3), .second, .val (.long b4), .second, .val (.long b5), .second, s19, s20, s21, s22, s23, s24, .unset, .unset, .val (.int nn)] [(.long (b2 * (256 : Int64)))])) _
      refine XS.lload X0.here hx rfl (hb hby at_340) rfl ?_
      show Steps p.tables e below (T0.setTop (mkF m 342 #[s0, s1, s2, s3, s4, s5, s6, s7, s8, s9, s10, .val (.long b2), .second, .val (.long b3), .second, .val (.long b4), .second, .val (.long b5), .second, s19, s20, s21, s22, s23, s24, .unset, .unset, .val (.int nn)] [(.long b3), (.long (b2 * (256 : Int64)))])) _
      refine XS.ladd X0.here hx rfl (hb hby at_342) rfl ?_
      show Steps p.tables e below (T0.setTop (mkF m 343 #[s0, s1, s2, s3, s4, s5, s6, s7, s8, s9, s10, .val (.long b2), .second, .val (.long b3), .second, .val (.long b4), .second, .val (.long b5), .second, s19, s20, s21, s22, s23, s24, .unset, .unset, .val (.int nn)] [(.long ((b2 * (256 : Int64)) + b3))])) _
      refine XS.lstore X0.here hx rfl (hb hby at_343) rfl (l' := #[s0, s1, s2, s3, s4, s5, s6, s7, s8, s9, s10, .val (.long b2), .second, .val (.long b3), .second, .val (.long b4), .second, .val (.long b5), .second, s19, s20, s21, s22, s23, s24, .val (.long ((b2 * (256 : Int64)) + b3)), .second, .val (.int nn)]) rfl ?_
      show Steps p.tables e below (T0.setTop (mkF m 345 #[s0, s1, s2, s3, s4, s5, s6, s7, s8, s9, s10, .val (.long b2), .second, .val (.long b3), .second, .val (.long b4), .second, .val (.long b5), .second, s19, s20, s21, s22, s23, s24, .val (.long ((b2 * (256 : Int64)) + b3)), .second, .val (.int nn)] [])) _
      refine XS.goto X0.here hx rfl (pc0 := 345) (pc' := 400) rfl (hb hby at_345) (by decide) (by decide) ?_
      show Steps p.tables e below (T0.setTop (mkF m 400 #[s0, s1, s2, s3, s4, s5, s6, s7, s8, s9, s10, .val (.long b2), .second, .val (.long b3), .second, .val (.long b4), .second, .val (.long b5), .second, s19, s20, s21, s22, s23, s24, .val (.long ((b2 * (256 : Int64)) + b3)), .second, .val (.int nn)] [])) _
      exact kt
    ·
      by_cases hc351 : nn = (3 : Int32)
      ·
        simp only [if_pos hc318, if_neg hc331, if_pos hc351] at hv0
        rw [hv0] at kt
        show Steps p.tables e below (T0.setTop (mkF m 315 #[s0, s1, s2, s3, s4, s5, s6, s7, s8, s9, s10, .val (.long b2), .second, .val (.long b3), .second, .val (.long b4), .second, .val (.long b5), .second, s19, s20, s21, s22, s23, s24, .unset, .unset, .val (.int nn)] [])) _
        refine XS.iload X0.here hx rfl (hb hby at_315) rfl ?_
        show Steps p.tables e below (T0.setTop (mkF m 317 #[s0, s1, s2, s3, s4, s5, s6, s7, s8, s9, s10, .val (.long b2), .second, .val (.long b3), .second, .val (.long b4), .second, .val (.long b5), .second, s19, s20, s21, s22, s23, s24, .unset, .unset, .val (.int nn)] [(.int nn)])) _
        refine XS.iconst X0.here hx rfl (hb hby at_317) ?_
        show Steps p.tables e below (T0.setTop (mkF m 318 #[s0, s1, s2, s3, s4, s5, s6, s7, s8, s9, s10, .val (.long b2), .second, .val (.long b3), .second, .val (.long b4), .second, .val (.long b5), .second, s19, s20, s21, s22, s23, s24, .unset, .unset, .val (.int nn)] [(.int (1 : Int32)), (.int nn)])) _
        refine XS.icmpYes X0.here hx rfl (pc0 := 318) (pc' := 328) rfl (hb hby at_318) rfl (tlt hc318).2.2.1 (by decide) (by decide) ?_
        show Steps p.tables e below (T0.setTop (mkF m 328 #[s0, s1, s2, s3, s4, s5, s6, s7, s8, s9, s10, .val (.long b2), .second, .val (.long b3), .second, .val (.long b4), .second, .val (.long b5), .second, s19, s20, s21, s22, s23, s24, .unset, .unset, .val (.int nn)] [])) _
        refine XS.iload X0.here hx rfl (hb hby at_328) rfl ?_
        show Steps p.tables e below (T0.setTop (mkF m 330 #[s0, s1, s2, s3, s4, s5, s6, s7, s8, s9, s10, .val (.long b2), .second, .val (.long b3), .second, .val (.long b4), .second, .val (.long b5), .second, s19, s20, s21, s22, s23, s24, .unset, .unset, .val (.int nn)] [(.int nn)])) _
        refine XS.iconst X0.here hx rfl (hb hby at_330) ?_
        show Steps p.tables e below (T0.setTop (mkF m 331 #[s0, s1, s2, s3, s4, s5, s6, s7, s8, s9, s10, .val (.long b2), .second, .val (.long b3), .second, .val (.long b4), .second, .val (.long b5), .second, s19, s20, s21, s22, s23, s24, .unset, .unset, .val (.int nn)] [(.int (2 : Int32)), (.int nn)])) _
        refine XS.icmpYes X0.here hx rfl (pc0 := 331) (pc' := 348) rfl (hb hby at_331) rfl (feq hc331).2 (by decide) (by decide) ?_
        show Steps p.tables e below (T0.setTop (mkF m 348 #[s0, s1, s2, s3, s4, s5, s6, s7, s8, s9, s10, .val (.long b2), .second, .val (.long b3), .second, .val (.long b4), .second, .val (.long b5), .second, s19, s20, s21, s22, s23, s24, .unset, .unset, .val (.int nn)] [])) _
        refine XS.iload X0.here hx rfl (hb hby at_348) rfl ?_
        show Steps p.tables e below (T0.setTop (mkF m 350 #[s0, s1, s2, s3, s4, s5, s6, s7, s8, s9, s10, .val (.long b2), .second, .val (.long b3), .second, .val (.long b4), .second, .val (.long b5), .second, s19, s20, s21, s22, s23, s24, .unset, .unset, .val (.int nn)] [(.int nn)])) _
        refine XS.iconst X0.here hx rfl (hb hby at_350) ?_
        show Steps p.tables e below (T0.setTop (mkF m 351 #[s0, s1, s2, s3, s4, s5, s6, s7, s8, s9, s10, .val (.long b2), .second, .val (.long b3), .second, .val (.long b4), .second, .val (.long b5), .second, s19, s20, s21, s22, s23, s24, .unset, .unset, .val (.int nn)] [(.int (3 : Int32)), (.int nn)])) _
        refine XS.icmpNo X0.here hx rfl (hb hby at_351) rfl (teq hc351).2 ?_
        show Steps p.tables e below (T0.setTop (mkF m 354 #[s0, s1, s2, s3, s4, s5, s6, s7, s8, s9, s10, .val (.long b2), .second, .val (.long b3), .second, .val (.long b4), .second, .val (.long b5), .second, s19, s20, s21, s22, s23, s24, .unset, .unset, .val (.int nn)] [])) _
        refine XS.lload X0.here hx rfl (hb hby at_354) rfl ?_
        show Steps p.tables e below (T0.setTop (mkF m 356 #[s0, s1, s2, s3, s4, s5, s6, s7, s8, s9, s10, .val (.long b2), .second, .val (.long b3), .second, .val (.long b4), .second, .val (.long b5), .second, s19, s20, s21, s22, s23, s24, .unset, .unset, .val (.int nn)] [(.long b2)])) _
        refine X0.ldc2Long hx hown (mvT hZ (hw _ (List.mem_of_getElem? (i := 10) rfl))) (g := (mkF m 356 #[s0, s1, s2, s3, s4, s5, s6, s7, s8, s9, s10, .val (.long b2), .second, .val (.long b3), .second, .val (.long b4), .second, .val (.long b5), .second, s19, s20, s21, s22, s23, s24, .unset, .unset, .val (.int nn)] [(.long b2)])) rfl (hb hby at_356) _ ?_
        show Steps p.tables e below (T0.setTop (mkF m 359 #[s0, s1, s2, s3, s4, s5, s6, s7, s8, s9, s10, .val (.long b2), .second, .val (.long b3), .second, .val (.long b4), .second, .val (.long b5), .second, s19, s20, s21, s22, s23, s24, .unset, .unset, .val (.int nn)] [(.long (256 : Int64)), (.long b2)])) _
        refine XS.lmul X0.here hx rfl (hb hby at_359) rfl ?_
        show Steps p.tables e below (T0.setTop (mkF m 360 #[s0, s1, s2, s3, s4, s5, s6, s7, s8, s9, s10, .val (.long b2), .second, .val (.long b3), .second, .val (.long b4), .second, .val (.long b5), .second, s19, s20, s21, s22, s23, s24, .unset, .unset, .val (.int nn)] [(.long (b2 * (256 : Int64)))])) _
        refine XS.lload X0.here hx rfl (hb hby at_360) rfl ?_
        show Steps p.tables e below (T0.setTop (mkF m 362 #[s0, s1, s2, s3, s4, s5, s6, s7, s8, s9, s10, .val (.long b2), .second, .val (.long b3), .second, .val (.long b4), .second, .val (.long b5), .second, s19, s20, s21, s22, s23, s24, .unset, .unset, .val (.int nn)] [(.long b3), (.long (b2 * (256 : Int64)))])) _
        refine XS.ladd X0.here hx rfl (hb hby at_362) rfl ?_
        show Steps p.tables e below (T0.setTop (mkF m 363 #[s0, s1, s2, s3, s4, s5, s6, s7, s8, s9, s10, .val (.long b2), .second, .val (.long b3), .second, .val (.long b4), .second, .val (.long b5), .second, s19, s20, s21, s22, s23, s24, .unset, .unset, .val (.int nn)] [(.long ((b2 * (256 : Int64)) + b3))])) _
        refine X0.ldc2Long hx hown (mvT hZ (hw _ (List.mem_of_getElem? (i := 10) rfl))) (g := (mkF m 363 #[s0, s1, s2, s3, s4, s5, s6, s7, s8, s9, s10, .val (.long b2), .second, .val (.long b3), .second, .val (.long b4), .second, .val (.long b5), .second, s19, s20, s21, s22, s23, s24, .unset, .unset, .val (.int nn)] [(.long ((b2 * (256 : Int64)) + b3))])) rfl (hb hby at_363) _ ?_
        show Steps p.tables e below (T0.setTop (mkF m 366 #[s0, s1, s2, s3, s4, s5, s6, s7, s8, s9, s10, .val (.long b2), .second, .val (.long b3), .second, .val (.long b4), .second, .val (.long b5), .second, s19, s20, s21, s22, s23, s24, .unset, .unset, .val (.int nn)] [(.long (256 : Int64)), (.long ((b2 * (256 : Int64)) + b3))])) _
        refine XS.lmul X0.here hx rfl (hb hby at_366) rfl ?_
        show Steps p.tables e below (T0.setTop (mkF m 367 #[s0, s1, s2, s3, s4, s5, s6, s7, s8, s9, s10, .val (.long b2), .second, .val (.long b3), .second, .val (.long b4), .second, .val (.long b5), .second, s19, s20, s21, s22, s23, s24, .unset, .unset, .val (.int nn)] [(.long (((b2 * (256 : Int64)) + b3) * (256 : Int64)))])) _
        refine XS.lload X0.here hx rfl (hb hby at_367) rfl ?_
        show Steps p.tables e below (T0.setTop (mkF m 369 #[s0, s1, s2, s3, s4, s5, s6, s7, s8, s9, s10, .val (.long b2), .second, .val (.long b3), .second, .val (.long b4), .second, .val (.long b5), .second, s19, s20, s21, s22, s23, s24, .unset, .unset, .val (.int nn)] [(.long b4), (.long (((b2 * (256 : Int64)) + b3) * (256 : Int64)))])) _
        refine XS.ladd X0.here hx rfl (hb hby at_369) rfl ?_
        show Steps p.tables e below (T0.setTop (mkF m 370 #[s0, s1, s2, s3, s4, s5, s6, s7, s8, s9, s10, .val (.long b2), .second, .val (.long b3), .second, .val (.long b4), .second, .val (.long b5), .second, s19, s20, s21, s22, s23, s24, .unset, .unset, .val (.int nn)] [(.long ((((b2 * (256 : Int64)) + b3) * (256 : Int64)) + b4))])) _
        refine XS.lstore X0.here hx rfl (hb hby at_370) rfl (l' := #[s0, s1, s2, s3, s4, s5, s6, s7, s8, s9, s10, .val (.long b2), .second, .val (.long b3), .second, .val (.long b4), .second, .val (.long b5), .second, s19, s20, s21, s22, s23, s24, .val (.long ((((b2 * (256 : Int64)) + b3) * (256 : Int64)) + b4)), .second, .val (.int nn)]) rfl ?_
        show Steps p.tables e below (T0.setTop (mkF m 372 #[s0, s1, s2, s3, s4, s5, s6, s7, s8, s9, s10, .val (.long b2), .second, .val (.long b3), .second, .val (.long b4), .second, .val (.long b5), .second, s19, s20, s21, s22, s23, s24, .val (.long ((((b2 * (256 : Int64)) + b3) * (256 : Int64)) + b4)), .second, .val (.int nn)] [])) _
        refine XS.goto X0.here hx rfl (pc0 := 372) (pc' := 400) rfl (hb hby at_372) (by decide) (by decide) ?_
        show Steps p.tables e below (T0.setTop (mkF m 400 #[s0, s1, s2, s3, s4, s5, s6, s7, s8, s9, s10, .val (.long b2), .second, .val (.long b3), .second, .val (.long b4), .second, .val (.long b5), .second, s19, s20, s21, s22, s23, s24, .val (.long ((((b2 * (256 : Int64)) + b3) * (256 : Int64)) + b4)), .second, .val (.int nn)] [])) _
        exact kt
      ·
        simp only [if_pos hc318, if_neg hc331, if_neg hc351] at hv0
        rw [hv0] at kt
        show Steps p.tables e below (T0.setTop (mkF m 315 #[s0, s1, s2, s3, s4, s5, s6, s7, s8, s9, s10, .val (.long b2), .second, .val (.long b3), .second, .val (.long b4), .second, .val (.long b5), .second, s19, s20, s21, s22, s23, s24, .unset, .unset, .val (.int nn)] [])) _
        refine XS.iload X0.here hx rfl (hb hby at_315) rfl ?_
        show Steps p.tables e below (T0.setTop (mkF m 317 #[s0, s1, s2, s3, s4, s5, s6, s7, s8, s9, s10, .val (.long b2), .second, .val (.long b3), .second, .val (.long b4), .second, .val (.long b5), .second, s19, s20, s21, s22, s23, s24, .unset, .unset, .val (.int nn)] [(.int nn)])) _
        refine XS.iconst X0.here hx rfl (hb hby at_317) ?_
        show Steps p.tables e below (T0.setTop (mkF m 318 #[s0, s1, s2, s3, s4, s5, s6, s7, s8, s9, s10, .val (.long b2), .second, .val (.long b3), .second, .val (.long b4), .second, .val (.long b5), .second, s19, s20, s21, s22, s23, s24, .unset, .unset, .val (.int nn)] [(.int (1 : Int32)), (.int nn)])) _
        refine XS.icmpYes X0.here hx rfl (pc0 := 318) (pc' := 328) rfl (hb hby at_318) rfl (tlt hc318).2.2.1 (by decide) (by decide) ?_
        show Steps p.tables e below (T0.setTop (mkF m 328 #[s0, s1, s2, s3, s4, s5, s6, s7, s8, s9, s10, .val (.long b2), .second, .val (.long b3), .second, .val (.long b4), .second, .val (.long b5), .second, s19, s20, s21, s22, s23, s24, .unset, .unset, .val (.int nn)] [])) _
        refine XS.iload X0.here hx rfl (hb hby at_328) rfl ?_
        show Steps p.tables e below (T0.setTop (mkF m 330 #[s0, s1, s2, s3, s4, s5, s6, s7, s8, s9, s10, .val (.long b2), .second, .val (.long b3), .second, .val (.long b4), .second, .val (.long b5), .second, s19, s20, s21, s22, s23, s24, .unset, .unset, .val (.int nn)] [(.int nn)])) _
        refine XS.iconst X0.here hx rfl (hb hby at_330) ?_
        show Steps p.tables e below (T0.setTop (mkF m 331 #[s0, s1, s2, s3, s4, s5, s6, s7, s8, s9, s10, .val (.long b2), .second, .val (.long b3), .second, .val (.long b4), .second, .val (.long b5), .second, s19, s20, s21, s22, s23, s24, .unset, .unset, .val (.int nn)] [(.int (2 : Int32)), (.int nn)])) _
        refine XS.icmpYes X0.here hx rfl (pc0 := 331) (pc' := 348) rfl (hb hby at_331) rfl (feq hc331).2 (by decide) (by decide) ?_
        show Steps p.tables e below (T0.setTop (mkF m 348 #[s0, s1, s2, s3, s4, s5, s6, s7, s8, s9, s10, .val (.long b2), .second, .val (.long b3), .second, .val (.long b4), .second, .val (.long b5), .second, s19, s20, s21, s22, s23, s24, .unset, .unset, .val (.int nn)] [])) _
        refine XS.iload X0.here hx rfl (hb hby at_348) rfl ?_
        show Steps p.tables e below (T0.setTop (mkF m 350 #[s0, s1, s2, s3, s4, s5, s6, s7, s8, s9, s10, .val (.long b2), .second, .val (.long b3), .second, .val (.long b4), .second, .val (.long b5), .second, s19, s20, s21, s22, s23, s24, .unset, .unset, .val (.int nn)] [(.int nn)])) _
        refine XS.iconst X0.here hx rfl (hb hby at_350) ?_
        show Steps p.tables e below (T0.setTop (mkF m 351 #[s0, s1, s2, s3, s4, s5, s6, s7, s8, s9, s10, .val (.long b2), .second, .val (.long b3), .second, .val (.long b4), .second, .val (.long b5), .second, s19, s20, s21, s22, s23, s24, .unset, .unset, .val (.int nn)] [(.int (3 : Int32)), (.int nn)])) _
        refine XS.icmpYes X0.here hx rfl (pc0 := 351) (pc' := 375) rfl (hb hby at_351) rfl (feq hc351).2 (by decide) (by decide) ?_
        show Steps p.tables e below (T0.setTop (mkF m 375 #[s0, s1, s2, s3, s4, s5, s6, s7, s8, s9, s10, .val (.long b2), .second, .val (.long b3), .second, .val (.long b4), .second, .val (.long b5), .second, s19, s20, s21, s22, s23, s24, .unset, .unset, .val (.int nn)] [])) _
        refine XS.lload X0.here hx rfl (hb hby at_375) rfl ?_
        show Steps p.tables e below (T0.setTop (mkF m 377 #[s0, s1, s2, s3, s4, s5, s6, s7, s8, s9, s10, .val (.long b2), .second, .val (.long b3), .second, .val (.long b4), .second, .val (.long b5), .second, s19, s20, s21, s22, s23, s24, .unset, .unset, .val (.int nn)] [(.long b2)])) _
        refine X0.ldc2Long hx hown (mvT hZ (hw _ (List.mem_of_getElem? (i := 10) rfl))) (g := (mkF m 377 #[s0, s1, s2, s3, s4, s5, s6, s7, s8, s9, s10, .val (.long b2), .second, .val (.long b3), .second, .val (.long b4), .second, .val (.long b5), .second, s19, s20, s21, s22, s23, s24, .unset, .unset, .val (.int nn)] [(.long b2)])) rfl (hb hby at_377) _ ?_
        show Steps p.tables e below (T0.setTop (mkF m 380 #[s0, s1, s2, s3, s4, s5, s6, s7, s8, s9, s10, .val (.long b2), .second, .val (.long b3), .second, .val (.long b4), .second, .val (.long b5), .second, s19, s20, s21, s22, s23, s24, .unset, .unset, .val (.int nn)] [(.long (256 : Int64)), (.long b2)])) _
        refine XS.lmul X0.here hx rfl (hb hby at_380) rfl ?_
        show Steps p.tables e below (T0.setTop (mkF m 381 #[s0, s1, s2, s3, s4, s5, s6, s7, s8, s9, s10, .val (.long b2), .second, .val (.long b3), .second, .val (.long b4), .second, .val (.long b5), .second, s19, s20, s21, s22, s23, s24, .unset, .unset, .val (.int nn)] [(.long (b2 * (256 : Int64)))])) _
        refine XS.lload X0.here hx rfl (hb hby at_381) rfl ?_
        show Steps p.tables e below (T0.setTop (mkF m 383 #[s0, s1, s2, s3, s4, s5, s6, s7, s8, s9, s10, .val (.long b2), .second, .val (.long b3), .second, .val (.long b4), .second, .val (.long b5), .second, s19, s20, s21, s22, s23, s24, .unset, .unset, .val (.int nn)] [(.long b3), (.long (b2 * (256 : Int64)))])) _
        refine XS.ladd X0.here hx rfl (hb hby at_383) rfl ?_
        show Steps p.tables e below (T0.setTop (mkF m 384 #[s0, s1, s2, s3, s4, s5, s6, s7, s8, s9, s10, .val (.long b2), .second, .val (.long b3), .second, .val (.long b4), .second, .val (.long b5), .second, s19, s20, s21, s22, s23, s24, .unset, .unset, .val (.int nn)] [(.long ((b2 * (256 : Int64)) + b3))])) _
        refine X0.ldc2Long hx hown (mvT hZ (hw _ (List.mem_of_getElem? (i := 10) rfl))) (g := (mkF m 384 #[s0, s1, s2, s3, s4, s5, s6, s7, s8, s9, s10, .val (.long b2), .second, .val (.long b3), .second, .val (.long b4), .second, .val (.long b5), .second, s19, s20, s21, s22, s23, s24, .unset, .unset, .val (.int nn)] [(.long ((b2 * (256 : Int64)) + b3))])) rfl (hb hby at_384) _ ?_
        show Steps p.tables e below (T0.setTop (mkF m 387 #[s0, s1, s2, s3, s4, s5, s6, s7, s8, s9, s10, .val (.long b2), .second, .val (.long b3), .second, .val (.long b4), .second, .val (.long b5), .second, s19, s20, s21, s22, s23, s24, .unset, .unset, .val (.int nn)] [(.long (256 : Int64)), (.long ((b2 * (256 : Int64)) + b3))])) _
        refine XS.lmul X0.here hx rfl (hb hby at_387) rfl ?_
        show Steps p.tables e below (T0.setTop (mkF m 388 #[s0, s1, s2, s3, s4, s5, s6, s7, s8, s9, s10, .val (.long b2), .second, .val (.long b3), .second, .val (.long b4), .second, .val (.long b5), .second, s19, s20, s21, s22, s23, s24, .unset, .unset, .val (.int nn)] [(.long (((b2 * (256 : Int64)) + b3) * (256 : Int64)))])) _
        refine XS.lload X0.here hx rfl (hb hby at_388) rfl ?_
        show Steps p.tables e below (T0.setTop (mkF m 390 #[s0, s1, s2, s3, s4, s5, s6, s7, s8, s9, s10, .val (.long b2), .second, .val (.long b3), .second, .val (.long b4), .second, .val (.long b5), .second, s19, s20, s21, s22, s23, s24, .unset, .unset, .val (.int nn)] [(.long b4), (.long (((b2 * (256 : Int64)) + b3) * (256 : Int64)))])) _
        refine XS.ladd X0.here hx rfl (hb hby at_390) rfl ?_
        show Steps p.tables e below (T0.setTop (mkF m 391 #[s0, s1, s2, s3, s4, s5, s6, s7, s8, s9, s10, .val (.long b2), .second, .val (.long b3), .second, .val (.long b4), .second, .val (.long b5), .second, s19, s20, s21, s22, s23, s24, .unset, .unset, .val (.int nn)] [(.long ((((b2 * (256 : Int64)) + b3) * (256 : Int64)) + b4))])) _
        refine X0.ldc2Long hx hown (mvT hZ (hw _ (List.mem_of_getElem? (i := 10) rfl))) (g := (mkF m 391 #[s0, s1, s2, s3, s4, s5, s6, s7, s8, s9, s10, .val (.long b2), .second, .val (.long b3), .second, .val (.long b4), .second, .val (.long b5), .second, s19, s20, s21, s22, s23, s24, .unset, .unset, .val (.int nn)] [(.long ((((b2 * (256 : Int64)) + b3) * (256 : Int64)) + b4))])) rfl (hb hby at_391) _ ?_
        show Steps p.tables e below (T0.setTop (mkF m 394 #[s0, s1, s2, s3, s4, s5, s6, s7, s8, s9, s10, .val (.long b2), .second, .val (.long b3), .second, .val (.long b4), .second, .val (.long b5), .second, s19, s20, s21, s22, s23, s24, .unset, .unset, .val (.int nn)] [(.long (256 : Int64)), (.long ((((b2 * (256 : Int64)) + b3) * (256 : Int64)) + b4))])) _
        refine XS.lmul X0.here hx rfl (hb hby at_394) rfl ?_
        show Steps p.tables e below (T0.setTop (mkF m 395 #[s0, s1, s2, s3, s4, s5, s6, s7, s8, s9, s10, .val (.long b2), .second, .val (.long b3), .second, .val (.long b4), .second, .val (.long b5), .second, s19, s20, s21, s22, s23, s24, .unset, .unset, .val (.int nn)] [(.long (((((b2 * (256 : Int64)) + b3) * (256 : Int64)) + b4) * (256 : Int64)))])) _
        refine XS.lload X0.here hx rfl (hb hby at_395) rfl ?_
        show Steps p.tables e below (T0.setTop (mkF m 397 #[s0, s1, s2, s3, s4, s5, s6, s7, s8, s9, s10, .val (.long b2), .second, .val (.long b3), .second, .val (.long b4), .second, .val (.long b5), .second, s19, s20, s21, s22, s23, s24, .unset, .unset, .val (.int nn)] [(.long b5), (.long (((((b2 * (256 : Int64)) + b3) * (256 : Int64)) + b4) * (256 : Int64)))])) _
        refine XS.ladd X0.here hx rfl (hb hby at_397) rfl ?_
        show Steps p.tables e below (T0.setTop (mkF m 398 #[s0, s1, s2, s3, s4, s5, s6, s7, s8, s9, s10, .val (.long b2), .second, .val (.long b3), .second, .val (.long b4), .second, .val (.long b5), .second, s19, s20, s21, s22, s23, s24, .unset, .unset, .val (.int nn)] [(.long ((((((b2 * (256 : Int64)) + b3) * (256 : Int64)) + b4) * (256 : Int64)) + b5))])) _
        refine XS.lstore X0.here hx rfl (hb hby at_398) rfl (l' := #[s0, s1, s2, s3, s4, s5, s6, s7, s8, s9, s10, .val (.long b2), .second, .val (.long b3), .second, .val (.long b4), .second, .val (.long b5), .second, s19, s20, s21, s22, s23, s24, .val (.long ((((((b2 * (256 : Int64)) + b3) * (256 : Int64)) + b4) * (256 : Int64)) + b5)), .second, .val (.int nn)]) rfl ?_
        show Steps p.tables e below (T0.setTop (mkF m 400 #[s0, s1, s2, s3, s4, s5, s6, s7, s8, s9, s10, .val (.long b2), .second, .val (.long b3), .second, .val (.long b4), .second, .val (.long b5), .second, s19, s20, s21, s22, s23, s24, .val (.long ((((((b2 * (256 : Int64)) + b3) * (256 : Int64)) + b4) * (256 : Int64)) + b5)), .second, .val (.int nn)] [])) _
        exact kt
  ·
    simp only [if_neg hc318] at hv0
    rw [hv0] at kt
    show Steps p.tables e below (T0.setTop (mkF m 315 #[s0, s1, s2, s3, s4, s5, s6, s7, s8, s9, s10, .val (.long b2), .second, .val (.long b3), .second, .val (.long b4), .second, .val (.long b5), .second, s19, s20, s21, s22, s23, s24, .unset, .unset, .val (.int nn)] [])) _
    refine XS.iload X0.here hx rfl (hb hby at_315) rfl ?_
    show Steps p.tables e below (T0.setTop (mkF m 317 #[s0, s1, s2, s3, s4, s5, s6, s7, s8, s9, s10, .val (.long b2), .second, .val (.long b3), .second, .val (.long b4), .second, .val (.long b5), .second, s19, s20, s21, s22, s23, s24, .unset, .unset, .val (.int nn)] [(.int nn)])) _
    refine XS.iconst X0.here hx rfl (hb hby at_317) ?_
    show Steps p.tables e below (T0.setTop (mkF m 318 #[s0, s1, s2, s3, s4, s5, s6, s7, s8, s9, s10, .val (.long b2), .second, .val (.long b3), .second, .val (.long b4), .second, .val (.long b5), .second, s19, s20, s21, s22, s23, s24, .unset, .unset, .val (.int nn)] [(.int (1 : Int32)), (.int nn)])) _
    refine XS.icmpNo X0.here hx rfl (hb hby at_318) rfl (flt hc318).2.2.1 ?_
    show Steps p.tables e below (T0.setTop (mkF m 321 #[s0, s1, s2, s3, s4, s5, s6, s7, s8, s9, s10, .val (.long b2), .second, .val (.long b3), .second, .val (.long b4), .second, .val (.long b5), .second, s19, s20, s21, s22, s23, s24, .unset, .unset, .val (.int nn)] [])) _
    refine XS.lload X0.here hx rfl (hb hby at_321) rfl ?_
    show Steps p.tables e below (T0.setTop (mkF m 323 #[s0, s1, s2, s3, s4, s5, s6, s7, s8, s9, s10, .val (.long b2), .second, .val (.long b3), .second, .val (.long b4), .second, .val (.long b5), .second, s19, s20, s21, s22, s23, s24, .unset, .unset, .val (.int nn)] [(.long b2)])) _
    refine XS.lstore X0.here hx rfl (hb hby at_323) rfl (l' := #[s0, s1, s2, s3, s4, s5, s6, s7, s8, s9, s10, .val (.long b2), .second, .val (.long b3), .second, .val (.long b4), .second, .val (.long b5), .second, s19, s20, s21, s22, s23, s24, .val (.long b2), .second, .val (.int nn)]) rfl ?_
    show Steps p.tables e below (T0.setTop (mkF m 325 #[s0, s1, s2, s3, s4, s5, s6, s7, s8, s9, s10, .val (.long b2), .second, .val (.long b3), .second, .val (.long b4), .second, .val (.long b5), .second, s19, s20, s21, s22, s23, s24, .val (.long b2), .second, .val (.int nn)] [])) _
    refine XS.goto X0.here hx rfl (pc0 := 325) (pc' := 400) rfl (hb hby at_325) (by decide) (by decide) ?_
    show Steps p.tables e below (T0.setTop (mkF m 400 #[s0, s1, s2, s3, s4, s5, s6, s7, s8, s9, s10, .val (.long b2), .second, .val (.long b3), .second, .val (.long b4), .second, .val (.long b5), .second, s19, s20, s21, s22, s23, s24, .val (.long b2), .second, .val (.int nn)] [])) _
    exact kt
set_option maxRecDepth 65536 in
set_option maxHeartbeats 40000000 in
theorem sg_400 {p : Program} {l : Launch} {e : Env} {R : Room} {s : State} {m : MethodId} {args : Array Value} {below : List Frame} {meth : Method} {c : Code} {T0 : State} {locs : List Loc} {cells slots : Nat} {Z : State} {a0 : Array Value}  (s0 : Slot) (s1 : Slot) (s2 : Slot) (s3 : Slot) (s4 : Slot) (s5 : Slot) (s6 : Slot) (s7 : Slot) (s8 : Slot) (s9 : Slot) (s10 : Slot) (s11 : Slot) (s12 : Slot) (s13 : Slot) (s14 : Slot) (s15 : Slot) (s16 : Slot) (s17 : Slot) (s18 : Slot) (s19 : Slot) (s20 : Slot) (rj : Int32) (s22 : Slot) (s23 : Slot) (s24 : Slot) (len : Int64) (s27 : Slot) (v0 : Int32) (hv0 : v0 = (if (0 : Int32) < (lcmpW len (2147483647 : Int64)) then (1 : Int32) else rj))
    (X0 : Stand p l e R s m args below meth c T0 locs cells slots) (hx : p.tables.exec = Jvm.exec) (hZ : Z.Warmed39 s.vm) (hw : ∀ d ∈ tables_1, d.before a0 Z = true) (hby : c.code = code) (hown : s.vm.findClass "com/example/tagloom/tagloom/tlv/TlvDecoderPlainHeaderPinLaw" = some m.cls) {target : State}
    (kt : Steps p.tables e below (T0.setTop (mkF m 412 #[s0, s1, s2, s3, s4, s5, s6, s7, s8, s9, s10, s11, s12, s13, s14, s15, s16, s17, s18, s19, s20, .val (.int v0), s22, s23, s24, .val (.long len), .second, s27] [])) target) : Steps p.tables e below (T0.setTop (mkF m 400 #[s0, s1, s2, s3, s4, s5, s6, s7, s8, s9, s10, s11, s12, s13, s14, s15, s16, s17, s18, s19, s20, .val (.int rj), s22, s23, s24, .val (.long len), .second, s27] [])) target := by
  by_cases hc406 : (0 : Int32) < (lcmpW len (2147483647 : Int64))
  ·
    simp only [if_pos hc406] at hv0
    rw [hv0] at kt
    show Steps p.tables e below (T0.setTop (mkF m 400 #[s0, s1, s2, s3, s4, s5, s6, s7, s8, s9, s10, s11, s12, s13, s14, s15, s16, s17, s18, s19, s20, .val (.int rj), s22, s23, s24, .val (.long len), .second, s27] [])) _
    refine XS.lload X0.here hx rfl (hb hby at_400) rfl ?_
    show Steps p.tables e below (T0.setTop (mkF m 402 #[s0, s1, s2, s3, s4, s5, s6, s7, s8, s9, s10, s11, s12, s13, s14, s15, s16, s17, s18, s19, s20, .val (.int rj), s22, s23, s24, .val (.long len), .second, s27] [(.long len)])) _
    refine X0.ldc2Long hx hown (mvT hZ (hw _ (List.mem_of_getElem? (i := 11) rfl))) (g := (mkF m 402 #[s0, s1, s2, s3, s4, s5, s6, s7, s8, s9, s10, s11, s12, s13, s14, s15, s16, s17, s18, s19, s20, .val (.int rj), s22, s23, s24, .val (.long len), .second, s27] [(.long len)])) rfl (hb hby at_402) _ ?_
    show Steps p.tables e below (T0.setTop (mkF m 405 #[s0, s1, s2, s3, s4, s5, s6, s7, s8, s9, s10, s11, s12, s13, s14, s15, s16, s17, s18, s19, s20, .val (.int rj), s22, s23, s24, .val (.long len), .second, s27] [(.long (2147483647 : Int64)), (.long len)])) _
    refine XS.lcmp X0.here hx rfl (hb hby at_405) rfl ?_
    show Steps p.tables e below (T0.setTop (mkF m 406 #[s0, s1, s2, s3, s4, s5, s6, s7, s8, s9, s10, s11, s12, s13, s14, s15, s16, s17, s18, s19, s20, .val (.int rj), s22, s23, s24, .val (.long len), .second, s27] [(.int (lcmpW len (2147483647 : Int64)))])) _
    refine XS.ifNo X0.here hx rfl (hb hby at_406) rfl ((if0 _ _).trans (tlt hc406).2.2.2) ?_
    show Steps p.tables e below (T0.setTop (mkF m 409 #[s0, s1, s2, s3, s4, s5, s6, s7, s8, s9, s10, s11, s12, s13, s14, s15, s16, s17, s18, s19, s20, .val (.int rj), s22, s23, s24, .val (.long len), .second, s27] [])) _
    refine XS.iconst X0.here hx rfl (hb hby at_409) ?_
    show Steps p.tables e below (T0.setTop (mkF m 410 #[s0, s1, s2, s3, s4, s5, s6, s7, s8, s9, s10, s11, s12, s13, s14, s15, s16, s17, s18, s19, s20, .val (.int rj), s22, s23, s24, .val (.long len), .second, s27] [(.int (1 : Int32))])) _
    refine XS.istore X0.here hx rfl (hb hby at_410) rfl (l' := #[s0, s1, s2, s3, s4, s5, s6, s7, s8, s9, s10, s11, s12, s13, s14, s15, s16, s17, s18, s19, s20, .val (.int (1 : Int32)), s22, s23, s24, .val (.long len), .second, s27]) rfl ?_
    show Steps p.tables e below (T0.setTop (mkF m 412 #[s0, s1, s2, s3, s4, s5, s6, s7, s8, s9, s10, s11, s12, s13, s14, s15, s16, s17, s18, s19, s20, .val (.int (1 : Int32)), s22, s23, s24, .val (.long len), .second, s27] [])) _
    exact kt
  ·
    simp only [if_neg hc406] at hv0
    rw [hv0] at kt
    show Steps p.tables e below (T0.setTop (mkF m 400 #[s0, s1, s2, s3, s4, s5, s6, s7, s8, s9, s10, s11, s12, s13, s14, s15, s16, s17, s18, s19, s20, .val (.int rj), s22, s23, s24, .val (.long len), .second, s27] [])) _
    refine XS.lload X0.here hx rfl (hb hby at_400) rfl ?_
    show Steps p.tables e below (T0.setTop (mkF m 402 #[s0, s1, s2, s3, s4, s5, s6, s7, s8, s9, s10, s11, s12, s13, s14, s15, s16, s17, s18, s19, s20, .val (.int rj), s22, s23, s24, .val (.long len), .second, s27] [(.long len)])) _
    refine X0.ldc2Long hx hown (mvT hZ (hw _ (List.mem_of_getElem? (i := 11) rfl))) (g := (mkF m 402 #[s0, s1, s2, s3, s4, s5, s6, s7, s8, s9, s10, s11, s12, s13, s14, s15, s16, s17, s18, s19, s20, .val (.int rj), s22, s23, s24, .val (.long len), .second, s27] [(.long len)])) rfl (hb hby at_402) _ ?_
    show Steps p.tables e below (T0.setTop (mkF m 405 #[s0, s1, s2, s3, s4, s5, s6, s7, s8, s9, s10, s11, s12, s13, s14, s15, s16, s17, s18, s19, s20, .val (.int rj), s22, s23, s24, .val (.long len), .second, s27] [(.long (2147483647 : Int64)), (.long len)])) _
    refine XS.lcmp X0.here hx rfl (hb hby at_405) rfl ?_
    show Steps p.tables e below (T0.setTop (mkF m 406 #[s0, s1, s2, s3, s4, s5, s6, s7, s8, s9, s10, s11, s12, s13, s14, s15, s16, s17, s18, s19, s20, .val (.int rj), s22, s23, s24, .val (.long len), .second, s27] [(.int (lcmpW len (2147483647 : Int64)))])) _
    refine XS.ifYes X0.here hx rfl (pc0 := 406) (pc' := 412) rfl (hb hby at_406) rfl ((if0 _ _).trans (flt hc406).2.2.2) (by decide) (by decide) ?_
    show Steps p.tables e below (T0.setTop (mkF m 412 #[s0, s1, s2, s3, s4, s5, s6, s7, s8, s9, s10, s11, s12, s13, s14, s15, s16, s17, s18, s19, s20, .val (.int rj), s22, s23, s24, .val (.long len), .second, s27] [])) _
    exact kt
set_option maxRecDepth 65536 in
set_option maxHeartbeats 40000000 in
theorem sg_255 {p : Program} {l : Launch} {e : Env} {R : Room} {s : State} {m : MethodId} {args : Array Value} {below : List Frame} {meth : Method} {c : Code} {T0 : State} {locs : List Loc} {cells slots : Nat} {Z : State} {a0 : Array Value}  (s0 : Slot) (s1 : Slot) (s2 : Slot) (s3 : Slot) (s4 : Slot) (s5 : Slot) (s6 : Slot) (s7 : Slot) (s8 : Slot) (s9 : Slot) (fi : Int32) (b2 : Int64) (b3 : Int64) (b4 : Int64) (b5 : Int64) (room : Int64) (rj : Int32) (s22 : Slot) (s23 : Slot) (v0 : Int32) (hv0 : v0 = (if fi < (128 : Int32) then rj else (if (0 : Int32) < (lcmpW (if (1 : Int32) < (fi - (128 : Int32)) then (if (fi - (128 : Int32)) = (2 : Int32) then ((b2 * (256 : Int64)) + b3) else (if (fi - (128 : Int32)) = (3 : Int32) then ((((b2 * (256 : Int64)) + b3) * (256 : Int64)) + b4) else ((((((b2 * (256 : Int64)) + b3) * (256 : Int64)) + b4) * (256 : Int64)) + b5))) else b2) (2147483647 : Int64)) then (1 : Int32) else (if (fi - (128 : Int32)) = (0 : Int32) then (1 : Int32) else (if (4 : Int32) < (fi - (128 : Int32)) then (1 : Int32) else (if (0 : Int32) < (lcmpW ((fi - (128 : Int32)).toInt64) (room - (2 : Int64))) then (1 : Int32) else rj)))))) (v1 : Int32) (hv1 : v1 = (if fi < (128 : Int32) then (2 : Int32) else ((2 : Int32) + (fi - (128 : Int32))))) (v2 : Int64) (hv2 : v2 = (if fi < (128 : Int32) then (fi.toInt64) else (if (1 : Int32) < (fi - (128 : Int32)) then (if (fi - (128 : Int32)) = (2 : Int32) then ((b2 * (256 : Int64)) + b3) else (if (fi - (128 : Int32)) = (3 : Int32) then ((((b2 * (256 : Int64)) + b3) * (256 : Int64)) + b4) else ((((((b2 * (256 : Int64)) + b3) * (256 : Int64)) + b4) * (256 : Int64)) + b5))) else b2))) (v3 : Slot) (hv3 : v3 = (if fi < (128 : Int32) then (.unset) else (.val (.int (fi - (128 : Int32))))))
    (X0 : Stand p l e R s m args below meth c T0 locs cells slots) (hx : p.tables.exec = Jvm.exec) (hZ : Z.Warmed39 s.vm) (hw : ∀ d ∈ tables_1, d.before a0 Z = true) (hby : c.code = code) (hown : s.vm.findClass "com/example/tagloom/tagloom/tlv/TlvDecoderPlainHeaderPinLaw" = some m.cls) {target : State}
    (kt : Steps p.tables e below (T0.setTop (mkF m 412 #[s0, s1, s2, s3, s4, s5, s6, s7, s8, s9, .val (.int fi), .val (.long b2), .second, .val (.long b3), .second, .val (.long b4), .second, .val (.long b5), .second, .val (.long room), .second, .val (.int v0), s22, s23, .val (.int v1), .val (.long v2), .second, v3] [])) target) : Steps p.tables e below (T0.setTop (mkF m 255 #[s0, s1, s2, s3, s4, s5, s6, s7, s8, s9, .val (.int fi), .val (.long b2), .second, .val (.long b3), .second, .val (.long b4), .second, .val (.long b5), .second, .val (.long room), .second, .val (.int rj), s22, s23, .unset, .unset, .unset, .unset] [])) target := by
  by_cases hc260 : fi < (128 : Int32)
  ·
    simp only [if_pos hc260] at hv0
    rw [hv0] at kt
    simp only [if_pos hc260] at hv1
    rw [hv1] at kt
    simp only [if_pos hc260] at hv2
    rw [hv2] at kt
    simp only [if_pos hc260] at hv3
    rw [hv3] at kt
    show Steps p.tables e below (T0.setTop (mkF m 255 #[s0, s1, s2, s3, s4, s5, s6, s7, s8, s9, .val (.int fi), .val (.long b2), .second, .val (.long b3), .second, .val (.long b4), .second, .val (.long b5), .second, .val (.long room), .second, .val (.int rj), s22, s23, .unset, .unset, .unset, .unset] [])) _
    refine XS.iload X0.here hx rfl (hb hby at_255) rfl ?_
    show Steps p.tables e below (T0.setTop (mkF m 257 #[s0, s1, s2, s3, s4, s5, s6, s7, s8, s9, .val (.int fi), .val (.long b2), .second, .val (.long b3), .second, .val (.long b4), .second, .val (.long b5), .second, .val (.long room), .second, .val (.int rj), s22, s23, .unset, .unset, .unset, .unset] [(.int fi)])) _
    refine XS.sipush X0.here hx rfl (hb hby at_257) ?_
    show Steps p.tables e below (T0.setTop (mkF m 260 #[s0, s1, s2, s3, s4, s5, s6, s7, s8, s9, .val (.int fi), .val (.long b2), .second, .val (.long b3), .second, .val (.long b4), .second, .val (.long b5), .second, .val (.long room), .second, .val (.int rj), s22, s23, .unset, .unset, .unset, .unset] [(.int (128 : Int32)), (.int fi)])) _
    refine XS.icmpNo X0.here hx rfl (hb hby at_260) rfl (tlt hc260).2.1 ?_
    show Steps p.tables e below (T0.setTop (mkF m 263 #[s0, s1, s2, s3, s4, s5, s6, s7, s8, s9, .val (.int fi), .val (.long b2), .second, .val (.long b3), .second, .val (.long b4), .second, .val (.long b5), .second, .val (.long room), .second, .val (.int rj), s22, s23, .unset, .unset, .unset, .unset] [])) _
    refine XS.iconst X0.here hx rfl (hb hby at_263) ?_
    show Steps p.tables e below (T0.setTop (mkF m 264 #[s0, s1, s2, s3, s4, s5, s6, s7, s8, s9, .val (.int fi), .val (.long b2), .second, .val (.long b3), .second, .val (.long b4), .second, .val (.long b5), .second, .val (.long room), .second, .val (.int rj), s22, s23, .unset, .unset, .unset, .unset] [(.int (2 : Int32))])) _
    refine XS.istore X0.here hx rfl (hb hby at_264) rfl (l' := #[s0, s1, s2, s3, s4, s5, s6, s7, s8, s9, .val (.int fi), .val (.long b2), .second, .val (.long b3), .second, .val (.long b4), .second, .val (.long b5), .second, .val (.long room), .second, .val (.int rj), s22, s23, .val (.int (2 : Int32)), .unset, .unset, .unset]) rfl ?_
    show Steps p.tables e below (T0.setTop (mkF m 266 #[s0, s1, s2, s3, s4, s5, s6, s7, s8, s9, .val (.int fi), .val (.long b2), .second, .val (.long b3), .second, .val (.long b4), .second, .val (.long b5), .second, .val (.long room), .second, .val (.int rj), s22, s23, .val (.int (2 : Int32)), .unset, .unset, .unset] [])) _
    refine XS.iload X0.here hx rfl (hb hby at_266) rfl ?_
    show Steps p.tables e below (T0.setTop (mkF m 268 #[s0, s1, s2, s3, s4, s5, s6, s7, s8, s9, .val (.int fi), .val (.long b2), .second, .val (.long b3), .second, .val (.long b4), .second, .val (.long b5), .second, .val (.long room), .second, .val (.int rj), s22, s23, .val (.int (2 : Int32)), .unset, .unset, .unset] [(.int fi)])) _
    refine XS.i2l X0.here hx rfl (hb hby at_268) rfl ?_
    show Steps p.tables e below (T0.setTop (mkF m 269 #[s0, s1, s2, s3, s4, s5, s6, s7, s8, s9, .val (.int fi), .val (.long b2), .second, .val (.long b3), .second, .val (.long b4), .second, .val (.long b5), .second, .val (.long room), .second, .val (.int rj), s22, s23, .val (.int (2 : Int32)), .unset, .unset, .unset] [(.long (fi.toInt64))])) _
    refine XS.lstore X0.here hx rfl (hb hby at_269) rfl (l' := #[s0, s1, s2, s3, s4, s5, s6, s7, s8, s9, .val (.int fi), .val (.long b2), .second, .val (.long b3), .second, .val (.long b4), .second, .val (.long b5), .second, .val (.long room), .second, .val (.int rj), s22, s23, .val (.int (2 : Int32)), .val (.long (fi.toInt64)), .second, .unset]) rfl ?_
    show Steps p.tables e below (T0.setTop (mkF m 271 #[s0, s1, s2, s3, s4, s5, s6, s7, s8, s9, .val (.int fi), .val (.long b2), .second, .val (.long b3), .second, .val (.long b4), .second, .val (.long b5), .second, .val (.long room), .second, .val (.int rj), s22, s23, .val (.int (2 : Int32)), .val (.long (fi.toInt64)), .second, .unset] [])) _
    refine XS.goto X0.here hx rfl (pc0 := 271) (pc' := 412) rfl (hb hby at_271) (by decide) (by decide) ?_
    show Steps p.tables e below (T0.setTop (mkF m 412 #[s0, s1, s2, s3, s4, s5, s6, s7, s8, s9, .val (.int fi), .val (.long b2), .second, .val (.long b3), .second, .val (.long b4), .second, .val (.long b5), .second, .val (.long room), .second, .val (.int rj), s22, s23, .val (.int (2 : Int32)), .val (.long (fi.toInt64)), .second, .unset] [])) _
    exact kt
  ·
    simp only [if_neg hc260] at hv0
    rw [hv0] at kt
    simp only [if_neg hc260] at hv1
    rw [hv1] at kt
    simp only [if_neg hc260] at hv2
    rw [hv2] at kt
    simp only [if_neg hc260] at hv3
    rw [hv3] at kt
    show Steps p.tables e below (T0.setTop (mkF m 255 #[s0, s1, s2, s3, s4, s5, s6, s7, s8, s9, .val (.int fi), .val (.long b2), .second, .val (.long b3), .second, .val (.long b4), .second, .val (.long b5), .second, .val (.long room), .second, .val (.int rj), s22, s23, .unset, .unset, .unset, .unset] [])) _
    refine XS.iload X0.here hx rfl (hb hby at_255) rfl ?_
    show Steps p.tables e below (T0.setTop (mkF m 257 #[s0, s1, s2, s3, s4, s5, s6, s7, s8, s9, .val (.int fi), .val (.long b2), .second, .val (.long b3), .second, .val (.long b4), .second, .val (.long b5), .second, .val (.long room), .second, .val (.int rj), s22, s23, .unset, .unset, .unset, .unset] [(.int fi)])) _
    refine XS.sipush X0.here hx rfl (hb hby at_257) ?_
    show Steps p.tables e below (T0.setTop (mkF m 260 #[s0, s1, s2, s3, s4, s5, s6, s7, s8, s9, .val (.int fi), .val (.long b2), .second, .val (.long b3), .second, .val (.long b4), .second, .val (.long b5), .second, .val (.long room), .second, .val (.int rj), s22, s23, .unset, .unset, .unset, .unset] [(.int (128 : Int32)), (.int fi)])) _
    refine XS.icmpYes X0.here hx rfl (pc0 := 260) (pc' := 274) rfl (hb hby at_260) rfl (flt hc260).2.1 (by decide) (by decide) ?_
    show Steps p.tables e below (T0.setTop (mkF m 274 #[s0, s1, s2, s3, s4, s5, s6, s7, s8, s9, .val (.int fi), .val (.long b2), .second, .val (.long b3), .second, .val (.long b4), .second, .val (.long b5), .second, .val (.long room), .second, .val (.int rj), s22, s23, .unset, .unset, .unset, .unset] [])) _
    refine XS.iload X0.here hx rfl (hb hby at_274) rfl ?_
    show Steps p.tables e below (T0.setTop (mkF m 276 #[s0, s1, s2, s3, s4, s5, s6, s7, s8, s9, .val (.int fi), .val (.long b2), .second, .val (.long b3), .second, .val (.long b4), .second, .val (.long b5), .second, .val (.long room), .second, .val (.int rj), s22, s23, .unset, .unset, .unset, .unset] [(.int fi)])) _
    refine XS.sipush X0.here hx rfl (hb hby at_276) ?_
    show Steps p.tables e below (T0.setTop (mkF m 279 #[s0, s1, s2, s3, s4, s5, s6, s7, s8, s9, .val (.int fi), .val (.long b2), .second, .val (.long b3), .second, .val (.long b4), .second, .val (.long b5), .second, .val (.long room), .second, .val (.int rj), s22, s23, .unset, .unset, .unset, .unset] [(.int (128 : Int32)), (.int fi)])) _
    refine XS.isub X0.here hx rfl (hb hby at_279) rfl ?_
    show Steps p.tables e below (T0.setTop (mkF m 280 #[s0, s1, s2, s3, s4, s5, s6, s7, s8, s9, .val (.int fi), .val (.long b2), .second, .val (.long b3), .second, .val (.long b4), .second, .val (.long b5), .second, .val (.long room), .second, .val (.int rj), s22, s23, .unset, .unset, .unset, .unset] [(.int (fi - (128 : Int32)))])) _
    refine XS.istore X0.here hx rfl (hb hby at_280) rfl (l' := #[s0, s1, s2, s3, s4, s5, s6, s7, s8, s9, .val (.int fi), .val (.long b2), .second, .val (.long b3), .second, .val (.long b4), .second, .val (.long b5), .second, .val (.long room), .second, .val (.int rj), s22, s23, .unset, .unset, .unset, .val (.int (fi - (128 : Int32)))]) rfl ?_
    show Steps p.tables e below (T0.setTop (mkF m 282 #[s0, s1, s2, s3, s4, s5, s6, s7, s8, s9, .val (.int fi), .val (.long b2), .second, .val (.long b3), .second, .val (.long b4), .second, .val (.long b5), .second, .val (.long room), .second, .val (.int rj), s22, s23, .unset, .unset, .unset, .val (.int (fi - (128 : Int32)))] [])) _
    refine XS.iconst X0.here hx rfl (hb hby at_282) ?_
    show Steps p.tables e below (T0.setTop (mkF m 283 #[s0, s1, s2, s3, s4, s5, s6, s7, s8, s9, .val (.int fi), .val (.long b2), .second, .val (.long b3), .second, .val (.long b4), .second, .val (.long b5), .second, .val (.long room), .second, .val (.int rj), s22, s23, .unset, .unset, .unset, .val (.int (fi - (128 : Int32)))] [(.int (2 : Int32))])) _
    refine XS.iload X0.here hx rfl (hb hby at_283) rfl ?_
    show Steps p.tables e below (T0.setTop (mkF m 285 #[s0, s1, s2, s3, s4, s5, s6, s7, s8, s9, .val (.int fi), .val (.long b2), .second, .val (.long b3), .second, .val (.long b4), .second, .val (.long b5), .second, .val (.long room), .second, .val (.int rj), s22, s23, .unset, .unset, .unset, .val (.int (fi - (128 : Int32)))] [(.int (fi - (128 : Int32))), (.int (2 : Int32))])) _
    refine XS.iadd X0.here hx rfl (hb hby at_285) rfl ?_
    show Steps p.tables e below (T0.setTop (mkF m 286 #[s0, s1, s2, s3, s4, s5, s6, s7, s8, s9, .val (.int fi), .val (.long b2), .second, .val (.long b3), .second, .val (.long b4), .second, .val (.long b5), .second, .val (.long room), .second, .val (.int rj), s22, s23, .unset, .unset, .unset, .val (.int (fi - (128 : Int32)))] [(.int ((2 : Int32) + (fi - (128 : Int32))))])) _
    refine XS.istore X0.here hx rfl (hb hby at_286) rfl (l' := #[s0, s1, s2, s3, s4, s5, s6, s7, s8, s9, .val (.int fi), .val (.long b2), .second, .val (.long b3), .second, .val (.long b4), .second, .val (.long b5), .second, .val (.long room), .second, .val (.int rj), s22, s23, .val (.int ((2 : Int32) + (fi - (128 : Int32)))), .unset, .unset, .val (.int (fi - (128 : Int32)))]) rfl ?_
    show Steps p.tables e below (T0.setTop (mkF m 288 #[s0, s1, s2, s3, s4, s5, s6, s7, s8, s9, .val (.int fi), .val (.long b2), .second, .val (.long b3), .second, .val (.long b4), .second, .val (.long b5), .second, .val (.long room), .second, .val (.int rj), s22, s23, .val (.int ((2 : Int32) + (fi - (128 : Int32)))), .unset, .unset, .val (.int (fi - (128 : Int32)))] [])) _
    refine sg_288  (s0) (s1) (s2) (s3) (s4) (s5) (s6) (s7) (s8) (s9) (.val (.int fi)) (.val (.long b2)) (.second) (.val (.long b3)) (.second) (.val (.long b4)) (.second) (.val (.long b5)) (.second) (room) (rj) (s22) (s23) (.val (.int ((2 : Int32) + (fi - (128 : Int32))))) (.unset) (.unset) ((fi - (128 : Int32))) (if (fi - (128 : Int32)) = (0 : Int32) then (1 : Int32) else (if (4 : Int32) < (fi - (128 : Int32)) then (1 : Int32) else (if (0 : Int32) < (lcmpW ((fi - (128 : Int32)).toInt64) (room - (2 : Int64))) then (1 : Int32) else rj))) rfl X0 hx hZ hw hby hown ?_
    show Steps p.tables e below (T0.setTop (mkF m 315 #[s0, s1, s2, s3, s4, s5, s6, s7, s8, s9, .val (.int fi), .val (.long b2), .second, .val (.long b3), .second, .val (.long b4), .second, .val (.long b5), .second, .val (.long room), .second, .val (.int (if (fi - (128 : Int32)) = (0 : Int32) then (1 : Int32) else (if (4 : Int32) < (fi - (128 : Int32)) then (1 : Int32) else (if (0 : Int32) < (lcmpW ((fi - (128 : Int32)).toInt64) (room - (2 : Int64))) then (1 : Int32) else rj)))), s22, s23, .val (.int ((2 : Int32) + (fi - (128 : Int32)))), .unset, .unset, .val (.int (fi - (128 : Int32)))] [])) _
    refine sg_315  (s0) (s1) (s2) (s3) (s4) (s5) (s6) (s7) (s8) (s9) (.val (.int fi)) (b2) (b3) (b4) (b5) (.val (.long room)) (.second) (.val (.int (if (fi - (128 : Int32)) = (0 : Int32) then (1 : Int32) else (if (4 : Int32) < (fi - (128 : Int32)) then (1 : Int32) else (if (0 : Int32) < (lcmpW ((fi - (128 : Int32)).toInt64) (room - (2 : Int64))) then (1 : Int32) else rj))))) (s22) (s23) (.val (.int ((2 : Int32) + (fi - (128 : Int32))))) ((fi - (128 : Int32))) (if (1 : Int32) < (fi - (128 : Int32)) then (if (fi - (128 : Int32)) = (2 : Int32) then ((b2 * (256 : Int64)) + b3) else (if (fi - (128 : Int32)) = (3 : Int32) then ((((b2 * (256 : Int64)) + b3) * (256 : Int64)) + b4) else ((((((b2 * (256 : Int64)) + b3) * (256 : Int64)) + b4) * (256 : Int64)) + b5))) else b2) rfl X0 hx hZ hw hby hown ?_
    show Steps p.tables e below (T0.setTop (mkF m 400 #[s0, s1, s2, s3, s4, s5, s6, s7, s8, s9, .val (.int fi), .val (.long b2), .second, .val (.long b3), .second, .val (.long b4), .second, .val (.long b5), .second, .val (.long room), .second, .val (.int (if (fi - (128 : Int32)) = (0 : Int32) then (1 : Int32) else (if (4 : Int32) < (fi - (128 : Int32)) then (1 : Int32) else (if (0 : Int32) < (lcmpW ((fi - (128 : Int32)).toInt64) (room - (2 : Int64))) then (1 : Int32) else rj)))), s22, s23, .val (.int ((2 : Int32) + (fi - (128 : Int32)))), .val (.long (if (1 : Int32) < (fi - (128 : Int32)) then (if (fi - (128 : Int32)) = (2 : Int32) then ((b2 * (256 : Int64)) + b3) else (if (fi - (128 : Int32)) = (3 : Int32) then ((((b2 * (256 : Int64)) + b3) * (256 : Int64)) + b4) else ((((((b2 * (256 : Int64)) + b3) * (256 : Int64)) + b4) * (256 : Int64)) + b5))) else b2)), .second, .val (.int (fi - (128 : Int32)))] [])) _
    refine sg_400  (s0) (s1) (s2) (s3) (s4) (s5) (s6) (s7) (s8) (s9) (.val (.int fi)) (.val (.long b2)) (.second) (.val (.long b3)) (.second) (.val (.long b4)) (.second) (.val (.long b5)) (.second) (.val (.long room)) (.second) ((if (fi - (128 : Int32)) = (0 : Int32) then (1 : Int32) else (if (4 : Int32) < (fi - (128 : Int32)) then (1 : Int32) else (if (0 : Int32) < (lcmpW ((fi - (128 : Int32)).toInt64) (room - (2 : Int64))) then (1 : Int32) else rj)))) (s22) (s23) (.val (.int ((2 : Int32) + (fi - (128 : Int32))))) ((if (1 : Int32) < (fi - (128 : Int32)) then (if (fi - (128 : Int32)) = (2 : Int32) then ((b2 * (256 : Int64)) + b3) else (if (fi - (128 : Int32)) = (3 : Int32) then ((((b2 * (256 : Int64)) + b3) * (256 : Int64)) + b4) else ((((((b2 * (256 : Int64)) + b3) * (256 : Int64)) + b4) * (256 : Int64)) + b5))) else b2)) (.val (.int (fi - (128 : Int32)))) (if (0 : Int32) < (lcmpW (if (1 : Int32) < (fi - (128 : Int32)) then (if (fi - (128 : Int32)) = (2 : Int32) then ((b2 * (256 : Int64)) + b3) else (if (fi - (128 : Int32)) = (3 : Int32) then ((((b2 * (256 : Int64)) + b3) * (256 : Int64)) + b4) else ((((((b2 * (256 : Int64)) + b3) * (256 : Int64)) + b4) * (256 : Int64)) + b5))) else b2) (2147483647 : Int64)) then (1 : Int32) else (if (fi - (128 : Int32)) = (0 : Int32) then (1 : Int32) else (if (4 : Int32) < (fi - (128 : Int32)) then (1 : Int32) else (if (0 : Int32) < (lcmpW ((fi - (128 : Int32)).toInt64) (room - (2 : Int64))) then (1 : Int32) else rj)))) rfl X0 hx hZ hw hby hown ?_
    show Steps p.tables e below (T0.setTop (mkF m 412 #[s0, s1, s2, s3, s4, s5, s6, s7, s8, s9, .val (.int fi), .val (.long b2), .second, .val (.long b3), .second, .val (.long b4), .second, .val (.long b5), .second, .val (.long room), .second, .val (.int (if (0 : Int32) < (lcmpW (if (1 : Int32) < (fi - (128 : Int32)) then (if (fi - (128 : Int32)) = (2 : Int32) then ((b2 * (256 : Int64)) + b3) else (if (fi - (128 : Int32)) = (3 : Int32) then ((((b2 * (256 : Int64)) + b3) * (256 : Int64)) + b4) else ((((((b2 * (256 : Int64)) + b3) * (256 : Int64)) + b4) * (256 : Int64)) + b5))) else b2) (2147483647 : Int64)) then (1 : Int32) else (if (fi - (128 : Int32)) = (0 : Int32) then (1 : Int32) else (if (4 : Int32) < (fi - (128 : Int32)) then (1 : Int32) else (if (0 : Int32) < (lcmpW ((fi - (128 : Int32)).toInt64) (room - (2 : Int64))) then (1 : Int32) else rj))))), s22, s23, .val (.int ((2 : Int32) + (fi - (128 : Int32)))), .val (.long (if (1 : Int32) < (fi - (128 : Int32)) then (if (fi - (128 : Int32)) = (2 : Int32) then ((b2 * (256 : Int64)) + b3) else (if (fi - (128 : Int32)) = (3 : Int32) then ((((b2 * (256 : Int64)) + b3) * (256 : Int64)) + b4) else ((((((b2 * (256 : Int64)) + b3) * (256 : Int64)) + b4) * (256 : Int64)) + b5))) else b2)), .second, .val (.int (fi - (128 : Int32)))] [])) _
    exact kt
set_option maxRecDepth 65536 in
set_option maxHeartbeats 40000000 in
theorem sg_412 {p : Program} {l : Launch} {e : Env} {R : Room} {s : State} {m : MethodId} {args : Array Value} {below : List Frame} {meth : Method} {c : Code} {T0 : State} {locs : List Loc} {cells slots : Nat} {Z : State} {a0 : Array Value}  (s0 : Slot) (s1 : Slot) (s2 : Slot) (s3 : Slot) (s4 : Slot) (s5 : Slot) (s6 : Slot) (s7 : Slot) (s8 : Slot) (s9 : Slot) (s10 : Slot) (s11 : Slot) (s12 : Slot) (s13 : Slot) (s14 : Slot) (s15 : Slot) (s16 : Slot) (s17 : Slot) (s18 : Slot) (room : Int64) (rj : Int32) (s22 : Slot) (s23 : Slot) (hl : Int32) (len : Int64) (s27 : Slot) (v0 : Int32) (hv0 : v0 = (if (0 : Int32) < (lcmpW len (room - (hl.toInt64))) then (1 : Int32) else rj))
    (X0 : Stand p l e R s m args below meth c T0 locs cells slots) (hx : p.tables.exec = Jvm.exec) (hZ : Z.Warmed39 s.vm) (hw : ∀ d ∈ tables_1, d.before a0 Z = true) (hby : c.code = code) (hown : s.vm.findClass "com/example/tagloom/tagloom/tlv/TlvDecoderPlainHeaderPinLaw" = some m.cls) {target : State}
    (kt : Steps p.tables e below (T0.setTop (mkF m 427 #[s0, s1, s2, s3, s4, s5, s6, s7, s8, s9, s10, s11, s12, s13, s14, s15, s16, s17, s18, .val (.long room), .second, .val (.int v0), s22, s23, .val (.int hl), .val (.long len), .second, s27] [])) target) : Steps p.tables e below (T0.setTop (mkF m 412 #[s0, s1, s2, s3, s4, s5, s6, s7, s8, s9, s10, s11, s12, s13, s14, s15, s16, s17, s18, .val (.long room), .second, .val (.int rj), s22, s23, .val (.int hl), .val (.long len), .second, s27] [])) target := by
  by_cases hc421 : (0 : Int32) < (lcmpW len (room - (hl.toInt64)))
  ·
    simp only [if_pos hc421] at hv0
    rw [hv0] at kt
    show Steps p.tables e below (T0.setTop (mkF m 412 #[s0, s1, s2, s3, s4, s5, s6, s7, s8, s9, s10, s11, s12, s13, s14, s15, s16, s17, s18, .val (.long room), .second, .val (.int rj), s22, s23, .val (.int hl), .val (.long len), .second, s27] [])) _
    refine XS.lload X0.here hx rfl (hb hby at_412) rfl ?_
    show Steps p.tables e below (T0.setTop (mkF m 414 #[s0, s1, s2, s3, s4, s5, s6, s7, s8, s9, s10, s11, s12, s13, s14, s15, s16, s17, s18, .val (.long room), .second, .val (.int rj), s22, s23, .val (.int hl), .val (.long len), .second, s27] [(.long len)])) _
    refine XS.lload X0.here hx rfl (hb hby at_414) rfl ?_
    show Steps p.tables e below (T0.setTop (mkF m 416 #[s0, s1, s2, s3, s4, s5, s6, s7, s8, s9, s10, s11, s12, s13, s14, s15, s16, s17, s18, .val (.long room), .second, .val (.int rj), s22, s23, .val (.int hl), .val (.long len), .second, s27] [(.long room), (.long len)])) _
    refine XS.iload X0.here hx rfl (hb hby at_416) rfl ?_
    show Steps p.tables e below (T0.setTop (mkF m 418 #[s0, s1, s2, s3, s4, s5, s6, s7, s8, s9, s10, s11, s12, s13, s14, s15, s16, s17, s18, .val (.long room), .second, .val (.int rj), s22, s23, .val (.int hl), .val (.long len), .second, s27] [(.int hl), (.long room), (.long len)])) _
    refine XS.i2l X0.here hx rfl (hb hby at_418) rfl ?_
    show Steps p.tables e below (T0.setTop (mkF m 419 #[s0, s1, s2, s3, s4, s5, s6, s7, s8, s9, s10, s11, s12, s13, s14, s15, s16, s17, s18, .val (.long room), .second, .val (.int rj), s22, s23, .val (.int hl), .val (.long len), .second, s27] [(.long (hl.toInt64)), (.long room), (.long len)])) _
    refine XS.lsub X0.here hx rfl (hb hby at_419) rfl ?_
    show Steps p.tables e below (T0.setTop (mkF m 420 #[s0, s1, s2, s3, s4, s5, s6, s7, s8, s9, s10, s11, s12, s13, s14, s15, s16, s17, s18, .val (.long room), .second, .val (.int rj), s22, s23, .val (.int hl), .val (.long len), .second, s27] [(.long (room - (hl.toInt64))), (.long len)])) _
    refine XS.lcmp X0.here hx rfl (hb hby at_420) rfl ?_
    show Steps p.tables e below (T0.setTop (mkF m 421 #[s0, s1, s2, s3, s4, s5, s6, s7, s8, s9, s10, s11, s12, s13, s14, s15, s16, s17, s18, .val (.long room), .second, .val (.int rj), s22, s23, .val (.int hl), .val (.long len), .second, s27] [(.int (lcmpW len (room - (hl.toInt64))))])) _
    refine XS.ifNo X0.here hx rfl (hb hby at_421) rfl ((if0 _ _).trans (tlt hc421).2.2.2) ?_
    show Steps p.tables e below (T0.setTop (mkF m 424 #[s0, s1, s2, s3, s4, s5, s6, s7, s8, s9, s10, s11, s12, s13, s14, s15, s16, s17, s18, .val (.long room), .second, .val (.int rj), s22, s23, .val (.int hl), .val (.long len), .second, s27] [])) _
    refine XS.iconst X0.here hx rfl (hb hby at_424) ?_
    show Steps p.tables e below (T0.setTop (mkF m 425 #[s0, s1, s2, s3, s4, s5, s6, s7, s8, s9, s10, s11, s12, s13, s14, s15, s16, s17, s18, .val (.long room), .second, .val (.int rj), s22, s23, .val (.int hl), .val (.long len), .second, s27] [(.int (1 : Int32))])) _
    refine XS.istore X0.here hx rfl (hb hby at_425) rfl (l' := #[s0, s1, s2, s3, s4, s5, s6, s7, s8, s9, s10, s11, s12, s13, s14, s15, s16, s17, s18, .val (.long room), .second, .val (.int (1 : Int32)), s22, s23, .val (.int hl), .val (.long len), .second, s27]) rfl ?_
    show Steps p.tables e below (T0.setTop (mkF m 427 #[s0, s1, s2, s3, s4, s5, s6, s7, s8, s9, s10, s11, s12, s13, s14, s15, s16, s17, s18, .val (.long room), .second, .val (.int (1 : Int32)), s22, s23, .val (.int hl), .val (.long len), .second, s27] [])) _
    exact kt
  ·
    simp only [if_neg hc421] at hv0
    rw [hv0] at kt
    show Steps p.tables e below (T0.setTop (mkF m 412 #[s0, s1, s2, s3, s4, s5, s6, s7, s8, s9, s10, s11, s12, s13, s14, s15, s16, s17, s18, .val (.long room), .second, .val (.int rj), s22, s23, .val (.int hl), .val (.long len), .second, s27] [])) _
    refine XS.lload X0.here hx rfl (hb hby at_412) rfl ?_
    show Steps p.tables e below (T0.setTop (mkF m 414 #[s0, s1, s2, s3, s4, s5, s6, s7, s8, s9, s10, s11, s12, s13, s14, s15, s16, s17, s18, .val (.long room), .second, .val (.int rj), s22, s23, .val (.int hl), .val (.long len), .second, s27] [(.long len)])) _
    refine XS.lload X0.here hx rfl (hb hby at_414) rfl ?_
    show Steps p.tables e below (T0.setTop (mkF m 416 #[s0, s1, s2, s3, s4, s5, s6, s7, s8, s9, s10, s11, s12, s13, s14, s15, s16, s17, s18, .val (.long room), .second, .val (.int rj), s22, s23, .val (.int hl), .val (.long len), .second, s27] [(.long room), (.long len)])) _
    refine XS.iload X0.here hx rfl (hb hby at_416) rfl ?_
    show Steps p.tables e below (T0.setTop (mkF m 418 #[s0, s1, s2, s3, s4, s5, s6, s7, s8, s9, s10, s11, s12, s13, s14, s15, s16, s17, s18, .val (.long room), .second, .val (.int rj), s22, s23, .val (.int hl), .val (.long len), .second, s27] [(.int hl), (.long room), (.long len)])) _
    refine XS.i2l X0.here hx rfl (hb hby at_418) rfl ?_
    show Steps p.tables e below (T0.setTop (mkF m 419 #[s0, s1, s2, s3, s4, s5, s6, s7, s8, s9, s10, s11, s12, s13, s14, s15, s16, s17, s18, .val (.long room), .second, .val (.int rj), s22, s23, .val (.int hl), .val (.long len), .second, s27] [(.long (hl.toInt64)), (.long room), (.long len)])) _
    refine XS.lsub X0.here hx rfl (hb hby at_419) rfl ?_
    show Steps p.tables e below (T0.setTop (mkF m 420 #[s0, s1, s2, s3, s4, s5, s6, s7, s8, s9, s10, s11, s12, s13, s14, s15, s16, s17, s18, .val (.long room), .second, .val (.int rj), s22, s23, .val (.int hl), .val (.long len), .second, s27] [(.long (room - (hl.toInt64))), (.long len)])) _
    refine XS.lcmp X0.here hx rfl (hb hby at_420) rfl ?_
    show Steps p.tables e below (T0.setTop (mkF m 421 #[s0, s1, s2, s3, s4, s5, s6, s7, s8, s9, s10, s11, s12, s13, s14, s15, s16, s17, s18, .val (.long room), .second, .val (.int rj), s22, s23, .val (.int hl), .val (.long len), .second, s27] [(.int (lcmpW len (room - (hl.toInt64))))])) _
    refine XS.ifYes X0.here hx rfl (pc0 := 421) (pc' := 427) rfl (hb hby at_421) rfl ((if0 _ _).trans (flt hc421).2.2.2) (by decide) (by decide) ?_
    show Steps p.tables e below (T0.setTop (mkF m 427 #[s0, s1, s2, s3, s4, s5, s6, s7, s8, s9, s10, s11, s12, s13, s14, s15, s16, s17, s18, .val (.long room), .second, .val (.int rj), s22, s23, .val (.int hl), .val (.long len), .second, s27] [])) _
    exact kt
theorem ef_0 (m : MethodId) (q0 : Int64) (q1 : Int32) (q2 : Int32) : entryFrame m #[(.long q0), (.int q1), (.int q2)] maxLocals = mkF m 0 #[.val (.long q0), .second, .val (.int q1), .val (.int q2), .unset, .unset, .unset, .unset, .unset, .unset, .unset, .unset, .unset, .unset, .unset, .unset, .unset, .unset, .unset, .unset, .unset, .unset, .unset, .unset, .unset, .unset, .unset, .unset] [] := by first | (simp [entryFrame, mkF, argsToLocals, Value.category, maxLocals]; done) | rfl
def Q0 (h0 : Heap) (n0 : Nat) (v : Option Value) (h : Heap) (L : List Loc) : Prop := v = some (.int 1) ∧ Fr n0 L
set_option maxRecDepth 65536 in
set_option maxHeartbeats 40000000 in
theorem rm0 (l : Launch) (Z : State) (a0 : Array Value) (hw : ∀ d ∈ tables_1, d.before a0 Z = true) (ws : List Jvm.Cond) (q0 : Int64) (q1 q2 : Int32) (h0 : Heap) (n0 : Nat) (Z0 : n0 ≤ h0.size) :
    MetFree l x (head1 (Jvm.Cond.code x code maxLocals ret :: ws) room_1) (fun a U => a = #[(.long q0), (.int q1), (.int q2)] ∧ Z.Warmed39 U.vm ∧ U.heap = h0) (fun _ _ _ _ _ => True) (fun _ U o U' => ∃ v L, o = .returned v ∧ Q0 h0 n0 v U'.heap L ∧ FrameEnd U o U' L 1 264) := by
  refine MetFree.of_bodySF (plainFor_of_name pn_0) hisR ?_
  intro p e s m args below meth c s₁ Bd hml0 hP hK
  obtain ⟨rfl, hZ, hh⟩ := hP
  have hx := Bd.exec
  have hby := Bd.bytes
  have hml : c.maxLocals = 28 := hml0
  have hown : s.vm.findClass "com/example/tagloom/tagloom/tlv/TlvDecoderPlainHeaderPinLaw" = some m.cls := findClass_of_methodNamed Bd.named
  have hnm := (name_of_methodNamed Bd.named Bd.method).1
  have X0 : Stand p l e room_1 s m #[(.long q0), (.int q1), (.int q2)] below meth c s₁ [] 0 0 := Stand.of_body Bd
  have e0 : s₁.heap = h0 := by rw [← hh, Bd.state]; rfl
  have N0 := Fr.nil n0
  have pre0 : ∀ tgt, Steps p.tables e below (s₁.setTop (mkF m 0 #[.val (.long q0), .second, .val (.int q1), .val (.int q2), .unset, .unset, .unset, .unset, .unset, .unset, .unset, .unset, .unset, .unset, .unset, .unset, .unset, .unset, .unset, .unset, .unset, .unset, .unset, .unset, .unset, .unset, .unset, .unset] [])) tgt → Steps p.tables e below (s₁.setTop (entryFrame m #[(.long q0), (.int q1), (.int q2)] maxLocals)) tgt := fun tgt k => castTop (ef_0 m q0 q1 q2) k
  obtain ⟨T1, h1, k1, X1, e1, E1, A1, st1⟩ := newP X0 hx hZ (hw _ (List.mem_of_getElem? (i := 0) rfl)) e0 (g := (mkF m 3 #[.val (.long q0), .second, .val (.int q1), .val (.int q2), .unset, .unset, .unset, .unset, .unset, .unset, .unset, .unset, .unset, .unset, .unset, .unset, .unset, .unset, .unset, .unset, .unset, .unset, .unset, .unset, .unset, .unset, .unset, .unset] [(.int (264 : Int32))])) rfl (hb hby at_3) rfl (by decide) (cap := 264) (by decide) (by decide) (by decide) (by decide)
  obtain ⟨b1, g1⟩ : ∃ z, z = h0.size := ⟨_, rfl⟩
  rw [← g1] at A1 st1
  have g_b1 : n0 ≤ b1 := Nat.le_trans Z0 (Nat.le_of_eq g1.symm)
  have sz_b1 : h0.size ≤ b1 := Nat.le_trans (Nat.le_refl _) (Nat.le_of_eq g1.symm)
  obtain ⟨c0, hc0⟩ : ∃ z, z = newA k1 .byte (264 : Int32) := ⟨_, rfl⟩
  have Ar0 : Arr Z h1 b1 c0 .byte := hc0 ▸ A1
  have cs0 : c0.slots.size = 264 := by rw [hc0, sz_new]; rfl
  obtain ⟨at1, hat1⟩ : ∃ z : Int32, z = (q1 &&& (7 : Int32)) := ⟨_, rfl⟩
  have H7 := own_at7 hat1
  obtain ⟨lim, hlim⟩ : ∃ z : Int32, z = ((q2 &&& (2147483647 : Int32)) % (265 : Int32)) := ⟨_, rfl⟩
  obtain ⟨T2, h2, X2, e2, W2, st2⟩ := stB X1 hx hZ e1 Ar0 (j := at1) (own_in0 H7 cs0) (g := (mkF m 30 #[.val (.long q0), .second, .val (.int q1), .val (.int q2), .val (.ref b1), .val (.int at1), .val (.int lim), .unset, .unset, .unset, .unset, .unset, .unset, .unset, .unset, .unset, .unset, .unset, .unset, .unset, .unset, .unset, .unset, .unset, .unset, .unset, .unset, .unset] [(.int ((q0.toInt32).toInt8.toInt32)), (.int at1), (.ref b1)])) rfl rfl (hb hby at_30)
  have N2 := Fr.snoc X2 N0 g_b1
  obtain ⟨c1, hc1⟩ : ∃ z, z = c0.setSlot (at1).toNatClampNeg (.int (nar .byte ((q0.toInt32).toInt8.toInt32))) := ⟨_, rfl⟩
  have Ar1 : Arr Z h2 b1 c1 .byte := hc1 ▸ Ar0.same W2
  have cs1 : c1.slots.size = 264 := by rw [hc1, sz_set]; exact cs0
  obtain ⟨T3, h3, X3, e3, W3, st3⟩ := stB X2 hx hZ e2 Ar1 (j := (at1 + (1 : Int32))) (own_ini H7 (n := 1) (by decide) (by decide) cs1) (g := (mkF m 43 #[.val (.long q0), .second, .val (.int q1), .val (.int q2), .val (.ref b1), .val (.int at1), .val (.int lim), .unset, .unset, .unset, .unset, .unset, .unset, .unset, .unset, .unset, .unset, .unset, .unset, .unset, .unset, .unset, .unset, .unset, .unset, .unset, .unset, .unset] [(.int ((((q0.toUInt64 >>> ((8 : Int32) &&& 0x3f).toInt64.toUInt64).toInt64).toInt32).toInt8.toInt32)), (.int (at1 + (1 : Int32))), (.ref b1)])) rfl rfl (hb hby at_43)
  have N3 := Fr.snoc X3 N2 g_b1
  obtain ⟨c2, hc2⟩ : ∃ z, z = c1.setSlot ((at1 + (1 : Int32))).toNatClampNeg (.int (nar .byte ((((q0.toUInt64 >>> ((8 : Int32) &&& 0x3f).toInt64.toUInt64).toInt64).toInt32).toInt8.toInt32))) := ⟨_, rfl⟩
  have Ar2 : Arr Z h3 b1 c2 .byte := hc2 ▸ Ar1.same W3
  have cs2 : c2.slots.size = 264 := by rw [hc2, sz_set]; exact cs1
  obtain ⟨T4, h4, X4, e4, W4, st4⟩ := stB X3 hx hZ e3 Ar2 (j := (at1 + (2 : Int32))) (own_ini H7 (n := 2) (by decide) (by decide) cs2) (g := (mkF m 56 #[.val (.long q0), .second, .val (.int q1), .val (.int q2), .val (.ref b1), .val (.int at1), .val (.int lim), .unset, .unset, .unset, .unset, .unset, .unset, .unset, .unset, .unset, .unset, .unset, .unset, .unset, .unset, .unset, .unset, .unset, .unset, .unset, .unset, .unset] [(.int ((((q0.toUInt64 >>> ((16 : Int32) &&& 0x3f).toInt64.toUInt64).toInt64).toInt32).toInt8.toInt32)), (.int (at1 + (2 : Int32))), (.ref b1)])) rfl rfl (hb hby at_56)
  have N4 := Fr.snoc X4 N3 g_b1
  obtain ⟨c3, hc3⟩ : ∃ z, z = c2.setSlot ((at1 + (2 : Int32))).toNatClampNeg (.int (nar .byte ((((q0.toUInt64 >>> ((16 : Int32) &&& 0x3f).toInt64.toUInt64).toInt64).toInt32).toInt8.toInt32))) := ⟨_, rfl⟩
  have Ar3 : Arr Z h4 b1 c3 .byte := hc3 ▸ Ar2.same W4
  have cs3 : c3.slots.size = 264 := by rw [hc3, sz_set]; exact cs2
  obtain ⟨T5, h5, X5, e5, W5, st5⟩ := stB X4 hx hZ e4 Ar3 (j := (at1 + (3 : Int32))) (own_ini H7 (n := 3) (by decide) (by decide) cs3) (g := (mkF m 69 #[.val (.long q0), .second, .val (.int q1), .val (.int q2), .val (.ref b1), .val (.int at1), .val (.int lim), .unset, .unset, .unset, .unset, .unset, .unset, .unset, .unset, .unset, .unset, .unset, .unset, .unset, .unset, .unset, .unset, .unset, .unset, .unset, .unset, .unset] [(.int ((((q0.toUInt64 >>> ((24 : Int32) &&& 0x3f).toInt64.toUInt64).toInt64).toInt32).toInt8.toInt32)), (.int (at1 + (3 : Int32))), (.ref b1)])) rfl rfl (hb hby at_69)
  have N5 := Fr.snoc X5 N4 g_b1
  obtain ⟨c4, hc4⟩ : ∃ z, z = c3.setSlot ((at1 + (3 : Int32))).toNatClampNeg (.int (nar .byte ((((q0.toUInt64 >>> ((24 : Int32) &&& 0x3f).toInt64.toUInt64).toInt64).toInt32).toInt8.toInt32))) := ⟨_, rfl⟩
  have Ar4 : Arr Z h5 b1 c4 .byte := hc4 ▸ Ar3.same W5
  have cs4 : c4.slots.size = 264 := by rw [hc4, sz_set]; exact cs3
  obtain ⟨T6, h6, X6, e6, W6, st6⟩ := stB X5 hx hZ e5 Ar4 (j := (at1 + (4 : Int32))) (own_ini H7 (n := 4) (by decide) (by decide) cs4) (g := (mkF m 82 #[.val (.long q0), .second, .val (.int q1), .val (.int q2), .val (.ref b1), .val (.int at1), .val (.int lim), .unset, .unset, .unset, .unset, .unset, .unset, .unset, .unset, .unset, .unset, .unset, .unset, .unset, .unset, .unset, .unset, .unset, .unset, .unset, .unset, .unset] [(.int ((((q0.toUInt64 >>> ((32 : Int32) &&& 0x3f).toInt64.toUInt64).toInt64).toInt32).toInt8.toInt32)), (.int (at1 + (4 : Int32))), (.ref b1)])) rfl rfl (hb hby at_82)
  have N6 := Fr.snoc X6 N5 g_b1
  obtain ⟨c5, hc5⟩ : ∃ z, z = c4.setSlot ((at1 + (4 : Int32))).toNatClampNeg (.int (nar .byte ((((q0.toUInt64 >>> ((32 : Int32) &&& 0x3f).toInt64.toUInt64).toInt64).toInt32).toInt8.toInt32))) := ⟨_, rfl⟩
  have Ar5 : Arr Z h6 b1 c5 .byte := hc5 ▸ Ar4.same W6
  have cs5 : c5.slots.size = 264 := by rw [hc5, sz_set]; exact cs4
  obtain ⟨T7, h7, X7, e7, W7, st7⟩ := stB X6 hx hZ e6 Ar5 (j := (at1 + (5 : Int32))) (own_ini H7 (n := 5) (by decide) (by decide) cs5) (g := (mkF m 95 #[.val (.long q0), .second, .val (.int q1), .val (.int q2), .val (.ref b1), .val (.int at1), .val (.int lim), .unset, .unset, .unset, .unset, .unset, .unset, .unset, .unset, .unset, .unset, .unset, .unset, .unset, .unset, .unset, .unset, .unset, .unset, .unset, .unset, .unset] [(.int ((((q0.toUInt64 >>> ((40 : Int32) &&& 0x3f).toInt64.toUInt64).toInt64).toInt32).toInt8.toInt32)), (.int (at1 + (5 : Int32))), (.ref b1)])) rfl rfl (hb hby at_95)
  have N7 := Fr.snoc X7 N6 g_b1
  obtain ⟨c6, hc6⟩ : ∃ z, z = c5.setSlot ((at1 + (5 : Int32))).toNatClampNeg (.int (nar .byte ((((q0.toUInt64 >>> ((40 : Int32) &&& 0x3f).toInt64.toUInt64).toInt64).toInt32).toInt8.toInt32))) := ⟨_, rfl⟩
  have Ar6 : Arr Z h7 b1 c6 .byte := hc6 ▸ Ar5.same W7
  have cs6 : c6.slots.size = 264 := by rw [hc6, sz_set]; exact cs5
  obtain ⟨T8, h8, X8, e8, W8, st8⟩ := stB X7 hx hZ e7 Ar6 (j := (at1 + (6 : Int32))) (own_ini H7 (n := 6) (by decide) (by decide) cs6) (g := (mkF m 109 #[.val (.long q0), .second, .val (.int q1), .val (.int q2), .val (.ref b1), .val (.int at1), .val (.int lim), .unset, .unset, .unset, .unset, .unset, .unset, .unset, .unset, .unset, .unset, .unset, .unset, .unset, .unset, .unset, .unset, .unset, .unset, .unset, .unset, .unset] [(.int ((((q0.toUInt64 >>> ((48 : Int32) &&& 0x3f).toInt64.toUInt64).toInt64).toInt32).toInt8.toInt32)), (.int (at1 + (6 : Int32))), (.ref b1)])) rfl rfl (hb hby at_109)
  have N8 := Fr.snoc X8 N7 g_b1
  obtain ⟨c7, hc7⟩ : ∃ z, z = c6.setSlot ((at1 + (6 : Int32))).toNatClampNeg (.int (nar .byte ((((q0.toUInt64 >>> ((48 : Int32) &&& 0x3f).toInt64.toUInt64).toInt64).toInt32).toInt8.toInt32))) := ⟨_, rfl⟩
  have Ar7 : Arr Z h8 b1 c7 .byte := hc7 ▸ Ar6.same W8
  have cs7 : c7.slots.size = 264 := by rw [hc7, sz_set]; exact cs6
  obtain ⟨T9, h9, X9, e9, W9, st9⟩ := stB X8 hx hZ e8 Ar7 (j := (at1 + (7 : Int32))) (own_ini H7 (n := 7) (by decide) (by decide) cs7) (g := (mkF m 123 #[.val (.long q0), .second, .val (.int q1), .val (.int q2), .val (.ref b1), .val (.int at1), .val (.int lim), .unset, .unset, .unset, .unset, .unset, .unset, .unset, .unset, .unset, .unset, .unset, .unset, .unset, .unset, .unset, .unset, .unset, .unset, .unset, .unset, .unset] [(.int ((((q0.toUInt64 >>> ((56 : Int32) &&& 0x3f).toInt64.toUInt64).toInt64).toInt32).toInt8.toInt32)), (.int (at1 + (7 : Int32))), (.ref b1)])) rfl rfl (hb hby at_123)
  have N9 := Fr.snoc X9 N8 g_b1
  obtain ⟨c8, hc8⟩ : ∃ z, z = c7.setSlot ((at1 + (7 : Int32))).toNatClampNeg (.int (nar .byte ((((q0.toUInt64 >>> ((56 : Int32) &&& 0x3f).toInt64.toUInt64).toInt64).toInt32).toInt8.toInt32))) := ⟨_, rfl⟩
  have Ar8 : Arr Z h9 b1 c8 .byte := hc8 ▸ Ar7.same W9
  have cs8 : c8.slots.size = 264 := by rw [hc8, sz_set]; exact cs7
  obtain ⟨LF10, XF10, NF10⟩ : ∃ LC, Stand p l e room_1 s m #[(.long q0), (.int q1), (.int q2)] below meth c T9 LC 1 264 ∧ Fr n0 LC := ⟨_, X9, N9⟩
  have PB := own_pb H7 cs0 hc1 hc2 hc3 hc4 hc5 hc6 hc7 hc8
  have zz12 : n0 ≤ h9.size := (Nat.le_trans (Nat.le_trans (Nat.le_trans (Nat.le_trans (Nat.le_trans (Nat.le_trans (Nat.le_trans (Nat.le_trans (Nat.le_trans Z0 E1.1) (Keep.of_wr W2).1) (Keep.of_wr W3).1) (Keep.of_wr W4).1) (Keep.of_wr W5).1) (Keep.of_wr W6).1) (Keep.of_wr W7).1) (Keep.of_wr W8).1) (Keep.of_wr W9).1)
  obtain ⟨_, _, ⟨T11, L11, k11, n11⟩, -, X11, ⟨Lc11, hQ11, l11, y11, z11⟩, st11⟩ := Jvm.LawKit.callS XF10 hx (y := (⟨"com/example/tagloom/tagloom/tlv/TlvDecoder", "plainHeader", "([BII)J"⟩ : MethodName)) hown (mvT hZ (hw _ (List.mem_of_getElem? (i := 2) rfl))) (mvT hZ (hw _ (List.mem_of_getElem? (i := 3) rfl))) (mvT hZ (hw _ (List.mem_of_getElem? (i := 4) rfl))) (mvT hZ (hw _ (List.mem_of_getElem? (i := 5) rfl))) (by decide) (backOf (W := 0) (rm1 l Z a0 hw [] b1 at1 lim c8 (own_bb q0) h9 n0 zz12 Ar8 H7 PB) hZ (hw _ (List.mem_of_getElem? (i := 5) rfl)) (hw _ (List.mem_of_getElem? (i := 4) rfl)) (by decide) (by decide)) (g := (mkF m 130 #[.val (.long q0), .second, .val (.int q1), .val (.int q2), .val (.ref b1), .val (.int at1), .val (.int lim), .unset, .unset, .unset, .unset, .unset, .unset, .unset, .unset, .unset, .unset, .unset, .unset, .unset, .unset, .unset, .unset, .unset, .unset, .unset, .unset, .unset] [(.int lim), (.int at1), (.ref b1)])) rfl (by rw [hml]; rfl) (argsL := [(.ref b1), (.int at1), (.int lim)]) (rest := []) (lenOf pd_0 rfl) rfl (by show 2 * 0 + _ ≤ _; exact Nat.le_of_eq rfl) (hb hby at_130) (fun _ _ => ⟨rfl, e9, (by decide : 1 + 0 ≤ _), (by decide : 264 + 0 ≤ _)⟩)
  dsimp only [Pt.U, Pt.locs, Pt.cells, Pt.slots] at X11 l11 y11 z11 st11 hQ11
  subst l11 y11 z11
  obtain ⟨rfl, N11q, e11⟩ := hQ11
  have N11 := Fr.app NF10 N11q
  obtain ⟨rr, hrr⟩ : ∃ z : Int64, z = (own_ph at1 lim (own_bb q0 0) (own_bb q0 1) (own_bb q0 2) (own_bb q0 3) (own_bb q0 4) (own_bb q0 5)) := ⟨_, rfl⟩
  obtain ⟨idd, hidd⟩ : ∃ z : Int32, z = ((q0 &&& (255 : Int64)).toInt32) := ⟨_, rfl⟩
  obtain ⟨fi, hfi⟩ : ∃ z : Int32, z = ((((q0.toUInt64 >>> ((8 : Int32) &&& 0x3f).toInt64.toUInt64).toInt64) &&& (255 : Int64)).toInt32) := ⟨_, rfl⟩
  obtain ⟨b2, hb2⟩ : ∃ z : Int64, z = (((q0.toUInt64 >>> ((16 : Int32) &&& 0x3f).toInt64.toUInt64).toInt64) &&& (255 : Int64)) := ⟨_, rfl⟩
  obtain ⟨b3, hb3⟩ : ∃ z : Int64, z = (((q0.toUInt64 >>> ((24 : Int32) &&& 0x3f).toInt64.toUInt64).toInt64) &&& (255 : Int64)) := ⟨_, rfl⟩
  obtain ⟨b4, hb4⟩ : ∃ z : Int64, z = (((q0.toUInt64 >>> ((32 : Int32) &&& 0x3f).toInt64.toUInt64).toInt64) &&& (255 : Int64)) := ⟨_, rfl⟩
  obtain ⟨b5, hb5⟩ : ∃ z : Int64, z = (((q0.toUInt64 >>> ((40 : Int32) &&& 0x3f).toInt64.toUInt64).toInt64) &&& (255 : Int64)) := ⟨_, rfl⟩
  obtain ⟨room, hroom⟩ : ∃ z : Int64, z = ((lim.toInt64) - (at1.toInt64)) := ⟨_, rfl⟩
  obtain ⟨v0_206, hv0_206⟩ : ∃ z : Int32, z = (if (lcmpW room (2 : Int64)) < (0 : Int32) then (1 : Int32) else (0 : Int32)) := ⟨_, rfl⟩
  obtain ⟨tg, htg⟩ : ∃ z : Int32, z = (idd &&& (31 : Int32)) := ⟨_, rfl⟩
  obtain ⟨tc, htc⟩ : ∃ z : Int32, z = ((idd.toUInt32 >>> ((6 : Int32) &&& 31).toUInt32).toInt32) := ⟨_, rfl⟩
  obtain ⟨v0_232, hv0_232⟩ : ∃ z : Int32, z = (if tg = (31 : Int32) then (1 : Int32) else v0_206) := ⟨_, rfl⟩
  obtain ⟨v0_242, hv0_242⟩ : ∃ z : Int32, z = (if tc = (0 : Int32) then (if tg = (0 : Int32) then (1 : Int32) else v0_232) else v0_232) := ⟨_, rfl⟩
  obtain ⟨v0_255, hv0_255⟩ : ∃ z : Int32, z = (if fi < (128 : Int32) then v0_242 else (if (0 : Int32) < (lcmpW (if (1 : Int32) < (fi - (128 : Int32)) then (if (fi - (128 : Int32)) = (2 : Int32) then ((b2 * (256 : Int64)) + b3) else (if (fi - (128 : Int32)) = (3 : Int32) then ((((b2 * (256 : Int64)) + b3) * (256 : Int64)) + b4) else ((((((b2 * (256 : Int64)) + b3) * (256 : Int64)) + b4) * (256 : Int64)) + b5))) else b2) (2147483647 : Int64)) then (1 : Int32) else (if (fi - (128 : Int32)) = (0 : Int32) then (1 : Int32) else (if (4 : Int32) < (fi - (128 : Int32)) then (1 : Int32) else (if (0 : Int32) < (lcmpW ((fi - (128 : Int32)).toInt64) (room - (2 : Int64))) then (1 : Int32) else v0_242))))) := ⟨_, rfl⟩
  obtain ⟨v1_255, hv1_255⟩ : ∃ z : Int32, z = (if fi < (128 : Int32) then (2 : Int32) else ((2 : Int32) + (fi - (128 : Int32)))) := ⟨_, rfl⟩
  obtain ⟨v2_255, hv2_255⟩ : ∃ z : Int64, z = (if fi < (128 : Int32) then (fi.toInt64) else (if (1 : Int32) < (fi - (128 : Int32)) then (if (fi - (128 : Int32)) = (2 : Int32) then ((b2 * (256 : Int64)) + b3) else (if (fi - (128 : Int32)) = (3 : Int32) then ((((b2 * (256 : Int64)) + b3) * (256 : Int64)) + b4) else ((((((b2 * (256 : Int64)) + b3) * (256 : Int64)) + b4) * (256 : Int64)) + b5))) else b2)) := ⟨_, rfl⟩
  obtain ⟨v3_255, hv3_255⟩ : ∃ z : Slot, z = (if fi < (128 : Int32) then (.unset) else (.val (.int (fi - (128 : Int32))))) := ⟨_, rfl⟩
  obtain ⟨v0_412, hv0_412⟩ : ∃ z : Int32, z = (if (0 : Int32) < (lcmpW v2_255 (room - (v1_255.toInt64))) then (1 : Int32) else v0_255) := ⟨_, rfl⟩
  by_cases hc429 : v0_412 = (0 : Int32)
  ·
    obtain ⟨_, _, ⟨T13, L13, k13, n13⟩, -, X13, ⟨Lc13, hQ13, l13, y13, z13⟩, st13⟩ := Jvm.LawKit.callS X11 hx (y := (⟨"com/example/tagloom/tagloom/tlv/TlvDecoder", "plainIdentifier", "(J)I"⟩ : MethodName)) hown (mvT hZ (hw _ (List.mem_of_getElem? (i := 13) rfl))) (mvT hZ (hw _ (List.mem_of_getElem? (i := 14) rfl))) (mvT hZ (hw _ (List.mem_of_getElem? (i := 4) rfl))) (mvT hZ (hw _ (List.mem_of_getElem? (i := 15) rfl))) (by decide) (backOf (W := 0) (rm2 l Z a0 hw [] rr h9 n0 zz12) hZ (hw _ (List.mem_of_getElem? (i := 15) rfl)) (hw _ (List.mem_of_getElem? (i := 4) rfl)) (by decide) (by decide)) (g := (mkF m 458 #[.val (.long q0), .second, .val (.int q1), .val (.int q2), .val (.ref b1), .val (.int at1), .val (.int lim), .val (.long rr), .second, .val (.int idd), .val (.int fi), .val (.long b2), .second, .val (.long b3), .second, .val (.long b4), .second, .val (.long b5), .second, .val (.long room), .second, .val (.int v0_412), .val (.int tg), .val (.int tc), .val (.int v1_255), .val (.long v2_255), .second, v3_255] [(.long rr)])) rfl (by rw [hml]; rfl) (argsL := [(.long rr)]) (rest := []) (lenOf pd_1 rfl) rfl (by show 2 * 0 + _ ≤ _; exact Nat.le_of_eq rfl) (hb hby at_458) (fun _ _ => ⟨rfl, e11, (by decide : 1 + 0 ≤ _), (by decide : 264 + 0 ≤ _)⟩)
    dsimp only [Pt.U, Pt.locs, Pt.cells, Pt.slots] at X13 l13 y13 z13 st13 hQ13
    subst l13 y13 z13
    obtain ⟨rfl, N13q, e13⟩ := hQ13
    have N13 := Fr.app N11 N13q
    obtain ⟨_, _, ⟨T14, L14, k14, n14⟩, -, X14, ⟨Lc14, hQ14, l14, y14, z14⟩, st14⟩ := Jvm.LawKit.callS X13 hx (y := (⟨"com/example/tagloom/tagloom/tlv/TlvDecoder", "plainHeaderLength", "(J)I"⟩ : MethodName)) hown (mvT hZ (hw _ (List.mem_of_getElem? (i := 16) rfl))) (mvT hZ (hw _ (List.mem_of_getElem? (i := 17) rfl))) (mvT hZ (hw _ (List.mem_of_getElem? (i := 4) rfl))) (mvT hZ (hw _ (List.mem_of_getElem? (i := 18) rfl))) (by decide) (backOf (W := 0) (rm3 l Z a0 hw [] rr h9 n0 zz12) hZ (hw _ (List.mem_of_getElem? (i := 18) rfl)) (hw _ (List.mem_of_getElem? (i := 4) rfl)) (by decide) (by decide)) (g := (mkF m 468 #[.val (.long q0), .second, .val (.int q1), .val (.int q2), .val (.ref b1), .val (.int at1), .val (.int lim), .val (.long rr), .second, .val (.int idd), .val (.int fi), .val (.long b2), .second, .val (.long b3), .second, .val (.long b4), .second, .val (.long b5), .second, .val (.long room), .second, .val (.int v0_412), .val (.int tg), .val (.int tc), .val (.int v1_255), .val (.long v2_255), .second, v3_255] [(.long rr)])) rfl (by rw [hml]; rfl) (argsL := [(.long rr)]) (rest := []) (lenOf pd_1 rfl) rfl (by show 2 * 0 + _ ≤ _; exact Nat.le_of_eq rfl) (hb hby at_468) (fun _ _ => ⟨rfl, e13, (by decide : 1 + 0 ≤ _), (by decide : 264 + 0 ≤ _)⟩)
    dsimp only [Pt.U, Pt.locs, Pt.cells, Pt.slots] at X14 l14 y14 z14 st14 hQ14
    subst l14 y14 z14
    obtain ⟨rfl, N14q, e14⟩ := hQ14
    have N14 := Fr.app N13 N14q
    obtain ⟨_, _, ⟨T15, L15, k15, n15⟩, -, X15, ⟨Lc15, hQ15, l15, y15, z15⟩, st15⟩ := Jvm.LawKit.callS X14 hx (y := (⟨"com/example/tagloom/tagloom/tlv/TlvDecoder", "plainLength", "(J)I"⟩ : MethodName)) hown (mvT hZ (hw _ (List.mem_of_getElem? (i := 19) rfl))) (mvT hZ (hw _ (List.mem_of_getElem? (i := 20) rfl))) (mvT hZ (hw _ (List.mem_of_getElem? (i := 4) rfl))) (mvT hZ (hw _ (List.mem_of_getElem? (i := 21) rfl))) (by decide) (backOf (W := 0) (rm4 l Z a0 hw [] rr h9 n0 zz12) hZ (hw _ (List.mem_of_getElem? (i := 21) rfl)) (hw _ (List.mem_of_getElem? (i := 4) rfl)) (by decide) (by decide)) (g := (mkF m 478 #[.val (.long q0), .second, .val (.int q1), .val (.int q2), .val (.ref b1), .val (.int at1), .val (.int lim), .val (.long rr), .second, .val (.int idd), .val (.int fi), .val (.long b2), .second, .val (.long b3), .second, .val (.long b4), .second, .val (.long b5), .second, .val (.long room), .second, .val (.int v0_412), .val (.int tg), .val (.int tc), .val (.int v1_255), .val (.long v2_255), .second, v3_255] [(.long rr)])) rfl (by rw [hml]; rfl) (argsL := [(.long rr)]) (rest := []) (lenOf pd_1 rfl) rfl (by show 2 * 0 + _ ≤ _; exact Nat.le_of_eq rfl) (hb hby at_478) (fun _ _ => ⟨rfl, e14, (by decide : 1 + 0 ≤ _), (by decide : 264 + 0 ≤ _)⟩)
    dsimp only [Pt.U, Pt.locs, Pt.cells, Pt.slots] at X15 l15 y15 z15 st15 hQ15
    subst l15 y15 z15
    obtain ⟨rfl, N15q, e15⟩ := hQ15
    have N15 := Fr.app N14 N15q
    obtain ⟨fs, hr, hrun, hended, hW, hsame⟩ := X15.leave (v := some (.int (1 : Int32))) (fun h => by rw [Bd.returns] at h; cases h)
    refine ⟨_, _, pre0 _ ?_, hrun, hended, _, _, rfl, ?_, ⟨_, rfl⟩, hW, hsame.mono (by decide) (by decide)⟩
    · show Steps p.tables e below (s₁.setTop (mkF m 0 #[.val (.long q0), .second, .val (.int q1), .val (.int q2), .unset, .unset, .unset, .unset, .unset, .unset, .unset, .unset, .unset, .unset, .unset, .unset, .unset, .unset, .unset, .unset, .unset, .unset, .unset, .unset, .unset, .unset, .unset, .unset] [])) _
      refine XS.sipush X0.here hx rfl (hb hby at_0) ?_
      show Steps p.tables e below (s₁.setTop (mkF m 3 #[.val (.long q0), .second, .val (.int q1), .val (.int q2), .unset, .unset, .unset, .unset, .unset, .unset, .unset, .unset, .unset, .unset, .unset, .unset, .unset, .unset, .unset, .unset, .unset, .unset, .unset, .unset, .unset, .unset, .unset, .unset] [(.int (264 : Int32))])) _
      refine st1 _ ?_
      show Steps p.tables e below (T1.setTop (mkF m 5 #[.val (.long q0), .second, .val (.int q1), .val (.int q2), .unset, .unset, .unset, .unset, .unset, .unset, .unset, .unset, .unset, .unset, .unset, .unset, .unset, .unset, .unset, .unset, .unset, .unset, .unset, .unset, .unset, .unset, .unset, .unset] [(.ref b1)])) _
      refine XS.astore X1.here hx rfl (hb hby at_5) rfl rfl (l' := #[.val (.long q0), .second, .val (.int q1), .val (.int q2), .val (.ref b1), .unset, .unset, .unset, .unset, .unset, .unset, .unset, .unset, .unset, .unset, .unset, .unset, .unset, .unset, .unset, .unset, .unset, .unset, .unset, .unset, .unset, .unset, .unset]) rfl ?_
      show Steps p.tables e below (T1.setTop (mkF m 7 #[.val (.long q0), .second, .val (.int q1), .val (.int q2), .val (.ref b1), .unset, .unset, .unset, .unset, .unset, .unset, .unset, .unset, .unset, .unset, .unset, .unset, .unset, .unset, .unset, .unset, .unset, .unset, .unset, .unset, .unset, .unset, .unset] [])) _
      refine XS.iloadN X1.here hx rfl (hb hby at_7) rfl ?_
      show Steps p.tables e below (T1.setTop (mkF m 8 #[.val (.long q0), .second, .val (.int q1), .val (.int q2), .val (.ref b1), .unset, .unset, .unset, .unset, .unset, .unset, .unset, .unset, .unset, .unset, .unset, .unset, .unset, .unset, .unset, .unset, .unset, .unset, .unset, .unset, .unset, .unset, .unset] [(.int q1)])) _
      refine XS.bipush X1.here hx rfl (hb hby at_8) ?_
      show Steps p.tables e below (T1.setTop (mkF m 10 #[.val (.long q0), .second, .val (.int q1), .val (.int q2), .val (.ref b1), .unset, .unset, .unset, .unset, .unset, .unset, .unset, .unset, .unset, .unset, .unset, .unset, .unset, .unset, .unset, .unset, .unset, .unset, .unset, .unset, .unset, .unset, .unset] [(.int (7 : Int32)), (.int q1)])) _
      refine XS.iand X1.here hx rfl (hb hby at_10) rfl ?_
      show Steps p.tables e below (T1.setTop (mkF m 11 #[.val (.long q0), .second, .val (.int q1), .val (.int q2), .val (.ref b1), .unset, .unset, .unset, .unset, .unset, .unset, .unset, .unset, .unset, .unset, .unset, .unset, .unset, .unset, .unset, .unset, .unset, .unset, .unset, .unset, .unset, .unset, .unset] [(.int (q1 &&& (7 : Int32)))])) _
      refine XS.istore X1.here hx rfl (hb hby at_11) rfl (l' := #[.val (.long q0), .second, .val (.int q1), .val (.int q2), .val (.ref b1), .val (.int (q1 &&& (7 : Int32))), .unset, .unset, .unset, .unset, .unset, .unset, .unset, .unset, .unset, .unset, .unset, .unset, .unset, .unset, .unset, .unset, .unset, .unset, .unset, .unset, .unset, .unset]) rfl ?_
      show Steps p.tables e below (T1.setTop (mkF m 13 #[.val (.long q0), .second, .val (.int q1), .val (.int q2), .val (.ref b1), .val (.int (q1 &&& (7 : Int32))), .unset, .unset, .unset, .unset, .unset, .unset, .unset, .unset, .unset, .unset, .unset, .unset, .unset, .unset, .unset, .unset, .unset, .unset, .unset, .unset, .unset, .unset] [])) _
      rw [← hat1]
      show Steps p.tables e below (T1.setTop (mkF m 13 #[.val (.long q0), .second, .val (.int q1), .val (.int q2), .val (.ref b1), .val (.int at1), .unset, .unset, .unset, .unset, .unset, .unset, .unset, .unset, .unset, .unset, .unset, .unset, .unset, .unset, .unset, .unset, .unset, .unset, .unset, .unset, .unset, .unset] [])) _
      refine XS.iloadN X1.here hx rfl (hb hby at_13) rfl ?_
      show Steps p.tables e below (T1.setTop (mkF m 14 #[.val (.long q0), .second, .val (.int q1), .val (.int q2), .val (.ref b1), .val (.int at1), .unset, .unset, .unset, .unset, .unset, .unset, .unset, .unset, .unset, .unset, .unset, .unset, .unset, .unset, .unset, .unset, .unset, .unset, .unset, .unset, .unset, .unset] [(.int q2)])) _
      refine X1.ldcInt hx hown (mvT hZ (hw _ (List.mem_of_getElem? (i := 1) rfl))) (g := (mkF m 14 #[.val (.long q0), .second, .val (.int q1), .val (.int q2), .val (.ref b1), .val (.int at1), .unset, .unset, .unset, .unset, .unset, .unset, .unset, .unset, .unset, .unset, .unset, .unset, .unset, .unset, .unset, .unset, .unset, .unset, .unset, .unset, .unset, .unset] [(.int q2)])) rfl (hb hby at_14) _ ?_
      show Steps p.tables e below (T1.setTop (mkF m 16 #[.val (.long q0), .second, .val (.int q1), .val (.int q2), .val (.ref b1), .val (.int at1), .unset, .unset, .unset, .unset, .unset, .unset, .unset, .unset, .unset, .unset, .unset, .unset, .unset, .unset, .unset, .unset, .unset, .unset, .unset, .unset, .unset, .unset] [(.int (2147483647 : Int32)), (.int q2)])) _
      refine XS.iand X1.here hx rfl (hb hby at_16) rfl ?_
      show Steps p.tables e below (T1.setTop (mkF m 17 #[.val (.long q0), .second, .val (.int q1), .val (.int q2), .val (.ref b1), .val (.int at1), .unset, .unset, .unset, .unset, .unset, .unset, .unset, .unset, .unset, .unset, .unset, .unset, .unset, .unset, .unset, .unset, .unset, .unset, .unset, .unset, .unset, .unset] [(.int (q2 &&& (2147483647 : Int32)))])) _
      refine XS.sipush X1.here hx rfl (hb hby at_17) ?_
      show Steps p.tables e below (T1.setTop (mkF m 20 #[.val (.long q0), .second, .val (.int q1), .val (.int q2), .val (.ref b1), .val (.int at1), .unset, .unset, .unset, .unset, .unset, .unset, .unset, .unset, .unset, .unset, .unset, .unset, .unset, .unset, .unset, .unset, .unset, .unset, .unset, .unset, .unset, .unset] [(.int (265 : Int32)), (.int (q2 &&& (2147483647 : Int32)))])) _
      refine XS.irem X1.here hx rfl (hb hby at_20) rfl (by decide) ?_
      show Steps p.tables e below (T1.setTop (mkF m 21 #[.val (.long q0), .second, .val (.int q1), .val (.int q2), .val (.ref b1), .val (.int at1), .unset, .unset, .unset, .unset, .unset, .unset, .unset, .unset, .unset, .unset, .unset, .unset, .unset, .unset, .unset, .unset, .unset, .unset, .unset, .unset, .unset, .unset] [(.int ((q2 &&& (2147483647 : Int32)) - ((q2 &&& (2147483647 : Int32)) / (265 : Int32)) * (265 : Int32)))])) _
      rw [irem_eq_mod]
      show Steps p.tables e below (T1.setTop (mkF m 21 #[.val (.long q0), .second, .val (.int q1), .val (.int q2), .val (.ref b1), .val (.int at1), .unset, .unset, .unset, .unset, .unset, .unset, .unset, .unset, .unset, .unset, .unset, .unset, .unset, .unset, .unset, .unset, .unset, .unset, .unset, .unset, .unset, .unset] [(.int ((q2 &&& (2147483647 : Int32)) % (265 : Int32)))])) _
      refine XS.istore X1.here hx rfl (hb hby at_21) rfl (l' := #[.val (.long q0), .second, .val (.int q1), .val (.int q2), .val (.ref b1), .val (.int at1), .val (.int ((q2 &&& (2147483647 : Int32)) % (265 : Int32))), .unset, .unset, .unset, .unset, .unset, .unset, .unset, .unset, .unset, .unset, .unset, .unset, .unset, .unset, .unset, .unset, .unset, .unset, .unset, .unset, .unset]) rfl ?_
      show Steps p.tables e below (T1.setTop (mkF m 23 #[.val (.long q0), .second, .val (.int q1), .val (.int q2), .val (.ref b1), .val (.int at1), .val (.int ((q2 &&& (2147483647 : Int32)) % (265 : Int32))), .unset, .unset, .unset, .unset, .unset, .unset, .unset, .unset, .unset, .unset, .unset, .unset, .unset, .unset, .unset, .unset, .unset, .unset, .unset, .unset, .unset] [])) _
      rw [← hlim]
      show Steps p.tables e below (T1.setTop (mkF m 23 #[.val (.long q0), .second, .val (.int q1), .val (.int q2), .val (.ref b1), .val (.int at1), .val (.int lim), .unset, .unset, .unset, .unset, .unset, .unset, .unset, .unset, .unset, .unset, .unset, .unset, .unset, .unset, .unset, .unset, .unset, .unset, .unset, .unset, .unset] [])) _
      refine XS.aload X1.here hx rfl (hb hby at_23) rfl rfl ?_
      show Steps p.tables e below (T1.setTop (mkF m 25 #[.val (.long q0), .second, .val (.int q1), .val (.int q2), .val (.ref b1), .val (.int at1), .val (.int lim), .unset, .unset, .unset, .unset, .unset, .unset, .unset, .unset, .unset, .unset, .unset, .unset, .unset, .unset, .unset, .unset, .unset, .unset, .unset, .unset, .unset] [(.ref b1)])) _
      refine XS.iload X1.here hx rfl (hb hby at_25) rfl ?_
      show Steps p.tables e below (T1.setTop (mkF m 27 #[.val (.long q0), .second, .val (.int q1), .val (.int q2), .val (.ref b1), .val (.int at1), .val (.int lim), .unset, .unset, .unset, .unset, .unset, .unset, .unset, .unset, .unset, .unset, .unset, .unset, .unset, .unset, .unset, .unset, .unset, .unset, .unset, .unset, .unset] [(.int at1), (.ref b1)])) _
      refine XS.lloadN X1.here hx rfl (hb hby at_27) rfl ?_
      show Steps p.tables e below (T1.setTop (mkF m 28 #[.val (.long q0), .second, .val (.int q1), .val (.int q2), .val (.ref b1), .val (.int at1), .val (.int lim), .unset, .unset, .unset, .unset, .unset, .unset, .unset, .unset, .unset, .unset, .unset, .unset, .unset, .unset, .unset, .unset, .unset, .unset, .unset, .unset, .unset] [(.long q0), (.int at1), (.ref b1)])) _
      refine XS.l2i X1.here hx rfl (hb hby at_28) rfl ?_
      show Steps p.tables e below (T1.setTop (mkF m 29 #[.val (.long q0), .second, .val (.int q1), .val (.int q2), .val (.ref b1), .val (.int at1), .val (.int lim), .unset, .unset, .unset, .unset, .unset, .unset, .unset, .unset, .unset, .unset, .unset, .unset, .unset, .unset, .unset, .unset, .unset, .unset, .unset, .unset, .unset] [(.int (q0.toInt32)), (.int at1), (.ref b1)])) _
      refine XS.i2b X1.here hx rfl (hb hby at_29) rfl ?_
      show Steps p.tables e below (T1.setTop (mkF m 30 #[.val (.long q0), .second, .val (.int q1), .val (.int q2), .val (.ref b1), .val (.int at1), .val (.int lim), .unset, .unset, .unset, .unset, .unset, .unset, .unset, .unset, .unset, .unset, .unset, .unset, .unset, .unset, .unset, .unset, .unset, .unset, .unset, .unset, .unset] [(.int ((q0.toInt32).toInt8.toInt32)), (.int at1), (.ref b1)])) _
      refine st2 _ ?_
      show Steps p.tables e below (T2.setTop (mkF m 31 #[.val (.long q0), .second, .val (.int q1), .val (.int q2), .val (.ref b1), .val (.int at1), .val (.int lim), .unset, .unset, .unset, .unset, .unset, .unset, .unset, .unset, .unset, .unset, .unset, .unset, .unset, .unset, .unset, .unset, .unset, .unset, .unset, .unset, .unset] [])) _
      refine XS.aload X2.here hx rfl (hb hby at_31) rfl rfl ?_
      show Steps p.tables e below (T2.setTop (mkF m 33 #[.val (.long q0), .second, .val (.int q1), .val (.int q2), .val (.ref b1), .val (.int at1), .val (.int lim), .unset, .unset, .unset, .unset, .unset, .unset, .unset, .unset, .unset, .unset, .unset, .unset, .unset, .unset, .unset, .unset, .unset, .unset, .unset, .unset, .unset] [(.ref b1)])) _
      refine XS.iload X2.here hx rfl (hb hby at_33) rfl ?_
      show Steps p.tables e below (T2.setTop (mkF m 35 #[.val (.long q0), .second, .val (.int q1), .val (.int q2), .val (.ref b1), .val (.int at1), .val (.int lim), .unset, .unset, .unset, .unset, .unset, .unset, .unset, .unset, .unset, .unset, .unset, .unset, .unset, .unset, .unset, .unset, .unset, .unset, .unset, .unset, .unset] [(.int at1), (.ref b1)])) _
      refine XS.iconst X2.here hx rfl (hb hby at_35) ?_
      show Steps p.tables e below (T2.setTop (mkF m 36 #[.val (.long q0), .second, .val (.int q1), .val (.int q2), .val (.ref b1), .val (.int at1), .val (.int lim), .unset, .unset, .unset, .unset, .unset, .unset, .unset, .unset, .unset, .unset, .unset, .unset, .unset, .unset, .unset, .unset, .unset, .unset, .unset, .unset, .unset] [(.int (1 : Int32)), (.int at1), (.ref b1)])) _
      refine XS.iadd X2.here hx rfl (hb hby at_36) rfl ?_
      show Steps p.tables e below (T2.setTop (mkF m 37 #[.val (.long q0), .second, .val (.int q1), .val (.int q2), .val (.ref b1), .val (.int at1), .val (.int lim), .unset, .unset, .unset, .unset, .unset, .unset, .unset, .unset, .unset, .unset, .unset, .unset, .unset, .unset, .unset, .unset, .unset, .unset, .unset, .unset, .unset] [(.int (at1 + (1 : Int32))), (.ref b1)])) _
      refine XS.lloadN X2.here hx rfl (hb hby at_37) rfl ?_
      show Steps p.tables e below (T2.setTop (mkF m 38 #[.val (.long q0), .second, .val (.int q1), .val (.int q2), .val (.ref b1), .val (.int at1), .val (.int lim), .unset, .unset, .unset, .unset, .unset, .unset, .unset, .unset, .unset, .unset, .unset, .unset, .unset, .unset, .unset, .unset, .unset, .unset, .unset, .unset, .unset] [(.long q0), (.int (at1 + (1 : Int32))), (.ref b1)])) _
      refine XS.bipush X2.here hx rfl (hb hby at_38) ?_
      show Steps p.tables e below (T2.setTop (mkF m 40 #[.val (.long q0), .second, .val (.int q1), .val (.int q2), .val (.ref b1), .val (.int at1), .val (.int lim), .unset, .unset, .unset, .unset, .unset, .unset, .unset, .unset, .unset, .unset, .unset, .unset, .unset, .unset, .unset, .unset, .unset, .unset, .unset, .unset, .unset] [(.int (8 : Int32)), (.long q0), (.int (at1 + (1 : Int32))), (.ref b1)])) _
      refine XS.lushr X2.here hx rfl (hb hby at_40) rfl ?_
      show Steps p.tables e below (T2.setTop (mkF m 41 #[.val (.long q0), .second, .val (.int q1), .val (.int q2), .val (.ref b1), .val (.int at1), .val (.int lim), .unset, .unset, .unset, .unset, .unset, .unset, .unset, .unset, .unset, .unset, .unset, .unset, .unset, .unset, .unset, .unset, .unset, .unset, .unset, .unset, .unset] [(.long ((q0.toUInt64 >>> ((8 : Int32) &&& 0x3f).toInt64.toUInt64).toInt64)), (.int (at1 + (1 : Int32))), (.ref b1)])) _
      refine XS.l2i X2.here hx rfl (hb hby at_41) rfl ?_
      show Steps p.tables e below (T2.setTop (mkF m 42 #[.val (.long q0), .second, .val (.int q1), .val (.int q2), .val (.ref b1), .val (.int at1), .val (.int lim), .unset, .unset, .unset, .unset, .unset, .unset, .unset, .unset, .unset, .unset, .unset, .unset, .unset, .unset, .unset, .unset, .unset, .unset, .unset, .unset, .unset] [(.int (((q0.toUInt64 >>> ((8 : Int32) &&& 0x3f).toInt64.toUInt64).toInt64).toInt32)), (.int (at1 + (1 : Int32))), (.ref b1)])) _
      refine XS.i2b X2.here hx rfl (hb hby at_42) rfl ?_
      show Steps p.tables e below (T2.setTop (mkF m 43 #[.val (.long q0), .second, .val (.int q1), .val (.int q2), .val (.ref b1), .val (.int at1), .val (.int lim), .unset, .unset, .unset, .unset, .unset, .unset, .unset, .unset, .unset, .unset, .unset, .unset, .unset, .unset, .unset, .unset, .unset, .unset, .unset, .unset, .unset] [(.int ((((q0.toUInt64 >>> ((8 : Int32) &&& 0x3f).toInt64.toUInt64).toInt64).toInt32).toInt8.toInt32)), (.int (at1 + (1 : Int32))), (.ref b1)])) _
      refine st3 _ ?_
      show Steps p.tables e below (T3.setTop (mkF m 44 #[.val (.long q0), .second, .val (.int q1), .val (.int q2), .val (.ref b1), .val (.int at1), .val (.int lim), .unset, .unset, .unset, .unset, .unset, .unset, .unset, .unset, .unset, .unset, .unset, .unset, .unset, .unset, .unset, .unset, .unset, .unset, .unset, .unset, .unset] [])) _
      refine XS.aload X3.here hx rfl (hb hby at_44) rfl rfl ?_
      show Steps p.tables e below (T3.setTop (mkF m 46 #[.val (.long q0), .second, .val (.int q1), .val (.int q2), .val (.ref b1), .val (.int at1), .val (.int lim), .unset, .unset, .unset, .unset, .unset, .unset, .unset, .unset, .unset, .unset, .unset, .unset, .unset, .unset, .unset, .unset, .unset, .unset, .unset, .unset, .unset] [(.ref b1)])) _
      refine XS.iload X3.here hx rfl (hb hby at_46) rfl ?_
      show Steps p.tables e below (T3.setTop (mkF m 48 #[.val (.long q0), .second, .val (.int q1), .val (.int q2), .val (.ref b1), .val (.int at1), .val (.int lim), .unset, .unset, .unset, .unset, .unset, .unset, .unset, .unset, .unset, .unset, .unset, .unset, .unset, .unset, .unset, .unset, .unset, .unset, .unset, .unset, .unset] [(.int at1), (.ref b1)])) _
      refine XS.iconst X3.here hx rfl (hb hby at_48) ?_
      show Steps p.tables e below (T3.setTop (mkF m 49 #[.val (.long q0), .second, .val (.int q1), .val (.int q2), .val (.ref b1), .val (.int at1), .val (.int lim), .unset, .unset, .unset, .unset, .unset, .unset, .unset, .unset, .unset, .unset, .unset, .unset, .unset, .unset, .unset, .unset, .unset, .unset, .unset, .unset, .unset] [(.int (2 : Int32)), (.int at1), (.ref b1)])) _
      refine XS.iadd X3.here hx rfl (hb hby at_49) rfl ?_
      show Steps p.tables e below (T3.setTop (mkF m 50 #[.val (.long q0), .second, .val (.int q1), .val (.int q2), .val (.ref b1), .val (.int at1), .val (.int lim), .unset, .unset, .unset, .unset, .unset, .unset, .unset, .unset, .unset, .unset, .unset, .unset, .unset, .unset, .unset, .unset, .unset, .unset, .unset, .unset, .unset] [(.int (at1 + (2 : Int32))), (.ref b1)])) _
      refine XS.lloadN X3.here hx rfl (hb hby at_50) rfl ?_
      show Steps p.tables e below (T3.setTop (mkF m 51 #[.val (.long q0), .second, .val (.int q1), .val (.int q2), .val (.ref b1), .val (.int at1), .val (.int lim), .unset, .unset, .unset, .unset, .unset, .unset, .unset, .unset, .unset, .unset, .unset, .unset, .unset, .unset, .unset, .unset, .unset, .unset, .unset, .unset, .unset] [(.long q0), (.int (at1 + (2 : Int32))), (.ref b1)])) _
      refine XS.bipush X3.here hx rfl (hb hby at_51) ?_
      show Steps p.tables e below (T3.setTop (mkF m 53 #[.val (.long q0), .second, .val (.int q1), .val (.int q2), .val (.ref b1), .val (.int at1), .val (.int lim), .unset, .unset, .unset, .unset, .unset, .unset, .unset, .unset, .unset, .unset, .unset, .unset, .unset, .unset, .unset, .unset, .unset, .unset, .unset, .unset, .unset] [(.int (16 : Int32)), (.long q0), (.int (at1 + (2 : Int32))), (.ref b1)])) _
      refine XS.lushr X3.here hx rfl (hb hby at_53) rfl ?_
      show Steps p.tables e below (T3.setTop (mkF m 54 #[.val (.long q0), .second, .val (.int q1), .val (.int q2), .val (.ref b1), .val (.int at1), .val (.int lim), .unset, .unset, .unset, .unset, .unset, .unset, .unset, .unset, .unset, .unset, .unset, .unset, .unset, .unset, .unset, .unset, .unset, .unset, .unset, .unset, .unset] [(.long ((q0.toUInt64 >>> ((16 : Int32) &&& 0x3f).toInt64.toUInt64).toInt64)), (.int (at1 + (2 : Int32))), (.ref b1)])) _
      refine XS.l2i X3.here hx rfl (hb hby at_54) rfl ?_
      show Steps p.tables e below (T3.setTop (mkF m 55 #[.val (.long q0), .second, .val (.int q1), .val (.int q2), .val (.ref b1), .val (.int at1), .val (.int lim), .unset, .unset, .unset, .unset, .unset, .unset, .unset, .unset, .unset, .unset, .unset, .unset, .unset, .unset, .unset, .unset, .unset, .unset, .unset, .unset, .unset] [(.int (((q0.toUInt64 >>> ((16 : Int32) &&& 0x3f).toInt64.toUInt64).toInt64).toInt32)), (.int (at1 + (2 : Int32))), (.ref b1)])) _
      refine XS.i2b X3.here hx rfl (hb hby at_55) rfl ?_
      show Steps p.tables e below (T3.setTop (mkF m 56 #[.val (.long q0), .second, .val (.int q1), .val (.int q2), .val (.ref b1), .val (.int at1), .val (.int lim), .unset, .unset, .unset, .unset, .unset, .unset, .unset, .unset, .unset, .unset, .unset, .unset, .unset, .unset, .unset, .unset, .unset, .unset, .unset, .unset, .unset] [(.int ((((q0.toUInt64 >>> ((16 : Int32) &&& 0x3f).toInt64.toUInt64).toInt64).toInt32).toInt8.toInt32)), (.int (at1 + (2 : Int32))), (.ref b1)])) _
      refine st4 _ ?_
      show Steps p.tables e below (T4.setTop (mkF m 57 #[.val (.long q0), .second, .val (.int q1), .val (.int q2), .val (.ref b1), .val (.int at1), .val (.int lim), .unset, .unset, .unset, .unset, .unset, .unset, .unset, .unset, .unset, .unset, .unset, .unset, .unset, .unset, .unset, .unset, .unset, .unset, .unset, .unset, .unset] [])) _
      refine XS.aload X4.here hx rfl (hb hby at_57) rfl rfl ?_
      show Steps p.tables e below (T4.setTop (mkF m 59 #[.val (.long q0), .second, .val (.int q1), .val (.int q2), .val (.ref b1), .val (.int at1), .val (.int lim), .unset, .unset, .unset, .unset, .unset, .unset, .unset, .unset, .unset, .unset, .unset, .unset, .unset, .unset, .unset, .unset, .unset, .unset, .unset, .unset, .unset] [(.ref b1)])) _
      refine XS.iload X4.here hx rfl (hb hby at_59) rfl ?_
      show Steps p.tables e below (T4.setTop (mkF m 61 #[.val (.long q0), .second, .val (.int q1), .val (.int q2), .val (.ref b1), .val (.int at1), .val (.int lim), .unset, .unset, .unset, .unset, .unset, .unset, .unset, .unset, .unset, .unset, .unset, .unset, .unset, .unset, .unset, .unset, .unset, .unset, .unset, .unset, .unset] [(.int at1), (.ref b1)])) _
      refine XS.iconst X4.here hx rfl (hb hby at_61) ?_
      show Steps p.tables e below (T4.setTop (mkF m 62 #[.val (.long q0), .second, .val (.int q1), .val (.int q2), .val (.ref b1), .val (.int at1), .val (.int lim), .unset, .unset, .unset, .unset, .unset, .unset, .unset, .unset, .unset, .unset, .unset, .unset, .unset, .unset, .unset, .unset, .unset, .unset, .unset, .unset, .unset] [(.int (3 : Int32)), (.int at1), (.ref b1)])) _
      refine XS.iadd X4.here hx rfl (hb hby at_62) rfl ?_
      show Steps p.tables e below (T4.setTop (mkF m 63 #[.val (.long q0), .second, .val (.int q1), .val (.int q2), .val (.ref b1), .val (.int at1), .val (.int lim), .unset, .unset, .unset, .unset, .unset, .unset, .unset, .unset, .unset, .unset, .unset, .unset, .unset, .unset, .unset, .unset, .unset, .unset, .unset, .unset, .unset] [(.int (at1 + (3 : Int32))), (.ref b1)])) _
      refine XS.lloadN X4.here hx rfl (hb hby at_63) rfl ?_
      show Steps p.tables e below (T4.setTop (mkF m 64 #[.val (.long q0), .second, .val (.int q1), .val (.int q2), .val (.ref b1), .val (.int at1), .val (.int lim), .unset, .unset, .unset, .unset, .unset, .unset, .unset, .unset, .unset, .unset, .unset, .unset, .unset, .unset, .unset, .unset, .unset, .unset, .unset, .unset, .unset] [(.long q0), (.int (at1 + (3 : Int32))), (.ref b1)])) _
      refine XS.bipush X4.here hx rfl (hb hby at_64) ?_
      show Steps p.tables e below (T4.setTop (mkF m 66 #[.val (.long q0), .second, .val (.int q1), .val (.int q2), .val (.ref b1), .val (.int at1), .val (.int lim), .unset, .unset, .unset, .unset, .unset, .unset, .unset, .unset, .unset, .unset, .unset, .unset, .unset, .unset, .unset, .unset, .unset, .unset, .unset, .unset, .unset] [(.int (24 : Int32)), (.long q0), (.int (at1 + (3 : Int32))), (.ref b1)])) _
      refine XS.lushr X4.here hx rfl (hb hby at_66) rfl ?_
      show Steps p.tables e below (T4.setTop (mkF m 67 #[.val (.long q0), .second, .val (.int q1), .val (.int q2), .val (.ref b1), .val (.int at1), .val (.int lim), .unset, .unset, .unset, .unset, .unset, .unset, .unset, .unset, .unset, .unset, .unset, .unset, .unset, .unset, .unset, .unset, .unset, .unset, .unset, .unset, .unset] [(.long ((q0.toUInt64 >>> ((24 : Int32) &&& 0x3f).toInt64.toUInt64).toInt64)), (.int (at1 + (3 : Int32))), (.ref b1)])) _
      refine XS.l2i X4.here hx rfl (hb hby at_67) rfl ?_
      show Steps p.tables e below (T4.setTop (mkF m 68 #[.val (.long q0), .second, .val (.int q1), .val (.int q2), .val (.ref b1), .val (.int at1), .val (.int lim), .unset, .unset, .unset, .unset, .unset, .unset, .unset, .unset, .unset, .unset, .unset, .unset, .unset, .unset, .unset, .unset, .unset, .unset, .unset, .unset, .unset] [(.int (((q0.toUInt64 >>> ((24 : Int32) &&& 0x3f).toInt64.toUInt64).toInt64).toInt32)), (.int (at1 + (3 : Int32))), (.ref b1)])) _
      refine XS.i2b X4.here hx rfl (hb hby at_68) rfl ?_
      show Steps p.tables e below (T4.setTop (mkF m 69 #[.val (.long q0), .second, .val (.int q1), .val (.int q2), .val (.ref b1), .val (.int at1), .val (.int lim), .unset, .unset, .unset, .unset, .unset, .unset, .unset, .unset, .unset, .unset, .unset, .unset, .unset, .unset, .unset, .unset, .unset, .unset, .unset, .unset, .unset] [(.int ((((q0.toUInt64 >>> ((24 : Int32) &&& 0x3f).toInt64.toUInt64).toInt64).toInt32).toInt8.toInt32)), (.int (at1 + (3 : Int32))), (.ref b1)])) _
      refine st5 _ ?_
      show Steps p.tables e below (T5.setTop (mkF m 70 #[.val (.long q0), .second, .val (.int q1), .val (.int q2), .val (.ref b1), .val (.int at1), .val (.int lim), .unset, .unset, .unset, .unset, .unset, .unset, .unset, .unset, .unset, .unset, .unset, .unset, .unset, .unset, .unset, .unset, .unset, .unset, .unset, .unset, .unset] [])) _
      refine XS.aload X5.here hx rfl (hb hby at_70) rfl rfl ?_
      show Steps p.tables e below (T5.setTop (mkF m 72 #[.val (.long q0), .second, .val (.int q1), .val (.int q2), .val (.ref b1), .val (.int at1), .val (.int lim), .unset, .unset, .unset, .unset, .unset, .unset, .unset, .unset, .unset, .unset, .unset, .unset, .unset, .unset, .unset, .unset, .unset, .unset, .unset, .unset, .unset] [(.ref b1)])) _
      refine XS.iload X5.here hx rfl (hb hby at_72) rfl ?_
      show Steps p.tables e below (T5.setTop (mkF m 74 #[.val (.long q0), .second, .val (.int q1), .val (.int q2), .val (.ref b1), .val (.int at1), .val (.int lim), .unset, .unset, .unset, .unset, .unset, .unset, .unset, .unset, .unset, .unset, .unset, .unset, .unset, .unset, .unset, .unset, .unset, .unset, .unset, .unset, .unset] [(.int at1), (.ref b1)])) _
      refine XS.iconst X5.here hx rfl (hb hby at_74) ?_
      show Steps p.tables e below (T5.setTop (mkF m 75 #[.val (.long q0), .second, .val (.int q1), .val (.int q2), .val (.ref b1), .val (.int at1), .val (.int lim), .unset, .unset, .unset, .unset, .unset, .unset, .unset, .unset, .unset, .unset, .unset, .unset, .unset, .unset, .unset, .unset, .unset, .unset, .unset, .unset, .unset] [(.int (4 : Int32)), (.int at1), (.ref b1)])) _
      refine XS.iadd X5.here hx rfl (hb hby at_75) rfl ?_
      show Steps p.tables e below (T5.setTop (mkF m 76 #[.val (.long q0), .second, .val (.int q1), .val (.int q2), .val (.ref b1), .val (.int at1), .val (.int lim), .unset, .unset, .unset, .unset, .unset, .unset, .unset, .unset, .unset, .unset, .unset, .unset, .unset, .unset, .unset, .unset, .unset, .unset, .unset, .unset, .unset] [(.int (at1 + (4 : Int32))), (.ref b1)])) _
      refine XS.lloadN X5.here hx rfl (hb hby at_76) rfl ?_
      show Steps p.tables e below (T5.setTop (mkF m 77 #[.val (.long q0), .second, .val (.int q1), .val (.int q2), .val (.ref b1), .val (.int at1), .val (.int lim), .unset, .unset, .unset, .unset, .unset, .unset, .unset, .unset, .unset, .unset, .unset, .unset, .unset, .unset, .unset, .unset, .unset, .unset, .unset, .unset, .unset] [(.long q0), (.int (at1 + (4 : Int32))), (.ref b1)])) _
      refine XS.bipush X5.here hx rfl (hb hby at_77) ?_
      show Steps p.tables e below (T5.setTop (mkF m 79 #[.val (.long q0), .second, .val (.int q1), .val (.int q2), .val (.ref b1), .val (.int at1), .val (.int lim), .unset, .unset, .unset, .unset, .unset, .unset, .unset, .unset, .unset, .unset, .unset, .unset, .unset, .unset, .unset, .unset, .unset, .unset, .unset, .unset, .unset] [(.int (32 : Int32)), (.long q0), (.int (at1 + (4 : Int32))), (.ref b1)])) _
      refine XS.lushr X5.here hx rfl (hb hby at_79) rfl ?_
      show Steps p.tables e below (T5.setTop (mkF m 80 #[.val (.long q0), .second, .val (.int q1), .val (.int q2), .val (.ref b1), .val (.int at1), .val (.int lim), .unset, .unset, .unset, .unset, .unset, .unset, .unset, .unset, .unset, .unset, .unset, .unset, .unset, .unset, .unset, .unset, .unset, .unset, .unset, .unset, .unset] [(.long ((q0.toUInt64 >>> ((32 : Int32) &&& 0x3f).toInt64.toUInt64).toInt64)), (.int (at1 + (4 : Int32))), (.ref b1)])) _
      refine XS.l2i X5.here hx rfl (hb hby at_80) rfl ?_
      show Steps p.tables e below (T5.setTop (mkF m 81 #[.val (.long q0), .second, .val (.int q1), .val (.int q2), .val (.ref b1), .val (.int at1), .val (.int lim), .unset, .unset, .unset, .unset, .unset, .unset, .unset, .unset, .unset, .unset, .unset, .unset, .unset, .unset, .unset, .unset, .unset, .unset, .unset, .unset, .unset] [(.int (((q0.toUInt64 >>> ((32 : Int32) &&& 0x3f).toInt64.toUInt64).toInt64).toInt32)), (.int (at1 + (4 : Int32))), (.ref b1)])) _
      refine XS.i2b X5.here hx rfl (hb hby at_81) rfl ?_
      show Steps p.tables e below (T5.setTop (mkF m 82 #[.val (.long q0), .second, .val (.int q1), .val (.int q2), .val (.ref b1), .val (.int at1), .val (.int lim), .unset, .unset, .unset, .unset, .unset, .unset, .unset, .unset, .unset, .unset, .unset, .unset, .unset, .unset, .unset, .unset, .unset, .unset, .unset, .unset, .unset] [(.int ((((q0.toUInt64 >>> ((32 : Int32) &&& 0x3f).toInt64.toUInt64).toInt64).toInt32).toInt8.toInt32)), (.int (at1 + (4 : Int32))), (.ref b1)])) _
      refine st6 _ ?_
      show Steps p.tables e below (T6.setTop (mkF m 83 #[.val (.long q0), .second, .val (.int q1), .val (.int q2), .val (.ref b1), .val (.int at1), .val (.int lim), .unset, .unset, .unset, .unset, .unset, .unset, .unset, .unset, .unset, .unset, .unset, .unset, .unset, .unset, .unset, .unset, .unset, .unset, .unset, .unset, .unset] [])) _
      refine XS.aload X6.here hx rfl (hb hby at_83) rfl rfl ?_
      show Steps p.tables e below (T6.setTop (mkF m 85 #[.val (.long q0), .second, .val (.int q1), .val (.int q2), .val (.ref b1), .val (.int at1), .val (.int lim), .unset, .unset, .unset, .unset, .unset, .unset, .unset, .unset, .unset, .unset, .unset, .unset, .unset, .unset, .unset, .unset, .unset, .unset, .unset, .unset, .unset] [(.ref b1)])) _
      refine XS.iload X6.here hx rfl (hb hby at_85) rfl ?_
      show Steps p.tables e below (T6.setTop (mkF m 87 #[.val (.long q0), .second, .val (.int q1), .val (.int q2), .val (.ref b1), .val (.int at1), .val (.int lim), .unset, .unset, .unset, .unset, .unset, .unset, .unset, .unset, .unset, .unset, .unset, .unset, .unset, .unset, .unset, .unset, .unset, .unset, .unset, .unset, .unset] [(.int at1), (.ref b1)])) _
      refine XS.iconst X6.here hx rfl (hb hby at_87) ?_
      show Steps p.tables e below (T6.setTop (mkF m 88 #[.val (.long q0), .second, .val (.int q1), .val (.int q2), .val (.ref b1), .val (.int at1), .val (.int lim), .unset, .unset, .unset, .unset, .unset, .unset, .unset, .unset, .unset, .unset, .unset, .unset, .unset, .unset, .unset, .unset, .unset, .unset, .unset, .unset, .unset] [(.int (5 : Int32)), (.int at1), (.ref b1)])) _
      refine XS.iadd X6.here hx rfl (hb hby at_88) rfl ?_
      show Steps p.tables e below (T6.setTop (mkF m 89 #[.val (.long q0), .second, .val (.int q1), .val (.int q2), .val (.ref b1), .val (.int at1), .val (.int lim), .unset, .unset, .unset, .unset, .unset, .unset, .unset, .unset, .unset, .unset, .unset, .unset, .unset, .unset, .unset, .unset, .unset, .unset, .unset, .unset, .unset] [(.int (at1 + (5 : Int32))), (.ref b1)])) _
      refine XS.lloadN X6.here hx rfl (hb hby at_89) rfl ?_
      show Steps p.tables e below (T6.setTop (mkF m 90 #[.val (.long q0), .second, .val (.int q1), .val (.int q2), .val (.ref b1), .val (.int at1), .val (.int lim), .unset, .unset, .unset, .unset, .unset, .unset, .unset, .unset, .unset, .unset, .unset, .unset, .unset, .unset, .unset, .unset, .unset, .unset, .unset, .unset, .unset] [(.long q0), (.int (at1 + (5 : Int32))), (.ref b1)])) _
      refine XS.bipush X6.here hx rfl (hb hby at_90) ?_
      show Steps p.tables e below (T6.setTop (mkF m 92 #[.val (.long q0), .second, .val (.int q1), .val (.int q2), .val (.ref b1), .val (.int at1), .val (.int lim), .unset, .unset, .unset, .unset, .unset, .unset, .unset, .unset, .unset, .unset, .unset, .unset, .unset, .unset, .unset, .unset, .unset, .unset, .unset, .unset, .unset] [(.int (40 : Int32)), (.long q0), (.int (at1 + (5 : Int32))), (.ref b1)])) _
      refine XS.lushr X6.here hx rfl (hb hby at_92) rfl ?_
      show Steps p.tables e below (T6.setTop (mkF m 93 #[.val (.long q0), .second, .val (.int q1), .val (.int q2), .val (.ref b1), .val (.int at1), .val (.int lim), .unset, .unset, .unset, .unset, .unset, .unset, .unset, .unset, .unset, .unset, .unset, .unset, .unset, .unset, .unset, .unset, .unset, .unset, .unset, .unset, .unset] [(.long ((q0.toUInt64 >>> ((40 : Int32) &&& 0x3f).toInt64.toUInt64).toInt64)), (.int (at1 + (5 : Int32))), (.ref b1)])) _
      refine XS.l2i X6.here hx rfl (hb hby at_93) rfl ?_
      show Steps p.tables e below (T6.setTop (mkF m 94 #[.val (.long q0), .second, .val (.int q1), .val (.int q2), .val (.ref b1), .val (.int at1), .val (.int lim), .unset, .unset, .unset, .unset, .unset, .unset, .unset, .unset, .unset, .unset, .unset, .unset, .unset, .unset, .unset, .unset, .unset, .unset, .unset, .unset, .unset] [(.int (((q0.toUInt64 >>> ((40 : Int32) &&& 0x3f).toInt64.toUInt64).toInt64).toInt32)), (.int (at1 + (5 : Int32))), (.ref b1)])) _
      refine XS.i2b X6.here hx rfl (hb hby at_94) rfl ?_
      show Steps p.tables e below (T6.setTop (mkF m 95 #[.val (.long q0), .second, .val (.int q1), .val (.int q2), .val (.ref b1), .val (.int at1), .val (.int lim), .unset, .unset, .unset, .unset, .unset, .unset, .unset, .unset, .unset, .unset, .unset, .unset, .unset, .unset, .unset, .unset, .unset, .unset, .unset, .unset, .unset] [(.int ((((q0.toUInt64 >>> ((40 : Int32) &&& 0x3f).toInt64.toUInt64).toInt64).toInt32).toInt8.toInt32)), (.int (at1 + (5 : Int32))), (.ref b1)])) _
      refine st7 _ ?_
      show Steps p.tables e below (T7.setTop (mkF m 96 #[.val (.long q0), .second, .val (.int q1), .val (.int q2), .val (.ref b1), .val (.int at1), .val (.int lim), .unset, .unset, .unset, .unset, .unset, .unset, .unset, .unset, .unset, .unset, .unset, .unset, .unset, .unset, .unset, .unset, .unset, .unset, .unset, .unset, .unset] [])) _
      refine XS.aload X7.here hx rfl (hb hby at_96) rfl rfl ?_
      show Steps p.tables e below (T7.setTop (mkF m 98 #[.val (.long q0), .second, .val (.int q1), .val (.int q2), .val (.ref b1), .val (.int at1), .val (.int lim), .unset, .unset, .unset, .unset, .unset, .unset, .unset, .unset, .unset, .unset, .unset, .unset, .unset, .unset, .unset, .unset, .unset, .unset, .unset, .unset, .unset] [(.ref b1)])) _
      refine XS.iload X7.here hx rfl (hb hby at_98) rfl ?_
      show Steps p.tables e below (T7.setTop (mkF m 100 #[.val (.long q0), .second, .val (.int q1), .val (.int q2), .val (.ref b1), .val (.int at1), .val (.int lim), .unset, .unset, .unset, .unset, .unset, .unset, .unset, .unset, .unset, .unset, .unset, .unset, .unset, .unset, .unset, .unset, .unset, .unset, .unset, .unset, .unset] [(.int at1), (.ref b1)])) _
      refine XS.bipush X7.here hx rfl (hb hby at_100) ?_
      show Steps p.tables e below (T7.setTop (mkF m 102 #[.val (.long q0), .second, .val (.int q1), .val (.int q2), .val (.ref b1), .val (.int at1), .val (.int lim), .unset, .unset, .unset, .unset, .unset, .unset, .unset, .unset, .unset, .unset, .unset, .unset, .unset, .unset, .unset, .unset, .unset, .unset, .unset, .unset, .unset] [(.int (6 : Int32)), (.int at1), (.ref b1)])) _
      refine XS.iadd X7.here hx rfl (hb hby at_102) rfl ?_
      show Steps p.tables e below (T7.setTop (mkF m 103 #[.val (.long q0), .second, .val (.int q1), .val (.int q2), .val (.ref b1), .val (.int at1), .val (.int lim), .unset, .unset, .unset, .unset, .unset, .unset, .unset, .unset, .unset, .unset, .unset, .unset, .unset, .unset, .unset, .unset, .unset, .unset, .unset, .unset, .unset] [(.int (at1 + (6 : Int32))), (.ref b1)])) _
      refine XS.lloadN X7.here hx rfl (hb hby at_103) rfl ?_
      show Steps p.tables e below (T7.setTop (mkF m 104 #[.val (.long q0), .second, .val (.int q1), .val (.int q2), .val (.ref b1), .val (.int at1), .val (.int lim), .unset, .unset, .unset, .unset, .unset, .unset, .unset, .unset, .unset, .unset, .unset, .unset, .unset, .unset, .unset, .unset, .unset, .unset, .unset, .unset, .unset] [(.long q0), (.int (at1 + (6 : Int32))), (.ref b1)])) _
      refine XS.bipush X7.here hx rfl (hb hby at_104) ?_
      show Steps p.tables e below (T7.setTop (mkF m 106 #[.val (.long q0), .second, .val (.int q1), .val (.int q2), .val (.ref b1), .val (.int at1), .val (.int lim), .unset, .unset, .unset, .unset, .unset, .unset, .unset, .unset, .unset, .unset, .unset, .unset, .unset, .unset, .unset, .unset, .unset, .unset, .unset, .unset, .unset] [(.int (48 : Int32)), (.long q0), (.int (at1 + (6 : Int32))), (.ref b1)])) _
      refine XS.lushr X7.here hx rfl (hb hby at_106) rfl ?_
      show Steps p.tables e below (T7.setTop (mkF m 107 #[.val (.long q0), .second, .val (.int q1), .val (.int q2), .val (.ref b1), .val (.int at1), .val (.int lim), .unset, .unset, .unset, .unset, .unset, .unset, .unset, .unset, .unset, .unset, .unset, .unset, .unset, .unset, .unset, .unset, .unset, .unset, .unset, .unset, .unset] [(.long ((q0.toUInt64 >>> ((48 : Int32) &&& 0x3f).toInt64.toUInt64).toInt64)), (.int (at1 + (6 : Int32))), (.ref b1)])) _
      refine XS.l2i X7.here hx rfl (hb hby at_107) rfl ?_
      show Steps p.tables e below (T7.setTop (mkF m 108 #[.val (.long q0), .second, .val (.int q1), .val (.int q2), .val (.ref b1), .val (.int at1), .val (.int lim), .unset, .unset, .unset, .unset, .unset, .unset, .unset, .unset, .unset, .unset, .unset, .unset, .unset, .unset, .unset, .unset, .unset, .unset, .unset, .unset, .unset] [(.int (((q0.toUInt64 >>> ((48 : Int32) &&& 0x3f).toInt64.toUInt64).toInt64).toInt32)), (.int (at1 + (6 : Int32))), (.ref b1)])) _
      refine XS.i2b X7.here hx rfl (hb hby at_108) rfl ?_
      show Steps p.tables e below (T7.setTop (mkF m 109 #[.val (.long q0), .second, .val (.int q1), .val (.int q2), .val (.ref b1), .val (.int at1), .val (.int lim), .unset, .unset, .unset, .unset, .unset, .unset, .unset, .unset, .unset, .unset, .unset, .unset, .unset, .unset, .unset, .unset, .unset, .unset, .unset, .unset, .unset] [(.int ((((q0.toUInt64 >>> ((48 : Int32) &&& 0x3f).toInt64.toUInt64).toInt64).toInt32).toInt8.toInt32)), (.int (at1 + (6 : Int32))), (.ref b1)])) _
      refine st8 _ ?_
      show Steps p.tables e below (T8.setTop (mkF m 110 #[.val (.long q0), .second, .val (.int q1), .val (.int q2), .val (.ref b1), .val (.int at1), .val (.int lim), .unset, .unset, .unset, .unset, .unset, .unset, .unset, .unset, .unset, .unset, .unset, .unset, .unset, .unset, .unset, .unset, .unset, .unset, .unset, .unset, .unset] [])) _
      refine XS.aload X8.here hx rfl (hb hby at_110) rfl rfl ?_
      show Steps p.tables e below (T8.setTop (mkF m 112 #[.val (.long q0), .second, .val (.int q1), .val (.int q2), .val (.ref b1), .val (.int at1), .val (.int lim), .unset, .unset, .unset, .unset, .unset, .unset, .unset, .unset, .unset, .unset, .unset, .unset, .unset, .unset, .unset, .unset, .unset, .unset, .unset, .unset, .unset] [(.ref b1)])) _
      refine XS.iload X8.here hx rfl (hb hby at_112) rfl ?_
      show Steps p.tables e below (T8.setTop (mkF m 114 #[.val (.long q0), .second, .val (.int q1), .val (.int q2), .val (.ref b1), .val (.int at1), .val (.int lim), .unset, .unset, .unset, .unset, .unset, .unset, .unset, .unset, .unset, .unset, .unset, .unset, .unset, .unset, .unset, .unset, .unset, .unset, .unset, .unset, .unset] [(.int at1), (.ref b1)])) _
      refine XS.bipush X8.here hx rfl (hb hby at_114) ?_
      show Steps p.tables e below (T8.setTop (mkF m 116 #[.val (.long q0), .second, .val (.int q1), .val (.int q2), .val (.ref b1), .val (.int at1), .val (.int lim), .unset, .unset, .unset, .unset, .unset, .unset, .unset, .unset, .unset, .unset, .unset, .unset, .unset, .unset, .unset, .unset, .unset, .unset, .unset, .unset, .unset] [(.int (7 : Int32)), (.int at1), (.ref b1)])) _
      refine XS.iadd X8.here hx rfl (hb hby at_116) rfl ?_
      show Steps p.tables e below (T8.setTop (mkF m 117 #[.val (.long q0), .second, .val (.int q1), .val (.int q2), .val (.ref b1), .val (.int at1), .val (.int lim), .unset, .unset, .unset, .unset, .unset, .unset, .unset, .unset, .unset, .unset, .unset, .unset, .unset, .unset, .unset, .unset, .unset, .unset, .unset, .unset, .unset] [(.int (at1 + (7 : Int32))), (.ref b1)])) _
      refine XS.lloadN X8.here hx rfl (hb hby at_117) rfl ?_
      show Steps p.tables e below (T8.setTop (mkF m 118 #[.val (.long q0), .second, .val (.int q1), .val (.int q2), .val (.ref b1), .val (.int at1), .val (.int lim), .unset, .unset, .unset, .unset, .unset, .unset, .unset, .unset, .unset, .unset, .unset, .unset, .unset, .unset, .unset, .unset, .unset, .unset, .unset, .unset, .unset] [(.long q0), (.int (at1 + (7 : Int32))), (.ref b1)])) _
      refine XS.bipush X8.here hx rfl (hb hby at_118) ?_
      show Steps p.tables e below (T8.setTop (mkF m 120 #[.val (.long q0), .second, .val (.int q1), .val (.int q2), .val (.ref b1), .val (.int at1), .val (.int lim), .unset, .unset, .unset, .unset, .unset, .unset, .unset, .unset, .unset, .unset, .unset, .unset, .unset, .unset, .unset, .unset, .unset, .unset, .unset, .unset, .unset] [(.int (56 : Int32)), (.long q0), (.int (at1 + (7 : Int32))), (.ref b1)])) _
      refine XS.lushr X8.here hx rfl (hb hby at_120) rfl ?_
      show Steps p.tables e below (T8.setTop (mkF m 121 #[.val (.long q0), .second, .val (.int q1), .val (.int q2), .val (.ref b1), .val (.int at1), .val (.int lim), .unset, .unset, .unset, .unset, .unset, .unset, .unset, .unset, .unset, .unset, .unset, .unset, .unset, .unset, .unset, .unset, .unset, .unset, .unset, .unset, .unset] [(.long ((q0.toUInt64 >>> ((56 : Int32) &&& 0x3f).toInt64.toUInt64).toInt64)), (.int (at1 + (7 : Int32))), (.ref b1)])) _
      refine XS.l2i X8.here hx rfl (hb hby at_121) rfl ?_
      show Steps p.tables e below (T8.setTop (mkF m 122 #[.val (.long q0), .second, .val (.int q1), .val (.int q2), .val (.ref b1), .val (.int at1), .val (.int lim), .unset, .unset, .unset, .unset, .unset, .unset, .unset, .unset, .unset, .unset, .unset, .unset, .unset, .unset, .unset, .unset, .unset, .unset, .unset, .unset, .unset] [(.int (((q0.toUInt64 >>> ((56 : Int32) &&& 0x3f).toInt64.toUInt64).toInt64).toInt32)), (.int (at1 + (7 : Int32))), (.ref b1)])) _
      refine XS.i2b X8.here hx rfl (hb hby at_122) rfl ?_
      show Steps p.tables e below (T8.setTop (mkF m 123 #[.val (.long q0), .second, .val (.int q1), .val (.int q2), .val (.ref b1), .val (.int at1), .val (.int lim), .unset, .unset, .unset, .unset, .unset, .unset, .unset, .unset, .unset, .unset, .unset, .unset, .unset, .unset, .unset, .unset, .unset, .unset, .unset, .unset, .unset] [(.int ((((q0.toUInt64 >>> ((56 : Int32) &&& 0x3f).toInt64.toUInt64).toInt64).toInt32).toInt8.toInt32)), (.int (at1 + (7 : Int32))), (.ref b1)])) _
      refine st9 _ ?_
      show Steps p.tables e below (T9.setTop (mkF m 124 #[.val (.long q0), .second, .val (.int q1), .val (.int q2), .val (.ref b1), .val (.int at1), .val (.int lim), .unset, .unset, .unset, .unset, .unset, .unset, .unset, .unset, .unset, .unset, .unset, .unset, .unset, .unset, .unset, .unset, .unset, .unset, .unset, .unset, .unset] [])) _
      refine XS.aload X9.here hx rfl (hb hby at_124) rfl rfl ?_
      show Steps p.tables e below (T9.setTop (mkF m 126 #[.val (.long q0), .second, .val (.int q1), .val (.int q2), .val (.ref b1), .val (.int at1), .val (.int lim), .unset, .unset, .unset, .unset, .unset, .unset, .unset, .unset, .unset, .unset, .unset, .unset, .unset, .unset, .unset, .unset, .unset, .unset, .unset, .unset, .unset] [(.ref b1)])) _
      refine XS.iload X9.here hx rfl (hb hby at_126) rfl ?_
      show Steps p.tables e below (T9.setTop (mkF m 128 #[.val (.long q0), .second, .val (.int q1), .val (.int q2), .val (.ref b1), .val (.int at1), .val (.int lim), .unset, .unset, .unset, .unset, .unset, .unset, .unset, .unset, .unset, .unset, .unset, .unset, .unset, .unset, .unset, .unset, .unset, .unset, .unset, .unset, .unset] [(.int at1), (.ref b1)])) _
      refine XS.iload X9.here hx rfl (hb hby at_128) rfl ?_
      show Steps p.tables e below (T9.setTop (mkF m 130 #[.val (.long q0), .second, .val (.int q1), .val (.int q2), .val (.ref b1), .val (.int at1), .val (.int lim), .unset, .unset, .unset, .unset, .unset, .unset, .unset, .unset, .unset, .unset, .unset, .unset, .unset, .unset, .unset, .unset, .unset, .unset, .unset, .unset, .unset] [(.int lim), (.int at1), (.ref b1)])) _
      refine st11 _ ?_
      show Steps p.tables e below (T11.setTop (mkF m 133 #[.val (.long q0), .second, .val (.int q1), .val (.int q2), .val (.ref b1), .val (.int at1), .val (.int lim), .unset, .unset, .unset, .unset, .unset, .unset, .unset, .unset, .unset, .unset, .unset, .unset, .unset, .unset, .unset, .unset, .unset, .unset, .unset, .unset, .unset] [(.long (own_ph at1 lim (own_bb q0 0) (own_bb q0 1) (own_bb q0 2) (own_bb q0 3) (own_bb q0 4) (own_bb q0 5)))])) _
      refine XS.lstore X11.here hx rfl (hb hby at_133) rfl (l' := #[.val (.long q0), .second, .val (.int q1), .val (.int q2), .val (.ref b1), .val (.int at1), .val (.int lim), .val (.long (own_ph at1 lim (own_bb q0 0) (own_bb q0 1) (own_bb q0 2) (own_bb q0 3) (own_bb q0 4) (own_bb q0 5))), .second, .unset, .unset, .unset, .unset, .unset, .unset, .unset, .unset, .unset, .unset, .unset, .unset, .unset, .unset, .unset, .unset, .unset, .unset, .unset]) rfl ?_
      show Steps p.tables e below (T11.setTop (mkF m 135 #[.val (.long q0), .second, .val (.int q1), .val (.int q2), .val (.ref b1), .val (.int at1), .val (.int lim), .val (.long (own_ph at1 lim (own_bb q0 0) (own_bb q0 1) (own_bb q0 2) (own_bb q0 3) (own_bb q0 4) (own_bb q0 5))), .second, .unset, .unset, .unset, .unset, .unset, .unset, .unset, .unset, .unset, .unset, .unset, .unset, .unset, .unset, .unset, .unset, .unset, .unset, .unset] [])) _
      rw [← hrr]
      show Steps p.tables e below (T11.setTop (mkF m 135 #[.val (.long q0), .second, .val (.int q1), .val (.int q2), .val (.ref b1), .val (.int at1), .val (.int lim), .val (.long rr), .second, .unset, .unset, .unset, .unset, .unset, .unset, .unset, .unset, .unset, .unset, .unset, .unset, .unset, .unset, .unset, .unset, .unset, .unset, .unset] [])) _
      refine XS.lloadN X11.here hx rfl (hb hby at_135) rfl ?_
      show Steps p.tables e below (T11.setTop (mkF m 136 #[.val (.long q0), .second, .val (.int q1), .val (.int q2), .val (.ref b1), .val (.int at1), .val (.int lim), .val (.long rr), .second, .unset, .unset, .unset, .unset, .unset, .unset, .unset, .unset, .unset, .unset, .unset, .unset, .unset, .unset, .unset, .unset, .unset, .unset, .unset] [(.long q0)])) _
      refine X11.ldc2Long hx hown (mvT hZ (hw _ (List.mem_of_getElem? (i := 7) rfl))) (g := (mkF m 136 #[.val (.long q0), .second, .val (.int q1), .val (.int q2), .val (.ref b1), .val (.int at1), .val (.int lim), .val (.long rr), .second, .unset, .unset, .unset, .unset, .unset, .unset, .unset, .unset, .unset, .unset, .unset, .unset, .unset, .unset, .unset, .unset, .unset, .unset, .unset] [(.long q0)])) rfl (hb hby at_136) _ ?_
      show Steps p.tables e below (T11.setTop (mkF m 139 #[.val (.long q0), .second, .val (.int q1), .val (.int q2), .val (.ref b1), .val (.int at1), .val (.int lim), .val (.long rr), .second, .unset, .unset, .unset, .unset, .unset, .unset, .unset, .unset, .unset, .unset, .unset, .unset, .unset, .unset, .unset, .unset, .unset, .unset, .unset] [(.long (255 : Int64)), (.long q0)])) _
      refine XS.land X11.here hx rfl (hb hby at_139) rfl ?_
      show Steps p.tables e below (T11.setTop (mkF m 140 #[.val (.long q0), .second, .val (.int q1), .val (.int q2), .val (.ref b1), .val (.int at1), .val (.int lim), .val (.long rr), .second, .unset, .unset, .unset, .unset, .unset, .unset, .unset, .unset, .unset, .unset, .unset, .unset, .unset, .unset, .unset, .unset, .unset, .unset, .unset] [(.long (q0 &&& (255 : Int64)))])) _
      refine XS.l2i X11.here hx rfl (hb hby at_140) rfl ?_
      show Steps p.tables e below (T11.setTop (mkF m 141 #[.val (.long q0), .second, .val (.int q1), .val (.int q2), .val (.ref b1), .val (.int at1), .val (.int lim), .val (.long rr), .second, .unset, .unset, .unset, .unset, .unset, .unset, .unset, .unset, .unset, .unset, .unset, .unset, .unset, .unset, .unset, .unset, .unset, .unset, .unset] [(.int ((q0 &&& (255 : Int64)).toInt32))])) _
      refine XS.istore X11.here hx rfl (hb hby at_141) rfl (l' := #[.val (.long q0), .second, .val (.int q1), .val (.int q2), .val (.ref b1), .val (.int at1), .val (.int lim), .val (.long rr), .second, .val (.int ((q0 &&& (255 : Int64)).toInt32)), .unset, .unset, .unset, .unset, .unset, .unset, .unset, .unset, .unset, .unset, .unset, .unset, .unset, .unset, .unset, .unset, .unset, .unset]) rfl ?_
      show Steps p.tables e below (T11.setTop (mkF m 143 #[.val (.long q0), .second, .val (.int q1), .val (.int q2), .val (.ref b1), .val (.int at1), .val (.int lim), .val (.long rr), .second, .val (.int ((q0 &&& (255 : Int64)).toInt32)), .unset, .unset, .unset, .unset, .unset, .unset, .unset, .unset, .unset, .unset, .unset, .unset, .unset, .unset, .unset, .unset, .unset, .unset] [])) _
      rw [← hidd]
      show Steps p.tables e below (T11.setTop (mkF m 143 #[.val (.long q0), .second, .val (.int q1), .val (.int q2), .val (.ref b1), .val (.int at1), .val (.int lim), .val (.long rr), .second, .val (.int idd), .unset, .unset, .unset, .unset, .unset, .unset, .unset, .unset, .unset, .unset, .unset, .unset, .unset, .unset, .unset, .unset, .unset, .unset] [])) _
      refine XS.lloadN X11.here hx rfl (hb hby at_143) rfl ?_
      show Steps p.tables e below (T11.setTop (mkF m 144 #[.val (.long q0), .second, .val (.int q1), .val (.int q2), .val (.ref b1), .val (.int at1), .val (.int lim), .val (.long rr), .second, .val (.int idd), .unset, .unset, .unset, .unset, .unset, .unset, .unset, .unset, .unset, .unset, .unset, .unset, .unset, .unset, .unset, .unset, .unset, .unset] [(.long q0)])) _
      refine XS.bipush X11.here hx rfl (hb hby at_144) ?_
      show Steps p.tables e below (T11.setTop (mkF m 146 #[.val (.long q0), .second, .val (.int q1), .val (.int q2), .val (.ref b1), .val (.int at1), .val (.int lim), .val (.long rr), .second, .val (.int idd), .unset, .unset, .unset, .unset, .unset, .unset, .unset, .unset, .unset, .unset, .unset, .unset, .unset, .unset, .unset, .unset, .unset, .unset] [(.int (8 : Int32)), (.long q0)])) _
      refine XS.lushr X11.here hx rfl (hb hby at_146) rfl ?_
      show Steps p.tables e below (T11.setTop (mkF m 147 #[.val (.long q0), .second, .val (.int q1), .val (.int q2), .val (.ref b1), .val (.int at1), .val (.int lim), .val (.long rr), .second, .val (.int idd), .unset, .unset, .unset, .unset, .unset, .unset, .unset, .unset, .unset, .unset, .unset, .unset, .unset, .unset, .unset, .unset, .unset, .unset] [(.long ((q0.toUInt64 >>> ((8 : Int32) &&& 0x3f).toInt64.toUInt64).toInt64))])) _
      refine X11.ldc2Long hx hown (mvT hZ (hw _ (List.mem_of_getElem? (i := 7) rfl))) (g := (mkF m 147 #[.val (.long q0), .second, .val (.int q1), .val (.int q2), .val (.ref b1), .val (.int at1), .val (.int lim), .val (.long rr), .second, .val (.int idd), .unset, .unset, .unset, .unset, .unset, .unset, .unset, .unset, .unset, .unset, .unset, .unset, .unset, .unset, .unset, .unset, .unset, .unset] [(.long ((q0.toUInt64 >>> ((8 : Int32) &&& 0x3f).toInt64.toUInt64).toInt64))])) rfl (hb hby at_147) _ ?_
      show Steps p.tables e below (T11.setTop (mkF m 150 #[.val (.long q0), .second, .val (.int q1), .val (.int q2), .val (.ref b1), .val (.int at1), .val (.int lim), .val (.long rr), .second, .val (.int idd), .unset, .unset, .unset, .unset, .unset, .unset, .unset, .unset, .unset, .unset, .unset, .unset, .unset, .unset, .unset, .unset, .unset, .unset] [(.long (255 : Int64)), (.long ((q0.toUInt64 >>> ((8 : Int32) &&& 0x3f).toInt64.toUInt64).toInt64))])) _
      refine XS.land X11.here hx rfl (hb hby at_150) rfl ?_
      show Steps p.tables e below (T11.setTop (mkF m 151 #[.val (.long q0), .second, .val (.int q1), .val (.int q2), .val (.ref b1), .val (.int at1), .val (.int lim), .val (.long rr), .second, .val (.int idd), .unset, .unset, .unset, .unset, .unset, .unset, .unset, .unset, .unset, .unset, .unset, .unset, .unset, .unset, .unset, .unset, .unset, .unset] [(.long (((q0.toUInt64 >>> ((8 : Int32) &&& 0x3f).toInt64.toUInt64).toInt64) &&& (255 : Int64)))])) _
      refine XS.l2i X11.here hx rfl (hb hby at_151) rfl ?_
      show Steps p.tables e below (T11.setTop (mkF m 152 #[.val (.long q0), .second, .val (.int q1), .val (.int q2), .val (.ref b1), .val (.int at1), .val (.int lim), .val (.long rr), .second, .val (.int idd), .unset, .unset, .unset, .unset, .unset, .unset, .unset, .unset, .unset, .unset, .unset, .unset, .unset, .unset, .unset, .unset, .unset, .unset] [(.int ((((q0.toUInt64 >>> ((8 : Int32) &&& 0x3f).toInt64.toUInt64).toInt64) &&& (255 : Int64)).toInt32))])) _
      refine XS.istore X11.here hx rfl (hb hby at_152) rfl (l' := #[.val (.long q0), .second, .val (.int q1), .val (.int q2), .val (.ref b1), .val (.int at1), .val (.int lim), .val (.long rr), .second, .val (.int idd), .val (.int ((((q0.toUInt64 >>> ((8 : Int32) &&& 0x3f).toInt64.toUInt64).toInt64) &&& (255 : Int64)).toInt32)), .unset, .unset, .unset, .unset, .unset, .unset, .unset, .unset, .unset, .unset, .unset, .unset, .unset, .unset, .unset, .unset, .unset]) rfl ?_
      show Steps p.tables e below (T11.setTop (mkF m 154 #[.val (.long q0), .second, .val (.int q1), .val (.int q2), .val (.ref b1), .val (.int at1), .val (.int lim), .val (.long rr), .second, .val (.int idd), .val (.int ((((q0.toUInt64 >>> ((8 : Int32) &&& 0x3f).toInt64.toUInt64).toInt64) &&& (255 : Int64)).toInt32)), .unset, .unset, .unset, .unset, .unset, .unset, .unset, .unset, .unset, .unset, .unset, .unset, .unset, .unset, .unset, .unset, .unset] [])) _
      rw [← hfi]
      show Steps p.tables e below (T11.setTop (mkF m 154 #[.val (.long q0), .second, .val (.int q1), .val (.int q2), .val (.ref b1), .val (.int at1), .val (.int lim), .val (.long rr), .second, .val (.int idd), .val (.int fi), .unset, .unset, .unset, .unset, .unset, .unset, .unset, .unset, .unset, .unset, .unset, .unset, .unset, .unset, .unset, .unset, .unset] [])) _
      refine XS.lloadN X11.here hx rfl (hb hby at_154) rfl ?_
      show Steps p.tables e below (T11.setTop (mkF m 155 #[.val (.long q0), .second, .val (.int q1), .val (.int q2), .val (.ref b1), .val (.int at1), .val (.int lim), .val (.long rr), .second, .val (.int idd), .val (.int fi), .unset, .unset, .unset, .unset, .unset, .unset, .unset, .unset, .unset, .unset, .unset, .unset, .unset, .unset, .unset, .unset, .unset] [(.long q0)])) _
      refine XS.bipush X11.here hx rfl (hb hby at_155) ?_
      show Steps p.tables e below (T11.setTop (mkF m 157 #[.val (.long q0), .second, .val (.int q1), .val (.int q2), .val (.ref b1), .val (.int at1), .val (.int lim), .val (.long rr), .second, .val (.int idd), .val (.int fi), .unset, .unset, .unset, .unset, .unset, .unset, .unset, .unset, .unset, .unset, .unset, .unset, .unset, .unset, .unset, .unset, .unset] [(.int (16 : Int32)), (.long q0)])) _
      refine XS.lushr X11.here hx rfl (hb hby at_157) rfl ?_
      show Steps p.tables e below (T11.setTop (mkF m 158 #[.val (.long q0), .second, .val (.int q1), .val (.int q2), .val (.ref b1), .val (.int at1), .val (.int lim), .val (.long rr), .second, .val (.int idd), .val (.int fi), .unset, .unset, .unset, .unset, .unset, .unset, .unset, .unset, .unset, .unset, .unset, .unset, .unset, .unset, .unset, .unset, .unset] [(.long ((q0.toUInt64 >>> ((16 : Int32) &&& 0x3f).toInt64.toUInt64).toInt64))])) _
      refine X11.ldc2Long hx hown (mvT hZ (hw _ (List.mem_of_getElem? (i := 7) rfl))) (g := (mkF m 158 #[.val (.long q0), .second, .val (.int q1), .val (.int q2), .val (.ref b1), .val (.int at1), .val (.int lim), .val (.long rr), .second, .val (.int idd), .val (.int fi), .unset, .unset, .unset, .unset, .unset, .unset, .unset, .unset, .unset, .unset, .unset, .unset, .unset, .unset, .unset, .unset, .unset] [(.long ((q0.toUInt64 >>> ((16 : Int32) &&& 0x3f).toInt64.toUInt64).toInt64))])) rfl (hb hby at_158) _ ?_
      show Steps p.tables e below (T11.setTop (mkF m 161 #[.val (.long q0), .second, .val (.int q1), .val (.int q2), .val (.ref b1), .val (.int at1), .val (.int lim), .val (.long rr), .second, .val (.int idd), .val (.int fi), .unset, .unset, .unset, .unset, .unset, .unset, .unset, .unset, .unset, .unset, .unset, .unset, .unset, .unset, .unset, .unset, .unset] [(.long (255 : Int64)), (.long ((q0.toUInt64 >>> ((16 : Int32) &&& 0x3f).toInt64.toUInt64).toInt64))])) _
      refine XS.land X11.here hx rfl (hb hby at_161) rfl ?_
      show Steps p.tables e below (T11.setTop (mkF m 162 #[.val (.long q0), .second, .val (.int q1), .val (.int q2), .val (.ref b1), .val (.int at1), .val (.int lim), .val (.long rr), .second, .val (.int idd), .val (.int fi), .unset, .unset, .unset, .unset, .unset, .unset, .unset, .unset, .unset, .unset, .unset, .unset, .unset, .unset, .unset, .unset, .unset] [(.long (((q0.toUInt64 >>> ((16 : Int32) &&& 0x3f).toInt64.toUInt64).toInt64) &&& (255 : Int64)))])) _
      refine XS.lstore X11.here hx rfl (hb hby at_162) rfl (l' := #[.val (.long q0), .second, .val (.int q1), .val (.int q2), .val (.ref b1), .val (.int at1), .val (.int lim), .val (.long rr), .second, .val (.int idd), .val (.int fi), .val (.long (((q0.toUInt64 >>> ((16 : Int32) &&& 0x3f).toInt64.toUInt64).toInt64) &&& (255 : Int64))), .second, .unset, .unset, .unset, .unset, .unset, .unset, .unset, .unset, .unset, .unset, .unset, .unset, .unset, .unset, .unset]) rfl ?_
      show Steps p.tables e below (T11.setTop (mkF m 164 #[.val (.long q0), .second, .val (.int q1), .val (.int q2), .val (.ref b1), .val (.int at1), .val (.int lim), .val (.long rr), .second, .val (.int idd), .val (.int fi), .val (.long (((q0.toUInt64 >>> ((16 : Int32) &&& 0x3f).toInt64.toUInt64).toInt64) &&& (255 : Int64))), .second, .unset, .unset, .unset, .unset, .unset, .unset, .unset, .unset, .unset, .unset, .unset, .unset, .unset, .unset, .unset] [])) _
      rw [← hb2]
      show Steps p.tables e below (T11.setTop (mkF m 164 #[.val (.long q0), .second, .val (.int q1), .val (.int q2), .val (.ref b1), .val (.int at1), .val (.int lim), .val (.long rr), .second, .val (.int idd), .val (.int fi), .val (.long b2), .second, .unset, .unset, .unset, .unset, .unset, .unset, .unset, .unset, .unset, .unset, .unset, .unset, .unset, .unset, .unset] [])) _
      refine XS.lloadN X11.here hx rfl (hb hby at_164) rfl ?_
      show Steps p.tables e below (T11.setTop (mkF m 165 #[.val (.long q0), .second, .val (.int q1), .val (.int q2), .val (.ref b1), .val (.int at1), .val (.int lim), .val (.long rr), .second, .val (.int idd), .val (.int fi), .val (.long b2), .second, .unset, .unset, .unset, .unset, .unset, .unset, .unset, .unset, .unset, .unset, .unset, .unset, .unset, .unset, .unset] [(.long q0)])) _
      refine XS.bipush X11.here hx rfl (hb hby at_165) ?_
      show Steps p.tables e below (T11.setTop (mkF m 167 #[.val (.long q0), .second, .val (.int q1), .val (.int q2), .val (.ref b1), .val (.int at1), .val (.int lim), .val (.long rr), .second, .val (.int idd), .val (.int fi), .val (.long b2), .second, .unset, .unset, .unset, .unset, .unset, .unset, .unset, .unset, .unset, .unset, .unset, .unset, .unset, .unset, .unset] [(.int (24 : Int32)), (.long q0)])) _
      refine XS.lushr X11.here hx rfl (hb hby at_167) rfl ?_
      show Steps p.tables e below (T11.setTop (mkF m 168 #[.val (.long q0), .second, .val (.int q1), .val (.int q2), .val (.ref b1), .val (.int at1), .val (.int lim), .val (.long rr), .second, .val (.int idd), .val (.int fi), .val (.long b2), .second, .unset, .unset, .unset, .unset, .unset, .unset, .unset, .unset, .unset, .unset, .unset, .unset, .unset, .unset, .unset] [(.long ((q0.toUInt64 >>> ((24 : Int32) &&& 0x3f).toInt64.toUInt64).toInt64))])) _
      refine X11.ldc2Long hx hown (mvT hZ (hw _ (List.mem_of_getElem? (i := 7) rfl))) (g := (mkF m 168 #[.val (.long q0), .second, .val (.int q1), .val (.int q2), .val (.ref b1), .val (.int at1), .val (.int lim), .val (.long rr), .second, .val (.int idd), .val (.int fi), .val (.long b2), .second, .unset, .unset, .unset, .unset, .unset, .unset, .unset, .unset, .unset, .unset, .unset, .unset, .unset, .unset, .unset] [(.long ((q0.toUInt64 >>> ((24 : Int32) &&& 0x3f).toInt64.toUInt64).toInt64))])) rfl (hb hby at_168) _ ?_
      show Steps p.tables e below (T11.setTop (mkF m 171 #[.val (.long q0), .second, .val (.int q1), .val (.int q2), .val (.ref b1), .val (.int at1), .val (.int lim), .val (.long rr), .second, .val (.int idd), .val (.int fi), .val (.long b2), .second, .unset, .unset, .unset, .unset, .unset, .unset, .unset, .unset, .unset, .unset, .unset, .unset, .unset, .unset, .unset] [(.long (255 : Int64)), (.long ((q0.toUInt64 >>> ((24 : Int32) &&& 0x3f).toInt64.toUInt64).toInt64))])) _
      refine XS.land X11.here hx rfl (hb hby at_171) rfl ?_
      show Steps p.tables e below (T11.setTop (mkF m 172 #[.val (.long q0), .second, .val (.int q1), .val (.int q2), .val (.ref b1), .val (.int at1), .val (.int lim), .val (.long rr), .second, .val (.int idd), .val (.int fi), .val (.long b2), .second, .unset, .unset, .unset, .unset, .unset, .unset, .unset, .unset, .unset, .unset, .unset, .unset, .unset, .unset, .unset] [(.long (((q0.toUInt64 >>> ((24 : Int32) &&& 0x3f).toInt64.toUInt64).toInt64) &&& (255 : Int64)))])) _
      refine XS.lstore X11.here hx rfl (hb hby at_172) rfl (l' := #[.val (.long q0), .second, .val (.int q1), .val (.int q2), .val (.ref b1), .val (.int at1), .val (.int lim), .val (.long rr), .second, .val (.int idd), .val (.int fi), .val (.long b2), .second, .val (.long (((q0.toUInt64 >>> ((24 : Int32) &&& 0x3f).toInt64.toUInt64).toInt64) &&& (255 : Int64))), .second, .unset, .unset, .unset, .unset, .unset, .unset, .unset, .unset, .unset, .unset, .unset, .unset, .unset]) rfl ?_
      show Steps p.tables e below (T11.setTop (mkF m 174 #[.val (.long q0), .second, .val (.int q1), .val (.int q2), .val (.ref b1), .val (.int at1), .val (.int lim), .val (.long rr), .second, .val (.int idd), .val (.int fi), .val (.long b2), .second, .val (.long (((q0.toUInt64 >>> ((24 : Int32) &&& 0x3f).toInt64.toUInt64).toInt64) &&& (255 : Int64))), .second, .unset, .unset, .unset, .unset, .unset, .unset, .unset, .unset, .unset, .unset, .unset, .unset, .unset] [])) _
      rw [← hb3]
      show Steps p.tables e below (T11.setTop (mkF m 174 #[.val (.long q0), .second, .val (.int q1), .val (.int q2), .val (.ref b1), .val (.int at1), .val (.int lim), .val (.long rr), .second, .val (.int idd), .val (.int fi), .val (.long b2), .second, .val (.long b3), .second, .unset, .unset, .unset, .unset, .unset, .unset, .unset, .unset, .unset, .unset, .unset, .unset, .unset] [])) _
      refine XS.lloadN X11.here hx rfl (hb hby at_174) rfl ?_
      show Steps p.tables e below (T11.setTop (mkF m 175 #[.val (.long q0), .second, .val (.int q1), .val (.int q2), .val (.ref b1), .val (.int at1), .val (.int lim), .val (.long rr), .second, .val (.int idd), .val (.int fi), .val (.long b2), .second, .val (.long b3), .second, .unset, .unset, .unset, .unset, .unset, .unset, .unset, .unset, .unset, .unset, .unset, .unset, .unset] [(.long q0)])) _
      refine XS.bipush X11.here hx rfl (hb hby at_175) ?_
      show Steps p.tables e below (T11.setTop (mkF m 177 #[.val (.long q0), .second, .val (.int q1), .val (.int q2), .val (.ref b1), .val (.int at1), .val (.int lim), .val (.long rr), .second, .val (.int idd), .val (.int fi), .val (.long b2), .second, .val (.long b3), .second, .unset, .unset, .unset, .unset, .unset, .unset, .unset, .unset, .unset, .unset, .unset, .unset, .unset] [(.int (32 : Int32)), (.long q0)])) _
      refine XS.lushr X11.here hx rfl (hb hby at_177) rfl ?_
      show Steps p.tables e below (T11.setTop (mkF m 178 #[.val (.long q0), .second, .val (.int q1), .val (.int q2), .val (.ref b1), .val (.int at1), .val (.int lim), .val (.long rr), .second, .val (.int idd), .val (.int fi), .val (.long b2), .second, .val (.long b3), .second, .unset, .unset, .unset, .unset, .unset, .unset, .unset, .unset, .unset, .unset, .unset, .unset, .unset] [(.long ((q0.toUInt64 >>> ((32 : Int32) &&& 0x3f).toInt64.toUInt64).toInt64))])) _
      refine X11.ldc2Long hx hown (mvT hZ (hw _ (List.mem_of_getElem? (i := 7) rfl))) (g := (mkF m 178 #[.val (.long q0), .second, .val (.int q1), .val (.int q2), .val (.ref b1), .val (.int at1), .val (.int lim), .val (.long rr), .second, .val (.int idd), .val (.int fi), .val (.long b2), .second, .val (.long b3), .second, .unset, .unset, .unset, .unset, .unset, .unset, .unset, .unset, .unset, .unset, .unset, .unset, .unset] [(.long ((q0.toUInt64 >>> ((32 : Int32) &&& 0x3f).toInt64.toUInt64).toInt64))])) rfl (hb hby at_178) _ ?_
      show Steps p.tables e below (T11.setTop (mkF m 181 #[.val (.long q0), .second, .val (.int q1), .val (.int q2), .val (.ref b1), .val (.int at1), .val (.int lim), .val (.long rr), .second, .val (.int idd), .val (.int fi), .val (.long b2), .second, .val (.long b3), .second, .unset, .unset, .unset, .unset, .unset, .unset, .unset, .unset, .unset, .unset, .unset, .unset, .unset] [(.long (255 : Int64)), (.long ((q0.toUInt64 >>> ((32 : Int32) &&& 0x3f).toInt64.toUInt64).toInt64))])) _
      refine XS.land X11.here hx rfl (hb hby at_181) rfl ?_
      show Steps p.tables e below (T11.setTop (mkF m 182 #[.val (.long q0), .second, .val (.int q1), .val (.int q2), .val (.ref b1), .val (.int at1), .val (.int lim), .val (.long rr), .second, .val (.int idd), .val (.int fi), .val (.long b2), .second, .val (.long b3), .second, .unset, .unset, .unset, .unset, .unset, .unset, .unset, .unset, .unset, .unset, .unset, .unset, .unset] [(.long (((q0.toUInt64 >>> ((32 : Int32) &&& 0x3f).toInt64.toUInt64).toInt64) &&& (255 : Int64)))])) _
      refine XS.lstore X11.here hx rfl (hb hby at_182) rfl (l' := #[.val (.long q0), .second, .val (.int q1), .val (.int q2), .val (.ref b1), .val (.int at1), .val (.int lim), .val (.long rr), .second, .val (.int idd), .val (.int fi), .val (.long b2), .second, .val (.long b3), .second, .val (.long (((q0.toUInt64 >>> ((32 : Int32) &&& 0x3f).toInt64.toUInt64).toInt64) &&& (255 : Int64))), .second, .unset, .unset, .unset, .unset, .unset, .unset, .unset, .unset, .unset, .unset, .unset]) rfl ?_
      show Steps p.tables e below (T11.setTop (mkF m 184 #[.val (.long q0), .second, .val (.int q1), .val (.int q2), .val (.ref b1), .val (.int at1), .val (.int lim), .val (.long rr), .second, .val (.int idd), .val (.int fi), .val (.long b2), .second, .val (.long b3), .second, .val (.long (((q0.toUInt64 >>> ((32 : Int32) &&& 0x3f).toInt64.toUInt64).toInt64) &&& (255 : Int64))), .second, .unset, .unset, .unset, .unset, .unset, .unset, .unset, .unset, .unset, .unset, .unset] [])) _
      rw [← hb4]
      show Steps p.tables e below (T11.setTop (mkF m 184 #[.val (.long q0), .second, .val (.int q1), .val (.int q2), .val (.ref b1), .val (.int at1), .val (.int lim), .val (.long rr), .second, .val (.int idd), .val (.int fi), .val (.long b2), .second, .val (.long b3), .second, .val (.long b4), .second, .unset, .unset, .unset, .unset, .unset, .unset, .unset, .unset, .unset, .unset, .unset] [])) _
      refine XS.lloadN X11.here hx rfl (hb hby at_184) rfl ?_
      show Steps p.tables e below (T11.setTop (mkF m 185 #[.val (.long q0), .second, .val (.int q1), .val (.int q2), .val (.ref b1), .val (.int at1), .val (.int lim), .val (.long rr), .second, .val (.int idd), .val (.int fi), .val (.long b2), .second, .val (.long b3), .second, .val (.long b4), .second, .unset, .unset, .unset, .unset, .unset, .unset, .unset, .unset, .unset, .unset, .unset] [(.long q0)])) _
      refine XS.bipush X11.here hx rfl (hb hby at_185) ?_
      show Steps p.tables e below (T11.setTop (mkF m 187 #[.val (.long q0), .second, .val (.int q1), .val (.int q2), .val (.ref b1), .val (.int at1), .val (.int lim), .val (.long rr), .second, .val (.int idd), .val (.int fi), .val (.long b2), .second, .val (.long b3), .second, .val (.long b4), .second, .unset, .unset, .unset, .unset, .unset, .unset, .unset, .unset, .unset, .unset, .unset] [(.int (40 : Int32)), (.long q0)])) _
      refine XS.lushr X11.here hx rfl (hb hby at_187) rfl ?_
      show Steps p.tables e below (T11.setTop (mkF m 188 #[.val (.long q0), .second, .val (.int q1), .val (.int q2), .val (.ref b1), .val (.int at1), .val (.int lim), .val (.long rr), .second, .val (.int idd), .val (.int fi), .val (.long b2), .second, .val (.long b3), .second, .val (.long b4), .second, .unset, .unset, .unset, .unset, .unset, .unset, .unset, .unset, .unset, .unset, .unset] [(.long ((q0.toUInt64 >>> ((40 : Int32) &&& 0x3f).toInt64.toUInt64).toInt64))])) _
      refine X11.ldc2Long hx hown (mvT hZ (hw _ (List.mem_of_getElem? (i := 7) rfl))) (g := (mkF m 188 #[.val (.long q0), .second, .val (.int q1), .val (.int q2), .val (.ref b1), .val (.int at1), .val (.int lim), .val (.long rr), .second, .val (.int idd), .val (.int fi), .val (.long b2), .second, .val (.long b3), .second, .val (.long b4), .second, .unset, .unset, .unset, .unset, .unset, .unset, .unset, .unset, .unset, .unset, .unset] [(.long ((q0.toUInt64 >>> ((40 : Int32) &&& 0x3f).toInt64.toUInt64).toInt64))])) rfl (hb hby at_188) _ ?_
      show Steps p.tables e below (T11.setTop (mkF m 191 #[.val (.long q0), .second, .val (.int q1), .val (.int q2), .val (.ref b1), .val (.int at1), .val (.int lim), .val (.long rr), .second, .val (.int idd), .val (.int fi), .val (.long b2), .second, .val (.long b3), .second, .val (.long b4), .second, .unset, .unset, .unset, .unset, .unset, .unset, .unset, .unset, .unset, .unset, .unset] [(.long (255 : Int64)), (.long ((q0.toUInt64 >>> ((40 : Int32) &&& 0x3f).toInt64.toUInt64).toInt64))])) _
      refine XS.land X11.here hx rfl (hb hby at_191) rfl ?_
      show Steps p.tables e below (T11.setTop (mkF m 192 #[.val (.long q0), .second, .val (.int q1), .val (.int q2), .val (.ref b1), .val (.int at1), .val (.int lim), .val (.long rr), .second, .val (.int idd), .val (.int fi), .val (.long b2), .second, .val (.long b3), .second, .val (.long b4), .second, .unset, .unset, .unset, .unset, .unset, .unset, .unset, .unset, .unset, .unset, .unset] [(.long (((q0.toUInt64 >>> ((40 : Int32) &&& 0x3f).toInt64.toUInt64).toInt64) &&& (255 : Int64)))])) _
      refine XS.lstore X11.here hx rfl (hb hby at_192) rfl (l' := #[.val (.long q0), .second, .val (.int q1), .val (.int q2), .val (.ref b1), .val (.int at1), .val (.int lim), .val (.long rr), .second, .val (.int idd), .val (.int fi), .val (.long b2), .second, .val (.long b3), .second, .val (.long b4), .second, .val (.long (((q0.toUInt64 >>> ((40 : Int32) &&& 0x3f).toInt64.toUInt64).toInt64) &&& (255 : Int64))), .second, .unset, .unset, .unset, .unset, .unset, .unset, .unset, .unset, .unset]) rfl ?_
      show Steps p.tables e below (T11.setTop (mkF m 194 #[.val (.long q0), .second, .val (.int q1), .val (.int q2), .val (.ref b1), .val (.int at1), .val (.int lim), .val (.long rr), .second, .val (.int idd), .val (.int fi), .val (.long b2), .second, .val (.long b3), .second, .val (.long b4), .second, .val (.long (((q0.toUInt64 >>> ((40 : Int32) &&& 0x3f).toInt64.toUInt64).toInt64) &&& (255 : Int64))), .second, .unset, .unset, .unset, .unset, .unset, .unset, .unset, .unset, .unset] [])) _
      rw [← hb5]
      show Steps p.tables e below (T11.setTop (mkF m 194 #[.val (.long q0), .second, .val (.int q1), .val (.int q2), .val (.ref b1), .val (.int at1), .val (.int lim), .val (.long rr), .second, .val (.int idd), .val (.int fi), .val (.long b2), .second, .val (.long b3), .second, .val (.long b4), .second, .val (.long b5), .second, .unset, .unset, .unset, .unset, .unset, .unset, .unset, .unset, .unset] [])) _
      refine XS.iload X11.here hx rfl (hb hby at_194) rfl ?_
      show Steps p.tables e below (T11.setTop (mkF m 196 #[.val (.long q0), .second, .val (.int q1), .val (.int q2), .val (.ref b1), .val (.int at1), .val (.int lim), .val (.long rr), .second, .val (.int idd), .val (.int fi), .val (.long b2), .second, .val (.long b3), .second, .val (.long b4), .second, .val (.long b5), .second, .unset, .unset, .unset, .unset, .unset, .unset, .unset, .unset, .unset] [(.int lim)])) _
      refine XS.i2l X11.here hx rfl (hb hby at_196) rfl ?_
      show Steps p.tables e below (T11.setTop (mkF m 197 #[.val (.long q0), .second, .val (.int q1), .val (.int q2), .val (.ref b1), .val (.int at1), .val (.int lim), .val (.long rr), .second, .val (.int idd), .val (.int fi), .val (.long b2), .second, .val (.long b3), .second, .val (.long b4), .second, .val (.long b5), .second, .unset, .unset, .unset, .unset, .unset, .unset, .unset, .unset, .unset] [(.long (lim.toInt64))])) _
      refine XS.iload X11.here hx rfl (hb hby at_197) rfl ?_
      show Steps p.tables e below (T11.setTop (mkF m 199 #[.val (.long q0), .second, .val (.int q1), .val (.int q2), .val (.ref b1), .val (.int at1), .val (.int lim), .val (.long rr), .second, .val (.int idd), .val (.int fi), .val (.long b2), .second, .val (.long b3), .second, .val (.long b4), .second, .val (.long b5), .second, .unset, .unset, .unset, .unset, .unset, .unset, .unset, .unset, .unset] [(.int at1), (.long (lim.toInt64))])) _
      refine XS.i2l X11.here hx rfl (hb hby at_199) rfl ?_
      show Steps p.tables e below (T11.setTop (mkF m 200 #[.val (.long q0), .second, .val (.int q1), .val (.int q2), .val (.ref b1), .val (.int at1), .val (.int lim), .val (.long rr), .second, .val (.int idd), .val (.int fi), .val (.long b2), .second, .val (.long b3), .second, .val (.long b4), .second, .val (.long b5), .second, .unset, .unset, .unset, .unset, .unset, .unset, .unset, .unset, .unset] [(.long (at1.toInt64)), (.long (lim.toInt64))])) _
      refine XS.lsub X11.here hx rfl (hb hby at_200) rfl ?_
      show Steps p.tables e below (T11.setTop (mkF m 201 #[.val (.long q0), .second, .val (.int q1), .val (.int q2), .val (.ref b1), .val (.int at1), .val (.int lim), .val (.long rr), .second, .val (.int idd), .val (.int fi), .val (.long b2), .second, .val (.long b3), .second, .val (.long b4), .second, .val (.long b5), .second, .unset, .unset, .unset, .unset, .unset, .unset, .unset, .unset, .unset] [(.long ((lim.toInt64) - (at1.toInt64)))])) _
      refine XS.lstore X11.here hx rfl (hb hby at_201) rfl (l' := #[.val (.long q0), .second, .val (.int q1), .val (.int q2), .val (.ref b1), .val (.int at1), .val (.int lim), .val (.long rr), .second, .val (.int idd), .val (.int fi), .val (.long b2), .second, .val (.long b3), .second, .val (.long b4), .second, .val (.long b5), .second, .val (.long ((lim.toInt64) - (at1.toInt64))), .second, .unset, .unset, .unset, .unset, .unset, .unset, .unset]) rfl ?_
      show Steps p.tables e below (T11.setTop (mkF m 203 #[.val (.long q0), .second, .val (.int q1), .val (.int q2), .val (.ref b1), .val (.int at1), .val (.int lim), .val (.long rr), .second, .val (.int idd), .val (.int fi), .val (.long b2), .second, .val (.long b3), .second, .val (.long b4), .second, .val (.long b5), .second, .val (.long ((lim.toInt64) - (at1.toInt64))), .second, .unset, .unset, .unset, .unset, .unset, .unset, .unset] [])) _
      rw [← hroom]
      show Steps p.tables e below (T11.setTop (mkF m 203 #[.val (.long q0), .second, .val (.int q1), .val (.int q2), .val (.ref b1), .val (.int at1), .val (.int lim), .val (.long rr), .second, .val (.int idd), .val (.int fi), .val (.long b2), .second, .val (.long b3), .second, .val (.long b4), .second, .val (.long b5), .second, .val (.long room), .second, .unset, .unset, .unset, .unset, .unset, .unset, .unset] [])) _
      refine XS.iconst X11.here hx rfl (hb hby at_203) ?_
      show Steps p.tables e below (T11.setTop (mkF m 204 #[.val (.long q0), .second, .val (.int q1), .val (.int q2), .val (.ref b1), .val (.int at1), .val (.int lim), .val (.long rr), .second, .val (.int idd), .val (.int fi), .val (.long b2), .second, .val (.long b3), .second, .val (.long b4), .second, .val (.long b5), .second, .val (.long room), .second, .unset, .unset, .unset, .unset, .unset, .unset, .unset] [(.int (0 : Int32))])) _
      refine XS.istore X11.here hx rfl (hb hby at_204) rfl (l' := #[.val (.long q0), .second, .val (.int q1), .val (.int q2), .val (.ref b1), .val (.int at1), .val (.int lim), .val (.long rr), .second, .val (.int idd), .val (.int fi), .val (.long b2), .second, .val (.long b3), .second, .val (.long b4), .second, .val (.long b5), .second, .val (.long room), .second, .val (.int (0 : Int32)), .unset, .unset, .unset, .unset, .unset, .unset]) rfl ?_
      show Steps p.tables e below (T11.setTop (mkF m 206 #[.val (.long q0), .second, .val (.int q1), .val (.int q2), .val (.ref b1), .val (.int at1), .val (.int lim), .val (.long rr), .second, .val (.int idd), .val (.int fi), .val (.long b2), .second, .val (.long b3), .second, .val (.long b4), .second, .val (.long b5), .second, .val (.long room), .second, .val (.int (0 : Int32)), .unset, .unset, .unset, .unset, .unset, .unset] [])) _
      refine sg_206  (.val (.long q0)) (.second) (.val (.int q1)) (.val (.int q2)) (.val (.ref b1)) (.val (.int at1)) (.val (.int lim)) (.val (.long rr)) (.second) (.val (.int idd)) (.val (.int fi)) (.val (.long b2)) (.second) (.val (.long b3)) (.second) (.val (.long b4)) (.second) (.val (.long b5)) (.second) (room) ((0 : Int32)) (.unset) (.unset) (.unset) (.unset) (.unset) (.unset) v0_206 hv0_206 X11 hx hZ hw hby hown ?_
      show Steps p.tables e below (T11.setTop (mkF m 218 #[.val (.long q0), .second, .val (.int q1), .val (.int q2), .val (.ref b1), .val (.int at1), .val (.int lim), .val (.long rr), .second, .val (.int idd), .val (.int fi), .val (.long b2), .second, .val (.long b3), .second, .val (.long b4), .second, .val (.long b5), .second, .val (.long room), .second, .val (.int v0_206), .unset, .unset, .unset, .unset, .unset, .unset] [])) _
      refine XS.iload X11.here hx rfl (hb hby at_218) rfl ?_
      show Steps p.tables e below (T11.setTop (mkF m 220 #[.val (.long q0), .second, .val (.int q1), .val (.int q2), .val (.ref b1), .val (.int at1), .val (.int lim), .val (.long rr), .second, .val (.int idd), .val (.int fi), .val (.long b2), .second, .val (.long b3), .second, .val (.long b4), .second, .val (.long b5), .second, .val (.long room), .second, .val (.int v0_206), .unset, .unset, .unset, .unset, .unset, .unset] [(.int idd)])) _
      refine XS.bipush X11.here hx rfl (hb hby at_220) ?_
      show Steps p.tables e below (T11.setTop (mkF m 222 #[.val (.long q0), .second, .val (.int q1), .val (.int q2), .val (.ref b1), .val (.int at1), .val (.int lim), .val (.long rr), .second, .val (.int idd), .val (.int fi), .val (.long b2), .second, .val (.long b3), .second, .val (.long b4), .second, .val (.long b5), .second, .val (.long room), .second, .val (.int v0_206), .unset, .unset, .unset, .unset, .unset, .unset] [(.int (31 : Int32)), (.int idd)])) _
      refine XS.iand X11.here hx rfl (hb hby at_222) rfl ?_
      show Steps p.tables e below (T11.setTop (mkF m 223 #[.val (.long q0), .second, .val (.int q1), .val (.int q2), .val (.ref b1), .val (.int at1), .val (.int lim), .val (.long rr), .second, .val (.int idd), .val (.int fi), .val (.long b2), .second, .val (.long b3), .second, .val (.long b4), .second, .val (.long b5), .second, .val (.long room), .second, .val (.int v0_206), .unset, .unset, .unset, .unset, .unset, .unset] [(.int (idd &&& (31 : Int32)))])) _
      refine XS.istore X11.here hx rfl (hb hby at_223) rfl (l' := #[.val (.long q0), .second, .val (.int q1), .val (.int q2), .val (.ref b1), .val (.int at1), .val (.int lim), .val (.long rr), .second, .val (.int idd), .val (.int fi), .val (.long b2), .second, .val (.long b3), .second, .val (.long b4), .second, .val (.long b5), .second, .val (.long room), .second, .val (.int v0_206), .val (.int (idd &&& (31 : Int32))), .unset, .unset, .unset, .unset, .unset]) rfl ?_
      show Steps p.tables e below (T11.setTop (mkF m 225 #[.val (.long q0), .second, .val (.int q1), .val (.int q2), .val (.ref b1), .val (.int at1), .val (.int lim), .val (.long rr), .second, .val (.int idd), .val (.int fi), .val (.long b2), .second, .val (.long b3), .second, .val (.long b4), .second, .val (.long b5), .second, .val (.long room), .second, .val (.int v0_206), .val (.int (idd &&& (31 : Int32))), .unset, .unset, .unset, .unset, .unset] [])) _
      rw [← htg]
      show Steps p.tables e below (T11.setTop (mkF m 225 #[.val (.long q0), .second, .val (.int q1), .val (.int q2), .val (.ref b1), .val (.int at1), .val (.int lim), .val (.long rr), .second, .val (.int idd), .val (.int fi), .val (.long b2), .second, .val (.long b3), .second, .val (.long b4), .second, .val (.long b5), .second, .val (.long room), .second, .val (.int v0_206), .val (.int tg), .unset, .unset, .unset, .unset, .unset] [])) _
      refine XS.iload X11.here hx rfl (hb hby at_225) rfl ?_
      show Steps p.tables e below (T11.setTop (mkF m 227 #[.val (.long q0), .second, .val (.int q1), .val (.int q2), .val (.ref b1), .val (.int at1), .val (.int lim), .val (.long rr), .second, .val (.int idd), .val (.int fi), .val (.long b2), .second, .val (.long b3), .second, .val (.long b4), .second, .val (.long b5), .second, .val (.long room), .second, .val (.int v0_206), .val (.int tg), .unset, .unset, .unset, .unset, .unset] [(.int idd)])) _
      refine XS.bipush X11.here hx rfl (hb hby at_227) ?_
      show Steps p.tables e below (T11.setTop (mkF m 229 #[.val (.long q0), .second, .val (.int q1), .val (.int q2), .val (.ref b1), .val (.int at1), .val (.int lim), .val (.long rr), .second, .val (.int idd), .val (.int fi), .val (.long b2), .second, .val (.long b3), .second, .val (.long b4), .second, .val (.long b5), .second, .val (.long room), .second, .val (.int v0_206), .val (.int tg), .unset, .unset, .unset, .unset, .unset] [(.int (6 : Int32)), (.int idd)])) _
      refine XS.iushr X11.here hx rfl (hb hby at_229) rfl ?_
      show Steps p.tables e below (T11.setTop (mkF m 230 #[.val (.long q0), .second, .val (.int q1), .val (.int q2), .val (.ref b1), .val (.int at1), .val (.int lim), .val (.long rr), .second, .val (.int idd), .val (.int fi), .val (.long b2), .second, .val (.long b3), .second, .val (.long b4), .second, .val (.long b5), .second, .val (.long room), .second, .val (.int v0_206), .val (.int tg), .unset, .unset, .unset, .unset, .unset] [(.int ((idd.toUInt32 >>> ((6 : Int32) &&& 31).toUInt32).toInt32))])) _
      refine XS.istore X11.here hx rfl (hb hby at_230) rfl (l' := #[.val (.long q0), .second, .val (.int q1), .val (.int q2), .val (.ref b1), .val (.int at1), .val (.int lim), .val (.long rr), .second, .val (.int idd), .val (.int fi), .val (.long b2), .second, .val (.long b3), .second, .val (.long b4), .second, .val (.long b5), .second, .val (.long room), .second, .val (.int v0_206), .val (.int tg), .val (.int ((idd.toUInt32 >>> ((6 : Int32) &&& 31).toUInt32).toInt32)), .unset, .unset, .unset, .unset]) rfl ?_
      show Steps p.tables e below (T11.setTop (mkF m 232 #[.val (.long q0), .second, .val (.int q1), .val (.int q2), .val (.ref b1), .val (.int at1), .val (.int lim), .val (.long rr), .second, .val (.int idd), .val (.int fi), .val (.long b2), .second, .val (.long b3), .second, .val (.long b4), .second, .val (.long b5), .second, .val (.long room), .second, .val (.int v0_206), .val (.int tg), .val (.int ((idd.toUInt32 >>> ((6 : Int32) &&& 31).toUInt32).toInt32)), .unset, .unset, .unset, .unset] [])) _
      rw [← htc]
      show Steps p.tables e below (T11.setTop (mkF m 232 #[.val (.long q0), .second, .val (.int q1), .val (.int q2), .val (.ref b1), .val (.int at1), .val (.int lim), .val (.long rr), .second, .val (.int idd), .val (.int fi), .val (.long b2), .second, .val (.long b3), .second, .val (.long b4), .second, .val (.long b5), .second, .val (.long room), .second, .val (.int v0_206), .val (.int tg), .val (.int tc), .unset, .unset, .unset, .unset] [])) _
      refine sg_232  (.val (.long q0)) (.second) (.val (.int q1)) (.val (.int q2)) (.val (.ref b1)) (.val (.int at1)) (.val (.int lim)) (.val (.long rr)) (.second) (.val (.int idd)) (.val (.int fi)) (.val (.long b2)) (.second) (.val (.long b3)) (.second) (.val (.long b4)) (.second) (.val (.long b5)) (.second) (.val (.long room)) (.second) (v0_206) (tg) (.val (.int tc)) (.unset) (.unset) (.unset) (.unset) v0_232 hv0_232 X11 hx hZ hw hby hown ?_
      show Steps p.tables e below (T11.setTop (mkF m 242 #[.val (.long q0), .second, .val (.int q1), .val (.int q2), .val (.ref b1), .val (.int at1), .val (.int lim), .val (.long rr), .second, .val (.int idd), .val (.int fi), .val (.long b2), .second, .val (.long b3), .second, .val (.long b4), .second, .val (.long b5), .second, .val (.long room), .second, .val (.int v0_232), .val (.int tg), .val (.int tc), .unset, .unset, .unset, .unset] [])) _
      refine sg_242  (.val (.long q0)) (.second) (.val (.int q1)) (.val (.int q2)) (.val (.ref b1)) (.val (.int at1)) (.val (.int lim)) (.val (.long rr)) (.second) (.val (.int idd)) (.val (.int fi)) (.val (.long b2)) (.second) (.val (.long b3)) (.second) (.val (.long b4)) (.second) (.val (.long b5)) (.second) (.val (.long room)) (.second) (v0_232) (tg) (tc) (.unset) (.unset) (.unset) (.unset) v0_242 hv0_242 X11 hx hZ hw hby hown ?_
      show Steps p.tables e below (T11.setTop (mkF m 255 #[.val (.long q0), .second, .val (.int q1), .val (.int q2), .val (.ref b1), .val (.int at1), .val (.int lim), .val (.long rr), .second, .val (.int idd), .val (.int fi), .val (.long b2), .second, .val (.long b3), .second, .val (.long b4), .second, .val (.long b5), .second, .val (.long room), .second, .val (.int v0_242), .val (.int tg), .val (.int tc), .unset, .unset, .unset, .unset] [])) _
      refine sg_255  (.val (.long q0)) (.second) (.val (.int q1)) (.val (.int q2)) (.val (.ref b1)) (.val (.int at1)) (.val (.int lim)) (.val (.long rr)) (.second) (.val (.int idd)) (fi) (b2) (b3) (b4) (b5) (room) (v0_242) (.val (.int tg)) (.val (.int tc)) v0_255 hv0_255 v1_255 hv1_255 v2_255 hv2_255 v3_255 hv3_255 X11 hx hZ hw hby hown ?_
      show Steps p.tables e below (T11.setTop (mkF m 412 #[.val (.long q0), .second, .val (.int q1), .val (.int q2), .val (.ref b1), .val (.int at1), .val (.int lim), .val (.long rr), .second, .val (.int idd), .val (.int fi), .val (.long b2), .second, .val (.long b3), .second, .val (.long b4), .second, .val (.long b5), .second, .val (.long room), .second, .val (.int v0_255), .val (.int tg), .val (.int tc), .val (.int v1_255), .val (.long v2_255), .second, v3_255] [])) _
      refine sg_412  (.val (.long q0)) (.second) (.val (.int q1)) (.val (.int q2)) (.val (.ref b1)) (.val (.int at1)) (.val (.int lim)) (.val (.long rr)) (.second) (.val (.int idd)) (.val (.int fi)) (.val (.long b2)) (.second) (.val (.long b3)) (.second) (.val (.long b4)) (.second) (.val (.long b5)) (.second) (room) (v0_255) (.val (.int tg)) (.val (.int tc)) (v1_255) (v2_255) (v3_255) v0_412 hv0_412 X11 hx hZ hw hby hown ?_
      show Steps p.tables e below (T11.setTop (mkF m 427 #[.val (.long q0), .second, .val (.int q1), .val (.int q2), .val (.ref b1), .val (.int at1), .val (.int lim), .val (.long rr), .second, .val (.int idd), .val (.int fi), .val (.long b2), .second, .val (.long b3), .second, .val (.long b4), .second, .val (.long b5), .second, .val (.long room), .second, .val (.int v0_412), .val (.int tg), .val (.int tc), .val (.int v1_255), .val (.long v2_255), .second, v3_255] [])) _
      refine XS.iload X11.here hx rfl (hb hby at_427) rfl ?_
      show Steps p.tables e below (T11.setTop (mkF m 429 #[.val (.long q0), .second, .val (.int q1), .val (.int q2), .val (.ref b1), .val (.int at1), .val (.int lim), .val (.long rr), .second, .val (.int idd), .val (.int fi), .val (.long b2), .second, .val (.long b3), .second, .val (.long b4), .second, .val (.long b5), .second, .val (.long room), .second, .val (.int v0_412), .val (.int tg), .val (.int tc), .val (.int v1_255), .val (.long v2_255), .second, v3_255] [(.int v0_412)])) _
      refine XS.ifYes X11.here hx rfl (pc0 := 429) (pc' := 447) rfl (hb hby at_429) rfl ((if0 _ _).trans (teq hc429).1) (by decide) (by decide) ?_
      show Steps p.tables e below (T11.setTop (mkF m 447 #[.val (.long q0), .second, .val (.int q1), .val (.int q2), .val (.ref b1), .val (.int at1), .val (.int lim), .val (.long rr), .second, .val (.int idd), .val (.int fi), .val (.long b2), .second, .val (.long b3), .second, .val (.long b4), .second, .val (.long b5), .second, .val (.long room), .second, .val (.int v0_412), .val (.int tg), .val (.int tc), .val (.int v1_255), .val (.long v2_255), .second, v3_255] [])) _
      refine XS.lload X11.here hx rfl (hb hby at_447) rfl ?_
      show Steps p.tables e below (T11.setTop (mkF m 449 #[.val (.long q0), .second, .val (.int q1), .val (.int q2), .val (.ref b1), .val (.int at1), .val (.int lim), .val (.long rr), .second, .val (.int idd), .val (.int fi), .val (.long b2), .second, .val (.long b3), .second, .val (.long b4), .second, .val (.long b5), .second, .val (.long room), .second, .val (.int v0_412), .val (.int tg), .val (.int tc), .val (.int v1_255), .val (.long v2_255), .second, v3_255] [(.long rr)])) _
      refine X11.ldc2Long hx hown (mvT hZ (hw _ (List.mem_of_getElem? (i := 9) rfl))) (g := (mkF m 449 #[.val (.long q0), .second, .val (.int q1), .val (.int q2), .val (.ref b1), .val (.int at1), .val (.int lim), .val (.long rr), .second, .val (.int idd), .val (.int fi), .val (.long b2), .second, .val (.long b3), .second, .val (.long b4), .second, .val (.long b5), .second, .val (.long room), .second, .val (.int v0_412), .val (.int tg), .val (.int tc), .val (.int v1_255), .val (.long v2_255), .second, v3_255] [(.long rr)])) rfl (hb hby at_449) _ ?_
      show Steps p.tables e below (T11.setTop (mkF m 452 #[.val (.long q0), .second, .val (.int q1), .val (.int q2), .val (.ref b1), .val (.int at1), .val (.int lim), .val (.long rr), .second, .val (.int idd), .val (.int fi), .val (.long b2), .second, .val (.long b3), .second, .val (.long b4), .second, .val (.long b5), .second, .val (.long room), .second, .val (.int v0_412), .val (.int tg), .val (.int tc), .val (.int v1_255), .val (.long v2_255), .second, v3_255] [(.long (-1 : Int64)), (.long rr)])) _
      refine XS.lcmp X11.here hx rfl (hb hby at_452) rfl ?_
      show Steps p.tables e below (T11.setTop (mkF m 453 #[.val (.long q0), .second, .val (.int q1), .val (.int q2), .val (.ref b1), .val (.int at1), .val (.int lim), .val (.long rr), .second, .val (.int idd), .val (.int fi), .val (.long b2), .second, .val (.long b3), .second, .val (.long b4), .second, .val (.long b5), .second, .val (.long room), .second, .val (.int v0_412), .val (.int tg), .val (.int tc), .val (.int v1_255), .val (.long v2_255), .second, v3_255] [(.int (lcmpW rr (-1 : Int64)))])) _
      refine XS.ifNo X11.here hx rfl (hb hby at_453) rfl ((if0 _ _).trans (feq ((own_law hat1 hlim hrr hidd hfi hb2 hb3 hb4 hb5 hroom hv0_206 htg htc hv0_232 hv0_242 hv0_255 hv1_255 hv2_255 hv0_412).2 hc429).1).1) ?_
      show Steps p.tables e below (T11.setTop (mkF m 456 #[.val (.long q0), .second, .val (.int q1), .val (.int q2), .val (.ref b1), .val (.int at1), .val (.int lim), .val (.long rr), .second, .val (.int idd), .val (.int fi), .val (.long b2), .second, .val (.long b3), .second, .val (.long b4), .second, .val (.long b5), .second, .val (.long room), .second, .val (.int v0_412), .val (.int tg), .val (.int tc), .val (.int v1_255), .val (.long v2_255), .second, v3_255] [])) _
      refine XS.lload X11.here hx rfl (hb hby at_456) rfl ?_
      show Steps p.tables e below (T11.setTop (mkF m 458 #[.val (.long q0), .second, .val (.int q1), .val (.int q2), .val (.ref b1), .val (.int at1), .val (.int lim), .val (.long rr), .second, .val (.int idd), .val (.int fi), .val (.long b2), .second, .val (.long b3), .second, .val (.long b4), .second, .val (.long b5), .second, .val (.long room), .second, .val (.int v0_412), .val (.int tg), .val (.int tc), .val (.int v1_255), .val (.long v2_255), .second, v3_255] [(.long rr)])) _
      refine st13 _ ?_
      show Steps p.tables e below (T13.setTop (mkF m 461 #[.val (.long q0), .second, .val (.int q1), .val (.int q2), .val (.ref b1), .val (.int at1), .val (.int lim), .val (.long rr), .second, .val (.int idd), .val (.int fi), .val (.long b2), .second, .val (.long b3), .second, .val (.long b4), .second, .val (.long b5), .second, .val (.long room), .second, .val (.int v0_412), .val (.int tg), .val (.int tc), .val (.int v1_255), .val (.long v2_255), .second, v3_255] [(.int (((rr.toUInt64 >>> ((40 : Int32) &&& 0x3f).toInt64.toUInt64).toInt64).toInt32))])) _
      refine XS.iload X13.here hx rfl (hb hby at_461) rfl ?_
      show Steps p.tables e below (T13.setTop (mkF m 463 #[.val (.long q0), .second, .val (.int q1), .val (.int q2), .val (.ref b1), .val (.int at1), .val (.int lim), .val (.long rr), .second, .val (.int idd), .val (.int fi), .val (.long b2), .second, .val (.long b3), .second, .val (.long b4), .second, .val (.long b5), .second, .val (.long room), .second, .val (.int v0_412), .val (.int tg), .val (.int tc), .val (.int v1_255), .val (.long v2_255), .second, v3_255] [(.int idd), (.int (((rr.toUInt64 >>> ((40 : Int32) &&& 0x3f).toInt64.toUInt64).toInt64).toInt32))])) _
      refine XS.icmpNo X13.here hx rfl (hb hby at_463) rfl (teq ((own_law hat1 hlim hrr hidd hfi hb2 hb3 hb4 hb5 hroom hv0_206 htg htc hv0_232 hv0_242 hv0_255 hv1_255 hv2_255 hv0_412).2 hc429).2.1).2 ?_
      show Steps p.tables e below (T13.setTop (mkF m 466 #[.val (.long q0), .second, .val (.int q1), .val (.int q2), .val (.ref b1), .val (.int at1), .val (.int lim), .val (.long rr), .second, .val (.int idd), .val (.int fi), .val (.long b2), .second, .val (.long b3), .second, .val (.long b4), .second, .val (.long b5), .second, .val (.long room), .second, .val (.int v0_412), .val (.int tg), .val (.int tc), .val (.int v1_255), .val (.long v2_255), .second, v3_255] [])) _
      refine XS.lload X13.here hx rfl (hb hby at_466) rfl ?_
      show Steps p.tables e below (T13.setTop (mkF m 468 #[.val (.long q0), .second, .val (.int q1), .val (.int q2), .val (.ref b1), .val (.int at1), .val (.int lim), .val (.long rr), .second, .val (.int idd), .val (.int fi), .val (.long b2), .second, .val (.long b3), .second, .val (.long b4), .second, .val (.long b5), .second, .val (.long room), .second, .val (.int v0_412), .val (.int tg), .val (.int tc), .val (.int v1_255), .val (.long v2_255), .second, v3_255] [(.long rr)])) _
      refine st14 _ ?_
      show Steps p.tables e below (T14.setTop (mkF m 471 #[.val (.long q0), .second, .val (.int q1), .val (.int q2), .val (.ref b1), .val (.int at1), .val (.int lim), .val (.long rr), .second, .val (.int idd), .val (.int fi), .val (.long b2), .second, .val (.long b3), .second, .val (.long b4), .second, .val (.long b5), .second, .val (.long room), .second, .val (.int v0_412), .val (.int tg), .val (.int tc), .val (.int v1_255), .val (.long v2_255), .second, v3_255] [(.int (((((rr.toUInt64 >>> ((32 : Int32) &&& 0x3f).toInt64.toUInt64).toInt64).toInt32) &&& (255 : Int32))))])) _
      refine XS.iload X14.here hx rfl (hb hby at_471) rfl ?_
      show Steps p.tables e below (T14.setTop (mkF m 473 #[.val (.long q0), .second, .val (.int q1), .val (.int q2), .val (.ref b1), .val (.int at1), .val (.int lim), .val (.long rr), .second, .val (.int idd), .val (.int fi), .val (.long b2), .second, .val (.long b3), .second, .val (.long b4), .second, .val (.long b5), .second, .val (.long room), .second, .val (.int v0_412), .val (.int tg), .val (.int tc), .val (.int v1_255), .val (.long v2_255), .second, v3_255] [(.int v1_255), (.int (((((rr.toUInt64 >>> ((32 : Int32) &&& 0x3f).toInt64.toUInt64).toInt64).toInt32) &&& (255 : Int32))))])) _
      refine XS.icmpNo X14.here hx rfl (hb hby at_473) rfl (teq ((own_law hat1 hlim hrr hidd hfi hb2 hb3 hb4 hb5 hroom hv0_206 htg htc hv0_232 hv0_242 hv0_255 hv1_255 hv2_255 hv0_412).2 hc429).2.2.1).2 ?_
      show Steps p.tables e below (T14.setTop (mkF m 476 #[.val (.long q0), .second, .val (.int q1), .val (.int q2), .val (.ref b1), .val (.int at1), .val (.int lim), .val (.long rr), .second, .val (.int idd), .val (.int fi), .val (.long b2), .second, .val (.long b3), .second, .val (.long b4), .second, .val (.long b5), .second, .val (.long room), .second, .val (.int v0_412), .val (.int tg), .val (.int tc), .val (.int v1_255), .val (.long v2_255), .second, v3_255] [])) _
      refine XS.lload X14.here hx rfl (hb hby at_476) rfl ?_
      show Steps p.tables e below (T14.setTop (mkF m 478 #[.val (.long q0), .second, .val (.int q1), .val (.int q2), .val (.ref b1), .val (.int at1), .val (.int lim), .val (.long rr), .second, .val (.int idd), .val (.int fi), .val (.long b2), .second, .val (.long b3), .second, .val (.long b4), .second, .val (.long b5), .second, .val (.long room), .second, .val (.int v0_412), .val (.int tg), .val (.int tc), .val (.int v1_255), .val (.long v2_255), .second, v3_255] [(.long rr)])) _
      refine st15 _ ?_
      show Steps p.tables e below (T15.setTop (mkF m 481 #[.val (.long q0), .second, .val (.int q1), .val (.int q2), .val (.ref b1), .val (.int at1), .val (.int lim), .val (.long rr), .second, .val (.int idd), .val (.int fi), .val (.long b2), .second, .val (.long b3), .second, .val (.long b4), .second, .val (.long b5), .second, .val (.long room), .second, .val (.int v0_412), .val (.int tg), .val (.int tc), .val (.int v1_255), .val (.long v2_255), .second, v3_255] [(.int (rr.toInt32))])) _
      refine XS.lload X15.here hx rfl (hb hby at_481) rfl ?_
      show Steps p.tables e below (T15.setTop (mkF m 483 #[.val (.long q0), .second, .val (.int q1), .val (.int q2), .val (.ref b1), .val (.int at1), .val (.int lim), .val (.long rr), .second, .val (.int idd), .val (.int fi), .val (.long b2), .second, .val (.long b3), .second, .val (.long b4), .second, .val (.long b5), .second, .val (.long room), .second, .val (.int v0_412), .val (.int tg), .val (.int tc), .val (.int v1_255), .val (.long v2_255), .second, v3_255] [(.long v2_255), (.int (rr.toInt32))])) _
      refine XS.l2i X15.here hx rfl (hb hby at_483) rfl ?_
      show Steps p.tables e below (T15.setTop (mkF m 484 #[.val (.long q0), .second, .val (.int q1), .val (.int q2), .val (.ref b1), .val (.int at1), .val (.int lim), .val (.long rr), .second, .val (.int idd), .val (.int fi), .val (.long b2), .second, .val (.long b3), .second, .val (.long b4), .second, .val (.long b5), .second, .val (.long room), .second, .val (.int v0_412), .val (.int tg), .val (.int tc), .val (.int v1_255), .val (.long v2_255), .second, v3_255] [(.int (v2_255.toInt32)), (.int (rr.toInt32))])) _
      refine XS.icmpNo X15.here hx rfl (hb hby at_484) rfl (teq ((own_law hat1 hlim hrr hidd hfi hb2 hb3 hb4 hb5 hroom hv0_206 htg htc hv0_232 hv0_242 hv0_255 hv1_255 hv2_255 hv0_412).2 hc429).2.2.2).2 ?_
      show Steps p.tables e below (T15.setTop (mkF m 487 #[.val (.long q0), .second, .val (.int q1), .val (.int q2), .val (.ref b1), .val (.int at1), .val (.int lim), .val (.long rr), .second, .val (.int idd), .val (.int fi), .val (.long b2), .second, .val (.long b3), .second, .val (.long b4), .second, .val (.long b5), .second, .val (.long room), .second, .val (.int v0_412), .val (.int tg), .val (.int tc), .val (.int v1_255), .val (.long v2_255), .second, v3_255] [])) _
      refine XS.iconst X15.here hx rfl (hb hby at_487) ?_
      show Steps p.tables e below (T15.setTop (mkF m 488 #[.val (.long q0), .second, .val (.int q1), .val (.int q2), .val (.ref b1), .val (.int at1), .val (.int lim), .val (.long rr), .second, .val (.int idd), .val (.int fi), .val (.long b2), .second, .val (.long b3), .second, .val (.long b4), .second, .val (.long b5), .second, .val (.long room), .second, .val (.int v0_412), .val (.int tg), .val (.int tc), .val (.int v1_255), .val (.long v2_255), .second, v3_255] [(.int (1 : Int32))])) _
      refine XS.goto X15.here hx rfl (pc0 := 488) (pc' := 492) rfl (hb hby at_488) (by decide) (by decide) ?_
      show Steps p.tables e below (T15.setTop (mkF m 492 #[.val (.long q0), .second, .val (.int q1), .val (.int q2), .val (.ref b1), .val (.int at1), .val (.int lim), .val (.long rr), .second, .val (.int idd), .val (.int fi), .val (.long b2), .second, .val (.long b3), .second, .val (.long b4), .second, .val (.long b5), .second, .val (.long room), .second, .val (.int v0_412), .val (.int tg), .val (.int tc), .val (.int v1_255), .val (.long v2_255), .second, v3_255] [(.int (1 : Int32))])) _
      exact retN X15 hx (t := .boolean) Bd.returns (by simp) (hb hby at_492) hr
    · show Q0 h0 n0 _ T15.heap _
      rw [e15]
      exact ⟨rfl, N15⟩
  ·
    obtain ⟨fs, hr, hrun, hended, hW, hsame⟩ := X11.leave (v := some (.int (1 : Int32))) (fun h => by rw [Bd.returns] at h; cases h)
    refine ⟨_, _, pre0 _ ?_, hrun, hended, _, _, rfl, ?_, ⟨_, rfl⟩, hW, hsame.mono (by decide) (by decide)⟩
    · show Steps p.tables e below (s₁.setTop (mkF m 0 #[.val (.long q0), .second, .val (.int q1), .val (.int q2), .unset, .unset, .unset, .unset, .unset, .unset, .unset, .unset, .unset, .unset, .unset, .unset, .unset, .unset, .unset, .unset, .unset, .unset, .unset, .unset, .unset, .unset, .unset, .unset] [])) _
      refine XS.sipush X0.here hx rfl (hb hby at_0) ?_
      show Steps p.tables e below (s₁.setTop (mkF m 3 #[.val (.long q0), .second, .val (.int q1), .val (.int q2), .unset, .unset, .unset, .unset, .unset, .unset, .unset, .unset, .unset, .unset, .unset, .unset, .unset, .unset, .unset, .unset, .unset, .unset, .unset, .unset, .unset, .unset, .unset, .unset] [(.int (264 : Int32))])) _
      refine st1 _ ?_
      show Steps p.tables e below (T1.setTop (mkF m 5 #[.val (.long q0), .second, .val (.int q1), .val (.int q2), .unset, .unset, .unset, .unset, .unset, .unset, .unset, .unset, .unset, .unset, .unset, .unset, .unset, .unset, .unset, .unset, .unset, .unset, .unset, .unset, .unset, .unset, .unset, .unset] [(.ref b1)])) _
      refine XS.astore X1.here hx rfl (hb hby at_5) rfl rfl (l' := #[.val (.long q0), .second, .val (.int q1), .val (.int q2), .val (.ref b1), .unset, .unset, .unset, .unset, .unset, .unset, .unset, .unset, .unset, .unset, .unset, .unset, .unset, .unset, .unset, .unset, .unset, .unset, .unset, .unset, .unset, .unset, .unset]) rfl ?_
      show Steps p.tables e below (T1.setTop (mkF m 7 #[.val (.long q0), .second, .val (.int q1), .val (.int q2), .val (.ref b1), .unset, .unset, .unset, .unset, .unset, .unset, .unset, .unset, .unset, .unset, .unset, .unset, .unset, .unset, .unset, .unset, .unset, .unset, .unset, .unset, .unset, .unset, .unset] [])) _
      refine XS.iloadN X1.here hx rfl (hb hby at_7) rfl ?_
      show Steps p.tables e below (T1.setTop (mkF m 8 #[.val (.long q0), .second, .val (.int q1), .val (.int q2), .val (.ref b1), .unset, .unset, .unset, .unset, .unset, .unset, .unset, .unset, .unset, .unset, .unset, .unset, .unset, .unset, .unset, .unset, .unset, .unset, .unset, .unset, .unset, .unset, .unset] [(.int q1)])) _
      refine XS.bipush X1.here hx rfl (hb hby at_8) ?_
      show Steps p.tables e below (T1.setTop (mkF m 10 #[.val (.long q0), .second, .val (.int q1), .val (.int q2), .val (.ref b1), .unset, .unset, .unset, .unset, .unset, .unset, .unset, .unset, .unset, .unset, .unset, .unset, .unset, .unset, .unset, .unset, .unset, .unset, .unset, .unset, .unset, .unset, .unset] [(.int (7 : Int32)), (.int q1)])) _
      refine XS.iand X1.here hx rfl (hb hby at_10) rfl ?_
      show Steps p.tables e below (T1.setTop (mkF m 11 #[.val (.long q0), .second, .val (.int q1), .val (.int q2), .val (.ref b1), .unset, .unset, .unset, .unset, .unset, .unset, .unset, .unset, .unset, .unset, .unset, .unset, .unset, .unset, .unset, .unset, .unset, .unset, .unset, .unset, .unset, .unset, .unset] [(.int (q1 &&& (7 : Int32)))])) _
      refine XS.istore X1.here hx rfl (hb hby at_11) rfl (l' := #[.val (.long q0), .second, .val (.int q1), .val (.int q2), .val (.ref b1), .val (.int (q1 &&& (7 : Int32))), .unset, .unset, .unset, .unset, .unset, .unset, .unset, .unset, .unset, .unset, .unset, .unset, .unset, .unset, .unset, .unset, .unset, .unset, .unset, .unset, .unset, .unset]) rfl ?_
      show Steps p.tables e below (T1.setTop (mkF m 13 #[.val (.long q0), .second, .val (.int q1), .val (.int q2), .val (.ref b1), .val (.int (q1 &&& (7 : Int32))), .unset, .unset, .unset, .unset, .unset, .unset, .unset, .unset, .unset, .unset, .unset, .unset, .unset, .unset, .unset, .unset, .unset, .unset, .unset, .unset, .unset, .unset] [])) _
      rw [← hat1]
      show Steps p.tables e below (T1.setTop (mkF m 13 #[.val (.long q0), .second, .val (.int q1), .val (.int q2), .val (.ref b1), .val (.int at1), .unset, .unset, .unset, .unset, .unset, .unset, .unset, .unset, .unset, .unset, .unset, .unset, .unset, .unset, .unset, .unset, .unset, .unset, .unset, .unset, .unset, .unset] [])) _
      refine XS.iloadN X1.here hx rfl (hb hby at_13) rfl ?_
      show Steps p.tables e below (T1.setTop (mkF m 14 #[.val (.long q0), .second, .val (.int q1), .val (.int q2), .val (.ref b1), .val (.int at1), .unset, .unset, .unset, .unset, .unset, .unset, .unset, .unset, .unset, .unset, .unset, .unset, .unset, .unset, .unset, .unset, .unset, .unset, .unset, .unset, .unset, .unset] [(.int q2)])) _
      refine X1.ldcInt hx hown (mvT hZ (hw _ (List.mem_of_getElem? (i := 1) rfl))) (g := (mkF m 14 #[.val (.long q0), .second, .val (.int q1), .val (.int q2), .val (.ref b1), .val (.int at1), .unset, .unset, .unset, .unset, .unset, .unset, .unset, .unset, .unset, .unset, .unset, .unset, .unset, .unset, .unset, .unset, .unset, .unset, .unset, .unset, .unset, .unset] [(.int q2)])) rfl (hb hby at_14) _ ?_
      show Steps p.tables e below (T1.setTop (mkF m 16 #[.val (.long q0), .second, .val (.int q1), .val (.int q2), .val (.ref b1), .val (.int at1), .unset, .unset, .unset, .unset, .unset, .unset, .unset, .unset, .unset, .unset, .unset, .unset, .unset, .unset, .unset, .unset, .unset, .unset, .unset, .unset, .unset, .unset] [(.int (2147483647 : Int32)), (.int q2)])) _
      refine XS.iand X1.here hx rfl (hb hby at_16) rfl ?_
      show Steps p.tables e below (T1.setTop (mkF m 17 #[.val (.long q0), .second, .val (.int q1), .val (.int q2), .val (.ref b1), .val (.int at1), .unset, .unset, .unset, .unset, .unset, .unset, .unset, .unset, .unset, .unset, .unset, .unset, .unset, .unset, .unset, .unset, .unset, .unset, .unset, .unset, .unset, .unset] [(.int (q2 &&& (2147483647 : Int32)))])) _
      refine XS.sipush X1.here hx rfl (hb hby at_17) ?_
      show Steps p.tables e below (T1.setTop (mkF m 20 #[.val (.long q0), .second, .val (.int q1), .val (.int q2), .val (.ref b1), .val (.int at1), .unset, .unset, .unset, .unset, .unset, .unset, .unset, .unset, .unset, .unset, .unset, .unset, .unset, .unset, .unset, .unset, .unset, .unset, .unset, .unset, .unset, .unset] [(.int (265 : Int32)), (.int (q2 &&& (2147483647 : Int32)))])) _
      refine XS.irem X1.here hx rfl (hb hby at_20) rfl (by decide) ?_
      show Steps p.tables e below (T1.setTop (mkF m 21 #[.val (.long q0), .second, .val (.int q1), .val (.int q2), .val (.ref b1), .val (.int at1), .unset, .unset, .unset, .unset, .unset, .unset, .unset, .unset, .unset, .unset, .unset, .unset, .unset, .unset, .unset, .unset, .unset, .unset, .unset, .unset, .unset, .unset] [(.int ((q2 &&& (2147483647 : Int32)) - ((q2 &&& (2147483647 : Int32)) / (265 : Int32)) * (265 : Int32)))])) _
      rw [irem_eq_mod]
      show Steps p.tables e below (T1.setTop (mkF m 21 #[.val (.long q0), .second, .val (.int q1), .val (.int q2), .val (.ref b1), .val (.int at1), .unset, .unset, .unset, .unset, .unset, .unset, .unset, .unset, .unset, .unset, .unset, .unset, .unset, .unset, .unset, .unset, .unset, .unset, .unset, .unset, .unset, .unset] [(.int ((q2 &&& (2147483647 : Int32)) % (265 : Int32)))])) _
      refine XS.istore X1.here hx rfl (hb hby at_21) rfl (l' := #[.val (.long q0), .second, .val (.int q1), .val (.int q2), .val (.ref b1), .val (.int at1), .val (.int ((q2 &&& (2147483647 : Int32)) % (265 : Int32))), .unset, .unset, .unset, .unset, .unset, .unset, .unset, .unset, .unset, .unset, .unset, .unset, .unset, .unset, .unset, .unset, .unset, .unset, .unset, .unset, .unset]) rfl ?_
      show Steps p.tables e below (T1.setTop (mkF m 23 #[.val (.long q0), .second, .val (.int q1), .val (.int q2), .val (.ref b1), .val (.int at1), .val (.int ((q2 &&& (2147483647 : Int32)) % (265 : Int32))), .unset, .unset, .unset, .unset, .unset, .unset, .unset, .unset, .unset, .unset, .unset, .unset, .unset, .unset, .unset, .unset, .unset, .unset, .unset, .unset, .unset] [])) _
      rw [← hlim]
      show Steps p.tables e below (T1.setTop (mkF m 23 #[.val (.long q0), .second, .val (.int q1), .val (.int q2), .val (.ref b1), .val (.int at1), .val (.int lim), .unset, .unset, .unset, .unset, .unset, .unset, .unset, .unset, .unset, .unset, .unset, .unset, .unset, .unset, .unset, .unset, .unset, .unset, .unset, .unset, .unset] [])) _
      refine XS.aload X1.here hx rfl (hb hby at_23) rfl rfl ?_
      show Steps p.tables e below (T1.setTop (mkF m 25 #[.val (.long q0), .second, .val (.int q1), .val (.int q2), .val (.ref b1), .val (.int at1), .val (.int lim), .unset, .unset, .unset, .unset, .unset, .unset, .unset, .unset, .unset, .unset, .unset, .unset, .unset, .unset, .unset, .unset, .unset, .unset, .unset, .unset, .unset] [(.ref b1)])) _
      refine XS.iload X1.here hx rfl (hb hby at_25) rfl ?_
      show Steps p.tables e below (T1.setTop (mkF m 27 #[.val (.long q0), .second, .val (.int q1), .val (.int q2), .val (.ref b1), .val (.int at1), .val (.int lim), .unset, .unset, .unset, .unset, .unset, .unset, .unset, .unset, .unset, .unset, .unset, .unset, .unset, .unset, .unset, .unset, .unset, .unset, .unset, .unset, .unset] [(.int at1), (.ref b1)])) _
      refine XS.lloadN X1.here hx rfl (hb hby at_27) rfl ?_
      show Steps p.tables e below (T1.setTop (mkF m 28 #[.val (.long q0), .second, .val (.int q1), .val (.int q2), .val (.ref b1), .val (.int at1), .val (.int lim), .unset, .unset, .unset, .unset, .unset, .unset, .unset, .unset, .unset, .unset, .unset, .unset, .unset, .unset, .unset, .unset, .unset, .unset, .unset, .unset, .unset] [(.long q0), (.int at1), (.ref b1)])) _
      refine XS.l2i X1.here hx rfl (hb hby at_28) rfl ?_
      show Steps p.tables e below (T1.setTop (mkF m 29 #[.val (.long q0), .second, .val (.int q1), .val (.int q2), .val (.ref b1), .val (.int at1), .val (.int lim), .unset, .unset, .unset, .unset, .unset, .unset, .unset, .unset, .unset, .unset, .unset, .unset, .unset, .unset, .unset, .unset, .unset, .unset, .unset, .unset, .unset] [(.int (q0.toInt32)), (.int at1), (.ref b1)])) _
      refine XS.i2b X1.here hx rfl (hb hby at_29) rfl ?_
      show Steps p.tables e below (T1.setTop (mkF m 30 #[.val (.long q0), .second, .val (.int q1), .val (.int q2), .val (.ref b1), .val (.int at1), .val (.int lim), .unset, .unset, .unset, .unset, .unset, .unset, .unset, .unset, .unset, .unset, .unset, .unset, .unset, .unset, .unset, .unset, .unset, .unset, .unset, .unset, .unset] [(.int ((q0.toInt32).toInt8.toInt32)), (.int at1), (.ref b1)])) _
      refine st2 _ ?_
      show Steps p.tables e below (T2.setTop (mkF m 31 #[.val (.long q0), .second, .val (.int q1), .val (.int q2), .val (.ref b1), .val (.int at1), .val (.int lim), .unset, .unset, .unset, .unset, .unset, .unset, .unset, .unset, .unset, .unset, .unset, .unset, .unset, .unset, .unset, .unset, .unset, .unset, .unset, .unset, .unset] [])) _
      refine XS.aload X2.here hx rfl (hb hby at_31) rfl rfl ?_
      show Steps p.tables e below (T2.setTop (mkF m 33 #[.val (.long q0), .second, .val (.int q1), .val (.int q2), .val (.ref b1), .val (.int at1), .val (.int lim), .unset, .unset, .unset, .unset, .unset, .unset, .unset, .unset, .unset, .unset, .unset, .unset, .unset, .unset, .unset, .unset, .unset, .unset, .unset, .unset, .unset] [(.ref b1)])) _
      refine XS.iload X2.here hx rfl (hb hby at_33) rfl ?_
      show Steps p.tables e below (T2.setTop (mkF m 35 #[.val (.long q0), .second, .val (.int q1), .val (.int q2), .val (.ref b1), .val (.int at1), .val (.int lim), .unset, .unset, .unset, .unset, .unset, .unset, .unset, .unset, .unset, .unset, .unset, .unset, .unset, .unset, .unset, .unset, .unset, .unset, .unset, .unset, .unset] [(.int at1), (.ref b1)])) _
      refine XS.iconst X2.here hx rfl (hb hby at_35) ?_
      show Steps p.tables e below (T2.setTop (mkF m 36 #[.val (.long q0), .second, .val (.int q1), .val (.int q2), .val (.ref b1), .val (.int at1), .val (.int lim), .unset, .unset, .unset, .unset, .unset, .unset, .unset, .unset, .unset, .unset, .unset, .unset, .unset, .unset, .unset, .unset, .unset, .unset, .unset, .unset, .unset] [(.int (1 : Int32)), (.int at1), (.ref b1)])) _
      refine XS.iadd X2.here hx rfl (hb hby at_36) rfl ?_
      show Steps p.tables e below (T2.setTop (mkF m 37 #[.val (.long q0), .second, .val (.int q1), .val (.int q2), .val (.ref b1), .val (.int at1), .val (.int lim), .unset, .unset, .unset, .unset, .unset, .unset, .unset, .unset, .unset, .unset, .unset, .unset, .unset, .unset, .unset, .unset, .unset, .unset, .unset, .unset, .unset] [(.int (at1 + (1 : Int32))), (.ref b1)])) _
      refine XS.lloadN X2.here hx rfl (hb hby at_37) rfl ?_
      show Steps p.tables e below (T2.setTop (mkF m 38 #[.val (.long q0), .second, .val (.int q1), .val (.int q2), .val (.ref b1), .val (.int at1), .val (.int lim), .unset, .unset, .unset, .unset, .unset, .unset, .unset, .unset, .unset, .unset, .unset, .unset, .unset, .unset, .unset, .unset, .unset, .unset, .unset, .unset, .unset] [(.long q0), (.int (at1 + (1 : Int32))), (.ref b1)])) _
      refine XS.bipush X2.here hx rfl (hb hby at_38) ?_
      show Steps p.tables e below (T2.setTop (mkF m 40 #[.val (.long q0), .second, .val (.int q1), .val (.int q2), .val (.ref b1), .val (.int at1), .val (.int lim), .unset, .unset, .unset, .unset, .unset, .unset, .unset, .unset, .unset, .unset, .unset, .unset, .unset, .unset, .unset, .unset, .unset, .unset, .unset, .unset, .unset] [(.int (8 : Int32)), (.long q0), (.int (at1 + (1 : Int32))), (.ref b1)])) _
      refine XS.lushr X2.here hx rfl (hb hby at_40) rfl ?_
      show Steps p.tables e below (T2.setTop (mkF m 41 #[.val (.long q0), .second, .val (.int q1), .val (.int q2), .val (.ref b1), .val (.int at1), .val (.int lim), .unset, .unset, .unset, .unset, .unset, .unset, .unset, .unset, .unset, .unset, .unset, .unset, .unset, .unset, .unset, .unset, .unset, .unset, .unset, .unset, .unset] [(.long ((q0.toUInt64 >>> ((8 : Int32) &&& 0x3f).toInt64.toUInt64).toInt64)), (.int (at1 + (1 : Int32))), (.ref b1)])) _
      refine XS.l2i X2.here hx rfl (hb hby at_41) rfl ?_
      show Steps p.tables e below (T2.setTop (mkF m 42 #[.val (.long q0), .second, .val (.int q1), .val (.int q2), .val (.ref b1), .val (.int at1), .val (.int lim), .unset, .unset, .unset, .unset, .unset, .unset, .unset, .unset, .unset, .unset, .unset, .unset, .unset, .unset, .unset, .unset, .unset, .unset, .unset, .unset, .unset] [(.int (((q0.toUInt64 >>> ((8 : Int32) &&& 0x3f).toInt64.toUInt64).toInt64).toInt32)), (.int (at1 + (1 : Int32))), (.ref b1)])) _
      refine XS.i2b X2.here hx rfl (hb hby at_42) rfl ?_
      show Steps p.tables e below (T2.setTop (mkF m 43 #[.val (.long q0), .second, .val (.int q1), .val (.int q2), .val (.ref b1), .val (.int at1), .val (.int lim), .unset, .unset, .unset, .unset, .unset, .unset, .unset, .unset, .unset, .unset, .unset, .unset, .unset, .unset, .unset, .unset, .unset, .unset, .unset, .unset, .unset] [(.int ((((q0.toUInt64 >>> ((8 : Int32) &&& 0x3f).toInt64.toUInt64).toInt64).toInt32).toInt8.toInt32)), (.int (at1 + (1 : Int32))), (.ref b1)])) _
      refine st3 _ ?_
      show Steps p.tables e below (T3.setTop (mkF m 44 #[.val (.long q0), .second, .val (.int q1), .val (.int q2), .val (.ref b1), .val (.int at1), .val (.int lim), .unset, .unset, .unset, .unset, .unset, .unset, .unset, .unset, .unset, .unset, .unset, .unset, .unset, .unset, .unset, .unset, .unset, .unset, .unset, .unset, .unset] [])) _
      refine XS.aload X3.here hx rfl (hb hby at_44) rfl rfl ?_
      show Steps p.tables e below (T3.setTop (mkF m 46 #[.val (.long q0), .second, .val (.int q1), .val (.int q2), .val (.ref b1), .val (.int at1), .val (.int lim), .unset, .unset, .unset, .unset, .unset, .unset, .unset, .unset, .unset, .unset, .unset, .unset, .unset, .unset, .unset, .unset, .unset, .unset, .unset, .unset, .unset] [(.ref b1)])) _
      refine XS.iload X3.here hx rfl (hb hby at_46) rfl ?_
      show Steps p.tables e below (T3.setTop (mkF m 48 #[.val (.long q0), .second, .val (.int q1), .val (.int q2), .val (.ref b1), .val (.int at1), .val (.int lim), .unset, .unset, .unset, .unset, .unset, .unset, .unset, .unset, .unset, .unset, .unset, .unset, .unset, .unset, .unset, .unset, .unset, .unset, .unset, .unset, .unset] [(.int at1), (.ref b1)])) _
      refine XS.iconst X3.here hx rfl (hb hby at_48) ?_
      show Steps p.tables e below (T3.setTop (mkF m 49 #[.val (.long q0), .second, .val (.int q1), .val (.int q2), .val (.ref b1), .val (.int at1), .val (.int lim), .unset, .unset, .unset, .unset, .unset, .unset, .unset, .unset, .unset, .unset, .unset, .unset, .unset, .unset, .unset, .unset, .unset, .unset, .unset, .unset, .unset] [(.int (2 : Int32)), (.int at1), (.ref b1)])) _
      refine XS.iadd X3.here hx rfl (hb hby at_49) rfl ?_
      show Steps p.tables e below (T3.setTop (mkF m 50 #[.val (.long q0), .second, .val (.int q1), .val (.int q2), .val (.ref b1), .val (.int at1), .val (.int lim), .unset, .unset, .unset, .unset, .unset, .unset, .unset, .unset, .unset, .unset, .unset, .unset, .unset, .unset, .unset, .unset, .unset, .unset, .unset, .unset, .unset] [(.int (at1 + (2 : Int32))), (.ref b1)])) _
      refine XS.lloadN X3.here hx rfl (hb hby at_50) rfl ?_
      show Steps p.tables e below (T3.setTop (mkF m 51 #[.val (.long q0), .second, .val (.int q1), .val (.int q2), .val (.ref b1), .val (.int at1), .val (.int lim), .unset, .unset, .unset, .unset, .unset, .unset, .unset, .unset, .unset, .unset, .unset, .unset, .unset, .unset, .unset, .unset, .unset, .unset, .unset, .unset, .unset] [(.long q0), (.int (at1 + (2 : Int32))), (.ref b1)])) _
      refine XS.bipush X3.here hx rfl (hb hby at_51) ?_
      show Steps p.tables e below (T3.setTop (mkF m 53 #[.val (.long q0), .second, .val (.int q1), .val (.int q2), .val (.ref b1), .val (.int at1), .val (.int lim), .unset, .unset, .unset, .unset, .unset, .unset, .unset, .unset, .unset, .unset, .unset, .unset, .unset, .unset, .unset, .unset, .unset, .unset, .unset, .unset, .unset] [(.int (16 : Int32)), (.long q0), (.int (at1 + (2 : Int32))), (.ref b1)])) _
      refine XS.lushr X3.here hx rfl (hb hby at_53) rfl ?_
      show Steps p.tables e below (T3.setTop (mkF m 54 #[.val (.long q0), .second, .val (.int q1), .val (.int q2), .val (.ref b1), .val (.int at1), .val (.int lim), .unset, .unset, .unset, .unset, .unset, .unset, .unset, .unset, .unset, .unset, .unset, .unset, .unset, .unset, .unset, .unset, .unset, .unset, .unset, .unset, .unset] [(.long ((q0.toUInt64 >>> ((16 : Int32) &&& 0x3f).toInt64.toUInt64).toInt64)), (.int (at1 + (2 : Int32))), (.ref b1)])) _
      refine XS.l2i X3.here hx rfl (hb hby at_54) rfl ?_
      show Steps p.tables e below (T3.setTop (mkF m 55 #[.val (.long q0), .second, .val (.int q1), .val (.int q2), .val (.ref b1), .val (.int at1), .val (.int lim), .unset, .unset, .unset, .unset, .unset, .unset, .unset, .unset, .unset, .unset, .unset, .unset, .unset, .unset, .unset, .unset, .unset, .unset, .unset, .unset, .unset] [(.int (((q0.toUInt64 >>> ((16 : Int32) &&& 0x3f).toInt64.toUInt64).toInt64).toInt32)), (.int (at1 + (2 : Int32))), (.ref b1)])) _
      refine XS.i2b X3.here hx rfl (hb hby at_55) rfl ?_
      show Steps p.tables e below (T3.setTop (mkF m 56 #[.val (.long q0), .second, .val (.int q1), .val (.int q2), .val (.ref b1), .val (.int at1), .val (.int lim), .unset, .unset, .unset, .unset, .unset, .unset, .unset, .unset, .unset, .unset, .unset, .unset, .unset, .unset, .unset, .unset, .unset, .unset, .unset, .unset, .unset] [(.int ((((q0.toUInt64 >>> ((16 : Int32) &&& 0x3f).toInt64.toUInt64).toInt64).toInt32).toInt8.toInt32)), (.int (at1 + (2 : Int32))), (.ref b1)])) _
      refine st4 _ ?_
      show Steps p.tables e below (T4.setTop (mkF m 57 #[.val (.long q0), .second, .val (.int q1), .val (.int q2), .val (.ref b1), .val (.int at1), .val (.int lim), .unset, .unset, .unset, .unset, .unset, .unset, .unset, .unset, .unset, .unset, .unset, .unset, .unset, .unset, .unset, .unset, .unset, .unset, .unset, .unset, .unset] [])) _
      refine XS.aload X4.here hx rfl (hb hby at_57) rfl rfl ?_
      show Steps p.tables e below (T4.setTop (mkF m 59 #[.val (.long q0), .second, .val (.int q1), .val (.int q2), .val (.ref b1), .val (.int at1), .val (.int lim), .unset, .unset, .unset, .unset, .unset, .unset, .unset, .unset, .unset, .unset, .unset, .unset, .unset, .unset, .unset, .unset, .unset, .unset, .unset, .unset, .unset] [(.ref b1)])) _
      refine XS.iload X4.here hx rfl (hb hby at_59) rfl ?_
      show Steps p.tables e below (T4.setTop (mkF m 61 #[.val (.long q0), .second, .val (.int q1), .val (.int q2), .val (.ref b1), .val (.int at1), .val (.int lim), .unset, .unset, .unset, .unset, .unset, .unset, .unset, .unset, .unset, .unset, .unset, .unset, .unset, .unset, .unset, .unset, .unset, .unset, .unset, .unset, .unset] [(.int at1), (.ref b1)])) _
      refine XS.iconst X4.here hx rfl (hb hby at_61) ?_
      show Steps p.tables e below (T4.setTop (mkF m 62 #[.val (.long q0), .second, .val (.int q1), .val (.int q2), .val (.ref b1), .val (.int at1), .val (.int lim), .unset, .unset, .unset, .unset, .unset, .unset, .unset, .unset, .unset, .unset, .unset, .unset, .unset, .unset, .unset, .unset, .unset, .unset, .unset, .unset, .unset] [(.int (3 : Int32)), (.int at1), (.ref b1)])) _
      refine XS.iadd X4.here hx rfl (hb hby at_62) rfl ?_
      show Steps p.tables e below (T4.setTop (mkF m 63 #[.val (.long q0), .second, .val (.int q1), .val (.int q2), .val (.ref b1), .val (.int at1), .val (.int lim), .unset, .unset, .unset, .unset, .unset, .unset, .unset, .unset, .unset, .unset, .unset, .unset, .unset, .unset, .unset, .unset, .unset, .unset, .unset, .unset, .unset] [(.int (at1 + (3 : Int32))), (.ref b1)])) _
      refine XS.lloadN X4.here hx rfl (hb hby at_63) rfl ?_
      show Steps p.tables e below (T4.setTop (mkF m 64 #[.val (.long q0), .second, .val (.int q1), .val (.int q2), .val (.ref b1), .val (.int at1), .val (.int lim), .unset, .unset, .unset, .unset, .unset, .unset, .unset, .unset, .unset, .unset, .unset, .unset, .unset, .unset, .unset, .unset, .unset, .unset, .unset, .unset, .unset] [(.long q0), (.int (at1 + (3 : Int32))), (.ref b1)])) _
      refine XS.bipush X4.here hx rfl (hb hby at_64) ?_
      show Steps p.tables e below (T4.setTop (mkF m 66 #[.val (.long q0), .second, .val (.int q1), .val (.int q2), .val (.ref b1), .val (.int at1), .val (.int lim), .unset, .unset, .unset, .unset, .unset, .unset, .unset, .unset, .unset, .unset, .unset, .unset, .unset, .unset, .unset, .unset, .unset, .unset, .unset, .unset, .unset] [(.int (24 : Int32)), (.long q0), (.int (at1 + (3 : Int32))), (.ref b1)])) _
      refine XS.lushr X4.here hx rfl (hb hby at_66) rfl ?_
      show Steps p.tables e below (T4.setTop (mkF m 67 #[.val (.long q0), .second, .val (.int q1), .val (.int q2), .val (.ref b1), .val (.int at1), .val (.int lim), .unset, .unset, .unset, .unset, .unset, .unset, .unset, .unset, .unset, .unset, .unset, .unset, .unset, .unset, .unset, .unset, .unset, .unset, .unset, .unset, .unset] [(.long ((q0.toUInt64 >>> ((24 : Int32) &&& 0x3f).toInt64.toUInt64).toInt64)), (.int (at1 + (3 : Int32))), (.ref b1)])) _
      refine XS.l2i X4.here hx rfl (hb hby at_67) rfl ?_
      show Steps p.tables e below (T4.setTop (mkF m 68 #[.val (.long q0), .second, .val (.int q1), .val (.int q2), .val (.ref b1), .val (.int at1), .val (.int lim), .unset, .unset, .unset, .unset, .unset, .unset, .unset, .unset, .unset, .unset, .unset, .unset, .unset, .unset, .unset, .unset, .unset, .unset, .unset, .unset, .unset] [(.int (((q0.toUInt64 >>> ((24 : Int32) &&& 0x3f).toInt64.toUInt64).toInt64).toInt32)), (.int (at1 + (3 : Int32))), (.ref b1)])) _
      refine XS.i2b X4.here hx rfl (hb hby at_68) rfl ?_
      show Steps p.tables e below (T4.setTop (mkF m 69 #[.val (.long q0), .second, .val (.int q1), .val (.int q2), .val (.ref b1), .val (.int at1), .val (.int lim), .unset, .unset, .unset, .unset, .unset, .unset, .unset, .unset, .unset, .unset, .unset, .unset, .unset, .unset, .unset, .unset, .unset, .unset, .unset, .unset, .unset] [(.int ((((q0.toUInt64 >>> ((24 : Int32) &&& 0x3f).toInt64.toUInt64).toInt64).toInt32).toInt8.toInt32)), (.int (at1 + (3 : Int32))), (.ref b1)])) _
      refine st5 _ ?_
      show Steps p.tables e below (T5.setTop (mkF m 70 #[.val (.long q0), .second, .val (.int q1), .val (.int q2), .val (.ref b1), .val (.int at1), .val (.int lim), .unset, .unset, .unset, .unset, .unset, .unset, .unset, .unset, .unset, .unset, .unset, .unset, .unset, .unset, .unset, .unset, .unset, .unset, .unset, .unset, .unset] [])) _
      refine XS.aload X5.here hx rfl (hb hby at_70) rfl rfl ?_
      show Steps p.tables e below (T5.setTop (mkF m 72 #[.val (.long q0), .second, .val (.int q1), .val (.int q2), .val (.ref b1), .val (.int at1), .val (.int lim), .unset, .unset, .unset, .unset, .unset, .unset, .unset, .unset, .unset, .unset, .unset, .unset, .unset, .unset, .unset, .unset, .unset, .unset, .unset, .unset, .unset] [(.ref b1)])) _
      refine XS.iload X5.here hx rfl (hb hby at_72) rfl ?_
      show Steps p.tables e below (T5.setTop (mkF m 74 #[.val (.long q0), .second, .val (.int q1), .val (.int q2), .val (.ref b1), .val (.int at1), .val (.int lim), .unset, .unset, .unset, .unset, .unset, .unset, .unset, .unset, .unset, .unset, .unset, .unset, .unset, .unset, .unset, .unset, .unset, .unset, .unset, .unset, .unset] [(.int at1), (.ref b1)])) _
      refine XS.iconst X5.here hx rfl (hb hby at_74) ?_
      show Steps p.tables e below (T5.setTop (mkF m 75 #[.val (.long q0), .second, .val (.int q1), .val (.int q2), .val (.ref b1), .val (.int at1), .val (.int lim), .unset, .unset, .unset, .unset, .unset, .unset, .unset, .unset, .unset, .unset, .unset, .unset, .unset, .unset, .unset, .unset, .unset, .unset, .unset, .unset, .unset] [(.int (4 : Int32)), (.int at1), (.ref b1)])) _
      refine XS.iadd X5.here hx rfl (hb hby at_75) rfl ?_
      show Steps p.tables e below (T5.setTop (mkF m 76 #[.val (.long q0), .second, .val (.int q1), .val (.int q2), .val (.ref b1), .val (.int at1), .val (.int lim), .unset, .unset, .unset, .unset, .unset, .unset, .unset, .unset, .unset, .unset, .unset, .unset, .unset, .unset, .unset, .unset, .unset, .unset, .unset, .unset, .unset] [(.int (at1 + (4 : Int32))), (.ref b1)])) _
      refine XS.lloadN X5.here hx rfl (hb hby at_76) rfl ?_
      show Steps p.tables e below (T5.setTop (mkF m 77 #[.val (.long q0), .second, .val (.int q1), .val (.int q2), .val (.ref b1), .val (.int at1), .val (.int lim), .unset, .unset, .unset, .unset, .unset, .unset, .unset, .unset, .unset, .unset, .unset, .unset, .unset, .unset, .unset, .unset, .unset, .unset, .unset, .unset, .unset] [(.long q0), (.int (at1 + (4 : Int32))), (.ref b1)])) _
      refine XS.bipush X5.here hx rfl (hb hby at_77) ?_
      show Steps p.tables e below (T5.setTop (mkF m 79 #[.val (.long q0), .second, .val (.int q1), .val (.int q2), .val (.ref b1), .val (.int at1), .val (.int lim), .unset, .unset, .unset, .unset, .unset, .unset, .unset, .unset, .unset, .unset, .unset, .unset, .unset, .unset, .unset, .unset, .unset, .unset, .unset, .unset, .unset] [(.int (32 : Int32)), (.long q0), (.int (at1 + (4 : Int32))), (.ref b1)])) _
      refine XS.lushr X5.here hx rfl (hb hby at_79) rfl ?_
      show Steps p.tables e below (T5.setTop (mkF m 80 #[.val (.long q0), .second, .val (.int q1), .val (.int q2), .val (.ref b1), .val (.int at1), .val (.int lim), .unset, .unset, .unset, .unset, .unset, .unset, .unset, .unset, .unset, .unset, .unset, .unset, .unset, .unset, .unset, .unset, .unset, .unset, .unset, .unset, .unset] [(.long ((q0.toUInt64 >>> ((32 : Int32) &&& 0x3f).toInt64.toUInt64).toInt64)), (.int (at1 + (4 : Int32))), (.ref b1)])) _
      refine XS.l2i X5.here hx rfl (hb hby at_80) rfl ?_
      show Steps p.tables e below (T5.setTop (mkF m 81 #[.val (.long q0), .second, .val (.int q1), .val (.int q2), .val (.ref b1), .val (.int at1), .val (.int lim), .unset, .unset, .unset, .unset, .unset, .unset, .unset, .unset, .unset, .unset, .unset, .unset, .unset, .unset, .unset, .unset, .unset, .unset, .unset, .unset, .unset] [(.int (((q0.toUInt64 >>> ((32 : Int32) &&& 0x3f).toInt64.toUInt64).toInt64).toInt32)), (.int (at1 + (4 : Int32))), (.ref b1)])) _
      refine XS.i2b X5.here hx rfl (hb hby at_81) rfl ?_
      show Steps p.tables e below (T5.setTop (mkF m 82 #[.val (.long q0), .second, .val (.int q1), .val (.int q2), .val (.ref b1), .val (.int at1), .val (.int lim), .unset, .unset, .unset, .unset, .unset, .unset, .unset, .unset, .unset, .unset, .unset, .unset, .unset, .unset, .unset, .unset, .unset, .unset, .unset, .unset, .unset] [(.int ((((q0.toUInt64 >>> ((32 : Int32) &&& 0x3f).toInt64.toUInt64).toInt64).toInt32).toInt8.toInt32)), (.int (at1 + (4 : Int32))), (.ref b1)])) _
      refine st6 _ ?_
      show Steps p.tables e below (T6.setTop (mkF m 83 #[.val (.long q0), .second, .val (.int q1), .val (.int q2), .val (.ref b1), .val (.int at1), .val (.int lim), .unset, .unset, .unset, .unset, .unset, .unset, .unset, .unset, .unset, .unset, .unset, .unset, .unset, .unset, .unset, .unset, .unset, .unset, .unset, .unset, .unset] [])) _
      refine XS.aload X6.here hx rfl (hb hby at_83) rfl rfl ?_
      show Steps p.tables e below (T6.setTop (mkF m 85 #[.val (.long q0), .second, .val (.int q1), .val (.int q2), .val (.ref b1), .val (.int at1), .val (.int lim), .unset, .unset, .unset, .unset, .unset, .unset, .unset, .unset, .unset, .unset, .unset, .unset, .unset, .unset, .unset, .unset, .unset, .unset, .unset, .unset, .unset] [(.ref b1)])) _
      refine XS.iload X6.here hx rfl (hb hby at_85) rfl ?_
      show Steps p.tables e below (T6.setTop (mkF m 87 #[.val (.long q0), .second, .val (.int q1), .val (.int q2), .val (.ref b1), .val (.int at1), .val (.int lim), .unset, .unset, .unset, .unset, .unset, .unset, .unset, .unset, .unset, .unset, .unset, .unset, .unset, .unset, .unset, .unset, .unset, .unset, .unset, .unset, .unset] [(.int at1), (.ref b1)])) _
      refine XS.iconst X6.here hx rfl (hb hby at_87) ?_
      show Steps p.tables e below (T6.setTop (mkF m 88 #[.val (.long q0), .second, .val (.int q1), .val (.int q2), .val (.ref b1), .val (.int at1), .val (.int lim), .unset, .unset, .unset, .unset, .unset, .unset, .unset, .unset, .unset, .unset, .unset, .unset, .unset, .unset, .unset, .unset, .unset, .unset, .unset, .unset, .unset] [(.int (5 : Int32)), (.int at1), (.ref b1)])) _
      refine XS.iadd X6.here hx rfl (hb hby at_88) rfl ?_
      show Steps p.tables e below (T6.setTop (mkF m 89 #[.val (.long q0), .second, .val (.int q1), .val (.int q2), .val (.ref b1), .val (.int at1), .val (.int lim), .unset, .unset, .unset, .unset, .unset, .unset, .unset, .unset, .unset, .unset, .unset, .unset, .unset, .unset, .unset, .unset, .unset, .unset, .unset, .unset, .unset] [(.int (at1 + (5 : Int32))), (.ref b1)])) _
      refine XS.lloadN X6.here hx rfl (hb hby at_89) rfl ?_
      show Steps p.tables e below (T6.setTop (mkF m 90 #[.val (.long q0), .second, .val (.int q1), .val (.int q2), .val (.ref b1), .val (.int at1), .val (.int lim), .unset, .unset, .unset, .unset, .unset, .unset, .unset, .unset, .unset, .unset, .unset, .unset, .unset, .unset, .unset, .unset, .unset, .unset, .unset, .unset, .unset] [(.long q0), (.int (at1 + (5 : Int32))), (.ref b1)])) _
      refine XS.bipush X6.here hx rfl (hb hby at_90) ?_
      show Steps p.tables e below (T6.setTop (mkF m 92 #[.val (.long q0), .second, .val (.int q1), .val (.int q2), .val (.ref b1), .val (.int at1), .val (.int lim), .unset, .unset, .unset, .unset, .unset, .unset, .unset, .unset, .unset, .unset, .unset, .unset, .unset, .unset, .unset, .unset, .unset, .unset, .unset, .unset, .unset] [(.int (40 : Int32)), (.long q0), (.int (at1 + (5 : Int32))), (.ref b1)])) _
      refine XS.lushr X6.here hx rfl (hb hby at_92) rfl ?_
      show Steps p.tables e below (T6.setTop (mkF m 93 #[.val (.long q0), .second, .val (.int q1), .val (.int q2), .val (.ref b1), .val (.int at1), .val (.int lim), .unset, .unset, .unset, .unset, .unset, .unset, .unset, .unset, .unset, .unset, .unset, .unset, .unset, .unset, .unset, .unset, .unset, .unset, .unset, .unset, .unset] [(.long ((q0.toUInt64 >>> ((40 : Int32) &&& 0x3f).toInt64.toUInt64).toInt64)), (.int (at1 + (5 : Int32))), (.ref b1)])) _
      refine XS.l2i X6.here hx rfl (hb hby at_93) rfl ?_
      show Steps p.tables e below (T6.setTop (mkF m 94 #[.val (.long q0), .second, .val (.int q1), .val (.int q2), .val (.ref b1), .val (.int at1), .val (.int lim), .unset, .unset, .unset, .unset, .unset, .unset, .unset, .unset, .unset, .unset, .unset, .unset, .unset, .unset, .unset, .unset, .unset, .unset, .unset, .unset, .unset] [(.int (((q0.toUInt64 >>> ((40 : Int32) &&& 0x3f).toInt64.toUInt64).toInt64).toInt32)), (.int (at1 + (5 : Int32))), (.ref b1)])) _
      refine XS.i2b X6.here hx rfl (hb hby at_94) rfl ?_
      show Steps p.tables e below (T6.setTop (mkF m 95 #[.val (.long q0), .second, .val (.int q1), .val (.int q2), .val (.ref b1), .val (.int at1), .val (.int lim), .unset, .unset, .unset, .unset, .unset, .unset, .unset, .unset, .unset, .unset, .unset, .unset, .unset, .unset, .unset, .unset, .unset, .unset, .unset, .unset, .unset] [(.int ((((q0.toUInt64 >>> ((40 : Int32) &&& 0x3f).toInt64.toUInt64).toInt64).toInt32).toInt8.toInt32)), (.int (at1 + (5 : Int32))), (.ref b1)])) _
      refine st7 _ ?_
      show Steps p.tables e below (T7.setTop (mkF m 96 #[.val (.long q0), .second, .val (.int q1), .val (.int q2), .val (.ref b1), .val (.int at1), .val (.int lim), .unset, .unset, .unset, .unset, .unset, .unset, .unset, .unset, .unset, .unset, .unset, .unset, .unset, .unset, .unset, .unset, .unset, .unset, .unset, .unset, .unset] [])) _
      refine XS.aload X7.here hx rfl (hb hby at_96) rfl rfl ?_
      show Steps p.tables e below (T7.setTop (mkF m 98 #[.val (.long q0), .second, .val (.int q1), .val (.int q2), .val (.ref b1), .val (.int at1), .val (.int lim), .unset, .unset, .unset, .unset, .unset, .unset, .unset, .unset, .unset, .unset, .unset, .unset, .unset, .unset, .unset, .unset, .unset, .unset, .unset, .unset, .unset] [(.ref b1)])) _
      refine XS.iload X7.here hx rfl (hb hby at_98) rfl ?_
      show Steps p.tables e below (T7.setTop (mkF m 100 #[.val (.long q0), .second, .val (.int q1), .val (.int q2), .val (.ref b1), .val (.int at1), .val (.int lim), .unset, .unset, .unset, .unset, .unset, .unset, .unset, .unset, .unset, .unset, .unset, .unset, .unset, .unset, .unset, .unset, .unset, .unset, .unset, .unset, .unset] [(.int at1), (.ref b1)])) _
      refine XS.bipush X7.here hx rfl (hb hby at_100) ?_
      show Steps p.tables e below (T7.setTop (mkF m 102 #[.val (.long q0), .second, .val (.int q1), .val (.int q2), .val (.ref b1), .val (.int at1), .val (.int lim), .unset, .unset, .unset, .unset, .unset, .unset, .unset, .unset, .unset, .unset, .unset, .unset, .unset, .unset, .unset, .unset, .unset, .unset, .unset, .unset, .unset] [(.int (6 : Int32)), (.int at1), (.ref b1)])) _
      refine XS.iadd X7.here hx rfl (hb hby at_102) rfl ?_
      show Steps p.tables e below (T7.setTop (mkF m 103 #[.val (.long q0), .second, .val (.int q1), .val (.int q2), .val (.ref b1), .val (.int at1), .val (.int lim), .unset, .unset, .unset, .unset, .unset, .unset, .unset, .unset, .unset, .unset, .unset, .unset, .unset, .unset, .unset, .unset, .unset, .unset, .unset, .unset, .unset] [(.int (at1 + (6 : Int32))), (.ref b1)])) _
      refine XS.lloadN X7.here hx rfl (hb hby at_103) rfl ?_
      show Steps p.tables e below (T7.setTop (mkF m 104 #[.val (.long q0), .second, .val (.int q1), .val (.int q2), .val (.ref b1), .val (.int at1), .val (.int lim), .unset, .unset, .unset, .unset, .unset, .unset, .unset, .unset, .unset, .unset, .unset, .unset, .unset, .unset, .unset, .unset, .unset, .unset, .unset, .unset, .unset] [(.long q0), (.int (at1 + (6 : Int32))), (.ref b1)])) _
      refine XS.bipush X7.here hx rfl (hb hby at_104) ?_
      show Steps p.tables e below (T7.setTop (mkF m 106 #[.val (.long q0), .second, .val (.int q1), .val (.int q2), .val (.ref b1), .val (.int at1), .val (.int lim), .unset, .unset, .unset, .unset, .unset, .unset, .unset, .unset, .unset, .unset, .unset, .unset, .unset, .unset, .unset, .unset, .unset, .unset, .unset, .unset, .unset] [(.int (48 : Int32)), (.long q0), (.int (at1 + (6 : Int32))), (.ref b1)])) _
      refine XS.lushr X7.here hx rfl (hb hby at_106) rfl ?_
      show Steps p.tables e below (T7.setTop (mkF m 107 #[.val (.long q0), .second, .val (.int q1), .val (.int q2), .val (.ref b1), .val (.int at1), .val (.int lim), .unset, .unset, .unset, .unset, .unset, .unset, .unset, .unset, .unset, .unset, .unset, .unset, .unset, .unset, .unset, .unset, .unset, .unset, .unset, .unset, .unset] [(.long ((q0.toUInt64 >>> ((48 : Int32) &&& 0x3f).toInt64.toUInt64).toInt64)), (.int (at1 + (6 : Int32))), (.ref b1)])) _
      refine XS.l2i X7.here hx rfl (hb hby at_107) rfl ?_
      show Steps p.tables e below (T7.setTop (mkF m 108 #[.val (.long q0), .second, .val (.int q1), .val (.int q2), .val (.ref b1), .val (.int at1), .val (.int lim), .unset, .unset, .unset, .unset, .unset, .unset, .unset, .unset, .unset, .unset, .unset, .unset, .unset, .unset, .unset, .unset, .unset, .unset, .unset, .unset, .unset] [(.int (((q0.toUInt64 >>> ((48 : Int32) &&& 0x3f).toInt64.toUInt64).toInt64).toInt32)), (.int (at1 + (6 : Int32))), (.ref b1)])) _
      refine XS.i2b X7.here hx rfl (hb hby at_108) rfl ?_
      show Steps p.tables e below (T7.setTop (mkF m 109 #[.val (.long q0), .second, .val (.int q1), .val (.int q2), .val (.ref b1), .val (.int at1), .val (.int lim), .unset, .unset, .unset, .unset, .unset, .unset, .unset, .unset, .unset, .unset, .unset, .unset, .unset, .unset, .unset, .unset, .unset, .unset, .unset, .unset, .unset] [(.int ((((q0.toUInt64 >>> ((48 : Int32) &&& 0x3f).toInt64.toUInt64).toInt64).toInt32).toInt8.toInt32)), (.int (at1 + (6 : Int32))), (.ref b1)])) _
      refine st8 _ ?_
      show Steps p.tables e below (T8.setTop (mkF m 110 #[.val (.long q0), .second, .val (.int q1), .val (.int q2), .val (.ref b1), .val (.int at1), .val (.int lim), .unset, .unset, .unset, .unset, .unset, .unset, .unset, .unset, .unset, .unset, .unset, .unset, .unset, .unset, .unset, .unset, .unset, .unset, .unset, .unset, .unset] [])) _
      refine XS.aload X8.here hx rfl (hb hby at_110) rfl rfl ?_
      show Steps p.tables e below (T8.setTop (mkF m 112 #[.val (.long q0), .second, .val (.int q1), .val (.int q2), .val (.ref b1), .val (.int at1), .val (.int lim), .unset, .unset, .unset, .unset, .unset, .unset, .unset, .unset, .unset, .unset, .unset, .unset, .unset, .unset, .unset, .unset, .unset, .unset, .unset, .unset, .unset] [(.ref b1)])) _
      refine XS.iload X8.here hx rfl (hb hby at_112) rfl ?_
      show Steps p.tables e below (T8.setTop (mkF m 114 #[.val (.long q0), .second, .val (.int q1), .val (.int q2), .val (.ref b1), .val (.int at1), .val (.int lim), .unset, .unset, .unset, .unset, .unset, .unset, .unset, .unset, .unset, .unset, .unset, .unset, .unset, .unset, .unset, .unset, .unset, .unset, .unset, .unset, .unset] [(.int at1), (.ref b1)])) _
      refine XS.bipush X8.here hx rfl (hb hby at_114) ?_
      show Steps p.tables e below (T8.setTop (mkF m 116 #[.val (.long q0), .second, .val (.int q1), .val (.int q2), .val (.ref b1), .val (.int at1), .val (.int lim), .unset, .unset, .unset, .unset, .unset, .unset, .unset, .unset, .unset, .unset, .unset, .unset, .unset, .unset, .unset, .unset, .unset, .unset, .unset, .unset, .unset] [(.int (7 : Int32)), (.int at1), (.ref b1)])) _
      refine XS.iadd X8.here hx rfl (hb hby at_116) rfl ?_
      show Steps p.tables e below (T8.setTop (mkF m 117 #[.val (.long q0), .second, .val (.int q1), .val (.int q2), .val (.ref b1), .val (.int at1), .val (.int lim), .unset, .unset, .unset, .unset, .unset, .unset, .unset, .unset, .unset, .unset, .unset, .unset, .unset, .unset, .unset, .unset, .unset, .unset, .unset, .unset, .unset] [(.int (at1 + (7 : Int32))), (.ref b1)])) _
      refine XS.lloadN X8.here hx rfl (hb hby at_117) rfl ?_
      show Steps p.tables e below (T8.setTop (mkF m 118 #[.val (.long q0), .second, .val (.int q1), .val (.int q2), .val (.ref b1), .val (.int at1), .val (.int lim), .unset, .unset, .unset, .unset, .unset, .unset, .unset, .unset, .unset, .unset, .unset, .unset, .unset, .unset, .unset, .unset, .unset, .unset, .unset, .unset, .unset] [(.long q0), (.int (at1 + (7 : Int32))), (.ref b1)])) _
      refine XS.bipush X8.here hx rfl (hb hby at_118) ?_
      show Steps p.tables e below (T8.setTop (mkF m 120 #[.val (.long q0), .second, .val (.int q1), .val (.int q2), .val (.ref b1), .val (.int at1), .val (.int lim), .unset, .unset, .unset, .unset, .unset, .unset, .unset, .unset, .unset, .unset, .unset, .unset, .unset, .unset, .unset, .unset, .unset, .unset, .unset, .unset, .unset] [(.int (56 : Int32)), (.long q0), (.int (at1 + (7 : Int32))), (.ref b1)])) _
      refine XS.lushr X8.here hx rfl (hb hby at_120) rfl ?_
      show Steps p.tables e below (T8.setTop (mkF m 121 #[.val (.long q0), .second, .val (.int q1), .val (.int q2), .val (.ref b1), .val (.int at1), .val (.int lim), .unset, .unset, .unset, .unset, .unset, .unset, .unset, .unset, .unset, .unset, .unset, .unset, .unset, .unset, .unset, .unset, .unset, .unset, .unset, .unset, .unset] [(.long ((q0.toUInt64 >>> ((56 : Int32) &&& 0x3f).toInt64.toUInt64).toInt64)), (.int (at1 + (7 : Int32))), (.ref b1)])) _
      refine XS.l2i X8.here hx rfl (hb hby at_121) rfl ?_
      show Steps p.tables e below (T8.setTop (mkF m 122 #[.val (.long q0), .second, .val (.int q1), .val (.int q2), .val (.ref b1), .val (.int at1), .val (.int lim), .unset, .unset, .unset, .unset, .unset, .unset, .unset, .unset, .unset, .unset, .unset, .unset, .unset, .unset, .unset, .unset, .unset, .unset, .unset, .unset, .unset] [(.int (((q0.toUInt64 >>> ((56 : Int32) &&& 0x3f).toInt64.toUInt64).toInt64).toInt32)), (.int (at1 + (7 : Int32))), (.ref b1)])) _
      refine XS.i2b X8.here hx rfl (hb hby at_122) rfl ?_
      show Steps p.tables e below (T8.setTop (mkF m 123 #[.val (.long q0), .second, .val (.int q1), .val (.int q2), .val (.ref b1), .val (.int at1), .val (.int lim), .unset, .unset, .unset, .unset, .unset, .unset, .unset, .unset, .unset, .unset, .unset, .unset, .unset, .unset, .unset, .unset, .unset, .unset, .unset, .unset, .unset] [(.int ((((q0.toUInt64 >>> ((56 : Int32) &&& 0x3f).toInt64.toUInt64).toInt64).toInt32).toInt8.toInt32)), (.int (at1 + (7 : Int32))), (.ref b1)])) _
      refine st9 _ ?_
      show Steps p.tables e below (T9.setTop (mkF m 124 #[.val (.long q0), .second, .val (.int q1), .val (.int q2), .val (.ref b1), .val (.int at1), .val (.int lim), .unset, .unset, .unset, .unset, .unset, .unset, .unset, .unset, .unset, .unset, .unset, .unset, .unset, .unset, .unset, .unset, .unset, .unset, .unset, .unset, .unset] [])) _
      refine XS.aload X9.here hx rfl (hb hby at_124) rfl rfl ?_
      show Steps p.tables e below (T9.setTop (mkF m 126 #[.val (.long q0), .second, .val (.int q1), .val (.int q2), .val (.ref b1), .val (.int at1), .val (.int lim), .unset, .unset, .unset, .unset, .unset, .unset, .unset, .unset, .unset, .unset, .unset, .unset, .unset, .unset, .unset, .unset, .unset, .unset, .unset, .unset, .unset] [(.ref b1)])) _
      refine XS.iload X9.here hx rfl (hb hby at_126) rfl ?_
      show Steps p.tables e below (T9.setTop (mkF m 128 #[.val (.long q0), .second, .val (.int q1), .val (.int q2), .val (.ref b1), .val (.int at1), .val (.int lim), .unset, .unset, .unset, .unset, .unset, .unset, .unset, .unset, .unset, .unset, .unset, .unset, .unset, .unset, .unset, .unset, .unset, .unset, .unset, .unset, .unset] [(.int at1), (.ref b1)])) _
      refine XS.iload X9.here hx rfl (hb hby at_128) rfl ?_
      show Steps p.tables e below (T9.setTop (mkF m 130 #[.val (.long q0), .second, .val (.int q1), .val (.int q2), .val (.ref b1), .val (.int at1), .val (.int lim), .unset, .unset, .unset, .unset, .unset, .unset, .unset, .unset, .unset, .unset, .unset, .unset, .unset, .unset, .unset, .unset, .unset, .unset, .unset, .unset, .unset] [(.int lim), (.int at1), (.ref b1)])) _
      refine st11 _ ?_
      show Steps p.tables e below (T11.setTop (mkF m 133 #[.val (.long q0), .second, .val (.int q1), .val (.int q2), .val (.ref b1), .val (.int at1), .val (.int lim), .unset, .unset, .unset, .unset, .unset, .unset, .unset, .unset, .unset, .unset, .unset, .unset, .unset, .unset, .unset, .unset, .unset, .unset, .unset, .unset, .unset] [(.long (own_ph at1 lim (own_bb q0 0) (own_bb q0 1) (own_bb q0 2) (own_bb q0 3) (own_bb q0 4) (own_bb q0 5)))])) _
      refine XS.lstore X11.here hx rfl (hb hby at_133) rfl (l' := #[.val (.long q0), .second, .val (.int q1), .val (.int q2), .val (.ref b1), .val (.int at1), .val (.int lim), .val (.long (own_ph at1 lim (own_bb q0 0) (own_bb q0 1) (own_bb q0 2) (own_bb q0 3) (own_bb q0 4) (own_bb q0 5))), .second, .unset, .unset, .unset, .unset, .unset, .unset, .unset, .unset, .unset, .unset, .unset, .unset, .unset, .unset, .unset, .unset, .unset, .unset, .unset]) rfl ?_
      show Steps p.tables e below (T11.setTop (mkF m 135 #[.val (.long q0), .second, .val (.int q1), .val (.int q2), .val (.ref b1), .val (.int at1), .val (.int lim), .val (.long (own_ph at1 lim (own_bb q0 0) (own_bb q0 1) (own_bb q0 2) (own_bb q0 3) (own_bb q0 4) (own_bb q0 5))), .second, .unset, .unset, .unset, .unset, .unset, .unset, .unset, .unset, .unset, .unset, .unset, .unset, .unset, .unset, .unset, .unset, .unset, .unset, .unset] [])) _
      rw [← hrr]
      show Steps p.tables e below (T11.setTop (mkF m 135 #[.val (.long q0), .second, .val (.int q1), .val (.int q2), .val (.ref b1), .val (.int at1), .val (.int lim), .val (.long rr), .second, .unset, .unset, .unset, .unset, .unset, .unset, .unset, .unset, .unset, .unset, .unset, .unset, .unset, .unset, .unset, .unset, .unset, .unset, .unset] [])) _
      refine XS.lloadN X11.here hx rfl (hb hby at_135) rfl ?_
      show Steps p.tables e below (T11.setTop (mkF m 136 #[.val (.long q0), .second, .val (.int q1), .val (.int q2), .val (.ref b1), .val (.int at1), .val (.int lim), .val (.long rr), .second, .unset, .unset, .unset, .unset, .unset, .unset, .unset, .unset, .unset, .unset, .unset, .unset, .unset, .unset, .unset, .unset, .unset, .unset, .unset] [(.long q0)])) _
      refine X11.ldc2Long hx hown (mvT hZ (hw _ (List.mem_of_getElem? (i := 7) rfl))) (g := (mkF m 136 #[.val (.long q0), .second, .val (.int q1), .val (.int q2), .val (.ref b1), .val (.int at1), .val (.int lim), .val (.long rr), .second, .unset, .unset, .unset, .unset, .unset, .unset, .unset, .unset, .unset, .unset, .unset, .unset, .unset, .unset, .unset, .unset, .unset, .unset, .unset] [(.long q0)])) rfl (hb hby at_136) _ ?_
      show Steps p.tables e below (T11.setTop (mkF m 139 #[.val (.long q0), .second, .val (.int q1), .val (.int q2), .val (.ref b1), .val (.int at1), .val (.int lim), .val (.long rr), .second, .unset, .unset, .unset, .unset, .unset, .unset, .unset, .unset, .unset, .unset, .unset, .unset, .unset, .unset, .unset, .unset, .unset, .unset, .unset] [(.long (255 : Int64)), (.long q0)])) _
      refine XS.land X11.here hx rfl (hb hby at_139) rfl ?_
      show Steps p.tables e below (T11.setTop (mkF m 140 #[.val (.long q0), .second, .val (.int q1), .val (.int q2), .val (.ref b1), .val (.int at1), .val (.int lim), .val (.long rr), .second, .unset, .unset, .unset, .unset, .unset, .unset, .unset, .unset, .unset, .unset, .unset, .unset, .unset, .unset, .unset, .unset, .unset, .unset, .unset] [(.long (q0 &&& (255 : Int64)))])) _
      refine XS.l2i X11.here hx rfl (hb hby at_140) rfl ?_
      show Steps p.tables e below (T11.setTop (mkF m 141 #[.val (.long q0), .second, .val (.int q1), .val (.int q2), .val (.ref b1), .val (.int at1), .val (.int lim), .val (.long rr), .second, .unset, .unset, .unset, .unset, .unset, .unset, .unset, .unset, .unset, .unset, .unset, .unset, .unset, .unset, .unset, .unset, .unset, .unset, .unset] [(.int ((q0 &&& (255 : Int64)).toInt32))])) _
      refine XS.istore X11.here hx rfl (hb hby at_141) rfl (l' := #[.val (.long q0), .second, .val (.int q1), .val (.int q2), .val (.ref b1), .val (.int at1), .val (.int lim), .val (.long rr), .second, .val (.int ((q0 &&& (255 : Int64)).toInt32)), .unset, .unset, .unset, .unset, .unset, .unset, .unset, .unset, .unset, .unset, .unset, .unset, .unset, .unset, .unset, .unset, .unset, .unset]) rfl ?_
      show Steps p.tables e below (T11.setTop (mkF m 143 #[.val (.long q0), .second, .val (.int q1), .val (.int q2), .val (.ref b1), .val (.int at1), .val (.int lim), .val (.long rr), .second, .val (.int ((q0 &&& (255 : Int64)).toInt32)), .unset, .unset, .unset, .unset, .unset, .unset, .unset, .unset, .unset, .unset, .unset, .unset, .unset, .unset, .unset, .unset, .unset, .unset] [])) _
      rw [← hidd]
      show Steps p.tables e below (T11.setTop (mkF m 143 #[.val (.long q0), .second, .val (.int q1), .val (.int q2), .val (.ref b1), .val (.int at1), .val (.int lim), .val (.long rr), .second, .val (.int idd), .unset, .unset, .unset, .unset, .unset, .unset, .unset, .unset, .unset, .unset, .unset, .unset, .unset, .unset, .unset, .unset, .unset, .unset] [])) _
      refine XS.lloadN X11.here hx rfl (hb hby at_143) rfl ?_
      show Steps p.tables e below (T11.setTop (mkF m 144 #[.val (.long q0), .second, .val (.int q1), .val (.int q2), .val (.ref b1), .val (.int at1), .val (.int lim), .val (.long rr), .second, .val (.int idd), .unset, .unset, .unset, .unset, .unset, .unset, .unset, .unset, .unset, .unset, .unset, .unset, .unset, .unset, .unset, .unset, .unset, .unset] [(.long q0)])) _
      refine XS.bipush X11.here hx rfl (hb hby at_144) ?_
      show Steps p.tables e below (T11.setTop (mkF m 146 #[.val (.long q0), .second, .val (.int q1), .val (.int q2), .val (.ref b1), .val (.int at1), .val (.int lim), .val (.long rr), .second, .val (.int idd), .unset, .unset, .unset, .unset, .unset, .unset, .unset, .unset, .unset, .unset, .unset, .unset, .unset, .unset, .unset, .unset, .unset, .unset] [(.int (8 : Int32)), (.long q0)])) _
      refine XS.lushr X11.here hx rfl (hb hby at_146) rfl ?_
      show Steps p.tables e below (T11.setTop (mkF m 147 #[.val (.long q0), .second, .val (.int q1), .val (.int q2), .val (.ref b1), .val (.int at1), .val (.int lim), .val (.long rr), .second, .val (.int idd), .unset, .unset, .unset, .unset, .unset, .unset, .unset, .unset, .unset, .unset, .unset, .unset, .unset, .unset, .unset, .unset, .unset, .unset] [(.long ((q0.toUInt64 >>> ((8 : Int32) &&& 0x3f).toInt64.toUInt64).toInt64))])) _
      refine X11.ldc2Long hx hown (mvT hZ (hw _ (List.mem_of_getElem? (i := 7) rfl))) (g := (mkF m 147 #[.val (.long q0), .second, .val (.int q1), .val (.int q2), .val (.ref b1), .val (.int at1), .val (.int lim), .val (.long rr), .second, .val (.int idd), .unset, .unset, .unset, .unset, .unset, .unset, .unset, .unset, .unset, .unset, .unset, .unset, .unset, .unset, .unset, .unset, .unset, .unset] [(.long ((q0.toUInt64 >>> ((8 : Int32) &&& 0x3f).toInt64.toUInt64).toInt64))])) rfl (hb hby at_147) _ ?_
      show Steps p.tables e below (T11.setTop (mkF m 150 #[.val (.long q0), .second, .val (.int q1), .val (.int q2), .val (.ref b1), .val (.int at1), .val (.int lim), .val (.long rr), .second, .val (.int idd), .unset, .unset, .unset, .unset, .unset, .unset, .unset, .unset, .unset, .unset, .unset, .unset, .unset, .unset, .unset, .unset, .unset, .unset] [(.long (255 : Int64)), (.long ((q0.toUInt64 >>> ((8 : Int32) &&& 0x3f).toInt64.toUInt64).toInt64))])) _
      refine XS.land X11.here hx rfl (hb hby at_150) rfl ?_
      show Steps p.tables e below (T11.setTop (mkF m 151 #[.val (.long q0), .second, .val (.int q1), .val (.int q2), .val (.ref b1), .val (.int at1), .val (.int lim), .val (.long rr), .second, .val (.int idd), .unset, .unset, .unset, .unset, .unset, .unset, .unset, .unset, .unset, .unset, .unset, .unset, .unset, .unset, .unset, .unset, .unset, .unset] [(.long (((q0.toUInt64 >>> ((8 : Int32) &&& 0x3f).toInt64.toUInt64).toInt64) &&& (255 : Int64)))])) _
      refine XS.l2i X11.here hx rfl (hb hby at_151) rfl ?_
      show Steps p.tables e below (T11.setTop (mkF m 152 #[.val (.long q0), .second, .val (.int q1), .val (.int q2), .val (.ref b1), .val (.int at1), .val (.int lim), .val (.long rr), .second, .val (.int idd), .unset, .unset, .unset, .unset, .unset, .unset, .unset, .unset, .unset, .unset, .unset, .unset, .unset, .unset, .unset, .unset, .unset, .unset] [(.int ((((q0.toUInt64 >>> ((8 : Int32) &&& 0x3f).toInt64.toUInt64).toInt64) &&& (255 : Int64)).toInt32))])) _
      refine XS.istore X11.here hx rfl (hb hby at_152) rfl (l' := #[.val (.long q0), .second, .val (.int q1), .val (.int q2), .val (.ref b1), .val (.int at1), .val (.int lim), .val (.long rr), .second, .val (.int idd), .val (.int ((((q0.toUInt64 >>> ((8 : Int32) &&& 0x3f).toInt64.toUInt64).toInt64) &&& (255 : Int64)).toInt32)), .unset, .unset, .unset, .unset, .unset, .unset, .unset, .unset, .unset, .unset, .unset, .unset, .unset, .unset, .unset, .unset, .unset]) rfl ?_
      show Steps p.tables e below (T11.setTop (mkF m 154 #[.val (.long q0), .second, .val (.int q1), .val (.int q2), .val (.ref b1), .val (.int at1), .val (.int lim), .val (.long rr), .second, .val (.int idd), .val (.int ((((q0.toUInt64 >>> ((8 : Int32) &&& 0x3f).toInt64.toUInt64).toInt64) &&& (255 : Int64)).toInt32)), .unset, .unset, .unset, .unset, .unset, .unset, .unset, .unset, .unset, .unset, .unset, .unset, .unset, .unset, .unset, .unset, .unset] [])) _
      rw [← hfi]
      show Steps p.tables e below (T11.setTop (mkF m 154 #[.val (.long q0), .second, .val (.int q1), .val (.int q2), .val (.ref b1), .val (.int at1), .val (.int lim), .val (.long rr), .second, .val (.int idd), .val (.int fi), .unset, .unset, .unset, .unset, .unset, .unset, .unset, .unset, .unset, .unset, .unset, .unset, .unset, .unset, .unset, .unset, .unset] [])) _
      refine XS.lloadN X11.here hx rfl (hb hby at_154) rfl ?_
      show Steps p.tables e below (T11.setTop (mkF m 155 #[.val (.long q0), .second, .val (.int q1), .val (.int q2), .val (.ref b1), .val (.int at1), .val (.int lim), .val (.long rr), .second, .val (.int idd), .val (.int fi), .unset, .unset, .unset, .unset, .unset, .unset, .unset, .unset, .unset, .unset, .unset, .unset, .unset, .unset, .unset, .unset, .unset] [(.long q0)])) _
      refine XS.bipush X11.here hx rfl (hb hby at_155) ?_
      show Steps p.tables e below (T11.setTop (mkF m 157 #[.val (.long q0), .second, .val (.int q1), .val (.int q2), .val (.ref b1), .val (.int at1), .val (.int lim), .val (.long rr), .second, .val (.int idd), .val (.int fi), .unset, .unset, .unset, .unset, .unset, .unset, .unset, .unset, .unset, .unset, .unset, .unset, .unset, .unset, .unset, .unset, .unset] [(.int (16 : Int32)), (.long q0)])) _
      refine XS.lushr X11.here hx rfl (hb hby at_157) rfl ?_
      show Steps p.tables e below (T11.setTop (mkF m 158 #[.val (.long q0), .second, .val (.int q1), .val (.int q2), .val (.ref b1), .val (.int at1), .val (.int lim), .val (.long rr), .second, .val (.int idd), .val (.int fi), .unset, .unset, .unset, .unset, .unset, .unset, .unset, .unset, .unset, .unset, .unset, .unset, .unset, .unset, .unset, .unset, .unset] [(.long ((q0.toUInt64 >>> ((16 : Int32) &&& 0x3f).toInt64.toUInt64).toInt64))])) _
      refine X11.ldc2Long hx hown (mvT hZ (hw _ (List.mem_of_getElem? (i := 7) rfl))) (g := (mkF m 158 #[.val (.long q0), .second, .val (.int q1), .val (.int q2), .val (.ref b1), .val (.int at1), .val (.int lim), .val (.long rr), .second, .val (.int idd), .val (.int fi), .unset, .unset, .unset, .unset, .unset, .unset, .unset, .unset, .unset, .unset, .unset, .unset, .unset, .unset, .unset, .unset, .unset] [(.long ((q0.toUInt64 >>> ((16 : Int32) &&& 0x3f).toInt64.toUInt64).toInt64))])) rfl (hb hby at_158) _ ?_
      show Steps p.tables e below (T11.setTop (mkF m 161 #[.val (.long q0), .second, .val (.int q1), .val (.int q2), .val (.ref b1), .val (.int at1), .val (.int lim), .val (.long rr), .second, .val (.int idd), .val (.int fi), .unset, .unset, .unset, .unset, .unset, .unset, .unset, .unset, .unset, .unset, .unset, .unset, .unset, .unset, .unset, .unset, .unset] [(.long (255 : Int64)), (.long ((q0.toUInt64 >>> ((16 : Int32) &&& 0x3f).toInt64.toUInt64).toInt64))])) _
      refine XS.land X11.here hx rfl (hb hby at_161) rfl ?_
      show Steps p.tables e below (T11.setTop (mkF m 162 #[.val (.long q0), .second, .val (.int q1), .val (.int q2), .val (.ref b1), .val (.int at1), .val (.int lim), .val (.long rr), .second, .val (.int idd), .val (.int fi), .unset, .unset, .unset, .unset, .unset, .unset, .unset, .unset, .unset, .unset, .unset, .unset, .unset, .unset, .unset, .unset, .unset] [(.long (((q0.toUInt64 >>> ((16 : Int32) &&& 0x3f).toInt64.toUInt64).toInt64) &&& (255 : Int64)))])) _
      refine XS.lstore X11.here hx rfl (hb hby at_162) rfl (l' := #[.val (.long q0), .second, .val (.int q1), .val (.int q2), .val (.ref b1), .val (.int at1), .val (.int lim), .val (.long rr), .second, .val (.int idd), .val (.int fi), .val (.long (((q0.toUInt64 >>> ((16 : Int32) &&& 0x3f).toInt64.toUInt64).toInt64) &&& (255 : Int64))), .second, .unset, .unset, .unset, .unset, .unset, .unset, .unset, .unset, .unset, .unset, .unset, .unset, .unset, .unset, .unset]) rfl ?_
      show Steps p.tables e below (T11.setTop (mkF m 164 #[.val (.long q0), .second, .val (.int q1), .val (.int q2), .val (.ref b1), .val (.int at1), .val (.int lim), .val (.long rr), .second, .val (.int idd), .val (.int fi), .val (.long (((q0.toUInt64 >>> ((16 : Int32) &&& 0x3f).toInt64.toUInt64).toInt64) &&& (255 : Int64))), .second, .unset, .unset, .unset, .unset, .unset, .unset, .unset, .unset, .unset, .unset, .unset, .unset, .unset, .unset, .unset] [])) _
      rw [← hb2]
      show Steps p.tables e below (T11.setTop (mkF m 164 #[.val (.long q0), .second, .val (.int q1), .val (.int q2), .val (.ref b1), .val (.int at1), .val (.int lim), .val (.long rr), .second, .val (.int idd), .val (.int fi), .val (.long b2), .second, .unset, .unset, .unset, .unset, .unset, .unset, .unset, .unset, .unset, .unset, .unset, .unset, .unset, .unset, .unset] [])) _
      refine XS.lloadN X11.here hx rfl (hb hby at_164) rfl ?_
      show Steps p.tables e below (T11.setTop (mkF m 165 #[.val (.long q0), .second, .val (.int q1), .val (.int q2), .val (.ref b1), .val (.int at1), .val (.int lim), .val (.long rr), .second, .val (.int idd), .val (.int fi), .val (.long b2), .second, .unset, .unset, .unset, .unset, .unset, .unset, .unset, .unset, .unset, .unset, .unset, .unset, .unset, .unset, .unset] [(.long q0)])) _
      refine XS.bipush X11.here hx rfl (hb hby at_165) ?_
      show Steps p.tables e below (T11.setTop (mkF m 167 #[.val (.long q0), .second, .val (.int q1), .val (.int q2), .val (.ref b1), .val (.int at1), .val (.int lim), .val (.long rr), .second, .val (.int idd), .val (.int fi), .val (.long b2), .second, .unset, .unset, .unset, .unset, .unset, .unset, .unset, .unset, .unset, .unset, .unset, .unset, .unset, .unset, .unset] [(.int (24 : Int32)), (.long q0)])) _
      refine XS.lushr X11.here hx rfl (hb hby at_167) rfl ?_
      show Steps p.tables e below (T11.setTop (mkF m 168 #[.val (.long q0), .second, .val (.int q1), .val (.int q2), .val (.ref b1), .val (.int at1), .val (.int lim), .val (.long rr), .second, .val (.int idd), .val (.int fi), .val (.long b2), .second, .unset, .unset, .unset, .unset, .unset, .unset, .unset, .unset, .unset, .unset, .unset, .unset, .unset, .unset, .unset] [(.long ((q0.toUInt64 >>> ((24 : Int32) &&& 0x3f).toInt64.toUInt64).toInt64))])) _
      refine X11.ldc2Long hx hown (mvT hZ (hw _ (List.mem_of_getElem? (i := 7) rfl))) (g := (mkF m 168 #[.val (.long q0), .second, .val (.int q1), .val (.int q2), .val (.ref b1), .val (.int at1), .val (.int lim), .val (.long rr), .second, .val (.int idd), .val (.int fi), .val (.long b2), .second, .unset, .unset, .unset, .unset, .unset, .unset, .unset, .unset, .unset, .unset, .unset, .unset, .unset, .unset, .unset] [(.long ((q0.toUInt64 >>> ((24 : Int32) &&& 0x3f).toInt64.toUInt64).toInt64))])) rfl (hb hby at_168) _ ?_
      show Steps p.tables e below (T11.setTop (mkF m 171 #[.val (.long q0), .second, .val (.int q1), .val (.int q2), .val (.ref b1), .val (.int at1), .val (.int lim), .val (.long rr), .second, .val (.int idd), .val (.int fi), .val (.long b2), .second, .unset, .unset, .unset, .unset, .unset, .unset, .unset, .unset, .unset, .unset, .unset, .unset, .unset, .unset, .unset] [(.long (255 : Int64)), (.long ((q0.toUInt64 >>> ((24 : Int32) &&& 0x3f).toInt64.toUInt64).toInt64))])) _
      refine XS.land X11.here hx rfl (hb hby at_171) rfl ?_
      show Steps p.tables e below (T11.setTop (mkF m 172 #[.val (.long q0), .second, .val (.int q1), .val (.int q2), .val (.ref b1), .val (.int at1), .val (.int lim), .val (.long rr), .second, .val (.int idd), .val (.int fi), .val (.long b2), .second, .unset, .unset, .unset, .unset, .unset, .unset, .unset, .unset, .unset, .unset, .unset, .unset, .unset, .unset, .unset] [(.long (((q0.toUInt64 >>> ((24 : Int32) &&& 0x3f).toInt64.toUInt64).toInt64) &&& (255 : Int64)))])) _
      refine XS.lstore X11.here hx rfl (hb hby at_172) rfl (l' := #[.val (.long q0), .second, .val (.int q1), .val (.int q2), .val (.ref b1), .val (.int at1), .val (.int lim), .val (.long rr), .second, .val (.int idd), .val (.int fi), .val (.long b2), .second, .val (.long (((q0.toUInt64 >>> ((24 : Int32) &&& 0x3f).toInt64.toUInt64).toInt64) &&& (255 : Int64))), .second, .unset, .unset, .unset, .unset, .unset, .unset, .unset, .unset, .unset, .unset, .unset, .unset, .unset]) rfl ?_
      show Steps p.tables e below (T11.setTop (mkF m 174 #[.val (.long q0), .second, .val (.int q1), .val (.int q2), .val (.ref b1), .val (.int at1), .val (.int lim), .val (.long rr), .second, .val (.int idd), .val (.int fi), .val (.long b2), .second, .val (.long (((q0.toUInt64 >>> ((24 : Int32) &&& 0x3f).toInt64.toUInt64).toInt64) &&& (255 : Int64))), .second, .unset, .unset, .unset, .unset, .unset, .unset, .unset, .unset, .unset, .unset, .unset, .unset, .unset] [])) _
      rw [← hb3]
      show Steps p.tables e below (T11.setTop (mkF m 174 #[.val (.long q0), .second, .val (.int q1), .val (.int q2), .val (.ref b1), .val (.int at1), .val (.int lim), .val (.long rr), .second, .val (.int idd), .val (.int fi), .val (.long b2), .second, .val (.long b3), .second, .unset, .unset, .unset, .unset, .unset, .unset, .unset, .unset, .unset, .unset, .unset, .unset, .unset] [])) _
      refine XS.lloadN X11.here hx rfl (hb hby at_174) rfl ?_
      show Steps p.tables e below (T11.setTop (mkF m 175 #[.val (.long q0), .second, .val (.int q1), .val (.int q2), .val (.ref b1), .val (.int at1), .val (.int lim), .val (.long rr), .second, .val (.int idd), .val (.int fi), .val (.long b2), .second, .val (.long b3), .second, .unset, .unset, .unset, .unset, .unset, .unset, .unset, .unset, .unset, .unset, .unset, .unset, .unset] [(.long q0)])) _
      refine XS.bipush X11.here hx rfl (hb hby at_175) ?_
      show Steps p.tables e below (T11.setTop (mkF m 177 #[.val (.long q0), .second, .val (.int q1), .val (.int q2), .val (.ref b1), .val (.int at1), .val (.int lim), .val (.long rr), .second, .val (.int idd), .val (.int fi), .val (.long b2), .second, .val (.long b3), .second, .unset, .unset, .unset, .unset, .unset, .unset, .unset, .unset, .unset, .unset, .unset, .unset, .unset] [(.int (32 : Int32)), (.long q0)])) _
      refine XS.lushr X11.here hx rfl (hb hby at_177) rfl ?_
      show Steps p.tables e below (T11.setTop (mkF m 178 #[.val (.long q0), .second, .val (.int q1), .val (.int q2), .val (.ref b1), .val (.int at1), .val (.int lim), .val (.long rr), .second, .val (.int idd), .val (.int fi), .val (.long b2), .second, .val (.long b3), .second, .unset, .unset, .unset, .unset, .unset, .unset, .unset, .unset, .unset, .unset, .unset, .unset, .unset] [(.long ((q0.toUInt64 >>> ((32 : Int32) &&& 0x3f).toInt64.toUInt64).toInt64))])) _
      refine X11.ldc2Long hx hown (mvT hZ (hw _ (List.mem_of_getElem? (i := 7) rfl))) (g := (mkF m 178 #[.val (.long q0), .second, .val (.int q1), .val (.int q2), .val (.ref b1), .val (.int at1), .val (.int lim), .val (.long rr), .second, .val (.int idd), .val (.int fi), .val (.long b2), .second, .val (.long b3), .second, .unset, .unset, .unset, .unset, .unset, .unset, .unset, .unset, .unset, .unset, .unset, .unset, .unset] [(.long ((q0.toUInt64 >>> ((32 : Int32) &&& 0x3f).toInt64.toUInt64).toInt64))])) rfl (hb hby at_178) _ ?_
      show Steps p.tables e below (T11.setTop (mkF m 181 #[.val (.long q0), .second, .val (.int q1), .val (.int q2), .val (.ref b1), .val (.int at1), .val (.int lim), .val (.long rr), .second, .val (.int idd), .val (.int fi), .val (.long b2), .second, .val (.long b3), .second, .unset, .unset, .unset, .unset, .unset, .unset, .unset, .unset, .unset, .unset, .unset, .unset, .unset] [(.long (255 : Int64)), (.long ((q0.toUInt64 >>> ((32 : Int32) &&& 0x3f).toInt64.toUInt64).toInt64))])) _
      refine XS.land X11.here hx rfl (hb hby at_181) rfl ?_
      show Steps p.tables e below (T11.setTop (mkF m 182 #[.val (.long q0), .second, .val (.int q1), .val (.int q2), .val (.ref b1), .val (.int at1), .val (.int lim), .val (.long rr), .second, .val (.int idd), .val (.int fi), .val (.long b2), .second, .val (.long b3), .second, .unset, .unset, .unset, .unset, .unset, .unset, .unset, .unset, .unset, .unset, .unset, .unset, .unset] [(.long (((q0.toUInt64 >>> ((32 : Int32) &&& 0x3f).toInt64.toUInt64).toInt64) &&& (255 : Int64)))])) _
      refine XS.lstore X11.here hx rfl (hb hby at_182) rfl (l' := #[.val (.long q0), .second, .val (.int q1), .val (.int q2), .val (.ref b1), .val (.int at1), .val (.int lim), .val (.long rr), .second, .val (.int idd), .val (.int fi), .val (.long b2), .second, .val (.long b3), .second, .val (.long (((q0.toUInt64 >>> ((32 : Int32) &&& 0x3f).toInt64.toUInt64).toInt64) &&& (255 : Int64))), .second, .unset, .unset, .unset, .unset, .unset, .unset, .unset, .unset, .unset, .unset, .unset]) rfl ?_
      show Steps p.tables e below (T11.setTop (mkF m 184 #[.val (.long q0), .second, .val (.int q1), .val (.int q2), .val (.ref b1), .val (.int at1), .val (.int lim), .val (.long rr), .second, .val (.int idd), .val (.int fi), .val (.long b2), .second, .val (.long b3), .second, .val (.long (((q0.toUInt64 >>> ((32 : Int32) &&& 0x3f).toInt64.toUInt64).toInt64) &&& (255 : Int64))), .second, .unset, .unset, .unset, .unset, .unset, .unset, .unset, .unset, .unset, .unset, .unset] [])) _
      rw [← hb4]
      show Steps p.tables e below (T11.setTop (mkF m 184 #[.val (.long q0), .second, .val (.int q1), .val (.int q2), .val (.ref b1), .val (.int at1), .val (.int lim), .val (.long rr), .second, .val (.int idd), .val (.int fi), .val (.long b2), .second, .val (.long b3), .second, .val (.long b4), .second, .unset, .unset, .unset, .unset, .unset, .unset, .unset, .unset, .unset, .unset, .unset] [])) _
      refine XS.lloadN X11.here hx rfl (hb hby at_184) rfl ?_
      show Steps p.tables e below (T11.setTop (mkF m 185 #[.val (.long q0), .second, .val (.int q1), .val (.int q2), .val (.ref b1), .val (.int at1), .val (.int lim), .val (.long rr), .second, .val (.int idd), .val (.int fi), .val (.long b2), .second, .val (.long b3), .second, .val (.long b4), .second, .unset, .unset, .unset, .unset, .unset, .unset, .unset, .unset, .unset, .unset, .unset] [(.long q0)])) _
      refine XS.bipush X11.here hx rfl (hb hby at_185) ?_
      show Steps p.tables e below (T11.setTop (mkF m 187 #[.val (.long q0), .second, .val (.int q1), .val (.int q2), .val (.ref b1), .val (.int at1), .val (.int lim), .val (.long rr), .second, .val (.int idd), .val (.int fi), .val (.long b2), .second, .val (.long b3), .second, .val (.long b4), .second, .unset, .unset, .unset, .unset, .unset, .unset, .unset, .unset, .unset, .unset, .unset] [(.int (40 : Int32)), (.long q0)])) _
      refine XS.lushr X11.here hx rfl (hb hby at_187) rfl ?_
      show Steps p.tables e below (T11.setTop (mkF m 188 #[.val (.long q0), .second, .val (.int q1), .val (.int q2), .val (.ref b1), .val (.int at1), .val (.int lim), .val (.long rr), .second, .val (.int idd), .val (.int fi), .val (.long b2), .second, .val (.long b3), .second, .val (.long b4), .second, .unset, .unset, .unset, .unset, .unset, .unset, .unset, .unset, .unset, .unset, .unset] [(.long ((q0.toUInt64 >>> ((40 : Int32) &&& 0x3f).toInt64.toUInt64).toInt64))])) _
      refine X11.ldc2Long hx hown (mvT hZ (hw _ (List.mem_of_getElem? (i := 7) rfl))) (g := (mkF m 188 #[.val (.long q0), .second, .val (.int q1), .val (.int q2), .val (.ref b1), .val (.int at1), .val (.int lim), .val (.long rr), .second, .val (.int idd), .val (.int fi), .val (.long b2), .second, .val (.long b3), .second, .val (.long b4), .second, .unset, .unset, .unset, .unset, .unset, .unset, .unset, .unset, .unset, .unset, .unset] [(.long ((q0.toUInt64 >>> ((40 : Int32) &&& 0x3f).toInt64.toUInt64).toInt64))])) rfl (hb hby at_188) _ ?_
      show Steps p.tables e below (T11.setTop (mkF m 191 #[.val (.long q0), .second, .val (.int q1), .val (.int q2), .val (.ref b1), .val (.int at1), .val (.int lim), .val (.long rr), .second, .val (.int idd), .val (.int fi), .val (.long b2), .second, .val (.long b3), .second, .val (.long b4), .second, .unset, .unset, .unset, .unset, .unset, .unset, .unset, .unset, .unset, .unset, .unset] [(.long (255 : Int64)), (.long ((q0.toUInt64 >>> ((40 : Int32) &&& 0x3f).toInt64.toUInt64).toInt64))])) _
      refine XS.land X11.here hx rfl (hb hby at_191) rfl ?_
      show Steps p.tables e below (T11.setTop (mkF m 192 #[.val (.long q0), .second, .val (.int q1), .val (.int q2), .val (.ref b1), .val (.int at1), .val (.int lim), .val (.long rr), .second, .val (.int idd), .val (.int fi), .val (.long b2), .second, .val (.long b3), .second, .val (.long b4), .second, .unset, .unset, .unset, .unset, .unset, .unset, .unset, .unset, .unset, .unset, .unset] [(.long (((q0.toUInt64 >>> ((40 : Int32) &&& 0x3f).toInt64.toUInt64).toInt64) &&& (255 : Int64)))])) _
      refine XS.lstore X11.here hx rfl (hb hby at_192) rfl (l' := #[.val (.long q0), .second, .val (.int q1), .val (.int q2), .val (.ref b1), .val (.int at1), .val (.int lim), .val (.long rr), .second, .val (.int idd), .val (.int fi), .val (.long b2), .second, .val (.long b3), .second, .val (.long b4), .second, .val (.long (((q0.toUInt64 >>> ((40 : Int32) &&& 0x3f).toInt64.toUInt64).toInt64) &&& (255 : Int64))), .second, .unset, .unset, .unset, .unset, .unset, .unset, .unset, .unset, .unset]) rfl ?_
      show Steps p.tables e below (T11.setTop (mkF m 194 #[.val (.long q0), .second, .val (.int q1), .val (.int q2), .val (.ref b1), .val (.int at1), .val (.int lim), .val (.long rr), .second, .val (.int idd), .val (.int fi), .val (.long b2), .second, .val (.long b3), .second, .val (.long b4), .second, .val (.long (((q0.toUInt64 >>> ((40 : Int32) &&& 0x3f).toInt64.toUInt64).toInt64) &&& (255 : Int64))), .second, .unset, .unset, .unset, .unset, .unset, .unset, .unset, .unset, .unset] [])) _
      rw [← hb5]
      show Steps p.tables e below (T11.setTop (mkF m 194 #[.val (.long q0), .second, .val (.int q1), .val (.int q2), .val (.ref b1), .val (.int at1), .val (.int lim), .val (.long rr), .second, .val (.int idd), .val (.int fi), .val (.long b2), .second, .val (.long b3), .second, .val (.long b4), .second, .val (.long b5), .second, .unset, .unset, .unset, .unset, .unset, .unset, .unset, .unset, .unset] [])) _
      refine XS.iload X11.here hx rfl (hb hby at_194) rfl ?_
      show Steps p.tables e below (T11.setTop (mkF m 196 #[.val (.long q0), .second, .val (.int q1), .val (.int q2), .val (.ref b1), .val (.int at1), .val (.int lim), .val (.long rr), .second, .val (.int idd), .val (.int fi), .val (.long b2), .second, .val (.long b3), .second, .val (.long b4), .second, .val (.long b5), .second, .unset, .unset, .unset, .unset, .unset, .unset, .unset, .unset, .unset] [(.int lim)])) _
      refine XS.i2l X11.here hx rfl (hb hby at_196) rfl ?_
      show Steps p.tables e below (T11.setTop (mkF m 197 #[.val (.long q0), .second, .val (.int q1), .val (.int q2), .val (.ref b1), .val (.int at1), .val (.int lim), .val (.long rr), .second, .val (.int idd), .val (.int fi), .val (.long b2), .second, .val (.long b3), .second, .val (.long b4), .second, .val (.long b5), .second, .unset, .unset, .unset, .unset, .unset, .unset, .unset, .unset, .unset] [(.long (lim.toInt64))])) _
      refine XS.iload X11.here hx rfl (hb hby at_197) rfl ?_
      show Steps p.tables e below (T11.setTop (mkF m 199 #[.val (.long q0), .second, .val (.int q1), .val (.int q2), .val (.ref b1), .val (.int at1), .val (.int lim), .val (.long rr), .second, .val (.int idd), .val (.int fi), .val (.long b2), .second, .val (.long b3), .second, .val (.long b4), .second, .val (.long b5), .second, .unset, .unset, .unset, .unset, .unset, .unset, .unset, .unset, .unset] [(.int at1), (.long (lim.toInt64))])) _
      refine XS.i2l X11.here hx rfl (hb hby at_199) rfl ?_
      show Steps p.tables e below (T11.setTop (mkF m 200 #[.val (.long q0), .second, .val (.int q1), .val (.int q2), .val (.ref b1), .val (.int at1), .val (.int lim), .val (.long rr), .second, .val (.int idd), .val (.int fi), .val (.long b2), .second, .val (.long b3), .second, .val (.long b4), .second, .val (.long b5), .second, .unset, .unset, .unset, .unset, .unset, .unset, .unset, .unset, .unset] [(.long (at1.toInt64)), (.long (lim.toInt64))])) _
      refine XS.lsub X11.here hx rfl (hb hby at_200) rfl ?_
      show Steps p.tables e below (T11.setTop (mkF m 201 #[.val (.long q0), .second, .val (.int q1), .val (.int q2), .val (.ref b1), .val (.int at1), .val (.int lim), .val (.long rr), .second, .val (.int idd), .val (.int fi), .val (.long b2), .second, .val (.long b3), .second, .val (.long b4), .second, .val (.long b5), .second, .unset, .unset, .unset, .unset, .unset, .unset, .unset, .unset, .unset] [(.long ((lim.toInt64) - (at1.toInt64)))])) _
      refine XS.lstore X11.here hx rfl (hb hby at_201) rfl (l' := #[.val (.long q0), .second, .val (.int q1), .val (.int q2), .val (.ref b1), .val (.int at1), .val (.int lim), .val (.long rr), .second, .val (.int idd), .val (.int fi), .val (.long b2), .second, .val (.long b3), .second, .val (.long b4), .second, .val (.long b5), .second, .val (.long ((lim.toInt64) - (at1.toInt64))), .second, .unset, .unset, .unset, .unset, .unset, .unset, .unset]) rfl ?_
      show Steps p.tables e below (T11.setTop (mkF m 203 #[.val (.long q0), .second, .val (.int q1), .val (.int q2), .val (.ref b1), .val (.int at1), .val (.int lim), .val (.long rr), .second, .val (.int idd), .val (.int fi), .val (.long b2), .second, .val (.long b3), .second, .val (.long b4), .second, .val (.long b5), .second, .val (.long ((lim.toInt64) - (at1.toInt64))), .second, .unset, .unset, .unset, .unset, .unset, .unset, .unset] [])) _
      rw [← hroom]
      show Steps p.tables e below (T11.setTop (mkF m 203 #[.val (.long q0), .second, .val (.int q1), .val (.int q2), .val (.ref b1), .val (.int at1), .val (.int lim), .val (.long rr), .second, .val (.int idd), .val (.int fi), .val (.long b2), .second, .val (.long b3), .second, .val (.long b4), .second, .val (.long b5), .second, .val (.long room), .second, .unset, .unset, .unset, .unset, .unset, .unset, .unset] [])) _
      refine XS.iconst X11.here hx rfl (hb hby at_203) ?_
      show Steps p.tables e below (T11.setTop (mkF m 204 #[.val (.long q0), .second, .val (.int q1), .val (.int q2), .val (.ref b1), .val (.int at1), .val (.int lim), .val (.long rr), .second, .val (.int idd), .val (.int fi), .val (.long b2), .second, .val (.long b3), .second, .val (.long b4), .second, .val (.long b5), .second, .val (.long room), .second, .unset, .unset, .unset, .unset, .unset, .unset, .unset] [(.int (0 : Int32))])) _
      refine XS.istore X11.here hx rfl (hb hby at_204) rfl (l' := #[.val (.long q0), .second, .val (.int q1), .val (.int q2), .val (.ref b1), .val (.int at1), .val (.int lim), .val (.long rr), .second, .val (.int idd), .val (.int fi), .val (.long b2), .second, .val (.long b3), .second, .val (.long b4), .second, .val (.long b5), .second, .val (.long room), .second, .val (.int (0 : Int32)), .unset, .unset, .unset, .unset, .unset, .unset]) rfl ?_
      show Steps p.tables e below (T11.setTop (mkF m 206 #[.val (.long q0), .second, .val (.int q1), .val (.int q2), .val (.ref b1), .val (.int at1), .val (.int lim), .val (.long rr), .second, .val (.int idd), .val (.int fi), .val (.long b2), .second, .val (.long b3), .second, .val (.long b4), .second, .val (.long b5), .second, .val (.long room), .second, .val (.int (0 : Int32)), .unset, .unset, .unset, .unset, .unset, .unset] [])) _
      refine sg_206  (.val (.long q0)) (.second) (.val (.int q1)) (.val (.int q2)) (.val (.ref b1)) (.val (.int at1)) (.val (.int lim)) (.val (.long rr)) (.second) (.val (.int idd)) (.val (.int fi)) (.val (.long b2)) (.second) (.val (.long b3)) (.second) (.val (.long b4)) (.second) (.val (.long b5)) (.second) (room) ((0 : Int32)) (.unset) (.unset) (.unset) (.unset) (.unset) (.unset) v0_206 hv0_206 X11 hx hZ hw hby hown ?_
      show Steps p.tables e below (T11.setTop (mkF m 218 #[.val (.long q0), .second, .val (.int q1), .val (.int q2), .val (.ref b1), .val (.int at1), .val (.int lim), .val (.long rr), .second, .val (.int idd), .val (.int fi), .val (.long b2), .second, .val (.long b3), .second, .val (.long b4), .second, .val (.long b5), .second, .val (.long room), .second, .val (.int v0_206), .unset, .unset, .unset, .unset, .unset, .unset] [])) _
      refine XS.iload X11.here hx rfl (hb hby at_218) rfl ?_
      show Steps p.tables e below (T11.setTop (mkF m 220 #[.val (.long q0), .second, .val (.int q1), .val (.int q2), .val (.ref b1), .val (.int at1), .val (.int lim), .val (.long rr), .second, .val (.int idd), .val (.int fi), .val (.long b2), .second, .val (.long b3), .second, .val (.long b4), .second, .val (.long b5), .second, .val (.long room), .second, .val (.int v0_206), .unset, .unset, .unset, .unset, .unset, .unset] [(.int idd)])) _
      refine XS.bipush X11.here hx rfl (hb hby at_220) ?_
      show Steps p.tables e below (T11.setTop (mkF m 222 #[.val (.long q0), .second, .val (.int q1), .val (.int q2), .val (.ref b1), .val (.int at1), .val (.int lim), .val (.long rr), .second, .val (.int idd), .val (.int fi), .val (.long b2), .second, .val (.long b3), .second, .val (.long b4), .second, .val (.long b5), .second, .val (.long room), .second, .val (.int v0_206), .unset, .unset, .unset, .unset, .unset, .unset] [(.int (31 : Int32)), (.int idd)])) _
      refine XS.iand X11.here hx rfl (hb hby at_222) rfl ?_
      show Steps p.tables e below (T11.setTop (mkF m 223 #[.val (.long q0), .second, .val (.int q1), .val (.int q2), .val (.ref b1), .val (.int at1), .val (.int lim), .val (.long rr), .second, .val (.int idd), .val (.int fi), .val (.long b2), .second, .val (.long b3), .second, .val (.long b4), .second, .val (.long b5), .second, .val (.long room), .second, .val (.int v0_206), .unset, .unset, .unset, .unset, .unset, .unset] [(.int (idd &&& (31 : Int32)))])) _
      refine XS.istore X11.here hx rfl (hb hby at_223) rfl (l' := #[.val (.long q0), .second, .val (.int q1), .val (.int q2), .val (.ref b1), .val (.int at1), .val (.int lim), .val (.long rr), .second, .val (.int idd), .val (.int fi), .val (.long b2), .second, .val (.long b3), .second, .val (.long b4), .second, .val (.long b5), .second, .val (.long room), .second, .val (.int v0_206), .val (.int (idd &&& (31 : Int32))), .unset, .unset, .unset, .unset, .unset]) rfl ?_
      show Steps p.tables e below (T11.setTop (mkF m 225 #[.val (.long q0), .second, .val (.int q1), .val (.int q2), .val (.ref b1), .val (.int at1), .val (.int lim), .val (.long rr), .second, .val (.int idd), .val (.int fi), .val (.long b2), .second, .val (.long b3), .second, .val (.long b4), .second, .val (.long b5), .second, .val (.long room), .second, .val (.int v0_206), .val (.int (idd &&& (31 : Int32))), .unset, .unset, .unset, .unset, .unset] [])) _
      rw [← htg]
      show Steps p.tables e below (T11.setTop (mkF m 225 #[.val (.long q0), .second, .val (.int q1), .val (.int q2), .val (.ref b1), .val (.int at1), .val (.int lim), .val (.long rr), .second, .val (.int idd), .val (.int fi), .val (.long b2), .second, .val (.long b3), .second, .val (.long b4), .second, .val (.long b5), .second, .val (.long room), .second, .val (.int v0_206), .val (.int tg), .unset, .unset, .unset, .unset, .unset] [])) _
      refine XS.iload X11.here hx rfl (hb hby at_225) rfl ?_
      show Steps p.tables e below (T11.setTop (mkF m 227 #[.val (.long q0), .second, .val (.int q1), .val (.int q2), .val (.ref b1), .val (.int at1), .val (.int lim), .val (.long rr), .second, .val (.int idd), .val (.int fi), .val (.long b2), .second, .val (.long b3), .second, .val (.long b4), .second, .val (.long b5), .second, .val (.long room), .second, .val (.int v0_206), .val (.int tg), .unset, .unset, .unset, .unset, .unset] [(.int idd)])) _
      refine XS.bipush X11.here hx rfl (hb hby at_227) ?_
      show Steps p.tables e below (T11.setTop (mkF m 229 #[.val (.long q0), .second, .val (.int q1), .val (.int q2), .val (.ref b1), .val (.int at1), .val (.int lim), .val (.long rr), .second, .val (.int idd), .val (.int fi), .val (.long b2), .second, .val (.long b3), .second, .val (.long b4), .second, .val (.long b5), .second, .val (.long room), .second, .val (.int v0_206), .val (.int tg), .unset, .unset, .unset, .unset, .unset] [(.int (6 : Int32)), (.int idd)])) _
      refine XS.iushr X11.here hx rfl (hb hby at_229) rfl ?_
      show Steps p.tables e below (T11.setTop (mkF m 230 #[.val (.long q0), .second, .val (.int q1), .val (.int q2), .val (.ref b1), .val (.int at1), .val (.int lim), .val (.long rr), .second, .val (.int idd), .val (.int fi), .val (.long b2), .second, .val (.long b3), .second, .val (.long b4), .second, .val (.long b5), .second, .val (.long room), .second, .val (.int v0_206), .val (.int tg), .unset, .unset, .unset, .unset, .unset] [(.int ((idd.toUInt32 >>> ((6 : Int32) &&& 31).toUInt32).toInt32))])) _
      refine XS.istore X11.here hx rfl (hb hby at_230) rfl (l' := #[.val (.long q0), .second, .val (.int q1), .val (.int q2), .val (.ref b1), .val (.int at1), .val (.int lim), .val (.long rr), .second, .val (.int idd), .val (.int fi), .val (.long b2), .second, .val (.long b3), .second, .val (.long b4), .second, .val (.long b5), .second, .val (.long room), .second, .val (.int v0_206), .val (.int tg), .val (.int ((idd.toUInt32 >>> ((6 : Int32) &&& 31).toUInt32).toInt32)), .unset, .unset, .unset, .unset]) rfl ?_
      show Steps p.tables e below (T11.setTop (mkF m 232 #[.val (.long q0), .second, .val (.int q1), .val (.int q2), .val (.ref b1), .val (.int at1), .val (.int lim), .val (.long rr), .second, .val (.int idd), .val (.int fi), .val (.long b2), .second, .val (.long b3), .second, .val (.long b4), .second, .val (.long b5), .second, .val (.long room), .second, .val (.int v0_206), .val (.int tg), .val (.int ((idd.toUInt32 >>> ((6 : Int32) &&& 31).toUInt32).toInt32)), .unset, .unset, .unset, .unset] [])) _
      rw [← htc]
      show Steps p.tables e below (T11.setTop (mkF m 232 #[.val (.long q0), .second, .val (.int q1), .val (.int q2), .val (.ref b1), .val (.int at1), .val (.int lim), .val (.long rr), .second, .val (.int idd), .val (.int fi), .val (.long b2), .second, .val (.long b3), .second, .val (.long b4), .second, .val (.long b5), .second, .val (.long room), .second, .val (.int v0_206), .val (.int tg), .val (.int tc), .unset, .unset, .unset, .unset] [])) _
      refine sg_232  (.val (.long q0)) (.second) (.val (.int q1)) (.val (.int q2)) (.val (.ref b1)) (.val (.int at1)) (.val (.int lim)) (.val (.long rr)) (.second) (.val (.int idd)) (.val (.int fi)) (.val (.long b2)) (.second) (.val (.long b3)) (.second) (.val (.long b4)) (.second) (.val (.long b5)) (.second) (.val (.long room)) (.second) (v0_206) (tg) (.val (.int tc)) (.unset) (.unset) (.unset) (.unset) v0_232 hv0_232 X11 hx hZ hw hby hown ?_
      show Steps p.tables e below (T11.setTop (mkF m 242 #[.val (.long q0), .second, .val (.int q1), .val (.int q2), .val (.ref b1), .val (.int at1), .val (.int lim), .val (.long rr), .second, .val (.int idd), .val (.int fi), .val (.long b2), .second, .val (.long b3), .second, .val (.long b4), .second, .val (.long b5), .second, .val (.long room), .second, .val (.int v0_232), .val (.int tg), .val (.int tc), .unset, .unset, .unset, .unset] [])) _
      refine sg_242  (.val (.long q0)) (.second) (.val (.int q1)) (.val (.int q2)) (.val (.ref b1)) (.val (.int at1)) (.val (.int lim)) (.val (.long rr)) (.second) (.val (.int idd)) (.val (.int fi)) (.val (.long b2)) (.second) (.val (.long b3)) (.second) (.val (.long b4)) (.second) (.val (.long b5)) (.second) (.val (.long room)) (.second) (v0_232) (tg) (tc) (.unset) (.unset) (.unset) (.unset) v0_242 hv0_242 X11 hx hZ hw hby hown ?_
      show Steps p.tables e below (T11.setTop (mkF m 255 #[.val (.long q0), .second, .val (.int q1), .val (.int q2), .val (.ref b1), .val (.int at1), .val (.int lim), .val (.long rr), .second, .val (.int idd), .val (.int fi), .val (.long b2), .second, .val (.long b3), .second, .val (.long b4), .second, .val (.long b5), .second, .val (.long room), .second, .val (.int v0_242), .val (.int tg), .val (.int tc), .unset, .unset, .unset, .unset] [])) _
      refine sg_255  (.val (.long q0)) (.second) (.val (.int q1)) (.val (.int q2)) (.val (.ref b1)) (.val (.int at1)) (.val (.int lim)) (.val (.long rr)) (.second) (.val (.int idd)) (fi) (b2) (b3) (b4) (b5) (room) (v0_242) (.val (.int tg)) (.val (.int tc)) v0_255 hv0_255 v1_255 hv1_255 v2_255 hv2_255 v3_255 hv3_255 X11 hx hZ hw hby hown ?_
      show Steps p.tables e below (T11.setTop (mkF m 412 #[.val (.long q0), .second, .val (.int q1), .val (.int q2), .val (.ref b1), .val (.int at1), .val (.int lim), .val (.long rr), .second, .val (.int idd), .val (.int fi), .val (.long b2), .second, .val (.long b3), .second, .val (.long b4), .second, .val (.long b5), .second, .val (.long room), .second, .val (.int v0_255), .val (.int tg), .val (.int tc), .val (.int v1_255), .val (.long v2_255), .second, v3_255] [])) _
      refine sg_412  (.val (.long q0)) (.second) (.val (.int q1)) (.val (.int q2)) (.val (.ref b1)) (.val (.int at1)) (.val (.int lim)) (.val (.long rr)) (.second) (.val (.int idd)) (.val (.int fi)) (.val (.long b2)) (.second) (.val (.long b3)) (.second) (.val (.long b4)) (.second) (.val (.long b5)) (.second) (room) (v0_255) (.val (.int tg)) (.val (.int tc)) (v1_255) (v2_255) (v3_255) v0_412 hv0_412 X11 hx hZ hw hby hown ?_
      show Steps p.tables e below (T11.setTop (mkF m 427 #[.val (.long q0), .second, .val (.int q1), .val (.int q2), .val (.ref b1), .val (.int at1), .val (.int lim), .val (.long rr), .second, .val (.int idd), .val (.int fi), .val (.long b2), .second, .val (.long b3), .second, .val (.long b4), .second, .val (.long b5), .second, .val (.long room), .second, .val (.int v0_412), .val (.int tg), .val (.int tc), .val (.int v1_255), .val (.long v2_255), .second, v3_255] [])) _
      refine XS.iload X11.here hx rfl (hb hby at_427) rfl ?_
      show Steps p.tables e below (T11.setTop (mkF m 429 #[.val (.long q0), .second, .val (.int q1), .val (.int q2), .val (.ref b1), .val (.int at1), .val (.int lim), .val (.long rr), .second, .val (.int idd), .val (.int fi), .val (.long b2), .second, .val (.long b3), .second, .val (.long b4), .second, .val (.long b5), .second, .val (.long room), .second, .val (.int v0_412), .val (.int tg), .val (.int tc), .val (.int v1_255), .val (.long v2_255), .second, v3_255] [(.int v0_412)])) _
      refine XS.ifNo X11.here hx rfl (hb hby at_429) rfl ((if0 _ _).trans (feq hc429).1) ?_
      show Steps p.tables e below (T11.setTop (mkF m 432 #[.val (.long q0), .second, .val (.int q1), .val (.int q2), .val (.ref b1), .val (.int at1), .val (.int lim), .val (.long rr), .second, .val (.int idd), .val (.int fi), .val (.long b2), .second, .val (.long b3), .second, .val (.long b4), .second, .val (.long b5), .second, .val (.long room), .second, .val (.int v0_412), .val (.int tg), .val (.int tc), .val (.int v1_255), .val (.long v2_255), .second, v3_255] [])) _
      refine XS.lload X11.here hx rfl (hb hby at_432) rfl ?_
      show Steps p.tables e below (T11.setTop (mkF m 434 #[.val (.long q0), .second, .val (.int q1), .val (.int q2), .val (.ref b1), .val (.int at1), .val (.int lim), .val (.long rr), .second, .val (.int idd), .val (.int fi), .val (.long b2), .second, .val (.long b3), .second, .val (.long b4), .second, .val (.long b5), .second, .val (.long room), .second, .val (.int v0_412), .val (.int tg), .val (.int tc), .val (.int v1_255), .val (.long v2_255), .second, v3_255] [(.long rr)])) _
      refine X11.ldc2Long hx hown (mvT hZ (hw _ (List.mem_of_getElem? (i := 9) rfl))) (g := (mkF m 434 #[.val (.long q0), .second, .val (.int q1), .val (.int q2), .val (.ref b1), .val (.int at1), .val (.int lim), .val (.long rr), .second, .val (.int idd), .val (.int fi), .val (.long b2), .second, .val (.long b3), .second, .val (.long b4), .second, .val (.long b5), .second, .val (.long room), .second, .val (.int v0_412), .val (.int tg), .val (.int tc), .val (.int v1_255), .val (.long v2_255), .second, v3_255] [(.long rr)])) rfl (hb hby at_434) _ ?_
      show Steps p.tables e below (T11.setTop (mkF m 437 #[.val (.long q0), .second, .val (.int q1), .val (.int q2), .val (.ref b1), .val (.int at1), .val (.int lim), .val (.long rr), .second, .val (.int idd), .val (.int fi), .val (.long b2), .second, .val (.long b3), .second, .val (.long b4), .second, .val (.long b5), .second, .val (.long room), .second, .val (.int v0_412), .val (.int tg), .val (.int tc), .val (.int v1_255), .val (.long v2_255), .second, v3_255] [(.long (-1 : Int64)), (.long rr)])) _
      refine XS.lcmp X11.here hx rfl (hb hby at_437) rfl ?_
      show Steps p.tables e below (T11.setTop (mkF m 438 #[.val (.long q0), .second, .val (.int q1), .val (.int q2), .val (.ref b1), .val (.int at1), .val (.int lim), .val (.long rr), .second, .val (.int idd), .val (.int fi), .val (.long b2), .second, .val (.long b3), .second, .val (.long b4), .second, .val (.long b5), .second, .val (.long room), .second, .val (.int v0_412), .val (.int tg), .val (.int tc), .val (.int v1_255), .val (.long v2_255), .second, v3_255] [(.int (lcmpW rr (-1 : Int64)))])) _
      refine XS.ifNo X11.here hx rfl (hb hby at_438) rfl ((if0 _ _).trans (teq ((own_law hat1 hlim hrr hidd hfi hb2 hb3 hb4 hb5 hroom hv0_206 htg htc hv0_232 hv0_242 hv0_255 hv1_255 hv2_255 hv0_412).1 hc429)).2) ?_
      show Steps p.tables e below (T11.setTop (mkF m 441 #[.val (.long q0), .second, .val (.int q1), .val (.int q2), .val (.ref b1), .val (.int at1), .val (.int lim), .val (.long rr), .second, .val (.int idd), .val (.int fi), .val (.long b2), .second, .val (.long b3), .second, .val (.long b4), .second, .val (.long b5), .second, .val (.long room), .second, .val (.int v0_412), .val (.int tg), .val (.int tc), .val (.int v1_255), .val (.long v2_255), .second, v3_255] [])) _
      refine XS.iconst X11.here hx rfl (hb hby at_441) ?_
      show Steps p.tables e below (T11.setTop (mkF m 442 #[.val (.long q0), .second, .val (.int q1), .val (.int q2), .val (.ref b1), .val (.int at1), .val (.int lim), .val (.long rr), .second, .val (.int idd), .val (.int fi), .val (.long b2), .second, .val (.long b3), .second, .val (.long b4), .second, .val (.long b5), .second, .val (.long room), .second, .val (.int v0_412), .val (.int tg), .val (.int tc), .val (.int v1_255), .val (.long v2_255), .second, v3_255] [(.int (1 : Int32))])) _
      refine XS.goto X11.here hx rfl (pc0 := 442) (pc' := 446) rfl (hb hby at_442) (by decide) (by decide) ?_
      show Steps p.tables e below (T11.setTop (mkF m 446 #[.val (.long q0), .second, .val (.int q1), .val (.int q2), .val (.ref b1), .val (.int at1), .val (.int lim), .val (.long rr), .second, .val (.int idd), .val (.int fi), .val (.long b2), .second, .val (.long b3), .second, .val (.long b4), .second, .val (.long b5), .second, .val (.long room), .second, .val (.int v0_412), .val (.int tg), .val (.int tc), .val (.int v1_255), .val (.long v2_255), .second, v3_255] [(.int (1 : Int32))])) _
      exact retN X11 hx (t := .boolean) Bd.returns (by simp) (hb hby at_446) hr
    · show Q0 h0 n0 _ T11.heap _
      rw [e11]
      exact ⟨rfl, N11⟩
set_option maxRecDepth 65536 in
set_option maxHeartbeats 40000000 in
theorem comes_1 {Post : Tables → Env → Array Value → State → Outcome → State → Prop} (hpost : ∀ tb e args s v u, (limb_1_1.after args s (.returned v) u = true ∧ limb_1_2.after args s (.returned v) u = true ∧ True) → FrameEnd s (.returned v) u (Jvm.fieldLocs frame_1_writes args s ++ Jvm.arrayLocs frame_1_arrays args s ++ Jvm.staticLocs frame_1_statics s) 16 640 → Post tb e args s (.returned v) u) :
    ArmFor flags0 classFile x code maxLocals ret World_1 tables_1 room_1 Calls_1 rest_1 Pre_1 Post := by
  intro l hfl _ _ p e ha hc hk s m args below hf hA hF happ hP
  obtain ⟨hcalls, hrest, hpre⟩ := hP
  obtain ⟨-, -, -, hnamed, -, -, -, hat⟩ := (Spec.applies_iff hf).mp happ
  obtain ⟨hg, hn⟩ := and_e (Cond.before_iff.mp (show (Jvm.Cond.and given_1 narrow_1).before args s = true from hpre))
  obtain ⟨g1, g2⟩ := and_e hg
  obtain ⟨g3, g4⟩ := and_e g2
  obtain ⟨g5, g6⟩ := and_e g4
  obtain ⟨w0, w1, w2, rfl⟩ : ∃ w0 w1 w2 : Value, args = #[w0, w1, w2] := by
    have hs : args.size = 3 := by simpa [Cond.value, given_1] using g1
    obtain ⟨L⟩ := args
    match L, hs with
    | [w0, w1, w2], _ => exact ⟨w0, w1, w2, rfl⟩
  have hw := fun d (hd : d ∈ tables_1) => atoms_spec (ws := Jvm.Cond.code x code maxLocals ret :: tables_1) hat d (List.mem_cons_of_mem _ hd)
  obtain ⟨i0, ei0⟩ := isL_v g3
  obtain rfl : w0 = (.long i0) := Option.some.inj ei0
  obtain ⟨i1, ei1⟩ := is_v g5
  obtain rfl : w1 = (.int i1) := Option.some.inj ei1
  obtain ⟨i2, ei2⟩ := is_v g6
  obtain rfl : w2 = (.int i2) := Option.some.inj ei2
  obtain ⟨n, o, h1, h2, h3, _, L, rfl, ⟨rfl, N⟩, hq⟩ := rm0 l s _ hw tables_1 i0 i1 i2 s.heap s.heap.size (Nat.le_refl _) p e ha hc hk s m _ below hf ((Spec.applies_iff_loose hf).mp happ).1 ⟨rfl, State.Warmed39.refl s, rfl⟩ trivial
  refine ⟨n, _, h1, h2, h3, hpost _ _ _ _ _ _ ⟨Cond.after_iff.mpr rfl, Cond.after_iff.mpr (eq_i res_at (Term.int_eval (1)) rfl), trivial⟩ ⟨hq.1, hq.2.1, (hq.2.2.sift fun y hy => Or.inr (N y hy)).mono (by decide) (by decide)⟩⟩
theorem main_1_1 : Claimed_1_1 := comes_1 fun _ _ _ _ _ _ h hF => ⟨h.1, hF⟩
theorem main_1_2 : Claimed_1_2 := comes_1 fun _ _ _ _ _ _ h hF => ⟨h.2.1, hF⟩

end Jvm.Pilot.@@N@@
namespace Jvm.Pilot.@@N@@
open Jvm Jvm.ClassFile Sem Op Lib Jvm.Free Jvm.Stand Jvm.Pilot.@@N@@.Jvm.D
/-! MADE BY PROGRAM (witnessworld.py) out of the Statement's table words and the real class files: 9 classes; the members and pool entries that the words name. The judged class is class 1, her method 1. -/
namespace start1
open Jvm.ClassFile
def u (s : String) : CpInfo := .utf8 (stringToUtf16 s)
/-- a pool by its gaps: so many unusable entries, then the entry; so many at the end -/
def gap : Nat → List CpInfo → List CpInfo
  | 0, r => r
  | n + 1, r => .unusable :: gap n r
def poolList (es : List (Nat × CpInfo)) (last : Nat) : List CpInfo := es.foldr (fun e r => gap e.1 (e.2 :: r)) (gap last [])
def pool (es : List (Nat × CpInfo)) (last : Nat) : Array CpInfo := ⟨poolList es last⟩
def fileOf (pool : Array CpInfo) (this : Nat) (attrs : Array Attribute := #[]) (ms : Array MethodInfo := #[]) (fl : Nat := 33) (sup : Nat := 0) (ifs : Array Nat := #[]) (fds : Array FieldInfo := #[]) : ClassFile where
  minorVersion := 0
  majorVersion := 65
  constantPool := pool
  accessFlags := fl
  thisClass := this
  superClass := sup
  interfaces := ifs
  fields := fds
  methods := ms
  attributes := attrs
def plain (name : String) (sup : Option ClassId) : Class where
  name := name
  kind := .ordinary
  loader := none
  accessFlags := 33
  super := sup
  interfaces := #[]
  cf := none
  fields := #[]
  methods := #[]
  instanceTypes := #[]
  staticTypes := #[]
  resolved := #[]
  callSites := []
  init := .initialized
  statics := none
  mirror := none

def pool0 : Array CpInfo := pool [(5, u "<init>"), (0, u "()V"), (1, .class_ 10), (1, u "java/lang/Object")] 113

def k0m0 : Method := { name := "<init>", desc := "()V", sig := { parameters := [], returnType := none }, accessFlags := 1, code := none }
/-- java/lang/Object -/
def k0 : Class := { plain "java/lang/Object" none with
  accessFlags := 33
  interfaces := #[]
  cf := some (fileOf pool0 8 #[] #[{ accessFlags := 1, nameIndex := 5, descriptorIndex := 6, attributes := #[] }] 33 0 #[] #[])
  fields := #[]
  methods := #[k0m0]
  instanceTypes := #[]
  staticTypes := #[]
  resolved := Array.replicate 124 none
  statics := none }

def pool1 : Array CpInfo := pool [(2, .class_ 4), (1, u "java/lang/Object"), (0, u "<init>"), (0, u "()V"), (0, .integer 2147483647), (0, .methodref 9 10), (0, .class_ 11), (0, .nameAndType 12 13), (0, u "com/example/tagloom/tagloom/tlv/TlvDecoder"), (0, u "plainHeader"), (0, u "([BII)J"), (0, .long 255), (1, .long 2), (1, .long 256), (1, .long 2147483647), (1, .long 18446744073709551615), (1, .methodref 9 25), (0, .nameAndType 26 27), (0, u "plainIdentifier"), (0, u "(J)I"), (0, .methodref 9 29), (0, .nameAndType 30 27), (0, u "plainHeaderLength"), (0, .methodref 9 32), (0, .nameAndType 33 27), (0, u "plainLength"), (0, .class_ 35), (0, u "com/example/tagloom/tagloom/tlv/TlvDecoderPlainHeaderPinLaw"), (2, u "law"), (0, u "(JII)Z")] 5

def k1m0 : Method := { name := "<init>", desc := "()V", sig := { parameters := [], returnType := none }, accessFlags := 1, code := none }
def k1c1 : Code := { maxStack := 6, maxLocals := 28, code := code, exceptionTable := #[], attributes := #[] }
def k1m1 : Method := { name := "law", desc := "(JII)Z", sig := { parameters := [.long, .int, .int], returnType := some .boolean }, accessFlags := 9, code := some k1c1 }
/-- com/example/tagloom/tagloom/tlv/TlvDecoderPlainHeaderPinLaw -/
def k1 : Class := { plain "com/example/tagloom/tagloom/tlv/TlvDecoderPlainHeaderPinLaw" (some 0) with
  accessFlags := 49
  interfaces := #[]
  cf := some (fileOf pool1 34 #[] #[{ accessFlags := 1, nameIndex := 5, descriptorIndex := 6, attributes := #[] }, { accessFlags := 9, nameIndex := 38, descriptorIndex := 39, attributes := #[] }] 49 2 #[] #[])
  fields := #[]
  methods := #[k1m0, k1m1]
  instanceTypes := #[]
  staticTypes := #[]
  resolved := Array.replicate 45 none
  statics := none }

def pool2 : Array CpInfo := pool [(4, .class_ 6), (1, u "com/example/tagloom/tagloom/tlv/TlvDecoder"), (3, .class_ 12), (1, u "java/lang/Object"), (4, u "open"), (0, u "Lcom/example/tagloom/tagloom/tlv/OpenElements;"), (4, u "limit"), (0, u "J"), (1, .class_ 28), (1, u "com/example/tagloom/tagloom/tlv/TlvDecoder$Phase"), (1, u "Lcom/example/tagloom/tagloom/tlv/TlvDecoder$Phase;"), (2, u "phase"), (2, u "header"), (0, u "[B"), (10, u "listener"), (10, u "Lcom/example/tagloom/tagloom/tlv/ElementListener;"), (2, u "position"), (16, u "contentLeft"), (12, u "primitive"), (0, u "Lcom/example/tagloom/tagloom/tlv/Element;"), (17, u "ended"), (0, u "Z"), (0, .long 18446744073709551615), (1, .long 4294967295), (5, u "length"), (15, u "elementOffset"), (13, u "headerLength"), (10, u "I"), (44, u "tagClass"), (0, u "Lcom/example/tagloom/tagloom/tlv/TagClass;"), (2, u "constructed"), (2, u "tagNumber"), (28, u "lengthOctetsLeft"), (57, u "plainHeader"), (0, u "([BII)J"), (1, u "plainIdentifier"), (0, u "(J)I"), (0, u "plainHeaderLength"), (0, u "plainLength")] 30

def k2c0 : Code := { maxStack := 6, maxLocals := 9, code := prog_164_method_6_code, exceptionTable := #[], attributes := #[] }
def k2m0 : Method := { name := "plainHeader", desc := "([BII)J", sig := { parameters := [(.array .byte), .int, .int], returnType := some .long }, accessFlags := 9, code := some k2c0 }
def k2c1 : Code := { maxStack := 3, maxLocals := 2, code := prog_164_method_7_code, exceptionTable := #[], attributes := #[] }
def k2m1 : Method := { name := "plainIdentifier", desc := "(J)I", sig := { parameters := [.long], returnType := some .int }, accessFlags := 9, code := some k2c1 }
def k2c2 : Code := { maxStack := 3, maxLocals := 2, code := prog_164_method_8_code, exceptionTable := #[], attributes := #[] }
def k2m2 : Method := { name := "plainHeaderLength", desc := "(J)I", sig := { parameters := [.long], returnType := some .int }, accessFlags := 9, code := some k2c2 }
def k2c3 : Code := { maxStack := 2, maxLocals := 2, code := prog_164_method_9_code, exceptionTable := #[], attributes := #[] }
def k2m3 : Method := { name := "plainLength", desc := "(J)I", sig := { parameters := [.long], returnType := some .int }, accessFlags := 9, code := some k2c3 }
/-- com/example/tagloom/tagloom/tlv/TlvDecoder -/
def k2 : Class := { plain "com/example/tagloom/tagloom/tlv/TlvDecoder" (some 0) with
  accessFlags := 49
  interfaces := #[]
  cf := some (fileOf pool2 4 #[.nestMembers #[26]] #[{ accessFlags := 9, nameIndex := 301, descriptorIndex := 302, attributes := #[] }, { accessFlags := 9, nameIndex := 304, descriptorIndex := 305, attributes := #[] }, { accessFlags := 9, nameIndex := 306, descriptorIndex := 305, attributes := #[] }, { accessFlags := 9, nameIndex := 307, descriptorIndex := 305, attributes := #[] }] 49 10 #[] #[{ accessFlags := 18, nameIndex := 48, descriptorIndex := 59, attributes := #[] }, { accessFlags := 18, nameIndex := 17, descriptorIndex := 18, attributes := #[] }, { accessFlags := 2, nameIndex := 23, descriptorIndex := 24, attributes := #[] }, { accessFlags := 2, nameIndex := 62, descriptorIndex := 24, attributes := #[] }, { accessFlags := 2, nameIndex := 33, descriptorIndex := 30, attributes := #[] }, { accessFlags := 2, nameIndex := 111, descriptorIndex := 112, attributes := #[] }, { accessFlags := 2, nameIndex := 137, descriptorIndex := 24, attributes := #[] }, { accessFlags := 2, nameIndex := 36, descriptorIndex := 37, attributes := #[] }, { accessFlags := 2, nameIndex := 151, descriptorIndex := 162, attributes := #[] }, { accessFlags := 2, nameIndex := 207, descriptorIndex := 208, attributes := #[] }, { accessFlags := 2, nameIndex := 211, descriptorIndex := 112, attributes := #[] }, { accessFlags := 2, nameIndex := 214, descriptorIndex := 24, attributes := #[] }, { accessFlags := 2, nameIndex := 121, descriptorIndex := 24, attributes := #[] }, { accessFlags := 2, nameIndex := 243, descriptorIndex := 162, attributes := #[] }, { accessFlags := 2, nameIndex := 92, descriptorIndex := 93, attributes := #[] }, { accessFlags := 2, nameIndex := 79, descriptorIndex := 24, attributes := #[] }])
  fields := #[{ name := "listener", type := (.object "com/example/tagloom/tagloom/tlv/ElementListener"), accessFlags := 18, slot := 0, constantValue := 0 }, { name := "open", type := (.object "com/example/tagloom/tagloom/tlv/OpenElements"), accessFlags := 18, slot := 1, constantValue := 0 }, { name := "limit", type := .long, accessFlags := 2, slot := 2, constantValue := 0 }, { name := "position", type := .long, accessFlags := 2, slot := 3, constantValue := 0 }, { name := "phase", type := (.object "com/example/tagloom/tagloom/tlv/TlvDecoder$Phase"), accessFlags := 2, slot := 4, constantValue := 0 }, { name := "ended", type := .boolean, accessFlags := 2, slot := 5, constantValue := 0 }, { name := "elementOffset", type := .long, accessFlags := 2, slot := 6, constantValue := 0 }, { name := "header", type := (.array .byte), accessFlags := 2, slot := 7, constantValue := 0 }, { name := "headerLength", type := .int, accessFlags := 2, slot := 8, constantValue := 0 }, { name := "tagClass", type := (.object "com/example/tagloom/tagloom/tlv/TagClass"), accessFlags := 2, slot := 9, constantValue := 0 }, { name := "constructed", type := .boolean, accessFlags := 2, slot := 10, constantValue := 0 }, { name := "tagNumber", type := .long, accessFlags := 2, slot := 11, constantValue := 0 }, { name := "length", type := .long, accessFlags := 2, slot := 12, constantValue := 0 }, { name := "lengthOctetsLeft", type := .int, accessFlags := 2, slot := 13, constantValue := 0 }, { name := "primitive", type := (.object "com/example/tagloom/tagloom/tlv/Element"), accessFlags := 2, slot := 14, constantValue := 0 }, { name := "contentLeft", type := .long, accessFlags := 2, slot := 15, constantValue := 0 }]
  methods := #[k2m0, k2m1, k2m2, k2m3]
  instanceTypes := #[(.object "com/example/tagloom/tagloom/tlv/ElementListener"), (.object "com/example/tagloom/tagloom/tlv/OpenElements"), .long, .long, (.object "com/example/tagloom/tagloom/tlv/TlvDecoder$Phase"), .boolean, .long, (.array .byte), .int, (.object "com/example/tagloom/tagloom/tlv/TagClass"), .boolean, .long, .long, .int, (.object "com/example/tagloom/tagloom/tlv/Element"), .long]
  staticTypes := #[]
  resolved := Array.replicate 338 none
  statics := none }

def pool3 : Array CpInfo := pool [(1, u "java/lang/Cloneable"), (0, .class_ 1), (0, u "java/lang/Object"), (0, .class_ 3)] 3

/-- java/lang/Cloneable -/
def k3 : Class := { plain "java/lang/Cloneable" (some 0) with
  accessFlags := 1537
  interfaces := #[]
  cf := some (fileOf pool3 2 #[] #[] 1537 4 #[] #[])
  fields := #[]
  methods := #[]
  instanceTypes := #[]
  staticTypes := #[]
  resolved := Array.replicate 8 none
  statics := none }

def pool4 : Array CpInfo := pool [(1, u "java/io/Serializable"), (0, .class_ 1), (0, u "java/lang/Object"), (0, .class_ 3)] 3

/-- java/io/Serializable -/
def k4 : Class := { plain "java/io/Serializable" (some 0) with
  accessFlags := 1537
  interfaces := #[]
  cf := some (fileOf pool4 2 #[] #[] 1537 4 #[] #[])
  fields := #[]
  methods := #[]
  instanceTypes := #[]
  staticTypes := #[]
  resolved := Array.replicate 8 none
  statics := none }

/-- the primitive byte -/
def k5 : Class := { plain "byte" none with kind := .primitive 'B', accessFlags := 0x411 }
/-- [B -/
def k6 : Class := { plain "[B" (some 0) with kind := .array 5 .byte, interfaces := #[3, 4], accessFlags := 1041 }

/-- the primitive int -/
def k7 : Class := { plain "int" none with kind := .primitive 'I', accessFlags := 0x411 }
/-- [I -/
def k8 : Class := { plain "[I" (some 0) with kind := .array 7 .int, interfaces := #[3, 4], accessFlags := 1041 }

def heap : Heap := #[]
def classes : Array Class := #[k0, k1, k2, k3, k4, k5, k6, k7, k8]
def interned : List (Array UInt16 × Addr) := []
def slotsUsed : Nat := 0
def theMethod : MethodId := ⟨1, 1⟩
def args0 : Array Value := #[.long 5, .int 7, .int 1]
def aboutOver (below : List Frame) : State where
  vm := { classes := classes, interned := interned.toArray }
  heap := heap
  slotsUsed := slotsUsed
  threads := #[{ frames := .invoking theMethod args0 :: below }]
def below0 : List Frame := [.native { method := ⟨0, 0⟩, args := #[] }]
def about1 : State := aboutOver below0
def p0 : Program := .bare "" "" ""
def e0 : Env := launch0.env 0 0 0
theorem w_frames : about1.frames = Frame.invoking theMethod args0 :: below0 := rfl
set_option maxRecDepth 65536 in
theorem w_args : argsFit about1.vm theMethod args0 = true := by decide +kernel
set_option maxRecDepth 65536 in
theorem w_heap : heapFits about1 = true := by decide +kernel
set_option maxRecDepth 65536 in
theorem w_runnable : about1.curStatus? = some .runnable := by decide +kernel
set_option maxRecDepth 65536 in
theorem w_alone : about1.alone = true := by decide +kernel
set_option maxRecDepth 65536 in
theorem w_named : about1.methodNamed? x = some theMethod := by decide +kernel
set_option maxRecDepth 65536 in
theorem w_hears : about1.hears theMethod below0 = true := by decide +kernel
set_option maxRecDepth 65536 in
theorem w_ripe : about1.ripe theMethod args0 below0 = true := by decide +kernel
theorem w_running : about1.status = .running := rfl
set_option maxRecDepth 65536 in
theorem w_room : about1.hasRoom e0.platform room_1 = true :=
  launch0.hasRoom_least _ room_1 (by decide +kernel) (by decide +kernel) (by decide +kernel) (by decide +kernel) (by decide +kernel) (by decide +kernel)
theorem allAtoms_all (ts : List Jvm.Cond) (a : Array Jvm.Value) (st : Jvm.State) : (allAtoms ts).before a st = ts.all (fun c => c.before a st) := by
  induction ts with
  | nil => rfl
  | cons c t ih =>
    show (Jvm.Cond.and c (allAtoms t)).before a st = _
    rw [Jvm.Cond.before_and, ih, List.all_cons]
def words1 : List Jvm.Cond := Jvm.Cond.code x code maxLocals ret :: tables_1
/-- a 'code' word, met by the world's own term for the bytes: nothing is compared byte by byte -/
theorem code_word {y : MethodName} {bytes : ByteArray} {mx : Nat} {rt : Option FieldType} {a : Array Value} {s : State} {m : MethodId} {meth : Method} {c : Code} (h1 : s.methodNamed? y = some m) (h2 : s.vm.method? m = some meth) (h3 : meth.code = some c) (h4 : c.code = bytes)
    (h5 : (c.maxLocals == mx && c.exceptionTable.isEmpty && decide (c.maxStack ≤ mostOperands) && decide (meth.sig.returnType = rt) && !meth.locks && decide (parseMethodDescriptor y.desc = some meth.sig)) = true) : (Jvm.Cond.code y bytes mx rt).before a s = true := by
  simp only [Bool.and_eq_true, beq_iff_eq, Bool.not_eq_true', decide_eq_true_eq] at h5
  obtain ⟨⟨⟨⟨⟨g1, g2⟩, g3⟩, g4⟩, g5⟩, g6⟩ := h5
  simp [Cond.before, Cond.holds, Cond.value, h1, h2, h3, h4, g1, g2, g3, g4, g5, g6]
def isCode : Jvm.Cond → Bool
  | .code _ _ _ _ => true
  | _ => false
theorem all_split {L : List Jvm.Cond} {P : Jvm.Cond → Bool} (h1 : L.all (fun c => isCode c || P c) = true) (h2 : ∀ c ∈ L.filter isCode, P c = true) : L.all P = true := by
  refine List.all_eq_true.mpr fun c hc => ?_
  have h := List.all_eq_true.mp h1 c hc
  rcases Bool.eq_false_or_eq_true (isCode c) with hi | hi
  · exact h2 c (List.mem_filter.mpr ⟨hc, hi⟩)
  · simpa [hi] using h
set_option maxRecDepth 65536 in
theorem w_c0 : (Jvm.Cond.code x code maxLocals ret).before args0 about1 = true := code_word (m := ⟨1, 1⟩) (meth := k1m1) (c := k1c1) (by decide +kernel) rfl rfl rfl (by decide +kernel)
set_option maxRecDepth 65536 in
theorem w_c1 : (Jvm.Cond.code ({ cls := "com/example/tagloom/tagloom/tlv/TlvDecoder", name := "plainHeader", desc := "([BII)J" } : Jvm.MethodName) prog_164_method_6_code (9 : Nat) (Option.some Jvm.ClassFile.FieldType.long)).before args0 about1 = true := code_word (m := ⟨2, 0⟩) (meth := k2m0) (c := k2c0) (by decide +kernel) rfl rfl rfl (by decide +kernel)
set_option maxRecDepth 65536 in
theorem w_c2 : (Jvm.Cond.code ({ cls := "com/example/tagloom/tagloom/tlv/TlvDecoder", name := "plainIdentifier", desc := "(J)I" } : Jvm.MethodName) prog_164_method_7_code (2 : Nat) (Option.some Jvm.ClassFile.FieldType.int)).before args0 about1 = true := code_word (m := ⟨2, 1⟩) (meth := k2m1) (c := k2c1) (by decide +kernel) rfl rfl rfl (by decide +kernel)
set_option maxRecDepth 65536 in
theorem w_c3 : (Jvm.Cond.code ({ cls := "com/example/tagloom/tagloom/tlv/TlvDecoder", name := "plainHeaderLength", desc := "(J)I" } : Jvm.MethodName) prog_164_method_8_code (2 : Nat) (Option.some Jvm.ClassFile.FieldType.int)).before args0 about1 = true := code_word (m := ⟨2, 2⟩) (meth := k2m2) (c := k2c2) (by decide +kernel) rfl rfl rfl (by decide +kernel)
set_option maxRecDepth 65536 in
theorem w_c4 : (Jvm.Cond.code ({ cls := "com/example/tagloom/tagloom/tlv/TlvDecoder", name := "plainLength", desc := "(J)I" } : Jvm.MethodName) prog_164_method_9_code (2 : Nat) (Option.some Jvm.ClassFile.FieldType.int)).before args0 about1 = true := code_word (m := ⟨2, 3⟩) (meth := k2m3) (c := k2c3) (by decide +kernel) rfl rfl rfl (by decide +kernel)
def codes1 : List Jvm.Cond := [Jvm.Cond.code x code maxLocals ret, Jvm.Cond.code ({ cls := "com/example/tagloom/tagloom/tlv/TlvDecoder", name := "plainHeader", desc := "([BII)J" } : Jvm.MethodName) prog_164_method_6_code (9 : Nat) (Option.some Jvm.ClassFile.FieldType.long), Jvm.Cond.code ({ cls := "com/example/tagloom/tagloom/tlv/TlvDecoder", name := "plainIdentifier", desc := "(J)I" } : Jvm.MethodName) prog_164_method_7_code (2 : Nat) (Option.some Jvm.ClassFile.FieldType.int), Jvm.Cond.code ({ cls := "com/example/tagloom/tagloom/tlv/TlvDecoder", name := "plainHeaderLength", desc := "(J)I" } : Jvm.MethodName) prog_164_method_8_code (2 : Nat) (Option.some Jvm.ClassFile.FieldType.int), Jvm.Cond.code ({ cls := "com/example/tagloom/tagloom/tlv/TlvDecoder", name := "plainLength", desc := "(J)I" } : Jvm.MethodName) prog_164_method_9_code (2 : Nat) (Option.some Jvm.ClassFile.FieldType.int)]
set_option maxRecDepth 65536 in
theorem codes_eq : words1.filter isCode = codes1 := rfl
theorem w_codes : ∀ c ∈ words1.filter isCode, c.before args0 about1 = true := by
  rw [codes_eq]
  intro c hc
  simp only [codes1, List.mem_cons, List.not_mem_nil, or_false] at hc
  rcases hc with rfl | rfl | rfl | rfl | rfl
  · exact w_c0
  · exact w_c1
  · exact w_c2
  · exact w_c3
  · exact w_c4
set_option maxRecDepth 65536 in
theorem w_t1 : words1.all (fun c => isCode c || c.before args0 about1) = true := by decide +kernel
theorem w_tables : (allAtoms (Jvm.Cond.code x code maxLocals ret :: tables_1)).before args0 about1 = true := by
  rw [allAtoms_all]
  show words1.all (fun c => c.before args0 about1) = true
  refine all_split ?_ w_codes
  rw [w_t1]
set_option maxRecDepth 65536 in
theorem w_case : (Jvm.Cond.and given_1 narrow_1).before args0 about1 = true := by decide +kernel
theorem w_applies : (headSpec (Jvm.Cond.code x code maxLocals ret :: tables_1) room_1).applies x e0.platform about1 = true :=
  (Spec.applies_iff w_frames).mpr ⟨w_running, w_runnable, w_alone, w_named, w_hears, w_ripe, w_room, w_tables⟩
theorem atStart : AtStart classFile x code maxLocals ret World_1 tables_1 room_1 Calls_1 rest_1 Pre_1 launch0 p0 e0 about1 theMethod args0 below0 :=
  ⟨lists_1, trivial, launch0.admits_env _ _ _, launch0.least_env, fairChoices_fair.cas, fairChoices_fair.clock, w_frames, w_args, w_heap, w_applies, trivial, trivial, w_case⟩
end start1
theorem witness_1 : WitnessClaimed_1 := ⟨start1.p0, start1.e0, start1.about1, start1.theMethod, start1.args0, start1.below0, start1.atStart⟩
end Jvm.Pilot.@@N@@
