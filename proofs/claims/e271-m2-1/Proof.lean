import JvmDerived
import JvmDerived.Pilot.@@N@@Statement
import JvmDerived.Pilot.@@N@@Code
set_option linter.unusedVariables false
set_option linter.unusedSimpArgs false
namespace Jvm.RoadKit
open Sem ClassFile Op Lib Jvm.Stand Jvm.Free Jvm.LawKit
section New
variable {p : Program} {l : Launch} {e : Env} {R : Room} {s : State} {m : MethodId} {args : Array Value} {below : List Frame} {meth : Method} {c : Code} {T : State} {locs : List Loc} {cells slots : Nat}
theorem retI (X : Stand p l e R s m args below meth c T locs cells slots) (hx : p.tables.exec = Jvm.exec) {pc : Nat} {Ls : Array Slot} {z : Int32} {rest : List Value} (hret : meth.sig.returnType = some .int) (hd : decode c.code pc = .ok (.ireturn, 1)) {fs : List Frame}
    (hl : ∀ (f : JFrame) (acts : List Action), f.method = m → f.locked = none → f.entered = [] → (doReturn e (T.setTop f) acts (some (.int z))).1 = T.setFrames fs) : Steps p.tables e below (T.setTop (mkF m pc Ls (.int z :: rest))) (T.setFrames fs) := by
  have hm' : T.vm.method? m = some meth := X.method'
  have hn : narrow .int (.int z) = .int z := rfl
  show Steps p.tables e below (T.setTop { method := m, pc := pc, locals := Ls, stack := _ :: rest, locked := none }) _
  jvm_step X.here [X.here.top, hx, hd, hm', hret, hn]
  first | (intro acts; rw [hl _ acts rfl rfl rfl]) | rw [hl _ _ rfl rfl rfl]
  exact Steps.refl _
end New
end Jvm.RoadKit
namespace Jvm.Pilot.@@N@@
open Jvm Jvm.ClassFile Sem Op Lib Jvm.Free Jvm.Stand Jvm.LawKit Jvm.RoadKit Bundle Jvm.Pilot.@@N@@.Jvm.D

theorem pd_0 : parseMethodDescriptor "()V" = some ⟨[], none⟩ := by decide +kernel
theorem pd_1 : parseMethodDescriptor "(I)I" = some ⟨[.int], some .int⟩ := by decide +kernel
theorem pd_2 : parseMethodDescriptor "(III)V" = some ⟨[.int, .int, .int], none⟩ := by decide +kernel
theorem pd_3 : parseMethodDescriptor "(II)V" = some ⟨[.int, .int], none⟩ := by decide +kernel
theorem pd_4 : parseMethodDescriptor "()I" = some ⟨[], some .int⟩ := by decide +kernel
theorem pd_5 : parseMethodDescriptor "(Lcom/example/yealm/yealm/ccs/Moves;I[I)Z" = some ⟨[(.object "com/example/yealm/yealm/ccs/Moves"), .int, (.array .int)], some .boolean⟩ := by decide +kernel
theorem own_selp {Z s : State} {a0 args : Array Value} {y : MethodName} {n : Nat} (hZ : Z.Warmed39 s.vm) (wi : (Cond.instantiable y.cls n).before a0 Z = true) (wp : (Cond.privateMethod y).before a0 Z = true) (wm : (Cond.instanceMethod y).before a0 Z = true) (hy : y.cls ≠ "java/lang/invoke/MethodHandle" ∧ y.cls ≠ "java/lang/invoke/VarHandle") : (Cond.selects y.cls y y).before args s = true := by
  have wi' : (Cond.instantiable y.cls n).before args s = true := mvT hZ wi
  obtain ⟨c, k, h1, h2, h3, h4, -⟩ := Cond.instantiable_spec wi'
  exact selects_self_of_private h1 h2 (Bool.or_eq_false_iff.mp h4).1 (Cond.privateMethod_at (mvP hZ wp (args := args))) (mvT hZ wm) hy
/-- an int[] by its values -/
def own_A (Z : State) (h : Heap) (b : Addr) (n : Int32) (vs : List Value) : Prop := ∃ k, Arv Z h b k .int n vs (.int (0 : Int32))
/-- a Moves object: its class, its five arrays, its count -/
def own_M (Z : State) (h : Heap) (m b1 b2 b3 b4 b5 : Addr) (cnt : Int32) (v1 v2 v3 v4 v5 : List Value) : Prop :=
  Exa Z h m "com/example/yealm/yealm/ccs/Moves" ∧ Fld Z h m "com/example/yealm/yealm/ccs/Moves" "labels" "[I" (.ref b1) ∧ Fld Z h m "com/example/yealm/yealm/ccs/Moves" "places" "[I" (.ref b2) ∧ Fld Z h m "com/example/yealm/yealm/ccs/Moves" "steps" "[I" (.ref b3) ∧ Fld Z h m "com/example/yealm/yealm/ccs/Moves" "partnerPlaces" "[I" (.ref b4) ∧ Fld Z h m "com/example/yealm/yealm/ccs/Moves" "partnerSteps" "[I" (.ref b5) ∧ Fld Z h m "com/example/yealm/yealm/ccs/Moves" "count" "I" (.int cnt) ∧ own_A Z h b1 16 v1 ∧ own_A Z h b2 16 v2 ∧ own_A Z h b3 16 v3 ∧ own_A Z h b4 16 v4 ∧ own_A Z h b5 16 v5
/-- all of it new, no two of them one -/
def own_D (n0 : Nat) (m b1 b2 b3 b4 b5 : Addr) : Prop := (n0 ≤ m ∧ n0 ≤ b1 ∧ n0 ≤ b2 ∧ n0 ≤ b3 ∧ n0 ≤ b4 ∧ n0 ≤ b5) ∧ (m ≠ b1 ∧ m ≠ b2 ∧ m ≠ b3 ∧ m ≠ b4 ∧ m ≠ b5) ∧ (b1 ≠ b2 ∧ b1 ≠ b3 ∧ b1 ≠ b4 ∧ b1 ≠ b5) ∧ (b2 ≠ b3 ∧ b2 ≠ b4 ∧ b2 ≠ b5) ∧ (b3 ≠ b4 ∧ b3 ≠ b5) ∧ b4 ≠ b5
theorem own_rng {i : Nat} (h : i ≤ 2) : (Int32.ofNat i).toNatClampNeg = i ∧ (¬ Int32.ofNat i < 0 ∧ Int32.ofNat i < 16) ∧ (¬ Int32.ofNat i < 0 ∧ Int32.ofNat i < 3) := by
  match i, h with
  | 0, _ => decide
  | 1, _ => decide
  | 2, _ => decide
def own_r3 (j : Nat) (r0 r1 r2 : Addr) : Addr := match j with | 0 => r0 | 1 => r1 | _ => r2
def own_sg (i j t : Nat) : Nat := if t = i then j else t
theorem own_r3_all {P : Addr → Prop} {r0 r1 r2 : Addr} (h0 : P r0) (h1 : P r1) (h2 : P r2) (j : Nat) : P (own_r3 j r0 r1 r2) := by
  match j with
  | 0 => exact h0
  | 1 => exact h1
  | n + 2 => exact h2
theorem own_r3_get {j : Nat} (h : j ≤ 2) (r0 r1 r2 : Addr) : [Value.ref r0, .ref r1, .ref r2].getD j .null = .ref (own_r3 j r0 r1 r2) := by
  match j, h with
  | 0, _ => rfl
  | 1, _ => rfl
  | 2, _ => rfl
theorem own_ex {i j t : Nat} (hi : i ≤ 2) (hj : j ≤ 2) (ht : t ≤ 2) (r0 r1 r2 : Addr) : ([Value.ref r0, .ref r1, .ref r2].set i (.ref (own_r3 j r0 r1 r2))).getD t .null = .ref (own_r3 (own_sg i j t) r0 r1 r2) := by
  match i, hi, j, hj, t, ht with
  | 0, _, 0, _, 0, _ => rfl
  | 0, _, 0, _, 1, _ => rfl
  | 0, _, 0, _, 2, _ => rfl
  | 0, _, 1, _, 0, _ => rfl
  | 0, _, 1, _, 1, _ => rfl
  | 0, _, 1, _, 2, _ => rfl
  | 0, _, 2, _, 0, _ => rfl
  | 0, _, 2, _, 1, _ => rfl
  | 0, _, 2, _, 2, _ => rfl
  | 1, _, 0, _, 0, _ => rfl
  | 1, _, 0, _, 1, _ => rfl
  | 1, _, 0, _, 2, _ => rfl
  | 1, _, 1, _, 0, _ => rfl
  | 1, _, 1, _, 1, _ => rfl
  | 1, _, 1, _, 2, _ => rfl
  | 1, _, 2, _, 0, _ => rfl
  | 1, _, 2, _, 1, _ => rfl
  | 1, _, 2, _, 2, _ => rfl
  | 2, _, 0, _, 0, _ => rfl
  | 2, _, 0, _, 1, _ => rfl
  | 2, _, 0, _, 2, _ => rfl
  | 2, _, 1, _, 0, _ => rfl
  | 2, _, 1, _, 1, _ => rfl
  | 2, _, 1, _, 2, _ => rfl
  | 2, _, 2, _, 0, _ => rfl
  | 2, _, 2, _, 1, _ => rfl
  | 2, _, 2, _, 2, _ => rfl
def own_col (t : Nat) (x y z : Int32) : Int32 := match t with | 0 => x | 1 => y | _ => z
theorem own_col_get {j : Nat} (h : j ≤ 2) (x y z : Int32) : [Value.int x, .int y, .int z].getD j (.int (0 : Int32)) = .int (own_col j x y z) := by
  match j, h with
  | 0, _ => rfl
  | 1, _ => rfl
  | 2, _ => rfl
theorem own_col_set {i j t : Nat} (hi : i ≤ 2) (hj : j ≤ 2) (ht : t ≤ 2) (x y z : Int32) : ([Value.int x, .int y, .int z].set i (.int (own_col j x y z))).getD t (.int (0 : Int32)) = .int (own_col (own_sg i j t) x y z) := by
  match i, hi, j, hj, t, ht with
  | 0, _, 0, _, 0, _ => rfl
  | 0, _, 0, _, 1, _ => rfl
  | 0, _, 0, _, 2, _ => rfl
  | 0, _, 1, _, 0, _ => rfl
  | 0, _, 1, _, 1, _ => rfl
  | 0, _, 1, _, 2, _ => rfl
  | 0, _, 2, _, 0, _ => rfl
  | 0, _, 2, _, 1, _ => rfl
  | 0, _, 2, _, 2, _ => rfl
  | 1, _, 0, _, 0, _ => rfl
  | 1, _, 0, _, 1, _ => rfl
  | 1, _, 0, _, 2, _ => rfl
  | 1, _, 1, _, 0, _ => rfl
  | 1, _, 1, _, 1, _ => rfl
  | 1, _, 1, _, 2, _ => rfl
  | 1, _, 2, _, 0, _ => rfl
  | 1, _, 2, _, 1, _ => rfl
  | 1, _, 2, _, 2, _ => rfl
  | 2, _, 0, _, 0, _ => rfl
  | 2, _, 0, _, 1, _ => rfl
  | 2, _, 0, _, 2, _ => rfl
  | 2, _, 1, _, 0, _ => rfl
  | 2, _, 1, _, 1, _ => rfl
  | 2, _, 1, _, 2, _ => rfl
  | 2, _, 2, _, 0, _ => rfl
  | 2, _, 2, _, 1, _ => rfl
  | 2, _, 2, _, 2, _ => rfl
theorem own_sg_le {i j t : Nat} (hj : j ≤ 2) (ht : t ≤ 2) : own_sg i j t ≤ 2 := by unfold own_sg; by_cases h : t = i
                                                                                   · rw [if_pos h]; exact hj
                                                                                   · rw [if_neg h]; exact ht
theorem own_of (x : Int32) (n : Nat) (h0 : 0 ≤ x.toInt) (h1 : x.toInt < n) (hn : n < 2147483648) : ∃ k : Fin n, x = Int32.ofNat k.1 := by
  refine ⟨⟨x.toInt.toNat, by omega⟩, ?_⟩
  apply Int32.toInt_inj.mp
  rw [Int32.toInt_ofNat_of_lt (by show x.toInt.toNat < _; omega)]
  show x.toInt = ((x.toInt.toNat : Nat) : Int)
  omega
theorem own_pick : ∀ k : Fin 6, (¬ Int32.ofNat k.1 < 0 ∧ Int32.ofNat k.1 < 6) ∧ (∃ i : Fin 3, [Value.int (0 : Int32), .int (0 : Int32), .int (0 : Int32), .int (1 : Int32), .int (1 : Int32), .int (2 : Int32)].getD (Int32.ofNat k.1).toNatClampNeg (.int (0 : Int32)) = .int (Int32.ofNat i.1)) ∧ (∃ j : Fin 3, [Value.int (0 : Int32), .int (1 : Int32), .int (2 : Int32), .int (1 : Int32), .int (2 : Int32), .int (2 : Int32)].getD (Int32.ofNat k.1).toNatClampNeg (.int (0 : Int32)) = .int (Int32.ofNat j.1)) := by decide +kernel
theorem own_sel {q kk : Int32} (h : kk = ((q &&& (2147483647 : Int32)) % (6 : Int32))) : (¬ kk < 0 ∧ kk < 6) ∧ ∃ i j : Nat, i ≤ 2 ∧ j ≤ 2 ∧ [Value.int (0 : Int32), .int (0 : Int32), .int (0 : Int32), .int (1 : Int32), .int (1 : Int32), .int (2 : Int32)].getD kk.toNatClampNeg (.int (0 : Int32)) = .int (Int32.ofNat i) ∧ [Value.int (0 : Int32), .int (1 : Int32), .int (2 : Int32), .int (1 : Int32), .int (2 : Int32), .int (2 : Int32)].getD kk.toNatClampNeg (.int (0 : Int32)) = .int (Int32.ofNat j) := by
  have e1 := c_mask q 2147483647 31 (by decide) (by decide)
  have e2 := (c_irem (q &&& 2147483647) 6 6 (by decide)).1 (by omega)
  rw [← h] at e2
  obtain ⟨k, rfl⟩ := own_of kk 6 (by omega) (by omega) (by decide)
  obtain ⟨a, ⟨i, hi⟩, ⟨j, hj⟩⟩ := own_pick k
  exact ⟨a, i.1, j.1, by omega, by omega, hi, hj⟩
theorem d1_0 : decode prog_17_method_1_code 0 = .ok (.aload_n 0, 1) := by decide +kernel
theorem d1_1 : decode prog_17_method_1_code 1 = .ok (.invokespecial 1, 3) := by decide +kernel
theorem d1_4 : decode prog_17_method_1_code 4 = .ok (.aload_n 0, 1) := by decide +kernel
theorem d1_5 : decode prog_17_method_1_code 5 = .ok (.bipush 16, 2) := by decide +kernel
theorem d1_7 : decode prog_17_method_1_code 7 = .ok (.newarray .int, 2) := by decide +kernel
theorem d1_9 : decode prog_17_method_1_code 9 = .ok (.putfield 7, 3) := by decide +kernel
theorem d1_12 : decode prog_17_method_1_code 12 = .ok (.aload_n 0, 1) := by decide +kernel
theorem d1_13 : decode prog_17_method_1_code 13 = .ok (.bipush 16, 2) := by decide +kernel
theorem d1_15 : decode prog_17_method_1_code 15 = .ok (.newarray .int, 2) := by decide +kernel
theorem d1_17 : decode prog_17_method_1_code 17 = .ok (.putfield 13, 3) := by decide +kernel
theorem d1_20 : decode prog_17_method_1_code 20 = .ok (.aload_n 0, 1) := by decide +kernel
theorem d1_21 : decode prog_17_method_1_code 21 = .ok (.bipush 16, 2) := by decide +kernel
theorem d1_23 : decode prog_17_method_1_code 23 = .ok (.newarray .int, 2) := by decide +kernel
theorem d1_25 : decode prog_17_method_1_code 25 = .ok (.putfield 16, 3) := by decide +kernel
theorem d1_28 : decode prog_17_method_1_code 28 = .ok (.aload_n 0, 1) := by decide +kernel
theorem d1_29 : decode prog_17_method_1_code 29 = .ok (.bipush 16, 2) := by decide +kernel
theorem d1_31 : decode prog_17_method_1_code 31 = .ok (.newarray .int, 2) := by decide +kernel
theorem d1_33 : decode prog_17_method_1_code 33 = .ok (.putfield 19, 3) := by decide +kernel
theorem d1_36 : decode prog_17_method_1_code 36 = .ok (.aload_n 0, 1) := by decide +kernel
theorem d1_37 : decode prog_17_method_1_code 37 = .ok (.bipush 16, 2) := by decide +kernel
theorem d1_39 : decode prog_17_method_1_code 39 = .ok (.newarray .int, 2) := by decide +kernel
theorem d1_41 : decode prog_17_method_1_code 41 = .ok (.putfield 22, 3) := by decide +kernel
theorem d1_44 : decode prog_17_method_1_code 44 = .ok (.return_, 1) := by decide +kernel
theorem pn_1 : plainName "com/example/yealm/yealm/ccs/Moves" = true := by first | (simp [plainName, overriddenIn]; done) | decide +kernel
theorem d3_0 : decode prog_17_method_3_code 0 = .ok (.aload_n 0, 1) := by decide +kernel
theorem d3_1 : decode prog_17_method_3_code 1 = .ok (.invokevirtual 29, 3) := by decide +kernel
theorem d3_4 : decode prog_17_method_3_code 4 = .ok (.aload_n 0, 1) := by decide +kernel
theorem d3_5 : decode prog_17_method_3_code 5 = .ok (.getfield 7, 3) := by decide +kernel
theorem d3_8 : decode prog_17_method_3_code 8 = .ok (.aload_n 0, 1) := by decide +kernel
theorem d3_9 : decode prog_17_method_3_code 9 = .ok (.getfield 25, 3) := by decide +kernel
theorem d3_12 : decode prog_17_method_3_code 12 = .ok (.iload_n 1, 1) := by decide +kernel
theorem d3_13 : decode prog_17_method_3_code 13 = .ok (.iastore, 1) := by decide +kernel
theorem d3_14 : decode prog_17_method_3_code 14 = .ok (.aload_n 0, 1) := by decide +kernel
theorem d3_15 : decode prog_17_method_3_code 15 = .ok (.getfield 13, 3) := by decide +kernel
theorem d3_18 : decode prog_17_method_3_code 18 = .ok (.aload_n 0, 1) := by decide +kernel
theorem d3_19 : decode prog_17_method_3_code 19 = .ok (.getfield 25, 3) := by decide +kernel
theorem d3_22 : decode prog_17_method_3_code 22 = .ok (.iload_n 2, 1) := by decide +kernel
theorem d3_23 : decode prog_17_method_3_code 23 = .ok (.iastore, 1) := by decide +kernel
theorem d3_24 : decode prog_17_method_3_code 24 = .ok (.aload_n 0, 1) := by decide +kernel
theorem d3_25 : decode prog_17_method_3_code 25 = .ok (.getfield 16, 3) := by decide +kernel
theorem d3_28 : decode prog_17_method_3_code 28 = .ok (.aload_n 0, 1) := by decide +kernel
theorem d3_29 : decode prog_17_method_3_code 29 = .ok (.getfield 25, 3) := by decide +kernel
theorem d3_32 : decode prog_17_method_3_code 32 = .ok (.iload_n 3, 1) := by decide +kernel
theorem d3_33 : decode prog_17_method_3_code 33 = .ok (.iastore, 1) := by decide +kernel
theorem d3_34 : decode prog_17_method_3_code 34 = .ok (.aload_n 0, 1) := by decide +kernel
theorem d3_35 : decode prog_17_method_3_code 35 = .ok (.getfield 19, 3) := by decide +kernel
theorem d3_38 : decode prog_17_method_3_code 38 = .ok (.aload_n 0, 1) := by decide +kernel
theorem d3_39 : decode prog_17_method_3_code 39 = .ok (.getfield 25, 3) := by decide +kernel
theorem d3_42 : decode prog_17_method_3_code 42 = .ok (.iconst (-1), 1) := by decide +kernel
theorem d3_43 : decode prog_17_method_3_code 43 = .ok (.iastore, 1) := by decide +kernel
theorem d3_44 : decode prog_17_method_3_code 44 = .ok (.aload_n 0, 1) := by decide +kernel
theorem d3_45 : decode prog_17_method_3_code 45 = .ok (.getfield 22, 3) := by decide +kernel
theorem d3_48 : decode prog_17_method_3_code 48 = .ok (.aload_n 0, 1) := by decide +kernel
theorem d3_49 : decode prog_17_method_3_code 49 = .ok (.getfield 25, 3) := by decide +kernel
theorem d3_52 : decode prog_17_method_3_code 52 = .ok (.iconst (-1), 1) := by decide +kernel
theorem d3_53 : decode prog_17_method_3_code 53 = .ok (.iastore, 1) := by decide +kernel
theorem d3_54 : decode prog_17_method_3_code 54 = .ok (.aload_n 0, 1) := by decide +kernel
theorem d3_55 : decode prog_17_method_3_code 55 = .ok (.dup, 1) := by decide +kernel
theorem d3_56 : decode prog_17_method_3_code 56 = .ok (.getfield 25, 3) := by decide +kernel
theorem d3_59 : decode prog_17_method_3_code 59 = .ok (.iconst 1, 1) := by decide +kernel
theorem d3_60 : decode prog_17_method_3_code 60 = .ok (.iadd, 1) := by decide +kernel
theorem d3_61 : decode prog_17_method_3_code 61 = .ok (.putfield 25, 3) := by decide +kernel
theorem d3_64 : decode prog_17_method_3_code 64 = .ok (.return_, 1) := by decide +kernel
theorem pn_3 : plainName "com/example/yealm/yealm/ccs/Moves" = true := by first | (simp [plainName, overriddenIn]; done) | decide +kernel
theorem d4_0 : decode prog_17_method_13_code 0 = .ok (.aload_n 0, 1) := by decide +kernel
theorem d4_1 : decode prog_17_method_13_code 1 = .ok (.getfield 25, 3) := by decide +kernel
theorem d4_4 : decode prog_17_method_13_code 4 = .ok (.aload_n 0, 1) := by decide +kernel
theorem d4_5 : decode prog_17_method_13_code 5 = .ok (.getfield 7, 3) := by decide +kernel
theorem d4_8 : decode prog_17_method_13_code 8 = .ok (.arraylength, 1) := by decide +kernel
theorem d4_9 : decode prog_17_method_13_code 9 = .ok (.if_icmp .ne 72, 3) := by decide +kernel
theorem d4_12 : decode prog_17_method_13_code 12 = .ok (.aload_n 0, 1) := by decide +kernel
theorem d4_13 : decode prog_17_method_13_code 13 = .ok (.getfield 25, 3) := by decide +kernel
theorem d4_16 : decode prog_17_method_13_code 16 = .ok (.iconst 2, 1) := by decide +kernel
theorem d4_17 : decode prog_17_method_13_code 17 = .ok (.invokestatic 34, 3) := by decide +kernel
theorem d4_20 : decode prog_17_method_13_code 20 = .ok (.istore_n 1, 1) := by decide +kernel
theorem d4_21 : decode prog_17_method_13_code 21 = .ok (.aload_n 0, 1) := by decide +kernel
theorem d4_22 : decode prog_17_method_13_code 22 = .ok (.aload_n 0, 1) := by decide +kernel
theorem d4_23 : decode prog_17_method_13_code 23 = .ok (.getfield 7, 3) := by decide +kernel
theorem d4_26 : decode prog_17_method_13_code 26 = .ok (.iload_n 1, 1) := by decide +kernel
theorem d4_27 : decode prog_17_method_13_code 27 = .ok (.invokestatic 40, 3) := by decide +kernel
theorem d4_30 : decode prog_17_method_13_code 30 = .ok (.putfield 7, 3) := by decide +kernel
theorem d4_33 : decode prog_17_method_13_code 33 = .ok (.aload_n 0, 1) := by decide +kernel
theorem d4_34 : decode prog_17_method_13_code 34 = .ok (.aload_n 0, 1) := by decide +kernel
theorem d4_35 : decode prog_17_method_13_code 35 = .ok (.getfield 13, 3) := by decide +kernel
theorem d4_38 : decode prog_17_method_13_code 38 = .ok (.iload_n 1, 1) := by decide +kernel
theorem d4_39 : decode prog_17_method_13_code 39 = .ok (.invokestatic 40, 3) := by decide +kernel
theorem d4_42 : decode prog_17_method_13_code 42 = .ok (.putfield 13, 3) := by decide +kernel
theorem d4_45 : decode prog_17_method_13_code 45 = .ok (.aload_n 0, 1) := by decide +kernel
theorem d4_46 : decode prog_17_method_13_code 46 = .ok (.aload_n 0, 1) := by decide +kernel
theorem d4_47 : decode prog_17_method_13_code 47 = .ok (.getfield 16, 3) := by decide +kernel
theorem d4_50 : decode prog_17_method_13_code 50 = .ok (.iload_n 1, 1) := by decide +kernel
theorem d4_51 : decode prog_17_method_13_code 51 = .ok (.invokestatic 40, 3) := by decide +kernel
theorem d4_54 : decode prog_17_method_13_code 54 = .ok (.putfield 16, 3) := by decide +kernel
theorem d4_57 : decode prog_17_method_13_code 57 = .ok (.aload_n 0, 1) := by decide +kernel
theorem d4_58 : decode prog_17_method_13_code 58 = .ok (.aload_n 0, 1) := by decide +kernel
theorem d4_59 : decode prog_17_method_13_code 59 = .ok (.getfield 19, 3) := by decide +kernel
theorem d4_62 : decode prog_17_method_13_code 62 = .ok (.iload_n 1, 1) := by decide +kernel
theorem d4_63 : decode prog_17_method_13_code 63 = .ok (.invokestatic 40, 3) := by decide +kernel
theorem d4_66 : decode prog_17_method_13_code 66 = .ok (.putfield 19, 3) := by decide +kernel
theorem d4_69 : decode prog_17_method_13_code 69 = .ok (.aload_n 0, 1) := by decide +kernel
theorem d4_70 : decode prog_17_method_13_code 70 = .ok (.aload_n 0, 1) := by decide +kernel
theorem d4_71 : decode prog_17_method_13_code 71 = .ok (.getfield 22, 3) := by decide +kernel
theorem d4_74 : decode prog_17_method_13_code 74 = .ok (.iload_n 1, 1) := by decide +kernel
theorem d4_75 : decode prog_17_method_13_code 75 = .ok (.invokestatic 40, 3) := by decide +kernel
theorem d4_78 : decode prog_17_method_13_code 78 = .ok (.putfield 22, 3) := by decide +kernel
theorem d4_81 : decode prog_17_method_13_code 81 = .ok (.return_, 1) := by decide +kernel
theorem pn_4 : plainName "com/example/yealm/yealm/ccs/Moves" = true := by first | (simp [plainName, overriddenIn]; done) | decide +kernel
theorem d5_0 : decode prog_17_method_4_code 0 = .ok (.aload_n 0, 1) := by decide +kernel
theorem d5_1 : decode prog_17_method_4_code 1 = .ok (.invokevirtual 29, 3) := by decide +kernel
theorem d5_4 : decode prog_17_method_4_code 4 = .ok (.aload_n 0, 1) := by decide +kernel
theorem d5_5 : decode prog_17_method_4_code 5 = .ok (.getfield 7, 3) := by decide +kernel
theorem d5_8 : decode prog_17_method_4_code 8 = .ok (.aload_n 0, 1) := by decide +kernel
theorem d5_9 : decode prog_17_method_4_code 9 = .ok (.getfield 25, 3) := by decide +kernel
theorem d5_12 : decode prog_17_method_4_code 12 = .ok (.iconst 0, 1) := by decide +kernel
theorem d5_13 : decode prog_17_method_4_code 13 = .ok (.iastore, 1) := by decide +kernel
theorem d5_14 : decode prog_17_method_4_code 14 = .ok (.aload_n 0, 1) := by decide +kernel
theorem d5_15 : decode prog_17_method_4_code 15 = .ok (.getfield 13, 3) := by decide +kernel
theorem d5_18 : decode prog_17_method_4_code 18 = .ok (.aload_n 0, 1) := by decide +kernel
theorem d5_19 : decode prog_17_method_4_code 19 = .ok (.getfield 25, 3) := by decide +kernel
theorem d5_22 : decode prog_17_method_4_code 22 = .ok (.aload_n 0, 1) := by decide +kernel
theorem d5_23 : decode prog_17_method_4_code 23 = .ok (.getfield 13, 3) := by decide +kernel
theorem d5_26 : decode prog_17_method_4_code 26 = .ok (.iload_n 1, 1) := by decide +kernel
theorem d5_27 : decode prog_17_method_4_code 27 = .ok (.iaload, 1) := by decide +kernel
theorem d5_28 : decode prog_17_method_4_code 28 = .ok (.iastore, 1) := by decide +kernel
theorem d5_29 : decode prog_17_method_4_code 29 = .ok (.aload_n 0, 1) := by decide +kernel
theorem d5_30 : decode prog_17_method_4_code 30 = .ok (.getfield 16, 3) := by decide +kernel
theorem d5_33 : decode prog_17_method_4_code 33 = .ok (.aload_n 0, 1) := by decide +kernel
theorem d5_34 : decode prog_17_method_4_code 34 = .ok (.getfield 25, 3) := by decide +kernel
theorem d5_37 : decode prog_17_method_4_code 37 = .ok (.aload_n 0, 1) := by decide +kernel
theorem d5_38 : decode prog_17_method_4_code 38 = .ok (.getfield 16, 3) := by decide +kernel
theorem d5_41 : decode prog_17_method_4_code 41 = .ok (.iload_n 1, 1) := by decide +kernel
theorem d5_42 : decode prog_17_method_4_code 42 = .ok (.iaload, 1) := by decide +kernel
theorem d5_43 : decode prog_17_method_4_code 43 = .ok (.iastore, 1) := by decide +kernel
theorem d5_44 : decode prog_17_method_4_code 44 = .ok (.aload_n 0, 1) := by decide +kernel
theorem d5_45 : decode prog_17_method_4_code 45 = .ok (.getfield 19, 3) := by decide +kernel
theorem d5_48 : decode prog_17_method_4_code 48 = .ok (.aload_n 0, 1) := by decide +kernel
theorem d5_49 : decode prog_17_method_4_code 49 = .ok (.getfield 25, 3) := by decide +kernel
theorem d5_52 : decode prog_17_method_4_code 52 = .ok (.aload_n 0, 1) := by decide +kernel
theorem d5_53 : decode prog_17_method_4_code 53 = .ok (.getfield 13, 3) := by decide +kernel
theorem d5_56 : decode prog_17_method_4_code 56 = .ok (.iload_n 2, 1) := by decide +kernel
theorem d5_57 : decode prog_17_method_4_code 57 = .ok (.iaload, 1) := by decide +kernel
theorem d5_58 : decode prog_17_method_4_code 58 = .ok (.iastore, 1) := by decide +kernel
theorem d5_59 : decode prog_17_method_4_code 59 = .ok (.aload_n 0, 1) := by decide +kernel
theorem d5_60 : decode prog_17_method_4_code 60 = .ok (.getfield 22, 3) := by decide +kernel
theorem d5_63 : decode prog_17_method_4_code 63 = .ok (.aload_n 0, 1) := by decide +kernel
theorem d5_64 : decode prog_17_method_4_code 64 = .ok (.getfield 25, 3) := by decide +kernel
theorem d5_67 : decode prog_17_method_4_code 67 = .ok (.aload_n 0, 1) := by decide +kernel
theorem d5_68 : decode prog_17_method_4_code 68 = .ok (.getfield 16, 3) := by decide +kernel
theorem d5_71 : decode prog_17_method_4_code 71 = .ok (.iload_n 2, 1) := by decide +kernel
theorem d5_72 : decode prog_17_method_4_code 72 = .ok (.iaload, 1) := by decide +kernel
theorem d5_73 : decode prog_17_method_4_code 73 = .ok (.iastore, 1) := by decide +kernel
theorem d5_74 : decode prog_17_method_4_code 74 = .ok (.aload_n 0, 1) := by decide +kernel
theorem d5_75 : decode prog_17_method_4_code 75 = .ok (.dup, 1) := by decide +kernel
theorem d5_76 : decode prog_17_method_4_code 76 = .ok (.getfield 25, 3) := by decide +kernel
theorem d5_79 : decode prog_17_method_4_code 79 = .ok (.iconst 1, 1) := by decide +kernel
theorem d5_80 : decode prog_17_method_4_code 80 = .ok (.iadd, 1) := by decide +kernel
theorem d5_81 : decode prog_17_method_4_code 81 = .ok (.putfield 25, 3) := by decide +kernel
theorem d5_84 : decode prog_17_method_4_code 84 = .ok (.return_, 1) := by decide +kernel
theorem pn_5 : plainName "com/example/yealm/yealm/ccs/Moves" = true := by first | (simp [plainName, overriddenIn]; done) | decide +kernel
theorem d6_0 : decode prog_17_method_11_code 0 = .ok (.aload_n 0, 1) := by decide +kernel
theorem d6_1 : decode prog_17_method_11_code 1 = .ok (.getfield 7, 3) := by decide +kernel
theorem d6_4 : decode prog_17_method_11_code 4 = .ok (.iload_n 2, 1) := by decide +kernel
theorem d6_5 : decode prog_17_method_11_code 5 = .ok (.aload_n 0, 1) := by decide +kernel
theorem d6_6 : decode prog_17_method_11_code 6 = .ok (.getfield 7, 3) := by decide +kernel
theorem d6_9 : decode prog_17_method_11_code 9 = .ok (.iload_n 1, 1) := by decide +kernel
theorem d6_10 : decode prog_17_method_11_code 10 = .ok (.iaload, 1) := by decide +kernel
theorem d6_11 : decode prog_17_method_11_code 11 = .ok (.iastore, 1) := by decide +kernel
theorem d6_12 : decode prog_17_method_11_code 12 = .ok (.aload_n 0, 1) := by decide +kernel
theorem d6_13 : decode prog_17_method_11_code 13 = .ok (.getfield 13, 3) := by decide +kernel
theorem d6_16 : decode prog_17_method_11_code 16 = .ok (.iload_n 2, 1) := by decide +kernel
theorem d6_17 : decode prog_17_method_11_code 17 = .ok (.aload_n 0, 1) := by decide +kernel
theorem d6_18 : decode prog_17_method_11_code 18 = .ok (.getfield 13, 3) := by decide +kernel
theorem d6_21 : decode prog_17_method_11_code 21 = .ok (.iload_n 1, 1) := by decide +kernel
theorem d6_22 : decode prog_17_method_11_code 22 = .ok (.iaload, 1) := by decide +kernel
theorem d6_23 : decode prog_17_method_11_code 23 = .ok (.iastore, 1) := by decide +kernel
theorem d6_24 : decode prog_17_method_11_code 24 = .ok (.aload_n 0, 1) := by decide +kernel
theorem d6_25 : decode prog_17_method_11_code 25 = .ok (.getfield 16, 3) := by decide +kernel
theorem d6_28 : decode prog_17_method_11_code 28 = .ok (.iload_n 2, 1) := by decide +kernel
theorem d6_29 : decode prog_17_method_11_code 29 = .ok (.aload_n 0, 1) := by decide +kernel
theorem d6_30 : decode prog_17_method_11_code 30 = .ok (.getfield 16, 3) := by decide +kernel
theorem d6_33 : decode prog_17_method_11_code 33 = .ok (.iload_n 1, 1) := by decide +kernel
theorem d6_34 : decode prog_17_method_11_code 34 = .ok (.iaload, 1) := by decide +kernel
theorem d6_35 : decode prog_17_method_11_code 35 = .ok (.iastore, 1) := by decide +kernel
theorem d6_36 : decode prog_17_method_11_code 36 = .ok (.aload_n 0, 1) := by decide +kernel
theorem d6_37 : decode prog_17_method_11_code 37 = .ok (.getfield 19, 3) := by decide +kernel
theorem d6_40 : decode prog_17_method_11_code 40 = .ok (.iload_n 2, 1) := by decide +kernel
theorem d6_41 : decode prog_17_method_11_code 41 = .ok (.aload_n 0, 1) := by decide +kernel
theorem d6_42 : decode prog_17_method_11_code 42 = .ok (.getfield 19, 3) := by decide +kernel
theorem d6_45 : decode prog_17_method_11_code 45 = .ok (.iload_n 1, 1) := by decide +kernel
theorem d6_46 : decode prog_17_method_11_code 46 = .ok (.iaload, 1) := by decide +kernel
theorem d6_47 : decode prog_17_method_11_code 47 = .ok (.iastore, 1) := by decide +kernel
theorem d6_48 : decode prog_17_method_11_code 48 = .ok (.aload_n 0, 1) := by decide +kernel
theorem d6_49 : decode prog_17_method_11_code 49 = .ok (.getfield 22, 3) := by decide +kernel
theorem d6_52 : decode prog_17_method_11_code 52 = .ok (.iload_n 2, 1) := by decide +kernel
theorem d6_53 : decode prog_17_method_11_code 53 = .ok (.aload_n 0, 1) := by decide +kernel
theorem d6_54 : decode prog_17_method_11_code 54 = .ok (.getfield 22, 3) := by decide +kernel
theorem d6_57 : decode prog_17_method_11_code 57 = .ok (.iload_n 1, 1) := by decide +kernel
theorem d6_58 : decode prog_17_method_11_code 58 = .ok (.iaload, 1) := by decide +kernel
theorem d6_59 : decode prog_17_method_11_code 59 = .ok (.iastore, 1) := by decide +kernel
theorem d6_60 : decode prog_17_method_11_code 60 = .ok (.return_, 1) := by decide +kernel
theorem pn_6 : plainName "com/example/yealm/yealm/ccs/Moves" = true := by first | (simp [plainName, overriddenIn]; done) | decide +kernel
theorem d7_0 : decode prog_17_method_2_code 0 = .ok (.aload_n 0, 1) := by decide +kernel
theorem d7_1 : decode prog_17_method_2_code 1 = .ok (.getfield 25, 3) := by decide +kernel
theorem d7_4 : decode prog_17_method_2_code 4 = .ok (.ireturn, 1) := by decide +kernel
theorem pn_7 : plainName "com/example/yealm/yealm/ccs/Moves" = true := by first | (simp [plainName, overriddenIn]; done) | decide +kernel
theorem d8_0 : decode method_2_code 0 = .ok (.aload_n 0, 1) := by decide +kernel
theorem d8_1 : decode method_2_code 1 = .ok (.iload_n 1, 1) := by decide +kernel
theorem d8_2 : decode method_2_code 2 = .ok (.invokevirtual 7, 3) := by decide +kernel
theorem d8_5 : decode method_2_code 5 = .ok (.aload_n 2, 1) := by decide +kernel
theorem d8_6 : decode method_2_code 6 = .ok (.iconst 0, 1) := by decide +kernel
theorem d8_7 : decode method_2_code 7 = .ok (.iaload, 1) := by decide +kernel
theorem d8_8 : decode method_2_code 8 = .ok (.if_icmp .ne 51, 3) := by decide +kernel
theorem d8_11 : decode method_2_code 11 = .ok (.aload_n 0, 1) := by decide +kernel
theorem d8_12 : decode method_2_code 12 = .ok (.iload_n 1, 1) := by decide +kernel
theorem d8_13 : decode method_2_code 13 = .ok (.invokevirtual 13, 3) := by decide +kernel
theorem d8_16 : decode method_2_code 16 = .ok (.aload_n 2, 1) := by decide +kernel
theorem d8_17 : decode method_2_code 17 = .ok (.iconst 1, 1) := by decide +kernel
theorem d8_18 : decode method_2_code 18 = .ok (.iaload, 1) := by decide +kernel
theorem d8_19 : decode method_2_code 19 = .ok (.if_icmp .ne 40, 3) := by decide +kernel
theorem d8_22 : decode method_2_code 22 = .ok (.aload_n 0, 1) := by decide +kernel
theorem d8_23 : decode method_2_code 23 = .ok (.iload_n 1, 1) := by decide +kernel
theorem d8_24 : decode method_2_code 24 = .ok (.invokevirtual 16, 3) := by decide +kernel
theorem d8_27 : decode method_2_code 27 = .ok (.aload_n 2, 1) := by decide +kernel
theorem d8_28 : decode method_2_code 28 = .ok (.iconst 2, 1) := by decide +kernel
theorem d8_29 : decode method_2_code 29 = .ok (.iaload, 1) := by decide +kernel
theorem d8_30 : decode method_2_code 30 = .ok (.if_icmp .ne 29, 3) := by decide +kernel
theorem d8_33 : decode method_2_code 33 = .ok (.aload_n 0, 1) := by decide +kernel
theorem d8_34 : decode method_2_code 34 = .ok (.iload_n 1, 1) := by decide +kernel
theorem d8_35 : decode method_2_code 35 = .ok (.invokevirtual 19, 3) := by decide +kernel
theorem d8_38 : decode method_2_code 38 = .ok (.aload_n 2, 1) := by decide +kernel
theorem d8_39 : decode method_2_code 39 = .ok (.iconst 3, 1) := by decide +kernel
theorem d8_40 : decode method_2_code 40 = .ok (.iaload, 1) := by decide +kernel
theorem d8_41 : decode method_2_code 41 = .ok (.if_icmp .ne 18, 3) := by decide +kernel
theorem d8_44 : decode method_2_code 44 = .ok (.aload_n 0, 1) := by decide +kernel
theorem d8_45 : decode method_2_code 45 = .ok (.iload_n 1, 1) := by decide +kernel
theorem d8_46 : decode method_2_code 46 = .ok (.invokevirtual 22, 3) := by decide +kernel
theorem d8_49 : decode method_2_code 49 = .ok (.aload_n 2, 1) := by decide +kernel
theorem d8_50 : decode method_2_code 50 = .ok (.iconst 4, 1) := by decide +kernel
theorem d8_51 : decode method_2_code 51 = .ok (.iaload, 1) := by decide +kernel
theorem d8_52 : decode method_2_code 52 = .ok (.if_icmp .ne 7, 3) := by decide +kernel
theorem d8_55 : decode method_2_code 55 = .ok (.iconst 1, 1) := by decide +kernel
theorem d8_56 : decode method_2_code 56 = .ok (.goto 4, 3) := by decide +kernel
theorem d8_59 : decode method_2_code 59 = .ok (.iconst 0, 1) := by decide +kernel
theorem d8_60 : decode method_2_code 60 = .ok (.ireturn, 1) := by decide +kernel
theorem pn_8 : plainName "com/example/yealm/yealm/ccs/MovesCopyPinLaw" = true := by first | (simp [plainName, overriddenIn]; done) | decide +kernel
theorem d9_0 : decode prog_17_method_5_code 0 = .ok (.aload_n 0, 1) := by decide +kernel
theorem d9_1 : decode prog_17_method_5_code 1 = .ok (.getfield 7, 3) := by decide +kernel
theorem d9_4 : decode prog_17_method_5_code 4 = .ok (.iload_n 1, 1) := by decide +kernel
theorem d9_5 : decode prog_17_method_5_code 5 = .ok (.iaload, 1) := by decide +kernel
theorem d9_6 : decode prog_17_method_5_code 6 = .ok (.ireturn, 1) := by decide +kernel
theorem pn_9 : plainName "com/example/yealm/yealm/ccs/Moves" = true := by first | (simp [plainName, overriddenIn]; done) | decide +kernel
theorem d10_0 : decode prog_17_method_7_code 0 = .ok (.aload_n 0, 1) := by decide +kernel
theorem d10_1 : decode prog_17_method_7_code 1 = .ok (.getfield 13, 3) := by decide +kernel
theorem d10_4 : decode prog_17_method_7_code 4 = .ok (.iload_n 1, 1) := by decide +kernel
theorem d10_5 : decode prog_17_method_7_code 5 = .ok (.iaload, 1) := by decide +kernel
theorem d10_6 : decode prog_17_method_7_code 6 = .ok (.ireturn, 1) := by decide +kernel
theorem pn_10 : plainName "com/example/yealm/yealm/ccs/Moves" = true := by first | (simp [plainName, overriddenIn]; done) | decide +kernel
theorem d11_0 : decode prog_17_method_8_code 0 = .ok (.aload_n 0, 1) := by decide +kernel
theorem d11_1 : decode prog_17_method_8_code 1 = .ok (.getfield 16, 3) := by decide +kernel
theorem d11_4 : decode prog_17_method_8_code 4 = .ok (.iload_n 1, 1) := by decide +kernel
theorem d11_5 : decode prog_17_method_8_code 5 = .ok (.iaload, 1) := by decide +kernel
theorem d11_6 : decode prog_17_method_8_code 6 = .ok (.ireturn, 1) := by decide +kernel
theorem pn_11 : plainName "com/example/yealm/yealm/ccs/Moves" = true := by first | (simp [plainName, overriddenIn]; done) | decide +kernel
theorem d12_0 : decode prog_17_method_9_code 0 = .ok (.aload_n 0, 1) := by decide +kernel
theorem d12_1 : decode prog_17_method_9_code 1 = .ok (.getfield 19, 3) := by decide +kernel
theorem d12_4 : decode prog_17_method_9_code 4 = .ok (.iload_n 1, 1) := by decide +kernel
theorem d12_5 : decode prog_17_method_9_code 5 = .ok (.iaload, 1) := by decide +kernel
theorem d12_6 : decode prog_17_method_9_code 6 = .ok (.ireturn, 1) := by decide +kernel
theorem pn_12 : plainName "com/example/yealm/yealm/ccs/Moves" = true := by first | (simp [plainName, overriddenIn]; done) | decide +kernel
theorem d13_0 : decode prog_17_method_10_code 0 = .ok (.aload_n 0, 1) := by decide +kernel
theorem d13_1 : decode prog_17_method_10_code 1 = .ok (.getfield 22, 3) := by decide +kernel
theorem d13_4 : decode prog_17_method_10_code 4 = .ok (.iload_n 1, 1) := by decide +kernel
theorem d13_5 : decode prog_17_method_10_code 5 = .ok (.iaload, 1) := by decide +kernel
theorem d13_6 : decode prog_17_method_10_code 6 = .ok (.ireturn, 1) := by decide +kernel
theorem pn_13 : plainName "com/example/yealm/yealm/ccs/Moves" = true := by first | (simp [plainName, overriddenIn]; done) | decide +kernel
theorem pn_0 : plainName "com/example/yealm/yealm/ccs/MovesCopyPinLaw" = true := by first | (simp [plainName, overriddenIn]; done) | decide +kernel
theorem ef_1 (m : MethodId) (a1 : Addr) : entryFrame m #[(.ref a1)] 1 = mkF m 0 #[.val (.ref a1)] [] := by first | (simp [entryFrame, mkF, argsToLocals, Value.category]; done) | rfl
def Q1 (Z : State) (a1 : Addr) (h0 : Heap) (n0 : Nat) (v : Option Value) (h : Heap) (L : List Loc) : Prop := v = none ∧ Fr n0 L ∧ ∃ b1 b2 b3 b4 b5 : Addr, Keep h0 h [a1] ∧ own_D n0 a1 b1 b2 b3 b4 b5 ∧ own_M Z h a1 b1 b2 b3 b4 b5 (0 : Int32) [(.int (0 : Int32)), (.int (0 : Int32)), (.int (0 : Int32))] [(.int (0 : Int32)), (.int (0 : Int32)), (.int (0 : Int32))] [(.int (0 : Int32)), (.int (0 : Int32)), (.int (0 : Int32))] [(.int (0 : Int32)), (.int (0 : Int32)), (.int (0 : Int32))] [(.int (0 : Int32)), (.int (0 : Int32)), (.int (0 : Int32))]
set_option maxRecDepth 65536 in
set_option maxHeartbeats 40000000 in
theorem rm1 (l : Launch) (Z : State) (a0 : Array Value) (hw : ∀ d ∈ tables_1, d.before a0 Z = true) (ws : List Jvm.Cond) (a1 : Addr) (u1 u2 u3 u4 u5 : Value) (h0 : Heap) (n0 : Nat) (Z0 : n0 ≤ h0.size) (E_a1 : Exa Z h0 a1 "com/example/yealm/yealm/ccs/Moves") (g_a1 : n0 ≤ a1) (F_labels : Fld Z h0 a1 "com/example/yealm/yealm/ccs/Moves" "labels" "[I" u1) (F_places : Fld Z h0 a1 "com/example/yealm/yealm/ccs/Moves" "places" "[I" u2) (F_steps : Fld Z h0 a1 "com/example/yealm/yealm/ccs/Moves" "steps" "[I" u3) (F_partnerPlaces : Fld Z h0 a1 "com/example/yealm/yealm/ccs/Moves" "partnerPlaces" "[I" u4) (F_partnerSteps : Fld Z h0 a1 "com/example/yealm/yealm/ccs/Moves" "partnerSteps" "[I" u5) (F_count : Fld Z h0 a1 "com/example/yealm/yealm/ccs/Moves" "count" "I" (.int (0 : Int32))) :
    MetFree l (⟨"com/example/yealm/yealm/ccs/Moves", "<init>", "()V"⟩ : MethodName) (head1 (Jvm.Cond.code (⟨"com/example/yealm/yealm/ccs/Moves", "<init>", "()V"⟩ : MethodName) prog_17_method_1_code 1 none :: ws) ({ frames := 1, cells := 5, slots := 80, locals := 12 } : Room)) (fun a U => a = #[(.ref a1)] ∧ Z.Warmed39 U.vm ∧ U.heap = h0) (fun _ _ _ _ _ => True) (fun _ U o U' => ∃ v L, o = .returned v ∧ Q1 Z a1 h0 n0 v U'.heap L ∧ FrameEnd U o U' L ({ frames := 1, cells := 5, slots := 80, locals := 12 } : Room).cells ({ frames := 1, cells := 5, slots := 80, locals := 12 } : Room).slots) := by
  refine MetFree.of_bodySF (plainFor_of_name pn_1) hisR ?_
  intro p e s m args below meth c s₁ Bd hml0 hP hK
  obtain ⟨rfl, hZ, hh⟩ := hP
  have hx := Bd.exec
  have hby := Bd.bytes
  have hml : c.maxLocals = 1 := hml0
  have hown : s.vm.findClass "com/example/yealm/yealm/ccs/Moves" = some m.cls := findClass_of_methodNamed Bd.named
  have hnm := (name_of_methodNamed Bd.named Bd.method).1
  have X0 : Stand p l e ({ frames := 1, cells := 5, slots := 80, locals := 12 } : Room) s m #[(.ref a1)] below meth c s₁ [] 0 0 := Stand.of_body Bd
  have e0 : s₁.heap = h0 := by rw [← hh, Bd.state]; rfl
  have N0 := Fr.nil n0
  have pre0 : ∀ tgt, Steps p.tables e below (s₁.setTop (mkF m 0 #[.val (.ref a1)] [])) tgt → Steps p.tables e below (s₁.setTop (entryFrame m #[(.ref a1)] 1)) tgt := fun tgt k => castTop (ef_1 m a1) k
  obtain ⟨T1, X1, e1, st1⟩ := initO X0 hx hZ hown (hw _ (List.mem_of_getElem? (i := 8) rfl)) (hw _ (List.mem_of_getElem? (i := 9) rfl)) (hw _ (List.mem_of_getElem? (i := 10) rfl)) e0 (g := (mkF m 1 #[.val (.ref a1)] [(.ref a1)])) rfl (by rw [hml]; rfl) rfl (hb hby d1_1) (by decide) (W := 0) (by show 2 * 0 + _ ≤ _; exact Nat.le_of_eq rfl) (by decide)
  obtain ⟨T2, h2, k2, X2, e2, E2, A2, st2⟩ := newP X1 hx hZ (hw _ (List.mem_of_getElem? (i := 1) rfl)) e1 (g := (mkF m 7 #[.val (.ref a1)] [(.int (16 : Int32)), (.ref a1)])) rfl (hb hby d1_7) rfl (by decide) (cap := 16) (by decide) (by decide) (by decide) (by decide)
  obtain ⟨b2, g2⟩ : ∃ z, z = h0.size := ⟨_, rfl⟩
  rw [← g2] at A2 st2
  have lt2_a1 : a1 < h0.size := E_a1.lt
  have ne2_a1 : a1 ≠ b2 := Nat.ne_of_lt (Nat.lt_of_lt_of_le lt2_a1 (Nat.le_of_eq g2.symm))
  have g_b2 : n0 ≤ b2 := Nat.le_trans Z0 (Nat.le_of_eq g2.symm)
  have sz_b2 : h0.size ≤ b2 := Nat.le_trans (Nat.le_refl _) (Nat.le_of_eq g2.symm)
  have V_b2 : Arv Z h2 b2 k2 .int (16 : Int32) [(.int (0 : Int32)), (.int (0 : Int32)), (.int (0 : Int32))] (.int (0 : Int32)) := (Arv.new A2 (by decide)).pad (pad_rep [] (.int (0 : Int32)) 3)
  obtain ⟨T3, h3, X3, e3, W3, st3⟩ := putF X2 hx hZ hown (host := "") (Or.inl (hw _ (List.mem_of_getElem? (i := 11) rfl))) Via.refl e2 (F_labels.ext E2) (E_a1.ext E2) (Or.inl (hw _ (List.mem_of_getElem? (i := 12) rfl))) (hw _ (List.mem_of_getElem? (i := 3) rfl)) (ty := (.array .int)) (by decide) rfl rfl (g := (mkF m 9 #[.val (.ref a1)] [(.ref b2), (.ref a1)])) rfl rfl (hb hby d1_9)
  have Fw3 := (F_labels.ext E2).same W3
  have N3 := Fr.snoc X3 N0 g_a1
  obtain ⟨T4, h4, k4, X4, e4, E4, A4, st4⟩ := newP X3 hx hZ (hw _ (List.mem_of_getElem? (i := 1) rfl)) e3 (g := (mkF m 15 #[.val (.ref a1)] [(.int (16 : Int32)), (.ref a1)])) rfl (hb hby d1_15) rfl (by decide) (cap := 16) (by decide) (by decide) (by decide) (by decide)
  obtain ⟨b4, g4⟩ : ∃ z, z = h3.size := ⟨_, rfl⟩
  rw [← g4] at A4 st4
  have lt4_a1 : a1 < h3.size := Nat.lt_of_lt_of_le lt2_a1 (Nat.le_trans (Nat.le_trans (Nat.le_refl _) E2.1) (Keep.of_wr W3).1)
  have ne4_a1 : a1 ≠ b4 := Nat.ne_of_lt (Nat.lt_of_lt_of_le lt4_a1 (Nat.le_of_eq g4.symm))
  have lt4_b2 : b2 < h3.size := Nat.lt_of_lt_of_le V_b2.lt (Nat.le_trans (Nat.le_refl _) (Keep.of_wr W3).1)
  have ne4_b2 : b2 ≠ b4 := Nat.ne_of_lt (Nat.lt_of_lt_of_le lt4_b2 (Nat.le_of_eq g4.symm))
  have g_b4 : n0 ≤ b4 := Nat.le_trans (Nat.le_trans (Nat.le_trans Z0 E2.1) (Keep.of_wr W3).1) (Nat.le_of_eq g4.symm)
  have zz5 : h0.size ≤ h3.size := (Nat.le_trans (Nat.le_trans (Nat.le_refl _) E2.1) (Keep.of_wr W3).1)
  have sz_b4 : h0.size ≤ b4 := Nat.le_trans zz5 (Nat.le_of_eq g4.symm)
  have V_b4 : Arv Z h4 b4 k4 .int (16 : Int32) [(.int (0 : Int32)), (.int (0 : Int32)), (.int (0 : Int32))] (.int (0 : Int32)) := (Arv.new A4 (by decide)).pad (pad_rep [] (.int (0 : Int32)) 3)
  have fx6 := (((F_places.ext E2).other W3 (Or.inr (slot_ne (Or.inl (hw _ (List.mem_of_getElem? (i := 14) rfl))) (Or.inl (hw _ (List.mem_of_getElem? (i := 12) rfl))) (by decide) (t := (.array .int)) (t' := (.array .int)) (by decide) (by decide)))).ext E4)
  obtain ⟨T7, h7, X7, e7, W7, st7⟩ := putF X4 hx hZ hown (host := "") (Or.inl (hw _ (List.mem_of_getElem? (i := 13) rfl))) Via.refl e4 fx6 (((E_a1.ext E2).wr W3).ext E4) (Or.inl (hw _ (List.mem_of_getElem? (i := 14) rfl))) (hw _ (List.mem_of_getElem? (i := 3) rfl)) (ty := (.array .int)) (by decide) rfl rfl (g := (mkF m 17 #[.val (.ref a1)] [(.ref b4), (.ref a1)])) rfl rfl (hb hby d1_17)
  have Fw7 := fx6.same W7
  have N7 := Fr.snoc X7 N3 g_a1
  obtain ⟨T8, h8, k8, X8, e8, E8, A8, st8⟩ := newP X7 hx hZ (hw _ (List.mem_of_getElem? (i := 1) rfl)) e7 (g := (mkF m 23 #[.val (.ref a1)] [(.int (16 : Int32)), (.ref a1)])) rfl (hb hby d1_23) rfl (by decide) (cap := 16) (by decide) (by decide) (by decide) (by decide)
  obtain ⟨b8, g8⟩ : ∃ z, z = h7.size := ⟨_, rfl⟩
  rw [← g8] at A8 st8
  have lt8_a1 : a1 < h7.size := Nat.lt_of_lt_of_le lt4_a1 (Nat.le_trans (Nat.le_trans (Nat.le_refl _) E4.1) (Keep.of_wr W7).1)
  have ne8_a1 : a1 ≠ b8 := Nat.ne_of_lt (Nat.lt_of_lt_of_le lt8_a1 (Nat.le_of_eq g8.symm))
  have lt8_b2 : b2 < h7.size := Nat.lt_of_lt_of_le lt4_b2 (Nat.le_trans (Nat.le_trans (Nat.le_refl _) E4.1) (Keep.of_wr W7).1)
  have ne8_b2 : b2 ≠ b8 := Nat.ne_of_lt (Nat.lt_of_lt_of_le lt8_b2 (Nat.le_of_eq g8.symm))
  have lt8_b4 : b4 < h7.size := Nat.lt_of_lt_of_le V_b4.lt (Nat.le_trans (Nat.le_refl _) (Keep.of_wr W7).1)
  have ne8_b4 : b4 ≠ b8 := Nat.ne_of_lt (Nat.lt_of_lt_of_le lt8_b4 (Nat.le_of_eq g8.symm))
  have zz9 : n0 ≤ h7.size := (Nat.le_trans (Nat.le_trans (Nat.le_trans (Nat.le_trans Z0 E2.1) (Keep.of_wr W3).1) E4.1) (Keep.of_wr W7).1)
  have g_b8 : n0 ≤ b8 := Nat.le_trans zz9 (Nat.le_of_eq g8.symm)
  have sz_b8 : h0.size ≤ b8 := Nat.le_trans (Nat.le_trans (Nat.le_trans zz5 E4.1) (Keep.of_wr W7).1) (Nat.le_of_eq g8.symm)
  have V_b8 : Arv Z h8 b8 k8 .int (16 : Int32) [(.int (0 : Int32)), (.int (0 : Int32)), (.int (0 : Int32))] (.int (0 : Int32)) := (Arv.new A8 (by decide)).pad (pad_rep [] (.int (0 : Int32)) 3)
  have fx10 := (((((F_steps.ext E2).other W3 (Or.inr (slot_ne (Or.inl (hw _ (List.mem_of_getElem? (i := 16) rfl))) (Or.inl (hw _ (List.mem_of_getElem? (i := 12) rfl))) (by decide) (t := (.array .int)) (t' := (.array .int)) (by decide) (by decide)))).ext E4).other W7 (Or.inr (slot_ne (Or.inl (hw _ (List.mem_of_getElem? (i := 16) rfl))) (Or.inl (hw _ (List.mem_of_getElem? (i := 14) rfl))) (by decide) (t := (.array .int)) (t' := (.array .int)) (by decide) (by decide)))).ext E8)
  obtain ⟨T11, h11, X11, e11, W11, st11⟩ := putF X8 hx hZ hown (host := "") (Or.inl (hw _ (List.mem_of_getElem? (i := 15) rfl))) Via.refl e8 fx10 (((((E_a1.ext E2).wr W3).ext E4).wr W7).ext E8) (Or.inl (hw _ (List.mem_of_getElem? (i := 16) rfl))) (hw _ (List.mem_of_getElem? (i := 3) rfl)) (ty := (.array .int)) (by decide) rfl rfl (g := (mkF m 25 #[.val (.ref a1)] [(.ref b8), (.ref a1)])) rfl rfl (hb hby d1_25)
  have Fw11 := fx10.same W11
  have N11 := Fr.snoc X11 N7 g_a1
  obtain ⟨T12, h12, k12, X12, e12, E12, A12, st12⟩ := newP X11 hx hZ (hw _ (List.mem_of_getElem? (i := 1) rfl)) e11 (g := (mkF m 31 #[.val (.ref a1)] [(.int (16 : Int32)), (.ref a1)])) rfl (hb hby d1_31) rfl (by decide) (cap := 16) (by decide) (by decide) (by decide) (by decide)
  obtain ⟨b12, g12⟩ : ∃ z, z = h11.size := ⟨_, rfl⟩
  rw [← g12] at A12 st12
  have lt12_a1 : a1 < h11.size := Nat.lt_of_lt_of_le lt8_a1 (Nat.le_trans (Nat.le_trans (Nat.le_refl _) E8.1) (Keep.of_wr W11).1)
  have ne12_a1 : a1 ≠ b12 := Nat.ne_of_lt (Nat.lt_of_lt_of_le lt12_a1 (Nat.le_of_eq g12.symm))
  have lt12_b2 : b2 < h11.size := Nat.lt_of_lt_of_le lt8_b2 (Nat.le_trans (Nat.le_trans (Nat.le_refl _) E8.1) (Keep.of_wr W11).1)
  have ne12_b2 : b2 ≠ b12 := Nat.ne_of_lt (Nat.lt_of_lt_of_le lt12_b2 (Nat.le_of_eq g12.symm))
  have lt12_b4 : b4 < h11.size := Nat.lt_of_lt_of_le lt8_b4 (Nat.le_trans (Nat.le_trans (Nat.le_refl _) E8.1) (Keep.of_wr W11).1)
  have ne12_b4 : b4 ≠ b12 := Nat.ne_of_lt (Nat.lt_of_lt_of_le lt12_b4 (Nat.le_of_eq g12.symm))
  have lt12_b8 : b8 < h11.size := Nat.lt_of_lt_of_le V_b8.lt (Nat.le_trans (Nat.le_refl _) (Keep.of_wr W11).1)
  have ne12_b8 : b8 ≠ b12 := Nat.ne_of_lt (Nat.lt_of_lt_of_le lt12_b8 (Nat.le_of_eq g12.symm))
  have g_b12 : n0 ≤ b12 := Nat.le_trans (Nat.le_trans (Nat.le_trans zz9 E8.1) (Keep.of_wr W11).1) (Nat.le_of_eq g12.symm)
  have zz13 : h0.size ≤ h11.size := (Nat.le_trans (Nat.le_trans (Nat.le_trans (Nat.le_trans zz5 E4.1) (Keep.of_wr W7).1) E8.1) (Keep.of_wr W11).1)
  have sz_b12 : h0.size ≤ b12 := Nat.le_trans zz13 (Nat.le_of_eq g12.symm)
  have V_b12 : Arv Z h12 b12 k12 .int (16 : Int32) [(.int (0 : Int32)), (.int (0 : Int32)), (.int (0 : Int32))] (.int (0 : Int32)) := (Arv.new A12 (by decide)).pad (pad_rep [] (.int (0 : Int32)) 3)
  have fx14 := (((((((F_partnerPlaces.ext E2).other W3 (Or.inr (slot_ne (Or.inl (hw _ (List.mem_of_getElem? (i := 18) rfl))) (Or.inl (hw _ (List.mem_of_getElem? (i := 12) rfl))) (by decide) (t := (.array .int)) (t' := (.array .int)) (by decide) (by decide)))).ext E4).other W7 (Or.inr (slot_ne (Or.inl (hw _ (List.mem_of_getElem? (i := 18) rfl))) (Or.inl (hw _ (List.mem_of_getElem? (i := 14) rfl))) (by decide) (t := (.array .int)) (t' := (.array .int)) (by decide) (by decide)))).ext E8).other W11 (Or.inr (slot_ne (Or.inl (hw _ (List.mem_of_getElem? (i := 18) rfl))) (Or.inl (hw _ (List.mem_of_getElem? (i := 16) rfl))) (by decide) (t := (.array .int)) (t' := (.array .int)) (by decide) (by decide)))).ext E12)
  have fx15 := (((((((E_a1.ext E2).wr W3).ext E4).wr W7).ext E8).wr W11).ext E12)
  obtain ⟨T16, h16, X16, e16, W16, st16⟩ := putF X12 hx hZ hown (host := "") (Or.inl (hw _ (List.mem_of_getElem? (i := 17) rfl))) Via.refl e12 fx14 fx15 (Or.inl (hw _ (List.mem_of_getElem? (i := 18) rfl))) (hw _ (List.mem_of_getElem? (i := 3) rfl)) (ty := (.array .int)) (by decide) rfl rfl (g := (mkF m 33 #[.val (.ref a1)] [(.ref b12), (.ref a1)])) rfl rfl (hb hby d1_33)
  have Fw16 := fx14.same W16
  have N16 := Fr.snoc X16 N11 g_a1
  obtain ⟨T17, h17, k17, X17, e17, E17, A17, st17⟩ := newP X16 hx hZ (hw _ (List.mem_of_getElem? (i := 1) rfl)) e16 (g := (mkF m 39 #[.val (.ref a1)] [(.int (16 : Int32)), (.ref a1)])) rfl (hb hby d1_39) rfl (by decide) (cap := 16) (by decide) (by decide) (by decide) (by decide)
  obtain ⟨b17, g17⟩ : ∃ z, z = h16.size := ⟨_, rfl⟩
  rw [← g17] at A17 st17
  have lt17_a1 : a1 < h16.size := Nat.lt_of_lt_of_le lt12_a1 (Nat.le_trans (Nat.le_trans (Nat.le_refl _) E12.1) (Keep.of_wr W16).1)
  have ne17_a1 : a1 ≠ b17 := Nat.ne_of_lt (Nat.lt_of_lt_of_le lt17_a1 (Nat.le_of_eq g17.symm))
  have lt17_b2 : b2 < h16.size := Nat.lt_of_lt_of_le lt12_b2 (Nat.le_trans (Nat.le_trans (Nat.le_refl _) E12.1) (Keep.of_wr W16).1)
  have ne17_b2 : b2 ≠ b17 := Nat.ne_of_lt (Nat.lt_of_lt_of_le lt17_b2 (Nat.le_of_eq g17.symm))
  have lt17_b4 : b4 < h16.size := Nat.lt_of_lt_of_le lt12_b4 (Nat.le_trans (Nat.le_trans (Nat.le_refl _) E12.1) (Keep.of_wr W16).1)
  have ne17_b4 : b4 ≠ b17 := Nat.ne_of_lt (Nat.lt_of_lt_of_le lt17_b4 (Nat.le_of_eq g17.symm))
  have lt17_b8 : b8 < h16.size := Nat.lt_of_lt_of_le lt12_b8 (Nat.le_trans (Nat.le_trans (Nat.le_refl _) E12.1) (Keep.of_wr W16).1)
  have ne17_b8 : b8 ≠ b17 := Nat.ne_of_lt (Nat.lt_of_lt_of_le lt17_b8 (Nat.le_of_eq g17.symm))
  have lt17_b12 : b12 < h16.size := Nat.lt_of_lt_of_le V_b12.lt (Nat.le_trans (Nat.le_refl _) (Keep.of_wr W16).1)
  have ne17_b12 : b12 ≠ b17 := Nat.ne_of_lt (Nat.lt_of_lt_of_le lt17_b12 (Nat.le_of_eq g17.symm))
  have zz18 : n0 ≤ h16.size := (Nat.le_trans (Nat.le_trans (Nat.le_trans (Nat.le_trans zz9 E8.1) (Keep.of_wr W11).1) E12.1) (Keep.of_wr W16).1)
  have g_b17 : n0 ≤ b17 := Nat.le_trans zz18 (Nat.le_of_eq g17.symm)
  have sz_b17 : h0.size ≤ b17 := Nat.le_trans (Nat.le_trans (Nat.le_trans zz13 E12.1) (Keep.of_wr W16).1) (Nat.le_of_eq g17.symm)
  have V_b17 : Arv Z h17 b17 k17 .int (16 : Int32) [(.int (0 : Int32)), (.int (0 : Int32)), (.int (0 : Int32))] (.int (0 : Int32)) := (Arv.new A17 (by decide)).pad (pad_rep [] (.int (0 : Int32)) 3)
  have fx19 := (((((((((F_partnerSteps.ext E2).other W3 (Or.inr (slot_ne (Or.inl (hw _ (List.mem_of_getElem? (i := 20) rfl))) (Or.inl (hw _ (List.mem_of_getElem? (i := 12) rfl))) (by decide) (t := (.array .int)) (t' := (.array .int)) (by decide) (by decide)))).ext E4).other W7 (Or.inr (slot_ne (Or.inl (hw _ (List.mem_of_getElem? (i := 20) rfl))) (Or.inl (hw _ (List.mem_of_getElem? (i := 14) rfl))) (by decide) (t := (.array .int)) (t' := (.array .int)) (by decide) (by decide)))).ext E8).other W11 (Or.inr (slot_ne (Or.inl (hw _ (List.mem_of_getElem? (i := 20) rfl))) (Or.inl (hw _ (List.mem_of_getElem? (i := 16) rfl))) (by decide) (t := (.array .int)) (t' := (.array .int)) (by decide) (by decide)))).ext E12).other W16 (Or.inr (slot_ne (Or.inl (hw _ (List.mem_of_getElem? (i := 20) rfl))) (Or.inl (hw _ (List.mem_of_getElem? (i := 18) rfl))) (by decide) (t := (.array .int)) (t' := (.array .int)) (by decide) (by decide)))).ext E17)
  obtain ⟨T20, h20, X20, e20, W20, st20⟩ := putF X17 hx hZ hown (host := "") (Or.inl (hw _ (List.mem_of_getElem? (i := 19) rfl))) Via.refl e17 fx19 ((fx15.wr W16).ext E17) (Or.inl (hw _ (List.mem_of_getElem? (i := 20) rfl))) (hw _ (List.mem_of_getElem? (i := 3) rfl)) (ty := (.array .int)) (by decide) rfl rfl (g := (mkF m 41 #[.val (.ref a1)] [(.ref b17), (.ref a1)])) rfl rfl (hb hby d1_41)
  have Fw20 := fx19.same W20
  have N20 := Fr.snoc X20 N16 g_a1
  have fx21 := ((((((((Fw3.ext E4).other W7 (Or.inr (slot_ne (Or.inl (hw _ (List.mem_of_getElem? (i := 12) rfl))) (Or.inl (hw _ (List.mem_of_getElem? (i := 14) rfl))) (by decide) (t := (.array .int)) (t' := (.array .int)) (by decide) (by decide)))).ext E8).other W11 (Or.inr (slot_ne (Or.inl (hw _ (List.mem_of_getElem? (i := 12) rfl))) (Or.inl (hw _ (List.mem_of_getElem? (i := 16) rfl))) (by decide) (t := (.array .int)) (t' := (.array .int)) (by decide) (by decide)))).ext E12).other W16 (Or.inr (slot_ne (Or.inl (hw _ (List.mem_of_getElem? (i := 12) rfl))) (Or.inl (hw _ (List.mem_of_getElem? (i := 18) rfl))) (by decide) (t := (.array .int)) (t' := (.array .int)) (by decide) (by decide)))).ext E17).other W20 (Or.inr (slot_ne (Or.inl (hw _ (List.mem_of_getElem? (i := 12) rfl))) (Or.inl (hw _ (List.mem_of_getElem? (i := 20) rfl))) (by decide) (t := (.array .int)) (t' := (.array .int)) (by decide) (by decide))))
  have fx22 := ((((((Fw7.ext E8).other W11 (Or.inr (slot_ne (Or.inl (hw _ (List.mem_of_getElem? (i := 14) rfl))) (Or.inl (hw _ (List.mem_of_getElem? (i := 16) rfl))) (by decide) (t := (.array .int)) (t' := (.array .int)) (by decide) (by decide)))).ext E12).other W16 (Or.inr (slot_ne (Or.inl (hw _ (List.mem_of_getElem? (i := 14) rfl))) (Or.inl (hw _ (List.mem_of_getElem? (i := 18) rfl))) (by decide) (t := (.array .int)) (t' := (.array .int)) (by decide) (by decide)))).ext E17).other W20 (Or.inr (slot_ne (Or.inl (hw _ (List.mem_of_getElem? (i := 14) rfl))) (Or.inl (hw _ (List.mem_of_getElem? (i := 20) rfl))) (by decide) (t := (.array .int)) (t' := (.array .int)) (by decide) (by decide))))
  have fx23 := ((((Fw11.ext E12).other W16 (Or.inr (slot_ne (Or.inl (hw _ (List.mem_of_getElem? (i := 16) rfl))) (Or.inl (hw _ (List.mem_of_getElem? (i := 18) rfl))) (by decide) (t := (.array .int)) (t' := (.array .int)) (by decide) (by decide)))).ext E17).other W20 (Or.inr (slot_ne (Or.inl (hw _ (List.mem_of_getElem? (i := 16) rfl))) (Or.inl (hw _ (List.mem_of_getElem? (i := 20) rfl))) (by decide) (t := (.array .int)) (t' := (.array .int)) (by decide) (by decide))))
  have fx24 := ((Fw16.ext E17).other W20 (Or.inr (slot_ne (Or.inl (hw _ (List.mem_of_getElem? (i := 18) rfl))) (Or.inl (hw _ (List.mem_of_getElem? (i := 20) rfl))) (by decide) (t := (.array .int)) (t' := (.array .int)) (by decide) (by decide))))
  have fx25 := ((((((((((F_count.ext E2).other W3 (Or.inr (slot_ne (Or.inl (hw _ (List.mem_of_getElem? (i := 31) rfl))) (Or.inl (hw _ (List.mem_of_getElem? (i := 12) rfl))) (by decide) (t := .int) (t' := (.array .int)) (by decide) (by decide)))).ext E4).other W7 (Or.inr (slot_ne (Or.inl (hw _ (List.mem_of_getElem? (i := 31) rfl))) (Or.inl (hw _ (List.mem_of_getElem? (i := 14) rfl))) (by decide) (t := .int) (t' := (.array .int)) (by decide) (by decide)))).ext E8).other W11 (Or.inr (slot_ne (Or.inl (hw _ (List.mem_of_getElem? (i := 31) rfl))) (Or.inl (hw _ (List.mem_of_getElem? (i := 16) rfl))) (by decide) (t := .int) (t' := (.array .int)) (by decide) (by decide)))).ext E12).other W16 (Or.inr (slot_ne (Or.inl (hw _ (List.mem_of_getElem? (i := 31) rfl))) (Or.inl (hw _ (List.mem_of_getElem? (i := 18) rfl))) (by decide) (t := .int) (t' := (.array .int)) (by decide) (by decide)))).ext E17).other W20 (Or.inr (slot_ne (Or.inl (hw _ (List.mem_of_getElem? (i := 31) rfl))) (Or.inl (hw _ (List.mem_of_getElem? (i := 20) rfl))) (by decide) (t := .int) (t' := (.array .int)) (by decide) (by decide))))
  have fx26 := (((((((((V_b2.other W3 (Ne.symm ne2_a1)).ext E4).other W7 (Ne.symm ne2_a1)).ext E8).other W11 (Ne.symm ne2_a1)).ext E12).other W16 (Ne.symm ne2_a1)).ext E17).other W20 (Ne.symm ne2_a1))
  have fx27 := (((((((V_b4.other W7 (Ne.symm ne4_a1)).ext E8).other W11 (Ne.symm ne4_a1)).ext E12).other W16 (Ne.symm ne4_a1)).ext E17).other W20 (Ne.symm ne4_a1))
  have fx28 := (((((V_b8.other W11 (Ne.symm ne8_a1)).ext E12).other W16 (Ne.symm ne8_a1)).ext E17).other W20 (Ne.symm ne8_a1))
  have fx29 := (((V_b12.other W16 (Ne.symm ne12_a1)).ext E17).other W20 (Ne.symm ne12_a1))
  obtain ⟨fs, hr, hrun, hended, hW, hsame⟩ := X20.leave (v := none) (fun _ => rfl)
  refine ⟨_, _, pre0 _ ?_, hrun, hended, _, _, rfl, ?_, ⟨_, rfl⟩, hW, hsame.mono (by decide) (by decide)⟩
  · show Steps p.tables e below (s₁.setTop (mkF m 0 #[.val (.ref a1)] [])) _
    refine XS.aloadN X0.here hx rfl (hb hby d1_0) rfl rfl ?_
    show Steps p.tables e below (s₁.setTop (mkF m 1 #[.val (.ref a1)] [(.ref a1)])) _
    refine st1 _ ?_
    show Steps p.tables e below (T1.setTop (mkF m 4 #[.val (.ref a1)] [])) _
    refine XS.aloadN X1.here hx rfl (hb hby d1_4) rfl rfl ?_
    show Steps p.tables e below (T1.setTop (mkF m 5 #[.val (.ref a1)] [(.ref a1)])) _
    refine XS.bipush X1.here hx rfl (hb hby d1_5) ?_
    show Steps p.tables e below (T1.setTop (mkF m 7 #[.val (.ref a1)] [(.int (16 : Int32)), (.ref a1)])) _
    refine st2 _ ?_
    show Steps p.tables e below (T2.setTop (mkF m 9 #[.val (.ref a1)] [(.ref b2), (.ref a1)])) _
    refine st3 _ ?_
    show Steps p.tables e below (T3.setTop (mkF m 12 #[.val (.ref a1)] [])) _
    refine XS.aloadN X3.here hx rfl (hb hby d1_12) rfl rfl ?_
    show Steps p.tables e below (T3.setTop (mkF m 13 #[.val (.ref a1)] [(.ref a1)])) _
    refine XS.bipush X3.here hx rfl (hb hby d1_13) ?_
    show Steps p.tables e below (T3.setTop (mkF m 15 #[.val (.ref a1)] [(.int (16 : Int32)), (.ref a1)])) _
    refine st4 _ ?_
    show Steps p.tables e below (T4.setTop (mkF m 17 #[.val (.ref a1)] [(.ref b4), (.ref a1)])) _
    refine st7 _ ?_
    show Steps p.tables e below (T7.setTop (mkF m 20 #[.val (.ref a1)] [])) _
    refine XS.aloadN X7.here hx rfl (hb hby d1_20) rfl rfl ?_
    show Steps p.tables e below (T7.setTop (mkF m 21 #[.val (.ref a1)] [(.ref a1)])) _
    refine XS.bipush X7.here hx rfl (hb hby d1_21) ?_
    show Steps p.tables e below (T7.setTop (mkF m 23 #[.val (.ref a1)] [(.int (16 : Int32)), (.ref a1)])) _
    refine st8 _ ?_
    show Steps p.tables e below (T8.setTop (mkF m 25 #[.val (.ref a1)] [(.ref b8), (.ref a1)])) _
    refine st11 _ ?_
    show Steps p.tables e below (T11.setTop (mkF m 28 #[.val (.ref a1)] [])) _
    refine XS.aloadN X11.here hx rfl (hb hby d1_28) rfl rfl ?_
    show Steps p.tables e below (T11.setTop (mkF m 29 #[.val (.ref a1)] [(.ref a1)])) _
    refine XS.bipush X11.here hx rfl (hb hby d1_29) ?_
    show Steps p.tables e below (T11.setTop (mkF m 31 #[.val (.ref a1)] [(.int (16 : Int32)), (.ref a1)])) _
    refine st12 _ ?_
    show Steps p.tables e below (T12.setTop (mkF m 33 #[.val (.ref a1)] [(.ref b12), (.ref a1)])) _
    refine st16 _ ?_
    show Steps p.tables e below (T16.setTop (mkF m 36 #[.val (.ref a1)] [])) _
    refine XS.aloadN X16.here hx rfl (hb hby d1_36) rfl rfl ?_
    show Steps p.tables e below (T16.setTop (mkF m 37 #[.val (.ref a1)] [(.ref a1)])) _
    refine XS.bipush X16.here hx rfl (hb hby d1_37) ?_
    show Steps p.tables e below (T16.setTop (mkF m 39 #[.val (.ref a1)] [(.int (16 : Int32)), (.ref a1)])) _
    refine st17 _ ?_
    show Steps p.tables e below (T17.setTop (mkF m 41 #[.val (.ref a1)] [(.ref b17), (.ref a1)])) _
    refine st20 _ ?_
    show Steps p.tables e below (T20.setTop (mkF m 44 #[.val (.ref a1)] [])) _
    exact X20.returnOut hx Bd.returns (hb hby d1_44) hr
  · show Q1 Z a1 h0 n0 _ T20.heap _
    rw [e20]
    exact ⟨rfl, N20, b2, b4, b8, b12, b17, (((((((((((Keep.refl h0 [a1]).ext E2).wr W3 (Or.inl (List.mem_of_getElem? (i := 0) rfl))).ext E4).wr W7 (Or.inl (List.mem_of_getElem? (i := 0) rfl))).ext E8).wr W11 (Or.inl (List.mem_of_getElem? (i := 0) rfl))).ext E12).wr W16 (Or.inl (List.mem_of_getElem? (i := 0) rfl))).ext E17).wr W20 (Or.inl (List.mem_of_getElem? (i := 0) rfl))), ⟨⟨g_a1, g_b2, g_b4, g_b8, g_b12, g_b17⟩, ⟨ne2_a1, ne4_a1, ne8_a1, ne12_a1, ne17_a1⟩, ⟨ne4_b2, ne8_b2, ne12_b2, ne17_b2⟩, ⟨ne8_b4, ne12_b4, ne17_b4⟩, ⟨ne12_b8, ne17_b8⟩, ne17_b12⟩, ⟨(((fx15.wr W16).ext E17).wr W20), fx21, fx22, fx23, fx24, Fw20, fx25, ⟨_, fx26⟩, ⟨_, fx27⟩, ⟨_, fx28⟩, ⟨_, fx29⟩, ⟨_, (V_b17.other W20 (Ne.symm ne17_a1))⟩⟩⟩
theorem ef_4 (m : MethodId) (a1 : Addr) : entryFrame m #[(.ref a1)] 2 = mkF m 0 #[.val (.ref a1), .unset] [] := by first | (simp [entryFrame, mkF, argsToLocals, Value.category]; done) | rfl
def Q4 (h0 : Heap) (n0 : Nat) (v : Option Value) (h : Heap) (L : List Loc) : Prop := v = none ∧ Fr n0 L ∧ h = h0
set_option maxRecDepth 65536 in
set_option maxHeartbeats 40000000 in
theorem rm4 (l : Launch) (Z : State) (a0 : Array Value) (hw : ∀ d ∈ tables_1, d.before a0 Z = true) (ws : List Jvm.Cond) (a1 b1 b2 b3 b4 b5 : Addr) (cnt : Int32) (v1 v2 v3 v4 v5 : List Value) (h0 : Heap) (n0 : Nat) (Z0 : n0 ≤ h0.size) (MM : own_M Z h0 a1 b1 b2 b3 b4 b5 cnt v1 v2 v3 v4 v5) (hcn : ¬ cnt = (16 : Int32)) :
    MetFree l (⟨"com/example/yealm/yealm/ccs/Moves", "grow", "()V"⟩ : MethodName) (head1 (Jvm.Cond.code (⟨"com/example/yealm/yealm/ccs/Moves", "grow", "()V"⟩ : MethodName) prog_17_method_13_code 2 none :: ws) ({ frames := 0, cells := 0, slots := 0, locals := 0 } : Room)) (fun a U => a = #[(.ref a1)] ∧ Z.Warmed39 U.vm ∧ U.heap = h0) (fun _ _ _ _ _ => True) (fun _ U o U' => ∃ v L, o = .returned v ∧ Q4 h0 n0 v U'.heap L ∧ FrameEnd U o U' L ({ frames := 0, cells := 0, slots := 0, locals := 0 } : Room).cells ({ frames := 0, cells := 0, slots := 0, locals := 0 } : Room).slots) := by
  refine MetFree.of_bodySF (plainFor_of_name pn_4) hisR ?_
  intro p e s m args below meth c s₁ Bd hml0 hP hK
  obtain ⟨rfl, hZ, hh⟩ := hP
  have hx := Bd.exec
  have hby := Bd.bytes
  have hml : c.maxLocals = 2 := hml0
  have hown : s.vm.findClass "com/example/yealm/yealm/ccs/Moves" = some m.cls := findClass_of_methodNamed Bd.named
  have hnm := (name_of_methodNamed Bd.named Bd.method).1
  have X0 : Stand p l e ({ frames := 0, cells := 0, slots := 0, locals := 0 } : Room) s m #[(.ref a1)] below meth c s₁ [] 0 0 := Stand.of_body Bd
  have e0 : s₁.heap = h0 := by rw [← hh, Bd.state]; rfl
  have N0 := Fr.nil n0
  have pre0 : ∀ tgt, Steps p.tables e below (s₁.setTop (mkF m 0 #[.val (.ref a1), .unset] [])) tgt → Steps p.tables e below (s₁.setTop (entryFrame m #[(.ref a1)] 2)) tgt := fun tgt k => castTop (ef_4 m a1) k
  obtain ⟨Em, Fb_1, Fb_2, Fb_3, Fb_4, Fb_5, Fc, ⟨kb_1, Vb_1⟩, ⟨kb_2, Vb_2⟩, ⟨kb_3, Vb_3⟩, ⟨kb_4, Vb_4⟩, ⟨kb_5, Vb_5⟩⟩ := MM
  obtain ⟨T1, X1, e1, st1⟩ := getF X0 hx hZ hown (host := "") (Or.inl (hw _ (List.mem_of_getElem? (i := 30) rfl))) Via.refl e0 Fc (g := (mkF m 1 #[.val (.ref a1), .unset] [(.ref a1)])) rfl rfl (hb hby d4_1)
  obtain ⟨T2, X2, e2, st2⟩ := getF X1 hx hZ hown (host := "") (Or.inl (hw _ (List.mem_of_getElem? (i := 11) rfl))) Via.refl e1 Fb_1 (g := (mkF m 5 #[.val (.ref a1), .unset] [(.ref a1), (.int cnt)])) rfl rfl (hb hby d4_5)
  have Vo_3 := Vb_1
  obtain ⟨Cl_3, Ar_3, Kc_3, Sz_3, Nn_3, Hs_3, Gf_3⟩ := Vo_3
  obtain ⟨fs, hr, hrun, hended, hW, hsame⟩ := X2.leave (v := none) (fun _ => rfl)
  refine ⟨_, _, pre0 _ ?_, hrun, hended, _, _, rfl, ?_, ⟨_, rfl⟩, hW, hsame.mono (by decide) (by decide)⟩
  · show Steps p.tables e below (s₁.setTop (mkF m 0 #[.val (.ref a1), .unset] [])) _
    refine XS.aloadN X0.here hx rfl (hb hby d4_0) rfl rfl ?_
    show Steps p.tables e below (s₁.setTop (mkF m 1 #[.val (.ref a1), .unset] [(.ref a1)])) _
    refine st1 _ ?_
    show Steps p.tables e below (T1.setTop (mkF m 4 #[.val (.ref a1), .unset] [(.int cnt)])) _
    refine XS.aloadN X1.here hx rfl (hb hby d4_4) rfl rfl ?_
    show Steps p.tables e below (T1.setTop (mkF m 5 #[.val (.ref a1), .unset] [(.ref a1), (.int cnt)])) _
    refine st2 _ ?_
    show Steps p.tables e below (T2.setTop (mkF m 8 #[.val (.ref a1), .unset] [(.ref b1), (.int cnt)])) _
    refine X2.arraylength hx (by rw [e2]; exact Ar_3.1) (State.isArrayOf_alike hZ.alike Ar_3.2.1) (g := (mkF m 8 #[.val (.ref a1), .unset] [(.ref b1), (.int cnt)])) rfl rfl (hb hby d4_8) _ ?_
    rw [len_of Sz_3 Nn_3]
    show Steps p.tables e below (T2.setTop (mkF m 9 #[.val (.ref a1), .unset] [(.int (16 : Int32)), (.int cnt)])) _
    refine XS.icmpYes X2.here hx rfl (pc0 := 9) (pc' := 81) rfl (hb hby d4_9) rfl (feq hcn).2 (by decide) (by decide) ?_
    show Steps p.tables e below (T2.setTop (mkF m 81 #[.val (.ref a1), .unset] [])) _
    exact X2.returnOut hx Bd.returns (hb hby d4_81) hr
  · show Q4 h0 n0 _ T2.heap _
    rw [e2]
    exact ⟨rfl, N0, rfl⟩
theorem ef_3 (m : MethodId) (a1 : Addr) (x1 : Int32) (x2 : Int32) (x3 : Int32) : entryFrame m #[(.ref a1), (.int x1), (.int x2), (.int x3)] 4 = mkF m 0 #[.val (.ref a1), .val (.int x1), .val (.int x2), .val (.int x3)] [] := by first | (simp [entryFrame, mkF, argsToLocals, Value.category]; done) | rfl
def Q3 (Z : State) (a1 b1 b2 b3 b4 b5 : Addr) (cnt : Int32) (v1 v2 v3 v4 v5 : List Value) (x1 x2 x3 : Int32) (i : Nat) (h0 : Heap) (n0 : Nat) (v : Option Value) (h : Heap) (L : List Loc) : Prop := v = none ∧ Fr n0 L ∧ Keep h0 h [a1, b1, b2, b3, b4, b5] ∧ own_M Z h a1 b1 b2 b3 b4 b5 (cnt + (1 : Int32)) (v1.set i (.int x1)) (v2.set i (.int x2)) (v3.set i (.int x3)) (v4.set i (.int (-1 : Int32))) (v5.set i (.int (-1 : Int32)))
set_option maxRecDepth 65536 in
set_option maxHeartbeats 40000000 in
theorem rm3 (l : Launch) (Z : State) (a0 : Array Value) (hw : ∀ d ∈ tables_1, d.before a0 Z = true) (ws : List Jvm.Cond) (a1 b1 b2 b3 b4 b5 : Addr) (cnt : Int32) (v1 v2 v3 v4 v5 : List Value) (x1 x2 x3 : Int32) (i : Nat) (h0 : Heap) (n0 : Nat) (Z0 : n0 ≤ h0.size) (MM : own_M Z h0 a1 b1 b2 b3 b4 b5 cnt v1 v2 v3 v4 v5) (DD : own_D n0 a1 b1 b2 b3 b4 b5) (hci : cnt.toNatClampNeg = i) (hcr : ¬ cnt < 0 ∧ cnt < 16) (hcn : ¬ cnt = (16 : Int32)) (hl1 : i < v1.length) (hl2 : i < v2.length) (hl3 : i < v3.length) (hl4 : i < v4.length) (hl5 : i < v5.length) :
    MetFree l (⟨"com/example/yealm/yealm/ccs/Moves", "add", "(III)V"⟩ : MethodName) (head1 (Jvm.Cond.code (⟨"com/example/yealm/yealm/ccs/Moves", "add", "(III)V"⟩ : MethodName) prog_17_method_3_code 4 none :: ws) ({ frames := 1, cells := 0, slots := 0, locals := 13 } : Room)) (fun a U => a = #[(.ref a1), (.int x1), (.int x2), (.int x3)] ∧ Z.Warmed39 U.vm ∧ U.heap = h0) (fun _ _ _ _ _ => True) (fun _ U o U' => ∃ v L, o = .returned v ∧ Q3 Z a1 b1 b2 b3 b4 b5 cnt v1 v2 v3 v4 v5 x1 x2 x3 i h0 n0 v U'.heap L ∧ FrameEnd U o U' L ({ frames := 1, cells := 0, slots := 0, locals := 13 } : Room).cells ({ frames := 1, cells := 0, slots := 0, locals := 13 } : Room).slots) := by
  refine MetFree.of_bodySF (plainFor_of_name pn_3) hisR ?_
  intro p e s m args below meth c s₁ Bd hml0 hP hK
  obtain ⟨rfl, hZ, hh⟩ := hP
  have hx := Bd.exec
  have hby := Bd.bytes
  have hml : c.maxLocals = 4 := hml0
  have hown : s.vm.findClass "com/example/yealm/yealm/ccs/Moves" = some m.cls := findClass_of_methodNamed Bd.named
  have hnm := (name_of_methodNamed Bd.named Bd.method).1
  have X0 : Stand p l e ({ frames := 1, cells := 0, slots := 0, locals := 13 } : Room) s m #[(.ref a1), (.int x1), (.int x2), (.int x3)] below meth c s₁ [] 0 0 := Stand.of_body Bd
  have e0 : s₁.heap = h0 := by rw [← hh, Bd.state]; rfl
  have N0 := Fr.nil n0
  have pre0 : ∀ tgt, Steps p.tables e below (s₁.setTop (mkF m 0 #[.val (.ref a1), .val (.int x1), .val (.int x2), .val (.int x3)] [])) tgt → Steps p.tables e below (s₁.setTop (entryFrame m #[(.ref a1), (.int x1), (.int x2), (.int x3)] 4)) tgt := fun tgt k => castTop (ef_3 m a1 x1 x2 x3) k
  have MM' := MM
  have DD' := DD
  obtain ⟨Em, Fb_1, Fb_2, Fb_3, Fb_4, Fb_5, Fc, ⟨kb_1, Vb_1⟩, ⟨kb_2, Vb_2⟩, ⟨kb_3, Vb_3⟩, ⟨kb_4, Vb_4⟩, ⟨kb_5, Vb_5⟩⟩ := MM'
  obtain ⟨⟨g_a1, g_b1, g_b2, g_b3, g_b4, g_b5⟩, ⟨nm1, nm2, nm3, nm4, nm5⟩, ⟨n12, n13, n14, n15⟩, ⟨n23, n24, n25⟩, ⟨n34, n35⟩, n45⟩ := DD'
  obtain ⟨cq1, q1, q1'⟩ := Em.cell
  obtain ⟨_, _, ⟨T1, L1, k1, n1⟩, -, X1, ⟨Lc1, hQ1, l1, y1, z1⟩, st1⟩ := X0.privateBack hx (y := (⟨"com/example/yealm/yealm/ccs/Moves", "grow", "()V"⟩ : MethodName)) hown (mvT hZ (hw _ (List.mem_of_getElem? (i := 26) rfl))) (mvT hZ (hw _ (List.mem_of_getElem? (i := 27) rfl))) (own_selp hZ (hw _ (List.mem_of_getElem? (i := 3) rfl)) (hw _ (List.mem_of_getElem? (i := 28) rfl)) (hw _ (List.mem_of_getElem? (i := 27) rfl)) (by decide)) (Cond.privateMethod_at (mvP hZ (hw _ (List.mem_of_getElem? (i := 28) rfl)) (args := #[]))) (mvT hZ (hw _ (List.mem_of_getElem? (i := 29) rfl))) (by decide) (backOf (W := 0) (rm4 l Z a0 hw [] a1 b1 b2 b3 b4 b5 cnt v1 v2 v3 v4 v5 h0 n0 Z0 MM hcn) hZ (hw _ (List.mem_of_getElem? (i := 29) rfl)) (hw _ (List.mem_of_getElem? (i := 4) rfl)) (by decide) (by decide)) (g := (mkF m 1 #[.val (.ref a1), .val (.int x1), .val (.int x2), .val (.int x3)] [(.ref a1)])) rfl (by rw [hml]; rfl) (Steps.refl _) (a := a1) (by rw [e0]; exact q1) q1' (argsL := []) (rest := []) (lenOf pd_0 rfl) rfl (by show 2 * 0 + _ ≤ _; exact Nat.le_of_eq rfl) (hb hby d3_1) (fun _ _ => ⟨rfl, e0, (by decide : 0 + 0 ≤ _), (by decide : 0 + 0 ≤ _)⟩)
  dsimp only [Pt.U, Pt.locs, Pt.cells, Pt.slots] at X1 l1 y1 z1 st1 hQ1
  subst l1 y1 z1
  obtain ⟨rfl, N1q, e1⟩ := hQ1
  have N1 := Fr.app N0 N1q
  obtain ⟨T2, X2, e2, st2⟩ := getF X1 hx hZ hown (host := "") (Or.inl (hw _ (List.mem_of_getElem? (i := 11) rfl))) Via.refl e1 Fb_1 (g := (mkF m 5 #[.val (.ref a1), .val (.int x1), .val (.int x2), .val (.int x3)] [(.ref a1)])) rfl rfl (hb hby d3_5)
  obtain ⟨T3, X3, e3, st3⟩ := getF X2 hx hZ hown (host := "") (Or.inl (hw _ (List.mem_of_getElem? (i := 30) rfl))) Via.refl e2 Fc (g := (mkF m 9 #[.val (.ref a1), .val (.int x1), .val (.int x2), .val (.int x3)] [(.ref a1), (.ref b1)])) rfl rfl (hb hby d3_9)
  have Vo_4 := Vb_1
  obtain ⟨Cl_4, Ar_4, Kc_4, Sz_4, Nn_4, Hs_4, Gf_4⟩ := Vo_4
  obtain ⟨T5, h5, X5, e5, W5, st5⟩ := stI X3 hx hZ e3 Ar_4 (j := cnt) (inb_of Sz_4 hcr) (g := (mkF m 13 #[.val (.ref a1), .val (.int x1), .val (.int x2), .val (.int x3)] [(.int x1), (.int cnt), (.ref b1)])) rfl rfl (hb hby d3_13)
  have Vs5 : Arv Z h5 b1 kb_1 .int (16 : Int32) (v1.set i (.int x1)) (.int (0 : Int32)) := Arv.set Ar_4 Kc_4 Sz_4 Nn_4 Hs_4 Gf_4 rfl W5 i hci (by first | exact hl1 | simpa using hl1)
  have N5 := Fr.snoc X5 N1 g_b1
  obtain ⟨T6, X6, e6, st6⟩ := getF X5 hx hZ hown (host := "") (Or.inl (hw _ (List.mem_of_getElem? (i := 13) rfl))) Via.refl e5 (Fb_2.other W5 (Or.inl nm1)) (g := (mkF m 15 #[.val (.ref a1), .val (.int x1), .val (.int x2), .val (.int x3)] [(.ref a1)])) rfl rfl (hb hby d3_15)
  obtain ⟨T7, X7, e7, st7⟩ := getF X6 hx hZ hown (host := "") (Or.inl (hw _ (List.mem_of_getElem? (i := 30) rfl))) Via.refl e6 (Fc.other W5 (Or.inl nm1)) (g := (mkF m 19 #[.val (.ref a1), .val (.int x1), .val (.int x2), .val (.int x3)] [(.ref a1), (.ref b2)])) rfl rfl (hb hby d3_19)
  have Vo_8 := (Vb_2.other W5 (Ne.symm n12))
  obtain ⟨Cl_8, Ar_8, Kc_8, Sz_8, Nn_8, Hs_8, Gf_8⟩ := Vo_8
  obtain ⟨T9, h9, X9, e9, W9, st9⟩ := stI X7 hx hZ e7 Ar_8 (j := cnt) (inb_of Sz_8 hcr) (g := (mkF m 23 #[.val (.ref a1), .val (.int x1), .val (.int x2), .val (.int x3)] [(.int x2), (.int cnt), (.ref b2)])) rfl rfl (hb hby d3_23)
  have Vs9 : Arv Z h9 b2 kb_2 .int (16 : Int32) (v2.set i (.int x2)) (.int (0 : Int32)) := Arv.set Ar_8 Kc_8 Sz_8 Nn_8 Hs_8 Gf_8 rfl W9 i hci (by first | exact hl2 | simpa using hl2)
  have N9 := Fr.snoc X9 N5 g_b2
  obtain ⟨T10, X10, e10, st10⟩ := getF X9 hx hZ hown (host := "") (Or.inl (hw _ (List.mem_of_getElem? (i := 15) rfl))) Via.refl e9 ((Fb_3.other W5 (Or.inl nm1)).other W9 (Or.inl nm2)) (g := (mkF m 25 #[.val (.ref a1), .val (.int x1), .val (.int x2), .val (.int x3)] [(.ref a1)])) rfl rfl (hb hby d3_25)
  obtain ⟨T11, X11, e11, st11⟩ := getF X10 hx hZ hown (host := "") (Or.inl (hw _ (List.mem_of_getElem? (i := 30) rfl))) Via.refl e10 ((Fc.other W5 (Or.inl nm1)).other W9 (Or.inl nm2)) (g := (mkF m 29 #[.val (.ref a1), .val (.int x1), .val (.int x2), .val (.int x3)] [(.ref a1), (.ref b3)])) rfl rfl (hb hby d3_29)
  have Vo_12 := ((Vb_3.other W5 (Ne.symm n13)).other W9 (Ne.symm n23))
  obtain ⟨Cl_12, Ar_12, Kc_12, Sz_12, Nn_12, Hs_12, Gf_12⟩ := Vo_12
  obtain ⟨T13, h13, X13, e13, W13, st13⟩ := stI X11 hx hZ e11 Ar_12 (j := cnt) (inb_of Sz_12 hcr) (g := (mkF m 33 #[.val (.ref a1), .val (.int x1), .val (.int x2), .val (.int x3)] [(.int x3), (.int cnt), (.ref b3)])) rfl rfl (hb hby d3_33)
  have Vs13 : Arv Z h13 b3 kb_3 .int (16 : Int32) (v3.set i (.int x3)) (.int (0 : Int32)) := Arv.set Ar_12 Kc_12 Sz_12 Nn_12 Hs_12 Gf_12 rfl W13 i hci (by first | exact hl3 | simpa using hl3)
  have N13 := Fr.snoc X13 N9 g_b3
  have fx14 := (((Fb_4.other W5 (Or.inl nm1)).other W9 (Or.inl nm2)).other W13 (Or.inl nm3))
  obtain ⟨T15, X15, e15, st15⟩ := getF X13 hx hZ hown (host := "") (Or.inl (hw _ (List.mem_of_getElem? (i := 17) rfl))) Via.refl e13 fx14 (g := (mkF m 35 #[.val (.ref a1), .val (.int x1), .val (.int x2), .val (.int x3)] [(.ref a1)])) rfl rfl (hb hby d3_35)
  have fx16 := (((Fc.other W5 (Or.inl nm1)).other W9 (Or.inl nm2)).other W13 (Or.inl nm3))
  obtain ⟨T17, X17, e17, st17⟩ := getF X15 hx hZ hown (host := "") (Or.inl (hw _ (List.mem_of_getElem? (i := 30) rfl))) Via.refl e15 fx16 (g := (mkF m 39 #[.val (.ref a1), .val (.int x1), .val (.int x2), .val (.int x3)] [(.ref a1), (.ref b4)])) rfl rfl (hb hby d3_39)
  have fx19 := (((Vb_4.other W5 (Ne.symm n14)).other W9 (Ne.symm n24)).other W13 (Ne.symm n34))
  have Vo_18 := fx19
  obtain ⟨Cl_18, Ar_18, Kc_18, Sz_18, Nn_18, Hs_18, Gf_18⟩ := Vo_18
  obtain ⟨T20, h20, X20, e20, W20, st20⟩ := stI X17 hx hZ e17 Ar_18 (j := cnt) (inb_of Sz_18 hcr) (g := (mkF m 43 #[.val (.ref a1), .val (.int x1), .val (.int x2), .val (.int x3)] [(.int (-1 : Int32)), (.int cnt), (.ref b4)])) rfl rfl (hb hby d3_43)
  have Vs20 : Arv Z h20 b4 kb_4 .int (16 : Int32) (v4.set i (.int (-1 : Int32))) (.int (0 : Int32)) := Arv.set Ar_18 Kc_18 Sz_18 Nn_18 Hs_18 Gf_18 rfl W20 i hci (by first | exact hl4 | simpa using hl4)
  have N20 := Fr.snoc X20 N13 g_b4
  have fx21 := ((((Fb_5.other W5 (Or.inl nm1)).other W9 (Or.inl nm2)).other W13 (Or.inl nm3)).other W20 (Or.inl nm4))
  obtain ⟨T22, X22, e22, st22⟩ := getF X20 hx hZ hown (host := "") (Or.inl (hw _ (List.mem_of_getElem? (i := 19) rfl))) Via.refl e20 fx21 (g := (mkF m 45 #[.val (.ref a1), .val (.int x1), .val (.int x2), .val (.int x3)] [(.ref a1)])) rfl rfl (hb hby d3_45)
  obtain ⟨T23, X23, e23, st23⟩ := getF X22 hx hZ hown (host := "") (Or.inl (hw _ (List.mem_of_getElem? (i := 30) rfl))) Via.refl e22 (fx16.other W20 (Or.inl nm4)) (g := (mkF m 49 #[.val (.ref a1), .val (.int x1), .val (.int x2), .val (.int x3)] [(.ref a1), (.ref b5)])) rfl rfl (hb hby d3_49)
  have fx25 := ((((Vb_5.other W5 (Ne.symm n15)).other W9 (Ne.symm n25)).other W13 (Ne.symm n35)).other W20 (Ne.symm n45))
  have Vo_24 := fx25
  obtain ⟨Cl_24, Ar_24, Kc_24, Sz_24, Nn_24, Hs_24, Gf_24⟩ := Vo_24
  obtain ⟨T26, h26, X26, e26, W26, st26⟩ := stI X23 hx hZ e23 Ar_24 (j := cnt) (inb_of Sz_24 hcr) (g := (mkF m 53 #[.val (.ref a1), .val (.int x1), .val (.int x2), .val (.int x3)] [(.int (-1 : Int32)), (.int cnt), (.ref b5)])) rfl rfl (hb hby d3_53)
  have Vs26 : Arv Z h26 b5 kb_5 .int (16 : Int32) (v5.set i (.int (-1 : Int32))) (.int (0 : Int32)) := Arv.set Ar_24 Kc_24 Sz_24 Nn_24 Hs_24 Gf_24 rfl W26 i hci (by first | exact hl5 | simpa using hl5)
  have N26 := Fr.snoc X26 N20 g_b5
  obtain ⟨T27, X27, e27, st27⟩ := getF X26 hx hZ hown (host := "") (Or.inl (hw _ (List.mem_of_getElem? (i := 30) rfl))) Via.refl e26 ((fx16.other W20 (Or.inl nm4)).other W26 (Or.inl nm5)) (g := (mkF m 56 #[.val (.ref a1), .val (.int x1), .val (.int x2), .val (.int x3)] [(.ref a1), (.ref a1)])) rfl rfl (hb hby d3_56)
  obtain ⟨T28, h28, X28, e28, W28, st28⟩ := putF X27 hx hZ hown (host := "") (Or.inl (hw _ (List.mem_of_getElem? (i := 30) rfl))) Via.refl e27 ((fx16.other W20 (Or.inl nm4)).other W26 (Or.inl nm5)) (((((Em.wr W5).wr W9).wr W13).wr W20).wr W26) (Or.inl (hw _ (List.mem_of_getElem? (i := 31) rfl))) (hw _ (List.mem_of_getElem? (i := 3) rfl)) (ty := .int) (by decide) rfl rfl (g := (mkF m 61 #[.val (.ref a1), .val (.int x1), .val (.int x2), .val (.int x3)] [(.int (cnt + (1 : Int32))), (.ref a1)])) rfl rfl (hb hby d3_61)
  have Fw28 := ((fx16.other W20 (Or.inl nm4)).other W26 (Or.inl nm5)).same W28
  have N28 := Fr.snoc X28 N26 g_a1
  have fx29 := ((((((Fb_1.other W5 (Or.inl nm1)).other W9 (Or.inl nm2)).other W13 (Or.inl nm3)).other W20 (Or.inl nm4)).other W26 (Or.inl nm5)).other W28 (Or.inr (slot_ne (Or.inl (hw _ (List.mem_of_getElem? (i := 12) rfl))) (Or.inl (hw _ (List.mem_of_getElem? (i := 31) rfl))) (by decide) (t := (.array .int)) (t' := .int) (by decide) (by decide))))
  have fx30 := ((((((Fb_2.other W5 (Or.inl nm1)).other W9 (Or.inl nm2)).other W13 (Or.inl nm3)).other W20 (Or.inl nm4)).other W26 (Or.inl nm5)).other W28 (Or.inr (slot_ne (Or.inl (hw _ (List.mem_of_getElem? (i := 14) rfl))) (Or.inl (hw _ (List.mem_of_getElem? (i := 31) rfl))) (by decide) (t := (.array .int)) (t' := .int) (by decide) (by decide))))
  have fx31 := ((((((Fb_3.other W5 (Or.inl nm1)).other W9 (Or.inl nm2)).other W13 (Or.inl nm3)).other W20 (Or.inl nm4)).other W26 (Or.inl nm5)).other W28 (Or.inr (slot_ne (Or.inl (hw _ (List.mem_of_getElem? (i := 16) rfl))) (Or.inl (hw _ (List.mem_of_getElem? (i := 31) rfl))) (by decide) (t := (.array .int)) (t' := .int) (by decide) (by decide))))
  have fx32 := (((fx14.other W20 (Or.inl nm4)).other W26 (Or.inl nm5)).other W28 (Or.inr (slot_ne (Or.inl (hw _ (List.mem_of_getElem? (i := 18) rfl))) (Or.inl (hw _ (List.mem_of_getElem? (i := 31) rfl))) (by decide) (t := (.array .int)) (t' := .int) (by decide) (by decide))))
  have fx33 := ((fx21.other W26 (Or.inl nm5)).other W28 (Or.inr (slot_ne (Or.inl (hw _ (List.mem_of_getElem? (i := 20) rfl))) (Or.inl (hw _ (List.mem_of_getElem? (i := 31) rfl))) (by decide) (t := (.array .int)) (t' := .int) (by decide) (by decide))))
  have fx34 := (((((Vs5.other W9 n12).other W13 n13).other W20 n14).other W26 n15).other W28 (Ne.symm nm1))
  have fx35 := ((((Vs9.other W13 n23).other W20 n24).other W26 n25).other W28 (Ne.symm nm2))
  have fx36 := (((Vs13.other W20 n34).other W26 n35).other W28 (Ne.symm nm3))
  obtain ⟨fs, hr, hrun, hended, hW, hsame⟩ := X28.leave (v := none) (fun _ => rfl)
  refine ⟨_, _, pre0 _ ?_, hrun, hended, _, _, rfl, ?_, ⟨_, rfl⟩, hW, hsame.mono (by decide) (by decide)⟩
  · show Steps p.tables e below (s₁.setTop (mkF m 0 #[.val (.ref a1), .val (.int x1), .val (.int x2), .val (.int x3)] [])) _
    refine XS.aloadN X0.here hx rfl (hb hby d3_0) rfl rfl ?_
    show Steps p.tables e below (s₁.setTop (mkF m 1 #[.val (.ref a1), .val (.int x1), .val (.int x2), .val (.int x3)] [(.ref a1)])) _
    refine st1.trans ?_
    show Steps p.tables e below (T1.setTop (mkF m 4 #[.val (.ref a1), .val (.int x1), .val (.int x2), .val (.int x3)] [])) _
    refine XS.aloadN X1.here hx rfl (hb hby d3_4) rfl rfl ?_
    show Steps p.tables e below (T1.setTop (mkF m 5 #[.val (.ref a1), .val (.int x1), .val (.int x2), .val (.int x3)] [(.ref a1)])) _
    refine st2 _ ?_
    show Steps p.tables e below (T2.setTop (mkF m 8 #[.val (.ref a1), .val (.int x1), .val (.int x2), .val (.int x3)] [(.ref b1)])) _
    refine XS.aloadN X2.here hx rfl (hb hby d3_8) rfl rfl ?_
    show Steps p.tables e below (T2.setTop (mkF m 9 #[.val (.ref a1), .val (.int x1), .val (.int x2), .val (.int x3)] [(.ref a1), (.ref b1)])) _
    refine st3 _ ?_
    show Steps p.tables e below (T3.setTop (mkF m 12 #[.val (.ref a1), .val (.int x1), .val (.int x2), .val (.int x3)] [(.int cnt), (.ref b1)])) _
    refine XS.iloadN X3.here hx rfl (hb hby d3_12) rfl ?_
    show Steps p.tables e below (T3.setTop (mkF m 13 #[.val (.ref a1), .val (.int x1), .val (.int x2), .val (.int x3)] [(.int x1), (.int cnt), (.ref b1)])) _
    refine st5 _ ?_
    show Steps p.tables e below (T5.setTop (mkF m 14 #[.val (.ref a1), .val (.int x1), .val (.int x2), .val (.int x3)] [])) _
    refine XS.aloadN X5.here hx rfl (hb hby d3_14) rfl rfl ?_
    show Steps p.tables e below (T5.setTop (mkF m 15 #[.val (.ref a1), .val (.int x1), .val (.int x2), .val (.int x3)] [(.ref a1)])) _
    refine st6 _ ?_
    show Steps p.tables e below (T6.setTop (mkF m 18 #[.val (.ref a1), .val (.int x1), .val (.int x2), .val (.int x3)] [(.ref b2)])) _
    refine XS.aloadN X6.here hx rfl (hb hby d3_18) rfl rfl ?_
    show Steps p.tables e below (T6.setTop (mkF m 19 #[.val (.ref a1), .val (.int x1), .val (.int x2), .val (.int x3)] [(.ref a1), (.ref b2)])) _
    refine st7 _ ?_
    show Steps p.tables e below (T7.setTop (mkF m 22 #[.val (.ref a1), .val (.int x1), .val (.int x2), .val (.int x3)] [(.int cnt), (.ref b2)])) _
    refine XS.iloadN X7.here hx rfl (hb hby d3_22) rfl ?_
    show Steps p.tables e below (T7.setTop (mkF m 23 #[.val (.ref a1), .val (.int x1), .val (.int x2), .val (.int x3)] [(.int x2), (.int cnt), (.ref b2)])) _
    refine st9 _ ?_
    show Steps p.tables e below (T9.setTop (mkF m 24 #[.val (.ref a1), .val (.int x1), .val (.int x2), .val (.int x3)] [])) _
    refine XS.aloadN X9.here hx rfl (hb hby d3_24) rfl rfl ?_
    show Steps p.tables e below (T9.setTop (mkF m 25 #[.val (.ref a1), .val (.int x1), .val (.int x2), .val (.int x3)] [(.ref a1)])) _
    refine st10 _ ?_
    show Steps p.tables e below (T10.setTop (mkF m 28 #[.val (.ref a1), .val (.int x1), .val (.int x2), .val (.int x3)] [(.ref b3)])) _
    refine XS.aloadN X10.here hx rfl (hb hby d3_28) rfl rfl ?_
    show Steps p.tables e below (T10.setTop (mkF m 29 #[.val (.ref a1), .val (.int x1), .val (.int x2), .val (.int x3)] [(.ref a1), (.ref b3)])) _
    refine st11 _ ?_
    show Steps p.tables e below (T11.setTop (mkF m 32 #[.val (.ref a1), .val (.int x1), .val (.int x2), .val (.int x3)] [(.int cnt), (.ref b3)])) _
    refine XS.iloadN X11.here hx rfl (hb hby d3_32) rfl ?_
    show Steps p.tables e below (T11.setTop (mkF m 33 #[.val (.ref a1), .val (.int x1), .val (.int x2), .val (.int x3)] [(.int x3), (.int cnt), (.ref b3)])) _
    refine st13 _ ?_
    show Steps p.tables e below (T13.setTop (mkF m 34 #[.val (.ref a1), .val (.int x1), .val (.int x2), .val (.int x3)] [])) _
    refine XS.aloadN X13.here hx rfl (hb hby d3_34) rfl rfl ?_
    show Steps p.tables e below (T13.setTop (mkF m 35 #[.val (.ref a1), .val (.int x1), .val (.int x2), .val (.int x3)] [(.ref a1)])) _
    refine st15 _ ?_
    show Steps p.tables e below (T15.setTop (mkF m 38 #[.val (.ref a1), .val (.int x1), .val (.int x2), .val (.int x3)] [(.ref b4)])) _
    refine XS.aloadN X15.here hx rfl (hb hby d3_38) rfl rfl ?_
    show Steps p.tables e below (T15.setTop (mkF m 39 #[.val (.ref a1), .val (.int x1), .val (.int x2), .val (.int x3)] [(.ref a1), (.ref b4)])) _
    refine st17 _ ?_
    show Steps p.tables e below (T17.setTop (mkF m 42 #[.val (.ref a1), .val (.int x1), .val (.int x2), .val (.int x3)] [(.int cnt), (.ref b4)])) _
    refine XS.iconst X17.here hx rfl (hb hby d3_42) ?_
    show Steps p.tables e below (T17.setTop (mkF m 43 #[.val (.ref a1), .val (.int x1), .val (.int x2), .val (.int x3)] [(.int (-1 : Int32)), (.int cnt), (.ref b4)])) _
    refine st20 _ ?_
    show Steps p.tables e below (T20.setTop (mkF m 44 #[.val (.ref a1), .val (.int x1), .val (.int x2), .val (.int x3)] [])) _
    refine XS.aloadN X20.here hx rfl (hb hby d3_44) rfl rfl ?_
    show Steps p.tables e below (T20.setTop (mkF m 45 #[.val (.ref a1), .val (.int x1), .val (.int x2), .val (.int x3)] [(.ref a1)])) _
    refine st22 _ ?_
    show Steps p.tables e below (T22.setTop (mkF m 48 #[.val (.ref a1), .val (.int x1), .val (.int x2), .val (.int x3)] [(.ref b5)])) _
    refine XS.aloadN X22.here hx rfl (hb hby d3_48) rfl rfl ?_
    show Steps p.tables e below (T22.setTop (mkF m 49 #[.val (.ref a1), .val (.int x1), .val (.int x2), .val (.int x3)] [(.ref a1), (.ref b5)])) _
    refine st23 _ ?_
    show Steps p.tables e below (T23.setTop (mkF m 52 #[.val (.ref a1), .val (.int x1), .val (.int x2), .val (.int x3)] [(.int cnt), (.ref b5)])) _
    refine XS.iconst X23.here hx rfl (hb hby d3_52) ?_
    show Steps p.tables e below (T23.setTop (mkF m 53 #[.val (.ref a1), .val (.int x1), .val (.int x2), .val (.int x3)] [(.int (-1 : Int32)), (.int cnt), (.ref b5)])) _
    refine st26 _ ?_
    show Steps p.tables e below (T26.setTop (mkF m 54 #[.val (.ref a1), .val (.int x1), .val (.int x2), .val (.int x3)] [])) _
    refine XS.aloadN X26.here hx rfl (hb hby d3_54) rfl rfl ?_
    show Steps p.tables e below (T26.setTop (mkF m 55 #[.val (.ref a1), .val (.int x1), .val (.int x2), .val (.int x3)] [(.ref a1)])) _
    refine XS.dup X26.here hx rfl (hb hby d3_55) rfl rfl ?_
    show Steps p.tables e below (T26.setTop (mkF m 56 #[.val (.ref a1), .val (.int x1), .val (.int x2), .val (.int x3)] [(.ref a1), (.ref a1)])) _
    refine st27 _ ?_
    show Steps p.tables e below (T27.setTop (mkF m 59 #[.val (.ref a1), .val (.int x1), .val (.int x2), .val (.int x3)] [(.int cnt), (.ref a1)])) _
    refine XS.iconst X27.here hx rfl (hb hby d3_59) ?_
    show Steps p.tables e below (T27.setTop (mkF m 60 #[.val (.ref a1), .val (.int x1), .val (.int x2), .val (.int x3)] [(.int (1 : Int32)), (.int cnt), (.ref a1)])) _
    refine XS.iadd X27.here hx rfl (hb hby d3_60) rfl ?_
    show Steps p.tables e below (T27.setTop (mkF m 61 #[.val (.ref a1), .val (.int x1), .val (.int x2), .val (.int x3)] [(.int (cnt + (1 : Int32))), (.ref a1)])) _
    refine st28 _ ?_
    show Steps p.tables e below (T28.setTop (mkF m 64 #[.val (.ref a1), .val (.int x1), .val (.int x2), .val (.int x3)] [])) _
    exact X28.returnOut hx Bd.returns (hb hby d3_64) hr
  · show Q3 Z a1 b1 b2 b3 b4 b5 cnt v1 v2 v3 v4 v5 x1 x2 x3 i h0 n0 _ T28.heap _
    rw [e28]
    exact ⟨rfl, N28, (((((((Keep.refl h0 [a1, b1, b2, b3, b4, b5]).wr W5 (Or.inl (List.mem_of_getElem? (i := 1) rfl))).wr W9 (Or.inl (List.mem_of_getElem? (i := 2) rfl))).wr W13 (Or.inl (List.mem_of_getElem? (i := 3) rfl))).wr W20 (Or.inl (List.mem_of_getElem? (i := 4) rfl))).wr W26 (Or.inl (List.mem_of_getElem? (i := 5) rfl))).wr W28 (Or.inl (List.mem_of_getElem? (i := 0) rfl))), ⟨((((((Em.wr W5).wr W9).wr W13).wr W20).wr W26).wr W28), fx29, fx30, fx31, fx32, fx33, Fw28, ⟨_, fx34⟩, ⟨_, fx35⟩, ⟨_, fx36⟩, ⟨_, ((Vs20.other W26 n45).other W28 (Ne.symm nm4))⟩, ⟨_, (Vs26.other W28 (Ne.symm nm5))⟩⟩⟩
theorem ef_5 (m : MethodId) (a1 : Addr) (f : Int32) (s2 : Int32) : entryFrame m #[(.ref a1), (.int f), (.int s2)] 3 = mkF m 0 #[.val (.ref a1), .val (.int f), .val (.int s2)] [] := by first | (simp [entryFrame, mkF, argsToLocals, Value.category]; done) | rfl
def Q5 (Z : State) (a1 b1 b2 b3 b4 b5 : Addr) (cnt : Int32) (v1 v2 v3 v4 v5 : List Value) (i : Nat) (pf sf ps ss : Int32) (h0 : Heap) (n0 : Nat) (v : Option Value) (h : Heap) (L : List Loc) : Prop := v = none ∧ Fr n0 L ∧ Keep h0 h [a1, b1, b2, b3, b4, b5] ∧ own_M Z h a1 b1 b2 b3 b4 b5 (cnt + (1 : Int32)) (v1.set i (.int (0 : Int32))) (v2.set i (.int pf)) (v3.set i (.int sf)) (v4.set i (.int ps)) (v5.set i (.int ss))
set_option maxRecDepth 65536 in
set_option maxHeartbeats 40000000 in
theorem rm5 (l : Launch) (Z : State) (a0 : Array Value) (hw : ∀ d ∈ tables_1, d.before a0 Z = true) (ws : List Jvm.Cond) (a1 b1 b2 b3 b4 b5 : Addr) (cnt : Int32) (v1 v2 v3 v4 v5 : List Value) (f s2 : Int32) (i : Nat) (pf sf ps ss : Int32) (h0 : Heap) (n0 : Nat) (Z0 : n0 ≤ h0.size) (MM : own_M Z h0 a1 b1 b2 b3 b4 b5 cnt v1 v2 v3 v4 v5) (DD : own_D n0 a1 b1 b2 b3 b4 b5) (hci : cnt.toNatClampNeg = i) (hcr : ¬ cnt < 0 ∧ cnt < 16) (hcn : ¬ cnt = (16 : Int32)) (hl1 : i < v1.length) (hl2 : i < v2.length) (hl3 : i < v3.length) (hl4 : i < v4.length) (hl5 : i < v5.length) (hrf : ¬ f < 0 ∧ f < 16) (hrs : ¬ s2 < 0 ∧ s2 < 16) (ef2 : v2.getD f.toNatClampNeg (.int (0 : Int32)) = .int pf) (ef3 : v3.getD f.toNatClampNeg (.int (0 : Int32)) = .int sf) (es2 : (v2.set i (.int pf)).getD s2.toNatClampNeg (.int (0 : Int32)) = .int ps) (es3 : (v3.set i (.int sf)).getD s2.toNatClampNeg (.int (0 : Int32)) = .int ss) :
    MetFree l (⟨"com/example/yealm/yealm/ccs/Moves", "addHandshake", "(II)V"⟩ : MethodName) (head1 (Jvm.Cond.code (⟨"com/example/yealm/yealm/ccs/Moves", "addHandshake", "(II)V"⟩ : MethodName) prog_17_method_4_code 3 none :: ws) ({ frames := 1, cells := 0, slots := 0, locals := 13 } : Room)) (fun a U => a = #[(.ref a1), (.int f), (.int s2)] ∧ Z.Warmed39 U.vm ∧ U.heap = h0) (fun _ _ _ _ _ => True) (fun _ U o U' => ∃ v L, o = .returned v ∧ Q5 Z a1 b1 b2 b3 b4 b5 cnt v1 v2 v3 v4 v5 i pf sf ps ss h0 n0 v U'.heap L ∧ FrameEnd U o U' L ({ frames := 1, cells := 0, slots := 0, locals := 13 } : Room).cells ({ frames := 1, cells := 0, slots := 0, locals := 13 } : Room).slots) := by
  refine MetFree.of_bodySF (plainFor_of_name pn_5) hisR ?_
  intro p e s m args below meth c s₁ Bd hml0 hP hK
  obtain ⟨rfl, hZ, hh⟩ := hP
  have hx := Bd.exec
  have hby := Bd.bytes
  have hml : c.maxLocals = 3 := hml0
  have hown : s.vm.findClass "com/example/yealm/yealm/ccs/Moves" = some m.cls := findClass_of_methodNamed Bd.named
  have hnm := (name_of_methodNamed Bd.named Bd.method).1
  have X0 : Stand p l e ({ frames := 1, cells := 0, slots := 0, locals := 13 } : Room) s m #[(.ref a1), (.int f), (.int s2)] below meth c s₁ [] 0 0 := Stand.of_body Bd
  have e0 : s₁.heap = h0 := by rw [← hh, Bd.state]; rfl
  have N0 := Fr.nil n0
  have pre0 : ∀ tgt, Steps p.tables e below (s₁.setTop (mkF m 0 #[.val (.ref a1), .val (.int f), .val (.int s2)] [])) tgt → Steps p.tables e below (s₁.setTop (entryFrame m #[(.ref a1), (.int f), (.int s2)] 3)) tgt := fun tgt k => castTop (ef_5 m a1 f s2) k
  have MM' := MM
  have DD' := DD
  obtain ⟨Em, Fb_1, Fb_2, Fb_3, Fb_4, Fb_5, Fc, ⟨kb_1, Vb_1⟩, ⟨kb_2, Vb_2⟩, ⟨kb_3, Vb_3⟩, ⟨kb_4, Vb_4⟩, ⟨kb_5, Vb_5⟩⟩ := MM'
  obtain ⟨⟨g_a1, g_b1, g_b2, g_b3, g_b4, g_b5⟩, ⟨nm1, nm2, nm3, nm4, nm5⟩, ⟨n12, n13, n14, n15⟩, ⟨n23, n24, n25⟩, ⟨n34, n35⟩, n45⟩ := DD'
  obtain ⟨cq1, q1, q1'⟩ := Em.cell
  obtain ⟨_, _, ⟨T1, L1, k1, n1⟩, -, X1, ⟨Lc1, hQ1, l1, y1, z1⟩, st1⟩ := X0.privateBack hx (y := (⟨"com/example/yealm/yealm/ccs/Moves", "grow", "()V"⟩ : MethodName)) hown (mvT hZ (hw _ (List.mem_of_getElem? (i := 26) rfl))) (mvT hZ (hw _ (List.mem_of_getElem? (i := 27) rfl))) (own_selp hZ (hw _ (List.mem_of_getElem? (i := 3) rfl)) (hw _ (List.mem_of_getElem? (i := 28) rfl)) (hw _ (List.mem_of_getElem? (i := 27) rfl)) (by decide)) (Cond.privateMethod_at (mvP hZ (hw _ (List.mem_of_getElem? (i := 28) rfl)) (args := #[]))) (mvT hZ (hw _ (List.mem_of_getElem? (i := 29) rfl))) (by decide) (backOf (W := 0) (rm4 l Z a0 hw [] a1 b1 b2 b3 b4 b5 cnt v1 v2 v3 v4 v5 h0 n0 Z0 MM hcn) hZ (hw _ (List.mem_of_getElem? (i := 29) rfl)) (hw _ (List.mem_of_getElem? (i := 4) rfl)) (by decide) (by decide)) (g := (mkF m 1 #[.val (.ref a1), .val (.int f), .val (.int s2)] [(.ref a1)])) rfl (by rw [hml]; rfl) (Steps.refl _) (a := a1) (by rw [e0]; exact q1) q1' (argsL := []) (rest := []) (lenOf pd_0 rfl) rfl (by show 2 * 0 + _ ≤ _; exact Nat.le_of_eq rfl) (hb hby d5_1) (fun _ _ => ⟨rfl, e0, (by decide : 0 + 0 ≤ _), (by decide : 0 + 0 ≤ _)⟩)
  dsimp only [Pt.U, Pt.locs, Pt.cells, Pt.slots] at X1 l1 y1 z1 st1 hQ1
  subst l1 y1 z1
  obtain ⟨rfl, N1q, e1⟩ := hQ1
  have N1 := Fr.app N0 N1q
  obtain ⟨T2, X2, e2, st2⟩ := getF X1 hx hZ hown (host := "") (Or.inl (hw _ (List.mem_of_getElem? (i := 11) rfl))) Via.refl e1 Fb_1 (g := (mkF m 5 #[.val (.ref a1), .val (.int f), .val (.int s2)] [(.ref a1)])) rfl rfl (hb hby d5_5)
  obtain ⟨T3, X3, e3, st3⟩ := getF X2 hx hZ hown (host := "") (Or.inl (hw _ (List.mem_of_getElem? (i := 30) rfl))) Via.refl e2 Fc (g := (mkF m 9 #[.val (.ref a1), .val (.int f), .val (.int s2)] [(.ref a1), (.ref b1)])) rfl rfl (hb hby d5_9)
  have Vo_4 := Vb_1
  obtain ⟨Cl_4, Ar_4, Kc_4, Sz_4, Nn_4, Hs_4, Gf_4⟩ := Vo_4
  obtain ⟨T5, h5, X5, e5, W5, st5⟩ := stI X3 hx hZ e3 Ar_4 (j := cnt) (inb_of Sz_4 hcr) (g := (mkF m 13 #[.val (.ref a1), .val (.int f), .val (.int s2)] [(.int (0 : Int32)), (.int cnt), (.ref b1)])) rfl rfl (hb hby d5_13)
  have Vs5 : Arv Z h5 b1 kb_1 .int (16 : Int32) (v1.set i (.int (0 : Int32))) (.int (0 : Int32)) := Arv.set Ar_4 Kc_4 Sz_4 Nn_4 Hs_4 Gf_4 rfl W5 i hci (by first | exact hl1 | simpa using hl1)
  have N5 := Fr.snoc X5 N1 g_b1
  obtain ⟨T6, X6, e6, st6⟩ := getF X5 hx hZ hown (host := "") (Or.inl (hw _ (List.mem_of_getElem? (i := 13) rfl))) Via.refl e5 (Fb_2.other W5 (Or.inl nm1)) (g := (mkF m 15 #[.val (.ref a1), .val (.int f), .val (.int s2)] [(.ref a1)])) rfl rfl (hb hby d5_15)
  obtain ⟨T7, X7, e7, st7⟩ := getF X6 hx hZ hown (host := "") (Or.inl (hw _ (List.mem_of_getElem? (i := 30) rfl))) Via.refl e6 (Fc.other W5 (Or.inl nm1)) (g := (mkF m 19 #[.val (.ref a1), .val (.int f), .val (.int s2)] [(.ref a1), (.ref b2)])) rfl rfl (hb hby d5_19)
  obtain ⟨T8, X8, e8, st8⟩ := getF X7 hx hZ hown (host := "") (Or.inl (hw _ (List.mem_of_getElem? (i := 13) rfl))) Via.refl e7 (Fb_2.other W5 (Or.inl nm1)) (g := (mkF m 23 #[.val (.ref a1), .val (.int f), .val (.int s2)] [(.ref a1), (.int cnt), (.ref b2)])) rfl rfl (hb hby d5_23)
  have Vo_9 := (Vb_2.other W5 (Ne.symm n12))
  obtain ⟨Cl_9, Ar_9, Kc_9, Sz_9, Nn_9, Hs_9, Gf_9⟩ := Vo_9
  have Vo_10 := (Vb_2.other W5 (Ne.symm n12))
  obtain ⟨Cl_10, Ar_10, Kc_10, Sz_10, Nn_10, Hs_10, Gf_10⟩ := Vo_10
  obtain ⟨T11, h11, X11, e11, W11, st11⟩ := stI X8 hx hZ e8 Ar_10 (j := cnt) (inb_of Sz_10 hcr) (g := (mkF m 28 #[.val (.ref a1), .val (.int f), .val (.int s2)] [(.int pf), (.int cnt), (.ref b2)])) rfl rfl (hb hby d5_28)
  have Vs11 : Arv Z h11 b2 kb_2 .int (16 : Int32) (v2.set i (.int pf)) (.int (0 : Int32)) := Arv.set Ar_10 Kc_10 Sz_10 Nn_10 Hs_10 Gf_10 rfl W11 i hci (by first | exact hl2 | simpa using hl2)
  have N11 := Fr.snoc X11 N5 g_b2
  obtain ⟨T12, X12, e12, st12⟩ := getF X11 hx hZ hown (host := "") (Or.inl (hw _ (List.mem_of_getElem? (i := 15) rfl))) Via.refl e11 ((Fb_3.other W5 (Or.inl nm1)).other W11 (Or.inl nm2)) (g := (mkF m 30 #[.val (.ref a1), .val (.int f), .val (.int s2)] [(.ref a1)])) rfl rfl (hb hby d5_30)
  obtain ⟨T13, X13, e13, st13⟩ := getF X12 hx hZ hown (host := "") (Or.inl (hw _ (List.mem_of_getElem? (i := 30) rfl))) Via.refl e12 ((Fc.other W5 (Or.inl nm1)).other W11 (Or.inl nm2)) (g := (mkF m 34 #[.val (.ref a1), .val (.int f), .val (.int s2)] [(.ref a1), (.ref b3)])) rfl rfl (hb hby d5_34)
  obtain ⟨T14, X14, e14, st14⟩ := getF X13 hx hZ hown (host := "") (Or.inl (hw _ (List.mem_of_getElem? (i := 15) rfl))) Via.refl e13 ((Fb_3.other W5 (Or.inl nm1)).other W11 (Or.inl nm2)) (g := (mkF m 38 #[.val (.ref a1), .val (.int f), .val (.int s2)] [(.ref a1), (.int cnt), (.ref b3)])) rfl rfl (hb hby d5_38)
  have Vo_15 := ((Vb_3.other W5 (Ne.symm n13)).other W11 (Ne.symm n23))
  obtain ⟨Cl_15, Ar_15, Kc_15, Sz_15, Nn_15, Hs_15, Gf_15⟩ := Vo_15
  have Vo_16 := ((Vb_3.other W5 (Ne.symm n13)).other W11 (Ne.symm n23))
  obtain ⟨Cl_16, Ar_16, Kc_16, Sz_16, Nn_16, Hs_16, Gf_16⟩ := Vo_16
  obtain ⟨T17, h17, X17, e17, W17, st17⟩ := stI X14 hx hZ e14 Ar_16 (j := cnt) (inb_of Sz_16 hcr) (g := (mkF m 43 #[.val (.ref a1), .val (.int f), .val (.int s2)] [(.int sf), (.int cnt), (.ref b3)])) rfl rfl (hb hby d5_43)
  have Vs17 : Arv Z h17 b3 kb_3 .int (16 : Int32) (v3.set i (.int sf)) (.int (0 : Int32)) := Arv.set Ar_16 Kc_16 Sz_16 Nn_16 Hs_16 Gf_16 rfl W17 i hci (by first | exact hl3 | simpa using hl3)
  have N17 := Fr.snoc X17 N11 g_b3
  have fx18 := (((Fb_4.other W5 (Or.inl nm1)).other W11 (Or.inl nm2)).other W17 (Or.inl nm3))
  obtain ⟨T19, X19, e19, st19⟩ := getF X17 hx hZ hown (host := "") (Or.inl (hw _ (List.mem_of_getElem? (i := 17) rfl))) Via.refl e17 fx18 (g := (mkF m 45 #[.val (.ref a1), .val (.int f), .val (.int s2)] [(.ref a1)])) rfl rfl (hb hby d5_45)
  have fx20 := (((Fc.other W5 (Or.inl nm1)).other W11 (Or.inl nm2)).other W17 (Or.inl nm3))
  obtain ⟨T21, X21, e21, st21⟩ := getF X19 hx hZ hown (host := "") (Or.inl (hw _ (List.mem_of_getElem? (i := 30) rfl))) Via.refl e19 fx20 (g := (mkF m 49 #[.val (.ref a1), .val (.int f), .val (.int s2)] [(.ref a1), (.ref b4)])) rfl rfl (hb hby d5_49)
  have fx22 := (((Fb_2.other W5 (Or.inl nm1)).other W11 (Or.inl nm2)).other W17 (Or.inl nm3))
  obtain ⟨T23, X23, e23, st23⟩ := getF X21 hx hZ hown (host := "") (Or.inl (hw _ (List.mem_of_getElem? (i := 13) rfl))) Via.refl e21 fx22 (g := (mkF m 53 #[.val (.ref a1), .val (.int f), .val (.int s2)] [(.ref a1), (.int cnt), (.ref b4)])) rfl rfl (hb hby d5_53)
  have Vo_24 := (Vs11.other W17 n23)
  obtain ⟨Cl_24, Ar_24, Kc_24, Sz_24, Nn_24, Hs_24, Gf_24⟩ := Vo_24
  have fx26 := (((Vb_4.other W5 (Ne.symm n14)).other W11 (Ne.symm n24)).other W17 (Ne.symm n34))
  have Vo_25 := fx26
  obtain ⟨Cl_25, Ar_25, Kc_25, Sz_25, Nn_25, Hs_25, Gf_25⟩ := Vo_25
  obtain ⟨T27, h27, X27, e27, W27, st27⟩ := stI X23 hx hZ e23 Ar_25 (j := cnt) (inb_of Sz_25 hcr) (g := (mkF m 58 #[.val (.ref a1), .val (.int f), .val (.int s2)] [(.int ps), (.int cnt), (.ref b4)])) rfl rfl (hb hby d5_58)
  have Vs27 : Arv Z h27 b4 kb_4 .int (16 : Int32) (v4.set i (.int ps)) (.int (0 : Int32)) := Arv.set Ar_25 Kc_25 Sz_25 Nn_25 Hs_25 Gf_25 rfl W27 i hci (by first | exact hl4 | simpa using hl4)
  have N27 := Fr.snoc X27 N17 g_b4
  have fx28 := ((((Fb_5.other W5 (Or.inl nm1)).other W11 (Or.inl nm2)).other W17 (Or.inl nm3)).other W27 (Or.inl nm4))
  obtain ⟨T29, X29, e29, st29⟩ := getF X27 hx hZ hown (host := "") (Or.inl (hw _ (List.mem_of_getElem? (i := 19) rfl))) Via.refl e27 fx28 (g := (mkF m 60 #[.val (.ref a1), .val (.int f), .val (.int s2)] [(.ref a1)])) rfl rfl (hb hby d5_60)
  obtain ⟨T30, X30, e30, st30⟩ := getF X29 hx hZ hown (host := "") (Or.inl (hw _ (List.mem_of_getElem? (i := 30) rfl))) Via.refl e29 (fx20.other W27 (Or.inl nm4)) (g := (mkF m 64 #[.val (.ref a1), .val (.int f), .val (.int s2)] [(.ref a1), (.ref b5)])) rfl rfl (hb hby d5_64)
  have fx31 := ((((Fb_3.other W5 (Or.inl nm1)).other W11 (Or.inl nm2)).other W17 (Or.inl nm3)).other W27 (Or.inl nm4))
  obtain ⟨T32, X32, e32, st32⟩ := getF X30 hx hZ hown (host := "") (Or.inl (hw _ (List.mem_of_getElem? (i := 15) rfl))) Via.refl e30 fx31 (g := (mkF m 68 #[.val (.ref a1), .val (.int f), .val (.int s2)] [(.ref a1), (.int cnt), (.ref b5)])) rfl rfl (hb hby d5_68)
  have Vo_33 := (Vs17.other W27 n34)
  obtain ⟨Cl_33, Ar_33, Kc_33, Sz_33, Nn_33, Hs_33, Gf_33⟩ := Vo_33
  have fx35 := ((((Vb_5.other W5 (Ne.symm n15)).other W11 (Ne.symm n25)).other W17 (Ne.symm n35)).other W27 (Ne.symm n45))
  have Vo_34 := fx35
  obtain ⟨Cl_34, Ar_34, Kc_34, Sz_34, Nn_34, Hs_34, Gf_34⟩ := Vo_34
  obtain ⟨T36, h36, X36, e36, W36, st36⟩ := stI X32 hx hZ e32 Ar_34 (j := cnt) (inb_of Sz_34 hcr) (g := (mkF m 73 #[.val (.ref a1), .val (.int f), .val (.int s2)] [(.int ss), (.int cnt), (.ref b5)])) rfl rfl (hb hby d5_73)
  have Vs36 : Arv Z h36 b5 kb_5 .int (16 : Int32) (v5.set i (.int ss)) (.int (0 : Int32)) := Arv.set Ar_34 Kc_34 Sz_34 Nn_34 Hs_34 Gf_34 rfl W36 i hci (by first | exact hl5 | simpa using hl5)
  have N36 := Fr.snoc X36 N27 g_b5
  obtain ⟨T37, X37, e37, st37⟩ := getF X36 hx hZ hown (host := "") (Or.inl (hw _ (List.mem_of_getElem? (i := 30) rfl))) Via.refl e36 ((fx20.other W27 (Or.inl nm4)).other W36 (Or.inl nm5)) (g := (mkF m 76 #[.val (.ref a1), .val (.int f), .val (.int s2)] [(.ref a1), (.ref a1)])) rfl rfl (hb hby d5_76)
  obtain ⟨T38, h38, X38, e38, W38, st38⟩ := putF X37 hx hZ hown (host := "") (Or.inl (hw _ (List.mem_of_getElem? (i := 30) rfl))) Via.refl e37 ((fx20.other W27 (Or.inl nm4)).other W36 (Or.inl nm5)) (((((Em.wr W5).wr W11).wr W17).wr W27).wr W36) (Or.inl (hw _ (List.mem_of_getElem? (i := 31) rfl))) (hw _ (List.mem_of_getElem? (i := 3) rfl)) (ty := .int) (by decide) rfl rfl (g := (mkF m 81 #[.val (.ref a1), .val (.int f), .val (.int s2)] [(.int (cnt + (1 : Int32))), (.ref a1)])) rfl rfl (hb hby d5_81)
  have Fw38 := ((fx20.other W27 (Or.inl nm4)).other W36 (Or.inl nm5)).same W38
  have N38 := Fr.snoc X38 N36 g_a1
  have fx39 := ((((((Fb_1.other W5 (Or.inl nm1)).other W11 (Or.inl nm2)).other W17 (Or.inl nm3)).other W27 (Or.inl nm4)).other W36 (Or.inl nm5)).other W38 (Or.inr (slot_ne (Or.inl (hw _ (List.mem_of_getElem? (i := 12) rfl))) (Or.inl (hw _ (List.mem_of_getElem? (i := 31) rfl))) (by decide) (t := (.array .int)) (t' := .int) (by decide) (by decide))))
  have fx40 := (((fx22.other W27 (Or.inl nm4)).other W36 (Or.inl nm5)).other W38 (Or.inr (slot_ne (Or.inl (hw _ (List.mem_of_getElem? (i := 14) rfl))) (Or.inl (hw _ (List.mem_of_getElem? (i := 31) rfl))) (by decide) (t := (.array .int)) (t' := .int) (by decide) (by decide))))
  have fx41 := ((fx31.other W36 (Or.inl nm5)).other W38 (Or.inr (slot_ne (Or.inl (hw _ (List.mem_of_getElem? (i := 16) rfl))) (Or.inl (hw _ (List.mem_of_getElem? (i := 31) rfl))) (by decide) (t := (.array .int)) (t' := .int) (by decide) (by decide))))
  have fx42 := (((fx18.other W27 (Or.inl nm4)).other W36 (Or.inl nm5)).other W38 (Or.inr (slot_ne (Or.inl (hw _ (List.mem_of_getElem? (i := 18) rfl))) (Or.inl (hw _ (List.mem_of_getElem? (i := 31) rfl))) (by decide) (t := (.array .int)) (t' := .int) (by decide) (by decide))))
  have fx43 := ((fx28.other W36 (Or.inl nm5)).other W38 (Or.inr (slot_ne (Or.inl (hw _ (List.mem_of_getElem? (i := 20) rfl))) (Or.inl (hw _ (List.mem_of_getElem? (i := 31) rfl))) (by decide) (t := (.array .int)) (t' := .int) (by decide) (by decide))))
  have fx44 := (((((Vs5.other W11 n12).other W17 n13).other W27 n14).other W36 n15).other W38 (Ne.symm nm1))
  have fx45 := ((((Vs11.other W17 n23).other W27 n24).other W36 n25).other W38 (Ne.symm nm2))
  have fx46 := (((Vs17.other W27 n34).other W36 n35).other W38 (Ne.symm nm3))
  obtain ⟨fs, hr, hrun, hended, hW, hsame⟩ := X38.leave (v := none) (fun _ => rfl)
  refine ⟨_, _, pre0 _ ?_, hrun, hended, _, _, rfl, ?_, ⟨_, rfl⟩, hW, hsame.mono (by decide) (by decide)⟩
  · show Steps p.tables e below (s₁.setTop (mkF m 0 #[.val (.ref a1), .val (.int f), .val (.int s2)] [])) _
    refine XS.aloadN X0.here hx rfl (hb hby d5_0) rfl rfl ?_
    show Steps p.tables e below (s₁.setTop (mkF m 1 #[.val (.ref a1), .val (.int f), .val (.int s2)] [(.ref a1)])) _
    refine st1.trans ?_
    show Steps p.tables e below (T1.setTop (mkF m 4 #[.val (.ref a1), .val (.int f), .val (.int s2)] [])) _
    refine XS.aloadN X1.here hx rfl (hb hby d5_4) rfl rfl ?_
    show Steps p.tables e below (T1.setTop (mkF m 5 #[.val (.ref a1), .val (.int f), .val (.int s2)] [(.ref a1)])) _
    refine st2 _ ?_
    show Steps p.tables e below (T2.setTop (mkF m 8 #[.val (.ref a1), .val (.int f), .val (.int s2)] [(.ref b1)])) _
    refine XS.aloadN X2.here hx rfl (hb hby d5_8) rfl rfl ?_
    show Steps p.tables e below (T2.setTop (mkF m 9 #[.val (.ref a1), .val (.int f), .val (.int s2)] [(.ref a1), (.ref b1)])) _
    refine st3 _ ?_
    show Steps p.tables e below (T3.setTop (mkF m 12 #[.val (.ref a1), .val (.int f), .val (.int s2)] [(.int cnt), (.ref b1)])) _
    refine XS.iconst X3.here hx rfl (hb hby d5_12) ?_
    show Steps p.tables e below (T3.setTop (mkF m 13 #[.val (.ref a1), .val (.int f), .val (.int s2)] [(.int (0 : Int32)), (.int cnt), (.ref b1)])) _
    refine st5 _ ?_
    show Steps p.tables e below (T5.setTop (mkF m 14 #[.val (.ref a1), .val (.int f), .val (.int s2)] [])) _
    refine XS.aloadN X5.here hx rfl (hb hby d5_14) rfl rfl ?_
    show Steps p.tables e below (T5.setTop (mkF m 15 #[.val (.ref a1), .val (.int f), .val (.int s2)] [(.ref a1)])) _
    refine st6 _ ?_
    show Steps p.tables e below (T6.setTop (mkF m 18 #[.val (.ref a1), .val (.int f), .val (.int s2)] [(.ref b2)])) _
    refine XS.aloadN X6.here hx rfl (hb hby d5_18) rfl rfl ?_
    show Steps p.tables e below (T6.setTop (mkF m 19 #[.val (.ref a1), .val (.int f), .val (.int s2)] [(.ref a1), (.ref b2)])) _
    refine st7 _ ?_
    show Steps p.tables e below (T7.setTop (mkF m 22 #[.val (.ref a1), .val (.int f), .val (.int s2)] [(.int cnt), (.ref b2)])) _
    refine XS.aloadN X7.here hx rfl (hb hby d5_22) rfl rfl ?_
    show Steps p.tables e below (T7.setTop (mkF m 23 #[.val (.ref a1), .val (.int f), .val (.int s2)] [(.ref a1), (.int cnt), (.ref b2)])) _
    refine st8 _ ?_
    show Steps p.tables e below (T8.setTop (mkF m 26 #[.val (.ref a1), .val (.int f), .val (.int s2)] [(.ref b2), (.int cnt), (.ref b2)])) _
    refine XS.iloadN X8.here hx rfl (hb hby d5_26) rfl ?_
    show Steps p.tables e below (T8.setTop (mkF m 27 #[.val (.ref a1), .val (.int f), .val (.int s2)] [(.int f), (.ref b2), (.int cnt), (.ref b2)])) _
    refine X8.iaload hx (j := f) (v := (.int pf)) (by rw [e8]; exact Ar_9.1) (State.isArrayOf_alike hZ.alike Ar_9.2.1) Ar_9.2.2 (inb_of Sz_9 hrf) (Has.at Hs_9 (inb_of Sz_9 hrf) ef2) (g := (mkF m 27 #[.val (.ref a1), .val (.int f), .val (.int s2)] [(.int f), (.ref b2), (.int cnt), (.ref b2)])) rfl rfl (hb hby d5_27) _ ?_
    show Steps p.tables e below (T8.setTop (mkF m 28 #[.val (.ref a1), .val (.int f), .val (.int s2)] [(.int pf), (.int cnt), (.ref b2)])) _
    refine st11 _ ?_
    show Steps p.tables e below (T11.setTop (mkF m 29 #[.val (.ref a1), .val (.int f), .val (.int s2)] [])) _
    refine XS.aloadN X11.here hx rfl (hb hby d5_29) rfl rfl ?_
    show Steps p.tables e below (T11.setTop (mkF m 30 #[.val (.ref a1), .val (.int f), .val (.int s2)] [(.ref a1)])) _
    refine st12 _ ?_
    show Steps p.tables e below (T12.setTop (mkF m 33 #[.val (.ref a1), .val (.int f), .val (.int s2)] [(.ref b3)])) _
    refine XS.aloadN X12.here hx rfl (hb hby d5_33) rfl rfl ?_
    show Steps p.tables e below (T12.setTop (mkF m 34 #[.val (.ref a1), .val (.int f), .val (.int s2)] [(.ref a1), (.ref b3)])) _
    refine st13 _ ?_
    show Steps p.tables e below (T13.setTop (mkF m 37 #[.val (.ref a1), .val (.int f), .val (.int s2)] [(.int cnt), (.ref b3)])) _
    refine XS.aloadN X13.here hx rfl (hb hby d5_37) rfl rfl ?_
    show Steps p.tables e below (T13.setTop (mkF m 38 #[.val (.ref a1), .val (.int f), .val (.int s2)] [(.ref a1), (.int cnt), (.ref b3)])) _
    refine st14 _ ?_
    show Steps p.tables e below (T14.setTop (mkF m 41 #[.val (.ref a1), .val (.int f), .val (.int s2)] [(.ref b3), (.int cnt), (.ref b3)])) _
    refine XS.iloadN X14.here hx rfl (hb hby d5_41) rfl ?_
    show Steps p.tables e below (T14.setTop (mkF m 42 #[.val (.ref a1), .val (.int f), .val (.int s2)] [(.int f), (.ref b3), (.int cnt), (.ref b3)])) _
    refine X14.iaload hx (j := f) (v := (.int sf)) (by rw [e14]; exact Ar_15.1) (State.isArrayOf_alike hZ.alike Ar_15.2.1) Ar_15.2.2 (inb_of Sz_15 hrf) (Has.at Hs_15 (inb_of Sz_15 hrf) ef3) (g := (mkF m 42 #[.val (.ref a1), .val (.int f), .val (.int s2)] [(.int f), (.ref b3), (.int cnt), (.ref b3)])) rfl rfl (hb hby d5_42) _ ?_
    show Steps p.tables e below (T14.setTop (mkF m 43 #[.val (.ref a1), .val (.int f), .val (.int s2)] [(.int sf), (.int cnt), (.ref b3)])) _
    refine st17 _ ?_
    show Steps p.tables e below (T17.setTop (mkF m 44 #[.val (.ref a1), .val (.int f), .val (.int s2)] [])) _
    refine XS.aloadN X17.here hx rfl (hb hby d5_44) rfl rfl ?_
    show Steps p.tables e below (T17.setTop (mkF m 45 #[.val (.ref a1), .val (.int f), .val (.int s2)] [(.ref a1)])) _
    refine st19 _ ?_
    show Steps p.tables e below (T19.setTop (mkF m 48 #[.val (.ref a1), .val (.int f), .val (.int s2)] [(.ref b4)])) _
    refine XS.aloadN X19.here hx rfl (hb hby d5_48) rfl rfl ?_
    show Steps p.tables e below (T19.setTop (mkF m 49 #[.val (.ref a1), .val (.int f), .val (.int s2)] [(.ref a1), (.ref b4)])) _
    refine st21 _ ?_
    show Steps p.tables e below (T21.setTop (mkF m 52 #[.val (.ref a1), .val (.int f), .val (.int s2)] [(.int cnt), (.ref b4)])) _
    refine XS.aloadN X21.here hx rfl (hb hby d5_52) rfl rfl ?_
    show Steps p.tables e below (T21.setTop (mkF m 53 #[.val (.ref a1), .val (.int f), .val (.int s2)] [(.ref a1), (.int cnt), (.ref b4)])) _
    refine st23 _ ?_
    show Steps p.tables e below (T23.setTop (mkF m 56 #[.val (.ref a1), .val (.int f), .val (.int s2)] [(.ref b2), (.int cnt), (.ref b4)])) _
    refine XS.iloadN X23.here hx rfl (hb hby d5_56) rfl ?_
    show Steps p.tables e below (T23.setTop (mkF m 57 #[.val (.ref a1), .val (.int f), .val (.int s2)] [(.int s2), (.ref b2), (.int cnt), (.ref b4)])) _
    refine X23.iaload hx (j := s2) (v := (.int ps)) (by rw [e23]; exact Ar_24.1) (State.isArrayOf_alike hZ.alike Ar_24.2.1) Ar_24.2.2 (inb_of Sz_24 hrs) (Has.at Hs_24 (inb_of Sz_24 hrs) es2) (g := (mkF m 57 #[.val (.ref a1), .val (.int f), .val (.int s2)] [(.int s2), (.ref b2), (.int cnt), (.ref b4)])) rfl rfl (hb hby d5_57) _ ?_
    show Steps p.tables e below (T23.setTop (mkF m 58 #[.val (.ref a1), .val (.int f), .val (.int s2)] [(.int ps), (.int cnt), (.ref b4)])) _
    refine st27 _ ?_
    show Steps p.tables e below (T27.setTop (mkF m 59 #[.val (.ref a1), .val (.int f), .val (.int s2)] [])) _
    refine XS.aloadN X27.here hx rfl (hb hby d5_59) rfl rfl ?_
    show Steps p.tables e below (T27.setTop (mkF m 60 #[.val (.ref a1), .val (.int f), .val (.int s2)] [(.ref a1)])) _
    refine st29 _ ?_
    show Steps p.tables e below (T29.setTop (mkF m 63 #[.val (.ref a1), .val (.int f), .val (.int s2)] [(.ref b5)])) _
    refine XS.aloadN X29.here hx rfl (hb hby d5_63) rfl rfl ?_
    show Steps p.tables e below (T29.setTop (mkF m 64 #[.val (.ref a1), .val (.int f), .val (.int s2)] [(.ref a1), (.ref b5)])) _
    refine st30 _ ?_
    show Steps p.tables e below (T30.setTop (mkF m 67 #[.val (.ref a1), .val (.int f), .val (.int s2)] [(.int cnt), (.ref b5)])) _
    refine XS.aloadN X30.here hx rfl (hb hby d5_67) rfl rfl ?_
    show Steps p.tables e below (T30.setTop (mkF m 68 #[.val (.ref a1), .val (.int f), .val (.int s2)] [(.ref a1), (.int cnt), (.ref b5)])) _
    refine st32 _ ?_
    show Steps p.tables e below (T32.setTop (mkF m 71 #[.val (.ref a1), .val (.int f), .val (.int s2)] [(.ref b3), (.int cnt), (.ref b5)])) _
    refine XS.iloadN X32.here hx rfl (hb hby d5_71) rfl ?_
    show Steps p.tables e below (T32.setTop (mkF m 72 #[.val (.ref a1), .val (.int f), .val (.int s2)] [(.int s2), (.ref b3), (.int cnt), (.ref b5)])) _
    refine X32.iaload hx (j := s2) (v := (.int ss)) (by rw [e32]; exact Ar_33.1) (State.isArrayOf_alike hZ.alike Ar_33.2.1) Ar_33.2.2 (inb_of Sz_33 hrs) (Has.at Hs_33 (inb_of Sz_33 hrs) es3) (g := (mkF m 72 #[.val (.ref a1), .val (.int f), .val (.int s2)] [(.int s2), (.ref b3), (.int cnt), (.ref b5)])) rfl rfl (hb hby d5_72) _ ?_
    show Steps p.tables e below (T32.setTop (mkF m 73 #[.val (.ref a1), .val (.int f), .val (.int s2)] [(.int ss), (.int cnt), (.ref b5)])) _
    refine st36 _ ?_
    show Steps p.tables e below (T36.setTop (mkF m 74 #[.val (.ref a1), .val (.int f), .val (.int s2)] [])) _
    refine XS.aloadN X36.here hx rfl (hb hby d5_74) rfl rfl ?_
    show Steps p.tables e below (T36.setTop (mkF m 75 #[.val (.ref a1), .val (.int f), .val (.int s2)] [(.ref a1)])) _
    refine XS.dup X36.here hx rfl (hb hby d5_75) rfl rfl ?_
    show Steps p.tables e below (T36.setTop (mkF m 76 #[.val (.ref a1), .val (.int f), .val (.int s2)] [(.ref a1), (.ref a1)])) _
    refine st37 _ ?_
    show Steps p.tables e below (T37.setTop (mkF m 79 #[.val (.ref a1), .val (.int f), .val (.int s2)] [(.int cnt), (.ref a1)])) _
    refine XS.iconst X37.here hx rfl (hb hby d5_79) ?_
    show Steps p.tables e below (T37.setTop (mkF m 80 #[.val (.ref a1), .val (.int f), .val (.int s2)] [(.int (1 : Int32)), (.int cnt), (.ref a1)])) _
    refine XS.iadd X37.here hx rfl (hb hby d5_80) rfl ?_
    show Steps p.tables e below (T37.setTop (mkF m 81 #[.val (.ref a1), .val (.int f), .val (.int s2)] [(.int (cnt + (1 : Int32))), (.ref a1)])) _
    refine st38 _ ?_
    show Steps p.tables e below (T38.setTop (mkF m 84 #[.val (.ref a1), .val (.int f), .val (.int s2)] [])) _
    exact X38.returnOut hx Bd.returns (hb hby d5_84) hr
  · show Q5 Z a1 b1 b2 b3 b4 b5 cnt v1 v2 v3 v4 v5 i pf sf ps ss h0 n0 _ T38.heap _
    rw [e38]
    exact ⟨rfl, N38, (((((((Keep.refl h0 [a1, b1, b2, b3, b4, b5]).wr W5 (Or.inl (List.mem_of_getElem? (i := 1) rfl))).wr W11 (Or.inl (List.mem_of_getElem? (i := 2) rfl))).wr W17 (Or.inl (List.mem_of_getElem? (i := 3) rfl))).wr W27 (Or.inl (List.mem_of_getElem? (i := 4) rfl))).wr W36 (Or.inl (List.mem_of_getElem? (i := 5) rfl))).wr W38 (Or.inl (List.mem_of_getElem? (i := 0) rfl))), ⟨((((((Em.wr W5).wr W11).wr W17).wr W27).wr W36).wr W38), fx39, fx40, fx41, fx42, fx43, Fw38, ⟨_, fx44⟩, ⟨_, fx45⟩, ⟨_, fx46⟩, ⟨_, ((Vs27.other W36 n45).other W38 (Ne.symm nm4))⟩, ⟨_, (Vs36.other W38 (Ne.symm nm5))⟩⟩⟩
theorem ef_6 (m : MethodId) (a1 : Addr) (mv : Int32) (at1 : Int32) : entryFrame m #[(.ref a1), (.int mv), (.int at1)] 3 = mkF m 0 #[.val (.ref a1), .val (.int mv), .val (.int at1)] [] := by first | (simp [entryFrame, mkF, argsToLocals, Value.category]; done) | rfl
def Q6 (Z : State) (a1 b1 b2 b3 b4 b5 : Addr) (cnt : Int32) (v1 v2 v3 v4 v5 : List Value) (i : Nat) (y1 y2 y3 y4 y5 : Int32) (h0 : Heap) (n0 : Nat) (v : Option Value) (h : Heap) (L : List Loc) : Prop := v = none ∧ Fr n0 L ∧ Keep h0 h [a1, b1, b2, b3, b4, b5] ∧ own_M Z h a1 b1 b2 b3 b4 b5 cnt (v1.set i (.int y1)) (v2.set i (.int y2)) (v3.set i (.int y3)) (v4.set i (.int y4)) (v5.set i (.int y5))
set_option maxRecDepth 65536 in
set_option maxHeartbeats 40000000 in
theorem rm6 (l : Launch) (Z : State) (a0 : Array Value) (hw : ∀ d ∈ tables_1, d.before a0 Z = true) (ws : List Jvm.Cond) (a1 b1 b2 b3 b4 b5 : Addr) (cnt : Int32) (v1 v2 v3 v4 v5 : List Value) (mv at1 : Int32) (i : Nat) (y1 y2 y3 y4 y5 : Int32) (h0 : Heap) (n0 : Nat) (Z0 : n0 ≤ h0.size) (MM : own_M Z h0 a1 b1 b2 b3 b4 b5 cnt v1 v2 v3 v4 v5) (DD : own_D n0 a1 b1 b2 b3 b4 b5) (hai : at1.toNatClampNeg = i) (hra : ¬ at1 < 0 ∧ at1 < 16) (hrm : ¬ mv < 0 ∧ mv < 16) (hl1 : i < v1.length) (hl2 : i < v2.length) (hl3 : i < v3.length) (hl4 : i < v4.length) (hl5 : i < v5.length) (em1 : v1.getD mv.toNatClampNeg (.int (0 : Int32)) = .int y1) (em2 : v2.getD mv.toNatClampNeg (.int (0 : Int32)) = .int y2) (em3 : v3.getD mv.toNatClampNeg (.int (0 : Int32)) = .int y3) (em4 : v4.getD mv.toNatClampNeg (.int (0 : Int32)) = .int y4) (em5 : v5.getD mv.toNatClampNeg (.int (0 : Int32)) = .int y5) :
    MetFree l (⟨"com/example/yealm/yealm/ccs/Moves", "copy", "(II)V"⟩ : MethodName) (head1 (Jvm.Cond.code (⟨"com/example/yealm/yealm/ccs/Moves", "copy", "(II)V"⟩ : MethodName) prog_17_method_11_code 3 none :: ws) ({ frames := 0, cells := 0, slots := 0, locals := 0 } : Room)) (fun a U => a = #[(.ref a1), (.int mv), (.int at1)] ∧ Z.Warmed39 U.vm ∧ U.heap = h0) (fun _ _ _ _ _ => True) (fun _ U o U' => ∃ v L, o = .returned v ∧ Q6 Z a1 b1 b2 b3 b4 b5 cnt v1 v2 v3 v4 v5 i y1 y2 y3 y4 y5 h0 n0 v U'.heap L ∧ FrameEnd U o U' L ({ frames := 0, cells := 0, slots := 0, locals := 0 } : Room).cells ({ frames := 0, cells := 0, slots := 0, locals := 0 } : Room).slots) := by
  refine MetFree.of_bodySF (plainFor_of_name pn_6) hisR ?_
  intro p e s m args below meth c s₁ Bd hml0 hP hK
  obtain ⟨rfl, hZ, hh⟩ := hP
  have hx := Bd.exec
  have hby := Bd.bytes
  have hml : c.maxLocals = 3 := hml0
  have hown : s.vm.findClass "com/example/yealm/yealm/ccs/Moves" = some m.cls := findClass_of_methodNamed Bd.named
  have hnm := (name_of_methodNamed Bd.named Bd.method).1
  have X0 : Stand p l e ({ frames := 0, cells := 0, slots := 0, locals := 0 } : Room) s m #[(.ref a1), (.int mv), (.int at1)] below meth c s₁ [] 0 0 := Stand.of_body Bd
  have e0 : s₁.heap = h0 := by rw [← hh, Bd.state]; rfl
  have N0 := Fr.nil n0
  have pre0 : ∀ tgt, Steps p.tables e below (s₁.setTop (mkF m 0 #[.val (.ref a1), .val (.int mv), .val (.int at1)] [])) tgt → Steps p.tables e below (s₁.setTop (entryFrame m #[(.ref a1), (.int mv), (.int at1)] 3)) tgt := fun tgt k => castTop (ef_6 m a1 mv at1) k
  obtain ⟨Em, Fb_1, Fb_2, Fb_3, Fb_4, Fb_5, Fc, ⟨kb_1, Vb_1⟩, ⟨kb_2, Vb_2⟩, ⟨kb_3, Vb_3⟩, ⟨kb_4, Vb_4⟩, ⟨kb_5, Vb_5⟩⟩ := MM
  obtain ⟨⟨g_a1, g_b1, g_b2, g_b3, g_b4, g_b5⟩, ⟨nm1, nm2, nm3, nm4, nm5⟩, ⟨n12, n13, n14, n15⟩, ⟨n23, n24, n25⟩, ⟨n34, n35⟩, n45⟩ := DD
  obtain ⟨T1, X1, e1, st1⟩ := getF X0 hx hZ hown (host := "") (Or.inl (hw _ (List.mem_of_getElem? (i := 11) rfl))) Via.refl e0 Fb_1 (g := (mkF m 1 #[.val (.ref a1), .val (.int mv), .val (.int at1)] [(.ref a1)])) rfl rfl (hb hby d6_1)
  obtain ⟨T2, X2, e2, st2⟩ := getF X1 hx hZ hown (host := "") (Or.inl (hw _ (List.mem_of_getElem? (i := 11) rfl))) Via.refl e1 Fb_1 (g := (mkF m 6 #[.val (.ref a1), .val (.int mv), .val (.int at1)] [(.ref a1), (.int at1), (.ref b1)])) rfl rfl (hb hby d6_6)
  have Vo_3 := Vb_1
  obtain ⟨Cl_3, Ar_3, Kc_3, Sz_3, Nn_3, Hs_3, Gf_3⟩ := Vo_3
  have Vo_4 := Vb_1
  obtain ⟨Cl_4, Ar_4, Kc_4, Sz_4, Nn_4, Hs_4, Gf_4⟩ := Vo_4
  obtain ⟨T5, h5, X5, e5, W5, st5⟩ := stI X2 hx hZ e2 Ar_4 (j := at1) (inb_of Sz_4 hra) (g := (mkF m 11 #[.val (.ref a1), .val (.int mv), .val (.int at1)] [(.int y1), (.int at1), (.ref b1)])) rfl rfl (hb hby d6_11)
  have Vs5 : Arv Z h5 b1 kb_1 .int (16 : Int32) (v1.set i (.int y1)) (.int (0 : Int32)) := Arv.set Ar_4 Kc_4 Sz_4 Nn_4 Hs_4 Gf_4 rfl W5 i hai hl1
  have N5 := Fr.snoc X5 N0 g_b1
  obtain ⟨T6, X6, e6, st6⟩ := getF X5 hx hZ hown (host := "") (Or.inl (hw _ (List.mem_of_getElem? (i := 13) rfl))) Via.refl e5 (Fb_2.other W5 (Or.inl nm1)) (g := (mkF m 13 #[.val (.ref a1), .val (.int mv), .val (.int at1)] [(.ref a1)])) rfl rfl (hb hby d6_13)
  obtain ⟨T7, X7, e7, st7⟩ := getF X6 hx hZ hown (host := "") (Or.inl (hw _ (List.mem_of_getElem? (i := 13) rfl))) Via.refl e6 (Fb_2.other W5 (Or.inl nm1)) (g := (mkF m 18 #[.val (.ref a1), .val (.int mv), .val (.int at1)] [(.ref a1), (.int at1), (.ref b2)])) rfl rfl (hb hby d6_18)
  have Vo_8 := (Vb_2.other W5 (Ne.symm n12))
  obtain ⟨Cl_8, Ar_8, Kc_8, Sz_8, Nn_8, Hs_8, Gf_8⟩ := Vo_8
  have Vo_9 := (Vb_2.other W5 (Ne.symm n12))
  obtain ⟨Cl_9, Ar_9, Kc_9, Sz_9, Nn_9, Hs_9, Gf_9⟩ := Vo_9
  obtain ⟨T10, h10, X10, e10, W10, st10⟩ := stI X7 hx hZ e7 Ar_9 (j := at1) (inb_of Sz_9 hra) (g := (mkF m 23 #[.val (.ref a1), .val (.int mv), .val (.int at1)] [(.int y2), (.int at1), (.ref b2)])) rfl rfl (hb hby d6_23)
  have Vs10 : Arv Z h10 b2 kb_2 .int (16 : Int32) (v2.set i (.int y2)) (.int (0 : Int32)) := Arv.set Ar_9 Kc_9 Sz_9 Nn_9 Hs_9 Gf_9 rfl W10 i hai hl2
  have N10 := Fr.snoc X10 N5 g_b2
  obtain ⟨T11, X11, e11, st11⟩ := getF X10 hx hZ hown (host := "") (Or.inl (hw _ (List.mem_of_getElem? (i := 15) rfl))) Via.refl e10 ((Fb_3.other W5 (Or.inl nm1)).other W10 (Or.inl nm2)) (g := (mkF m 25 #[.val (.ref a1), .val (.int mv), .val (.int at1)] [(.ref a1)])) rfl rfl (hb hby d6_25)
  obtain ⟨T12, X12, e12, st12⟩ := getF X11 hx hZ hown (host := "") (Or.inl (hw _ (List.mem_of_getElem? (i := 15) rfl))) Via.refl e11 ((Fb_3.other W5 (Or.inl nm1)).other W10 (Or.inl nm2)) (g := (mkF m 30 #[.val (.ref a1), .val (.int mv), .val (.int at1)] [(.ref a1), (.int at1), (.ref b3)])) rfl rfl (hb hby d6_30)
  have Vo_13 := ((Vb_3.other W5 (Ne.symm n13)).other W10 (Ne.symm n23))
  obtain ⟨Cl_13, Ar_13, Kc_13, Sz_13, Nn_13, Hs_13, Gf_13⟩ := Vo_13
  have Vo_14 := ((Vb_3.other W5 (Ne.symm n13)).other W10 (Ne.symm n23))
  obtain ⟨Cl_14, Ar_14, Kc_14, Sz_14, Nn_14, Hs_14, Gf_14⟩ := Vo_14
  obtain ⟨T15, h15, X15, e15, W15, st15⟩ := stI X12 hx hZ e12 Ar_14 (j := at1) (inb_of Sz_14 hra) (g := (mkF m 35 #[.val (.ref a1), .val (.int mv), .val (.int at1)] [(.int y3), (.int at1), (.ref b3)])) rfl rfl (hb hby d6_35)
  have Vs15 : Arv Z h15 b3 kb_3 .int (16 : Int32) (v3.set i (.int y3)) (.int (0 : Int32)) := Arv.set Ar_14 Kc_14 Sz_14 Nn_14 Hs_14 Gf_14 rfl W15 i hai hl3
  have N15 := Fr.snoc X15 N10 g_b3
  have fx16 := (((Fb_4.other W5 (Or.inl nm1)).other W10 (Or.inl nm2)).other W15 (Or.inl nm3))
  obtain ⟨T17, X17, e17, st17⟩ := getF X15 hx hZ hown (host := "") (Or.inl (hw _ (List.mem_of_getElem? (i := 17) rfl))) Via.refl e15 fx16 (g := (mkF m 37 #[.val (.ref a1), .val (.int mv), .val (.int at1)] [(.ref a1)])) rfl rfl (hb hby d6_37)
  obtain ⟨T18, X18, e18, st18⟩ := getF X17 hx hZ hown (host := "") (Or.inl (hw _ (List.mem_of_getElem? (i := 17) rfl))) Via.refl e17 fx16 (g := (mkF m 42 #[.val (.ref a1), .val (.int mv), .val (.int at1)] [(.ref a1), (.int at1), (.ref b4)])) rfl rfl (hb hby d6_42)
  have fx20 := (((Vb_4.other W5 (Ne.symm n14)).other W10 (Ne.symm n24)).other W15 (Ne.symm n34))
  have Vo_19 := fx20
  obtain ⟨Cl_19, Ar_19, Kc_19, Sz_19, Nn_19, Hs_19, Gf_19⟩ := Vo_19
  have Vo_21 := fx20
  obtain ⟨Cl_21, Ar_21, Kc_21, Sz_21, Nn_21, Hs_21, Gf_21⟩ := Vo_21
  obtain ⟨T22, h22, X22, e22, W22, st22⟩ := stI X18 hx hZ e18 Ar_21 (j := at1) (inb_of Sz_21 hra) (g := (mkF m 47 #[.val (.ref a1), .val (.int mv), .val (.int at1)] [(.int y4), (.int at1), (.ref b4)])) rfl rfl (hb hby d6_47)
  have Vs22 : Arv Z h22 b4 kb_4 .int (16 : Int32) (v4.set i (.int y4)) (.int (0 : Int32)) := Arv.set Ar_21 Kc_21 Sz_21 Nn_21 Hs_21 Gf_21 rfl W22 i hai hl4
  have N22 := Fr.snoc X22 N15 g_b4
  have fx23 := ((((Fb_5.other W5 (Or.inl nm1)).other W10 (Or.inl nm2)).other W15 (Or.inl nm3)).other W22 (Or.inl nm4))
  obtain ⟨T24, X24, e24, st24⟩ := getF X22 hx hZ hown (host := "") (Or.inl (hw _ (List.mem_of_getElem? (i := 19) rfl))) Via.refl e22 fx23 (g := (mkF m 49 #[.val (.ref a1), .val (.int mv), .val (.int at1)] [(.ref a1)])) rfl rfl (hb hby d6_49)
  obtain ⟨T25, X25, e25, st25⟩ := getF X24 hx hZ hown (host := "") (Or.inl (hw _ (List.mem_of_getElem? (i := 19) rfl))) Via.refl e24 fx23 (g := (mkF m 54 #[.val (.ref a1), .val (.int mv), .val (.int at1)] [(.ref a1), (.int at1), (.ref b5)])) rfl rfl (hb hby d6_54)
  have fx27 := ((((Vb_5.other W5 (Ne.symm n15)).other W10 (Ne.symm n25)).other W15 (Ne.symm n35)).other W22 (Ne.symm n45))
  have Vo_26 := fx27
  obtain ⟨Cl_26, Ar_26, Kc_26, Sz_26, Nn_26, Hs_26, Gf_26⟩ := Vo_26
  have Vo_28 := fx27
  obtain ⟨Cl_28, Ar_28, Kc_28, Sz_28, Nn_28, Hs_28, Gf_28⟩ := Vo_28
  obtain ⟨T29, h29, X29, e29, W29, st29⟩ := stI X25 hx hZ e25 Ar_28 (j := at1) (inb_of Sz_28 hra) (g := (mkF m 59 #[.val (.ref a1), .val (.int mv), .val (.int at1)] [(.int y5), (.int at1), (.ref b5)])) rfl rfl (hb hby d6_59)
  have Vs29 : Arv Z h29 b5 kb_5 .int (16 : Int32) (v5.set i (.int y5)) (.int (0 : Int32)) := Arv.set Ar_28 Kc_28 Sz_28 Nn_28 Hs_28 Gf_28 rfl W29 i hai hl5
  have N29 := Fr.snoc X29 N22 g_b5
  have fx30 := (((((Fb_1.other W5 (Or.inl nm1)).other W10 (Or.inl nm2)).other W15 (Or.inl nm3)).other W22 (Or.inl nm4)).other W29 (Or.inl nm5))
  have fx31 := (((((Fb_2.other W5 (Or.inl nm1)).other W10 (Or.inl nm2)).other W15 (Or.inl nm3)).other W22 (Or.inl nm4)).other W29 (Or.inl nm5))
  have fx32 := (((((Fb_3.other W5 (Or.inl nm1)).other W10 (Or.inl nm2)).other W15 (Or.inl nm3)).other W22 (Or.inl nm4)).other W29 (Or.inl nm5))
  have fx33 := (((((Fc.other W5 (Or.inl nm1)).other W10 (Or.inl nm2)).other W15 (Or.inl nm3)).other W22 (Or.inl nm4)).other W29 (Or.inl nm5))
  have fx34 := ((((Vs5.other W10 n12).other W15 n13).other W22 n14).other W29 n15)
  obtain ⟨fs, hr, hrun, hended, hW, hsame⟩ := X29.leave (v := none) (fun _ => rfl)
  refine ⟨_, _, pre0 _ ?_, hrun, hended, _, _, rfl, ?_, ⟨_, rfl⟩, hW, hsame.mono (by decide) (by decide)⟩
  · show Steps p.tables e below (s₁.setTop (mkF m 0 #[.val (.ref a1), .val (.int mv), .val (.int at1)] [])) _
    refine XS.aloadN X0.here hx rfl (hb hby d6_0) rfl rfl ?_
    show Steps p.tables e below (s₁.setTop (mkF m 1 #[.val (.ref a1), .val (.int mv), .val (.int at1)] [(.ref a1)])) _
    refine st1 _ ?_
    show Steps p.tables e below (T1.setTop (mkF m 4 #[.val (.ref a1), .val (.int mv), .val (.int at1)] [(.ref b1)])) _
    refine XS.iloadN X1.here hx rfl (hb hby d6_4) rfl ?_
    show Steps p.tables e below (T1.setTop (mkF m 5 #[.val (.ref a1), .val (.int mv), .val (.int at1)] [(.int at1), (.ref b1)])) _
    refine XS.aloadN X1.here hx rfl (hb hby d6_5) rfl rfl ?_
    show Steps p.tables e below (T1.setTop (mkF m 6 #[.val (.ref a1), .val (.int mv), .val (.int at1)] [(.ref a1), (.int at1), (.ref b1)])) _
    refine st2 _ ?_
    show Steps p.tables e below (T2.setTop (mkF m 9 #[.val (.ref a1), .val (.int mv), .val (.int at1)] [(.ref b1), (.int at1), (.ref b1)])) _
    refine XS.iloadN X2.here hx rfl (hb hby d6_9) rfl ?_
    show Steps p.tables e below (T2.setTop (mkF m 10 #[.val (.ref a1), .val (.int mv), .val (.int at1)] [(.int mv), (.ref b1), (.int at1), (.ref b1)])) _
    refine X2.iaload hx (j := mv) (v := (.int y1)) (by rw [e2]; exact Ar_3.1) (State.isArrayOf_alike hZ.alike Ar_3.2.1) Ar_3.2.2 (inb_of Sz_3 hrm) (Has.at Hs_3 (inb_of Sz_3 hrm) em1) (g := (mkF m 10 #[.val (.ref a1), .val (.int mv), .val (.int at1)] [(.int mv), (.ref b1), (.int at1), (.ref b1)])) rfl rfl (hb hby d6_10) _ ?_
    show Steps p.tables e below (T2.setTop (mkF m 11 #[.val (.ref a1), .val (.int mv), .val (.int at1)] [(.int y1), (.int at1), (.ref b1)])) _
    refine st5 _ ?_
    show Steps p.tables e below (T5.setTop (mkF m 12 #[.val (.ref a1), .val (.int mv), .val (.int at1)] [])) _
    refine XS.aloadN X5.here hx rfl (hb hby d6_12) rfl rfl ?_
    show Steps p.tables e below (T5.setTop (mkF m 13 #[.val (.ref a1), .val (.int mv), .val (.int at1)] [(.ref a1)])) _
    refine st6 _ ?_
    show Steps p.tables e below (T6.setTop (mkF m 16 #[.val (.ref a1), .val (.int mv), .val (.int at1)] [(.ref b2)])) _
    refine XS.iloadN X6.here hx rfl (hb hby d6_16) rfl ?_
    show Steps p.tables e below (T6.setTop (mkF m 17 #[.val (.ref a1), .val (.int mv), .val (.int at1)] [(.int at1), (.ref b2)])) _
    refine XS.aloadN X6.here hx rfl (hb hby d6_17) rfl rfl ?_
    show Steps p.tables e below (T6.setTop (mkF m 18 #[.val (.ref a1), .val (.int mv), .val (.int at1)] [(.ref a1), (.int at1), (.ref b2)])) _
    refine st7 _ ?_
    show Steps p.tables e below (T7.setTop (mkF m 21 #[.val (.ref a1), .val (.int mv), .val (.int at1)] [(.ref b2), (.int at1), (.ref b2)])) _
    refine XS.iloadN X7.here hx rfl (hb hby d6_21) rfl ?_
    show Steps p.tables e below (T7.setTop (mkF m 22 #[.val (.ref a1), .val (.int mv), .val (.int at1)] [(.int mv), (.ref b2), (.int at1), (.ref b2)])) _
    refine X7.iaload hx (j := mv) (v := (.int y2)) (by rw [e7]; exact Ar_8.1) (State.isArrayOf_alike hZ.alike Ar_8.2.1) Ar_8.2.2 (inb_of Sz_8 hrm) (Has.at Hs_8 (inb_of Sz_8 hrm) em2) (g := (mkF m 22 #[.val (.ref a1), .val (.int mv), .val (.int at1)] [(.int mv), (.ref b2), (.int at1), (.ref b2)])) rfl rfl (hb hby d6_22) _ ?_
    show Steps p.tables e below (T7.setTop (mkF m 23 #[.val (.ref a1), .val (.int mv), .val (.int at1)] [(.int y2), (.int at1), (.ref b2)])) _
    refine st10 _ ?_
    show Steps p.tables e below (T10.setTop (mkF m 24 #[.val (.ref a1), .val (.int mv), .val (.int at1)] [])) _
    refine XS.aloadN X10.here hx rfl (hb hby d6_24) rfl rfl ?_
    show Steps p.tables e below (T10.setTop (mkF m 25 #[.val (.ref a1), .val (.int mv), .val (.int at1)] [(.ref a1)])) _
    refine st11 _ ?_
    show Steps p.tables e below (T11.setTop (mkF m 28 #[.val (.ref a1), .val (.int mv), .val (.int at1)] [(.ref b3)])) _
    refine XS.iloadN X11.here hx rfl (hb hby d6_28) rfl ?_
    show Steps p.tables e below (T11.setTop (mkF m 29 #[.val (.ref a1), .val (.int mv), .val (.int at1)] [(.int at1), (.ref b3)])) _
    refine XS.aloadN X11.here hx rfl (hb hby d6_29) rfl rfl ?_
    show Steps p.tables e below (T11.setTop (mkF m 30 #[.val (.ref a1), .val (.int mv), .val (.int at1)] [(.ref a1), (.int at1), (.ref b3)])) _
    refine st12 _ ?_
    show Steps p.tables e below (T12.setTop (mkF m 33 #[.val (.ref a1), .val (.int mv), .val (.int at1)] [(.ref b3), (.int at1), (.ref b3)])) _
    refine XS.iloadN X12.here hx rfl (hb hby d6_33) rfl ?_
    show Steps p.tables e below (T12.setTop (mkF m 34 #[.val (.ref a1), .val (.int mv), .val (.int at1)] [(.int mv), (.ref b3), (.int at1), (.ref b3)])) _
    refine X12.iaload hx (j := mv) (v := (.int y3)) (by rw [e12]; exact Ar_13.1) (State.isArrayOf_alike hZ.alike Ar_13.2.1) Ar_13.2.2 (inb_of Sz_13 hrm) (Has.at Hs_13 (inb_of Sz_13 hrm) em3) (g := (mkF m 34 #[.val (.ref a1), .val (.int mv), .val (.int at1)] [(.int mv), (.ref b3), (.int at1), (.ref b3)])) rfl rfl (hb hby d6_34) _ ?_
    show Steps p.tables e below (T12.setTop (mkF m 35 #[.val (.ref a1), .val (.int mv), .val (.int at1)] [(.int y3), (.int at1), (.ref b3)])) _
    refine st15 _ ?_
    show Steps p.tables e below (T15.setTop (mkF m 36 #[.val (.ref a1), .val (.int mv), .val (.int at1)] [])) _
    refine XS.aloadN X15.here hx rfl (hb hby d6_36) rfl rfl ?_
    show Steps p.tables e below (T15.setTop (mkF m 37 #[.val (.ref a1), .val (.int mv), .val (.int at1)] [(.ref a1)])) _
    refine st17 _ ?_
    show Steps p.tables e below (T17.setTop (mkF m 40 #[.val (.ref a1), .val (.int mv), .val (.int at1)] [(.ref b4)])) _
    refine XS.iloadN X17.here hx rfl (hb hby d6_40) rfl ?_
    show Steps p.tables e below (T17.setTop (mkF m 41 #[.val (.ref a1), .val (.int mv), .val (.int at1)] [(.int at1), (.ref b4)])) _
    refine XS.aloadN X17.here hx rfl (hb hby d6_41) rfl rfl ?_
    show Steps p.tables e below (T17.setTop (mkF m 42 #[.val (.ref a1), .val (.int mv), .val (.int at1)] [(.ref a1), (.int at1), (.ref b4)])) _
    refine st18 _ ?_
    show Steps p.tables e below (T18.setTop (mkF m 45 #[.val (.ref a1), .val (.int mv), .val (.int at1)] [(.ref b4), (.int at1), (.ref b4)])) _
    refine XS.iloadN X18.here hx rfl (hb hby d6_45) rfl ?_
    show Steps p.tables e below (T18.setTop (mkF m 46 #[.val (.ref a1), .val (.int mv), .val (.int at1)] [(.int mv), (.ref b4), (.int at1), (.ref b4)])) _
    refine X18.iaload hx (j := mv) (v := (.int y4)) (by rw [e18]; exact Ar_19.1) (State.isArrayOf_alike hZ.alike Ar_19.2.1) Ar_19.2.2 (inb_of Sz_19 hrm) (Has.at Hs_19 (inb_of Sz_19 hrm) em4) (g := (mkF m 46 #[.val (.ref a1), .val (.int mv), .val (.int at1)] [(.int mv), (.ref b4), (.int at1), (.ref b4)])) rfl rfl (hb hby d6_46) _ ?_
    show Steps p.tables e below (T18.setTop (mkF m 47 #[.val (.ref a1), .val (.int mv), .val (.int at1)] [(.int y4), (.int at1), (.ref b4)])) _
    refine st22 _ ?_
    show Steps p.tables e below (T22.setTop (mkF m 48 #[.val (.ref a1), .val (.int mv), .val (.int at1)] [])) _
    refine XS.aloadN X22.here hx rfl (hb hby d6_48) rfl rfl ?_
    show Steps p.tables e below (T22.setTop (mkF m 49 #[.val (.ref a1), .val (.int mv), .val (.int at1)] [(.ref a1)])) _
    refine st24 _ ?_
    show Steps p.tables e below (T24.setTop (mkF m 52 #[.val (.ref a1), .val (.int mv), .val (.int at1)] [(.ref b5)])) _
    refine XS.iloadN X24.here hx rfl (hb hby d6_52) rfl ?_
    show Steps p.tables e below (T24.setTop (mkF m 53 #[.val (.ref a1), .val (.int mv), .val (.int at1)] [(.int at1), (.ref b5)])) _
    refine XS.aloadN X24.here hx rfl (hb hby d6_53) rfl rfl ?_
    show Steps p.tables e below (T24.setTop (mkF m 54 #[.val (.ref a1), .val (.int mv), .val (.int at1)] [(.ref a1), (.int at1), (.ref b5)])) _
    refine st25 _ ?_
    show Steps p.tables e below (T25.setTop (mkF m 57 #[.val (.ref a1), .val (.int mv), .val (.int at1)] [(.ref b5), (.int at1), (.ref b5)])) _
    refine XS.iloadN X25.here hx rfl (hb hby d6_57) rfl ?_
    show Steps p.tables e below (T25.setTop (mkF m 58 #[.val (.ref a1), .val (.int mv), .val (.int at1)] [(.int mv), (.ref b5), (.int at1), (.ref b5)])) _
    refine X25.iaload hx (j := mv) (v := (.int y5)) (by rw [e25]; exact Ar_26.1) (State.isArrayOf_alike hZ.alike Ar_26.2.1) Ar_26.2.2 (inb_of Sz_26 hrm) (Has.at Hs_26 (inb_of Sz_26 hrm) em5) (g := (mkF m 58 #[.val (.ref a1), .val (.int mv), .val (.int at1)] [(.int mv), (.ref b5), (.int at1), (.ref b5)])) rfl rfl (hb hby d6_58) _ ?_
    show Steps p.tables e below (T25.setTop (mkF m 59 #[.val (.ref a1), .val (.int mv), .val (.int at1)] [(.int y5), (.int at1), (.ref b5)])) _
    refine st29 _ ?_
    show Steps p.tables e below (T29.setTop (mkF m 60 #[.val (.ref a1), .val (.int mv), .val (.int at1)] [])) _
    exact X29.returnOut hx Bd.returns (hb hby d6_60) hr
  · show Q6 Z a1 b1 b2 b3 b4 b5 cnt v1 v2 v3 v4 v5 i y1 y2 y3 y4 y5 h0 n0 _ T29.heap _
    rw [e29]
    exact ⟨rfl, N29, ((((((Keep.refl h0 [a1, b1, b2, b3, b4, b5]).wr W5 (Or.inl (List.mem_of_getElem? (i := 1) rfl))).wr W10 (Or.inl (List.mem_of_getElem? (i := 2) rfl))).wr W15 (Or.inl (List.mem_of_getElem? (i := 3) rfl))).wr W22 (Or.inl (List.mem_of_getElem? (i := 4) rfl))).wr W29 (Or.inl (List.mem_of_getElem? (i := 5) rfl))), ⟨(((((Em.wr W5).wr W10).wr W15).wr W22).wr W29), fx30, fx31, fx32, ((fx16.other W22 (Or.inl nm4)).other W29 (Or.inl nm5)), (fx23.other W29 (Or.inl nm5)), fx33, ⟨_, fx34⟩, ⟨_, (((Vs10.other W15 n23).other W22 n24).other W29 n25)⟩, ⟨_, ((Vs15.other W22 n34).other W29 n35)⟩, ⟨_, (Vs22.other W29 n45)⟩, ⟨_, Vs29⟩⟩⟩
theorem ef_7 (m : MethodId) (a1 : Addr) : entryFrame m #[(.ref a1)] 1 = mkF m 0 #[.val (.ref a1)] [] := by first | (simp [entryFrame, mkF, argsToLocals, Value.category]; done) | rfl
def Q7 (cnt : Int32) (h0 : Heap) (n0 : Nat) (v : Option Value) (h : Heap) (L : List Loc) : Prop := v = some (.int cnt) ∧ Fr n0 L ∧ h = h0
set_option maxRecDepth 65536 in
set_option maxHeartbeats 40000000 in
theorem rm7 (l : Launch) (Z : State) (a0 : Array Value) (hw : ∀ d ∈ tables_1, d.before a0 Z = true) (ws : List Jvm.Cond) (a1 b1 b2 b3 b4 b5 : Addr) (cnt : Int32) (v1 v2 v3 v4 v5 : List Value) (h0 : Heap) (n0 : Nat) (Z0 : n0 ≤ h0.size) (MM : own_M Z h0 a1 b1 b2 b3 b4 b5 cnt v1 v2 v3 v4 v5) :
    MetFree l (⟨"com/example/yealm/yealm/ccs/Moves", "size", "()I"⟩ : MethodName) (head1 (Jvm.Cond.code (⟨"com/example/yealm/yealm/ccs/Moves", "size", "()I"⟩ : MethodName) prog_17_method_2_code 1 (some .int) :: ws) ({ frames := 0, cells := 0, slots := 0, locals := 0 } : Room)) (fun a U => a = #[(.ref a1)] ∧ Z.Warmed39 U.vm ∧ U.heap = h0) (fun _ _ _ _ _ => True) (fun _ U o U' => ∃ v L, o = .returned v ∧ Q7 cnt h0 n0 v U'.heap L ∧ FrameEnd U o U' L ({ frames := 0, cells := 0, slots := 0, locals := 0 } : Room).cells ({ frames := 0, cells := 0, slots := 0, locals := 0 } : Room).slots) := by
  refine MetFree.of_bodySF (plainFor_of_name pn_7) hisR ?_
  intro p e s m args below meth c s₁ Bd hml0 hP hK
  obtain ⟨rfl, hZ, hh⟩ := hP
  have hx := Bd.exec
  have hby := Bd.bytes
  have hml : c.maxLocals = 1 := hml0
  have hown : s.vm.findClass "com/example/yealm/yealm/ccs/Moves" = some m.cls := findClass_of_methodNamed Bd.named
  have hnm := (name_of_methodNamed Bd.named Bd.method).1
  have X0 : Stand p l e ({ frames := 0, cells := 0, slots := 0, locals := 0 } : Room) s m #[(.ref a1)] below meth c s₁ [] 0 0 := Stand.of_body Bd
  have e0 : s₁.heap = h0 := by rw [← hh, Bd.state]; rfl
  have N0 := Fr.nil n0
  have pre0 : ∀ tgt, Steps p.tables e below (s₁.setTop (mkF m 0 #[.val (.ref a1)] [])) tgt → Steps p.tables e below (s₁.setTop (entryFrame m #[(.ref a1)] 1)) tgt := fun tgt k => castTop (ef_7 m a1) k
  obtain ⟨Em, Fb_1, Fb_2, Fb_3, Fb_4, Fb_5, Fc, ⟨kb_1, Vb_1⟩, ⟨kb_2, Vb_2⟩, ⟨kb_3, Vb_3⟩, ⟨kb_4, Vb_4⟩, ⟨kb_5, Vb_5⟩⟩ := MM
  obtain ⟨T1, X1, e1, st1⟩ := getF X0 hx hZ hown (host := "") (Or.inl (hw _ (List.mem_of_getElem? (i := 30) rfl))) Via.refl e0 Fc (g := (mkF m 1 #[.val (.ref a1)] [(.ref a1)])) rfl rfl (hb hby d7_1)
  obtain ⟨fs, hr, hrun, hended, hW, hsame⟩ := X1.leave (v := some (.int cnt)) (fun h => by rw [Bd.returns] at h; cases h)
  refine ⟨_, _, pre0 _ ?_, hrun, hended, _, _, rfl, ?_, ⟨_, rfl⟩, hW, hsame.mono (by decide) (by decide)⟩
  · show Steps p.tables e below (s₁.setTop (mkF m 0 #[.val (.ref a1)] [])) _
    refine XS.aloadN X0.here hx rfl (hb hby d7_0) rfl rfl ?_
    show Steps p.tables e below (s₁.setTop (mkF m 1 #[.val (.ref a1)] [(.ref a1)])) _
    refine st1 _ ?_
    show Steps p.tables e below (T1.setTop (mkF m 4 #[.val (.ref a1)] [(.int cnt)])) _
    exact retI X1 hx Bd.returns (hb hby d7_4) hr
  · show Q7 cnt h0 n0 _ T1.heap _
    rw [e1]
    exact ⟨rfl, N0, rfl⟩
theorem ef_9 (m : MethodId) (a1 : Addr) (t : Int32) : entryFrame m #[(.ref a1), (.int t)] 2 = mkF m 0 #[.val (.ref a1), .val (.int t)] [] := by first | (simp [entryFrame, mkF, argsToLocals, Value.category]; done) | rfl
def QG (y : Int32) (h0 : Heap) (n0 : Nat) (v : Option Value) (h : Heap) (L : List Loc) : Prop := v = some (.int y) ∧ Fr n0 L ∧ h = h0
set_option maxRecDepth 65536 in
set_option maxHeartbeats 40000000 in
theorem rm9 (l : Launch) (Z : State) (a0 : Array Value) (hw : ∀ d ∈ tables_1, d.before a0 Z = true) (ws : List Jvm.Cond) (a1 b1 b2 b3 b4 b5 : Addr) (cnt : Int32) (v1 v2 v3 v4 v5 : List Value) (t y : Int32) (h0 : Heap) (n0 : Nat) (Z0 : n0 ≤ h0.size) (MM : own_M Z h0 a1 b1 b2 b3 b4 b5 cnt v1 v2 v3 v4 v5) (hrt : ¬ t < 0 ∧ t < 16) (ey : v1.getD t.toNatClampNeg (.int (0 : Int32)) = .int y) :
    MetFree l (⟨"com/example/yealm/yealm/ccs/Moves", "getLabel", "(I)I"⟩ : MethodName) (head1 (Jvm.Cond.code (⟨"com/example/yealm/yealm/ccs/Moves", "getLabel", "(I)I"⟩ : MethodName) prog_17_method_5_code 2 (some .int) :: ws) ({ frames := 0, cells := 0, slots := 0, locals := 0 } : Room)) (fun a U => a = #[(.ref a1), (.int t)] ∧ Z.Warmed39 U.vm ∧ U.heap = h0) (fun _ _ _ _ _ => True) (fun _ U o U' => ∃ v L, o = .returned v ∧ QG y h0 n0 v U'.heap L ∧ FrameEnd U o U' L ({ frames := 0, cells := 0, slots := 0, locals := 0 } : Room).cells ({ frames := 0, cells := 0, slots := 0, locals := 0 } : Room).slots) := by
  refine MetFree.of_bodySF (plainFor_of_name pn_9) hisR ?_
  intro p e s m args below meth c s₁ Bd hml0 hP hK
  obtain ⟨rfl, hZ, hh⟩ := hP
  have hx := Bd.exec
  have hby := Bd.bytes
  have hml : c.maxLocals = 2 := hml0
  have hown : s.vm.findClass "com/example/yealm/yealm/ccs/Moves" = some m.cls := findClass_of_methodNamed Bd.named
  have hnm := (name_of_methodNamed Bd.named Bd.method).1
  have X0 : Stand p l e ({ frames := 0, cells := 0, slots := 0, locals := 0 } : Room) s m #[(.ref a1), (.int t)] below meth c s₁ [] 0 0 := Stand.of_body Bd
  have e0 : s₁.heap = h0 := by rw [← hh, Bd.state]; rfl
  have N0 := Fr.nil n0
  have pre0 : ∀ tgt, Steps p.tables e below (s₁.setTop (mkF m 0 #[.val (.ref a1), .val (.int t)] [])) tgt → Steps p.tables e below (s₁.setTop (entryFrame m #[(.ref a1), (.int t)] 2)) tgt := fun tgt k => castTop (ef_9 m a1 t) k
  obtain ⟨Em, Fb_1, Fb_2, Fb_3, Fb_4, Fb_5, Fc, ⟨kb_1, Vb_1⟩, ⟨kb_2, Vb_2⟩, ⟨kb_3, Vb_3⟩, ⟨kb_4, Vb_4⟩, ⟨kb_5, Vb_5⟩⟩ := MM
  obtain ⟨T1, X1, e1, st1⟩ := getF X0 hx hZ hown (host := "") (Or.inl (hw _ (List.mem_of_getElem? (i := 11) rfl))) Via.refl e0 Fb_1 (g := (mkF m 1 #[.val (.ref a1), .val (.int t)] [(.ref a1)])) rfl rfl (hb hby d9_1)
  have Vo_2 := Vb_1
  obtain ⟨Cl_2, Ar_2, Kc_2, Sz_2, Nn_2, Hs_2, Gf_2⟩ := Vo_2
  obtain ⟨fs, hr, hrun, hended, hW, hsame⟩ := X1.leave (v := some (.int y)) (fun h => by rw [Bd.returns] at h; cases h)
  refine ⟨_, _, pre0 _ ?_, hrun, hended, _, _, rfl, ?_, ⟨_, rfl⟩, hW, hsame.mono (by decide) (by decide)⟩
  · show Steps p.tables e below (s₁.setTop (mkF m 0 #[.val (.ref a1), .val (.int t)] [])) _
    refine XS.aloadN X0.here hx rfl (hb hby d9_0) rfl rfl ?_
    show Steps p.tables e below (s₁.setTop (mkF m 1 #[.val (.ref a1), .val (.int t)] [(.ref a1)])) _
    refine st1 _ ?_
    show Steps p.tables e below (T1.setTop (mkF m 4 #[.val (.ref a1), .val (.int t)] [(.ref b1)])) _
    refine XS.iloadN X1.here hx rfl (hb hby d9_4) rfl ?_
    show Steps p.tables e below (T1.setTop (mkF m 5 #[.val (.ref a1), .val (.int t)] [(.int t), (.ref b1)])) _
    refine X1.iaload hx (j := t) (v := (.int y)) (by rw [e1]; exact Ar_2.1) (State.isArrayOf_alike hZ.alike Ar_2.2.1) Ar_2.2.2 (inb_of Sz_2 hrt) (Has.at Hs_2 (inb_of Sz_2 hrt) ey) (g := (mkF m 5 #[.val (.ref a1), .val (.int t)] [(.int t), (.ref b1)])) rfl rfl (hb hby d9_5) _ ?_
    show Steps p.tables e below (T1.setTop (mkF m 6 #[.val (.ref a1), .val (.int t)] [(.int y)])) _
    exact retI X1 hx Bd.returns (hb hby d9_6) hr
  · show QG y h0 n0 _ T1.heap _
    rw [e1]
    exact ⟨rfl, N0, rfl⟩
theorem ef_10 (m : MethodId) (a1 : Addr) (t : Int32) : entryFrame m #[(.ref a1), (.int t)] 2 = mkF m 0 #[.val (.ref a1), .val (.int t)] [] := by first | (simp [entryFrame, mkF, argsToLocals, Value.category]; done) | rfl
set_option maxRecDepth 65536 in
set_option maxHeartbeats 40000000 in
theorem rm10 (l : Launch) (Z : State) (a0 : Array Value) (hw : ∀ d ∈ tables_1, d.before a0 Z = true) (ws : List Jvm.Cond) (a1 b1 b2 b3 b4 b5 : Addr) (cnt : Int32) (v1 v2 v3 v4 v5 : List Value) (t y : Int32) (h0 : Heap) (n0 : Nat) (Z0 : n0 ≤ h0.size) (MM : own_M Z h0 a1 b1 b2 b3 b4 b5 cnt v1 v2 v3 v4 v5) (hrt : ¬ t < 0 ∧ t < 16) (ey : v2.getD t.toNatClampNeg (.int (0 : Int32)) = .int y) :
    MetFree l (⟨"com/example/yealm/yealm/ccs/Moves", "getPlace", "(I)I"⟩ : MethodName) (head1 (Jvm.Cond.code (⟨"com/example/yealm/yealm/ccs/Moves", "getPlace", "(I)I"⟩ : MethodName) prog_17_method_7_code 2 (some .int) :: ws) ({ frames := 0, cells := 0, slots := 0, locals := 0 } : Room)) (fun a U => a = #[(.ref a1), (.int t)] ∧ Z.Warmed39 U.vm ∧ U.heap = h0) (fun _ _ _ _ _ => True) (fun _ U o U' => ∃ v L, o = .returned v ∧ QG y h0 n0 v U'.heap L ∧ FrameEnd U o U' L ({ frames := 0, cells := 0, slots := 0, locals := 0 } : Room).cells ({ frames := 0, cells := 0, slots := 0, locals := 0 } : Room).slots) := by
  refine MetFree.of_bodySF (plainFor_of_name pn_10) hisR ?_
  intro p e s m args below meth c s₁ Bd hml0 hP hK
  obtain ⟨rfl, hZ, hh⟩ := hP
  have hx := Bd.exec
  have hby := Bd.bytes
  have hml : c.maxLocals = 2 := hml0
  have hown : s.vm.findClass "com/example/yealm/yealm/ccs/Moves" = some m.cls := findClass_of_methodNamed Bd.named
  have hnm := (name_of_methodNamed Bd.named Bd.method).1
  have X0 : Stand p l e ({ frames := 0, cells := 0, slots := 0, locals := 0 } : Room) s m #[(.ref a1), (.int t)] below meth c s₁ [] 0 0 := Stand.of_body Bd
  have e0 : s₁.heap = h0 := by rw [← hh, Bd.state]; rfl
  have N0 := Fr.nil n0
  have pre0 : ∀ tgt, Steps p.tables e below (s₁.setTop (mkF m 0 #[.val (.ref a1), .val (.int t)] [])) tgt → Steps p.tables e below (s₁.setTop (entryFrame m #[(.ref a1), (.int t)] 2)) tgt := fun tgt k => castTop (ef_10 m a1 t) k
  obtain ⟨Em, Fb_1, Fb_2, Fb_3, Fb_4, Fb_5, Fc, ⟨kb_1, Vb_1⟩, ⟨kb_2, Vb_2⟩, ⟨kb_3, Vb_3⟩, ⟨kb_4, Vb_4⟩, ⟨kb_5, Vb_5⟩⟩ := MM
  obtain ⟨T1, X1, e1, st1⟩ := getF X0 hx hZ hown (host := "") (Or.inl (hw _ (List.mem_of_getElem? (i := 13) rfl))) Via.refl e0 Fb_2 (g := (mkF m 1 #[.val (.ref a1), .val (.int t)] [(.ref a1)])) rfl rfl (hb hby d10_1)
  have Vo_2 := Vb_2
  obtain ⟨Cl_2, Ar_2, Kc_2, Sz_2, Nn_2, Hs_2, Gf_2⟩ := Vo_2
  obtain ⟨fs, hr, hrun, hended, hW, hsame⟩ := X1.leave (v := some (.int y)) (fun h => by rw [Bd.returns] at h; cases h)
  refine ⟨_, _, pre0 _ ?_, hrun, hended, _, _, rfl, ?_, ⟨_, rfl⟩, hW, hsame.mono (by decide) (by decide)⟩
  · show Steps p.tables e below (s₁.setTop (mkF m 0 #[.val (.ref a1), .val (.int t)] [])) _
    refine XS.aloadN X0.here hx rfl (hb hby d10_0) rfl rfl ?_
    show Steps p.tables e below (s₁.setTop (mkF m 1 #[.val (.ref a1), .val (.int t)] [(.ref a1)])) _
    refine st1 _ ?_
    show Steps p.tables e below (T1.setTop (mkF m 4 #[.val (.ref a1), .val (.int t)] [(.ref b2)])) _
    refine XS.iloadN X1.here hx rfl (hb hby d10_4) rfl ?_
    show Steps p.tables e below (T1.setTop (mkF m 5 #[.val (.ref a1), .val (.int t)] [(.int t), (.ref b2)])) _
    refine X1.iaload hx (j := t) (v := (.int y)) (by rw [e1]; exact Ar_2.1) (State.isArrayOf_alike hZ.alike Ar_2.2.1) Ar_2.2.2 (inb_of Sz_2 hrt) (Has.at Hs_2 (inb_of Sz_2 hrt) ey) (g := (mkF m 5 #[.val (.ref a1), .val (.int t)] [(.int t), (.ref b2)])) rfl rfl (hb hby d10_5) _ ?_
    show Steps p.tables e below (T1.setTop (mkF m 6 #[.val (.ref a1), .val (.int t)] [(.int y)])) _
    exact retI X1 hx Bd.returns (hb hby d10_6) hr
  · show QG y h0 n0 _ T1.heap _
    rw [e1]
    exact ⟨rfl, N0, rfl⟩
theorem ef_11 (m : MethodId) (a1 : Addr) (t : Int32) : entryFrame m #[(.ref a1), (.int t)] 2 = mkF m 0 #[.val (.ref a1), .val (.int t)] [] := by first | (simp [entryFrame, mkF, argsToLocals, Value.category]; done) | rfl
set_option maxRecDepth 65536 in
set_option maxHeartbeats 40000000 in
theorem rm11 (l : Launch) (Z : State) (a0 : Array Value) (hw : ∀ d ∈ tables_1, d.before a0 Z = true) (ws : List Jvm.Cond) (a1 b1 b2 b3 b4 b5 : Addr) (cnt : Int32) (v1 v2 v3 v4 v5 : List Value) (t y : Int32) (h0 : Heap) (n0 : Nat) (Z0 : n0 ≤ h0.size) (MM : own_M Z h0 a1 b1 b2 b3 b4 b5 cnt v1 v2 v3 v4 v5) (hrt : ¬ t < 0 ∧ t < 16) (ey : v3.getD t.toNatClampNeg (.int (0 : Int32)) = .int y) :
    MetFree l (⟨"com/example/yealm/yealm/ccs/Moves", "getStep", "(I)I"⟩ : MethodName) (head1 (Jvm.Cond.code (⟨"com/example/yealm/yealm/ccs/Moves", "getStep", "(I)I"⟩ : MethodName) prog_17_method_8_code 2 (some .int) :: ws) ({ frames := 0, cells := 0, slots := 0, locals := 0 } : Room)) (fun a U => a = #[(.ref a1), (.int t)] ∧ Z.Warmed39 U.vm ∧ U.heap = h0) (fun _ _ _ _ _ => True) (fun _ U o U' => ∃ v L, o = .returned v ∧ QG y h0 n0 v U'.heap L ∧ FrameEnd U o U' L ({ frames := 0, cells := 0, slots := 0, locals := 0 } : Room).cells ({ frames := 0, cells := 0, slots := 0, locals := 0 } : Room).slots) := by
  refine MetFree.of_bodySF (plainFor_of_name pn_11) hisR ?_
  intro p e s m args below meth c s₁ Bd hml0 hP hK
  obtain ⟨rfl, hZ, hh⟩ := hP
  have hx := Bd.exec
  have hby := Bd.bytes
  have hml : c.maxLocals = 2 := hml0
  have hown : s.vm.findClass "com/example/yealm/yealm/ccs/Moves" = some m.cls := findClass_of_methodNamed Bd.named
  have hnm := (name_of_methodNamed Bd.named Bd.method).1
  have X0 : Stand p l e ({ frames := 0, cells := 0, slots := 0, locals := 0 } : Room) s m #[(.ref a1), (.int t)] below meth c s₁ [] 0 0 := Stand.of_body Bd
  have e0 : s₁.heap = h0 := by rw [← hh, Bd.state]; rfl
  have N0 := Fr.nil n0
  have pre0 : ∀ tgt, Steps p.tables e below (s₁.setTop (mkF m 0 #[.val (.ref a1), .val (.int t)] [])) tgt → Steps p.tables e below (s₁.setTop (entryFrame m #[(.ref a1), (.int t)] 2)) tgt := fun tgt k => castTop (ef_11 m a1 t) k
  obtain ⟨Em, Fb_1, Fb_2, Fb_3, Fb_4, Fb_5, Fc, ⟨kb_1, Vb_1⟩, ⟨kb_2, Vb_2⟩, ⟨kb_3, Vb_3⟩, ⟨kb_4, Vb_4⟩, ⟨kb_5, Vb_5⟩⟩ := MM
  obtain ⟨T1, X1, e1, st1⟩ := getF X0 hx hZ hown (host := "") (Or.inl (hw _ (List.mem_of_getElem? (i := 15) rfl))) Via.refl e0 Fb_3 (g := (mkF m 1 #[.val (.ref a1), .val (.int t)] [(.ref a1)])) rfl rfl (hb hby d11_1)
  have Vo_2 := Vb_3
  obtain ⟨Cl_2, Ar_2, Kc_2, Sz_2, Nn_2, Hs_2, Gf_2⟩ := Vo_2
  obtain ⟨fs, hr, hrun, hended, hW, hsame⟩ := X1.leave (v := some (.int y)) (fun h => by rw [Bd.returns] at h; cases h)
  refine ⟨_, _, pre0 _ ?_, hrun, hended, _, _, rfl, ?_, ⟨_, rfl⟩, hW, hsame.mono (by decide) (by decide)⟩
  · show Steps p.tables e below (s₁.setTop (mkF m 0 #[.val (.ref a1), .val (.int t)] [])) _
    refine XS.aloadN X0.here hx rfl (hb hby d11_0) rfl rfl ?_
    show Steps p.tables e below (s₁.setTop (mkF m 1 #[.val (.ref a1), .val (.int t)] [(.ref a1)])) _
    refine st1 _ ?_
    show Steps p.tables e below (T1.setTop (mkF m 4 #[.val (.ref a1), .val (.int t)] [(.ref b3)])) _
    refine XS.iloadN X1.here hx rfl (hb hby d11_4) rfl ?_
    show Steps p.tables e below (T1.setTop (mkF m 5 #[.val (.ref a1), .val (.int t)] [(.int t), (.ref b3)])) _
    refine X1.iaload hx (j := t) (v := (.int y)) (by rw [e1]; exact Ar_2.1) (State.isArrayOf_alike hZ.alike Ar_2.2.1) Ar_2.2.2 (inb_of Sz_2 hrt) (Has.at Hs_2 (inb_of Sz_2 hrt) ey) (g := (mkF m 5 #[.val (.ref a1), .val (.int t)] [(.int t), (.ref b3)])) rfl rfl (hb hby d11_5) _ ?_
    show Steps p.tables e below (T1.setTop (mkF m 6 #[.val (.ref a1), .val (.int t)] [(.int y)])) _
    exact retI X1 hx Bd.returns (hb hby d11_6) hr
  · show QG y h0 n0 _ T1.heap _
    rw [e1]
    exact ⟨rfl, N0, rfl⟩
theorem ef_12 (m : MethodId) (a1 : Addr) (t : Int32) : entryFrame m #[(.ref a1), (.int t)] 2 = mkF m 0 #[.val (.ref a1), .val (.int t)] [] := by first | (simp [entryFrame, mkF, argsToLocals, Value.category]; done) | rfl
set_option maxRecDepth 65536 in
set_option maxHeartbeats 40000000 in
theorem rm12 (l : Launch) (Z : State) (a0 : Array Value) (hw : ∀ d ∈ tables_1, d.before a0 Z = true) (ws : List Jvm.Cond) (a1 b1 b2 b3 b4 b5 : Addr) (cnt : Int32) (v1 v2 v3 v4 v5 : List Value) (t y : Int32) (h0 : Heap) (n0 : Nat) (Z0 : n0 ≤ h0.size) (MM : own_M Z h0 a1 b1 b2 b3 b4 b5 cnt v1 v2 v3 v4 v5) (hrt : ¬ t < 0 ∧ t < 16) (ey : v4.getD t.toNatClampNeg (.int (0 : Int32)) = .int y) :
    MetFree l (⟨"com/example/yealm/yealm/ccs/Moves", "getPartnerPlace", "(I)I"⟩ : MethodName) (head1 (Jvm.Cond.code (⟨"com/example/yealm/yealm/ccs/Moves", "getPartnerPlace", "(I)I"⟩ : MethodName) prog_17_method_9_code 2 (some .int) :: ws) ({ frames := 0, cells := 0, slots := 0, locals := 0 } : Room)) (fun a U => a = #[(.ref a1), (.int t)] ∧ Z.Warmed39 U.vm ∧ U.heap = h0) (fun _ _ _ _ _ => True) (fun _ U o U' => ∃ v L, o = .returned v ∧ QG y h0 n0 v U'.heap L ∧ FrameEnd U o U' L ({ frames := 0, cells := 0, slots := 0, locals := 0 } : Room).cells ({ frames := 0, cells := 0, slots := 0, locals := 0 } : Room).slots) := by
  refine MetFree.of_bodySF (plainFor_of_name pn_12) hisR ?_
  intro p e s m args below meth c s₁ Bd hml0 hP hK
  obtain ⟨rfl, hZ, hh⟩ := hP
  have hx := Bd.exec
  have hby := Bd.bytes
  have hml : c.maxLocals = 2 := hml0
  have hown : s.vm.findClass "com/example/yealm/yealm/ccs/Moves" = some m.cls := findClass_of_methodNamed Bd.named
  have hnm := (name_of_methodNamed Bd.named Bd.method).1
  have X0 : Stand p l e ({ frames := 0, cells := 0, slots := 0, locals := 0 } : Room) s m #[(.ref a1), (.int t)] below meth c s₁ [] 0 0 := Stand.of_body Bd
  have e0 : s₁.heap = h0 := by rw [← hh, Bd.state]; rfl
  have N0 := Fr.nil n0
  have pre0 : ∀ tgt, Steps p.tables e below (s₁.setTop (mkF m 0 #[.val (.ref a1), .val (.int t)] [])) tgt → Steps p.tables e below (s₁.setTop (entryFrame m #[(.ref a1), (.int t)] 2)) tgt := fun tgt k => castTop (ef_12 m a1 t) k
  obtain ⟨Em, Fb_1, Fb_2, Fb_3, Fb_4, Fb_5, Fc, ⟨kb_1, Vb_1⟩, ⟨kb_2, Vb_2⟩, ⟨kb_3, Vb_3⟩, ⟨kb_4, Vb_4⟩, ⟨kb_5, Vb_5⟩⟩ := MM
  obtain ⟨T1, X1, e1, st1⟩ := getF X0 hx hZ hown (host := "") (Or.inl (hw _ (List.mem_of_getElem? (i := 17) rfl))) Via.refl e0 Fb_4 (g := (mkF m 1 #[.val (.ref a1), .val (.int t)] [(.ref a1)])) rfl rfl (hb hby d12_1)
  have Vo_2 := Vb_4
  obtain ⟨Cl_2, Ar_2, Kc_2, Sz_2, Nn_2, Hs_2, Gf_2⟩ := Vo_2
  obtain ⟨fs, hr, hrun, hended, hW, hsame⟩ := X1.leave (v := some (.int y)) (fun h => by rw [Bd.returns] at h; cases h)
  refine ⟨_, _, pre0 _ ?_, hrun, hended, _, _, rfl, ?_, ⟨_, rfl⟩, hW, hsame.mono (by decide) (by decide)⟩
  · show Steps p.tables e below (s₁.setTop (mkF m 0 #[.val (.ref a1), .val (.int t)] [])) _
    refine XS.aloadN X0.here hx rfl (hb hby d12_0) rfl rfl ?_
    show Steps p.tables e below (s₁.setTop (mkF m 1 #[.val (.ref a1), .val (.int t)] [(.ref a1)])) _
    refine st1 _ ?_
    show Steps p.tables e below (T1.setTop (mkF m 4 #[.val (.ref a1), .val (.int t)] [(.ref b4)])) _
    refine XS.iloadN X1.here hx rfl (hb hby d12_4) rfl ?_
    show Steps p.tables e below (T1.setTop (mkF m 5 #[.val (.ref a1), .val (.int t)] [(.int t), (.ref b4)])) _
    refine X1.iaload hx (j := t) (v := (.int y)) (by rw [e1]; exact Ar_2.1) (State.isArrayOf_alike hZ.alike Ar_2.2.1) Ar_2.2.2 (inb_of Sz_2 hrt) (Has.at Hs_2 (inb_of Sz_2 hrt) ey) (g := (mkF m 5 #[.val (.ref a1), .val (.int t)] [(.int t), (.ref b4)])) rfl rfl (hb hby d12_5) _ ?_
    show Steps p.tables e below (T1.setTop (mkF m 6 #[.val (.ref a1), .val (.int t)] [(.int y)])) _
    exact retI X1 hx Bd.returns (hb hby d12_6) hr
  · show QG y h0 n0 _ T1.heap _
    rw [e1]
    exact ⟨rfl, N0, rfl⟩
theorem ef_13 (m : MethodId) (a1 : Addr) (t : Int32) : entryFrame m #[(.ref a1), (.int t)] 2 = mkF m 0 #[.val (.ref a1), .val (.int t)] [] := by first | (simp [entryFrame, mkF, argsToLocals, Value.category]; done) | rfl
set_option maxRecDepth 65536 in
set_option maxHeartbeats 40000000 in
theorem rm13 (l : Launch) (Z : State) (a0 : Array Value) (hw : ∀ d ∈ tables_1, d.before a0 Z = true) (ws : List Jvm.Cond) (a1 b1 b2 b3 b4 b5 : Addr) (cnt : Int32) (v1 v2 v3 v4 v5 : List Value) (t y : Int32) (h0 : Heap) (n0 : Nat) (Z0 : n0 ≤ h0.size) (MM : own_M Z h0 a1 b1 b2 b3 b4 b5 cnt v1 v2 v3 v4 v5) (hrt : ¬ t < 0 ∧ t < 16) (ey : v5.getD t.toNatClampNeg (.int (0 : Int32)) = .int y) :
    MetFree l (⟨"com/example/yealm/yealm/ccs/Moves", "getPartnerStep", "(I)I"⟩ : MethodName) (head1 (Jvm.Cond.code (⟨"com/example/yealm/yealm/ccs/Moves", "getPartnerStep", "(I)I"⟩ : MethodName) prog_17_method_10_code 2 (some .int) :: ws) ({ frames := 0, cells := 0, slots := 0, locals := 0 } : Room)) (fun a U => a = #[(.ref a1), (.int t)] ∧ Z.Warmed39 U.vm ∧ U.heap = h0) (fun _ _ _ _ _ => True) (fun _ U o U' => ∃ v L, o = .returned v ∧ QG y h0 n0 v U'.heap L ∧ FrameEnd U o U' L ({ frames := 0, cells := 0, slots := 0, locals := 0 } : Room).cells ({ frames := 0, cells := 0, slots := 0, locals := 0 } : Room).slots) := by
  refine MetFree.of_bodySF (plainFor_of_name pn_13) hisR ?_
  intro p e s m args below meth c s₁ Bd hml0 hP hK
  obtain ⟨rfl, hZ, hh⟩ := hP
  have hx := Bd.exec
  have hby := Bd.bytes
  have hml : c.maxLocals = 2 := hml0
  have hown : s.vm.findClass "com/example/yealm/yealm/ccs/Moves" = some m.cls := findClass_of_methodNamed Bd.named
  have hnm := (name_of_methodNamed Bd.named Bd.method).1
  have X0 : Stand p l e ({ frames := 0, cells := 0, slots := 0, locals := 0 } : Room) s m #[(.ref a1), (.int t)] below meth c s₁ [] 0 0 := Stand.of_body Bd
  have e0 : s₁.heap = h0 := by rw [← hh, Bd.state]; rfl
  have N0 := Fr.nil n0
  have pre0 : ∀ tgt, Steps p.tables e below (s₁.setTop (mkF m 0 #[.val (.ref a1), .val (.int t)] [])) tgt → Steps p.tables e below (s₁.setTop (entryFrame m #[(.ref a1), (.int t)] 2)) tgt := fun tgt k => castTop (ef_13 m a1 t) k
  obtain ⟨Em, Fb_1, Fb_2, Fb_3, Fb_4, Fb_5, Fc, ⟨kb_1, Vb_1⟩, ⟨kb_2, Vb_2⟩, ⟨kb_3, Vb_3⟩, ⟨kb_4, Vb_4⟩, ⟨kb_5, Vb_5⟩⟩ := MM
  obtain ⟨T1, X1, e1, st1⟩ := getF X0 hx hZ hown (host := "") (Or.inl (hw _ (List.mem_of_getElem? (i := 19) rfl))) Via.refl e0 Fb_5 (g := (mkF m 1 #[.val (.ref a1), .val (.int t)] [(.ref a1)])) rfl rfl (hb hby d13_1)
  have Vo_2 := Vb_5
  obtain ⟨Cl_2, Ar_2, Kc_2, Sz_2, Nn_2, Hs_2, Gf_2⟩ := Vo_2
  obtain ⟨fs, hr, hrun, hended, hW, hsame⟩ := X1.leave (v := some (.int y)) (fun h => by rw [Bd.returns] at h; cases h)
  refine ⟨_, _, pre0 _ ?_, hrun, hended, _, _, rfl, ?_, ⟨_, rfl⟩, hW, hsame.mono (by decide) (by decide)⟩
  · show Steps p.tables e below (s₁.setTop (mkF m 0 #[.val (.ref a1), .val (.int t)] [])) _
    refine XS.aloadN X0.here hx rfl (hb hby d13_0) rfl rfl ?_
    show Steps p.tables e below (s₁.setTop (mkF m 1 #[.val (.ref a1), .val (.int t)] [(.ref a1)])) _
    refine st1 _ ?_
    show Steps p.tables e below (T1.setTop (mkF m 4 #[.val (.ref a1), .val (.int t)] [(.ref b5)])) _
    refine XS.iloadN X1.here hx rfl (hb hby d13_4) rfl ?_
    show Steps p.tables e below (T1.setTop (mkF m 5 #[.val (.ref a1), .val (.int t)] [(.int t), (.ref b5)])) _
    refine X1.iaload hx (j := t) (v := (.int y)) (by rw [e1]; exact Ar_2.1) (State.isArrayOf_alike hZ.alike Ar_2.2.1) Ar_2.2.2 (inb_of Sz_2 hrt) (Has.at Hs_2 (inb_of Sz_2 hrt) ey) (g := (mkF m 5 #[.val (.ref a1), .val (.int t)] [(.int t), (.ref b5)])) rfl rfl (hb hby d13_5) _ ?_
    show Steps p.tables e below (T1.setTop (mkF m 6 #[.val (.ref a1), .val (.int t)] [(.int y)])) _
    exact retI X1 hx Bd.returns (hb hby d13_6) hr
  · show QG y h0 n0 _ T1.heap _
    rw [e1]
    exact ⟨rfl, N0, rfl⟩
theorem ef_8 (m : MethodId) (a1 : Addr) (t : Int32) (ea : Addr) : entryFrame m #[(.ref a1), (.int t), (.ref ea)] 3 = mkF m 0 #[.val (.ref a1), .val (.int t), .val (.ref ea)] [] := by first | (simp [entryFrame, mkF, argsToLocals, Value.category]; done) | rfl
def Q8 (h0 : Heap) (n0 : Nat) (v : Option Value) (h : Heap) (L : List Loc) : Prop := v = some (.int 1) ∧ Fr n0 L ∧ h = h0
set_option maxRecDepth 65536 in
set_option maxHeartbeats 40000000 in
theorem rm8 (l : Launch) (Z : State) (a0 : Array Value) (hw : ∀ d ∈ tables_1, d.before a0 Z = true) (ws : List Jvm.Cond) (a1 b1 b2 b3 b4 b5 : Addr) (cnt : Int32) (v1 v2 v3 v4 v5 : List Value) (t : Int32) (ea : Addr) (y1 y2 y3 y4 y5 : Int32) (h0 : Heap) (n0 : Nat) (Z0 : n0 ≤ h0.size) (MM : own_M Z h0 a1 b1 b2 b3 b4 b5 cnt v1 v2 v3 v4 v5) (hrt : ¬ t < 0 ∧ t < 16) (AE : own_A Z h0 ea 5 [.int y1, .int y2, .int y3, .int y4, .int y5]) (ey1 : v1.getD t.toNatClampNeg (.int (0 : Int32)) = .int y1) (ey2 : v2.getD t.toNatClampNeg (.int (0 : Int32)) = .int y2) (ey3 : v3.getD t.toNatClampNeg (.int (0 : Int32)) = .int y3) (ey4 : v4.getD t.toNatClampNeg (.int (0 : Int32)) = .int y4) (ey5 : v5.getD t.toNatClampNeg (.int (0 : Int32)) = .int y5) :
    MetFree l (⟨"com/example/yealm/yealm/ccs/MovesCopyPinLaw", "row", "(Lcom/example/yealm/yealm/ccs/Moves;I[I)Z"⟩ : MethodName) (head1 (Jvm.Cond.code (⟨"com/example/yealm/yealm/ccs/MovesCopyPinLaw", "row", "(Lcom/example/yealm/yealm/ccs/Moves;I[I)Z"⟩ : MethodName) method_2_code 3 (some .boolean) :: ws) ({ frames := 1, cells := 0, slots := 0, locals := 13 } : Room)) (fun a U => a = #[(.ref a1), (.int t), (.ref ea)] ∧ Z.Warmed39 U.vm ∧ U.heap = h0) (fun _ _ _ _ _ => True) (fun _ U o U' => ∃ v L, o = .returned v ∧ Q8 h0 n0 v U'.heap L ∧ FrameEnd U o U' L ({ frames := 1, cells := 0, slots := 0, locals := 13 } : Room).cells ({ frames := 1, cells := 0, slots := 0, locals := 13 } : Room).slots) := by
  refine MetFree.of_bodySF (plainFor_of_name pn_8) hisR ?_
  intro p e s m args below meth c s₁ Bd hml0 hP hK
  obtain ⟨rfl, hZ, hh⟩ := hP
  have hx := Bd.exec
  have hby := Bd.bytes
  have hml : c.maxLocals = 3 := hml0
  have hown : s.vm.findClass "com/example/yealm/yealm/ccs/MovesCopyPinLaw" = some m.cls := findClass_of_methodNamed Bd.named
  have hnm := (name_of_methodNamed Bd.named Bd.method).1
  have X0 : Stand p l e ({ frames := 1, cells := 0, slots := 0, locals := 13 } : Room) s m #[(.ref a1), (.int t), (.ref ea)] below meth c s₁ [] 0 0 := Stand.of_body Bd
  have e0 : s₁.heap = h0 := by rw [← hh, Bd.state]; rfl
  have N0 := Fr.nil n0
  have pre0 : ∀ tgt, Steps p.tables e below (s₁.setTop (mkF m 0 #[.val (.ref a1), .val (.int t), .val (.ref ea)] [])) tgt → Steps p.tables e below (s₁.setTop (entryFrame m #[(.ref a1), (.int t), (.ref ea)] 3)) tgt := fun tgt k => castTop (ef_8 m a1 t ea) k
  have MM' := MM
  obtain ⟨Em, _⟩ := MM'
  obtain ⟨ke, Ve⟩ := AE
  obtain ⟨cq1, kq1, q1a, q1b, q1c⟩ := isOf hZ e0 Em
  obtain ⟨_, _, ⟨T1, L1, k1, n1⟩, -, X1, ⟨Lc1, hQ1, l1, y1, z1⟩, st1⟩ := X0.virtualBack hx (y := (⟨"com/example/yealm/yealm/ccs/Moves", "getLabel", "(I)I"⟩ : MethodName)) (z := (⟨"com/example/yealm/yealm/ccs/Moves", "getLabel", "(I)I"⟩ : MethodName)) hown (mvT hZ (hw _ (List.mem_of_getElem? (i := 54) rfl))) (mvT hZ (hw _ (List.mem_of_getElem? (i := 55) rfl))) (notFace_of_selects (args := #[]) (mvT hZ (hw _ (List.mem_of_getElem? (i := 57) rfl)))) (mvT hZ (hw _ (List.mem_of_getElem? (i := 57) rfl))) (mvT hZ (hw _ (List.mem_of_getElem? (i := 56) rfl))) (by decide) (backOf (W := 0) (rm9 l Z a0 hw [] a1 b1 b2 b3 b4 b5 cnt v1 v2 v3 v4 v5 t y1 h0 n0 Z0 MM hrt ey1) hZ (hw _ (List.mem_of_getElem? (i := 58) rfl)) (hw _ (List.mem_of_getElem? (i := 4) rfl)) (by decide) (by decide)) q1a q1c (g := (mkF m 2 #[.val (.ref a1), .val (.int t), .val (.ref ea)] [(.int t), (.ref a1)])) rfl (by rw [hml]; rfl) (Steps.refl _) (argsL := [(.int t)]) (rest := []) (lenOf pd_1 rfl) rfl (by show 2 * 0 + _ ≤ _; exact Nat.le_of_eq rfl) (hb hby d8_2) (fun _ _ => ⟨rfl, e0, (by decide : 0 + 0 ≤ _), (by decide : 0 + 0 ≤ _)⟩)
  dsimp only [Pt.U, Pt.locs, Pt.cells, Pt.slots] at X1 l1 y1 z1 st1 hQ1
  subst l1 y1 z1
  obtain ⟨rfl, N1q, e1⟩ := hQ1
  have N1 := Fr.app N0 N1q
  have Vo_2 := Ve
  obtain ⟨Cl_2, Ar_2, Kc_2, Sz_2, Nn_2, Hs_2, Gf_2⟩ := Vo_2
  obtain ⟨cq3, kq3, q3a, q3b, q3c⟩ := isOf hZ e1 Em
  obtain ⟨_, _, ⟨T3, L3, k3, n3⟩, -, X3, ⟨Lc3, hQ3, l3, y3, z3⟩, st3⟩ := X1.virtualBack hx (y := (⟨"com/example/yealm/yealm/ccs/Moves", "getPlace", "(I)I"⟩ : MethodName)) (z := (⟨"com/example/yealm/yealm/ccs/Moves", "getPlace", "(I)I"⟩ : MethodName)) hown (mvT hZ (hw _ (List.mem_of_getElem? (i := 59) rfl))) (mvT hZ (hw _ (List.mem_of_getElem? (i := 60) rfl))) (notFace_of_selects (args := #[]) (mvT hZ (hw _ (List.mem_of_getElem? (i := 62) rfl)))) (mvT hZ (hw _ (List.mem_of_getElem? (i := 62) rfl))) (mvT hZ (hw _ (List.mem_of_getElem? (i := 61) rfl))) (by decide) (backOf (W := 0) (rm10 l Z a0 hw [] a1 b1 b2 b3 b4 b5 cnt v1 v2 v3 v4 v5 t y2 h0 n0 Z0 MM hrt ey2) hZ (hw _ (List.mem_of_getElem? (i := 63) rfl)) (hw _ (List.mem_of_getElem? (i := 4) rfl)) (by decide) (by decide)) q3a q3c (g := (mkF m 13 #[.val (.ref a1), .val (.int t), .val (.ref ea)] [(.int t), (.ref a1)])) rfl (by rw [hml]; rfl) (Steps.refl _) (argsL := [(.int t)]) (rest := []) (lenOf pd_1 rfl) rfl (by show 2 * 0 + _ ≤ _; exact Nat.le_of_eq rfl) (hb hby d8_13) (fun _ _ => ⟨rfl, e1, (by decide : 0 + 0 ≤ _), (by decide : 0 + 0 ≤ _)⟩)
  dsimp only [Pt.U, Pt.locs, Pt.cells, Pt.slots] at X3 l3 y3 z3 st3 hQ3
  subst l3 y3 z3
  obtain ⟨rfl, N3q, e3⟩ := hQ3
  have N3 := Fr.app N1 N3q
  have Vo_4 := Ve
  obtain ⟨Cl_4, Ar_4, Kc_4, Sz_4, Nn_4, Hs_4, Gf_4⟩ := Vo_4
  obtain ⟨cq5, kq5, q5a, q5b, q5c⟩ := isOf hZ e3 Em
  obtain ⟨_, _, ⟨T5, L5, k5, n5⟩, -, X5, ⟨Lc5, hQ5, l5, y5, z5⟩, st5⟩ := X3.virtualBack hx (y := (⟨"com/example/yealm/yealm/ccs/Moves", "getStep", "(I)I"⟩ : MethodName)) (z := (⟨"com/example/yealm/yealm/ccs/Moves", "getStep", "(I)I"⟩ : MethodName)) hown (mvT hZ (hw _ (List.mem_of_getElem? (i := 64) rfl))) (mvT hZ (hw _ (List.mem_of_getElem? (i := 65) rfl))) (notFace_of_selects (args := #[]) (mvT hZ (hw _ (List.mem_of_getElem? (i := 67) rfl)))) (mvT hZ (hw _ (List.mem_of_getElem? (i := 67) rfl))) (mvT hZ (hw _ (List.mem_of_getElem? (i := 66) rfl))) (by decide) (backOf (W := 0) (rm11 l Z a0 hw [] a1 b1 b2 b3 b4 b5 cnt v1 v2 v3 v4 v5 t y3 h0 n0 Z0 MM hrt ey3) hZ (hw _ (List.mem_of_getElem? (i := 68) rfl)) (hw _ (List.mem_of_getElem? (i := 4) rfl)) (by decide) (by decide)) q5a q5c (g := (mkF m 24 #[.val (.ref a1), .val (.int t), .val (.ref ea)] [(.int t), (.ref a1)])) rfl (by rw [hml]; rfl) (Steps.refl _) (argsL := [(.int t)]) (rest := []) (lenOf pd_1 rfl) rfl (by show 2 * 0 + _ ≤ _; exact Nat.le_of_eq rfl) (hb hby d8_24) (fun _ _ => ⟨rfl, e3, (by decide : 0 + 0 ≤ _), (by decide : 0 + 0 ≤ _)⟩)
  dsimp only [Pt.U, Pt.locs, Pt.cells, Pt.slots] at X5 l5 y5 z5 st5 hQ5
  subst l5 y5 z5
  obtain ⟨rfl, N5q, e5⟩ := hQ5
  have N5 := Fr.app N3 N5q
  have Vo_6 := Ve
  obtain ⟨Cl_6, Ar_6, Kc_6, Sz_6, Nn_6, Hs_6, Gf_6⟩ := Vo_6
  obtain ⟨cq7, kq7, q7a, q7b, q7c⟩ := isOf hZ e5 Em
  obtain ⟨_, _, ⟨T7, L7, k7, n7⟩, -, X7, ⟨Lc7, hQ7, l7, y7, z7⟩, st7⟩ := X5.virtualBack hx (y := (⟨"com/example/yealm/yealm/ccs/Moves", "getPartnerPlace", "(I)I"⟩ : MethodName)) (z := (⟨"com/example/yealm/yealm/ccs/Moves", "getPartnerPlace", "(I)I"⟩ : MethodName)) hown (mvT hZ (hw _ (List.mem_of_getElem? (i := 69) rfl))) (mvT hZ (hw _ (List.mem_of_getElem? (i := 70) rfl))) (notFace_of_selects (args := #[]) (mvT hZ (hw _ (List.mem_of_getElem? (i := 72) rfl)))) (mvT hZ (hw _ (List.mem_of_getElem? (i := 72) rfl))) (mvT hZ (hw _ (List.mem_of_getElem? (i := 71) rfl))) (by decide) (backOf (W := 0) (rm12 l Z a0 hw [] a1 b1 b2 b3 b4 b5 cnt v1 v2 v3 v4 v5 t y4 h0 n0 Z0 MM hrt ey4) hZ (hw _ (List.mem_of_getElem? (i := 73) rfl)) (hw _ (List.mem_of_getElem? (i := 4) rfl)) (by decide) (by decide)) q7a q7c (g := (mkF m 35 #[.val (.ref a1), .val (.int t), .val (.ref ea)] [(.int t), (.ref a1)])) rfl (by rw [hml]; rfl) (Steps.refl _) (argsL := [(.int t)]) (rest := []) (lenOf pd_1 rfl) rfl (by show 2 * 0 + _ ≤ _; exact Nat.le_of_eq rfl) (hb hby d8_35) (fun _ _ => ⟨rfl, e5, (by decide : 0 + 0 ≤ _), (by decide : 0 + 0 ≤ _)⟩)
  dsimp only [Pt.U, Pt.locs, Pt.cells, Pt.slots] at X7 l7 y7 z7 st7 hQ7
  subst l7 y7 z7
  obtain ⟨rfl, N7q, e7⟩ := hQ7
  have N7 := Fr.app N5 N7q
  have Vo_8 := Ve
  obtain ⟨Cl_8, Ar_8, Kc_8, Sz_8, Nn_8, Hs_8, Gf_8⟩ := Vo_8
  obtain ⟨cq9, kq9, q9a, q9b, q9c⟩ := isOf hZ e7 Em
  obtain ⟨_, _, ⟨T9, L9, k9, n9⟩, -, X9, ⟨Lc9, hQ9, l9, y9, z9⟩, st9⟩ := X7.virtualBack hx (y := (⟨"com/example/yealm/yealm/ccs/Moves", "getPartnerStep", "(I)I"⟩ : MethodName)) (z := (⟨"com/example/yealm/yealm/ccs/Moves", "getPartnerStep", "(I)I"⟩ : MethodName)) hown (mvT hZ (hw _ (List.mem_of_getElem? (i := 74) rfl))) (mvT hZ (hw _ (List.mem_of_getElem? (i := 75) rfl))) (notFace_of_selects (args := #[]) (mvT hZ (hw _ (List.mem_of_getElem? (i := 77) rfl)))) (mvT hZ (hw _ (List.mem_of_getElem? (i := 77) rfl))) (mvT hZ (hw _ (List.mem_of_getElem? (i := 76) rfl))) (by decide) (backOf (W := 0) (rm13 l Z a0 hw [] a1 b1 b2 b3 b4 b5 cnt v1 v2 v3 v4 v5 t y5 h0 n0 Z0 MM hrt ey5) hZ (hw _ (List.mem_of_getElem? (i := 78) rfl)) (hw _ (List.mem_of_getElem? (i := 4) rfl)) (by decide) (by decide)) q9a q9c (g := (mkF m 46 #[.val (.ref a1), .val (.int t), .val (.ref ea)] [(.int t), (.ref a1)])) rfl (by rw [hml]; rfl) (Steps.refl _) (argsL := [(.int t)]) (rest := []) (lenOf pd_1 rfl) rfl (by show 2 * 0 + _ ≤ _; exact Nat.le_of_eq rfl) (hb hby d8_46) (fun _ _ => ⟨rfl, e7, (by decide : 0 + 0 ≤ _), (by decide : 0 + 0 ≤ _)⟩)
  dsimp only [Pt.U, Pt.locs, Pt.cells, Pt.slots] at X9 l9 y9 z9 st9 hQ9
  subst l9 y9 z9
  obtain ⟨rfl, N9q, e9⟩ := hQ9
  have N9 := Fr.app N7 N9q
  have Vo_10 := Ve
  obtain ⟨Cl_10, Ar_10, Kc_10, Sz_10, Nn_10, Hs_10, Gf_10⟩ := Vo_10
  obtain ⟨fs, hr, hrun, hended, hW, hsame⟩ := X9.leave (v := some (.int (1 : Int32))) (fun h => by rw [Bd.returns] at h; cases h)
  refine ⟨_, _, pre0 _ ?_, hrun, hended, _, _, rfl, ?_, ⟨_, rfl⟩, hW, hsame.mono (by decide) (by decide)⟩
  · show Steps p.tables e below (s₁.setTop (mkF m 0 #[.val (.ref a1), .val (.int t), .val (.ref ea)] [])) _
    refine XS.aloadN X0.here hx rfl (hb hby d8_0) rfl rfl ?_
    show Steps p.tables e below (s₁.setTop (mkF m 1 #[.val (.ref a1), .val (.int t), .val (.ref ea)] [(.ref a1)])) _
    refine XS.iloadN X0.here hx rfl (hb hby d8_1) rfl ?_
    show Steps p.tables e below (s₁.setTop (mkF m 2 #[.val (.ref a1), .val (.int t), .val (.ref ea)] [(.int t), (.ref a1)])) _
    refine st1.trans ?_
    show Steps p.tables e below (T1.setTop (mkF m 5 #[.val (.ref a1), .val (.int t), .val (.ref ea)] [(.int y1)])) _
    refine XS.aloadN X1.here hx rfl (hb hby d8_5) rfl rfl ?_
    show Steps p.tables e below (T1.setTop (mkF m 6 #[.val (.ref a1), .val (.int t), .val (.ref ea)] [(.ref ea), (.int y1)])) _
    refine XS.iconst X1.here hx rfl (hb hby d8_6) ?_
    show Steps p.tables e below (T1.setTop (mkF m 7 #[.val (.ref a1), .val (.int t), .val (.ref ea)] [(.int (0 : Int32)), (.ref ea), (.int y1)])) _
    refine X1.iaload hx (j := (0 : Int32)) (v := (.int y1)) (by rw [e1]; exact Ar_2.1) (State.isArrayOf_alike hZ.alike Ar_2.2.1) Ar_2.2.2 (inb_of Sz_2 ⟨by decide, by decide⟩) (Has.at Hs_2 (inb_of Sz_2 ⟨by decide, by decide⟩) rfl) (g := (mkF m 7 #[.val (.ref a1), .val (.int t), .val (.ref ea)] [(.int (0 : Int32)), (.ref ea), (.int y1)])) rfl rfl (hb hby d8_7) _ ?_
    show Steps p.tables e below (T1.setTop (mkF m 8 #[.val (.ref a1), .val (.int t), .val (.ref ea)] [(.int y1), (.int y1)])) _
    refine XS.icmpNo X1.here hx rfl (hb hby d8_8) rfl (teq (rfl : y1 = y1)).2 ?_
    show Steps p.tables e below (T1.setTop (mkF m 11 #[.val (.ref a1), .val (.int t), .val (.ref ea)] [])) _
    refine XS.aloadN X1.here hx rfl (hb hby d8_11) rfl rfl ?_
    show Steps p.tables e below (T1.setTop (mkF m 12 #[.val (.ref a1), .val (.int t), .val (.ref ea)] [(.ref a1)])) _
    refine XS.iloadN X1.here hx rfl (hb hby d8_12) rfl ?_
    show Steps p.tables e below (T1.setTop (mkF m 13 #[.val (.ref a1), .val (.int t), .val (.ref ea)] [(.int t), (.ref a1)])) _
    refine st3.trans ?_
    show Steps p.tables e below (T3.setTop (mkF m 16 #[.val (.ref a1), .val (.int t), .val (.ref ea)] [(.int y2)])) _
    refine XS.aloadN X3.here hx rfl (hb hby d8_16) rfl rfl ?_
    show Steps p.tables e below (T3.setTop (mkF m 17 #[.val (.ref a1), .val (.int t), .val (.ref ea)] [(.ref ea), (.int y2)])) _
    refine XS.iconst X3.here hx rfl (hb hby d8_17) ?_
    show Steps p.tables e below (T3.setTop (mkF m 18 #[.val (.ref a1), .val (.int t), .val (.ref ea)] [(.int (1 : Int32)), (.ref ea), (.int y2)])) _
    refine X3.iaload hx (j := (1 : Int32)) (v := (.int y2)) (by rw [e3]; exact Ar_4.1) (State.isArrayOf_alike hZ.alike Ar_4.2.1) Ar_4.2.2 (inb_of Sz_4 ⟨by decide, by decide⟩) (Has.at Hs_4 (inb_of Sz_4 ⟨by decide, by decide⟩) rfl) (g := (mkF m 18 #[.val (.ref a1), .val (.int t), .val (.ref ea)] [(.int (1 : Int32)), (.ref ea), (.int y2)])) rfl rfl (hb hby d8_18) _ ?_
    show Steps p.tables e below (T3.setTop (mkF m 19 #[.val (.ref a1), .val (.int t), .val (.ref ea)] [(.int y2), (.int y2)])) _
    refine XS.icmpNo X3.here hx rfl (hb hby d8_19) rfl (teq (rfl : y2 = y2)).2 ?_
    show Steps p.tables e below (T3.setTop (mkF m 22 #[.val (.ref a1), .val (.int t), .val (.ref ea)] [])) _
    refine XS.aloadN X3.here hx rfl (hb hby d8_22) rfl rfl ?_
    show Steps p.tables e below (T3.setTop (mkF m 23 #[.val (.ref a1), .val (.int t), .val (.ref ea)] [(.ref a1)])) _
    refine XS.iloadN X3.here hx rfl (hb hby d8_23) rfl ?_
    show Steps p.tables e below (T3.setTop (mkF m 24 #[.val (.ref a1), .val (.int t), .val (.ref ea)] [(.int t), (.ref a1)])) _
    refine st5.trans ?_
    show Steps p.tables e below (T5.setTop (mkF m 27 #[.val (.ref a1), .val (.int t), .val (.ref ea)] [(.int y3)])) _
    refine XS.aloadN X5.here hx rfl (hb hby d8_27) rfl rfl ?_
    show Steps p.tables e below (T5.setTop (mkF m 28 #[.val (.ref a1), .val (.int t), .val (.ref ea)] [(.ref ea), (.int y3)])) _
    refine XS.iconst X5.here hx rfl (hb hby d8_28) ?_
    show Steps p.tables e below (T5.setTop (mkF m 29 #[.val (.ref a1), .val (.int t), .val (.ref ea)] [(.int (2 : Int32)), (.ref ea), (.int y3)])) _
    refine X5.iaload hx (j := (2 : Int32)) (v := (.int y3)) (by rw [e5]; exact Ar_6.1) (State.isArrayOf_alike hZ.alike Ar_6.2.1) Ar_6.2.2 (inb_of Sz_6 ⟨by decide, by decide⟩) (Has.at Hs_6 (inb_of Sz_6 ⟨by decide, by decide⟩) rfl) (g := (mkF m 29 #[.val (.ref a1), .val (.int t), .val (.ref ea)] [(.int (2 : Int32)), (.ref ea), (.int y3)])) rfl rfl (hb hby d8_29) _ ?_
    show Steps p.tables e below (T5.setTop (mkF m 30 #[.val (.ref a1), .val (.int t), .val (.ref ea)] [(.int y3), (.int y3)])) _
    refine XS.icmpNo X5.here hx rfl (hb hby d8_30) rfl (teq (rfl : y3 = y3)).2 ?_
    show Steps p.tables e below (T5.setTop (mkF m 33 #[.val (.ref a1), .val (.int t), .val (.ref ea)] [])) _
    refine XS.aloadN X5.here hx rfl (hb hby d8_33) rfl rfl ?_
    show Steps p.tables e below (T5.setTop (mkF m 34 #[.val (.ref a1), .val (.int t), .val (.ref ea)] [(.ref a1)])) _
    refine XS.iloadN X5.here hx rfl (hb hby d8_34) rfl ?_
    show Steps p.tables e below (T5.setTop (mkF m 35 #[.val (.ref a1), .val (.int t), .val (.ref ea)] [(.int t), (.ref a1)])) _
    refine st7.trans ?_
    show Steps p.tables e below (T7.setTop (mkF m 38 #[.val (.ref a1), .val (.int t), .val (.ref ea)] [(.int y4)])) _
    refine XS.aloadN X7.here hx rfl (hb hby d8_38) rfl rfl ?_
    show Steps p.tables e below (T7.setTop (mkF m 39 #[.val (.ref a1), .val (.int t), .val (.ref ea)] [(.ref ea), (.int y4)])) _
    refine XS.iconst X7.here hx rfl (hb hby d8_39) ?_
    show Steps p.tables e below (T7.setTop (mkF m 40 #[.val (.ref a1), .val (.int t), .val (.ref ea)] [(.int (3 : Int32)), (.ref ea), (.int y4)])) _
    refine X7.iaload hx (j := (3 : Int32)) (v := (.int y4)) (by rw [e7]; exact Ar_8.1) (State.isArrayOf_alike hZ.alike Ar_8.2.1) Ar_8.2.2 (inb_of Sz_8 ⟨by decide, by decide⟩) (Has.at Hs_8 (inb_of Sz_8 ⟨by decide, by decide⟩) rfl) (g := (mkF m 40 #[.val (.ref a1), .val (.int t), .val (.ref ea)] [(.int (3 : Int32)), (.ref ea), (.int y4)])) rfl rfl (hb hby d8_40) _ ?_
    show Steps p.tables e below (T7.setTop (mkF m 41 #[.val (.ref a1), .val (.int t), .val (.ref ea)] [(.int y4), (.int y4)])) _
    refine XS.icmpNo X7.here hx rfl (hb hby d8_41) rfl (teq (rfl : y4 = y4)).2 ?_
    show Steps p.tables e below (T7.setTop (mkF m 44 #[.val (.ref a1), .val (.int t), .val (.ref ea)] [])) _
    refine XS.aloadN X7.here hx rfl (hb hby d8_44) rfl rfl ?_
    show Steps p.tables e below (T7.setTop (mkF m 45 #[.val (.ref a1), .val (.int t), .val (.ref ea)] [(.ref a1)])) _
    refine XS.iloadN X7.here hx rfl (hb hby d8_45) rfl ?_
    show Steps p.tables e below (T7.setTop (mkF m 46 #[.val (.ref a1), .val (.int t), .val (.ref ea)] [(.int t), (.ref a1)])) _
    refine st9.trans ?_
    show Steps p.tables e below (T9.setTop (mkF m 49 #[.val (.ref a1), .val (.int t), .val (.ref ea)] [(.int y5)])) _
    refine XS.aloadN X9.here hx rfl (hb hby d8_49) rfl rfl ?_
    show Steps p.tables e below (T9.setTop (mkF m 50 #[.val (.ref a1), .val (.int t), .val (.ref ea)] [(.ref ea), (.int y5)])) _
    refine XS.iconst X9.here hx rfl (hb hby d8_50) ?_
    show Steps p.tables e below (T9.setTop (mkF m 51 #[.val (.ref a1), .val (.int t), .val (.ref ea)] [(.int (4 : Int32)), (.ref ea), (.int y5)])) _
    refine X9.iaload hx (j := (4 : Int32)) (v := (.int y5)) (by rw [e9]; exact Ar_10.1) (State.isArrayOf_alike hZ.alike Ar_10.2.1) Ar_10.2.2 (inb_of Sz_10 ⟨by decide, by decide⟩) (Has.at Hs_10 (inb_of Sz_10 ⟨by decide, by decide⟩) rfl) (g := (mkF m 51 #[.val (.ref a1), .val (.int t), .val (.ref ea)] [(.int (4 : Int32)), (.ref ea), (.int y5)])) rfl rfl (hb hby d8_51) _ ?_
    show Steps p.tables e below (T9.setTop (mkF m 52 #[.val (.ref a1), .val (.int t), .val (.ref ea)] [(.int y5), (.int y5)])) _
    refine XS.icmpNo X9.here hx rfl (hb hby d8_52) rfl (teq (rfl : y5 = y5)).2 ?_
    show Steps p.tables e below (T9.setTop (mkF m 55 #[.val (.ref a1), .val (.int t), .val (.ref ea)] [])) _
    refine XS.iconst X9.here hx rfl (hb hby d8_55) ?_
    show Steps p.tables e below (T9.setTop (mkF m 56 #[.val (.ref a1), .val (.int t), .val (.ref ea)] [(.int (1 : Int32))])) _
    refine XS.goto X9.here hx rfl (pc0 := 56) (pc' := 60) rfl (hb hby d8_56) (by decide) (by decide) ?_
    show Steps p.tables e below (T9.setTop (mkF m 60 #[.val (.ref a1), .val (.int t), .val (.ref ea)] [(.int (1 : Int32))])) _
    exact retN X9 hx (t := .boolean) Bd.returns (by simp) (hb hby d8_60) hr
  · show Q8 h0 n0 _ T9.heap _
    rw [e9]
    exact ⟨rfl, N9, rfl⟩
theorem own_A_ext {Z : State} {h h' : Heap} {b : Addr} {n : Int32} {vs : List Value} (A : own_A Z h b n vs) (E : Ext h h') : own_A Z h' b n vs := by obtain ⟨k, V⟩ := A; exact ⟨k, V.ext E⟩
theorem own_A_wr {Z : State} {h h' : Heap} {a b : Addr} {sl : Nat} {v : Value} {n : Int32} {vs : List Value} (A : own_A Z h b n vs) (W : Wr h h' a sl v) (q : b ≠ a) : own_A Z h' b n vs := by obtain ⟨k, V⟩ := A; exact ⟨k, V.other W q⟩
theorem own_M_ext {Z : State} {h h' : Heap} {m b1 b2 b3 b4 b5 : Addr} {cnt : Int32} {v1 v2 v3 v4 v5 : List Value} (X : own_M Z h m b1 b2 b3 b4 b5 cnt v1 v2 v3 v4 v5) (E : Ext h h') : own_M Z h' m b1 b2 b3 b4 b5 cnt v1 v2 v3 v4 v5 := by
  obtain ⟨e, f1, f2, f3, f4, f5, f6, a1, a2, a3, a4, a5⟩ := X
  exact ⟨e.ext E, f1.ext E, f2.ext E, f3.ext E, f4.ext E, f5.ext E, f6.ext E, own_A_ext a1 E, own_A_ext a2 E, own_A_ext a3 E, own_A_ext a4 E, own_A_ext a5 E⟩
theorem own_M_wr {Z : State} {h h' : Heap} {a m b1 b2 b3 b4 b5 : Addr} {sl : Nat} {v : Value} {cnt : Int32} {v1 v2 v3 v4 v5 : List Value} (X : own_M Z h m b1 b2 b3 b4 b5 cnt v1 v2 v3 v4 v5) (W : Wr h h' a sl v) (n : m ≠ a) (n1 : b1 ≠ a) (n2 : b2 ≠ a) (n3 : b3 ≠ a) (n4 : b4 ≠ a) (n5 : b5 ≠ a) : own_M Z h' m b1 b2 b3 b4 b5 cnt v1 v2 v3 v4 v5 := by
  obtain ⟨e, f1, f2, f3, f4, f5, f6, a1, a2, a3, a4, a5⟩ := X
  exact ⟨e.wr W, f1.other W (Or.inl n), f2.other W (Or.inl n), f3.other W (Or.inl n), f4.other W (Or.inl n), f5.other W (Or.inl n), f6.other W (Or.inl n), own_A_wr a1 W n1, own_A_wr a2 W n2, own_A_wr a3 W n3, own_A_wr a4 W n4, own_A_wr a5 W n5⟩
theorem own_rows {Z : State} {h : Heap} {r0 r1 r2 : Addr} {x1 y1 z1 x2 y2 z2 x3 y3 z3 x4 y4 z4 x5 y5 z5 : Int32} (A0 : own_A Z h r0 5 [.int x1, .int x2, .int x3, .int x4, .int x5]) (A1 : own_A Z h r1 5 [.int y1, .int y2, .int y3, .int y4, .int y5]) (A2 : own_A Z h r2 5 [.int z1, .int z2, .int z3, .int z4, .int z5]) {t : Nat} (ht : t ≤ 2) :
    own_A Z h (own_r3 t r0 r1 r2) 5 [.int (own_col t x1 y1 z1), .int (own_col t x2 y2 z2), .int (own_col t x3 y3 z3), .int (own_col t x4 y4 z4), .int (own_col t x5 y5 z5)] := by
  match t, ht with
  | 0, _ => exact A0
  | 1, _ => exact A1
  | 2, _ => exact A2
theorem ef_0 (m : MethodId) (q0 : Int32) (q1 : Int32) (q2 : Int32) (q3 : Int32) (q4 : Int64) (q5 : Int32) : entryFrame m #[(.int q0), (.int q1), (.int q2), (.int q3), (.long q4), (.int q5)] maxLocals = mkF m 0 #[.val (.int q0), .val (.int q1), .val (.int q2), .val (.int q3), .val (.long q4), .second, .val (.int q5), .unset, .unset, .unset, .unset, .unset, .unset, .unset, .unset, .unset, .unset, .unset, .unset] [] := by first | (simp [entryFrame, mkF, argsToLocals, Value.category, maxLocals]; done) | rfl
def Q0 (h0 : Heap) (n0 : Nat) (v : Option Value) (h : Heap) (L : List Loc) : Prop := v = some (.int 1) ∧ Fr n0 L
set_option maxRecDepth 65536 in
set_option maxHeartbeats 40000000 in
theorem rm0 (l : Launch) (Z : State) (a0 : Array Value) (hw : ∀ d ∈ tables_1, d.before a0 Z = true) (ws : List Jvm.Cond) (q0 q1 q2 q3 : Int32) (q4 : Int64) (q5 : Int32) (h0 : Heap) (n0 : Nat) (Z0 : n0 ≤ h0.size) :
    MetFree l x (head1 (Jvm.Cond.code x code maxLocals ret :: ws) room_1) (fun a U => a = #[(.int q0), (.int q1), (.int q2), (.int q3), (.long q4), (.int q5)] ∧ Z.Warmed39 U.vm ∧ U.heap = h0) (fun _ _ _ _ _ => True) (fun _ U o U' => ∃ v L, o = .returned v ∧ Q0 h0 n0 v U'.heap L ∧ FrameEnd U o U' L 12 116) := by
  refine MetFree.of_bodySF (plainFor_of_name pn_0) hisR ?_
  intro p e s m args below meth c s₁ Bd hml0 hP hK
  obtain ⟨rfl, hZ, hh⟩ := hP
  have hx := Bd.exec
  have hby := Bd.bytes
  have hml : c.maxLocals = 19 := hml0
  have hown : s.vm.findClass "com/example/yealm/yealm/ccs/MovesCopyPinLaw" = some m.cls := findClass_of_methodNamed Bd.named
  have hnm := (name_of_methodNamed Bd.named Bd.method).1
  have X0 : Stand p l e room_1 s m #[(.int q0), (.int q1), (.int q2), (.int q3), (.long q4), (.int q5)] below meth c s₁ [] 0 0 := Stand.of_body Bd
  have e0 : s₁.heap = h0 := by rw [← hh, Bd.state]; rfl
  have N0 := Fr.nil n0
  have pre0 : ∀ tgt, Steps p.tables e below (s₁.setTop (mkF m 0 #[.val (.int q0), .val (.int q1), .val (.int q2), .val (.int q3), .val (.long q4), .second, .val (.int q5), .unset, .unset, .unset, .unset, .unset, .unset, .unset, .unset, .unset, .unset, .unset, .unset] [])) tgt → Steps p.tables e below (s₁.setTop (entryFrame m #[(.int q0), (.int q1), (.int q2), (.int q3), (.long q4), (.int q5)] maxLocals)) tgt := fun tgt k => castTop (ef_0 m q0 q1 q2 q3 q4 q5) k
  obtain ⟨p1, hp1⟩ : ∃ z : Int32, z = ((q4 >>> ((32 : Int32) &&& 0x3f).toInt64).toInt32) := ⟨_, rfl⟩
  obtain ⟨s1, hs1⟩ : ∃ z : Int32, z = (q4.toInt32) := ⟨_, rfl⟩
  obtain ⟨kk, hkk⟩ : ∃ z : Int32, z = ((q5 &&& (2147483647 : Int32)) % (6 : Int32)) := ⟨_, rfl⟩
  obtain ⟨hkr, i, j, hi2, hj2, hati, hatj⟩ := own_sel hkk
  obtain ⟨ri1, ri2, ri3⟩ := own_rng hi2
  obtain ⟨rj1, rj2, rj3⟩ := own_rng hj2
  obtain ⟨T1, h1, k1, X1, e1, E1, A1, st1⟩ := newP X0 hx hZ (hw _ (List.mem_of_getElem? (i := 1) rfl)) e0 (g := (mkF m 25 #[.val (.int q0), .val (.int q1), .val (.int q2), .val (.int q3), .val (.long q4), .second, .val (.int q5), .val (.int p1), .val (.int s1), .val (.int kk), .unset, .unset, .unset, .unset, .unset, .unset, .unset, .unset, .unset] [(.int (6 : Int32))])) rfl (hb hby at_25) rfl (by decide) (cap := 6) (by decide) (by decide) (by decide) (by decide)
  obtain ⟨b1, g1⟩ : ∃ z, z = h0.size := ⟨_, rfl⟩
  rw [← g1] at A1 st1
  have g_b1 : n0 ≤ b1 := Nat.le_trans Z0 (Nat.le_of_eq g1.symm)
  have sz_b1 : h0.size ≤ b1 := Nat.le_trans (Nat.le_refl _) (Nat.le_of_eq g1.symm)
  have V_b1 : Arv Z h1 b1 k1 .int (6 : Int32) [(.int (0 : Int32)), (.int (0 : Int32)), (.int (0 : Int32)), (.int (0 : Int32)), (.int (0 : Int32)), (.int (0 : Int32))] (.int (0 : Int32)) := (Arv.new A1 (by decide)).pad (pad_rep [] (.int (0 : Int32)) 6)
  have Vo_2 := V_b1
  obtain ⟨Cl_2, Ar_2, Kc_2, Sz_2, Nn_2, Hs_2, Gf_2⟩ := Vo_2
  obtain ⟨T3, h3, X3, e3, W3, st3⟩ := stI X1 hx hZ e1 Ar_2 (j := (0 : Int32)) (inb_of Sz_2 ⟨by decide, by decide⟩) (g := (mkF m 30 #[.val (.int q0), .val (.int q1), .val (.int q2), .val (.int q3), .val (.long q4), .second, .val (.int q5), .val (.int p1), .val (.int s1), .val (.int kk), .unset, .unset, .unset, .unset, .unset, .unset, .unset, .unset, .unset] [(.int (0 : Int32)), (.int (0 : Int32)), (.ref b1), (.ref b1)])) rfl rfl (hb hby at_30)
  have Vs3 : Arv Z h3 b1 k1 .int (6 : Int32) [(.int (0 : Int32)), (.int (0 : Int32)), (.int (0 : Int32)), (.int (0 : Int32)), (.int (0 : Int32)), (.int (0 : Int32))] (.int (0 : Int32)) := Arv.set Ar_2 Kc_2 Sz_2 Nn_2 Hs_2 Gf_2 rfl W3 0 rfl (Nat.le_of_ble_eq_true rfl)
  have N3 := Fr.snoc X3 N0 g_b1
  have Vo_4 := Vs3
  obtain ⟨Cl_4, Ar_4, Kc_4, Sz_4, Nn_4, Hs_4, Gf_4⟩ := Vo_4
  obtain ⟨T5, h5, X5, e5, W5, st5⟩ := stI X3 hx hZ e3 Ar_4 (j := (1 : Int32)) (inb_of Sz_4 ⟨by decide, by decide⟩) (g := (mkF m 34 #[.val (.int q0), .val (.int q1), .val (.int q2), .val (.int q3), .val (.long q4), .second, .val (.int q5), .val (.int p1), .val (.int s1), .val (.int kk), .unset, .unset, .unset, .unset, .unset, .unset, .unset, .unset, .unset] [(.int (0 : Int32)), (.int (1 : Int32)), (.ref b1), (.ref b1)])) rfl rfl (hb hby at_34)
  have Vs5 : Arv Z h5 b1 k1 .int (6 : Int32) [(.int (0 : Int32)), (.int (0 : Int32)), (.int (0 : Int32)), (.int (0 : Int32)), (.int (0 : Int32)), (.int (0 : Int32))] (.int (0 : Int32)) := Arv.set Ar_4 Kc_4 Sz_4 Nn_4 Hs_4 Gf_4 rfl W5 1 rfl (Nat.le_of_ble_eq_true rfl)
  have N5 := Fr.snoc X5 N3 g_b1
  have Vo_6 := Vs5
  obtain ⟨Cl_6, Ar_6, Kc_6, Sz_6, Nn_6, Hs_6, Gf_6⟩ := Vo_6
  obtain ⟨T7, h7, X7, e7, W7, st7⟩ := stI X5 hx hZ e5 Ar_6 (j := (2 : Int32)) (inb_of Sz_6 ⟨by decide, by decide⟩) (g := (mkF m 38 #[.val (.int q0), .val (.int q1), .val (.int q2), .val (.int q3), .val (.long q4), .second, .val (.int q5), .val (.int p1), .val (.int s1), .val (.int kk), .unset, .unset, .unset, .unset, .unset, .unset, .unset, .unset, .unset] [(.int (0 : Int32)), (.int (2 : Int32)), (.ref b1), (.ref b1)])) rfl rfl (hb hby at_38)
  have Vs7 : Arv Z h7 b1 k1 .int (6 : Int32) [(.int (0 : Int32)), (.int (0 : Int32)), (.int (0 : Int32)), (.int (0 : Int32)), (.int (0 : Int32)), (.int (0 : Int32))] (.int (0 : Int32)) := Arv.set Ar_6 Kc_6 Sz_6 Nn_6 Hs_6 Gf_6 rfl W7 2 rfl (Nat.le_of_ble_eq_true rfl)
  have N7 := Fr.snoc X7 N5 g_b1
  have Vo_8 := Vs7
  obtain ⟨Cl_8, Ar_8, Kc_8, Sz_8, Nn_8, Hs_8, Gf_8⟩ := Vo_8
  obtain ⟨T9, h9, X9, e9, W9, st9⟩ := stI X7 hx hZ e7 Ar_8 (j := (3 : Int32)) (inb_of Sz_8 ⟨by decide, by decide⟩) (g := (mkF m 42 #[.val (.int q0), .val (.int q1), .val (.int q2), .val (.int q3), .val (.long q4), .second, .val (.int q5), .val (.int p1), .val (.int s1), .val (.int kk), .unset, .unset, .unset, .unset, .unset, .unset, .unset, .unset, .unset] [(.int (1 : Int32)), (.int (3 : Int32)), (.ref b1), (.ref b1)])) rfl rfl (hb hby at_42)
  have Vs9 : Arv Z h9 b1 k1 .int (6 : Int32) [(.int (0 : Int32)), (.int (0 : Int32)), (.int (0 : Int32)), (.int (1 : Int32)), (.int (0 : Int32)), (.int (0 : Int32))] (.int (0 : Int32)) := Arv.set Ar_8 Kc_8 Sz_8 Nn_8 Hs_8 Gf_8 rfl W9 3 rfl (Nat.le_of_ble_eq_true rfl)
  have N9 := Fr.snoc X9 N7 g_b1
  have Vo_10 := Vs9
  obtain ⟨Cl_10, Ar_10, Kc_10, Sz_10, Nn_10, Hs_10, Gf_10⟩ := Vo_10
  obtain ⟨T11, h11, X11, e11, W11, st11⟩ := stI X9 hx hZ e9 Ar_10 (j := (4 : Int32)) (inb_of Sz_10 ⟨by decide, by decide⟩) (g := (mkF m 46 #[.val (.int q0), .val (.int q1), .val (.int q2), .val (.int q3), .val (.long q4), .second, .val (.int q5), .val (.int p1), .val (.int s1), .val (.int kk), .unset, .unset, .unset, .unset, .unset, .unset, .unset, .unset, .unset] [(.int (1 : Int32)), (.int (4 : Int32)), (.ref b1), (.ref b1)])) rfl rfl (hb hby at_46)
  have Vs11 : Arv Z h11 b1 k1 .int (6 : Int32) [(.int (0 : Int32)), (.int (0 : Int32)), (.int (0 : Int32)), (.int (1 : Int32)), (.int (1 : Int32)), (.int (0 : Int32))] (.int (0 : Int32)) := Arv.set Ar_10 Kc_10 Sz_10 Nn_10 Hs_10 Gf_10 rfl W11 4 rfl (Nat.le_of_ble_eq_true rfl)
  have N11 := Fr.snoc X11 N9 g_b1
  have Vo_12 := Vs11
  obtain ⟨Cl_12, Ar_12, Kc_12, Sz_12, Nn_12, Hs_12, Gf_12⟩ := Vo_12
  obtain ⟨T13, h13, X13, e13, W13, st13⟩ := stI X11 hx hZ e11 Ar_12 (j := (5 : Int32)) (inb_of Sz_12 ⟨by decide, by decide⟩) (g := (mkF m 50 #[.val (.int q0), .val (.int q1), .val (.int q2), .val (.int q3), .val (.long q4), .second, .val (.int q5), .val (.int p1), .val (.int s1), .val (.int kk), .unset, .unset, .unset, .unset, .unset, .unset, .unset, .unset, .unset] [(.int (2 : Int32)), (.int (5 : Int32)), (.ref b1), (.ref b1)])) rfl rfl (hb hby at_50)
  have Vs13 : Arv Z h13 b1 k1 .int (6 : Int32) [(.int (0 : Int32)), (.int (0 : Int32)), (.int (0 : Int32)), (.int (1 : Int32)), (.int (1 : Int32)), (.int (2 : Int32))] (.int (0 : Int32)) := Arv.set Ar_12 Kc_12 Sz_12 Nn_12 Hs_12 Gf_12 rfl W13 5 rfl (Nat.le_of_ble_eq_true rfl)
  have N13 := Fr.snoc X13 N11 g_b1
  obtain ⟨T14, h14, k14, X14, e14, E14, A14, st14⟩ := newP X13 hx hZ (hw _ (List.mem_of_getElem? (i := 1) rfl)) e13 (g := (mkF m 55 #[.val (.int q0), .val (.int q1), .val (.int q2), .val (.int q3), .val (.long q4), .second, .val (.int q5), .val (.int p1), .val (.int s1), .val (.int kk), .val (.ref b1), .unset, .unset, .unset, .unset, .unset, .unset, .unset, .unset] [(.int (6 : Int32))])) rfl (hb hby at_55) rfl (by decide) (cap := 6) (by decide) (by decide) (by decide) (by decide)
  obtain ⟨b14, g14⟩ : ∃ z, z = h13.size := ⟨_, rfl⟩
  rw [← g14] at A14 st14
  have lt14_b1 : b1 < h13.size := Nat.lt_of_lt_of_le V_b1.lt (Nat.le_trans (Nat.le_trans (Nat.le_trans (Nat.le_trans (Nat.le_trans (Nat.le_trans (Nat.le_refl _) (Keep.of_wr W3).1) (Keep.of_wr W5).1) (Keep.of_wr W7).1) (Keep.of_wr W9).1) (Keep.of_wr W11).1) (Keep.of_wr W13).1)
  have ne14_b1 : b1 ≠ b14 := Nat.ne_of_lt (Nat.lt_of_lt_of_le lt14_b1 (Nat.le_of_eq g14.symm))
  have zz15 : n0 ≤ h13.size := (Nat.le_trans (Nat.le_trans (Nat.le_trans (Nat.le_trans (Nat.le_trans (Nat.le_trans (Nat.le_trans Z0 E1.1) (Keep.of_wr W3).1) (Keep.of_wr W5).1) (Keep.of_wr W7).1) (Keep.of_wr W9).1) (Keep.of_wr W11).1) (Keep.of_wr W13).1)
  have g_b14 : n0 ≤ b14 := Nat.le_trans zz15 (Nat.le_of_eq g14.symm)
  have zz16 : h0.size ≤ h13.size := (Nat.le_trans (Nat.le_trans (Nat.le_trans (Nat.le_trans (Nat.le_trans (Nat.le_trans (Nat.le_trans (Nat.le_refl _) E1.1) (Keep.of_wr W3).1) (Keep.of_wr W5).1) (Keep.of_wr W7).1) (Keep.of_wr W9).1) (Keep.of_wr W11).1) (Keep.of_wr W13).1)
  have sz_b14 : h0.size ≤ b14 := Nat.le_trans zz16 (Nat.le_of_eq g14.symm)
  have V_b14 : Arv Z h14 b14 k14 .int (6 : Int32) [(.int (0 : Int32)), (.int (0 : Int32)), (.int (0 : Int32)), (.int (0 : Int32)), (.int (0 : Int32)), (.int (0 : Int32))] (.int (0 : Int32)) := (Arv.new A14 (by decide)).pad (pad_rep [] (.int (0 : Int32)) 6)
  have Vo_17 := V_b14
  obtain ⟨Cl_17, Ar_17, Kc_17, Sz_17, Nn_17, Hs_17, Gf_17⟩ := Vo_17
  obtain ⟨T18, h18, X18, e18, W18, st18⟩ := stI X14 hx hZ e14 Ar_17 (j := (0 : Int32)) (inb_of Sz_17 ⟨by decide, by decide⟩) (g := (mkF m 60 #[.val (.int q0), .val (.int q1), .val (.int q2), .val (.int q3), .val (.long q4), .second, .val (.int q5), .val (.int p1), .val (.int s1), .val (.int kk), .val (.ref b1), .unset, .unset, .unset, .unset, .unset, .unset, .unset, .unset] [(.int (0 : Int32)), (.int (0 : Int32)), (.ref b14), (.ref b14)])) rfl rfl (hb hby at_60)
  have Vs18 : Arv Z h18 b14 k14 .int (6 : Int32) [(.int (0 : Int32)), (.int (0 : Int32)), (.int (0 : Int32)), (.int (0 : Int32)), (.int (0 : Int32)), (.int (0 : Int32))] (.int (0 : Int32)) := Arv.set Ar_17 Kc_17 Sz_17 Nn_17 Hs_17 Gf_17 rfl W18 0 rfl (Nat.le_of_ble_eq_true rfl)
  have N18 := Fr.snoc X18 N13 g_b14
  have Vo_19 := Vs18
  obtain ⟨Cl_19, Ar_19, Kc_19, Sz_19, Nn_19, Hs_19, Gf_19⟩ := Vo_19
  obtain ⟨T20, h20, X20, e20, W20, st20⟩ := stI X18 hx hZ e18 Ar_19 (j := (1 : Int32)) (inb_of Sz_19 ⟨by decide, by decide⟩) (g := (mkF m 64 #[.val (.int q0), .val (.int q1), .val (.int q2), .val (.int q3), .val (.long q4), .second, .val (.int q5), .val (.int p1), .val (.int s1), .val (.int kk), .val (.ref b1), .unset, .unset, .unset, .unset, .unset, .unset, .unset, .unset] [(.int (1 : Int32)), (.int (1 : Int32)), (.ref b14), (.ref b14)])) rfl rfl (hb hby at_64)
  have Vs20 : Arv Z h20 b14 k14 .int (6 : Int32) [(.int (0 : Int32)), (.int (1 : Int32)), (.int (0 : Int32)), (.int (0 : Int32)), (.int (0 : Int32)), (.int (0 : Int32))] (.int (0 : Int32)) := Arv.set Ar_19 Kc_19 Sz_19 Nn_19 Hs_19 Gf_19 rfl W20 1 rfl (Nat.le_of_ble_eq_true rfl)
  have N20 := Fr.snoc X20 N18 g_b14
  have Vo_21 := Vs20
  obtain ⟨Cl_21, Ar_21, Kc_21, Sz_21, Nn_21, Hs_21, Gf_21⟩ := Vo_21
  obtain ⟨T22, h22, X22, e22, W22, st22⟩ := stI X20 hx hZ e20 Ar_21 (j := (2 : Int32)) (inb_of Sz_21 ⟨by decide, by decide⟩) (g := (mkF m 68 #[.val (.int q0), .val (.int q1), .val (.int q2), .val (.int q3), .val (.long q4), .second, .val (.int q5), .val (.int p1), .val (.int s1), .val (.int kk), .val (.ref b1), .unset, .unset, .unset, .unset, .unset, .unset, .unset, .unset] [(.int (2 : Int32)), (.int (2 : Int32)), (.ref b14), (.ref b14)])) rfl rfl (hb hby at_68)
  have Vs22 : Arv Z h22 b14 k14 .int (6 : Int32) [(.int (0 : Int32)), (.int (1 : Int32)), (.int (2 : Int32)), (.int (0 : Int32)), (.int (0 : Int32)), (.int (0 : Int32))] (.int (0 : Int32)) := Arv.set Ar_21 Kc_21 Sz_21 Nn_21 Hs_21 Gf_21 rfl W22 2 rfl (Nat.le_of_ble_eq_true rfl)
  have N22 := Fr.snoc X22 N20 g_b14
  have Vo_23 := Vs22
  obtain ⟨Cl_23, Ar_23, Kc_23, Sz_23, Nn_23, Hs_23, Gf_23⟩ := Vo_23
  obtain ⟨T24, h24, X24, e24, W24, st24⟩ := stI X22 hx hZ e22 Ar_23 (j := (3 : Int32)) (inb_of Sz_23 ⟨by decide, by decide⟩) (g := (mkF m 72 #[.val (.int q0), .val (.int q1), .val (.int q2), .val (.int q3), .val (.long q4), .second, .val (.int q5), .val (.int p1), .val (.int s1), .val (.int kk), .val (.ref b1), .unset, .unset, .unset, .unset, .unset, .unset, .unset, .unset] [(.int (1 : Int32)), (.int (3 : Int32)), (.ref b14), (.ref b14)])) rfl rfl (hb hby at_72)
  have Vs24 : Arv Z h24 b14 k14 .int (6 : Int32) [(.int (0 : Int32)), (.int (1 : Int32)), (.int (2 : Int32)), (.int (1 : Int32)), (.int (0 : Int32)), (.int (0 : Int32))] (.int (0 : Int32)) := Arv.set Ar_23 Kc_23 Sz_23 Nn_23 Hs_23 Gf_23 rfl W24 3 rfl (Nat.le_of_ble_eq_true rfl)
  have N24 := Fr.snoc X24 N22 g_b14
  have Vo_25 := Vs24
  obtain ⟨Cl_25, Ar_25, Kc_25, Sz_25, Nn_25, Hs_25, Gf_25⟩ := Vo_25
  obtain ⟨T26, h26, X26, e26, W26, st26⟩ := stI X24 hx hZ e24 Ar_25 (j := (4 : Int32)) (inb_of Sz_25 ⟨by decide, by decide⟩) (g := (mkF m 76 #[.val (.int q0), .val (.int q1), .val (.int q2), .val (.int q3), .val (.long q4), .second, .val (.int q5), .val (.int p1), .val (.int s1), .val (.int kk), .val (.ref b1), .unset, .unset, .unset, .unset, .unset, .unset, .unset, .unset] [(.int (2 : Int32)), (.int (4 : Int32)), (.ref b14), (.ref b14)])) rfl rfl (hb hby at_76)
  have Vs26 : Arv Z h26 b14 k14 .int (6 : Int32) [(.int (0 : Int32)), (.int (1 : Int32)), (.int (2 : Int32)), (.int (1 : Int32)), (.int (2 : Int32)), (.int (0 : Int32))] (.int (0 : Int32)) := Arv.set Ar_25 Kc_25 Sz_25 Nn_25 Hs_25 Gf_25 rfl W26 4 rfl (Nat.le_of_ble_eq_true rfl)
  have N26 := Fr.snoc X26 N24 g_b14
  have Vo_27 := Vs26
  obtain ⟨Cl_27, Ar_27, Kc_27, Sz_27, Nn_27, Hs_27, Gf_27⟩ := Vo_27
  obtain ⟨T28, h28, X28, e28, W28, st28⟩ := stI X26 hx hZ e26 Ar_27 (j := (5 : Int32)) (inb_of Sz_27 ⟨by decide, by decide⟩) (g := (mkF m 80 #[.val (.int q0), .val (.int q1), .val (.int q2), .val (.int q3), .val (.long q4), .second, .val (.int q5), .val (.int p1), .val (.int s1), .val (.int kk), .val (.ref b1), .unset, .unset, .unset, .unset, .unset, .unset, .unset, .unset] [(.int (2 : Int32)), (.int (5 : Int32)), (.ref b14), (.ref b14)])) rfl rfl (hb hby at_80)
  have Vs28 : Arv Z h28 b14 k14 .int (6 : Int32) [(.int (0 : Int32)), (.int (1 : Int32)), (.int (2 : Int32)), (.int (1 : Int32)), (.int (2 : Int32)), (.int (2 : Int32))] (.int (0 : Int32)) := Arv.set Ar_27 Kc_27 Sz_27 Nn_27 Hs_27 Gf_27 rfl W28 5 rfl (Nat.le_of_ble_eq_true rfl)
  have N28 := Fr.snoc X28 N26 g_b14
  have fx30 := (((((((Vs13.ext E14).other W18 ne14_b1).other W20 ne14_b1).other W22 ne14_b1).other W24 ne14_b1).other W26 ne14_b1).other W28 ne14_b1)
  have Vo_29 := fx30
  obtain ⟨Cl_29, Ar_29, Kc_29, Sz_29, Nn_29, Hs_29, Gf_29⟩ := Vo_29
  have Vo_31 := Vs28
  obtain ⟨Cl_31, Ar_31, Kc_31, Sz_31, Nn_31, Hs_31, Gf_31⟩ := Vo_31
  obtain ⟨T32, h32, X32, e32, E32, A32, D32, -, st32⟩ := newO X28 hx hZ hown (hw _ (List.mem_of_getElem? (i := 2) rfl)) (hw _ (List.mem_of_getElem? (i := 3) rfl)) (hw _ (List.mem_of_getElem? (i := 4) rfl)) e28 (g := (mkF m 97 #[.val (.int q0), .val (.int q1), .val (.int q2), .val (.int q3), .val (.long q4), .second, .val (.int q5), .val (.int p1), .val (.int s1), .val (.int kk), .val (.ref b1), .val (.ref b14), .val (.int (Int32.ofNat i)), .val (.int (Int32.ofNat j)), .unset, .unset, .unset, .unset, .unset] [])) rfl (hb hby at_97) (by decide) (by decide)
  obtain ⟨b32, g32⟩ : ∃ z, z = h28.size := ⟨_, rfl⟩
  rw [← g32] at A32 D32 st32
  have lt32_b1 : b1 < h28.size := Nat.lt_of_lt_of_le lt14_b1 (Nat.le_trans (Nat.le_trans (Nat.le_trans (Nat.le_trans (Nat.le_trans (Nat.le_trans (Nat.le_trans (Nat.le_refl _) E14.1) (Keep.of_wr W18).1) (Keep.of_wr W20).1) (Keep.of_wr W22).1) (Keep.of_wr W24).1) (Keep.of_wr W26).1) (Keep.of_wr W28).1)
  have ne32_b1 : b1 ≠ b32 := Nat.ne_of_lt (Nat.lt_of_lt_of_le lt32_b1 (Nat.le_of_eq g32.symm))
  have lt32_b14 : b14 < h28.size := Nat.lt_of_lt_of_le V_b14.lt (Nat.le_trans (Nat.le_trans (Nat.le_trans (Nat.le_trans (Nat.le_trans (Nat.le_trans (Nat.le_refl _) (Keep.of_wr W18).1) (Keep.of_wr W20).1) (Keep.of_wr W22).1) (Keep.of_wr W24).1) (Keep.of_wr W26).1) (Keep.of_wr W28).1)
  have ne32_b14 : b14 ≠ b32 := Nat.ne_of_lt (Nat.lt_of_lt_of_le lt32_b14 (Nat.le_of_eq g32.symm))
  have zz33 : n0 ≤ h28.size := (Nat.le_trans (Nat.le_trans (Nat.le_trans (Nat.le_trans (Nat.le_trans (Nat.le_trans (Nat.le_trans zz15 E14.1) (Keep.of_wr W18).1) (Keep.of_wr W20).1) (Keep.of_wr W22).1) (Keep.of_wr W24).1) (Keep.of_wr W26).1) (Keep.of_wr W28).1)
  have g_b32 : n0 ≤ b32 := Nat.le_trans zz33 (Nat.le_of_eq g32.symm)
  have zz34 : h0.size ≤ h28.size := (Nat.le_trans (Nat.le_trans (Nat.le_trans (Nat.le_trans (Nat.le_trans (Nat.le_trans (Nat.le_trans zz16 E14.1) (Keep.of_wr W18).1) (Keep.of_wr W20).1) (Keep.of_wr W22).1) (Keep.of_wr W24).1) (Keep.of_wr W26).1) (Keep.of_wr W28).1)
  have sz_b32 : h0.size ≤ b32 := Nat.le_trans zz34 (Nat.le_of_eq g32.symm)
  have E_b32 := A32
  have F_labels_b32 : Fld Z h32 b32 "com/example/yealm/yealm/ccs/Moves" "labels" "[I" .null := D32 (Or.inl (hw _ (List.mem_of_getElem? (i := 12) rfl))) (ty := (.array .int)) (by decide)
  have F_places_b32 : Fld Z h32 b32 "com/example/yealm/yealm/ccs/Moves" "places" "[I" .null := D32 (Or.inl (hw _ (List.mem_of_getElem? (i := 14) rfl))) (ty := (.array .int)) (by decide)
  have F_steps_b32 : Fld Z h32 b32 "com/example/yealm/yealm/ccs/Moves" "steps" "[I" .null := D32 (Or.inl (hw _ (List.mem_of_getElem? (i := 16) rfl))) (ty := (.array .int)) (by decide)
  have F_partnerPlaces_b32 : Fld Z h32 b32 "com/example/yealm/yealm/ccs/Moves" "partnerPlaces" "[I" .null := D32 (Or.inl (hw _ (List.mem_of_getElem? (i := 18) rfl))) (ty := (.array .int)) (by decide)
  have F_partnerSteps_b32 : Fld Z h32 b32 "com/example/yealm/yealm/ccs/Moves" "partnerSteps" "[I" .null := D32 (Or.inl (hw _ (List.mem_of_getElem? (i := 20) rfl))) (ty := (.array .int)) (by decide)
  have F_count_b32 : Fld Z h32 b32 "com/example/yealm/yealm/ccs/Moves" "count" "I" (.int (0 : Int32)) := D32 (Or.inl (hw _ (List.mem_of_getElem? (i := 31) rfl))) (ty := .int) (by decide)
  obtain ⟨LF35, XF35, NF35⟩ : ∃ LC, Stand p l e room_1 s m #[(.int q0), (.int q1), (.int q2), (.int q3), (.long q4), (.int q5)] below meth c T32 LC 3 18 ∧ Fr n0 LC := ⟨_, X32, N28⟩
  obtain ⟨_, _, ⟨T36, L36, k36, n36⟩, -, X36, ⟨Lc36, hQ36, l36, y36, z36⟩, st36⟩ := XF35.specialBack hx (y := (⟨"com/example/yealm/yealm/ccs/Moves", "<init>", "()V"⟩ : MethodName)) rfl hown (mvT hZ (hw _ (List.mem_of_getElem? (i := 5) rfl))) (mvT hZ (hw _ (List.mem_of_getElem? (i := 6) rfl))) (mvT hZ (hw _ (List.mem_of_getElem? (i := 7) rfl))) (by decide) (backOf (W := 1) (rm1 l Z a0 hw [] b32 (.null) (.null) (.null) (.null) (.null) h32 n0 (Nat.le_trans zz33 E32.1) E_b32 g_b32 F_labels_b32 F_places_b32 F_steps_b32 F_partnerPlaces_b32 F_partnerSteps_b32 F_count_b32) hZ (hw _ (List.mem_of_getElem? (i := 7) rfl)) (hw _ (List.mem_of_getElem? (i := 4) rfl)) (by decide) (by decide)) (g := (mkF m 101 #[.val (.int q0), .val (.int q1), .val (.int q2), .val (.int q3), .val (.long q4), .second, .val (.int q5), .val (.int p1), .val (.int s1), .val (.int kk), .val (.ref b1), .val (.ref b14), .val (.int (Int32.ofNat i)), .val (.int (Int32.ofNat j)), .unset, .unset, .unset, .unset, .unset] [(.ref b32), (.ref b32)])) rfl (by rw [hml]; rfl) (Steps.refl _) (a := b32) (argsL := []) (rest := [(.ref b32)]) (lenOf pd_0 rfl) rfl (by show 2 * 0 + _ ≤ _; exact Nat.le_of_eq rfl) (hb hby at_101) (fun _ _ => ⟨rfl, e32, (by decide : 3 + 5 ≤ _), (by decide : 18 + 80 ≤ _)⟩)
  dsimp only [Pt.U, Pt.locs, Pt.cells, Pt.slots] at X36 l36 y36 z36 st36 hQ36
  subst l36 y36 z36
  obtain ⟨rfl, N36q, m36_1, m36_2, m36_3, m36_4, m36_5, K36, D36, M36⟩ := hQ36
  have N36 := Fr.app NF35 N36q
  have D36' := D36
  have M36' := M36
  obtain ⟨Emx36, Fbx36_1, Fbx36_2, Fbx36_3, Fbx36_4, Fbx36_5, Fcx36, ⟨kbx36_1, Vbx36_1⟩, ⟨kbx36_2, Vbx36_2⟩, ⟨kbx36_3, Vbx36_3⟩, ⟨kbx36_4, Vbx36_4⟩, ⟨kbx36_5, Vbx36_5⟩⟩ := M36'
  obtain ⟨⟨g_b32, g_m36_1, g_m36_2, g_m36_3, g_m36_4, g_m36_5⟩, ⟨nm1, nm2, nm3, nm4, nm5⟩, ⟨n12, n13, n14, n15⟩, ⟨n23, n24, n25⟩, ⟨n34, n35⟩, n45⟩ := D36'
  obtain ⟨cq37, kq37, q37a, q37b, q37c⟩ := isOf hZ rfl Emx36
  obtain ⟨_, _, ⟨T37, L37, k37, n37⟩, -, X37, ⟨Lc37, hQ37, l37, y37, z37⟩, st37⟩ := X36.virtualBack hx (y := (⟨"com/example/yealm/yealm/ccs/Moves", "add", "(III)V"⟩ : MethodName)) (z := (⟨"com/example/yealm/yealm/ccs/Moves", "add", "(III)V"⟩ : MethodName)) hown (mvT hZ (hw _ (List.mem_of_getElem? (i := 21) rfl))) (mvT hZ (hw _ (List.mem_of_getElem? (i := 22) rfl))) (notFace_of_selects (args := #[]) (mvT hZ (hw _ (List.mem_of_getElem? (i := 24) rfl)))) (mvT hZ (hw _ (List.mem_of_getElem? (i := 24) rfl))) (mvT hZ (hw _ (List.mem_of_getElem? (i := 23) rfl))) (by decide) (backOf (W := 0) (rm3 l Z a0 hw [] b32 m36_1 m36_2 m36_3 m36_4 m36_5 (0 : Int32) ([(.int (0 : Int32)), (.int (0 : Int32)), (.int (0 : Int32))]) ([(.int (0 : Int32)), (.int (0 : Int32)), (.int (0 : Int32))]) ([(.int (0 : Int32)), (.int (0 : Int32)), (.int (0 : Int32))]) ([(.int (0 : Int32)), (.int (0 : Int32)), (.int (0 : Int32))]) ([(.int (0 : Int32)), (.int (0 : Int32)), (.int (0 : Int32))]) q0 q1 q2 0 T36.heap n0 (Nat.le_trans (Nat.le_trans zz33 E32.1) K36.1) M36 D36 rfl ⟨by decide, by decide⟩ (by decide) (Nat.le_of_ble_eq_true rfl) (Nat.le_of_ble_eq_true rfl) (Nat.le_of_ble_eq_true rfl) (Nat.le_of_ble_eq_true rfl) (Nat.le_of_ble_eq_true rfl)) hZ (hw _ (List.mem_of_getElem? (i := 25) rfl)) (hw _ (List.mem_of_getElem? (i := 4) rfl)) (by decide) (by decide)) q37a q37c (g := (mkF m 111 #[.val (.int q0), .val (.int q1), .val (.int q2), .val (.int q3), .val (.long q4), .second, .val (.int q5), .val (.int p1), .val (.int s1), .val (.int kk), .val (.ref b1), .val (.ref b14), .val (.int (Int32.ofNat i)), .val (.int (Int32.ofNat j)), .val (.ref b32), .unset, .unset, .unset, .unset] [(.int q2), (.int q1), (.int q0), (.ref b32)])) rfl (by rw [hml]; rfl) (Steps.refl _) (argsL := [(.int q0), (.int q1), (.int q2)]) (rest := []) (lenOf pd_2 rfl) rfl (by show 2 * 0 + _ ≤ _; exact Nat.le_of_eq rfl) (hb hby at_111) (fun _ _ => ⟨rfl, rfl, (by decide : 8 + 0 ≤ _), (by decide : 98 + 0 ≤ _)⟩)
  dsimp only [Pt.U, Pt.locs, Pt.cells, Pt.slots] at X37 l37 y37 z37 st37 hQ37
  subst l37 y37 z37
  obtain ⟨rfl, N37q, K37, My37⟩ := hQ37
  have N37 := Fr.app N36 N37q
  have M37 : own_M Z T37.heap b32 m36_1 m36_2 m36_3 m36_4 m36_5 (1 : Int32) ([(.int q0), (.int (0 : Int32)), (.int (0 : Int32))]) ([(.int q1), (.int (0 : Int32)), (.int (0 : Int32))]) ([(.int q2), (.int (0 : Int32)), (.int (0 : Int32))]) ([(.int (-1 : Int32)), (.int (0 : Int32)), (.int (0 : Int32))]) ([(.int (-1 : Int32)), (.int (0 : Int32)), (.int (0 : Int32))]) := My37
  have Em37 := M37.1
  have zz39 : n0 ≤ T37.heap.size := (Nat.le_trans (Nat.le_trans (Nat.le_trans zz33 E32.1) K36.1) K37.1)
  obtain ⟨cq38, kq38, q38a, q38b, q38c⟩ := isOf hZ rfl Em37
  obtain ⟨_, _, ⟨T38, L38, k38, n38⟩, -, X38, ⟨Lc38, hQ38, l38, y38, z38⟩, st38⟩ := X37.virtualBack hx (y := (⟨"com/example/yealm/yealm/ccs/Moves", "add", "(III)V"⟩ : MethodName)) (z := (⟨"com/example/yealm/yealm/ccs/Moves", "add", "(III)V"⟩ : MethodName)) hown (mvT hZ (hw _ (List.mem_of_getElem? (i := 21) rfl))) (mvT hZ (hw _ (List.mem_of_getElem? (i := 22) rfl))) (notFace_of_selects (args := #[]) (mvT hZ (hw _ (List.mem_of_getElem? (i := 24) rfl)))) (mvT hZ (hw _ (List.mem_of_getElem? (i := 24) rfl))) (mvT hZ (hw _ (List.mem_of_getElem? (i := 23) rfl))) (by decide) (backOf (W := 0) (rm3 l Z a0 hw [] b32 m36_1 m36_2 m36_3 m36_4 m36_5 (1 : Int32) ([(.int q0), (.int (0 : Int32)), (.int (0 : Int32))]) ([(.int q1), (.int (0 : Int32)), (.int (0 : Int32))]) ([(.int q2), (.int (0 : Int32)), (.int (0 : Int32))]) ([(.int (-1 : Int32)), (.int (0 : Int32)), (.int (0 : Int32))]) ([(.int (-1 : Int32)), (.int (0 : Int32)), (.int (0 : Int32))]) q3 p1 s1 1 T37.heap n0 zz39 M37 D36 rfl ⟨by decide, by decide⟩ (by decide) (Nat.le_of_ble_eq_true rfl) (Nat.le_of_ble_eq_true rfl) (Nat.le_of_ble_eq_true rfl) (Nat.le_of_ble_eq_true rfl) (Nat.le_of_ble_eq_true rfl)) hZ (hw _ (List.mem_of_getElem? (i := 25) rfl)) (hw _ (List.mem_of_getElem? (i := 4) rfl)) (by decide) (by decide)) q38a q38c (g := (mkF m 121 #[.val (.int q0), .val (.int q1), .val (.int q2), .val (.int q3), .val (.long q4), .second, .val (.int q5), .val (.int p1), .val (.int s1), .val (.int kk), .val (.ref b1), .val (.ref b14), .val (.int (Int32.ofNat i)), .val (.int (Int32.ofNat j)), .val (.ref b32), .unset, .unset, .unset, .unset] [(.int s1), (.int p1), (.int q3), (.ref b32)])) rfl (by rw [hml]; rfl) (Steps.refl _) (argsL := [(.int q3), (.int p1), (.int s1)]) (rest := []) (lenOf pd_2 rfl) rfl (by show 2 * 0 + _ ≤ _; exact Nat.le_of_eq rfl) (hb hby at_121) (fun _ _ => ⟨rfl, rfl, (by decide : 8 + 0 ≤ _), (by decide : 98 + 0 ≤ _)⟩)
  dsimp only [Pt.U, Pt.locs, Pt.cells, Pt.slots] at X38 l38 y38 z38 st38 hQ38
  subst l38 y38 z38
  obtain ⟨rfl, N38q, K38, My38⟩ := hQ38
  have N38 := Fr.app N37 N38q
  have M38 : own_M Z T38.heap b32 m36_1 m36_2 m36_3 m36_4 m36_5 (2 : Int32) ([(.int q0), (.int q3), (.int (0 : Int32))]) ([(.int q1), (.int p1), (.int (0 : Int32))]) ([(.int q2), (.int s1), (.int (0 : Int32))]) ([(.int (-1 : Int32)), (.int (-1 : Int32)), (.int (0 : Int32))]) ([(.int (-1 : Int32)), (.int (-1 : Int32)), (.int (0 : Int32))]) := My38
  have Em38 := M38.1
  obtain ⟨cq40, kq40, q40a, q40b, q40c⟩ := isOf hZ rfl Em38
  obtain ⟨_, _, ⟨T40, L40, k40, n40⟩, -, X40, ⟨Lc40, hQ40, l40, y40, z40⟩, st40⟩ := X38.virtualBack hx (y := (⟨"com/example/yealm/yealm/ccs/Moves", "addHandshake", "(II)V"⟩ : MethodName)) (z := (⟨"com/example/yealm/yealm/ccs/Moves", "addHandshake", "(II)V"⟩ : MethodName)) hown (mvT hZ (hw _ (List.mem_of_getElem? (i := 32) rfl))) (mvT hZ (hw _ (List.mem_of_getElem? (i := 33) rfl))) (notFace_of_selects (args := #[]) (mvT hZ (hw _ (List.mem_of_getElem? (i := 35) rfl)))) (mvT hZ (hw _ (List.mem_of_getElem? (i := 35) rfl))) (mvT hZ (hw _ (List.mem_of_getElem? (i := 34) rfl))) (by decide) (backOf (W := 0) (rm5 l Z a0 hw [] b32 m36_1 m36_2 m36_3 m36_4 m36_5 (2 : Int32) ([(.int q0), (.int q3), (.int (0 : Int32))]) ([(.int q1), (.int p1), (.int (0 : Int32))]) ([(.int q2), (.int s1), (.int (0 : Int32))]) ([(.int (-1 : Int32)), (.int (-1 : Int32)), (.int (0 : Int32))]) ([(.int (-1 : Int32)), (.int (-1 : Int32)), (.int (0 : Int32))]) (0 : Int32) (1 : Int32) 2 q1 q2 p1 s1 T38.heap n0 (Nat.le_trans zz39 K38.1) M38 D36 rfl ⟨by decide, by decide⟩ (by decide) (Nat.le_of_ble_eq_true rfl) (Nat.le_of_ble_eq_true rfl) (Nat.le_of_ble_eq_true rfl) (Nat.le_of_ble_eq_true rfl) (Nat.le_of_ble_eq_true rfl) ⟨by decide, by decide⟩ ⟨by decide, by decide⟩ rfl rfl rfl rfl) hZ (hw _ (List.mem_of_getElem? (i := 36) rfl)) (hw _ (List.mem_of_getElem? (i := 4) rfl)) (by decide) (by decide)) q40a q40c (g := (mkF m 128 #[.val (.int q0), .val (.int q1), .val (.int q2), .val (.int q3), .val (.long q4), .second, .val (.int q5), .val (.int p1), .val (.int s1), .val (.int kk), .val (.ref b1), .val (.ref b14), .val (.int (Int32.ofNat i)), .val (.int (Int32.ofNat j)), .val (.ref b32), .unset, .unset, .unset, .unset] [(.int (1 : Int32)), (.int (0 : Int32)), (.ref b32)])) rfl (by rw [hml]; rfl) (Steps.refl _) (argsL := [(.int (0 : Int32)), (.int (1 : Int32))]) (rest := []) (lenOf pd_3 rfl) rfl (by show 2 * 0 + _ ≤ _; exact Nat.le_of_eq rfl) (hb hby at_128) (fun _ _ => ⟨rfl, rfl, (by decide : 8 + 0 ≤ _), (by decide : 98 + 0 ≤ _)⟩)
  dsimp only [Pt.U, Pt.locs, Pt.cells, Pt.slots] at X40 l40 y40 z40 st40 hQ40
  subst l40 y40 z40
  obtain ⟨rfl, N40q, K40, My40⟩ := hQ40
  have N40 := Fr.app N38 N40q
  have M40 : own_M Z T40.heap b32 m36_1 m36_2 m36_3 m36_4 m36_5 (3 : Int32) ([(.int q0), (.int q3), (.int (0 : Int32))]) ([(.int q1), (.int p1), (.int q1)]) ([(.int q2), (.int s1), (.int q2)]) ([(.int (-1 : Int32)), (.int (-1 : Int32)), (.int p1)]) ([(.int (-1 : Int32)), (.int (-1 : Int32)), (.int s1)]) := My40
  have Em40 := M40.1
  obtain ⟨T41, h41, k41, X41, e41, E41, A41, B41, st41⟩ := newPE X40 hx hZ (hw _ (List.mem_of_getElem? (i := 1) rfl)) rfl (g := (mkF m 132 #[.val (.int q0), .val (.int q1), .val (.int q2), .val (.int q3), .val (.long q4), .second, .val (.int q5), .val (.int p1), .val (.int s1), .val (.int kk), .val (.ref b1), .val (.ref b14), .val (.int (Int32.ofNat i)), .val (.int (Int32.ofNat j)), .val (.ref b32), .unset, .unset, .unset, .unset] [(.int (5 : Int32))])) rfl (hb hby at_132) rfl (by decide) (cap := 5) (by decide) (by decide) (by decide) (by decide) (ad := "[I") (by decide)
  obtain ⟨b41, g41⟩ : ∃ z, z = T40.heap.size := ⟨_, rfl⟩
  rw [← g41] at A41 B41 st41
  have lt41_b1 : b1 < T40.heap.size := Nat.lt_of_lt_of_le lt32_b1 (Nat.le_trans (Nat.le_trans (Nat.le_trans (Nat.le_trans (Nat.le_trans (Nat.le_refl _) E32.1) K36.1) K37.1) K38.1) K40.1)
  have ne41_b1 : b1 ≠ b41 := Nat.ne_of_lt (Nat.lt_of_lt_of_le lt41_b1 (Nat.le_of_eq g41.symm))
  have lt41_b14 : b14 < T40.heap.size := Nat.lt_of_lt_of_le lt32_b14 (Nat.le_trans (Nat.le_trans (Nat.le_trans (Nat.le_trans (Nat.le_trans (Nat.le_refl _) E32.1) K36.1) K37.1) K38.1) K40.1)
  have ne41_b14 : b14 ≠ b41 := Nat.ne_of_lt (Nat.lt_of_lt_of_le lt41_b14 (Nat.le_of_eq g41.symm))
  have lt41_b32 : b32 < T40.heap.size := Nat.lt_of_lt_of_le E_b32.lt (Nat.le_trans (Nat.le_trans (Nat.le_trans (Nat.le_trans (Nat.le_refl _) K36.1) K37.1) K38.1) K40.1)
  have ne41_b32 : b32 ≠ b41 := Nat.ne_of_lt (Nat.lt_of_lt_of_le lt41_b32 (Nat.le_of_eq g41.symm))
  have lt41_m36_1 : m36_1 < T40.heap.size := Nat.lt_of_lt_of_le Vbx36_1.lt (Nat.le_trans (Nat.le_trans (Nat.le_trans (Nat.le_refl _) K37.1) K38.1) K40.1)
  have ne41_m36_1 : m36_1 ≠ b41 := Nat.ne_of_lt (Nat.lt_of_lt_of_le lt41_m36_1 (Nat.le_of_eq g41.symm))
  have lt41_m36_2 : m36_2 < T40.heap.size := Nat.lt_of_lt_of_le Vbx36_2.lt (Nat.le_trans (Nat.le_trans (Nat.le_trans (Nat.le_refl _) K37.1) K38.1) K40.1)
  have ne41_m36_2 : m36_2 ≠ b41 := Nat.ne_of_lt (Nat.lt_of_lt_of_le lt41_m36_2 (Nat.le_of_eq g41.symm))
  have lt41_m36_3 : m36_3 < T40.heap.size := Nat.lt_of_lt_of_le Vbx36_3.lt (Nat.le_trans (Nat.le_trans (Nat.le_trans (Nat.le_refl _) K37.1) K38.1) K40.1)
  have ne41_m36_3 : m36_3 ≠ b41 := Nat.ne_of_lt (Nat.lt_of_lt_of_le lt41_m36_3 (Nat.le_of_eq g41.symm))
  have lt41_m36_4 : m36_4 < T40.heap.size := Nat.lt_of_lt_of_le Vbx36_4.lt (Nat.le_trans (Nat.le_trans (Nat.le_trans (Nat.le_refl _) K37.1) K38.1) K40.1)
  have ne41_m36_4 : m36_4 ≠ b41 := Nat.ne_of_lt (Nat.lt_of_lt_of_le lt41_m36_4 (Nat.le_of_eq g41.symm))
  have lt41_m36_5 : m36_5 < T40.heap.size := Nat.lt_of_lt_of_le Vbx36_5.lt (Nat.le_trans (Nat.le_trans (Nat.le_trans (Nat.le_refl _) K37.1) K38.1) K40.1)
  have ne41_m36_5 : m36_5 ≠ b41 := Nat.ne_of_lt (Nat.lt_of_lt_of_le lt41_m36_5 (Nat.le_of_eq g41.symm))
  have g_b41 : n0 ≤ b41 := Nat.le_trans (Nat.le_trans (Nat.le_trans zz39 K38.1) K40.1) (Nat.le_of_eq g41.symm)
  have zz42 : h0.size ≤ T40.heap.size := (Nat.le_trans (Nat.le_trans (Nat.le_trans (Nat.le_trans (Nat.le_trans zz34 E32.1) K36.1) K37.1) K38.1) K40.1)
  have sz_b41 : h0.size ≤ b41 := Nat.le_trans zz42 (Nat.le_of_eq g41.symm)
  have V_b41 : Arv Z h41 b41 k41 .int (5 : Int32) [(.int (0 : Int32)), (.int (0 : Int32)), (.int (0 : Int32)), (.int (0 : Int32)), (.int (0 : Int32))] (.int (0 : Int32)) := (Arv.new A41 (by decide)).pad (pad_rep [] (.int (0 : Int32)) 5)
  have E_b41 := B41
  have Vo_43 := V_b41
  obtain ⟨Cl_43, Ar_43, Kc_43, Sz_43, Nn_43, Hs_43, Gf_43⟩ := Vo_43
  obtain ⟨T44, h44, X44, e44, W44, st44⟩ := stI X41 hx hZ e41 Ar_43 (j := (0 : Int32)) (inb_of Sz_43 ⟨by decide, by decide⟩) (g := (mkF m 137 #[.val (.int q0), .val (.int q1), .val (.int q2), .val (.int q3), .val (.long q4), .second, .val (.int q5), .val (.int p1), .val (.int s1), .val (.int kk), .val (.ref b1), .val (.ref b14), .val (.int (Int32.ofNat i)), .val (.int (Int32.ofNat j)), .val (.ref b32), .unset, .unset, .unset, .unset] [(.int q0), (.int (0 : Int32)), (.ref b41), (.ref b41)])) rfl rfl (hb hby at_137)
  have Vs44 : Arv Z h44 b41 k41 .int (5 : Int32) [(.int q0), (.int (0 : Int32)), (.int (0 : Int32)), (.int (0 : Int32)), (.int (0 : Int32))] (.int (0 : Int32)) := Arv.set Ar_43 Kc_43 Sz_43 Nn_43 Hs_43 Gf_43 rfl W44 0 rfl (Nat.le_of_ble_eq_true rfl)
  have N44 := Fr.snoc X44 N40 g_b41
  have Vo_45 := Vs44
  obtain ⟨Cl_45, Ar_45, Kc_45, Sz_45, Nn_45, Hs_45, Gf_45⟩ := Vo_45
  obtain ⟨T46, h46, X46, e46, W46, st46⟩ := stI X44 hx hZ e44 Ar_45 (j := (1 : Int32)) (inb_of Sz_45 ⟨by decide, by decide⟩) (g := (mkF m 141 #[.val (.int q0), .val (.int q1), .val (.int q2), .val (.int q3), .val (.long q4), .second, .val (.int q5), .val (.int p1), .val (.int s1), .val (.int kk), .val (.ref b1), .val (.ref b14), .val (.int (Int32.ofNat i)), .val (.int (Int32.ofNat j)), .val (.ref b32), .unset, .unset, .unset, .unset] [(.int q1), (.int (1 : Int32)), (.ref b41), (.ref b41)])) rfl rfl (hb hby at_141)
  have Vs46 : Arv Z h46 b41 k41 .int (5 : Int32) [(.int q0), (.int q1), (.int (0 : Int32)), (.int (0 : Int32)), (.int (0 : Int32))] (.int (0 : Int32)) := Arv.set Ar_45 Kc_45 Sz_45 Nn_45 Hs_45 Gf_45 rfl W46 1 rfl (Nat.le_of_ble_eq_true rfl)
  have N46 := Fr.snoc X46 N44 g_b41
  have Vo_47 := Vs46
  obtain ⟨Cl_47, Ar_47, Kc_47, Sz_47, Nn_47, Hs_47, Gf_47⟩ := Vo_47
  obtain ⟨T48, h48, X48, e48, W48, st48⟩ := stI X46 hx hZ e46 Ar_47 (j := (2 : Int32)) (inb_of Sz_47 ⟨by decide, by decide⟩) (g := (mkF m 145 #[.val (.int q0), .val (.int q1), .val (.int q2), .val (.int q3), .val (.long q4), .second, .val (.int q5), .val (.int p1), .val (.int s1), .val (.int kk), .val (.ref b1), .val (.ref b14), .val (.int (Int32.ofNat i)), .val (.int (Int32.ofNat j)), .val (.ref b32), .unset, .unset, .unset, .unset] [(.int q2), (.int (2 : Int32)), (.ref b41), (.ref b41)])) rfl rfl (hb hby at_145)
  have Vs48 : Arv Z h48 b41 k41 .int (5 : Int32) [(.int q0), (.int q1), (.int q2), (.int (0 : Int32)), (.int (0 : Int32))] (.int (0 : Int32)) := Arv.set Ar_47 Kc_47 Sz_47 Nn_47 Hs_47 Gf_47 rfl W48 2 rfl (Nat.le_of_ble_eq_true rfl)
  have N48 := Fr.snoc X48 N46 g_b41
  have Vo_49 := Vs48
  obtain ⟨Cl_49, Ar_49, Kc_49, Sz_49, Nn_49, Hs_49, Gf_49⟩ := Vo_49
  obtain ⟨T50, h50, X50, e50, W50, st50⟩ := stI X48 hx hZ e48 Ar_49 (j := (3 : Int32)) (inb_of Sz_49 ⟨by decide, by decide⟩) (g := (mkF m 149 #[.val (.int q0), .val (.int q1), .val (.int q2), .val (.int q3), .val (.long q4), .second, .val (.int q5), .val (.int p1), .val (.int s1), .val (.int kk), .val (.ref b1), .val (.ref b14), .val (.int (Int32.ofNat i)), .val (.int (Int32.ofNat j)), .val (.ref b32), .unset, .unset, .unset, .unset] [(.int (-1 : Int32)), (.int (3 : Int32)), (.ref b41), (.ref b41)])) rfl rfl (hb hby at_149)
  have Vs50 : Arv Z h50 b41 k41 .int (5 : Int32) [(.int q0), (.int q1), (.int q2), (.int (-1 : Int32)), (.int (0 : Int32))] (.int (0 : Int32)) := Arv.set Ar_49 Kc_49 Sz_49 Nn_49 Hs_49 Gf_49 rfl W50 3 rfl (Nat.le_of_ble_eq_true rfl)
  have N50 := Fr.snoc X50 N48 g_b41
  have Vo_51 := Vs50
  obtain ⟨Cl_51, Ar_51, Kc_51, Sz_51, Nn_51, Hs_51, Gf_51⟩ := Vo_51
  obtain ⟨T52, h52, X52, e52, W52, st52⟩ := stI X50 hx hZ e50 Ar_51 (j := (4 : Int32)) (inb_of Sz_51 ⟨by decide, by decide⟩) (g := (mkF m 153 #[.val (.int q0), .val (.int q1), .val (.int q2), .val (.int q3), .val (.long q4), .second, .val (.int q5), .val (.int p1), .val (.int s1), .val (.int kk), .val (.ref b1), .val (.ref b14), .val (.int (Int32.ofNat i)), .val (.int (Int32.ofNat j)), .val (.ref b32), .unset, .unset, .unset, .unset] [(.int (-1 : Int32)), (.int (4 : Int32)), (.ref b41), (.ref b41)])) rfl rfl (hb hby at_153)
  have Vs52 : Arv Z h52 b41 k41 .int (5 : Int32) [(.int q0), (.int q1), (.int q2), (.int (-1 : Int32)), (.int (-1 : Int32))] (.int (0 : Int32)) := Arv.set Ar_51 Kc_51 Sz_51 Nn_51 Hs_51 Gf_51 rfl W52 4 rfl (Nat.le_of_ble_eq_true rfl)
  have N52 := Fr.snoc X52 N50 g_b41
  obtain ⟨T53, h53, k53, X53, e53, E53, A53, B53, st53⟩ := newPE X52 hx hZ (hw _ (List.mem_of_getElem? (i := 1) rfl)) e52 (g := (mkF m 157 #[.val (.int q0), .val (.int q1), .val (.int q2), .val (.int q3), .val (.long q4), .second, .val (.int q5), .val (.int p1), .val (.int s1), .val (.int kk), .val (.ref b1), .val (.ref b14), .val (.int (Int32.ofNat i)), .val (.int (Int32.ofNat j)), .val (.ref b32), .val (.ref b41), .unset, .unset, .unset] [(.int (5 : Int32))])) rfl (hb hby at_157) rfl (by decide) (cap := 5) (by decide) (by decide) (by decide) (by decide) (ad := "[I") (by decide)
  obtain ⟨b53, g53⟩ : ∃ z, z = h52.size := ⟨_, rfl⟩
  rw [← g53] at A53 B53 st53
  have lt53_b1 : b1 < h52.size := Nat.lt_of_lt_of_le lt41_b1 (Nat.le_trans (Nat.le_trans (Nat.le_trans (Nat.le_trans (Nat.le_trans (Nat.le_trans (Nat.le_refl _) E41.1) (Keep.of_wr W44).1) (Keep.of_wr W46).1) (Keep.of_wr W48).1) (Keep.of_wr W50).1) (Keep.of_wr W52).1)
  have ne53_b1 : b1 ≠ b53 := Nat.ne_of_lt (Nat.lt_of_lt_of_le lt53_b1 (Nat.le_of_eq g53.symm))
  have lt53_b14 : b14 < h52.size := Nat.lt_of_lt_of_le lt41_b14 (Nat.le_trans (Nat.le_trans (Nat.le_trans (Nat.le_trans (Nat.le_trans (Nat.le_trans (Nat.le_refl _) E41.1) (Keep.of_wr W44).1) (Keep.of_wr W46).1) (Keep.of_wr W48).1) (Keep.of_wr W50).1) (Keep.of_wr W52).1)
  have ne53_b14 : b14 ≠ b53 := Nat.ne_of_lt (Nat.lt_of_lt_of_le lt53_b14 (Nat.le_of_eq g53.symm))
  have lt53_b32 : b32 < h52.size := Nat.lt_of_lt_of_le lt41_b32 (Nat.le_trans (Nat.le_trans (Nat.le_trans (Nat.le_trans (Nat.le_trans (Nat.le_trans (Nat.le_refl _) E41.1) (Keep.of_wr W44).1) (Keep.of_wr W46).1) (Keep.of_wr W48).1) (Keep.of_wr W50).1) (Keep.of_wr W52).1)
  have ne53_b32 : b32 ≠ b53 := Nat.ne_of_lt (Nat.lt_of_lt_of_le lt53_b32 (Nat.le_of_eq g53.symm))
  have lt53_m36_1 : m36_1 < h52.size := Nat.lt_of_lt_of_le lt41_m36_1 (Nat.le_trans (Nat.le_trans (Nat.le_trans (Nat.le_trans (Nat.le_trans (Nat.le_trans (Nat.le_refl _) E41.1) (Keep.of_wr W44).1) (Keep.of_wr W46).1) (Keep.of_wr W48).1) (Keep.of_wr W50).1) (Keep.of_wr W52).1)
  have ne53_m36_1 : m36_1 ≠ b53 := Nat.ne_of_lt (Nat.lt_of_lt_of_le lt53_m36_1 (Nat.le_of_eq g53.symm))
  have lt53_m36_2 : m36_2 < h52.size := Nat.lt_of_lt_of_le lt41_m36_2 (Nat.le_trans (Nat.le_trans (Nat.le_trans (Nat.le_trans (Nat.le_trans (Nat.le_trans (Nat.le_refl _) E41.1) (Keep.of_wr W44).1) (Keep.of_wr W46).1) (Keep.of_wr W48).1) (Keep.of_wr W50).1) (Keep.of_wr W52).1)
  have ne53_m36_2 : m36_2 ≠ b53 := Nat.ne_of_lt (Nat.lt_of_lt_of_le lt53_m36_2 (Nat.le_of_eq g53.symm))
  have lt53_m36_3 : m36_3 < h52.size := Nat.lt_of_lt_of_le lt41_m36_3 (Nat.le_trans (Nat.le_trans (Nat.le_trans (Nat.le_trans (Nat.le_trans (Nat.le_trans (Nat.le_refl _) E41.1) (Keep.of_wr W44).1) (Keep.of_wr W46).1) (Keep.of_wr W48).1) (Keep.of_wr W50).1) (Keep.of_wr W52).1)
  have ne53_m36_3 : m36_3 ≠ b53 := Nat.ne_of_lt (Nat.lt_of_lt_of_le lt53_m36_3 (Nat.le_of_eq g53.symm))
  have lt53_m36_4 : m36_4 < h52.size := Nat.lt_of_lt_of_le lt41_m36_4 (Nat.le_trans (Nat.le_trans (Nat.le_trans (Nat.le_trans (Nat.le_trans (Nat.le_trans (Nat.le_refl _) E41.1) (Keep.of_wr W44).1) (Keep.of_wr W46).1) (Keep.of_wr W48).1) (Keep.of_wr W50).1) (Keep.of_wr W52).1)
  have ne53_m36_4 : m36_4 ≠ b53 := Nat.ne_of_lt (Nat.lt_of_lt_of_le lt53_m36_4 (Nat.le_of_eq g53.symm))
  have lt53_m36_5 : m36_5 < h52.size := Nat.lt_of_lt_of_le lt41_m36_5 (Nat.le_trans (Nat.le_trans (Nat.le_trans (Nat.le_trans (Nat.le_trans (Nat.le_trans (Nat.le_refl _) E41.1) (Keep.of_wr W44).1) (Keep.of_wr W46).1) (Keep.of_wr W48).1) (Keep.of_wr W50).1) (Keep.of_wr W52).1)
  have ne53_m36_5 : m36_5 ≠ b53 := Nat.ne_of_lt (Nat.lt_of_lt_of_le lt53_m36_5 (Nat.le_of_eq g53.symm))
  have lt53_b41 : b41 < h52.size := Nat.lt_of_lt_of_le V_b41.lt (Nat.le_trans (Nat.le_trans (Nat.le_trans (Nat.le_trans (Nat.le_trans (Nat.le_refl _) (Keep.of_wr W44).1) (Keep.of_wr W46).1) (Keep.of_wr W48).1) (Keep.of_wr W50).1) (Keep.of_wr W52).1)
  have ne53_b41 : b41 ≠ b53 := Nat.ne_of_lt (Nat.lt_of_lt_of_le lt53_b41 (Nat.le_of_eq g53.symm))
  have zz54 : n0 ≤ h52.size := (Nat.le_trans (Nat.le_trans (Nat.le_trans (Nat.le_trans (Nat.le_trans (Nat.le_trans (Nat.le_trans (Nat.le_trans zz39 K38.1) K40.1) E41.1) (Keep.of_wr W44).1) (Keep.of_wr W46).1) (Keep.of_wr W48).1) (Keep.of_wr W50).1) (Keep.of_wr W52).1)
  have g_b53 : n0 ≤ b53 := Nat.le_trans zz54 (Nat.le_of_eq g53.symm)
  have zz55 : h0.size ≤ h52.size := (Nat.le_trans (Nat.le_trans (Nat.le_trans (Nat.le_trans (Nat.le_trans (Nat.le_trans zz42 E41.1) (Keep.of_wr W44).1) (Keep.of_wr W46).1) (Keep.of_wr W48).1) (Keep.of_wr W50).1) (Keep.of_wr W52).1)
  have sz_b53 : h0.size ≤ b53 := Nat.le_trans zz55 (Nat.le_of_eq g53.symm)
  have V_b53 : Arv Z h53 b53 k53 .int (5 : Int32) [(.int (0 : Int32)), (.int (0 : Int32)), (.int (0 : Int32)), (.int (0 : Int32)), (.int (0 : Int32))] (.int (0 : Int32)) := (Arv.new A53 (by decide)).pad (pad_rep [] (.int (0 : Int32)) 5)
  have E_b53 := B53
  have Vo_56 := V_b53
  obtain ⟨Cl_56, Ar_56, Kc_56, Sz_56, Nn_56, Hs_56, Gf_56⟩ := Vo_56
  obtain ⟨T57, h57, X57, e57, W57, st57⟩ := stI X53 hx hZ e53 Ar_56 (j := (0 : Int32)) (inb_of Sz_56 ⟨by decide, by decide⟩) (g := (mkF m 162 #[.val (.int q0), .val (.int q1), .val (.int q2), .val (.int q3), .val (.long q4), .second, .val (.int q5), .val (.int p1), .val (.int s1), .val (.int kk), .val (.ref b1), .val (.ref b14), .val (.int (Int32.ofNat i)), .val (.int (Int32.ofNat j)), .val (.ref b32), .val (.ref b41), .unset, .unset, .unset] [(.int q3), (.int (0 : Int32)), (.ref b53), (.ref b53)])) rfl rfl (hb hby at_162)
  have Vs57 : Arv Z h57 b53 k53 .int (5 : Int32) [(.int q3), (.int (0 : Int32)), (.int (0 : Int32)), (.int (0 : Int32)), (.int (0 : Int32))] (.int (0 : Int32)) := Arv.set Ar_56 Kc_56 Sz_56 Nn_56 Hs_56 Gf_56 rfl W57 0 rfl (Nat.le_of_ble_eq_true rfl)
  have N57 := Fr.snoc X57 N52 g_b53
  have Vo_58 := Vs57
  obtain ⟨Cl_58, Ar_58, Kc_58, Sz_58, Nn_58, Hs_58, Gf_58⟩ := Vo_58
  obtain ⟨T59, h59, X59, e59, W59, st59⟩ := stI X57 hx hZ e57 Ar_58 (j := (1 : Int32)) (inb_of Sz_58 ⟨by decide, by decide⟩) (g := (mkF m 167 #[.val (.int q0), .val (.int q1), .val (.int q2), .val (.int q3), .val (.long q4), .second, .val (.int q5), .val (.int p1), .val (.int s1), .val (.int kk), .val (.ref b1), .val (.ref b14), .val (.int (Int32.ofNat i)), .val (.int (Int32.ofNat j)), .val (.ref b32), .val (.ref b41), .unset, .unset, .unset] [(.int p1), (.int (1 : Int32)), (.ref b53), (.ref b53)])) rfl rfl (hb hby at_167)
  have Vs59 : Arv Z h59 b53 k53 .int (5 : Int32) [(.int q3), (.int p1), (.int (0 : Int32)), (.int (0 : Int32)), (.int (0 : Int32))] (.int (0 : Int32)) := Arv.set Ar_58 Kc_58 Sz_58 Nn_58 Hs_58 Gf_58 rfl W59 1 rfl (Nat.le_of_ble_eq_true rfl)
  have N59 := Fr.snoc X59 N57 g_b53
  have Vo_60 := Vs59
  obtain ⟨Cl_60, Ar_60, Kc_60, Sz_60, Nn_60, Hs_60, Gf_60⟩ := Vo_60
  obtain ⟨T61, h61, X61, e61, W61, st61⟩ := stI X59 hx hZ e59 Ar_60 (j := (2 : Int32)) (inb_of Sz_60 ⟨by decide, by decide⟩) (g := (mkF m 172 #[.val (.int q0), .val (.int q1), .val (.int q2), .val (.int q3), .val (.long q4), .second, .val (.int q5), .val (.int p1), .val (.int s1), .val (.int kk), .val (.ref b1), .val (.ref b14), .val (.int (Int32.ofNat i)), .val (.int (Int32.ofNat j)), .val (.ref b32), .val (.ref b41), .unset, .unset, .unset] [(.int s1), (.int (2 : Int32)), (.ref b53), (.ref b53)])) rfl rfl (hb hby at_172)
  have Vs61 : Arv Z h61 b53 k53 .int (5 : Int32) [(.int q3), (.int p1), (.int s1), (.int (0 : Int32)), (.int (0 : Int32))] (.int (0 : Int32)) := Arv.set Ar_60 Kc_60 Sz_60 Nn_60 Hs_60 Gf_60 rfl W61 2 rfl (Nat.le_of_ble_eq_true rfl)
  have N61 := Fr.snoc X61 N59 g_b53
  have Vo_62 := Vs61
  obtain ⟨Cl_62, Ar_62, Kc_62, Sz_62, Nn_62, Hs_62, Gf_62⟩ := Vo_62
  obtain ⟨T63, h63, X63, e63, W63, st63⟩ := stI X61 hx hZ e61 Ar_62 (j := (3 : Int32)) (inb_of Sz_62 ⟨by decide, by decide⟩) (g := (mkF m 176 #[.val (.int q0), .val (.int q1), .val (.int q2), .val (.int q3), .val (.long q4), .second, .val (.int q5), .val (.int p1), .val (.int s1), .val (.int kk), .val (.ref b1), .val (.ref b14), .val (.int (Int32.ofNat i)), .val (.int (Int32.ofNat j)), .val (.ref b32), .val (.ref b41), .unset, .unset, .unset] [(.int (-1 : Int32)), (.int (3 : Int32)), (.ref b53), (.ref b53)])) rfl rfl (hb hby at_176)
  have Vs63 : Arv Z h63 b53 k53 .int (5 : Int32) [(.int q3), (.int p1), (.int s1), (.int (-1 : Int32)), (.int (0 : Int32))] (.int (0 : Int32)) := Arv.set Ar_62 Kc_62 Sz_62 Nn_62 Hs_62 Gf_62 rfl W63 3 rfl (Nat.le_of_ble_eq_true rfl)
  have N63 := Fr.snoc X63 N61 g_b53
  have Vo_64 := Vs63
  obtain ⟨Cl_64, Ar_64, Kc_64, Sz_64, Nn_64, Hs_64, Gf_64⟩ := Vo_64
  obtain ⟨T65, h65, X65, e65, W65, st65⟩ := stI X63 hx hZ e63 Ar_64 (j := (4 : Int32)) (inb_of Sz_64 ⟨by decide, by decide⟩) (g := (mkF m 180 #[.val (.int q0), .val (.int q1), .val (.int q2), .val (.int q3), .val (.long q4), .second, .val (.int q5), .val (.int p1), .val (.int s1), .val (.int kk), .val (.ref b1), .val (.ref b14), .val (.int (Int32.ofNat i)), .val (.int (Int32.ofNat j)), .val (.ref b32), .val (.ref b41), .unset, .unset, .unset] [(.int (-1 : Int32)), (.int (4 : Int32)), (.ref b53), (.ref b53)])) rfl rfl (hb hby at_180)
  have Vs65 : Arv Z h65 b53 k53 .int (5 : Int32) [(.int q3), (.int p1), (.int s1), (.int (-1 : Int32)), (.int (-1 : Int32))] (.int (0 : Int32)) := Arv.set Ar_64 Kc_64 Sz_64 Nn_64 Hs_64 Gf_64 rfl W65 4 rfl (Nat.le_of_ble_eq_true rfl)
  have N65 := Fr.snoc X65 N63 g_b53
  obtain ⟨T66, h66, k66, X66, e66, E66, A66, B66, st66⟩ := newPE X65 hx hZ (hw _ (List.mem_of_getElem? (i := 1) rfl)) e65 (g := (mkF m 184 #[.val (.int q0), .val (.int q1), .val (.int q2), .val (.int q3), .val (.long q4), .second, .val (.int q5), .val (.int p1), .val (.int s1), .val (.int kk), .val (.ref b1), .val (.ref b14), .val (.int (Int32.ofNat i)), .val (.int (Int32.ofNat j)), .val (.ref b32), .val (.ref b41), .val (.ref b53), .unset, .unset] [(.int (5 : Int32))])) rfl (hb hby at_184) rfl (by decide) (cap := 5) (by decide) (by decide) (by decide) (by decide) (ad := "[I") (by decide)
  obtain ⟨b66, g66⟩ : ∃ z, z = h65.size := ⟨_, rfl⟩
  rw [← g66] at A66 B66 st66
  have lt66_b1 : b1 < h65.size := Nat.lt_of_lt_of_le lt53_b1 (Nat.le_trans (Nat.le_trans (Nat.le_trans (Nat.le_trans (Nat.le_trans (Nat.le_trans (Nat.le_refl _) E53.1) (Keep.of_wr W57).1) (Keep.of_wr W59).1) (Keep.of_wr W61).1) (Keep.of_wr W63).1) (Keep.of_wr W65).1)
  have ne66_b1 : b1 ≠ b66 := Nat.ne_of_lt (Nat.lt_of_lt_of_le lt66_b1 (Nat.le_of_eq g66.symm))
  have lt66_b14 : b14 < h65.size := Nat.lt_of_lt_of_le lt53_b14 (Nat.le_trans (Nat.le_trans (Nat.le_trans (Nat.le_trans (Nat.le_trans (Nat.le_trans (Nat.le_refl _) E53.1) (Keep.of_wr W57).1) (Keep.of_wr W59).1) (Keep.of_wr W61).1) (Keep.of_wr W63).1) (Keep.of_wr W65).1)
  have ne66_b14 : b14 ≠ b66 := Nat.ne_of_lt (Nat.lt_of_lt_of_le lt66_b14 (Nat.le_of_eq g66.symm))
  have lt66_b32 : b32 < h65.size := Nat.lt_of_lt_of_le lt53_b32 (Nat.le_trans (Nat.le_trans (Nat.le_trans (Nat.le_trans (Nat.le_trans (Nat.le_trans (Nat.le_refl _) E53.1) (Keep.of_wr W57).1) (Keep.of_wr W59).1) (Keep.of_wr W61).1) (Keep.of_wr W63).1) (Keep.of_wr W65).1)
  have ne66_b32 : b32 ≠ b66 := Nat.ne_of_lt (Nat.lt_of_lt_of_le lt66_b32 (Nat.le_of_eq g66.symm))
  have lt66_m36_1 : m36_1 < h65.size := Nat.lt_of_lt_of_le lt53_m36_1 (Nat.le_trans (Nat.le_trans (Nat.le_trans (Nat.le_trans (Nat.le_trans (Nat.le_trans (Nat.le_refl _) E53.1) (Keep.of_wr W57).1) (Keep.of_wr W59).1) (Keep.of_wr W61).1) (Keep.of_wr W63).1) (Keep.of_wr W65).1)
  have ne66_m36_1 : m36_1 ≠ b66 := Nat.ne_of_lt (Nat.lt_of_lt_of_le lt66_m36_1 (Nat.le_of_eq g66.symm))
  have lt66_m36_2 : m36_2 < h65.size := Nat.lt_of_lt_of_le lt53_m36_2 (Nat.le_trans (Nat.le_trans (Nat.le_trans (Nat.le_trans (Nat.le_trans (Nat.le_trans (Nat.le_refl _) E53.1) (Keep.of_wr W57).1) (Keep.of_wr W59).1) (Keep.of_wr W61).1) (Keep.of_wr W63).1) (Keep.of_wr W65).1)
  have ne66_m36_2 : m36_2 ≠ b66 := Nat.ne_of_lt (Nat.lt_of_lt_of_le lt66_m36_2 (Nat.le_of_eq g66.symm))
  have lt66_m36_3 : m36_3 < h65.size := Nat.lt_of_lt_of_le lt53_m36_3 (Nat.le_trans (Nat.le_trans (Nat.le_trans (Nat.le_trans (Nat.le_trans (Nat.le_trans (Nat.le_refl _) E53.1) (Keep.of_wr W57).1) (Keep.of_wr W59).1) (Keep.of_wr W61).1) (Keep.of_wr W63).1) (Keep.of_wr W65).1)
  have ne66_m36_3 : m36_3 ≠ b66 := Nat.ne_of_lt (Nat.lt_of_lt_of_le lt66_m36_3 (Nat.le_of_eq g66.symm))
  have lt66_m36_4 : m36_4 < h65.size := Nat.lt_of_lt_of_le lt53_m36_4 (Nat.le_trans (Nat.le_trans (Nat.le_trans (Nat.le_trans (Nat.le_trans (Nat.le_trans (Nat.le_refl _) E53.1) (Keep.of_wr W57).1) (Keep.of_wr W59).1) (Keep.of_wr W61).1) (Keep.of_wr W63).1) (Keep.of_wr W65).1)
  have ne66_m36_4 : m36_4 ≠ b66 := Nat.ne_of_lt (Nat.lt_of_lt_of_le lt66_m36_4 (Nat.le_of_eq g66.symm))
  have lt66_m36_5 : m36_5 < h65.size := Nat.lt_of_lt_of_le lt53_m36_5 (Nat.le_trans (Nat.le_trans (Nat.le_trans (Nat.le_trans (Nat.le_trans (Nat.le_trans (Nat.le_refl _) E53.1) (Keep.of_wr W57).1) (Keep.of_wr W59).1) (Keep.of_wr W61).1) (Keep.of_wr W63).1) (Keep.of_wr W65).1)
  have ne66_m36_5 : m36_5 ≠ b66 := Nat.ne_of_lt (Nat.lt_of_lt_of_le lt66_m36_5 (Nat.le_of_eq g66.symm))
  have lt66_b41 : b41 < h65.size := Nat.lt_of_lt_of_le lt53_b41 (Nat.le_trans (Nat.le_trans (Nat.le_trans (Nat.le_trans (Nat.le_trans (Nat.le_trans (Nat.le_refl _) E53.1) (Keep.of_wr W57).1) (Keep.of_wr W59).1) (Keep.of_wr W61).1) (Keep.of_wr W63).1) (Keep.of_wr W65).1)
  have ne66_b41 : b41 ≠ b66 := Nat.ne_of_lt (Nat.lt_of_lt_of_le lt66_b41 (Nat.le_of_eq g66.symm))
  have lt66_b53 : b53 < h65.size := Nat.lt_of_lt_of_le V_b53.lt (Nat.le_trans (Nat.le_trans (Nat.le_trans (Nat.le_trans (Nat.le_trans (Nat.le_refl _) (Keep.of_wr W57).1) (Keep.of_wr W59).1) (Keep.of_wr W61).1) (Keep.of_wr W63).1) (Keep.of_wr W65).1)
  have ne66_b53 : b53 ≠ b66 := Nat.ne_of_lt (Nat.lt_of_lt_of_le lt66_b53 (Nat.le_of_eq g66.symm))
  have zz67 : n0 ≤ h65.size := (Nat.le_trans (Nat.le_trans (Nat.le_trans (Nat.le_trans (Nat.le_trans (Nat.le_trans zz54 E53.1) (Keep.of_wr W57).1) (Keep.of_wr W59).1) (Keep.of_wr W61).1) (Keep.of_wr W63).1) (Keep.of_wr W65).1)
  have g_b66 : n0 ≤ b66 := Nat.le_trans zz67 (Nat.le_of_eq g66.symm)
  have zz68 : h0.size ≤ h65.size := (Nat.le_trans (Nat.le_trans (Nat.le_trans (Nat.le_trans (Nat.le_trans (Nat.le_trans zz55 E53.1) (Keep.of_wr W57).1) (Keep.of_wr W59).1) (Keep.of_wr W61).1) (Keep.of_wr W63).1) (Keep.of_wr W65).1)
  have sz_b66 : h0.size ≤ b66 := Nat.le_trans zz68 (Nat.le_of_eq g66.symm)
  have V_b66 : Arv Z h66 b66 k66 .int (5 : Int32) [(.int (0 : Int32)), (.int (0 : Int32)), (.int (0 : Int32)), (.int (0 : Int32)), (.int (0 : Int32))] (.int (0 : Int32)) := (Arv.new A66 (by decide)).pad (pad_rep [] (.int (0 : Int32)) 5)
  have E_b66 := B66
  have Vo_69 := V_b66
  obtain ⟨Cl_69, Ar_69, Kc_69, Sz_69, Nn_69, Hs_69, Gf_69⟩ := Vo_69
  obtain ⟨T70, h70, X70, e70, W70, st70⟩ := stI X66 hx hZ e66 Ar_69 (j := (0 : Int32)) (inb_of Sz_69 ⟨by decide, by decide⟩) (g := (mkF m 189 #[.val (.int q0), .val (.int q1), .val (.int q2), .val (.int q3), .val (.long q4), .second, .val (.int q5), .val (.int p1), .val (.int s1), .val (.int kk), .val (.ref b1), .val (.ref b14), .val (.int (Int32.ofNat i)), .val (.int (Int32.ofNat j)), .val (.ref b32), .val (.ref b41), .val (.ref b53), .unset, .unset] [(.int (0 : Int32)), (.int (0 : Int32)), (.ref b66), (.ref b66)])) rfl rfl (hb hby at_189)
  have Vs70 : Arv Z h70 b66 k66 .int (5 : Int32) [(.int (0 : Int32)), (.int (0 : Int32)), (.int (0 : Int32)), (.int (0 : Int32)), (.int (0 : Int32))] (.int (0 : Int32)) := Arv.set Ar_69 Kc_69 Sz_69 Nn_69 Hs_69 Gf_69 rfl W70 0 rfl (Nat.le_of_ble_eq_true rfl)
  have N70 := Fr.snoc X70 N65 g_b66
  have Vo_71 := Vs70
  obtain ⟨Cl_71, Ar_71, Kc_71, Sz_71, Nn_71, Hs_71, Gf_71⟩ := Vo_71
  obtain ⟨T72, h72, X72, e72, W72, st72⟩ := stI X70 hx hZ e70 Ar_71 (j := (1 : Int32)) (inb_of Sz_71 ⟨by decide, by decide⟩) (g := (mkF m 193 #[.val (.int q0), .val (.int q1), .val (.int q2), .val (.int q3), .val (.long q4), .second, .val (.int q5), .val (.int p1), .val (.int s1), .val (.int kk), .val (.ref b1), .val (.ref b14), .val (.int (Int32.ofNat i)), .val (.int (Int32.ofNat j)), .val (.ref b32), .val (.ref b41), .val (.ref b53), .unset, .unset] [(.int q1), (.int (1 : Int32)), (.ref b66), (.ref b66)])) rfl rfl (hb hby at_193)
  have Vs72 : Arv Z h72 b66 k66 .int (5 : Int32) [(.int (0 : Int32)), (.int q1), (.int (0 : Int32)), (.int (0 : Int32)), (.int (0 : Int32))] (.int (0 : Int32)) := Arv.set Ar_71 Kc_71 Sz_71 Nn_71 Hs_71 Gf_71 rfl W72 1 rfl (Nat.le_of_ble_eq_true rfl)
  have N72 := Fr.snoc X72 N70 g_b66
  have Vo_73 := Vs72
  obtain ⟨Cl_73, Ar_73, Kc_73, Sz_73, Nn_73, Hs_73, Gf_73⟩ := Vo_73
  obtain ⟨T74, h74, X74, e74, W74, st74⟩ := stI X72 hx hZ e72 Ar_73 (j := (2 : Int32)) (inb_of Sz_73 ⟨by decide, by decide⟩) (g := (mkF m 197 #[.val (.int q0), .val (.int q1), .val (.int q2), .val (.int q3), .val (.long q4), .second, .val (.int q5), .val (.int p1), .val (.int s1), .val (.int kk), .val (.ref b1), .val (.ref b14), .val (.int (Int32.ofNat i)), .val (.int (Int32.ofNat j)), .val (.ref b32), .val (.ref b41), .val (.ref b53), .unset, .unset] [(.int q2), (.int (2 : Int32)), (.ref b66), (.ref b66)])) rfl rfl (hb hby at_197)
  have Vs74 : Arv Z h74 b66 k66 .int (5 : Int32) [(.int (0 : Int32)), (.int q1), (.int q2), (.int (0 : Int32)), (.int (0 : Int32))] (.int (0 : Int32)) := Arv.set Ar_73 Kc_73 Sz_73 Nn_73 Hs_73 Gf_73 rfl W74 2 rfl (Nat.le_of_ble_eq_true rfl)
  have N74 := Fr.snoc X74 N72 g_b66
  have Vo_75 := Vs74
  obtain ⟨Cl_75, Ar_75, Kc_75, Sz_75, Nn_75, Hs_75, Gf_75⟩ := Vo_75
  obtain ⟨T76, h76, X76, e76, W76, st76⟩ := stI X74 hx hZ e74 Ar_75 (j := (3 : Int32)) (inb_of Sz_75 ⟨by decide, by decide⟩) (g := (mkF m 202 #[.val (.int q0), .val (.int q1), .val (.int q2), .val (.int q3), .val (.long q4), .second, .val (.int q5), .val (.int p1), .val (.int s1), .val (.int kk), .val (.ref b1), .val (.ref b14), .val (.int (Int32.ofNat i)), .val (.int (Int32.ofNat j)), .val (.ref b32), .val (.ref b41), .val (.ref b53), .unset, .unset] [(.int p1), (.int (3 : Int32)), (.ref b66), (.ref b66)])) rfl rfl (hb hby at_202)
  have Vs76 : Arv Z h76 b66 k66 .int (5 : Int32) [(.int (0 : Int32)), (.int q1), (.int q2), (.int p1), (.int (0 : Int32))] (.int (0 : Int32)) := Arv.set Ar_75 Kc_75 Sz_75 Nn_75 Hs_75 Gf_75 rfl W76 3 rfl (Nat.le_of_ble_eq_true rfl)
  have N76 := Fr.snoc X76 N74 g_b66
  have Vo_77 := Vs76
  obtain ⟨Cl_77, Ar_77, Kc_77, Sz_77, Nn_77, Hs_77, Gf_77⟩ := Vo_77
  obtain ⟨T78, h78, X78, e78, W78, st78⟩ := stI X76 hx hZ e76 Ar_77 (j := (4 : Int32)) (inb_of Sz_77 ⟨by decide, by decide⟩) (g := (mkF m 207 #[.val (.int q0), .val (.int q1), .val (.int q2), .val (.int q3), .val (.long q4), .second, .val (.int q5), .val (.int p1), .val (.int s1), .val (.int kk), .val (.ref b1), .val (.ref b14), .val (.int (Int32.ofNat i)), .val (.int (Int32.ofNat j)), .val (.ref b32), .val (.ref b41), .val (.ref b53), .unset, .unset] [(.int s1), (.int (4 : Int32)), (.ref b66), (.ref b66)])) rfl rfl (hb hby at_207)
  have Vs78 : Arv Z h78 b66 k66 .int (5 : Int32) [(.int (0 : Int32)), (.int q1), (.int q2), (.int p1), (.int s1)] (.int (0 : Int32)) := Arv.set Ar_77 Kc_77 Sz_77 Nn_77 Hs_77 Gf_77 rfl W78 4 rfl (Nat.le_of_ble_eq_true rfl)
  have N78 := Fr.snoc X78 N76 g_b66
  obtain ⟨T79, h79, k79, X79, e79, E79, A79, B79, O79, st79⟩ := newRA X78 hx hZ (ty := .int) hown (by decide) (hw _ (List.mem_of_getElem? (i := 37) rfl)) (hw _ (List.mem_of_getElem? (i := 38) rfl)) e78 (g := (mkF m 211 #[.val (.int q0), .val (.int q1), .val (.int q2), .val (.int q3), .val (.long q4), .second, .val (.int q5), .val (.int p1), .val (.int s1), .val (.int kk), .val (.ref b1), .val (.ref b14), .val (.int (Int32.ofNat i)), .val (.int (Int32.ofNat j)), .val (.ref b32), .val (.ref b41), .val (.ref b53), .val (.ref b66), .unset] [(.int (3 : Int32))])) rfl (hb hby at_211) rfl (by decide) (cap := 3) (by decide) (by decide) (by decide) (by decide) (ad := "[[I") (by decide)
  obtain ⟨b79, g79⟩ : ∃ z, z = h78.size := ⟨_, rfl⟩
  rw [← g79] at A79 B79 st79
  have lt79_b1 : b1 < h78.size := Nat.lt_of_lt_of_le lt66_b1 (Nat.le_trans (Nat.le_trans (Nat.le_trans (Nat.le_trans (Nat.le_trans (Nat.le_trans (Nat.le_refl _) E66.1) (Keep.of_wr W70).1) (Keep.of_wr W72).1) (Keep.of_wr W74).1) (Keep.of_wr W76).1) (Keep.of_wr W78).1)
  have ne79_b1 : b1 ≠ b79 := Nat.ne_of_lt (Nat.lt_of_lt_of_le lt79_b1 (Nat.le_of_eq g79.symm))
  have lt79_b14 : b14 < h78.size := Nat.lt_of_lt_of_le lt66_b14 (Nat.le_trans (Nat.le_trans (Nat.le_trans (Nat.le_trans (Nat.le_trans (Nat.le_trans (Nat.le_refl _) E66.1) (Keep.of_wr W70).1) (Keep.of_wr W72).1) (Keep.of_wr W74).1) (Keep.of_wr W76).1) (Keep.of_wr W78).1)
  have ne79_b14 : b14 ≠ b79 := Nat.ne_of_lt (Nat.lt_of_lt_of_le lt79_b14 (Nat.le_of_eq g79.symm))
  have lt79_b32 : b32 < h78.size := Nat.lt_of_lt_of_le lt66_b32 (Nat.le_trans (Nat.le_trans (Nat.le_trans (Nat.le_trans (Nat.le_trans (Nat.le_trans (Nat.le_refl _) E66.1) (Keep.of_wr W70).1) (Keep.of_wr W72).1) (Keep.of_wr W74).1) (Keep.of_wr W76).1) (Keep.of_wr W78).1)
  have ne79_b32 : b32 ≠ b79 := Nat.ne_of_lt (Nat.lt_of_lt_of_le lt79_b32 (Nat.le_of_eq g79.symm))
  have lt79_m36_1 : m36_1 < h78.size := Nat.lt_of_lt_of_le lt66_m36_1 (Nat.le_trans (Nat.le_trans (Nat.le_trans (Nat.le_trans (Nat.le_trans (Nat.le_trans (Nat.le_refl _) E66.1) (Keep.of_wr W70).1) (Keep.of_wr W72).1) (Keep.of_wr W74).1) (Keep.of_wr W76).1) (Keep.of_wr W78).1)
  have ne79_m36_1 : m36_1 ≠ b79 := Nat.ne_of_lt (Nat.lt_of_lt_of_le lt79_m36_1 (Nat.le_of_eq g79.symm))
  have lt79_m36_2 : m36_2 < h78.size := Nat.lt_of_lt_of_le lt66_m36_2 (Nat.le_trans (Nat.le_trans (Nat.le_trans (Nat.le_trans (Nat.le_trans (Nat.le_trans (Nat.le_refl _) E66.1) (Keep.of_wr W70).1) (Keep.of_wr W72).1) (Keep.of_wr W74).1) (Keep.of_wr W76).1) (Keep.of_wr W78).1)
  have ne79_m36_2 : m36_2 ≠ b79 := Nat.ne_of_lt (Nat.lt_of_lt_of_le lt79_m36_2 (Nat.le_of_eq g79.symm))
  have lt79_m36_3 : m36_3 < h78.size := Nat.lt_of_lt_of_le lt66_m36_3 (Nat.le_trans (Nat.le_trans (Nat.le_trans (Nat.le_trans (Nat.le_trans (Nat.le_trans (Nat.le_refl _) E66.1) (Keep.of_wr W70).1) (Keep.of_wr W72).1) (Keep.of_wr W74).1) (Keep.of_wr W76).1) (Keep.of_wr W78).1)
  have ne79_m36_3 : m36_3 ≠ b79 := Nat.ne_of_lt (Nat.lt_of_lt_of_le lt79_m36_3 (Nat.le_of_eq g79.symm))
  have lt79_m36_4 : m36_4 < h78.size := Nat.lt_of_lt_of_le lt66_m36_4 (Nat.le_trans (Nat.le_trans (Nat.le_trans (Nat.le_trans (Nat.le_trans (Nat.le_trans (Nat.le_refl _) E66.1) (Keep.of_wr W70).1) (Keep.of_wr W72).1) (Keep.of_wr W74).1) (Keep.of_wr W76).1) (Keep.of_wr W78).1)
  have ne79_m36_4 : m36_4 ≠ b79 := Nat.ne_of_lt (Nat.lt_of_lt_of_le lt79_m36_4 (Nat.le_of_eq g79.symm))
  have lt79_m36_5 : m36_5 < h78.size := Nat.lt_of_lt_of_le lt66_m36_5 (Nat.le_trans (Nat.le_trans (Nat.le_trans (Nat.le_trans (Nat.le_trans (Nat.le_trans (Nat.le_refl _) E66.1) (Keep.of_wr W70).1) (Keep.of_wr W72).1) (Keep.of_wr W74).1) (Keep.of_wr W76).1) (Keep.of_wr W78).1)
  have ne79_m36_5 : m36_5 ≠ b79 := Nat.ne_of_lt (Nat.lt_of_lt_of_le lt79_m36_5 (Nat.le_of_eq g79.symm))
  have lt79_b41 : b41 < h78.size := Nat.lt_of_lt_of_le lt66_b41 (Nat.le_trans (Nat.le_trans (Nat.le_trans (Nat.le_trans (Nat.le_trans (Nat.le_trans (Nat.le_refl _) E66.1) (Keep.of_wr W70).1) (Keep.of_wr W72).1) (Keep.of_wr W74).1) (Keep.of_wr W76).1) (Keep.of_wr W78).1)
  have ne79_b41 : b41 ≠ b79 := Nat.ne_of_lt (Nat.lt_of_lt_of_le lt79_b41 (Nat.le_of_eq g79.symm))
  have lt79_b53 : b53 < h78.size := Nat.lt_of_lt_of_le lt66_b53 (Nat.le_trans (Nat.le_trans (Nat.le_trans (Nat.le_trans (Nat.le_trans (Nat.le_trans (Nat.le_refl _) E66.1) (Keep.of_wr W70).1) (Keep.of_wr W72).1) (Keep.of_wr W74).1) (Keep.of_wr W76).1) (Keep.of_wr W78).1)
  have ne79_b53 : b53 ≠ b79 := Nat.ne_of_lt (Nat.lt_of_lt_of_le lt79_b53 (Nat.le_of_eq g79.symm))
  have lt79_b66 : b66 < h78.size := Nat.lt_of_lt_of_le V_b66.lt (Nat.le_trans (Nat.le_trans (Nat.le_trans (Nat.le_trans (Nat.le_trans (Nat.le_refl _) (Keep.of_wr W70).1) (Keep.of_wr W72).1) (Keep.of_wr W74).1) (Keep.of_wr W76).1) (Keep.of_wr W78).1)
  have ne79_b66 : b66 ≠ b79 := Nat.ne_of_lt (Nat.lt_of_lt_of_le lt79_b66 (Nat.le_of_eq g79.symm))
  have zz80 : n0 ≤ h78.size := (Nat.le_trans (Nat.le_trans (Nat.le_trans (Nat.le_trans (Nat.le_trans (Nat.le_trans zz67 E66.1) (Keep.of_wr W70).1) (Keep.of_wr W72).1) (Keep.of_wr W74).1) (Keep.of_wr W76).1) (Keep.of_wr W78).1)
  have g_b79 : n0 ≤ b79 := Nat.le_trans zz80 (Nat.le_of_eq g79.symm)
  have zz81 : h0.size ≤ h78.size := (Nat.le_trans (Nat.le_trans (Nat.le_trans (Nat.le_trans (Nat.le_trans (Nat.le_trans zz68 E66.1) (Keep.of_wr W70).1) (Keep.of_wr W72).1) (Keep.of_wr W74).1) (Keep.of_wr W76).1) (Keep.of_wr W78).1)
  have sz_b79 : h0.size ≤ b79 := Nat.le_trans zz81 (Nat.le_of_eq g79.symm)
  have V_b79 : Arv Z h79 b79 k79 (.array .int) (3 : Int32) [.null, .null, .null] .null := (Arv.new A79 (by decide)).pad (pad_rep [] .null 3)
  have Vo_82 := V_b79
  obtain ⟨Cl_82, Ar_82, Kc_82, Sz_82, Nn_82, Hs_82, Gf_82⟩ := Vo_82
  have fx83 := ((((((((((((((((((E_b41.wr W44).wr W46).wr W48).wr W50).wr W52).ext E53).wr W57).wr W59).wr W61).wr W63).wr W65).ext E66).wr W70).wr W72).wr W74).wr W76).wr W78).ext E79)
  obtain ⟨T84, h84, X84, e84, W84, st84⟩ := stR X79 hx hZ e79 Ar_82 (j := (0 : Int32)) (inb_of Sz_82 ⟨by decide, by decide⟩) rfl (Sto.ofVA Ar_82 Kc_82 O79 (Ins.self fx83)) (g := (mkF m 218 #[.val (.int q0), .val (.int q1), .val (.int q2), .val (.int q3), .val (.long q4), .second, .val (.int q5), .val (.int p1), .val (.int s1), .val (.int kk), .val (.ref b1), .val (.ref b14), .val (.int (Int32.ofNat i)), .val (.int (Int32.ofNat j)), .val (.ref b32), .val (.ref b41), .val (.ref b53), .val (.ref b66), .unset] [(.ref b41), (.int (0 : Int32)), (.ref b79), (.ref b79)])) rfl rfl (hb hby at_218)
  have Vs84 : Arv Z h84 b79 k79 (.array .int) (3 : Int32) [(.ref b41), .null, .null] .null := Arv.set Ar_82 Kc_82 Sz_82 Nn_82 Hs_82 Gf_82 rfl W84 0 rfl (Nat.le_of_ble_eq_true rfl)
  have N84 := Fr.snoc X84 N78 g_b79
  have Vo_85 := Vs84
  obtain ⟨Cl_85, Ar_85, Kc_85, Sz_85, Nn_85, Hs_85, Gf_85⟩ := Vo_85
  have fx86 := (((((((((((((E_b53.wr W57).wr W59).wr W61).wr W63).wr W65).ext E66).wr W70).wr W72).wr W74).wr W76).wr W78).ext E79).wr W84)
  obtain ⟨T87, h87, X87, e87, W87, st87⟩ := stR X84 hx hZ e84 Ar_85 (j := (1 : Int32)) (inb_of Sz_85 ⟨by decide, by decide⟩) rfl (Sto.ofVA Ar_85 Kc_85 O79 (Ins.self fx86)) (g := (mkF m 223 #[.val (.int q0), .val (.int q1), .val (.int q2), .val (.int q3), .val (.long q4), .second, .val (.int q5), .val (.int p1), .val (.int s1), .val (.int kk), .val (.ref b1), .val (.ref b14), .val (.int (Int32.ofNat i)), .val (.int (Int32.ofNat j)), .val (.ref b32), .val (.ref b41), .val (.ref b53), .val (.ref b66), .unset] [(.ref b53), (.int (1 : Int32)), (.ref b79), (.ref b79)])) rfl rfl (hb hby at_223)
  have Vs87 : Arv Z h87 b79 k79 (.array .int) (3 : Int32) [(.ref b41), (.ref b53), .null] .null := Arv.set Ar_85 Kc_85 Sz_85 Nn_85 Hs_85 Gf_85 rfl W87 1 rfl (Nat.le_of_ble_eq_true rfl)
  have N87 := Fr.snoc X87 N84 g_b79
  have Vo_88 := Vs87
  obtain ⟨Cl_88, Ar_88, Kc_88, Sz_88, Nn_88, Hs_88, Gf_88⟩ := Vo_88
  have fx89 := ((((((((E_b66.wr W70).wr W72).wr W74).wr W76).wr W78).ext E79).wr W84).wr W87)
  obtain ⟨T90, h90, X90, e90, W90, st90⟩ := stR X87 hx hZ e87 Ar_88 (j := (2 : Int32)) (inb_of Sz_88 ⟨by decide, by decide⟩) rfl (Sto.ofVA Ar_88 Kc_88 O79 (Ins.self fx89)) (g := (mkF m 228 #[.val (.int q0), .val (.int q1), .val (.int q2), .val (.int q3), .val (.long q4), .second, .val (.int q5), .val (.int p1), .val (.int s1), .val (.int kk), .val (.ref b1), .val (.ref b14), .val (.int (Int32.ofNat i)), .val (.int (Int32.ofNat j)), .val (.ref b32), .val (.ref b41), .val (.ref b53), .val (.ref b66), .unset] [(.ref b66), (.int (2 : Int32)), (.ref b79), (.ref b79)])) rfl rfl (hb hby at_228)
  have Vs90 : Arv Z h90 b79 k79 (.array .int) (3 : Int32) [(.ref b41), (.ref b53), (.ref b66)] .null := Arv.set Ar_88 Kc_88 Sz_88 Nn_88 Hs_88 Gf_88 rfl W90 2 rfl (Nat.le_of_ble_eq_true rfl)
  have N90 := Fr.snoc X90 N87 g_b79
  have Vo_91 := Vs90
  obtain ⟨Cl_91, Ar_91, Kc_91, Sz_91, Nn_91, Hs_91, Gf_91⟩ := Vo_91
  have Vo_92 := Vs90
  obtain ⟨Cl_92, Ar_92, Kc_92, Sz_92, Nn_92, Hs_92, Gf_92⟩ := Vo_92
  obtain ⟨T93, h93, X93, e93, W93, st93⟩ := stR X90 hx hZ e90 Ar_92 (j := (Int32.ofNat i)) (inb_of Sz_92 ri3) rfl (Sto.ofVA Ar_92 Kc_92 O79 (own_r3_all (P := fun z => Ins Z h90 z "[I" true) (Ins.self (((fx83.wr W84).wr W87).wr W90)) (Ins.self ((fx86.wr W87).wr W90)) (Ins.self (fx89.wr W90)) j)) (g := (mkF m 240 #[.val (.int q0), .val (.int q1), .val (.int q2), .val (.int q3), .val (.long q4), .second, .val (.int q5), .val (.int p1), .val (.int s1), .val (.int kk), .val (.ref b1), .val (.ref b14), .val (.int (Int32.ofNat i)), .val (.int (Int32.ofNat j)), .val (.ref b32), .val (.ref b41), .val (.ref b53), .val (.ref b66), .val (.ref b79)] [(.ref (own_r3 j b41 b53 b66)), (.int (Int32.ofNat i)), (.ref b79)])) rfl rfl (hb hby at_240)
  have Vs93 : Arv Z h93 b79 k79 (.array .int) (3 : Int32) ([(.ref b41), (.ref b53), (.ref b66)].set i (.ref (own_r3 j b41 b53 b66))) .null := Arv.set Ar_92 Kc_92 Sz_92 Nn_92 Hs_92 Gf_92 rfl W93 i ri1 (by show i < 3; omega)
  have N93 := Fr.snoc X93 N90 g_b79
  obtain ⟨LF94, XF94, NF94⟩ : ∃ LC, Stand p l e room_1 s m #[(.int q0), (.int q1), (.int q2), (.int q3), (.long q4), (.int q5)] below meth c T93 LC 12 116 ∧ Fr n0 LC := ⟨_, X93, N93⟩
  have zz96 : n0 ≤ h93.size := (Nat.le_trans (Nat.le_trans (Nat.le_trans (Nat.le_trans (Nat.le_trans zz80 E79.1) (Keep.of_wr W84).1) (Keep.of_wr W87).1) (Keep.of_wr W90).1) (Keep.of_wr W93).1)
  have fx97 := (((((((((((((((((((((((Em40.ext E41).wr W44).wr W46).wr W48).wr W50).wr W52).ext E53).wr W57).wr W59).wr W61).wr W63).wr W65).ext E66).wr W70).wr W72).wr W74).wr W76).wr W78).ext E79).wr W84).wr W87).wr W90).wr W93)
  obtain ⟨cq95, kq95, q95a, q95b, q95c⟩ := isOf hZ e93 fx97
  obtain ⟨_, _, ⟨T95, L95, k95, n95⟩, -, X95, ⟨Lc95, hQ95, l95, y95, z95⟩, st95⟩ := XF94.virtualBack hx (y := (⟨"com/example/yealm/yealm/ccs/Moves", "copy", "(II)V"⟩ : MethodName)) (z := (⟨"com/example/yealm/yealm/ccs/Moves", "copy", "(II)V"⟩ : MethodName)) hown (mvT hZ (hw _ (List.mem_of_getElem? (i := 40) rfl))) (mvT hZ (hw _ (List.mem_of_getElem? (i := 41) rfl))) (notFace_of_selects (args := #[]) (mvT hZ (hw _ (List.mem_of_getElem? (i := 43) rfl)))) (mvT hZ (hw _ (List.mem_of_getElem? (i := 43) rfl))) (mvT hZ (hw _ (List.mem_of_getElem? (i := 42) rfl))) (by decide) (backOf (W := 0) (rm6 l Z a0 hw [] b32 m36_1 m36_2 m36_3 m36_4 m36_5 (3 : Int32) ([(.int q0), (.int q3), (.int (0 : Int32))]) ([(.int q1), (.int p1), (.int q1)]) ([(.int q2), (.int s1), (.int q2)]) ([(.int (-1 : Int32)), (.int (-1 : Int32)), (.int p1)]) ([(.int (-1 : Int32)), (.int (-1 : Int32)), (.int s1)]) (Int32.ofNat j) (Int32.ofNat i) i (own_col j q0 q3 (0 : Int32)) (own_col j q1 p1 q1) (own_col j q2 s1 q2) (own_col j (-1 : Int32) (-1 : Int32) p1) (own_col j (-1 : Int32) (-1 : Int32) s1) h93 n0 zz96 (own_M_wr (own_M_wr (own_M_wr (own_M_wr (own_M_ext (own_M_wr (own_M_wr (own_M_wr (own_M_wr (own_M_wr (own_M_ext (own_M_wr (own_M_wr (own_M_wr (own_M_wr (own_M_wr (own_M_ext (own_M_wr (own_M_wr (own_M_wr (own_M_wr (own_M_wr (own_M_ext M40 E41) W44 ne41_b32 ne41_m36_1 ne41_m36_2 ne41_m36_3 ne41_m36_4 ne41_m36_5) W46 ne41_b32 ne41_m36_1 ne41_m36_2 ne41_m36_3 ne41_m36_4 ne41_m36_5) W48 ne41_b32 ne41_m36_1 ne41_m36_2 ne41_m36_3 ne41_m36_4 ne41_m36_5) W50 ne41_b32 ne41_m36_1 ne41_m36_2 ne41_m36_3 ne41_m36_4 ne41_m36_5) W52 ne41_b32 ne41_m36_1 ne41_m36_2 ne41_m36_3 ne41_m36_4 ne41_m36_5) E53) W57 ne53_b32 ne53_m36_1 ne53_m36_2 ne53_m36_3 ne53_m36_4 ne53_m36_5) W59 ne53_b32 ne53_m36_1 ne53_m36_2 ne53_m36_3 ne53_m36_4 ne53_m36_5) W61 ne53_b32 ne53_m36_1 ne53_m36_2 ne53_m36_3 ne53_m36_4 ne53_m36_5) W63 ne53_b32 ne53_m36_1 ne53_m36_2 ne53_m36_3 ne53_m36_4 ne53_m36_5) W65 ne53_b32 ne53_m36_1 ne53_m36_2 ne53_m36_3 ne53_m36_4 ne53_m36_5) E66) W70 ne66_b32 ne66_m36_1 ne66_m36_2 ne66_m36_3 ne66_m36_4 ne66_m36_5) W72 ne66_b32 ne66_m36_1 ne66_m36_2 ne66_m36_3 ne66_m36_4 ne66_m36_5) W74 ne66_b32 ne66_m36_1 ne66_m36_2 ne66_m36_3 ne66_m36_4 ne66_m36_5) W76 ne66_b32 ne66_m36_1 ne66_m36_2 ne66_m36_3 ne66_m36_4 ne66_m36_5) W78 ne66_b32 ne66_m36_1 ne66_m36_2 ne66_m36_3 ne66_m36_4 ne66_m36_5) E79) W84 ne79_b32 ne79_m36_1 ne79_m36_2 ne79_m36_3 ne79_m36_4 ne79_m36_5) W87 ne79_b32 ne79_m36_1 ne79_m36_2 ne79_m36_3 ne79_m36_4 ne79_m36_5) W90 ne79_b32 ne79_m36_1 ne79_m36_2 ne79_m36_3 ne79_m36_4 ne79_m36_5) W93 ne79_b32 ne79_m36_1 ne79_m36_2 ne79_m36_3 ne79_m36_4 ne79_m36_5) D36 ri1 ri2 rj2 (by show i < 3; omega) (by show i < 3; omega) (by show i < 3; omega) (by show i < 3; omega) (by show i < 3; omega) (by rw [rj1]; exact own_col_get hj2 _ _ _) (by rw [rj1]; exact own_col_get hj2 _ _ _) (by rw [rj1]; exact own_col_get hj2 _ _ _) (by rw [rj1]; exact own_col_get hj2 _ _ _) (by rw [rj1]; exact own_col_get hj2 _ _ _)) hZ (hw _ (List.mem_of_getElem? (i := 44) rfl)) (hw _ (List.mem_of_getElem? (i := 4) rfl)) (by decide) (by decide)) q95a q95c (g := (mkF m 247 #[.val (.int q0), .val (.int q1), .val (.int q2), .val (.int q3), .val (.long q4), .second, .val (.int q5), .val (.int p1), .val (.int s1), .val (.int kk), .val (.ref b1), .val (.ref b14), .val (.int (Int32.ofNat i)), .val (.int (Int32.ofNat j)), .val (.ref b32), .val (.ref b41), .val (.ref b53), .val (.ref b66), .val (.ref b79)] [(.int (Int32.ofNat i)), (.int (Int32.ofNat j)), (.ref b32)])) rfl (by rw [hml]; rfl) (Steps.refl _) (argsL := [(.int (Int32.ofNat j)), (.int (Int32.ofNat i))]) (rest := []) (lenOf pd_3 rfl) rfl (by show 2 * 0 + _ ≤ _; exact Nat.le_of_eq rfl) (hb hby at_247) (fun _ _ => ⟨rfl, e93, (by decide : 12 + 0 ≤ _), (by decide : 116 + 0 ≤ _)⟩)
  dsimp only [Pt.U, Pt.locs, Pt.cells, Pt.slots] at X95 l95 y95 z95 st95 hQ95
  subst l95 y95 z95
  obtain ⟨rfl, N95q, K95, My95⟩ := hQ95
  have N95 := Fr.app NF94 N95q
  have M95 : own_M Z T95.heap b32 m36_1 m36_2 m36_3 m36_4 m36_5 (3 : Int32) (([(.int q0), (.int q3), (.int (0 : Int32))].set i (.int (own_col j q0 q3 (0 : Int32))))) (([(.int q1), (.int p1), (.int q1)].set i (.int (own_col j q1 p1 q1)))) (([(.int q2), (.int s1), (.int q2)].set i (.int (own_col j q2 s1 q2)))) (([(.int (-1 : Int32)), (.int (-1 : Int32)), (.int p1)].set i (.int (own_col j (-1 : Int32) (-1 : Int32) p1)))) (([(.int (-1 : Int32)), (.int (-1 : Int32)), (.int s1)].set i (.int (own_col j (-1 : Int32) (-1 : Int32) s1)))) := My95
  have Em95 := M95.1
  obtain ⟨cq98, kq98, q98a, q98b, q98c⟩ := isOf hZ rfl Em95
  obtain ⟨_, _, ⟨T98, L98, k98, n98⟩, -, X98, ⟨Lc98, hQ98, l98, y98, z98⟩, st98⟩ := X95.virtualBack hx (y := (⟨"com/example/yealm/yealm/ccs/Moves", "size", "()I"⟩ : MethodName)) (z := (⟨"com/example/yealm/yealm/ccs/Moves", "size", "()I"⟩ : MethodName)) hown (mvT hZ (hw _ (List.mem_of_getElem? (i := 45) rfl))) (mvT hZ (hw _ (List.mem_of_getElem? (i := 46) rfl))) (notFace_of_selects (args := #[]) (mvT hZ (hw _ (List.mem_of_getElem? (i := 48) rfl)))) (mvT hZ (hw _ (List.mem_of_getElem? (i := 48) rfl))) (mvT hZ (hw _ (List.mem_of_getElem? (i := 47) rfl))) (by decide) (backOf (W := 0) (rm7 l Z a0 hw [] b32 m36_1 m36_2 m36_3 m36_4 m36_5 (3 : Int32) (([(.int q0), (.int q3), (.int (0 : Int32))].set i (.int (own_col j q0 q3 (0 : Int32))))) (([(.int q1), (.int p1), (.int q1)].set i (.int (own_col j q1 p1 q1)))) (([(.int q2), (.int s1), (.int q2)].set i (.int (own_col j q2 s1 q2)))) (([(.int (-1 : Int32)), (.int (-1 : Int32)), (.int p1)].set i (.int (own_col j (-1 : Int32) (-1 : Int32) p1)))) (([(.int (-1 : Int32)), (.int (-1 : Int32)), (.int s1)].set i (.int (own_col j (-1 : Int32) (-1 : Int32) s1)))) T95.heap n0 (Nat.le_trans zz96 K95.1) M95) hZ (hw _ (List.mem_of_getElem? (i := 49) rfl)) (hw _ (List.mem_of_getElem? (i := 4) rfl)) (by decide) (by decide)) q98a q98c (g := (mkF m 252 #[.val (.int q0), .val (.int q1), .val (.int q2), .val (.int q3), .val (.long q4), .second, .val (.int q5), .val (.int p1), .val (.int s1), .val (.int kk), .val (.ref b1), .val (.ref b14), .val (.int (Int32.ofNat i)), .val (.int (Int32.ofNat j)), .val (.ref b32), .val (.ref b41), .val (.ref b53), .val (.ref b66), .val (.ref b79)] [(.ref b32)])) rfl (by rw [hml]; rfl) (Steps.refl _) (argsL := []) (rest := []) (lenOf pd_4 rfl) rfl (by show 2 * 0 + _ ≤ _; exact Nat.le_of_eq rfl) (hb hby at_252) (fun _ _ => ⟨rfl, rfl, (by decide : 12 + 0 ≤ _), (by decide : 116 + 0 ≤ _)⟩)
  dsimp only [Pt.U, Pt.locs, Pt.cells, Pt.slots] at X98 l98 y98 z98 st98 hQ98
  subst l98 y98 z98
  obtain ⟨rfl, N98q, e98⟩ := hQ98
  have N98 := Fr.app N95 N98q
  have fx100 := (Vs93.keep K95 (ninS (Ne.symm ne79_b32) (ninS (Ne.symm ne79_m36_1) (ninS (Ne.symm ne79_m36_2) (ninS (Ne.symm ne79_m36_3) (ninS (Ne.symm ne79_m36_4) (ninS (Ne.symm ne79_m36_5) nin0)))))))
  have Vo_99 := fx100
  obtain ⟨Cl_99, Ar_99, Kc_99, Sz_99, Nn_99, Hs_99, Gf_99⟩ := Vo_99
  have fx102 := ((((((((((((((((((Vs52.ext E53).other W57 ne53_b41).other W59 ne53_b41).other W61 ne53_b41).other W63 ne53_b41).other W65 ne53_b41).ext E66).other W70 ne66_b41).other W72 ne66_b41).other W74 ne66_b41).other W76 ne66_b41).other W78 ne66_b41).ext E79).other W84 ne79_b41).other W87 ne79_b41).other W90 ne79_b41).other W93 ne79_b41).keep K95 (ninS (Ne.symm ne41_b32) (ninS (Ne.symm ne41_m36_1) (ninS (Ne.symm ne41_m36_2) (ninS (Ne.symm ne41_m36_3) (ninS (Ne.symm ne41_m36_4) (ninS (Ne.symm ne41_m36_5) nin0)))))))
  have fx103 := ((((((((((((Vs65.ext E66).other W70 ne66_b53).other W72 ne66_b53).other W74 ne66_b53).other W76 ne66_b53).other W78 ne66_b53).ext E79).other W84 ne79_b53).other W87 ne79_b53).other W90 ne79_b53).other W93 ne79_b53).keep K95 (ninS (Ne.symm ne53_b32) (ninS (Ne.symm ne53_m36_1) (ninS (Ne.symm ne53_m36_2) (ninS (Ne.symm ne53_m36_3) (ninS (Ne.symm ne53_m36_4) (ninS (Ne.symm ne53_m36_5) nin0)))))))
  have fx104 := ((((((Vs78.ext E79).other W84 ne79_b66).other W87 ne79_b66).other W90 ne79_b66).other W93 ne79_b66).keep K95 (ninS (Ne.symm ne66_b32) (ninS (Ne.symm ne66_m36_1) (ninS (Ne.symm ne66_m36_2) (ninS (Ne.symm ne66_m36_3) (ninS (Ne.symm ne66_m36_4) (ninS (Ne.symm ne66_m36_5) nin0)))))))
  obtain ⟨_, _, ⟨T101, L101, k101, n101⟩, -, X101, ⟨Lc101, hQ101, l101, y101, z101⟩, st101⟩ := Jvm.LawKit.callS X98 hx (y := (⟨"com/example/yealm/yealm/ccs/MovesCopyPinLaw", "row", "(Lcom/example/yealm/yealm/ccs/Moves;I[I)Z"⟩ : MethodName)) hown (mvT hZ (hw _ (List.mem_of_getElem? (i := 50) rfl))) (mvT hZ (hw _ (List.mem_of_getElem? (i := 51) rfl))) (mvT hZ (hw _ (List.mem_of_getElem? (i := 52) rfl))) (mvT hZ (hw _ (List.mem_of_getElem? (i := 53) rfl))) (by decide) (backOf (W := 0) (rm8 l Z a0 hw [] b32 m36_1 m36_2 m36_3 m36_4 m36_5 (3 : Int32) (([(.int q0), (.int q3), (.int (0 : Int32))].set i (.int (own_col j q0 q3 (0 : Int32))))) (([(.int q1), (.int p1), (.int q1)].set i (.int (own_col j q1 p1 q1)))) (([(.int q2), (.int s1), (.int q2)].set i (.int (own_col j q2 s1 q2)))) (([(.int (-1 : Int32)), (.int (-1 : Int32)), (.int p1)].set i (.int (own_col j (-1 : Int32) (-1 : Int32) p1)))) (([(.int (-1 : Int32)), (.int (-1 : Int32)), (.int s1)].set i (.int (own_col j (-1 : Int32) (-1 : Int32) s1)))) (0 : Int32) (own_r3 (own_sg i j 0) b41 b53 b66) (own_col (own_sg i j 0) q0 q3 (0 : Int32)) (own_col (own_sg i j 0) q1 p1 q1) (own_col (own_sg i j 0) q2 s1 q2) (own_col (own_sg i j 0) (-1 : Int32) (-1 : Int32) p1) (own_col (own_sg i j 0) (-1 : Int32) (-1 : Int32) s1) T95.heap n0 (Nat.le_trans zz96 K95.1) M95 ⟨by decide, by decide⟩ (own_rows ⟨_, fx102⟩ ⟨_, fx103⟩ ⟨_, fx104⟩ (own_sg_le hj2 (by decide))) (own_col_set hi2 hj2 (by decide) _ _ _) (own_col_set hi2 hj2 (by decide) _ _ _) (own_col_set hi2 hj2 (by decide) _ _ _) (own_col_set hi2 hj2 (by decide) _ _ _) (own_col_set hi2 hj2 (by decide) _ _ _)) hZ (hw _ (List.mem_of_getElem? (i := 53) rfl)) (hw _ (List.mem_of_getElem? (i := 52) rfl)) (by decide) (by decide)) (g := (mkF m 266 #[.val (.int q0), .val (.int q1), .val (.int q2), .val (.int q3), .val (.long q4), .second, .val (.int q5), .val (.int p1), .val (.int s1), .val (.int kk), .val (.ref b1), .val (.ref b14), .val (.int (Int32.ofNat i)), .val (.int (Int32.ofNat j)), .val (.ref b32), .val (.ref b41), .val (.ref b53), .val (.ref b66), .val (.ref b79)] [(.ref (own_r3 (own_sg i j 0) b41 b53 b66)), (.int (0 : Int32)), (.ref b32)])) rfl (by rw [hml]; rfl) (argsL := [(.ref b32), (.int (0 : Int32)), (.ref (own_r3 (own_sg i j 0) b41 b53 b66))]) (rest := []) (lenOf pd_5 rfl) rfl (by show 2 * 0 + _ ≤ _; exact Nat.le_of_eq rfl) (hb hby at_266) (fun _ _ => ⟨rfl, e98, (by decide : 12 + 0 ≤ _), (by decide : 116 + 0 ≤ _)⟩)
  dsimp only [Pt.U, Pt.locs, Pt.cells, Pt.slots] at X101 l101 y101 z101 st101 hQ101
  subst l101 y101 z101
  obtain ⟨rfl, N101q, e101⟩ := hQ101
  have N101 := Fr.app N98 N101q
  have Vo_105 := fx100
  obtain ⟨Cl_105, Ar_105, Kc_105, Sz_105, Nn_105, Hs_105, Gf_105⟩ := Vo_105
  obtain ⟨_, _, ⟨T106, L106, k106, n106⟩, -, X106, ⟨Lc106, hQ106, l106, y106, z106⟩, st106⟩ := Jvm.LawKit.callS X101 hx (y := (⟨"com/example/yealm/yealm/ccs/MovesCopyPinLaw", "row", "(Lcom/example/yealm/yealm/ccs/Moves;I[I)Z"⟩ : MethodName)) hown (mvT hZ (hw _ (List.mem_of_getElem? (i := 50) rfl))) (mvT hZ (hw _ (List.mem_of_getElem? (i := 51) rfl))) (mvT hZ (hw _ (List.mem_of_getElem? (i := 52) rfl))) (mvT hZ (hw _ (List.mem_of_getElem? (i := 53) rfl))) (by decide) (backOf (W := 0) (rm8 l Z a0 hw [] b32 m36_1 m36_2 m36_3 m36_4 m36_5 (3 : Int32) (([(.int q0), (.int q3), (.int (0 : Int32))].set i (.int (own_col j q0 q3 (0 : Int32))))) (([(.int q1), (.int p1), (.int q1)].set i (.int (own_col j q1 p1 q1)))) (([(.int q2), (.int s1), (.int q2)].set i (.int (own_col j q2 s1 q2)))) (([(.int (-1 : Int32)), (.int (-1 : Int32)), (.int p1)].set i (.int (own_col j (-1 : Int32) (-1 : Int32) p1)))) (([(.int (-1 : Int32)), (.int (-1 : Int32)), (.int s1)].set i (.int (own_col j (-1 : Int32) (-1 : Int32) s1)))) (1 : Int32) (own_r3 (own_sg i j 1) b41 b53 b66) (own_col (own_sg i j 1) q0 q3 (0 : Int32)) (own_col (own_sg i j 1) q1 p1 q1) (own_col (own_sg i j 1) q2 s1 q2) (own_col (own_sg i j 1) (-1 : Int32) (-1 : Int32) p1) (own_col (own_sg i j 1) (-1 : Int32) (-1 : Int32) s1) T95.heap n0 (Nat.le_trans zz96 K95.1) M95 ⟨by decide, by decide⟩ (own_rows ⟨_, fx102⟩ ⟨_, fx103⟩ ⟨_, fx104⟩ (own_sg_le hj2 (by decide))) (own_col_set hi2 hj2 (by decide) _ _ _) (own_col_set hi2 hj2 (by decide) _ _ _) (own_col_set hi2 hj2 (by decide) _ _ _) (own_col_set hi2 hj2 (by decide) _ _ _) (own_col_set hi2 hj2 (by decide) _ _ _)) hZ (hw _ (List.mem_of_getElem? (i := 53) rfl)) (hw _ (List.mem_of_getElem? (i := 52) rfl)) (by decide) (by decide)) (g := (mkF m 279 #[.val (.int q0), .val (.int q1), .val (.int q2), .val (.int q3), .val (.long q4), .second, .val (.int q5), .val (.int p1), .val (.int s1), .val (.int kk), .val (.ref b1), .val (.ref b14), .val (.int (Int32.ofNat i)), .val (.int (Int32.ofNat j)), .val (.ref b32), .val (.ref b41), .val (.ref b53), .val (.ref b66), .val (.ref b79)] [(.ref (own_r3 (own_sg i j 1) b41 b53 b66)), (.int (1 : Int32)), (.ref b32)])) rfl (by rw [hml]; rfl) (argsL := [(.ref b32), (.int (1 : Int32)), (.ref (own_r3 (own_sg i j 1) b41 b53 b66))]) (rest := []) (lenOf pd_5 rfl) rfl (by show 2 * 0 + _ ≤ _; exact Nat.le_of_eq rfl) (hb hby at_279) (fun _ _ => ⟨rfl, e101, (by decide : 12 + 0 ≤ _), (by decide : 116 + 0 ≤ _)⟩)
  dsimp only [Pt.U, Pt.locs, Pt.cells, Pt.slots] at X106 l106 y106 z106 st106 hQ106
  subst l106 y106 z106
  obtain ⟨rfl, N106q, e106⟩ := hQ106
  have N106 := Fr.app N101 N106q
  have Vo_107 := fx100
  obtain ⟨Cl_107, Ar_107, Kc_107, Sz_107, Nn_107, Hs_107, Gf_107⟩ := Vo_107
  obtain ⟨_, _, ⟨T108, L108, k108, n108⟩, -, X108, ⟨Lc108, hQ108, l108, y108, z108⟩, st108⟩ := Jvm.LawKit.callS X106 hx (y := (⟨"com/example/yealm/yealm/ccs/MovesCopyPinLaw", "row", "(Lcom/example/yealm/yealm/ccs/Moves;I[I)Z"⟩ : MethodName)) hown (mvT hZ (hw _ (List.mem_of_getElem? (i := 50) rfl))) (mvT hZ (hw _ (List.mem_of_getElem? (i := 51) rfl))) (mvT hZ (hw _ (List.mem_of_getElem? (i := 52) rfl))) (mvT hZ (hw _ (List.mem_of_getElem? (i := 53) rfl))) (by decide) (backOf (W := 0) (rm8 l Z a0 hw [] b32 m36_1 m36_2 m36_3 m36_4 m36_5 (3 : Int32) (([(.int q0), (.int q3), (.int (0 : Int32))].set i (.int (own_col j q0 q3 (0 : Int32))))) (([(.int q1), (.int p1), (.int q1)].set i (.int (own_col j q1 p1 q1)))) (([(.int q2), (.int s1), (.int q2)].set i (.int (own_col j q2 s1 q2)))) (([(.int (-1 : Int32)), (.int (-1 : Int32)), (.int p1)].set i (.int (own_col j (-1 : Int32) (-1 : Int32) p1)))) (([(.int (-1 : Int32)), (.int (-1 : Int32)), (.int s1)].set i (.int (own_col j (-1 : Int32) (-1 : Int32) s1)))) (2 : Int32) (own_r3 (own_sg i j 2) b41 b53 b66) (own_col (own_sg i j 2) q0 q3 (0 : Int32)) (own_col (own_sg i j 2) q1 p1 q1) (own_col (own_sg i j 2) q2 s1 q2) (own_col (own_sg i j 2) (-1 : Int32) (-1 : Int32) p1) (own_col (own_sg i j 2) (-1 : Int32) (-1 : Int32) s1) T95.heap n0 (Nat.le_trans zz96 K95.1) M95 ⟨by decide, by decide⟩ (own_rows ⟨_, fx102⟩ ⟨_, fx103⟩ ⟨_, fx104⟩ (own_sg_le hj2 (by decide))) (own_col_set hi2 hj2 (by decide) _ _ _) (own_col_set hi2 hj2 (by decide) _ _ _) (own_col_set hi2 hj2 (by decide) _ _ _) (own_col_set hi2 hj2 (by decide) _ _ _) (own_col_set hi2 hj2 (by decide) _ _ _)) hZ (hw _ (List.mem_of_getElem? (i := 53) rfl)) (hw _ (List.mem_of_getElem? (i := 52) rfl)) (by decide) (by decide)) (g := (mkF m 292 #[.val (.int q0), .val (.int q1), .val (.int q2), .val (.int q3), .val (.long q4), .second, .val (.int q5), .val (.int p1), .val (.int s1), .val (.int kk), .val (.ref b1), .val (.ref b14), .val (.int (Int32.ofNat i)), .val (.int (Int32.ofNat j)), .val (.ref b32), .val (.ref b41), .val (.ref b53), .val (.ref b66), .val (.ref b79)] [(.ref (own_r3 (own_sg i j 2) b41 b53 b66)), (.int (2 : Int32)), (.ref b32)])) rfl (by rw [hml]; rfl) (argsL := [(.ref b32), (.int (2 : Int32)), (.ref (own_r3 (own_sg i j 2) b41 b53 b66))]) (rest := []) (lenOf pd_5 rfl) rfl (by show 2 * 0 + _ ≤ _; exact Nat.le_of_eq rfl) (hb hby at_292) (fun _ _ => ⟨rfl, e106, (by decide : 12 + 0 ≤ _), (by decide : 116 + 0 ≤ _)⟩)
  dsimp only [Pt.U, Pt.locs, Pt.cells, Pt.slots] at X108 l108 y108 z108 st108 hQ108
  subst l108 y108 z108
  obtain ⟨rfl, N108q, e108⟩ := hQ108
  have N108 := Fr.app N106 N108q
  obtain ⟨fs, hr, hrun, hended, hW, hsame⟩ := X108.leave (v := some (.int (1 : Int32))) (fun h => by rw [Bd.returns] at h; cases h)
  refine ⟨_, _, pre0 _ ?_, hrun, hended, _, _, rfl, ?_, ⟨_, rfl⟩, hW, hsame.mono (by decide) (by decide)⟩
  · show Steps p.tables e below (s₁.setTop (mkF m 0 #[.val (.int q0), .val (.int q1), .val (.int q2), .val (.int q3), .val (.long q4), .second, .val (.int q5), .unset, .unset, .unset, .unset, .unset, .unset, .unset, .unset, .unset, .unset, .unset, .unset] [])) _
    refine XS.lload X0.here hx rfl (hb hby at_0) rfl ?_
    show Steps p.tables e below (s₁.setTop (mkF m 2 #[.val (.int q0), .val (.int q1), .val (.int q2), .val (.int q3), .val (.long q4), .second, .val (.int q5), .unset, .unset, .unset, .unset, .unset, .unset, .unset, .unset, .unset, .unset, .unset, .unset] [(.long q4)])) _
    refine XS.bipush X0.here hx rfl (hb hby at_2) ?_
    show Steps p.tables e below (s₁.setTop (mkF m 4 #[.val (.int q0), .val (.int q1), .val (.int q2), .val (.int q3), .val (.long q4), .second, .val (.int q5), .unset, .unset, .unset, .unset, .unset, .unset, .unset, .unset, .unset, .unset, .unset, .unset] [(.int (32 : Int32)), (.long q4)])) _
    refine XS.lshr X0.here hx rfl (hb hby at_4) rfl ?_
    show Steps p.tables e below (s₁.setTop (mkF m 5 #[.val (.int q0), .val (.int q1), .val (.int q2), .val (.int q3), .val (.long q4), .second, .val (.int q5), .unset, .unset, .unset, .unset, .unset, .unset, .unset, .unset, .unset, .unset, .unset, .unset] [(.long (q4 >>> ((32 : Int32) &&& 0x3f).toInt64))])) _
    refine XS.l2i X0.here hx rfl (hb hby at_5) rfl ?_
    show Steps p.tables e below (s₁.setTop (mkF m 6 #[.val (.int q0), .val (.int q1), .val (.int q2), .val (.int q3), .val (.long q4), .second, .val (.int q5), .unset, .unset, .unset, .unset, .unset, .unset, .unset, .unset, .unset, .unset, .unset, .unset] [(.int ((q4 >>> ((32 : Int32) &&& 0x3f).toInt64).toInt32))])) _
    refine XS.istore X0.here hx rfl (hb hby at_6) rfl (l' := #[.val (.int q0), .val (.int q1), .val (.int q2), .val (.int q3), .val (.long q4), .second, .val (.int q5), .val (.int ((q4 >>> ((32 : Int32) &&& 0x3f).toInt64).toInt32)), .unset, .unset, .unset, .unset, .unset, .unset, .unset, .unset, .unset, .unset, .unset]) rfl ?_
    show Steps p.tables e below (s₁.setTop (mkF m 8 #[.val (.int q0), .val (.int q1), .val (.int q2), .val (.int q3), .val (.long q4), .second, .val (.int q5), .val (.int ((q4 >>> ((32 : Int32) &&& 0x3f).toInt64).toInt32)), .unset, .unset, .unset, .unset, .unset, .unset, .unset, .unset, .unset, .unset, .unset] [])) _
    rw [← hp1]
    show Steps p.tables e below (s₁.setTop (mkF m 8 #[.val (.int q0), .val (.int q1), .val (.int q2), .val (.int q3), .val (.long q4), .second, .val (.int q5), .val (.int p1), .unset, .unset, .unset, .unset, .unset, .unset, .unset, .unset, .unset, .unset, .unset] [])) _
    refine XS.lload X0.here hx rfl (hb hby at_8) rfl ?_
    show Steps p.tables e below (s₁.setTop (mkF m 10 #[.val (.int q0), .val (.int q1), .val (.int q2), .val (.int q3), .val (.long q4), .second, .val (.int q5), .val (.int p1), .unset, .unset, .unset, .unset, .unset, .unset, .unset, .unset, .unset, .unset, .unset] [(.long q4)])) _
    refine XS.l2i X0.here hx rfl (hb hby at_10) rfl ?_
    show Steps p.tables e below (s₁.setTop (mkF m 11 #[.val (.int q0), .val (.int q1), .val (.int q2), .val (.int q3), .val (.long q4), .second, .val (.int q5), .val (.int p1), .unset, .unset, .unset, .unset, .unset, .unset, .unset, .unset, .unset, .unset, .unset] [(.int (q4.toInt32))])) _
    refine XS.istore X0.here hx rfl (hb hby at_11) rfl (l' := #[.val (.int q0), .val (.int q1), .val (.int q2), .val (.int q3), .val (.long q4), .second, .val (.int q5), .val (.int p1), .val (.int (q4.toInt32)), .unset, .unset, .unset, .unset, .unset, .unset, .unset, .unset, .unset, .unset]) rfl ?_
    show Steps p.tables e below (s₁.setTop (mkF m 13 #[.val (.int q0), .val (.int q1), .val (.int q2), .val (.int q3), .val (.long q4), .second, .val (.int q5), .val (.int p1), .val (.int (q4.toInt32)), .unset, .unset, .unset, .unset, .unset, .unset, .unset, .unset, .unset, .unset] [])) _
    rw [← hs1]
    show Steps p.tables e below (s₁.setTop (mkF m 13 #[.val (.int q0), .val (.int q1), .val (.int q2), .val (.int q3), .val (.long q4), .second, .val (.int q5), .val (.int p1), .val (.int s1), .unset, .unset, .unset, .unset, .unset, .unset, .unset, .unset, .unset, .unset] [])) _
    refine XS.iload X0.here hx rfl (hb hby at_13) rfl ?_
    show Steps p.tables e below (s₁.setTop (mkF m 15 #[.val (.int q0), .val (.int q1), .val (.int q2), .val (.int q3), .val (.long q4), .second, .val (.int q5), .val (.int p1), .val (.int s1), .unset, .unset, .unset, .unset, .unset, .unset, .unset, .unset, .unset, .unset] [(.int q5)])) _
    refine X0.ldcInt hx hown (mvT hZ (hw _ (List.mem_of_getElem? (i := 0) rfl))) (g := (mkF m 15 #[.val (.int q0), .val (.int q1), .val (.int q2), .val (.int q3), .val (.long q4), .second, .val (.int q5), .val (.int p1), .val (.int s1), .unset, .unset, .unset, .unset, .unset, .unset, .unset, .unset, .unset, .unset] [(.int q5)])) rfl (hb hby at_15) _ ?_
    show Steps p.tables e below (s₁.setTop (mkF m 17 #[.val (.int q0), .val (.int q1), .val (.int q2), .val (.int q3), .val (.long q4), .second, .val (.int q5), .val (.int p1), .val (.int s1), .unset, .unset, .unset, .unset, .unset, .unset, .unset, .unset, .unset, .unset] [(.int (2147483647 : Int32)), (.int q5)])) _
    refine XS.iand X0.here hx rfl (hb hby at_17) rfl ?_
    show Steps p.tables e below (s₁.setTop (mkF m 18 #[.val (.int q0), .val (.int q1), .val (.int q2), .val (.int q3), .val (.long q4), .second, .val (.int q5), .val (.int p1), .val (.int s1), .unset, .unset, .unset, .unset, .unset, .unset, .unset, .unset, .unset, .unset] [(.int (q5 &&& (2147483647 : Int32)))])) _
    refine XS.bipush X0.here hx rfl (hb hby at_18) ?_
    show Steps p.tables e below (s₁.setTop (mkF m 20 #[.val (.int q0), .val (.int q1), .val (.int q2), .val (.int q3), .val (.long q4), .second, .val (.int q5), .val (.int p1), .val (.int s1), .unset, .unset, .unset, .unset, .unset, .unset, .unset, .unset, .unset, .unset] [(.int (6 : Int32)), (.int (q5 &&& (2147483647 : Int32)))])) _
    refine XS.irem X0.here hx rfl (hb hby at_20) rfl (by decide) ?_
    show Steps p.tables e below (s₁.setTop (mkF m 21 #[.val (.int q0), .val (.int q1), .val (.int q2), .val (.int q3), .val (.long q4), .second, .val (.int q5), .val (.int p1), .val (.int s1), .unset, .unset, .unset, .unset, .unset, .unset, .unset, .unset, .unset, .unset] [(.int ((q5 &&& (2147483647 : Int32)) - ((q5 &&& (2147483647 : Int32)) / (6 : Int32)) * (6 : Int32)))])) _
    rw [irem_eq_mod]
    show Steps p.tables e below (s₁.setTop (mkF m 21 #[.val (.int q0), .val (.int q1), .val (.int q2), .val (.int q3), .val (.long q4), .second, .val (.int q5), .val (.int p1), .val (.int s1), .unset, .unset, .unset, .unset, .unset, .unset, .unset, .unset, .unset, .unset] [(.int ((q5 &&& (2147483647 : Int32)) % (6 : Int32)))])) _
    refine XS.istore X0.here hx rfl (hb hby at_21) rfl (l' := #[.val (.int q0), .val (.int q1), .val (.int q2), .val (.int q3), .val (.long q4), .second, .val (.int q5), .val (.int p1), .val (.int s1), .val (.int ((q5 &&& (2147483647 : Int32)) % (6 : Int32))), .unset, .unset, .unset, .unset, .unset, .unset, .unset, .unset, .unset]) rfl ?_
    show Steps p.tables e below (s₁.setTop (mkF m 23 #[.val (.int q0), .val (.int q1), .val (.int q2), .val (.int q3), .val (.long q4), .second, .val (.int q5), .val (.int p1), .val (.int s1), .val (.int ((q5 &&& (2147483647 : Int32)) % (6 : Int32))), .unset, .unset, .unset, .unset, .unset, .unset, .unset, .unset, .unset] [])) _
    rw [← hkk]
    show Steps p.tables e below (s₁.setTop (mkF m 23 #[.val (.int q0), .val (.int q1), .val (.int q2), .val (.int q3), .val (.long q4), .second, .val (.int q5), .val (.int p1), .val (.int s1), .val (.int kk), .unset, .unset, .unset, .unset, .unset, .unset, .unset, .unset, .unset] [])) _
    refine XS.bipush X0.here hx rfl (hb hby at_23) ?_
    show Steps p.tables e below (s₁.setTop (mkF m 25 #[.val (.int q0), .val (.int q1), .val (.int q2), .val (.int q3), .val (.long q4), .second, .val (.int q5), .val (.int p1), .val (.int s1), .val (.int kk), .unset, .unset, .unset, .unset, .unset, .unset, .unset, .unset, .unset] [(.int (6 : Int32))])) _
    refine st1 _ ?_
    show Steps p.tables e below (T1.setTop (mkF m 27 #[.val (.int q0), .val (.int q1), .val (.int q2), .val (.int q3), .val (.long q4), .second, .val (.int q5), .val (.int p1), .val (.int s1), .val (.int kk), .unset, .unset, .unset, .unset, .unset, .unset, .unset, .unset, .unset] [(.ref b1)])) _
    refine XS.dup X1.here hx rfl (hb hby at_27) rfl rfl ?_
    show Steps p.tables e below (T1.setTop (mkF m 28 #[.val (.int q0), .val (.int q1), .val (.int q2), .val (.int q3), .val (.long q4), .second, .val (.int q5), .val (.int p1), .val (.int s1), .val (.int kk), .unset, .unset, .unset, .unset, .unset, .unset, .unset, .unset, .unset] [(.ref b1), (.ref b1)])) _
    refine XS.iconst X1.here hx rfl (hb hby at_28) ?_
    show Steps p.tables e below (T1.setTop (mkF m 29 #[.val (.int q0), .val (.int q1), .val (.int q2), .val (.int q3), .val (.long q4), .second, .val (.int q5), .val (.int p1), .val (.int s1), .val (.int kk), .unset, .unset, .unset, .unset, .unset, .unset, .unset, .unset, .unset] [(.int (0 : Int32)), (.ref b1), (.ref b1)])) _
    refine XS.iconst X1.here hx rfl (hb hby at_29) ?_
    show Steps p.tables e below (T1.setTop (mkF m 30 #[.val (.int q0), .val (.int q1), .val (.int q2), .val (.int q3), .val (.long q4), .second, .val (.int q5), .val (.int p1), .val (.int s1), .val (.int kk), .unset, .unset, .unset, .unset, .unset, .unset, .unset, .unset, .unset] [(.int (0 : Int32)), (.int (0 : Int32)), (.ref b1), (.ref b1)])) _
    refine st3 _ ?_
    show Steps p.tables e below (T3.setTop (mkF m 31 #[.val (.int q0), .val (.int q1), .val (.int q2), .val (.int q3), .val (.long q4), .second, .val (.int q5), .val (.int p1), .val (.int s1), .val (.int kk), .unset, .unset, .unset, .unset, .unset, .unset, .unset, .unset, .unset] [(.ref b1)])) _
    refine XS.dup X3.here hx rfl (hb hby at_31) rfl rfl ?_
    show Steps p.tables e below (T3.setTop (mkF m 32 #[.val (.int q0), .val (.int q1), .val (.int q2), .val (.int q3), .val (.long q4), .second, .val (.int q5), .val (.int p1), .val (.int s1), .val (.int kk), .unset, .unset, .unset, .unset, .unset, .unset, .unset, .unset, .unset] [(.ref b1), (.ref b1)])) _
    refine XS.iconst X3.here hx rfl (hb hby at_32) ?_
    show Steps p.tables e below (T3.setTop (mkF m 33 #[.val (.int q0), .val (.int q1), .val (.int q2), .val (.int q3), .val (.long q4), .second, .val (.int q5), .val (.int p1), .val (.int s1), .val (.int kk), .unset, .unset, .unset, .unset, .unset, .unset, .unset, .unset, .unset] [(.int (1 : Int32)), (.ref b1), (.ref b1)])) _
    refine XS.iconst X3.here hx rfl (hb hby at_33) ?_
    show Steps p.tables e below (T3.setTop (mkF m 34 #[.val (.int q0), .val (.int q1), .val (.int q2), .val (.int q3), .val (.long q4), .second, .val (.int q5), .val (.int p1), .val (.int s1), .val (.int kk), .unset, .unset, .unset, .unset, .unset, .unset, .unset, .unset, .unset] [(.int (0 : Int32)), (.int (1 : Int32)), (.ref b1), (.ref b1)])) _
    refine st5 _ ?_
    show Steps p.tables e below (T5.setTop (mkF m 35 #[.val (.int q0), .val (.int q1), .val (.int q2), .val (.int q3), .val (.long q4), .second, .val (.int q5), .val (.int p1), .val (.int s1), .val (.int kk), .unset, .unset, .unset, .unset, .unset, .unset, .unset, .unset, .unset] [(.ref b1)])) _
    refine XS.dup X5.here hx rfl (hb hby at_35) rfl rfl ?_
    show Steps p.tables e below (T5.setTop (mkF m 36 #[.val (.int q0), .val (.int q1), .val (.int q2), .val (.int q3), .val (.long q4), .second, .val (.int q5), .val (.int p1), .val (.int s1), .val (.int kk), .unset, .unset, .unset, .unset, .unset, .unset, .unset, .unset, .unset] [(.ref b1), (.ref b1)])) _
    refine XS.iconst X5.here hx rfl (hb hby at_36) ?_
    show Steps p.tables e below (T5.setTop (mkF m 37 #[.val (.int q0), .val (.int q1), .val (.int q2), .val (.int q3), .val (.long q4), .second, .val (.int q5), .val (.int p1), .val (.int s1), .val (.int kk), .unset, .unset, .unset, .unset, .unset, .unset, .unset, .unset, .unset] [(.int (2 : Int32)), (.ref b1), (.ref b1)])) _
    refine XS.iconst X5.here hx rfl (hb hby at_37) ?_
    show Steps p.tables e below (T5.setTop (mkF m 38 #[.val (.int q0), .val (.int q1), .val (.int q2), .val (.int q3), .val (.long q4), .second, .val (.int q5), .val (.int p1), .val (.int s1), .val (.int kk), .unset, .unset, .unset, .unset, .unset, .unset, .unset, .unset, .unset] [(.int (0 : Int32)), (.int (2 : Int32)), (.ref b1), (.ref b1)])) _
    refine st7 _ ?_
    show Steps p.tables e below (T7.setTop (mkF m 39 #[.val (.int q0), .val (.int q1), .val (.int q2), .val (.int q3), .val (.long q4), .second, .val (.int q5), .val (.int p1), .val (.int s1), .val (.int kk), .unset, .unset, .unset, .unset, .unset, .unset, .unset, .unset, .unset] [(.ref b1)])) _
    refine XS.dup X7.here hx rfl (hb hby at_39) rfl rfl ?_
    show Steps p.tables e below (T7.setTop (mkF m 40 #[.val (.int q0), .val (.int q1), .val (.int q2), .val (.int q3), .val (.long q4), .second, .val (.int q5), .val (.int p1), .val (.int s1), .val (.int kk), .unset, .unset, .unset, .unset, .unset, .unset, .unset, .unset, .unset] [(.ref b1), (.ref b1)])) _
    refine XS.iconst X7.here hx rfl (hb hby at_40) ?_
    show Steps p.tables e below (T7.setTop (mkF m 41 #[.val (.int q0), .val (.int q1), .val (.int q2), .val (.int q3), .val (.long q4), .second, .val (.int q5), .val (.int p1), .val (.int s1), .val (.int kk), .unset, .unset, .unset, .unset, .unset, .unset, .unset, .unset, .unset] [(.int (3 : Int32)), (.ref b1), (.ref b1)])) _
    refine XS.iconst X7.here hx rfl (hb hby at_41) ?_
    show Steps p.tables e below (T7.setTop (mkF m 42 #[.val (.int q0), .val (.int q1), .val (.int q2), .val (.int q3), .val (.long q4), .second, .val (.int q5), .val (.int p1), .val (.int s1), .val (.int kk), .unset, .unset, .unset, .unset, .unset, .unset, .unset, .unset, .unset] [(.int (1 : Int32)), (.int (3 : Int32)), (.ref b1), (.ref b1)])) _
    refine st9 _ ?_
    show Steps p.tables e below (T9.setTop (mkF m 43 #[.val (.int q0), .val (.int q1), .val (.int q2), .val (.int q3), .val (.long q4), .second, .val (.int q5), .val (.int p1), .val (.int s1), .val (.int kk), .unset, .unset, .unset, .unset, .unset, .unset, .unset, .unset, .unset] [(.ref b1)])) _
    refine XS.dup X9.here hx rfl (hb hby at_43) rfl rfl ?_
    show Steps p.tables e below (T9.setTop (mkF m 44 #[.val (.int q0), .val (.int q1), .val (.int q2), .val (.int q3), .val (.long q4), .second, .val (.int q5), .val (.int p1), .val (.int s1), .val (.int kk), .unset, .unset, .unset, .unset, .unset, .unset, .unset, .unset, .unset] [(.ref b1), (.ref b1)])) _
    refine XS.iconst X9.here hx rfl (hb hby at_44) ?_
    show Steps p.tables e below (T9.setTop (mkF m 45 #[.val (.int q0), .val (.int q1), .val (.int q2), .val (.int q3), .val (.long q4), .second, .val (.int q5), .val (.int p1), .val (.int s1), .val (.int kk), .unset, .unset, .unset, .unset, .unset, .unset, .unset, .unset, .unset] [(.int (4 : Int32)), (.ref b1), (.ref b1)])) _
    refine XS.iconst X9.here hx rfl (hb hby at_45) ?_
    show Steps p.tables e below (T9.setTop (mkF m 46 #[.val (.int q0), .val (.int q1), .val (.int q2), .val (.int q3), .val (.long q4), .second, .val (.int q5), .val (.int p1), .val (.int s1), .val (.int kk), .unset, .unset, .unset, .unset, .unset, .unset, .unset, .unset, .unset] [(.int (1 : Int32)), (.int (4 : Int32)), (.ref b1), (.ref b1)])) _
    refine st11 _ ?_
    show Steps p.tables e below (T11.setTop (mkF m 47 #[.val (.int q0), .val (.int q1), .val (.int q2), .val (.int q3), .val (.long q4), .second, .val (.int q5), .val (.int p1), .val (.int s1), .val (.int kk), .unset, .unset, .unset, .unset, .unset, .unset, .unset, .unset, .unset] [(.ref b1)])) _
    refine XS.dup X11.here hx rfl (hb hby at_47) rfl rfl ?_
    show Steps p.tables e below (T11.setTop (mkF m 48 #[.val (.int q0), .val (.int q1), .val (.int q2), .val (.int q3), .val (.long q4), .second, .val (.int q5), .val (.int p1), .val (.int s1), .val (.int kk), .unset, .unset, .unset, .unset, .unset, .unset, .unset, .unset, .unset] [(.ref b1), (.ref b1)])) _
    refine XS.iconst X11.here hx rfl (hb hby at_48) ?_
    show Steps p.tables e below (T11.setTop (mkF m 49 #[.val (.int q0), .val (.int q1), .val (.int q2), .val (.int q3), .val (.long q4), .second, .val (.int q5), .val (.int p1), .val (.int s1), .val (.int kk), .unset, .unset, .unset, .unset, .unset, .unset, .unset, .unset, .unset] [(.int (5 : Int32)), (.ref b1), (.ref b1)])) _
    refine XS.iconst X11.here hx rfl (hb hby at_49) ?_
    show Steps p.tables e below (T11.setTop (mkF m 50 #[.val (.int q0), .val (.int q1), .val (.int q2), .val (.int q3), .val (.long q4), .second, .val (.int q5), .val (.int p1), .val (.int s1), .val (.int kk), .unset, .unset, .unset, .unset, .unset, .unset, .unset, .unset, .unset] [(.int (2 : Int32)), (.int (5 : Int32)), (.ref b1), (.ref b1)])) _
    refine st13 _ ?_
    show Steps p.tables e below (T13.setTop (mkF m 51 #[.val (.int q0), .val (.int q1), .val (.int q2), .val (.int q3), .val (.long q4), .second, .val (.int q5), .val (.int p1), .val (.int s1), .val (.int kk), .unset, .unset, .unset, .unset, .unset, .unset, .unset, .unset, .unset] [(.ref b1)])) _
    refine XS.astore X13.here hx rfl (hb hby at_51) rfl rfl (l' := #[.val (.int q0), .val (.int q1), .val (.int q2), .val (.int q3), .val (.long q4), .second, .val (.int q5), .val (.int p1), .val (.int s1), .val (.int kk), .val (.ref b1), .unset, .unset, .unset, .unset, .unset, .unset, .unset, .unset]) rfl ?_
    show Steps p.tables e below (T13.setTop (mkF m 53 #[.val (.int q0), .val (.int q1), .val (.int q2), .val (.int q3), .val (.long q4), .second, .val (.int q5), .val (.int p1), .val (.int s1), .val (.int kk), .val (.ref b1), .unset, .unset, .unset, .unset, .unset, .unset, .unset, .unset] [])) _
    refine XS.bipush X13.here hx rfl (hb hby at_53) ?_
    show Steps p.tables e below (T13.setTop (mkF m 55 #[.val (.int q0), .val (.int q1), .val (.int q2), .val (.int q3), .val (.long q4), .second, .val (.int q5), .val (.int p1), .val (.int s1), .val (.int kk), .val (.ref b1), .unset, .unset, .unset, .unset, .unset, .unset, .unset, .unset] [(.int (6 : Int32))])) _
    refine st14 _ ?_
    show Steps p.tables e below (T14.setTop (mkF m 57 #[.val (.int q0), .val (.int q1), .val (.int q2), .val (.int q3), .val (.long q4), .second, .val (.int q5), .val (.int p1), .val (.int s1), .val (.int kk), .val (.ref b1), .unset, .unset, .unset, .unset, .unset, .unset, .unset, .unset] [(.ref b14)])) _
    refine XS.dup X14.here hx rfl (hb hby at_57) rfl rfl ?_
    show Steps p.tables e below (T14.setTop (mkF m 58 #[.val (.int q0), .val (.int q1), .val (.int q2), .val (.int q3), .val (.long q4), .second, .val (.int q5), .val (.int p1), .val (.int s1), .val (.int kk), .val (.ref b1), .unset, .unset, .unset, .unset, .unset, .unset, .unset, .unset] [(.ref b14), (.ref b14)])) _
    refine XS.iconst X14.here hx rfl (hb hby at_58) ?_
    show Steps p.tables e below (T14.setTop (mkF m 59 #[.val (.int q0), .val (.int q1), .val (.int q2), .val (.int q3), .val (.long q4), .second, .val (.int q5), .val (.int p1), .val (.int s1), .val (.int kk), .val (.ref b1), .unset, .unset, .unset, .unset, .unset, .unset, .unset, .unset] [(.int (0 : Int32)), (.ref b14), (.ref b14)])) _
    refine XS.iconst X14.here hx rfl (hb hby at_59) ?_
    show Steps p.tables e below (T14.setTop (mkF m 60 #[.val (.int q0), .val (.int q1), .val (.int q2), .val (.int q3), .val (.long q4), .second, .val (.int q5), .val (.int p1), .val (.int s1), .val (.int kk), .val (.ref b1), .unset, .unset, .unset, .unset, .unset, .unset, .unset, .unset] [(.int (0 : Int32)), (.int (0 : Int32)), (.ref b14), (.ref b14)])) _
    refine st18 _ ?_
    show Steps p.tables e below (T18.setTop (mkF m 61 #[.val (.int q0), .val (.int q1), .val (.int q2), .val (.int q3), .val (.long q4), .second, .val (.int q5), .val (.int p1), .val (.int s1), .val (.int kk), .val (.ref b1), .unset, .unset, .unset, .unset, .unset, .unset, .unset, .unset] [(.ref b14)])) _
    refine XS.dup X18.here hx rfl (hb hby at_61) rfl rfl ?_
    show Steps p.tables e below (T18.setTop (mkF m 62 #[.val (.int q0), .val (.int q1), .val (.int q2), .val (.int q3), .val (.long q4), .second, .val (.int q5), .val (.int p1), .val (.int s1), .val (.int kk), .val (.ref b1), .unset, .unset, .unset, .unset, .unset, .unset, .unset, .unset] [(.ref b14), (.ref b14)])) _
    refine XS.iconst X18.here hx rfl (hb hby at_62) ?_
    show Steps p.tables e below (T18.setTop (mkF m 63 #[.val (.int q0), .val (.int q1), .val (.int q2), .val (.int q3), .val (.long q4), .second, .val (.int q5), .val (.int p1), .val (.int s1), .val (.int kk), .val (.ref b1), .unset, .unset, .unset, .unset, .unset, .unset, .unset, .unset] [(.int (1 : Int32)), (.ref b14), (.ref b14)])) _
    refine XS.iconst X18.here hx rfl (hb hby at_63) ?_
    show Steps p.tables e below (T18.setTop (mkF m 64 #[.val (.int q0), .val (.int q1), .val (.int q2), .val (.int q3), .val (.long q4), .second, .val (.int q5), .val (.int p1), .val (.int s1), .val (.int kk), .val (.ref b1), .unset, .unset, .unset, .unset, .unset, .unset, .unset, .unset] [(.int (1 : Int32)), (.int (1 : Int32)), (.ref b14), (.ref b14)])) _
    refine st20 _ ?_
    show Steps p.tables e below (T20.setTop (mkF m 65 #[.val (.int q0), .val (.int q1), .val (.int q2), .val (.int q3), .val (.long q4), .second, .val (.int q5), .val (.int p1), .val (.int s1), .val (.int kk), .val (.ref b1), .unset, .unset, .unset, .unset, .unset, .unset, .unset, .unset] [(.ref b14)])) _
    refine XS.dup X20.here hx rfl (hb hby at_65) rfl rfl ?_
    show Steps p.tables e below (T20.setTop (mkF m 66 #[.val (.int q0), .val (.int q1), .val (.int q2), .val (.int q3), .val (.long q4), .second, .val (.int q5), .val (.int p1), .val (.int s1), .val (.int kk), .val (.ref b1), .unset, .unset, .unset, .unset, .unset, .unset, .unset, .unset] [(.ref b14), (.ref b14)])) _
    refine XS.iconst X20.here hx rfl (hb hby at_66) ?_
    show Steps p.tables e below (T20.setTop (mkF m 67 #[.val (.int q0), .val (.int q1), .val (.int q2), .val (.int q3), .val (.long q4), .second, .val (.int q5), .val (.int p1), .val (.int s1), .val (.int kk), .val (.ref b1), .unset, .unset, .unset, .unset, .unset, .unset, .unset, .unset] [(.int (2 : Int32)), (.ref b14), (.ref b14)])) _
    refine XS.iconst X20.here hx rfl (hb hby at_67) ?_
    show Steps p.tables e below (T20.setTop (mkF m 68 #[.val (.int q0), .val (.int q1), .val (.int q2), .val (.int q3), .val (.long q4), .second, .val (.int q5), .val (.int p1), .val (.int s1), .val (.int kk), .val (.ref b1), .unset, .unset, .unset, .unset, .unset, .unset, .unset, .unset] [(.int (2 : Int32)), (.int (2 : Int32)), (.ref b14), (.ref b14)])) _
    refine st22 _ ?_
    show Steps p.tables e below (T22.setTop (mkF m 69 #[.val (.int q0), .val (.int q1), .val (.int q2), .val (.int q3), .val (.long q4), .second, .val (.int q5), .val (.int p1), .val (.int s1), .val (.int kk), .val (.ref b1), .unset, .unset, .unset, .unset, .unset, .unset, .unset, .unset] [(.ref b14)])) _
    refine XS.dup X22.here hx rfl (hb hby at_69) rfl rfl ?_
    show Steps p.tables e below (T22.setTop (mkF m 70 #[.val (.int q0), .val (.int q1), .val (.int q2), .val (.int q3), .val (.long q4), .second, .val (.int q5), .val (.int p1), .val (.int s1), .val (.int kk), .val (.ref b1), .unset, .unset, .unset, .unset, .unset, .unset, .unset, .unset] [(.ref b14), (.ref b14)])) _
    refine XS.iconst X22.here hx rfl (hb hby at_70) ?_
    show Steps p.tables e below (T22.setTop (mkF m 71 #[.val (.int q0), .val (.int q1), .val (.int q2), .val (.int q3), .val (.long q4), .second, .val (.int q5), .val (.int p1), .val (.int s1), .val (.int kk), .val (.ref b1), .unset, .unset, .unset, .unset, .unset, .unset, .unset, .unset] [(.int (3 : Int32)), (.ref b14), (.ref b14)])) _
    refine XS.iconst X22.here hx rfl (hb hby at_71) ?_
    show Steps p.tables e below (T22.setTop (mkF m 72 #[.val (.int q0), .val (.int q1), .val (.int q2), .val (.int q3), .val (.long q4), .second, .val (.int q5), .val (.int p1), .val (.int s1), .val (.int kk), .val (.ref b1), .unset, .unset, .unset, .unset, .unset, .unset, .unset, .unset] [(.int (1 : Int32)), (.int (3 : Int32)), (.ref b14), (.ref b14)])) _
    refine st24 _ ?_
    show Steps p.tables e below (T24.setTop (mkF m 73 #[.val (.int q0), .val (.int q1), .val (.int q2), .val (.int q3), .val (.long q4), .second, .val (.int q5), .val (.int p1), .val (.int s1), .val (.int kk), .val (.ref b1), .unset, .unset, .unset, .unset, .unset, .unset, .unset, .unset] [(.ref b14)])) _
    refine XS.dup X24.here hx rfl (hb hby at_73) rfl rfl ?_
    show Steps p.tables e below (T24.setTop (mkF m 74 #[.val (.int q0), .val (.int q1), .val (.int q2), .val (.int q3), .val (.long q4), .second, .val (.int q5), .val (.int p1), .val (.int s1), .val (.int kk), .val (.ref b1), .unset, .unset, .unset, .unset, .unset, .unset, .unset, .unset] [(.ref b14), (.ref b14)])) _
    refine XS.iconst X24.here hx rfl (hb hby at_74) ?_
    show Steps p.tables e below (T24.setTop (mkF m 75 #[.val (.int q0), .val (.int q1), .val (.int q2), .val (.int q3), .val (.long q4), .second, .val (.int q5), .val (.int p1), .val (.int s1), .val (.int kk), .val (.ref b1), .unset, .unset, .unset, .unset, .unset, .unset, .unset, .unset] [(.int (4 : Int32)), (.ref b14), (.ref b14)])) _
    refine XS.iconst X24.here hx rfl (hb hby at_75) ?_
    show Steps p.tables e below (T24.setTop (mkF m 76 #[.val (.int q0), .val (.int q1), .val (.int q2), .val (.int q3), .val (.long q4), .second, .val (.int q5), .val (.int p1), .val (.int s1), .val (.int kk), .val (.ref b1), .unset, .unset, .unset, .unset, .unset, .unset, .unset, .unset] [(.int (2 : Int32)), (.int (4 : Int32)), (.ref b14), (.ref b14)])) _
    refine st26 _ ?_
    show Steps p.tables e below (T26.setTop (mkF m 77 #[.val (.int q0), .val (.int q1), .val (.int q2), .val (.int q3), .val (.long q4), .second, .val (.int q5), .val (.int p1), .val (.int s1), .val (.int kk), .val (.ref b1), .unset, .unset, .unset, .unset, .unset, .unset, .unset, .unset] [(.ref b14)])) _
    refine XS.dup X26.here hx rfl (hb hby at_77) rfl rfl ?_
    show Steps p.tables e below (T26.setTop (mkF m 78 #[.val (.int q0), .val (.int q1), .val (.int q2), .val (.int q3), .val (.long q4), .second, .val (.int q5), .val (.int p1), .val (.int s1), .val (.int kk), .val (.ref b1), .unset, .unset, .unset, .unset, .unset, .unset, .unset, .unset] [(.ref b14), (.ref b14)])) _
    refine XS.iconst X26.here hx rfl (hb hby at_78) ?_
    show Steps p.tables e below (T26.setTop (mkF m 79 #[.val (.int q0), .val (.int q1), .val (.int q2), .val (.int q3), .val (.long q4), .second, .val (.int q5), .val (.int p1), .val (.int s1), .val (.int kk), .val (.ref b1), .unset, .unset, .unset, .unset, .unset, .unset, .unset, .unset] [(.int (5 : Int32)), (.ref b14), (.ref b14)])) _
    refine XS.iconst X26.here hx rfl (hb hby at_79) ?_
    show Steps p.tables e below (T26.setTop (mkF m 80 #[.val (.int q0), .val (.int q1), .val (.int q2), .val (.int q3), .val (.long q4), .second, .val (.int q5), .val (.int p1), .val (.int s1), .val (.int kk), .val (.ref b1), .unset, .unset, .unset, .unset, .unset, .unset, .unset, .unset] [(.int (2 : Int32)), (.int (5 : Int32)), (.ref b14), (.ref b14)])) _
    refine st28 _ ?_
    show Steps p.tables e below (T28.setTop (mkF m 81 #[.val (.int q0), .val (.int q1), .val (.int q2), .val (.int q3), .val (.long q4), .second, .val (.int q5), .val (.int p1), .val (.int s1), .val (.int kk), .val (.ref b1), .unset, .unset, .unset, .unset, .unset, .unset, .unset, .unset] [(.ref b14)])) _
    refine XS.astore X28.here hx rfl (hb hby at_81) rfl rfl (l' := #[.val (.int q0), .val (.int q1), .val (.int q2), .val (.int q3), .val (.long q4), .second, .val (.int q5), .val (.int p1), .val (.int s1), .val (.int kk), .val (.ref b1), .val (.ref b14), .unset, .unset, .unset, .unset, .unset, .unset, .unset]) rfl ?_
    show Steps p.tables e below (T28.setTop (mkF m 83 #[.val (.int q0), .val (.int q1), .val (.int q2), .val (.int q3), .val (.long q4), .second, .val (.int q5), .val (.int p1), .val (.int s1), .val (.int kk), .val (.ref b1), .val (.ref b14), .unset, .unset, .unset, .unset, .unset, .unset, .unset] [])) _
    refine XS.aload X28.here hx rfl (hb hby at_83) rfl rfl ?_
    show Steps p.tables e below (T28.setTop (mkF m 85 #[.val (.int q0), .val (.int q1), .val (.int q2), .val (.int q3), .val (.long q4), .second, .val (.int q5), .val (.int p1), .val (.int s1), .val (.int kk), .val (.ref b1), .val (.ref b14), .unset, .unset, .unset, .unset, .unset, .unset, .unset] [(.ref b1)])) _
    refine XS.iload X28.here hx rfl (hb hby at_85) rfl ?_
    show Steps p.tables e below (T28.setTop (mkF m 87 #[.val (.int q0), .val (.int q1), .val (.int q2), .val (.int q3), .val (.long q4), .second, .val (.int q5), .val (.int p1), .val (.int s1), .val (.int kk), .val (.ref b1), .val (.ref b14), .unset, .unset, .unset, .unset, .unset, .unset, .unset] [(.int kk), (.ref b1)])) _
    refine X28.iaload hx (j := kk) (v := (.int (Int32.ofNat i))) (by rw [e28]; exact Ar_29.1) (State.isArrayOf_alike hZ.alike Ar_29.2.1) Ar_29.2.2 (inb_of Sz_29 hkr) (Has.at Hs_29 (inb_of Sz_29 hkr) hati) (g := (mkF m 87 #[.val (.int q0), .val (.int q1), .val (.int q2), .val (.int q3), .val (.long q4), .second, .val (.int q5), .val (.int p1), .val (.int s1), .val (.int kk), .val (.ref b1), .val (.ref b14), .unset, .unset, .unset, .unset, .unset, .unset, .unset] [(.int kk), (.ref b1)])) rfl rfl (hb hby at_87) _ ?_
    show Steps p.tables e below (T28.setTop (mkF m 88 #[.val (.int q0), .val (.int q1), .val (.int q2), .val (.int q3), .val (.long q4), .second, .val (.int q5), .val (.int p1), .val (.int s1), .val (.int kk), .val (.ref b1), .val (.ref b14), .unset, .unset, .unset, .unset, .unset, .unset, .unset] [(.int (Int32.ofNat i))])) _
    refine XS.istore X28.here hx rfl (hb hby at_88) rfl (l' := #[.val (.int q0), .val (.int q1), .val (.int q2), .val (.int q3), .val (.long q4), .second, .val (.int q5), .val (.int p1), .val (.int s1), .val (.int kk), .val (.ref b1), .val (.ref b14), .val (.int (Int32.ofNat i)), .unset, .unset, .unset, .unset, .unset, .unset]) rfl ?_
    show Steps p.tables e below (T28.setTop (mkF m 90 #[.val (.int q0), .val (.int q1), .val (.int q2), .val (.int q3), .val (.long q4), .second, .val (.int q5), .val (.int p1), .val (.int s1), .val (.int kk), .val (.ref b1), .val (.ref b14), .val (.int (Int32.ofNat i)), .unset, .unset, .unset, .unset, .unset, .unset] [])) _
    refine XS.aload X28.here hx rfl (hb hby at_90) rfl rfl ?_
    show Steps p.tables e below (T28.setTop (mkF m 92 #[.val (.int q0), .val (.int q1), .val (.int q2), .val (.int q3), .val (.long q4), .second, .val (.int q5), .val (.int p1), .val (.int s1), .val (.int kk), .val (.ref b1), .val (.ref b14), .val (.int (Int32.ofNat i)), .unset, .unset, .unset, .unset, .unset, .unset] [(.ref b14)])) _
    refine XS.iload X28.here hx rfl (hb hby at_92) rfl ?_
    show Steps p.tables e below (T28.setTop (mkF m 94 #[.val (.int q0), .val (.int q1), .val (.int q2), .val (.int q3), .val (.long q4), .second, .val (.int q5), .val (.int p1), .val (.int s1), .val (.int kk), .val (.ref b1), .val (.ref b14), .val (.int (Int32.ofNat i)), .unset, .unset, .unset, .unset, .unset, .unset] [(.int kk), (.ref b14)])) _
    refine X28.iaload hx (j := kk) (v := (.int (Int32.ofNat j))) (by rw [e28]; exact Ar_31.1) (State.isArrayOf_alike hZ.alike Ar_31.2.1) Ar_31.2.2 (inb_of Sz_31 hkr) (Has.at Hs_31 (inb_of Sz_31 hkr) hatj) (g := (mkF m 94 #[.val (.int q0), .val (.int q1), .val (.int q2), .val (.int q3), .val (.long q4), .second, .val (.int q5), .val (.int p1), .val (.int s1), .val (.int kk), .val (.ref b1), .val (.ref b14), .val (.int (Int32.ofNat i)), .unset, .unset, .unset, .unset, .unset, .unset] [(.int kk), (.ref b14)])) rfl rfl (hb hby at_94) _ ?_
    show Steps p.tables e below (T28.setTop (mkF m 95 #[.val (.int q0), .val (.int q1), .val (.int q2), .val (.int q3), .val (.long q4), .second, .val (.int q5), .val (.int p1), .val (.int s1), .val (.int kk), .val (.ref b1), .val (.ref b14), .val (.int (Int32.ofNat i)), .unset, .unset, .unset, .unset, .unset, .unset] [(.int (Int32.ofNat j))])) _
    refine XS.istore X28.here hx rfl (hb hby at_95) rfl (l' := #[.val (.int q0), .val (.int q1), .val (.int q2), .val (.int q3), .val (.long q4), .second, .val (.int q5), .val (.int p1), .val (.int s1), .val (.int kk), .val (.ref b1), .val (.ref b14), .val (.int (Int32.ofNat i)), .val (.int (Int32.ofNat j)), .unset, .unset, .unset, .unset, .unset]) rfl ?_
    show Steps p.tables e below (T28.setTop (mkF m 97 #[.val (.int q0), .val (.int q1), .val (.int q2), .val (.int q3), .val (.long q4), .second, .val (.int q5), .val (.int p1), .val (.int s1), .val (.int kk), .val (.ref b1), .val (.ref b14), .val (.int (Int32.ofNat i)), .val (.int (Int32.ofNat j)), .unset, .unset, .unset, .unset, .unset] [])) _
    refine st32 _ ?_
    show Steps p.tables e below (T32.setTop (mkF m 100 #[.val (.int q0), .val (.int q1), .val (.int q2), .val (.int q3), .val (.long q4), .second, .val (.int q5), .val (.int p1), .val (.int s1), .val (.int kk), .val (.ref b1), .val (.ref b14), .val (.int (Int32.ofNat i)), .val (.int (Int32.ofNat j)), .unset, .unset, .unset, .unset, .unset] [(.ref b32)])) _
    refine XS.dup X32.here hx rfl (hb hby at_100) rfl rfl ?_
    show Steps p.tables e below (T32.setTop (mkF m 101 #[.val (.int q0), .val (.int q1), .val (.int q2), .val (.int q3), .val (.long q4), .second, .val (.int q5), .val (.int p1), .val (.int s1), .val (.int kk), .val (.ref b1), .val (.ref b14), .val (.int (Int32.ofNat i)), .val (.int (Int32.ofNat j)), .unset, .unset, .unset, .unset, .unset] [(.ref b32), (.ref b32)])) _
    refine st36.trans ?_
    show Steps p.tables e below (T36.setTop (mkF m 104 #[.val (.int q0), .val (.int q1), .val (.int q2), .val (.int q3), .val (.long q4), .second, .val (.int q5), .val (.int p1), .val (.int s1), .val (.int kk), .val (.ref b1), .val (.ref b14), .val (.int (Int32.ofNat i)), .val (.int (Int32.ofNat j)), .unset, .unset, .unset, .unset, .unset] [(.ref b32)])) _
    refine XS.astore X36.here hx rfl (hb hby at_104) rfl rfl (l' := #[.val (.int q0), .val (.int q1), .val (.int q2), .val (.int q3), .val (.long q4), .second, .val (.int q5), .val (.int p1), .val (.int s1), .val (.int kk), .val (.ref b1), .val (.ref b14), .val (.int (Int32.ofNat i)), .val (.int (Int32.ofNat j)), .val (.ref b32), .unset, .unset, .unset, .unset]) rfl ?_
    show Steps p.tables e below (T36.setTop (mkF m 106 #[.val (.int q0), .val (.int q1), .val (.int q2), .val (.int q3), .val (.long q4), .second, .val (.int q5), .val (.int p1), .val (.int s1), .val (.int kk), .val (.ref b1), .val (.ref b14), .val (.int (Int32.ofNat i)), .val (.int (Int32.ofNat j)), .val (.ref b32), .unset, .unset, .unset, .unset] [])) _
    refine XS.aload X36.here hx rfl (hb hby at_106) rfl rfl ?_
    show Steps p.tables e below (T36.setTop (mkF m 108 #[.val (.int q0), .val (.int q1), .val (.int q2), .val (.int q3), .val (.long q4), .second, .val (.int q5), .val (.int p1), .val (.int s1), .val (.int kk), .val (.ref b1), .val (.ref b14), .val (.int (Int32.ofNat i)), .val (.int (Int32.ofNat j)), .val (.ref b32), .unset, .unset, .unset, .unset] [(.ref b32)])) _
    refine XS.iloadN X36.here hx rfl (hb hby at_108) rfl ?_
    show Steps p.tables e below (T36.setTop (mkF m 109 #[.val (.int q0), .val (.int q1), .val (.int q2), .val (.int q3), .val (.long q4), .second, .val (.int q5), .val (.int p1), .val (.int s1), .val (.int kk), .val (.ref b1), .val (.ref b14), .val (.int (Int32.ofNat i)), .val (.int (Int32.ofNat j)), .val (.ref b32), .unset, .unset, .unset, .unset] [(.int q0), (.ref b32)])) _
    refine XS.iloadN X36.here hx rfl (hb hby at_109) rfl ?_
    show Steps p.tables e below (T36.setTop (mkF m 110 #[.val (.int q0), .val (.int q1), .val (.int q2), .val (.int q3), .val (.long q4), .second, .val (.int q5), .val (.int p1), .val (.int s1), .val (.int kk), .val (.ref b1), .val (.ref b14), .val (.int (Int32.ofNat i)), .val (.int (Int32.ofNat j)), .val (.ref b32), .unset, .unset, .unset, .unset] [(.int q1), (.int q0), (.ref b32)])) _
    refine XS.iloadN X36.here hx rfl (hb hby at_110) rfl ?_
    show Steps p.tables e below (T36.setTop (mkF m 111 #[.val (.int q0), .val (.int q1), .val (.int q2), .val (.int q3), .val (.long q4), .second, .val (.int q5), .val (.int p1), .val (.int s1), .val (.int kk), .val (.ref b1), .val (.ref b14), .val (.int (Int32.ofNat i)), .val (.int (Int32.ofNat j)), .val (.ref b32), .unset, .unset, .unset, .unset] [(.int q2), (.int q1), (.int q0), (.ref b32)])) _
    refine st37.trans ?_
    show Steps p.tables e below (T37.setTop (mkF m 114 #[.val (.int q0), .val (.int q1), .val (.int q2), .val (.int q3), .val (.long q4), .second, .val (.int q5), .val (.int p1), .val (.int s1), .val (.int kk), .val (.ref b1), .val (.ref b14), .val (.int (Int32.ofNat i)), .val (.int (Int32.ofNat j)), .val (.ref b32), .unset, .unset, .unset, .unset] [])) _
    refine XS.aload X37.here hx rfl (hb hby at_114) rfl rfl ?_
    show Steps p.tables e below (T37.setTop (mkF m 116 #[.val (.int q0), .val (.int q1), .val (.int q2), .val (.int q3), .val (.long q4), .second, .val (.int q5), .val (.int p1), .val (.int s1), .val (.int kk), .val (.ref b1), .val (.ref b14), .val (.int (Int32.ofNat i)), .val (.int (Int32.ofNat j)), .val (.ref b32), .unset, .unset, .unset, .unset] [(.ref b32)])) _
    refine XS.iloadN X37.here hx rfl (hb hby at_116) rfl ?_
    show Steps p.tables e below (T37.setTop (mkF m 117 #[.val (.int q0), .val (.int q1), .val (.int q2), .val (.int q3), .val (.long q4), .second, .val (.int q5), .val (.int p1), .val (.int s1), .val (.int kk), .val (.ref b1), .val (.ref b14), .val (.int (Int32.ofNat i)), .val (.int (Int32.ofNat j)), .val (.ref b32), .unset, .unset, .unset, .unset] [(.int q3), (.ref b32)])) _
    refine XS.iload X37.here hx rfl (hb hby at_117) rfl ?_
    show Steps p.tables e below (T37.setTop (mkF m 119 #[.val (.int q0), .val (.int q1), .val (.int q2), .val (.int q3), .val (.long q4), .second, .val (.int q5), .val (.int p1), .val (.int s1), .val (.int kk), .val (.ref b1), .val (.ref b14), .val (.int (Int32.ofNat i)), .val (.int (Int32.ofNat j)), .val (.ref b32), .unset, .unset, .unset, .unset] [(.int p1), (.int q3), (.ref b32)])) _
    refine XS.iload X37.here hx rfl (hb hby at_119) rfl ?_
    show Steps p.tables e below (T37.setTop (mkF m 121 #[.val (.int q0), .val (.int q1), .val (.int q2), .val (.int q3), .val (.long q4), .second, .val (.int q5), .val (.int p1), .val (.int s1), .val (.int kk), .val (.ref b1), .val (.ref b14), .val (.int (Int32.ofNat i)), .val (.int (Int32.ofNat j)), .val (.ref b32), .unset, .unset, .unset, .unset] [(.int s1), (.int p1), (.int q3), (.ref b32)])) _
    refine st38.trans ?_
    show Steps p.tables e below (T38.setTop (mkF m 124 #[.val (.int q0), .val (.int q1), .val (.int q2), .val (.int q3), .val (.long q4), .second, .val (.int q5), .val (.int p1), .val (.int s1), .val (.int kk), .val (.ref b1), .val (.ref b14), .val (.int (Int32.ofNat i)), .val (.int (Int32.ofNat j)), .val (.ref b32), .unset, .unset, .unset, .unset] [])) _
    refine XS.aload X38.here hx rfl (hb hby at_124) rfl rfl ?_
    show Steps p.tables e below (T38.setTop (mkF m 126 #[.val (.int q0), .val (.int q1), .val (.int q2), .val (.int q3), .val (.long q4), .second, .val (.int q5), .val (.int p1), .val (.int s1), .val (.int kk), .val (.ref b1), .val (.ref b14), .val (.int (Int32.ofNat i)), .val (.int (Int32.ofNat j)), .val (.ref b32), .unset, .unset, .unset, .unset] [(.ref b32)])) _
    refine XS.iconst X38.here hx rfl (hb hby at_126) ?_
    show Steps p.tables e below (T38.setTop (mkF m 127 #[.val (.int q0), .val (.int q1), .val (.int q2), .val (.int q3), .val (.long q4), .second, .val (.int q5), .val (.int p1), .val (.int s1), .val (.int kk), .val (.ref b1), .val (.ref b14), .val (.int (Int32.ofNat i)), .val (.int (Int32.ofNat j)), .val (.ref b32), .unset, .unset, .unset, .unset] [(.int (0 : Int32)), (.ref b32)])) _
    refine XS.iconst X38.here hx rfl (hb hby at_127) ?_
    show Steps p.tables e below (T38.setTop (mkF m 128 #[.val (.int q0), .val (.int q1), .val (.int q2), .val (.int q3), .val (.long q4), .second, .val (.int q5), .val (.int p1), .val (.int s1), .val (.int kk), .val (.ref b1), .val (.ref b14), .val (.int (Int32.ofNat i)), .val (.int (Int32.ofNat j)), .val (.ref b32), .unset, .unset, .unset, .unset] [(.int (1 : Int32)), (.int (0 : Int32)), (.ref b32)])) _
    refine st40.trans ?_
    show Steps p.tables e below (T40.setTop (mkF m 131 #[.val (.int q0), .val (.int q1), .val (.int q2), .val (.int q3), .val (.long q4), .second, .val (.int q5), .val (.int p1), .val (.int s1), .val (.int kk), .val (.ref b1), .val (.ref b14), .val (.int (Int32.ofNat i)), .val (.int (Int32.ofNat j)), .val (.ref b32), .unset, .unset, .unset, .unset] [])) _
    refine XS.iconst X40.here hx rfl (hb hby at_131) ?_
    show Steps p.tables e below (T40.setTop (mkF m 132 #[.val (.int q0), .val (.int q1), .val (.int q2), .val (.int q3), .val (.long q4), .second, .val (.int q5), .val (.int p1), .val (.int s1), .val (.int kk), .val (.ref b1), .val (.ref b14), .val (.int (Int32.ofNat i)), .val (.int (Int32.ofNat j)), .val (.ref b32), .unset, .unset, .unset, .unset] [(.int (5 : Int32))])) _
    refine st41 _ ?_
    show Steps p.tables e below (T41.setTop (mkF m 134 #[.val (.int q0), .val (.int q1), .val (.int q2), .val (.int q3), .val (.long q4), .second, .val (.int q5), .val (.int p1), .val (.int s1), .val (.int kk), .val (.ref b1), .val (.ref b14), .val (.int (Int32.ofNat i)), .val (.int (Int32.ofNat j)), .val (.ref b32), .unset, .unset, .unset, .unset] [(.ref b41)])) _
    refine XS.dup X41.here hx rfl (hb hby at_134) rfl rfl ?_
    show Steps p.tables e below (T41.setTop (mkF m 135 #[.val (.int q0), .val (.int q1), .val (.int q2), .val (.int q3), .val (.long q4), .second, .val (.int q5), .val (.int p1), .val (.int s1), .val (.int kk), .val (.ref b1), .val (.ref b14), .val (.int (Int32.ofNat i)), .val (.int (Int32.ofNat j)), .val (.ref b32), .unset, .unset, .unset, .unset] [(.ref b41), (.ref b41)])) _
    refine XS.iconst X41.here hx rfl (hb hby at_135) ?_
    show Steps p.tables e below (T41.setTop (mkF m 136 #[.val (.int q0), .val (.int q1), .val (.int q2), .val (.int q3), .val (.long q4), .second, .val (.int q5), .val (.int p1), .val (.int s1), .val (.int kk), .val (.ref b1), .val (.ref b14), .val (.int (Int32.ofNat i)), .val (.int (Int32.ofNat j)), .val (.ref b32), .unset, .unset, .unset, .unset] [(.int (0 : Int32)), (.ref b41), (.ref b41)])) _
    refine XS.iloadN X41.here hx rfl (hb hby at_136) rfl ?_
    show Steps p.tables e below (T41.setTop (mkF m 137 #[.val (.int q0), .val (.int q1), .val (.int q2), .val (.int q3), .val (.long q4), .second, .val (.int q5), .val (.int p1), .val (.int s1), .val (.int kk), .val (.ref b1), .val (.ref b14), .val (.int (Int32.ofNat i)), .val (.int (Int32.ofNat j)), .val (.ref b32), .unset, .unset, .unset, .unset] [(.int q0), (.int (0 : Int32)), (.ref b41), (.ref b41)])) _
    refine st44 _ ?_
    show Steps p.tables e below (T44.setTop (mkF m 138 #[.val (.int q0), .val (.int q1), .val (.int q2), .val (.int q3), .val (.long q4), .second, .val (.int q5), .val (.int p1), .val (.int s1), .val (.int kk), .val (.ref b1), .val (.ref b14), .val (.int (Int32.ofNat i)), .val (.int (Int32.ofNat j)), .val (.ref b32), .unset, .unset, .unset, .unset] [(.ref b41)])) _
    refine XS.dup X44.here hx rfl (hb hby at_138) rfl rfl ?_
    show Steps p.tables e below (T44.setTop (mkF m 139 #[.val (.int q0), .val (.int q1), .val (.int q2), .val (.int q3), .val (.long q4), .second, .val (.int q5), .val (.int p1), .val (.int s1), .val (.int kk), .val (.ref b1), .val (.ref b14), .val (.int (Int32.ofNat i)), .val (.int (Int32.ofNat j)), .val (.ref b32), .unset, .unset, .unset, .unset] [(.ref b41), (.ref b41)])) _
    refine XS.iconst X44.here hx rfl (hb hby at_139) ?_
    show Steps p.tables e below (T44.setTop (mkF m 140 #[.val (.int q0), .val (.int q1), .val (.int q2), .val (.int q3), .val (.long q4), .second, .val (.int q5), .val (.int p1), .val (.int s1), .val (.int kk), .val (.ref b1), .val (.ref b14), .val (.int (Int32.ofNat i)), .val (.int (Int32.ofNat j)), .val (.ref b32), .unset, .unset, .unset, .unset] [(.int (1 : Int32)), (.ref b41), (.ref b41)])) _
    refine XS.iloadN X44.here hx rfl (hb hby at_140) rfl ?_
    show Steps p.tables e below (T44.setTop (mkF m 141 #[.val (.int q0), .val (.int q1), .val (.int q2), .val (.int q3), .val (.long q4), .second, .val (.int q5), .val (.int p1), .val (.int s1), .val (.int kk), .val (.ref b1), .val (.ref b14), .val (.int (Int32.ofNat i)), .val (.int (Int32.ofNat j)), .val (.ref b32), .unset, .unset, .unset, .unset] [(.int q1), (.int (1 : Int32)), (.ref b41), (.ref b41)])) _
    refine st46 _ ?_
    show Steps p.tables e below (T46.setTop (mkF m 142 #[.val (.int q0), .val (.int q1), .val (.int q2), .val (.int q3), .val (.long q4), .second, .val (.int q5), .val (.int p1), .val (.int s1), .val (.int kk), .val (.ref b1), .val (.ref b14), .val (.int (Int32.ofNat i)), .val (.int (Int32.ofNat j)), .val (.ref b32), .unset, .unset, .unset, .unset] [(.ref b41)])) _
    refine XS.dup X46.here hx rfl (hb hby at_142) rfl rfl ?_
    show Steps p.tables e below (T46.setTop (mkF m 143 #[.val (.int q0), .val (.int q1), .val (.int q2), .val (.int q3), .val (.long q4), .second, .val (.int q5), .val (.int p1), .val (.int s1), .val (.int kk), .val (.ref b1), .val (.ref b14), .val (.int (Int32.ofNat i)), .val (.int (Int32.ofNat j)), .val (.ref b32), .unset, .unset, .unset, .unset] [(.ref b41), (.ref b41)])) _
    refine XS.iconst X46.here hx rfl (hb hby at_143) ?_
    show Steps p.tables e below (T46.setTop (mkF m 144 #[.val (.int q0), .val (.int q1), .val (.int q2), .val (.int q3), .val (.long q4), .second, .val (.int q5), .val (.int p1), .val (.int s1), .val (.int kk), .val (.ref b1), .val (.ref b14), .val (.int (Int32.ofNat i)), .val (.int (Int32.ofNat j)), .val (.ref b32), .unset, .unset, .unset, .unset] [(.int (2 : Int32)), (.ref b41), (.ref b41)])) _
    refine XS.iloadN X46.here hx rfl (hb hby at_144) rfl ?_
    show Steps p.tables e below (T46.setTop (mkF m 145 #[.val (.int q0), .val (.int q1), .val (.int q2), .val (.int q3), .val (.long q4), .second, .val (.int q5), .val (.int p1), .val (.int s1), .val (.int kk), .val (.ref b1), .val (.ref b14), .val (.int (Int32.ofNat i)), .val (.int (Int32.ofNat j)), .val (.ref b32), .unset, .unset, .unset, .unset] [(.int q2), (.int (2 : Int32)), (.ref b41), (.ref b41)])) _
    refine st48 _ ?_
    show Steps p.tables e below (T48.setTop (mkF m 146 #[.val (.int q0), .val (.int q1), .val (.int q2), .val (.int q3), .val (.long q4), .second, .val (.int q5), .val (.int p1), .val (.int s1), .val (.int kk), .val (.ref b1), .val (.ref b14), .val (.int (Int32.ofNat i)), .val (.int (Int32.ofNat j)), .val (.ref b32), .unset, .unset, .unset, .unset] [(.ref b41)])) _
    refine XS.dup X48.here hx rfl (hb hby at_146) rfl rfl ?_
    show Steps p.tables e below (T48.setTop (mkF m 147 #[.val (.int q0), .val (.int q1), .val (.int q2), .val (.int q3), .val (.long q4), .second, .val (.int q5), .val (.int p1), .val (.int s1), .val (.int kk), .val (.ref b1), .val (.ref b14), .val (.int (Int32.ofNat i)), .val (.int (Int32.ofNat j)), .val (.ref b32), .unset, .unset, .unset, .unset] [(.ref b41), (.ref b41)])) _
    refine XS.iconst X48.here hx rfl (hb hby at_147) ?_
    show Steps p.tables e below (T48.setTop (mkF m 148 #[.val (.int q0), .val (.int q1), .val (.int q2), .val (.int q3), .val (.long q4), .second, .val (.int q5), .val (.int p1), .val (.int s1), .val (.int kk), .val (.ref b1), .val (.ref b14), .val (.int (Int32.ofNat i)), .val (.int (Int32.ofNat j)), .val (.ref b32), .unset, .unset, .unset, .unset] [(.int (3 : Int32)), (.ref b41), (.ref b41)])) _
    refine XS.iconst X48.here hx rfl (hb hby at_148) ?_
    show Steps p.tables e below (T48.setTop (mkF m 149 #[.val (.int q0), .val (.int q1), .val (.int q2), .val (.int q3), .val (.long q4), .second, .val (.int q5), .val (.int p1), .val (.int s1), .val (.int kk), .val (.ref b1), .val (.ref b14), .val (.int (Int32.ofNat i)), .val (.int (Int32.ofNat j)), .val (.ref b32), .unset, .unset, .unset, .unset] [(.int (-1 : Int32)), (.int (3 : Int32)), (.ref b41), (.ref b41)])) _
    refine st50 _ ?_
    show Steps p.tables e below (T50.setTop (mkF m 150 #[.val (.int q0), .val (.int q1), .val (.int q2), .val (.int q3), .val (.long q4), .second, .val (.int q5), .val (.int p1), .val (.int s1), .val (.int kk), .val (.ref b1), .val (.ref b14), .val (.int (Int32.ofNat i)), .val (.int (Int32.ofNat j)), .val (.ref b32), .unset, .unset, .unset, .unset] [(.ref b41)])) _
    refine XS.dup X50.here hx rfl (hb hby at_150) rfl rfl ?_
    show Steps p.tables e below (T50.setTop (mkF m 151 #[.val (.int q0), .val (.int q1), .val (.int q2), .val (.int q3), .val (.long q4), .second, .val (.int q5), .val (.int p1), .val (.int s1), .val (.int kk), .val (.ref b1), .val (.ref b14), .val (.int (Int32.ofNat i)), .val (.int (Int32.ofNat j)), .val (.ref b32), .unset, .unset, .unset, .unset] [(.ref b41), (.ref b41)])) _
    refine XS.iconst X50.here hx rfl (hb hby at_151) ?_
    show Steps p.tables e below (T50.setTop (mkF m 152 #[.val (.int q0), .val (.int q1), .val (.int q2), .val (.int q3), .val (.long q4), .second, .val (.int q5), .val (.int p1), .val (.int s1), .val (.int kk), .val (.ref b1), .val (.ref b14), .val (.int (Int32.ofNat i)), .val (.int (Int32.ofNat j)), .val (.ref b32), .unset, .unset, .unset, .unset] [(.int (4 : Int32)), (.ref b41), (.ref b41)])) _
    refine XS.iconst X50.here hx rfl (hb hby at_152) ?_
    show Steps p.tables e below (T50.setTop (mkF m 153 #[.val (.int q0), .val (.int q1), .val (.int q2), .val (.int q3), .val (.long q4), .second, .val (.int q5), .val (.int p1), .val (.int s1), .val (.int kk), .val (.ref b1), .val (.ref b14), .val (.int (Int32.ofNat i)), .val (.int (Int32.ofNat j)), .val (.ref b32), .unset, .unset, .unset, .unset] [(.int (-1 : Int32)), (.int (4 : Int32)), (.ref b41), (.ref b41)])) _
    refine st52 _ ?_
    show Steps p.tables e below (T52.setTop (mkF m 154 #[.val (.int q0), .val (.int q1), .val (.int q2), .val (.int q3), .val (.long q4), .second, .val (.int q5), .val (.int p1), .val (.int s1), .val (.int kk), .val (.ref b1), .val (.ref b14), .val (.int (Int32.ofNat i)), .val (.int (Int32.ofNat j)), .val (.ref b32), .unset, .unset, .unset, .unset] [(.ref b41)])) _
    refine XS.astore X52.here hx rfl (hb hby at_154) rfl rfl (l' := #[.val (.int q0), .val (.int q1), .val (.int q2), .val (.int q3), .val (.long q4), .second, .val (.int q5), .val (.int p1), .val (.int s1), .val (.int kk), .val (.ref b1), .val (.ref b14), .val (.int (Int32.ofNat i)), .val (.int (Int32.ofNat j)), .val (.ref b32), .val (.ref b41), .unset, .unset, .unset]) rfl ?_
    show Steps p.tables e below (T52.setTop (mkF m 156 #[.val (.int q0), .val (.int q1), .val (.int q2), .val (.int q3), .val (.long q4), .second, .val (.int q5), .val (.int p1), .val (.int s1), .val (.int kk), .val (.ref b1), .val (.ref b14), .val (.int (Int32.ofNat i)), .val (.int (Int32.ofNat j)), .val (.ref b32), .val (.ref b41), .unset, .unset, .unset] [])) _
    refine XS.iconst X52.here hx rfl (hb hby at_156) ?_
    show Steps p.tables e below (T52.setTop (mkF m 157 #[.val (.int q0), .val (.int q1), .val (.int q2), .val (.int q3), .val (.long q4), .second, .val (.int q5), .val (.int p1), .val (.int s1), .val (.int kk), .val (.ref b1), .val (.ref b14), .val (.int (Int32.ofNat i)), .val (.int (Int32.ofNat j)), .val (.ref b32), .val (.ref b41), .unset, .unset, .unset] [(.int (5 : Int32))])) _
    refine st53 _ ?_
    show Steps p.tables e below (T53.setTop (mkF m 159 #[.val (.int q0), .val (.int q1), .val (.int q2), .val (.int q3), .val (.long q4), .second, .val (.int q5), .val (.int p1), .val (.int s1), .val (.int kk), .val (.ref b1), .val (.ref b14), .val (.int (Int32.ofNat i)), .val (.int (Int32.ofNat j)), .val (.ref b32), .val (.ref b41), .unset, .unset, .unset] [(.ref b53)])) _
    refine XS.dup X53.here hx rfl (hb hby at_159) rfl rfl ?_
    show Steps p.tables e below (T53.setTop (mkF m 160 #[.val (.int q0), .val (.int q1), .val (.int q2), .val (.int q3), .val (.long q4), .second, .val (.int q5), .val (.int p1), .val (.int s1), .val (.int kk), .val (.ref b1), .val (.ref b14), .val (.int (Int32.ofNat i)), .val (.int (Int32.ofNat j)), .val (.ref b32), .val (.ref b41), .unset, .unset, .unset] [(.ref b53), (.ref b53)])) _
    refine XS.iconst X53.here hx rfl (hb hby at_160) ?_
    show Steps p.tables e below (T53.setTop (mkF m 161 #[.val (.int q0), .val (.int q1), .val (.int q2), .val (.int q3), .val (.long q4), .second, .val (.int q5), .val (.int p1), .val (.int s1), .val (.int kk), .val (.ref b1), .val (.ref b14), .val (.int (Int32.ofNat i)), .val (.int (Int32.ofNat j)), .val (.ref b32), .val (.ref b41), .unset, .unset, .unset] [(.int (0 : Int32)), (.ref b53), (.ref b53)])) _
    refine XS.iloadN X53.here hx rfl (hb hby at_161) rfl ?_
    show Steps p.tables e below (T53.setTop (mkF m 162 #[.val (.int q0), .val (.int q1), .val (.int q2), .val (.int q3), .val (.long q4), .second, .val (.int q5), .val (.int p1), .val (.int s1), .val (.int kk), .val (.ref b1), .val (.ref b14), .val (.int (Int32.ofNat i)), .val (.int (Int32.ofNat j)), .val (.ref b32), .val (.ref b41), .unset, .unset, .unset] [(.int q3), (.int (0 : Int32)), (.ref b53), (.ref b53)])) _
    refine st57 _ ?_
    show Steps p.tables e below (T57.setTop (mkF m 163 #[.val (.int q0), .val (.int q1), .val (.int q2), .val (.int q3), .val (.long q4), .second, .val (.int q5), .val (.int p1), .val (.int s1), .val (.int kk), .val (.ref b1), .val (.ref b14), .val (.int (Int32.ofNat i)), .val (.int (Int32.ofNat j)), .val (.ref b32), .val (.ref b41), .unset, .unset, .unset] [(.ref b53)])) _
    refine XS.dup X57.here hx rfl (hb hby at_163) rfl rfl ?_
    show Steps p.tables e below (T57.setTop (mkF m 164 #[.val (.int q0), .val (.int q1), .val (.int q2), .val (.int q3), .val (.long q4), .second, .val (.int q5), .val (.int p1), .val (.int s1), .val (.int kk), .val (.ref b1), .val (.ref b14), .val (.int (Int32.ofNat i)), .val (.int (Int32.ofNat j)), .val (.ref b32), .val (.ref b41), .unset, .unset, .unset] [(.ref b53), (.ref b53)])) _
    refine XS.iconst X57.here hx rfl (hb hby at_164) ?_
    show Steps p.tables e below (T57.setTop (mkF m 165 #[.val (.int q0), .val (.int q1), .val (.int q2), .val (.int q3), .val (.long q4), .second, .val (.int q5), .val (.int p1), .val (.int s1), .val (.int kk), .val (.ref b1), .val (.ref b14), .val (.int (Int32.ofNat i)), .val (.int (Int32.ofNat j)), .val (.ref b32), .val (.ref b41), .unset, .unset, .unset] [(.int (1 : Int32)), (.ref b53), (.ref b53)])) _
    refine XS.iload X57.here hx rfl (hb hby at_165) rfl ?_
    show Steps p.tables e below (T57.setTop (mkF m 167 #[.val (.int q0), .val (.int q1), .val (.int q2), .val (.int q3), .val (.long q4), .second, .val (.int q5), .val (.int p1), .val (.int s1), .val (.int kk), .val (.ref b1), .val (.ref b14), .val (.int (Int32.ofNat i)), .val (.int (Int32.ofNat j)), .val (.ref b32), .val (.ref b41), .unset, .unset, .unset] [(.int p1), (.int (1 : Int32)), (.ref b53), (.ref b53)])) _
    refine st59 _ ?_
    show Steps p.tables e below (T59.setTop (mkF m 168 #[.val (.int q0), .val (.int q1), .val (.int q2), .val (.int q3), .val (.long q4), .second, .val (.int q5), .val (.int p1), .val (.int s1), .val (.int kk), .val (.ref b1), .val (.ref b14), .val (.int (Int32.ofNat i)), .val (.int (Int32.ofNat j)), .val (.ref b32), .val (.ref b41), .unset, .unset, .unset] [(.ref b53)])) _
    refine XS.dup X59.here hx rfl (hb hby at_168) rfl rfl ?_
    show Steps p.tables e below (T59.setTop (mkF m 169 #[.val (.int q0), .val (.int q1), .val (.int q2), .val (.int q3), .val (.long q4), .second, .val (.int q5), .val (.int p1), .val (.int s1), .val (.int kk), .val (.ref b1), .val (.ref b14), .val (.int (Int32.ofNat i)), .val (.int (Int32.ofNat j)), .val (.ref b32), .val (.ref b41), .unset, .unset, .unset] [(.ref b53), (.ref b53)])) _
    refine XS.iconst X59.here hx rfl (hb hby at_169) ?_
    show Steps p.tables e below (T59.setTop (mkF m 170 #[.val (.int q0), .val (.int q1), .val (.int q2), .val (.int q3), .val (.long q4), .second, .val (.int q5), .val (.int p1), .val (.int s1), .val (.int kk), .val (.ref b1), .val (.ref b14), .val (.int (Int32.ofNat i)), .val (.int (Int32.ofNat j)), .val (.ref b32), .val (.ref b41), .unset, .unset, .unset] [(.int (2 : Int32)), (.ref b53), (.ref b53)])) _
    refine XS.iload X59.here hx rfl (hb hby at_170) rfl ?_
    show Steps p.tables e below (T59.setTop (mkF m 172 #[.val (.int q0), .val (.int q1), .val (.int q2), .val (.int q3), .val (.long q4), .second, .val (.int q5), .val (.int p1), .val (.int s1), .val (.int kk), .val (.ref b1), .val (.ref b14), .val (.int (Int32.ofNat i)), .val (.int (Int32.ofNat j)), .val (.ref b32), .val (.ref b41), .unset, .unset, .unset] [(.int s1), (.int (2 : Int32)), (.ref b53), (.ref b53)])) _
    refine st61 _ ?_
    show Steps p.tables e below (T61.setTop (mkF m 173 #[.val (.int q0), .val (.int q1), .val (.int q2), .val (.int q3), .val (.long q4), .second, .val (.int q5), .val (.int p1), .val (.int s1), .val (.int kk), .val (.ref b1), .val (.ref b14), .val (.int (Int32.ofNat i)), .val (.int (Int32.ofNat j)), .val (.ref b32), .val (.ref b41), .unset, .unset, .unset] [(.ref b53)])) _
    refine XS.dup X61.here hx rfl (hb hby at_173) rfl rfl ?_
    show Steps p.tables e below (T61.setTop (mkF m 174 #[.val (.int q0), .val (.int q1), .val (.int q2), .val (.int q3), .val (.long q4), .second, .val (.int q5), .val (.int p1), .val (.int s1), .val (.int kk), .val (.ref b1), .val (.ref b14), .val (.int (Int32.ofNat i)), .val (.int (Int32.ofNat j)), .val (.ref b32), .val (.ref b41), .unset, .unset, .unset] [(.ref b53), (.ref b53)])) _
    refine XS.iconst X61.here hx rfl (hb hby at_174) ?_
    show Steps p.tables e below (T61.setTop (mkF m 175 #[.val (.int q0), .val (.int q1), .val (.int q2), .val (.int q3), .val (.long q4), .second, .val (.int q5), .val (.int p1), .val (.int s1), .val (.int kk), .val (.ref b1), .val (.ref b14), .val (.int (Int32.ofNat i)), .val (.int (Int32.ofNat j)), .val (.ref b32), .val (.ref b41), .unset, .unset, .unset] [(.int (3 : Int32)), (.ref b53), (.ref b53)])) _
    refine XS.iconst X61.here hx rfl (hb hby at_175) ?_
    show Steps p.tables e below (T61.setTop (mkF m 176 #[.val (.int q0), .val (.int q1), .val (.int q2), .val (.int q3), .val (.long q4), .second, .val (.int q5), .val (.int p1), .val (.int s1), .val (.int kk), .val (.ref b1), .val (.ref b14), .val (.int (Int32.ofNat i)), .val (.int (Int32.ofNat j)), .val (.ref b32), .val (.ref b41), .unset, .unset, .unset] [(.int (-1 : Int32)), (.int (3 : Int32)), (.ref b53), (.ref b53)])) _
    refine st63 _ ?_
    show Steps p.tables e below (T63.setTop (mkF m 177 #[.val (.int q0), .val (.int q1), .val (.int q2), .val (.int q3), .val (.long q4), .second, .val (.int q5), .val (.int p1), .val (.int s1), .val (.int kk), .val (.ref b1), .val (.ref b14), .val (.int (Int32.ofNat i)), .val (.int (Int32.ofNat j)), .val (.ref b32), .val (.ref b41), .unset, .unset, .unset] [(.ref b53)])) _
    refine XS.dup X63.here hx rfl (hb hby at_177) rfl rfl ?_
    show Steps p.tables e below (T63.setTop (mkF m 178 #[.val (.int q0), .val (.int q1), .val (.int q2), .val (.int q3), .val (.long q4), .second, .val (.int q5), .val (.int p1), .val (.int s1), .val (.int kk), .val (.ref b1), .val (.ref b14), .val (.int (Int32.ofNat i)), .val (.int (Int32.ofNat j)), .val (.ref b32), .val (.ref b41), .unset, .unset, .unset] [(.ref b53), (.ref b53)])) _
    refine XS.iconst X63.here hx rfl (hb hby at_178) ?_
    show Steps p.tables e below (T63.setTop (mkF m 179 #[.val (.int q0), .val (.int q1), .val (.int q2), .val (.int q3), .val (.long q4), .second, .val (.int q5), .val (.int p1), .val (.int s1), .val (.int kk), .val (.ref b1), .val (.ref b14), .val (.int (Int32.ofNat i)), .val (.int (Int32.ofNat j)), .val (.ref b32), .val (.ref b41), .unset, .unset, .unset] [(.int (4 : Int32)), (.ref b53), (.ref b53)])) _
    refine XS.iconst X63.here hx rfl (hb hby at_179) ?_
    show Steps p.tables e below (T63.setTop (mkF m 180 #[.val (.int q0), .val (.int q1), .val (.int q2), .val (.int q3), .val (.long q4), .second, .val (.int q5), .val (.int p1), .val (.int s1), .val (.int kk), .val (.ref b1), .val (.ref b14), .val (.int (Int32.ofNat i)), .val (.int (Int32.ofNat j)), .val (.ref b32), .val (.ref b41), .unset, .unset, .unset] [(.int (-1 : Int32)), (.int (4 : Int32)), (.ref b53), (.ref b53)])) _
    refine st65 _ ?_
    show Steps p.tables e below (T65.setTop (mkF m 181 #[.val (.int q0), .val (.int q1), .val (.int q2), .val (.int q3), .val (.long q4), .second, .val (.int q5), .val (.int p1), .val (.int s1), .val (.int kk), .val (.ref b1), .val (.ref b14), .val (.int (Int32.ofNat i)), .val (.int (Int32.ofNat j)), .val (.ref b32), .val (.ref b41), .unset, .unset, .unset] [(.ref b53)])) _
    refine XS.astore X65.here hx rfl (hb hby at_181) rfl rfl (l' := #[.val (.int q0), .val (.int q1), .val (.int q2), .val (.int q3), .val (.long q4), .second, .val (.int q5), .val (.int p1), .val (.int s1), .val (.int kk), .val (.ref b1), .val (.ref b14), .val (.int (Int32.ofNat i)), .val (.int (Int32.ofNat j)), .val (.ref b32), .val (.ref b41), .val (.ref b53), .unset, .unset]) rfl ?_
    show Steps p.tables e below (T65.setTop (mkF m 183 #[.val (.int q0), .val (.int q1), .val (.int q2), .val (.int q3), .val (.long q4), .second, .val (.int q5), .val (.int p1), .val (.int s1), .val (.int kk), .val (.ref b1), .val (.ref b14), .val (.int (Int32.ofNat i)), .val (.int (Int32.ofNat j)), .val (.ref b32), .val (.ref b41), .val (.ref b53), .unset, .unset] [])) _
    refine XS.iconst X65.here hx rfl (hb hby at_183) ?_
    show Steps p.tables e below (T65.setTop (mkF m 184 #[.val (.int q0), .val (.int q1), .val (.int q2), .val (.int q3), .val (.long q4), .second, .val (.int q5), .val (.int p1), .val (.int s1), .val (.int kk), .val (.ref b1), .val (.ref b14), .val (.int (Int32.ofNat i)), .val (.int (Int32.ofNat j)), .val (.ref b32), .val (.ref b41), .val (.ref b53), .unset, .unset] [(.int (5 : Int32))])) _
    refine st66 _ ?_
    show Steps p.tables e below (T66.setTop (mkF m 186 #[.val (.int q0), .val (.int q1), .val (.int q2), .val (.int q3), .val (.long q4), .second, .val (.int q5), .val (.int p1), .val (.int s1), .val (.int kk), .val (.ref b1), .val (.ref b14), .val (.int (Int32.ofNat i)), .val (.int (Int32.ofNat j)), .val (.ref b32), .val (.ref b41), .val (.ref b53), .unset, .unset] [(.ref b66)])) _
    refine XS.dup X66.here hx rfl (hb hby at_186) rfl rfl ?_
    show Steps p.tables e below (T66.setTop (mkF m 187 #[.val (.int q0), .val (.int q1), .val (.int q2), .val (.int q3), .val (.long q4), .second, .val (.int q5), .val (.int p1), .val (.int s1), .val (.int kk), .val (.ref b1), .val (.ref b14), .val (.int (Int32.ofNat i)), .val (.int (Int32.ofNat j)), .val (.ref b32), .val (.ref b41), .val (.ref b53), .unset, .unset] [(.ref b66), (.ref b66)])) _
    refine XS.iconst X66.here hx rfl (hb hby at_187) ?_
    show Steps p.tables e below (T66.setTop (mkF m 188 #[.val (.int q0), .val (.int q1), .val (.int q2), .val (.int q3), .val (.long q4), .second, .val (.int q5), .val (.int p1), .val (.int s1), .val (.int kk), .val (.ref b1), .val (.ref b14), .val (.int (Int32.ofNat i)), .val (.int (Int32.ofNat j)), .val (.ref b32), .val (.ref b41), .val (.ref b53), .unset, .unset] [(.int (0 : Int32)), (.ref b66), (.ref b66)])) _
    refine XS.iconst X66.here hx rfl (hb hby at_188) ?_
    show Steps p.tables e below (T66.setTop (mkF m 189 #[.val (.int q0), .val (.int q1), .val (.int q2), .val (.int q3), .val (.long q4), .second, .val (.int q5), .val (.int p1), .val (.int s1), .val (.int kk), .val (.ref b1), .val (.ref b14), .val (.int (Int32.ofNat i)), .val (.int (Int32.ofNat j)), .val (.ref b32), .val (.ref b41), .val (.ref b53), .unset, .unset] [(.int (0 : Int32)), (.int (0 : Int32)), (.ref b66), (.ref b66)])) _
    refine st70 _ ?_
    show Steps p.tables e below (T70.setTop (mkF m 190 #[.val (.int q0), .val (.int q1), .val (.int q2), .val (.int q3), .val (.long q4), .second, .val (.int q5), .val (.int p1), .val (.int s1), .val (.int kk), .val (.ref b1), .val (.ref b14), .val (.int (Int32.ofNat i)), .val (.int (Int32.ofNat j)), .val (.ref b32), .val (.ref b41), .val (.ref b53), .unset, .unset] [(.ref b66)])) _
    refine XS.dup X70.here hx rfl (hb hby at_190) rfl rfl ?_
    show Steps p.tables e below (T70.setTop (mkF m 191 #[.val (.int q0), .val (.int q1), .val (.int q2), .val (.int q3), .val (.long q4), .second, .val (.int q5), .val (.int p1), .val (.int s1), .val (.int kk), .val (.ref b1), .val (.ref b14), .val (.int (Int32.ofNat i)), .val (.int (Int32.ofNat j)), .val (.ref b32), .val (.ref b41), .val (.ref b53), .unset, .unset] [(.ref b66), (.ref b66)])) _
    refine XS.iconst X70.here hx rfl (hb hby at_191) ?_
    show Steps p.tables e below (T70.setTop (mkF m 192 #[.val (.int q0), .val (.int q1), .val (.int q2), .val (.int q3), .val (.long q4), .second, .val (.int q5), .val (.int p1), .val (.int s1), .val (.int kk), .val (.ref b1), .val (.ref b14), .val (.int (Int32.ofNat i)), .val (.int (Int32.ofNat j)), .val (.ref b32), .val (.ref b41), .val (.ref b53), .unset, .unset] [(.int (1 : Int32)), (.ref b66), (.ref b66)])) _
    refine XS.iloadN X70.here hx rfl (hb hby at_192) rfl ?_
    show Steps p.tables e below (T70.setTop (mkF m 193 #[.val (.int q0), .val (.int q1), .val (.int q2), .val (.int q3), .val (.long q4), .second, .val (.int q5), .val (.int p1), .val (.int s1), .val (.int kk), .val (.ref b1), .val (.ref b14), .val (.int (Int32.ofNat i)), .val (.int (Int32.ofNat j)), .val (.ref b32), .val (.ref b41), .val (.ref b53), .unset, .unset] [(.int q1), (.int (1 : Int32)), (.ref b66), (.ref b66)])) _
    refine st72 _ ?_
    show Steps p.tables e below (T72.setTop (mkF m 194 #[.val (.int q0), .val (.int q1), .val (.int q2), .val (.int q3), .val (.long q4), .second, .val (.int q5), .val (.int p1), .val (.int s1), .val (.int kk), .val (.ref b1), .val (.ref b14), .val (.int (Int32.ofNat i)), .val (.int (Int32.ofNat j)), .val (.ref b32), .val (.ref b41), .val (.ref b53), .unset, .unset] [(.ref b66)])) _
    refine XS.dup X72.here hx rfl (hb hby at_194) rfl rfl ?_
    show Steps p.tables e below (T72.setTop (mkF m 195 #[.val (.int q0), .val (.int q1), .val (.int q2), .val (.int q3), .val (.long q4), .second, .val (.int q5), .val (.int p1), .val (.int s1), .val (.int kk), .val (.ref b1), .val (.ref b14), .val (.int (Int32.ofNat i)), .val (.int (Int32.ofNat j)), .val (.ref b32), .val (.ref b41), .val (.ref b53), .unset, .unset] [(.ref b66), (.ref b66)])) _
    refine XS.iconst X72.here hx rfl (hb hby at_195) ?_
    show Steps p.tables e below (T72.setTop (mkF m 196 #[.val (.int q0), .val (.int q1), .val (.int q2), .val (.int q3), .val (.long q4), .second, .val (.int q5), .val (.int p1), .val (.int s1), .val (.int kk), .val (.ref b1), .val (.ref b14), .val (.int (Int32.ofNat i)), .val (.int (Int32.ofNat j)), .val (.ref b32), .val (.ref b41), .val (.ref b53), .unset, .unset] [(.int (2 : Int32)), (.ref b66), (.ref b66)])) _
    refine XS.iloadN X72.here hx rfl (hb hby at_196) rfl ?_
    show Steps p.tables e below (T72.setTop (mkF m 197 #[.val (.int q0), .val (.int q1), .val (.int q2), .val (.int q3), .val (.long q4), .second, .val (.int q5), .val (.int p1), .val (.int s1), .val (.int kk), .val (.ref b1), .val (.ref b14), .val (.int (Int32.ofNat i)), .val (.int (Int32.ofNat j)), .val (.ref b32), .val (.ref b41), .val (.ref b53), .unset, .unset] [(.int q2), (.int (2 : Int32)), (.ref b66), (.ref b66)])) _
    refine st74 _ ?_
    show Steps p.tables e below (T74.setTop (mkF m 198 #[.val (.int q0), .val (.int q1), .val (.int q2), .val (.int q3), .val (.long q4), .second, .val (.int q5), .val (.int p1), .val (.int s1), .val (.int kk), .val (.ref b1), .val (.ref b14), .val (.int (Int32.ofNat i)), .val (.int (Int32.ofNat j)), .val (.ref b32), .val (.ref b41), .val (.ref b53), .unset, .unset] [(.ref b66)])) _
    refine XS.dup X74.here hx rfl (hb hby at_198) rfl rfl ?_
    show Steps p.tables e below (T74.setTop (mkF m 199 #[.val (.int q0), .val (.int q1), .val (.int q2), .val (.int q3), .val (.long q4), .second, .val (.int q5), .val (.int p1), .val (.int s1), .val (.int kk), .val (.ref b1), .val (.ref b14), .val (.int (Int32.ofNat i)), .val (.int (Int32.ofNat j)), .val (.ref b32), .val (.ref b41), .val (.ref b53), .unset, .unset] [(.ref b66), (.ref b66)])) _
    refine XS.iconst X74.here hx rfl (hb hby at_199) ?_
    show Steps p.tables e below (T74.setTop (mkF m 200 #[.val (.int q0), .val (.int q1), .val (.int q2), .val (.int q3), .val (.long q4), .second, .val (.int q5), .val (.int p1), .val (.int s1), .val (.int kk), .val (.ref b1), .val (.ref b14), .val (.int (Int32.ofNat i)), .val (.int (Int32.ofNat j)), .val (.ref b32), .val (.ref b41), .val (.ref b53), .unset, .unset] [(.int (3 : Int32)), (.ref b66), (.ref b66)])) _
    refine XS.iload X74.here hx rfl (hb hby at_200) rfl ?_
    show Steps p.tables e below (T74.setTop (mkF m 202 #[.val (.int q0), .val (.int q1), .val (.int q2), .val (.int q3), .val (.long q4), .second, .val (.int q5), .val (.int p1), .val (.int s1), .val (.int kk), .val (.ref b1), .val (.ref b14), .val (.int (Int32.ofNat i)), .val (.int (Int32.ofNat j)), .val (.ref b32), .val (.ref b41), .val (.ref b53), .unset, .unset] [(.int p1), (.int (3 : Int32)), (.ref b66), (.ref b66)])) _
    refine st76 _ ?_
    show Steps p.tables e below (T76.setTop (mkF m 203 #[.val (.int q0), .val (.int q1), .val (.int q2), .val (.int q3), .val (.long q4), .second, .val (.int q5), .val (.int p1), .val (.int s1), .val (.int kk), .val (.ref b1), .val (.ref b14), .val (.int (Int32.ofNat i)), .val (.int (Int32.ofNat j)), .val (.ref b32), .val (.ref b41), .val (.ref b53), .unset, .unset] [(.ref b66)])) _
    refine XS.dup X76.here hx rfl (hb hby at_203) rfl rfl ?_
    show Steps p.tables e below (T76.setTop (mkF m 204 #[.val (.int q0), .val (.int q1), .val (.int q2), .val (.int q3), .val (.long q4), .second, .val (.int q5), .val (.int p1), .val (.int s1), .val (.int kk), .val (.ref b1), .val (.ref b14), .val (.int (Int32.ofNat i)), .val (.int (Int32.ofNat j)), .val (.ref b32), .val (.ref b41), .val (.ref b53), .unset, .unset] [(.ref b66), (.ref b66)])) _
    refine XS.iconst X76.here hx rfl (hb hby at_204) ?_
    show Steps p.tables e below (T76.setTop (mkF m 205 #[.val (.int q0), .val (.int q1), .val (.int q2), .val (.int q3), .val (.long q4), .second, .val (.int q5), .val (.int p1), .val (.int s1), .val (.int kk), .val (.ref b1), .val (.ref b14), .val (.int (Int32.ofNat i)), .val (.int (Int32.ofNat j)), .val (.ref b32), .val (.ref b41), .val (.ref b53), .unset, .unset] [(.int (4 : Int32)), (.ref b66), (.ref b66)])) _
    refine XS.iload X76.here hx rfl (hb hby at_205) rfl ?_
    show Steps p.tables e below (T76.setTop (mkF m 207 #[.val (.int q0), .val (.int q1), .val (.int q2), .val (.int q3), .val (.long q4), .second, .val (.int q5), .val (.int p1), .val (.int s1), .val (.int kk), .val (.ref b1), .val (.ref b14), .val (.int (Int32.ofNat i)), .val (.int (Int32.ofNat j)), .val (.ref b32), .val (.ref b41), .val (.ref b53), .unset, .unset] [(.int s1), (.int (4 : Int32)), (.ref b66), (.ref b66)])) _
    refine st78 _ ?_
    show Steps p.tables e below (T78.setTop (mkF m 208 #[.val (.int q0), .val (.int q1), .val (.int q2), .val (.int q3), .val (.long q4), .second, .val (.int q5), .val (.int p1), .val (.int s1), .val (.int kk), .val (.ref b1), .val (.ref b14), .val (.int (Int32.ofNat i)), .val (.int (Int32.ofNat j)), .val (.ref b32), .val (.ref b41), .val (.ref b53), .unset, .unset] [(.ref b66)])) _
    refine XS.astore X78.here hx rfl (hb hby at_208) rfl rfl (l' := #[.val (.int q0), .val (.int q1), .val (.int q2), .val (.int q3), .val (.long q4), .second, .val (.int q5), .val (.int p1), .val (.int s1), .val (.int kk), .val (.ref b1), .val (.ref b14), .val (.int (Int32.ofNat i)), .val (.int (Int32.ofNat j)), .val (.ref b32), .val (.ref b41), .val (.ref b53), .val (.ref b66), .unset]) rfl ?_
    show Steps p.tables e below (T78.setTop (mkF m 210 #[.val (.int q0), .val (.int q1), .val (.int q2), .val (.int q3), .val (.long q4), .second, .val (.int q5), .val (.int p1), .val (.int s1), .val (.int kk), .val (.ref b1), .val (.ref b14), .val (.int (Int32.ofNat i)), .val (.int (Int32.ofNat j)), .val (.ref b32), .val (.ref b41), .val (.ref b53), .val (.ref b66), .unset] [])) _
    refine XS.iconst X78.here hx rfl (hb hby at_210) ?_
    show Steps p.tables e below (T78.setTop (mkF m 211 #[.val (.int q0), .val (.int q1), .val (.int q2), .val (.int q3), .val (.long q4), .second, .val (.int q5), .val (.int p1), .val (.int s1), .val (.int kk), .val (.ref b1), .val (.ref b14), .val (.int (Int32.ofNat i)), .val (.int (Int32.ofNat j)), .val (.ref b32), .val (.ref b41), .val (.ref b53), .val (.ref b66), .unset] [(.int (3 : Int32))])) _
    refine st79 _ ?_
    show Steps p.tables e below (T79.setTop (mkF m 214 #[.val (.int q0), .val (.int q1), .val (.int q2), .val (.int q3), .val (.long q4), .second, .val (.int q5), .val (.int p1), .val (.int s1), .val (.int kk), .val (.ref b1), .val (.ref b14), .val (.int (Int32.ofNat i)), .val (.int (Int32.ofNat j)), .val (.ref b32), .val (.ref b41), .val (.ref b53), .val (.ref b66), .unset] [(.ref b79)])) _
    refine XS.dup X79.here hx rfl (hb hby at_214) rfl rfl ?_
    show Steps p.tables e below (T79.setTop (mkF m 215 #[.val (.int q0), .val (.int q1), .val (.int q2), .val (.int q3), .val (.long q4), .second, .val (.int q5), .val (.int p1), .val (.int s1), .val (.int kk), .val (.ref b1), .val (.ref b14), .val (.int (Int32.ofNat i)), .val (.int (Int32.ofNat j)), .val (.ref b32), .val (.ref b41), .val (.ref b53), .val (.ref b66), .unset] [(.ref b79), (.ref b79)])) _
    refine XS.iconst X79.here hx rfl (hb hby at_215) ?_
    show Steps p.tables e below (T79.setTop (mkF m 216 #[.val (.int q0), .val (.int q1), .val (.int q2), .val (.int q3), .val (.long q4), .second, .val (.int q5), .val (.int p1), .val (.int s1), .val (.int kk), .val (.ref b1), .val (.ref b14), .val (.int (Int32.ofNat i)), .val (.int (Int32.ofNat j)), .val (.ref b32), .val (.ref b41), .val (.ref b53), .val (.ref b66), .unset] [(.int (0 : Int32)), (.ref b79), (.ref b79)])) _
    refine XS.aload X79.here hx rfl (hb hby at_216) rfl rfl ?_
    show Steps p.tables e below (T79.setTop (mkF m 218 #[.val (.int q0), .val (.int q1), .val (.int q2), .val (.int q3), .val (.long q4), .second, .val (.int q5), .val (.int p1), .val (.int s1), .val (.int kk), .val (.ref b1), .val (.ref b14), .val (.int (Int32.ofNat i)), .val (.int (Int32.ofNat j)), .val (.ref b32), .val (.ref b41), .val (.ref b53), .val (.ref b66), .unset] [(.ref b41), (.int (0 : Int32)), (.ref b79), (.ref b79)])) _
    refine st84 _ ?_
    show Steps p.tables e below (T84.setTop (mkF m 219 #[.val (.int q0), .val (.int q1), .val (.int q2), .val (.int q3), .val (.long q4), .second, .val (.int q5), .val (.int p1), .val (.int s1), .val (.int kk), .val (.ref b1), .val (.ref b14), .val (.int (Int32.ofNat i)), .val (.int (Int32.ofNat j)), .val (.ref b32), .val (.ref b41), .val (.ref b53), .val (.ref b66), .unset] [(.ref b79)])) _
    refine XS.dup X84.here hx rfl (hb hby at_219) rfl rfl ?_
    show Steps p.tables e below (T84.setTop (mkF m 220 #[.val (.int q0), .val (.int q1), .val (.int q2), .val (.int q3), .val (.long q4), .second, .val (.int q5), .val (.int p1), .val (.int s1), .val (.int kk), .val (.ref b1), .val (.ref b14), .val (.int (Int32.ofNat i)), .val (.int (Int32.ofNat j)), .val (.ref b32), .val (.ref b41), .val (.ref b53), .val (.ref b66), .unset] [(.ref b79), (.ref b79)])) _
    refine XS.iconst X84.here hx rfl (hb hby at_220) ?_
    show Steps p.tables e below (T84.setTop (mkF m 221 #[.val (.int q0), .val (.int q1), .val (.int q2), .val (.int q3), .val (.long q4), .second, .val (.int q5), .val (.int p1), .val (.int s1), .val (.int kk), .val (.ref b1), .val (.ref b14), .val (.int (Int32.ofNat i)), .val (.int (Int32.ofNat j)), .val (.ref b32), .val (.ref b41), .val (.ref b53), .val (.ref b66), .unset] [(.int (1 : Int32)), (.ref b79), (.ref b79)])) _
    refine XS.aload X84.here hx rfl (hb hby at_221) rfl rfl ?_
    show Steps p.tables e below (T84.setTop (mkF m 223 #[.val (.int q0), .val (.int q1), .val (.int q2), .val (.int q3), .val (.long q4), .second, .val (.int q5), .val (.int p1), .val (.int s1), .val (.int kk), .val (.ref b1), .val (.ref b14), .val (.int (Int32.ofNat i)), .val (.int (Int32.ofNat j)), .val (.ref b32), .val (.ref b41), .val (.ref b53), .val (.ref b66), .unset] [(.ref b53), (.int (1 : Int32)), (.ref b79), (.ref b79)])) _
    refine st87 _ ?_
    show Steps p.tables e below (T87.setTop (mkF m 224 #[.val (.int q0), .val (.int q1), .val (.int q2), .val (.int q3), .val (.long q4), .second, .val (.int q5), .val (.int p1), .val (.int s1), .val (.int kk), .val (.ref b1), .val (.ref b14), .val (.int (Int32.ofNat i)), .val (.int (Int32.ofNat j)), .val (.ref b32), .val (.ref b41), .val (.ref b53), .val (.ref b66), .unset] [(.ref b79)])) _
    refine XS.dup X87.here hx rfl (hb hby at_224) rfl rfl ?_
    show Steps p.tables e below (T87.setTop (mkF m 225 #[.val (.int q0), .val (.int q1), .val (.int q2), .val (.int q3), .val (.long q4), .second, .val (.int q5), .val (.int p1), .val (.int s1), .val (.int kk), .val (.ref b1), .val (.ref b14), .val (.int (Int32.ofNat i)), .val (.int (Int32.ofNat j)), .val (.ref b32), .val (.ref b41), .val (.ref b53), .val (.ref b66), .unset] [(.ref b79), (.ref b79)])) _
    refine XS.iconst X87.here hx rfl (hb hby at_225) ?_
    show Steps p.tables e below (T87.setTop (mkF m 226 #[.val (.int q0), .val (.int q1), .val (.int q2), .val (.int q3), .val (.long q4), .second, .val (.int q5), .val (.int p1), .val (.int s1), .val (.int kk), .val (.ref b1), .val (.ref b14), .val (.int (Int32.ofNat i)), .val (.int (Int32.ofNat j)), .val (.ref b32), .val (.ref b41), .val (.ref b53), .val (.ref b66), .unset] [(.int (2 : Int32)), (.ref b79), (.ref b79)])) _
    refine XS.aload X87.here hx rfl (hb hby at_226) rfl rfl ?_
    show Steps p.tables e below (T87.setTop (mkF m 228 #[.val (.int q0), .val (.int q1), .val (.int q2), .val (.int q3), .val (.long q4), .second, .val (.int q5), .val (.int p1), .val (.int s1), .val (.int kk), .val (.ref b1), .val (.ref b14), .val (.int (Int32.ofNat i)), .val (.int (Int32.ofNat j)), .val (.ref b32), .val (.ref b41), .val (.ref b53), .val (.ref b66), .unset] [(.ref b66), (.int (2 : Int32)), (.ref b79), (.ref b79)])) _
    refine st90 _ ?_
    show Steps p.tables e below (T90.setTop (mkF m 229 #[.val (.int q0), .val (.int q1), .val (.int q2), .val (.int q3), .val (.long q4), .second, .val (.int q5), .val (.int p1), .val (.int s1), .val (.int kk), .val (.ref b1), .val (.ref b14), .val (.int (Int32.ofNat i)), .val (.int (Int32.ofNat j)), .val (.ref b32), .val (.ref b41), .val (.ref b53), .val (.ref b66), .unset] [(.ref b79)])) _
    refine XS.astore X90.here hx rfl (hb hby at_229) rfl rfl (l' := #[.val (.int q0), .val (.int q1), .val (.int q2), .val (.int q3), .val (.long q4), .second, .val (.int q5), .val (.int p1), .val (.int s1), .val (.int kk), .val (.ref b1), .val (.ref b14), .val (.int (Int32.ofNat i)), .val (.int (Int32.ofNat j)), .val (.ref b32), .val (.ref b41), .val (.ref b53), .val (.ref b66), .val (.ref b79)]) rfl ?_
    show Steps p.tables e below (T90.setTop (mkF m 231 #[.val (.int q0), .val (.int q1), .val (.int q2), .val (.int q3), .val (.long q4), .second, .val (.int q5), .val (.int p1), .val (.int s1), .val (.int kk), .val (.ref b1), .val (.ref b14), .val (.int (Int32.ofNat i)), .val (.int (Int32.ofNat j)), .val (.ref b32), .val (.ref b41), .val (.ref b53), .val (.ref b66), .val (.ref b79)] [])) _
    refine XS.aload X90.here hx rfl (hb hby at_231) rfl rfl ?_
    show Steps p.tables e below (T90.setTop (mkF m 233 #[.val (.int q0), .val (.int q1), .val (.int q2), .val (.int q3), .val (.long q4), .second, .val (.int q5), .val (.int p1), .val (.int s1), .val (.int kk), .val (.ref b1), .val (.ref b14), .val (.int (Int32.ofNat i)), .val (.int (Int32.ofNat j)), .val (.ref b32), .val (.ref b41), .val (.ref b53), .val (.ref b66), .val (.ref b79)] [(.ref b79)])) _
    refine XS.iload X90.here hx rfl (hb hby at_233) rfl ?_
    show Steps p.tables e below (T90.setTop (mkF m 235 #[.val (.int q0), .val (.int q1), .val (.int q2), .val (.int q3), .val (.long q4), .second, .val (.int q5), .val (.int p1), .val (.int s1), .val (.int kk), .val (.ref b1), .val (.ref b14), .val (.int (Int32.ofNat i)), .val (.int (Int32.ofNat j)), .val (.ref b32), .val (.ref b41), .val (.ref b53), .val (.ref b66), .val (.ref b79)] [(.int (Int32.ofNat i)), (.ref b79)])) _
    refine XS.aload X90.here hx rfl (hb hby at_235) rfl rfl ?_
    show Steps p.tables e below (T90.setTop (mkF m 237 #[.val (.int q0), .val (.int q1), .val (.int q2), .val (.int q3), .val (.long q4), .second, .val (.int q5), .val (.int p1), .val (.int s1), .val (.int kk), .val (.ref b1), .val (.ref b14), .val (.int (Int32.ofNat i)), .val (.int (Int32.ofNat j)), .val (.ref b32), .val (.ref b41), .val (.ref b53), .val (.ref b66), .val (.ref b79)] [(.ref b79), (.int (Int32.ofNat i)), (.ref b79)])) _
    refine XS.iload X90.here hx rfl (hb hby at_237) rfl ?_
    show Steps p.tables e below (T90.setTop (mkF m 239 #[.val (.int q0), .val (.int q1), .val (.int q2), .val (.int q3), .val (.long q4), .second, .val (.int q5), .val (.int p1), .val (.int s1), .val (.int kk), .val (.ref b1), .val (.ref b14), .val (.int (Int32.ofNat i)), .val (.int (Int32.ofNat j)), .val (.ref b32), .val (.ref b41), .val (.ref b53), .val (.ref b66), .val (.ref b79)] [(.int (Int32.ofNat j)), (.ref b79), (.int (Int32.ofNat i)), (.ref b79)])) _
    refine X90.aaload hx (j := (Int32.ofNat j)) (v := (.ref (own_r3 j b41 b53 b66))) (by rw [e90]; exact Ar_91.1) (State.isArrayOf_alike hZ.alike Ar_91.2.1) rfl Ar_91.2.2 (inb_of Sz_91 rj3) (Has.at Hs_91 (inb_of Sz_91 rj3) (by rw [rj1]; exact own_r3_get hj2 _ _ _)) (g := (mkF m 239 #[.val (.int q0), .val (.int q1), .val (.int q2), .val (.int q3), .val (.long q4), .second, .val (.int q5), .val (.int p1), .val (.int s1), .val (.int kk), .val (.ref b1), .val (.ref b14), .val (.int (Int32.ofNat i)), .val (.int (Int32.ofNat j)), .val (.ref b32), .val (.ref b41), .val (.ref b53), .val (.ref b66), .val (.ref b79)] [(.int (Int32.ofNat j)), (.ref b79), (.int (Int32.ofNat i)), (.ref b79)])) rfl rfl (hb hby at_239) _ ?_
    show Steps p.tables e below (T90.setTop (mkF m 240 #[.val (.int q0), .val (.int q1), .val (.int q2), .val (.int q3), .val (.long q4), .second, .val (.int q5), .val (.int p1), .val (.int s1), .val (.int kk), .val (.ref b1), .val (.ref b14), .val (.int (Int32.ofNat i)), .val (.int (Int32.ofNat j)), .val (.ref b32), .val (.ref b41), .val (.ref b53), .val (.ref b66), .val (.ref b79)] [(.ref (own_r3 j b41 b53 b66)), (.int (Int32.ofNat i)), (.ref b79)])) _
    refine st93 _ ?_
    show Steps p.tables e below (T93.setTop (mkF m 241 #[.val (.int q0), .val (.int q1), .val (.int q2), .val (.int q3), .val (.long q4), .second, .val (.int q5), .val (.int p1), .val (.int s1), .val (.int kk), .val (.ref b1), .val (.ref b14), .val (.int (Int32.ofNat i)), .val (.int (Int32.ofNat j)), .val (.ref b32), .val (.ref b41), .val (.ref b53), .val (.ref b66), .val (.ref b79)] [])) _
    refine XS.aload X93.here hx rfl (hb hby at_241) rfl rfl ?_
    show Steps p.tables e below (T93.setTop (mkF m 243 #[.val (.int q0), .val (.int q1), .val (.int q2), .val (.int q3), .val (.long q4), .second, .val (.int q5), .val (.int p1), .val (.int s1), .val (.int kk), .val (.ref b1), .val (.ref b14), .val (.int (Int32.ofNat i)), .val (.int (Int32.ofNat j)), .val (.ref b32), .val (.ref b41), .val (.ref b53), .val (.ref b66), .val (.ref b79)] [(.ref b32)])) _
    refine XS.iload X93.here hx rfl (hb hby at_243) rfl ?_
    show Steps p.tables e below (T93.setTop (mkF m 245 #[.val (.int q0), .val (.int q1), .val (.int q2), .val (.int q3), .val (.long q4), .second, .val (.int q5), .val (.int p1), .val (.int s1), .val (.int kk), .val (.ref b1), .val (.ref b14), .val (.int (Int32.ofNat i)), .val (.int (Int32.ofNat j)), .val (.ref b32), .val (.ref b41), .val (.ref b53), .val (.ref b66), .val (.ref b79)] [(.int (Int32.ofNat j)), (.ref b32)])) _
    refine XS.iload X93.here hx rfl (hb hby at_245) rfl ?_
    show Steps p.tables e below (T93.setTop (mkF m 247 #[.val (.int q0), .val (.int q1), .val (.int q2), .val (.int q3), .val (.long q4), .second, .val (.int q5), .val (.int p1), .val (.int s1), .val (.int kk), .val (.ref b1), .val (.ref b14), .val (.int (Int32.ofNat i)), .val (.int (Int32.ofNat j)), .val (.ref b32), .val (.ref b41), .val (.ref b53), .val (.ref b66), .val (.ref b79)] [(.int (Int32.ofNat i)), (.int (Int32.ofNat j)), (.ref b32)])) _
    refine st95.trans ?_
    show Steps p.tables e below (T95.setTop (mkF m 250 #[.val (.int q0), .val (.int q1), .val (.int q2), .val (.int q3), .val (.long q4), .second, .val (.int q5), .val (.int p1), .val (.int s1), .val (.int kk), .val (.ref b1), .val (.ref b14), .val (.int (Int32.ofNat i)), .val (.int (Int32.ofNat j)), .val (.ref b32), .val (.ref b41), .val (.ref b53), .val (.ref b66), .val (.ref b79)] [])) _
    refine XS.aload X95.here hx rfl (hb hby at_250) rfl rfl ?_
    show Steps p.tables e below (T95.setTop (mkF m 252 #[.val (.int q0), .val (.int q1), .val (.int q2), .val (.int q3), .val (.long q4), .second, .val (.int q5), .val (.int p1), .val (.int s1), .val (.int kk), .val (.ref b1), .val (.ref b14), .val (.int (Int32.ofNat i)), .val (.int (Int32.ofNat j)), .val (.ref b32), .val (.ref b41), .val (.ref b53), .val (.ref b66), .val (.ref b79)] [(.ref b32)])) _
    refine st98.trans ?_
    show Steps p.tables e below (T98.setTop (mkF m 255 #[.val (.int q0), .val (.int q1), .val (.int q2), .val (.int q3), .val (.long q4), .second, .val (.int q5), .val (.int p1), .val (.int s1), .val (.int kk), .val (.ref b1), .val (.ref b14), .val (.int (Int32.ofNat i)), .val (.int (Int32.ofNat j)), .val (.ref b32), .val (.ref b41), .val (.ref b53), .val (.ref b66), .val (.ref b79)] [(.int (3 : Int32))])) _
    refine XS.iconst X98.here hx rfl (hb hby at_255) ?_
    show Steps p.tables e below (T98.setTop (mkF m 256 #[.val (.int q0), .val (.int q1), .val (.int q2), .val (.int q3), .val (.long q4), .second, .val (.int q5), .val (.int p1), .val (.int s1), .val (.int kk), .val (.ref b1), .val (.ref b14), .val (.int (Int32.ofNat i)), .val (.int (Int32.ofNat j)), .val (.ref b32), .val (.ref b41), .val (.ref b53), .val (.ref b66), .val (.ref b79)] [(.int (3 : Int32)), (.int (3 : Int32))])) _
    refine XS.icmpNo X98.here hx rfl (hb hby at_256) rfl (teq (rfl : (3 : Int32) = (3 : Int32))).2 ?_
    show Steps p.tables e below (T98.setTop (mkF m 259 #[.val (.int q0), .val (.int q1), .val (.int q2), .val (.int q3), .val (.long q4), .second, .val (.int q5), .val (.int p1), .val (.int s1), .val (.int kk), .val (.ref b1), .val (.ref b14), .val (.int (Int32.ofNat i)), .val (.int (Int32.ofNat j)), .val (.ref b32), .val (.ref b41), .val (.ref b53), .val (.ref b66), .val (.ref b79)] [])) _
    refine XS.aload X98.here hx rfl (hb hby at_259) rfl rfl ?_
    show Steps p.tables e below (T98.setTop (mkF m 261 #[.val (.int q0), .val (.int q1), .val (.int q2), .val (.int q3), .val (.long q4), .second, .val (.int q5), .val (.int p1), .val (.int s1), .val (.int kk), .val (.ref b1), .val (.ref b14), .val (.int (Int32.ofNat i)), .val (.int (Int32.ofNat j)), .val (.ref b32), .val (.ref b41), .val (.ref b53), .val (.ref b66), .val (.ref b79)] [(.ref b32)])) _
    refine XS.iconst X98.here hx rfl (hb hby at_261) ?_
    show Steps p.tables e below (T98.setTop (mkF m 262 #[.val (.int q0), .val (.int q1), .val (.int q2), .val (.int q3), .val (.long q4), .second, .val (.int q5), .val (.int p1), .val (.int s1), .val (.int kk), .val (.ref b1), .val (.ref b14), .val (.int (Int32.ofNat i)), .val (.int (Int32.ofNat j)), .val (.ref b32), .val (.ref b41), .val (.ref b53), .val (.ref b66), .val (.ref b79)] [(.int (0 : Int32)), (.ref b32)])) _
    refine XS.aload X98.here hx rfl (hb hby at_262) rfl rfl ?_
    show Steps p.tables e below (T98.setTop (mkF m 264 #[.val (.int q0), .val (.int q1), .val (.int q2), .val (.int q3), .val (.long q4), .second, .val (.int q5), .val (.int p1), .val (.int s1), .val (.int kk), .val (.ref b1), .val (.ref b14), .val (.int (Int32.ofNat i)), .val (.int (Int32.ofNat j)), .val (.ref b32), .val (.ref b41), .val (.ref b53), .val (.ref b66), .val (.ref b79)] [(.ref b79), (.int (0 : Int32)), (.ref b32)])) _
    refine XS.iconst X98.here hx rfl (hb hby at_264) ?_
    show Steps p.tables e below (T98.setTop (mkF m 265 #[.val (.int q0), .val (.int q1), .val (.int q2), .val (.int q3), .val (.long q4), .second, .val (.int q5), .val (.int p1), .val (.int s1), .val (.int kk), .val (.ref b1), .val (.ref b14), .val (.int (Int32.ofNat i)), .val (.int (Int32.ofNat j)), .val (.ref b32), .val (.ref b41), .val (.ref b53), .val (.ref b66), .val (.ref b79)] [(.int (0 : Int32)), (.ref b79), (.int (0 : Int32)), (.ref b32)])) _
    refine X98.aaload hx (j := (0 : Int32)) (v := (.ref (own_r3 (own_sg i j 0) b41 b53 b66))) (by rw [e98]; exact Ar_99.1) (State.isArrayOf_alike hZ.alike Ar_99.2.1) rfl Ar_99.2.2 (inb_of Sz_99 ⟨by decide, by decide⟩) (Has.at Hs_99 (inb_of Sz_99 ⟨by decide, by decide⟩) (own_ex hi2 hj2 (by decide) _ _ _)) (g := (mkF m 265 #[.val (.int q0), .val (.int q1), .val (.int q2), .val (.int q3), .val (.long q4), .second, .val (.int q5), .val (.int p1), .val (.int s1), .val (.int kk), .val (.ref b1), .val (.ref b14), .val (.int (Int32.ofNat i)), .val (.int (Int32.ofNat j)), .val (.ref b32), .val (.ref b41), .val (.ref b53), .val (.ref b66), .val (.ref b79)] [(.int (0 : Int32)), (.ref b79), (.int (0 : Int32)), (.ref b32)])) rfl rfl (hb hby at_265) _ ?_
    show Steps p.tables e below (T98.setTop (mkF m 266 #[.val (.int q0), .val (.int q1), .val (.int q2), .val (.int q3), .val (.long q4), .second, .val (.int q5), .val (.int p1), .val (.int s1), .val (.int kk), .val (.ref b1), .val (.ref b14), .val (.int (Int32.ofNat i)), .val (.int (Int32.ofNat j)), .val (.ref b32), .val (.ref b41), .val (.ref b53), .val (.ref b66), .val (.ref b79)] [(.ref (own_r3 (own_sg i j 0) b41 b53 b66)), (.int (0 : Int32)), (.ref b32)])) _
    refine st101 _ ?_
    show Steps p.tables e below (T101.setTop (mkF m 269 #[.val (.int q0), .val (.int q1), .val (.int q2), .val (.int q3), .val (.long q4), .second, .val (.int q5), .val (.int p1), .val (.int s1), .val (.int kk), .val (.ref b1), .val (.ref b14), .val (.int (Int32.ofNat i)), .val (.int (Int32.ofNat j)), .val (.ref b32), .val (.ref b41), .val (.ref b53), .val (.ref b66), .val (.ref b79)] [(.int (1 : Int32))])) _
    refine XS.ifNo X101.here hx rfl (hb hby at_269) rfl ((if0 _ _).trans (feq (by decide : ¬ (1 : Int32) = (0 : Int32))).1) ?_
    show Steps p.tables e below (T101.setTop (mkF m 272 #[.val (.int q0), .val (.int q1), .val (.int q2), .val (.int q3), .val (.long q4), .second, .val (.int q5), .val (.int p1), .val (.int s1), .val (.int kk), .val (.ref b1), .val (.ref b14), .val (.int (Int32.ofNat i)), .val (.int (Int32.ofNat j)), .val (.ref b32), .val (.ref b41), .val (.ref b53), .val (.ref b66), .val (.ref b79)] [])) _
    refine XS.aload X101.here hx rfl (hb hby at_272) rfl rfl ?_
    show Steps p.tables e below (T101.setTop (mkF m 274 #[.val (.int q0), .val (.int q1), .val (.int q2), .val (.int q3), .val (.long q4), .second, .val (.int q5), .val (.int p1), .val (.int s1), .val (.int kk), .val (.ref b1), .val (.ref b14), .val (.int (Int32.ofNat i)), .val (.int (Int32.ofNat j)), .val (.ref b32), .val (.ref b41), .val (.ref b53), .val (.ref b66), .val (.ref b79)] [(.ref b32)])) _
    refine XS.iconst X101.here hx rfl (hb hby at_274) ?_
    show Steps p.tables e below (T101.setTop (mkF m 275 #[.val (.int q0), .val (.int q1), .val (.int q2), .val (.int q3), .val (.long q4), .second, .val (.int q5), .val (.int p1), .val (.int s1), .val (.int kk), .val (.ref b1), .val (.ref b14), .val (.int (Int32.ofNat i)), .val (.int (Int32.ofNat j)), .val (.ref b32), .val (.ref b41), .val (.ref b53), .val (.ref b66), .val (.ref b79)] [(.int (1 : Int32)), (.ref b32)])) _
    refine XS.aload X101.here hx rfl (hb hby at_275) rfl rfl ?_
    show Steps p.tables e below (T101.setTop (mkF m 277 #[.val (.int q0), .val (.int q1), .val (.int q2), .val (.int q3), .val (.long q4), .second, .val (.int q5), .val (.int p1), .val (.int s1), .val (.int kk), .val (.ref b1), .val (.ref b14), .val (.int (Int32.ofNat i)), .val (.int (Int32.ofNat j)), .val (.ref b32), .val (.ref b41), .val (.ref b53), .val (.ref b66), .val (.ref b79)] [(.ref b79), (.int (1 : Int32)), (.ref b32)])) _
    refine XS.iconst X101.here hx rfl (hb hby at_277) ?_
    show Steps p.tables e below (T101.setTop (mkF m 278 #[.val (.int q0), .val (.int q1), .val (.int q2), .val (.int q3), .val (.long q4), .second, .val (.int q5), .val (.int p1), .val (.int s1), .val (.int kk), .val (.ref b1), .val (.ref b14), .val (.int (Int32.ofNat i)), .val (.int (Int32.ofNat j)), .val (.ref b32), .val (.ref b41), .val (.ref b53), .val (.ref b66), .val (.ref b79)] [(.int (1 : Int32)), (.ref b79), (.int (1 : Int32)), (.ref b32)])) _
    refine X101.aaload hx (j := (1 : Int32)) (v := (.ref (own_r3 (own_sg i j 1) b41 b53 b66))) (by rw [e101]; exact Ar_105.1) (State.isArrayOf_alike hZ.alike Ar_105.2.1) rfl Ar_105.2.2 (inb_of Sz_105 ⟨by decide, by decide⟩) (Has.at Hs_105 (inb_of Sz_105 ⟨by decide, by decide⟩) (own_ex hi2 hj2 (by decide) _ _ _)) (g := (mkF m 278 #[.val (.int q0), .val (.int q1), .val (.int q2), .val (.int q3), .val (.long q4), .second, .val (.int q5), .val (.int p1), .val (.int s1), .val (.int kk), .val (.ref b1), .val (.ref b14), .val (.int (Int32.ofNat i)), .val (.int (Int32.ofNat j)), .val (.ref b32), .val (.ref b41), .val (.ref b53), .val (.ref b66), .val (.ref b79)] [(.int (1 : Int32)), (.ref b79), (.int (1 : Int32)), (.ref b32)])) rfl rfl (hb hby at_278) _ ?_
    show Steps p.tables e below (T101.setTop (mkF m 279 #[.val (.int q0), .val (.int q1), .val (.int q2), .val (.int q3), .val (.long q4), .second, .val (.int q5), .val (.int p1), .val (.int s1), .val (.int kk), .val (.ref b1), .val (.ref b14), .val (.int (Int32.ofNat i)), .val (.int (Int32.ofNat j)), .val (.ref b32), .val (.ref b41), .val (.ref b53), .val (.ref b66), .val (.ref b79)] [(.ref (own_r3 (own_sg i j 1) b41 b53 b66)), (.int (1 : Int32)), (.ref b32)])) _
    refine st106 _ ?_
    show Steps p.tables e below (T106.setTop (mkF m 282 #[.val (.int q0), .val (.int q1), .val (.int q2), .val (.int q3), .val (.long q4), .second, .val (.int q5), .val (.int p1), .val (.int s1), .val (.int kk), .val (.ref b1), .val (.ref b14), .val (.int (Int32.ofNat i)), .val (.int (Int32.ofNat j)), .val (.ref b32), .val (.ref b41), .val (.ref b53), .val (.ref b66), .val (.ref b79)] [(.int (1 : Int32))])) _
    refine XS.ifNo X106.here hx rfl (hb hby at_282) rfl ((if0 _ _).trans (feq (by decide : ¬ (1 : Int32) = (0 : Int32))).1) ?_
    show Steps p.tables e below (T106.setTop (mkF m 285 #[.val (.int q0), .val (.int q1), .val (.int q2), .val (.int q3), .val (.long q4), .second, .val (.int q5), .val (.int p1), .val (.int s1), .val (.int kk), .val (.ref b1), .val (.ref b14), .val (.int (Int32.ofNat i)), .val (.int (Int32.ofNat j)), .val (.ref b32), .val (.ref b41), .val (.ref b53), .val (.ref b66), .val (.ref b79)] [])) _
    refine XS.aload X106.here hx rfl (hb hby at_285) rfl rfl ?_
    show Steps p.tables e below (T106.setTop (mkF m 287 #[.val (.int q0), .val (.int q1), .val (.int q2), .val (.int q3), .val (.long q4), .second, .val (.int q5), .val (.int p1), .val (.int s1), .val (.int kk), .val (.ref b1), .val (.ref b14), .val (.int (Int32.ofNat i)), .val (.int (Int32.ofNat j)), .val (.ref b32), .val (.ref b41), .val (.ref b53), .val (.ref b66), .val (.ref b79)] [(.ref b32)])) _
    refine XS.iconst X106.here hx rfl (hb hby at_287) ?_
    show Steps p.tables e below (T106.setTop (mkF m 288 #[.val (.int q0), .val (.int q1), .val (.int q2), .val (.int q3), .val (.long q4), .second, .val (.int q5), .val (.int p1), .val (.int s1), .val (.int kk), .val (.ref b1), .val (.ref b14), .val (.int (Int32.ofNat i)), .val (.int (Int32.ofNat j)), .val (.ref b32), .val (.ref b41), .val (.ref b53), .val (.ref b66), .val (.ref b79)] [(.int (2 : Int32)), (.ref b32)])) _
    refine XS.aload X106.here hx rfl (hb hby at_288) rfl rfl ?_
    show Steps p.tables e below (T106.setTop (mkF m 290 #[.val (.int q0), .val (.int q1), .val (.int q2), .val (.int q3), .val (.long q4), .second, .val (.int q5), .val (.int p1), .val (.int s1), .val (.int kk), .val (.ref b1), .val (.ref b14), .val (.int (Int32.ofNat i)), .val (.int (Int32.ofNat j)), .val (.ref b32), .val (.ref b41), .val (.ref b53), .val (.ref b66), .val (.ref b79)] [(.ref b79), (.int (2 : Int32)), (.ref b32)])) _
    refine XS.iconst X106.here hx rfl (hb hby at_290) ?_
    show Steps p.tables e below (T106.setTop (mkF m 291 #[.val (.int q0), .val (.int q1), .val (.int q2), .val (.int q3), .val (.long q4), .second, .val (.int q5), .val (.int p1), .val (.int s1), .val (.int kk), .val (.ref b1), .val (.ref b14), .val (.int (Int32.ofNat i)), .val (.int (Int32.ofNat j)), .val (.ref b32), .val (.ref b41), .val (.ref b53), .val (.ref b66), .val (.ref b79)] [(.int (2 : Int32)), (.ref b79), (.int (2 : Int32)), (.ref b32)])) _
    refine X106.aaload hx (j := (2 : Int32)) (v := (.ref (own_r3 (own_sg i j 2) b41 b53 b66))) (by rw [e106]; exact Ar_107.1) (State.isArrayOf_alike hZ.alike Ar_107.2.1) rfl Ar_107.2.2 (inb_of Sz_107 ⟨by decide, by decide⟩) (Has.at Hs_107 (inb_of Sz_107 ⟨by decide, by decide⟩) (own_ex hi2 hj2 (by decide) _ _ _)) (g := (mkF m 291 #[.val (.int q0), .val (.int q1), .val (.int q2), .val (.int q3), .val (.long q4), .second, .val (.int q5), .val (.int p1), .val (.int s1), .val (.int kk), .val (.ref b1), .val (.ref b14), .val (.int (Int32.ofNat i)), .val (.int (Int32.ofNat j)), .val (.ref b32), .val (.ref b41), .val (.ref b53), .val (.ref b66), .val (.ref b79)] [(.int (2 : Int32)), (.ref b79), (.int (2 : Int32)), (.ref b32)])) rfl rfl (hb hby at_291) _ ?_
    show Steps p.tables e below (T106.setTop (mkF m 292 #[.val (.int q0), .val (.int q1), .val (.int q2), .val (.int q3), .val (.long q4), .second, .val (.int q5), .val (.int p1), .val (.int s1), .val (.int kk), .val (.ref b1), .val (.ref b14), .val (.int (Int32.ofNat i)), .val (.int (Int32.ofNat j)), .val (.ref b32), .val (.ref b41), .val (.ref b53), .val (.ref b66), .val (.ref b79)] [(.ref (own_r3 (own_sg i j 2) b41 b53 b66)), (.int (2 : Int32)), (.ref b32)])) _
    refine st108 _ ?_
    show Steps p.tables e below (T108.setTop (mkF m 295 #[.val (.int q0), .val (.int q1), .val (.int q2), .val (.int q3), .val (.long q4), .second, .val (.int q5), .val (.int p1), .val (.int s1), .val (.int kk), .val (.ref b1), .val (.ref b14), .val (.int (Int32.ofNat i)), .val (.int (Int32.ofNat j)), .val (.ref b32), .val (.ref b41), .val (.ref b53), .val (.ref b66), .val (.ref b79)] [(.int (1 : Int32))])) _
    refine XS.ifNo X108.here hx rfl (hb hby at_295) rfl ((if0 _ _).trans (feq (by decide : ¬ (1 : Int32) = (0 : Int32))).1) ?_
    show Steps p.tables e below (T108.setTop (mkF m 298 #[.val (.int q0), .val (.int q1), .val (.int q2), .val (.int q3), .val (.long q4), .second, .val (.int q5), .val (.int p1), .val (.int s1), .val (.int kk), .val (.ref b1), .val (.ref b14), .val (.int (Int32.ofNat i)), .val (.int (Int32.ofNat j)), .val (.ref b32), .val (.ref b41), .val (.ref b53), .val (.ref b66), .val (.ref b79)] [])) _
    refine XS.iconst X108.here hx rfl (hb hby at_298) ?_
    show Steps p.tables e below (T108.setTop (mkF m 299 #[.val (.int q0), .val (.int q1), .val (.int q2), .val (.int q3), .val (.long q4), .second, .val (.int q5), .val (.int p1), .val (.int s1), .val (.int kk), .val (.ref b1), .val (.ref b14), .val (.int (Int32.ofNat i)), .val (.int (Int32.ofNat j)), .val (.ref b32), .val (.ref b41), .val (.ref b53), .val (.ref b66), .val (.ref b79)] [(.int (1 : Int32))])) _
    refine XS.goto X108.here hx rfl (pc0 := 299) (pc' := 303) rfl (hb hby at_299) (by decide) (by decide) ?_
    show Steps p.tables e below (T108.setTop (mkF m 303 #[.val (.int q0), .val (.int q1), .val (.int q2), .val (.int q3), .val (.long q4), .second, .val (.int q5), .val (.int p1), .val (.int s1), .val (.int kk), .val (.ref b1), .val (.ref b14), .val (.int (Int32.ofNat i)), .val (.int (Int32.ofNat j)), .val (.ref b32), .val (.ref b41), .val (.ref b53), .val (.ref b66), .val (.ref b79)] [(.int (1 : Int32))])) _
    exact retN X108 hx (t := .boolean) Bd.returns (by simp) (hb hby at_303) hr
  · show Q0 h0 n0 _ T108.heap _
    rw [e108]
    exact ⟨rfl, N108⟩
set_option maxRecDepth 65536 in
set_option maxHeartbeats 40000000 in
theorem comes_1 {Post : Tables → Env → Array Value → State → Outcome → State → Prop} (hpost : ∀ tb e args s v u, (limb_1_1.after args s (.returned v) u = true ∧ limb_1_2.after args s (.returned v) u = true ∧ True) → FrameEnd s (.returned v) u (Jvm.fieldLocs frame_1_writes args s ++ Jvm.arrayLocs frame_1_arrays args s ++ Jvm.staticLocs frame_1_statics s) 32 320 → Post tb e args s (.returned v) u) :
    ArmFor flags0 classFile x code maxLocals ret World_1 tables_1 room_1 Calls_1 rest_1 Pre_1 Post := by
  intro l hfl _ _ p e ha hc hk s m args below hf hA hF happ hP
  obtain ⟨hcalls, hrest, hpre⟩ := hP
  obtain ⟨-, -, -, hnamed, -, -, -, hat⟩ := (Spec.applies_iff hf).mp happ
  obtain ⟨hg, hn⟩ := and_e (Cond.before_iff.mp (show (Jvm.Cond.and given_1 narrow_1).before args s = true from hpre))
  obtain ⟨g1, g2⟩ := and_e hg
  obtain ⟨g3, g4⟩ := and_e g2
  obtain ⟨g5, g6⟩ := and_e g4
  obtain ⟨g7, g8⟩ := and_e g6
  obtain ⟨g9, g10⟩ := and_e g8
  obtain ⟨g11, g12⟩ := and_e g10
  obtain ⟨w0, w1, w2, w3, w4, w5, rfl⟩ : ∃ w0 w1 w2 w3 w4 w5 : Value, args = #[w0, w1, w2, w3, w4, w5] := by
    have hs : args.size = 6 := by simpa [Cond.value, given_1] using g1
    obtain ⟨L⟩ := args
    match L, hs with
    | [w0, w1, w2, w3, w4, w5], _ => exact ⟨w0, w1, w2, w3, w4, w5, rfl⟩
  have hw := fun d (hd : d ∈ tables_1) => atoms_spec (ws := Jvm.Cond.code x code maxLocals ret :: tables_1) hat d (List.mem_cons_of_mem _ hd)
  obtain ⟨i0, ei0⟩ := is_v g3
  obtain rfl : w0 = (.int i0) := Option.some.inj ei0
  obtain ⟨i1, ei1⟩ := is_v g5
  obtain rfl : w1 = (.int i1) := Option.some.inj ei1
  obtain ⟨i2, ei2⟩ := is_v g7
  obtain rfl : w2 = (.int i2) := Option.some.inj ei2
  obtain ⟨i3, ei3⟩ := is_v g9
  obtain rfl : w3 = (.int i3) := Option.some.inj ei3
  obtain ⟨i4, ei4⟩ := isL_v g11
  obtain rfl : w4 = (.long i4) := Option.some.inj ei4
  obtain ⟨i5, ei5⟩ := is_v g12
  obtain rfl : w5 = (.int i5) := Option.some.inj ei5
  obtain ⟨n, o, h1, h2, h3, _, L, rfl, ⟨rfl, N⟩, hq⟩ := rm0 l s _ hw tables_1 i0 i1 i2 i3 i4 i5 s.heap s.heap.size (Nat.le_refl _) p e ha hc hk s m _ below hf ((Spec.applies_iff_loose hf).mp happ).1 ⟨rfl, State.Warmed39.refl s, rfl⟩ trivial
  refine ⟨n, _, h1, h2, h3, hpost _ _ _ _ _ _ ⟨Cond.after_iff.mpr rfl, Cond.after_iff.mpr (eq_i res_at (Term.int_eval (1)) rfl), trivial⟩ ⟨hq.1, hq.2.1, (hq.2.2.sift fun y hy => Or.inr (N y hy)).mono (by decide) (by decide)⟩⟩
theorem main_1_1 : Claimed_1_1 := comes_1 fun _ _ _ _ _ _ h hF => ⟨h.1, hF⟩
theorem main_1_2 : Claimed_1_2 := comes_1 fun _ _ _ _ _ _ h hF => ⟨h.2.1, hF⟩

end Jvm.Pilot.@@N@@
namespace Jvm.Pilot.@@N@@
open Jvm Jvm.ClassFile Sem Op Lib Jvm.Free Jvm.Stand Jvm.Pilot.@@N@@.Jvm.D
/-! MADE BY PROGRAM (witnessworld.py) out of the Statement's table words and the real class files: 10 classes; the members and pool entries that the words name. The judged class is class 1, her method 2. -/
namespace start1
open Jvm.ClassFile
def u (s : String) : CpInfo := .utf8 (stringToUtf16 s)
/-- a pool by its gaps: so many unusable entries, then the entry; so many at the end -/
def gap : Nat → List CpInfo → List CpInfo
  | 0, r => r
  | n + 1, r => .unusable :: gap n r
def poolList (es : List (Nat × CpInfo)) (last : Nat) : List CpInfo := es.foldr (fun e r => gap e.1 (e.2 :: r)) (gap last [])
def pool (es : List (Nat × CpInfo)) (last : Nat) : Array CpInfo := ⟨poolList es last⟩
def fileOf (pool : Array CpInfo) (this : Nat) (attrs : Array Attribute := #[]) (ms : Array MethodInfo := #[]) (fl : Nat := 33) (sup : Nat := 0) (ifs : Array Nat := #[]) (fds : Array FieldInfo := #[]) : ClassFile where
  minorVersion := 0
  majorVersion := 65
  constantPool := pool
  accessFlags := fl
  thisClass := this
  superClass := sup
  interfaces := ifs
  fields := fds
  methods := ms
  attributes := attrs
def plain (name : String) (sup : Option ClassId) : Class where
  name := name
  kind := .ordinary
  loader := none
  accessFlags := 33
  super := sup
  interfaces := #[]
  cf := none
  fields := #[]
  methods := #[]
  instanceTypes := #[]
  staticTypes := #[]
  resolved := #[]
  callSites := []
  init := .initialized
  statics := none
  mirror := none

def pool0 : Array CpInfo := pool [(5, u "<init>"), (0, u "()V"), (1, .class_ 10), (1, u "java/lang/Object")] 113

def k0c0 : Code := { maxStack := 0, maxLocals := 1, code := object_method_1_code, exceptionTable := #[], attributes := #[] }
def k0m0 : Method := { name := "<init>", desc := "()V", sig := { parameters := [], returnType := none }, accessFlags := 1, code := some k0c0 }
/-- java/lang/Object -/
def k0 : Class := { plain "java/lang/Object" none with
  accessFlags := 33
  interfaces := #[]
  cf := some (fileOf pool0 8 #[] #[{ accessFlags := 1, nameIndex := 5, descriptorIndex := 6, attributes := #[] }] 33 0 #[] #[])
  fields := #[]
  methods := #[k0m0]
  instanceTypes := #[]
  staticTypes := #[]
  resolved := Array.replicate 124 none
  statics := none }

def pool1 : Array CpInfo := pool [(2, .class_ 4), (0, .nameAndType 5 6), (0, u "java/lang/Object"), (0, u "<init>"), (0, u "()V"), (0, .methodref 8 9), (0, .class_ 10), (0, .nameAndType 11 12), (0, u "com/example/yealm/yealm/ccs/Moves"), (0, u "getLabel"), (0, u "(I)I"), (0, .methodref 8 14), (0, .nameAndType 15 12), (0, u "getPlace"), (0, .methodref 8 17), (0, .nameAndType 18 12), (0, u "getStep"), (0, .methodref 8 20), (0, .nameAndType 21 12), (0, u "getPartnerPlace"), (0, .methodref 8 23), (0, .nameAndType 24 12), (0, u "getPartnerStep"), (0, .integer 2147483647), (0, .methodref 8 3), (0, .methodref 8 28), (0, .nameAndType 29 30), (0, u "add"), (0, u "(III)V"), (0, .methodref 8 32), (0, .nameAndType 33 34), (0, u "addHandshake"), (0, u "(II)V"), (0, .class_ 36), (0, u "[I"), (0, .methodref 8 38), (0, .nameAndType 39 34), (0, u "copy"), (0, .methodref 8 41), (0, .nameAndType 42 43), (0, u "size"), (0, u "()I"), (0, .methodref 45 46), (0, .class_ 47), (0, .nameAndType 48 49), (0, u "com/example/yealm/yealm/ccs/MovesCopyPinLaw"), (0, u "row"), (0, u "(Lcom/example/yealm/yealm/ccs/Moves;I[I)Z"), (3, u "law"), (0, u "(IIIIJI)Z")] 4

def k1m0 : Method := { name := "<init>", desc := "()V", sig := { parameters := [], returnType := none }, accessFlags := 1, code := none }
def k1c1 : Code := { maxStack := 3, maxLocals := 3, code := method_2_code, exceptionTable := #[], attributes := #[] }
def k1m1 : Method := { name := "row", desc := "(Lcom/example/yealm/yealm/ccs/Moves;I[I)Z", sig := { parameters := [(.object "com/example/yealm/yealm/ccs/Moves"), .int, (.array .int)], returnType := some .boolean }, accessFlags := 10, code := some k1c1 }
def k1c2 : Code := { maxStack := 4, maxLocals := 19, code := code, exceptionTable := #[], attributes := #[] }
def k1m2 : Method := { name := "law", desc := "(IIIIJI)Z", sig := { parameters := [.int, .int, .int, .int, .long, .int], returnType := some .boolean }, accessFlags := 9, code := some k1c2 }
/-- com/example/yealm/yealm/ccs/MovesCopyPinLaw -/
def k1 : Class := { plain "com/example/yealm/yealm/ccs/MovesCopyPinLaw" (some 0) with
  accessFlags := 49
  interfaces := #[]
  cf := some (fileOf pool1 45 #[] #[{ accessFlags := 1, nameIndex := 5, descriptorIndex := 6, attributes := #[] }, { accessFlags := 10, nameIndex := 48, descriptorIndex := 49, attributes := #[] }, { accessFlags := 9, nameIndex := 53, descriptorIndex := 54, attributes := #[] }] 49 2 #[] #[])
  fields := #[]
  methods := #[k1m0, k1m1, k1m2]
  instanceTypes := #[]
  staticTypes := #[]
  resolved := Array.replicate 59 none
  statics := none }

def pool2 : Array CpInfo := pool [(1, .methodref 2 3), (0, .class_ 4), (0, .nameAndType 5 6), (0, u "java/lang/Object"), (0, u "<init>"), (0, u "()V"), (0, .fieldref 8 9), (0, .class_ 10), (0, .nameAndType 11 12), (0, u "com/example/yealm/yealm/ccs/Moves"), (0, u "labels"), (0, u "[I"), (0, .fieldref 8 14), (0, .nameAndType 15 12), (0, u "places"), (0, .fieldref 8 17), (0, .nameAndType 18 12), (0, u "steps"), (0, .fieldref 8 20), (0, .nameAndType 21 12), (0, u "partnerPlaces"), (0, .fieldref 8 23), (0, .nameAndType 24 12), (0, u "partnerSteps"), (0, .fieldref 8 26), (0, .nameAndType 27 28), (0, u "count"), (0, u "I"), (0, .methodref 8 30), (0, .nameAndType 31 6), (0, u "grow"), (14, u "NONE"), (4, u "size"), (0, u "()I"), (0, u "add"), (0, u "(III)V"), (0, u "addHandshake"), (0, u "(II)V"), (0, u "getLabel"), (0, u "(I)I"), (1, u "getPlace"), (0, u "getStep"), (0, u "getPartnerPlace"), (0, u "getPartnerStep"), (0, u "copy")] 5

def k2c0 : Code := { maxStack := 2, maxLocals := 1, code := prog_17_method_1_code, exceptionTable := #[], attributes := #[] }
def k2m0 : Method := { name := "<init>", desc := "()V", sig := { parameters := [], returnType := none }, accessFlags := 0, code := some k2c0 }
def k2c1 : Code := { maxStack := 1, maxLocals := 1, code := prog_17_method_2_code, exceptionTable := #[], attributes := #[] }
def k2m1 : Method := { name := "size", desc := "()I", sig := { parameters := [], returnType := some .int }, accessFlags := 0, code := some k2c1 }
def k2c2 : Code := { maxStack := 3, maxLocals := 4, code := prog_17_method_3_code, exceptionTable := #[], attributes := #[] }
def k2m2 : Method := { name := "add", desc := "(III)V", sig := { parameters := [.int, .int, .int], returnType := none }, accessFlags := 0, code := some k2c2 }
def k2c3 : Code := { maxStack := 4, maxLocals := 3, code := prog_17_method_4_code, exceptionTable := #[], attributes := #[] }
def k2m3 : Method := { name := "addHandshake", desc := "(II)V", sig := { parameters := [.int, .int], returnType := none }, accessFlags := 0, code := some k2c3 }
def k2c4 : Code := { maxStack := 2, maxLocals := 2, code := prog_17_method_5_code, exceptionTable := #[], attributes := #[] }
def k2m4 : Method := { name := "getLabel", desc := "(I)I", sig := { parameters := [.int], returnType := some .int }, accessFlags := 0, code := some k2c4 }
def k2c5 : Code := { maxStack := 2, maxLocals := 2, code := prog_17_method_7_code, exceptionTable := #[], attributes := #[] }
def k2m5 : Method := { name := "getPlace", desc := "(I)I", sig := { parameters := [.int], returnType := some .int }, accessFlags := 0, code := some k2c5 }
def k2c6 : Code := { maxStack := 2, maxLocals := 2, code := prog_17_method_8_code, exceptionTable := #[], attributes := #[] }
def k2m6 : Method := { name := "getStep", desc := "(I)I", sig := { parameters := [.int], returnType := some .int }, accessFlags := 0, code := some k2c6 }
def k2c7 : Code := { maxStack := 2, maxLocals := 2, code := prog_17_method_9_code, exceptionTable := #[], attributes := #[] }
def k2m7 : Method := { name := "getPartnerPlace", desc := "(I)I", sig := { parameters := [.int], returnType := some .int }, accessFlags := 0, code := some k2c7 }
def k2c8 : Code := { maxStack := 2, maxLocals := 2, code := prog_17_method_10_code, exceptionTable := #[], attributes := #[] }
def k2m8 : Method := { name := "getPartnerStep", desc := "(I)I", sig := { parameters := [.int], returnType := some .int }, accessFlags := 0, code := some k2c8 }
def k2c9 : Code := { maxStack := 4, maxLocals := 3, code := prog_17_method_11_code, exceptionTable := #[], attributes := #[] }
def k2m9 : Method := { name := "copy", desc := "(II)V", sig := { parameters := [.int, .int], returnType := none }, accessFlags := 0, code := some k2c9 }
def k2c10 : Code := { maxStack := 3, maxLocals := 2, code := prog_17_method_13_code, exceptionTable := #[], attributes := #[] }
def k2m10 : Method := { name := "grow", desc := "()V", sig := { parameters := [], returnType := none }, accessFlags := 2, code := some k2c10 }
/-- com/example/yealm/yealm/ccs/Moves -/
def k2 : Class := { plain "com/example/yealm/yealm/ccs/Moves" (some 0) with
  accessFlags := 48
  interfaces := #[]
  cf := some (fileOf pool2 8 #[] #[{ accessFlags := 0, nameIndex := 5, descriptorIndex := 6, attributes := #[] }, { accessFlags := 0, nameIndex := 51, descriptorIndex := 52, attributes := #[] }, { accessFlags := 0, nameIndex := 53, descriptorIndex := 54, attributes := #[] }, { accessFlags := 0, nameIndex := 55, descriptorIndex := 56, attributes := #[] }, { accessFlags := 0, nameIndex := 57, descriptorIndex := 58, attributes := #[] }, { accessFlags := 0, nameIndex := 60, descriptorIndex := 58, attributes := #[] }, { accessFlags := 0, nameIndex := 61, descriptorIndex := 58, attributes := #[] }, { accessFlags := 0, nameIndex := 62, descriptorIndex := 58, attributes := #[] }, { accessFlags := 0, nameIndex := 63, descriptorIndex := 58, attributes := #[] }, { accessFlags := 0, nameIndex := 64, descriptorIndex := 56, attributes := #[] }, { accessFlags := 2, nameIndex := 31, descriptorIndex := 6, attributes := #[] }] 48 2 #[] #[{ accessFlags := 24, nameIndex := 46, descriptorIndex := 28, attributes := #[] }, { accessFlags := 2, nameIndex := 27, descriptorIndex := 28, attributes := #[] }, { accessFlags := 2, nameIndex := 11, descriptorIndex := 12, attributes := #[] }, { accessFlags := 2, nameIndex := 15, descriptorIndex := 12, attributes := #[] }, { accessFlags := 2, nameIndex := 18, descriptorIndex := 12, attributes := #[] }, { accessFlags := 2, nameIndex := 21, descriptorIndex := 12, attributes := #[] }, { accessFlags := 2, nameIndex := 24, descriptorIndex := 12, attributes := #[] }])
  fields := #[{ name := "NONE", type := .int, accessFlags := 24, slot := 0, constantValue := 0 }, { name := "count", type := .int, accessFlags := 2, slot := 0, constantValue := 0 }, { name := "labels", type := (.array .int), accessFlags := 2, slot := 1, constantValue := 0 }, { name := "places", type := (.array .int), accessFlags := 2, slot := 2, constantValue := 0 }, { name := "steps", type := (.array .int), accessFlags := 2, slot := 3, constantValue := 0 }, { name := "partnerPlaces", type := (.array .int), accessFlags := 2, slot := 4, constantValue := 0 }, { name := "partnerSteps", type := (.array .int), accessFlags := 2, slot := 5, constantValue := 0 }]
  methods := #[k2m0, k2m1, k2m2, k2m3, k2m4, k2m5, k2m6, k2m7, k2m8, k2m9, k2m10]
  instanceTypes := #[.int, (.array .int), (.array .int), (.array .int), (.array .int), (.array .int)]
  staticTypes := #[.int]
  resolved := Array.replicate 70 none
  statics := none }

def pool3 : Array CpInfo := pool [(1, u "java/lang/Cloneable"), (0, .class_ 1), (0, u "java/lang/Object"), (0, .class_ 3)] 3

/-- java/lang/Cloneable -/
def k3 : Class := { plain "java/lang/Cloneable" (some 0) with
  accessFlags := 1537
  interfaces := #[]
  cf := some (fileOf pool3 2 #[] #[] 1537 4 #[] #[])
  fields := #[]
  methods := #[]
  instanceTypes := #[]
  staticTypes := #[]
  resolved := Array.replicate 8 none
  statics := none }

def pool4 : Array CpInfo := pool [(1, u "java/io/Serializable"), (0, .class_ 1), (0, u "java/lang/Object"), (0, .class_ 3)] 3

/-- java/io/Serializable -/
def k4 : Class := { plain "java/io/Serializable" (some 0) with
  accessFlags := 1537
  interfaces := #[]
  cf := some (fileOf pool4 2 #[] #[] 1537 4 #[] #[])
  fields := #[]
  methods := #[]
  instanceTypes := #[]
  staticTypes := #[]
  resolved := Array.replicate 8 none
  statics := none }

/-- the primitive byte -/
def k5 : Class := { plain "byte" none with kind := .primitive 'B', accessFlags := 0x411 }
/-- [B -/
def k6 : Class := { plain "[B" (some 0) with kind := .array 5 .byte, interfaces := #[3, 4], accessFlags := 1041 }

/-- the primitive int -/
def k7 : Class := { plain "int" none with kind := .primitive 'I', accessFlags := 0x411 }
/-- [I -/
def k8 : Class := { plain "[I" (some 0) with kind := .array 7 .int, interfaces := #[3, 4], accessFlags := 1041 }

/-- [[I -/
def k9 : Class := { plain "[[I" (some 0) with kind := .array 8 (.array .int), interfaces := #[3, 4], accessFlags := 1041 }

def heap : Heap := #[{ cls := 9, slots := #[.null], vm := .none }]
def classes : Array Class := #[k0, k1, k2, k3, k4, k5, k6, k7, k8, k9]
def interned : List (Array UInt16 × Addr) := []
def slotsUsed : Nat := 1
def theMethod : MethodId := ⟨1, 2⟩
def args0 : Array Value := #[.int 5, .int 7, .int 1, .int 2, .long 3, .int 1]
def aboutOver (below : List Frame) : State where
  vm := { classes := classes, interned := interned.toArray }
  heap := heap
  slotsUsed := slotsUsed
  threads := #[{ frames := .invoking theMethod args0 :: below }]
def below0 : List Frame := [.native { method := ⟨0, 0⟩, args := #[] }]
def about1 : State := aboutOver below0
def p0 : Program := .bare "" "" ""
def e0 : Env := launch0.env 0 0 0
theorem w_frames : about1.frames = Frame.invoking theMethod args0 :: below0 := rfl
set_option maxRecDepth 65536 in
theorem w_args : argsFit about1.vm theMethod args0 = true := by decide +kernel
set_option maxRecDepth 65536 in
theorem w_heap : heapFits about1 = true := by decide +kernel
set_option maxRecDepth 65536 in
theorem w_runnable : about1.curStatus? = some .runnable := by decide +kernel
set_option maxRecDepth 65536 in
theorem w_alone : about1.alone = true := by decide +kernel
set_option maxRecDepth 65536 in
theorem w_named : about1.methodNamed? x = some theMethod := by decide +kernel
set_option maxRecDepth 65536 in
theorem w_hears : about1.hears theMethod below0 = true := by decide +kernel
set_option maxRecDepth 65536 in
theorem w_ripe : about1.ripe theMethod args0 below0 = true := by decide +kernel
theorem w_running : about1.status = .running := rfl
set_option maxRecDepth 65536 in
theorem w_room : about1.hasRoom e0.platform room_1 = true :=
  launch0.hasRoom_least _ room_1 (by decide +kernel) (by decide +kernel) (by decide +kernel) (by decide +kernel) (by decide +kernel) (by decide +kernel)
theorem allAtoms_all (ts : List Jvm.Cond) (a : Array Jvm.Value) (st : Jvm.State) : (allAtoms ts).before a st = ts.all (fun c => c.before a st) := by
  induction ts with
  | nil => rfl
  | cons c t ih =>
    show (Jvm.Cond.and c (allAtoms t)).before a st = _
    rw [Jvm.Cond.before_and, ih, List.all_cons]
def words1 : List Jvm.Cond := Jvm.Cond.code x code maxLocals ret :: tables_1
/-- a 'code' word, met by the world's own term for the bytes: nothing is compared byte by byte -/
theorem code_word {y : MethodName} {bytes : ByteArray} {mx : Nat} {rt : Option FieldType} {a : Array Value} {s : State} {m : MethodId} {meth : Method} {c : Code} (h1 : s.methodNamed? y = some m) (h2 : s.vm.method? m = some meth) (h3 : meth.code = some c) (h4 : c.code = bytes)
    (h5 : (c.maxLocals == mx && c.exceptionTable.isEmpty && decide (c.maxStack ≤ mostOperands) && decide (meth.sig.returnType = rt) && !meth.locks && decide (parseMethodDescriptor y.desc = some meth.sig)) = true) : (Jvm.Cond.code y bytes mx rt).before a s = true := by
  simp only [Bool.and_eq_true, beq_iff_eq, Bool.not_eq_true', decide_eq_true_eq] at h5
  obtain ⟨⟨⟨⟨⟨g1, g2⟩, g3⟩, g4⟩, g5⟩, g6⟩ := h5
  simp [Cond.before, Cond.holds, Cond.value, h1, h2, h3, h4, g1, g2, g3, g4, g5, g6]
def isCode : Jvm.Cond → Bool
  | .code _ _ _ _ => true
  | _ => false
theorem all_split {L : List Jvm.Cond} {P : Jvm.Cond → Bool} (h1 : L.all (fun c => isCode c || P c) = true) (h2 : ∀ c ∈ L.filter isCode, P c = true) : L.all P = true := by
  refine List.all_eq_true.mpr fun c hc => ?_
  have h := List.all_eq_true.mp h1 c hc
  rcases Bool.eq_false_or_eq_true (isCode c) with hi | hi
  · exact h2 c (List.mem_filter.mpr ⟨hc, hi⟩)
  · simpa [hi] using h
set_option maxRecDepth 65536 in
theorem w_c0 : (Jvm.Cond.code x code maxLocals ret).before args0 about1 = true := code_word (m := ⟨1, 2⟩) (meth := k1m2) (c := k1c2) (by decide +kernel) rfl rfl rfl (by decide +kernel)
set_option maxRecDepth 65536 in
theorem w_c1 : (Jvm.Cond.code ({ cls := "com/example/yealm/yealm/ccs/Moves", name := "<init>", desc := "()V" } : Jvm.MethodName) prog_17_method_1_code (1 : Nat) (Option.none : Option Jvm.ClassFile.FieldType)).before args0 about1 = true := code_word (m := ⟨2, 0⟩) (meth := k2m0) (c := k2c0) (by decide +kernel) rfl rfl rfl (by decide +kernel)
set_option maxRecDepth 65536 in
theorem w_c2 : (Jvm.Cond.code ({ cls := "java/lang/Object", name := "<init>", desc := "()V" } : Jvm.MethodName) object_method_1_code (1 : Nat) (Option.none : Option Jvm.ClassFile.FieldType)).before args0 about1 = true := code_word (m := ⟨0, 0⟩) (meth := k0m0) (c := k0c0) (by decide +kernel) rfl rfl rfl (by decide +kernel)
set_option maxRecDepth 65536 in
theorem w_c3 : (Jvm.Cond.code ({ cls := "com/example/yealm/yealm/ccs/Moves", name := "add", desc := "(III)V" } : Jvm.MethodName) prog_17_method_3_code (4 : Nat) (Option.none : Option Jvm.ClassFile.FieldType)).before args0 about1 = true := code_word (m := ⟨2, 2⟩) (meth := k2m2) (c := k2c2) (by decide +kernel) rfl rfl rfl (by decide +kernel)
set_option maxRecDepth 65536 in
theorem w_c4 : (Jvm.Cond.code ({ cls := "com/example/yealm/yealm/ccs/Moves", name := "grow", desc := "()V" } : Jvm.MethodName) prog_17_method_13_code (2 : Nat) (Option.none : Option Jvm.ClassFile.FieldType)).before args0 about1 = true := code_word (m := ⟨2, 10⟩) (meth := k2m10) (c := k2c10) (by decide +kernel) rfl rfl rfl (by decide +kernel)
set_option maxRecDepth 65536 in
theorem w_c5 : (Jvm.Cond.code ({ cls := "com/example/yealm/yealm/ccs/Moves", name := "addHandshake", desc := "(II)V" } : Jvm.MethodName) prog_17_method_4_code (3 : Nat) (Option.none : Option Jvm.ClassFile.FieldType)).before args0 about1 = true := code_word (m := ⟨2, 3⟩) (meth := k2m3) (c := k2c3) (by decide +kernel) rfl rfl rfl (by decide +kernel)
set_option maxRecDepth 65536 in
theorem w_c6 : (Jvm.Cond.code ({ cls := "com/example/yealm/yealm/ccs/Moves", name := "copy", desc := "(II)V" } : Jvm.MethodName) prog_17_method_11_code (3 : Nat) (Option.none : Option Jvm.ClassFile.FieldType)).before args0 about1 = true := code_word (m := ⟨2, 9⟩) (meth := k2m9) (c := k2c9) (by decide +kernel) rfl rfl rfl (by decide +kernel)
set_option maxRecDepth 65536 in
theorem w_c7 : (Jvm.Cond.code ({ cls := "com/example/yealm/yealm/ccs/Moves", name := "size", desc := "()I" } : Jvm.MethodName) prog_17_method_2_code (1 : Nat) (Option.some Jvm.ClassFile.FieldType.int)).before args0 about1 = true := code_word (m := ⟨2, 1⟩) (meth := k2m1) (c := k2c1) (by decide +kernel) rfl rfl rfl (by decide +kernel)
set_option maxRecDepth 65536 in
theorem w_c8 : (Jvm.Cond.code ({ cls := "com/example/yealm/yealm/ccs/MovesCopyPinLaw", name := "row", desc := "(Lcom/example/yealm/yealm/ccs/Moves;I[I)Z" } : Jvm.MethodName) method_2_code (3 : Nat) (Option.some Jvm.ClassFile.FieldType.boolean)).before args0 about1 = true := code_word (m := ⟨1, 1⟩) (meth := k1m1) (c := k1c1) (by decide +kernel) rfl rfl rfl (by decide +kernel)
set_option maxRecDepth 65536 in
theorem w_c9 : (Jvm.Cond.code ({ cls := "com/example/yealm/yealm/ccs/Moves", name := "getLabel", desc := "(I)I" } : Jvm.MethodName) prog_17_method_5_code (2 : Nat) (Option.some Jvm.ClassFile.FieldType.int)).before args0 about1 = true := code_word (m := ⟨2, 4⟩) (meth := k2m4) (c := k2c4) (by decide +kernel) rfl rfl rfl (by decide +kernel)
set_option maxRecDepth 65536 in
theorem w_c10 : (Jvm.Cond.code ({ cls := "com/example/yealm/yealm/ccs/Moves", name := "getPlace", desc := "(I)I" } : Jvm.MethodName) prog_17_method_7_code (2 : Nat) (Option.some Jvm.ClassFile.FieldType.int)).before args0 about1 = true := code_word (m := ⟨2, 5⟩) (meth := k2m5) (c := k2c5) (by decide +kernel) rfl rfl rfl (by decide +kernel)
set_option maxRecDepth 65536 in
theorem w_c11 : (Jvm.Cond.code ({ cls := "com/example/yealm/yealm/ccs/Moves", name := "getStep", desc := "(I)I" } : Jvm.MethodName) prog_17_method_8_code (2 : Nat) (Option.some Jvm.ClassFile.FieldType.int)).before args0 about1 = true := code_word (m := ⟨2, 6⟩) (meth := k2m6) (c := k2c6) (by decide +kernel) rfl rfl rfl (by decide +kernel)
set_option maxRecDepth 65536 in
theorem w_c12 : (Jvm.Cond.code ({ cls := "com/example/yealm/yealm/ccs/Moves", name := "getPartnerPlace", desc := "(I)I" } : Jvm.MethodName) prog_17_method_9_code (2 : Nat) (Option.some Jvm.ClassFile.FieldType.int)).before args0 about1 = true := code_word (m := ⟨2, 7⟩) (meth := k2m7) (c := k2c7) (by decide +kernel) rfl rfl rfl (by decide +kernel)
set_option maxRecDepth 65536 in
theorem w_c13 : (Jvm.Cond.code ({ cls := "com/example/yealm/yealm/ccs/Moves", name := "getPartnerStep", desc := "(I)I" } : Jvm.MethodName) prog_17_method_10_code (2 : Nat) (Option.some Jvm.ClassFile.FieldType.int)).before args0 about1 = true := code_word (m := ⟨2, 8⟩) (meth := k2m8) (c := k2c8) (by decide +kernel) rfl rfl rfl (by decide +kernel)
def codes1 : List Jvm.Cond := [Jvm.Cond.code x code maxLocals ret, Jvm.Cond.code ({ cls := "com/example/yealm/yealm/ccs/Moves", name := "<init>", desc := "()V" } : Jvm.MethodName) prog_17_method_1_code (1 : Nat) (Option.none : Option Jvm.ClassFile.FieldType), Jvm.Cond.code ({ cls := "java/lang/Object", name := "<init>", desc := "()V" } : Jvm.MethodName) object_method_1_code (1 : Nat) (Option.none : Option Jvm.ClassFile.FieldType), Jvm.Cond.code ({ cls := "com/example/yealm/yealm/ccs/Moves", name := "add", desc := "(III)V" } : Jvm.MethodName) prog_17_method_3_code (4 : Nat) (Option.none : Option Jvm.ClassFile.FieldType), Jvm.Cond.code ({ cls := "com/example/yealm/yealm/ccs/Moves", name := "grow", desc := "()V" } : Jvm.MethodName) prog_17_method_13_code (2 : Nat) (Option.none : Option Jvm.ClassFile.FieldType), Jvm.Cond.code ({ cls := "com/example/yealm/yealm/ccs/Moves", name := "addHandshake", desc := "(II)V" } : Jvm.MethodName) prog_17_method_4_code (3 : Nat) (Option.none : Option Jvm.ClassFile.FieldType), Jvm.Cond.code ({ cls := "com/example/yealm/yealm/ccs/Moves", name := "copy", desc := "(II)V" } : Jvm.MethodName) prog_17_method_11_code (3 : Nat) (Option.none : Option Jvm.ClassFile.FieldType), Jvm.Cond.code ({ cls := "com/example/yealm/yealm/ccs/Moves", name := "size", desc := "()I" } : Jvm.MethodName) prog_17_method_2_code (1 : Nat) (Option.some Jvm.ClassFile.FieldType.int), Jvm.Cond.code ({ cls := "com/example/yealm/yealm/ccs/MovesCopyPinLaw", name := "row", desc := "(Lcom/example/yealm/yealm/ccs/Moves;I[I)Z" } : Jvm.MethodName) method_2_code (3 : Nat) (Option.some Jvm.ClassFile.FieldType.boolean), Jvm.Cond.code ({ cls := "com/example/yealm/yealm/ccs/Moves", name := "getLabel", desc := "(I)I" } : Jvm.MethodName) prog_17_method_5_code (2 : Nat) (Option.some Jvm.ClassFile.FieldType.int), Jvm.Cond.code ({ cls := "com/example/yealm/yealm/ccs/Moves", name := "getPlace", desc := "(I)I" } : Jvm.MethodName) prog_17_method_7_code (2 : Nat) (Option.some Jvm.ClassFile.FieldType.int), Jvm.Cond.code ({ cls := "com/example/yealm/yealm/ccs/Moves", name := "getStep", desc := "(I)I" } : Jvm.MethodName) prog_17_method_8_code (2 : Nat) (Option.some Jvm.ClassFile.FieldType.int), Jvm.Cond.code ({ cls := "com/example/yealm/yealm/ccs/Moves", name := "getPartnerPlace", desc := "(I)I" } : Jvm.MethodName) prog_17_method_9_code (2 : Nat) (Option.some Jvm.ClassFile.FieldType.int), Jvm.Cond.code ({ cls := "com/example/yealm/yealm/ccs/Moves", name := "getPartnerStep", desc := "(I)I" } : Jvm.MethodName) prog_17_method_10_code (2 : Nat) (Option.some Jvm.ClassFile.FieldType.int)]
set_option maxRecDepth 65536 in
theorem codes_eq : words1.filter isCode = codes1 := rfl
theorem w_codes : ∀ c ∈ words1.filter isCode, c.before args0 about1 = true := by
  rw [codes_eq]
  intro c hc
  simp only [codes1, List.mem_cons, List.not_mem_nil, or_false] at hc
  rcases hc with rfl | rfl | rfl | rfl | rfl | rfl | rfl | rfl | rfl | rfl | rfl | rfl | rfl | rfl
  · exact w_c0
  · exact w_c1
  · exact w_c2
  · exact w_c3
  · exact w_c4
  · exact w_c5
  · exact w_c6
  · exact w_c7
  · exact w_c8
  · exact w_c9
  · exact w_c10
  · exact w_c11
  · exact w_c12
  · exact w_c13
set_option maxRecDepth 65536 in
theorem w_t1 : (words1.take 24).all (fun c => isCode c || c.before args0 about1) = true := by decide +kernel
set_option maxRecDepth 65536 in
theorem w_t2 : ((words1.drop 24).take 24).all (fun c => isCode c || c.before args0 about1) = true := by decide +kernel
set_option maxRecDepth 65536 in
theorem w_t3 : (((words1.drop 24).drop 24).take 24).all (fun c => isCode c || c.before args0 about1) = true := by decide +kernel
set_option maxRecDepth 65536 in
theorem w_t4 : (((words1.drop 24).drop 24).drop 24).all (fun c => isCode c || c.before args0 about1) = true := by decide +kernel
theorem w_tables : (allAtoms (Jvm.Cond.code x code maxLocals ret :: tables_1)).before args0 about1 = true := by
  rw [allAtoms_all]
  show words1.all (fun c => c.before args0 about1) = true
  refine all_split ?_ w_codes
  rw [← List.take_append_drop 24 words1, List.all_append, w_t1, ← List.take_append_drop 24 (words1.drop 24), List.all_append, w_t2, ← List.take_append_drop 24 ((words1.drop 24).drop 24), List.all_append, w_t3, w_t4]
  rfl
set_option maxRecDepth 65536 in
theorem w_case : (Jvm.Cond.and given_1 narrow_1).before args0 about1 = true := by decide +kernel
theorem w_applies : (headSpec (Jvm.Cond.code x code maxLocals ret :: tables_1) room_1).applies x e0.platform about1 = true :=
  (Spec.applies_iff w_frames).mpr ⟨w_running, w_runnable, w_alone, w_named, w_hears, w_ripe, w_room, w_tables⟩
theorem atStart : AtStart classFile x code maxLocals ret World_1 tables_1 room_1 Calls_1 rest_1 Pre_1 launch0 p0 e0 about1 theMethod args0 below0 :=
  ⟨lists_1, trivial, launch0.admits_env _ _ _, launch0.least_env, fairChoices_fair.cas, fairChoices_fair.clock, w_frames, w_args, w_heap, w_applies, trivial, trivial, w_case⟩
end start1
theorem witness_1 : WitnessClaimed_1 := ⟨start1.p0, start1.e0, start1.about1, start1.theMethod, start1.args0, start1.below0, start1.atStart⟩
end Jvm.Pilot.@@N@@
