import JvmDerived
import JvmDerived.Pilot.@@N@@Statement
import JvmDerived.Pilot.@@N@@Code
set_option linter.unusedVariables false
set_option linter.unusedSimpArgs false
namespace Jvm.RoadKit
open Sem ClassFile Op Lib Jvm.Stand Jvm.Free Jvm.LawKit
section New
variable {p : Program} {l : Launch} {e : Env} {R : Room} {s : State} {m : MethodId} {args : Array Value} {below : List Frame} {meth : Method} {c : Code} {T : State} {locs : List Loc} {cells slots : Nat}
theorem retI (X : Stand p l e R s m args below meth c T locs cells slots) (hx : p.tables.exec = Jvm.exec) {pc : Nat} {Ls : Array Slot} {z : Int32} {rest : List Value} (hret : meth.sig.returnType = some .int) (hd : decode c.code pc = .ok (.ireturn, 1)) {fs : List Frame}
    (hl : ∀ (f : JFrame) (acts : List Action), f.method = m → f.locked = none → f.entered = [] → (doReturn e (T.setTop f) acts (some (.int z))).1 = T.setFrames fs) : Steps p.tables e below (T.setTop (mkF m pc Ls (.int z :: rest))) (T.setFrames fs) := by
  have hm' : T.vm.method? m = some meth := X.method'
  have hn : narrow .int (.int z) = .int z := rfl
  show Steps p.tables e below (T.setTop { method := m, pc := pc, locals := Ls, stack := _ :: rest, locked := none }) _
  jvm_step X.here [X.here.top, hx, hd, hm', hret, hn]
  first | (intro acts; rw [hl _ acts rfl rfl rfl]) | rw [hl _ _ rfl rfl rfl]
  exact Steps.refl _
end New
end Jvm.RoadKit
namespace Jvm.Pilot.@@N@@
open Jvm Jvm.ClassFile Sem Op Lib Jvm.Free Jvm.Stand Jvm.LawKit Jvm.RoadKit Bundle Jvm.Pilot.@@N@@.Jvm.D

theorem pd_0 : parseMethodDescriptor "()V" = some ⟨[], none⟩ := by decide +kernel
theorem pd_1 : parseMethodDescriptor "(J)V" = some ⟨[.long], none⟩ := by decide +kernel
theorem pd_2 : parseMethodDescriptor "(I)I" = some ⟨[.int], some .int⟩ := by decide +kernel
theorem pd_3 : parseMethodDescriptor "(J)J" = some ⟨[.long], some .long⟩ := by decide +kernel
theorem pd_4 : parseMethodDescriptor "(IIJ)V" = some ⟨[.int, .int, .long], none⟩ := by decide +kernel
theorem pd_5 : parseMethodDescriptor "(Ljava/lang/Object;)Z" = some ⟨[(.object "java/lang/Object")], some .boolean⟩ := by decide +kernel
theorem pd_6 : parseMethodDescriptor "(J)Ljava/lang/Long;" = some ⟨[.long], some (.object "java/lang/Long")⟩ := by decide +kernel
/-- what the sets say of Long's cache, at the start -/
def own_cache (Z : State) : Prop := ∃ (wc : Addr) (cl : Cell), Sta Z Z.heap "java/lang/Long$LongCache" "cache" "[Ljava/lang/Long;" (.ref wc) ∧ Arr Z Z.heap wc cl (.object "java/lang/Long") ∧ cl.slots.size = 256 ∧
  ∀ j : Int32, ¬ (j < 0 ∨ cl.slots.size ≤ j.toNatClampNeg) → ∃ r : Addr, cl.slots[j.toNatClampNeg]? = some (.ref r) ∧ Exa Z Z.heap r "java/lang/Long"
theorem own_old {Z : State} {n0 : Nat} {h : Heap} (O : Old Z n0 h) : Ext Z.heap h := O.2
theorem own_iff {p : Prop} [Decidable p] {q : Prop} [Decidable q] (h : p ↔ q) : (if p then (1 : Int32) else 0) = if q then 1 else 0 := by
  by_cases g : q
  · rw [if_pos g, if_pos (h.mpr g)]
  · rw [if_neg g, if_neg (fun z => g (h.mp z))]
/-- Long stands beneath Number and Object alone: a class of another name is none of them -/
theorem own_long_no {Z : State} {a0 : Array Value} {K : String} {n : Nat} (w1 : (Cond.superclass "java/lang/Long" "java/lang/Number").before a0 Z = true) (w2 : (Cond.superclass "java/lang/Number" "java/lang/Object").before a0 Z = true) (w3 : (Cond.noSuperclass "java/lang/Object").before a0 Z = true) (wk : (Cond.instantiable K n).before a0 Z = true)
    (n1 : "java/lang/Long" ≠ K) (n2 : "java/lang/Number" ≠ K) (n3 : "java/lang/Object" ≠ K) : ∃ c t, Z.vm.findClass "java/lang/Long" = some c ∧ Z.vm.findClass K = some t ∧ Z.vm.assignable c t = false := by
  obtain ⟨cL, fL⟩ := found_sup w1
  obtain ⟨cN, kL, -, fN, aL, -, uL, dL, -, -⟩ := Cond.superclass_spec fL w1
  obtain ⟨cO, kN, -, fO, aN, -, uN, -⟩ := Cond.superclass_spec fN w2
  obtain ⟨cO', kO, fO', aO, uO, -⟩ := Cond.noSuperclass_spec w3
  obtain rfl : cO = cO' := Option.some.inj (fO.symm.trans fO')
  obtain ⟨t, kt, ft, at', dt, it, -⟩ := Cond.instantiable_spec wk
  have iface : kt.isInterface = false := (Bool.or_eq_false_iff.mp it).1
  have up0 : ∀ f, Z.vm.isSubclassAux f cO t = false := fun f => by
    rcases f with _ | f
    · rfl
    · simp [Vm.isSubclassAux, ids_ne fO ft n3, aO, uO]
  have up1 : ∀ f, Z.vm.isSubclassAux f cN t = false := fun f => by
    rcases f with _ | f
    · rfl
    · simp [Vm.isSubclassAux, ids_ne fN ft n2, aN, uN, up0 f]
  have up2 : Z.vm.isSubclass cL t = false := by
    simp [Vm.isSubclass, Vm.isSubclassAux, ids_ne fL ft n1, aL, uL, up1]
  refine ⟨cL, t, fL, ft, ?_⟩
  unfold Vm.assignable
  simp [Vm.assignableAux, ids_ne fL ft n1, aL, at', dL, dt, iface, up2]
theorem own_place (w : Int64) (h1 : ¬ lcmpW w (-128 : Int64) < 0) (h2 : ¬ (0 : Int32) < lcmpW w (127 : Int64)) {cl : Cell} (h : cl.slots.size = 256) : ¬ ((w.toInt32 + (128 : Int32)) < 0 ∨ cl.slots.size ≤ (w.toInt32 + (128 : Int32)).toNatClampNeg) := by
  rw [lw_lt] at h1
  rw [lw_gt] at h2
  rw [h]
  rw [Int64.lt_iff_toInt_lt] at h1 h2
  have e1 : (-128 : Int64).toInt = -128 := by decide
  have e2 : (127 : Int64).toInt = 127 := by decide
  have e3 : (128 : Int32).toInt = 128 := by decide
  have a1 := c_l2i w
  have a2 := c_iadd w.toInt32 128
  have r1 := rng32 w.toInt32
  have r2 := rng32 (w.toInt32 + 128)
  rw [Int32.lt_iff_toInt_lt, Int32.toNatClampNeg]
  have e4 : (0 : Int32).toInt = 0 := by decide
  omega

theorem own_cache_of {s : State} {args : Array Value}
    (w0 : (Cond.laysStatic "java/lang/Long$LongCache" "cache" "[Ljava/lang/Long;").before args s = true)
    (w1 : (Cond.initializedFor "java/lang/Long$LongCache" "cache" "[Ljava/lang/Long;").before args s = true)
    (w2 : (Cond.arrayOf (Term.static "java/lang/Long$LongCache" "cache" "[Ljava/lang/Long;") (FieldType.object "java/lang/Long")).before args s = true)
    (w4 : (Cond.eq (Term.length (Term.static "java/lang/Long$LongCache" "cache" "[Ljava/lang/Long;")) (Term.int 256)).before args s = true)
    {u : Cond} (w5 : (Cond.all (Term.static "java/lang/Long$LongCache" "cache" "[Ljava/lang/Long;") (Cond.and (Cond.exactly (Term.elem (Term.static "java/lang/Long$LongCache" "cache" "[Ljava/lang/Long;") (Term.index 0)) "java/lang/Long") u)).before args s = true) : own_cache s := by
  have v2 := Cond.before_iff.mp w2
  have v4 := Cond.before_iff.mp w4
  have v5 := Cond.before_iff.mp w5
  obtain ⟨wc, ev⟩ := arr_v v2
  obtain ⟨cl, CA⟩ := Arr.start ev v2
  have hAt : s.arrayAt? wc = some cl := CA.fin (Vm.Alike.refl _)
  have hsz : cl.slots.size = 256 := by
    obtain ⟨hl, hq⟩ := Jvm.Free.IntBox.length_fwd w4 ev CA.1 CA.2.1 CA.2.2
    have e1 : (cl.slots.size.toInt32).toInt = (cl.slots.size : Int) := len_toInt hl
    rw [hq] at e1
    have e2 : (256 : Int32).toInt = 256 := by decide
    omega
  refine ⟨wc, cl, Sta.start ev (Or.inl w1), CA, hsz, fun j hj => ?_⟩
  have hj0 : ¬ j < 0 := fun q => hj (Or.inl q)
  have hj1 : j.toNatClampNeg < cl.slots.size := Nat.lt_of_not_le fun q => hj (Or.inr q)
  have hall := Cond.all_elim ev hAt v5 j.toNatClampNeg hj1
  obtain ⟨h1, -⟩ := and_e hall
  obtain ⟨r, er⟩ := exa_v h1
  have ev' : (Term.static "java/lang/Long$LongCache" "cache" "[Ljava/lang/Long;").eval args s none [j.toNatClampNeg] s = some (.ref wc) := ev
  have hin := elem_in er ev' (idx_at hj0) CA.1
  exact ⟨r, hin.2, exa_at er h1⟩

def own_fi (v : Int32) : Int32 := if v = (-2147483648 : Int32) then 0 else v
def own_fl (v : Int64) : Int64 := if (lcmpW v (-9223372036854775808 : Int64)) = (0 : Int32) then 0 else v
def own_eq (x1 x2 : Int32) (x3 : Int64) (y1 y2 : Int32) (y3 : Int64) : Int32 := if x1 = y1 then (if x2 = y2 then (if (lcmpW x3 y3) = (0 : Int32) then 1 else 0) else 0) else 0
theorem own_fi_ne (v : Int32) : ¬ own_fi v = (-2147483648 : Int32) := by
  unfold own_fi; by_cases h : v = (-2147483648 : Int32)
  · rw [if_pos h]; decide
  · rw [if_neg h]; exact h
theorem own_fl_ne (v : Int64) : ¬ (lcmpW (own_fl v) (-9223372036854775808 : Int64)) = (0 : Int32) := by
  unfold own_fl; by_cases h : (lcmpW v (-9223372036854775808 : Int64)) = (0 : Int32)
  · rw [if_pos h]; decide
  · rw [if_neg h]; exact h
theorem own_fi2 {c : Prop} [Decidable c] {v x y : Int32} (h : v = if c then own_fi x else own_fi y) : ¬ v = (-2147483648 : Int32) := by
  subst h; by_cases q : c
  · rw [if_pos q]; exact own_fi_ne x
  · rw [if_neg q]; exact own_fi_ne y
theorem own_fl2 {c : Prop} [Decidable c] {v x y : Int64} (h : v = if c then own_fl x else own_fl y) : ¬ (lcmpW v (-9223372036854775808 : Int64)) = (0 : Int32) := by
  subst h; by_cases q : c
  · rw [if_pos q]; exact own_fl_ne x
  · rw [if_neg q]; exact own_fl_ne y
theorem own_eq_iff (x1 x2 : Int32) (x3 : Int64) (y1 y2 : Int32) (y3 : Int64) : own_eq x1 x2 x3 y1 y2 y3 = if (x1 = y1 ∧ x2 = y2 ∧ x3 = y3) then 1 else 0 := by
  unfold own_eq; simp only [lw_eq]
  by_cases h1 : x1 = y1 <;> by_cases h2 : x2 = y2 <;> by_cases h3 : x3 = y3 <;> simp [h1, h2, h3]
theorem own_eq_symm (x1 x2 : Int32) (x3 : Int64) (y1 y2 : Int32) (y3 : Int64) : own_eq x1 x2 x3 y1 y2 y3 = own_eq y1 y2 y3 x1 x2 x3 := by
  rw [own_eq_iff, own_eq_iff]
  exact own_iff ⟨fun ⟨a, b, c⟩ => ⟨a.symm, b.symm, c.symm⟩, fun ⟨a, b, c⟩ => ⟨a.symm, b.symm, c.symm⟩⟩
theorem own_eq_refl (x1 x2 : Int32) (x3 : Int64) : ¬ own_eq x1 x2 x3 x1 x2 x3 = (0 : Int32) := by rw [own_eq_iff]; simp
theorem d1_0 : decode method_2_code 0 = .ok (.iload_n 0, 1) := by decide +kernel
theorem d1_1 : decode method_2_code 1 = .ok (.ldc 9, 2) := by decide +kernel
theorem d1_3 : decode method_2_code 3 = .ok (.if_icmp .ne 7, 3) := by decide +kernel
theorem d1_6 : decode method_2_code 6 = .ok (.iconst 0, 1) := by decide +kernel
theorem d1_7 : decode method_2_code 7 = .ok (.goto 4, 3) := by decide +kernel
theorem d1_10 : decode method_2_code 10 = .ok (.iload_n 0, 1) := by decide +kernel
theorem d1_11 : decode method_2_code 11 = .ok (.ireturn, 1) := by decide +kernel
theorem pn_1 : plainName "com/example/tuplewise/tuplewise/value/TimeIntervalValueEqualsPinLaw" = true := by first | (simp [plainName, overriddenIn]; done) | decide +kernel
theorem d2_0 : decode method_3_code 0 = .ok (.lload_n 0, 1) := by decide +kernel
theorem d2_1 : decode method_3_code 1 = .ok (.ldc2_w 12, 3) := by decide +kernel
theorem d2_4 : decode method_3_code 4 = .ok (.lcmp, 1) := by decide +kernel
theorem d2_5 : decode method_3_code 5 = .ok (.ifCond .ne 7, 3) := by decide +kernel
theorem d2_8 : decode method_3_code 8 = .ok (.lconst 0, 1) := by decide +kernel
theorem d2_9 : decode method_3_code 9 = .ok (.goto 4, 3) := by decide +kernel
theorem d2_12 : decode method_3_code 12 = .ok (.lload_n 0, 1) := by decide +kernel
theorem d2_13 : decode method_3_code 13 = .ok (.lreturn, 1) := by decide +kernel
theorem pn_2 : plainName "com/example/tuplewise/tuplewise/value/TimeIntervalValueEqualsPinLaw" = true := by first | (simp [plainName, overriddenIn]; done) | decide +kernel
theorem d3_0 : decode prog_304_method_1_code 0 = .ok (.aload_n 0, 1) := by decide +kernel
theorem d3_1 : decode prog_304_method_1_code 1 = .ok (.invokespecial 3, 3) := by decide +kernel
theorem d3_4 : decode prog_304_method_1_code 4 = .ok (.iload_n 1, 1) := by decide +kernel
theorem d3_5 : decode prog_304_method_1_code 5 = .ok (.ldc 11, 2) := by decide +kernel
theorem d3_7 : decode prog_304_method_1_code 7 = .ok (.if_icmp .eq 17, 3) := by decide +kernel
theorem d3_10 : decode prog_304_method_1_code 10 = .ok (.iload_n 2, 1) := by decide +kernel
theorem d3_11 : decode prog_304_method_1_code 11 = .ok (.ldc 11, 2) := by decide +kernel
theorem d3_13 : decode prog_304_method_1_code 13 = .ok (.if_icmp .eq 11, 3) := by decide +kernel
theorem d3_16 : decode prog_304_method_1_code 16 = .ok (.lload_n 3, 1) := by decide +kernel
theorem d3_17 : decode prog_304_method_1_code 17 = .ok (.ldc2_w 14, 3) := by decide +kernel
theorem d3_20 : decode prog_304_method_1_code 20 = .ok (.lcmp, 1) := by decide +kernel
theorem d3_21 : decode prog_304_method_1_code 21 = .ok (.ifCond .ne 13, 3) := by decide +kernel
theorem d3_24 : decode prog_304_method_1_code 24 = .ok (.new 16, 3) := by decide +kernel
theorem d3_27 : decode prog_304_method_1_code 27 = .ok (.dup, 1) := by decide +kernel
theorem d3_28 : decode prog_304_method_1_code 28 = .ok (.ldc 18, 2) := by decide +kernel
theorem d3_30 : decode prog_304_method_1_code 30 = .ok (.invokespecial 20, 3) := by decide +kernel
theorem d3_33 : decode prog_304_method_1_code 33 = .ok (.athrow, 1) := by decide +kernel
theorem d3_34 : decode prog_304_method_1_code 34 = .ok (.aload_n 0, 1) := by decide +kernel
theorem d3_35 : decode prog_304_method_1_code 35 = .ok (.iload_n 1, 1) := by decide +kernel
theorem d3_36 : decode prog_304_method_1_code 36 = .ok (.putfield 23, 3) := by decide +kernel
theorem d3_39 : decode prog_304_method_1_code 39 = .ok (.aload_n 0, 1) := by decide +kernel
theorem d3_40 : decode prog_304_method_1_code 40 = .ok (.iload_n 2, 1) := by decide +kernel
theorem d3_41 : decode prog_304_method_1_code 41 = .ok (.putfield 27, 3) := by decide +kernel
theorem d3_44 : decode prog_304_method_1_code 44 = .ok (.aload_n 0, 1) := by decide +kernel
theorem d3_45 : decode prog_304_method_1_code 45 = .ok (.lload_n 3, 1) := by decide +kernel
theorem d3_46 : decode prog_304_method_1_code 46 = .ok (.putfield 30, 3) := by decide +kernel
theorem d3_49 : decode prog_304_method_1_code 49 = .ok (.return_, 1) := by decide +kernel
theorem pn_3 : plainName "com/example/tuplewise/tuplewise/value/TimeIntervalValue" = true := by first | (simp [plainName, overriddenIn]; done) | decide +kernel
theorem d4_0 : decode jdk_30_method_1_code 0 = .ok (.aload_n 0, 1) := by decide +kernel
theorem d4_1 : decode jdk_30_method_1_code 1 = .ok (.invokespecial 1, 3) := by decide +kernel
theorem d4_4 : decode jdk_30_method_1_code 4 = .ok (.return_, 1) := by decide +kernel
theorem pn_4 : plainName "java/lang/Record" = true := by first | (simp [plainName, overriddenIn]; done) | decide +kernel
theorem d6_0 : decode prog_304_method_5_code 0 = .ok (.aload_n 1, 1) := by decide +kernel
theorem d6_1 : decode prog_304_method_5_code 1 = .ok (.instanceof 1, 3) := by decide +kernel
theorem d6_4 : decode prog_304_method_5_code 4 = .ok (.ifCond .eq 46, 3) := by decide +kernel
theorem d6_7 : decode prog_304_method_5_code 7 = .ok (.aload_n 1, 1) := by decide +kernel
theorem d6_8 : decode prog_304_method_5_code 8 = .ok (.checkcast 1, 3) := by decide +kernel
theorem d6_11 : decode prog_304_method_5_code 11 = .ok (.astore_n 2, 1) := by decide +kernel
theorem d6_12 : decode prog_304_method_5_code 12 = .ok (.aload_n 0, 1) := by decide +kernel
theorem d6_13 : decode prog_304_method_5_code 13 = .ok (.getfield 23, 3) := by decide +kernel
theorem d6_16 : decode prog_304_method_5_code 16 = .ok (.aload_n 2, 1) := by decide +kernel
theorem d6_17 : decode prog_304_method_5_code 17 = .ok (.getfield 23, 3) := by decide +kernel
theorem d6_20 : decode prog_304_method_5_code 20 = .ok (.if_icmp .ne 30, 3) := by decide +kernel
theorem d6_23 : decode prog_304_method_5_code 23 = .ok (.aload_n 0, 1) := by decide +kernel
theorem d6_24 : decode prog_304_method_5_code 24 = .ok (.getfield 27, 3) := by decide +kernel
theorem d6_27 : decode prog_304_method_5_code 27 = .ok (.aload_n 2, 1) := by decide +kernel
theorem d6_28 : decode prog_304_method_5_code 28 = .ok (.getfield 27, 3) := by decide +kernel
theorem d6_31 : decode prog_304_method_5_code 31 = .ok (.if_icmp .ne 19, 3) := by decide +kernel
theorem d6_34 : decode prog_304_method_5_code 34 = .ok (.aload_n 0, 1) := by decide +kernel
theorem d6_35 : decode prog_304_method_5_code 35 = .ok (.getfield 30, 3) := by decide +kernel
theorem d6_38 : decode prog_304_method_5_code 38 = .ok (.aload_n 2, 1) := by decide +kernel
theorem d6_39 : decode prog_304_method_5_code 39 = .ok (.getfield 30, 3) := by decide +kernel
theorem d6_42 : decode prog_304_method_5_code 42 = .ok (.lcmp, 1) := by decide +kernel
theorem d6_43 : decode prog_304_method_5_code 43 = .ok (.ifCond .ne 7, 3) := by decide +kernel
theorem d6_46 : decode prog_304_method_5_code 46 = .ok (.iconst 1, 1) := by decide +kernel
theorem d6_47 : decode prog_304_method_5_code 47 = .ok (.goto 4, 3) := by decide +kernel
theorem d6_50 : decode prog_304_method_5_code 50 = .ok (.iconst 0, 1) := by decide +kernel
theorem d6_51 : decode prog_304_method_5_code 51 = .ok (.ireturn, 1) := by decide +kernel
theorem pn_6 : plainName "com/example/tuplewise/tuplewise/value/TimeIntervalValue" = true := by first | (simp [plainName, overriddenIn]; done) | decide +kernel
theorem pn_0 : plainName "com/example/tuplewise/tuplewise/value/TimeIntervalValueEqualsPinLaw" = true := by first | (simp [plainName, overriddenIn]; done) | decide +kernel
theorem d7_0 : decode jdk_35_method_24_code 0 = .ok (.sipush 128, 3) := by decide +kernel
theorem d7_3 : decode jdk_35_method_24_code 3 = .ok (.istore_n 2, 1) := by decide +kernel
theorem d7_4 : decode jdk_35_method_24_code 4 = .ok (.lload_n 0, 1) := by decide +kernel
theorem d7_5 : decode jdk_35_method_24_code 5 = .ok (.ldc2_w 230, 3) := by decide +kernel
theorem d7_8 : decode jdk_35_method_24_code 8 = .ok (.lcmp, 1) := by decide +kernel
theorem d7_9 : decode jdk_35_method_24_code 9 = .ok (.ifCond .lt 22, 3) := by decide +kernel
theorem d7_12 : decode jdk_35_method_24_code 12 = .ok (.lload_n 0, 1) := by decide +kernel
theorem d7_13 : decode jdk_35_method_24_code 13 = .ok (.ldc2_w 232, 3) := by decide +kernel
theorem d7_16 : decode jdk_35_method_24_code 16 = .ok (.lcmp, 1) := by decide +kernel
theorem d7_17 : decode jdk_35_method_24_code 17 = .ok (.ifCond .gt 14, 3) := by decide +kernel
theorem d7_20 : decode jdk_35_method_24_code 20 = .ok (.getstatic 234, 3) := by decide +kernel
theorem d7_23 : decode jdk_35_method_24_code 23 = .ok (.lload_n 0, 1) := by decide +kernel
theorem d7_24 : decode jdk_35_method_24_code 24 = .ok (.l2i, 1) := by decide +kernel
theorem d7_25 : decode jdk_35_method_24_code 25 = .ok (.sipush 128, 3) := by decide +kernel
theorem d7_28 : decode jdk_35_method_24_code 28 = .ok (.iadd, 1) := by decide +kernel
theorem d7_29 : decode jdk_35_method_24_code 29 = .ok (.aaload, 1) := by decide +kernel
theorem d7_30 : decode jdk_35_method_24_code 30 = .ok (.areturn, 1) := by decide +kernel
theorem d7_31 : decode jdk_35_method_24_code 31 = .ok (.new 1, 3) := by decide +kernel
theorem d7_34 : decode jdk_35_method_24_code 34 = .ok (.dup, 1) := by decide +kernel
theorem d7_35 : decode jdk_35_method_24_code 35 = .ok (.lload_n 0, 1) := by decide +kernel
theorem d7_36 : decode jdk_35_method_24_code 36 = .ok (.invokespecial 240, 3) := by decide +kernel
theorem d7_39 : decode jdk_35_method_24_code 39 = .ok (.areturn, 1) := by decide +kernel
theorem pn_7 : plainName "java/lang/Long" = true := by first | (simp [plainName, overriddenIn]; done) | decide +kernel
theorem d8_0 : decode jdk_35_method_26_code 0 = .ok (.aload_n 0, 1) := by decide +kernel
theorem d8_1 : decode jdk_35_method_26_code 1 = .ok (.invokespecial 270, 3) := by decide +kernel
theorem d8_4 : decode jdk_35_method_26_code 4 = .ok (.aload_n 0, 1) := by decide +kernel
theorem d8_5 : decode jdk_35_method_26_code 5 = .ok (.lload_n 1, 1) := by decide +kernel
theorem d8_6 : decode jdk_35_method_26_code 6 = .ok (.putfield 273, 3) := by decide +kernel
theorem d8_9 : decode jdk_35_method_26_code 9 = .ok (.return_, 1) := by decide +kernel
theorem pn_8 : plainName "java/lang/Long" = true := by first | (simp [plainName, overriddenIn]; done) | decide +kernel
theorem d9_0 : decode jdk_18_method_1_code 0 = .ok (.aload_n 0, 1) := by decide +kernel
theorem d9_1 : decode jdk_18_method_1_code 1 = .ok (.invokespecial 1, 3) := by decide +kernel
theorem d9_4 : decode jdk_18_method_1_code 4 = .ok (.return_, 1) := by decide +kernel
theorem pn_9 : plainName "java/lang/Number" = true := by first | (simp [plainName, overriddenIn]; done) | decide +kernel
theorem ef_9 (m : MethodId) (a1 : Addr) : entryFrame m #[(.ref a1)] 1 = mkF m 0 #[.val (.ref a1)] [] := by first | (simp [entryFrame, mkF, argsToLocals, Value.category]; done) | rfl
def Q9 (h0 : Heap) (n0 : Nat) (v : Option Value) (h : Heap) (L : List Loc) : Prop := v = none ∧ Fr n0 L ∧ h = h0
set_option maxRecDepth 65536 in
set_option maxHeartbeats 40000000 in
theorem rm9 (l : Launch) (Z : State) (a0 : Array Value) (hw : ∀ d ∈ tables_1, d.before a0 Z = true) (ws : List Jvm.Cond) (a1 : Addr) (h0 : Heap) (n0 : Nat) (Z0 : n0 ≤ h0.size) :
    MetFree l (⟨"java/lang/Number", "<init>", "()V"⟩ : MethodName) (head1 (Jvm.Cond.code (⟨"java/lang/Number", "<init>", "()V"⟩ : MethodName) jdk_18_method_1_code 1 none :: ws) ({ frames := 1, cells := 0, slots := 0, locals := 12 } : Room)) (fun a U => a = #[(.ref a1)] ∧ Z.Warmed39 U.vm ∧ U.heap = h0) (fun _ _ _ _ _ => True) (fun _ U o U' => ∃ v L, o = .returned v ∧ Q9 h0 n0 v U'.heap L ∧ FrameEnd U o U' L ({ frames := 1, cells := 0, slots := 0, locals := 12 } : Room).cells ({ frames := 1, cells := 0, slots := 0, locals := 12 } : Room).slots) := by
  refine MetFree.of_bodySF (plainFor_of_name pn_9) hisR ?_
  intro p e s m args below meth c s₁ Bd hml0 hP hK
  obtain ⟨rfl, hZ, hh⟩ := hP
  have hx := Bd.exec
  have hby := Bd.bytes
  have hml : c.maxLocals = 1 := hml0
  have hown : s.vm.findClass "java/lang/Number" = some m.cls := findClass_of_methodNamed Bd.named
  have hnm := (name_of_methodNamed Bd.named Bd.method).1
  have X0 : Stand p l e ({ frames := 1, cells := 0, slots := 0, locals := 12 } : Room) s m #[(.ref a1)] below meth c s₁ [] 0 0 := Stand.of_body Bd
  have e0 : s₁.heap = h0 := by rw [← hh, Bd.state]; rfl
  have N0 := Fr.nil n0
  have pre0 : ∀ tgt, Steps p.tables e below (s₁.setTop (mkF m 0 #[.val (.ref a1)] [])) tgt → Steps p.tables e below (s₁.setTop (entryFrame m #[(.ref a1)] 1)) tgt := fun tgt k => castTop (ef_9 m a1) k
  obtain ⟨T1, X1, e1, st1⟩ := initO X0 hx hZ hown (hw _ (List.mem_of_getElem? (i := 56) rfl)) (hw _ (List.mem_of_getElem? (i := 21) rfl)) (hw _ (List.mem_of_getElem? (i := 22) rfl)) e0 (g := (mkF m 1 #[.val (.ref a1)] [(.ref a1)])) rfl (by rw [hml]; rfl) rfl (hb hby d9_1) (by decide) (W := 0) (by show 2 * 0 + _ ≤ _; exact Nat.le_of_eq rfl) (by decide)
  obtain ⟨fs, hr, hrun, hended, hW, hsame⟩ := X1.leave (v := none) (fun _ => rfl)
  refine ⟨_, _, pre0 _ ?_, hrun, hended, _, _, rfl, ?_, ⟨_, rfl⟩, hW, hsame.mono (by decide) (by decide)⟩
  · show Steps p.tables e below (s₁.setTop (mkF m 0 #[.val (.ref a1)] [])) _
    refine XS.aloadN X0.here hx rfl (hb hby d9_0) rfl rfl ?_
    show Steps p.tables e below (s₁.setTop (mkF m 1 #[.val (.ref a1)] [(.ref a1)])) _
    refine st1 _ ?_
    show Steps p.tables e below (T1.setTop (mkF m 4 #[.val (.ref a1)] [])) _
    exact X1.returnOut hx Bd.returns (hb hby d9_4) hr
  · show Q9 h0 n0 _ T1.heap _
    rw [e1]
    exact ⟨rfl, N0, rfl⟩
theorem ef_8 (m : MethodId) (a1 : Addr) (x1 : Int64) : entryFrame m #[(.ref a1), (.long x1)] 3 = mkF m 0 #[.val (.ref a1), .val (.long x1), .second] [] := by first | (simp [entryFrame, mkF, argsToLocals, Value.category]; done) | rfl
def Q8 (Z : State) (a1 : Addr) (h0 : Heap) (n0 : Nat) (v : Option Value) (h : Heap) (L : List Loc) : Prop := v = none ∧ Fr n0 L ∧ Keep h0 h [a1] ∧ Exa Z h a1 "java/lang/Long"
set_option maxRecDepth 65536 in
set_option maxHeartbeats 40000000 in
theorem rm8 (l : Launch) (Z : State) (a0 : Array Value) (hw : ∀ d ∈ tables_1, d.before a0 Z = true) (ws : List Jvm.Cond) (a1 : Addr) (x1 : Int64) (u1 : Value) (h0 : Heap) (n0 : Nat) (Z0 : n0 ≤ h0.size) (E_a1 : Exa Z h0 a1 "java/lang/Long") (g_a1 : n0 ≤ a1) (F_value : Fld Z h0 a1 "java/lang/Long" "value" "J" u1) :
    MetFree l (⟨"java/lang/Long", "<init>", "(J)V"⟩ : MethodName) (head1 (Jvm.Cond.code (⟨"java/lang/Long", "<init>", "(J)V"⟩ : MethodName) jdk_35_method_26_code 3 none :: ws) ({ frames := 2, cells := 0, slots := 0, locals := 24 } : Room)) (fun a U => a = #[(.ref a1), (.long x1)] ∧ Z.Warmed39 U.vm ∧ U.heap = h0) (fun _ _ _ _ _ => True) (fun _ U o U' => ∃ v L, o = .returned v ∧ Q8 Z a1 h0 n0 v U'.heap L ∧ FrameEnd U o U' L ({ frames := 2, cells := 0, slots := 0, locals := 24 } : Room).cells ({ frames := 2, cells := 0, slots := 0, locals := 24 } : Room).slots) := by
  refine MetFree.of_bodySF (plainFor_of_name pn_8) hisR ?_
  intro p e s m args below meth c s₁ Bd hml0 hP hK
  obtain ⟨rfl, hZ, hh⟩ := hP
  have hx := Bd.exec
  have hby := Bd.bytes
  have hml : c.maxLocals = 3 := hml0
  have hown : s.vm.findClass "java/lang/Long" = some m.cls := findClass_of_methodNamed Bd.named
  have hnm := (name_of_methodNamed Bd.named Bd.method).1
  have X0 : Stand p l e ({ frames := 2, cells := 0, slots := 0, locals := 24 } : Room) s m #[(.ref a1), (.long x1)] below meth c s₁ [] 0 0 := Stand.of_body Bd
  have e0 : s₁.heap = h0 := by rw [← hh, Bd.state]; rfl
  have N0 := Fr.nil n0
  have pre0 : ∀ tgt, Steps p.tables e below (s₁.setTop (mkF m 0 #[.val (.ref a1), .val (.long x1), .second] [])) tgt → Steps p.tables e below (s₁.setTop (entryFrame m #[(.ref a1), (.long x1)] 3)) tgt := fun tgt k => castTop (ef_8 m a1 x1) k
  obtain ⟨_, _, ⟨T1, L1, k1, n1⟩, -, X1, ⟨Lc1, hQ1, l1, y1, z1⟩, st1⟩ := X0.specialBack hx (y := (⟨"java/lang/Number", "<init>", "()V"⟩ : MethodName)) rfl hown (mvT hZ (hw _ (List.mem_of_getElem? (i := 50) rfl))) (mvT hZ (hw _ (List.mem_of_getElem? (i := 51) rfl))) (mvT hZ (hw _ (List.mem_of_getElem? (i := 55) rfl))) (by decide) (backOf (W := 0) (rm9 l Z a0 hw [] a1 h0 n0 Z0) hZ (hw _ (List.mem_of_getElem? (i := 55) rfl)) (hw _ (List.mem_of_getElem? (i := 54) rfl)) (by decide) (by decide)) (g := (mkF m 1 #[.val (.ref a1), .val (.long x1), .second] [(.ref a1)])) rfl (by rw [hml]; rfl) (Steps.refl _) (a := a1) (argsL := []) (rest := []) (lenOf pd_0 rfl) rfl (by show 2 * 0 + _ ≤ _; exact Nat.le_of_eq rfl) (hb hby d8_1) (fun _ _ => ⟨rfl, e0, (by decide : 0 + 0 ≤ _), (by decide : 0 + 0 ≤ _)⟩)
  dsimp only [Pt.U, Pt.locs, Pt.cells, Pt.slots] at X1 l1 y1 z1 st1 hQ1
  subst l1 y1 z1
  obtain ⟨rfl, N1q, e1⟩ := hQ1
  have N1 := Fr.app N0 N1q
  obtain ⟨T2, h2, X2, e2, W2, st2⟩ := putF X1 hx hZ hown (host := "") (Or.inl (hw _ (List.mem_of_getElem? (i := 57) rfl))) Via.refl e1 F_value E_a1 (Or.inr ⟨(hw _ (List.mem_of_getElem? (i := 58) rfl)), rfl, hnm⟩) (hw _ (List.mem_of_getElem? (i := 45) rfl)) (ty := .long) (by decide) rfl rfl (g := (mkF m 6 #[.val (.ref a1), .val (.long x1), .second] [(.long x1), (.ref a1)])) rfl rfl (hb hby d8_6)
  have Fw2 := F_value.same W2
  have N2 := Fr.snoc X2 N1 g_a1
  obtain ⟨fs, hr, hrun, hended, hW, hsame⟩ := X2.leave (v := none) (fun _ => rfl)
  refine ⟨_, _, pre0 _ ?_, hrun, hended, _, _, rfl, ?_, ⟨_, rfl⟩, hW, hsame.mono (by decide) (by decide)⟩
  · show Steps p.tables e below (s₁.setTop (mkF m 0 #[.val (.ref a1), .val (.long x1), .second] [])) _
    refine XS.aloadN X0.here hx rfl (hb hby d8_0) rfl rfl ?_
    show Steps p.tables e below (s₁.setTop (mkF m 1 #[.val (.ref a1), .val (.long x1), .second] [(.ref a1)])) _
    refine st1.trans ?_
    show Steps p.tables e below (T1.setTop (mkF m 4 #[.val (.ref a1), .val (.long x1), .second] [])) _
    refine XS.aloadN X1.here hx rfl (hb hby d8_4) rfl rfl ?_
    show Steps p.tables e below (T1.setTop (mkF m 5 #[.val (.ref a1), .val (.long x1), .second] [(.ref a1)])) _
    refine XS.lloadN X1.here hx rfl (hb hby d8_5) rfl ?_
    show Steps p.tables e below (T1.setTop (mkF m 6 #[.val (.ref a1), .val (.long x1), .second] [(.long x1), (.ref a1)])) _
    refine st2 _ ?_
    show Steps p.tables e below (T2.setTop (mkF m 9 #[.val (.ref a1), .val (.long x1), .second] [])) _
    exact X2.returnOut hx Bd.returns (hb hby d8_9) hr
  · show Q8 Z a1 h0 n0 _ T2.heap _
    rw [e2]
    exact ⟨rfl, N2, ((Keep.refl h0 [a1]).wr W2 (Or.inl (List.mem_of_getElem? (i := 0) rfl))), (E_a1.wr W2)⟩
theorem ef_7 (m : MethodId) (x1 : Int64) : entryFrame m #[(.long x1)] 3 = mkF m 0 #[.val (.long x1), .second, .unset] [] := by first | (simp [entryFrame, mkF, argsToLocals, Value.category]; done) | rfl
def Q7 (Z : State) (h0 : Heap) (n0 : Nat) (v : Option Value) (h : Heap) (L : List Loc) : Prop := ∃ r : Addr, v = some (.ref r) ∧ Fr n0 L ∧ Keep h0 h [] ∧ Exa Z h r "java/lang/Long"
set_option maxRecDepth 65536 in
set_option maxHeartbeats 40000000 in
theorem rm7 (l : Launch) (Z : State) (a0 : Array Value) (hw : ∀ d ∈ tables_1, d.before a0 Z = true) (ws : List Jvm.Cond) (x1 : Int64) (h0 : Heap) (n0 : Nat) (Z0 : n0 ≤ h0.size) (O0 : Old Z n0 h0) (CC : own_cache Z) :
    MetFree l (⟨"java/lang/Long", "valueOf", "(J)Ljava/lang/Long;"⟩ : MethodName) (head1 (Jvm.Cond.code (⟨"java/lang/Long", "valueOf", "(J)Ljava/lang/Long;"⟩ : MethodName) jdk_35_method_24_code 3 (some (.object "java/lang/Long")) :: ws) ({ frames := 3, cells := 1, slots := 1, locals := 39 } : Room)) (fun a U => a = #[(.long x1)] ∧ Z.Warmed39 U.vm ∧ U.heap = h0) (fun _ _ _ _ _ => True) (fun _ U o U' => ∃ v L, o = .returned v ∧ Q7 Z h0 n0 v U'.heap L ∧ FrameEnd U o U' L ({ frames := 3, cells := 1, slots := 1, locals := 39 } : Room).cells ({ frames := 3, cells := 1, slots := 1, locals := 39 } : Room).slots) := by
  refine MetFree.of_bodySF (plainFor_of_name pn_7) hisR ?_
  intro p e s m args below meth c s₁ Bd hml0 hP hK
  obtain ⟨rfl, hZ, hh⟩ := hP
  have hx := Bd.exec
  have hby := Bd.bytes
  have hml : c.maxLocals = 3 := hml0
  have hown : s.vm.findClass "java/lang/Long" = some m.cls := findClass_of_methodNamed Bd.named
  have hnm := (name_of_methodNamed Bd.named Bd.method).1
  have X0 : Stand p l e ({ frames := 3, cells := 1, slots := 1, locals := 39 } : Room) s m #[(.long x1)] below meth c s₁ [] 0 0 := Stand.of_body Bd
  have e0 : s₁.heap = h0 := by rw [← hh, Bd.state]; rfl
  have N0 := Fr.nil n0
  have pre0 : ∀ tgt, Steps p.tables e below (s₁.setTop (mkF m 0 #[.val (.long x1), .second, .unset] [])) tgt → Steps p.tables e below (s₁.setTop (entryFrame m #[(.long x1)] 3)) tgt := fun tgt k => castTop (ef_7 m x1) k
  obtain ⟨wc, cl, CSta, CA, CS, CH⟩ := CC
  by_cases hc9 : (lcmpW x1 (-128 : Int64)) < (0 : Int32)
  ·
    obtain ⟨T1, h1, X1, e1, E1, A1, D1, -, st1⟩ := newO X0 hx hZ hown (hw _ (List.mem_of_getElem? (i := 44) rfl)) (hw _ (List.mem_of_getElem? (i := 45) rfl)) (hw _ (List.mem_of_getElem? (i := 40) rfl)) e0 (g := (mkF m 31 #[.val (.long x1), .second, .val (.int (128 : Int32))] [])) rfl (hb hby d7_31) (by decide) (by decide)
    obtain ⟨b1, g1⟩ : ∃ z, z = h0.size := ⟨_, rfl⟩
    rw [← g1] at A1 D1 st1
    have g_b1 : n0 ≤ b1 := Nat.le_trans Z0 (Nat.le_of_eq g1.symm)
    have sz_b1 : h0.size ≤ b1 := Nat.le_trans (Nat.le_refl _) (Nat.le_of_eq g1.symm)
    have E_b1 := A1
    have F_value_b1 : Fld Z h1 b1 "java/lang/Long" "value" "J" (.long (0 : Int64)) := D1 (Or.inr (hw _ (List.mem_of_getElem? (i := 58) rfl))) (ty := .long) (by decide)
    obtain ⟨_, _, ⟨T2, L2, k2, n2⟩, -, X2, ⟨Lc2, hQ2, l2, y2, z2⟩, st2⟩ := X1.specialBack hx (y := (⟨"java/lang/Long", "<init>", "(J)V"⟩ : MethodName)) rfl hown (mvT hZ (hw _ (List.mem_of_getElem? (i := 46) rfl))) (mvT hZ (hw _ (List.mem_of_getElem? (i := 47) rfl))) (mvT hZ (hw _ (List.mem_of_getElem? (i := 49) rfl))) (by decide) (backOf (W := 1) (rm8 l Z a0 hw [] b1 x1 ((.long (0 : Int64))) h1 n0 (Nat.le_trans Z0 E1.1) E_b1 g_b1 F_value_b1) hZ (hw _ (List.mem_of_getElem? (i := 49) rfl)) (hw _ (List.mem_of_getElem? (i := 40) rfl)) (by decide) (by decide)) (g := (mkF m 36 #[.val (.long x1), .second, .val (.int (128 : Int32))] [(.long x1), (.ref b1), (.ref b1)])) rfl (by rw [hml]; rfl) (Steps.refl _) (a := b1) (argsL := [(.long x1)]) (rest := [(.ref b1)]) (lenOf pd_1 rfl) rfl (by show 2 * 0 + _ ≤ _; exact Nat.le_of_eq rfl) (hb hby d7_36) (fun _ _ => ⟨rfl, e1, (by decide : 1 + 0 ≤ _), (by decide : 1 + 0 ≤ _)⟩)
    dsimp only [Pt.U, Pt.locs, Pt.cells, Pt.slots] at X2 l2 y2 z2 st2 hQ2
    subst l2 y2 z2
    obtain ⟨rfl, N2q, K2, E2⟩ := hQ2
    have N2 := Fr.app N0 N2q
    obtain ⟨fs, hr, hrun, hended, hW, hsame⟩ := X2.leave (v := some (.ref b1)) (fun h => by rw [Bd.returns] at h; cases h)
    refine ⟨_, _, pre0 _ ?_, hrun, hended, _, _, rfl, ?_, ⟨_, rfl⟩, hW, hsame.mono (by decide) (by decide)⟩
    · show Steps p.tables e below (s₁.setTop (mkF m 0 #[.val (.long x1), .second, .unset] [])) _
      refine XS.sipush X0.here hx rfl (hb hby d7_0) ?_
      show Steps p.tables e below (s₁.setTop (mkF m 3 #[.val (.long x1), .second, .unset] [(.int (128 : Int32))])) _
      refine XS.istoreN X0.here hx rfl (hb hby d7_3) rfl (l' := #[.val (.long x1), .second, .val (.int (128 : Int32))]) rfl ?_
      show Steps p.tables e below (s₁.setTop (mkF m 4 #[.val (.long x1), .second, .val (.int (128 : Int32))] [])) _
      refine XS.lloadN X0.here hx rfl (hb hby d7_4) rfl ?_
      show Steps p.tables e below (s₁.setTop (mkF m 5 #[.val (.long x1), .second, .val (.int (128 : Int32))] [(.long x1)])) _
      refine X0.ldc2Long hx hown (mvT hZ (hw _ (List.mem_of_getElem? (i := 42) rfl))) (g := (mkF m 5 #[.val (.long x1), .second, .val (.int (128 : Int32))] [(.long x1)])) rfl (hb hby d7_5) _ ?_
      show Steps p.tables e below (s₁.setTop (mkF m 8 #[.val (.long x1), .second, .val (.int (128 : Int32))] [(.long (-128 : Int64)), (.long x1)])) _
      refine XS.lcmp X0.here hx rfl (hb hby d7_8) rfl ?_
      show Steps p.tables e below (s₁.setTop (mkF m 9 #[.val (.long x1), .second, .val (.int (128 : Int32))] [(.int (lcmpW x1 (-128 : Int64)))])) _
      refine XS.ifYes X0.here hx rfl (pc0 := 9) (pc' := 31) rfl (hb hby d7_9) rfl ((if0 _ _).trans (tlt hc9).1) (by decide) (by decide) ?_
      show Steps p.tables e below (s₁.setTop (mkF m 31 #[.val (.long x1), .second, .val (.int (128 : Int32))] [])) _
      refine st1 _ ?_
      show Steps p.tables e below (T1.setTop (mkF m 34 #[.val (.long x1), .second, .val (.int (128 : Int32))] [(.ref b1)])) _
      refine XS.dup X1.here hx rfl (hb hby d7_34) rfl rfl ?_
      show Steps p.tables e below (T1.setTop (mkF m 35 #[.val (.long x1), .second, .val (.int (128 : Int32))] [(.ref b1), (.ref b1)])) _
      refine XS.lloadN X1.here hx rfl (hb hby d7_35) rfl ?_
      show Steps p.tables e below (T1.setTop (mkF m 36 #[.val (.long x1), .second, .val (.int (128 : Int32))] [(.long x1), (.ref b1), (.ref b1)])) _
      refine st2.trans ?_
      show Steps p.tables e below (T2.setTop (mkF m 39 #[.val (.long x1), .second, .val (.int (128 : Int32))] [(.ref b1)])) _
      jvm_step X2.here [X2.here.top, hx, (hb hby d7_39), X2.method', Bd.returns, Value.isRef, FieldType.isReference]
      first | (intro acts; rw [hr _ acts rfl rfl rfl]) | rw [hr _ _ rfl rfl rfl]
      exact Steps.refl _
    · show Q7 Z h0 n0 _ T2.heap _
      exact ⟨b1, rfl, N2, (((Keep.refl h0 []).ext E1).trans K2 (allS (Or.inr sz_b1) all0)), E2⟩
  ·
    by_cases hc17 : (0 : Int32) < (lcmpW x1 (127 : Int64))
    ·
      obtain ⟨T3, h3, X3, e3, E3, A3, D3, -, st3⟩ := newO X0 hx hZ hown (hw _ (List.mem_of_getElem? (i := 44) rfl)) (hw _ (List.mem_of_getElem? (i := 45) rfl)) (hw _ (List.mem_of_getElem? (i := 40) rfl)) e0 (g := (mkF m 31 #[.val (.long x1), .second, .val (.int (128 : Int32))] [])) rfl (hb hby d7_31) (by decide) (by decide)
      obtain ⟨b3, g3⟩ : ∃ z, z = h0.size := ⟨_, rfl⟩
      rw [← g3] at A3 D3 st3
      have g_b3 : n0 ≤ b3 := Nat.le_trans Z0 (Nat.le_of_eq g3.symm)
      have sz_b3 : h0.size ≤ b3 := Nat.le_trans (Nat.le_refl _) (Nat.le_of_eq g3.symm)
      have E_b3 := A3
      have F_value_b3 : Fld Z h3 b3 "java/lang/Long" "value" "J" (.long (0 : Int64)) := D3 (Or.inr (hw _ (List.mem_of_getElem? (i := 58) rfl))) (ty := .long) (by decide)
      obtain ⟨_, _, ⟨T4, L4, k4, n4⟩, -, X4, ⟨Lc4, hQ4, l4, y4, z4⟩, st4⟩ := X3.specialBack hx (y := (⟨"java/lang/Long", "<init>", "(J)V"⟩ : MethodName)) rfl hown (mvT hZ (hw _ (List.mem_of_getElem? (i := 46) rfl))) (mvT hZ (hw _ (List.mem_of_getElem? (i := 47) rfl))) (mvT hZ (hw _ (List.mem_of_getElem? (i := 49) rfl))) (by decide) (backOf (W := 1) (rm8 l Z a0 hw [] b3 x1 ((.long (0 : Int64))) h3 n0 (Nat.le_trans Z0 E3.1) E_b3 g_b3 F_value_b3) hZ (hw _ (List.mem_of_getElem? (i := 49) rfl)) (hw _ (List.mem_of_getElem? (i := 40) rfl)) (by decide) (by decide)) (g := (mkF m 36 #[.val (.long x1), .second, .val (.int (128 : Int32))] [(.long x1), (.ref b3), (.ref b3)])) rfl (by rw [hml]; rfl) (Steps.refl _) (a := b3) (argsL := [(.long x1)]) (rest := [(.ref b3)]) (lenOf pd_1 rfl) rfl (by show 2 * 0 + _ ≤ _; exact Nat.le_of_eq rfl) (hb hby d7_36) (fun _ _ => ⟨rfl, e3, (by decide : 1 + 0 ≤ _), (by decide : 1 + 0 ≤ _)⟩)
      dsimp only [Pt.U, Pt.locs, Pt.cells, Pt.slots] at X4 l4 y4 z4 st4 hQ4
      subst l4 y4 z4
      obtain ⟨rfl, N4q, K4, E4⟩ := hQ4
      have N4 := Fr.app N0 N4q
      obtain ⟨fs, hr, hrun, hended, hW, hsame⟩ := X4.leave (v := some (.ref b3)) (fun h => by rw [Bd.returns] at h; cases h)
      refine ⟨_, _, pre0 _ ?_, hrun, hended, _, _, rfl, ?_, ⟨_, rfl⟩, hW, hsame.mono (by decide) (by decide)⟩
      · show Steps p.tables e below (s₁.setTop (mkF m 0 #[.val (.long x1), .second, .unset] [])) _
        refine XS.sipush X0.here hx rfl (hb hby d7_0) ?_
        show Steps p.tables e below (s₁.setTop (mkF m 3 #[.val (.long x1), .second, .unset] [(.int (128 : Int32))])) _
        refine XS.istoreN X0.here hx rfl (hb hby d7_3) rfl (l' := #[.val (.long x1), .second, .val (.int (128 : Int32))]) rfl ?_
        show Steps p.tables e below (s₁.setTop (mkF m 4 #[.val (.long x1), .second, .val (.int (128 : Int32))] [])) _
        refine XS.lloadN X0.here hx rfl (hb hby d7_4) rfl ?_
        show Steps p.tables e below (s₁.setTop (mkF m 5 #[.val (.long x1), .second, .val (.int (128 : Int32))] [(.long x1)])) _
        refine X0.ldc2Long hx hown (mvT hZ (hw _ (List.mem_of_getElem? (i := 42) rfl))) (g := (mkF m 5 #[.val (.long x1), .second, .val (.int (128 : Int32))] [(.long x1)])) rfl (hb hby d7_5) _ ?_
        show Steps p.tables e below (s₁.setTop (mkF m 8 #[.val (.long x1), .second, .val (.int (128 : Int32))] [(.long (-128 : Int64)), (.long x1)])) _
        refine XS.lcmp X0.here hx rfl (hb hby d7_8) rfl ?_
        show Steps p.tables e below (s₁.setTop (mkF m 9 #[.val (.long x1), .second, .val (.int (128 : Int32))] [(.int (lcmpW x1 (-128 : Int64)))])) _
        refine XS.ifNo X0.here hx rfl (hb hby d7_9) rfl ((if0 _ _).trans (flt hc9).1) ?_
        show Steps p.tables e below (s₁.setTop (mkF m 12 #[.val (.long x1), .second, .val (.int (128 : Int32))] [])) _
        refine XS.lloadN X0.here hx rfl (hb hby d7_12) rfl ?_
        show Steps p.tables e below (s₁.setTop (mkF m 13 #[.val (.long x1), .second, .val (.int (128 : Int32))] [(.long x1)])) _
        refine X0.ldc2Long hx hown (mvT hZ (hw _ (List.mem_of_getElem? (i := 43) rfl))) (g := (mkF m 13 #[.val (.long x1), .second, .val (.int (128 : Int32))] [(.long x1)])) rfl (hb hby d7_13) _ ?_
        show Steps p.tables e below (s₁.setTop (mkF m 16 #[.val (.long x1), .second, .val (.int (128 : Int32))] [(.long (127 : Int64)), (.long x1)])) _
        refine XS.lcmp X0.here hx rfl (hb hby d7_16) rfl ?_
        show Steps p.tables e below (s₁.setTop (mkF m 17 #[.val (.long x1), .second, .val (.int (128 : Int32))] [(.int (lcmpW x1 (127 : Int64)))])) _
        refine XS.ifYes X0.here hx rfl (pc0 := 17) (pc' := 31) rfl (hb hby d7_17) rfl ((if0 _ _).trans (tlt hc17).2.2.1) (by decide) (by decide) ?_
        show Steps p.tables e below (s₁.setTop (mkF m 31 #[.val (.long x1), .second, .val (.int (128 : Int32))] [])) _
        refine st3 _ ?_
        show Steps p.tables e below (T3.setTop (mkF m 34 #[.val (.long x1), .second, .val (.int (128 : Int32))] [(.ref b3)])) _
        refine XS.dup X3.here hx rfl (hb hby d7_34) rfl rfl ?_
        show Steps p.tables e below (T3.setTop (mkF m 35 #[.val (.long x1), .second, .val (.int (128 : Int32))] [(.ref b3), (.ref b3)])) _
        refine XS.lloadN X3.here hx rfl (hb hby d7_35) rfl ?_
        show Steps p.tables e below (T3.setTop (mkF m 36 #[.val (.long x1), .second, .val (.int (128 : Int32))] [(.long x1), (.ref b3), (.ref b3)])) _
        refine st4.trans ?_
        show Steps p.tables e below (T4.setTop (mkF m 39 #[.val (.long x1), .second, .val (.int (128 : Int32))] [(.ref b3)])) _
        jvm_step X4.here [X4.here.top, hx, (hb hby d7_39), X4.method', Bd.returns, Value.isRef, FieldType.isReference]
        first | (intro acts; rw [hr _ acts rfl rfl rfl]) | rw [hr _ _ rfl rfl rfl]
        exact Steps.refl _
      · show Q7 Z h0 n0 _ T4.heap _
        exact ⟨b3, rfl, N4, (((Keep.refl h0 []).ext E3).trans K4 (allS (Or.inr sz_b3) all0)), E4⟩
    ·
      obtain ⟨T5, X5, e5, st5⟩ := getS2 X0 hx hZ hown (host := "") (Or.inl (hw _ (List.mem_of_getElem? (i := 62) rfl))) Via.refl e0 (CSta.ext (own_old O0)) (g := (mkF m 20 #[.val (.long x1), .second, .val (.int (128 : Int32))] [])) rfl (hb hby d7_20)
      obtain ⟨r29, hat29, Er29⟩ := CH _ (own_place x1 hc9 hc17 CS)
      obtain ⟨fs, hr, hrun, hended, hW, hsame⟩ := X5.leave (v := some (.ref r29)) (fun h => by rw [Bd.returns] at h; cases h)
      refine ⟨_, _, pre0 _ ?_, hrun, hended, _, _, rfl, ?_, ⟨_, rfl⟩, hW, hsame.mono (by decide) (by decide)⟩
      · show Steps p.tables e below (s₁.setTop (mkF m 0 #[.val (.long x1), .second, .unset] [])) _
        refine XS.sipush X0.here hx rfl (hb hby d7_0) ?_
        show Steps p.tables e below (s₁.setTop (mkF m 3 #[.val (.long x1), .second, .unset] [(.int (128 : Int32))])) _
        refine XS.istoreN X0.here hx rfl (hb hby d7_3) rfl (l' := #[.val (.long x1), .second, .val (.int (128 : Int32))]) rfl ?_
        show Steps p.tables e below (s₁.setTop (mkF m 4 #[.val (.long x1), .second, .val (.int (128 : Int32))] [])) _
        refine XS.lloadN X0.here hx rfl (hb hby d7_4) rfl ?_
        show Steps p.tables e below (s₁.setTop (mkF m 5 #[.val (.long x1), .second, .val (.int (128 : Int32))] [(.long x1)])) _
        refine X0.ldc2Long hx hown (mvT hZ (hw _ (List.mem_of_getElem? (i := 42) rfl))) (g := (mkF m 5 #[.val (.long x1), .second, .val (.int (128 : Int32))] [(.long x1)])) rfl (hb hby d7_5) _ ?_
        show Steps p.tables e below (s₁.setTop (mkF m 8 #[.val (.long x1), .second, .val (.int (128 : Int32))] [(.long (-128 : Int64)), (.long x1)])) _
        refine XS.lcmp X0.here hx rfl (hb hby d7_8) rfl ?_
        show Steps p.tables e below (s₁.setTop (mkF m 9 #[.val (.long x1), .second, .val (.int (128 : Int32))] [(.int (lcmpW x1 (-128 : Int64)))])) _
        refine XS.ifNo X0.here hx rfl (hb hby d7_9) rfl ((if0 _ _).trans (flt hc9).1) ?_
        show Steps p.tables e below (s₁.setTop (mkF m 12 #[.val (.long x1), .second, .val (.int (128 : Int32))] [])) _
        refine XS.lloadN X0.here hx rfl (hb hby d7_12) rfl ?_
        show Steps p.tables e below (s₁.setTop (mkF m 13 #[.val (.long x1), .second, .val (.int (128 : Int32))] [(.long x1)])) _
        refine X0.ldc2Long hx hown (mvT hZ (hw _ (List.mem_of_getElem? (i := 43) rfl))) (g := (mkF m 13 #[.val (.long x1), .second, .val (.int (128 : Int32))] [(.long x1)])) rfl (hb hby d7_13) _ ?_
        show Steps p.tables e below (s₁.setTop (mkF m 16 #[.val (.long x1), .second, .val (.int (128 : Int32))] [(.long (127 : Int64)), (.long x1)])) _
        refine XS.lcmp X0.here hx rfl (hb hby d7_16) rfl ?_
        show Steps p.tables e below (s₁.setTop (mkF m 17 #[.val (.long x1), .second, .val (.int (128 : Int32))] [(.int (lcmpW x1 (127 : Int64)))])) _
        refine XS.ifNo X0.here hx rfl (hb hby d7_17) rfl ((if0 _ _).trans (flt hc17).2.2.1) ?_
        show Steps p.tables e below (s₁.setTop (mkF m 20 #[.val (.long x1), .second, .val (.int (128 : Int32))] [])) _
        refine st5 _ ?_
        show Steps p.tables e below (T5.setTop (mkF m 23 #[.val (.long x1), .second, .val (.int (128 : Int32))] [(.ref wc)])) _
        refine XS.lloadN X5.here hx rfl (hb hby d7_23) rfl ?_
        show Steps p.tables e below (T5.setTop (mkF m 24 #[.val (.long x1), .second, .val (.int (128 : Int32))] [(.long x1), (.ref wc)])) _
        refine XS.l2i X5.here hx rfl (hb hby d7_24) rfl ?_
        show Steps p.tables e below (T5.setTop (mkF m 25 #[.val (.long x1), .second, .val (.int (128 : Int32))] [(.int (x1.toInt32)), (.ref wc)])) _
        refine XS.sipush X5.here hx rfl (hb hby d7_25) ?_
        show Steps p.tables e below (T5.setTop (mkF m 28 #[.val (.long x1), .second, .val (.int (128 : Int32))] [(.int (128 : Int32)), (.int (x1.toInt32)), (.ref wc)])) _
        refine XS.iadd X5.here hx rfl (hb hby d7_28) rfl ?_
        show Steps p.tables e below (T5.setTop (mkF m 29 #[.val (.long x1), .second, .val (.int (128 : Int32))] [(.int ((x1.toInt32) + (128 : Int32))), (.ref wc)])) _
        refine X5.aaload hx (j := ((x1.toInt32) + (128 : Int32))) (v := (.ref r29)) (by rw [e5]; exact (CA.ext (own_old O0)).1) (State.isArrayOf_alike hZ.alike (CA.ext (own_old O0)).2.1) rfl (CA.ext (own_old O0)).2.2 (own_place x1 hc9 hc17 CS) hat29 (g := (mkF m 29 #[.val (.long x1), .second, .val (.int (128 : Int32))] [(.int ((x1.toInt32) + (128 : Int32))), (.ref wc)])) rfl rfl (hb hby d7_29) _ ?_
        show Steps p.tables e below (T5.setTop (mkF m 30 #[.val (.long x1), .second, .val (.int (128 : Int32))] [(.ref r29)])) _
        jvm_step X5.here [X5.here.top, hx, (hb hby d7_30), X5.method', Bd.returns, Value.isRef, FieldType.isReference]
        first | (intro acts; rw [hr _ acts rfl rfl rfl]) | rw [hr _ _ rfl rfl rfl]
        exact Steps.refl _
      · show Q7 Z h0 n0 _ T5.heap _
        rw [e5]
        exact ⟨r29, rfl, N0, (Keep.refl h0 []), (Er29.ext (own_old O0))⟩
theorem ef_1 (m : MethodId) (p1 : Int32) : entryFrame m #[(.int p1)] 1 = mkF m 0 #[.val (.int p1)] [] := by first | (simp [entryFrame, mkF, argsToLocals, Value.category]; done) | rfl
def Q1 (p1 : Int32) (h0 : Heap) (n0 : Nat) (v : Option Value) (h : Heap) (L : List Loc) : Prop := v = some (.int (own_fi p1)) ∧ Fr n0 L ∧ h = h0
set_option maxRecDepth 65536 in
set_option maxHeartbeats 40000000 in
theorem rm1 (l : Launch) (Z : State) (a0 : Array Value) (hw : ∀ d ∈ tables_1, d.before a0 Z = true) (ws : List Jvm.Cond) (p1 : Int32) (h0 : Heap) (n0 : Nat) (Z0 : n0 ≤ h0.size) :
    MetFree l (⟨"com/example/tuplewise/tuplewise/value/TimeIntervalValueEqualsPinLaw", "fixI", "(I)I"⟩ : MethodName) (head1 (Jvm.Cond.code (⟨"com/example/tuplewise/tuplewise/value/TimeIntervalValueEqualsPinLaw", "fixI", "(I)I"⟩ : MethodName) method_2_code 1 (some .int) :: ws) ({ frames := 0, cells := 0, slots := 0, locals := 0 } : Room)) (fun a U => a = #[(.int p1)] ∧ Z.Warmed39 U.vm ∧ U.heap = h0) (fun _ _ _ _ _ => True) (fun _ U o U' => ∃ v L, o = .returned v ∧ Q1 p1 h0 n0 v U'.heap L ∧ FrameEnd U o U' L ({ frames := 0, cells := 0, slots := 0, locals := 0 } : Room).cells ({ frames := 0, cells := 0, slots := 0, locals := 0 } : Room).slots) := by
  refine MetFree.of_bodySF (plainFor_of_name pn_1) hisR ?_
  intro p e s m args below meth c s₁ Bd hml0 hP hK
  obtain ⟨rfl, hZ, hh⟩ := hP
  have hx := Bd.exec
  have hby := Bd.bytes
  have hml : c.maxLocals = 1 := hml0
  have hown : s.vm.findClass "com/example/tuplewise/tuplewise/value/TimeIntervalValueEqualsPinLaw" = some m.cls := findClass_of_methodNamed Bd.named
  have hnm := (name_of_methodNamed Bd.named Bd.method).1
  have X0 : Stand p l e ({ frames := 0, cells := 0, slots := 0, locals := 0 } : Room) s m #[(.int p1)] below meth c s₁ [] 0 0 := Stand.of_body Bd
  have e0 : s₁.heap = h0 := by rw [← hh, Bd.state]; rfl
  have N0 := Fr.nil n0
  have pre0 : ∀ tgt, Steps p.tables e below (s₁.setTop (mkF m 0 #[.val (.int p1)] [])) tgt → Steps p.tables e below (s₁.setTop (entryFrame m #[(.int p1)] 1)) tgt := fun tgt k => castTop (ef_1 m p1) k
  by_cases hc3 : p1 = (-2147483648 : Int32)
  ·
    obtain ⟨fs, hr, hrun, hended, hW, hsame⟩ := X0.leave (v := some (.int (0 : Int32))) (fun h => by rw [Bd.returns] at h; cases h)
    refine ⟨_, _, pre0 _ ?_, hrun, hended, _, _, rfl, ?_, ⟨_, rfl⟩, hW, hsame.mono (by decide) (by decide)⟩
    · show Steps p.tables e below (s₁.setTop (mkF m 0 #[.val (.int p1)] [])) _
      refine XS.iloadN X0.here hx rfl (hb hby d1_0) rfl ?_
      show Steps p.tables e below (s₁.setTop (mkF m 1 #[.val (.int p1)] [(.int p1)])) _
      refine X0.ldcInt hx hown (mvT hZ (hw _ (List.mem_of_getElem? (i := 4) rfl))) (g := (mkF m 1 #[.val (.int p1)] [(.int p1)])) rfl (hb hby d1_1) _ ?_
      show Steps p.tables e below (s₁.setTop (mkF m 3 #[.val (.int p1)] [(.int (-2147483648 : Int32)), (.int p1)])) _
      refine XS.icmpNo X0.here hx rfl (hb hby d1_3) rfl (teq hc3).2 ?_
      show Steps p.tables e below (s₁.setTop (mkF m 6 #[.val (.int p1)] [])) _
      refine XS.iconst X0.here hx rfl (hb hby d1_6) ?_
      show Steps p.tables e below (s₁.setTop (mkF m 7 #[.val (.int p1)] [(.int (0 : Int32))])) _
      refine XS.goto X0.here hx rfl (pc0 := 7) (pc' := 11) rfl (hb hby d1_7) (by decide) (by decide) ?_
      show Steps p.tables e below (s₁.setTop (mkF m 11 #[.val (.int p1)] [(.int (0 : Int32))])) _
      exact retI X0 hx Bd.returns (hb hby d1_11) hr
    · show Q1 p1 h0 n0 _ s₁.heap _
      rw [e0]
      exact ⟨(by simp only [own_fi, if_pos hc3]), N0, rfl⟩
  ·
    obtain ⟨fs, hr, hrun, hended, hW, hsame⟩ := X0.leave (v := some (.int p1)) (fun h => by rw [Bd.returns] at h; cases h)
    refine ⟨_, _, pre0 _ ?_, hrun, hended, _, _, rfl, ?_, ⟨_, rfl⟩, hW, hsame.mono (by decide) (by decide)⟩
    · show Steps p.tables e below (s₁.setTop (mkF m 0 #[.val (.int p1)] [])) _
      refine XS.iloadN X0.here hx rfl (hb hby d1_0) rfl ?_
      show Steps p.tables e below (s₁.setTop (mkF m 1 #[.val (.int p1)] [(.int p1)])) _
      refine X0.ldcInt hx hown (mvT hZ (hw _ (List.mem_of_getElem? (i := 4) rfl))) (g := (mkF m 1 #[.val (.int p1)] [(.int p1)])) rfl (hb hby d1_1) _ ?_
      show Steps p.tables e below (s₁.setTop (mkF m 3 #[.val (.int p1)] [(.int (-2147483648 : Int32)), (.int p1)])) _
      refine XS.icmpYes X0.here hx rfl (pc0 := 3) (pc' := 10) rfl (hb hby d1_3) rfl (feq hc3).2 (by decide) (by decide) ?_
      show Steps p.tables e below (s₁.setTop (mkF m 10 #[.val (.int p1)] [])) _
      refine XS.iloadN X0.here hx rfl (hb hby d1_10) rfl ?_
      show Steps p.tables e below (s₁.setTop (mkF m 11 #[.val (.int p1)] [(.int p1)])) _
      exact retI X0 hx Bd.returns (hb hby d1_11) hr
    · show Q1 p1 h0 n0 _ s₁.heap _
      rw [e0]
      exact ⟨(by simp only [own_fi, if_neg hc3]), N0, rfl⟩
theorem ef_2 (m : MethodId) (p1 : Int64) : entryFrame m #[(.long p1)] 2 = mkF m 0 #[.val (.long p1), .second] [] := by first | (simp [entryFrame, mkF, argsToLocals, Value.category]; done) | rfl
def Q2 (p1 : Int64) (h0 : Heap) (n0 : Nat) (v : Option Value) (h : Heap) (L : List Loc) : Prop := v = some (.long (own_fl p1)) ∧ Fr n0 L ∧ h = h0
set_option maxRecDepth 65536 in
set_option maxHeartbeats 40000000 in
theorem rm2 (l : Launch) (Z : State) (a0 : Array Value) (hw : ∀ d ∈ tables_1, d.before a0 Z = true) (ws : List Jvm.Cond) (p1 : Int64) (h0 : Heap) (n0 : Nat) (Z0 : n0 ≤ h0.size) :
    MetFree l (⟨"com/example/tuplewise/tuplewise/value/TimeIntervalValueEqualsPinLaw", "fixL", "(J)J"⟩ : MethodName) (head1 (Jvm.Cond.code (⟨"com/example/tuplewise/tuplewise/value/TimeIntervalValueEqualsPinLaw", "fixL", "(J)J"⟩ : MethodName) method_3_code 2 (some .long) :: ws) ({ frames := 0, cells := 0, slots := 0, locals := 0 } : Room)) (fun a U => a = #[(.long p1)] ∧ Z.Warmed39 U.vm ∧ U.heap = h0) (fun _ _ _ _ _ => True) (fun _ U o U' => ∃ v L, o = .returned v ∧ Q2 p1 h0 n0 v U'.heap L ∧ FrameEnd U o U' L ({ frames := 0, cells := 0, slots := 0, locals := 0 } : Room).cells ({ frames := 0, cells := 0, slots := 0, locals := 0 } : Room).slots) := by
  refine MetFree.of_bodySF (plainFor_of_name pn_2) hisR ?_
  intro p e s m args below meth c s₁ Bd hml0 hP hK
  obtain ⟨rfl, hZ, hh⟩ := hP
  have hx := Bd.exec
  have hby := Bd.bytes
  have hml : c.maxLocals = 2 := hml0
  have hown : s.vm.findClass "com/example/tuplewise/tuplewise/value/TimeIntervalValueEqualsPinLaw" = some m.cls := findClass_of_methodNamed Bd.named
  have hnm := (name_of_methodNamed Bd.named Bd.method).1
  have X0 : Stand p l e ({ frames := 0, cells := 0, slots := 0, locals := 0 } : Room) s m #[(.long p1)] below meth c s₁ [] 0 0 := Stand.of_body Bd
  have e0 : s₁.heap = h0 := by rw [← hh, Bd.state]; rfl
  have N0 := Fr.nil n0
  have pre0 : ∀ tgt, Steps p.tables e below (s₁.setTop (mkF m 0 #[.val (.long p1), .second] [])) tgt → Steps p.tables e below (s₁.setTop (entryFrame m #[(.long p1)] 2)) tgt := fun tgt k => castTop (ef_2 m p1) k
  by_cases hc5 : (lcmpW p1 (-9223372036854775808 : Int64)) = (0 : Int32)
  ·
    obtain ⟨fs, hr, hrun, hended, hW, hsame⟩ := X0.leave (v := some (.long (0 : Int64))) (fun h => by rw [Bd.returns] at h; cases h)
    refine ⟨_, _, pre0 _ ?_, hrun, hended, _, _, rfl, ?_, ⟨_, rfl⟩, hW, hsame.mono (by decide) (by decide)⟩
    · show Steps p.tables e below (s₁.setTop (mkF m 0 #[.val (.long p1), .second] [])) _
      refine XS.lloadN X0.here hx rfl (hb hby d2_0) rfl ?_
      show Steps p.tables e below (s₁.setTop (mkF m 1 #[.val (.long p1), .second] [(.long p1)])) _
      refine X0.ldc2Long hx hown (mvT hZ (hw _ (List.mem_of_getElem? (i := 8) rfl))) (g := (mkF m 1 #[.val (.long p1), .second] [(.long p1)])) rfl (hb hby d2_1) _ ?_
      show Steps p.tables e below (s₁.setTop (mkF m 4 #[.val (.long p1), .second] [(.long (-9223372036854775808 : Int64)), (.long p1)])) _
      refine XS.lcmp X0.here hx rfl (hb hby d2_4) rfl ?_
      show Steps p.tables e below (s₁.setTop (mkF m 5 #[.val (.long p1), .second] [(.int (lcmpW p1 (-9223372036854775808 : Int64)))])) _
      refine XS.ifNo X0.here hx rfl (hb hby d2_5) rfl ((if0 _ _).trans (teq hc5).2) ?_
      show Steps p.tables e below (s₁.setTop (mkF m 8 #[.val (.long p1), .second] [])) _
      refine XS.lconst X0.here hx rfl (hb hby d2_8) ?_
      show Steps p.tables e below (s₁.setTop (mkF m 9 #[.val (.long p1), .second] [(.long (0 : Int64))])) _
      refine XS.goto X0.here hx rfl (pc0 := 9) (pc' := 13) rfl (hb hby d2_9) (by decide) (by decide) ?_
      show Steps p.tables e below (s₁.setTop (mkF m 13 #[.val (.long p1), .second] [(.long (0 : Int64))])) _
      exact X0.lreturnOut hx Bd.returns (hb hby d2_13) hr
    · show Q2 p1 h0 n0 _ s₁.heap _
      rw [e0]
      exact ⟨(by simp only [own_fl, if_pos hc5]), N0, rfl⟩
  ·
    obtain ⟨fs, hr, hrun, hended, hW, hsame⟩ := X0.leave (v := some (.long p1)) (fun h => by rw [Bd.returns] at h; cases h)
    refine ⟨_, _, pre0 _ ?_, hrun, hended, _, _, rfl, ?_, ⟨_, rfl⟩, hW, hsame.mono (by decide) (by decide)⟩
    · show Steps p.tables e below (s₁.setTop (mkF m 0 #[.val (.long p1), .second] [])) _
      refine XS.lloadN X0.here hx rfl (hb hby d2_0) rfl ?_
      show Steps p.tables e below (s₁.setTop (mkF m 1 #[.val (.long p1), .second] [(.long p1)])) _
      refine X0.ldc2Long hx hown (mvT hZ (hw _ (List.mem_of_getElem? (i := 8) rfl))) (g := (mkF m 1 #[.val (.long p1), .second] [(.long p1)])) rfl (hb hby d2_1) _ ?_
      show Steps p.tables e below (s₁.setTop (mkF m 4 #[.val (.long p1), .second] [(.long (-9223372036854775808 : Int64)), (.long p1)])) _
      refine XS.lcmp X0.here hx rfl (hb hby d2_4) rfl ?_
      show Steps p.tables e below (s₁.setTop (mkF m 5 #[.val (.long p1), .second] [(.int (lcmpW p1 (-9223372036854775808 : Int64)))])) _
      refine XS.ifYes X0.here hx rfl (pc0 := 5) (pc' := 12) rfl (hb hby d2_5) rfl ((if0 _ _).trans (feq hc5).2) (by decide) (by decide) ?_
      show Steps p.tables e below (s₁.setTop (mkF m 12 #[.val (.long p1), .second] [])) _
      refine XS.lloadN X0.here hx rfl (hb hby d2_12) rfl ?_
      show Steps p.tables e below (s₁.setTop (mkF m 13 #[.val (.long p1), .second] [(.long p1)])) _
      exact X0.lreturnOut hx Bd.returns (hb hby d2_13) hr
    · show Q2 p1 h0 n0 _ s₁.heap _
      rw [e0]
      exact ⟨(by simp only [own_fl, if_neg hc5]), N0, rfl⟩
theorem ef_4 (m : MethodId) (a1 : Addr) : entryFrame m #[(.ref a1)] 1 = mkF m 0 #[.val (.ref a1)] [] := by first | (simp [entryFrame, mkF, argsToLocals, Value.category]; done) | rfl
def Q4 (h0 : Heap) (n0 : Nat) (v : Option Value) (h : Heap) (L : List Loc) : Prop := v = none ∧ Fr n0 L ∧ h = h0
set_option maxRecDepth 65536 in
set_option maxHeartbeats 40000000 in
theorem rm4 (l : Launch) (Z : State) (a0 : Array Value) (hw : ∀ d ∈ tables_1, d.before a0 Z = true) (ws : List Jvm.Cond) (a1 : Addr) (h0 : Heap) (n0 : Nat) (Z0 : n0 ≤ h0.size) :
    MetFree l (⟨"java/lang/Record", "<init>", "()V"⟩ : MethodName) (head1 (Jvm.Cond.code (⟨"java/lang/Record", "<init>", "()V"⟩ : MethodName) jdk_30_method_1_code 1 none :: ws) ({ frames := 1, cells := 0, slots := 0, locals := 12 } : Room)) (fun a U => a = #[(.ref a1)] ∧ Z.Warmed39 U.vm ∧ U.heap = h0) (fun _ _ _ _ _ => True) (fun _ U o U' => ∃ v L, o = .returned v ∧ Q4 h0 n0 v U'.heap L ∧ FrameEnd U o U' L ({ frames := 1, cells := 0, slots := 0, locals := 12 } : Room).cells ({ frames := 1, cells := 0, slots := 0, locals := 12 } : Room).slots) := by
  refine MetFree.of_bodySF (plainFor_of_name pn_4) hisR ?_
  intro p e s m args below meth c s₁ Bd hml0 hP hK
  obtain ⟨rfl, hZ, hh⟩ := hP
  have hx := Bd.exec
  have hby := Bd.bytes
  have hml : c.maxLocals = 1 := hml0
  have hown : s.vm.findClass "java/lang/Record" = some m.cls := findClass_of_methodNamed Bd.named
  have hnm := (name_of_methodNamed Bd.named Bd.method).1
  have X0 : Stand p l e ({ frames := 1, cells := 0, slots := 0, locals := 12 } : Room) s m #[(.ref a1)] below meth c s₁ [] 0 0 := Stand.of_body Bd
  have e0 : s₁.heap = h0 := by rw [← hh, Bd.state]; rfl
  have N0 := Fr.nil n0
  have pre0 : ∀ tgt, Steps p.tables e below (s₁.setTop (mkF m 0 #[.val (.ref a1)] [])) tgt → Steps p.tables e below (s₁.setTop (entryFrame m #[(.ref a1)] 1)) tgt := fun tgt k => castTop (ef_4 m a1) k
  obtain ⟨T1, X1, e1, st1⟩ := initO X0 hx hZ hown (hw _ (List.mem_of_getElem? (i := 20) rfl)) (hw _ (List.mem_of_getElem? (i := 21) rfl)) (hw _ (List.mem_of_getElem? (i := 22) rfl)) e0 (g := (mkF m 1 #[.val (.ref a1)] [(.ref a1)])) rfl (by rw [hml]; rfl) rfl (hb hby d4_1) (by decide) (W := 0) (by show 2 * 0 + _ ≤ _; exact Nat.le_of_eq rfl) (by decide)
  obtain ⟨fs, hr, hrun, hended, hW, hsame⟩ := X1.leave (v := none) (fun _ => rfl)
  refine ⟨_, _, pre0 _ ?_, hrun, hended, _, _, rfl, ?_, ⟨_, rfl⟩, hW, hsame.mono (by decide) (by decide)⟩
  · show Steps p.tables e below (s₁.setTop (mkF m 0 #[.val (.ref a1)] [])) _
    refine XS.aloadN X0.here hx rfl (hb hby d4_0) rfl rfl ?_
    show Steps p.tables e below (s₁.setTop (mkF m 1 #[.val (.ref a1)] [(.ref a1)])) _
    refine st1 _ ?_
    show Steps p.tables e below (T1.setTop (mkF m 4 #[.val (.ref a1)] [])) _
    exact X1.returnOut hx Bd.returns (hb hby d4_4) hr
  · show Q4 h0 n0 _ T1.heap _
    rw [e1]
    exact ⟨rfl, N0, rfl⟩
theorem ef_3 (m : MethodId) (a1 : Addr) (x1 : Int32) (x2 : Int32) (x3 : Int64) : entryFrame m #[(.ref a1), (.int x1), (.int x2), (.long x3)] 5 = mkF m 0 #[.val (.ref a1), .val (.int x1), .val (.int x2), .val (.long x3), .second] [] := by first | (simp [entryFrame, mkF, argsToLocals, Value.category]; done) | rfl
def Q3 (Z : State) (a1 : Addr) (x1 x2 : Int32) (x3 : Int64) (h0 : Heap) (n0 : Nat) (v : Option Value) (h : Heap) (L : List Loc) : Prop := v = none ∧ Fr n0 L ∧ Keep h0 h [a1] ∧ Exa Z h a1 "com/example/tuplewise/tuplewise/value/TimeIntervalValue" ∧ Fld Z h a1 "com/example/tuplewise/tuplewise/value/TimeIntervalValue" "months" "I" (.int x1) ∧ Fld Z h a1 "com/example/tuplewise/tuplewise/value/TimeIntervalValue" "days" "I" (.int x2) ∧ Fld Z h a1 "com/example/tuplewise/tuplewise/value/TimeIntervalValue" "micros" "J" (.long x3)
set_option maxRecDepth 65536 in
set_option maxHeartbeats 40000000 in
theorem rm3 (l : Launch) (Z : State) (a0 : Array Value) (hw : ∀ d ∈ tables_1, d.before a0 Z = true) (ws : List Jvm.Cond) (a1 : Addr) (x1 x2 : Int32) (x3 : Int64) (u1 u2 u3 : Value) (h0 : Heap) (n0 : Nat) (Z0 : n0 ≤ h0.size) (E_a1 : Exa Z h0 a1 "com/example/tuplewise/tuplewise/value/TimeIntervalValue") (g_a1 : n0 ≤ a1) (F_months : Fld Z h0 a1 "com/example/tuplewise/tuplewise/value/TimeIntervalValue" "months" "I" u1) (F_days : Fld Z h0 a1 "com/example/tuplewise/tuplewise/value/TimeIntervalValue" "days" "I" u2) (F_micros : Fld Z h0 a1 "com/example/tuplewise/tuplewise/value/TimeIntervalValue" "micros" "J" u3) (hc7 : ¬ x1 = (-2147483648 : Int32)) (hc13 : ¬ x2 = (-2147483648 : Int32)) (hc21 : ¬ (lcmpW x3 (-9223372036854775808 : Int64)) = (0 : Int32)) :
    MetFree l (⟨"com/example/tuplewise/tuplewise/value/TimeIntervalValue", "<init>", "(IIJ)V"⟩ : MethodName) (head1 (Jvm.Cond.code (⟨"com/example/tuplewise/tuplewise/value/TimeIntervalValue", "<init>", "(IIJ)V"⟩ : MethodName) prog_304_method_1_code 5 none :: ws) ({ frames := 2, cells := 0, slots := 0, locals := 24 } : Room)) (fun a U => a = #[(.ref a1), (.int x1), (.int x2), (.long x3)] ∧ Z.Warmed39 U.vm ∧ U.heap = h0) (fun _ _ _ _ _ => True) (fun _ U o U' => ∃ v L, o = .returned v ∧ Q3 Z a1 x1 x2 x3 h0 n0 v U'.heap L ∧ FrameEnd U o U' L ({ frames := 2, cells := 0, slots := 0, locals := 24 } : Room).cells ({ frames := 2, cells := 0, slots := 0, locals := 24 } : Room).slots) := by
  refine MetFree.of_bodySF (plainFor_of_name pn_3) hisR ?_
  intro p e s m args below meth c s₁ Bd hml0 hP hK
  obtain ⟨rfl, hZ, hh⟩ := hP
  have hx := Bd.exec
  have hby := Bd.bytes
  have hml : c.maxLocals = 5 := hml0
  have hown : s.vm.findClass "com/example/tuplewise/tuplewise/value/TimeIntervalValue" = some m.cls := findClass_of_methodNamed Bd.named
  have hnm := (name_of_methodNamed Bd.named Bd.method).1
  have X0 : Stand p l e ({ frames := 2, cells := 0, slots := 0, locals := 24 } : Room) s m #[(.ref a1), (.int x1), (.int x2), (.long x3)] below meth c s₁ [] 0 0 := Stand.of_body Bd
  have e0 : s₁.heap = h0 := by rw [← hh, Bd.state]; rfl
  have N0 := Fr.nil n0
  have pre0 : ∀ tgt, Steps p.tables e below (s₁.setTop (mkF m 0 #[.val (.ref a1), .val (.int x1), .val (.int x2), .val (.long x3), .second] [])) tgt → Steps p.tables e below (s₁.setTop (entryFrame m #[(.ref a1), (.int x1), (.int x2), (.long x3)] 5)) tgt := fun tgt k => castTop (ef_3 m a1 x1 x2 x3) k
  obtain ⟨_, _, ⟨T1, L1, k1, n1⟩, -, X1, ⟨Lc1, hQ1, l1, y1, z1⟩, st1⟩ := X0.specialBack hx (y := (⟨"java/lang/Record", "<init>", "()V"⟩ : MethodName)) rfl hown (mvT hZ (hw _ (List.mem_of_getElem? (i := 15) rfl))) (mvT hZ (hw _ (List.mem_of_getElem? (i := 16) rfl))) (mvT hZ (hw _ (List.mem_of_getElem? (i := 19) rfl))) (by decide) (backOf (W := 0) (rm4 l Z a0 hw [] a1 h0 n0 Z0) hZ (hw _ (List.mem_of_getElem? (i := 19) rfl)) (hw _ (List.mem_of_getElem? (i := 18) rfl)) (by decide) (by decide)) (g := (mkF m 1 #[.val (.ref a1), .val (.int x1), .val (.int x2), .val (.long x3), .second] [(.ref a1)])) rfl (by rw [hml]; rfl) (Steps.refl _) (a := a1) (argsL := []) (rest := []) (lenOf pd_0 rfl) rfl (by show 2 * 0 + _ ≤ _; exact Nat.le_of_eq rfl) (hb hby d3_1) (fun _ _ => ⟨rfl, e0, (by decide : 0 + 0 ≤ _), (by decide : 0 + 0 ≤ _)⟩)
  dsimp only [Pt.U, Pt.locs, Pt.cells, Pt.slots] at X1 l1 y1 z1 st1 hQ1
  subst l1 y1 z1
  obtain ⟨rfl, N1q, e1⟩ := hQ1
  have N1 := Fr.app N0 N1q
  obtain ⟨T2, h2, X2, e2, W2, st2⟩ := putF X1 hx hZ hown (host := "") (Or.inl (hw _ (List.mem_of_getElem? (i := 25) rfl))) Via.refl e1 F_months E_a1 (Or.inr ⟨(hw _ (List.mem_of_getElem? (i := 26) rfl)), rfl, hnm⟩) (hw _ (List.mem_of_getElem? (i := 10) rfl)) (ty := .int) (by decide) rfl rfl (g := (mkF m 36 #[.val (.ref a1), .val (.int x1), .val (.int x2), .val (.long x3), .second] [(.int x1), (.ref a1)])) rfl rfl (hb hby d3_36)
  have Fw2 := F_months.same W2
  have N2 := Fr.snoc X2 N1 g_a1
  have fx3 := (F_days.other W2 (Or.inr (slot_ne (Or.inr (hw _ (List.mem_of_getElem? (i := 28) rfl))) (Or.inr (hw _ (List.mem_of_getElem? (i := 26) rfl))) (by decide) (t := .int) (t' := .int) (by decide) (by decide))))
  obtain ⟨T4, h4, X4, e4, W4, st4⟩ := putF X2 hx hZ hown (host := "") (Or.inl (hw _ (List.mem_of_getElem? (i := 27) rfl))) Via.refl e2 fx3 (E_a1.wr W2) (Or.inr ⟨(hw _ (List.mem_of_getElem? (i := 28) rfl)), rfl, hnm⟩) (hw _ (List.mem_of_getElem? (i := 10) rfl)) (ty := .int) (by decide) rfl rfl (g := (mkF m 41 #[.val (.ref a1), .val (.int x1), .val (.int x2), .val (.long x3), .second] [(.int x2), (.ref a1)])) rfl rfl (hb hby d3_41)
  have Fw4 := fx3.same W4
  have N4 := Fr.snoc X4 N2 g_a1
  have fx5 := ((F_micros.other W2 (Or.inr (slot_ne (Or.inr (hw _ (List.mem_of_getElem? (i := 30) rfl))) (Or.inr (hw _ (List.mem_of_getElem? (i := 26) rfl))) (by decide) (t := .long) (t' := .int) (by decide) (by decide)))).other W4 (Or.inr (slot_ne (Or.inr (hw _ (List.mem_of_getElem? (i := 30) rfl))) (Or.inr (hw _ (List.mem_of_getElem? (i := 28) rfl))) (by decide) (t := .long) (t' := .int) (by decide) (by decide))))
  obtain ⟨T6, h6, X6, e6, W6, st6⟩ := putF X4 hx hZ hown (host := "") (Or.inl (hw _ (List.mem_of_getElem? (i := 29) rfl))) Via.refl e4 fx5 ((E_a1.wr W2).wr W4) (Or.inr ⟨(hw _ (List.mem_of_getElem? (i := 30) rfl)), rfl, hnm⟩) (hw _ (List.mem_of_getElem? (i := 10) rfl)) (ty := .long) (by decide) rfl rfl (g := (mkF m 46 #[.val (.ref a1), .val (.int x1), .val (.int x2), .val (.long x3), .second] [(.long x3), (.ref a1)])) rfl rfl (hb hby d3_46)
  have Fw6 := fx5.same W6
  have N6 := Fr.snoc X6 N4 g_a1
  have fx7 := ((Fw2.other W4 (Or.inr (slot_ne (Or.inr (hw _ (List.mem_of_getElem? (i := 26) rfl))) (Or.inr (hw _ (List.mem_of_getElem? (i := 28) rfl))) (by decide) (t := .int) (t' := .int) (by decide) (by decide)))).other W6 (Or.inr (slot_ne (Or.inr (hw _ (List.mem_of_getElem? (i := 26) rfl))) (Or.inr (hw _ (List.mem_of_getElem? (i := 30) rfl))) (by decide) (t := .int) (t' := .long) (by decide) (by decide))))
  have fx8 := (Fw4.other W6 (Or.inr (slot_ne (Or.inr (hw _ (List.mem_of_getElem? (i := 28) rfl))) (Or.inr (hw _ (List.mem_of_getElem? (i := 30) rfl))) (by decide) (t := .int) (t' := .long) (by decide) (by decide))))
  obtain ⟨fs, hr, hrun, hended, hW, hsame⟩ := X6.leave (v := none) (fun _ => rfl)
  refine ⟨_, _, pre0 _ ?_, hrun, hended, _, _, rfl, ?_, ⟨_, rfl⟩, hW, hsame.mono (by decide) (by decide)⟩
  · show Steps p.tables e below (s₁.setTop (mkF m 0 #[.val (.ref a1), .val (.int x1), .val (.int x2), .val (.long x3), .second] [])) _
    refine XS.aloadN X0.here hx rfl (hb hby d3_0) rfl rfl ?_
    show Steps p.tables e below (s₁.setTop (mkF m 1 #[.val (.ref a1), .val (.int x1), .val (.int x2), .val (.long x3), .second] [(.ref a1)])) _
    refine st1.trans ?_
    show Steps p.tables e below (T1.setTop (mkF m 4 #[.val (.ref a1), .val (.int x1), .val (.int x2), .val (.long x3), .second] [])) _
    refine XS.iloadN X1.here hx rfl (hb hby d3_4) rfl ?_
    show Steps p.tables e below (T1.setTop (mkF m 5 #[.val (.ref a1), .val (.int x1), .val (.int x2), .val (.long x3), .second] [(.int x1)])) _
    refine X1.ldcInt hx hown (mvT hZ (hw _ (List.mem_of_getElem? (i := 23) rfl))) (g := (mkF m 5 #[.val (.ref a1), .val (.int x1), .val (.int x2), .val (.long x3), .second] [(.int x1)])) rfl (hb hby d3_5) _ ?_
    show Steps p.tables e below (T1.setTop (mkF m 7 #[.val (.ref a1), .val (.int x1), .val (.int x2), .val (.long x3), .second] [(.int (-2147483648 : Int32)), (.int x1)])) _
    refine XS.icmpNo X1.here hx rfl (hb hby d3_7) rfl (feq hc7).1 ?_
    show Steps p.tables e below (T1.setTop (mkF m 10 #[.val (.ref a1), .val (.int x1), .val (.int x2), .val (.long x3), .second] [])) _
    refine XS.iloadN X1.here hx rfl (hb hby d3_10) rfl ?_
    show Steps p.tables e below (T1.setTop (mkF m 11 #[.val (.ref a1), .val (.int x1), .val (.int x2), .val (.long x3), .second] [(.int x2)])) _
    refine X1.ldcInt hx hown (mvT hZ (hw _ (List.mem_of_getElem? (i := 23) rfl))) (g := (mkF m 11 #[.val (.ref a1), .val (.int x1), .val (.int x2), .val (.long x3), .second] [(.int x2)])) rfl (hb hby d3_11) _ ?_
    show Steps p.tables e below (T1.setTop (mkF m 13 #[.val (.ref a1), .val (.int x1), .val (.int x2), .val (.long x3), .second] [(.int (-2147483648 : Int32)), (.int x2)])) _
    refine XS.icmpNo X1.here hx rfl (hb hby d3_13) rfl (feq hc13).1 ?_
    show Steps p.tables e below (T1.setTop (mkF m 16 #[.val (.ref a1), .val (.int x1), .val (.int x2), .val (.long x3), .second] [])) _
    refine XS.lloadN X1.here hx rfl (hb hby d3_16) rfl ?_
    show Steps p.tables e below (T1.setTop (mkF m 17 #[.val (.ref a1), .val (.int x1), .val (.int x2), .val (.long x3), .second] [(.long x3)])) _
    refine X1.ldc2Long hx hown (mvT hZ (hw _ (List.mem_of_getElem? (i := 24) rfl))) (g := (mkF m 17 #[.val (.ref a1), .val (.int x1), .val (.int x2), .val (.long x3), .second] [(.long x3)])) rfl (hb hby d3_17) _ ?_
    show Steps p.tables e below (T1.setTop (mkF m 20 #[.val (.ref a1), .val (.int x1), .val (.int x2), .val (.long x3), .second] [(.long (-9223372036854775808 : Int64)), (.long x3)])) _
    refine XS.lcmp X1.here hx rfl (hb hby d3_20) rfl ?_
    show Steps p.tables e below (T1.setTop (mkF m 21 #[.val (.ref a1), .val (.int x1), .val (.int x2), .val (.long x3), .second] [(.int (lcmpW x3 (-9223372036854775808 : Int64)))])) _
    refine XS.ifYes X1.here hx rfl (pc0 := 21) (pc' := 34) rfl (hb hby d3_21) rfl ((if0 _ _).trans (feq hc21).2) (by decide) (by decide) ?_
    show Steps p.tables e below (T1.setTop (mkF m 34 #[.val (.ref a1), .val (.int x1), .val (.int x2), .val (.long x3), .second] [])) _
    refine XS.aloadN X1.here hx rfl (hb hby d3_34) rfl rfl ?_
    show Steps p.tables e below (T1.setTop (mkF m 35 #[.val (.ref a1), .val (.int x1), .val (.int x2), .val (.long x3), .second] [(.ref a1)])) _
    refine XS.iloadN X1.here hx rfl (hb hby d3_35) rfl ?_
    show Steps p.tables e below (T1.setTop (mkF m 36 #[.val (.ref a1), .val (.int x1), .val (.int x2), .val (.long x3), .second] [(.int x1), (.ref a1)])) _
    refine st2 _ ?_
    show Steps p.tables e below (T2.setTop (mkF m 39 #[.val (.ref a1), .val (.int x1), .val (.int x2), .val (.long x3), .second] [])) _
    refine XS.aloadN X2.here hx rfl (hb hby d3_39) rfl rfl ?_
    show Steps p.tables e below (T2.setTop (mkF m 40 #[.val (.ref a1), .val (.int x1), .val (.int x2), .val (.long x3), .second] [(.ref a1)])) _
    refine XS.iloadN X2.here hx rfl (hb hby d3_40) rfl ?_
    show Steps p.tables e below (T2.setTop (mkF m 41 #[.val (.ref a1), .val (.int x1), .val (.int x2), .val (.long x3), .second] [(.int x2), (.ref a1)])) _
    refine st4 _ ?_
    show Steps p.tables e below (T4.setTop (mkF m 44 #[.val (.ref a1), .val (.int x1), .val (.int x2), .val (.long x3), .second] [])) _
    refine XS.aloadN X4.here hx rfl (hb hby d3_44) rfl rfl ?_
    show Steps p.tables e below (T4.setTop (mkF m 45 #[.val (.ref a1), .val (.int x1), .val (.int x2), .val (.long x3), .second] [(.ref a1)])) _
    refine XS.lloadN X4.here hx rfl (hb hby d3_45) rfl ?_
    show Steps p.tables e below (T4.setTop (mkF m 46 #[.val (.ref a1), .val (.int x1), .val (.int x2), .val (.long x3), .second] [(.long x3), (.ref a1)])) _
    refine st6 _ ?_
    show Steps p.tables e below (T6.setTop (mkF m 49 #[.val (.ref a1), .val (.int x1), .val (.int x2), .val (.long x3), .second] [])) _
    exact X6.returnOut hx Bd.returns (hb hby d3_49) hr
  · show Q3 Z a1 x1 x2 x3 h0 n0 _ T6.heap _
    rw [e6]
    exact ⟨rfl, N6, ((((Keep.refl h0 [a1]).wr W2 (Or.inl (List.mem_of_getElem? (i := 0) rfl))).wr W4 (Or.inl (List.mem_of_getElem? (i := 0) rfl))).wr W6 (Or.inl (List.mem_of_getElem? (i := 0) rfl))), (((E_a1.wr W2).wr W4).wr W6), fx7, fx8, Fw6⟩
theorem ef_6 (m : MethodId) (a1 : Addr) (a2 : Addr) : entryFrame m #[(.ref a1), (.ref a2)] 3 = mkF m 0 #[.val (.ref a1), .val (.ref a2), .unset] [] := by first | (simp [entryFrame, mkF, argsToLocals, Value.category]; done) | rfl
def Q6 (x1 x2 : Int32) (x3 : Int64) (y1 y2 : Int32) (y3 : Int64) (h0 : Heap) (n0 : Nat) (v : Option Value) (h : Heap) (L : List Loc) : Prop := v = some (.int (own_eq x1 x2 x3 y1 y2 y3)) ∧ Fr n0 L ∧ h = h0
set_option maxRecDepth 65536 in
set_option maxHeartbeats 40000000 in
theorem rm6 (l : Launch) (Z : State) (a0 : Array Value) (hw : ∀ d ∈ tables_1, d.before a0 Z = true) (ws : List Jvm.Cond) (a1 a2 : Addr) (x1 x2 : Int32) (x3 : Int64) (y1 y2 : Int32) (y3 : Int64) (h0 : Heap) (n0 : Nat) (Z0 : n0 ≤ h0.size) (E_a2 : Exa Z h0 a2 "com/example/tuplewise/tuplewise/value/TimeIntervalValue") (F_months_a1 : Fld Z h0 a1 "com/example/tuplewise/tuplewise/value/TimeIntervalValue" "months" "I" (.int x1)) (F_days_a1 : Fld Z h0 a1 "com/example/tuplewise/tuplewise/value/TimeIntervalValue" "days" "I" (.int x2)) (F_micros_a1 : Fld Z h0 a1 "com/example/tuplewise/tuplewise/value/TimeIntervalValue" "micros" "J" (.long x3)) (F_months_a2 : Fld Z h0 a2 "com/example/tuplewise/tuplewise/value/TimeIntervalValue" "months" "I" (.int y1)) (F_days_a2 : Fld Z h0 a2 "com/example/tuplewise/tuplewise/value/TimeIntervalValue" "days" "I" (.int y2)) (F_micros_a2 : Fld Z h0 a2 "com/example/tuplewise/tuplewise/value/TimeIntervalValue" "micros" "J" (.long y3)) :
    MetFree l (⟨"com/example/tuplewise/tuplewise/value/TimeIntervalValue", "equals", "(Ljava/lang/Object;)Z"⟩ : MethodName) (head1 (Jvm.Cond.code (⟨"com/example/tuplewise/tuplewise/value/TimeIntervalValue", "equals", "(Ljava/lang/Object;)Z"⟩ : MethodName) prog_304_method_5_code 3 (some .boolean) :: ws) ({ frames := 0, cells := 0, slots := 0, locals := 0 } : Room)) (fun a U => a = #[(.ref a1), (.ref a2)] ∧ Z.Warmed39 U.vm ∧ U.heap = h0) (fun _ _ _ _ _ => True) (fun _ U o U' => ∃ v L, o = .returned v ∧ Q6 x1 x2 x3 y1 y2 y3 h0 n0 v U'.heap L ∧ FrameEnd U o U' L ({ frames := 0, cells := 0, slots := 0, locals := 0 } : Room).cells ({ frames := 0, cells := 0, slots := 0, locals := 0 } : Room).slots) := by
  refine MetFree.of_bodySF (plainFor_of_name pn_6) hisR ?_
  intro p e s m args below meth c s₁ Bd hml0 hP hK
  obtain ⟨rfl, hZ, hh⟩ := hP
  have hx := Bd.exec
  have hby := Bd.bytes
  have hml : c.maxLocals = 3 := hml0
  have hown : s.vm.findClass "com/example/tuplewise/tuplewise/value/TimeIntervalValue" = some m.cls := findClass_of_methodNamed Bd.named
  have hnm := (name_of_methodNamed Bd.named Bd.method).1
  have X0 : Stand p l e ({ frames := 0, cells := 0, slots := 0, locals := 0 } : Room) s m #[(.ref a1), (.ref a2)] below meth c s₁ [] 0 0 := Stand.of_body Bd
  have e0 : s₁.heap = h0 := by rw [← hh, Bd.state]; rfl
  have N0 := Fr.nil n0
  have pre0 : ∀ tgt, Steps p.tables e below (s₁.setTop (mkF m 0 #[.val (.ref a1), .val (.ref a2), .unset] [])) tgt → Steps p.tables e below (s₁.setTop (entryFrame m #[(.ref a1), (.ref a2)] 3)) tgt := fun tgt k => castTop (ef_6 m a1 a2) k
  obtain ⟨T1, X1, e1, st1⟩ := instY X0 hx hZ hown (hw _ (List.mem_of_getElem? (i := 36) rfl)) e0 (Ins.self E_a2) (g := (mkF m 1 #[.val (.ref a1), .val (.ref a2), .unset] [(.ref a2)])) rfl rfl (hb hby d6_1)
  obtain ⟨T2, X2, e2, st2⟩ := castY X1 hx hZ hown (hw _ (List.mem_of_getElem? (i := 36) rfl)) e1 (Ins.self E_a2) (g := (mkF m 8 #[.val (.ref a1), .val (.ref a2), .unset] [(.ref a2)])) rfl rfl (hb hby d6_8)
  obtain ⟨T3, X3, e3, st3⟩ := getF X2 hx hZ hown (host := "") (Or.inl (hw _ (List.mem_of_getElem? (i := 25) rfl))) Via.refl e2 F_months_a1 (g := (mkF m 13 #[.val (.ref a1), .val (.ref a2), .val (.ref a2)] [(.ref a1)])) rfl rfl (hb hby d6_13)
  obtain ⟨T4, X4, e4, st4⟩ := getF X3 hx hZ hown (host := "") (Or.inl (hw _ (List.mem_of_getElem? (i := 25) rfl))) Via.refl e3 F_months_a2 (g := (mkF m 17 #[.val (.ref a1), .val (.ref a2), .val (.ref a2)] [(.ref a2), (.int x1)])) rfl rfl (hb hby d6_17)
  by_cases hc20 : x1 = y1
  ·
    obtain ⟨T5, X5, e5, st5⟩ := getF X4 hx hZ hown (host := "") (Or.inl (hw _ (List.mem_of_getElem? (i := 27) rfl))) Via.refl e4 F_days_a1 (g := (mkF m 24 #[.val (.ref a1), .val (.ref a2), .val (.ref a2)] [(.ref a1)])) rfl rfl (hb hby d6_24)
    obtain ⟨T6, X6, e6, st6⟩ := getF X5 hx hZ hown (host := "") (Or.inl (hw _ (List.mem_of_getElem? (i := 27) rfl))) Via.refl e5 F_days_a2 (g := (mkF m 28 #[.val (.ref a1), .val (.ref a2), .val (.ref a2)] [(.ref a2), (.int x2)])) rfl rfl (hb hby d6_28)
    by_cases hc31 : x2 = y2
    ·
      obtain ⟨T7, X7, e7, st7⟩ := getF X6 hx hZ hown (host := "") (Or.inl (hw _ (List.mem_of_getElem? (i := 29) rfl))) Via.refl e6 F_micros_a1 (g := (mkF m 35 #[.val (.ref a1), .val (.ref a2), .val (.ref a2)] [(.ref a1)])) rfl rfl (hb hby d6_35)
      obtain ⟨T8, X8, e8, st8⟩ := getF X7 hx hZ hown (host := "") (Or.inl (hw _ (List.mem_of_getElem? (i := 29) rfl))) Via.refl e7 F_micros_a2 (g := (mkF m 39 #[.val (.ref a1), .val (.ref a2), .val (.ref a2)] [(.ref a2), (.long x3)])) rfl rfl (hb hby d6_39)
      by_cases hc43 : (lcmpW x3 y3) = (0 : Int32)
      ·
        obtain ⟨fs, hr, hrun, hended, hW, hsame⟩ := X8.leave (v := some (.int (1 : Int32))) (fun h => by rw [Bd.returns] at h; cases h)
        refine ⟨_, _, pre0 _ ?_, hrun, hended, _, _, rfl, ?_, ⟨_, rfl⟩, hW, hsame.mono (by decide) (by decide)⟩
        · show Steps p.tables e below (s₁.setTop (mkF m 0 #[.val (.ref a1), .val (.ref a2), .unset] [])) _
          refine XS.aloadN X0.here hx rfl (hb hby d6_0) rfl rfl ?_
          show Steps p.tables e below (s₁.setTop (mkF m 1 #[.val (.ref a1), .val (.ref a2), .unset] [(.ref a2)])) _
          refine st1 _ ?_
          show Steps p.tables e below (T1.setTop (mkF m 4 #[.val (.ref a1), .val (.ref a2), .unset] [(.int (1 : Int32))])) _
          refine XS.ifNo X1.here hx rfl (hb hby d6_4) rfl ((if0 _ _).trans (feq (by decide : ¬ (1 : Int32) = (0 : Int32))).1) ?_
          show Steps p.tables e below (T1.setTop (mkF m 7 #[.val (.ref a1), .val (.ref a2), .unset] [])) _
          refine XS.aloadN X1.here hx rfl (hb hby d6_7) rfl rfl ?_
          show Steps p.tables e below (T1.setTop (mkF m 8 #[.val (.ref a1), .val (.ref a2), .unset] [(.ref a2)])) _
          refine st2 _ ?_
          show Steps p.tables e below (T2.setTop (mkF m 11 #[.val (.ref a1), .val (.ref a2), .unset] [(.ref a2)])) _
          refine XS.astoreN X2.here hx rfl (hb hby d6_11) rfl rfl (l' := #[.val (.ref a1), .val (.ref a2), .val (.ref a2)]) rfl ?_
          show Steps p.tables e below (T2.setTop (mkF m 12 #[.val (.ref a1), .val (.ref a2), .val (.ref a2)] [])) _
          refine XS.aloadN X2.here hx rfl (hb hby d6_12) rfl rfl ?_
          show Steps p.tables e below (T2.setTop (mkF m 13 #[.val (.ref a1), .val (.ref a2), .val (.ref a2)] [(.ref a1)])) _
          refine st3 _ ?_
          show Steps p.tables e below (T3.setTop (mkF m 16 #[.val (.ref a1), .val (.ref a2), .val (.ref a2)] [(.int x1)])) _
          refine XS.aloadN X3.here hx rfl (hb hby d6_16) rfl rfl ?_
          show Steps p.tables e below (T3.setTop (mkF m 17 #[.val (.ref a1), .val (.ref a2), .val (.ref a2)] [(.ref a2), (.int x1)])) _
          refine st4 _ ?_
          show Steps p.tables e below (T4.setTop (mkF m 20 #[.val (.ref a1), .val (.ref a2), .val (.ref a2)] [(.int y1), (.int x1)])) _
          refine XS.icmpNo X4.here hx rfl (hb hby d6_20) rfl (teq hc20).2 ?_
          show Steps p.tables e below (T4.setTop (mkF m 23 #[.val (.ref a1), .val (.ref a2), .val (.ref a2)] [])) _
          refine XS.aloadN X4.here hx rfl (hb hby d6_23) rfl rfl ?_
          show Steps p.tables e below (T4.setTop (mkF m 24 #[.val (.ref a1), .val (.ref a2), .val (.ref a2)] [(.ref a1)])) _
          refine st5 _ ?_
          show Steps p.tables e below (T5.setTop (mkF m 27 #[.val (.ref a1), .val (.ref a2), .val (.ref a2)] [(.int x2)])) _
          refine XS.aloadN X5.here hx rfl (hb hby d6_27) rfl rfl ?_
          show Steps p.tables e below (T5.setTop (mkF m 28 #[.val (.ref a1), .val (.ref a2), .val (.ref a2)] [(.ref a2), (.int x2)])) _
          refine st6 _ ?_
          show Steps p.tables e below (T6.setTop (mkF m 31 #[.val (.ref a1), .val (.ref a2), .val (.ref a2)] [(.int y2), (.int x2)])) _
          refine XS.icmpNo X6.here hx rfl (hb hby d6_31) rfl (teq hc31).2 ?_
          show Steps p.tables e below (T6.setTop (mkF m 34 #[.val (.ref a1), .val (.ref a2), .val (.ref a2)] [])) _
          refine XS.aloadN X6.here hx rfl (hb hby d6_34) rfl rfl ?_
          show Steps p.tables e below (T6.setTop (mkF m 35 #[.val (.ref a1), .val (.ref a2), .val (.ref a2)] [(.ref a1)])) _
          refine st7 _ ?_
          show Steps p.tables e below (T7.setTop (mkF m 38 #[.val (.ref a1), .val (.ref a2), .val (.ref a2)] [(.long x3)])) _
          refine XS.aloadN X7.here hx rfl (hb hby d6_38) rfl rfl ?_
          show Steps p.tables e below (T7.setTop (mkF m 39 #[.val (.ref a1), .val (.ref a2), .val (.ref a2)] [(.ref a2), (.long x3)])) _
          refine st8 _ ?_
          show Steps p.tables e below (T8.setTop (mkF m 42 #[.val (.ref a1), .val (.ref a2), .val (.ref a2)] [(.long y3), (.long x3)])) _
          refine XS.lcmp X8.here hx rfl (hb hby d6_42) rfl ?_
          show Steps p.tables e below (T8.setTop (mkF m 43 #[.val (.ref a1), .val (.ref a2), .val (.ref a2)] [(.int (lcmpW x3 y3))])) _
          refine XS.ifNo X8.here hx rfl (hb hby d6_43) rfl ((if0 _ _).trans (teq hc43).2) ?_
          show Steps p.tables e below (T8.setTop (mkF m 46 #[.val (.ref a1), .val (.ref a2), .val (.ref a2)] [])) _
          refine XS.iconst X8.here hx rfl (hb hby d6_46) ?_
          show Steps p.tables e below (T8.setTop (mkF m 47 #[.val (.ref a1), .val (.ref a2), .val (.ref a2)] [(.int (1 : Int32))])) _
          refine XS.goto X8.here hx rfl (pc0 := 47) (pc' := 51) rfl (hb hby d6_47) (by decide) (by decide) ?_
          show Steps p.tables e below (T8.setTop (mkF m 51 #[.val (.ref a1), .val (.ref a2), .val (.ref a2)] [(.int (1 : Int32))])) _
          exact retN X8 hx (t := .boolean) Bd.returns (by simp) (hb hby d6_51) hr
        · show Q6 x1 x2 x3 y1 y2 y3 h0 n0 _ T8.heap _
          rw [e8]
          exact ⟨(by simp only [own_eq, if_pos hc20, if_pos hc31, if_pos hc43]), N0, rfl⟩
      ·
        obtain ⟨fs, hr, hrun, hended, hW, hsame⟩ := X8.leave (v := some (.int (0 : Int32))) (fun h => by rw [Bd.returns] at h; cases h)
        refine ⟨_, _, pre0 _ ?_, hrun, hended, _, _, rfl, ?_, ⟨_, rfl⟩, hW, hsame.mono (by decide) (by decide)⟩
        · show Steps p.tables e below (s₁.setTop (mkF m 0 #[.val (.ref a1), .val (.ref a2), .unset] [])) _
          refine XS.aloadN X0.here hx rfl (hb hby d6_0) rfl rfl ?_
          show Steps p.tables e below (s₁.setTop (mkF m 1 #[.val (.ref a1), .val (.ref a2), .unset] [(.ref a2)])) _
          refine st1 _ ?_
          show Steps p.tables e below (T1.setTop (mkF m 4 #[.val (.ref a1), .val (.ref a2), .unset] [(.int (1 : Int32))])) _
          refine XS.ifNo X1.here hx rfl (hb hby d6_4) rfl ((if0 _ _).trans (feq (by decide : ¬ (1 : Int32) = (0 : Int32))).1) ?_
          show Steps p.tables e below (T1.setTop (mkF m 7 #[.val (.ref a1), .val (.ref a2), .unset] [])) _
          refine XS.aloadN X1.here hx rfl (hb hby d6_7) rfl rfl ?_
          show Steps p.tables e below (T1.setTop (mkF m 8 #[.val (.ref a1), .val (.ref a2), .unset] [(.ref a2)])) _
          refine st2 _ ?_
          show Steps p.tables e below (T2.setTop (mkF m 11 #[.val (.ref a1), .val (.ref a2), .unset] [(.ref a2)])) _
          refine XS.astoreN X2.here hx rfl (hb hby d6_11) rfl rfl (l' := #[.val (.ref a1), .val (.ref a2), .val (.ref a2)]) rfl ?_
          show Steps p.tables e below (T2.setTop (mkF m 12 #[.val (.ref a1), .val (.ref a2), .val (.ref a2)] [])) _
          refine XS.aloadN X2.here hx rfl (hb hby d6_12) rfl rfl ?_
          show Steps p.tables e below (T2.setTop (mkF m 13 #[.val (.ref a1), .val (.ref a2), .val (.ref a2)] [(.ref a1)])) _
          refine st3 _ ?_
          show Steps p.tables e below (T3.setTop (mkF m 16 #[.val (.ref a1), .val (.ref a2), .val (.ref a2)] [(.int x1)])) _
          refine XS.aloadN X3.here hx rfl (hb hby d6_16) rfl rfl ?_
          show Steps p.tables e below (T3.setTop (mkF m 17 #[.val (.ref a1), .val (.ref a2), .val (.ref a2)] [(.ref a2), (.int x1)])) _
          refine st4 _ ?_
          show Steps p.tables e below (T4.setTop (mkF m 20 #[.val (.ref a1), .val (.ref a2), .val (.ref a2)] [(.int y1), (.int x1)])) _
          refine XS.icmpNo X4.here hx rfl (hb hby d6_20) rfl (teq hc20).2 ?_
          show Steps p.tables e below (T4.setTop (mkF m 23 #[.val (.ref a1), .val (.ref a2), .val (.ref a2)] [])) _
          refine XS.aloadN X4.here hx rfl (hb hby d6_23) rfl rfl ?_
          show Steps p.tables e below (T4.setTop (mkF m 24 #[.val (.ref a1), .val (.ref a2), .val (.ref a2)] [(.ref a1)])) _
          refine st5 _ ?_
          show Steps p.tables e below (T5.setTop (mkF m 27 #[.val (.ref a1), .val (.ref a2), .val (.ref a2)] [(.int x2)])) _
          refine XS.aloadN X5.here hx rfl (hb hby d6_27) rfl rfl ?_
          show Steps p.tables e below (T5.setTop (mkF m 28 #[.val (.ref a1), .val (.ref a2), .val (.ref a2)] [(.ref a2), (.int x2)])) _
          refine st6 _ ?_
          show Steps p.tables e below (T6.setTop (mkF m 31 #[.val (.ref a1), .val (.ref a2), .val (.ref a2)] [(.int y2), (.int x2)])) _
          refine XS.icmpNo X6.here hx rfl (hb hby d6_31) rfl (teq hc31).2 ?_
          show Steps p.tables e below (T6.setTop (mkF m 34 #[.val (.ref a1), .val (.ref a2), .val (.ref a2)] [])) _
          refine XS.aloadN X6.here hx rfl (hb hby d6_34) rfl rfl ?_
          show Steps p.tables e below (T6.setTop (mkF m 35 #[.val (.ref a1), .val (.ref a2), .val (.ref a2)] [(.ref a1)])) _
          refine st7 _ ?_
          show Steps p.tables e below (T7.setTop (mkF m 38 #[.val (.ref a1), .val (.ref a2), .val (.ref a2)] [(.long x3)])) _
          refine XS.aloadN X7.here hx rfl (hb hby d6_38) rfl rfl ?_
          show Steps p.tables e below (T7.setTop (mkF m 39 #[.val (.ref a1), .val (.ref a2), .val (.ref a2)] [(.ref a2), (.long x3)])) _
          refine st8 _ ?_
          show Steps p.tables e below (T8.setTop (mkF m 42 #[.val (.ref a1), .val (.ref a2), .val (.ref a2)] [(.long y3), (.long x3)])) _
          refine XS.lcmp X8.here hx rfl (hb hby d6_42) rfl ?_
          show Steps p.tables e below (T8.setTop (mkF m 43 #[.val (.ref a1), .val (.ref a2), .val (.ref a2)] [(.int (lcmpW x3 y3))])) _
          refine XS.ifYes X8.here hx rfl (pc0 := 43) (pc' := 50) rfl (hb hby d6_43) rfl ((if0 _ _).trans (feq hc43).2) (by decide) (by decide) ?_
          show Steps p.tables e below (T8.setTop (mkF m 50 #[.val (.ref a1), .val (.ref a2), .val (.ref a2)] [])) _
          refine XS.iconst X8.here hx rfl (hb hby d6_50) ?_
          show Steps p.tables e below (T8.setTop (mkF m 51 #[.val (.ref a1), .val (.ref a2), .val (.ref a2)] [(.int (0 : Int32))])) _
          exact retN X8 hx (t := .boolean) Bd.returns (by simp) (hb hby d6_51) hr
        · show Q6 x1 x2 x3 y1 y2 y3 h0 n0 _ T8.heap _
          rw [e8]
          exact ⟨(by simp only [own_eq, if_pos hc20, if_pos hc31, if_neg hc43]), N0, rfl⟩
    ·
      obtain ⟨fs, hr, hrun, hended, hW, hsame⟩ := X6.leave (v := some (.int (0 : Int32))) (fun h => by rw [Bd.returns] at h; cases h)
      refine ⟨_, _, pre0 _ ?_, hrun, hended, _, _, rfl, ?_, ⟨_, rfl⟩, hW, hsame.mono (by decide) (by decide)⟩
      · show Steps p.tables e below (s₁.setTop (mkF m 0 #[.val (.ref a1), .val (.ref a2), .unset] [])) _
        refine XS.aloadN X0.here hx rfl (hb hby d6_0) rfl rfl ?_
        show Steps p.tables e below (s₁.setTop (mkF m 1 #[.val (.ref a1), .val (.ref a2), .unset] [(.ref a2)])) _
        refine st1 _ ?_
        show Steps p.tables e below (T1.setTop (mkF m 4 #[.val (.ref a1), .val (.ref a2), .unset] [(.int (1 : Int32))])) _
        refine XS.ifNo X1.here hx rfl (hb hby d6_4) rfl ((if0 _ _).trans (feq (by decide : ¬ (1 : Int32) = (0 : Int32))).1) ?_
        show Steps p.tables e below (T1.setTop (mkF m 7 #[.val (.ref a1), .val (.ref a2), .unset] [])) _
        refine XS.aloadN X1.here hx rfl (hb hby d6_7) rfl rfl ?_
        show Steps p.tables e below (T1.setTop (mkF m 8 #[.val (.ref a1), .val (.ref a2), .unset] [(.ref a2)])) _
        refine st2 _ ?_
        show Steps p.tables e below (T2.setTop (mkF m 11 #[.val (.ref a1), .val (.ref a2), .unset] [(.ref a2)])) _
        refine XS.astoreN X2.here hx rfl (hb hby d6_11) rfl rfl (l' := #[.val (.ref a1), .val (.ref a2), .val (.ref a2)]) rfl ?_
        show Steps p.tables e below (T2.setTop (mkF m 12 #[.val (.ref a1), .val (.ref a2), .val (.ref a2)] [])) _
        refine XS.aloadN X2.here hx rfl (hb hby d6_12) rfl rfl ?_
        show Steps p.tables e below (T2.setTop (mkF m 13 #[.val (.ref a1), .val (.ref a2), .val (.ref a2)] [(.ref a1)])) _
        refine st3 _ ?_
        show Steps p.tables e below (T3.setTop (mkF m 16 #[.val (.ref a1), .val (.ref a2), .val (.ref a2)] [(.int x1)])) _
        refine XS.aloadN X3.here hx rfl (hb hby d6_16) rfl rfl ?_
        show Steps p.tables e below (T3.setTop (mkF m 17 #[.val (.ref a1), .val (.ref a2), .val (.ref a2)] [(.ref a2), (.int x1)])) _
        refine st4 _ ?_
        show Steps p.tables e below (T4.setTop (mkF m 20 #[.val (.ref a1), .val (.ref a2), .val (.ref a2)] [(.int y1), (.int x1)])) _
        refine XS.icmpNo X4.here hx rfl (hb hby d6_20) rfl (teq hc20).2 ?_
        show Steps p.tables e below (T4.setTop (mkF m 23 #[.val (.ref a1), .val (.ref a2), .val (.ref a2)] [])) _
        refine XS.aloadN X4.here hx rfl (hb hby d6_23) rfl rfl ?_
        show Steps p.tables e below (T4.setTop (mkF m 24 #[.val (.ref a1), .val (.ref a2), .val (.ref a2)] [(.ref a1)])) _
        refine st5 _ ?_
        show Steps p.tables e below (T5.setTop (mkF m 27 #[.val (.ref a1), .val (.ref a2), .val (.ref a2)] [(.int x2)])) _
        refine XS.aloadN X5.here hx rfl (hb hby d6_27) rfl rfl ?_
        show Steps p.tables e below (T5.setTop (mkF m 28 #[.val (.ref a1), .val (.ref a2), .val (.ref a2)] [(.ref a2), (.int x2)])) _
        refine st6 _ ?_
        show Steps p.tables e below (T6.setTop (mkF m 31 #[.val (.ref a1), .val (.ref a2), .val (.ref a2)] [(.int y2), (.int x2)])) _
        refine XS.icmpYes X6.here hx rfl (pc0 := 31) (pc' := 50) rfl (hb hby d6_31) rfl (feq hc31).2 (by decide) (by decide) ?_
        show Steps p.tables e below (T6.setTop (mkF m 50 #[.val (.ref a1), .val (.ref a2), .val (.ref a2)] [])) _
        refine XS.iconst X6.here hx rfl (hb hby d6_50) ?_
        show Steps p.tables e below (T6.setTop (mkF m 51 #[.val (.ref a1), .val (.ref a2), .val (.ref a2)] [(.int (0 : Int32))])) _
        exact retN X6 hx (t := .boolean) Bd.returns (by simp) (hb hby d6_51) hr
      · show Q6 x1 x2 x3 y1 y2 y3 h0 n0 _ T6.heap _
        rw [e6]
        exact ⟨(by simp only [own_eq, if_pos hc20, if_neg hc31]), N0, rfl⟩
  ·
    obtain ⟨fs, hr, hrun, hended, hW, hsame⟩ := X4.leave (v := some (.int (0 : Int32))) (fun h => by rw [Bd.returns] at h; cases h)
    refine ⟨_, _, pre0 _ ?_, hrun, hended, _, _, rfl, ?_, ⟨_, rfl⟩, hW, hsame.mono (by decide) (by decide)⟩
    · show Steps p.tables e below (s₁.setTop (mkF m 0 #[.val (.ref a1), .val (.ref a2), .unset] [])) _
      refine XS.aloadN X0.here hx rfl (hb hby d6_0) rfl rfl ?_
      show Steps p.tables e below (s₁.setTop (mkF m 1 #[.val (.ref a1), .val (.ref a2), .unset] [(.ref a2)])) _
      refine st1 _ ?_
      show Steps p.tables e below (T1.setTop (mkF m 4 #[.val (.ref a1), .val (.ref a2), .unset] [(.int (1 : Int32))])) _
      refine XS.ifNo X1.here hx rfl (hb hby d6_4) rfl ((if0 _ _).trans (feq (by decide : ¬ (1 : Int32) = (0 : Int32))).1) ?_
      show Steps p.tables e below (T1.setTop (mkF m 7 #[.val (.ref a1), .val (.ref a2), .unset] [])) _
      refine XS.aloadN X1.here hx rfl (hb hby d6_7) rfl rfl ?_
      show Steps p.tables e below (T1.setTop (mkF m 8 #[.val (.ref a1), .val (.ref a2), .unset] [(.ref a2)])) _
      refine st2 _ ?_
      show Steps p.tables e below (T2.setTop (mkF m 11 #[.val (.ref a1), .val (.ref a2), .unset] [(.ref a2)])) _
      refine XS.astoreN X2.here hx rfl (hb hby d6_11) rfl rfl (l' := #[.val (.ref a1), .val (.ref a2), .val (.ref a2)]) rfl ?_
      show Steps p.tables e below (T2.setTop (mkF m 12 #[.val (.ref a1), .val (.ref a2), .val (.ref a2)] [])) _
      refine XS.aloadN X2.here hx rfl (hb hby d6_12) rfl rfl ?_
      show Steps p.tables e below (T2.setTop (mkF m 13 #[.val (.ref a1), .val (.ref a2), .val (.ref a2)] [(.ref a1)])) _
      refine st3 _ ?_
      show Steps p.tables e below (T3.setTop (mkF m 16 #[.val (.ref a1), .val (.ref a2), .val (.ref a2)] [(.int x1)])) _
      refine XS.aloadN X3.here hx rfl (hb hby d6_16) rfl rfl ?_
      show Steps p.tables e below (T3.setTop (mkF m 17 #[.val (.ref a1), .val (.ref a2), .val (.ref a2)] [(.ref a2), (.int x1)])) _
      refine st4 _ ?_
      show Steps p.tables e below (T4.setTop (mkF m 20 #[.val (.ref a1), .val (.ref a2), .val (.ref a2)] [(.int y1), (.int x1)])) _
      refine XS.icmpYes X4.here hx rfl (pc0 := 20) (pc' := 50) rfl (hb hby d6_20) rfl (feq hc20).2 (by decide) (by decide) ?_
      show Steps p.tables e below (T4.setTop (mkF m 50 #[.val (.ref a1), .val (.ref a2), .val (.ref a2)] [])) _
      refine XS.iconst X4.here hx rfl (hb hby d6_50) ?_
      show Steps p.tables e below (T4.setTop (mkF m 51 #[.val (.ref a1), .val (.ref a2), .val (.ref a2)] [(.int (0 : Int32))])) _
      exact retN X4 hx (t := .boolean) Bd.returns (by simp) (hb hby d6_51) hr
    · show Q6 x1 x2 x3 y1 y2 y3 h0 n0 _ T4.heap _
      rw [e4]
      exact ⟨(by simp only [own_eq, if_neg hc20]), N0, rfl⟩
theorem ef_6n (m : MethodId) (a1 : Addr) : entryFrame m #[(.ref a1), .null] 3 = mkF m 0 #[.val (.ref a1), .val .null, .unset] [] := by first | (simp [entryFrame, mkF, argsToLocals, Value.category]; done) | rfl
def Q6z (h0 : Heap) (n0 : Nat) (v : Option Value) (h : Heap) (L : List Loc) : Prop := v = some (.int 0) ∧ Fr n0 L ∧ h = h0
set_option maxRecDepth 65536 in
set_option maxHeartbeats 40000000 in
theorem rm6n (l : Launch) (Z : State) (a0 : Array Value) (hw : ∀ d ∈ tables_1, d.before a0 Z = true) (ws : List Jvm.Cond) (a1 : Addr) (h0 : Heap) (n0 : Nat) (Z0 : n0 ≤ h0.size) :
    MetFree l (⟨"com/example/tuplewise/tuplewise/value/TimeIntervalValue", "equals", "(Ljava/lang/Object;)Z"⟩ : MethodName) (head1 (Jvm.Cond.code (⟨"com/example/tuplewise/tuplewise/value/TimeIntervalValue", "equals", "(Ljava/lang/Object;)Z"⟩ : MethodName) prog_304_method_5_code 3 (some .boolean) :: ws) ({ frames := 0, cells := 0, slots := 0, locals := 0 } : Room)) (fun a U => a = #[(.ref a1), .null] ∧ Z.Warmed39 U.vm ∧ U.heap = h0) (fun _ _ _ _ _ => True) (fun _ U o U' => ∃ v L, o = .returned v ∧ Q6z h0 n0 v U'.heap L ∧ FrameEnd U o U' L ({ frames := 0, cells := 0, slots := 0, locals := 0 } : Room).cells ({ frames := 0, cells := 0, slots := 0, locals := 0 } : Room).slots) := by
  refine MetFree.of_bodySF (plainFor_of_name pn_6) hisR ?_
  intro p e s m args below meth c s₁ Bd hml0 hP hK
  obtain ⟨rfl, hZ, hh⟩ := hP
  have hx := Bd.exec
  have hby := Bd.bytes
  have hml : c.maxLocals = 3 := hml0
  have hown : s.vm.findClass "com/example/tuplewise/tuplewise/value/TimeIntervalValue" = some m.cls := findClass_of_methodNamed Bd.named
  have hnm := (name_of_methodNamed Bd.named Bd.method).1
  have X0 : Stand p l e ({ frames := 0, cells := 0, slots := 0, locals := 0 } : Room) s m #[(.ref a1), .null] below meth c s₁ [] 0 0 := Stand.of_body Bd
  have e0 : s₁.heap = h0 := by rw [← hh, Bd.state]; rfl
  have N0 := Fr.nil n0
  have pre0 : ∀ tgt, Steps p.tables e below (s₁.setTop (mkF m 0 #[.val (.ref a1), .val .null, .unset] [])) tgt → Steps p.tables e below (s₁.setTop (entryFrame m #[(.ref a1), .null] 3)) tgt := fun tgt k => castTop (ef_6n m a1) k
  obtain ⟨fs, hr, hrun, hended, hW, hsame⟩ := X0.leave (v := some (.int (0 : Int32))) (fun h => by rw [Bd.returns] at h; cases h)
  refine ⟨_, _, pre0 _ ?_, hrun, hended, _, _, rfl, ?_, ⟨_, rfl⟩, hW, hsame.mono (by decide) (by decide)⟩
  · show Steps p.tables e below (s₁.setTop (mkF m 0 #[.val (.ref a1), .val .null, .unset] [])) _
    refine XS.aloadN X0.here hx rfl (hb hby d6_0) rfl rfl ?_
    show Steps p.tables e below (s₁.setTop (mkF m 1 #[.val (.ref a1), .val .null, .unset] [.null])) _
    refine X0.instanceofNull hx (g := (mkF m 1 #[.val (.ref a1), .val .null, .unset] [.null])) rfl rfl (hb hby d6_1) _ ?_
    show Steps p.tables e below (s₁.setTop (mkF m 4 #[.val (.ref a1), .val .null, .unset] [(.int (0 : Int32))])) _
    refine XS.ifYes X0.here hx rfl (pc0 := 4) (pc' := 50) rfl (hb hby d6_4) rfl ((if0 _ _).trans (teq (rfl : (0 : Int32) = (0 : Int32))).1) (by decide) (by decide) ?_
    show Steps p.tables e below (s₁.setTop (mkF m 50 #[.val (.ref a1), .val .null, .unset] [])) _
    refine XS.iconst X0.here hx rfl (hb hby d6_50) ?_
    show Steps p.tables e below (s₁.setTop (mkF m 51 #[.val (.ref a1), .val .null, .unset] [(.int (0 : Int32))])) _
    exact retN X0 hx (t := .boolean) Bd.returns (by simp) (hb hby d6_51) hr
  · show Q6z h0 n0 _ s₁.heap _
    rw [e0]
    exact ⟨rfl, N0, rfl⟩
set_option maxRecDepth 65536 in
set_option maxHeartbeats 40000000 in
theorem rm6l (l : Launch) (Z : State) (a0 : Array Value) (hw : ∀ d ∈ tables_1, d.before a0 Z = true) (ws : List Jvm.Cond) (a1 a2 : Addr) (h0 : Heap) (n0 : Nat) (Z0 : n0 ≤ h0.size) (E_a2 : Exa Z h0 a2 "java/lang/Long") :
    MetFree l (⟨"com/example/tuplewise/tuplewise/value/TimeIntervalValue", "equals", "(Ljava/lang/Object;)Z"⟩ : MethodName) (head1 (Jvm.Cond.code (⟨"com/example/tuplewise/tuplewise/value/TimeIntervalValue", "equals", "(Ljava/lang/Object;)Z"⟩ : MethodName) prog_304_method_5_code 3 (some .boolean) :: ws) ({ frames := 0, cells := 0, slots := 0, locals := 0 } : Room)) (fun a U => a = #[(.ref a1), (.ref a2)] ∧ Z.Warmed39 U.vm ∧ U.heap = h0) (fun _ _ _ _ _ => True) (fun _ U o U' => ∃ v L, o = .returned v ∧ Q6z h0 n0 v U'.heap L ∧ FrameEnd U o U' L ({ frames := 0, cells := 0, slots := 0, locals := 0 } : Room).cells ({ frames := 0, cells := 0, slots := 0, locals := 0 } : Room).slots) := by
  refine MetFree.of_bodySF (plainFor_of_name pn_6) hisR ?_
  intro p e s m args below meth c s₁ Bd hml0 hP hK
  obtain ⟨rfl, hZ, hh⟩ := hP
  have hx := Bd.exec
  have hby := Bd.bytes
  have hml : c.maxLocals = 3 := hml0
  have hown : s.vm.findClass "com/example/tuplewise/tuplewise/value/TimeIntervalValue" = some m.cls := findClass_of_methodNamed Bd.named
  have hnm := (name_of_methodNamed Bd.named Bd.method).1
  have X0 : Stand p l e ({ frames := 0, cells := 0, slots := 0, locals := 0 } : Room) s m #[(.ref a1), (.ref a2)] below meth c s₁ [] 0 0 := Stand.of_body Bd
  have e0 : s₁.heap = h0 := by rw [← hh, Bd.state]; rfl
  have N0 := Fr.nil n0
  have pre0 : ∀ tgt, Steps p.tables e below (s₁.setTop (mkF m 0 #[.val (.ref a1), .val (.ref a2), .unset] [])) tgt → Steps p.tables e below (s₁.setTop (entryFrame m #[(.ref a1), (.ref a2)] 3)) tgt := fun tgt k => castTop (ef_6 m a1 a2) k
  obtain ⟨T1, X1, e1, st1⟩ := instNo X0 hx hZ hown (hw _ (List.mem_of_getElem? (i := 36) rfl)) e0 E_a2 (own_long_no (hw _ (List.mem_of_getElem? (i := 59) rfl)) (hw _ (List.mem_of_getElem? (i := 60) rfl)) (hw _ (List.mem_of_getElem? (i := 61) rfl)) (hw _ (List.mem_of_getElem? (i := 10) rfl)) (by decide) (by decide) (by decide)) (g := (mkF m 1 #[.val (.ref a1), .val (.ref a2), .unset] [(.ref a2)])) rfl rfl (hb hby d6_1)
  obtain ⟨fs, hr, hrun, hended, hW, hsame⟩ := X1.leave (v := some (.int (0 : Int32))) (fun h => by rw [Bd.returns] at h; cases h)
  refine ⟨_, _, pre0 _ ?_, hrun, hended, _, _, rfl, ?_, ⟨_, rfl⟩, hW, hsame.mono (by decide) (by decide)⟩
  · show Steps p.tables e below (s₁.setTop (mkF m 0 #[.val (.ref a1), .val (.ref a2), .unset] [])) _
    refine XS.aloadN X0.here hx rfl (hb hby d6_0) rfl rfl ?_
    show Steps p.tables e below (s₁.setTop (mkF m 1 #[.val (.ref a1), .val (.ref a2), .unset] [(.ref a2)])) _
    refine st1 _ ?_
    show Steps p.tables e below (T1.setTop (mkF m 4 #[.val (.ref a1), .val (.ref a2), .unset] [(.int (0 : Int32))])) _
    refine XS.ifYes X1.here hx rfl (pc0 := 4) (pc' := 50) rfl (hb hby d6_4) rfl ((if0 _ _).trans (teq (rfl : (0 : Int32) = (0 : Int32))).1) (by decide) (by decide) ?_
    show Steps p.tables e below (T1.setTop (mkF m 50 #[.val (.ref a1), .val (.ref a2), .unset] [])) _
    refine XS.iconst X1.here hx rfl (hb hby d6_50) ?_
    show Steps p.tables e below (T1.setTop (mkF m 51 #[.val (.ref a1), .val (.ref a2), .unset] [(.int (0 : Int32))])) _
    exact retN X1 hx (t := .boolean) Bd.returns (by simp) (hb hby d6_51) hr
  · show Q6z h0 n0 _ T1.heap _
    rw [e1]
    exact ⟨rfl, N0, rfl⟩
set_option maxRecDepth 65536 in
set_option maxHeartbeats 40000000 in
theorem cs_18 {p : Program} {l : Launch} {e : Env} {s : State} {m : MethodId} {args : Array Value} {below : List Frame} {meth : Method} {c : Code} {T0 : State} {locs : List Loc} {Z : State} {a0 : Array Value} {h0 : Heap} {n0 : Nat}  (s0 : Slot) (s1 : Slot) (s2 : Slot) (s3 : Slot) (xx : Int32) (s5 : Slot) (s6 : Slot) (fl : Int32) (m1 : Int32) (s9 : Slot) (s10 : Slot) (s11 : Slot) (s12 : Slot) (s13 : Slot) (s14 : Slot) (s15 : Slot) (s16 : Slot) (s17 : Slot) (s18 : Slot) (s19 : Slot) (v0 : Int32) (hv0 : v0 = (if (fl &&& (1 : Int32)) = (0 : Int32) then (own_fi xx) else m1))
    (X0 : Stand p l e room_1 s m args below meth c T0 locs 0 0) (hx : p.tables.exec = Jvm.exec) (hZ : Z.Warmed39 s.vm) (hw : ∀ d ∈ tables_1, d.before a0 Z = true) (hby : c.code = code) (hml : c.maxLocals = 20) (hown : s.vm.findClass "com/example/tuplewise/tuplewise/value/TimeIntervalValueEqualsPinLaw" = some m.cls) (e0 : T0.heap = h0) (Z0 : n0 ≤ h0.size) :
    ∃ (T' : State) (L' : List Loc), Stand p l e room_1 s m args below meth c T' (locs ++ L') 0 0 ∧ Fr n0 L' ∧ T'.heap = h0 ∧ ∀ target, Steps p.tables e below (T'.setTop (mkF m 35 #[s0, s1, s2, s3, .val (.int xx), s5, s6, .val (.int fl), .val (.int m1), s9, s10, s11, s12, s13, s14, s15, s16, s17, s18, s19] [(.int v0)])) target → Steps p.tables e below (T0.setTop (mkF m 18 #[s0, s1, s2, s3, .val (.int xx), s5, s6, .val (.int fl), .val (.int m1), s9, s10, s11, s12, s13, s14, s15, s16, s17, s18, s19] [])) target := by
  by_cases hc22 : (fl &&& (1 : Int32)) = (0 : Int32)
  ·
    obtain ⟨_, _, ⟨T1, L1, k1, n1⟩, -, X1, ⟨Lc1, hQ1, l1, y1, z1⟩, st1⟩ := Jvm.LawKit.callS X0 hx (y := (⟨"com/example/tuplewise/tuplewise/value/TimeIntervalValueEqualsPinLaw", "fixI", "(I)I"⟩ : MethodName)) hown (mvT hZ (hw _ (List.mem_of_getElem? (i := 0) rfl))) (mvT hZ (hw _ (List.mem_of_getElem? (i := 1) rfl))) (mvT hZ (hw _ (List.mem_of_getElem? (i := 2) rfl))) (mvT hZ (hw _ (List.mem_of_getElem? (i := 3) rfl))) (by decide) (backOf (W := 0) (rm1 l Z a0 hw [] xx h0 n0 Z0) hZ (hw _ (List.mem_of_getElem? (i := 3) rfl)) (hw _ (List.mem_of_getElem? (i := 2) rfl)) (by decide) (by decide)) (g := (mkF m 32 #[s0, s1, s2, s3, .val (.int xx), s5, s6, .val (.int fl), .val (.int m1), s9, s10, s11, s12, s13, s14, s15, s16, s17, s18, s19] [(.int xx)])) rfl (by rw [hml]; rfl) (argsL := [(.int xx)]) (rest := []) (lenOf pd_2 rfl) rfl (by show 2 * 0 + _ ≤ _; exact Nat.le_of_eq rfl) (hb hby at_32) (fun _ _ => ⟨rfl, e0, (by decide : 0 + 0 ≤ _), (by decide : 0 + 0 ≤ _)⟩)
    dsimp only [Pt.U, Pt.locs, Pt.cells, Pt.slots] at X1 l1 y1 z1 st1 hQ1
    subst l1 y1 z1
    obtain ⟨rfl, N1q, e1⟩ := hQ1
    have N1 := Fr.app (Fr.nil n0) N1q
    refine ⟨T1, Lc1, X1, N1q, e1, fun target kt => ?_⟩
    simp only [if_pos hc22] at hv0
    rw [hv0] at kt
    show Steps p.tables e below (T0.setTop (mkF m 18 #[s0, s1, s2, s3, .val (.int xx), s5, s6, .val (.int fl), .val (.int m1), s9, s10, s11, s12, s13, s14, s15, s16, s17, s18, s19] [])) _
    refine XS.iload X0.here hx rfl (hb hby at_18) rfl ?_
    show Steps p.tables e below (T0.setTop (mkF m 20 #[s0, s1, s2, s3, .val (.int xx), s5, s6, .val (.int fl), .val (.int m1), s9, s10, s11, s12, s13, s14, s15, s16, s17, s18, s19] [(.int fl)])) _
    refine XS.iconst X0.here hx rfl (hb hby at_20) ?_
    show Steps p.tables e below (T0.setTop (mkF m 21 #[s0, s1, s2, s3, .val (.int xx), s5, s6, .val (.int fl), .val (.int m1), s9, s10, s11, s12, s13, s14, s15, s16, s17, s18, s19] [(.int (1 : Int32)), (.int fl)])) _
    refine XS.iand X0.here hx rfl (hb hby at_21) rfl ?_
    show Steps p.tables e below (T0.setTop (mkF m 22 #[s0, s1, s2, s3, .val (.int xx), s5, s6, .val (.int fl), .val (.int m1), s9, s10, s11, s12, s13, s14, s15, s16, s17, s18, s19] [(.int (fl &&& (1 : Int32)))])) _
    refine XS.ifYes X0.here hx rfl (pc0 := 22) (pc' := 30) rfl (hb hby at_22) rfl ((if0 _ _).trans (teq hc22).1) (by decide) (by decide) ?_
    show Steps p.tables e below (T0.setTop (mkF m 30 #[s0, s1, s2, s3, .val (.int xx), s5, s6, .val (.int fl), .val (.int m1), s9, s10, s11, s12, s13, s14, s15, s16, s17, s18, s19] [])) _
    refine XS.iload X0.here hx rfl (hb hby at_30) rfl ?_
    show Steps p.tables e below (T0.setTop (mkF m 32 #[s0, s1, s2, s3, .val (.int xx), s5, s6, .val (.int fl), .val (.int m1), s9, s10, s11, s12, s13, s14, s15, s16, s17, s18, s19] [(.int xx)])) _
    refine st1 _ ?_
    show Steps p.tables e below (T1.setTop (mkF m 35 #[s0, s1, s2, s3, .val (.int xx), s5, s6, .val (.int fl), .val (.int m1), s9, s10, s11, s12, s13, s14, s15, s16, s17, s18, s19] [(.int (own_fi xx))])) _
    exact kt
  ·
    refine ⟨T0, [], (List.append_nil locs).symm ▸ X0, Fr.nil n0, e0, fun target kt => ?_⟩
    simp only [if_neg hc22] at hv0
    rw [hv0] at kt
    show Steps p.tables e below (T0.setTop (mkF m 18 #[s0, s1, s2, s3, .val (.int xx), s5, s6, .val (.int fl), .val (.int m1), s9, s10, s11, s12, s13, s14, s15, s16, s17, s18, s19] [])) _
    refine XS.iload X0.here hx rfl (hb hby at_18) rfl ?_
    show Steps p.tables e below (T0.setTop (mkF m 20 #[s0, s1, s2, s3, .val (.int xx), s5, s6, .val (.int fl), .val (.int m1), s9, s10, s11, s12, s13, s14, s15, s16, s17, s18, s19] [(.int fl)])) _
    refine XS.iconst X0.here hx rfl (hb hby at_20) ?_
    show Steps p.tables e below (T0.setTop (mkF m 21 #[s0, s1, s2, s3, .val (.int xx), s5, s6, .val (.int fl), .val (.int m1), s9, s10, s11, s12, s13, s14, s15, s16, s17, s18, s19] [(.int (1 : Int32)), (.int fl)])) _
    refine XS.iand X0.here hx rfl (hb hby at_21) rfl ?_
    show Steps p.tables e below (T0.setTop (mkF m 22 #[s0, s1, s2, s3, .val (.int xx), s5, s6, .val (.int fl), .val (.int m1), s9, s10, s11, s12, s13, s14, s15, s16, s17, s18, s19] [(.int (fl &&& (1 : Int32)))])) _
    refine XS.ifNo X0.here hx rfl (hb hby at_22) rfl ((if0 _ _).trans (feq hc22).1) ?_
    show Steps p.tables e below (T0.setTop (mkF m 25 #[s0, s1, s2, s3, .val (.int xx), s5, s6, .val (.int fl), .val (.int m1), s9, s10, s11, s12, s13, s14, s15, s16, s17, s18, s19] [])) _
    refine XS.iload X0.here hx rfl (hb hby at_25) rfl ?_
    show Steps p.tables e below (T0.setTop (mkF m 27 #[s0, s1, s2, s3, .val (.int xx), s5, s6, .val (.int fl), .val (.int m1), s9, s10, s11, s12, s13, s14, s15, s16, s17, s18, s19] [(.int m1)])) _
    refine XS.goto X0.here hx rfl (pc0 := 27) (pc' := 35) rfl (hb hby at_27) (by decide) (by decide) ?_
    show Steps p.tables e below (T0.setTop (mkF m 35 #[s0, s1, s2, s3, .val (.int xx), s5, s6, .val (.int fl), .val (.int m1), s9, s10, s11, s12, s13, s14, s15, s16, s17, s18, s19] [(.int m1)])) _
    exact kt
set_option maxRecDepth 65536 in
set_option maxHeartbeats 40000000 in
theorem cs_37 {p : Program} {l : Launch} {e : Env} {s : State} {m : MethodId} {args : Array Value} {below : List Frame} {meth : Method} {c : Code} {T0 : State} {locs : List Loc} {Z : State} {a0 : Array Value} {h0 : Heap} {n0 : Nat}  (s0 : Slot) (s1 : Slot) (s2 : Slot) (s3 : Slot) (xx : Int32) (yy : Int64) (fl : Int32) (s8 : Slot) (d1 : Int32) (s10 : Slot) (s11 : Slot) (s12 : Slot) (s13 : Slot) (s14 : Slot) (s15 : Slot) (s16 : Slot) (s17 : Slot) (s18 : Slot) (s19 : Slot) (v0 : Int32) (hv0 : v0 = (if (fl &&& (2 : Int32)) = (0 : Int32) then (own_fi (xx ^^^ (yy.toInt32))) else d1))
    (X0 : Stand p l e room_1 s m args below meth c T0 locs 0 0) (hx : p.tables.exec = Jvm.exec) (hZ : Z.Warmed39 s.vm) (hw : ∀ d ∈ tables_1, d.before a0 Z = true) (hby : c.code = code) (hml : c.maxLocals = 20) (hown : s.vm.findClass "com/example/tuplewise/tuplewise/value/TimeIntervalValueEqualsPinLaw" = some m.cls) (e0 : T0.heap = h0) (Z0 : n0 ≤ h0.size) :
    ∃ (T' : State) (L' : List Loc), Stand p l e room_1 s m args below meth c T' (locs ++ L') 0 0 ∧ Fr n0 L' ∧ T'.heap = h0 ∧ ∀ target, Steps p.tables e below (T'.setTop (mkF m 58 #[s0, s1, s2, s3, .val (.int xx), .val (.long yy), .second, .val (.int fl), s8, .val (.int d1), s10, s11, s12, s13, s14, s15, s16, s17, s18, s19] [(.int v0)])) target → Steps p.tables e below (T0.setTop (mkF m 37 #[s0, s1, s2, s3, .val (.int xx), .val (.long yy), .second, .val (.int fl), s8, .val (.int d1), s10, s11, s12, s13, s14, s15, s16, s17, s18, s19] [])) target := by
  by_cases hc41 : (fl &&& (2 : Int32)) = (0 : Int32)
  ·
    obtain ⟨_, _, ⟨T1, L1, k1, n1⟩, -, X1, ⟨Lc1, hQ1, l1, y1, z1⟩, st1⟩ := Jvm.LawKit.callS X0 hx (y := (⟨"com/example/tuplewise/tuplewise/value/TimeIntervalValueEqualsPinLaw", "fixI", "(I)I"⟩ : MethodName)) hown (mvT hZ (hw _ (List.mem_of_getElem? (i := 0) rfl))) (mvT hZ (hw _ (List.mem_of_getElem? (i := 1) rfl))) (mvT hZ (hw _ (List.mem_of_getElem? (i := 2) rfl))) (mvT hZ (hw _ (List.mem_of_getElem? (i := 3) rfl))) (by decide) (backOf (W := 0) (rm1 l Z a0 hw [] (xx ^^^ (yy.toInt32)) h0 n0 Z0) hZ (hw _ (List.mem_of_getElem? (i := 3) rfl)) (hw _ (List.mem_of_getElem? (i := 2) rfl)) (by decide) (by decide)) (g := (mkF m 55 #[s0, s1, s2, s3, .val (.int xx), .val (.long yy), .second, .val (.int fl), s8, .val (.int d1), s10, s11, s12, s13, s14, s15, s16, s17, s18, s19] [(.int (xx ^^^ (yy.toInt32)))])) rfl (by rw [hml]; rfl) (argsL := [(.int (xx ^^^ (yy.toInt32)))]) (rest := []) (lenOf pd_2 rfl) rfl (by show 2 * 0 + _ ≤ _; exact Nat.le_of_eq rfl) (hb hby at_55) (fun _ _ => ⟨rfl, e0, (by decide : 0 + 0 ≤ _), (by decide : 0 + 0 ≤ _)⟩)
    dsimp only [Pt.U, Pt.locs, Pt.cells, Pt.slots] at X1 l1 y1 z1 st1 hQ1
    subst l1 y1 z1
    obtain ⟨rfl, N1q, e1⟩ := hQ1
    have N1 := Fr.app (Fr.nil n0) N1q
    refine ⟨T1, Lc1, X1, N1q, e1, fun target kt => ?_⟩
    simp only [if_pos hc41] at hv0
    rw [hv0] at kt
    show Steps p.tables e below (T0.setTop (mkF m 37 #[s0, s1, s2, s3, .val (.int xx), .val (.long yy), .second, .val (.int fl), s8, .val (.int d1), s10, s11, s12, s13, s14, s15, s16, s17, s18, s19] [])) _
    refine XS.iload X0.here hx rfl (hb hby at_37) rfl ?_
    show Steps p.tables e below (T0.setTop (mkF m 39 #[s0, s1, s2, s3, .val (.int xx), .val (.long yy), .second, .val (.int fl), s8, .val (.int d1), s10, s11, s12, s13, s14, s15, s16, s17, s18, s19] [(.int fl)])) _
    refine XS.iconst X0.here hx rfl (hb hby at_39) ?_
    show Steps p.tables e below (T0.setTop (mkF m 40 #[s0, s1, s2, s3, .val (.int xx), .val (.long yy), .second, .val (.int fl), s8, .val (.int d1), s10, s11, s12, s13, s14, s15, s16, s17, s18, s19] [(.int (2 : Int32)), (.int fl)])) _
    refine XS.iand X0.here hx rfl (hb hby at_40) rfl ?_
    show Steps p.tables e below (T0.setTop (mkF m 41 #[s0, s1, s2, s3, .val (.int xx), .val (.long yy), .second, .val (.int fl), s8, .val (.int d1), s10, s11, s12, s13, s14, s15, s16, s17, s18, s19] [(.int (fl &&& (2 : Int32)))])) _
    refine XS.ifYes X0.here hx rfl (pc0 := 41) (pc' := 49) rfl (hb hby at_41) rfl ((if0 _ _).trans (teq hc41).1) (by decide) (by decide) ?_
    show Steps p.tables e below (T0.setTop (mkF m 49 #[s0, s1, s2, s3, .val (.int xx), .val (.long yy), .second, .val (.int fl), s8, .val (.int d1), s10, s11, s12, s13, s14, s15, s16, s17, s18, s19] [])) _
    refine XS.iload X0.here hx rfl (hb hby at_49) rfl ?_
    show Steps p.tables e below (T0.setTop (mkF m 51 #[s0, s1, s2, s3, .val (.int xx), .val (.long yy), .second, .val (.int fl), s8, .val (.int d1), s10, s11, s12, s13, s14, s15, s16, s17, s18, s19] [(.int xx)])) _
    refine XS.lload X0.here hx rfl (hb hby at_51) rfl ?_
    show Steps p.tables e below (T0.setTop (mkF m 53 #[s0, s1, s2, s3, .val (.int xx), .val (.long yy), .second, .val (.int fl), s8, .val (.int d1), s10, s11, s12, s13, s14, s15, s16, s17, s18, s19] [(.long yy), (.int xx)])) _
    refine XS.l2i X0.here hx rfl (hb hby at_53) rfl ?_
    show Steps p.tables e below (T0.setTop (mkF m 54 #[s0, s1, s2, s3, .val (.int xx), .val (.long yy), .second, .val (.int fl), s8, .val (.int d1), s10, s11, s12, s13, s14, s15, s16, s17, s18, s19] [(.int (yy.toInt32)), (.int xx)])) _
    refine XS.ixor X0.here hx rfl (hb hby at_54) rfl ?_
    show Steps p.tables e below (T0.setTop (mkF m 55 #[s0, s1, s2, s3, .val (.int xx), .val (.long yy), .second, .val (.int fl), s8, .val (.int d1), s10, s11, s12, s13, s14, s15, s16, s17, s18, s19] [(.int (xx ^^^ (yy.toInt32)))])) _
    refine st1 _ ?_
    show Steps p.tables e below (T1.setTop (mkF m 58 #[s0, s1, s2, s3, .val (.int xx), .val (.long yy), .second, .val (.int fl), s8, .val (.int d1), s10, s11, s12, s13, s14, s15, s16, s17, s18, s19] [(.int (own_fi (xx ^^^ (yy.toInt32))))])) _
    exact kt
  ·
    refine ⟨T0, [], (List.append_nil locs).symm ▸ X0, Fr.nil n0, e0, fun target kt => ?_⟩
    simp only [if_neg hc41] at hv0
    rw [hv0] at kt
    show Steps p.tables e below (T0.setTop (mkF m 37 #[s0, s1, s2, s3, .val (.int xx), .val (.long yy), .second, .val (.int fl), s8, .val (.int d1), s10, s11, s12, s13, s14, s15, s16, s17, s18, s19] [])) _
    refine XS.iload X0.here hx rfl (hb hby at_37) rfl ?_
    show Steps p.tables e below (T0.setTop (mkF m 39 #[s0, s1, s2, s3, .val (.int xx), .val (.long yy), .second, .val (.int fl), s8, .val (.int d1), s10, s11, s12, s13, s14, s15, s16, s17, s18, s19] [(.int fl)])) _
    refine XS.iconst X0.here hx rfl (hb hby at_39) ?_
    show Steps p.tables e below (T0.setTop (mkF m 40 #[s0, s1, s2, s3, .val (.int xx), .val (.long yy), .second, .val (.int fl), s8, .val (.int d1), s10, s11, s12, s13, s14, s15, s16, s17, s18, s19] [(.int (2 : Int32)), (.int fl)])) _
    refine XS.iand X0.here hx rfl (hb hby at_40) rfl ?_
    show Steps p.tables e below (T0.setTop (mkF m 41 #[s0, s1, s2, s3, .val (.int xx), .val (.long yy), .second, .val (.int fl), s8, .val (.int d1), s10, s11, s12, s13, s14, s15, s16, s17, s18, s19] [(.int (fl &&& (2 : Int32)))])) _
    refine XS.ifNo X0.here hx rfl (hb hby at_41) rfl ((if0 _ _).trans (feq hc41).1) ?_
    show Steps p.tables e below (T0.setTop (mkF m 44 #[s0, s1, s2, s3, .val (.int xx), .val (.long yy), .second, .val (.int fl), s8, .val (.int d1), s10, s11, s12, s13, s14, s15, s16, s17, s18, s19] [])) _
    refine XS.iload X0.here hx rfl (hb hby at_44) rfl ?_
    show Steps p.tables e below (T0.setTop (mkF m 46 #[s0, s1, s2, s3, .val (.int xx), .val (.long yy), .second, .val (.int fl), s8, .val (.int d1), s10, s11, s12, s13, s14, s15, s16, s17, s18, s19] [(.int d1)])) _
    refine XS.goto X0.here hx rfl (pc0 := 46) (pc' := 58) rfl (hb hby at_46) (by decide) (by decide) ?_
    show Steps p.tables e below (T0.setTop (mkF m 58 #[s0, s1, s2, s3, .val (.int xx), .val (.long yy), .second, .val (.int fl), s8, .val (.int d1), s10, s11, s12, s13, s14, s15, s16, s17, s18, s19] [(.int d1)])) _
    exact kt
set_option maxRecDepth 65536 in
set_option maxHeartbeats 40000000 in
theorem cs_60 {p : Program} {l : Launch} {e : Env} {s : State} {m : MethodId} {args : Array Value} {below : List Frame} {meth : Method} {c : Code} {T0 : State} {locs : List Loc} {Z : State} {a0 : Array Value} {h0 : Heap} {n0 : Nat}  (s0 : Slot) (s1 : Slot) (s2 : Slot) (s3 : Slot) (s4 : Slot) (yy : Int64) (fl : Int32) (s8 : Slot) (s9 : Slot) (u1 : Int64) (s12 : Slot) (s13 : Slot) (s14 : Slot) (s15 : Slot) (s16 : Slot) (s17 : Slot) (s18 : Slot) (s19 : Slot) (v0 : Int64) (hv0 : v0 = (if (fl &&& (4 : Int32)) = (0 : Int32) then (own_fl yy) else u1))
    (X0 : Stand p l e room_1 s m args below meth c T0 locs 0 0) (hx : p.tables.exec = Jvm.exec) (hZ : Z.Warmed39 s.vm) (hw : ∀ d ∈ tables_1, d.before a0 Z = true) (hby : c.code = code) (hml : c.maxLocals = 20) (hown : s.vm.findClass "com/example/tuplewise/tuplewise/value/TimeIntervalValueEqualsPinLaw" = some m.cls) (e0 : T0.heap = h0) (Z0 : n0 ≤ h0.size) :
    ∃ (T' : State) (L' : List Loc), Stand p l e room_1 s m args below meth c T' (locs ++ L') 0 0 ∧ Fr n0 L' ∧ T'.heap = h0 ∧ ∀ target, Steps p.tables e below (T'.setTop (mkF m 77 #[s0, s1, s2, s3, s4, .val (.long yy), .second, .val (.int fl), s8, s9, .val (.long u1), .second, s12, s13, s14, s15, s16, s17, s18, s19] [(.long v0)])) target → Steps p.tables e below (T0.setTop (mkF m 60 #[s0, s1, s2, s3, s4, .val (.long yy), .second, .val (.int fl), s8, s9, .val (.long u1), .second, s12, s13, s14, s15, s16, s17, s18, s19] [])) target := by
  by_cases hc64 : (fl &&& (4 : Int32)) = (0 : Int32)
  ·
    obtain ⟨_, _, ⟨T1, L1, k1, n1⟩, -, X1, ⟨Lc1, hQ1, l1, y1, z1⟩, st1⟩ := Jvm.LawKit.callS X0 hx (y := (⟨"com/example/tuplewise/tuplewise/value/TimeIntervalValueEqualsPinLaw", "fixL", "(J)J"⟩ : MethodName)) hown (mvT hZ (hw _ (List.mem_of_getElem? (i := 5) rfl))) (mvT hZ (hw _ (List.mem_of_getElem? (i := 6) rfl))) (mvT hZ (hw _ (List.mem_of_getElem? (i := 2) rfl))) (mvT hZ (hw _ (List.mem_of_getElem? (i := 7) rfl))) (by decide) (backOf (W := 0) (rm2 l Z a0 hw [] yy h0 n0 Z0) hZ (hw _ (List.mem_of_getElem? (i := 7) rfl)) (hw _ (List.mem_of_getElem? (i := 2) rfl)) (by decide) (by decide)) (g := (mkF m 74 #[s0, s1, s2, s3, s4, .val (.long yy), .second, .val (.int fl), s8, s9, .val (.long u1), .second, s12, s13, s14, s15, s16, s17, s18, s19] [(.long yy)])) rfl (by rw [hml]; rfl) (argsL := [(.long yy)]) (rest := []) (lenOf pd_3 rfl) rfl (by show 2 * 0 + _ ≤ _; exact Nat.le_of_eq rfl) (hb hby at_74) (fun _ _ => ⟨rfl, e0, (by decide : 0 + 0 ≤ _), (by decide : 0 + 0 ≤ _)⟩)
    dsimp only [Pt.U, Pt.locs, Pt.cells, Pt.slots] at X1 l1 y1 z1 st1 hQ1
    subst l1 y1 z1
    obtain ⟨rfl, N1q, e1⟩ := hQ1
    have N1 := Fr.app (Fr.nil n0) N1q
    refine ⟨T1, Lc1, X1, N1q, e1, fun target kt => ?_⟩
    simp only [if_pos hc64] at hv0
    rw [hv0] at kt
    show Steps p.tables e below (T0.setTop (mkF m 60 #[s0, s1, s2, s3, s4, .val (.long yy), .second, .val (.int fl), s8, s9, .val (.long u1), .second, s12, s13, s14, s15, s16, s17, s18, s19] [])) _
    refine XS.iload X0.here hx rfl (hb hby at_60) rfl ?_
    show Steps p.tables e below (T0.setTop (mkF m 62 #[s0, s1, s2, s3, s4, .val (.long yy), .second, .val (.int fl), s8, s9, .val (.long u1), .second, s12, s13, s14, s15, s16, s17, s18, s19] [(.int fl)])) _
    refine XS.iconst X0.here hx rfl (hb hby at_62) ?_
    show Steps p.tables e below (T0.setTop (mkF m 63 #[s0, s1, s2, s3, s4, .val (.long yy), .second, .val (.int fl), s8, s9, .val (.long u1), .second, s12, s13, s14, s15, s16, s17, s18, s19] [(.int (4 : Int32)), (.int fl)])) _
    refine XS.iand X0.here hx rfl (hb hby at_63) rfl ?_
    show Steps p.tables e below (T0.setTop (mkF m 64 #[s0, s1, s2, s3, s4, .val (.long yy), .second, .val (.int fl), s8, s9, .val (.long u1), .second, s12, s13, s14, s15, s16, s17, s18, s19] [(.int (fl &&& (4 : Int32)))])) _
    refine XS.ifYes X0.here hx rfl (pc0 := 64) (pc' := 72) rfl (hb hby at_64) rfl ((if0 _ _).trans (teq hc64).1) (by decide) (by decide) ?_
    show Steps p.tables e below (T0.setTop (mkF m 72 #[s0, s1, s2, s3, s4, .val (.long yy), .second, .val (.int fl), s8, s9, .val (.long u1), .second, s12, s13, s14, s15, s16, s17, s18, s19] [])) _
    refine XS.lload X0.here hx rfl (hb hby at_72) rfl ?_
    show Steps p.tables e below (T0.setTop (mkF m 74 #[s0, s1, s2, s3, s4, .val (.long yy), .second, .val (.int fl), s8, s9, .val (.long u1), .second, s12, s13, s14, s15, s16, s17, s18, s19] [(.long yy)])) _
    refine st1 _ ?_
    show Steps p.tables e below (T1.setTop (mkF m 77 #[s0, s1, s2, s3, s4, .val (.long yy), .second, .val (.int fl), s8, s9, .val (.long u1), .second, s12, s13, s14, s15, s16, s17, s18, s19] [(.long (own_fl yy))])) _
    exact kt
  ·
    refine ⟨T0, [], (List.append_nil locs).symm ▸ X0, Fr.nil n0, e0, fun target kt => ?_⟩
    simp only [if_neg hc64] at hv0
    rw [hv0] at kt
    show Steps p.tables e below (T0.setTop (mkF m 60 #[s0, s1, s2, s3, s4, .val (.long yy), .second, .val (.int fl), s8, s9, .val (.long u1), .second, s12, s13, s14, s15, s16, s17, s18, s19] [])) _
    refine XS.iload X0.here hx rfl (hb hby at_60) rfl ?_
    show Steps p.tables e below (T0.setTop (mkF m 62 #[s0, s1, s2, s3, s4, .val (.long yy), .second, .val (.int fl), s8, s9, .val (.long u1), .second, s12, s13, s14, s15, s16, s17, s18, s19] [(.int fl)])) _
    refine XS.iconst X0.here hx rfl (hb hby at_62) ?_
    show Steps p.tables e below (T0.setTop (mkF m 63 #[s0, s1, s2, s3, s4, .val (.long yy), .second, .val (.int fl), s8, s9, .val (.long u1), .second, s12, s13, s14, s15, s16, s17, s18, s19] [(.int (4 : Int32)), (.int fl)])) _
    refine XS.iand X0.here hx rfl (hb hby at_63) rfl ?_
    show Steps p.tables e below (T0.setTop (mkF m 64 #[s0, s1, s2, s3, s4, .val (.long yy), .second, .val (.int fl), s8, s9, .val (.long u1), .second, s12, s13, s14, s15, s16, s17, s18, s19] [(.int (fl &&& (4 : Int32)))])) _
    refine XS.ifNo X0.here hx rfl (hb hby at_64) rfl ((if0 _ _).trans (feq hc64).1) ?_
    show Steps p.tables e below (T0.setTop (mkF m 67 #[s0, s1, s2, s3, s4, .val (.long yy), .second, .val (.int fl), s8, s9, .val (.long u1), .second, s12, s13, s14, s15, s16, s17, s18, s19] [])) _
    refine XS.lload X0.here hx rfl (hb hby at_67) rfl ?_
    show Steps p.tables e below (T0.setTop (mkF m 69 #[s0, s1, s2, s3, s4, .val (.long yy), .second, .val (.int fl), s8, s9, .val (.long u1), .second, s12, s13, s14, s15, s16, s17, s18, s19] [(.long u1)])) _
    refine XS.goto X0.here hx rfl (pc0 := 69) (pc' := 77) rfl (hb hby at_69) (by decide) (by decide) ?_
    show Steps p.tables e below (T0.setTop (mkF m 77 #[s0, s1, s2, s3, s4, .val (.long yy), .second, .val (.int fl), s8, s9, .val (.long u1), .second, s12, s13, s14, s15, s16, s17, s18, s19] [(.long u1)])) _
    exact kt
set_option maxRecDepth 65536 in
set_option maxHeartbeats 40000000 in
theorem sg_163 {p : Program} {l : Launch} {e : Env} {R : Room} {s : State} {m : MethodId} {args : Array Value} {below : List Frame} {meth : Method} {c : Code} {T0 : State} {locs : List Loc} {cells slots : Nat} {Z : State} {a0 : Array Value}  (s0 : Slot) (s1 : Slot) (s2 : Slot) (s3 : Slot) (s4 : Slot) (s5 : Slot) (s6 : Slot) (s7 : Slot) (m1 : Int32) (d1 : Int32) (u1 : Int64) (m2 : Int32) (d2 : Int32) (u2 : Int64) (s16 : Slot) (s17 : Slot) (s18 : Slot) (s19 : Slot) (v0 : Int32) (hv0 : v0 = (if m1 = m2 then (if d1 = d2 then (if (lcmpW u1 u2) = (0 : Int32) then (1 : Int32) else (0 : Int32)) else (0 : Int32)) else (0 : Int32)))
    (X0 : Stand p l e R s m args below meth c T0 locs cells slots) (hx : p.tables.exec = Jvm.exec) (hZ : Z.Warmed39 s.vm) (hw : ∀ d ∈ tables_1, d.before a0 Z = true) (hby : c.code = code) (hown : s.vm.findClass "com/example/tuplewise/tuplewise/value/TimeIntervalValueEqualsPinLaw" = some m.cls) {target : State}
    (kt : Steps p.tables e below (T0.setTop (mkF m 190 #[s0, s1, s2, s3, s4, s5, s6, s7, .val (.int m1), .val (.int d1), .val (.long u1), .second, .val (.int m2), .val (.int d2), .val (.long u2), .second, s16, s17, s18, s19] [(.int v0)])) target) : Steps p.tables e below (T0.setTop (mkF m 163 #[s0, s1, s2, s3, s4, s5, s6, s7, .val (.int m1), .val (.int d1), .val (.long u1), .second, .val (.int m2), .val (.int d2), .val (.long u2), .second, s16, s17, s18, s19] [])) target := by
  by_cases hc167 : m1 = m2
  ·
    by_cases hc174 : d1 = d2
    ·
      by_cases hc182 : (lcmpW u1 u2) = (0 : Int32)
      ·
        simp only [if_pos hc167, if_pos hc174, if_pos hc182] at hv0
        rw [hv0] at kt
        show Steps p.tables e below (T0.setTop (mkF m 163 #[s0, s1, s2, s3, s4, s5, s6, s7, .val (.int m1), .val (.int d1), .val (.long u1), .second, .val (.int m2), .val (.int d2), .val (.long u2), .second, s16, s17, s18, s19] [])) _
        refine XS.iload X0.here hx rfl (hb hby at_163) rfl ?_
        show Steps p.tables e below (T0.setTop (mkF m 165 #[s0, s1, s2, s3, s4, s5, s6, s7, .val (.int m1), .val (.int d1), .val (.long u1), .second, .val (.int m2), .val (.int d2), .val (.long u2), .second, s16, s17, s18, s19] [(.int m1)])) _
        refine XS.iload X0.here hx rfl (hb hby at_165) rfl ?_
        show Steps p.tables e below (T0.setTop (mkF m 167 #[s0, s1, s2, s3, s4, s5, s6, s7, .val (.int m1), .val (.int d1), .val (.long u1), .second, .val (.int m2), .val (.int d2), .val (.long u2), .second, s16, s17, s18, s19] [(.int m2), (.int m1)])) _
        refine XS.icmpNo X0.here hx rfl (hb hby at_167) rfl (teq hc167).2 ?_
        show Steps p.tables e below (T0.setTop (mkF m 170 #[s0, s1, s2, s3, s4, s5, s6, s7, .val (.int m1), .val (.int d1), .val (.long u1), .second, .val (.int m2), .val (.int d2), .val (.long u2), .second, s16, s17, s18, s19] [])) _
        refine XS.iload X0.here hx rfl (hb hby at_170) rfl ?_
        show Steps p.tables e below (T0.setTop (mkF m 172 #[s0, s1, s2, s3, s4, s5, s6, s7, .val (.int m1), .val (.int d1), .val (.long u1), .second, .val (.int m2), .val (.int d2), .val (.long u2), .second, s16, s17, s18, s19] [(.int d1)])) _
        refine XS.iload X0.here hx rfl (hb hby at_172) rfl ?_
        show Steps p.tables e below (T0.setTop (mkF m 174 #[s0, s1, s2, s3, s4, s5, s6, s7, .val (.int m1), .val (.int d1), .val (.long u1), .second, .val (.int m2), .val (.int d2), .val (.long u2), .second, s16, s17, s18, s19] [(.int d2), (.int d1)])) _
        refine XS.icmpNo X0.here hx rfl (hb hby at_174) rfl (teq hc174).2 ?_
        show Steps p.tables e below (T0.setTop (mkF m 177 #[s0, s1, s2, s3, s4, s5, s6, s7, .val (.int m1), .val (.int d1), .val (.long u1), .second, .val (.int m2), .val (.int d2), .val (.long u2), .second, s16, s17, s18, s19] [])) _
        refine XS.lload X0.here hx rfl (hb hby at_177) rfl ?_
        show Steps p.tables e below (T0.setTop (mkF m 179 #[s0, s1, s2, s3, s4, s5, s6, s7, .val (.int m1), .val (.int d1), .val (.long u1), .second, .val (.int m2), .val (.int d2), .val (.long u2), .second, s16, s17, s18, s19] [(.long u1)])) _
        refine XS.lload X0.here hx rfl (hb hby at_179) rfl ?_
        show Steps p.tables e below (T0.setTop (mkF m 181 #[s0, s1, s2, s3, s4, s5, s6, s7, .val (.int m1), .val (.int d1), .val (.long u1), .second, .val (.int m2), .val (.int d2), .val (.long u2), .second, s16, s17, s18, s19] [(.long u2), (.long u1)])) _
        refine XS.lcmp X0.here hx rfl (hb hby at_181) rfl ?_
        show Steps p.tables e below (T0.setTop (mkF m 182 #[s0, s1, s2, s3, s4, s5, s6, s7, .val (.int m1), .val (.int d1), .val (.long u1), .second, .val (.int m2), .val (.int d2), .val (.long u2), .second, s16, s17, s18, s19] [(.int (lcmpW u1 u2))])) _
        refine XS.ifNo X0.here hx rfl (hb hby at_182) rfl ((if0 _ _).trans (teq hc182).2) ?_
        show Steps p.tables e below (T0.setTop (mkF m 185 #[s0, s1, s2, s3, s4, s5, s6, s7, .val (.int m1), .val (.int d1), .val (.long u1), .second, .val (.int m2), .val (.int d2), .val (.long u2), .second, s16, s17, s18, s19] [])) _
        refine XS.iconst X0.here hx rfl (hb hby at_185) ?_
        show Steps p.tables e below (T0.setTop (mkF m 186 #[s0, s1, s2, s3, s4, s5, s6, s7, .val (.int m1), .val (.int d1), .val (.long u1), .second, .val (.int m2), .val (.int d2), .val (.long u2), .second, s16, s17, s18, s19] [(.int (1 : Int32))])) _
        refine XS.goto X0.here hx rfl (pc0 := 186) (pc' := 190) rfl (hb hby at_186) (by decide) (by decide) ?_
        show Steps p.tables e below (T0.setTop (mkF m 190 #[s0, s1, s2, s3, s4, s5, s6, s7, .val (.int m1), .val (.int d1), .val (.long u1), .second, .val (.int m2), .val (.int d2), .val (.long u2), .second, s16, s17, s18, s19] [(.int (1 : Int32))])) _
        exact kt
      ·
        simp only [if_pos hc167, if_pos hc174, if_neg hc182] at hv0
        rw [hv0] at kt
        show Steps p.tables e below (T0.setTop (mkF m 163 #[s0, s1, s2, s3, s4, s5, s6, s7, .val (.int m1), .val (.int d1), .val (.long u1), .second, .val (.int m2), .val (.int d2), .val (.long u2), .second, s16, s17, s18, s19] [])) _
        refine XS.iload X0.here hx rfl (hb hby at_163) rfl ?_
        show Steps p.tables e below (T0.setTop (mkF m 165 #[s0, s1, s2, s3, s4, s5, s6, s7, .val (.int m1), .val (.int d1), .val (.long u1), .second, .val (.int m2), .val (.int d2), .val (.long u2), .second, s16, s17, s18, s19] [(.int m1)])) _
        refine XS.iload X0.here hx rfl (hb hby at_165) rfl ?_
        show Steps p.tables e below (T0.setTop (mkF m 167 #[s0, s1, s2, s3, s4, s5, s6, s7, .val (.int m1), .val (.int d1), .val (.long u1), .second, .val (.int m2), .val (.int d2), .val (.long u2), .second, s16, s17, s18, s19] [(.int m2), (.int m1)])) _
        refine XS.icmpNo X0.here hx rfl (hb hby at_167) rfl (teq hc167).2 ?_
        show Steps p.tables e below (T0.setTop (mkF m 170 #[s0, s1, s2, s3, s4, s5, s6, s7, .val (.int m1), .val (.int d1), .val (.long u1), .second, .val (.int m2), .val (.int d2), .val (.long u2), .second, s16, s17, s18, s19] [])) _
        refine XS.iload X0.here hx rfl (hb hby at_170) rfl ?_
        show Steps p.tables e below (T0.setTop (mkF m 172 #[s0, s1, s2, s3, s4, s5, s6, s7, .val (.int m1), .val (.int d1), .val (.long u1), .second, .val (.int m2), .val (.int d2), .val (.long u2), .second, s16, s17, s18, s19] [(.int d1)])) _
        refine XS.iload X0.here hx rfl (hb hby at_172) rfl ?_
        show Steps p.tables e below (T0.setTop (mkF m 174 #[s0, s1, s2, s3, s4, s5, s6, s7, .val (.int m1), .val (.int d1), .val (.long u1), .second, .val (.int m2), .val (.int d2), .val (.long u2), .second, s16, s17, s18, s19] [(.int d2), (.int d1)])) _
        refine XS.icmpNo X0.here hx rfl (hb hby at_174) rfl (teq hc174).2 ?_
        show Steps p.tables e below (T0.setTop (mkF m 177 #[s0, s1, s2, s3, s4, s5, s6, s7, .val (.int m1), .val (.int d1), .val (.long u1), .second, .val (.int m2), .val (.int d2), .val (.long u2), .second, s16, s17, s18, s19] [])) _
        refine XS.lload X0.here hx rfl (hb hby at_177) rfl ?_
        show Steps p.tables e below (T0.setTop (mkF m 179 #[s0, s1, s2, s3, s4, s5, s6, s7, .val (.int m1), .val (.int d1), .val (.long u1), .second, .val (.int m2), .val (.int d2), .val (.long u2), .second, s16, s17, s18, s19] [(.long u1)])) _
        refine XS.lload X0.here hx rfl (hb hby at_179) rfl ?_
        show Steps p.tables e below (T0.setTop (mkF m 181 #[s0, s1, s2, s3, s4, s5, s6, s7, .val (.int m1), .val (.int d1), .val (.long u1), .second, .val (.int m2), .val (.int d2), .val (.long u2), .second, s16, s17, s18, s19] [(.long u2), (.long u1)])) _
        refine XS.lcmp X0.here hx rfl (hb hby at_181) rfl ?_
        show Steps p.tables e below (T0.setTop (mkF m 182 #[s0, s1, s2, s3, s4, s5, s6, s7, .val (.int m1), .val (.int d1), .val (.long u1), .second, .val (.int m2), .val (.int d2), .val (.long u2), .second, s16, s17, s18, s19] [(.int (lcmpW u1 u2))])) _
        refine XS.ifYes X0.here hx rfl (pc0 := 182) (pc' := 189) rfl (hb hby at_182) rfl ((if0 _ _).trans (feq hc182).2) (by decide) (by decide) ?_
        show Steps p.tables e below (T0.setTop (mkF m 189 #[s0, s1, s2, s3, s4, s5, s6, s7, .val (.int m1), .val (.int d1), .val (.long u1), .second, .val (.int m2), .val (.int d2), .val (.long u2), .second, s16, s17, s18, s19] [])) _
        refine XS.iconst X0.here hx rfl (hb hby at_189) ?_
        show Steps p.tables e below (T0.setTop (mkF m 190 #[s0, s1, s2, s3, s4, s5, s6, s7, .val (.int m1), .val (.int d1), .val (.long u1), .second, .val (.int m2), .val (.int d2), .val (.long u2), .second, s16, s17, s18, s19] [(.int (0 : Int32))])) _
        exact kt
    ·
      simp only [if_pos hc167, if_neg hc174] at hv0
      rw [hv0] at kt
      show Steps p.tables e below (T0.setTop (mkF m 163 #[s0, s1, s2, s3, s4, s5, s6, s7, .val (.int m1), .val (.int d1), .val (.long u1), .second, .val (.int m2), .val (.int d2), .val (.long u2), .second, s16, s17, s18, s19] [])) _
      refine XS.iload X0.here hx rfl (hb hby at_163) rfl ?_
      show Steps p.tables e below (T0.setTop (mkF m 165 #[s0, s1, s2, s3, s4, s5, s6, s7, .val (.int m1), .val (.int d1), .val (.long u1), .second, .val (.int m2), .val (.int d2), .val (.long u2), .second, s16, s17, s18, s19] [(.int m1)])) _
      refine XS.iload X0.here hx rfl (hb hby at_165) rfl ?_
      show Steps p.tables e below (T0.setTop (mkF m 167 #[s0, s1, s2, s3, s4, s5, s6, s7, .val (.int m1), .val (.int d1), .val (.long u1), .second, .val (.int m2), .val (.int d2), .val (.long u2), .second, s16, s17, s18, s19] [(.int m2), (.int m1)])) _
      refine XS.icmpNo X0.here hx rfl (hb hby at_167) rfl (teq hc167).2 ?_
      show Steps p.tables e below (T0.setTop (mkF m 170 #[s0, s1, s2, s3, s4, s5, s6, s7, .val (.int m1), .val (.int d1), .val (.long u1), .second, .val (.int m2), .val (.int d2), .val (.long u2), .second, s16, s17, s18, s19] [])) _
      refine XS.iload X0.here hx rfl (hb hby at_170) rfl ?_
      show Steps p.tables e below (T0.setTop (mkF m 172 #[s0, s1, s2, s3, s4, s5, s6, s7, .val (.int m1), .val (.int d1), .val (.long u1), .second, .val (.int m2), .val (.int d2), .val (.long u2), .second, s16, s17, s18, s19] [(.int d1)])) _
      refine XS.iload X0.here hx rfl (hb hby at_172) rfl ?_
      show Steps p.tables e below (T0.setTop (mkF m 174 #[s0, s1, s2, s3, s4, s5, s6, s7, .val (.int m1), .val (.int d1), .val (.long u1), .second, .val (.int m2), .val (.int d2), .val (.long u2), .second, s16, s17, s18, s19] [(.int d2), (.int d1)])) _
      refine XS.icmpYes X0.here hx rfl (pc0 := 174) (pc' := 189) rfl (hb hby at_174) rfl (feq hc174).2 (by decide) (by decide) ?_
      show Steps p.tables e below (T0.setTop (mkF m 189 #[s0, s1, s2, s3, s4, s5, s6, s7, .val (.int m1), .val (.int d1), .val (.long u1), .second, .val (.int m2), .val (.int d2), .val (.long u2), .second, s16, s17, s18, s19] [])) _
      refine XS.iconst X0.here hx rfl (hb hby at_189) ?_
      show Steps p.tables e below (T0.setTop (mkF m 190 #[s0, s1, s2, s3, s4, s5, s6, s7, .val (.int m1), .val (.int d1), .val (.long u1), .second, .val (.int m2), .val (.int d2), .val (.long u2), .second, s16, s17, s18, s19] [(.int (0 : Int32))])) _
      exact kt
  ·
    simp only [if_neg hc167] at hv0
    rw [hv0] at kt
    show Steps p.tables e below (T0.setTop (mkF m 163 #[s0, s1, s2, s3, s4, s5, s6, s7, .val (.int m1), .val (.int d1), .val (.long u1), .second, .val (.int m2), .val (.int d2), .val (.long u2), .second, s16, s17, s18, s19] [])) _
    refine XS.iload X0.here hx rfl (hb hby at_163) rfl ?_
    show Steps p.tables e below (T0.setTop (mkF m 165 #[s0, s1, s2, s3, s4, s5, s6, s7, .val (.int m1), .val (.int d1), .val (.long u1), .second, .val (.int m2), .val (.int d2), .val (.long u2), .second, s16, s17, s18, s19] [(.int m1)])) _
    refine XS.iload X0.here hx rfl (hb hby at_165) rfl ?_
    show Steps p.tables e below (T0.setTop (mkF m 167 #[s0, s1, s2, s3, s4, s5, s6, s7, .val (.int m1), .val (.int d1), .val (.long u1), .second, .val (.int m2), .val (.int d2), .val (.long u2), .second, s16, s17, s18, s19] [(.int m2), (.int m1)])) _
    refine XS.icmpYes X0.here hx rfl (pc0 := 167) (pc' := 189) rfl (hb hby at_167) rfl (feq hc167).2 (by decide) (by decide) ?_
    show Steps p.tables e below (T0.setTop (mkF m 189 #[s0, s1, s2, s3, s4, s5, s6, s7, .val (.int m1), .val (.int d1), .val (.long u1), .second, .val (.int m2), .val (.int d2), .val (.long u2), .second, s16, s17, s18, s19] [])) _
    refine XS.iconst X0.here hx rfl (hb hby at_189) ?_
    show Steps p.tables e below (T0.setTop (mkF m 190 #[s0, s1, s2, s3, s4, s5, s6, s7, .val (.int m1), .val (.int d1), .val (.long u1), .second, .val (.int m2), .val (.int d2), .val (.long u2), .second, s16, s17, s18, s19] [(.int (0 : Int32))])) _
    exact kt
theorem ef_0 (m : MethodId) (q0 : Int32) (q1 : Int32) (q2 : Int64) (q3 : Int32) (q4 : Int64) (q5 : Int32) : entryFrame m #[(.int q0), (.int q1), (.long q2), (.int q3), (.long q4), (.int q5)] maxLocals = mkF m 0 #[.val (.int q0), .val (.int q1), .val (.long q2), .second, .val (.int q3), .val (.long q4), .second, .val (.int q5), .unset, .unset, .unset, .unset, .unset, .unset, .unset, .unset, .unset, .unset, .unset, .unset] [] := by first | (simp [entryFrame, mkF, argsToLocals, Value.category, maxLocals]; done) | rfl
def Q0 (h0 : Heap) (n0 : Nat) (v : Option Value) (h : Heap) (L : List Loc) : Prop := v = some (.int 1) ∧ Fr n0 L
set_option maxRecDepth 65536 in
set_option maxHeartbeats 40000000 in
theorem rm0 (l : Launch) (Z : State) (a0 : Array Value) (hw : ∀ d ∈ tables_1, d.before a0 Z = true) (ws : List Jvm.Cond) (q0 q1 : Int32) (q2 : Int64) (q3 : Int32) (q4 : Int64) (q5 : Int32) (h0 : Heap) (n0 : Nat) (Z0 : n0 ≤ h0.size) (O0 : Old Z n0 h0) (CC : own_cache Z) :
    MetFree l x (head1 (Jvm.Cond.code x code maxLocals ret :: ws) room_1) (fun a U => a = #[(.int q0), (.int q1), (.long q2), (.int q3), (.long q4), (.int q5)] ∧ Z.Warmed39 U.vm ∧ U.heap = h0) (fun _ _ _ _ _ => True) (fun _ U o U' => ∃ v L, o = .returned v ∧ Q0 h0 n0 v U'.heap L ∧ FrameEnd U o U' L 3 7) := by
  refine MetFree.of_bodySF (plainFor_of_name pn_0) hisR ?_
  intro p e s m args below meth c s₁ Bd hml0 hP hK
  obtain ⟨rfl, hZ, hh⟩ := hP
  have hx := Bd.exec
  have hby := Bd.bytes
  have hml : c.maxLocals = 20 := hml0
  have hown : s.vm.findClass "com/example/tuplewise/tuplewise/value/TimeIntervalValueEqualsPinLaw" = some m.cls := findClass_of_methodNamed Bd.named
  have hnm := (name_of_methodNamed Bd.named Bd.method).1
  have X0 : Stand p l e room_1 s m #[(.int q0), (.int q1), (.long q2), (.int q3), (.long q4), (.int q5)] below meth c s₁ [] 0 0 := Stand.of_body Bd
  have e0 : s₁.heap = h0 := by rw [← hh, Bd.state]; rfl
  have N0 := Fr.nil n0
  have pre0 : ∀ tgt, Steps p.tables e below (s₁.setTop (mkF m 0 #[.val (.int q0), .val (.int q1), .val (.long q2), .second, .val (.int q3), .val (.long q4), .second, .val (.int q5), .unset, .unset, .unset, .unset, .unset, .unset, .unset, .unset, .unset, .unset, .unset, .unset] [])) tgt → Steps p.tables e below (s₁.setTop (entryFrame m #[(.int q0), (.int q1), (.long q2), (.int q3), (.long q4), (.int q5)] maxLocals)) tgt := fun tgt k => castTop (ef_0 m q0 q1 q2 q3 q4 q5) k
  obtain ⟨_, _, ⟨T1, L1, k1, n1⟩, -, X1, ⟨Lc1, hQ1, l1, y1, z1⟩, st1⟩ := Jvm.LawKit.callS X0 hx (y := (⟨"com/example/tuplewise/tuplewise/value/TimeIntervalValueEqualsPinLaw", "fixI", "(I)I"⟩ : MethodName)) hown (mvT hZ (hw _ (List.mem_of_getElem? (i := 0) rfl))) (mvT hZ (hw _ (List.mem_of_getElem? (i := 1) rfl))) (mvT hZ (hw _ (List.mem_of_getElem? (i := 2) rfl))) (mvT hZ (hw _ (List.mem_of_getElem? (i := 3) rfl))) (by decide) (backOf (W := 0) (rm1 l Z a0 hw [] q0 h0 n0 Z0) hZ (hw _ (List.mem_of_getElem? (i := 3) rfl)) (hw _ (List.mem_of_getElem? (i := 2) rfl)) (by decide) (by decide)) (g := (mkF m 1 #[.val (.int q0), .val (.int q1), .val (.long q2), .second, .val (.int q3), .val (.long q4), .second, .val (.int q5), .unset, .unset, .unset, .unset, .unset, .unset, .unset, .unset, .unset, .unset, .unset, .unset] [(.int q0)])) rfl (by rw [hml]; rfl) (argsL := [(.int q0)]) (rest := []) (lenOf pd_2 rfl) rfl (by show 2 * 0 + _ ≤ _; exact Nat.le_of_eq rfl) (hb hby at_1) (fun _ _ => ⟨rfl, e0, (by decide : 0 + 0 ≤ _), (by decide : 0 + 0 ≤ _)⟩)
  dsimp only [Pt.U, Pt.locs, Pt.cells, Pt.slots] at X1 l1 y1 z1 st1 hQ1
  subst l1 y1 z1
  obtain ⟨rfl, N1q, e1⟩ := hQ1
  have N1 := Fr.app N0 N1q
  obtain ⟨_, _, ⟨T2, L2, k2, n2⟩, -, X2, ⟨Lc2, hQ2, l2, y2, z2⟩, st2⟩ := Jvm.LawKit.callS X1 hx (y := (⟨"com/example/tuplewise/tuplewise/value/TimeIntervalValueEqualsPinLaw", "fixI", "(I)I"⟩ : MethodName)) hown (mvT hZ (hw _ (List.mem_of_getElem? (i := 0) rfl))) (mvT hZ (hw _ (List.mem_of_getElem? (i := 1) rfl))) (mvT hZ (hw _ (List.mem_of_getElem? (i := 2) rfl))) (mvT hZ (hw _ (List.mem_of_getElem? (i := 3) rfl))) (by decide) (backOf (W := 0) (rm1 l Z a0 hw [] q1 h0 n0 Z0) hZ (hw _ (List.mem_of_getElem? (i := 3) rfl)) (hw _ (List.mem_of_getElem? (i := 2) rfl)) (by decide) (by decide)) (g := (mkF m 7 #[.val (.int q0), .val (.int q1), .val (.long q2), .second, .val (.int q3), .val (.long q4), .second, .val (.int q5), .val (.int (own_fi q0)), .unset, .unset, .unset, .unset, .unset, .unset, .unset, .unset, .unset, .unset, .unset] [(.int q1)])) rfl (by rw [hml]; rfl) (argsL := [(.int q1)]) (rest := []) (lenOf pd_2 rfl) rfl (by show 2 * 0 + _ ≤ _; exact Nat.le_of_eq rfl) (hb hby at_7) (fun _ _ => ⟨rfl, e1, (by decide : 0 + 0 ≤ _), (by decide : 0 + 0 ≤ _)⟩)
  dsimp only [Pt.U, Pt.locs, Pt.cells, Pt.slots] at X2 l2 y2 z2 st2 hQ2
  subst l2 y2 z2
  obtain ⟨rfl, N2q, e2⟩ := hQ2
  have N2 := Fr.app N1 N2q
  obtain ⟨_, _, ⟨T3, L3, k3, n3⟩, -, X3, ⟨Lc3, hQ3, l3, y3, z3⟩, st3⟩ := Jvm.LawKit.callS X2 hx (y := (⟨"com/example/tuplewise/tuplewise/value/TimeIntervalValueEqualsPinLaw", "fixL", "(J)J"⟩ : MethodName)) hown (mvT hZ (hw _ (List.mem_of_getElem? (i := 5) rfl))) (mvT hZ (hw _ (List.mem_of_getElem? (i := 6) rfl))) (mvT hZ (hw _ (List.mem_of_getElem? (i := 2) rfl))) (mvT hZ (hw _ (List.mem_of_getElem? (i := 7) rfl))) (by decide) (backOf (W := 0) (rm2 l Z a0 hw [] q2 h0 n0 Z0) hZ (hw _ (List.mem_of_getElem? (i := 7) rfl)) (hw _ (List.mem_of_getElem? (i := 2) rfl)) (by decide) (by decide)) (g := (mkF m 13 #[.val (.int q0), .val (.int q1), .val (.long q2), .second, .val (.int q3), .val (.long q4), .second, .val (.int q5), .val (.int (own_fi q0)), .val (.int (own_fi q1)), .unset, .unset, .unset, .unset, .unset, .unset, .unset, .unset, .unset, .unset] [(.long q2)])) rfl (by rw [hml]; rfl) (argsL := [(.long q2)]) (rest := []) (lenOf pd_3 rfl) rfl (by show 2 * 0 + _ ≤ _; exact Nat.le_of_eq rfl) (hb hby at_13) (fun _ _ => ⟨rfl, e2, (by decide : 0 + 0 ≤ _), (by decide : 0 + 0 ≤ _)⟩)
  dsimp only [Pt.U, Pt.locs, Pt.cells, Pt.slots] at X3 l3 y3 z3 st3 hQ3
  subst l3 y3 z3
  obtain ⟨rfl, N3q, e3⟩ := hQ3
  have N3 := Fr.app N2 N3q
  obtain ⟨v0_18, hv0_18⟩ : ∃ z : Int32, z = (if (q5 &&& (1 : Int32)) = (0 : Int32) then (own_fi q3) else (own_fi q0)) := ⟨_, rfl⟩
  obtain ⟨T4, L4, X4, N4q, e4, st4⟩ := cs_18  (.val (.int q0)) (.val (.int q1)) (.val (.long q2)) (.second) (q3) (.val (.long q4)) (.second) (q5) ((own_fi q0)) (.val (.int (own_fi q1))) (.val (.long (own_fl q2))) (.second) (.unset) (.unset) (.unset) (.unset) (.unset) (.unset) (.unset) (.unset) v0_18 hv0_18 X3 hx hZ hw hby hml hown e3 Z0
  have N4 := Fr.app N3 N4q
  obtain ⟨v0_37, hv0_37⟩ : ∃ z : Int32, z = (if (q5 &&& (2 : Int32)) = (0 : Int32) then (own_fi (q3 ^^^ (q4.toInt32))) else (own_fi q1)) := ⟨_, rfl⟩
  obtain ⟨T5, L5, X5, N5q, e5, st5⟩ := cs_37  (.val (.int q0)) (.val (.int q1)) (.val (.long q2)) (.second) (q3) (q4) (q5) (.val (.int (own_fi q0))) ((own_fi q1)) (.val (.long (own_fl q2))) (.second) (.val (.int v0_18)) (.unset) (.unset) (.unset) (.unset) (.unset) (.unset) (.unset) v0_37 hv0_37 X4 hx hZ hw hby hml hown e4 Z0
  have N5 := Fr.app N4 N5q
  obtain ⟨v0_60, hv0_60⟩ : ∃ z : Int64, z = (if (q5 &&& (4 : Int32)) = (0 : Int32) then (own_fl q4) else (own_fl q2)) := ⟨_, rfl⟩
  obtain ⟨T6, L6, X6, N6q, e6, st6⟩ := cs_60  (.val (.int q0)) (.val (.int q1)) (.val (.long q2)) (.second) (.val (.int q3)) (q4) (q5) (.val (.int (own_fi q0))) (.val (.int (own_fi q1))) ((own_fl q2)) (.val (.int v0_18)) (.val (.int v0_37)) (.unset) (.unset) (.unset) (.unset) (.unset) (.unset) v0_60 hv0_60 X5 hx hZ hw hby hml hown e5 Z0
  have N6 := Fr.app N5 N6q
  obtain ⟨T7, h7, X7, e7, E7, A7, D7, -, st7⟩ := newO X6 hx hZ hown (hw _ (List.mem_of_getElem? (i := 9) rfl)) (hw _ (List.mem_of_getElem? (i := 10) rfl)) (hw _ (List.mem_of_getElem? (i := 11) rfl)) e6 (g := (mkF m 79 #[.val (.int q0), .val (.int q1), .val (.long q2), .second, .val (.int q3), .val (.long q4), .second, .val (.int q5), .val (.int (own_fi q0)), .val (.int (own_fi q1)), .val (.long (own_fl q2)), .second, .val (.int v0_18), .val (.int v0_37), .val (.long v0_60), .second, .unset, .unset, .unset, .unset] [])) rfl (hb hby at_79) (by decide) (by decide)
  obtain ⟨b7, g7⟩ : ∃ z, z = h0.size := ⟨_, rfl⟩
  rw [← g7] at A7 D7 st7
  have g_b7 : n0 ≤ b7 := Nat.le_trans Z0 (Nat.le_of_eq g7.symm)
  have sz_b7 : h0.size ≤ b7 := Nat.le_trans (Nat.le_refl _) (Nat.le_of_eq g7.symm)
  have E_b7 := A7
  have F_months_b7 : Fld Z h7 b7 "com/example/tuplewise/tuplewise/value/TimeIntervalValue" "months" "I" (.int (0 : Int32)) := D7 (Or.inr (hw _ (List.mem_of_getElem? (i := 26) rfl))) (ty := .int) (by decide)
  have F_days_b7 : Fld Z h7 b7 "com/example/tuplewise/tuplewise/value/TimeIntervalValue" "days" "I" (.int (0 : Int32)) := D7 (Or.inr (hw _ (List.mem_of_getElem? (i := 28) rfl))) (ty := .int) (by decide)
  have F_micros_b7 : Fld Z h7 b7 "com/example/tuplewise/tuplewise/value/TimeIntervalValue" "micros" "J" (.long (0 : Int64)) := D7 (Or.inr (hw _ (List.mem_of_getElem? (i := 30) rfl))) (ty := .long) (by decide)
  obtain ⟨_, _, ⟨T8, L8, k8, n8⟩, -, X8, ⟨Lc8, hQ8, l8, y8, z8⟩, st8⟩ := X7.specialBack hx (y := (⟨"com/example/tuplewise/tuplewise/value/TimeIntervalValue", "<init>", "(IIJ)V"⟩ : MethodName)) rfl hown (mvT hZ (hw _ (List.mem_of_getElem? (i := 12) rfl))) (mvT hZ (hw _ (List.mem_of_getElem? (i := 13) rfl))) (mvT hZ (hw _ (List.mem_of_getElem? (i := 14) rfl))) (by decide) (backOf (W := 1) (rm3 l Z a0 hw [] b7 (own_fi q0) (own_fi q1) (own_fl q2) ((.int (0 : Int32))) ((.int (0 : Int32))) ((.long (0 : Int64))) h7 n0 (Nat.le_trans Z0 E7.1) E_b7 g_b7 F_months_b7 F_days_b7 F_micros_b7 (own_fi_ne _) (own_fi_ne _) (own_fl_ne _)) hZ (hw _ (List.mem_of_getElem? (i := 14) rfl)) (hw _ (List.mem_of_getElem? (i := 11) rfl)) (by decide) (by decide)) (g := (mkF m 89 #[.val (.int q0), .val (.int q1), .val (.long q2), .second, .val (.int q3), .val (.long q4), .second, .val (.int q5), .val (.int (own_fi q0)), .val (.int (own_fi q1)), .val (.long (own_fl q2)), .second, .val (.int v0_18), .val (.int v0_37), .val (.long v0_60), .second, .unset, .unset, .unset, .unset] [(.long (own_fl q2)), (.int (own_fi q1)), (.int (own_fi q0)), (.ref b7), (.ref b7)])) rfl (by rw [hml]; rfl) (Steps.refl _) (a := b7) (argsL := [(.int (own_fi q0)), (.int (own_fi q1)), (.long (own_fl q2))]) (rest := [(.ref b7)]) (lenOf pd_4 rfl) rfl (by show 2 * 0 + _ ≤ _; exact Nat.le_of_eq rfl) (hb hby at_89) (fun _ _ => ⟨rfl, e7, (by decide : 1 + 0 ≤ _), (by decide : 3 + 0 ≤ _)⟩)
  dsimp only [Pt.U, Pt.locs, Pt.cells, Pt.slots] at X8 l8 y8 z8 st8 hQ8
  subst l8 y8 z8
  obtain ⟨rfl, N8q, K8, E8, F8_1, F8_2, F8_3⟩ := hQ8
  have N8 := Fr.app N6 N8q
  obtain ⟨T9, h9, X9, e9, E9, A9, D9, -, st9⟩ := newO X8 hx hZ hown (hw _ (List.mem_of_getElem? (i := 9) rfl)) (hw _ (List.mem_of_getElem? (i := 10) rfl)) (hw _ (List.mem_of_getElem? (i := 11) rfl)) rfl (g := (mkF m 94 #[.val (.int q0), .val (.int q1), .val (.long q2), .second, .val (.int q3), .val (.long q4), .second, .val (.int q5), .val (.int (own_fi q0)), .val (.int (own_fi q1)), .val (.long (own_fl q2)), .second, .val (.int v0_18), .val (.int v0_37), .val (.long v0_60), .second, .val (.ref b7), .unset, .unset, .unset] [])) rfl (hb hby at_94) (by decide) (by decide)
  obtain ⟨b9, g9⟩ : ∃ z, z = T8.heap.size := ⟨_, rfl⟩
  rw [← g9] at A9 D9 st9
  have lt9_b7 : b7 < T8.heap.size := Nat.lt_of_lt_of_le E_b7.lt (Nat.le_trans (Nat.le_refl _) K8.1)
  have ne9_b7 : b7 ≠ b9 := Nat.ne_of_lt (Nat.lt_of_lt_of_le lt9_b7 (Nat.le_of_eq g9.symm))
  have g_b9 : n0 ≤ b9 := Nat.le_trans (Nat.le_trans (Nat.le_trans Z0 E7.1) K8.1) (Nat.le_of_eq g9.symm)
  have sz_b9 : h0.size ≤ b9 := Nat.le_trans (Nat.le_trans (Nat.le_trans (Nat.le_refl _) E7.1) K8.1) (Nat.le_of_eq g9.symm)
  have E_b9 := A9
  have F_months_b9 : Fld Z h9 b9 "com/example/tuplewise/tuplewise/value/TimeIntervalValue" "months" "I" (.int (0 : Int32)) := D9 (Or.inr (hw _ (List.mem_of_getElem? (i := 26) rfl))) (ty := .int) (by decide)
  have F_days_b9 : Fld Z h9 b9 "com/example/tuplewise/tuplewise/value/TimeIntervalValue" "days" "I" (.int (0 : Int32)) := D9 (Or.inr (hw _ (List.mem_of_getElem? (i := 28) rfl))) (ty := .int) (by decide)
  have F_micros_b9 : Fld Z h9 b9 "com/example/tuplewise/tuplewise/value/TimeIntervalValue" "micros" "J" (.long (0 : Int64)) := D9 (Or.inr (hw _ (List.mem_of_getElem? (i := 30) rfl))) (ty := .long) (by decide)
  have zz11 : n0 ≤ h9.size := (Nat.le_trans (Nat.le_trans (Nat.le_trans Z0 E7.1) K8.1) E9.1)
  obtain ⟨_, _, ⟨T10, L10, k10, n10⟩, -, X10, ⟨Lc10, hQ10, l10, y10, z10⟩, st10⟩ := X9.specialBack hx (y := (⟨"com/example/tuplewise/tuplewise/value/TimeIntervalValue", "<init>", "(IIJ)V"⟩ : MethodName)) rfl hown (mvT hZ (hw _ (List.mem_of_getElem? (i := 12) rfl))) (mvT hZ (hw _ (List.mem_of_getElem? (i := 13) rfl))) (mvT hZ (hw _ (List.mem_of_getElem? (i := 14) rfl))) (by decide) (backOf (W := 1) (rm3 l Z a0 hw [] b9 v0_18 v0_37 v0_60 ((.int (0 : Int32))) ((.int (0 : Int32))) ((.long (0 : Int64))) h9 n0 zz11 E_b9 g_b9 F_months_b9 F_days_b9 F_micros_b9 (own_fi2 hv0_18) (own_fi2 hv0_37) (own_fl2 hv0_60)) hZ (hw _ (List.mem_of_getElem? (i := 14) rfl)) (hw _ (List.mem_of_getElem? (i := 11) rfl)) (by decide) (by decide)) (g := (mkF m 104 #[.val (.int q0), .val (.int q1), .val (.long q2), .second, .val (.int q3), .val (.long q4), .second, .val (.int q5), .val (.int (own_fi q0)), .val (.int (own_fi q1)), .val (.long (own_fl q2)), .second, .val (.int v0_18), .val (.int v0_37), .val (.long v0_60), .second, .val (.ref b7), .unset, .unset, .unset] [(.long v0_60), (.int v0_37), (.int v0_18), (.ref b9), (.ref b9)])) rfl (by rw [hml]; rfl) (Steps.refl _) (a := b9) (argsL := [(.int v0_18), (.int v0_37), (.long v0_60)]) (rest := [(.ref b9)]) (lenOf pd_4 rfl) rfl (by show 2 * 0 + _ ≤ _; exact Nat.le_of_eq rfl) (hb hby at_104) (fun _ _ => ⟨rfl, e9, (by decide : 2 + 0 ≤ _), (by decide : 6 + 0 ≤ _)⟩)
  dsimp only [Pt.U, Pt.locs, Pt.cells, Pt.slots] at X10 l10 y10 z10 st10 hQ10
  subst l10 y10 z10
  obtain ⟨rfl, N10q, K10, E10, F10_1, F10_2, F10_3⟩ := hQ10
  have N10 := Fr.app N8 N10q
  obtain ⟨kd, hkd⟩ : ∃ z : Int32, z = (((q5.toUInt32 >>> ((3 : Int32) &&& 31).toUInt32).toInt32) &&& (3 : Int32)) := ⟨_, rfl⟩
  by_cases hc120 : kd = (1 : Int32)
  ·
    obtain ⟨cq12, kq12, q12a, q12b, q12c⟩ := isOf hZ rfl ((E8.ext E9).keep K10)
    obtain ⟨_, _, ⟨T12, L12, k12, n12⟩, -, X12, ⟨Lc12, hQ12, l12, y12, z12⟩, st12⟩ := X10.virtualBack hx (y := (⟨"com/example/tuplewise/tuplewise/value/TimeIntervalValue", "equals", "(Ljava/lang/Object;)Z"⟩ : MethodName)) (z := (⟨"com/example/tuplewise/tuplewise/value/TimeIntervalValue", "equals", "(Ljava/lang/Object;)Z"⟩ : MethodName)) hown (mvT hZ (hw _ (List.mem_of_getElem? (i := 31) rfl))) (mvT hZ (hw _ (List.mem_of_getElem? (i := 32) rfl))) (notFace_of_selects (args := #[]) (mvT hZ (hw _ (List.mem_of_getElem? (i := 34) rfl)))) (mvT hZ (hw _ (List.mem_of_getElem? (i := 34) rfl))) (mvT hZ (hw _ (List.mem_of_getElem? (i := 33) rfl))) (by decide) (backOf (W := 0) (rm6n l Z a0 hw [] b7 T10.heap n0 (Nat.le_trans zz11 K10.1)) hZ (hw _ (List.mem_of_getElem? (i := 35) rfl)) (hw _ (List.mem_of_getElem? (i := 11) rfl)) (by decide) (by decide)) q12a q12c (g := (mkF m 126 #[.val (.int q0), .val (.int q1), .val (.long q2), .second, .val (.int q3), .val (.long q4), .second, .val (.int q5), .val (.int (own_fi q0)), .val (.int (own_fi q1)), .val (.long (own_fl q2)), .second, .val (.int v0_18), .val (.int v0_37), .val (.long v0_60), .second, .val (.ref b7), .val (.ref b9), .val (.int kd), .unset] [.null, (.ref b7)])) rfl (by rw [hml]; rfl) (Steps.refl _) (argsL := [.null]) (rest := []) (lenOf pd_5 rfl) rfl (by show 2 * 0 + _ ≤ _; exact Nat.le_of_eq rfl) (hb hby at_126) (fun _ _ => ⟨rfl, rfl, (by decide : 2 + 0 ≤ _), (by decide : 6 + 0 ≤ _)⟩)
    dsimp only [Pt.U, Pt.locs, Pt.cells, Pt.slots] at X12 l12 y12 z12 st12 hQ12
    subst l12 y12 z12
    obtain ⟨rfl, N12q, e12⟩ := hQ12
    have N12 := Fr.app N10 N12q
    obtain ⟨fs, hr, hrun, hended, hW, hsame⟩ := X12.leave (v := some (.int (1 : Int32))) (fun h => by rw [Bd.returns] at h; cases h)
    refine ⟨_, _, pre0 _ ?_, hrun, hended, _, _, rfl, ?_, ⟨_, rfl⟩, hW, hsame.mono (by decide) (by decide)⟩
    · show Steps p.tables e below (s₁.setTop (mkF m 0 #[.val (.int q0), .val (.int q1), .val (.long q2), .second, .val (.int q3), .val (.long q4), .second, .val (.int q5), .unset, .unset, .unset, .unset, .unset, .unset, .unset, .unset, .unset, .unset, .unset, .unset] [])) _
      refine XS.iloadN X0.here hx rfl (hb hby at_0) rfl ?_
      show Steps p.tables e below (s₁.setTop (mkF m 1 #[.val (.int q0), .val (.int q1), .val (.long q2), .second, .val (.int q3), .val (.long q4), .second, .val (.int q5), .unset, .unset, .unset, .unset, .unset, .unset, .unset, .unset, .unset, .unset, .unset, .unset] [(.int q0)])) _
      refine st1 _ ?_
      show Steps p.tables e below (T1.setTop (mkF m 4 #[.val (.int q0), .val (.int q1), .val (.long q2), .second, .val (.int q3), .val (.long q4), .second, .val (.int q5), .unset, .unset, .unset, .unset, .unset, .unset, .unset, .unset, .unset, .unset, .unset, .unset] [(.int (own_fi q0))])) _
      refine XS.istore X1.here hx rfl (hb hby at_4) rfl (l' := #[.val (.int q0), .val (.int q1), .val (.long q2), .second, .val (.int q3), .val (.long q4), .second, .val (.int q5), .val (.int (own_fi q0)), .unset, .unset, .unset, .unset, .unset, .unset, .unset, .unset, .unset, .unset, .unset]) rfl ?_
      show Steps p.tables e below (T1.setTop (mkF m 6 #[.val (.int q0), .val (.int q1), .val (.long q2), .second, .val (.int q3), .val (.long q4), .second, .val (.int q5), .val (.int (own_fi q0)), .unset, .unset, .unset, .unset, .unset, .unset, .unset, .unset, .unset, .unset, .unset] [])) _
      refine XS.iloadN X1.here hx rfl (hb hby at_6) rfl ?_
      show Steps p.tables e below (T1.setTop (mkF m 7 #[.val (.int q0), .val (.int q1), .val (.long q2), .second, .val (.int q3), .val (.long q4), .second, .val (.int q5), .val (.int (own_fi q0)), .unset, .unset, .unset, .unset, .unset, .unset, .unset, .unset, .unset, .unset, .unset] [(.int q1)])) _
      refine st2 _ ?_
      show Steps p.tables e below (T2.setTop (mkF m 10 #[.val (.int q0), .val (.int q1), .val (.long q2), .second, .val (.int q3), .val (.long q4), .second, .val (.int q5), .val (.int (own_fi q0)), .unset, .unset, .unset, .unset, .unset, .unset, .unset, .unset, .unset, .unset, .unset] [(.int (own_fi q1))])) _
      refine XS.istore X2.here hx rfl (hb hby at_10) rfl (l' := #[.val (.int q0), .val (.int q1), .val (.long q2), .second, .val (.int q3), .val (.long q4), .second, .val (.int q5), .val (.int (own_fi q0)), .val (.int (own_fi q1)), .unset, .unset, .unset, .unset, .unset, .unset, .unset, .unset, .unset, .unset]) rfl ?_
      show Steps p.tables e below (T2.setTop (mkF m 12 #[.val (.int q0), .val (.int q1), .val (.long q2), .second, .val (.int q3), .val (.long q4), .second, .val (.int q5), .val (.int (own_fi q0)), .val (.int (own_fi q1)), .unset, .unset, .unset, .unset, .unset, .unset, .unset, .unset, .unset, .unset] [])) _
      refine XS.lloadN X2.here hx rfl (hb hby at_12) rfl ?_
      show Steps p.tables e below (T2.setTop (mkF m 13 #[.val (.int q0), .val (.int q1), .val (.long q2), .second, .val (.int q3), .val (.long q4), .second, .val (.int q5), .val (.int (own_fi q0)), .val (.int (own_fi q1)), .unset, .unset, .unset, .unset, .unset, .unset, .unset, .unset, .unset, .unset] [(.long q2)])) _
      refine st3 _ ?_
      show Steps p.tables e below (T3.setTop (mkF m 16 #[.val (.int q0), .val (.int q1), .val (.long q2), .second, .val (.int q3), .val (.long q4), .second, .val (.int q5), .val (.int (own_fi q0)), .val (.int (own_fi q1)), .unset, .unset, .unset, .unset, .unset, .unset, .unset, .unset, .unset, .unset] [(.long (own_fl q2))])) _
      refine XS.lstore X3.here hx rfl (hb hby at_16) rfl (l' := #[.val (.int q0), .val (.int q1), .val (.long q2), .second, .val (.int q3), .val (.long q4), .second, .val (.int q5), .val (.int (own_fi q0)), .val (.int (own_fi q1)), .val (.long (own_fl q2)), .second, .unset, .unset, .unset, .unset, .unset, .unset, .unset, .unset]) rfl ?_
      show Steps p.tables e below (T3.setTop (mkF m 18 #[.val (.int q0), .val (.int q1), .val (.long q2), .second, .val (.int q3), .val (.long q4), .second, .val (.int q5), .val (.int (own_fi q0)), .val (.int (own_fi q1)), .val (.long (own_fl q2)), .second, .unset, .unset, .unset, .unset, .unset, .unset, .unset, .unset] [])) _
      refine st4 _ ?_
      show Steps p.tables e below (T4.setTop (mkF m 35 #[.val (.int q0), .val (.int q1), .val (.long q2), .second, .val (.int q3), .val (.long q4), .second, .val (.int q5), .val (.int (own_fi q0)), .val (.int (own_fi q1)), .val (.long (own_fl q2)), .second, .unset, .unset, .unset, .unset, .unset, .unset, .unset, .unset] [(.int v0_18)])) _
      refine XS.istore X4.here hx rfl (hb hby at_35) rfl (l' := #[.val (.int q0), .val (.int q1), .val (.long q2), .second, .val (.int q3), .val (.long q4), .second, .val (.int q5), .val (.int (own_fi q0)), .val (.int (own_fi q1)), .val (.long (own_fl q2)), .second, .val (.int v0_18), .unset, .unset, .unset, .unset, .unset, .unset, .unset]) rfl ?_
      show Steps p.tables e below (T4.setTop (mkF m 37 #[.val (.int q0), .val (.int q1), .val (.long q2), .second, .val (.int q3), .val (.long q4), .second, .val (.int q5), .val (.int (own_fi q0)), .val (.int (own_fi q1)), .val (.long (own_fl q2)), .second, .val (.int v0_18), .unset, .unset, .unset, .unset, .unset, .unset, .unset] [])) _
      refine st5 _ ?_
      show Steps p.tables e below (T5.setTop (mkF m 58 #[.val (.int q0), .val (.int q1), .val (.long q2), .second, .val (.int q3), .val (.long q4), .second, .val (.int q5), .val (.int (own_fi q0)), .val (.int (own_fi q1)), .val (.long (own_fl q2)), .second, .val (.int v0_18), .unset, .unset, .unset, .unset, .unset, .unset, .unset] [(.int v0_37)])) _
      refine XS.istore X5.here hx rfl (hb hby at_58) rfl (l' := #[.val (.int q0), .val (.int q1), .val (.long q2), .second, .val (.int q3), .val (.long q4), .second, .val (.int q5), .val (.int (own_fi q0)), .val (.int (own_fi q1)), .val (.long (own_fl q2)), .second, .val (.int v0_18), .val (.int v0_37), .unset, .unset, .unset, .unset, .unset, .unset]) rfl ?_
      show Steps p.tables e below (T5.setTop (mkF m 60 #[.val (.int q0), .val (.int q1), .val (.long q2), .second, .val (.int q3), .val (.long q4), .second, .val (.int q5), .val (.int (own_fi q0)), .val (.int (own_fi q1)), .val (.long (own_fl q2)), .second, .val (.int v0_18), .val (.int v0_37), .unset, .unset, .unset, .unset, .unset, .unset] [])) _
      refine st6 _ ?_
      show Steps p.tables e below (T6.setTop (mkF m 77 #[.val (.int q0), .val (.int q1), .val (.long q2), .second, .val (.int q3), .val (.long q4), .second, .val (.int q5), .val (.int (own_fi q0)), .val (.int (own_fi q1)), .val (.long (own_fl q2)), .second, .val (.int v0_18), .val (.int v0_37), .unset, .unset, .unset, .unset, .unset, .unset] [(.long v0_60)])) _
      refine XS.lstore X6.here hx rfl (hb hby at_77) rfl (l' := #[.val (.int q0), .val (.int q1), .val (.long q2), .second, .val (.int q3), .val (.long q4), .second, .val (.int q5), .val (.int (own_fi q0)), .val (.int (own_fi q1)), .val (.long (own_fl q2)), .second, .val (.int v0_18), .val (.int v0_37), .val (.long v0_60), .second, .unset, .unset, .unset, .unset]) rfl ?_
      show Steps p.tables e below (T6.setTop (mkF m 79 #[.val (.int q0), .val (.int q1), .val (.long q2), .second, .val (.int q3), .val (.long q4), .second, .val (.int q5), .val (.int (own_fi q0)), .val (.int (own_fi q1)), .val (.long (own_fl q2)), .second, .val (.int v0_18), .val (.int v0_37), .val (.long v0_60), .second, .unset, .unset, .unset, .unset] [])) _
      refine st7 _ ?_
      show Steps p.tables e below (T7.setTop (mkF m 82 #[.val (.int q0), .val (.int q1), .val (.long q2), .second, .val (.int q3), .val (.long q4), .second, .val (.int q5), .val (.int (own_fi q0)), .val (.int (own_fi q1)), .val (.long (own_fl q2)), .second, .val (.int v0_18), .val (.int v0_37), .val (.long v0_60), .second, .unset, .unset, .unset, .unset] [(.ref b7)])) _
      refine XS.dup X7.here hx rfl (hb hby at_82) rfl rfl ?_
      show Steps p.tables e below (T7.setTop (mkF m 83 #[.val (.int q0), .val (.int q1), .val (.long q2), .second, .val (.int q3), .val (.long q4), .second, .val (.int q5), .val (.int (own_fi q0)), .val (.int (own_fi q1)), .val (.long (own_fl q2)), .second, .val (.int v0_18), .val (.int v0_37), .val (.long v0_60), .second, .unset, .unset, .unset, .unset] [(.ref b7), (.ref b7)])) _
      refine XS.iload X7.here hx rfl (hb hby at_83) rfl ?_
      show Steps p.tables e below (T7.setTop (mkF m 85 #[.val (.int q0), .val (.int q1), .val (.long q2), .second, .val (.int q3), .val (.long q4), .second, .val (.int q5), .val (.int (own_fi q0)), .val (.int (own_fi q1)), .val (.long (own_fl q2)), .second, .val (.int v0_18), .val (.int v0_37), .val (.long v0_60), .second, .unset, .unset, .unset, .unset] [(.int (own_fi q0)), (.ref b7), (.ref b7)])) _
      refine XS.iload X7.here hx rfl (hb hby at_85) rfl ?_
      show Steps p.tables e below (T7.setTop (mkF m 87 #[.val (.int q0), .val (.int q1), .val (.long q2), .second, .val (.int q3), .val (.long q4), .second, .val (.int q5), .val (.int (own_fi q0)), .val (.int (own_fi q1)), .val (.long (own_fl q2)), .second, .val (.int v0_18), .val (.int v0_37), .val (.long v0_60), .second, .unset, .unset, .unset, .unset] [(.int (own_fi q1)), (.int (own_fi q0)), (.ref b7), (.ref b7)])) _
      refine XS.lload X7.here hx rfl (hb hby at_87) rfl ?_
      show Steps p.tables e below (T7.setTop (mkF m 89 #[.val (.int q0), .val (.int q1), .val (.long q2), .second, .val (.int q3), .val (.long q4), .second, .val (.int q5), .val (.int (own_fi q0)), .val (.int (own_fi q1)), .val (.long (own_fl q2)), .second, .val (.int v0_18), .val (.int v0_37), .val (.long v0_60), .second, .unset, .unset, .unset, .unset] [(.long (own_fl q2)), (.int (own_fi q1)), (.int (own_fi q0)), (.ref b7), (.ref b7)])) _
      refine st8.trans ?_
      show Steps p.tables e below (T8.setTop (mkF m 92 #[.val (.int q0), .val (.int q1), .val (.long q2), .second, .val (.int q3), .val (.long q4), .second, .val (.int q5), .val (.int (own_fi q0)), .val (.int (own_fi q1)), .val (.long (own_fl q2)), .second, .val (.int v0_18), .val (.int v0_37), .val (.long v0_60), .second, .unset, .unset, .unset, .unset] [(.ref b7)])) _
      refine XS.astore X8.here hx rfl (hb hby at_92) rfl rfl (l' := #[.val (.int q0), .val (.int q1), .val (.long q2), .second, .val (.int q3), .val (.long q4), .second, .val (.int q5), .val (.int (own_fi q0)), .val (.int (own_fi q1)), .val (.long (own_fl q2)), .second, .val (.int v0_18), .val (.int v0_37), .val (.long v0_60), .second, .val (.ref b7), .unset, .unset, .unset]) rfl ?_
      show Steps p.tables e below (T8.setTop (mkF m 94 #[.val (.int q0), .val (.int q1), .val (.long q2), .second, .val (.int q3), .val (.long q4), .second, .val (.int q5), .val (.int (own_fi q0)), .val (.int (own_fi q1)), .val (.long (own_fl q2)), .second, .val (.int v0_18), .val (.int v0_37), .val (.long v0_60), .second, .val (.ref b7), .unset, .unset, .unset] [])) _
      refine st9 _ ?_
      show Steps p.tables e below (T9.setTop (mkF m 97 #[.val (.int q0), .val (.int q1), .val (.long q2), .second, .val (.int q3), .val (.long q4), .second, .val (.int q5), .val (.int (own_fi q0)), .val (.int (own_fi q1)), .val (.long (own_fl q2)), .second, .val (.int v0_18), .val (.int v0_37), .val (.long v0_60), .second, .val (.ref b7), .unset, .unset, .unset] [(.ref b9)])) _
      refine XS.dup X9.here hx rfl (hb hby at_97) rfl rfl ?_
      show Steps p.tables e below (T9.setTop (mkF m 98 #[.val (.int q0), .val (.int q1), .val (.long q2), .second, .val (.int q3), .val (.long q4), .second, .val (.int q5), .val (.int (own_fi q0)), .val (.int (own_fi q1)), .val (.long (own_fl q2)), .second, .val (.int v0_18), .val (.int v0_37), .val (.long v0_60), .second, .val (.ref b7), .unset, .unset, .unset] [(.ref b9), (.ref b9)])) _
      refine XS.iload X9.here hx rfl (hb hby at_98) rfl ?_
      show Steps p.tables e below (T9.setTop (mkF m 100 #[.val (.int q0), .val (.int q1), .val (.long q2), .second, .val (.int q3), .val (.long q4), .second, .val (.int q5), .val (.int (own_fi q0)), .val (.int (own_fi q1)), .val (.long (own_fl q2)), .second, .val (.int v0_18), .val (.int v0_37), .val (.long v0_60), .second, .val (.ref b7), .unset, .unset, .unset] [(.int v0_18), (.ref b9), (.ref b9)])) _
      refine XS.iload X9.here hx rfl (hb hby at_100) rfl ?_
      show Steps p.tables e below (T9.setTop (mkF m 102 #[.val (.int q0), .val (.int q1), .val (.long q2), .second, .val (.int q3), .val (.long q4), .second, .val (.int q5), .val (.int (own_fi q0)), .val (.int (own_fi q1)), .val (.long (own_fl q2)), .second, .val (.int v0_18), .val (.int v0_37), .val (.long v0_60), .second, .val (.ref b7), .unset, .unset, .unset] [(.int v0_37), (.int v0_18), (.ref b9), (.ref b9)])) _
      refine XS.lload X9.here hx rfl (hb hby at_102) rfl ?_
      show Steps p.tables e below (T9.setTop (mkF m 104 #[.val (.int q0), .val (.int q1), .val (.long q2), .second, .val (.int q3), .val (.long q4), .second, .val (.int q5), .val (.int (own_fi q0)), .val (.int (own_fi q1)), .val (.long (own_fl q2)), .second, .val (.int v0_18), .val (.int v0_37), .val (.long v0_60), .second, .val (.ref b7), .unset, .unset, .unset] [(.long v0_60), (.int v0_37), (.int v0_18), (.ref b9), (.ref b9)])) _
      refine st10.trans ?_
      show Steps p.tables e below (T10.setTop (mkF m 107 #[.val (.int q0), .val (.int q1), .val (.long q2), .second, .val (.int q3), .val (.long q4), .second, .val (.int q5), .val (.int (own_fi q0)), .val (.int (own_fi q1)), .val (.long (own_fl q2)), .second, .val (.int v0_18), .val (.int v0_37), .val (.long v0_60), .second, .val (.ref b7), .unset, .unset, .unset] [(.ref b9)])) _
      refine XS.astore X10.here hx rfl (hb hby at_107) rfl rfl (l' := #[.val (.int q0), .val (.int q1), .val (.long q2), .second, .val (.int q3), .val (.long q4), .second, .val (.int q5), .val (.int (own_fi q0)), .val (.int (own_fi q1)), .val (.long (own_fl q2)), .second, .val (.int v0_18), .val (.int v0_37), .val (.long v0_60), .second, .val (.ref b7), .val (.ref b9), .unset, .unset]) rfl ?_
      show Steps p.tables e below (T10.setTop (mkF m 109 #[.val (.int q0), .val (.int q1), .val (.long q2), .second, .val (.int q3), .val (.long q4), .second, .val (.int q5), .val (.int (own_fi q0)), .val (.int (own_fi q1)), .val (.long (own_fl q2)), .second, .val (.int v0_18), .val (.int v0_37), .val (.long v0_60), .second, .val (.ref b7), .val (.ref b9), .unset, .unset] [])) _
      refine XS.iload X10.here hx rfl (hb hby at_109) rfl ?_
      show Steps p.tables e below (T10.setTop (mkF m 111 #[.val (.int q0), .val (.int q1), .val (.long q2), .second, .val (.int q3), .val (.long q4), .second, .val (.int q5), .val (.int (own_fi q0)), .val (.int (own_fi q1)), .val (.long (own_fl q2)), .second, .val (.int v0_18), .val (.int v0_37), .val (.long v0_60), .second, .val (.ref b7), .val (.ref b9), .unset, .unset] [(.int q5)])) _
      refine XS.iconst X10.here hx rfl (hb hby at_111) ?_
      show Steps p.tables e below (T10.setTop (mkF m 112 #[.val (.int q0), .val (.int q1), .val (.long q2), .second, .val (.int q3), .val (.long q4), .second, .val (.int q5), .val (.int (own_fi q0)), .val (.int (own_fi q1)), .val (.long (own_fl q2)), .second, .val (.int v0_18), .val (.int v0_37), .val (.long v0_60), .second, .val (.ref b7), .val (.ref b9), .unset, .unset] [(.int (3 : Int32)), (.int q5)])) _
      refine XS.iushr X10.here hx rfl (hb hby at_112) rfl ?_
      show Steps p.tables e below (T10.setTop (mkF m 113 #[.val (.int q0), .val (.int q1), .val (.long q2), .second, .val (.int q3), .val (.long q4), .second, .val (.int q5), .val (.int (own_fi q0)), .val (.int (own_fi q1)), .val (.long (own_fl q2)), .second, .val (.int v0_18), .val (.int v0_37), .val (.long v0_60), .second, .val (.ref b7), .val (.ref b9), .unset, .unset] [(.int ((q5.toUInt32 >>> ((3 : Int32) &&& 31).toUInt32).toInt32))])) _
      refine XS.iconst X10.here hx rfl (hb hby at_113) ?_
      show Steps p.tables e below (T10.setTop (mkF m 114 #[.val (.int q0), .val (.int q1), .val (.long q2), .second, .val (.int q3), .val (.long q4), .second, .val (.int q5), .val (.int (own_fi q0)), .val (.int (own_fi q1)), .val (.long (own_fl q2)), .second, .val (.int v0_18), .val (.int v0_37), .val (.long v0_60), .second, .val (.ref b7), .val (.ref b9), .unset, .unset] [(.int (3 : Int32)), (.int ((q5.toUInt32 >>> ((3 : Int32) &&& 31).toUInt32).toInt32))])) _
      refine XS.iand X10.here hx rfl (hb hby at_114) rfl ?_
      show Steps p.tables e below (T10.setTop (mkF m 115 #[.val (.int q0), .val (.int q1), .val (.long q2), .second, .val (.int q3), .val (.long q4), .second, .val (.int q5), .val (.int (own_fi q0)), .val (.int (own_fi q1)), .val (.long (own_fl q2)), .second, .val (.int v0_18), .val (.int v0_37), .val (.long v0_60), .second, .val (.ref b7), .val (.ref b9), .unset, .unset] [(.int (((q5.toUInt32 >>> ((3 : Int32) &&& 31).toUInt32).toInt32) &&& (3 : Int32)))])) _
      refine XS.istore X10.here hx rfl (hb hby at_115) rfl (l' := #[.val (.int q0), .val (.int q1), .val (.long q2), .second, .val (.int q3), .val (.long q4), .second, .val (.int q5), .val (.int (own_fi q0)), .val (.int (own_fi q1)), .val (.long (own_fl q2)), .second, .val (.int v0_18), .val (.int v0_37), .val (.long v0_60), .second, .val (.ref b7), .val (.ref b9), .val (.int (((q5.toUInt32 >>> ((3 : Int32) &&& 31).toUInt32).toInt32) &&& (3 : Int32))), .unset]) rfl ?_
      show Steps p.tables e below (T10.setTop (mkF m 117 #[.val (.int q0), .val (.int q1), .val (.long q2), .second, .val (.int q3), .val (.long q4), .second, .val (.int q5), .val (.int (own_fi q0)), .val (.int (own_fi q1)), .val (.long (own_fl q2)), .second, .val (.int v0_18), .val (.int v0_37), .val (.long v0_60), .second, .val (.ref b7), .val (.ref b9), .val (.int (((q5.toUInt32 >>> ((3 : Int32) &&& 31).toUInt32).toInt32) &&& (3 : Int32))), .unset] [])) _
      rw [← hkd]
      show Steps p.tables e below (T10.setTop (mkF m 117 #[.val (.int q0), .val (.int q1), .val (.long q2), .second, .val (.int q3), .val (.long q4), .second, .val (.int q5), .val (.int (own_fi q0)), .val (.int (own_fi q1)), .val (.long (own_fl q2)), .second, .val (.int v0_18), .val (.int v0_37), .val (.long v0_60), .second, .val (.ref b7), .val (.ref b9), .val (.int kd), .unset] [])) _
      refine XS.iload X10.here hx rfl (hb hby at_117) rfl ?_
      show Steps p.tables e below (T10.setTop (mkF m 119 #[.val (.int q0), .val (.int q1), .val (.long q2), .second, .val (.int q3), .val (.long q4), .second, .val (.int q5), .val (.int (own_fi q0)), .val (.int (own_fi q1)), .val (.long (own_fl q2)), .second, .val (.int v0_18), .val (.int v0_37), .val (.long v0_60), .second, .val (.ref b7), .val (.ref b9), .val (.int kd), .unset] [(.int kd)])) _
      refine XS.iconst X10.here hx rfl (hb hby at_119) ?_
      show Steps p.tables e below (T10.setTop (mkF m 120 #[.val (.int q0), .val (.int q1), .val (.long q2), .second, .val (.int q3), .val (.long q4), .second, .val (.int q5), .val (.int (own_fi q0)), .val (.int (own_fi q1)), .val (.long (own_fl q2)), .second, .val (.int v0_18), .val (.int v0_37), .val (.long v0_60), .second, .val (.ref b7), .val (.ref b9), .val (.int kd), .unset] [(.int (1 : Int32)), (.int kd)])) _
      refine XS.icmpNo X10.here hx rfl (hb hby at_120) rfl (teq hc120).2 ?_
      show Steps p.tables e below (T10.setTop (mkF m 123 #[.val (.int q0), .val (.int q1), .val (.long q2), .second, .val (.int q3), .val (.long q4), .second, .val (.int q5), .val (.int (own_fi q0)), .val (.int (own_fi q1)), .val (.long (own_fl q2)), .second, .val (.int v0_18), .val (.int v0_37), .val (.long v0_60), .second, .val (.ref b7), .val (.ref b9), .val (.int kd), .unset] [])) _
      refine XS.aload X10.here hx rfl (hb hby at_123) rfl rfl ?_
      show Steps p.tables e below (T10.setTop (mkF m 125 #[.val (.int q0), .val (.int q1), .val (.long q2), .second, .val (.int q3), .val (.long q4), .second, .val (.int q5), .val (.int (own_fi q0)), .val (.int (own_fi q1)), .val (.long (own_fl q2)), .second, .val (.int v0_18), .val (.int v0_37), .val (.long v0_60), .second, .val (.ref b7), .val (.ref b9), .val (.int kd), .unset] [(.ref b7)])) _
      refine XS.aconstNull X10.here hx rfl (hb hby at_125) ?_
      show Steps p.tables e below (T10.setTop (mkF m 126 #[.val (.int q0), .val (.int q1), .val (.long q2), .second, .val (.int q3), .val (.long q4), .second, .val (.int q5), .val (.int (own_fi q0)), .val (.int (own_fi q1)), .val (.long (own_fl q2)), .second, .val (.int v0_18), .val (.int v0_37), .val (.long v0_60), .second, .val (.ref b7), .val (.ref b9), .val (.int kd), .unset] [.null, (.ref b7)])) _
      refine st12.trans ?_
      show Steps p.tables e below (T12.setTop (mkF m 129 #[.val (.int q0), .val (.int q1), .val (.long q2), .second, .val (.int q3), .val (.long q4), .second, .val (.int q5), .val (.int (own_fi q0)), .val (.int (own_fi q1)), .val (.long (own_fl q2)), .second, .val (.int v0_18), .val (.int v0_37), .val (.long v0_60), .second, .val (.ref b7), .val (.ref b9), .val (.int kd), .unset] [(.int (0 : Int32))])) _
      refine XS.ifNo X12.here hx rfl (hb hby at_129) rfl ((if0 _ _).trans (teq (rfl : (0 : Int32) = (0 : Int32))).2) ?_
      show Steps p.tables e below (T12.setTop (mkF m 132 #[.val (.int q0), .val (.int q1), .val (.long q2), .second, .val (.int q3), .val (.long q4), .second, .val (.int q5), .val (.int (own_fi q0)), .val (.int (own_fi q1)), .val (.long (own_fl q2)), .second, .val (.int v0_18), .val (.int v0_37), .val (.long v0_60), .second, .val (.ref b7), .val (.ref b9), .val (.int kd), .unset] [])) _
      refine XS.iconst X12.here hx rfl (hb hby at_132) ?_
      show Steps p.tables e below (T12.setTop (mkF m 133 #[.val (.int q0), .val (.int q1), .val (.long q2), .second, .val (.int q3), .val (.long q4), .second, .val (.int q5), .val (.int (own_fi q0)), .val (.int (own_fi q1)), .val (.long (own_fl q2)), .second, .val (.int v0_18), .val (.int v0_37), .val (.long v0_60), .second, .val (.ref b7), .val (.ref b9), .val (.int kd), .unset] [(.int (1 : Int32))])) _
      refine XS.goto X12.here hx rfl (pc0 := 133) (pc' := 137) rfl (hb hby at_133) (by decide) (by decide) ?_
      show Steps p.tables e below (T12.setTop (mkF m 137 #[.val (.int q0), .val (.int q1), .val (.long q2), .second, .val (.int q3), .val (.long q4), .second, .val (.int q5), .val (.int (own_fi q0)), .val (.int (own_fi q1)), .val (.long (own_fl q2)), .second, .val (.int v0_18), .val (.int v0_37), .val (.long v0_60), .second, .val (.ref b7), .val (.ref b9), .val (.int kd), .unset] [(.int (1 : Int32))])) _
      exact retN X12 hx (t := .boolean) Bd.returns (by simp) (hb hby at_137) hr
    · show Q0 h0 n0 _ T12.heap _
      rw [e12]
      exact ⟨rfl, N12⟩
  ·
    by_cases hc141 : kd = (2 : Int32)
    ·
      obtain ⟨_, _, ⟨T13, L13, k13, n13⟩, -, X13, ⟨Lc13, hQ13, l13, y13, z13⟩, st13⟩ := Jvm.LawKit.callS X10 hx (y := (⟨"java/lang/Long", "valueOf", "(J)Ljava/lang/Long;"⟩ : MethodName)) hown (mvT hZ (hw _ (List.mem_of_getElem? (i := 38) rfl))) (mvT hZ (hw _ (List.mem_of_getElem? (i := 39) rfl))) (mvT hZ (hw _ (List.mem_of_getElem? (i := 40) rfl))) (mvT hZ (hw _ (List.mem_of_getElem? (i := 41) rfl))) (by decide) (backOf (W := 1) (rm7 l Z a0 hw [] (own_fl q2) T10.heap n0 (Nat.le_trans zz11 K10.1) ((((O0.ext E7).keep K8 (allS g_b7 all0)).ext E9).keep K10 (allS g_b9 all0)) CC) hZ (hw _ (List.mem_of_getElem? (i := 41) rfl)) (hw _ (List.mem_of_getElem? (i := 40) rfl)) (by decide) (by decide)) (g := (mkF m 148 #[.val (.int q0), .val (.int q1), .val (.long q2), .second, .val (.int q3), .val (.long q4), .second, .val (.int q5), .val (.int (own_fi q0)), .val (.int (own_fi q1)), .val (.long (own_fl q2)), .second, .val (.int v0_18), .val (.int v0_37), .val (.long v0_60), .second, .val (.ref b7), .val (.ref b9), .val (.int kd), .unset] [(.long (own_fl q2)), (.ref b7)])) rfl (by rw [hml]; rfl) (argsL := [(.long (own_fl q2))]) (rest := [(.ref b7)]) (lenOf pd_6 rfl) rfl (by show 2 * 0 + _ ≤ _; exact Nat.le_of_eq rfl) (hb hby at_148) (fun _ _ => ⟨rfl, rfl, (by decide : 2 + 1 ≤ _), (by decide : 6 + 1 ≤ _)⟩)
      dsimp only [Pt.U, Pt.locs, Pt.cells, Pt.slots] at X13 l13 y13 z13 st13 hQ13
      subst l13 y13 z13
      obtain ⟨r13, rfl, N13q, K13, E13⟩ := hQ13
      have N13 := Fr.app N10 N13q
      obtain ⟨cq14, kq14, q14a, q14b, q14c⟩ := isOf hZ rfl (((E8.ext E9).keep K10).keep K13)
      obtain ⟨_, _, ⟨T14, L14, k14, n14⟩, -, X14, ⟨Lc14, hQ14, l14, y14, z14⟩, st14⟩ := X13.virtualBack hx (y := (⟨"com/example/tuplewise/tuplewise/value/TimeIntervalValue", "equals", "(Ljava/lang/Object;)Z"⟩ : MethodName)) (z := (⟨"com/example/tuplewise/tuplewise/value/TimeIntervalValue", "equals", "(Ljava/lang/Object;)Z"⟩ : MethodName)) hown (mvT hZ (hw _ (List.mem_of_getElem? (i := 31) rfl))) (mvT hZ (hw _ (List.mem_of_getElem? (i := 32) rfl))) (notFace_of_selects (args := #[]) (mvT hZ (hw _ (List.mem_of_getElem? (i := 34) rfl)))) (mvT hZ (hw _ (List.mem_of_getElem? (i := 34) rfl))) (mvT hZ (hw _ (List.mem_of_getElem? (i := 33) rfl))) (by decide) (backOf (W := 0) (rm6l l Z a0 hw [] b7 r13 T13.heap n0 (Nat.le_trans (Nat.le_trans zz11 K10.1) K13.1) E13) hZ (hw _ (List.mem_of_getElem? (i := 35) rfl)) (hw _ (List.mem_of_getElem? (i := 11) rfl)) (by decide) (by decide)) q14a q14c (g := (mkF m 151 #[.val (.int q0), .val (.int q1), .val (.long q2), .second, .val (.int q3), .val (.long q4), .second, .val (.int q5), .val (.int (own_fi q0)), .val (.int (own_fi q1)), .val (.long (own_fl q2)), .second, .val (.int v0_18), .val (.int v0_37), .val (.long v0_60), .second, .val (.ref b7), .val (.ref b9), .val (.int kd), .unset] [(.ref r13), (.ref b7)])) rfl (by rw [hml]; rfl) (Steps.refl _) (argsL := [(.ref r13)]) (rest := []) (lenOf pd_5 rfl) rfl (by show 2 * 0 + _ ≤ _; exact Nat.le_of_eq rfl) (hb hby at_151) (fun _ _ => ⟨rfl, rfl, (by decide : 3 + 0 ≤ _), (by decide : 7 + 0 ≤ _)⟩)
      dsimp only [Pt.U, Pt.locs, Pt.cells, Pt.slots] at X14 l14 y14 z14 st14 hQ14
      subst l14 y14 z14
      obtain ⟨rfl, N14q, e14⟩ := hQ14
      have N14 := Fr.app N13 N14q
      obtain ⟨fs, hr, hrun, hended, hW, hsame⟩ := X14.leave (v := some (.int (1 : Int32))) (fun h => by rw [Bd.returns] at h; cases h)
      refine ⟨_, _, pre0 _ ?_, hrun, hended, _, _, rfl, ?_, ⟨_, rfl⟩, hW, hsame.mono (by decide) (by decide)⟩
      · show Steps p.tables e below (s₁.setTop (mkF m 0 #[.val (.int q0), .val (.int q1), .val (.long q2), .second, .val (.int q3), .val (.long q4), .second, .val (.int q5), .unset, .unset, .unset, .unset, .unset, .unset, .unset, .unset, .unset, .unset, .unset, .unset] [])) _
        refine XS.iloadN X0.here hx rfl (hb hby at_0) rfl ?_
        show Steps p.tables e below (s₁.setTop (mkF m 1 #[.val (.int q0), .val (.int q1), .val (.long q2), .second, .val (.int q3), .val (.long q4), .second, .val (.int q5), .unset, .unset, .unset, .unset, .unset, .unset, .unset, .unset, .unset, .unset, .unset, .unset] [(.int q0)])) _
        refine st1 _ ?_
        show Steps p.tables e below (T1.setTop (mkF m 4 #[.val (.int q0), .val (.int q1), .val (.long q2), .second, .val (.int q3), .val (.long q4), .second, .val (.int q5), .unset, .unset, .unset, .unset, .unset, .unset, .unset, .unset, .unset, .unset, .unset, .unset] [(.int (own_fi q0))])) _
        refine XS.istore X1.here hx rfl (hb hby at_4) rfl (l' := #[.val (.int q0), .val (.int q1), .val (.long q2), .second, .val (.int q3), .val (.long q4), .second, .val (.int q5), .val (.int (own_fi q0)), .unset, .unset, .unset, .unset, .unset, .unset, .unset, .unset, .unset, .unset, .unset]) rfl ?_
        show Steps p.tables e below (T1.setTop (mkF m 6 #[.val (.int q0), .val (.int q1), .val (.long q2), .second, .val (.int q3), .val (.long q4), .second, .val (.int q5), .val (.int (own_fi q0)), .unset, .unset, .unset, .unset, .unset, .unset, .unset, .unset, .unset, .unset, .unset] [])) _
        refine XS.iloadN X1.here hx rfl (hb hby at_6) rfl ?_
        show Steps p.tables e below (T1.setTop (mkF m 7 #[.val (.int q0), .val (.int q1), .val (.long q2), .second, .val (.int q3), .val (.long q4), .second, .val (.int q5), .val (.int (own_fi q0)), .unset, .unset, .unset, .unset, .unset, .unset, .unset, .unset, .unset, .unset, .unset] [(.int q1)])) _
        refine st2 _ ?_
        show Steps p.tables e below (T2.setTop (mkF m 10 #[.val (.int q0), .val (.int q1), .val (.long q2), .second, .val (.int q3), .val (.long q4), .second, .val (.int q5), .val (.int (own_fi q0)), .unset, .unset, .unset, .unset, .unset, .unset, .unset, .unset, .unset, .unset, .unset] [(.int (own_fi q1))])) _
        refine XS.istore X2.here hx rfl (hb hby at_10) rfl (l' := #[.val (.int q0), .val (.int q1), .val (.long q2), .second, .val (.int q3), .val (.long q4), .second, .val (.int q5), .val (.int (own_fi q0)), .val (.int (own_fi q1)), .unset, .unset, .unset, .unset, .unset, .unset, .unset, .unset, .unset, .unset]) rfl ?_
        show Steps p.tables e below (T2.setTop (mkF m 12 #[.val (.int q0), .val (.int q1), .val (.long q2), .second, .val (.int q3), .val (.long q4), .second, .val (.int q5), .val (.int (own_fi q0)), .val (.int (own_fi q1)), .unset, .unset, .unset, .unset, .unset, .unset, .unset, .unset, .unset, .unset] [])) _
        refine XS.lloadN X2.here hx rfl (hb hby at_12) rfl ?_
        show Steps p.tables e below (T2.setTop (mkF m 13 #[.val (.int q0), .val (.int q1), .val (.long q2), .second, .val (.int q3), .val (.long q4), .second, .val (.int q5), .val (.int (own_fi q0)), .val (.int (own_fi q1)), .unset, .unset, .unset, .unset, .unset, .unset, .unset, .unset, .unset, .unset] [(.long q2)])) _
        refine st3 _ ?_
        show Steps p.tables e below (T3.setTop (mkF m 16 #[.val (.int q0), .val (.int q1), .val (.long q2), .second, .val (.int q3), .val (.long q4), .second, .val (.int q5), .val (.int (own_fi q0)), .val (.int (own_fi q1)), .unset, .unset, .unset, .unset, .unset, .unset, .unset, .unset, .unset, .unset] [(.long (own_fl q2))])) _
        refine XS.lstore X3.here hx rfl (hb hby at_16) rfl (l' := #[.val (.int q0), .val (.int q1), .val (.long q2), .second, .val (.int q3), .val (.long q4), .second, .val (.int q5), .val (.int (own_fi q0)), .val (.int (own_fi q1)), .val (.long (own_fl q2)), .second, .unset, .unset, .unset, .unset, .unset, .unset, .unset, .unset]) rfl ?_
        show Steps p.tables e below (T3.setTop (mkF m 18 #[.val (.int q0), .val (.int q1), .val (.long q2), .second, .val (.int q3), .val (.long q4), .second, .val (.int q5), .val (.int (own_fi q0)), .val (.int (own_fi q1)), .val (.long (own_fl q2)), .second, .unset, .unset, .unset, .unset, .unset, .unset, .unset, .unset] [])) _
        refine st4 _ ?_
        show Steps p.tables e below (T4.setTop (mkF m 35 #[.val (.int q0), .val (.int q1), .val (.long q2), .second, .val (.int q3), .val (.long q4), .second, .val (.int q5), .val (.int (own_fi q0)), .val (.int (own_fi q1)), .val (.long (own_fl q2)), .second, .unset, .unset, .unset, .unset, .unset, .unset, .unset, .unset] [(.int v0_18)])) _
        refine XS.istore X4.here hx rfl (hb hby at_35) rfl (l' := #[.val (.int q0), .val (.int q1), .val (.long q2), .second, .val (.int q3), .val (.long q4), .second, .val (.int q5), .val (.int (own_fi q0)), .val (.int (own_fi q1)), .val (.long (own_fl q2)), .second, .val (.int v0_18), .unset, .unset, .unset, .unset, .unset, .unset, .unset]) rfl ?_
        show Steps p.tables e below (T4.setTop (mkF m 37 #[.val (.int q0), .val (.int q1), .val (.long q2), .second, .val (.int q3), .val (.long q4), .second, .val (.int q5), .val (.int (own_fi q0)), .val (.int (own_fi q1)), .val (.long (own_fl q2)), .second, .val (.int v0_18), .unset, .unset, .unset, .unset, .unset, .unset, .unset] [])) _
        refine st5 _ ?_
        show Steps p.tables e below (T5.setTop (mkF m 58 #[.val (.int q0), .val (.int q1), .val (.long q2), .second, .val (.int q3), .val (.long q4), .second, .val (.int q5), .val (.int (own_fi q0)), .val (.int (own_fi q1)), .val (.long (own_fl q2)), .second, .val (.int v0_18), .unset, .unset, .unset, .unset, .unset, .unset, .unset] [(.int v0_37)])) _
        refine XS.istore X5.here hx rfl (hb hby at_58) rfl (l' := #[.val (.int q0), .val (.int q1), .val (.long q2), .second, .val (.int q3), .val (.long q4), .second, .val (.int q5), .val (.int (own_fi q0)), .val (.int (own_fi q1)), .val (.long (own_fl q2)), .second, .val (.int v0_18), .val (.int v0_37), .unset, .unset, .unset, .unset, .unset, .unset]) rfl ?_
        show Steps p.tables e below (T5.setTop (mkF m 60 #[.val (.int q0), .val (.int q1), .val (.long q2), .second, .val (.int q3), .val (.long q4), .second, .val (.int q5), .val (.int (own_fi q0)), .val (.int (own_fi q1)), .val (.long (own_fl q2)), .second, .val (.int v0_18), .val (.int v0_37), .unset, .unset, .unset, .unset, .unset, .unset] [])) _
        refine st6 _ ?_
        show Steps p.tables e below (T6.setTop (mkF m 77 #[.val (.int q0), .val (.int q1), .val (.long q2), .second, .val (.int q3), .val (.long q4), .second, .val (.int q5), .val (.int (own_fi q0)), .val (.int (own_fi q1)), .val (.long (own_fl q2)), .second, .val (.int v0_18), .val (.int v0_37), .unset, .unset, .unset, .unset, .unset, .unset] [(.long v0_60)])) _
        refine XS.lstore X6.here hx rfl (hb hby at_77) rfl (l' := #[.val (.int q0), .val (.int q1), .val (.long q2), .second, .val (.int q3), .val (.long q4), .second, .val (.int q5), .val (.int (own_fi q0)), .val (.int (own_fi q1)), .val (.long (own_fl q2)), .second, .val (.int v0_18), .val (.int v0_37), .val (.long v0_60), .second, .unset, .unset, .unset, .unset]) rfl ?_
        show Steps p.tables e below (T6.setTop (mkF m 79 #[.val (.int q0), .val (.int q1), .val (.long q2), .second, .val (.int q3), .val (.long q4), .second, .val (.int q5), .val (.int (own_fi q0)), .val (.int (own_fi q1)), .val (.long (own_fl q2)), .second, .val (.int v0_18), .val (.int v0_37), .val (.long v0_60), .second, .unset, .unset, .unset, .unset] [])) _
        refine st7 _ ?_
        show Steps p.tables e below (T7.setTop (mkF m 82 #[.val (.int q0), .val (.int q1), .val (.long q2), .second, .val (.int q3), .val (.long q4), .second, .val (.int q5), .val (.int (own_fi q0)), .val (.int (own_fi q1)), .val (.long (own_fl q2)), .second, .val (.int v0_18), .val (.int v0_37), .val (.long v0_60), .second, .unset, .unset, .unset, .unset] [(.ref b7)])) _
        refine XS.dup X7.here hx rfl (hb hby at_82) rfl rfl ?_
        show Steps p.tables e below (T7.setTop (mkF m 83 #[.val (.int q0), .val (.int q1), .val (.long q2), .second, .val (.int q3), .val (.long q4), .second, .val (.int q5), .val (.int (own_fi q0)), .val (.int (own_fi q1)), .val (.long (own_fl q2)), .second, .val (.int v0_18), .val (.int v0_37), .val (.long v0_60), .second, .unset, .unset, .unset, .unset] [(.ref b7), (.ref b7)])) _
        refine XS.iload X7.here hx rfl (hb hby at_83) rfl ?_
        show Steps p.tables e below (T7.setTop (mkF m 85 #[.val (.int q0), .val (.int q1), .val (.long q2), .second, .val (.int q3), .val (.long q4), .second, .val (.int q5), .val (.int (own_fi q0)), .val (.int (own_fi q1)), .val (.long (own_fl q2)), .second, .val (.int v0_18), .val (.int v0_37), .val (.long v0_60), .second, .unset, .unset, .unset, .unset] [(.int (own_fi q0)), (.ref b7), (.ref b7)])) _
        refine XS.iload X7.here hx rfl (hb hby at_85) rfl ?_
        show Steps p.tables e below (T7.setTop (mkF m 87 #[.val (.int q0), .val (.int q1), .val (.long q2), .second, .val (.int q3), .val (.long q4), .second, .val (.int q5), .val (.int (own_fi q0)), .val (.int (own_fi q1)), .val (.long (own_fl q2)), .second, .val (.int v0_18), .val (.int v0_37), .val (.long v0_60), .second, .unset, .unset, .unset, .unset] [(.int (own_fi q1)), (.int (own_fi q0)), (.ref b7), (.ref b7)])) _
        refine XS.lload X7.here hx rfl (hb hby at_87) rfl ?_
        show Steps p.tables e below (T7.setTop (mkF m 89 #[.val (.int q0), .val (.int q1), .val (.long q2), .second, .val (.int q3), .val (.long q4), .second, .val (.int q5), .val (.int (own_fi q0)), .val (.int (own_fi q1)), .val (.long (own_fl q2)), .second, .val (.int v0_18), .val (.int v0_37), .val (.long v0_60), .second, .unset, .unset, .unset, .unset] [(.long (own_fl q2)), (.int (own_fi q1)), (.int (own_fi q0)), (.ref b7), (.ref b7)])) _
        refine st8.trans ?_
        show Steps p.tables e below (T8.setTop (mkF m 92 #[.val (.int q0), .val (.int q1), .val (.long q2), .second, .val (.int q3), .val (.long q4), .second, .val (.int q5), .val (.int (own_fi q0)), .val (.int (own_fi q1)), .val (.long (own_fl q2)), .second, .val (.int v0_18), .val (.int v0_37), .val (.long v0_60), .second, .unset, .unset, .unset, .unset] [(.ref b7)])) _
        refine XS.astore X8.here hx rfl (hb hby at_92) rfl rfl (l' := #[.val (.int q0), .val (.int q1), .val (.long q2), .second, .val (.int q3), .val (.long q4), .second, .val (.int q5), .val (.int (own_fi q0)), .val (.int (own_fi q1)), .val (.long (own_fl q2)), .second, .val (.int v0_18), .val (.int v0_37), .val (.long v0_60), .second, .val (.ref b7), .unset, .unset, .unset]) rfl ?_
        show Steps p.tables e below (T8.setTop (mkF m 94 #[.val (.int q0), .val (.int q1), .val (.long q2), .second, .val (.int q3), .val (.long q4), .second, .val (.int q5), .val (.int (own_fi q0)), .val (.int (own_fi q1)), .val (.long (own_fl q2)), .second, .val (.int v0_18), .val (.int v0_37), .val (.long v0_60), .second, .val (.ref b7), .unset, .unset, .unset] [])) _
        refine st9 _ ?_
        show Steps p.tables e below (T9.setTop (mkF m 97 #[.val (.int q0), .val (.int q1), .val (.long q2), .second, .val (.int q3), .val (.long q4), .second, .val (.int q5), .val (.int (own_fi q0)), .val (.int (own_fi q1)), .val (.long (own_fl q2)), .second, .val (.int v0_18), .val (.int v0_37), .val (.long v0_60), .second, .val (.ref b7), .unset, .unset, .unset] [(.ref b9)])) _
        refine XS.dup X9.here hx rfl (hb hby at_97) rfl rfl ?_
        show Steps p.tables e below (T9.setTop (mkF m 98 #[.val (.int q0), .val (.int q1), .val (.long q2), .second, .val (.int q3), .val (.long q4), .second, .val (.int q5), .val (.int (own_fi q0)), .val (.int (own_fi q1)), .val (.long (own_fl q2)), .second, .val (.int v0_18), .val (.int v0_37), .val (.long v0_60), .second, .val (.ref b7), .unset, .unset, .unset] [(.ref b9), (.ref b9)])) _
        refine XS.iload X9.here hx rfl (hb hby at_98) rfl ?_
        show Steps p.tables e below (T9.setTop (mkF m 100 #[.val (.int q0), .val (.int q1), .val (.long q2), .second, .val (.int q3), .val (.long q4), .second, .val (.int q5), .val (.int (own_fi q0)), .val (.int (own_fi q1)), .val (.long (own_fl q2)), .second, .val (.int v0_18), .val (.int v0_37), .val (.long v0_60), .second, .val (.ref b7), .unset, .unset, .unset] [(.int v0_18), (.ref b9), (.ref b9)])) _
        refine XS.iload X9.here hx rfl (hb hby at_100) rfl ?_
        show Steps p.tables e below (T9.setTop (mkF m 102 #[.val (.int q0), .val (.int q1), .val (.long q2), .second, .val (.int q3), .val (.long q4), .second, .val (.int q5), .val (.int (own_fi q0)), .val (.int (own_fi q1)), .val (.long (own_fl q2)), .second, .val (.int v0_18), .val (.int v0_37), .val (.long v0_60), .second, .val (.ref b7), .unset, .unset, .unset] [(.int v0_37), (.int v0_18), (.ref b9), (.ref b9)])) _
        refine XS.lload X9.here hx rfl (hb hby at_102) rfl ?_
        show Steps p.tables e below (T9.setTop (mkF m 104 #[.val (.int q0), .val (.int q1), .val (.long q2), .second, .val (.int q3), .val (.long q4), .second, .val (.int q5), .val (.int (own_fi q0)), .val (.int (own_fi q1)), .val (.long (own_fl q2)), .second, .val (.int v0_18), .val (.int v0_37), .val (.long v0_60), .second, .val (.ref b7), .unset, .unset, .unset] [(.long v0_60), (.int v0_37), (.int v0_18), (.ref b9), (.ref b9)])) _
        refine st10.trans ?_
        show Steps p.tables e below (T10.setTop (mkF m 107 #[.val (.int q0), .val (.int q1), .val (.long q2), .second, .val (.int q3), .val (.long q4), .second, .val (.int q5), .val (.int (own_fi q0)), .val (.int (own_fi q1)), .val (.long (own_fl q2)), .second, .val (.int v0_18), .val (.int v0_37), .val (.long v0_60), .second, .val (.ref b7), .unset, .unset, .unset] [(.ref b9)])) _
        refine XS.astore X10.here hx rfl (hb hby at_107) rfl rfl (l' := #[.val (.int q0), .val (.int q1), .val (.long q2), .second, .val (.int q3), .val (.long q4), .second, .val (.int q5), .val (.int (own_fi q0)), .val (.int (own_fi q1)), .val (.long (own_fl q2)), .second, .val (.int v0_18), .val (.int v0_37), .val (.long v0_60), .second, .val (.ref b7), .val (.ref b9), .unset, .unset]) rfl ?_
        show Steps p.tables e below (T10.setTop (mkF m 109 #[.val (.int q0), .val (.int q1), .val (.long q2), .second, .val (.int q3), .val (.long q4), .second, .val (.int q5), .val (.int (own_fi q0)), .val (.int (own_fi q1)), .val (.long (own_fl q2)), .second, .val (.int v0_18), .val (.int v0_37), .val (.long v0_60), .second, .val (.ref b7), .val (.ref b9), .unset, .unset] [])) _
        refine XS.iload X10.here hx rfl (hb hby at_109) rfl ?_
        show Steps p.tables e below (T10.setTop (mkF m 111 #[.val (.int q0), .val (.int q1), .val (.long q2), .second, .val (.int q3), .val (.long q4), .second, .val (.int q5), .val (.int (own_fi q0)), .val (.int (own_fi q1)), .val (.long (own_fl q2)), .second, .val (.int v0_18), .val (.int v0_37), .val (.long v0_60), .second, .val (.ref b7), .val (.ref b9), .unset, .unset] [(.int q5)])) _
        refine XS.iconst X10.here hx rfl (hb hby at_111) ?_
        show Steps p.tables e below (T10.setTop (mkF m 112 #[.val (.int q0), .val (.int q1), .val (.long q2), .second, .val (.int q3), .val (.long q4), .second, .val (.int q5), .val (.int (own_fi q0)), .val (.int (own_fi q1)), .val (.long (own_fl q2)), .second, .val (.int v0_18), .val (.int v0_37), .val (.long v0_60), .second, .val (.ref b7), .val (.ref b9), .unset, .unset] [(.int (3 : Int32)), (.int q5)])) _
        refine XS.iushr X10.here hx rfl (hb hby at_112) rfl ?_
        show Steps p.tables e below (T10.setTop (mkF m 113 #[.val (.int q0), .val (.int q1), .val (.long q2), .second, .val (.int q3), .val (.long q4), .second, .val (.int q5), .val (.int (own_fi q0)), .val (.int (own_fi q1)), .val (.long (own_fl q2)), .second, .val (.int v0_18), .val (.int v0_37), .val (.long v0_60), .second, .val (.ref b7), .val (.ref b9), .unset, .unset] [(.int ((q5.toUInt32 >>> ((3 : Int32) &&& 31).toUInt32).toInt32))])) _
        refine XS.iconst X10.here hx rfl (hb hby at_113) ?_
        show Steps p.tables e below (T10.setTop (mkF m 114 #[.val (.int q0), .val (.int q1), .val (.long q2), .second, .val (.int q3), .val (.long q4), .second, .val (.int q5), .val (.int (own_fi q0)), .val (.int (own_fi q1)), .val (.long (own_fl q2)), .second, .val (.int v0_18), .val (.int v0_37), .val (.long v0_60), .second, .val (.ref b7), .val (.ref b9), .unset, .unset] [(.int (3 : Int32)), (.int ((q5.toUInt32 >>> ((3 : Int32) &&& 31).toUInt32).toInt32))])) _
        refine XS.iand X10.here hx rfl (hb hby at_114) rfl ?_
        show Steps p.tables e below (T10.setTop (mkF m 115 #[.val (.int q0), .val (.int q1), .val (.long q2), .second, .val (.int q3), .val (.long q4), .second, .val (.int q5), .val (.int (own_fi q0)), .val (.int (own_fi q1)), .val (.long (own_fl q2)), .second, .val (.int v0_18), .val (.int v0_37), .val (.long v0_60), .second, .val (.ref b7), .val (.ref b9), .unset, .unset] [(.int (((q5.toUInt32 >>> ((3 : Int32) &&& 31).toUInt32).toInt32) &&& (3 : Int32)))])) _
        refine XS.istore X10.here hx rfl (hb hby at_115) rfl (l' := #[.val (.int q0), .val (.int q1), .val (.long q2), .second, .val (.int q3), .val (.long q4), .second, .val (.int q5), .val (.int (own_fi q0)), .val (.int (own_fi q1)), .val (.long (own_fl q2)), .second, .val (.int v0_18), .val (.int v0_37), .val (.long v0_60), .second, .val (.ref b7), .val (.ref b9), .val (.int (((q5.toUInt32 >>> ((3 : Int32) &&& 31).toUInt32).toInt32) &&& (3 : Int32))), .unset]) rfl ?_
        show Steps p.tables e below (T10.setTop (mkF m 117 #[.val (.int q0), .val (.int q1), .val (.long q2), .second, .val (.int q3), .val (.long q4), .second, .val (.int q5), .val (.int (own_fi q0)), .val (.int (own_fi q1)), .val (.long (own_fl q2)), .second, .val (.int v0_18), .val (.int v0_37), .val (.long v0_60), .second, .val (.ref b7), .val (.ref b9), .val (.int (((q5.toUInt32 >>> ((3 : Int32) &&& 31).toUInt32).toInt32) &&& (3 : Int32))), .unset] [])) _
        rw [← hkd]
        show Steps p.tables e below (T10.setTop (mkF m 117 #[.val (.int q0), .val (.int q1), .val (.long q2), .second, .val (.int q3), .val (.long q4), .second, .val (.int q5), .val (.int (own_fi q0)), .val (.int (own_fi q1)), .val (.long (own_fl q2)), .second, .val (.int v0_18), .val (.int v0_37), .val (.long v0_60), .second, .val (.ref b7), .val (.ref b9), .val (.int kd), .unset] [])) _
        refine XS.iload X10.here hx rfl (hb hby at_117) rfl ?_
        show Steps p.tables e below (T10.setTop (mkF m 119 #[.val (.int q0), .val (.int q1), .val (.long q2), .second, .val (.int q3), .val (.long q4), .second, .val (.int q5), .val (.int (own_fi q0)), .val (.int (own_fi q1)), .val (.long (own_fl q2)), .second, .val (.int v0_18), .val (.int v0_37), .val (.long v0_60), .second, .val (.ref b7), .val (.ref b9), .val (.int kd), .unset] [(.int kd)])) _
        refine XS.iconst X10.here hx rfl (hb hby at_119) ?_
        show Steps p.tables e below (T10.setTop (mkF m 120 #[.val (.int q0), .val (.int q1), .val (.long q2), .second, .val (.int q3), .val (.long q4), .second, .val (.int q5), .val (.int (own_fi q0)), .val (.int (own_fi q1)), .val (.long (own_fl q2)), .second, .val (.int v0_18), .val (.int v0_37), .val (.long v0_60), .second, .val (.ref b7), .val (.ref b9), .val (.int kd), .unset] [(.int (1 : Int32)), (.int kd)])) _
        refine XS.icmpYes X10.here hx rfl (pc0 := 120) (pc' := 138) rfl (hb hby at_120) rfl (feq hc120).2 (by decide) (by decide) ?_
        show Steps p.tables e below (T10.setTop (mkF m 138 #[.val (.int q0), .val (.int q1), .val (.long q2), .second, .val (.int q3), .val (.long q4), .second, .val (.int q5), .val (.int (own_fi q0)), .val (.int (own_fi q1)), .val (.long (own_fl q2)), .second, .val (.int v0_18), .val (.int v0_37), .val (.long v0_60), .second, .val (.ref b7), .val (.ref b9), .val (.int kd), .unset] [])) _
        refine XS.iload X10.here hx rfl (hb hby at_138) rfl ?_
        show Steps p.tables e below (T10.setTop (mkF m 140 #[.val (.int q0), .val (.int q1), .val (.long q2), .second, .val (.int q3), .val (.long q4), .second, .val (.int q5), .val (.int (own_fi q0)), .val (.int (own_fi q1)), .val (.long (own_fl q2)), .second, .val (.int v0_18), .val (.int v0_37), .val (.long v0_60), .second, .val (.ref b7), .val (.ref b9), .val (.int kd), .unset] [(.int kd)])) _
        refine XS.iconst X10.here hx rfl (hb hby at_140) ?_
        show Steps p.tables e below (T10.setTop (mkF m 141 #[.val (.int q0), .val (.int q1), .val (.long q2), .second, .val (.int q3), .val (.long q4), .second, .val (.int q5), .val (.int (own_fi q0)), .val (.int (own_fi q1)), .val (.long (own_fl q2)), .second, .val (.int v0_18), .val (.int v0_37), .val (.long v0_60), .second, .val (.ref b7), .val (.ref b9), .val (.int kd), .unset] [(.int (2 : Int32)), (.int kd)])) _
        refine XS.icmpNo X10.here hx rfl (hb hby at_141) rfl (teq hc141).2 ?_
        show Steps p.tables e below (T10.setTop (mkF m 144 #[.val (.int q0), .val (.int q1), .val (.long q2), .second, .val (.int q3), .val (.long q4), .second, .val (.int q5), .val (.int (own_fi q0)), .val (.int (own_fi q1)), .val (.long (own_fl q2)), .second, .val (.int v0_18), .val (.int v0_37), .val (.long v0_60), .second, .val (.ref b7), .val (.ref b9), .val (.int kd), .unset] [])) _
        refine XS.aload X10.here hx rfl (hb hby at_144) rfl rfl ?_
        show Steps p.tables e below (T10.setTop (mkF m 146 #[.val (.int q0), .val (.int q1), .val (.long q2), .second, .val (.int q3), .val (.long q4), .second, .val (.int q5), .val (.int (own_fi q0)), .val (.int (own_fi q1)), .val (.long (own_fl q2)), .second, .val (.int v0_18), .val (.int v0_37), .val (.long v0_60), .second, .val (.ref b7), .val (.ref b9), .val (.int kd), .unset] [(.ref b7)])) _
        refine XS.lload X10.here hx rfl (hb hby at_146) rfl ?_
        show Steps p.tables e below (T10.setTop (mkF m 148 #[.val (.int q0), .val (.int q1), .val (.long q2), .second, .val (.int q3), .val (.long q4), .second, .val (.int q5), .val (.int (own_fi q0)), .val (.int (own_fi q1)), .val (.long (own_fl q2)), .second, .val (.int v0_18), .val (.int v0_37), .val (.long v0_60), .second, .val (.ref b7), .val (.ref b9), .val (.int kd), .unset] [(.long (own_fl q2)), (.ref b7)])) _
        refine st13 _ ?_
        show Steps p.tables e below (T13.setTop (mkF m 151 #[.val (.int q0), .val (.int q1), .val (.long q2), .second, .val (.int q3), .val (.long q4), .second, .val (.int q5), .val (.int (own_fi q0)), .val (.int (own_fi q1)), .val (.long (own_fl q2)), .second, .val (.int v0_18), .val (.int v0_37), .val (.long v0_60), .second, .val (.ref b7), .val (.ref b9), .val (.int kd), .unset] [(.ref r13), (.ref b7)])) _
        refine st14.trans ?_
        show Steps p.tables e below (T14.setTop (mkF m 154 #[.val (.int q0), .val (.int q1), .val (.long q2), .second, .val (.int q3), .val (.long q4), .second, .val (.int q5), .val (.int (own_fi q0)), .val (.int (own_fi q1)), .val (.long (own_fl q2)), .second, .val (.int v0_18), .val (.int v0_37), .val (.long v0_60), .second, .val (.ref b7), .val (.ref b9), .val (.int kd), .unset] [(.int (0 : Int32))])) _
        refine XS.ifNo X14.here hx rfl (hb hby at_154) rfl ((if0 _ _).trans (teq (rfl : (0 : Int32) = (0 : Int32))).2) ?_
        show Steps p.tables e below (T14.setTop (mkF m 157 #[.val (.int q0), .val (.int q1), .val (.long q2), .second, .val (.int q3), .val (.long q4), .second, .val (.int q5), .val (.int (own_fi q0)), .val (.int (own_fi q1)), .val (.long (own_fl q2)), .second, .val (.int v0_18), .val (.int v0_37), .val (.long v0_60), .second, .val (.ref b7), .val (.ref b9), .val (.int kd), .unset] [])) _
        refine XS.iconst X14.here hx rfl (hb hby at_157) ?_
        show Steps p.tables e below (T14.setTop (mkF m 158 #[.val (.int q0), .val (.int q1), .val (.long q2), .second, .val (.int q3), .val (.long q4), .second, .val (.int q5), .val (.int (own_fi q0)), .val (.int (own_fi q1)), .val (.long (own_fl q2)), .second, .val (.int v0_18), .val (.int v0_37), .val (.long v0_60), .second, .val (.ref b7), .val (.ref b9), .val (.int kd), .unset] [(.int (1 : Int32))])) _
        refine XS.goto X14.here hx rfl (pc0 := 158) (pc' := 162) rfl (hb hby at_158) (by decide) (by decide) ?_
        show Steps p.tables e below (T14.setTop (mkF m 162 #[.val (.int q0), .val (.int q1), .val (.long q2), .second, .val (.int q3), .val (.long q4), .second, .val (.int q5), .val (.int (own_fi q0)), .val (.int (own_fi q1)), .val (.long (own_fl q2)), .second, .val (.int v0_18), .val (.int v0_37), .val (.long v0_60), .second, .val (.ref b7), .val (.ref b9), .val (.int kd), .unset] [(.int (1 : Int32))])) _
        exact retN X14 hx (t := .boolean) Bd.returns (by simp) (hb hby at_162) hr
      · show Q0 h0 n0 _ T14.heap _
        rw [e14]
        exact ⟨rfl, N14⟩
    ·
      obtain ⟨v0_163, hv0_163⟩ : ∃ z : Int32, z = (if (own_fi q0) = v0_18 then (if (own_fi q1) = v0_37 then (if (lcmpW (own_fl q2) v0_60) = (0 : Int32) then (1 : Int32) else (0 : Int32)) else (0 : Int32)) else (0 : Int32)) := ⟨_, rfl⟩
      obtain ⟨cq15, kq15, q15a, q15b, q15c⟩ := isOf hZ rfl ((E8.ext E9).keep K10)
      obtain ⟨_, _, ⟨T15, L15, k15, n15⟩, -, X15, ⟨Lc15, hQ15, l15, y15, z15⟩, st15⟩ := X10.virtualBack hx (y := (⟨"com/example/tuplewise/tuplewise/value/TimeIntervalValue", "equals", "(Ljava/lang/Object;)Z"⟩ : MethodName)) (z := (⟨"com/example/tuplewise/tuplewise/value/TimeIntervalValue", "equals", "(Ljava/lang/Object;)Z"⟩ : MethodName)) hown (mvT hZ (hw _ (List.mem_of_getElem? (i := 31) rfl))) (mvT hZ (hw _ (List.mem_of_getElem? (i := 32) rfl))) (notFace_of_selects (args := #[]) (mvT hZ (hw _ (List.mem_of_getElem? (i := 34) rfl)))) (mvT hZ (hw _ (List.mem_of_getElem? (i := 34) rfl))) (mvT hZ (hw _ (List.mem_of_getElem? (i := 33) rfl))) (by decide) (backOf (W := 0) (rm6 l Z a0 hw [] b7 b9 (own_fi q0) (own_fi q1) (own_fl q2) v0_18 v0_37 v0_60 T10.heap n0 (Nat.le_trans zz11 K10.1) E10 ((F8_1.ext E9).keep K10 (ninS ne9_b7 nin0)) ((F8_2.ext E9).keep K10 (ninS ne9_b7 nin0)) ((F8_3.ext E9).keep K10 (ninS ne9_b7 nin0)) F10_1 F10_2 F10_3) hZ (hw _ (List.mem_of_getElem? (i := 35) rfl)) (hw _ (List.mem_of_getElem? (i := 11) rfl)) (by decide) (by decide)) q15a q15c (g := (mkF m 196 #[.val (.int q0), .val (.int q1), .val (.long q2), .second, .val (.int q3), .val (.long q4), .second, .val (.int q5), .val (.int (own_fi q0)), .val (.int (own_fi q1)), .val (.long (own_fl q2)), .second, .val (.int v0_18), .val (.int v0_37), .val (.long v0_60), .second, .val (.ref b7), .val (.ref b9), .val (.int kd), .val (.int v0_163)] [(.ref b9), (.ref b7)])) rfl (by rw [hml]; rfl) (Steps.refl _) (argsL := [(.ref b9)]) (rest := []) (lenOf pd_5 rfl) rfl (by show 2 * 0 + _ ≤ _; exact Nat.le_of_eq rfl) (hb hby at_196) (fun _ _ => ⟨rfl, rfl, (by decide : 2 + 0 ≤ _), (by decide : 6 + 0 ≤ _)⟩)
      dsimp only [Pt.U, Pt.locs, Pt.cells, Pt.slots] at X15 l15 y15 z15 st15 hQ15
      subst l15 y15 z15
      obtain ⟨rfl, N15q, e15⟩ := hQ15
      have N15 := Fr.app N10 N15q
      obtain ⟨cq16, kq16, q16a, q16b, q16c⟩ := isOf hZ e15 E10
      obtain ⟨_, _, ⟨T16, L16, k16, n16⟩, -, X16, ⟨Lc16, hQ16, l16, y16, z16⟩, st16⟩ := X15.virtualBack hx (y := (⟨"com/example/tuplewise/tuplewise/value/TimeIntervalValue", "equals", "(Ljava/lang/Object;)Z"⟩ : MethodName)) (z := (⟨"com/example/tuplewise/tuplewise/value/TimeIntervalValue", "equals", "(Ljava/lang/Object;)Z"⟩ : MethodName)) hown (mvT hZ (hw _ (List.mem_of_getElem? (i := 31) rfl))) (mvT hZ (hw _ (List.mem_of_getElem? (i := 32) rfl))) (notFace_of_selects (args := #[]) (mvT hZ (hw _ (List.mem_of_getElem? (i := 34) rfl)))) (mvT hZ (hw _ (List.mem_of_getElem? (i := 34) rfl))) (mvT hZ (hw _ (List.mem_of_getElem? (i := 33) rfl))) (by decide) (backOf (W := 0) (rm6 l Z a0 hw [] b9 b7 v0_18 v0_37 v0_60 (own_fi q0) (own_fi q1) (own_fl q2) T10.heap n0 (Nat.le_trans zz11 K10.1) ((E8.ext E9).keep K10) F10_1 F10_2 F10_3 ((F8_1.ext E9).keep K10 (ninS ne9_b7 nin0)) ((F8_2.ext E9).keep K10 (ninS ne9_b7 nin0)) ((F8_3.ext E9).keep K10 (ninS ne9_b7 nin0))) hZ (hw _ (List.mem_of_getElem? (i := 35) rfl)) (hw _ (List.mem_of_getElem? (i := 11) rfl)) (by decide) (by decide)) q16a q16c (g := (mkF m 208 #[.val (.int q0), .val (.int q1), .val (.long q2), .second, .val (.int q3), .val (.long q4), .second, .val (.int q5), .val (.int (own_fi q0)), .val (.int (own_fi q1)), .val (.long (own_fl q2)), .second, .val (.int v0_18), .val (.int v0_37), .val (.long v0_60), .second, .val (.ref b7), .val (.ref b9), .val (.int kd), .val (.int v0_163)] [(.ref b7), (.ref b9)])) rfl (by rw [hml]; rfl) (Steps.refl _) (argsL := [(.ref b7)]) (rest := []) (lenOf pd_5 rfl) rfl (by show 2 * 0 + _ ≤ _; exact Nat.le_of_eq rfl) (hb hby at_208) (fun _ _ => ⟨rfl, e15, (by decide : 2 + 0 ≤ _), (by decide : 6 + 0 ≤ _)⟩)
      dsimp only [Pt.U, Pt.locs, Pt.cells, Pt.slots] at X16 l16 y16 z16 st16 hQ16
      subst l16 y16 z16
      obtain ⟨rfl, N16q, e16⟩ := hQ16
      have N16 := Fr.app N15 N16q
      obtain ⟨cq17, kq17, q17a, q17b, q17c⟩ := isOf hZ e16 ((E8.ext E9).keep K10)
      obtain ⟨_, _, ⟨T17, L17, k17, n17⟩, -, X17, ⟨Lc17, hQ17, l17, y17, z17⟩, st17⟩ := X16.virtualBack hx (y := (⟨"com/example/tuplewise/tuplewise/value/TimeIntervalValue", "equals", "(Ljava/lang/Object;)Z"⟩ : MethodName)) (z := (⟨"com/example/tuplewise/tuplewise/value/TimeIntervalValue", "equals", "(Ljava/lang/Object;)Z"⟩ : MethodName)) hown (mvT hZ (hw _ (List.mem_of_getElem? (i := 31) rfl))) (mvT hZ (hw _ (List.mem_of_getElem? (i := 32) rfl))) (notFace_of_selects (args := #[]) (mvT hZ (hw _ (List.mem_of_getElem? (i := 34) rfl)))) (mvT hZ (hw _ (List.mem_of_getElem? (i := 34) rfl))) (mvT hZ (hw _ (List.mem_of_getElem? (i := 33) rfl))) (by decide) (backOf (W := 0) (rm6 l Z a0 hw [] b7 b7 (own_fi q0) (own_fi q1) (own_fl q2) (own_fi q0) (own_fi q1) (own_fl q2) T10.heap n0 (Nat.le_trans zz11 K10.1) ((E8.ext E9).keep K10) ((F8_1.ext E9).keep K10 (ninS ne9_b7 nin0)) ((F8_2.ext E9).keep K10 (ninS ne9_b7 nin0)) ((F8_3.ext E9).keep K10 (ninS ne9_b7 nin0)) ((F8_1.ext E9).keep K10 (ninS ne9_b7 nin0)) ((F8_2.ext E9).keep K10 (ninS ne9_b7 nin0)) ((F8_3.ext E9).keep K10 (ninS ne9_b7 nin0))) hZ (hw _ (List.mem_of_getElem? (i := 35) rfl)) (hw _ (List.mem_of_getElem? (i := 11) rfl)) (by decide) (by decide)) q17a q17c (g := (mkF m 220 #[.val (.int q0), .val (.int q1), .val (.long q2), .second, .val (.int q3), .val (.long q4), .second, .val (.int q5), .val (.int (own_fi q0)), .val (.int (own_fi q1)), .val (.long (own_fl q2)), .second, .val (.int v0_18), .val (.int v0_37), .val (.long v0_60), .second, .val (.ref b7), .val (.ref b9), .val (.int kd), .val (.int v0_163)] [(.ref b7), (.ref b7)])) rfl (by rw [hml]; rfl) (Steps.refl _) (argsL := [(.ref b7)]) (rest := []) (lenOf pd_5 rfl) rfl (by show 2 * 0 + _ ≤ _; exact Nat.le_of_eq rfl) (hb hby at_220) (fun _ _ => ⟨rfl, e16, (by decide : 2 + 0 ≤ _), (by decide : 6 + 0 ≤ _)⟩)
      dsimp only [Pt.U, Pt.locs, Pt.cells, Pt.slots] at X17 l17 y17 z17 st17 hQ17
      subst l17 y17 z17
      obtain ⟨rfl, N17q, e17⟩ := hQ17
      have N17 := Fr.app N16 N17q
      obtain ⟨fs, hr, hrun, hended, hW, hsame⟩ := X17.leave (v := some (.int (1 : Int32))) (fun h => by rw [Bd.returns] at h; cases h)
      refine ⟨_, _, pre0 _ ?_, hrun, hended, _, _, rfl, ?_, ⟨_, rfl⟩, hW, hsame.mono (by decide) (by decide)⟩
      · show Steps p.tables e below (s₁.setTop (mkF m 0 #[.val (.int q0), .val (.int q1), .val (.long q2), .second, .val (.int q3), .val (.long q4), .second, .val (.int q5), .unset, .unset, .unset, .unset, .unset, .unset, .unset, .unset, .unset, .unset, .unset, .unset] [])) _
        refine XS.iloadN X0.here hx rfl (hb hby at_0) rfl ?_
        show Steps p.tables e below (s₁.setTop (mkF m 1 #[.val (.int q0), .val (.int q1), .val (.long q2), .second, .val (.int q3), .val (.long q4), .second, .val (.int q5), .unset, .unset, .unset, .unset, .unset, .unset, .unset, .unset, .unset, .unset, .unset, .unset] [(.int q0)])) _
        refine st1 _ ?_
        show Steps p.tables e below (T1.setTop (mkF m 4 #[.val (.int q0), .val (.int q1), .val (.long q2), .second, .val (.int q3), .val (.long q4), .second, .val (.int q5), .unset, .unset, .unset, .unset, .unset, .unset, .unset, .unset, .unset, .unset, .unset, .unset] [(.int (own_fi q0))])) _
        refine XS.istore X1.here hx rfl (hb hby at_4) rfl (l' := #[.val (.int q0), .val (.int q1), .val (.long q2), .second, .val (.int q3), .val (.long q4), .second, .val (.int q5), .val (.int (own_fi q0)), .unset, .unset, .unset, .unset, .unset, .unset, .unset, .unset, .unset, .unset, .unset]) rfl ?_
        show Steps p.tables e below (T1.setTop (mkF m 6 #[.val (.int q0), .val (.int q1), .val (.long q2), .second, .val (.int q3), .val (.long q4), .second, .val (.int q5), .val (.int (own_fi q0)), .unset, .unset, .unset, .unset, .unset, .unset, .unset, .unset, .unset, .unset, .unset] [])) _
        refine XS.iloadN X1.here hx rfl (hb hby at_6) rfl ?_
        show Steps p.tables e below (T1.setTop (mkF m 7 #[.val (.int q0), .val (.int q1), .val (.long q2), .second, .val (.int q3), .val (.long q4), .second, .val (.int q5), .val (.int (own_fi q0)), .unset, .unset, .unset, .unset, .unset, .unset, .unset, .unset, .unset, .unset, .unset] [(.int q1)])) _
        refine st2 _ ?_
        show Steps p.tables e below (T2.setTop (mkF m 10 #[.val (.int q0), .val (.int q1), .val (.long q2), .second, .val (.int q3), .val (.long q4), .second, .val (.int q5), .val (.int (own_fi q0)), .unset, .unset, .unset, .unset, .unset, .unset, .unset, .unset, .unset, .unset, .unset] [(.int (own_fi q1))])) _
        refine XS.istore X2.here hx rfl (hb hby at_10) rfl (l' := #[.val (.int q0), .val (.int q1), .val (.long q2), .second, .val (.int q3), .val (.long q4), .second, .val (.int q5), .val (.int (own_fi q0)), .val (.int (own_fi q1)), .unset, .unset, .unset, .unset, .unset, .unset, .unset, .unset, .unset, .unset]) rfl ?_
        show Steps p.tables e below (T2.setTop (mkF m 12 #[.val (.int q0), .val (.int q1), .val (.long q2), .second, .val (.int q3), .val (.long q4), .second, .val (.int q5), .val (.int (own_fi q0)), .val (.int (own_fi q1)), .unset, .unset, .unset, .unset, .unset, .unset, .unset, .unset, .unset, .unset] [])) _
        refine XS.lloadN X2.here hx rfl (hb hby at_12) rfl ?_
        show Steps p.tables e below (T2.setTop (mkF m 13 #[.val (.int q0), .val (.int q1), .val (.long q2), .second, .val (.int q3), .val (.long q4), .second, .val (.int q5), .val (.int (own_fi q0)), .val (.int (own_fi q1)), .unset, .unset, .unset, .unset, .unset, .unset, .unset, .unset, .unset, .unset] [(.long q2)])) _
        refine st3 _ ?_
        show Steps p.tables e below (T3.setTop (mkF m 16 #[.val (.int q0), .val (.int q1), .val (.long q2), .second, .val (.int q3), .val (.long q4), .second, .val (.int q5), .val (.int (own_fi q0)), .val (.int (own_fi q1)), .unset, .unset, .unset, .unset, .unset, .unset, .unset, .unset, .unset, .unset] [(.long (own_fl q2))])) _
        refine XS.lstore X3.here hx rfl (hb hby at_16) rfl (l' := #[.val (.int q0), .val (.int q1), .val (.long q2), .second, .val (.int q3), .val (.long q4), .second, .val (.int q5), .val (.int (own_fi q0)), .val (.int (own_fi q1)), .val (.long (own_fl q2)), .second, .unset, .unset, .unset, .unset, .unset, .unset, .unset, .unset]) rfl ?_
        show Steps p.tables e below (T3.setTop (mkF m 18 #[.val (.int q0), .val (.int q1), .val (.long q2), .second, .val (.int q3), .val (.long q4), .second, .val (.int q5), .val (.int (own_fi q0)), .val (.int (own_fi q1)), .val (.long (own_fl q2)), .second, .unset, .unset, .unset, .unset, .unset, .unset, .unset, .unset] [])) _
        refine st4 _ ?_
        show Steps p.tables e below (T4.setTop (mkF m 35 #[.val (.int q0), .val (.int q1), .val (.long q2), .second, .val (.int q3), .val (.long q4), .second, .val (.int q5), .val (.int (own_fi q0)), .val (.int (own_fi q1)), .val (.long (own_fl q2)), .second, .unset, .unset, .unset, .unset, .unset, .unset, .unset, .unset] [(.int v0_18)])) _
        refine XS.istore X4.here hx rfl (hb hby at_35) rfl (l' := #[.val (.int q0), .val (.int q1), .val (.long q2), .second, .val (.int q3), .val (.long q4), .second, .val (.int q5), .val (.int (own_fi q0)), .val (.int (own_fi q1)), .val (.long (own_fl q2)), .second, .val (.int v0_18), .unset, .unset, .unset, .unset, .unset, .unset, .unset]) rfl ?_
        show Steps p.tables e below (T4.setTop (mkF m 37 #[.val (.int q0), .val (.int q1), .val (.long q2), .second, .val (.int q3), .val (.long q4), .second, .val (.int q5), .val (.int (own_fi q0)), .val (.int (own_fi q1)), .val (.long (own_fl q2)), .second, .val (.int v0_18), .unset, .unset, .unset, .unset, .unset, .unset, .unset] [])) _
        refine st5 _ ?_
        show Steps p.tables e below (T5.setTop (mkF m 58 #[.val (.int q0), .val (.int q1), .val (.long q2), .second, .val (.int q3), .val (.long q4), .second, .val (.int q5), .val (.int (own_fi q0)), .val (.int (own_fi q1)), .val (.long (own_fl q2)), .second, .val (.int v0_18), .unset, .unset, .unset, .unset, .unset, .unset, .unset] [(.int v0_37)])) _
        refine XS.istore X5.here hx rfl (hb hby at_58) rfl (l' := #[.val (.int q0), .val (.int q1), .val (.long q2), .second, .val (.int q3), .val (.long q4), .second, .val (.int q5), .val (.int (own_fi q0)), .val (.int (own_fi q1)), .val (.long (own_fl q2)), .second, .val (.int v0_18), .val (.int v0_37), .unset, .unset, .unset, .unset, .unset, .unset]) rfl ?_
        show Steps p.tables e below (T5.setTop (mkF m 60 #[.val (.int q0), .val (.int q1), .val (.long q2), .second, .val (.int q3), .val (.long q4), .second, .val (.int q5), .val (.int (own_fi q0)), .val (.int (own_fi q1)), .val (.long (own_fl q2)), .second, .val (.int v0_18), .val (.int v0_37), .unset, .unset, .unset, .unset, .unset, .unset] [])) _
        refine st6 _ ?_
        show Steps p.tables e below (T6.setTop (mkF m 77 #[.val (.int q0), .val (.int q1), .val (.long q2), .second, .val (.int q3), .val (.long q4), .second, .val (.int q5), .val (.int (own_fi q0)), .val (.int (own_fi q1)), .val (.long (own_fl q2)), .second, .val (.int v0_18), .val (.int v0_37), .unset, .unset, .unset, .unset, .unset, .unset] [(.long v0_60)])) _
        refine XS.lstore X6.here hx rfl (hb hby at_77) rfl (l' := #[.val (.int q0), .val (.int q1), .val (.long q2), .second, .val (.int q3), .val (.long q4), .second, .val (.int q5), .val (.int (own_fi q0)), .val (.int (own_fi q1)), .val (.long (own_fl q2)), .second, .val (.int v0_18), .val (.int v0_37), .val (.long v0_60), .second, .unset, .unset, .unset, .unset]) rfl ?_
        show Steps p.tables e below (T6.setTop (mkF m 79 #[.val (.int q0), .val (.int q1), .val (.long q2), .second, .val (.int q3), .val (.long q4), .second, .val (.int q5), .val (.int (own_fi q0)), .val (.int (own_fi q1)), .val (.long (own_fl q2)), .second, .val (.int v0_18), .val (.int v0_37), .val (.long v0_60), .second, .unset, .unset, .unset, .unset] [])) _
        refine st7 _ ?_
        show Steps p.tables e below (T7.setTop (mkF m 82 #[.val (.int q0), .val (.int q1), .val (.long q2), .second, .val (.int q3), .val (.long q4), .second, .val (.int q5), .val (.int (own_fi q0)), .val (.int (own_fi q1)), .val (.long (own_fl q2)), .second, .val (.int v0_18), .val (.int v0_37), .val (.long v0_60), .second, .unset, .unset, .unset, .unset] [(.ref b7)])) _
        refine XS.dup X7.here hx rfl (hb hby at_82) rfl rfl ?_
        show Steps p.tables e below (T7.setTop (mkF m 83 #[.val (.int q0), .val (.int q1), .val (.long q2), .second, .val (.int q3), .val (.long q4), .second, .val (.int q5), .val (.int (own_fi q0)), .val (.int (own_fi q1)), .val (.long (own_fl q2)), .second, .val (.int v0_18), .val (.int v0_37), .val (.long v0_60), .second, .unset, .unset, .unset, .unset] [(.ref b7), (.ref b7)])) _
        refine XS.iload X7.here hx rfl (hb hby at_83) rfl ?_
        show Steps p.tables e below (T7.setTop (mkF m 85 #[.val (.int q0), .val (.int q1), .val (.long q2), .second, .val (.int q3), .val (.long q4), .second, .val (.int q5), .val (.int (own_fi q0)), .val (.int (own_fi q1)), .val (.long (own_fl q2)), .second, .val (.int v0_18), .val (.int v0_37), .val (.long v0_60), .second, .unset, .unset, .unset, .unset] [(.int (own_fi q0)), (.ref b7), (.ref b7)])) _
        refine XS.iload X7.here hx rfl (hb hby at_85) rfl ?_
        show Steps p.tables e below (T7.setTop (mkF m 87 #[.val (.int q0), .val (.int q1), .val (.long q2), .second, .val (.int q3), .val (.long q4), .second, .val (.int q5), .val (.int (own_fi q0)), .val (.int (own_fi q1)), .val (.long (own_fl q2)), .second, .val (.int v0_18), .val (.int v0_37), .val (.long v0_60), .second, .unset, .unset, .unset, .unset] [(.int (own_fi q1)), (.int (own_fi q0)), (.ref b7), (.ref b7)])) _
        refine XS.lload X7.here hx rfl (hb hby at_87) rfl ?_
        show Steps p.tables e below (T7.setTop (mkF m 89 #[.val (.int q0), .val (.int q1), .val (.long q2), .second, .val (.int q3), .val (.long q4), .second, .val (.int q5), .val (.int (own_fi q0)), .val (.int (own_fi q1)), .val (.long (own_fl q2)), .second, .val (.int v0_18), .val (.int v0_37), .val (.long v0_60), .second, .unset, .unset, .unset, .unset] [(.long (own_fl q2)), (.int (own_fi q1)), (.int (own_fi q0)), (.ref b7), (.ref b7)])) _
        refine st8.trans ?_
        show Steps p.tables e below (T8.setTop (mkF m 92 #[.val (.int q0), .val (.int q1), .val (.long q2), .second, .val (.int q3), .val (.long q4), .second, .val (.int q5), .val (.int (own_fi q0)), .val (.int (own_fi q1)), .val (.long (own_fl q2)), .second, .val (.int v0_18), .val (.int v0_37), .val (.long v0_60), .second, .unset, .unset, .unset, .unset] [(.ref b7)])) _
        refine XS.astore X8.here hx rfl (hb hby at_92) rfl rfl (l' := #[.val (.int q0), .val (.int q1), .val (.long q2), .second, .val (.int q3), .val (.long q4), .second, .val (.int q5), .val (.int (own_fi q0)), .val (.int (own_fi q1)), .val (.long (own_fl q2)), .second, .val (.int v0_18), .val (.int v0_37), .val (.long v0_60), .second, .val (.ref b7), .unset, .unset, .unset]) rfl ?_
        show Steps p.tables e below (T8.setTop (mkF m 94 #[.val (.int q0), .val (.int q1), .val (.long q2), .second, .val (.int q3), .val (.long q4), .second, .val (.int q5), .val (.int (own_fi q0)), .val (.int (own_fi q1)), .val (.long (own_fl q2)), .second, .val (.int v0_18), .val (.int v0_37), .val (.long v0_60), .second, .val (.ref b7), .unset, .unset, .unset] [])) _
        refine st9 _ ?_
        show Steps p.tables e below (T9.setTop (mkF m 97 #[.val (.int q0), .val (.int q1), .val (.long q2), .second, .val (.int q3), .val (.long q4), .second, .val (.int q5), .val (.int (own_fi q0)), .val (.int (own_fi q1)), .val (.long (own_fl q2)), .second, .val (.int v0_18), .val (.int v0_37), .val (.long v0_60), .second, .val (.ref b7), .unset, .unset, .unset] [(.ref b9)])) _
        refine XS.dup X9.here hx rfl (hb hby at_97) rfl rfl ?_
        show Steps p.tables e below (T9.setTop (mkF m 98 #[.val (.int q0), .val (.int q1), .val (.long q2), .second, .val (.int q3), .val (.long q4), .second, .val (.int q5), .val (.int (own_fi q0)), .val (.int (own_fi q1)), .val (.long (own_fl q2)), .second, .val (.int v0_18), .val (.int v0_37), .val (.long v0_60), .second, .val (.ref b7), .unset, .unset, .unset] [(.ref b9), (.ref b9)])) _
        refine XS.iload X9.here hx rfl (hb hby at_98) rfl ?_
        show Steps p.tables e below (T9.setTop (mkF m 100 #[.val (.int q0), .val (.int q1), .val (.long q2), .second, .val (.int q3), .val (.long q4), .second, .val (.int q5), .val (.int (own_fi q0)), .val (.int (own_fi q1)), .val (.long (own_fl q2)), .second, .val (.int v0_18), .val (.int v0_37), .val (.long v0_60), .second, .val (.ref b7), .unset, .unset, .unset] [(.int v0_18), (.ref b9), (.ref b9)])) _
        refine XS.iload X9.here hx rfl (hb hby at_100) rfl ?_
        show Steps p.tables e below (T9.setTop (mkF m 102 #[.val (.int q0), .val (.int q1), .val (.long q2), .second, .val (.int q3), .val (.long q4), .second, .val (.int q5), .val (.int (own_fi q0)), .val (.int (own_fi q1)), .val (.long (own_fl q2)), .second, .val (.int v0_18), .val (.int v0_37), .val (.long v0_60), .second, .val (.ref b7), .unset, .unset, .unset] [(.int v0_37), (.int v0_18), (.ref b9), (.ref b9)])) _
        refine XS.lload X9.here hx rfl (hb hby at_102) rfl ?_
        show Steps p.tables e below (T9.setTop (mkF m 104 #[.val (.int q0), .val (.int q1), .val (.long q2), .second, .val (.int q3), .val (.long q4), .second, .val (.int q5), .val (.int (own_fi q0)), .val (.int (own_fi q1)), .val (.long (own_fl q2)), .second, .val (.int v0_18), .val (.int v0_37), .val (.long v0_60), .second, .val (.ref b7), .unset, .unset, .unset] [(.long v0_60), (.int v0_37), (.int v0_18), (.ref b9), (.ref b9)])) _
        refine st10.trans ?_
        show Steps p.tables e below (T10.setTop (mkF m 107 #[.val (.int q0), .val (.int q1), .val (.long q2), .second, .val (.int q3), .val (.long q4), .second, .val (.int q5), .val (.int (own_fi q0)), .val (.int (own_fi q1)), .val (.long (own_fl q2)), .second, .val (.int v0_18), .val (.int v0_37), .val (.long v0_60), .second, .val (.ref b7), .unset, .unset, .unset] [(.ref b9)])) _
        refine XS.astore X10.here hx rfl (hb hby at_107) rfl rfl (l' := #[.val (.int q0), .val (.int q1), .val (.long q2), .second, .val (.int q3), .val (.long q4), .second, .val (.int q5), .val (.int (own_fi q0)), .val (.int (own_fi q1)), .val (.long (own_fl q2)), .second, .val (.int v0_18), .val (.int v0_37), .val (.long v0_60), .second, .val (.ref b7), .val (.ref b9), .unset, .unset]) rfl ?_
        show Steps p.tables e below (T10.setTop (mkF m 109 #[.val (.int q0), .val (.int q1), .val (.long q2), .second, .val (.int q3), .val (.long q4), .second, .val (.int q5), .val (.int (own_fi q0)), .val (.int (own_fi q1)), .val (.long (own_fl q2)), .second, .val (.int v0_18), .val (.int v0_37), .val (.long v0_60), .second, .val (.ref b7), .val (.ref b9), .unset, .unset] [])) _
        refine XS.iload X10.here hx rfl (hb hby at_109) rfl ?_
        show Steps p.tables e below (T10.setTop (mkF m 111 #[.val (.int q0), .val (.int q1), .val (.long q2), .second, .val (.int q3), .val (.long q4), .second, .val (.int q5), .val (.int (own_fi q0)), .val (.int (own_fi q1)), .val (.long (own_fl q2)), .second, .val (.int v0_18), .val (.int v0_37), .val (.long v0_60), .second, .val (.ref b7), .val (.ref b9), .unset, .unset] [(.int q5)])) _
        refine XS.iconst X10.here hx rfl (hb hby at_111) ?_
        show Steps p.tables e below (T10.setTop (mkF m 112 #[.val (.int q0), .val (.int q1), .val (.long q2), .second, .val (.int q3), .val (.long q4), .second, .val (.int q5), .val (.int (own_fi q0)), .val (.int (own_fi q1)), .val (.long (own_fl q2)), .second, .val (.int v0_18), .val (.int v0_37), .val (.long v0_60), .second, .val (.ref b7), .val (.ref b9), .unset, .unset] [(.int (3 : Int32)), (.int q5)])) _
        refine XS.iushr X10.here hx rfl (hb hby at_112) rfl ?_
        show Steps p.tables e below (T10.setTop (mkF m 113 #[.val (.int q0), .val (.int q1), .val (.long q2), .second, .val (.int q3), .val (.long q4), .second, .val (.int q5), .val (.int (own_fi q0)), .val (.int (own_fi q1)), .val (.long (own_fl q2)), .second, .val (.int v0_18), .val (.int v0_37), .val (.long v0_60), .second, .val (.ref b7), .val (.ref b9), .unset, .unset] [(.int ((q5.toUInt32 >>> ((3 : Int32) &&& 31).toUInt32).toInt32))])) _
        refine XS.iconst X10.here hx rfl (hb hby at_113) ?_
        show Steps p.tables e below (T10.setTop (mkF m 114 #[.val (.int q0), .val (.int q1), .val (.long q2), .second, .val (.int q3), .val (.long q4), .second, .val (.int q5), .val (.int (own_fi q0)), .val (.int (own_fi q1)), .val (.long (own_fl q2)), .second, .val (.int v0_18), .val (.int v0_37), .val (.long v0_60), .second, .val (.ref b7), .val (.ref b9), .unset, .unset] [(.int (3 : Int32)), (.int ((q5.toUInt32 >>> ((3 : Int32) &&& 31).toUInt32).toInt32))])) _
        refine XS.iand X10.here hx rfl (hb hby at_114) rfl ?_
        show Steps p.tables e below (T10.setTop (mkF m 115 #[.val (.int q0), .val (.int q1), .val (.long q2), .second, .val (.int q3), .val (.long q4), .second, .val (.int q5), .val (.int (own_fi q0)), .val (.int (own_fi q1)), .val (.long (own_fl q2)), .second, .val (.int v0_18), .val (.int v0_37), .val (.long v0_60), .second, .val (.ref b7), .val (.ref b9), .unset, .unset] [(.int (((q5.toUInt32 >>> ((3 : Int32) &&& 31).toUInt32).toInt32) &&& (3 : Int32)))])) _
        refine XS.istore X10.here hx rfl (hb hby at_115) rfl (l' := #[.val (.int q0), .val (.int q1), .val (.long q2), .second, .val (.int q3), .val (.long q4), .second, .val (.int q5), .val (.int (own_fi q0)), .val (.int (own_fi q1)), .val (.long (own_fl q2)), .second, .val (.int v0_18), .val (.int v0_37), .val (.long v0_60), .second, .val (.ref b7), .val (.ref b9), .val (.int (((q5.toUInt32 >>> ((3 : Int32) &&& 31).toUInt32).toInt32) &&& (3 : Int32))), .unset]) rfl ?_
        show Steps p.tables e below (T10.setTop (mkF m 117 #[.val (.int q0), .val (.int q1), .val (.long q2), .second, .val (.int q3), .val (.long q4), .second, .val (.int q5), .val (.int (own_fi q0)), .val (.int (own_fi q1)), .val (.long (own_fl q2)), .second, .val (.int v0_18), .val (.int v0_37), .val (.long v0_60), .second, .val (.ref b7), .val (.ref b9), .val (.int (((q5.toUInt32 >>> ((3 : Int32) &&& 31).toUInt32).toInt32) &&& (3 : Int32))), .unset] [])) _
        rw [← hkd]
        show Steps p.tables e below (T10.setTop (mkF m 117 #[.val (.int q0), .val (.int q1), .val (.long q2), .second, .val (.int q3), .val (.long q4), .second, .val (.int q5), .val (.int (own_fi q0)), .val (.int (own_fi q1)), .val (.long (own_fl q2)), .second, .val (.int v0_18), .val (.int v0_37), .val (.long v0_60), .second, .val (.ref b7), .val (.ref b9), .val (.int kd), .unset] [])) _
        refine XS.iload X10.here hx rfl (hb hby at_117) rfl ?_
        show Steps p.tables e below (T10.setTop (mkF m 119 #[.val (.int q0), .val (.int q1), .val (.long q2), .second, .val (.int q3), .val (.long q4), .second, .val (.int q5), .val (.int (own_fi q0)), .val (.int (own_fi q1)), .val (.long (own_fl q2)), .second, .val (.int v0_18), .val (.int v0_37), .val (.long v0_60), .second, .val (.ref b7), .val (.ref b9), .val (.int kd), .unset] [(.int kd)])) _
        refine XS.iconst X10.here hx rfl (hb hby at_119) ?_
        show Steps p.tables e below (T10.setTop (mkF m 120 #[.val (.int q0), .val (.int q1), .val (.long q2), .second, .val (.int q3), .val (.long q4), .second, .val (.int q5), .val (.int (own_fi q0)), .val (.int (own_fi q1)), .val (.long (own_fl q2)), .second, .val (.int v0_18), .val (.int v0_37), .val (.long v0_60), .second, .val (.ref b7), .val (.ref b9), .val (.int kd), .unset] [(.int (1 : Int32)), (.int kd)])) _
        refine XS.icmpYes X10.here hx rfl (pc0 := 120) (pc' := 138) rfl (hb hby at_120) rfl (feq hc120).2 (by decide) (by decide) ?_
        show Steps p.tables e below (T10.setTop (mkF m 138 #[.val (.int q0), .val (.int q1), .val (.long q2), .second, .val (.int q3), .val (.long q4), .second, .val (.int q5), .val (.int (own_fi q0)), .val (.int (own_fi q1)), .val (.long (own_fl q2)), .second, .val (.int v0_18), .val (.int v0_37), .val (.long v0_60), .second, .val (.ref b7), .val (.ref b9), .val (.int kd), .unset] [])) _
        refine XS.iload X10.here hx rfl (hb hby at_138) rfl ?_
        show Steps p.tables e below (T10.setTop (mkF m 140 #[.val (.int q0), .val (.int q1), .val (.long q2), .second, .val (.int q3), .val (.long q4), .second, .val (.int q5), .val (.int (own_fi q0)), .val (.int (own_fi q1)), .val (.long (own_fl q2)), .second, .val (.int v0_18), .val (.int v0_37), .val (.long v0_60), .second, .val (.ref b7), .val (.ref b9), .val (.int kd), .unset] [(.int kd)])) _
        refine XS.iconst X10.here hx rfl (hb hby at_140) ?_
        show Steps p.tables e below (T10.setTop (mkF m 141 #[.val (.int q0), .val (.int q1), .val (.long q2), .second, .val (.int q3), .val (.long q4), .second, .val (.int q5), .val (.int (own_fi q0)), .val (.int (own_fi q1)), .val (.long (own_fl q2)), .second, .val (.int v0_18), .val (.int v0_37), .val (.long v0_60), .second, .val (.ref b7), .val (.ref b9), .val (.int kd), .unset] [(.int (2 : Int32)), (.int kd)])) _
        refine XS.icmpYes X10.here hx rfl (pc0 := 141) (pc' := 163) rfl (hb hby at_141) rfl (feq hc141).2 (by decide) (by decide) ?_
        show Steps p.tables e below (T10.setTop (mkF m 163 #[.val (.int q0), .val (.int q1), .val (.long q2), .second, .val (.int q3), .val (.long q4), .second, .val (.int q5), .val (.int (own_fi q0)), .val (.int (own_fi q1)), .val (.long (own_fl q2)), .second, .val (.int v0_18), .val (.int v0_37), .val (.long v0_60), .second, .val (.ref b7), .val (.ref b9), .val (.int kd), .unset] [])) _
        refine sg_163  (.val (.int q0)) (.val (.int q1)) (.val (.long q2)) (.second) (.val (.int q3)) (.val (.long q4)) (.second) (.val (.int q5)) ((own_fi q0)) ((own_fi q1)) ((own_fl q2)) (v0_18) (v0_37) (v0_60) (.val (.ref b7)) (.val (.ref b9)) (.val (.int kd)) (.unset) v0_163 hv0_163 X10 hx hZ hw hby hown ?_
        show Steps p.tables e below (T10.setTop (mkF m 190 #[.val (.int q0), .val (.int q1), .val (.long q2), .second, .val (.int q3), .val (.long q4), .second, .val (.int q5), .val (.int (own_fi q0)), .val (.int (own_fi q1)), .val (.long (own_fl q2)), .second, .val (.int v0_18), .val (.int v0_37), .val (.long v0_60), .second, .val (.ref b7), .val (.ref b9), .val (.int kd), .unset] [(.int v0_163)])) _
        refine XS.istore X10.here hx rfl (hb hby at_190) rfl (l' := #[.val (.int q0), .val (.int q1), .val (.long q2), .second, .val (.int q3), .val (.long q4), .second, .val (.int q5), .val (.int (own_fi q0)), .val (.int (own_fi q1)), .val (.long (own_fl q2)), .second, .val (.int v0_18), .val (.int v0_37), .val (.long v0_60), .second, .val (.ref b7), .val (.ref b9), .val (.int kd), .val (.int v0_163)]) rfl ?_
        show Steps p.tables e below (T10.setTop (mkF m 192 #[.val (.int q0), .val (.int q1), .val (.long q2), .second, .val (.int q3), .val (.long q4), .second, .val (.int q5), .val (.int (own_fi q0)), .val (.int (own_fi q1)), .val (.long (own_fl q2)), .second, .val (.int v0_18), .val (.int v0_37), .val (.long v0_60), .second, .val (.ref b7), .val (.ref b9), .val (.int kd), .val (.int v0_163)] [])) _
        refine XS.aload X10.here hx rfl (hb hby at_192) rfl rfl ?_
        show Steps p.tables e below (T10.setTop (mkF m 194 #[.val (.int q0), .val (.int q1), .val (.long q2), .second, .val (.int q3), .val (.long q4), .second, .val (.int q5), .val (.int (own_fi q0)), .val (.int (own_fi q1)), .val (.long (own_fl q2)), .second, .val (.int v0_18), .val (.int v0_37), .val (.long v0_60), .second, .val (.ref b7), .val (.ref b9), .val (.int kd), .val (.int v0_163)] [(.ref b7)])) _
        refine XS.aload X10.here hx rfl (hb hby at_194) rfl rfl ?_
        show Steps p.tables e below (T10.setTop (mkF m 196 #[.val (.int q0), .val (.int q1), .val (.long q2), .second, .val (.int q3), .val (.long q4), .second, .val (.int q5), .val (.int (own_fi q0)), .val (.int (own_fi q1)), .val (.long (own_fl q2)), .second, .val (.int v0_18), .val (.int v0_37), .val (.long v0_60), .second, .val (.ref b7), .val (.ref b9), .val (.int kd), .val (.int v0_163)] [(.ref b9), (.ref b7)])) _
        refine st15.trans ?_
        show Steps p.tables e below (T15.setTop (mkF m 199 #[.val (.int q0), .val (.int q1), .val (.long q2), .second, .val (.int q3), .val (.long q4), .second, .val (.int q5), .val (.int (own_fi q0)), .val (.int (own_fi q1)), .val (.long (own_fl q2)), .second, .val (.int v0_18), .val (.int v0_37), .val (.long v0_60), .second, .val (.ref b7), .val (.ref b9), .val (.int kd), .val (.int v0_163)] [(.int (own_eq (own_fi q0) (own_fi q1) (own_fl q2) v0_18 v0_37 v0_60))])) _
        refine XS.iload X15.here hx rfl (hb hby at_199) rfl ?_
        show Steps p.tables e below (T15.setTop (mkF m 201 #[.val (.int q0), .val (.int q1), .val (.long q2), .second, .val (.int q3), .val (.long q4), .second, .val (.int q5), .val (.int (own_fi q0)), .val (.int (own_fi q1)), .val (.long (own_fl q2)), .second, .val (.int v0_18), .val (.int v0_37), .val (.long v0_60), .second, .val (.ref b7), .val (.ref b9), .val (.int kd), .val (.int v0_163)] [(.int v0_163), (.int (own_eq (own_fi q0) (own_fi q1) (own_fl q2) v0_18 v0_37 v0_60))])) _
        refine XS.icmpNo X15.here hx rfl (hb hby at_201) rfl (teq (hv0_163.symm ▸ rfl : (own_eq (own_fi q0) (own_fi q1) (own_fl q2) v0_18 v0_37 v0_60) = v0_163)).2 ?_
        show Steps p.tables e below (T15.setTop (mkF m 204 #[.val (.int q0), .val (.int q1), .val (.long q2), .second, .val (.int q3), .val (.long q4), .second, .val (.int q5), .val (.int (own_fi q0)), .val (.int (own_fi q1)), .val (.long (own_fl q2)), .second, .val (.int v0_18), .val (.int v0_37), .val (.long v0_60), .second, .val (.ref b7), .val (.ref b9), .val (.int kd), .val (.int v0_163)] [])) _
        refine XS.aload X15.here hx rfl (hb hby at_204) rfl rfl ?_
        show Steps p.tables e below (T15.setTop (mkF m 206 #[.val (.int q0), .val (.int q1), .val (.long q2), .second, .val (.int q3), .val (.long q4), .second, .val (.int q5), .val (.int (own_fi q0)), .val (.int (own_fi q1)), .val (.long (own_fl q2)), .second, .val (.int v0_18), .val (.int v0_37), .val (.long v0_60), .second, .val (.ref b7), .val (.ref b9), .val (.int kd), .val (.int v0_163)] [(.ref b9)])) _
        refine XS.aload X15.here hx rfl (hb hby at_206) rfl rfl ?_
        show Steps p.tables e below (T15.setTop (mkF m 208 #[.val (.int q0), .val (.int q1), .val (.long q2), .second, .val (.int q3), .val (.long q4), .second, .val (.int q5), .val (.int (own_fi q0)), .val (.int (own_fi q1)), .val (.long (own_fl q2)), .second, .val (.int v0_18), .val (.int v0_37), .val (.long v0_60), .second, .val (.ref b7), .val (.ref b9), .val (.int kd), .val (.int v0_163)] [(.ref b7), (.ref b9)])) _
        refine st16.trans ?_
        show Steps p.tables e below (T16.setTop (mkF m 211 #[.val (.int q0), .val (.int q1), .val (.long q2), .second, .val (.int q3), .val (.long q4), .second, .val (.int q5), .val (.int (own_fi q0)), .val (.int (own_fi q1)), .val (.long (own_fl q2)), .second, .val (.int v0_18), .val (.int v0_37), .val (.long v0_60), .second, .val (.ref b7), .val (.ref b9), .val (.int kd), .val (.int v0_163)] [(.int (own_eq v0_18 v0_37 v0_60 (own_fi q0) (own_fi q1) (own_fl q2)))])) _
        refine XS.iload X16.here hx rfl (hb hby at_211) rfl ?_
        show Steps p.tables e below (T16.setTop (mkF m 213 #[.val (.int q0), .val (.int q1), .val (.long q2), .second, .val (.int q3), .val (.long q4), .second, .val (.int q5), .val (.int (own_fi q0)), .val (.int (own_fi q1)), .val (.long (own_fl q2)), .second, .val (.int v0_18), .val (.int v0_37), .val (.long v0_60), .second, .val (.ref b7), .val (.ref b9), .val (.int kd), .val (.int v0_163)] [(.int v0_163), (.int (own_eq v0_18 v0_37 v0_60 (own_fi q0) (own_fi q1) (own_fl q2)))])) _
        refine XS.icmpNo X16.here hx rfl (hb hby at_213) rfl (teq ((own_eq_symm _ _ _ _ _ _).trans (hv0_163.symm ▸ rfl) : (own_eq v0_18 v0_37 v0_60 (own_fi q0) (own_fi q1) (own_fl q2)) = v0_163)).2 ?_
        show Steps p.tables e below (T16.setTop (mkF m 216 #[.val (.int q0), .val (.int q1), .val (.long q2), .second, .val (.int q3), .val (.long q4), .second, .val (.int q5), .val (.int (own_fi q0)), .val (.int (own_fi q1)), .val (.long (own_fl q2)), .second, .val (.int v0_18), .val (.int v0_37), .val (.long v0_60), .second, .val (.ref b7), .val (.ref b9), .val (.int kd), .val (.int v0_163)] [])) _
        refine XS.aload X16.here hx rfl (hb hby at_216) rfl rfl ?_
        show Steps p.tables e below (T16.setTop (mkF m 218 #[.val (.int q0), .val (.int q1), .val (.long q2), .second, .val (.int q3), .val (.long q4), .second, .val (.int q5), .val (.int (own_fi q0)), .val (.int (own_fi q1)), .val (.long (own_fl q2)), .second, .val (.int v0_18), .val (.int v0_37), .val (.long v0_60), .second, .val (.ref b7), .val (.ref b9), .val (.int kd), .val (.int v0_163)] [(.ref b7)])) _
        refine XS.aload X16.here hx rfl (hb hby at_218) rfl rfl ?_
        show Steps p.tables e below (T16.setTop (mkF m 220 #[.val (.int q0), .val (.int q1), .val (.long q2), .second, .val (.int q3), .val (.long q4), .second, .val (.int q5), .val (.int (own_fi q0)), .val (.int (own_fi q1)), .val (.long (own_fl q2)), .second, .val (.int v0_18), .val (.int v0_37), .val (.long v0_60), .second, .val (.ref b7), .val (.ref b9), .val (.int kd), .val (.int v0_163)] [(.ref b7), (.ref b7)])) _
        refine st17.trans ?_
        show Steps p.tables e below (T17.setTop (mkF m 223 #[.val (.int q0), .val (.int q1), .val (.long q2), .second, .val (.int q3), .val (.long q4), .second, .val (.int q5), .val (.int (own_fi q0)), .val (.int (own_fi q1)), .val (.long (own_fl q2)), .second, .val (.int v0_18), .val (.int v0_37), .val (.long v0_60), .second, .val (.ref b7), .val (.ref b9), .val (.int kd), .val (.int v0_163)] [(.int (own_eq (own_fi q0) (own_fi q1) (own_fl q2) (own_fi q0) (own_fi q1) (own_fl q2)))])) _
        refine XS.ifNo X17.here hx rfl (hb hby at_223) rfl ((if0 _ _).trans (feq (own_eq_refl _ _ _)).1) ?_
        show Steps p.tables e below (T17.setTop (mkF m 226 #[.val (.int q0), .val (.int q1), .val (.long q2), .second, .val (.int q3), .val (.long q4), .second, .val (.int q5), .val (.int (own_fi q0)), .val (.int (own_fi q1)), .val (.long (own_fl q2)), .second, .val (.int v0_18), .val (.int v0_37), .val (.long v0_60), .second, .val (.ref b7), .val (.ref b9), .val (.int kd), .val (.int v0_163)] [])) _
        refine XS.iconst X17.here hx rfl (hb hby at_226) ?_
        show Steps p.tables e below (T17.setTop (mkF m 227 #[.val (.int q0), .val (.int q1), .val (.long q2), .second, .val (.int q3), .val (.long q4), .second, .val (.int q5), .val (.int (own_fi q0)), .val (.int (own_fi q1)), .val (.long (own_fl q2)), .second, .val (.int v0_18), .val (.int v0_37), .val (.long v0_60), .second, .val (.ref b7), .val (.ref b9), .val (.int kd), .val (.int v0_163)] [(.int (1 : Int32))])) _
        refine XS.goto X17.here hx rfl (pc0 := 227) (pc' := 231) rfl (hb hby at_227) (by decide) (by decide) ?_
        show Steps p.tables e below (T17.setTop (mkF m 231 #[.val (.int q0), .val (.int q1), .val (.long q2), .second, .val (.int q3), .val (.long q4), .second, .val (.int q5), .val (.int (own_fi q0)), .val (.int (own_fi q1)), .val (.long (own_fl q2)), .second, .val (.int v0_18), .val (.int v0_37), .val (.long v0_60), .second, .val (.ref b7), .val (.ref b9), .val (.int kd), .val (.int v0_163)] [(.int (1 : Int32))])) _
        exact retN X17 hx (t := .boolean) Bd.returns (by simp) (hb hby at_231) hr
      · show Q0 h0 n0 _ T17.heap _
        rw [e17]
        exact ⟨rfl, N17⟩
set_option maxRecDepth 65536 in
set_option maxHeartbeats 40000000 in
theorem comes_1 {Post : Tables → Env → Array Value → State → Outcome → State → Prop} (hpost : ∀ tb e args s v u, (limb_1_1.after args s (.returned v) u = true ∧ limb_1_2.after args s (.returned v) u = true ∧ True) → FrameEnd s (.returned v) u (Jvm.fieldLocs frame_1_writes args s ++ Jvm.arrayLocs frame_1_arrays args s ++ Jvm.staticLocs frame_1_statics s) 16 128 → Post tb e args s (.returned v) u) :
    ArmFor flags0 classFile x code maxLocals ret World_1 tables_1 room_1 Calls_1 rest_1 Pre_1 Post := by
  intro l hfl _ _ p e ha hc hk s m args below hf hA hF happ hP
  obtain ⟨hcalls, hrest, hpre⟩ := hP
  obtain ⟨-, -, -, hnamed, -, -, -, hat⟩ := (Spec.applies_iff hf).mp happ
  obtain ⟨hg, hn⟩ := and_e (Cond.before_iff.mp (show (Jvm.Cond.and given_1 narrow_1).before args s = true from hpre))
  obtain ⟨g1, g2⟩ := and_e hg
  obtain ⟨g3, g4⟩ := and_e g2
  obtain ⟨g5, g6⟩ := and_e g4
  obtain ⟨g7, g8⟩ := and_e g6
  obtain ⟨g9, g10⟩ := and_e g8
  obtain ⟨g11, g12⟩ := and_e g10
  obtain ⟨w0, w1, w2, w3, w4, w5, rfl⟩ : ∃ w0 w1 w2 w3 w4 w5 : Value, args = #[w0, w1, w2, w3, w4, w5] := by
    have hs : args.size = 6 := by simpa [Cond.value, given_1] using g1
    obtain ⟨L⟩ := args
    match L, hs with
    | [w0, w1, w2, w3, w4, w5], _ => exact ⟨w0, w1, w2, w3, w4, w5, rfl⟩
  have hw := fun d (hd : d ∈ tables_1) => atoms_spec (ws := Jvm.Cond.code x code maxLocals ret :: tables_1) hat d (List.mem_cons_of_mem _ hd)
  obtain ⟨i0, ei0⟩ := is_v g3
  obtain rfl : w0 = (.int i0) := Option.some.inj ei0
  obtain ⟨i1, ei1⟩ := is_v g5
  obtain rfl : w1 = (.int i1) := Option.some.inj ei1
  obtain ⟨i2, ei2⟩ := isL_v g7
  obtain rfl : w2 = (.long i2) := Option.some.inj ei2
  obtain ⟨i3, ei3⟩ := is_v g9
  obtain rfl : w3 = (.int i3) := Option.some.inj ei3
  obtain ⟨i4, ei4⟩ := isL_v g11
  obtain rfl : w4 = (.long i4) := Option.some.inj ei4
  obtain ⟨i5, ei5⟩ := is_v g12
  obtain rfl : w5 = (.int i5) := Option.some.inj ei5
  obtain ⟨hsets, hown0⟩ := atoms_of _ (rest_1_c_eq ▸ (show rest_1_c.before _ s = true from hrest))
  have hr0 := Cond.before_iff.mp hown0
  have hCC : own_cache s := own_cache_of (hsets _ (List.mem_of_getElem? (i := 0) rfl)) (hsets _ (List.mem_of_getElem? (i := 1) rfl)) (hsets _ (List.mem_of_getElem? (i := 2) rfl)) (hsets _ (List.mem_of_getElem? (i := 4) rfl)) (hsets _ (List.mem_of_getElem? (i := 5) rfl))
  obtain ⟨n, o, h1, h2, h3, _, L, rfl, ⟨rfl, N⟩, hq⟩ := rm0 l s _ hw tables_1 i0 i1 i2 i3 i4 i5 s.heap s.heap.size (Nat.le_refl _) (Old.start s) hCC p e ha hc hk s m _ below hf ((Spec.applies_iff_loose hf).mp happ).1 ⟨rfl, State.Warmed39.refl s, rfl⟩ trivial
  refine ⟨n, _, h1, h2, h3, hpost _ _ _ _ _ _ ⟨Cond.after_iff.mpr rfl, Cond.after_iff.mpr (eq_i res_at (Term.int_eval (1)) rfl), trivial⟩ ⟨hq.1, hq.2.1, (hq.2.2.sift fun y hy => Or.inr (N y hy)).mono (by decide) (by decide)⟩⟩
theorem main_1_1 : Claimed_1_1 := comes_1 fun _ _ _ _ _ _ h hF => ⟨h.1, hF⟩
theorem main_1_2 : Claimed_1_2 := comes_1 fun _ _ _ _ _ _ h hF => ⟨h.2.1, hF⟩

end Jvm.Pilot.@@N@@
namespace Jvm.Pilot.@@N@@
open Jvm Jvm.ClassFile Sem Op Lib Jvm.Free Jvm.Stand Jvm.Pilot.@@N@@.Jvm.D
/-! MADE BY PROGRAM (witnessworld.py) out of the Statement's table words and the real class files: 18 classes; the members and pool entries that the words name. The judged class is class 1, her method 3. -/
namespace start1
open Jvm.ClassFile
def u (s : String) : CpInfo := .utf8 (stringToUtf16 s)
/-- a pool by its gaps: so many unusable entries, then the entry; so many at the end -/
def gap : Nat → List CpInfo → List CpInfo
  | 0, r => r
  | n + 1, r => .unusable :: gap n r
def poolList (es : List (Nat × CpInfo)) (last : Nat) : List CpInfo := es.foldr (fun e r => gap e.1 (e.2 :: r)) (gap last [])
def pool (es : List (Nat × CpInfo)) (last : Nat) : Array CpInfo := ⟨poolList es last⟩
def fileOf (pool : Array CpInfo) (this : Nat) (attrs : Array Attribute := #[]) (ms : Array MethodInfo := #[]) (fl : Nat := 33) (sup : Nat := 0) (ifs : Array Nat := #[]) (fds : Array FieldInfo := #[]) : ClassFile where
  minorVersion := 0
  majorVersion := 65
  constantPool := pool
  accessFlags := fl
  thisClass := this
  superClass := sup
  interfaces := ifs
  fields := fds
  methods := ms
  attributes := attrs
def plain (name : String) (sup : Option ClassId) : Class where
  name := name
  kind := .ordinary
  loader := none
  accessFlags := 33
  super := sup
  interfaces := #[]
  cf := none
  fields := #[]
  methods := #[]
  instanceTypes := #[]
  staticTypes := #[]
  resolved := #[]
  callSites := []
  init := .initialized
  statics := none
  mirror := none

def pool0 : Array CpInfo := pool [(5, u "<init>"), (0, u "()V"), (1, .class_ 10), (1, u "java/lang/Object")] 113

def k0c0 : Code := { maxStack := 0, maxLocals := 1, code := object_method_1_code, exceptionTable := #[], attributes := #[] }
def k0m0 : Method := { name := "<init>", desc := "()V", sig := { parameters := [], returnType := none }, accessFlags := 1, code := some k0c0 }
/-- java/lang/Object -/
def k0 : Class := { plain "java/lang/Object" none with
  accessFlags := 33
  interfaces := #[]
  cf := some (fileOf pool0 8 #[] #[{ accessFlags := 1, nameIndex := 5, descriptorIndex := 6, attributes := #[] }] 33 0 #[] #[])
  fields := #[]
  methods := #[k0m0]
  instanceTypes := #[]
  staticTypes := #[]
  resolved := Array.replicate 124 none
  statics := none }

def pool1 : Array CpInfo := pool [(2, .class_ 4), (1, u "java/lang/Object"), (0, u "<init>"), (0, u "()V"), (2, .integer 2147483648), (0, .class_ 11), (0, u "java/lang/Long"), (0, .long 9223372036854775808), (1, .methodref 15 16), (0, .class_ 17), (0, .nameAndType 18 19), (0, u "com/example/tuplewise/tuplewise/value/TimeIntervalValueEqualsPinLaw"), (0, u "fixI"), (0, u "(I)I"), (0, .methodref 15 21), (0, .nameAndType 22 23), (0, u "fixL"), (0, u "(J)J"), (0, .class_ 25), (0, u "com/example/tuplewise/tuplewise/value/TimeIntervalValue"), (0, .methodref 24 27), (0, .nameAndType 5 28), (0, u "(IIJ)V"), (0, .methodref 24 30), (0, .nameAndType 31 32), (0, u "equals"), (0, u "(Ljava/lang/Object;)Z"), (0, .methodref 10 34), (0, .nameAndType 35 36), (0, u "valueOf"), (0, u "(J)Ljava/lang/Long;"), (3, u "law"), (0, u "(IIJIJI)Z")] 2

def k1m0 : Method := { name := "<init>", desc := "()V", sig := { parameters := [], returnType := none }, accessFlags := 1, code := none }
def k1c1 : Code := { maxStack := 2, maxLocals := 1, code := method_2_code, exceptionTable := #[], attributes := #[] }
def k1m1 : Method := { name := "fixI", desc := "(I)I", sig := { parameters := [.int], returnType := some .int }, accessFlags := 10, code := some k1c1 }
def k1c2 : Code := { maxStack := 4, maxLocals := 2, code := method_3_code, exceptionTable := #[], attributes := #[] }
def k1m2 : Method := { name := "fixL", desc := "(J)J", sig := { parameters := [.long], returnType := some .long }, accessFlags := 10, code := some k1c2 }
def k1c3 : Code := { maxStack := 6, maxLocals := 20, code := code, exceptionTable := #[], attributes := #[] }
def k1m3 : Method := { name := "law", desc := "(IIJIJI)Z", sig := { parameters := [.int, .int, .long, .int, .long, .int], returnType := some .boolean }, accessFlags := 9, code := some k1c3 }
/-- com/example/tuplewise/tuplewise/value/TimeIntervalValueEqualsPinLaw -/
def k1 : Class := { plain "com/example/tuplewise/tuplewise/value/TimeIntervalValueEqualsPinLaw" (some 0) with
  accessFlags := 49
  interfaces := #[]
  cf := some (fileOf pool1 15 #[] #[{ accessFlags := 1, nameIndex := 5, descriptorIndex := 6, attributes := #[] }, { accessFlags := 10, nameIndex := 18, descriptorIndex := 19, attributes := #[] }, { accessFlags := 10, nameIndex := 22, descriptorIndex := 23, attributes := #[] }, { accessFlags := 9, nameIndex := 40, descriptorIndex := 41, attributes := #[] }] 49 2 #[] #[])
  fields := #[]
  methods := #[k1m0, k1m1, k1m2, k1m3]
  instanceTypes := #[]
  staticTypes := #[]
  resolved := Array.replicate 44 none
  statics := none }

def pool2 : Array CpInfo := pool [(1, .methodref 2 3), (0, .class_ 4), (0, .nameAndType 5 6), (0, u "java/lang/Object"), (0, u "<init>"), (0, u "()V"), (0, .class_ 8), (0, u "java/lang/Record")] 13

def k2c0 : Code := { maxStack := 1, maxLocals := 1, code := jdk_30_method_1_code, exceptionTable := #[], attributes := #[] }
def k2m0 : Method := { name := "<init>", desc := "()V", sig := { parameters := [], returnType := none }, accessFlags := 4, code := some k2c0 }
/-- java/lang/Record -/
def k2 : Class := { plain "java/lang/Record" (some 0) with
  accessFlags := 1057
  interfaces := #[]
  cf := some (fileOf pool2 7 #[] #[{ accessFlags := 4, nameIndex := 5, descriptorIndex := 6, attributes := #[] }] 1057 2 #[] #[])
  fields := #[]
  methods := #[k2m0]
  instanceTypes := #[]
  staticTypes := #[]
  resolved := Array.replicate 22 none
  statics := none }

def pool3 : Array CpInfo := pool [(1, .class_ 2), (0, u "java/lang/Comparable"), (0, .class_ 4), (0, u "java/lang/Object")] 7

/-- java/lang/Comparable -/
def k3 : Class := { plain "java/lang/Comparable" (some 0) with
  accessFlags := 1537
  interfaces := #[]
  cf := some (fileOf pool3 1 #[] #[] 1537 3 #[] #[])
  fields := #[]
  methods := #[]
  instanceTypes := #[]
  staticTypes := #[]
  resolved := Array.replicate 12 none
  statics := none }

def pool4 : Array CpInfo := pool [(8, .class_ 10), (1, u "com/example/tuplewise/tuplewise/value/Value"), (58, .class_ 70), (0, u "java/lang/Object"), (0, .class_ 72), (0, u "java/lang/Comparable")] 27

/-- com/example/tuplewise/tuplewise/value/Value -/
def k4 : Class := { plain "com/example/tuplewise/tuplewise/value/Value" (some 0) with
  accessFlags := 1537
  interfaces := #[3]
  cf := some (fileOf pool4 8 #[] #[] 1537 69 #[71] #[])
  fields := #[]
  methods := #[]
  instanceTypes := #[]
  staticTypes := #[]
  resolved := Array.replicate 100 none
  statics := none }

def pool5 : Array CpInfo := pool [(1, .class_ 2), (0, u "com/example/tuplewise/tuplewise/value/TimeIntervalValue"), (0, .methodref 4 5), (0, .class_ 6), (0, .nameAndType 7 8), (0, u "java/lang/Record"), (0, u "<init>"), (0, u "()V"), (2, .integer 2147483648), (2, .long 9223372036854775808), (8, .fieldref 1 24), (0, .nameAndType 25 26), (0, u "months"), (0, u "I"), (0, .fieldref 1 28), (0, .nameAndType 29 26), (0, u "days"), (0, .fieldref 1 31), (0, .nameAndType 32 33), (0, u "micros"), (0, u "J"), (1, .class_ 36), (0, u "com/example/tuplewise/tuplewise/value/TimeIntervalValue$Unit"), (22, u "ZERO"), (11, u "Ljava/lang/String;"), (47, u "(IIJ)V"), (75, u "(Ljava/lang/Object;)Z"), (48, .class_ 246), (1, u "com/example/tuplewise/tuplewise/value/Value"), (50, u "Lcom/example/tuplewise/tuplewise/value/TimeIntervalValue;"), (0, u "SECOND_MICROS"), (1, u "MINUTE_MICROS"), (0, u "HOUR_MICROS"), (0, u "DAY_MICROS"), (0, u "DAYS_IN_A_MONTH"), (1, u "OUT_OF_RANGE"), (9, u "equals")] 36

def k5c0 : Code := { maxStack := 4, maxLocals := 5, code := prog_304_method_1_code, exceptionTable := #[], attributes := #[] }
def k5m0 : Method := { name := "<init>", desc := "(IIJ)V", sig := { parameters := [.int, .int, .long], returnType := none }, accessFlags := 1, code := some k5c0 }
def k5c1 : Code := { maxStack := 4, maxLocals := 3, code := prog_304_method_5_code, exceptionTable := #[], attributes := #[] }
def k5m1 : Method := { name := "equals", desc := "(Ljava/lang/Object;)Z", sig := { parameters := [(.object "java/lang/Object")], returnType := some .boolean }, accessFlags := 1, code := some k5c1 }
/-- com/example/tuplewise/tuplewise/value/TimeIntervalValue -/
def k5 : Class := { plain "com/example/tuplewise/tuplewise/value/TimeIntervalValue" (some 2) with
  accessFlags := 49
  interfaces := #[4]
  cf := some (fileOf pool5 1 #[.nestMembers #[35]] #[{ accessFlags := 1, nameIndex := 7, descriptorIndex := 119, attributes := #[] }, { accessFlags := 1, nameIndex := 315, descriptorIndex := 195, attributes := #[] }] 49 4 #[244] #[{ accessFlags := 18, nameIndex := 25, descriptorIndex := 26, attributes := #[] }, { accessFlags := 18, nameIndex := 29, descriptorIndex := 26, attributes := #[] }, { accessFlags := 18, nameIndex := 32, descriptorIndex := 33, attributes := #[] }, { accessFlags := 25, nameIndex := 59, descriptorIndex := 297, attributes := #[] }, { accessFlags := 26, nameIndex := 298, descriptorIndex := 33, attributes := #[] }, { accessFlags := 26, nameIndex := 300, descriptorIndex := 33, attributes := #[] }, { accessFlags := 26, nameIndex := 301, descriptorIndex := 33, attributes := #[] }, { accessFlags := 26, nameIndex := 302, descriptorIndex := 33, attributes := #[] }, { accessFlags := 26, nameIndex := 303, descriptorIndex := 26, attributes := #[] }, { accessFlags := 26, nameIndex := 305, descriptorIndex := 71, attributes := #[] }])
  fields := #[{ name := "months", type := .int, accessFlags := 18, slot := 0, constantValue := 0 }, { name := "days", type := .int, accessFlags := 18, slot := 1, constantValue := 0 }, { name := "micros", type := .long, accessFlags := 18, slot := 2, constantValue := 0 }, { name := "ZERO", type := (.object "com/example/tuplewise/tuplewise/value/TimeIntervalValue"), accessFlags := 25, slot := 0, constantValue := 0 }, { name := "SECOND_MICROS", type := .long, accessFlags := 26, slot := 1, constantValue := 0 }, { name := "MINUTE_MICROS", type := .long, accessFlags := 26, slot := 2, constantValue := 0 }, { name := "HOUR_MICROS", type := .long, accessFlags := 26, slot := 3, constantValue := 0 }, { name := "DAY_MICROS", type := .long, accessFlags := 26, slot := 4, constantValue := 0 }, { name := "DAYS_IN_A_MONTH", type := .int, accessFlags := 26, slot := 5, constantValue := 0 }, { name := "OUT_OF_RANGE", type := (.object "java/lang/String"), accessFlags := 26, slot := 6, constantValue := 0 }]
  methods := #[k5m0, k5m1]
  instanceTypes := #[.int, .int, .long]
  staticTypes := #[(.object "com/example/tuplewise/tuplewise/value/TimeIntervalValue"), .long, .long, .long, .long, .int, (.object "java/lang/String")]
  resolved := Array.replicate 352 none
  statics := none }

def pool6 : Array CpInfo := pool [(1, .class_ 2), (0, u "java/io/Serializable"), (0, .class_ 4), (0, u "java/lang/Object")] 2

/-- java/io/Serializable -/
def k6 : Class := { plain "java/io/Serializable" (some 0) with
  accessFlags := 1537
  interfaces := #[]
  cf := some (fileOf pool6 1 #[] #[] 1537 3 #[] #[])
  fields := #[]
  methods := #[]
  instanceTypes := #[]
  staticTypes := #[]
  resolved := Array.replicate 7 none
  statics := none }

def pool7 : Array CpInfo := pool [(1, .methodref 2 3), (0, .class_ 4), (0, .nameAndType 5 6), (0, u "java/lang/Object"), (0, u "<init>"), (0, u "()V"), (1, .class_ 10), (1, u "java/lang/Number"), (2, .class_ 14), (0, u "java/io/Serializable"), (0, u "serialVersionUID"), (0, u "J")] 20

def k7c0 : Code := { maxStack := 1, maxLocals := 1, code := jdk_18_method_1_code, exceptionTable := #[], attributes := #[] }
def k7m0 : Method := { name := "<init>", desc := "()V", sig := { parameters := [], returnType := none }, accessFlags := 1, code := some k7c0 }
/-- java/lang/Number -/
def k7 : Class := { plain "java/lang/Number" (some 0) with
  accessFlags := 1057
  interfaces := #[6]
  cf := some (fileOf pool7 8 #[] #[{ accessFlags := 1, nameIndex := 5, descriptorIndex := 6, attributes := #[] }] 1057 2 #[13] #[{ accessFlags := 26, nameIndex := 15, descriptorIndex := 16, attributes := #[] }])
  fields := #[{ name := "serialVersionUID", type := .long, accessFlags := 26, slot := 0, constantValue := 0 }]
  methods := #[k7m0]
  instanceTypes := #[]
  staticTypes := #[.long]
  resolved := Array.replicate 37 none
  statics := none }

def pool8 : Array CpInfo := pool [(1, .class_ 2), (0, u "java/lang/constant/Constable"), (0, .class_ 4), (0, u "java/lang/Object")] 6

/-- java/lang/constant/Constable -/
def k8 : Class := { plain "java/lang/constant/Constable" (some 0) with
  accessFlags := 1537
  interfaces := #[]
  cf := some (fileOf pool8 1 #[] #[] 1537 3 #[] #[])
  fields := #[]
  methods := #[]
  instanceTypes := #[]
  staticTypes := #[]
  resolved := Array.replicate 11 none
  statics := none }

def pool9 : Array CpInfo := pool [(1, .class_ 2), (0, u "java/lang/constant/ConstantDesc"), (0, .class_ 4), (0, u "java/lang/Object")] 32

/-- java/lang/constant/ConstantDesc -/
def k9 : Class := { plain "java/lang/constant/ConstantDesc" (some 0) with
  accessFlags := 1537
  interfaces := #[]
  cf := some (fileOf pool9 1 #[] #[] 1537 3 #[] #[])
  fields := #[]
  methods := #[]
  instanceTypes := #[]
  staticTypes := #[]
  resolved := Array.replicate 37 none
  statics := none }

def pool10 : Array CpInfo := pool [(1, .class_ 2), (0, u "java/lang/Long"), (55, .nameAndType 59 60), (0, u "<init>"), (0, u "()V"), (24, u "valueOf"), (143, u "(J)Ljava/lang/Long;"), (0, .long 18446744073709551488), (1, .long 127), (1, .fieldref 235 236), (0, .class_ 237), (0, .nameAndType 238 239), (0, u "java/lang/Long$LongCache"), (0, u "cache"), (0, u "[Ljava/lang/Long;"), (0, .methodref 1 241), (0, .nameAndType 59 242), (0, u "(J)V"), (27, .methodref 271 58), (0, .class_ 272), (0, u "java/lang/Number"), (0, .fieldref 1 274), (0, .nameAndType 275 276), (0, u "value"), (0, u "J"), (84, u "TYPE"), (0, u "Ljava/lang/Class;"), (0, .class_ 364), (0, u "java/lang/Comparable"), (0, .class_ 366), (0, u "java/lang/constant/Constable"), (0, .class_ 368), (0, u "java/lang/constant/ConstantDesc"), (0, u "MIN_VALUE"), (1, u "MAX_VALUE"), (4, u "SIZE"), (0, u "I"), (1, u "BYTES"), (1, u "serialVersionUID")] 142

def k10c0 : Code := { maxStack := 4, maxLocals := 3, code := jdk_35_method_24_code, exceptionTable := #[], attributes := #[] }
def k10m0 : Method := { name := "valueOf", desc := "(J)Ljava/lang/Long;", sig := { parameters := [.long], returnType := some (.object "java/lang/Long") }, accessFlags := 9, code := some k10c0 }
def k10c1 : Code := { maxStack := 3, maxLocals := 3, code := jdk_35_method_26_code, exceptionTable := #[], attributes := #[] }
def k10m1 : Method := { name := "<init>", desc := "(J)V", sig := { parameters := [.long], returnType := none }, accessFlags := 1, code := some k10c1 }
/-- java/lang/Long -/
def k10 : Class := { plain "java/lang/Long" (some 7) with
  accessFlags := 49
  interfaces := #[3, 8, 9]
  cf := some (fileOf pool10 1 #[.nestMembers #[235]] #[{ accessFlags := 9, nameIndex := 85, descriptorIndex := 229, attributes := #[] }, { accessFlags := 1, nameIndex := 59, descriptorIndex := 242, attributes := #[] }] 49 271 #[363, 365, 367] #[{ accessFlags := 25, nameIndex := 369, descriptorIndex := 276, attributes := #[] }, { accessFlags := 25, nameIndex := 371, descriptorIndex := 276, attributes := #[] }, { accessFlags := 25, nameIndex := 361, descriptorIndex := 362, attributes := #[] }, { accessFlags := 18, nameIndex := 275, descriptorIndex := 276, attributes := #[] }, { accessFlags := 25, nameIndex := 376, descriptorIndex := 377, attributes := #[] }, { accessFlags := 25, nameIndex := 379, descriptorIndex := 377, attributes := #[] }, { accessFlags := 26, nameIndex := 381, descriptorIndex := 276, attributes := #[] }])
  fields := #[{ name := "MIN_VALUE", type := .long, accessFlags := 25, slot := 0, constantValue := 0 }, { name := "MAX_VALUE", type := .long, accessFlags := 25, slot := 1, constantValue := 0 }, { name := "TYPE", type := (.object "java/lang/Class"), accessFlags := 25, slot := 2, constantValue := 0 }, { name := "value", type := .long, accessFlags := 18, slot := 0, constantValue := 0 }, { name := "SIZE", type := .int, accessFlags := 25, slot := 3, constantValue := 0 }, { name := "BYTES", type := .int, accessFlags := 25, slot := 4, constantValue := 0 }, { name := "serialVersionUID", type := .long, accessFlags := 26, slot := 5, constantValue := 0 }]
  methods := #[k10m0, k10m1]
  instanceTypes := #[.long]
  staticTypes := #[.long, .long, (.object "java/lang/Class"), .int, .int, .long]
  resolved := Array.replicate 524 none
  statics := none }

def pool11 : Array CpInfo := pool [(2, .class_ 4), (1, u "java/lang/Object"), (0, u "<init>"), (0, u "()V"), (0, .class_ 8), (0, u "java/lang/Long"), (7, .class_ 18), (1, u "java/lang/Long$LongCache"), (0, u "$assertionsDisabled"), (0, u "Z"), (8, u "archivedCache"), (0, u "[Ljava/lang/Long;"), (7, u "cache")] 24

def k11m0 : Method := { name := "<init>", desc := "()V", sig := { parameters := [], returnType := none }, accessFlags := 2, code := none }
/-- java/lang/Long$LongCache -/
def k11 : Class := { plain "java/lang/Long$LongCache" (some 0) with
  accessFlags := 48
  interfaces := #[]
  cf := some (fileOf pool11 16 #[.nestHost 7] #[{ accessFlags := 2, nameIndex := 5, descriptorIndex := 6, attributes := #[] }] 48 2 #[] #[{ accessFlags := 24, nameIndex := 38, descriptorIndex := 30, attributes := #[] }, { accessFlags := 8, nameIndex := 29, descriptorIndex := 30, attributes := #[] }, { accessFlags := 4120, nameIndex := 19, descriptorIndex := 20, attributes := #[] }])
  fields := #[{ name := "cache", type := (.array (.object "java/lang/Long")), accessFlags := 24, slot := 0, constantValue := 0 }, { name := "archivedCache", type := (.array (.object "java/lang/Long")), accessFlags := 8, slot := 1, constantValue := 0 }, { name := "$assertionsDisabled", type := .boolean, accessFlags := 4120, slot := 2, constantValue := 0 }]
  methods := #[k11m0]
  instanceTypes := #[]
  staticTypes := #[(.array (.object "java/lang/Long")), (.array (.object "java/lang/Long")), .boolean]
  resolved := Array.replicate 63 none
  statics := some 0 }

def pool12 : Array CpInfo := pool [(1, u "java/lang/Cloneable"), (0, .class_ 1), (0, u "java/lang/Object"), (0, .class_ 3)] 3

/-- java/lang/Cloneable -/
def k12 : Class := { plain "java/lang/Cloneable" (some 0) with
  accessFlags := 1537
  interfaces := #[]
  cf := some (fileOf pool12 2 #[] #[] 1537 4 #[] #[])
  fields := #[]
  methods := #[]
  instanceTypes := #[]
  staticTypes := #[]
  resolved := Array.replicate 8 none
  statics := none }

/-- the primitive byte -/
def k13 : Class := { plain "byte" none with kind := .primitive 'B', accessFlags := 0x411 }
/-- [B -/
def k14 : Class := { plain "[B" (some 0) with kind := .array 13 .byte, interfaces := #[12, 6], accessFlags := 1041 }

/-- the primitive int -/
def k15 : Class := { plain "int" none with kind := .primitive 'I', accessFlags := 0x411 }
/-- [I -/
def k16 : Class := { plain "[I" (some 0) with kind := .array 15 .int, interfaces := #[12, 6], accessFlags := 1041 }

/-- [Ljava/lang/Long; -/
def k17 : Class := { plain "[Ljava/lang/Long;" (some 0) with kind := .array 10 (.object "java/lang/Long"), interfaces := #[12, 6], accessFlags := 1041 }

def heap : Heap := #[{ cls := 11, slots := #[.ref 1, .null, .int 0], vm := .statics 11 },
  { cls := 17, slots := #[.ref 2, .ref 3, .ref 4, .ref 5, .ref 6, .ref 7, .ref 8, .ref 9, .ref 10, .ref 11, .ref 12, .ref 13, .ref 14, .ref 15, .ref 16, .ref 17, .ref 18, .ref 19, .ref 20, .ref 21, .ref 22, .ref 23, .ref 24, .ref 25, .ref 26, .ref 27, .ref 28, .ref 29, .ref 30, .ref 31, .ref 32, .ref 33, .ref 34, .ref 35, .ref 36, .ref 37, .ref 38, .ref 39, .ref 40, .ref 41, .ref 42, .ref 43, .ref 44, .ref 45, .ref 46, .ref 47, .ref 48, .ref 49, .ref 50, .ref 51, .ref 52, .ref 53, .ref 54, .ref 55, .ref 56, .ref 57, .ref 58, .ref 59, .ref 60, .ref 61, .ref 62, .ref 63, .ref 64, .ref 65, .ref 66, .ref 67, .ref 68, .ref 69, .ref 70, .ref 71, .ref 72, .ref 73, .ref 74, .ref 75, .ref 76, .ref 77, .ref 78, .ref 79, .ref 80, .ref 81, .ref 82, .ref 83, .ref 84, .ref 85, .ref 86, .ref 87, .ref 88, .ref 89, .ref 90, .ref 91, .ref 92, .ref 93, .ref 94, .ref 95, .ref 96, .ref 97, .ref 98, .ref 99, .ref 100, .ref 101, .ref 102, .ref 103, .ref 104, .ref 105, .ref 106, .ref 107, .ref 108, .ref 109, .ref 110, .ref 111, .ref 112, .ref 113, .ref 114, .ref 115, .ref 116, .ref 117, .ref 118, .ref 119, .ref 120, .ref 121, .ref 122, .ref 123, .ref 124, .ref 125, .ref 126, .ref 127, .ref 128, .ref 129, .ref 130, .ref 131, .ref 132, .ref 133, .ref 134, .ref 135, .ref 136, .ref 137, .ref 138, .ref 139, .ref 140, .ref 141, .ref 142, .ref 143, .ref 144, .ref 145, .ref 146, .ref 147, .ref 148, .ref 149, .ref 150, .ref 151, .ref 152, .ref 153, .ref 154, .ref 155, .ref 156, .ref 157, .ref 158, .ref 159, .ref 160, .ref 161, .ref 162, .ref 163, .ref 164, .ref 165, .ref 166, .ref 167, .ref 168, .ref 169, .ref 170, .ref 171, .ref 172, .ref 173, .ref 174, .ref 175, .ref 176, .ref 177, .ref 178, .ref 179, .ref 180, .ref 181, .ref 182, .ref 183, .ref 184, .ref 185, .ref 186, .ref 187, .ref 188, .ref 189, .ref 190, .ref 191, .ref 192, .ref 193, .ref 194, .ref 195, .ref 196, .ref 197, .ref 198, .ref 199, .ref 200, .ref 201, .ref 202, .ref 203, .ref 204, .ref 205, .ref 206, .ref 207, .ref 208, .ref 209, .ref 210, .ref 211, .ref 212, .ref 213, .ref 214, .ref 215, .ref 216, .ref 217, .ref 218, .ref 219, .ref 220, .ref 221, .ref 222, .ref 223, .ref 224, .ref 225, .ref 226, .ref 227, .ref 228, .ref 229, .ref 230, .ref 231, .ref 232, .ref 233, .ref 234, .ref 235, .ref 236, .ref 237, .ref 238, .ref 239, .ref 240, .ref 241, .ref 242, .ref 243, .ref 244, .ref 245, .ref 246, .ref 247, .ref 248, .ref 249, .ref 250, .ref 251, .ref 252, .ref 253, .ref 254, .ref 255, .ref 256, .ref 257], vm := .none },
  { cls := 10, slots := #[.long (-128)], vm := .none },
  { cls := 10, slots := #[.long (-127)], vm := .none },
  { cls := 10, slots := #[.long (-126)], vm := .none },
  { cls := 10, slots := #[.long (-125)], vm := .none },
  { cls := 10, slots := #[.long (-124)], vm := .none },
  { cls := 10, slots := #[.long (-123)], vm := .none },
  { cls := 10, slots := #[.long (-122)], vm := .none },
  { cls := 10, slots := #[.long (-121)], vm := .none },
  { cls := 10, slots := #[.long (-120)], vm := .none },
  { cls := 10, slots := #[.long (-119)], vm := .none },
  { cls := 10, slots := #[.long (-118)], vm := .none },
  { cls := 10, slots := #[.long (-117)], vm := .none },
  { cls := 10, slots := #[.long (-116)], vm := .none },
  { cls := 10, slots := #[.long (-115)], vm := .none },
  { cls := 10, slots := #[.long (-114)], vm := .none },
  { cls := 10, slots := #[.long (-113)], vm := .none },
  { cls := 10, slots := #[.long (-112)], vm := .none },
  { cls := 10, slots := #[.long (-111)], vm := .none },
  { cls := 10, slots := #[.long (-110)], vm := .none },
  { cls := 10, slots := #[.long (-109)], vm := .none },
  { cls := 10, slots := #[.long (-108)], vm := .none },
  { cls := 10, slots := #[.long (-107)], vm := .none },
  { cls := 10, slots := #[.long (-106)], vm := .none },
  { cls := 10, slots := #[.long (-105)], vm := .none },
  { cls := 10, slots := #[.long (-104)], vm := .none },
  { cls := 10, slots := #[.long (-103)], vm := .none },
  { cls := 10, slots := #[.long (-102)], vm := .none },
  { cls := 10, slots := #[.long (-101)], vm := .none },
  { cls := 10, slots := #[.long (-100)], vm := .none },
  { cls := 10, slots := #[.long (-99)], vm := .none },
  { cls := 10, slots := #[.long (-98)], vm := .none },
  { cls := 10, slots := #[.long (-97)], vm := .none },
  { cls := 10, slots := #[.long (-96)], vm := .none },
  { cls := 10, slots := #[.long (-95)], vm := .none },
  { cls := 10, slots := #[.long (-94)], vm := .none },
  { cls := 10, slots := #[.long (-93)], vm := .none },
  { cls := 10, slots := #[.long (-92)], vm := .none },
  { cls := 10, slots := #[.long (-91)], vm := .none },
  { cls := 10, slots := #[.long (-90)], vm := .none },
  { cls := 10, slots := #[.long (-89)], vm := .none },
  { cls := 10, slots := #[.long (-88)], vm := .none },
  { cls := 10, slots := #[.long (-87)], vm := .none },
  { cls := 10, slots := #[.long (-86)], vm := .none },
  { cls := 10, slots := #[.long (-85)], vm := .none },
  { cls := 10, slots := #[.long (-84)], vm := .none },
  { cls := 10, slots := #[.long (-83)], vm := .none },
  { cls := 10, slots := #[.long (-82)], vm := .none },
  { cls := 10, slots := #[.long (-81)], vm := .none },
  { cls := 10, slots := #[.long (-80)], vm := .none },
  { cls := 10, slots := #[.long (-79)], vm := .none },
  { cls := 10, slots := #[.long (-78)], vm := .none },
  { cls := 10, slots := #[.long (-77)], vm := .none },
  { cls := 10, slots := #[.long (-76)], vm := .none },
  { cls := 10, slots := #[.long (-75)], vm := .none },
  { cls := 10, slots := #[.long (-74)], vm := .none },
  { cls := 10, slots := #[.long (-73)], vm := .none },
  { cls := 10, slots := #[.long (-72)], vm := .none },
  { cls := 10, slots := #[.long (-71)], vm := .none },
  { cls := 10, slots := #[.long (-70)], vm := .none },
  { cls := 10, slots := #[.long (-69)], vm := .none },
  { cls := 10, slots := #[.long (-68)], vm := .none },
  { cls := 10, slots := #[.long (-67)], vm := .none },
  { cls := 10, slots := #[.long (-66)], vm := .none },
  { cls := 10, slots := #[.long (-65)], vm := .none },
  { cls := 10, slots := #[.long (-64)], vm := .none },
  { cls := 10, slots := #[.long (-63)], vm := .none },
  { cls := 10, slots := #[.long (-62)], vm := .none },
  { cls := 10, slots := #[.long (-61)], vm := .none },
  { cls := 10, slots := #[.long (-60)], vm := .none },
  { cls := 10, slots := #[.long (-59)], vm := .none },
  { cls := 10, slots := #[.long (-58)], vm := .none },
  { cls := 10, slots := #[.long (-57)], vm := .none },
  { cls := 10, slots := #[.long (-56)], vm := .none },
  { cls := 10, slots := #[.long (-55)], vm := .none },
  { cls := 10, slots := #[.long (-54)], vm := .none },
  { cls := 10, slots := #[.long (-53)], vm := .none },
  { cls := 10, slots := #[.long (-52)], vm := .none },
  { cls := 10, slots := #[.long (-51)], vm := .none },
  { cls := 10, slots := #[.long (-50)], vm := .none },
  { cls := 10, slots := #[.long (-49)], vm := .none },
  { cls := 10, slots := #[.long (-48)], vm := .none },
  { cls := 10, slots := #[.long (-47)], vm := .none },
  { cls := 10, slots := #[.long (-46)], vm := .none },
  { cls := 10, slots := #[.long (-45)], vm := .none },
  { cls := 10, slots := #[.long (-44)], vm := .none },
  { cls := 10, slots := #[.long (-43)], vm := .none },
  { cls := 10, slots := #[.long (-42)], vm := .none },
  { cls := 10, slots := #[.long (-41)], vm := .none },
  { cls := 10, slots := #[.long (-40)], vm := .none },
  { cls := 10, slots := #[.long (-39)], vm := .none },
  { cls := 10, slots := #[.long (-38)], vm := .none },
  { cls := 10, slots := #[.long (-37)], vm := .none },
  { cls := 10, slots := #[.long (-36)], vm := .none },
  { cls := 10, slots := #[.long (-35)], vm := .none },
  { cls := 10, slots := #[.long (-34)], vm := .none },
  { cls := 10, slots := #[.long (-33)], vm := .none },
  { cls := 10, slots := #[.long (-32)], vm := .none },
  { cls := 10, slots := #[.long (-31)], vm := .none },
  { cls := 10, slots := #[.long (-30)], vm := .none },
  { cls := 10, slots := #[.long (-29)], vm := .none },
  { cls := 10, slots := #[.long (-28)], vm := .none },
  { cls := 10, slots := #[.long (-27)], vm := .none },
  { cls := 10, slots := #[.long (-26)], vm := .none },
  { cls := 10, slots := #[.long (-25)], vm := .none },
  { cls := 10, slots := #[.long (-24)], vm := .none },
  { cls := 10, slots := #[.long (-23)], vm := .none },
  { cls := 10, slots := #[.long (-22)], vm := .none },
  { cls := 10, slots := #[.long (-21)], vm := .none },
  { cls := 10, slots := #[.long (-20)], vm := .none },
  { cls := 10, slots := #[.long (-19)], vm := .none },
  { cls := 10, slots := #[.long (-18)], vm := .none },
  { cls := 10, slots := #[.long (-17)], vm := .none },
  { cls := 10, slots := #[.long (-16)], vm := .none },
  { cls := 10, slots := #[.long (-15)], vm := .none },
  { cls := 10, slots := #[.long (-14)], vm := .none },
  { cls := 10, slots := #[.long (-13)], vm := .none },
  { cls := 10, slots := #[.long (-12)], vm := .none },
  { cls := 10, slots := #[.long (-11)], vm := .none },
  { cls := 10, slots := #[.long (-10)], vm := .none },
  { cls := 10, slots := #[.long (-9)], vm := .none },
  { cls := 10, slots := #[.long (-8)], vm := .none },
  { cls := 10, slots := #[.long (-7)], vm := .none },
  { cls := 10, slots := #[.long (-6)], vm := .none },
  { cls := 10, slots := #[.long (-5)], vm := .none },
  { cls := 10, slots := #[.long (-4)], vm := .none },
  { cls := 10, slots := #[.long (-3)], vm := .none },
  { cls := 10, slots := #[.long (-2)], vm := .none },
  { cls := 10, slots := #[.long (-1)], vm := .none },
  { cls := 10, slots := #[.long (0)], vm := .none },
  { cls := 10, slots := #[.long (1)], vm := .none },
  { cls := 10, slots := #[.long (2)], vm := .none },
  { cls := 10, slots := #[.long (3)], vm := .none },
  { cls := 10, slots := #[.long (4)], vm := .none },
  { cls := 10, slots := #[.long (5)], vm := .none },
  { cls := 10, slots := #[.long (6)], vm := .none },
  { cls := 10, slots := #[.long (7)], vm := .none },
  { cls := 10, slots := #[.long (8)], vm := .none },
  { cls := 10, slots := #[.long (9)], vm := .none },
  { cls := 10, slots := #[.long (10)], vm := .none },
  { cls := 10, slots := #[.long (11)], vm := .none },
  { cls := 10, slots := #[.long (12)], vm := .none },
  { cls := 10, slots := #[.long (13)], vm := .none },
  { cls := 10, slots := #[.long (14)], vm := .none },
  { cls := 10, slots := #[.long (15)], vm := .none },
  { cls := 10, slots := #[.long (16)], vm := .none },
  { cls := 10, slots := #[.long (17)], vm := .none },
  { cls := 10, slots := #[.long (18)], vm := .none },
  { cls := 10, slots := #[.long (19)], vm := .none },
  { cls := 10, slots := #[.long (20)], vm := .none },
  { cls := 10, slots := #[.long (21)], vm := .none },
  { cls := 10, slots := #[.long (22)], vm := .none },
  { cls := 10, slots := #[.long (23)], vm := .none },
  { cls := 10, slots := #[.long (24)], vm := .none },
  { cls := 10, slots := #[.long (25)], vm := .none },
  { cls := 10, slots := #[.long (26)], vm := .none },
  { cls := 10, slots := #[.long (27)], vm := .none },
  { cls := 10, slots := #[.long (28)], vm := .none },
  { cls := 10, slots := #[.long (29)], vm := .none },
  { cls := 10, slots := #[.long (30)], vm := .none },
  { cls := 10, slots := #[.long (31)], vm := .none },
  { cls := 10, slots := #[.long (32)], vm := .none },
  { cls := 10, slots := #[.long (33)], vm := .none },
  { cls := 10, slots := #[.long (34)], vm := .none },
  { cls := 10, slots := #[.long (35)], vm := .none },
  { cls := 10, slots := #[.long (36)], vm := .none },
  { cls := 10, slots := #[.long (37)], vm := .none },
  { cls := 10, slots := #[.long (38)], vm := .none },
  { cls := 10, slots := #[.long (39)], vm := .none },
  { cls := 10, slots := #[.long (40)], vm := .none },
  { cls := 10, slots := #[.long (41)], vm := .none },
  { cls := 10, slots := #[.long (42)], vm := .none },
  { cls := 10, slots := #[.long (43)], vm := .none },
  { cls := 10, slots := #[.long (44)], vm := .none },
  { cls := 10, slots := #[.long (45)], vm := .none },
  { cls := 10, slots := #[.long (46)], vm := .none },
  { cls := 10, slots := #[.long (47)], vm := .none },
  { cls := 10, slots := #[.long (48)], vm := .none },
  { cls := 10, slots := #[.long (49)], vm := .none },
  { cls := 10, slots := #[.long (50)], vm := .none },
  { cls := 10, slots := #[.long (51)], vm := .none },
  { cls := 10, slots := #[.long (52)], vm := .none },
  { cls := 10, slots := #[.long (53)], vm := .none },
  { cls := 10, slots := #[.long (54)], vm := .none },
  { cls := 10, slots := #[.long (55)], vm := .none },
  { cls := 10, slots := #[.long (56)], vm := .none },
  { cls := 10, slots := #[.long (57)], vm := .none },
  { cls := 10, slots := #[.long (58)], vm := .none },
  { cls := 10, slots := #[.long (59)], vm := .none },
  { cls := 10, slots := #[.long (60)], vm := .none },
  { cls := 10, slots := #[.long (61)], vm := .none },
  { cls := 10, slots := #[.long (62)], vm := .none },
  { cls := 10, slots := #[.long (63)], vm := .none },
  { cls := 10, slots := #[.long (64)], vm := .none },
  { cls := 10, slots := #[.long (65)], vm := .none },
  { cls := 10, slots := #[.long (66)], vm := .none },
  { cls := 10, slots := #[.long (67)], vm := .none },
  { cls := 10, slots := #[.long (68)], vm := .none },
  { cls := 10, slots := #[.long (69)], vm := .none },
  { cls := 10, slots := #[.long (70)], vm := .none },
  { cls := 10, slots := #[.long (71)], vm := .none },
  { cls := 10, slots := #[.long (72)], vm := .none },
  { cls := 10, slots := #[.long (73)], vm := .none },
  { cls := 10, slots := #[.long (74)], vm := .none },
  { cls := 10, slots := #[.long (75)], vm := .none },
  { cls := 10, slots := #[.long (76)], vm := .none },
  { cls := 10, slots := #[.long (77)], vm := .none },
  { cls := 10, slots := #[.long (78)], vm := .none },
  { cls := 10, slots := #[.long (79)], vm := .none },
  { cls := 10, slots := #[.long (80)], vm := .none },
  { cls := 10, slots := #[.long (81)], vm := .none },
  { cls := 10, slots := #[.long (82)], vm := .none },
  { cls := 10, slots := #[.long (83)], vm := .none },
  { cls := 10, slots := #[.long (84)], vm := .none },
  { cls := 10, slots := #[.long (85)], vm := .none },
  { cls := 10, slots := #[.long (86)], vm := .none },
  { cls := 10, slots := #[.long (87)], vm := .none },
  { cls := 10, slots := #[.long (88)], vm := .none },
  { cls := 10, slots := #[.long (89)], vm := .none },
  { cls := 10, slots := #[.long (90)], vm := .none },
  { cls := 10, slots := #[.long (91)], vm := .none },
  { cls := 10, slots := #[.long (92)], vm := .none },
  { cls := 10, slots := #[.long (93)], vm := .none },
  { cls := 10, slots := #[.long (94)], vm := .none },
  { cls := 10, slots := #[.long (95)], vm := .none },
  { cls := 10, slots := #[.long (96)], vm := .none },
  { cls := 10, slots := #[.long (97)], vm := .none },
  { cls := 10, slots := #[.long (98)], vm := .none },
  { cls := 10, slots := #[.long (99)], vm := .none },
  { cls := 10, slots := #[.long (100)], vm := .none },
  { cls := 10, slots := #[.long (101)], vm := .none },
  { cls := 10, slots := #[.long (102)], vm := .none },
  { cls := 10, slots := #[.long (103)], vm := .none },
  { cls := 10, slots := #[.long (104)], vm := .none },
  { cls := 10, slots := #[.long (105)], vm := .none },
  { cls := 10, slots := #[.long (106)], vm := .none },
  { cls := 10, slots := #[.long (107)], vm := .none },
  { cls := 10, slots := #[.long (108)], vm := .none },
  { cls := 10, slots := #[.long (109)], vm := .none },
  { cls := 10, slots := #[.long (110)], vm := .none },
  { cls := 10, slots := #[.long (111)], vm := .none },
  { cls := 10, slots := #[.long (112)], vm := .none },
  { cls := 10, slots := #[.long (113)], vm := .none },
  { cls := 10, slots := #[.long (114)], vm := .none },
  { cls := 10, slots := #[.long (115)], vm := .none },
  { cls := 10, slots := #[.long (116)], vm := .none },
  { cls := 10, slots := #[.long (117)], vm := .none },
  { cls := 10, slots := #[.long (118)], vm := .none },
  { cls := 10, slots := #[.long (119)], vm := .none },
  { cls := 10, slots := #[.long (120)], vm := .none },
  { cls := 10, slots := #[.long (121)], vm := .none },
  { cls := 10, slots := #[.long (122)], vm := .none },
  { cls := 10, slots := #[.long (123)], vm := .none },
  { cls := 10, slots := #[.long (124)], vm := .none },
  { cls := 10, slots := #[.long (125)], vm := .none },
  { cls := 10, slots := #[.long (126)], vm := .none },
  { cls := 10, slots := #[.long (127)], vm := .none }]
def classes : Array Class := #[k0, k1, k2, k3, k4, k5, k6, k7, k8, k9, k10, k11, k12, k13, k14, k15, k16, k17]
def interned : List (Array UInt16 × Addr) := []
def slotsUsed : Nat := 515
def theMethod : MethodId := ⟨1, 3⟩
def args0 : Array Value := #[.int 5, .int 7, .long 1, .int 2, .long 3, .int 1]
def aboutOver (below : List Frame) : State where
  vm := { classes := classes, interned := interned.toArray }
  heap := heap
  slotsUsed := slotsUsed
  threads := #[{ frames := .invoking theMethod args0 :: below }]
def below0 : List Frame := [.native { method := ⟨0, 0⟩, args := #[] }]
def about1 : State := aboutOver below0
def p0 : Program := .bare "" "" ""
def e0 : Env := launch0.env 0 0 0
theorem w_frames : about1.frames = Frame.invoking theMethod args0 :: below0 := rfl
set_option maxRecDepth 65536 in
theorem w_args : argsFit about1.vm theMethod args0 = true := by decide +kernel
set_option maxRecDepth 65536 in
theorem w_heap : heapFits about1 = true := by decide +kernel
set_option maxRecDepth 65536 in
theorem w_runnable : about1.curStatus? = some .runnable := by decide +kernel
set_option maxRecDepth 65536 in
theorem w_alone : about1.alone = true := by decide +kernel
set_option maxRecDepth 65536 in
theorem w_named : about1.methodNamed? x = some theMethod := by decide +kernel
set_option maxRecDepth 65536 in
theorem w_hears : about1.hears theMethod below0 = true := by decide +kernel
set_option maxRecDepth 65536 in
theorem w_ripe : about1.ripe theMethod args0 below0 = true := by decide +kernel
theorem w_running : about1.status = .running := rfl
set_option maxRecDepth 65536 in
theorem w_room : about1.hasRoom e0.platform room_1 = true :=
  launch0.hasRoom_least _ room_1 (by decide +kernel) (by decide +kernel) (by decide +kernel) (by decide +kernel) (by decide +kernel) (by decide +kernel)
theorem allAtoms_all (ts : List Jvm.Cond) (a : Array Jvm.Value) (st : Jvm.State) : (allAtoms ts).before a st = ts.all (fun c => c.before a st) := by
  induction ts with
  | nil => rfl
  | cons c t ih =>
    show (Jvm.Cond.and c (allAtoms t)).before a st = _
    rw [Jvm.Cond.before_and, ih, List.all_cons]
def words1 : List Jvm.Cond := Jvm.Cond.code x code maxLocals ret :: tables_1
/-- a 'code' word, met by the world's own term for the bytes: nothing is compared byte by byte -/
theorem code_word {y : MethodName} {bytes : ByteArray} {mx : Nat} {rt : Option FieldType} {a : Array Value} {s : State} {m : MethodId} {meth : Method} {c : Code} (h1 : s.methodNamed? y = some m) (h2 : s.vm.method? m = some meth) (h3 : meth.code = some c) (h4 : c.code = bytes)
    (h5 : (c.maxLocals == mx && c.exceptionTable.isEmpty && decide (c.maxStack ≤ mostOperands) && decide (meth.sig.returnType = rt) && !meth.locks && decide (parseMethodDescriptor y.desc = some meth.sig)) = true) : (Jvm.Cond.code y bytes mx rt).before a s = true := by
  simp only [Bool.and_eq_true, beq_iff_eq, Bool.not_eq_true', decide_eq_true_eq] at h5
  obtain ⟨⟨⟨⟨⟨g1, g2⟩, g3⟩, g4⟩, g5⟩, g6⟩ := h5
  simp [Cond.before, Cond.holds, Cond.value, h1, h2, h3, h4, g1, g2, g3, g4, g5, g6]
def isCode : Jvm.Cond → Bool
  | .code _ _ _ _ => true
  | _ => false
theorem all_split {L : List Jvm.Cond} {P : Jvm.Cond → Bool} (h1 : L.all (fun c => isCode c || P c) = true) (h2 : ∀ c ∈ L.filter isCode, P c = true) : L.all P = true := by
  refine List.all_eq_true.mpr fun c hc => ?_
  have h := List.all_eq_true.mp h1 c hc
  rcases Bool.eq_false_or_eq_true (isCode c) with hi | hi
  · exact h2 c (List.mem_filter.mpr ⟨hc, hi⟩)
  · simpa [hi] using h
set_option maxRecDepth 65536 in
theorem w_c0 : (Jvm.Cond.code x code maxLocals ret).before args0 about1 = true := code_word (m := ⟨1, 3⟩) (meth := k1m3) (c := k1c3) (by decide +kernel) rfl rfl rfl (by decide +kernel)
set_option maxRecDepth 65536 in
theorem w_c1 : (Jvm.Cond.code ({ cls := "com/example/tuplewise/tuplewise/value/TimeIntervalValueEqualsPinLaw", name := "fixI", desc := "(I)I" } : Jvm.MethodName) method_2_code (1 : Nat) (Option.some Jvm.ClassFile.FieldType.int)).before args0 about1 = true := code_word (m := ⟨1, 1⟩) (meth := k1m1) (c := k1c1) (by decide +kernel) rfl rfl rfl (by decide +kernel)
set_option maxRecDepth 65536 in
theorem w_c2 : (Jvm.Cond.code ({ cls := "com/example/tuplewise/tuplewise/value/TimeIntervalValueEqualsPinLaw", name := "fixL", desc := "(J)J" } : Jvm.MethodName) method_3_code (2 : Nat) (Option.some Jvm.ClassFile.FieldType.long)).before args0 about1 = true := code_word (m := ⟨1, 2⟩) (meth := k1m2) (c := k1c2) (by decide +kernel) rfl rfl rfl (by decide +kernel)
set_option maxRecDepth 65536 in
theorem w_c3 : (Jvm.Cond.code ({ cls := "com/example/tuplewise/tuplewise/value/TimeIntervalValue", name := "<init>", desc := "(IIJ)V" } : Jvm.MethodName) prog_304_method_1_code (5 : Nat) (Option.none : Option Jvm.ClassFile.FieldType)).before args0 about1 = true := code_word (m := ⟨5, 0⟩) (meth := k5m0) (c := k5c0) (by decide +kernel) rfl rfl rfl (by decide +kernel)
set_option maxRecDepth 65536 in
theorem w_c4 : (Jvm.Cond.code ({ cls := "java/lang/Record", name := "<init>", desc := "()V" } : Jvm.MethodName) jdk_30_method_1_code (1 : Nat) (Option.none : Option Jvm.ClassFile.FieldType)).before args0 about1 = true := code_word (m := ⟨2, 0⟩) (meth := k2m0) (c := k2c0) (by decide +kernel) rfl rfl rfl (by decide +kernel)
set_option maxRecDepth 65536 in
theorem w_c5 : (Jvm.Cond.code ({ cls := "java/lang/Object", name := "<init>", desc := "()V" } : Jvm.MethodName) object_method_1_code (1 : Nat) (Option.none : Option Jvm.ClassFile.FieldType)).before args0 about1 = true := code_word (m := ⟨0, 0⟩) (meth := k0m0) (c := k0c0) (by decide +kernel) rfl rfl rfl (by decide +kernel)
set_option maxRecDepth 65536 in
theorem w_c6 : (Jvm.Cond.code ({ cls := "com/example/tuplewise/tuplewise/value/TimeIntervalValue", name := "equals", desc := "(Ljava/lang/Object;)Z" } : Jvm.MethodName) prog_304_method_5_code (3 : Nat) (Option.some Jvm.ClassFile.FieldType.boolean)).before args0 about1 = true := code_word (m := ⟨5, 1⟩) (meth := k5m1) (c := k5c1) (by decide +kernel) rfl rfl rfl (by decide +kernel)
set_option maxRecDepth 65536 in
theorem w_c7 : (Jvm.Cond.code ({ cls := "java/lang/Long", name := "valueOf", desc := "(J)Ljava/lang/Long;" } : Jvm.MethodName) jdk_35_method_24_code (3 : Nat) (Option.some (Jvm.ClassFile.FieldType.object "java/lang/Long"))).before args0 about1 = true := code_word (m := ⟨10, 0⟩) (meth := k10m0) (c := k10c0) (by decide +kernel) rfl rfl rfl (by decide +kernel)
set_option maxRecDepth 65536 in
theorem w_c8 : (Jvm.Cond.code ({ cls := "java/lang/Long", name := "<init>", desc := "(J)V" } : Jvm.MethodName) jdk_35_method_26_code (3 : Nat) (Option.none : Option Jvm.ClassFile.FieldType)).before args0 about1 = true := code_word (m := ⟨10, 1⟩) (meth := k10m1) (c := k10c1) (by decide +kernel) rfl rfl rfl (by decide +kernel)
set_option maxRecDepth 65536 in
theorem w_c9 : (Jvm.Cond.code ({ cls := "java/lang/Number", name := "<init>", desc := "()V" } : Jvm.MethodName) jdk_18_method_1_code (1 : Nat) (Option.none : Option Jvm.ClassFile.FieldType)).before args0 about1 = true := code_word (m := ⟨7, 0⟩) (meth := k7m0) (c := k7c0) (by decide +kernel) rfl rfl rfl (by decide +kernel)
def codes1 : List Jvm.Cond := [Jvm.Cond.code x code maxLocals ret, Jvm.Cond.code ({ cls := "com/example/tuplewise/tuplewise/value/TimeIntervalValueEqualsPinLaw", name := "fixI", desc := "(I)I" } : Jvm.MethodName) method_2_code (1 : Nat) (Option.some Jvm.ClassFile.FieldType.int), Jvm.Cond.code ({ cls := "com/example/tuplewise/tuplewise/value/TimeIntervalValueEqualsPinLaw", name := "fixL", desc := "(J)J" } : Jvm.MethodName) method_3_code (2 : Nat) (Option.some Jvm.ClassFile.FieldType.long), Jvm.Cond.code ({ cls := "com/example/tuplewise/tuplewise/value/TimeIntervalValue", name := "<init>", desc := "(IIJ)V" } : Jvm.MethodName) prog_304_method_1_code (5 : Nat) (Option.none : Option Jvm.ClassFile.FieldType), Jvm.Cond.code ({ cls := "java/lang/Record", name := "<init>", desc := "()V" } : Jvm.MethodName) jdk_30_method_1_code (1 : Nat) (Option.none : Option Jvm.ClassFile.FieldType), Jvm.Cond.code ({ cls := "java/lang/Object", name := "<init>", desc := "()V" } : Jvm.MethodName) object_method_1_code (1 : Nat) (Option.none : Option Jvm.ClassFile.FieldType), Jvm.Cond.code ({ cls := "com/example/tuplewise/tuplewise/value/TimeIntervalValue", name := "equals", desc := "(Ljava/lang/Object;)Z" } : Jvm.MethodName) prog_304_method_5_code (3 : Nat) (Option.some Jvm.ClassFile.FieldType.boolean), Jvm.Cond.code ({ cls := "java/lang/Long", name := "valueOf", desc := "(J)Ljava/lang/Long;" } : Jvm.MethodName) jdk_35_method_24_code (3 : Nat) (Option.some (Jvm.ClassFile.FieldType.object "java/lang/Long")), Jvm.Cond.code ({ cls := "java/lang/Long", name := "<init>", desc := "(J)V" } : Jvm.MethodName) jdk_35_method_26_code (3 : Nat) (Option.none : Option Jvm.ClassFile.FieldType), Jvm.Cond.code ({ cls := "java/lang/Number", name := "<init>", desc := "()V" } : Jvm.MethodName) jdk_18_method_1_code (1 : Nat) (Option.none : Option Jvm.ClassFile.FieldType)]
set_option maxRecDepth 65536 in
theorem codes_eq : words1.filter isCode = codes1 := rfl
theorem w_codes : ∀ c ∈ words1.filter isCode, c.before args0 about1 = true := by
  rw [codes_eq]
  intro c hc
  simp only [codes1, List.mem_cons, List.not_mem_nil, or_false] at hc
  rcases hc with rfl | rfl | rfl | rfl | rfl | rfl | rfl | rfl | rfl | rfl
  · exact w_c0
  · exact w_c1
  · exact w_c2
  · exact w_c3
  · exact w_c4
  · exact w_c5
  · exact w_c6
  · exact w_c7
  · exact w_c8
  · exact w_c9
set_option maxRecDepth 65536 in
theorem w_t1 : (words1.take 24).all (fun c => isCode c || c.before args0 about1) = true := by decide +kernel
set_option maxRecDepth 65536 in
theorem w_t2 : ((words1.drop 24).take 24).all (fun c => isCode c || c.before args0 about1) = true := by decide +kernel
set_option maxRecDepth 65536 in
theorem w_t3 : ((words1.drop 24).drop 24).all (fun c => isCode c || c.before args0 about1) = true := by decide +kernel
theorem w_tables : (allAtoms (Jvm.Cond.code x code maxLocals ret :: tables_1)).before args0 about1 = true := by
  rw [allAtoms_all]
  show words1.all (fun c => c.before args0 about1) = true
  refine all_split ?_ w_codes
  rw [← List.take_append_drop 24 words1, List.all_append, w_t1, ← List.take_append_drop 24 (words1.drop 24), List.all_append, w_t2, w_t3]
  rfl
set_option maxRecDepth 65536 in
theorem w_rest : rest_1_c.before args0 about1 = true := by decide +kernel
set_option maxRecDepth 65536 in
theorem w_case : (Jvm.Cond.and given_1 narrow_1).before args0 about1 = true := by decide +kernel
theorem w_applies : (headSpec (Jvm.Cond.code x code maxLocals ret :: tables_1) room_1).applies x e0.platform about1 = true :=
  (Spec.applies_iff w_frames).mpr ⟨w_running, w_runnable, w_alone, w_named, w_hears, w_ripe, w_room, w_tables⟩
theorem atStart : AtStart classFile x code maxLocals ret World_1 tables_1 room_1 Calls_1 rest_1 Pre_1 launch0 p0 e0 about1 theMethod args0 below0 :=
  ⟨lists_1, trivial, launch0.admits_env _ _ _, launch0.least_env, fairChoices_fair.cas, fairChoices_fair.clock, w_frames, w_args, w_heap, w_applies, trivial, w_rest, w_case⟩
end start1
theorem witness_1 : WitnessClaimed_1 := ⟨start1.p0, start1.e0, start1.about1, start1.theMethod, start1.args0, start1.below0, start1.atStart⟩
end Jvm.Pilot.@@N@@
