import JvmDerived
import JvmDerived.Pilot.@@N@@Statement
import JvmDerived.Pilot.@@N@@Code
set_option linter.unusedVariables false
set_option linter.unusedSimpArgs false
namespace Jvm.RoadKit
open Sem ClassFile Op Lib Jvm.Stand Jvm.Free Jvm.LawKit
section New
variable {p : Program} {l : Launch} {e : Env} {R : Room} {s : State} {m : MethodId} {args : Array Value} {below : List Frame} {meth : Method} {c : Code} {T : State} {locs : List Loc} {cells slots : Nat}
theorem retI (X : Stand p l e R s m args below meth c T locs cells slots) (hx : p.tables.exec = Jvm.exec) {pc : Nat} {Ls : Array Slot} {z : Int32} {rest : List Value} (hret : meth.sig.returnType = some .int) (hd : decode c.code pc = .ok (.ireturn, 1)) {fs : List Frame}
    (hl : ∀ (f : JFrame) (acts : List Action), f.method = m → f.locked = none → f.entered = [] → (doReturn e (T.setTop f) acts (some (.int z))).1 = T.setFrames fs) : Steps p.tables e below (T.setTop (mkF m pc Ls (.int z :: rest))) (T.setFrames fs) := by
  have hm' : T.vm.method? m = some meth := X.method'
  have hn : narrow .int (.int z) = .int z := rfl
  show Steps p.tables e below (T.setTop { method := m, pc := pc, locals := Ls, stack := _ :: rest, locked := none }) _
  jvm_step X.here [X.here.top, hx, hd, hm', hret, hn]
  first | (intro acts; rw [hl _ acts rfl rfl rfl]) | rw [hl _ _ rfl rfl rfl]
  exact Steps.refl _
end New
end Jvm.RoadKit
namespace Jvm.Pilot.@@N@@
open Jvm Jvm.ClassFile Sem Op Lib Jvm.Free Jvm.Stand Jvm.LawKit Jvm.RoadKit Bundle Jvm.Pilot.@@N@@.Jvm.D

theorem pd_0 : parseMethodDescriptor "()V" = some ⟨[], none⟩ := by decide +kernel
theorem pd_1 : parseMethodDescriptor "(J)V" = some ⟨[.long], none⟩ := by decide +kernel
theorem pd_2 : parseMethodDescriptor "(I)Lcom/example/tagloom/tagloom/tlv/TagClass;" = some ⟨[.int], some (.object "com/example/tagloom/tagloom/tlv/TagClass")⟩ := by decide +kernel
theorem pd_3 : parseMethodDescriptor "(JIILcom/example/tagloom/tagloom/tlv/TagClass;JZJ)V" = some ⟨[.long, .int, .int, (.object "com/example/tagloom/tagloom/tlv/TagClass"), .long, .boolean, .long], none⟩ := by decide +kernel
theorem pd_4 : parseMethodDescriptor "(Ljava/lang/Object;)Z" = some ⟨[(.object "java/lang/Object")], some .boolean⟩ := by decide +kernel
theorem pd_5 : parseMethodDescriptor "(J)Ljava/lang/Long;" = some ⟨[.long], some (.object "java/lang/Long")⟩ := by decide +kernel
/-- what the sets say of Long's cache, at the start -/
def own_cache (Z : State) : Prop := ∃ (wc : Addr) (cl : Cell), Sta Z Z.heap "java/lang/Long$LongCache" "cache" "[Ljava/lang/Long;" (.ref wc) ∧ Arr Z Z.heap wc cl (.object "java/lang/Long") ∧ cl.slots.size = 256 ∧
  ∀ j : Int32, ¬ (j < 0 ∨ cl.slots.size ≤ j.toNatClampNeg) → ∃ r : Addr, cl.slots[j.toNatClampNeg]? = some (.ref r) ∧ Exa Z Z.heap r "java/lang/Long"
theorem own_old {Z : State} {n0 : Nat} {h : Heap} (O : Old Z n0 h) : Ext Z.heap h := O.2
theorem own_iff {p : Prop} [Decidable p] {q : Prop} [Decidable q] (h : p ↔ q) : (if p then (1 : Int32) else 0) = if q then 1 else 0 := by
  by_cases g : q
  · rw [if_pos g, if_pos (h.mpr g)]
  · rw [if_neg g, if_neg (fun z => g (h.mp z))]
/-- Long stands beneath Number and Object alone: a class of another name is none of them -/
theorem own_long_no {Z : State} {a0 : Array Value} {K : String} {n : Nat} (w1 : (Cond.superclass "java/lang/Long" "java/lang/Number").before a0 Z = true) (w2 : (Cond.superclass "java/lang/Number" "java/lang/Object").before a0 Z = true) (w3 : (Cond.noSuperclass "java/lang/Object").before a0 Z = true) (wk : (Cond.instantiable K n).before a0 Z = true)
    (n1 : "java/lang/Long" ≠ K) (n2 : "java/lang/Number" ≠ K) (n3 : "java/lang/Object" ≠ K) : ∃ c t, Z.vm.findClass "java/lang/Long" = some c ∧ Z.vm.findClass K = some t ∧ Z.vm.assignable c t = false := by
  obtain ⟨cL, fL⟩ := found_sup w1
  obtain ⟨cN, kL, -, fN, aL, -, uL, dL, -, -⟩ := Cond.superclass_spec fL w1
  obtain ⟨cO, kN, -, fO, aN, -, uN, -⟩ := Cond.superclass_spec fN w2
  obtain ⟨cO', kO, fO', aO, uO, -⟩ := Cond.noSuperclass_spec w3
  obtain rfl : cO = cO' := Option.some.inj (fO.symm.trans fO')
  obtain ⟨t, kt, ft, at', dt, it, -⟩ := Cond.instantiable_spec wk
  have iface : kt.isInterface = false := (Bool.or_eq_false_iff.mp it).1
  have up0 : ∀ f, Z.vm.isSubclassAux f cO t = false := fun f => by
    rcases f with _ | f
    · rfl
    · simp [Vm.isSubclassAux, ids_ne fO ft n3, aO, uO]
  have up1 : ∀ f, Z.vm.isSubclassAux f cN t = false := fun f => by
    rcases f with _ | f
    · rfl
    · simp [Vm.isSubclassAux, ids_ne fN ft n2, aN, uN, up0 f]
  have up2 : Z.vm.isSubclass cL t = false := by
    simp [Vm.isSubclass, Vm.isSubclassAux, ids_ne fL ft n1, aL, uL, up1]
  refine ⟨cL, t, fL, ft, ?_⟩
  unfold Vm.assignable
  simp [Vm.assignableAux, ids_ne fL ft n1, aL, at', dL, dt, iface, up2]
theorem own_place (w : Int64) (h1 : ¬ lcmpW w (-128 : Int64) < 0) (h2 : ¬ (0 : Int32) < lcmpW w (127 : Int64)) {cl : Cell} (h : cl.slots.size = 256) : ¬ ((w.toInt32 + (128 : Int32)) < 0 ∨ cl.slots.size ≤ (w.toInt32 + (128 : Int32)).toNatClampNeg) := by
  rw [lw_lt] at h1
  rw [lw_gt] at h2
  rw [h]
  rw [Int64.lt_iff_toInt_lt] at h1 h2
  have e1 : (-128 : Int64).toInt = -128 := by decide
  have e2 : (127 : Int64).toInt = 127 := by decide
  have e3 : (128 : Int32).toInt = 128 := by decide
  have a1 := c_l2i w
  have a2 := c_iadd w.toInt32 128
  have r1 := rng32 w.toInt32
  have r2 := rng32 (w.toInt32 + 128)
  rw [Int32.lt_iff_toInt_lt, Int32.toNatClampNeg]
  have e4 : (0 : Int32).toInt = 0 := by decide
  omega

theorem own_cache_of {s : State} {args : Array Value}
    (w0 : (Cond.laysStatic "java/lang/Long$LongCache" "cache" "[Ljava/lang/Long;").before args s = true)
    (w1 : (Cond.initializedFor "java/lang/Long$LongCache" "cache" "[Ljava/lang/Long;").before args s = true)
    (w2 : (Cond.arrayOf (Term.static "java/lang/Long$LongCache" "cache" "[Ljava/lang/Long;") (FieldType.object "java/lang/Long")).before args s = true)
    (w4 : (Cond.eq (Term.length (Term.static "java/lang/Long$LongCache" "cache" "[Ljava/lang/Long;")) (Term.int 256)).before args s = true)
    {u : Cond} (w5 : (Cond.all (Term.static "java/lang/Long$LongCache" "cache" "[Ljava/lang/Long;") (Cond.and (Cond.exactly (Term.elem (Term.static "java/lang/Long$LongCache" "cache" "[Ljava/lang/Long;") (Term.index 0)) "java/lang/Long") u)).before args s = true) : own_cache s := by
  have v2 := Cond.before_iff.mp w2
  have v4 := Cond.before_iff.mp w4
  have v5 := Cond.before_iff.mp w5
  obtain ⟨wc, ev⟩ := arr_v v2
  obtain ⟨cl, CA⟩ := Arr.start ev v2
  have hAt : s.arrayAt? wc = some cl := CA.fin (Vm.Alike.refl _)
  have hsz : cl.slots.size = 256 := by
    obtain ⟨hl, hq⟩ := Jvm.Free.IntBox.length_fwd w4 ev CA.1 CA.2.1 CA.2.2
    have e1 : (cl.slots.size.toInt32).toInt = (cl.slots.size : Int) := len_toInt hl
    rw [hq] at e1
    have e2 : (256 : Int32).toInt = 256 := by decide
    omega
  refine ⟨wc, cl, Sta.start ev (Or.inl w1), CA, hsz, fun j hj => ?_⟩
  have hj0 : ¬ j < 0 := fun q => hj (Or.inl q)
  have hj1 : j.toNatClampNeg < cl.slots.size := Nat.lt_of_not_le fun q => hj (Or.inr q)
  have hall := Cond.all_elim ev hAt v5 j.toNatClampNeg hj1
  obtain ⟨h1, -⟩ := and_e hall
  obtain ⟨r, er⟩ := exa_v h1
  have ev' : (Term.static "java/lang/Long$LongCache" "cache" "[Ljava/lang/Long;").eval args s none [j.toNatClampNeg] s = some (.ref wc) := ev
  have hin := elem_in er ev' (idx_at hj0) CA.1
  exact ⟨r, hin.2, exa_at er h1⟩

def own_cls (x : Int32) (wU wA wC wP : Addr) : Addr := if (x &&& (3 : Int32)) = (0 : Int32) then wU else if (x &&& (3 : Int32)) = (1 : Int32) then wA else if (x &&& (3 : Int32)) = (2 : Int32) then wC else wP
def own_eq (o1 : Int64) (h1 d1 : Int32) (c1 : Addr) (t1 : Int64) (b1 : Int32) (l1 : Int64) (o2 : Int64) (h2 d2 : Int32) (c2 : Addr) (t2 : Int64) (b2 : Int32) (l2 : Int64) : Int32 := if (lcmpW o1 o2) = (0 : Int32) then (if h1 = h2 then (if d1 = d2 then (if c1 = c2 then (if (lcmpW t1 t2) = (0 : Int32) then (if b1 = b2 then (if (lcmpW l1 l2) = (0 : Int32) then 1 else 0) else 0) else 0) else 0) else 0) else 0) else 0
theorem own_eq_iff (o1 : Int64) (h1 d1 : Int32) (c1 : Addr) (t1 : Int64) (b1 : Int32) (l1 : Int64) (o2 : Int64) (h2 d2 : Int32) (c2 : Addr) (t2 : Int64) (b2 : Int32) (l2 : Int64) : own_eq o1 h1 d1 c1 t1 b1 l1 o2 h2 d2 c2 t2 b2 l2 = if (o1 = o2 ∧ h1 = h2 ∧ d1 = d2 ∧ c1 = c2 ∧ t1 = t2 ∧ b1 = b2 ∧ l1 = l2) then 1 else 0 := by
  unfold own_eq; simp only [lw_eq]
  by_cases q1 : o1 = o2
  · by_cases q2 : h1 = h2
    · by_cases q3 : d1 = d2
      · by_cases q4 : c1 = c2
        · by_cases q5 : t1 = t2
          · by_cases q6 : b1 = b2 <;> simp [q1, q2, q3, q4, q5, q6]
          · simp [q5]
        · simp [q4]
      · simp [q3]
    · simp [q2]
  · simp [q1]
theorem own_eq_symm (o1 : Int64) (h1 d1 : Int32) (c1 : Addr) (t1 : Int64) (b1 : Int32) (l1 : Int64) (o2 : Int64) (h2 d2 : Int32) (c2 : Addr) (t2 : Int64) (b2 : Int32) (l2 : Int64) : own_eq o1 h1 d1 c1 t1 b1 l1 o2 h2 d2 c2 t2 b2 l2 = own_eq o2 h2 d2 c2 t2 b2 l2 o1 h1 d1 c1 t1 b1 l1 := by
  rw [own_eq_iff, own_eq_iff]
  exact own_iff ⟨fun ⟨a, b, c, d, e, f, g⟩ => ⟨a.symm, b.symm, c.symm, d.symm, e.symm, f.symm, g.symm⟩, fun ⟨a, b, c, d, e, f, g⟩ => ⟨a.symm, b.symm, c.symm, d.symm, e.symm, f.symm, g.symm⟩⟩
theorem own_eq_refl (o1 : Int64) (h1 d1 : Int32) (c1 : Addr) (t1 : Int64) (b1 : Int32) (l1 : Int64) : ¬ own_eq o1 h1 d1 c1 t1 b1 l1 o1 h1 d1 c1 t1 b1 l1 = (0 : Int32) := by rw [own_eq_iff]; simp
theorem own_of4 (u : Int32) : u &&& 3 = 0 ∨ u &&& 3 = 1 ∨ u &&& 3 = 2 ∨ u &&& 3 = 3 := by
  have e := c_mask u 3 2 (by decide) (by decide)
  have q : ∀ k : Int32, k.toInt = (u &&& 3).toInt → u &&& 3 = k := fun k hk => (Int32.toInt_inj.mp hk).symm
  have e0 : (0 : Int32).toInt = 0 := by decide
  have e1 : (1 : Int32).toInt = 1 := by decide
  have e2 : (2 : Int32).toInt = 2 := by decide
  have e3 : (3 : Int32).toInt = 3 := by decide
  have hb : u.toInt % 4 = 0 ∨ u.toInt % 4 = 1 ∨ u.toInt % 4 = 2 ∨ u.toInt % 4 = 3 := by omega
  rcases hb with h | h | h | h
  · exact Or.inl (q 0 (by omega))
  · exact Or.inr (Or.inl (q 1 (by omega)))
  · exact Or.inr (Or.inr (Or.inl (q 2 (by omega))))
  · exact Or.inr (Or.inr (Or.inr (q 3 (by omega))))
theorem own_cls_inj {wU wA wC wP : Addr} (n1 : wU ≠ wA) (n2 : wU ≠ wC) (n3 : wU ≠ wP) (n4 : wA ≠ wC) (n5 : wA ≠ wP) (n6 : wC ≠ wP) (u v : Int32) : own_cls (u &&& 3) wU wA wC wP = own_cls (v &&& 3) wU wA wC wP ↔ u &&& 3 = v &&& 3 := by
  have k0 : own_cls 0 wU wA wC wP = wU := rfl
  have k1 : own_cls 1 wU wA wC wP = wA := rfl
  have k2 : own_cls 2 wU wA wC wP = wC := rfl
  have k3 : own_cls 3 wU wA wC wP = wP := rfl
  rcases own_of4 u with h | h | h | h <;> rcases own_of4 v with g | g | g | g <;> rw [h, g] <;> simp only [k0, k1, k2, k3] <;> simp [n1, n2, n3, n4, n5, n6, n1.symm, n2.symm, n3.symm, n4.symm, n5.symm, n6.symm]
theorem own_nar {c : Prop} [Decidable c] {v : Int32} (h : v = if c then 0 else 1) : nar .boolean v = v := by
  subst h; by_cases q : c
  · rw [if_pos q]; rfl
  · rw [if_neg q]; rfl
theorem own_law {off tag len alt v0 v4 v6 : Int64} {hd dp se co kk v1 v2 v3 v5 v7 : Int32} {wU wA wC wP : Addr} (n1 : wU ≠ wA) (n2 : wU ≠ wC) (n3 : wU ≠ wP) (n4 : wA ≠ wC) (n5 : wA ≠ wP) (n6 : wC ≠ wP)
    (hco : co = if (se &&& 4) = 0 then 0 else 1)
    (h0 : v0 = (if kk = (0 : Int32) then alt else off))
    (h1 : v1 = (if kk = (0 : Int32) then hd else (if kk = (1 : Int32) then (alt.toInt32) else hd)))
    (h2 : v2 = (if kk = (0 : Int32) then dp else (if kk = (1 : Int32) then dp else (if kk = (2 : Int32) then (alt.toInt32) else dp))))
    (h3 : v3 = (if kk = (0 : Int32) then (se &&& 3) else (if kk = (1 : Int32) then (se &&& 3) else (if kk = (2 : Int32) then (se &&& 3) else (if kk = (3 : Int32) then ((alt.toInt32) &&& (3 : Int32)) else (se &&& 3))))))
    (h4 : v4 = (if kk = (0 : Int32) then tag else (if kk = (1 : Int32) then tag else (if kk = (2 : Int32) then tag else (if kk = (3 : Int32) then tag else (if kk = (4 : Int32) then alt else tag))))))
    (h5 : v5 = (if kk = (0 : Int32) then co else (if kk = (1 : Int32) then co else (if kk = (2 : Int32) then co else (if kk = (3 : Int32) then co else (if kk = (4 : Int32) then co else (if kk = (5 : Int32) then (if (lcmpW (alt &&& (1 : Int64)) (0 : Int64)) = (0 : Int32) then (0 : Int32) else (1 : Int32)) else co)))))))
    (h6 : v6 = (if kk = (0 : Int32) then len else (if kk = (1 : Int32) then len else (if kk = (2 : Int32) then len else (if kk = (3 : Int32) then len else (if kk = (4 : Int32) then len else (if kk = (5 : Int32) then len else (if kk = (6 : Int32) then alt else len))))))))
    (h7 : v7 = (if kk = (0 : Int32) then (if (lcmpW off alt) = (0 : Int32) then (1 : Int32) else (0 : Int32)) else (if kk = (1 : Int32) then (if hd = (alt.toInt32) then (1 : Int32) else (0 : Int32)) else (if kk = (2 : Int32) then (if dp = (alt.toInt32) then (1 : Int32) else (0 : Int32)) else (if kk = (3 : Int32) then (if (se &&& 3) = ((alt.toInt32) &&& (3 : Int32)) then (1 : Int32) else (0 : Int32)) else (if kk = (4 : Int32) then (if (lcmpW tag alt) = (0 : Int32) then (1 : Int32) else (0 : Int32)) else (if kk = (5 : Int32) then (if (lcmpW (alt &&& (1 : Int64)) (0 : Int64)) = (0 : Int32) then (if co = (0 : Int32) then (1 : Int32) else (0 : Int32)) else (if co = (1 : Int32) then (1 : Int32) else (0 : Int32))) else (if kk = (6 : Int32) then (if (lcmpW len alt) = (0 : Int32) then (1 : Int32) else (0 : Int32)) else (1 : Int32)))))))))
    : own_eq off hd dp (own_cls (se &&& 3) wU wA wC wP) tag (nar .boolean co) len v0 v1 v2 (own_cls v3 wU wA wC wP) v4 (nar .boolean v5) v6 = v7 := by
  have nc := own_nar hco
  rw [own_eq_iff, nc]
  by_cases k0 : kk = 0
  · simp only [if_pos k0] at h0 h1 h2 h3 h4 h5 h6 h7
    rw [h0, h1, h2, h3, h4, h5, h6, h7, nc]
    simp only [lw_eq]
    exact own_iff (by simp)
  by_cases k1 : kk = 1
  · simp only [if_neg k0, if_pos k1] at h0 h1 h2 h3 h4 h5 h6 h7
    rw [h0, h1, h2, h3, h4, h5, h6, h7, nc]
    exact own_iff (by simp)
  by_cases k2 : kk = 2
  · simp only [if_neg k0, if_neg k1, if_pos k2] at h0 h1 h2 h3 h4 h5 h6 h7
    rw [h0, h1, h2, h3, h4, h5, h6, h7, nc]
    exact own_iff (by simp)
  by_cases k3 : kk = 3
  · simp only [if_neg k0, if_neg k1, if_neg k2, if_pos k3] at h0 h1 h2 h3 h4 h5 h6 h7
    rw [h0, h1, h2, h3, h4, h5, h6, h7, nc]
    exact own_iff (by simp [own_cls_inj n1 n2 n3 n4 n5 n6])
  by_cases k4 : kk = 4
  · simp only [if_neg k0, if_neg k1, if_neg k2, if_neg k3, if_pos k4] at h0 h1 h2 h3 h4 h5 h6 h7
    rw [h0, h1, h2, h3, h4, h5, h6, h7, nc]
    simp only [lw_eq]
    exact own_iff (by simp)
  by_cases k5 : kk = 5
  · simp only [if_neg k0, if_neg k1, if_neg k2, if_neg k3, if_neg k4, if_pos k5] at h0 h1 h2 h3 h4 h5 h6 h7
    have ne5 := own_nar h5
    by_cases g : (lcmpW (alt &&& (1 : Int64)) (0 : Int64)) = (0 : Int32)
    · simp only [if_pos g] at h5 h7
      rw [ne5, h0, h1, h2, h3, h4, h5, h6, h7]
      exact own_iff (by simp)
    · simp only [if_neg g] at h5 h7
      rw [ne5, h0, h1, h2, h3, h4, h5, h6, h7]
      exact own_iff (by simp)
  by_cases k6 : kk = 6
  · simp only [if_neg k0, if_neg k1, if_neg k2, if_neg k3, if_neg k4, if_neg k5, if_pos k6] at h0 h1 h2 h3 h4 h5 h6 h7
    rw [h0, h1, h2, h3, h4, h5, h6, h7, nc]
    simp only [lw_eq]
    exact own_iff (by simp)
  simp only [if_neg k0, if_neg k1, if_neg k2, if_neg k3, if_neg k4, if_neg k5, if_neg k6] at h0 h1 h2 h3 h4 h5 h6 h7
  rw [h0, h1, h2, h3, h4, h5, h6, h7, nc]
  simp
theorem own_ord {s : State} {args : Array Value} {t : Term} {a : Addr} {F n d : String} {k : Int32} (ev : t.eval args s none [] s = some (.ref a)) (h : (Cond.eq (.field t F n d) (.int k)).value args s none s [] = some true) : s.fieldOf? a F n d = some (.int k) := by
  obtain ⟨x, y, hx, hy, k1, k2⟩ := cmp_v (Or.inl h)
  obtain rfl : Value.int k = y := Option.some.inj ((Term.int_eval k).symm.trans hy)
  obtain ⟨z, rfl⟩ : ∃ z, x = .int z := k2
  have q := gotT (Cond.eq_ints hx hy) h
  rw [fld_at ev] at hx
  rw [hx, q]
theorem own_far {s : State} {a b : Addr} {F n d : String} {k j : Int32} (h1 : s.fieldOf? a F n d = some (.int k)) (h2 : s.fieldOf? b F n d = some (.int j)) (hn : k ≠ j) : ¬ a = b := fun q => by
  rw [q, h2] at h1
  exact hn (Value.int.inj (Option.some.inj h1)).symm
theorem d1_0 : decode method_2_code 0 = .ok (.iload_n 0, 1) := by decide +kernel
theorem d1_1 : decode method_2_code 1 = .ok (.iconst 3, 1) := by decide +kernel
theorem d1_2 : decode method_2_code 2 = .ok (.iand, 1) := by decide +kernel
theorem d1_3 : decode method_2_code 3 = .ok (.istore_n 1, 1) := by decide +kernel
theorem d1_4 : decode method_2_code 4 = .ok (.iload_n 1, 1) := by decide +kernel
theorem d1_5 : decode method_2_code 5 = .ok (.ifCond .ne 7, 3) := by decide +kernel
theorem d1_8 : decode method_2_code 8 = .ok (.getstatic 7, 3) := by decide +kernel
theorem d1_11 : decode method_2_code 11 = .ok (.areturn, 1) := by decide +kernel
theorem d1_12 : decode method_2_code 12 = .ok (.iload_n 1, 1) := by decide +kernel
theorem d1_13 : decode method_2_code 13 = .ok (.iconst 1, 1) := by decide +kernel
theorem d1_14 : decode method_2_code 14 = .ok (.if_icmp .ne 7, 3) := by decide +kernel
theorem d1_17 : decode method_2_code 17 = .ok (.getstatic 13, 3) := by decide +kernel
theorem d1_20 : decode method_2_code 20 = .ok (.areturn, 1) := by decide +kernel
theorem d1_21 : decode method_2_code 21 = .ok (.iload_n 1, 1) := by decide +kernel
theorem d1_22 : decode method_2_code 22 = .ok (.iconst 2, 1) := by decide +kernel
theorem d1_23 : decode method_2_code 23 = .ok (.if_icmp .ne 7, 3) := by decide +kernel
theorem d1_26 : decode method_2_code 26 = .ok (.getstatic 16, 3) := by decide +kernel
theorem d1_29 : decode method_2_code 29 = .ok (.areturn, 1) := by decide +kernel
theorem d1_30 : decode method_2_code 30 = .ok (.getstatic 19, 3) := by decide +kernel
theorem d1_33 : decode method_2_code 33 = .ok (.areturn, 1) := by decide +kernel
theorem pn_1 : plainName "com/example/tagloom/tagloom/tlv/ElementEqualsPinLaw" = true := by first | (simp [plainName, overriddenIn]; done) | decide +kernel
theorem d2_0 : decode prog_160_method_1_code 0 = .ok (.aload_n 0, 1) := by decide +kernel
theorem d2_1 : decode prog_160_method_1_code 1 = .ok (.invokespecial 1, 3) := by decide +kernel
theorem d2_4 : decode prog_160_method_1_code 4 = .ok (.aload_n 0, 1) := by decide +kernel
theorem d2_5 : decode prog_160_method_1_code 5 = .ok (.lload_n 1, 1) := by decide +kernel
theorem d2_6 : decode prog_160_method_1_code 6 = .ok (.putfield 7, 3) := by decide +kernel
theorem d2_9 : decode prog_160_method_1_code 9 = .ok (.aload_n 0, 1) := by decide +kernel
theorem d2_10 : decode prog_160_method_1_code 10 = .ok (.iload_n 3, 1) := by decide +kernel
theorem d2_11 : decode prog_160_method_1_code 11 = .ok (.putfield 13, 3) := by decide +kernel
theorem d2_14 : decode prog_160_method_1_code 14 = .ok (.aload_n 0, 1) := by decide +kernel
theorem d2_15 : decode prog_160_method_1_code 15 = .ok (.iload 4, 2) := by decide +kernel
theorem d2_17 : decode prog_160_method_1_code 17 = .ok (.putfield 17, 3) := by decide +kernel
theorem d2_20 : decode prog_160_method_1_code 20 = .ok (.aload_n 0, 1) := by decide +kernel
theorem d2_21 : decode prog_160_method_1_code 21 = .ok (.aload 5, 2) := by decide +kernel
theorem d2_23 : decode prog_160_method_1_code 23 = .ok (.putfield 20, 3) := by decide +kernel
theorem d2_26 : decode prog_160_method_1_code 26 = .ok (.aload_n 0, 1) := by decide +kernel
theorem d2_27 : decode prog_160_method_1_code 27 = .ok (.lload 6, 2) := by decide +kernel
theorem d2_29 : decode prog_160_method_1_code 29 = .ok (.putfield 24, 3) := by decide +kernel
theorem d2_32 : decode prog_160_method_1_code 32 = .ok (.aload_n 0, 1) := by decide +kernel
theorem d2_33 : decode prog_160_method_1_code 33 = .ok (.iload 8, 2) := by decide +kernel
theorem d2_35 : decode prog_160_method_1_code 35 = .ok (.putfield 27, 3) := by decide +kernel
theorem d2_38 : decode prog_160_method_1_code 38 = .ok (.aload_n 0, 1) := by decide +kernel
theorem d2_39 : decode prog_160_method_1_code 39 = .ok (.lload 9, 2) := by decide +kernel
theorem d2_41 : decode prog_160_method_1_code 41 = .ok (.putfield 31, 3) := by decide +kernel
theorem d2_44 : decode prog_160_method_1_code 44 = .ok (.return_, 1) := by decide +kernel
theorem pn_2 : plainName "com/example/tagloom/tagloom/tlv/Element" = true := by first | (simp [plainName, overriddenIn]; done) | decide +kernel
theorem d4_0 : decode prog_160_method_11_code 0 = .ok (.aload_n 1, 1) := by decide +kernel
theorem d4_1 : decode prog_160_method_11_code 1 = .ok (.instanceof 8, 3) := by decide +kernel
theorem d4_4 : decode prog_160_method_11_code 4 = .ok (.ifCond .eq 92, 3) := by decide +kernel
theorem d4_7 : decode prog_160_method_11_code 7 = .ok (.aload_n 1, 1) := by decide +kernel
theorem d4_8 : decode prog_160_method_11_code 8 = .ok (.checkcast 8, 3) := by decide +kernel
theorem d4_11 : decode prog_160_method_11_code 11 = .ok (.astore_n 2, 1) := by decide +kernel
theorem d4_12 : decode prog_160_method_11_code 12 = .ok (.aload_n 0, 1) := by decide +kernel
theorem d4_13 : decode prog_160_method_11_code 13 = .ok (.getfield 7, 3) := by decide +kernel
theorem d4_16 : decode prog_160_method_11_code 16 = .ok (.aload_n 2, 1) := by decide +kernel
theorem d4_17 : decode prog_160_method_11_code 17 = .ok (.getfield 7, 3) := by decide +kernel
theorem d4_20 : decode prog_160_method_11_code 20 = .ok (.lcmp, 1) := by decide +kernel
theorem d4_21 : decode prog_160_method_11_code 21 = .ok (.ifCond .ne 75, 3) := by decide +kernel
theorem d4_24 : decode prog_160_method_11_code 24 = .ok (.aload_n 0, 1) := by decide +kernel
theorem d4_25 : decode prog_160_method_11_code 25 = .ok (.getfield 13, 3) := by decide +kernel
theorem d4_28 : decode prog_160_method_11_code 28 = .ok (.aload_n 2, 1) := by decide +kernel
theorem d4_29 : decode prog_160_method_11_code 29 = .ok (.getfield 13, 3) := by decide +kernel
theorem d4_32 : decode prog_160_method_11_code 32 = .ok (.if_icmp .ne 64, 3) := by decide +kernel
theorem d4_35 : decode prog_160_method_11_code 35 = .ok (.aload_n 0, 1) := by decide +kernel
theorem d4_36 : decode prog_160_method_11_code 36 = .ok (.getfield 17, 3) := by decide +kernel
theorem d4_39 : decode prog_160_method_11_code 39 = .ok (.aload_n 2, 1) := by decide +kernel
theorem d4_40 : decode prog_160_method_11_code 40 = .ok (.getfield 17, 3) := by decide +kernel
theorem d4_43 : decode prog_160_method_11_code 43 = .ok (.if_icmp .ne 53, 3) := by decide +kernel
theorem d4_46 : decode prog_160_method_11_code 46 = .ok (.aload_n 0, 1) := by decide +kernel
theorem d4_47 : decode prog_160_method_11_code 47 = .ok (.getfield 20, 3) := by decide +kernel
theorem d4_50 : decode prog_160_method_11_code 50 = .ok (.aload_n 2, 1) := by decide +kernel
theorem d4_51 : decode prog_160_method_11_code 51 = .ok (.getfield 20, 3) := by decide +kernel
theorem d4_54 : decode prog_160_method_11_code 54 = .ok (.if_acmp .ne 42, 3) := by decide +kernel
theorem d4_57 : decode prog_160_method_11_code 57 = .ok (.aload_n 0, 1) := by decide +kernel
theorem d4_58 : decode prog_160_method_11_code 58 = .ok (.getfield 24, 3) := by decide +kernel
theorem d4_61 : decode prog_160_method_11_code 61 = .ok (.aload_n 2, 1) := by decide +kernel
theorem d4_62 : decode prog_160_method_11_code 62 = .ok (.getfield 24, 3) := by decide +kernel
theorem d4_65 : decode prog_160_method_11_code 65 = .ok (.lcmp, 1) := by decide +kernel
theorem d4_66 : decode prog_160_method_11_code 66 = .ok (.ifCond .ne 30, 3) := by decide +kernel
theorem d4_69 : decode prog_160_method_11_code 69 = .ok (.aload_n 0, 1) := by decide +kernel
theorem d4_70 : decode prog_160_method_11_code 70 = .ok (.getfield 27, 3) := by decide +kernel
theorem d4_73 : decode prog_160_method_11_code 73 = .ok (.aload_n 2, 1) := by decide +kernel
theorem d4_74 : decode prog_160_method_11_code 74 = .ok (.getfield 27, 3) := by decide +kernel
theorem d4_77 : decode prog_160_method_11_code 77 = .ok (.if_icmp .ne 19, 3) := by decide +kernel
theorem d4_80 : decode prog_160_method_11_code 80 = .ok (.aload_n 0, 1) := by decide +kernel
theorem d4_81 : decode prog_160_method_11_code 81 = .ok (.getfield 31, 3) := by decide +kernel
theorem d4_84 : decode prog_160_method_11_code 84 = .ok (.aload_n 2, 1) := by decide +kernel
theorem d4_85 : decode prog_160_method_11_code 85 = .ok (.getfield 31, 3) := by decide +kernel
theorem d4_88 : decode prog_160_method_11_code 88 = .ok (.lcmp, 1) := by decide +kernel
theorem d4_89 : decode prog_160_method_11_code 89 = .ok (.ifCond .ne 7, 3) := by decide +kernel
theorem d4_92 : decode prog_160_method_11_code 92 = .ok (.iconst 1, 1) := by decide +kernel
theorem d4_93 : decode prog_160_method_11_code 93 = .ok (.goto 4, 3) := by decide +kernel
theorem d4_96 : decode prog_160_method_11_code 96 = .ok (.iconst 0, 1) := by decide +kernel
theorem d4_97 : decode prog_160_method_11_code 97 = .ok (.ireturn, 1) := by decide +kernel
theorem pn_4 : plainName "com/example/tagloom/tagloom/tlv/Element" = true := by first | (simp [plainName, overriddenIn]; done) | decide +kernel
theorem pn_0 : plainName "com/example/tagloom/tagloom/tlv/ElementEqualsPinLaw" = true := by first | (simp [plainName, overriddenIn]; done) | decide +kernel
theorem d5_0 : decode jdk_35_method_24_code 0 = .ok (.sipush 128, 3) := by decide +kernel
theorem d5_3 : decode jdk_35_method_24_code 3 = .ok (.istore_n 2, 1) := by decide +kernel
theorem d5_4 : decode jdk_35_method_24_code 4 = .ok (.lload_n 0, 1) := by decide +kernel
theorem d5_5 : decode jdk_35_method_24_code 5 = .ok (.ldc2_w 230, 3) := by decide +kernel
theorem d5_8 : decode jdk_35_method_24_code 8 = .ok (.lcmp, 1) := by decide +kernel
theorem d5_9 : decode jdk_35_method_24_code 9 = .ok (.ifCond .lt 22, 3) := by decide +kernel
theorem d5_12 : decode jdk_35_method_24_code 12 = .ok (.lload_n 0, 1) := by decide +kernel
theorem d5_13 : decode jdk_35_method_24_code 13 = .ok (.ldc2_w 232, 3) := by decide +kernel
theorem d5_16 : decode jdk_35_method_24_code 16 = .ok (.lcmp, 1) := by decide +kernel
theorem d5_17 : decode jdk_35_method_24_code 17 = .ok (.ifCond .gt 14, 3) := by decide +kernel
theorem d5_20 : decode jdk_35_method_24_code 20 = .ok (.getstatic 234, 3) := by decide +kernel
theorem d5_23 : decode jdk_35_method_24_code 23 = .ok (.lload_n 0, 1) := by decide +kernel
theorem d5_24 : decode jdk_35_method_24_code 24 = .ok (.l2i, 1) := by decide +kernel
theorem d5_25 : decode jdk_35_method_24_code 25 = .ok (.sipush 128, 3) := by decide +kernel
theorem d5_28 : decode jdk_35_method_24_code 28 = .ok (.iadd, 1) := by decide +kernel
theorem d5_29 : decode jdk_35_method_24_code 29 = .ok (.aaload, 1) := by decide +kernel
theorem d5_30 : decode jdk_35_method_24_code 30 = .ok (.areturn, 1) := by decide +kernel
theorem d5_31 : decode jdk_35_method_24_code 31 = .ok (.new 1, 3) := by decide +kernel
theorem d5_34 : decode jdk_35_method_24_code 34 = .ok (.dup, 1) := by decide +kernel
theorem d5_35 : decode jdk_35_method_24_code 35 = .ok (.lload_n 0, 1) := by decide +kernel
theorem d5_36 : decode jdk_35_method_24_code 36 = .ok (.invokespecial 240, 3) := by decide +kernel
theorem d5_39 : decode jdk_35_method_24_code 39 = .ok (.areturn, 1) := by decide +kernel
theorem pn_5 : plainName "java/lang/Long" = true := by first | (simp [plainName, overriddenIn]; done) | decide +kernel
theorem d6_0 : decode jdk_35_method_26_code 0 = .ok (.aload_n 0, 1) := by decide +kernel
theorem d6_1 : decode jdk_35_method_26_code 1 = .ok (.invokespecial 270, 3) := by decide +kernel
theorem d6_4 : decode jdk_35_method_26_code 4 = .ok (.aload_n 0, 1) := by decide +kernel
theorem d6_5 : decode jdk_35_method_26_code 5 = .ok (.lload_n 1, 1) := by decide +kernel
theorem d6_6 : decode jdk_35_method_26_code 6 = .ok (.putfield 273, 3) := by decide +kernel
theorem d6_9 : decode jdk_35_method_26_code 9 = .ok (.return_, 1) := by decide +kernel
theorem pn_6 : plainName "java/lang/Long" = true := by first | (simp [plainName, overriddenIn]; done) | decide +kernel
theorem d7_0 : decode jdk_18_method_1_code 0 = .ok (.aload_n 0, 1) := by decide +kernel
theorem d7_1 : decode jdk_18_method_1_code 1 = .ok (.invokespecial 1, 3) := by decide +kernel
theorem d7_4 : decode jdk_18_method_1_code 4 = .ok (.return_, 1) := by decide +kernel
theorem pn_7 : plainName "java/lang/Number" = true := by first | (simp [plainName, overriddenIn]; done) | decide +kernel
theorem ef_7 (m : MethodId) (a1 : Addr) : entryFrame m #[(.ref a1)] 1 = mkF m 0 #[.val (.ref a1)] [] := by first | (simp [entryFrame, mkF, argsToLocals, Value.category]; done) | rfl
def Q7 (h0 : Heap) (n0 : Nat) (v : Option Value) (h : Heap) (L : List Loc) : Prop := v = none ∧ Fr n0 L ∧ h = h0
set_option maxRecDepth 65536 in
set_option maxHeartbeats 40000000 in
theorem rm7 (l : Launch) (Z : State) (a0 : Array Value) (hw : ∀ d ∈ tables_1, d.before a0 Z = true) (ws : List Jvm.Cond) (a1 : Addr) (h0 : Heap) (n0 : Nat) (Z0 : n0 ≤ h0.size) :
    MetFree l (⟨"java/lang/Number", "<init>", "()V"⟩ : MethodName) (head1 (Jvm.Cond.code (⟨"java/lang/Number", "<init>", "()V"⟩ : MethodName) jdk_18_method_1_code 1 none :: ws) ({ frames := 1, cells := 0, slots := 0, locals := 12 } : Room)) (fun a U => a = #[(.ref a1)] ∧ Z.Warmed39 U.vm ∧ U.heap = h0) (fun _ _ _ _ _ => True) (fun _ U o U' => ∃ v L, o = .returned v ∧ Q7 h0 n0 v U'.heap L ∧ FrameEnd U o U' L ({ frames := 1, cells := 0, slots := 0, locals := 12 } : Room).cells ({ frames := 1, cells := 0, slots := 0, locals := 12 } : Room).slots) := by
  refine MetFree.of_bodySF (plainFor_of_name pn_7) hisR ?_
  intro p e s m args below meth c s₁ Bd hml0 hP hK
  obtain ⟨rfl, hZ, hh⟩ := hP
  have hx := Bd.exec
  have hby := Bd.bytes
  have hml : c.maxLocals = 1 := hml0
  have hown : s.vm.findClass "java/lang/Number" = some m.cls := findClass_of_methodNamed Bd.named
  have hnm := (name_of_methodNamed Bd.named Bd.method).1
  have X0 : Stand p l e ({ frames := 1, cells := 0, slots := 0, locals := 12 } : Room) s m #[(.ref a1)] below meth c s₁ [] 0 0 := Stand.of_body Bd
  have e0 : s₁.heap = h0 := by rw [← hh, Bd.state]; rfl
  have N0 := Fr.nil n0
  have pre0 : ∀ tgt, Steps p.tables e below (s₁.setTop (mkF m 0 #[.val (.ref a1)] [])) tgt → Steps p.tables e below (s₁.setTop (entryFrame m #[(.ref a1)] 1)) tgt := fun tgt k => castTop (ef_7 m a1) k
  obtain ⟨T1, X1, e1, st1⟩ := initO X0 hx hZ hown (hw _ (List.mem_of_getElem? (i := 66) rfl)) (hw _ (List.mem_of_getElem? (i := 14) rfl)) (hw _ (List.mem_of_getElem? (i := 15) rfl)) e0 (g := (mkF m 1 #[.val (.ref a1)] [(.ref a1)])) rfl (by rw [hml]; rfl) rfl (hb hby d7_1) (by decide) (W := 0) (by show 2 * 0 + _ ≤ _; exact Nat.le_of_eq rfl) (by decide)
  obtain ⟨fs, hr, hrun, hended, hW, hsame⟩ := X1.leave (v := none) (fun _ => rfl)
  refine ⟨_, _, pre0 _ ?_, hrun, hended, _, _, rfl, ?_, ⟨_, rfl⟩, hW, hsame.mono (by decide) (by decide)⟩
  · show Steps p.tables e below (s₁.setTop (mkF m 0 #[.val (.ref a1)] [])) _
    refine XS.aloadN X0.here hx rfl (hb hby d7_0) rfl rfl ?_
    show Steps p.tables e below (s₁.setTop (mkF m 1 #[.val (.ref a1)] [(.ref a1)])) _
    refine st1 _ ?_
    show Steps p.tables e below (T1.setTop (mkF m 4 #[.val (.ref a1)] [])) _
    exact X1.returnOut hx Bd.returns (hb hby d7_4) hr
  · show Q7 h0 n0 _ T1.heap _
    rw [e1]
    exact ⟨rfl, N0, rfl⟩
theorem ef_6 (m : MethodId) (a1 : Addr) (x1 : Int64) : entryFrame m #[(.ref a1), (.long x1)] 3 = mkF m 0 #[.val (.ref a1), .val (.long x1), .second] [] := by first | (simp [entryFrame, mkF, argsToLocals, Value.category]; done) | rfl
def Q6 (Z : State) (a1 : Addr) (h0 : Heap) (n0 : Nat) (v : Option Value) (h : Heap) (L : List Loc) : Prop := v = none ∧ Fr n0 L ∧ Keep h0 h [a1] ∧ Exa Z h a1 "java/lang/Long"
set_option maxRecDepth 65536 in
set_option maxHeartbeats 40000000 in
theorem rm6 (l : Launch) (Z : State) (a0 : Array Value) (hw : ∀ d ∈ tables_1, d.before a0 Z = true) (ws : List Jvm.Cond) (a1 : Addr) (x1 : Int64) (u1 : Value) (h0 : Heap) (n0 : Nat) (Z0 : n0 ≤ h0.size) (E_a1 : Exa Z h0 a1 "java/lang/Long") (g_a1 : n0 ≤ a1) (F_value : Fld Z h0 a1 "java/lang/Long" "value" "J" u1) :
    MetFree l (⟨"java/lang/Long", "<init>", "(J)V"⟩ : MethodName) (head1 (Jvm.Cond.code (⟨"java/lang/Long", "<init>", "(J)V"⟩ : MethodName) jdk_35_method_26_code 3 none :: ws) ({ frames := 2, cells := 0, slots := 0, locals := 24 } : Room)) (fun a U => a = #[(.ref a1), (.long x1)] ∧ Z.Warmed39 U.vm ∧ U.heap = h0) (fun _ _ _ _ _ => True) (fun _ U o U' => ∃ v L, o = .returned v ∧ Q6 Z a1 h0 n0 v U'.heap L ∧ FrameEnd U o U' L ({ frames := 2, cells := 0, slots := 0, locals := 24 } : Room).cells ({ frames := 2, cells := 0, slots := 0, locals := 24 } : Room).slots) := by
  refine MetFree.of_bodySF (plainFor_of_name pn_6) hisR ?_
  intro p e s m args below meth c s₁ Bd hml0 hP hK
  obtain ⟨rfl, hZ, hh⟩ := hP
  have hx := Bd.exec
  have hby := Bd.bytes
  have hml : c.maxLocals = 3 := hml0
  have hown : s.vm.findClass "java/lang/Long" = some m.cls := findClass_of_methodNamed Bd.named
  have hnm := (name_of_methodNamed Bd.named Bd.method).1
  have X0 : Stand p l e ({ frames := 2, cells := 0, slots := 0, locals := 24 } : Room) s m #[(.ref a1), (.long x1)] below meth c s₁ [] 0 0 := Stand.of_body Bd
  have e0 : s₁.heap = h0 := by rw [← hh, Bd.state]; rfl
  have N0 := Fr.nil n0
  have pre0 : ∀ tgt, Steps p.tables e below (s₁.setTop (mkF m 0 #[.val (.ref a1), .val (.long x1), .second] [])) tgt → Steps p.tables e below (s₁.setTop (entryFrame m #[(.ref a1), (.long x1)] 3)) tgt := fun tgt k => castTop (ef_6 m a1 x1) k
  obtain ⟨_, _, ⟨T1, L1, k1, n1⟩, -, X1, ⟨Lc1, hQ1, l1, y1, z1⟩, st1⟩ := X0.specialBack hx (y := (⟨"java/lang/Number", "<init>", "()V"⟩ : MethodName)) rfl hown (mvT hZ (hw _ (List.mem_of_getElem? (i := 60) rfl))) (mvT hZ (hw _ (List.mem_of_getElem? (i := 61) rfl))) (mvT hZ (hw _ (List.mem_of_getElem? (i := 65) rfl))) (by decide) (backOf (W := 0) (rm7 l Z a0 hw [] a1 h0 n0 Z0) hZ (hw _ (List.mem_of_getElem? (i := 65) rfl)) (hw _ (List.mem_of_getElem? (i := 64) rfl)) (by decide) (by decide)) (g := (mkF m 1 #[.val (.ref a1), .val (.long x1), .second] [(.ref a1)])) rfl (by rw [hml]; rfl) (Steps.refl _) (a := a1) (argsL := []) (rest := []) (lenOf pd_0 rfl) rfl (by show 2 * 0 + _ ≤ _; exact Nat.le_of_eq rfl) (hb hby d6_1) (fun _ _ => ⟨rfl, e0, (by decide : 0 + 0 ≤ _), (by decide : 0 + 0 ≤ _)⟩)
  dsimp only [Pt.U, Pt.locs, Pt.cells, Pt.slots] at X1 l1 y1 z1 st1 hQ1
  subst l1 y1 z1
  obtain ⟨rfl, N1q, e1⟩ := hQ1
  have N1 := Fr.app N0 N1q
  obtain ⟨T2, h2, X2, e2, W2, st2⟩ := putF X1 hx hZ hown (host := "") (Or.inl (hw _ (List.mem_of_getElem? (i := 67) rfl))) Via.refl e1 F_value E_a1 (Or.inr ⟨(hw _ (List.mem_of_getElem? (i := 68) rfl)), rfl, hnm⟩) (hw _ (List.mem_of_getElem? (i := 55) rfl)) (ty := .long) (by decide) rfl rfl (g := (mkF m 6 #[.val (.ref a1), .val (.long x1), .second] [(.long x1), (.ref a1)])) rfl rfl (hb hby d6_6)
  have Fw2 := F_value.same W2
  have N2 := Fr.snoc X2 N1 g_a1
  obtain ⟨fs, hr, hrun, hended, hW, hsame⟩ := X2.leave (v := none) (fun _ => rfl)
  refine ⟨_, _, pre0 _ ?_, hrun, hended, _, _, rfl, ?_, ⟨_, rfl⟩, hW, hsame.mono (by decide) (by decide)⟩
  · show Steps p.tables e below (s₁.setTop (mkF m 0 #[.val (.ref a1), .val (.long x1), .second] [])) _
    refine XS.aloadN X0.here hx rfl (hb hby d6_0) rfl rfl ?_
    show Steps p.tables e below (s₁.setTop (mkF m 1 #[.val (.ref a1), .val (.long x1), .second] [(.ref a1)])) _
    refine st1.trans ?_
    show Steps p.tables e below (T1.setTop (mkF m 4 #[.val (.ref a1), .val (.long x1), .second] [])) _
    refine XS.aloadN X1.here hx rfl (hb hby d6_4) rfl rfl ?_
    show Steps p.tables e below (T1.setTop (mkF m 5 #[.val (.ref a1), .val (.long x1), .second] [(.ref a1)])) _
    refine XS.lloadN X1.here hx rfl (hb hby d6_5) rfl ?_
    show Steps p.tables e below (T1.setTop (mkF m 6 #[.val (.ref a1), .val (.long x1), .second] [(.long x1), (.ref a1)])) _
    refine st2 _ ?_
    show Steps p.tables e below (T2.setTop (mkF m 9 #[.val (.ref a1), .val (.long x1), .second] [])) _
    exact X2.returnOut hx Bd.returns (hb hby d6_9) hr
  · show Q6 Z a1 h0 n0 _ T2.heap _
    rw [e2]
    exact ⟨rfl, N2, ((Keep.refl h0 [a1]).wr W2 (Or.inl (List.mem_of_getElem? (i := 0) rfl))), (E_a1.wr W2)⟩
theorem ef_5 (m : MethodId) (x1 : Int64) : entryFrame m #[(.long x1)] 3 = mkF m 0 #[.val (.long x1), .second, .unset] [] := by first | (simp [entryFrame, mkF, argsToLocals, Value.category]; done) | rfl
def Q5 (Z : State) (h0 : Heap) (n0 : Nat) (v : Option Value) (h : Heap) (L : List Loc) : Prop := ∃ r : Addr, v = some (.ref r) ∧ Fr n0 L ∧ Keep h0 h [] ∧ Exa Z h r "java/lang/Long"
set_option maxRecDepth 65536 in
set_option maxHeartbeats 40000000 in
theorem rm5 (l : Launch) (Z : State) (a0 : Array Value) (hw : ∀ d ∈ tables_1, d.before a0 Z = true) (ws : List Jvm.Cond) (x1 : Int64) (h0 : Heap) (n0 : Nat) (Z0 : n0 ≤ h0.size) (O0 : Old Z n0 h0) (CC : own_cache Z) :
    MetFree l (⟨"java/lang/Long", "valueOf", "(J)Ljava/lang/Long;"⟩ : MethodName) (head1 (Jvm.Cond.code (⟨"java/lang/Long", "valueOf", "(J)Ljava/lang/Long;"⟩ : MethodName) jdk_35_method_24_code 3 (some (.object "java/lang/Long")) :: ws) ({ frames := 3, cells := 1, slots := 1, locals := 39 } : Room)) (fun a U => a = #[(.long x1)] ∧ Z.Warmed39 U.vm ∧ U.heap = h0) (fun _ _ _ _ _ => True) (fun _ U o U' => ∃ v L, o = .returned v ∧ Q5 Z h0 n0 v U'.heap L ∧ FrameEnd U o U' L ({ frames := 3, cells := 1, slots := 1, locals := 39 } : Room).cells ({ frames := 3, cells := 1, slots := 1, locals := 39 } : Room).slots) := by
  refine MetFree.of_bodySF (plainFor_of_name pn_5) hisR ?_
  intro p e s m args below meth c s₁ Bd hml0 hP hK
  obtain ⟨rfl, hZ, hh⟩ := hP
  have hx := Bd.exec
  have hby := Bd.bytes
  have hml : c.maxLocals = 3 := hml0
  have hown : s.vm.findClass "java/lang/Long" = some m.cls := findClass_of_methodNamed Bd.named
  have hnm := (name_of_methodNamed Bd.named Bd.method).1
  have X0 : Stand p l e ({ frames := 3, cells := 1, slots := 1, locals := 39 } : Room) s m #[(.long x1)] below meth c s₁ [] 0 0 := Stand.of_body Bd
  have e0 : s₁.heap = h0 := by rw [← hh, Bd.state]; rfl
  have N0 := Fr.nil n0
  have pre0 : ∀ tgt, Steps p.tables e below (s₁.setTop (mkF m 0 #[.val (.long x1), .second, .unset] [])) tgt → Steps p.tables e below (s₁.setTop (entryFrame m #[(.long x1)] 3)) tgt := fun tgt k => castTop (ef_5 m x1) k
  obtain ⟨wc, cl, CSta, CA, CS, CH⟩ := CC
  by_cases hc9 : (lcmpW x1 (-128 : Int64)) < (0 : Int32)
  ·
    obtain ⟨T1, h1, X1, e1, E1, A1, D1, -, st1⟩ := newO X0 hx hZ hown (hw _ (List.mem_of_getElem? (i := 54) rfl)) (hw _ (List.mem_of_getElem? (i := 55) rfl)) (hw _ (List.mem_of_getElem? (i := 45) rfl)) e0 (g := (mkF m 31 #[.val (.long x1), .second, .val (.int (128 : Int32))] [])) rfl (hb hby d5_31) (by decide) (by decide)
    obtain ⟨b1, g1⟩ : ∃ z, z = h0.size := ⟨_, rfl⟩
    rw [← g1] at A1 D1 st1
    have g_b1 : n0 ≤ b1 := Nat.le_trans Z0 (Nat.le_of_eq g1.symm)
    have sz_b1 : h0.size ≤ b1 := Nat.le_trans (Nat.le_refl _) (Nat.le_of_eq g1.symm)
    have E_b1 := A1
    have F_value_b1 : Fld Z h1 b1 "java/lang/Long" "value" "J" (.long (0 : Int64)) := D1 (Or.inr (hw _ (List.mem_of_getElem? (i := 68) rfl))) (ty := .long) (by decide)
    obtain ⟨_, _, ⟨T2, L2, k2, n2⟩, -, X2, ⟨Lc2, hQ2, l2, y2, z2⟩, st2⟩ := X1.specialBack hx (y := (⟨"java/lang/Long", "<init>", "(J)V"⟩ : MethodName)) rfl hown (mvT hZ (hw _ (List.mem_of_getElem? (i := 56) rfl))) (mvT hZ (hw _ (List.mem_of_getElem? (i := 57) rfl))) (mvT hZ (hw _ (List.mem_of_getElem? (i := 59) rfl))) (by decide) (backOf (W := 1) (rm6 l Z a0 hw [] b1 x1 ((.long (0 : Int64))) h1 n0 (Nat.le_trans Z0 E1.1) E_b1 g_b1 F_value_b1) hZ (hw _ (List.mem_of_getElem? (i := 59) rfl)) (hw _ (List.mem_of_getElem? (i := 45) rfl)) (by decide) (by decide)) (g := (mkF m 36 #[.val (.long x1), .second, .val (.int (128 : Int32))] [(.long x1), (.ref b1), (.ref b1)])) rfl (by rw [hml]; rfl) (Steps.refl _) (a := b1) (argsL := [(.long x1)]) (rest := [(.ref b1)]) (lenOf pd_1 rfl) rfl (by show 2 * 0 + _ ≤ _; exact Nat.le_of_eq rfl) (hb hby d5_36) (fun _ _ => ⟨rfl, e1, (by decide : 1 + 0 ≤ _), (by decide : 1 + 0 ≤ _)⟩)
    dsimp only [Pt.U, Pt.locs, Pt.cells, Pt.slots] at X2 l2 y2 z2 st2 hQ2
    subst l2 y2 z2
    obtain ⟨rfl, N2q, K2, E2⟩ := hQ2
    have N2 := Fr.app N0 N2q
    obtain ⟨fs, hr, hrun, hended, hW, hsame⟩ := X2.leave (v := some (.ref b1)) (fun h => by rw [Bd.returns] at h; cases h)
    refine ⟨_, _, pre0 _ ?_, hrun, hended, _, _, rfl, ?_, ⟨_, rfl⟩, hW, hsame.mono (by decide) (by decide)⟩
    · show Steps p.tables e below (s₁.setTop (mkF m 0 #[.val (.long x1), .second, .unset] [])) _
      refine XS.sipush X0.here hx rfl (hb hby d5_0) ?_
      show Steps p.tables e below (s₁.setTop (mkF m 3 #[.val (.long x1), .second, .unset] [(.int (128 : Int32))])) _
      refine XS.istoreN X0.here hx rfl (hb hby d5_3) rfl (l' := #[.val (.long x1), .second, .val (.int (128 : Int32))]) rfl ?_
      show Steps p.tables e below (s₁.setTop (mkF m 4 #[.val (.long x1), .second, .val (.int (128 : Int32))] [])) _
      refine XS.lloadN X0.here hx rfl (hb hby d5_4) rfl ?_
      show Steps p.tables e below (s₁.setTop (mkF m 5 #[.val (.long x1), .second, .val (.int (128 : Int32))] [(.long x1)])) _
      refine X0.ldc2Long hx hown (mvT hZ (hw _ (List.mem_of_getElem? (i := 47) rfl))) (g := (mkF m 5 #[.val (.long x1), .second, .val (.int (128 : Int32))] [(.long x1)])) rfl (hb hby d5_5) _ ?_
      show Steps p.tables e below (s₁.setTop (mkF m 8 #[.val (.long x1), .second, .val (.int (128 : Int32))] [(.long (-128 : Int64)), (.long x1)])) _
      refine XS.lcmp X0.here hx rfl (hb hby d5_8) rfl ?_
      show Steps p.tables e below (s₁.setTop (mkF m 9 #[.val (.long x1), .second, .val (.int (128 : Int32))] [(.int (lcmpW x1 (-128 : Int64)))])) _
      refine XS.ifYes X0.here hx rfl (pc0 := 9) (pc' := 31) rfl (hb hby d5_9) rfl ((if0 _ _).trans (tlt hc9).1) (by decide) (by decide) ?_
      show Steps p.tables e below (s₁.setTop (mkF m 31 #[.val (.long x1), .second, .val (.int (128 : Int32))] [])) _
      refine st1 _ ?_
      show Steps p.tables e below (T1.setTop (mkF m 34 #[.val (.long x1), .second, .val (.int (128 : Int32))] [(.ref b1)])) _
      refine XS.dup X1.here hx rfl (hb hby d5_34) rfl rfl ?_
      show Steps p.tables e below (T1.setTop (mkF m 35 #[.val (.long x1), .second, .val (.int (128 : Int32))] [(.ref b1), (.ref b1)])) _
      refine XS.lloadN X1.here hx rfl (hb hby d5_35) rfl ?_
      show Steps p.tables e below (T1.setTop (mkF m 36 #[.val (.long x1), .second, .val (.int (128 : Int32))] [(.long x1), (.ref b1), (.ref b1)])) _
      refine st2.trans ?_
      show Steps p.tables e below (T2.setTop (mkF m 39 #[.val (.long x1), .second, .val (.int (128 : Int32))] [(.ref b1)])) _
      jvm_step X2.here [X2.here.top, hx, (hb hby d5_39), X2.method', Bd.returns, Value.isRef, FieldType.isReference]
      first | (intro acts; rw [hr _ acts rfl rfl rfl]) | rw [hr _ _ rfl rfl rfl]
      exact Steps.refl _
    · show Q5 Z h0 n0 _ T2.heap _
      exact ⟨b1, rfl, N2, (((Keep.refl h0 []).ext E1).trans K2 (allS (Or.inr sz_b1) all0)), E2⟩
  ·
    by_cases hc17 : (0 : Int32) < (lcmpW x1 (127 : Int64))
    ·
      obtain ⟨T3, h3, X3, e3, E3, A3, D3, -, st3⟩ := newO X0 hx hZ hown (hw _ (List.mem_of_getElem? (i := 54) rfl)) (hw _ (List.mem_of_getElem? (i := 55) rfl)) (hw _ (List.mem_of_getElem? (i := 45) rfl)) e0 (g := (mkF m 31 #[.val (.long x1), .second, .val (.int (128 : Int32))] [])) rfl (hb hby d5_31) (by decide) (by decide)
      obtain ⟨b3, g3⟩ : ∃ z, z = h0.size := ⟨_, rfl⟩
      rw [← g3] at A3 D3 st3
      have g_b3 : n0 ≤ b3 := Nat.le_trans Z0 (Nat.le_of_eq g3.symm)
      have sz_b3 : h0.size ≤ b3 := Nat.le_trans (Nat.le_refl _) (Nat.le_of_eq g3.symm)
      have E_b3 := A3
      have F_value_b3 : Fld Z h3 b3 "java/lang/Long" "value" "J" (.long (0 : Int64)) := D3 (Or.inr (hw _ (List.mem_of_getElem? (i := 68) rfl))) (ty := .long) (by decide)
      obtain ⟨_, _, ⟨T4, L4, k4, n4⟩, -, X4, ⟨Lc4, hQ4, l4, y4, z4⟩, st4⟩ := X3.specialBack hx (y := (⟨"java/lang/Long", "<init>", "(J)V"⟩ : MethodName)) rfl hown (mvT hZ (hw _ (List.mem_of_getElem? (i := 56) rfl))) (mvT hZ (hw _ (List.mem_of_getElem? (i := 57) rfl))) (mvT hZ (hw _ (List.mem_of_getElem? (i := 59) rfl))) (by decide) (backOf (W := 1) (rm6 l Z a0 hw [] b3 x1 ((.long (0 : Int64))) h3 n0 (Nat.le_trans Z0 E3.1) E_b3 g_b3 F_value_b3) hZ (hw _ (List.mem_of_getElem? (i := 59) rfl)) (hw _ (List.mem_of_getElem? (i := 45) rfl)) (by decide) (by decide)) (g := (mkF m 36 #[.val (.long x1), .second, .val (.int (128 : Int32))] [(.long x1), (.ref b3), (.ref b3)])) rfl (by rw [hml]; rfl) (Steps.refl _) (a := b3) (argsL := [(.long x1)]) (rest := [(.ref b3)]) (lenOf pd_1 rfl) rfl (by show 2 * 0 + _ ≤ _; exact Nat.le_of_eq rfl) (hb hby d5_36) (fun _ _ => ⟨rfl, e3, (by decide : 1 + 0 ≤ _), (by decide : 1 + 0 ≤ _)⟩)
      dsimp only [Pt.U, Pt.locs, Pt.cells, Pt.slots] at X4 l4 y4 z4 st4 hQ4
      subst l4 y4 z4
      obtain ⟨rfl, N4q, K4, E4⟩ := hQ4
      have N4 := Fr.app N0 N4q
      obtain ⟨fs, hr, hrun, hended, hW, hsame⟩ := X4.leave (v := some (.ref b3)) (fun h => by rw [Bd.returns] at h; cases h)
      refine ⟨_, _, pre0 _ ?_, hrun, hended, _, _, rfl, ?_, ⟨_, rfl⟩, hW, hsame.mono (by decide) (by decide)⟩
      · show Steps p.tables e below (s₁.setTop (mkF m 0 #[.val (.long x1), .second, .unset] [])) _
        refine XS.sipush X0.here hx rfl (hb hby d5_0) ?_
        show Steps p.tables e below (s₁.setTop (mkF m 3 #[.val (.long x1), .second, .unset] [(.int (128 : Int32))])) _
        refine XS.istoreN X0.here hx rfl (hb hby d5_3) rfl (l' := #[.val (.long x1), .second, .val (.int (128 : Int32))]) rfl ?_
        show Steps p.tables e below (s₁.setTop (mkF m 4 #[.val (.long x1), .second, .val (.int (128 : Int32))] [])) _
        refine XS.lloadN X0.here hx rfl (hb hby d5_4) rfl ?_
        show Steps p.tables e below (s₁.setTop (mkF m 5 #[.val (.long x1), .second, .val (.int (128 : Int32))] [(.long x1)])) _
        refine X0.ldc2Long hx hown (mvT hZ (hw _ (List.mem_of_getElem? (i := 47) rfl))) (g := (mkF m 5 #[.val (.long x1), .second, .val (.int (128 : Int32))] [(.long x1)])) rfl (hb hby d5_5) _ ?_
        show Steps p.tables e below (s₁.setTop (mkF m 8 #[.val (.long x1), .second, .val (.int (128 : Int32))] [(.long (-128 : Int64)), (.long x1)])) _
        refine XS.lcmp X0.here hx rfl (hb hby d5_8) rfl ?_
        show Steps p.tables e below (s₁.setTop (mkF m 9 #[.val (.long x1), .second, .val (.int (128 : Int32))] [(.int (lcmpW x1 (-128 : Int64)))])) _
        refine XS.ifNo X0.here hx rfl (hb hby d5_9) rfl ((if0 _ _).trans (flt hc9).1) ?_
        show Steps p.tables e below (s₁.setTop (mkF m 12 #[.val (.long x1), .second, .val (.int (128 : Int32))] [])) _
        refine XS.lloadN X0.here hx rfl (hb hby d5_12) rfl ?_
        show Steps p.tables e below (s₁.setTop (mkF m 13 #[.val (.long x1), .second, .val (.int (128 : Int32))] [(.long x1)])) _
        refine X0.ldc2Long hx hown (mvT hZ (hw _ (List.mem_of_getElem? (i := 48) rfl))) (g := (mkF m 13 #[.val (.long x1), .second, .val (.int (128 : Int32))] [(.long x1)])) rfl (hb hby d5_13) _ ?_
        show Steps p.tables e below (s₁.setTop (mkF m 16 #[.val (.long x1), .second, .val (.int (128 : Int32))] [(.long (127 : Int64)), (.long x1)])) _
        refine XS.lcmp X0.here hx rfl (hb hby d5_16) rfl ?_
        show Steps p.tables e below (s₁.setTop (mkF m 17 #[.val (.long x1), .second, .val (.int (128 : Int32))] [(.int (lcmpW x1 (127 : Int64)))])) _
        refine XS.ifYes X0.here hx rfl (pc0 := 17) (pc' := 31) rfl (hb hby d5_17) rfl ((if0 _ _).trans (tlt hc17).2.2.1) (by decide) (by decide) ?_
        show Steps p.tables e below (s₁.setTop (mkF m 31 #[.val (.long x1), .second, .val (.int (128 : Int32))] [])) _
        refine st3 _ ?_
        show Steps p.tables e below (T3.setTop (mkF m 34 #[.val (.long x1), .second, .val (.int (128 : Int32))] [(.ref b3)])) _
        refine XS.dup X3.here hx rfl (hb hby d5_34) rfl rfl ?_
        show Steps p.tables e below (T3.setTop (mkF m 35 #[.val (.long x1), .second, .val (.int (128 : Int32))] [(.ref b3), (.ref b3)])) _
        refine XS.lloadN X3.here hx rfl (hb hby d5_35) rfl ?_
        show Steps p.tables e below (T3.setTop (mkF m 36 #[.val (.long x1), .second, .val (.int (128 : Int32))] [(.long x1), (.ref b3), (.ref b3)])) _
        refine st4.trans ?_
        show Steps p.tables e below (T4.setTop (mkF m 39 #[.val (.long x1), .second, .val (.int (128 : Int32))] [(.ref b3)])) _
        jvm_step X4.here [X4.here.top, hx, (hb hby d5_39), X4.method', Bd.returns, Value.isRef, FieldType.isReference]
        first | (intro acts; rw [hr _ acts rfl rfl rfl]) | rw [hr _ _ rfl rfl rfl]
        exact Steps.refl _
      · show Q5 Z h0 n0 _ T4.heap _
        exact ⟨b3, rfl, N4, (((Keep.refl h0 []).ext E3).trans K4 (allS (Or.inr sz_b3) all0)), E4⟩
    ·
      obtain ⟨T5, X5, e5, st5⟩ := getS2 X0 hx hZ hown (host := "") (Or.inl (hw _ (List.mem_of_getElem? (i := 49) rfl))) Via.refl e0 (CSta.ext (own_old O0)) (g := (mkF m 20 #[.val (.long x1), .second, .val (.int (128 : Int32))] [])) rfl (hb hby d5_20)
      obtain ⟨r29, hat29, Er29⟩ := CH _ (own_place x1 hc9 hc17 CS)
      obtain ⟨fs, hr, hrun, hended, hW, hsame⟩ := X5.leave (v := some (.ref r29)) (fun h => by rw [Bd.returns] at h; cases h)
      refine ⟨_, _, pre0 _ ?_, hrun, hended, _, _, rfl, ?_, ⟨_, rfl⟩, hW, hsame.mono (by decide) (by decide)⟩
      · show Steps p.tables e below (s₁.setTop (mkF m 0 #[.val (.long x1), .second, .unset] [])) _
        refine XS.sipush X0.here hx rfl (hb hby d5_0) ?_
        show Steps p.tables e below (s₁.setTop (mkF m 3 #[.val (.long x1), .second, .unset] [(.int (128 : Int32))])) _
        refine XS.istoreN X0.here hx rfl (hb hby d5_3) rfl (l' := #[.val (.long x1), .second, .val (.int (128 : Int32))]) rfl ?_
        show Steps p.tables e below (s₁.setTop (mkF m 4 #[.val (.long x1), .second, .val (.int (128 : Int32))] [])) _
        refine XS.lloadN X0.here hx rfl (hb hby d5_4) rfl ?_
        show Steps p.tables e below (s₁.setTop (mkF m 5 #[.val (.long x1), .second, .val (.int (128 : Int32))] [(.long x1)])) _
        refine X0.ldc2Long hx hown (mvT hZ (hw _ (List.mem_of_getElem? (i := 47) rfl))) (g := (mkF m 5 #[.val (.long x1), .second, .val (.int (128 : Int32))] [(.long x1)])) rfl (hb hby d5_5) _ ?_
        show Steps p.tables e below (s₁.setTop (mkF m 8 #[.val (.long x1), .second, .val (.int (128 : Int32))] [(.long (-128 : Int64)), (.long x1)])) _
        refine XS.lcmp X0.here hx rfl (hb hby d5_8) rfl ?_
        show Steps p.tables e below (s₁.setTop (mkF m 9 #[.val (.long x1), .second, .val (.int (128 : Int32))] [(.int (lcmpW x1 (-128 : Int64)))])) _
        refine XS.ifNo X0.here hx rfl (hb hby d5_9) rfl ((if0 _ _).trans (flt hc9).1) ?_
        show Steps p.tables e below (s₁.setTop (mkF m 12 #[.val (.long x1), .second, .val (.int (128 : Int32))] [])) _
        refine XS.lloadN X0.here hx rfl (hb hby d5_12) rfl ?_
        show Steps p.tables e below (s₁.setTop (mkF m 13 #[.val (.long x1), .second, .val (.int (128 : Int32))] [(.long x1)])) _
        refine X0.ldc2Long hx hown (mvT hZ (hw _ (List.mem_of_getElem? (i := 48) rfl))) (g := (mkF m 13 #[.val (.long x1), .second, .val (.int (128 : Int32))] [(.long x1)])) rfl (hb hby d5_13) _ ?_
        show Steps p.tables e below (s₁.setTop (mkF m 16 #[.val (.long x1), .second, .val (.int (128 : Int32))] [(.long (127 : Int64)), (.long x1)])) _
        refine XS.lcmp X0.here hx rfl (hb hby d5_16) rfl ?_
        show Steps p.tables e below (s₁.setTop (mkF m 17 #[.val (.long x1), .second, .val (.int (128 : Int32))] [(.int (lcmpW x1 (127 : Int64)))])) _
        refine XS.ifNo X0.here hx rfl (hb hby d5_17) rfl ((if0 _ _).trans (flt hc17).2.2.1) ?_
        show Steps p.tables e below (s₁.setTop (mkF m 20 #[.val (.long x1), .second, .val (.int (128 : Int32))] [])) _
        refine st5 _ ?_
        show Steps p.tables e below (T5.setTop (mkF m 23 #[.val (.long x1), .second, .val (.int (128 : Int32))] [(.ref wc)])) _
        refine XS.lloadN X5.here hx rfl (hb hby d5_23) rfl ?_
        show Steps p.tables e below (T5.setTop (mkF m 24 #[.val (.long x1), .second, .val (.int (128 : Int32))] [(.long x1), (.ref wc)])) _
        refine XS.l2i X5.here hx rfl (hb hby d5_24) rfl ?_
        show Steps p.tables e below (T5.setTop (mkF m 25 #[.val (.long x1), .second, .val (.int (128 : Int32))] [(.int (x1.toInt32)), (.ref wc)])) _
        refine XS.sipush X5.here hx rfl (hb hby d5_25) ?_
        show Steps p.tables e below (T5.setTop (mkF m 28 #[.val (.long x1), .second, .val (.int (128 : Int32))] [(.int (128 : Int32)), (.int (x1.toInt32)), (.ref wc)])) _
        refine XS.iadd X5.here hx rfl (hb hby d5_28) rfl ?_
        show Steps p.tables e below (T5.setTop (mkF m 29 #[.val (.long x1), .second, .val (.int (128 : Int32))] [(.int ((x1.toInt32) + (128 : Int32))), (.ref wc)])) _
        refine X5.aaload hx (j := ((x1.toInt32) + (128 : Int32))) (v := (.ref r29)) (by rw [e5]; exact (CA.ext (own_old O0)).1) (State.isArrayOf_alike hZ.alike (CA.ext (own_old O0)).2.1) rfl (CA.ext (own_old O0)).2.2 (own_place x1 hc9 hc17 CS) hat29 (g := (mkF m 29 #[.val (.long x1), .second, .val (.int (128 : Int32))] [(.int ((x1.toInt32) + (128 : Int32))), (.ref wc)])) rfl rfl (hb hby d5_29) _ ?_
        show Steps p.tables e below (T5.setTop (mkF m 30 #[.val (.long x1), .second, .val (.int (128 : Int32))] [(.ref r29)])) _
        jvm_step X5.here [X5.here.top, hx, (hb hby d5_30), X5.method', Bd.returns, Value.isRef, FieldType.isReference]
        first | (intro acts; rw [hr _ acts rfl rfl rfl]) | rw [hr _ _ rfl rfl rfl]
        exact Steps.refl _
      · show Q5 Z h0 n0 _ T5.heap _
        rw [e5]
        exact ⟨r29, rfl, N0, (Keep.refl h0 []), (Er29.ext (own_old O0))⟩
theorem ef_1 (m : MethodId) (p1 : Int32) : entryFrame m #[(.int p1)] 2 = mkF m 0 #[.val (.int p1), .unset] [] := by first | (simp [entryFrame, mkF, argsToLocals, Value.category]; done) | rfl
def Q1 (p1 : Int32) (wU wA wC wP : Addr) (h0 : Heap) (n0 : Nat) (v : Option Value) (h : Heap) (L : List Loc) : Prop := v = some (.ref (own_cls p1 wU wA wC wP)) ∧ Fr n0 L ∧ h = h0
set_option maxRecDepth 65536 in
set_option maxHeartbeats 40000000 in
theorem rm1 (l : Launch) (Z : State) (a0 : Array Value) (hw : ∀ d ∈ tables_1, d.before a0 Z = true) (ws : List Jvm.Cond) (p1 : Int32) (wU wA wC wP : Addr) (h0 : Heap) (n0 : Nat) (Z0 : n0 ≤ h0.size) (O0 : Old Z n0 h0) (S_UNIVERSAL : Sta Z Z.heap "com/example/tagloom/tagloom/tlv/TagClass" "UNIVERSAL" "Lcom/example/tagloom/tagloom/tlv/TagClass;" (.ref wU)) (S_APPLICATION : Sta Z Z.heap "com/example/tagloom/tagloom/tlv/TagClass" "APPLICATION" "Lcom/example/tagloom/tagloom/tlv/TagClass;" (.ref wA)) (S_CONTEXT_SPECIFIC : Sta Z Z.heap "com/example/tagloom/tagloom/tlv/TagClass" "CONTEXT_SPECIFIC" "Lcom/example/tagloom/tagloom/tlv/TagClass;" (.ref wC)) (S_PRIVATE : Sta Z Z.heap "com/example/tagloom/tagloom/tlv/TagClass" "PRIVATE" "Lcom/example/tagloom/tagloom/tlv/TagClass;" (.ref wP)) :
    MetFree l (⟨"com/example/tagloom/tagloom/tlv/ElementEqualsPinLaw", "cls", "(I)Lcom/example/tagloom/tagloom/tlv/TagClass;"⟩ : MethodName) (head1 (Jvm.Cond.code (⟨"com/example/tagloom/tagloom/tlv/ElementEqualsPinLaw", "cls", "(I)Lcom/example/tagloom/tagloom/tlv/TagClass;"⟩ : MethodName) method_2_code 2 (some (.object "com/example/tagloom/tagloom/tlv/TagClass")) :: ws) ({ frames := 0, cells := 0, slots := 0, locals := 0 } : Room)) (fun a U => a = #[(.int p1)] ∧ Z.Warmed39 U.vm ∧ U.heap = h0) (fun _ _ _ _ _ => True) (fun _ U o U' => ∃ v L, o = .returned v ∧ Q1 p1 wU wA wC wP h0 n0 v U'.heap L ∧ FrameEnd U o U' L ({ frames := 0, cells := 0, slots := 0, locals := 0 } : Room).cells ({ frames := 0, cells := 0, slots := 0, locals := 0 } : Room).slots) := by
  refine MetFree.of_bodySF (plainFor_of_name pn_1) hisR ?_
  intro p e s m args below meth c s₁ Bd hml0 hP hK
  obtain ⟨rfl, hZ, hh⟩ := hP
  have hx := Bd.exec
  have hby := Bd.bytes
  have hml : c.maxLocals = 2 := hml0
  have hown : s.vm.findClass "com/example/tagloom/tagloom/tlv/ElementEqualsPinLaw" = some m.cls := findClass_of_methodNamed Bd.named
  have hnm := (name_of_methodNamed Bd.named Bd.method).1
  have X0 : Stand p l e ({ frames := 0, cells := 0, slots := 0, locals := 0 } : Room) s m #[(.int p1)] below meth c s₁ [] 0 0 := Stand.of_body Bd
  have e0 : s₁.heap = h0 := by rw [← hh, Bd.state]; rfl
  have N0 := Fr.nil n0
  have pre0 : ∀ tgt, Steps p.tables e below (s₁.setTop (mkF m 0 #[.val (.int p1), .unset] [])) tgt → Steps p.tables e below (s₁.setTop (entryFrame m #[(.int p1)] 2)) tgt := fun tgt k => castTop (ef_1 m p1) k
  by_cases hc5 : (p1 &&& (3 : Int32)) = (0 : Int32)
  ·
    obtain ⟨T1, X1, e1, st1⟩ := getS2 X0 hx hZ hown (host := "") (Or.inl (hw _ (List.mem_of_getElem? (i := 37) rfl))) Via.refl e0 (S_UNIVERSAL.ext (own_old O0)) (g := (mkF m 8 #[.val (.int p1), .val (.int (p1 &&& (3 : Int32)))] [])) rfl (hb hby d1_8)
    obtain ⟨fs, hr, hrun, hended, hW, hsame⟩ := X1.leave (v := some (.ref wU)) (fun h => by rw [Bd.returns] at h; cases h)
    refine ⟨_, _, pre0 _ ?_, hrun, hended, _, _, rfl, ?_, ⟨_, rfl⟩, hW, hsame.mono (by decide) (by decide)⟩
    · show Steps p.tables e below (s₁.setTop (mkF m 0 #[.val (.int p1), .unset] [])) _
      refine XS.iloadN X0.here hx rfl (hb hby d1_0) rfl ?_
      show Steps p.tables e below (s₁.setTop (mkF m 1 #[.val (.int p1), .unset] [(.int p1)])) _
      refine XS.iconst X0.here hx rfl (hb hby d1_1) ?_
      show Steps p.tables e below (s₁.setTop (mkF m 2 #[.val (.int p1), .unset] [(.int (3 : Int32)), (.int p1)])) _
      refine XS.iand X0.here hx rfl (hb hby d1_2) rfl ?_
      show Steps p.tables e below (s₁.setTop (mkF m 3 #[.val (.int p1), .unset] [(.int (p1 &&& (3 : Int32)))])) _
      refine XS.istoreN X0.here hx rfl (hb hby d1_3) rfl (l' := #[.val (.int p1), .val (.int (p1 &&& (3 : Int32)))]) rfl ?_
      show Steps p.tables e below (s₁.setTop (mkF m 4 #[.val (.int p1), .val (.int (p1 &&& (3 : Int32)))] [])) _
      refine XS.iloadN X0.here hx rfl (hb hby d1_4) rfl ?_
      show Steps p.tables e below (s₁.setTop (mkF m 5 #[.val (.int p1), .val (.int (p1 &&& (3 : Int32)))] [(.int (p1 &&& (3 : Int32)))])) _
      refine XS.ifNo X0.here hx rfl (hb hby d1_5) rfl ((if0 _ _).trans (teq hc5).2) ?_
      show Steps p.tables e below (s₁.setTop (mkF m 8 #[.val (.int p1), .val (.int (p1 &&& (3 : Int32)))] [])) _
      refine st1 _ ?_
      show Steps p.tables e below (T1.setTop (mkF m 11 #[.val (.int p1), .val (.int (p1 &&& (3 : Int32)))] [(.ref wU)])) _
      jvm_step X1.here [X1.here.top, hx, (hb hby d1_11), X1.method', Bd.returns, Value.isRef, FieldType.isReference]
      first | (intro acts; rw [hr _ acts rfl rfl rfl]) | rw [hr _ _ rfl rfl rfl]
      exact Steps.refl _
    · show Q1 p1 wU wA wC wP h0 n0 _ T1.heap _
      rw [e1]
      exact ⟨(by simp only [own_cls, if_pos hc5]), N0, rfl⟩
  ·
    by_cases hc14 : (p1 &&& (3 : Int32)) = (1 : Int32)
    ·
      obtain ⟨T2, X2, e2, st2⟩ := getS2 X0 hx hZ hown (host := "") (Or.inl (hw _ (List.mem_of_getElem? (i := 41) rfl))) Via.refl e0 (S_APPLICATION.ext (own_old O0)) (g := (mkF m 17 #[.val (.int p1), .val (.int (p1 &&& (3 : Int32)))] [])) rfl (hb hby d1_17)
      obtain ⟨fs, hr, hrun, hended, hW, hsame⟩ := X2.leave (v := some (.ref wA)) (fun h => by rw [Bd.returns] at h; cases h)
      refine ⟨_, _, pre0 _ ?_, hrun, hended, _, _, rfl, ?_, ⟨_, rfl⟩, hW, hsame.mono (by decide) (by decide)⟩
      · show Steps p.tables e below (s₁.setTop (mkF m 0 #[.val (.int p1), .unset] [])) _
        refine XS.iloadN X0.here hx rfl (hb hby d1_0) rfl ?_
        show Steps p.tables e below (s₁.setTop (mkF m 1 #[.val (.int p1), .unset] [(.int p1)])) _
        refine XS.iconst X0.here hx rfl (hb hby d1_1) ?_
        show Steps p.tables e below (s₁.setTop (mkF m 2 #[.val (.int p1), .unset] [(.int (3 : Int32)), (.int p1)])) _
        refine XS.iand X0.here hx rfl (hb hby d1_2) rfl ?_
        show Steps p.tables e below (s₁.setTop (mkF m 3 #[.val (.int p1), .unset] [(.int (p1 &&& (3 : Int32)))])) _
        refine XS.istoreN X0.here hx rfl (hb hby d1_3) rfl (l' := #[.val (.int p1), .val (.int (p1 &&& (3 : Int32)))]) rfl ?_
        show Steps p.tables e below (s₁.setTop (mkF m 4 #[.val (.int p1), .val (.int (p1 &&& (3 : Int32)))] [])) _
        refine XS.iloadN X0.here hx rfl (hb hby d1_4) rfl ?_
        show Steps p.tables e below (s₁.setTop (mkF m 5 #[.val (.int p1), .val (.int (p1 &&& (3 : Int32)))] [(.int (p1 &&& (3 : Int32)))])) _
        refine XS.ifYes X0.here hx rfl (pc0 := 5) (pc' := 12) rfl (hb hby d1_5) rfl ((if0 _ _).trans (feq hc5).2) (by decide) (by decide) ?_
        show Steps p.tables e below (s₁.setTop (mkF m 12 #[.val (.int p1), .val (.int (p1 &&& (3 : Int32)))] [])) _
        refine XS.iloadN X0.here hx rfl (hb hby d1_12) rfl ?_
        show Steps p.tables e below (s₁.setTop (mkF m 13 #[.val (.int p1), .val (.int (p1 &&& (3 : Int32)))] [(.int (p1 &&& (3 : Int32)))])) _
        refine XS.iconst X0.here hx rfl (hb hby d1_13) ?_
        show Steps p.tables e below (s₁.setTop (mkF m 14 #[.val (.int p1), .val (.int (p1 &&& (3 : Int32)))] [(.int (1 : Int32)), (.int (p1 &&& (3 : Int32)))])) _
        refine XS.icmpNo X0.here hx rfl (hb hby d1_14) rfl (teq hc14).2 ?_
        show Steps p.tables e below (s₁.setTop (mkF m 17 #[.val (.int p1), .val (.int (p1 &&& (3 : Int32)))] [])) _
        refine st2 _ ?_
        show Steps p.tables e below (T2.setTop (mkF m 20 #[.val (.int p1), .val (.int (p1 &&& (3 : Int32)))] [(.ref wA)])) _
        jvm_step X2.here [X2.here.top, hx, (hb hby d1_20), X2.method', Bd.returns, Value.isRef, FieldType.isReference]
        first | (intro acts; rw [hr _ acts rfl rfl rfl]) | rw [hr _ _ rfl rfl rfl]
        exact Steps.refl _
      · show Q1 p1 wU wA wC wP h0 n0 _ T2.heap _
        rw [e2]
        exact ⟨(by simp only [own_cls, if_neg hc5, if_pos hc14]), N0, rfl⟩
    ·
      by_cases hc23 : (p1 &&& (3 : Int32)) = (2 : Int32)
      ·
        obtain ⟨T3, X3, e3, st3⟩ := getS2 X0 hx hZ hown (host := "") (Or.inl (hw _ (List.mem_of_getElem? (i := 7) rfl))) Via.refl e0 (S_CONTEXT_SPECIFIC.ext (own_old O0)) (g := (mkF m 26 #[.val (.int p1), .val (.int (p1 &&& (3 : Int32)))] [])) rfl (hb hby d1_26)
        obtain ⟨fs, hr, hrun, hended, hW, hsame⟩ := X3.leave (v := some (.ref wC)) (fun h => by rw [Bd.returns] at h; cases h)
        refine ⟨_, _, pre0 _ ?_, hrun, hended, _, _, rfl, ?_, ⟨_, rfl⟩, hW, hsame.mono (by decide) (by decide)⟩
        · show Steps p.tables e below (s₁.setTop (mkF m 0 #[.val (.int p1), .unset] [])) _
          refine XS.iloadN X0.here hx rfl (hb hby d1_0) rfl ?_
          show Steps p.tables e below (s₁.setTop (mkF m 1 #[.val (.int p1), .unset] [(.int p1)])) _
          refine XS.iconst X0.here hx rfl (hb hby d1_1) ?_
          show Steps p.tables e below (s₁.setTop (mkF m 2 #[.val (.int p1), .unset] [(.int (3 : Int32)), (.int p1)])) _
          refine XS.iand X0.here hx rfl (hb hby d1_2) rfl ?_
          show Steps p.tables e below (s₁.setTop (mkF m 3 #[.val (.int p1), .unset] [(.int (p1 &&& (3 : Int32)))])) _
          refine XS.istoreN X0.here hx rfl (hb hby d1_3) rfl (l' := #[.val (.int p1), .val (.int (p1 &&& (3 : Int32)))]) rfl ?_
          show Steps p.tables e below (s₁.setTop (mkF m 4 #[.val (.int p1), .val (.int (p1 &&& (3 : Int32)))] [])) _
          refine XS.iloadN X0.here hx rfl (hb hby d1_4) rfl ?_
          show Steps p.tables e below (s₁.setTop (mkF m 5 #[.val (.int p1), .val (.int (p1 &&& (3 : Int32)))] [(.int (p1 &&& (3 : Int32)))])) _
          refine XS.ifYes X0.here hx rfl (pc0 := 5) (pc' := 12) rfl (hb hby d1_5) rfl ((if0 _ _).trans (feq hc5).2) (by decide) (by decide) ?_
          show Steps p.tables e below (s₁.setTop (mkF m 12 #[.val (.int p1), .val (.int (p1 &&& (3 : Int32)))] [])) _
          refine XS.iloadN X0.here hx rfl (hb hby d1_12) rfl ?_
          show Steps p.tables e below (s₁.setTop (mkF m 13 #[.val (.int p1), .val (.int (p1 &&& (3 : Int32)))] [(.int (p1 &&& (3 : Int32)))])) _
          refine XS.iconst X0.here hx rfl (hb hby d1_13) ?_
          show Steps p.tables e below (s₁.setTop (mkF m 14 #[.val (.int p1), .val (.int (p1 &&& (3 : Int32)))] [(.int (1 : Int32)), (.int (p1 &&& (3 : Int32)))])) _
          refine XS.icmpYes X0.here hx rfl (pc0 := 14) (pc' := 21) rfl (hb hby d1_14) rfl (feq hc14).2 (by decide) (by decide) ?_
          show Steps p.tables e below (s₁.setTop (mkF m 21 #[.val (.int p1), .val (.int (p1 &&& (3 : Int32)))] [])) _
          refine XS.iloadN X0.here hx rfl (hb hby d1_21) rfl ?_
          show Steps p.tables e below (s₁.setTop (mkF m 22 #[.val (.int p1), .val (.int (p1 &&& (3 : Int32)))] [(.int (p1 &&& (3 : Int32)))])) _
          refine XS.iconst X0.here hx rfl (hb hby d1_22) ?_
          show Steps p.tables e below (s₁.setTop (mkF m 23 #[.val (.int p1), .val (.int (p1 &&& (3 : Int32)))] [(.int (2 : Int32)), (.int (p1 &&& (3 : Int32)))])) _
          refine XS.icmpNo X0.here hx rfl (hb hby d1_23) rfl (teq hc23).2 ?_
          show Steps p.tables e below (s₁.setTop (mkF m 26 #[.val (.int p1), .val (.int (p1 &&& (3 : Int32)))] [])) _
          refine st3 _ ?_
          show Steps p.tables e below (T3.setTop (mkF m 29 #[.val (.int p1), .val (.int (p1 &&& (3 : Int32)))] [(.ref wC)])) _
          jvm_step X3.here [X3.here.top, hx, (hb hby d1_29), X3.method', Bd.returns, Value.isRef, FieldType.isReference]
          first | (intro acts; rw [hr _ acts rfl rfl rfl]) | rw [hr _ _ rfl rfl rfl]
          exact Steps.refl _
        · show Q1 p1 wU wA wC wP h0 n0 _ T3.heap _
          rw [e3]
          exact ⟨(by simp only [own_cls, if_neg hc5, if_neg hc14, if_pos hc23]), N0, rfl⟩
      ·
        obtain ⟨T4, X4, e4, st4⟩ := getS2 X0 hx hZ hown (host := "") (Or.inl (hw _ (List.mem_of_getElem? (i := 39) rfl))) Via.refl e0 (S_PRIVATE.ext (own_old O0)) (g := (mkF m 30 #[.val (.int p1), .val (.int (p1 &&& (3 : Int32)))] [])) rfl (hb hby d1_30)
        obtain ⟨fs, hr, hrun, hended, hW, hsame⟩ := X4.leave (v := some (.ref wP)) (fun h => by rw [Bd.returns] at h; cases h)
        refine ⟨_, _, pre0 _ ?_, hrun, hended, _, _, rfl, ?_, ⟨_, rfl⟩, hW, hsame.mono (by decide) (by decide)⟩
        · show Steps p.tables e below (s₁.setTop (mkF m 0 #[.val (.int p1), .unset] [])) _
          refine XS.iloadN X0.here hx rfl (hb hby d1_0) rfl ?_
          show Steps p.tables e below (s₁.setTop (mkF m 1 #[.val (.int p1), .unset] [(.int p1)])) _
          refine XS.iconst X0.here hx rfl (hb hby d1_1) ?_
          show Steps p.tables e below (s₁.setTop (mkF m 2 #[.val (.int p1), .unset] [(.int (3 : Int32)), (.int p1)])) _
          refine XS.iand X0.here hx rfl (hb hby d1_2) rfl ?_
          show Steps p.tables e below (s₁.setTop (mkF m 3 #[.val (.int p1), .unset] [(.int (p1 &&& (3 : Int32)))])) _
          refine XS.istoreN X0.here hx rfl (hb hby d1_3) rfl (l' := #[.val (.int p1), .val (.int (p1 &&& (3 : Int32)))]) rfl ?_
          show Steps p.tables e below (s₁.setTop (mkF m 4 #[.val (.int p1), .val (.int (p1 &&& (3 : Int32)))] [])) _
          refine XS.iloadN X0.here hx rfl (hb hby d1_4) rfl ?_
          show Steps p.tables e below (s₁.setTop (mkF m 5 #[.val (.int p1), .val (.int (p1 &&& (3 : Int32)))] [(.int (p1 &&& (3 : Int32)))])) _
          refine XS.ifYes X0.here hx rfl (pc0 := 5) (pc' := 12) rfl (hb hby d1_5) rfl ((if0 _ _).trans (feq hc5).2) (by decide) (by decide) ?_
          show Steps p.tables e below (s₁.setTop (mkF m 12 #[.val (.int p1), .val (.int (p1 &&& (3 : Int32)))] [])) _
          refine XS.iloadN X0.here hx rfl (hb hby d1_12) rfl ?_
          show Steps p.tables e below (s₁.setTop (mkF m 13 #[.val (.int p1), .val (.int (p1 &&& (3 : Int32)))] [(.int (p1 &&& (3 : Int32)))])) _
          refine XS.iconst X0.here hx rfl (hb hby d1_13) ?_
          show Steps p.tables e below (s₁.setTop (mkF m 14 #[.val (.int p1), .val (.int (p1 &&& (3 : Int32)))] [(.int (1 : Int32)), (.int (p1 &&& (3 : Int32)))])) _
          refine XS.icmpYes X0.here hx rfl (pc0 := 14) (pc' := 21) rfl (hb hby d1_14) rfl (feq hc14).2 (by decide) (by decide) ?_
          show Steps p.tables e below (s₁.setTop (mkF m 21 #[.val (.int p1), .val (.int (p1 &&& (3 : Int32)))] [])) _
          refine XS.iloadN X0.here hx rfl (hb hby d1_21) rfl ?_
          show Steps p.tables e below (s₁.setTop (mkF m 22 #[.val (.int p1), .val (.int (p1 &&& (3 : Int32)))] [(.int (p1 &&& (3 : Int32)))])) _
          refine XS.iconst X0.here hx rfl (hb hby d1_22) ?_
          show Steps p.tables e below (s₁.setTop (mkF m 23 #[.val (.int p1), .val (.int (p1 &&& (3 : Int32)))] [(.int (2 : Int32)), (.int (p1 &&& (3 : Int32)))])) _
          refine XS.icmpYes X0.here hx rfl (pc0 := 23) (pc' := 30) rfl (hb hby d1_23) rfl (feq hc23).2 (by decide) (by decide) ?_
          show Steps p.tables e below (s₁.setTop (mkF m 30 #[.val (.int p1), .val (.int (p1 &&& (3 : Int32)))] [])) _
          refine st4 _ ?_
          show Steps p.tables e below (T4.setTop (mkF m 33 #[.val (.int p1), .val (.int (p1 &&& (3 : Int32)))] [(.ref wP)])) _
          jvm_step X4.here [X4.here.top, hx, (hb hby d1_33), X4.method', Bd.returns, Value.isRef, FieldType.isReference]
          first | (intro acts; rw [hr _ acts rfl rfl rfl]) | rw [hr _ _ rfl rfl rfl]
          exact Steps.refl _
        · show Q1 p1 wU wA wC wP h0 n0 _ T4.heap _
          rw [e4]
          exact ⟨(by simp only [own_cls, if_neg hc5, if_neg hc14, if_neg hc23]), N0, rfl⟩
theorem ef_2 (m : MethodId) (a1 : Addr) (x1 : Int64) (x2 : Int32) (x3 : Int32) (x4 : Addr) (x5 : Int64) (x6 : Int32) (x7 : Int64) : entryFrame m #[(.ref a1), (.long x1), (.int x2), (.int x3), (.ref x4), (.long x5), (.int x6), (.long x7)] 11 = mkF m 0 #[.val (.ref a1), .val (.long x1), .second, .val (.int x2), .val (.int x3), .val (.ref x4), .val (.long x5), .second, .val (.int x6), .val (.long x7), .second] [] := by first | (simp [entryFrame, mkF, argsToLocals, Value.category]; done) | rfl
def Q2 (Z : State) (a1 : Addr) (x1 : Int64) (x2 x3 : Int32) (x4 : Addr) (x5 : Int64) (x6 : Int32) (x7 : Int64) (h0 : Heap) (n0 : Nat) (v : Option Value) (h : Heap) (L : List Loc) : Prop := v = none ∧ Fr n0 L ∧ Keep h0 h [a1] ∧ Exa Z h a1 "com/example/tagloom/tagloom/tlv/Element" ∧ Fld Z h a1 "com/example/tagloom/tagloom/tlv/Element" "offset" "J" (.long x1) ∧ Fld Z h a1 "com/example/tagloom/tagloom/tlv/Element" "headerLength" "I" (.int x2) ∧ Fld Z h a1 "com/example/tagloom/tagloom/tlv/Element" "depth" "I" (.int x3) ∧ Fld Z h a1 "com/example/tagloom/tagloom/tlv/Element" "tagClass" "Lcom/example/tagloom/tagloom/tlv/TagClass;" (.ref x4) ∧ Fld Z h a1 "com/example/tagloom/tagloom/tlv/Element" "tagNumber" "J" (.long x5) ∧ Fld Z h a1 "com/example/tagloom/tagloom/tlv/Element" "constructed" "Z" (.int (nar .boolean x6)) ∧ Fld Z h a1 "com/example/tagloom/tagloom/tlv/Element" "length" "J" (.long x7)
set_option maxRecDepth 65536 in
set_option maxHeartbeats 40000000 in
theorem rm2 (l : Launch) (Z : State) (a0 : Array Value) (hw : ∀ d ∈ tables_1, d.before a0 Z = true) (ws : List Jvm.Cond) (a1 : Addr) (x1 : Int64) (x2 x3 : Int32) (x4 : Addr) (x5 : Int64) (x6 : Int32) (x7 : Int64) (u1 u2 u3 u4 u5 u6 u7 : Value) (h0 : Heap) (n0 : Nat) (Z0 : n0 ≤ h0.size) (E_a1 : Exa Z h0 a1 "com/example/tagloom/tagloom/tlv/Element") (g_a1 : n0 ≤ a1) (F_offset : Fld Z h0 a1 "com/example/tagloom/tagloom/tlv/Element" "offset" "J" u1) (F_headerLength : Fld Z h0 a1 "com/example/tagloom/tagloom/tlv/Element" "headerLength" "I" u2) (F_depth : Fld Z h0 a1 "com/example/tagloom/tagloom/tlv/Element" "depth" "I" u3) (F_tagClass : Fld Z h0 a1 "com/example/tagloom/tagloom/tlv/Element" "tagClass" "Lcom/example/tagloom/tagloom/tlv/TagClass;" u4) (F_tagNumber : Fld Z h0 a1 "com/example/tagloom/tagloom/tlv/Element" "tagNumber" "J" u5) (F_constructed : Fld Z h0 a1 "com/example/tagloom/tagloom/tlv/Element" "constructed" "Z" u6) (F_length : Fld Z h0 a1 "com/example/tagloom/tagloom/tlv/Element" "length" "J" u7) :
    MetFree l (⟨"com/example/tagloom/tagloom/tlv/Element", "<init>", "(JIILcom/example/tagloom/tagloom/tlv/TagClass;JZJ)V"⟩ : MethodName) (head1 (Jvm.Cond.code (⟨"com/example/tagloom/tagloom/tlv/Element", "<init>", "(JIILcom/example/tagloom/tagloom/tlv/TagClass;JZJ)V"⟩ : MethodName) prog_160_method_1_code 11 none :: ws) ({ frames := 1, cells := 0, slots := 0, locals := 12 } : Room)) (fun a U => a = #[(.ref a1), (.long x1), (.int x2), (.int x3), (.ref x4), (.long x5), (.int x6), (.long x7)] ∧ Z.Warmed39 U.vm ∧ U.heap = h0) (fun _ _ _ _ _ => True) (fun _ U o U' => ∃ v L, o = .returned v ∧ Q2 Z a1 x1 x2 x3 x4 x5 x6 x7 h0 n0 v U'.heap L ∧ FrameEnd U o U' L ({ frames := 1, cells := 0, slots := 0, locals := 12 } : Room).cells ({ frames := 1, cells := 0, slots := 0, locals := 12 } : Room).slots) := by
  refine MetFree.of_bodySF (plainFor_of_name pn_2) hisR ?_
  intro p e s m args below meth c s₁ Bd hml0 hP hK
  obtain ⟨rfl, hZ, hh⟩ := hP
  have hx := Bd.exec
  have hby := Bd.bytes
  have hml : c.maxLocals = 11 := hml0
  have hown : s.vm.findClass "com/example/tagloom/tagloom/tlv/Element" = some m.cls := findClass_of_methodNamed Bd.named
  have hnm := (name_of_methodNamed Bd.named Bd.method).1
  have X0 : Stand p l e ({ frames := 1, cells := 0, slots := 0, locals := 12 } : Room) s m #[(.ref a1), (.long x1), (.int x2), (.int x3), (.ref x4), (.long x5), (.int x6), (.long x7)] below meth c s₁ [] 0 0 := Stand.of_body Bd
  have e0 : s₁.heap = h0 := by rw [← hh, Bd.state]; rfl
  have N0 := Fr.nil n0
  have pre0 : ∀ tgt, Steps p.tables e below (s₁.setTop (mkF m 0 #[.val (.ref a1), .val (.long x1), .second, .val (.int x2), .val (.int x3), .val (.ref x4), .val (.long x5), .second, .val (.int x6), .val (.long x7), .second] [])) tgt → Steps p.tables e below (s₁.setTop (entryFrame m #[(.ref a1), (.long x1), (.int x2), (.int x3), (.ref x4), (.long x5), (.int x6), (.long x7)] 11)) tgt := fun tgt k => castTop (ef_2 m a1 x1 x2 x3 x4 x5 x6 x7) k
  obtain ⟨T1, X1, e1, st1⟩ := initO X0 hx hZ hown (hw _ (List.mem_of_getElem? (i := 13) rfl)) (hw _ (List.mem_of_getElem? (i := 14) rfl)) (hw _ (List.mem_of_getElem? (i := 15) rfl)) e0 (g := (mkF m 1 #[.val (.ref a1), .val (.long x1), .second, .val (.int x2), .val (.int x3), .val (.ref x4), .val (.long x5), .second, .val (.int x6), .val (.long x7), .second] [(.ref a1)])) rfl (by rw [hml]; rfl) rfl (hb hby d2_1) (by decide) (W := 0) (by show 2 * 0 + _ ≤ _; exact Nat.le_of_eq rfl) (by decide)
  obtain ⟨T2, h2, X2, e2, W2, st2⟩ := putF X1 hx hZ hown (host := "") (Or.inl (hw _ (List.mem_of_getElem? (i := 16) rfl))) Via.refl e1 F_offset E_a1 (Or.inr ⟨(hw _ (List.mem_of_getElem? (i := 17) rfl)), rfl, hnm⟩) (hw _ (List.mem_of_getElem? (i := 1) rfl)) (ty := .long) (by decide) rfl rfl (g := (mkF m 6 #[.val (.ref a1), .val (.long x1), .second, .val (.int x2), .val (.int x3), .val (.ref x4), .val (.long x5), .second, .val (.int x6), .val (.long x7), .second] [(.long x1), (.ref a1)])) rfl rfl (hb hby d2_6)
  have Fw2 := F_offset.same W2
  have N2 := Fr.snoc X2 N0 g_a1
  have fx3 := (F_headerLength.other W2 (Or.inr (slot_ne (Or.inr (hw _ (List.mem_of_getElem? (i := 19) rfl))) (Or.inr (hw _ (List.mem_of_getElem? (i := 17) rfl))) (by decide) (t := .int) (t' := .long) (by decide) (by decide))))
  obtain ⟨T4, h4, X4, e4, W4, st4⟩ := putF X2 hx hZ hown (host := "") (Or.inl (hw _ (List.mem_of_getElem? (i := 18) rfl))) Via.refl e2 fx3 (E_a1.wr W2) (Or.inr ⟨(hw _ (List.mem_of_getElem? (i := 19) rfl)), rfl, hnm⟩) (hw _ (List.mem_of_getElem? (i := 1) rfl)) (ty := .int) (by decide) rfl rfl (g := (mkF m 11 #[.val (.ref a1), .val (.long x1), .second, .val (.int x2), .val (.int x3), .val (.ref x4), .val (.long x5), .second, .val (.int x6), .val (.long x7), .second] [(.int x2), (.ref a1)])) rfl rfl (hb hby d2_11)
  have Fw4 := fx3.same W4
  have N4 := Fr.snoc X4 N2 g_a1
  have fx5 := ((F_depth.other W2 (Or.inr (slot_ne (Or.inr (hw _ (List.mem_of_getElem? (i := 21) rfl))) (Or.inr (hw _ (List.mem_of_getElem? (i := 17) rfl))) (by decide) (t := .int) (t' := .long) (by decide) (by decide)))).other W4 (Or.inr (slot_ne (Or.inr (hw _ (List.mem_of_getElem? (i := 21) rfl))) (Or.inr (hw _ (List.mem_of_getElem? (i := 19) rfl))) (by decide) (t := .int) (t' := .int) (by decide) (by decide))))
  obtain ⟨T6, h6, X6, e6, W6, st6⟩ := putF X4 hx hZ hown (host := "") (Or.inl (hw _ (List.mem_of_getElem? (i := 20) rfl))) Via.refl e4 fx5 ((E_a1.wr W2).wr W4) (Or.inr ⟨(hw _ (List.mem_of_getElem? (i := 21) rfl)), rfl, hnm⟩) (hw _ (List.mem_of_getElem? (i := 1) rfl)) (ty := .int) (by decide) rfl rfl (g := (mkF m 17 #[.val (.ref a1), .val (.long x1), .second, .val (.int x2), .val (.int x3), .val (.ref x4), .val (.long x5), .second, .val (.int x6), .val (.long x7), .second] [(.int x3), (.ref a1)])) rfl rfl (hb hby d2_17)
  have Fw6 := fx5.same W6
  have N6 := Fr.snoc X6 N4 g_a1
  have fx7 := (((F_tagClass.other W2 (Or.inr (slot_ne (Or.inr (hw _ (List.mem_of_getElem? (i := 23) rfl))) (Or.inr (hw _ (List.mem_of_getElem? (i := 17) rfl))) (by decide) (t := (.object "com/example/tagloom/tagloom/tlv/TagClass")) (t' := .long) (by decide) (by decide)))).other W4 (Or.inr (slot_ne (Or.inr (hw _ (List.mem_of_getElem? (i := 23) rfl))) (Or.inr (hw _ (List.mem_of_getElem? (i := 19) rfl))) (by decide) (t := (.object "com/example/tagloom/tagloom/tlv/TagClass")) (t' := .int) (by decide) (by decide)))).other W6 (Or.inr (slot_ne (Or.inr (hw _ (List.mem_of_getElem? (i := 23) rfl))) (Or.inr (hw _ (List.mem_of_getElem? (i := 21) rfl))) (by decide) (t := (.object "com/example/tagloom/tagloom/tlv/TagClass")) (t' := .int) (by decide) (by decide))))
  obtain ⟨T8, h8, X8, e8, W8, st8⟩ := putF X6 hx hZ hown (host := "") (Or.inl (hw _ (List.mem_of_getElem? (i := 22) rfl))) Via.refl e6 fx7 (((E_a1.wr W2).wr W4).wr W6) (Or.inr ⟨(hw _ (List.mem_of_getElem? (i := 23) rfl)), rfl, hnm⟩) (hw _ (List.mem_of_getElem? (i := 1) rfl)) (ty := (.object "com/example/tagloom/tagloom/tlv/TagClass")) (by decide) rfl rfl (g := (mkF m 23 #[.val (.ref a1), .val (.long x1), .second, .val (.int x2), .val (.int x3), .val (.ref x4), .val (.long x5), .second, .val (.int x6), .val (.long x7), .second] [(.ref x4), (.ref a1)])) rfl rfl (hb hby d2_23)
  have Fw8 := fx7.same W8
  have N8 := Fr.snoc X8 N6 g_a1
  have fx9 := ((((F_tagNumber.other W2 (Or.inr (slot_ne (Or.inr (hw _ (List.mem_of_getElem? (i := 25) rfl))) (Or.inr (hw _ (List.mem_of_getElem? (i := 17) rfl))) (by decide) (t := .long) (t' := .long) (by decide) (by decide)))).other W4 (Or.inr (slot_ne (Or.inr (hw _ (List.mem_of_getElem? (i := 25) rfl))) (Or.inr (hw _ (List.mem_of_getElem? (i := 19) rfl))) (by decide) (t := .long) (t' := .int) (by decide) (by decide)))).other W6 (Or.inr (slot_ne (Or.inr (hw _ (List.mem_of_getElem? (i := 25) rfl))) (Or.inr (hw _ (List.mem_of_getElem? (i := 21) rfl))) (by decide) (t := .long) (t' := .int) (by decide) (by decide)))).other W8 (Or.inr (slot_ne (Or.inr (hw _ (List.mem_of_getElem? (i := 25) rfl))) (Or.inr (hw _ (List.mem_of_getElem? (i := 23) rfl))) (by decide) (t := .long) (t' := (.object "com/example/tagloom/tagloom/tlv/TagClass")) (by decide) (by decide))))
  obtain ⟨T10, h10, X10, e10, W10, st10⟩ := putF X8 hx hZ hown (host := "") (Or.inl (hw _ (List.mem_of_getElem? (i := 24) rfl))) Via.refl e8 fx9 ((((E_a1.wr W2).wr W4).wr W6).wr W8) (Or.inr ⟨(hw _ (List.mem_of_getElem? (i := 25) rfl)), rfl, hnm⟩) (hw _ (List.mem_of_getElem? (i := 1) rfl)) (ty := .long) (by decide) rfl rfl (g := (mkF m 29 #[.val (.ref a1), .val (.long x1), .second, .val (.int x2), .val (.int x3), .val (.ref x4), .val (.long x5), .second, .val (.int x6), .val (.long x7), .second] [(.long x5), (.ref a1)])) rfl rfl (hb hby d2_29)
  have Fw10 := fx9.same W10
  have N10 := Fr.snoc X10 N8 g_a1
  have fx11 := (((((F_constructed.other W2 (Or.inr (slot_ne (Or.inr (hw _ (List.mem_of_getElem? (i := 27) rfl))) (Or.inr (hw _ (List.mem_of_getElem? (i := 17) rfl))) (by decide) (t := .boolean) (t' := .long) (by decide) (by decide)))).other W4 (Or.inr (slot_ne (Or.inr (hw _ (List.mem_of_getElem? (i := 27) rfl))) (Or.inr (hw _ (List.mem_of_getElem? (i := 19) rfl))) (by decide) (t := .boolean) (t' := .int) (by decide) (by decide)))).other W6 (Or.inr (slot_ne (Or.inr (hw _ (List.mem_of_getElem? (i := 27) rfl))) (Or.inr (hw _ (List.mem_of_getElem? (i := 21) rfl))) (by decide) (t := .boolean) (t' := .int) (by decide) (by decide)))).other W8 (Or.inr (slot_ne (Or.inr (hw _ (List.mem_of_getElem? (i := 27) rfl))) (Or.inr (hw _ (List.mem_of_getElem? (i := 23) rfl))) (by decide) (t := .boolean) (t' := (.object "com/example/tagloom/tagloom/tlv/TagClass")) (by decide) (by decide)))).other W10 (Or.inr (slot_ne (Or.inr (hw _ (List.mem_of_getElem? (i := 27) rfl))) (Or.inr (hw _ (List.mem_of_getElem? (i := 25) rfl))) (by decide) (t := .boolean) (t' := .long) (by decide) (by decide))))
  obtain ⟨T12, h12, X12, e12, W12, st12⟩ := putFN X10 hx hZ hown (hw _ (List.mem_of_getElem? (i := 26) rfl)) Via.refl e10 fx11 (((((E_a1.wr W2).wr W4).wr W6).wr W8).wr W10) (Or.inr ⟨(hw _ (List.mem_of_getElem? (i := 27) rfl)), rfl, hnm⟩) (hw _ (List.mem_of_getElem? (i := 1) rfl)) (ty := .boolean) (v' := .int (nar .boolean x6)) (by decide) rfl (fits_nar_bool _) (g := (mkF m 35 #[.val (.ref a1), .val (.long x1), .second, .val (.int x2), .val (.int x3), .val (.ref x4), .val (.long x5), .second, .val (.int x6), .val (.long x7), .second] [(.int x6), (.ref a1)])) rfl rfl (hb hby d2_35)
  have Fw12 := fx11.same W12
  have N12 := Fr.snoc X12 N10 g_a1
  have fx13 := ((((((F_length.other W2 (Or.inr (slot_ne (Or.inr (hw _ (List.mem_of_getElem? (i := 29) rfl))) (Or.inr (hw _ (List.mem_of_getElem? (i := 17) rfl))) (by decide) (t := .long) (t' := .long) (by decide) (by decide)))).other W4 (Or.inr (slot_ne (Or.inr (hw _ (List.mem_of_getElem? (i := 29) rfl))) (Or.inr (hw _ (List.mem_of_getElem? (i := 19) rfl))) (by decide) (t := .long) (t' := .int) (by decide) (by decide)))).other W6 (Or.inr (slot_ne (Or.inr (hw _ (List.mem_of_getElem? (i := 29) rfl))) (Or.inr (hw _ (List.mem_of_getElem? (i := 21) rfl))) (by decide) (t := .long) (t' := .int) (by decide) (by decide)))).other W8 (Or.inr (slot_ne (Or.inr (hw _ (List.mem_of_getElem? (i := 29) rfl))) (Or.inr (hw _ (List.mem_of_getElem? (i := 23) rfl))) (by decide) (t := .long) (t' := (.object "com/example/tagloom/tagloom/tlv/TagClass")) (by decide) (by decide)))).other W10 (Or.inr (slot_ne (Or.inr (hw _ (List.mem_of_getElem? (i := 29) rfl))) (Or.inr (hw _ (List.mem_of_getElem? (i := 25) rfl))) (by decide) (t := .long) (t' := .long) (by decide) (by decide)))).other W12 (Or.inr (slot_ne (Or.inr (hw _ (List.mem_of_getElem? (i := 29) rfl))) (Or.inr (hw _ (List.mem_of_getElem? (i := 27) rfl))) (by decide) (t := .long) (t' := .boolean) (by decide) (by decide))))
  obtain ⟨T14, h14, X14, e14, W14, st14⟩ := putF X12 hx hZ hown (host := "") (Or.inl (hw _ (List.mem_of_getElem? (i := 28) rfl))) Via.refl e12 fx13 ((((((E_a1.wr W2).wr W4).wr W6).wr W8).wr W10).wr W12) (Or.inr ⟨(hw _ (List.mem_of_getElem? (i := 29) rfl)), rfl, hnm⟩) (hw _ (List.mem_of_getElem? (i := 1) rfl)) (ty := .long) (by decide) rfl rfl (g := (mkF m 41 #[.val (.ref a1), .val (.long x1), .second, .val (.int x2), .val (.int x3), .val (.ref x4), .val (.long x5), .second, .val (.int x6), .val (.long x7), .second] [(.long x7), (.ref a1)])) rfl rfl (hb hby d2_41)
  have Fw14 := fx13.same W14
  have N14 := Fr.snoc X14 N12 g_a1
  have fx15 := (((((((E_a1.wr W2).wr W4).wr W6).wr W8).wr W10).wr W12).wr W14)
  have fx16 := ((((((Fw2.other W4 (Or.inr (slot_ne (Or.inr (hw _ (List.mem_of_getElem? (i := 17) rfl))) (Or.inr (hw _ (List.mem_of_getElem? (i := 19) rfl))) (by decide) (t := .long) (t' := .int) (by decide) (by decide)))).other W6 (Or.inr (slot_ne (Or.inr (hw _ (List.mem_of_getElem? (i := 17) rfl))) (Or.inr (hw _ (List.mem_of_getElem? (i := 21) rfl))) (by decide) (t := .long) (t' := .int) (by decide) (by decide)))).other W8 (Or.inr (slot_ne (Or.inr (hw _ (List.mem_of_getElem? (i := 17) rfl))) (Or.inr (hw _ (List.mem_of_getElem? (i := 23) rfl))) (by decide) (t := .long) (t' := (.object "com/example/tagloom/tagloom/tlv/TagClass")) (by decide) (by decide)))).other W10 (Or.inr (slot_ne (Or.inr (hw _ (List.mem_of_getElem? (i := 17) rfl))) (Or.inr (hw _ (List.mem_of_getElem? (i := 25) rfl))) (by decide) (t := .long) (t' := .long) (by decide) (by decide)))).other W12 (Or.inr (slot_ne (Or.inr (hw _ (List.mem_of_getElem? (i := 17) rfl))) (Or.inr (hw _ (List.mem_of_getElem? (i := 27) rfl))) (by decide) (t := .long) (t' := .boolean) (by decide) (by decide)))).other W14 (Or.inr (slot_ne (Or.inr (hw _ (List.mem_of_getElem? (i := 17) rfl))) (Or.inr (hw _ (List.mem_of_getElem? (i := 29) rfl))) (by decide) (t := .long) (t' := .long) (by decide) (by decide))))
  have fx17 := (((((Fw4.other W6 (Or.inr (slot_ne (Or.inr (hw _ (List.mem_of_getElem? (i := 19) rfl))) (Or.inr (hw _ (List.mem_of_getElem? (i := 21) rfl))) (by decide) (t := .int) (t' := .int) (by decide) (by decide)))).other W8 (Or.inr (slot_ne (Or.inr (hw _ (List.mem_of_getElem? (i := 19) rfl))) (Or.inr (hw _ (List.mem_of_getElem? (i := 23) rfl))) (by decide) (t := .int) (t' := (.object "com/example/tagloom/tagloom/tlv/TagClass")) (by decide) (by decide)))).other W10 (Or.inr (slot_ne (Or.inr (hw _ (List.mem_of_getElem? (i := 19) rfl))) (Or.inr (hw _ (List.mem_of_getElem? (i := 25) rfl))) (by decide) (t := .int) (t' := .long) (by decide) (by decide)))).other W12 (Or.inr (slot_ne (Or.inr (hw _ (List.mem_of_getElem? (i := 19) rfl))) (Or.inr (hw _ (List.mem_of_getElem? (i := 27) rfl))) (by decide) (t := .int) (t' := .boolean) (by decide) (by decide)))).other W14 (Or.inr (slot_ne (Or.inr (hw _ (List.mem_of_getElem? (i := 19) rfl))) (Or.inr (hw _ (List.mem_of_getElem? (i := 29) rfl))) (by decide) (t := .int) (t' := .long) (by decide) (by decide))))
  have fx18 := ((((Fw6.other W8 (Or.inr (slot_ne (Or.inr (hw _ (List.mem_of_getElem? (i := 21) rfl))) (Or.inr (hw _ (List.mem_of_getElem? (i := 23) rfl))) (by decide) (t := .int) (t' := (.object "com/example/tagloom/tagloom/tlv/TagClass")) (by decide) (by decide)))).other W10 (Or.inr (slot_ne (Or.inr (hw _ (List.mem_of_getElem? (i := 21) rfl))) (Or.inr (hw _ (List.mem_of_getElem? (i := 25) rfl))) (by decide) (t := .int) (t' := .long) (by decide) (by decide)))).other W12 (Or.inr (slot_ne (Or.inr (hw _ (List.mem_of_getElem? (i := 21) rfl))) (Or.inr (hw _ (List.mem_of_getElem? (i := 27) rfl))) (by decide) (t := .int) (t' := .boolean) (by decide) (by decide)))).other W14 (Or.inr (slot_ne (Or.inr (hw _ (List.mem_of_getElem? (i := 21) rfl))) (Or.inr (hw _ (List.mem_of_getElem? (i := 29) rfl))) (by decide) (t := .int) (t' := .long) (by decide) (by decide))))
  have fx19 := (((Fw8.other W10 (Or.inr (slot_ne (Or.inr (hw _ (List.mem_of_getElem? (i := 23) rfl))) (Or.inr (hw _ (List.mem_of_getElem? (i := 25) rfl))) (by decide) (t := (.object "com/example/tagloom/tagloom/tlv/TagClass")) (t' := .long) (by decide) (by decide)))).other W12 (Or.inr (slot_ne (Or.inr (hw _ (List.mem_of_getElem? (i := 23) rfl))) (Or.inr (hw _ (List.mem_of_getElem? (i := 27) rfl))) (by decide) (t := (.object "com/example/tagloom/tagloom/tlv/TagClass")) (t' := .boolean) (by decide) (by decide)))).other W14 (Or.inr (slot_ne (Or.inr (hw _ (List.mem_of_getElem? (i := 23) rfl))) (Or.inr (hw _ (List.mem_of_getElem? (i := 29) rfl))) (by decide) (t := (.object "com/example/tagloom/tagloom/tlv/TagClass")) (t' := .long) (by decide) (by decide))))
  have fx20 := ((Fw10.other W12 (Or.inr (slot_ne (Or.inr (hw _ (List.mem_of_getElem? (i := 25) rfl))) (Or.inr (hw _ (List.mem_of_getElem? (i := 27) rfl))) (by decide) (t := .long) (t' := .boolean) (by decide) (by decide)))).other W14 (Or.inr (slot_ne (Or.inr (hw _ (List.mem_of_getElem? (i := 25) rfl))) (Or.inr (hw _ (List.mem_of_getElem? (i := 29) rfl))) (by decide) (t := .long) (t' := .long) (by decide) (by decide))))
  have fx21 := (Fw12.other W14 (Or.inr (slot_ne (Or.inr (hw _ (List.mem_of_getElem? (i := 27) rfl))) (Or.inr (hw _ (List.mem_of_getElem? (i := 29) rfl))) (by decide) (t := .boolean) (t' := .long) (by decide) (by decide))))
  obtain ⟨fs, hr, hrun, hended, hW, hsame⟩ := X14.leave (v := none) (fun _ => rfl)
  refine ⟨_, _, pre0 _ ?_, hrun, hended, _, _, rfl, ?_, ⟨_, rfl⟩, hW, hsame.mono (by decide) (by decide)⟩
  · show Steps p.tables e below (s₁.setTop (mkF m 0 #[.val (.ref a1), .val (.long x1), .second, .val (.int x2), .val (.int x3), .val (.ref x4), .val (.long x5), .second, .val (.int x6), .val (.long x7), .second] [])) _
    refine XS.aloadN X0.here hx rfl (hb hby d2_0) rfl rfl ?_
    show Steps p.tables e below (s₁.setTop (mkF m 1 #[.val (.ref a1), .val (.long x1), .second, .val (.int x2), .val (.int x3), .val (.ref x4), .val (.long x5), .second, .val (.int x6), .val (.long x7), .second] [(.ref a1)])) _
    refine st1 _ ?_
    show Steps p.tables e below (T1.setTop (mkF m 4 #[.val (.ref a1), .val (.long x1), .second, .val (.int x2), .val (.int x3), .val (.ref x4), .val (.long x5), .second, .val (.int x6), .val (.long x7), .second] [])) _
    refine XS.aloadN X1.here hx rfl (hb hby d2_4) rfl rfl ?_
    show Steps p.tables e below (T1.setTop (mkF m 5 #[.val (.ref a1), .val (.long x1), .second, .val (.int x2), .val (.int x3), .val (.ref x4), .val (.long x5), .second, .val (.int x6), .val (.long x7), .second] [(.ref a1)])) _
    refine XS.lloadN X1.here hx rfl (hb hby d2_5) rfl ?_
    show Steps p.tables e below (T1.setTop (mkF m 6 #[.val (.ref a1), .val (.long x1), .second, .val (.int x2), .val (.int x3), .val (.ref x4), .val (.long x5), .second, .val (.int x6), .val (.long x7), .second] [(.long x1), (.ref a1)])) _
    refine st2 _ ?_
    show Steps p.tables e below (T2.setTop (mkF m 9 #[.val (.ref a1), .val (.long x1), .second, .val (.int x2), .val (.int x3), .val (.ref x4), .val (.long x5), .second, .val (.int x6), .val (.long x7), .second] [])) _
    refine XS.aloadN X2.here hx rfl (hb hby d2_9) rfl rfl ?_
    show Steps p.tables e below (T2.setTop (mkF m 10 #[.val (.ref a1), .val (.long x1), .second, .val (.int x2), .val (.int x3), .val (.ref x4), .val (.long x5), .second, .val (.int x6), .val (.long x7), .second] [(.ref a1)])) _
    refine XS.iloadN X2.here hx rfl (hb hby d2_10) rfl ?_
    show Steps p.tables e below (T2.setTop (mkF m 11 #[.val (.ref a1), .val (.long x1), .second, .val (.int x2), .val (.int x3), .val (.ref x4), .val (.long x5), .second, .val (.int x6), .val (.long x7), .second] [(.int x2), (.ref a1)])) _
    refine st4 _ ?_
    show Steps p.tables e below (T4.setTop (mkF m 14 #[.val (.ref a1), .val (.long x1), .second, .val (.int x2), .val (.int x3), .val (.ref x4), .val (.long x5), .second, .val (.int x6), .val (.long x7), .second] [])) _
    refine XS.aloadN X4.here hx rfl (hb hby d2_14) rfl rfl ?_
    show Steps p.tables e below (T4.setTop (mkF m 15 #[.val (.ref a1), .val (.long x1), .second, .val (.int x2), .val (.int x3), .val (.ref x4), .val (.long x5), .second, .val (.int x6), .val (.long x7), .second] [(.ref a1)])) _
    refine XS.iload X4.here hx rfl (hb hby d2_15) rfl ?_
    show Steps p.tables e below (T4.setTop (mkF m 17 #[.val (.ref a1), .val (.long x1), .second, .val (.int x2), .val (.int x3), .val (.ref x4), .val (.long x5), .second, .val (.int x6), .val (.long x7), .second] [(.int x3), (.ref a1)])) _
    refine st6 _ ?_
    show Steps p.tables e below (T6.setTop (mkF m 20 #[.val (.ref a1), .val (.long x1), .second, .val (.int x2), .val (.int x3), .val (.ref x4), .val (.long x5), .second, .val (.int x6), .val (.long x7), .second] [])) _
    refine XS.aloadN X6.here hx rfl (hb hby d2_20) rfl rfl ?_
    show Steps p.tables e below (T6.setTop (mkF m 21 #[.val (.ref a1), .val (.long x1), .second, .val (.int x2), .val (.int x3), .val (.ref x4), .val (.long x5), .second, .val (.int x6), .val (.long x7), .second] [(.ref a1)])) _
    refine XS.aload X6.here hx rfl (hb hby d2_21) rfl rfl ?_
    show Steps p.tables e below (T6.setTop (mkF m 23 #[.val (.ref a1), .val (.long x1), .second, .val (.int x2), .val (.int x3), .val (.ref x4), .val (.long x5), .second, .val (.int x6), .val (.long x7), .second] [(.ref x4), (.ref a1)])) _
    refine st8 _ ?_
    show Steps p.tables e below (T8.setTop (mkF m 26 #[.val (.ref a1), .val (.long x1), .second, .val (.int x2), .val (.int x3), .val (.ref x4), .val (.long x5), .second, .val (.int x6), .val (.long x7), .second] [])) _
    refine XS.aloadN X8.here hx rfl (hb hby d2_26) rfl rfl ?_
    show Steps p.tables e below (T8.setTop (mkF m 27 #[.val (.ref a1), .val (.long x1), .second, .val (.int x2), .val (.int x3), .val (.ref x4), .val (.long x5), .second, .val (.int x6), .val (.long x7), .second] [(.ref a1)])) _
    refine XS.lload X8.here hx rfl (hb hby d2_27) rfl ?_
    show Steps p.tables e below (T8.setTop (mkF m 29 #[.val (.ref a1), .val (.long x1), .second, .val (.int x2), .val (.int x3), .val (.ref x4), .val (.long x5), .second, .val (.int x6), .val (.long x7), .second] [(.long x5), (.ref a1)])) _
    refine st10 _ ?_
    show Steps p.tables e below (T10.setTop (mkF m 32 #[.val (.ref a1), .val (.long x1), .second, .val (.int x2), .val (.int x3), .val (.ref x4), .val (.long x5), .second, .val (.int x6), .val (.long x7), .second] [])) _
    refine XS.aloadN X10.here hx rfl (hb hby d2_32) rfl rfl ?_
    show Steps p.tables e below (T10.setTop (mkF m 33 #[.val (.ref a1), .val (.long x1), .second, .val (.int x2), .val (.int x3), .val (.ref x4), .val (.long x5), .second, .val (.int x6), .val (.long x7), .second] [(.ref a1)])) _
    refine XS.iload X10.here hx rfl (hb hby d2_33) rfl ?_
    show Steps p.tables e below (T10.setTop (mkF m 35 #[.val (.ref a1), .val (.long x1), .second, .val (.int x2), .val (.int x3), .val (.ref x4), .val (.long x5), .second, .val (.int x6), .val (.long x7), .second] [(.int x6), (.ref a1)])) _
    refine st12 _ ?_
    show Steps p.tables e below (T12.setTop (mkF m 38 #[.val (.ref a1), .val (.long x1), .second, .val (.int x2), .val (.int x3), .val (.ref x4), .val (.long x5), .second, .val (.int x6), .val (.long x7), .second] [])) _
    refine XS.aloadN X12.here hx rfl (hb hby d2_38) rfl rfl ?_
    show Steps p.tables e below (T12.setTop (mkF m 39 #[.val (.ref a1), .val (.long x1), .second, .val (.int x2), .val (.int x3), .val (.ref x4), .val (.long x5), .second, .val (.int x6), .val (.long x7), .second] [(.ref a1)])) _
    refine XS.lload X12.here hx rfl (hb hby d2_39) rfl ?_
    show Steps p.tables e below (T12.setTop (mkF m 41 #[.val (.ref a1), .val (.long x1), .second, .val (.int x2), .val (.int x3), .val (.ref x4), .val (.long x5), .second, .val (.int x6), .val (.long x7), .second] [(.long x7), (.ref a1)])) _
    refine st14 _ ?_
    show Steps p.tables e below (T14.setTop (mkF m 44 #[.val (.ref a1), .val (.long x1), .second, .val (.int x2), .val (.int x3), .val (.ref x4), .val (.long x5), .second, .val (.int x6), .val (.long x7), .second] [])) _
    exact X14.returnOut hx Bd.returns (hb hby d2_44) hr
  · show Q2 Z a1 x1 x2 x3 x4 x5 x6 x7 h0 n0 _ T14.heap _
    rw [e14]
    exact ⟨rfl, N14, ((((((((Keep.refl h0 [a1]).wr W2 (Or.inl (List.mem_of_getElem? (i := 0) rfl))).wr W4 (Or.inl (List.mem_of_getElem? (i := 0) rfl))).wr W6 (Or.inl (List.mem_of_getElem? (i := 0) rfl))).wr W8 (Or.inl (List.mem_of_getElem? (i := 0) rfl))).wr W10 (Or.inl (List.mem_of_getElem? (i := 0) rfl))).wr W12 (Or.inl (List.mem_of_getElem? (i := 0) rfl))).wr W14 (Or.inl (List.mem_of_getElem? (i := 0) rfl))), fx15, fx16, fx17, fx18, fx19, fx20, fx21, Fw14⟩
theorem ef_4 (m : MethodId) (a1 : Addr) (a2 : Addr) : entryFrame m #[(.ref a1), (.ref a2)] 3 = mkF m 0 #[.val (.ref a1), .val (.ref a2), .unset] [] := by first | (simp [entryFrame, mkF, argsToLocals, Value.category]; done) | rfl
def Q4 (x1 : Int64) (x2 x3 : Int32) (x4 : Addr) (x5 : Int64) (x6 : Int32) (x7 : Int64) (y1 : Int64) (y2 y3 : Int32) (y4 : Addr) (y5 : Int64) (y6 : Int32) (y7 : Int64) (h0 : Heap) (n0 : Nat) (v : Option Value) (h : Heap) (L : List Loc) : Prop := v = some (.int (own_eq x1 x2 x3 x4 x5 x6 x7 y1 y2 y3 y4 y5 y6 y7)) ∧ Fr n0 L ∧ h = h0
set_option maxRecDepth 65536 in
set_option maxHeartbeats 40000000 in
theorem rm4 (l : Launch) (Z : State) (a0 : Array Value) (hw : ∀ d ∈ tables_1, d.before a0 Z = true) (ws : List Jvm.Cond) (a1 a2 : Addr) (x1 : Int64) (x2 x3 : Int32) (x4 : Addr) (x5 : Int64) (x6 : Int32) (x7 : Int64) (y1 : Int64) (y2 y3 : Int32) (y4 : Addr) (y5 : Int64) (y6 : Int32) (y7 : Int64) (h0 : Heap) (n0 : Nat) (Z0 : n0 ≤ h0.size) (E_a2 : Exa Z h0 a2 "com/example/tagloom/tagloom/tlv/Element") (F_offset_a1 : Fld Z h0 a1 "com/example/tagloom/tagloom/tlv/Element" "offset" "J" (.long x1)) (F_headerLength_a1 : Fld Z h0 a1 "com/example/tagloom/tagloom/tlv/Element" "headerLength" "I" (.int x2)) (F_depth_a1 : Fld Z h0 a1 "com/example/tagloom/tagloom/tlv/Element" "depth" "I" (.int x3)) (F_tagClass_a1 : Fld Z h0 a1 "com/example/tagloom/tagloom/tlv/Element" "tagClass" "Lcom/example/tagloom/tagloom/tlv/TagClass;" (.ref x4)) (F_tagNumber_a1 : Fld Z h0 a1 "com/example/tagloom/tagloom/tlv/Element" "tagNumber" "J" (.long x5)) (F_constructed_a1 : Fld Z h0 a1 "com/example/tagloom/tagloom/tlv/Element" "constructed" "Z" (.int x6)) (F_length_a1 : Fld Z h0 a1 "com/example/tagloom/tagloom/tlv/Element" "length" "J" (.long x7)) (F_offset_a2 : Fld Z h0 a2 "com/example/tagloom/tagloom/tlv/Element" "offset" "J" (.long y1)) (F_headerLength_a2 : Fld Z h0 a2 "com/example/tagloom/tagloom/tlv/Element" "headerLength" "I" (.int y2)) (F_depth_a2 : Fld Z h0 a2 "com/example/tagloom/tagloom/tlv/Element" "depth" "I" (.int y3)) (F_tagClass_a2 : Fld Z h0 a2 "com/example/tagloom/tagloom/tlv/Element" "tagClass" "Lcom/example/tagloom/tagloom/tlv/TagClass;" (.ref y4)) (F_tagNumber_a2 : Fld Z h0 a2 "com/example/tagloom/tagloom/tlv/Element" "tagNumber" "J" (.long y5)) (F_constructed_a2 : Fld Z h0 a2 "com/example/tagloom/tagloom/tlv/Element" "constructed" "Z" (.int y6)) (F_length_a2 : Fld Z h0 a2 "com/example/tagloom/tagloom/tlv/Element" "length" "J" (.long y7)) :
    MetFree l (⟨"com/example/tagloom/tagloom/tlv/Element", "equals", "(Ljava/lang/Object;)Z"⟩ : MethodName) (head1 (Jvm.Cond.code (⟨"com/example/tagloom/tagloom/tlv/Element", "equals", "(Ljava/lang/Object;)Z"⟩ : MethodName) prog_160_method_11_code 3 (some .boolean) :: ws) ({ frames := 0, cells := 0, slots := 0, locals := 0 } : Room)) (fun a U => a = #[(.ref a1), (.ref a2)] ∧ Z.Warmed39 U.vm ∧ U.heap = h0) (fun _ _ _ _ _ => True) (fun _ U o U' => ∃ v L, o = .returned v ∧ Q4 x1 x2 x3 x4 x5 x6 x7 y1 y2 y3 y4 y5 y6 y7 h0 n0 v U'.heap L ∧ FrameEnd U o U' L ({ frames := 0, cells := 0, slots := 0, locals := 0 } : Room).cells ({ frames := 0, cells := 0, slots := 0, locals := 0 } : Room).slots) := by
  refine MetFree.of_bodySF (plainFor_of_name pn_4) hisR ?_
  intro p e s m args below meth c s₁ Bd hml0 hP hK
  obtain ⟨rfl, hZ, hh⟩ := hP
  have hx := Bd.exec
  have hby := Bd.bytes
  have hml : c.maxLocals = 3 := hml0
  have hown : s.vm.findClass "com/example/tagloom/tagloom/tlv/Element" = some m.cls := findClass_of_methodNamed Bd.named
  have hnm := (name_of_methodNamed Bd.named Bd.method).1
  have X0 : Stand p l e ({ frames := 0, cells := 0, slots := 0, locals := 0 } : Room) s m #[(.ref a1), (.ref a2)] below meth c s₁ [] 0 0 := Stand.of_body Bd
  have e0 : s₁.heap = h0 := by rw [← hh, Bd.state]; rfl
  have N0 := Fr.nil n0
  have pre0 : ∀ tgt, Steps p.tables e below (s₁.setTop (mkF m 0 #[.val (.ref a1), .val (.ref a2), .unset] [])) tgt → Steps p.tables e below (s₁.setTop (entryFrame m #[(.ref a1), (.ref a2)] 3)) tgt := fun tgt k => castTop (ef_4 m a1 a2) k
  obtain ⟨T1, X1, e1, st1⟩ := instY X0 hx hZ hown (hw _ (List.mem_of_getElem? (i := 35) rfl)) e0 (Ins.self E_a2) (g := (mkF m 1 #[.val (.ref a1), .val (.ref a2), .unset] [(.ref a2)])) rfl rfl (hb hby d4_1)
  obtain ⟨T2, X2, e2, st2⟩ := castY X1 hx hZ hown (hw _ (List.mem_of_getElem? (i := 35) rfl)) e1 (Ins.self E_a2) (g := (mkF m 8 #[.val (.ref a1), .val (.ref a2), .unset] [(.ref a2)])) rfl rfl (hb hby d4_8)
  obtain ⟨T3, X3, e3, st3⟩ := getF X2 hx hZ hown (host := "") (Or.inl (hw _ (List.mem_of_getElem? (i := 16) rfl))) Via.refl e2 F_offset_a1 (g := (mkF m 13 #[.val (.ref a1), .val (.ref a2), .val (.ref a2)] [(.ref a1)])) rfl rfl (hb hby d4_13)
  obtain ⟨T4, X4, e4, st4⟩ := getF X3 hx hZ hown (host := "") (Or.inl (hw _ (List.mem_of_getElem? (i := 16) rfl))) Via.refl e3 F_offset_a2 (g := (mkF m 17 #[.val (.ref a1), .val (.ref a2), .val (.ref a2)] [(.ref a2), (.long x1)])) rfl rfl (hb hby d4_17)
  by_cases hc21 : (lcmpW x1 y1) = (0 : Int32)
  ·
    obtain ⟨T5, X5, e5, st5⟩ := getF X4 hx hZ hown (host := "") (Or.inl (hw _ (List.mem_of_getElem? (i := 18) rfl))) Via.refl e4 F_headerLength_a1 (g := (mkF m 25 #[.val (.ref a1), .val (.ref a2), .val (.ref a2)] [(.ref a1)])) rfl rfl (hb hby d4_25)
    obtain ⟨T6, X6, e6, st6⟩ := getF X5 hx hZ hown (host := "") (Or.inl (hw _ (List.mem_of_getElem? (i := 18) rfl))) Via.refl e5 F_headerLength_a2 (g := (mkF m 29 #[.val (.ref a1), .val (.ref a2), .val (.ref a2)] [(.ref a2), (.int x2)])) rfl rfl (hb hby d4_29)
    by_cases hc32 : x2 = y2
    ·
      obtain ⟨T7, X7, e7, st7⟩ := getF X6 hx hZ hown (host := "") (Or.inl (hw _ (List.mem_of_getElem? (i := 20) rfl))) Via.refl e6 F_depth_a1 (g := (mkF m 36 #[.val (.ref a1), .val (.ref a2), .val (.ref a2)] [(.ref a1)])) rfl rfl (hb hby d4_36)
      obtain ⟨T8, X8, e8, st8⟩ := getF X7 hx hZ hown (host := "") (Or.inl (hw _ (List.mem_of_getElem? (i := 20) rfl))) Via.refl e7 F_depth_a2 (g := (mkF m 40 #[.val (.ref a1), .val (.ref a2), .val (.ref a2)] [(.ref a2), (.int x3)])) rfl rfl (hb hby d4_40)
      by_cases hc43 : x3 = y3
      ·
        obtain ⟨T9, X9, e9, st9⟩ := getF X8 hx hZ hown (host := "") (Or.inl (hw _ (List.mem_of_getElem? (i := 22) rfl))) Via.refl e8 F_tagClass_a1 (g := (mkF m 47 #[.val (.ref a1), .val (.ref a2), .val (.ref a2)] [(.ref a1)])) rfl rfl (hb hby d4_47)
        obtain ⟨T10, X10, e10, st10⟩ := getF X9 hx hZ hown (host := "") (Or.inl (hw _ (List.mem_of_getElem? (i := 22) rfl))) Via.refl e9 F_tagClass_a2 (g := (mkF m 51 #[.val (.ref a1), .val (.ref a2), .val (.ref a2)] [(.ref a2), (.ref x4)])) rfl rfl (hb hby d4_51)
        by_cases ha54 : x4 = y4
        ·
          obtain ⟨T11, X11, e11, st11⟩ := getF X10 hx hZ hown (host := "") (Or.inl (hw _ (List.mem_of_getElem? (i := 24) rfl))) Via.refl e10 F_tagNumber_a1 (g := (mkF m 58 #[.val (.ref a1), .val (.ref a2), .val (.ref a2)] [(.ref a1)])) rfl rfl (hb hby d4_58)
          obtain ⟨T12, X12, e12, st12⟩ := getF X11 hx hZ hown (host := "") (Or.inl (hw _ (List.mem_of_getElem? (i := 24) rfl))) Via.refl e11 F_tagNumber_a2 (g := (mkF m 62 #[.val (.ref a1), .val (.ref a2), .val (.ref a2)] [(.ref a2), (.long x5)])) rfl rfl (hb hby d4_62)
          by_cases hc66 : (lcmpW x5 y5) = (0 : Int32)
          ·
            obtain ⟨T13, X13, e13, st13⟩ := getF X12 hx hZ hown (host := "") (Or.inl (hw _ (List.mem_of_getElem? (i := 26) rfl))) Via.refl e12 F_constructed_a1 (g := (mkF m 70 #[.val (.ref a1), .val (.ref a2), .val (.ref a2)] [(.ref a1)])) rfl rfl (hb hby d4_70)
            obtain ⟨T14, X14, e14, st14⟩ := getF X13 hx hZ hown (host := "") (Or.inl (hw _ (List.mem_of_getElem? (i := 26) rfl))) Via.refl e13 F_constructed_a2 (g := (mkF m 74 #[.val (.ref a1), .val (.ref a2), .val (.ref a2)] [(.ref a2), (.int x6)])) rfl rfl (hb hby d4_74)
            by_cases hc77 : x6 = y6
            ·
              obtain ⟨T15, X15, e15, st15⟩ := getF X14 hx hZ hown (host := "") (Or.inl (hw _ (List.mem_of_getElem? (i := 28) rfl))) Via.refl e14 F_length_a1 (g := (mkF m 81 #[.val (.ref a1), .val (.ref a2), .val (.ref a2)] [(.ref a1)])) rfl rfl (hb hby d4_81)
              obtain ⟨T16, X16, e16, st16⟩ := getF X15 hx hZ hown (host := "") (Or.inl (hw _ (List.mem_of_getElem? (i := 28) rfl))) Via.refl e15 F_length_a2 (g := (mkF m 85 #[.val (.ref a1), .val (.ref a2), .val (.ref a2)] [(.ref a2), (.long x7)])) rfl rfl (hb hby d4_85)
              by_cases hc89 : (lcmpW x7 y7) = (0 : Int32)
              ·
                obtain ⟨fs, hr, hrun, hended, hW, hsame⟩ := X16.leave (v := some (.int (1 : Int32))) (fun h => by rw [Bd.returns] at h; cases h)
                refine ⟨_, _, pre0 _ ?_, hrun, hended, _, _, rfl, ?_, ⟨_, rfl⟩, hW, hsame.mono (by decide) (by decide)⟩
                · show Steps p.tables e below (s₁.setTop (mkF m 0 #[.val (.ref a1), .val (.ref a2), .unset] [])) _
                  refine XS.aloadN X0.here hx rfl (hb hby d4_0) rfl rfl ?_
                  show Steps p.tables e below (s₁.setTop (mkF m 1 #[.val (.ref a1), .val (.ref a2), .unset] [(.ref a2)])) _
                  refine st1 _ ?_
                  show Steps p.tables e below (T1.setTop (mkF m 4 #[.val (.ref a1), .val (.ref a2), .unset] [(.int (1 : Int32))])) _
                  refine XS.ifNo X1.here hx rfl (hb hby d4_4) rfl ((if0 _ _).trans (feq (by decide : ¬ (1 : Int32) = (0 : Int32))).1) ?_
                  show Steps p.tables e below (T1.setTop (mkF m 7 #[.val (.ref a1), .val (.ref a2), .unset] [])) _
                  refine XS.aloadN X1.here hx rfl (hb hby d4_7) rfl rfl ?_
                  show Steps p.tables e below (T1.setTop (mkF m 8 #[.val (.ref a1), .val (.ref a2), .unset] [(.ref a2)])) _
                  refine st2 _ ?_
                  show Steps p.tables e below (T2.setTop (mkF m 11 #[.val (.ref a1), .val (.ref a2), .unset] [(.ref a2)])) _
                  refine XS.astoreN X2.here hx rfl (hb hby d4_11) rfl rfl (l' := #[.val (.ref a1), .val (.ref a2), .val (.ref a2)]) rfl ?_
                  show Steps p.tables e below (T2.setTop (mkF m 12 #[.val (.ref a1), .val (.ref a2), .val (.ref a2)] [])) _
                  refine XS.aloadN X2.here hx rfl (hb hby d4_12) rfl rfl ?_
                  show Steps p.tables e below (T2.setTop (mkF m 13 #[.val (.ref a1), .val (.ref a2), .val (.ref a2)] [(.ref a1)])) _
                  refine st3 _ ?_
                  show Steps p.tables e below (T3.setTop (mkF m 16 #[.val (.ref a1), .val (.ref a2), .val (.ref a2)] [(.long x1)])) _
                  refine XS.aloadN X3.here hx rfl (hb hby d4_16) rfl rfl ?_
                  show Steps p.tables e below (T3.setTop (mkF m 17 #[.val (.ref a1), .val (.ref a2), .val (.ref a2)] [(.ref a2), (.long x1)])) _
                  refine st4 _ ?_
                  show Steps p.tables e below (T4.setTop (mkF m 20 #[.val (.ref a1), .val (.ref a2), .val (.ref a2)] [(.long y1), (.long x1)])) _
                  refine XS.lcmp X4.here hx rfl (hb hby d4_20) rfl ?_
                  show Steps p.tables e below (T4.setTop (mkF m 21 #[.val (.ref a1), .val (.ref a2), .val (.ref a2)] [(.int (lcmpW x1 y1))])) _
                  refine XS.ifNo X4.here hx rfl (hb hby d4_21) rfl ((if0 _ _).trans (teq hc21).2) ?_
                  show Steps p.tables e below (T4.setTop (mkF m 24 #[.val (.ref a1), .val (.ref a2), .val (.ref a2)] [])) _
                  refine XS.aloadN X4.here hx rfl (hb hby d4_24) rfl rfl ?_
                  show Steps p.tables e below (T4.setTop (mkF m 25 #[.val (.ref a1), .val (.ref a2), .val (.ref a2)] [(.ref a1)])) _
                  refine st5 _ ?_
                  show Steps p.tables e below (T5.setTop (mkF m 28 #[.val (.ref a1), .val (.ref a2), .val (.ref a2)] [(.int x2)])) _
                  refine XS.aloadN X5.here hx rfl (hb hby d4_28) rfl rfl ?_
                  show Steps p.tables e below (T5.setTop (mkF m 29 #[.val (.ref a1), .val (.ref a2), .val (.ref a2)] [(.ref a2), (.int x2)])) _
                  refine st6 _ ?_
                  show Steps p.tables e below (T6.setTop (mkF m 32 #[.val (.ref a1), .val (.ref a2), .val (.ref a2)] [(.int y2), (.int x2)])) _
                  refine XS.icmpNo X6.here hx rfl (hb hby d4_32) rfl (teq hc32).2 ?_
                  show Steps p.tables e below (T6.setTop (mkF m 35 #[.val (.ref a1), .val (.ref a2), .val (.ref a2)] [])) _
                  refine XS.aloadN X6.here hx rfl (hb hby d4_35) rfl rfl ?_
                  show Steps p.tables e below (T6.setTop (mkF m 36 #[.val (.ref a1), .val (.ref a2), .val (.ref a2)] [(.ref a1)])) _
                  refine st7 _ ?_
                  show Steps p.tables e below (T7.setTop (mkF m 39 #[.val (.ref a1), .val (.ref a2), .val (.ref a2)] [(.int x3)])) _
                  refine XS.aloadN X7.here hx rfl (hb hby d4_39) rfl rfl ?_
                  show Steps p.tables e below (T7.setTop (mkF m 40 #[.val (.ref a1), .val (.ref a2), .val (.ref a2)] [(.ref a2), (.int x3)])) _
                  refine st8 _ ?_
                  show Steps p.tables e below (T8.setTop (mkF m 43 #[.val (.ref a1), .val (.ref a2), .val (.ref a2)] [(.int y3), (.int x3)])) _
                  refine XS.icmpNo X8.here hx rfl (hb hby d4_43) rfl (teq hc43).2 ?_
                  show Steps p.tables e below (T8.setTop (mkF m 46 #[.val (.ref a1), .val (.ref a2), .val (.ref a2)] [])) _
                  refine XS.aloadN X8.here hx rfl (hb hby d4_46) rfl rfl ?_
                  show Steps p.tables e below (T8.setTop (mkF m 47 #[.val (.ref a1), .val (.ref a2), .val (.ref a2)] [(.ref a1)])) _
                  refine st9 _ ?_
                  show Steps p.tables e below (T9.setTop (mkF m 50 #[.val (.ref a1), .val (.ref a2), .val (.ref a2)] [(.ref x4)])) _
                  refine XS.aloadN X9.here hx rfl (hb hby d4_50) rfl rfl ?_
                  show Steps p.tables e below (T9.setTop (mkF m 51 #[.val (.ref a1), .val (.ref a2), .val (.ref a2)] [(.ref a2), (.ref x4)])) _
                  refine st10 _ ?_
                  show Steps p.tables e below (T10.setTop (mkF m 54 #[.val (.ref a1), .val (.ref a2), .val (.ref a2)] [(.ref y4), (.ref x4)])) _
                  refine Jvm.RoadKit.acmp (g := (mkF m 54 #[.val (.ref a1), .val (.ref a2), .val (.ref a2)] [(.ref y4), (.ref x4)])) X10 hx rfl rfl rfl (pc0 := 54) (pc' := 57) (same := true) rfl (hb hby d4_54) rfl (decide_eq_true (congrArg Value.ref ha54)) (by decide) (by decide) ?_
                  show Steps p.tables e below (T10.setTop (mkF m 57 #[.val (.ref a1), .val (.ref a2), .val (.ref a2)] [])) _
                  refine XS.aloadN X10.here hx rfl (hb hby d4_57) rfl rfl ?_
                  show Steps p.tables e below (T10.setTop (mkF m 58 #[.val (.ref a1), .val (.ref a2), .val (.ref a2)] [(.ref a1)])) _
                  refine st11 _ ?_
                  show Steps p.tables e below (T11.setTop (mkF m 61 #[.val (.ref a1), .val (.ref a2), .val (.ref a2)] [(.long x5)])) _
                  refine XS.aloadN X11.here hx rfl (hb hby d4_61) rfl rfl ?_
                  show Steps p.tables e below (T11.setTop (mkF m 62 #[.val (.ref a1), .val (.ref a2), .val (.ref a2)] [(.ref a2), (.long x5)])) _
                  refine st12 _ ?_
                  show Steps p.tables e below (T12.setTop (mkF m 65 #[.val (.ref a1), .val (.ref a2), .val (.ref a2)] [(.long y5), (.long x5)])) _
                  refine XS.lcmp X12.here hx rfl (hb hby d4_65) rfl ?_
                  show Steps p.tables e below (T12.setTop (mkF m 66 #[.val (.ref a1), .val (.ref a2), .val (.ref a2)] [(.int (lcmpW x5 y5))])) _
                  refine XS.ifNo X12.here hx rfl (hb hby d4_66) rfl ((if0 _ _).trans (teq hc66).2) ?_
                  show Steps p.tables e below (T12.setTop (mkF m 69 #[.val (.ref a1), .val (.ref a2), .val (.ref a2)] [])) _
                  refine XS.aloadN X12.here hx rfl (hb hby d4_69) rfl rfl ?_
                  show Steps p.tables e below (T12.setTop (mkF m 70 #[.val (.ref a1), .val (.ref a2), .val (.ref a2)] [(.ref a1)])) _
                  refine st13 _ ?_
                  show Steps p.tables e below (T13.setTop (mkF m 73 #[.val (.ref a1), .val (.ref a2), .val (.ref a2)] [(.int x6)])) _
                  refine XS.aloadN X13.here hx rfl (hb hby d4_73) rfl rfl ?_
                  show Steps p.tables e below (T13.setTop (mkF m 74 #[.val (.ref a1), .val (.ref a2), .val (.ref a2)] [(.ref a2), (.int x6)])) _
                  refine st14 _ ?_
                  show Steps p.tables e below (T14.setTop (mkF m 77 #[.val (.ref a1), .val (.ref a2), .val (.ref a2)] [(.int y6), (.int x6)])) _
                  refine XS.icmpNo X14.here hx rfl (hb hby d4_77) rfl (teq hc77).2 ?_
                  show Steps p.tables e below (T14.setTop (mkF m 80 #[.val (.ref a1), .val (.ref a2), .val (.ref a2)] [])) _
                  refine XS.aloadN X14.here hx rfl (hb hby d4_80) rfl rfl ?_
                  show Steps p.tables e below (T14.setTop (mkF m 81 #[.val (.ref a1), .val (.ref a2), .val (.ref a2)] [(.ref a1)])) _
                  refine st15 _ ?_
                  show Steps p.tables e below (T15.setTop (mkF m 84 #[.val (.ref a1), .val (.ref a2), .val (.ref a2)] [(.long x7)])) _
                  refine XS.aloadN X15.here hx rfl (hb hby d4_84) rfl rfl ?_
                  show Steps p.tables e below (T15.setTop (mkF m 85 #[.val (.ref a1), .val (.ref a2), .val (.ref a2)] [(.ref a2), (.long x7)])) _
                  refine st16 _ ?_
                  show Steps p.tables e below (T16.setTop (mkF m 88 #[.val (.ref a1), .val (.ref a2), .val (.ref a2)] [(.long y7), (.long x7)])) _
                  refine XS.lcmp X16.here hx rfl (hb hby d4_88) rfl ?_
                  show Steps p.tables e below (T16.setTop (mkF m 89 #[.val (.ref a1), .val (.ref a2), .val (.ref a2)] [(.int (lcmpW x7 y7))])) _
                  refine XS.ifNo X16.here hx rfl (hb hby d4_89) rfl ((if0 _ _).trans (teq hc89).2) ?_
                  show Steps p.tables e below (T16.setTop (mkF m 92 #[.val (.ref a1), .val (.ref a2), .val (.ref a2)] [])) _
                  refine XS.iconst X16.here hx rfl (hb hby d4_92) ?_
                  show Steps p.tables e below (T16.setTop (mkF m 93 #[.val (.ref a1), .val (.ref a2), .val (.ref a2)] [(.int (1 : Int32))])) _
                  refine XS.goto X16.here hx rfl (pc0 := 93) (pc' := 97) rfl (hb hby d4_93) (by decide) (by decide) ?_
                  show Steps p.tables e below (T16.setTop (mkF m 97 #[.val (.ref a1), .val (.ref a2), .val (.ref a2)] [(.int (1 : Int32))])) _
                  exact retN X16 hx (t := .boolean) Bd.returns (by simp) (hb hby d4_97) hr
                · show Q4 x1 x2 x3 x4 x5 x6 x7 y1 y2 y3 y4 y5 y6 y7 h0 n0 _ T16.heap _
                  rw [e16]
                  exact ⟨(by simp only [own_eq, if_pos hc21, if_pos hc32, if_pos hc43, if_pos ha54, if_pos hc66, if_pos hc77, if_pos hc89]), N0, rfl⟩
              ·
                obtain ⟨fs, hr, hrun, hended, hW, hsame⟩ := X16.leave (v := some (.int (0 : Int32))) (fun h => by rw [Bd.returns] at h; cases h)
                refine ⟨_, _, pre0 _ ?_, hrun, hended, _, _, rfl, ?_, ⟨_, rfl⟩, hW, hsame.mono (by decide) (by decide)⟩
                · show Steps p.tables e below (s₁.setTop (mkF m 0 #[.val (.ref a1), .val (.ref a2), .unset] [])) _
                  refine XS.aloadN X0.here hx rfl (hb hby d4_0) rfl rfl ?_
                  show Steps p.tables e below (s₁.setTop (mkF m 1 #[.val (.ref a1), .val (.ref a2), .unset] [(.ref a2)])) _
                  refine st1 _ ?_
                  show Steps p.tables e below (T1.setTop (mkF m 4 #[.val (.ref a1), .val (.ref a2), .unset] [(.int (1 : Int32))])) _
                  refine XS.ifNo X1.here hx rfl (hb hby d4_4) rfl ((if0 _ _).trans (feq (by decide : ¬ (1 : Int32) = (0 : Int32))).1) ?_
                  show Steps p.tables e below (T1.setTop (mkF m 7 #[.val (.ref a1), .val (.ref a2), .unset] [])) _
                  refine XS.aloadN X1.here hx rfl (hb hby d4_7) rfl rfl ?_
                  show Steps p.tables e below (T1.setTop (mkF m 8 #[.val (.ref a1), .val (.ref a2), .unset] [(.ref a2)])) _
                  refine st2 _ ?_
                  show Steps p.tables e below (T2.setTop (mkF m 11 #[.val (.ref a1), .val (.ref a2), .unset] [(.ref a2)])) _
                  refine XS.astoreN X2.here hx rfl (hb hby d4_11) rfl rfl (l' := #[.val (.ref a1), .val (.ref a2), .val (.ref a2)]) rfl ?_
                  show Steps p.tables e below (T2.setTop (mkF m 12 #[.val (.ref a1), .val (.ref a2), .val (.ref a2)] [])) _
                  refine XS.aloadN X2.here hx rfl (hb hby d4_12) rfl rfl ?_
                  show Steps p.tables e below (T2.setTop (mkF m 13 #[.val (.ref a1), .val (.ref a2), .val (.ref a2)] [(.ref a1)])) _
                  refine st3 _ ?_
                  show Steps p.tables e below (T3.setTop (mkF m 16 #[.val (.ref a1), .val (.ref a2), .val (.ref a2)] [(.long x1)])) _
                  refine XS.aloadN X3.here hx rfl (hb hby d4_16) rfl rfl ?_
                  show Steps p.tables e below (T3.setTop (mkF m 17 #[.val (.ref a1), .val (.ref a2), .val (.ref a2)] [(.ref a2), (.long x1)])) _
                  refine st4 _ ?_
                  show Steps p.tables e below (T4.setTop (mkF m 20 #[.val (.ref a1), .val (.ref a2), .val (.ref a2)] [(.long y1), (.long x1)])) _
                  refine XS.lcmp X4.here hx rfl (hb hby d4_20) rfl ?_
                  show Steps p.tables e below (T4.setTop (mkF m 21 #[.val (.ref a1), .val (.ref a2), .val (.ref a2)] [(.int (lcmpW x1 y1))])) _
                  refine XS.ifNo X4.here hx rfl (hb hby d4_21) rfl ((if0 _ _).trans (teq hc21).2) ?_
                  show Steps p.tables e below (T4.setTop (mkF m 24 #[.val (.ref a1), .val (.ref a2), .val (.ref a2)] [])) _
                  refine XS.aloadN X4.here hx rfl (hb hby d4_24) rfl rfl ?_
                  show Steps p.tables e below (T4.setTop (mkF m 25 #[.val (.ref a1), .val (.ref a2), .val (.ref a2)] [(.ref a1)])) _
                  refine st5 _ ?_
                  show Steps p.tables e below (T5.setTop (mkF m 28 #[.val (.ref a1), .val (.ref a2), .val (.ref a2)] [(.int x2)])) _
                  refine XS.aloadN X5.here hx rfl (hb hby d4_28) rfl rfl ?_
                  show Steps p.tables e below (T5.setTop (mkF m 29 #[.val (.ref a1), .val (.ref a2), .val (.ref a2)] [(.ref a2), (.int x2)])) _
                  refine st6 _ ?_
                  show Steps p.tables e below (T6.setTop (mkF m 32 #[.val (.ref a1), .val (.ref a2), .val (.ref a2)] [(.int y2), (.int x2)])) _
                  refine XS.icmpNo X6.here hx rfl (hb hby d4_32) rfl (teq hc32).2 ?_
                  show Steps p.tables e below (T6.setTop (mkF m 35 #[.val (.ref a1), .val (.ref a2), .val (.ref a2)] [])) _
                  refine XS.aloadN X6.here hx rfl (hb hby d4_35) rfl rfl ?_
                  show Steps p.tables e below (T6.setTop (mkF m 36 #[.val (.ref a1), .val (.ref a2), .val (.ref a2)] [(.ref a1)])) _
                  refine st7 _ ?_
                  show Steps p.tables e below (T7.setTop (mkF m 39 #[.val (.ref a1), .val (.ref a2), .val (.ref a2)] [(.int x3)])) _
                  refine XS.aloadN X7.here hx rfl (hb hby d4_39) rfl rfl ?_
                  show Steps p.tables e below (T7.setTop (mkF m 40 #[.val (.ref a1), .val (.ref a2), .val (.ref a2)] [(.ref a2), (.int x3)])) _
                  refine st8 _ ?_
                  show Steps p.tables e below (T8.setTop (mkF m 43 #[.val (.ref a1), .val (.ref a2), .val (.ref a2)] [(.int y3), (.int x3)])) _
                  refine XS.icmpNo X8.here hx rfl (hb hby d4_43) rfl (teq hc43).2 ?_
                  show Steps p.tables e below (T8.setTop (mkF m 46 #[.val (.ref a1), .val (.ref a2), .val (.ref a2)] [])) _
                  refine XS.aloadN X8.here hx rfl (hb hby d4_46) rfl rfl ?_
                  show Steps p.tables e below (T8.setTop (mkF m 47 #[.val (.ref a1), .val (.ref a2), .val (.ref a2)] [(.ref a1)])) _
                  refine st9 _ ?_
                  show Steps p.tables e below (T9.setTop (mkF m 50 #[.val (.ref a1), .val (.ref a2), .val (.ref a2)] [(.ref x4)])) _
                  refine XS.aloadN X9.here hx rfl (hb hby d4_50) rfl rfl ?_
                  show Steps p.tables e below (T9.setTop (mkF m 51 #[.val (.ref a1), .val (.ref a2), .val (.ref a2)] [(.ref a2), (.ref x4)])) _
                  refine st10 _ ?_
                  show Steps p.tables e below (T10.setTop (mkF m 54 #[.val (.ref a1), .val (.ref a2), .val (.ref a2)] [(.ref y4), (.ref x4)])) _
                  refine Jvm.RoadKit.acmp (g := (mkF m 54 #[.val (.ref a1), .val (.ref a2), .val (.ref a2)] [(.ref y4), (.ref x4)])) X10 hx rfl rfl rfl (pc0 := 54) (pc' := 57) (same := true) rfl (hb hby d4_54) rfl (decide_eq_true (congrArg Value.ref ha54)) (by decide) (by decide) ?_
                  show Steps p.tables e below (T10.setTop (mkF m 57 #[.val (.ref a1), .val (.ref a2), .val (.ref a2)] [])) _
                  refine XS.aloadN X10.here hx rfl (hb hby d4_57) rfl rfl ?_
                  show Steps p.tables e below (T10.setTop (mkF m 58 #[.val (.ref a1), .val (.ref a2), .val (.ref a2)] [(.ref a1)])) _
                  refine st11 _ ?_
                  show Steps p.tables e below (T11.setTop (mkF m 61 #[.val (.ref a1), .val (.ref a2), .val (.ref a2)] [(.long x5)])) _
                  refine XS.aloadN X11.here hx rfl (hb hby d4_61) rfl rfl ?_
                  show Steps p.tables e below (T11.setTop (mkF m 62 #[.val (.ref a1), .val (.ref a2), .val (.ref a2)] [(.ref a2), (.long x5)])) _
                  refine st12 _ ?_
                  show Steps p.tables e below (T12.setTop (mkF m 65 #[.val (.ref a1), .val (.ref a2), .val (.ref a2)] [(.long y5), (.long x5)])) _
                  refine XS.lcmp X12.here hx rfl (hb hby d4_65) rfl ?_
                  show Steps p.tables e below (T12.setTop (mkF m 66 #[.val (.ref a1), .val (.ref a2), .val (.ref a2)] [(.int (lcmpW x5 y5))])) _
                  refine XS.ifNo X12.here hx rfl (hb hby d4_66) rfl ((if0 _ _).trans (teq hc66).2) ?_
                  show Steps p.tables e below (T12.setTop (mkF m 69 #[.val (.ref a1), .val (.ref a2), .val (.ref a2)] [])) _
                  refine XS.aloadN X12.here hx rfl (hb hby d4_69) rfl rfl ?_
                  show Steps p.tables e below (T12.setTop (mkF m 70 #[.val (.ref a1), .val (.ref a2), .val (.ref a2)] [(.ref a1)])) _
                  refine st13 _ ?_
                  show Steps p.tables e below (T13.setTop (mkF m 73 #[.val (.ref a1), .val (.ref a2), .val (.ref a2)] [(.int x6)])) _
                  refine XS.aloadN X13.here hx rfl (hb hby d4_73) rfl rfl ?_
                  show Steps p.tables e below (T13.setTop (mkF m 74 #[.val (.ref a1), .val (.ref a2), .val (.ref a2)] [(.ref a2), (.int x6)])) _
                  refine st14 _ ?_
                  show Steps p.tables e below (T14.setTop (mkF m 77 #[.val (.ref a1), .val (.ref a2), .val (.ref a2)] [(.int y6), (.int x6)])) _
                  refine XS.icmpNo X14.here hx rfl (hb hby d4_77) rfl (teq hc77).2 ?_
                  show Steps p.tables e below (T14.setTop (mkF m 80 #[.val (.ref a1), .val (.ref a2), .val (.ref a2)] [])) _
                  refine XS.aloadN X14.here hx rfl (hb hby d4_80) rfl rfl ?_
                  show Steps p.tables e below (T14.setTop (mkF m 81 #[.val (.ref a1), .val (.ref a2), .val (.ref a2)] [(.ref a1)])) _
                  refine st15 _ ?_
                  show Steps p.tables e below (T15.setTop (mkF m 84 #[.val (.ref a1), .val (.ref a2), .val (.ref a2)] [(.long x7)])) _
                  refine XS.aloadN X15.here hx rfl (hb hby d4_84) rfl rfl ?_
                  show Steps p.tables e below (T15.setTop (mkF m 85 #[.val (.ref a1), .val (.ref a2), .val (.ref a2)] [(.ref a2), (.long x7)])) _
                  refine st16 _ ?_
                  show Steps p.tables e below (T16.setTop (mkF m 88 #[.val (.ref a1), .val (.ref a2), .val (.ref a2)] [(.long y7), (.long x7)])) _
                  refine XS.lcmp X16.here hx rfl (hb hby d4_88) rfl ?_
                  show Steps p.tables e below (T16.setTop (mkF m 89 #[.val (.ref a1), .val (.ref a2), .val (.ref a2)] [(.int (lcmpW x7 y7))])) _
                  refine XS.ifYes X16.here hx rfl (pc0 := 89) (pc' := 96) rfl (hb hby d4_89) rfl ((if0 _ _).trans (feq hc89).2) (by decide) (by decide) ?_
                  show Steps p.tables e below (T16.setTop (mkF m 96 #[.val (.ref a1), .val (.ref a2), .val (.ref a2)] [])) _
                  refine XS.iconst X16.here hx rfl (hb hby d4_96) ?_
                  show Steps p.tables e below (T16.setTop (mkF m 97 #[.val (.ref a1), .val (.ref a2), .val (.ref a2)] [(.int (0 : Int32))])) _
                  exact retN X16 hx (t := .boolean) Bd.returns (by simp) (hb hby d4_97) hr
                · show Q4 x1 x2 x3 x4 x5 x6 x7 y1 y2 y3 y4 y5 y6 y7 h0 n0 _ T16.heap _
                  rw [e16]
                  exact ⟨(by simp only [own_eq, if_pos hc21, if_pos hc32, if_pos hc43, if_pos ha54, if_pos hc66, if_pos hc77, if_neg hc89]), N0, rfl⟩
            ·
              obtain ⟨fs, hr, hrun, hended, hW, hsame⟩ := X14.leave (v := some (.int (0 : Int32))) (fun h => by rw [Bd.returns] at h; cases h)
              refine ⟨_, _, pre0 _ ?_, hrun, hended, _, _, rfl, ?_, ⟨_, rfl⟩, hW, hsame.mono (by decide) (by decide)⟩
              · show Steps p.tables e below (s₁.setTop (mkF m 0 #[.val (.ref a1), .val (.ref a2), .unset] [])) _
                refine XS.aloadN X0.here hx rfl (hb hby d4_0) rfl rfl ?_
                show Steps p.tables e below (s₁.setTop (mkF m 1 #[.val (.ref a1), .val (.ref a2), .unset] [(.ref a2)])) _
                refine st1 _ ?_
                show Steps p.tables e below (T1.setTop (mkF m 4 #[.val (.ref a1), .val (.ref a2), .unset] [(.int (1 : Int32))])) _
                refine XS.ifNo X1.here hx rfl (hb hby d4_4) rfl ((if0 _ _).trans (feq (by decide : ¬ (1 : Int32) = (0 : Int32))).1) ?_
                show Steps p.tables e below (T1.setTop (mkF m 7 #[.val (.ref a1), .val (.ref a2), .unset] [])) _
                refine XS.aloadN X1.here hx rfl (hb hby d4_7) rfl rfl ?_
                show Steps p.tables e below (T1.setTop (mkF m 8 #[.val (.ref a1), .val (.ref a2), .unset] [(.ref a2)])) _
                refine st2 _ ?_
                show Steps p.tables e below (T2.setTop (mkF m 11 #[.val (.ref a1), .val (.ref a2), .unset] [(.ref a2)])) _
                refine XS.astoreN X2.here hx rfl (hb hby d4_11) rfl rfl (l' := #[.val (.ref a1), .val (.ref a2), .val (.ref a2)]) rfl ?_
                show Steps p.tables e below (T2.setTop (mkF m 12 #[.val (.ref a1), .val (.ref a2), .val (.ref a2)] [])) _
                refine XS.aloadN X2.here hx rfl (hb hby d4_12) rfl rfl ?_
                show Steps p.tables e below (T2.setTop (mkF m 13 #[.val (.ref a1), .val (.ref a2), .val (.ref a2)] [(.ref a1)])) _
                refine st3 _ ?_
                show Steps p.tables e below (T3.setTop (mkF m 16 #[.val (.ref a1), .val (.ref a2), .val (.ref a2)] [(.long x1)])) _
                refine XS.aloadN X3.here hx rfl (hb hby d4_16) rfl rfl ?_
                show Steps p.tables e below (T3.setTop (mkF m 17 #[.val (.ref a1), .val (.ref a2), .val (.ref a2)] [(.ref a2), (.long x1)])) _
                refine st4 _ ?_
                show Steps p.tables e below (T4.setTop (mkF m 20 #[.val (.ref a1), .val (.ref a2), .val (.ref a2)] [(.long y1), (.long x1)])) _
                refine XS.lcmp X4.here hx rfl (hb hby d4_20) rfl ?_
                show Steps p.tables e below (T4.setTop (mkF m 21 #[.val (.ref a1), .val (.ref a2), .val (.ref a2)] [(.int (lcmpW x1 y1))])) _
                refine XS.ifNo X4.here hx rfl (hb hby d4_21) rfl ((if0 _ _).trans (teq hc21).2) ?_
                show Steps p.tables e below (T4.setTop (mkF m 24 #[.val (.ref a1), .val (.ref a2), .val (.ref a2)] [])) _
                refine XS.aloadN X4.here hx rfl (hb hby d4_24) rfl rfl ?_
                show Steps p.tables e below (T4.setTop (mkF m 25 #[.val (.ref a1), .val (.ref a2), .val (.ref a2)] [(.ref a1)])) _
                refine st5 _ ?_
                show Steps p.tables e below (T5.setTop (mkF m 28 #[.val (.ref a1), .val (.ref a2), .val (.ref a2)] [(.int x2)])) _
                refine XS.aloadN X5.here hx rfl (hb hby d4_28) rfl rfl ?_
                show Steps p.tables e below (T5.setTop (mkF m 29 #[.val (.ref a1), .val (.ref a2), .val (.ref a2)] [(.ref a2), (.int x2)])) _
                refine st6 _ ?_
                show Steps p.tables e below (T6.setTop (mkF m 32 #[.val (.ref a1), .val (.ref a2), .val (.ref a2)] [(.int y2), (.int x2)])) _
                refine XS.icmpNo X6.here hx rfl (hb hby d4_32) rfl (teq hc32).2 ?_
                show Steps p.tables e below (T6.setTop (mkF m 35 #[.val (.ref a1), .val (.ref a2), .val (.ref a2)] [])) _
                refine XS.aloadN X6.here hx rfl (hb hby d4_35) rfl rfl ?_
                show Steps p.tables e below (T6.setTop (mkF m 36 #[.val (.ref a1), .val (.ref a2), .val (.ref a2)] [(.ref a1)])) _
                refine st7 _ ?_
                show Steps p.tables e below (T7.setTop (mkF m 39 #[.val (.ref a1), .val (.ref a2), .val (.ref a2)] [(.int x3)])) _
                refine XS.aloadN X7.here hx rfl (hb hby d4_39) rfl rfl ?_
                show Steps p.tables e below (T7.setTop (mkF m 40 #[.val (.ref a1), .val (.ref a2), .val (.ref a2)] [(.ref a2), (.int x3)])) _
                refine st8 _ ?_
                show Steps p.tables e below (T8.setTop (mkF m 43 #[.val (.ref a1), .val (.ref a2), .val (.ref a2)] [(.int y3), (.int x3)])) _
                refine XS.icmpNo X8.here hx rfl (hb hby d4_43) rfl (teq hc43).2 ?_
                show Steps p.tables e below (T8.setTop (mkF m 46 #[.val (.ref a1), .val (.ref a2), .val (.ref a2)] [])) _
                refine XS.aloadN X8.here hx rfl (hb hby d4_46) rfl rfl ?_
                show Steps p.tables e below (T8.setTop (mkF m 47 #[.val (.ref a1), .val (.ref a2), .val (.ref a2)] [(.ref a1)])) _
                refine st9 _ ?_
                show Steps p.tables e below (T9.setTop (mkF m 50 #[.val (.ref a1), .val (.ref a2), .val (.ref a2)] [(.ref x4)])) _
                refine XS.aloadN X9.here hx rfl (hb hby d4_50) rfl rfl ?_
                show Steps p.tables e below (T9.setTop (mkF m 51 #[.val (.ref a1), .val (.ref a2), .val (.ref a2)] [(.ref a2), (.ref x4)])) _
                refine st10 _ ?_
                show Steps p.tables e below (T10.setTop (mkF m 54 #[.val (.ref a1), .val (.ref a2), .val (.ref a2)] [(.ref y4), (.ref x4)])) _
                refine Jvm.RoadKit.acmp (g := (mkF m 54 #[.val (.ref a1), .val (.ref a2), .val (.ref a2)] [(.ref y4), (.ref x4)])) X10 hx rfl rfl rfl (pc0 := 54) (pc' := 57) (same := true) rfl (hb hby d4_54) rfl (decide_eq_true (congrArg Value.ref ha54)) (by decide) (by decide) ?_
                show Steps p.tables e below (T10.setTop (mkF m 57 #[.val (.ref a1), .val (.ref a2), .val (.ref a2)] [])) _
                refine XS.aloadN X10.here hx rfl (hb hby d4_57) rfl rfl ?_
                show Steps p.tables e below (T10.setTop (mkF m 58 #[.val (.ref a1), .val (.ref a2), .val (.ref a2)] [(.ref a1)])) _
                refine st11 _ ?_
                show Steps p.tables e below (T11.setTop (mkF m 61 #[.val (.ref a1), .val (.ref a2), .val (.ref a2)] [(.long x5)])) _
                refine XS.aloadN X11.here hx rfl (hb hby d4_61) rfl rfl ?_
                show Steps p.tables e below (T11.setTop (mkF m 62 #[.val (.ref a1), .val (.ref a2), .val (.ref a2)] [(.ref a2), (.long x5)])) _
                refine st12 _ ?_
                show Steps p.tables e below (T12.setTop (mkF m 65 #[.val (.ref a1), .val (.ref a2), .val (.ref a2)] [(.long y5), (.long x5)])) _
                refine XS.lcmp X12.here hx rfl (hb hby d4_65) rfl ?_
                show Steps p.tables e below (T12.setTop (mkF m 66 #[.val (.ref a1), .val (.ref a2), .val (.ref a2)] [(.int (lcmpW x5 y5))])) _
                refine XS.ifNo X12.here hx rfl (hb hby d4_66) rfl ((if0 _ _).trans (teq hc66).2) ?_
                show Steps p.tables e below (T12.setTop (mkF m 69 #[.val (.ref a1), .val (.ref a2), .val (.ref a2)] [])) _
                refine XS.aloadN X12.here hx rfl (hb hby d4_69) rfl rfl ?_
                show Steps p.tables e below (T12.setTop (mkF m 70 #[.val (.ref a1), .val (.ref a2), .val (.ref a2)] [(.ref a1)])) _
                refine st13 _ ?_
                show Steps p.tables e below (T13.setTop (mkF m 73 #[.val (.ref a1), .val (.ref a2), .val (.ref a2)] [(.int x6)])) _
                refine XS.aloadN X13.here hx rfl (hb hby d4_73) rfl rfl ?_
                show Steps p.tables e below (T13.setTop (mkF m 74 #[.val (.ref a1), .val (.ref a2), .val (.ref a2)] [(.ref a2), (.int x6)])) _
                refine st14 _ ?_
                show Steps p.tables e below (T14.setTop (mkF m 77 #[.val (.ref a1), .val (.ref a2), .val (.ref a2)] [(.int y6), (.int x6)])) _
                refine XS.icmpYes X14.here hx rfl (pc0 := 77) (pc' := 96) rfl (hb hby d4_77) rfl (feq hc77).2 (by decide) (by decide) ?_
                show Steps p.tables e below (T14.setTop (mkF m 96 #[.val (.ref a1), .val (.ref a2), .val (.ref a2)] [])) _
                refine XS.iconst X14.here hx rfl (hb hby d4_96) ?_
                show Steps p.tables e below (T14.setTop (mkF m 97 #[.val (.ref a1), .val (.ref a2), .val (.ref a2)] [(.int (0 : Int32))])) _
                exact retN X14 hx (t := .boolean) Bd.returns (by simp) (hb hby d4_97) hr
              · show Q4 x1 x2 x3 x4 x5 x6 x7 y1 y2 y3 y4 y5 y6 y7 h0 n0 _ T14.heap _
                rw [e14]
                exact ⟨(by simp only [own_eq, if_pos hc21, if_pos hc32, if_pos hc43, if_pos ha54, if_pos hc66, if_neg hc77]), N0, rfl⟩
          ·
            obtain ⟨fs, hr, hrun, hended, hW, hsame⟩ := X12.leave (v := some (.int (0 : Int32))) (fun h => by rw [Bd.returns] at h; cases h)
            refine ⟨_, _, pre0 _ ?_, hrun, hended, _, _, rfl, ?_, ⟨_, rfl⟩, hW, hsame.mono (by decide) (by decide)⟩
            · show Steps p.tables e below (s₁.setTop (mkF m 0 #[.val (.ref a1), .val (.ref a2), .unset] [])) _
              refine XS.aloadN X0.here hx rfl (hb hby d4_0) rfl rfl ?_
              show Steps p.tables e below (s₁.setTop (mkF m 1 #[.val (.ref a1), .val (.ref a2), .unset] [(.ref a2)])) _
              refine st1 _ ?_
              show Steps p.tables e below (T1.setTop (mkF m 4 #[.val (.ref a1), .val (.ref a2), .unset] [(.int (1 : Int32))])) _
              refine XS.ifNo X1.here hx rfl (hb hby d4_4) rfl ((if0 _ _).trans (feq (by decide : ¬ (1 : Int32) = (0 : Int32))).1) ?_
              show Steps p.tables e below (T1.setTop (mkF m 7 #[.val (.ref a1), .val (.ref a2), .unset] [])) _
              refine XS.aloadN X1.here hx rfl (hb hby d4_7) rfl rfl ?_
              show Steps p.tables e below (T1.setTop (mkF m 8 #[.val (.ref a1), .val (.ref a2), .unset] [(.ref a2)])) _
              refine st2 _ ?_
              show Steps p.tables e below (T2.setTop (mkF m 11 #[.val (.ref a1), .val (.ref a2), .unset] [(.ref a2)])) _
              refine XS.astoreN X2.here hx rfl (hb hby d4_11) rfl rfl (l' := #[.val (.ref a1), .val (.ref a2), .val (.ref a2)]) rfl ?_
              show Steps p.tables e below (T2.setTop (mkF m 12 #[.val (.ref a1), .val (.ref a2), .val (.ref a2)] [])) _
              refine XS.aloadN X2.here hx rfl (hb hby d4_12) rfl rfl ?_
              show Steps p.tables e below (T2.setTop (mkF m 13 #[.val (.ref a1), .val (.ref a2), .val (.ref a2)] [(.ref a1)])) _
              refine st3 _ ?_
              show Steps p.tables e below (T3.setTop (mkF m 16 #[.val (.ref a1), .val (.ref a2), .val (.ref a2)] [(.long x1)])) _
              refine XS.aloadN X3.here hx rfl (hb hby d4_16) rfl rfl ?_
              show Steps p.tables e below (T3.setTop (mkF m 17 #[.val (.ref a1), .val (.ref a2), .val (.ref a2)] [(.ref a2), (.long x1)])) _
              refine st4 _ ?_
              show Steps p.tables e below (T4.setTop (mkF m 20 #[.val (.ref a1), .val (.ref a2), .val (.ref a2)] [(.long y1), (.long x1)])) _
              refine XS.lcmp X4.here hx rfl (hb hby d4_20) rfl ?_
              show Steps p.tables e below (T4.setTop (mkF m 21 #[.val (.ref a1), .val (.ref a2), .val (.ref a2)] [(.int (lcmpW x1 y1))])) _
              refine XS.ifNo X4.here hx rfl (hb hby d4_21) rfl ((if0 _ _).trans (teq hc21).2) ?_
              show Steps p.tables e below (T4.setTop (mkF m 24 #[.val (.ref a1), .val (.ref a2), .val (.ref a2)] [])) _
              refine XS.aloadN X4.here hx rfl (hb hby d4_24) rfl rfl ?_
              show Steps p.tables e below (T4.setTop (mkF m 25 #[.val (.ref a1), .val (.ref a2), .val (.ref a2)] [(.ref a1)])) _
              refine st5 _ ?_
              show Steps p.tables e below (T5.setTop (mkF m 28 #[.val (.ref a1), .val (.ref a2), .val (.ref a2)] [(.int x2)])) _
              refine XS.aloadN X5.here hx rfl (hb hby d4_28) rfl rfl ?_
              show Steps p.tables e below (T5.setTop (mkF m 29 #[.val (.ref a1), .val (.ref a2), .val (.ref a2)] [(.ref a2), (.int x2)])) _
              refine st6 _ ?_
              show Steps p.tables e below (T6.setTop (mkF m 32 #[.val (.ref a1), .val (.ref a2), .val (.ref a2)] [(.int y2), (.int x2)])) _
              refine XS.icmpNo X6.here hx rfl (hb hby d4_32) rfl (teq hc32).2 ?_
              show Steps p.tables e below (T6.setTop (mkF m 35 #[.val (.ref a1), .val (.ref a2), .val (.ref a2)] [])) _
              refine XS.aloadN X6.here hx rfl (hb hby d4_35) rfl rfl ?_
              show Steps p.tables e below (T6.setTop (mkF m 36 #[.val (.ref a1), .val (.ref a2), .val (.ref a2)] [(.ref a1)])) _
              refine st7 _ ?_
              show Steps p.tables e below (T7.setTop (mkF m 39 #[.val (.ref a1), .val (.ref a2), .val (.ref a2)] [(.int x3)])) _
              refine XS.aloadN X7.here hx rfl (hb hby d4_39) rfl rfl ?_
              show Steps p.tables e below (T7.setTop (mkF m 40 #[.val (.ref a1), .val (.ref a2), .val (.ref a2)] [(.ref a2), (.int x3)])) _
              refine st8 _ ?_
              show Steps p.tables e below (T8.setTop (mkF m 43 #[.val (.ref a1), .val (.ref a2), .val (.ref a2)] [(.int y3), (.int x3)])) _
              refine XS.icmpNo X8.here hx rfl (hb hby d4_43) rfl (teq hc43).2 ?_
              show Steps p.tables e below (T8.setTop (mkF m 46 #[.val (.ref a1), .val (.ref a2), .val (.ref a2)] [])) _
              refine XS.aloadN X8.here hx rfl (hb hby d4_46) rfl rfl ?_
              show Steps p.tables e below (T8.setTop (mkF m 47 #[.val (.ref a1), .val (.ref a2), .val (.ref a2)] [(.ref a1)])) _
              refine st9 _ ?_
              show Steps p.tables e below (T9.setTop (mkF m 50 #[.val (.ref a1), .val (.ref a2), .val (.ref a2)] [(.ref x4)])) _
              refine XS.aloadN X9.here hx rfl (hb hby d4_50) rfl rfl ?_
              show Steps p.tables e below (T9.setTop (mkF m 51 #[.val (.ref a1), .val (.ref a2), .val (.ref a2)] [(.ref a2), (.ref x4)])) _
              refine st10 _ ?_
              show Steps p.tables e below (T10.setTop (mkF m 54 #[.val (.ref a1), .val (.ref a2), .val (.ref a2)] [(.ref y4), (.ref x4)])) _
              refine Jvm.RoadKit.acmp (g := (mkF m 54 #[.val (.ref a1), .val (.ref a2), .val (.ref a2)] [(.ref y4), (.ref x4)])) X10 hx rfl rfl rfl (pc0 := 54) (pc' := 57) (same := true) rfl (hb hby d4_54) rfl (decide_eq_true (congrArg Value.ref ha54)) (by decide) (by decide) ?_
              show Steps p.tables e below (T10.setTop (mkF m 57 #[.val (.ref a1), .val (.ref a2), .val (.ref a2)] [])) _
              refine XS.aloadN X10.here hx rfl (hb hby d4_57) rfl rfl ?_
              show Steps p.tables e below (T10.setTop (mkF m 58 #[.val (.ref a1), .val (.ref a2), .val (.ref a2)] [(.ref a1)])) _
              refine st11 _ ?_
              show Steps p.tables e below (T11.setTop (mkF m 61 #[.val (.ref a1), .val (.ref a2), .val (.ref a2)] [(.long x5)])) _
              refine XS.aloadN X11.here hx rfl (hb hby d4_61) rfl rfl ?_
              show Steps p.tables e below (T11.setTop (mkF m 62 #[.val (.ref a1), .val (.ref a2), .val (.ref a2)] [(.ref a2), (.long x5)])) _
              refine st12 _ ?_
              show Steps p.tables e below (T12.setTop (mkF m 65 #[.val (.ref a1), .val (.ref a2), .val (.ref a2)] [(.long y5), (.long x5)])) _
              refine XS.lcmp X12.here hx rfl (hb hby d4_65) rfl ?_
              show Steps p.tables e below (T12.setTop (mkF m 66 #[.val (.ref a1), .val (.ref a2), .val (.ref a2)] [(.int (lcmpW x5 y5))])) _
              refine XS.ifYes X12.here hx rfl (pc0 := 66) (pc' := 96) rfl (hb hby d4_66) rfl ((if0 _ _).trans (feq hc66).2) (by decide) (by decide) ?_
              show Steps p.tables e below (T12.setTop (mkF m 96 #[.val (.ref a1), .val (.ref a2), .val (.ref a2)] [])) _
              refine XS.iconst X12.here hx rfl (hb hby d4_96) ?_
              show Steps p.tables e below (T12.setTop (mkF m 97 #[.val (.ref a1), .val (.ref a2), .val (.ref a2)] [(.int (0 : Int32))])) _
              exact retN X12 hx (t := .boolean) Bd.returns (by simp) (hb hby d4_97) hr
            · show Q4 x1 x2 x3 x4 x5 x6 x7 y1 y2 y3 y4 y5 y6 y7 h0 n0 _ T12.heap _
              rw [e12]
              exact ⟨(by simp only [own_eq, if_pos hc21, if_pos hc32, if_pos hc43, if_pos ha54, if_neg hc66]), N0, rfl⟩
        ·
          obtain ⟨fs, hr, hrun, hended, hW, hsame⟩ := X10.leave (v := some (.int (0 : Int32))) (fun h => by rw [Bd.returns] at h; cases h)
          refine ⟨_, _, pre0 _ ?_, hrun, hended, _, _, rfl, ?_, ⟨_, rfl⟩, hW, hsame.mono (by decide) (by decide)⟩
          · show Steps p.tables e below (s₁.setTop (mkF m 0 #[.val (.ref a1), .val (.ref a2), .unset] [])) _
            refine XS.aloadN X0.here hx rfl (hb hby d4_0) rfl rfl ?_
            show Steps p.tables e below (s₁.setTop (mkF m 1 #[.val (.ref a1), .val (.ref a2), .unset] [(.ref a2)])) _
            refine st1 _ ?_
            show Steps p.tables e below (T1.setTop (mkF m 4 #[.val (.ref a1), .val (.ref a2), .unset] [(.int (1 : Int32))])) _
            refine XS.ifNo X1.here hx rfl (hb hby d4_4) rfl ((if0 _ _).trans (feq (by decide : ¬ (1 : Int32) = (0 : Int32))).1) ?_
            show Steps p.tables e below (T1.setTop (mkF m 7 #[.val (.ref a1), .val (.ref a2), .unset] [])) _
            refine XS.aloadN X1.here hx rfl (hb hby d4_7) rfl rfl ?_
            show Steps p.tables e below (T1.setTop (mkF m 8 #[.val (.ref a1), .val (.ref a2), .unset] [(.ref a2)])) _
            refine st2 _ ?_
            show Steps p.tables e below (T2.setTop (mkF m 11 #[.val (.ref a1), .val (.ref a2), .unset] [(.ref a2)])) _
            refine XS.astoreN X2.here hx rfl (hb hby d4_11) rfl rfl (l' := #[.val (.ref a1), .val (.ref a2), .val (.ref a2)]) rfl ?_
            show Steps p.tables e below (T2.setTop (mkF m 12 #[.val (.ref a1), .val (.ref a2), .val (.ref a2)] [])) _
            refine XS.aloadN X2.here hx rfl (hb hby d4_12) rfl rfl ?_
            show Steps p.tables e below (T2.setTop (mkF m 13 #[.val (.ref a1), .val (.ref a2), .val (.ref a2)] [(.ref a1)])) _
            refine st3 _ ?_
            show Steps p.tables e below (T3.setTop (mkF m 16 #[.val (.ref a1), .val (.ref a2), .val (.ref a2)] [(.long x1)])) _
            refine XS.aloadN X3.here hx rfl (hb hby d4_16) rfl rfl ?_
            show Steps p.tables e below (T3.setTop (mkF m 17 #[.val (.ref a1), .val (.ref a2), .val (.ref a2)] [(.ref a2), (.long x1)])) _
            refine st4 _ ?_
            show Steps p.tables e below (T4.setTop (mkF m 20 #[.val (.ref a1), .val (.ref a2), .val (.ref a2)] [(.long y1), (.long x1)])) _
            refine XS.lcmp X4.here hx rfl (hb hby d4_20) rfl ?_
            show Steps p.tables e below (T4.setTop (mkF m 21 #[.val (.ref a1), .val (.ref a2), .val (.ref a2)] [(.int (lcmpW x1 y1))])) _
            refine XS.ifNo X4.here hx rfl (hb hby d4_21) rfl ((if0 _ _).trans (teq hc21).2) ?_
            show Steps p.tables e below (T4.setTop (mkF m 24 #[.val (.ref a1), .val (.ref a2), .val (.ref a2)] [])) _
            refine XS.aloadN X4.here hx rfl (hb hby d4_24) rfl rfl ?_
            show Steps p.tables e below (T4.setTop (mkF m 25 #[.val (.ref a1), .val (.ref a2), .val (.ref a2)] [(.ref a1)])) _
            refine st5 _ ?_
            show Steps p.tables e below (T5.setTop (mkF m 28 #[.val (.ref a1), .val (.ref a2), .val (.ref a2)] [(.int x2)])) _
            refine XS.aloadN X5.here hx rfl (hb hby d4_28) rfl rfl ?_
            show Steps p.tables e below (T5.setTop (mkF m 29 #[.val (.ref a1), .val (.ref a2), .val (.ref a2)] [(.ref a2), (.int x2)])) _
            refine st6 _ ?_
            show Steps p.tables e below (T6.setTop (mkF m 32 #[.val (.ref a1), .val (.ref a2), .val (.ref a2)] [(.int y2), (.int x2)])) _
            refine XS.icmpNo X6.here hx rfl (hb hby d4_32) rfl (teq hc32).2 ?_
            show Steps p.tables e below (T6.setTop (mkF m 35 #[.val (.ref a1), .val (.ref a2), .val (.ref a2)] [])) _
            refine XS.aloadN X6.here hx rfl (hb hby d4_35) rfl rfl ?_
            show Steps p.tables e below (T6.setTop (mkF m 36 #[.val (.ref a1), .val (.ref a2), .val (.ref a2)] [(.ref a1)])) _
            refine st7 _ ?_
            show Steps p.tables e below (T7.setTop (mkF m 39 #[.val (.ref a1), .val (.ref a2), .val (.ref a2)] [(.int x3)])) _
            refine XS.aloadN X7.here hx rfl (hb hby d4_39) rfl rfl ?_
            show Steps p.tables e below (T7.setTop (mkF m 40 #[.val (.ref a1), .val (.ref a2), .val (.ref a2)] [(.ref a2), (.int x3)])) _
            refine st8 _ ?_
            show Steps p.tables e below (T8.setTop (mkF m 43 #[.val (.ref a1), .val (.ref a2), .val (.ref a2)] [(.int y3), (.int x3)])) _
            refine XS.icmpNo X8.here hx rfl (hb hby d4_43) rfl (teq hc43).2 ?_
            show Steps p.tables e below (T8.setTop (mkF m 46 #[.val (.ref a1), .val (.ref a2), .val (.ref a2)] [])) _
            refine XS.aloadN X8.here hx rfl (hb hby d4_46) rfl rfl ?_
            show Steps p.tables e below (T8.setTop (mkF m 47 #[.val (.ref a1), .val (.ref a2), .val (.ref a2)] [(.ref a1)])) _
            refine st9 _ ?_
            show Steps p.tables e below (T9.setTop (mkF m 50 #[.val (.ref a1), .val (.ref a2), .val (.ref a2)] [(.ref x4)])) _
            refine XS.aloadN X9.here hx rfl (hb hby d4_50) rfl rfl ?_
            show Steps p.tables e below (T9.setTop (mkF m 51 #[.val (.ref a1), .val (.ref a2), .val (.ref a2)] [(.ref a2), (.ref x4)])) _
            refine st10 _ ?_
            show Steps p.tables e below (T10.setTop (mkF m 54 #[.val (.ref a1), .val (.ref a2), .val (.ref a2)] [(.ref y4), (.ref x4)])) _
            refine Jvm.RoadKit.acmp (g := (mkF m 54 #[.val (.ref a1), .val (.ref a2), .val (.ref a2)] [(.ref y4), (.ref x4)])) X10 hx rfl rfl rfl (pc0 := 54) (pc' := 96) (same := false) rfl (hb hby d4_54) rfl (decide_eq_false fun q => ha54 (Value.ref.inj q)) (by decide) (by decide) ?_
            show Steps p.tables e below (T10.setTop (mkF m 96 #[.val (.ref a1), .val (.ref a2), .val (.ref a2)] [])) _
            refine XS.iconst X10.here hx rfl (hb hby d4_96) ?_
            show Steps p.tables e below (T10.setTop (mkF m 97 #[.val (.ref a1), .val (.ref a2), .val (.ref a2)] [(.int (0 : Int32))])) _
            exact retN X10 hx (t := .boolean) Bd.returns (by simp) (hb hby d4_97) hr
          · show Q4 x1 x2 x3 x4 x5 x6 x7 y1 y2 y3 y4 y5 y6 y7 h0 n0 _ T10.heap _
            rw [e10]
            exact ⟨(by simp only [own_eq, if_pos hc21, if_pos hc32, if_pos hc43, if_neg ha54]), N0, rfl⟩
      ·
        obtain ⟨fs, hr, hrun, hended, hW, hsame⟩ := X8.leave (v := some (.int (0 : Int32))) (fun h => by rw [Bd.returns] at h; cases h)
        refine ⟨_, _, pre0 _ ?_, hrun, hended, _, _, rfl, ?_, ⟨_, rfl⟩, hW, hsame.mono (by decide) (by decide)⟩
        · show Steps p.tables e below (s₁.setTop (mkF m 0 #[.val (.ref a1), .val (.ref a2), .unset] [])) _
          refine XS.aloadN X0.here hx rfl (hb hby d4_0) rfl rfl ?_
          show Steps p.tables e below (s₁.setTop (mkF m 1 #[.val (.ref a1), .val (.ref a2), .unset] [(.ref a2)])) _
          refine st1 _ ?_
          show Steps p.tables e below (T1.setTop (mkF m 4 #[.val (.ref a1), .val (.ref a2), .unset] [(.int (1 : Int32))])) _
          refine XS.ifNo X1.here hx rfl (hb hby d4_4) rfl ((if0 _ _).trans (feq (by decide : ¬ (1 : Int32) = (0 : Int32))).1) ?_
          show Steps p.tables e below (T1.setTop (mkF m 7 #[.val (.ref a1), .val (.ref a2), .unset] [])) _
          refine XS.aloadN X1.here hx rfl (hb hby d4_7) rfl rfl ?_
          show Steps p.tables e below (T1.setTop (mkF m 8 #[.val (.ref a1), .val (.ref a2), .unset] [(.ref a2)])) _
          refine st2 _ ?_
          show Steps p.tables e below (T2.setTop (mkF m 11 #[.val (.ref a1), .val (.ref a2), .unset] [(.ref a2)])) _
          refine XS.astoreN X2.here hx rfl (hb hby d4_11) rfl rfl (l' := #[.val (.ref a1), .val (.ref a2), .val (.ref a2)]) rfl ?_
          show Steps p.tables e below (T2.setTop (mkF m 12 #[.val (.ref a1), .val (.ref a2), .val (.ref a2)] [])) _
          refine XS.aloadN X2.here hx rfl (hb hby d4_12) rfl rfl ?_
          show Steps p.tables e below (T2.setTop (mkF m 13 #[.val (.ref a1), .val (.ref a2), .val (.ref a2)] [(.ref a1)])) _
          refine st3 _ ?_
          show Steps p.tables e below (T3.setTop (mkF m 16 #[.val (.ref a1), .val (.ref a2), .val (.ref a2)] [(.long x1)])) _
          refine XS.aloadN X3.here hx rfl (hb hby d4_16) rfl rfl ?_
          show Steps p.tables e below (T3.setTop (mkF m 17 #[.val (.ref a1), .val (.ref a2), .val (.ref a2)] [(.ref a2), (.long x1)])) _
          refine st4 _ ?_
          show Steps p.tables e below (T4.setTop (mkF m 20 #[.val (.ref a1), .val (.ref a2), .val (.ref a2)] [(.long y1), (.long x1)])) _
          refine XS.lcmp X4.here hx rfl (hb hby d4_20) rfl ?_
          show Steps p.tables e below (T4.setTop (mkF m 21 #[.val (.ref a1), .val (.ref a2), .val (.ref a2)] [(.int (lcmpW x1 y1))])) _
          refine XS.ifNo X4.here hx rfl (hb hby d4_21) rfl ((if0 _ _).trans (teq hc21).2) ?_
          show Steps p.tables e below (T4.setTop (mkF m 24 #[.val (.ref a1), .val (.ref a2), .val (.ref a2)] [])) _
          refine XS.aloadN X4.here hx rfl (hb hby d4_24) rfl rfl ?_
          show Steps p.tables e below (T4.setTop (mkF m 25 #[.val (.ref a1), .val (.ref a2), .val (.ref a2)] [(.ref a1)])) _
          refine st5 _ ?_
          show Steps p.tables e below (T5.setTop (mkF m 28 #[.val (.ref a1), .val (.ref a2), .val (.ref a2)] [(.int x2)])) _
          refine XS.aloadN X5.here hx rfl (hb hby d4_28) rfl rfl ?_
          show Steps p.tables e below (T5.setTop (mkF m 29 #[.val (.ref a1), .val (.ref a2), .val (.ref a2)] [(.ref a2), (.int x2)])) _
          refine st6 _ ?_
          show Steps p.tables e below (T6.setTop (mkF m 32 #[.val (.ref a1), .val (.ref a2), .val (.ref a2)] [(.int y2), (.int x2)])) _
          refine XS.icmpNo X6.here hx rfl (hb hby d4_32) rfl (teq hc32).2 ?_
          show Steps p.tables e below (T6.setTop (mkF m 35 #[.val (.ref a1), .val (.ref a2), .val (.ref a2)] [])) _
          refine XS.aloadN X6.here hx rfl (hb hby d4_35) rfl rfl ?_
          show Steps p.tables e below (T6.setTop (mkF m 36 #[.val (.ref a1), .val (.ref a2), .val (.ref a2)] [(.ref a1)])) _
          refine st7 _ ?_
          show Steps p.tables e below (T7.setTop (mkF m 39 #[.val (.ref a1), .val (.ref a2), .val (.ref a2)] [(.int x3)])) _
          refine XS.aloadN X7.here hx rfl (hb hby d4_39) rfl rfl ?_
          show Steps p.tables e below (T7.setTop (mkF m 40 #[.val (.ref a1), .val (.ref a2), .val (.ref a2)] [(.ref a2), (.int x3)])) _
          refine st8 _ ?_
          show Steps p.tables e below (T8.setTop (mkF m 43 #[.val (.ref a1), .val (.ref a2), .val (.ref a2)] [(.int y3), (.int x3)])) _
          refine XS.icmpYes X8.here hx rfl (pc0 := 43) (pc' := 96) rfl (hb hby d4_43) rfl (feq hc43).2 (by decide) (by decide) ?_
          show Steps p.tables e below (T8.setTop (mkF m 96 #[.val (.ref a1), .val (.ref a2), .val (.ref a2)] [])) _
          refine XS.iconst X8.here hx rfl (hb hby d4_96) ?_
          show Steps p.tables e below (T8.setTop (mkF m 97 #[.val (.ref a1), .val (.ref a2), .val (.ref a2)] [(.int (0 : Int32))])) _
          exact retN X8 hx (t := .boolean) Bd.returns (by simp) (hb hby d4_97) hr
        · show Q4 x1 x2 x3 x4 x5 x6 x7 y1 y2 y3 y4 y5 y6 y7 h0 n0 _ T8.heap _
          rw [e8]
          exact ⟨(by simp only [own_eq, if_pos hc21, if_pos hc32, if_neg hc43]), N0, rfl⟩
    ·
      obtain ⟨fs, hr, hrun, hended, hW, hsame⟩ := X6.leave (v := some (.int (0 : Int32))) (fun h => by rw [Bd.returns] at h; cases h)
      refine ⟨_, _, pre0 _ ?_, hrun, hended, _, _, rfl, ?_, ⟨_, rfl⟩, hW, hsame.mono (by decide) (by decide)⟩
      · show Steps p.tables e below (s₁.setTop (mkF m 0 #[.val (.ref a1), .val (.ref a2), .unset] [])) _
        refine XS.aloadN X0.here hx rfl (hb hby d4_0) rfl rfl ?_
        show Steps p.tables e below (s₁.setTop (mkF m 1 #[.val (.ref a1), .val (.ref a2), .unset] [(.ref a2)])) _
        refine st1 _ ?_
        show Steps p.tables e below (T1.setTop (mkF m 4 #[.val (.ref a1), .val (.ref a2), .unset] [(.int (1 : Int32))])) _
        refine XS.ifNo X1.here hx rfl (hb hby d4_4) rfl ((if0 _ _).trans (feq (by decide : ¬ (1 : Int32) = (0 : Int32))).1) ?_
        show Steps p.tables e below (T1.setTop (mkF m 7 #[.val (.ref a1), .val (.ref a2), .unset] [])) _
        refine XS.aloadN X1.here hx rfl (hb hby d4_7) rfl rfl ?_
        show Steps p.tables e below (T1.setTop (mkF m 8 #[.val (.ref a1), .val (.ref a2), .unset] [(.ref a2)])) _
        refine st2 _ ?_
        show Steps p.tables e below (T2.setTop (mkF m 11 #[.val (.ref a1), .val (.ref a2), .unset] [(.ref a2)])) _
        refine XS.astoreN X2.here hx rfl (hb hby d4_11) rfl rfl (l' := #[.val (.ref a1), .val (.ref a2), .val (.ref a2)]) rfl ?_
        show Steps p.tables e below (T2.setTop (mkF m 12 #[.val (.ref a1), .val (.ref a2), .val (.ref a2)] [])) _
        refine XS.aloadN X2.here hx rfl (hb hby d4_12) rfl rfl ?_
        show Steps p.tables e below (T2.setTop (mkF m 13 #[.val (.ref a1), .val (.ref a2), .val (.ref a2)] [(.ref a1)])) _
        refine st3 _ ?_
        show Steps p.tables e below (T3.setTop (mkF m 16 #[.val (.ref a1), .val (.ref a2), .val (.ref a2)] [(.long x1)])) _
        refine XS.aloadN X3.here hx rfl (hb hby d4_16) rfl rfl ?_
        show Steps p.tables e below (T3.setTop (mkF m 17 #[.val (.ref a1), .val (.ref a2), .val (.ref a2)] [(.ref a2), (.long x1)])) _
        refine st4 _ ?_
        show Steps p.tables e below (T4.setTop (mkF m 20 #[.val (.ref a1), .val (.ref a2), .val (.ref a2)] [(.long y1), (.long x1)])) _
        refine XS.lcmp X4.here hx rfl (hb hby d4_20) rfl ?_
        show Steps p.tables e below (T4.setTop (mkF m 21 #[.val (.ref a1), .val (.ref a2), .val (.ref a2)] [(.int (lcmpW x1 y1))])) _
        refine XS.ifNo X4.here hx rfl (hb hby d4_21) rfl ((if0 _ _).trans (teq hc21).2) ?_
        show Steps p.tables e below (T4.setTop (mkF m 24 #[.val (.ref a1), .val (.ref a2), .val (.ref a2)] [])) _
        refine XS.aloadN X4.here hx rfl (hb hby d4_24) rfl rfl ?_
        show Steps p.tables e below (T4.setTop (mkF m 25 #[.val (.ref a1), .val (.ref a2), .val (.ref a2)] [(.ref a1)])) _
        refine st5 _ ?_
        show Steps p.tables e below (T5.setTop (mkF m 28 #[.val (.ref a1), .val (.ref a2), .val (.ref a2)] [(.int x2)])) _
        refine XS.aloadN X5.here hx rfl (hb hby d4_28) rfl rfl ?_
        show Steps p.tables e below (T5.setTop (mkF m 29 #[.val (.ref a1), .val (.ref a2), .val (.ref a2)] [(.ref a2), (.int x2)])) _
        refine st6 _ ?_
        show Steps p.tables e below (T6.setTop (mkF m 32 #[.val (.ref a1), .val (.ref a2), .val (.ref a2)] [(.int y2), (.int x2)])) _
        refine XS.icmpYes X6.here hx rfl (pc0 := 32) (pc' := 96) rfl (hb hby d4_32) rfl (feq hc32).2 (by decide) (by decide) ?_
        show Steps p.tables e below (T6.setTop (mkF m 96 #[.val (.ref a1), .val (.ref a2), .val (.ref a2)] [])) _
        refine XS.iconst X6.here hx rfl (hb hby d4_96) ?_
        show Steps p.tables e below (T6.setTop (mkF m 97 #[.val (.ref a1), .val (.ref a2), .val (.ref a2)] [(.int (0 : Int32))])) _
        exact retN X6 hx (t := .boolean) Bd.returns (by simp) (hb hby d4_97) hr
      · show Q4 x1 x2 x3 x4 x5 x6 x7 y1 y2 y3 y4 y5 y6 y7 h0 n0 _ T6.heap _
        rw [e6]
        exact ⟨(by simp only [own_eq, if_pos hc21, if_neg hc32]), N0, rfl⟩
  ·
    obtain ⟨fs, hr, hrun, hended, hW, hsame⟩ := X4.leave (v := some (.int (0 : Int32))) (fun h => by rw [Bd.returns] at h; cases h)
    refine ⟨_, _, pre0 _ ?_, hrun, hended, _, _, rfl, ?_, ⟨_, rfl⟩, hW, hsame.mono (by decide) (by decide)⟩
    · show Steps p.tables e below (s₁.setTop (mkF m 0 #[.val (.ref a1), .val (.ref a2), .unset] [])) _
      refine XS.aloadN X0.here hx rfl (hb hby d4_0) rfl rfl ?_
      show Steps p.tables e below (s₁.setTop (mkF m 1 #[.val (.ref a1), .val (.ref a2), .unset] [(.ref a2)])) _
      refine st1 _ ?_
      show Steps p.tables e below (T1.setTop (mkF m 4 #[.val (.ref a1), .val (.ref a2), .unset] [(.int (1 : Int32))])) _
      refine XS.ifNo X1.here hx rfl (hb hby d4_4) rfl ((if0 _ _).trans (feq (by decide : ¬ (1 : Int32) = (0 : Int32))).1) ?_
      show Steps p.tables e below (T1.setTop (mkF m 7 #[.val (.ref a1), .val (.ref a2), .unset] [])) _
      refine XS.aloadN X1.here hx rfl (hb hby d4_7) rfl rfl ?_
      show Steps p.tables e below (T1.setTop (mkF m 8 #[.val (.ref a1), .val (.ref a2), .unset] [(.ref a2)])) _
      refine st2 _ ?_
      show Steps p.tables e below (T2.setTop (mkF m 11 #[.val (.ref a1), .val (.ref a2), .unset] [(.ref a2)])) _
      refine XS.astoreN X2.here hx rfl (hb hby d4_11) rfl rfl (l' := #[.val (.ref a1), .val (.ref a2), .val (.ref a2)]) rfl ?_
      show Steps p.tables e below (T2.setTop (mkF m 12 #[.val (.ref a1), .val (.ref a2), .val (.ref a2)] [])) _
      refine XS.aloadN X2.here hx rfl (hb hby d4_12) rfl rfl ?_
      show Steps p.tables e below (T2.setTop (mkF m 13 #[.val (.ref a1), .val (.ref a2), .val (.ref a2)] [(.ref a1)])) _
      refine st3 _ ?_
      show Steps p.tables e below (T3.setTop (mkF m 16 #[.val (.ref a1), .val (.ref a2), .val (.ref a2)] [(.long x1)])) _
      refine XS.aloadN X3.here hx rfl (hb hby d4_16) rfl rfl ?_
      show Steps p.tables e below (T3.setTop (mkF m 17 #[.val (.ref a1), .val (.ref a2), .val (.ref a2)] [(.ref a2), (.long x1)])) _
      refine st4 _ ?_
      show Steps p.tables e below (T4.setTop (mkF m 20 #[.val (.ref a1), .val (.ref a2), .val (.ref a2)] [(.long y1), (.long x1)])) _
      refine XS.lcmp X4.here hx rfl (hb hby d4_20) rfl ?_
      show Steps p.tables e below (T4.setTop (mkF m 21 #[.val (.ref a1), .val (.ref a2), .val (.ref a2)] [(.int (lcmpW x1 y1))])) _
      refine XS.ifYes X4.here hx rfl (pc0 := 21) (pc' := 96) rfl (hb hby d4_21) rfl ((if0 _ _).trans (feq hc21).2) (by decide) (by decide) ?_
      show Steps p.tables e below (T4.setTop (mkF m 96 #[.val (.ref a1), .val (.ref a2), .val (.ref a2)] [])) _
      refine XS.iconst X4.here hx rfl (hb hby d4_96) ?_
      show Steps p.tables e below (T4.setTop (mkF m 97 #[.val (.ref a1), .val (.ref a2), .val (.ref a2)] [(.int (0 : Int32))])) _
      exact retN X4 hx (t := .boolean) Bd.returns (by simp) (hb hby d4_97) hr
    · show Q4 x1 x2 x3 x4 x5 x6 x7 y1 y2 y3 y4 y5 y6 y7 h0 n0 _ T4.heap _
      rw [e4]
      exact ⟨(by simp only [own_eq, if_neg hc21]), N0, rfl⟩
theorem ef_4n (m : MethodId) (a1 : Addr) : entryFrame m #[(.ref a1), .null] 3 = mkF m 0 #[.val (.ref a1), .val .null, .unset] [] := by first | (simp [entryFrame, mkF, argsToLocals, Value.category]; done) | rfl
def Q4z (h0 : Heap) (n0 : Nat) (v : Option Value) (h : Heap) (L : List Loc) : Prop := v = some (.int 0) ∧ Fr n0 L ∧ h = h0
set_option maxRecDepth 65536 in
set_option maxHeartbeats 40000000 in
theorem rm4n (l : Launch) (Z : State) (a0 : Array Value) (hw : ∀ d ∈ tables_1, d.before a0 Z = true) (ws : List Jvm.Cond) (a1 : Addr) (h0 : Heap) (n0 : Nat) (Z0 : n0 ≤ h0.size) :
    MetFree l (⟨"com/example/tagloom/tagloom/tlv/Element", "equals", "(Ljava/lang/Object;)Z"⟩ : MethodName) (head1 (Jvm.Cond.code (⟨"com/example/tagloom/tagloom/tlv/Element", "equals", "(Ljava/lang/Object;)Z"⟩ : MethodName) prog_160_method_11_code 3 (some .boolean) :: ws) ({ frames := 0, cells := 0, slots := 0, locals := 0 } : Room)) (fun a U => a = #[(.ref a1), .null] ∧ Z.Warmed39 U.vm ∧ U.heap = h0) (fun _ _ _ _ _ => True) (fun _ U o U' => ∃ v L, o = .returned v ∧ Q4z h0 n0 v U'.heap L ∧ FrameEnd U o U' L ({ frames := 0, cells := 0, slots := 0, locals := 0 } : Room).cells ({ frames := 0, cells := 0, slots := 0, locals := 0 } : Room).slots) := by
  refine MetFree.of_bodySF (plainFor_of_name pn_4) hisR ?_
  intro p e s m args below meth c s₁ Bd hml0 hP hK
  obtain ⟨rfl, hZ, hh⟩ := hP
  have hx := Bd.exec
  have hby := Bd.bytes
  have hml : c.maxLocals = 3 := hml0
  have hown : s.vm.findClass "com/example/tagloom/tagloom/tlv/Element" = some m.cls := findClass_of_methodNamed Bd.named
  have hnm := (name_of_methodNamed Bd.named Bd.method).1
  have X0 : Stand p l e ({ frames := 0, cells := 0, slots := 0, locals := 0 } : Room) s m #[(.ref a1), .null] below meth c s₁ [] 0 0 := Stand.of_body Bd
  have e0 : s₁.heap = h0 := by rw [← hh, Bd.state]; rfl
  have N0 := Fr.nil n0
  have pre0 : ∀ tgt, Steps p.tables e below (s₁.setTop (mkF m 0 #[.val (.ref a1), .val .null, .unset] [])) tgt → Steps p.tables e below (s₁.setTop (entryFrame m #[(.ref a1), .null] 3)) tgt := fun tgt k => castTop (ef_4n m a1) k
  obtain ⟨fs, hr, hrun, hended, hW, hsame⟩ := X0.leave (v := some (.int (0 : Int32))) (fun h => by rw [Bd.returns] at h; cases h)
  refine ⟨_, _, pre0 _ ?_, hrun, hended, _, _, rfl, ?_, ⟨_, rfl⟩, hW, hsame.mono (by decide) (by decide)⟩
  · show Steps p.tables e below (s₁.setTop (mkF m 0 #[.val (.ref a1), .val .null, .unset] [])) _
    refine XS.aloadN X0.here hx rfl (hb hby d4_0) rfl rfl ?_
    show Steps p.tables e below (s₁.setTop (mkF m 1 #[.val (.ref a1), .val .null, .unset] [.null])) _
    refine X0.instanceofNull hx (g := (mkF m 1 #[.val (.ref a1), .val .null, .unset] [.null])) rfl rfl (hb hby d4_1) _ ?_
    show Steps p.tables e below (s₁.setTop (mkF m 4 #[.val (.ref a1), .val .null, .unset] [(.int (0 : Int32))])) _
    refine XS.ifYes X0.here hx rfl (pc0 := 4) (pc' := 96) rfl (hb hby d4_4) rfl ((if0 _ _).trans (teq (rfl : (0 : Int32) = (0 : Int32))).1) (by decide) (by decide) ?_
    show Steps p.tables e below (s₁.setTop (mkF m 96 #[.val (.ref a1), .val .null, .unset] [])) _
    refine XS.iconst X0.here hx rfl (hb hby d4_96) ?_
    show Steps p.tables e below (s₁.setTop (mkF m 97 #[.val (.ref a1), .val .null, .unset] [(.int (0 : Int32))])) _
    exact retN X0 hx (t := .boolean) Bd.returns (by simp) (hb hby d4_97) hr
  · show Q4z h0 n0 _ s₁.heap _
    rw [e0]
    exact ⟨rfl, N0, rfl⟩
set_option maxRecDepth 65536 in
set_option maxHeartbeats 40000000 in
theorem rm4l (l : Launch) (Z : State) (a0 : Array Value) (hw : ∀ d ∈ tables_1, d.before a0 Z = true) (ws : List Jvm.Cond) (a1 a2 : Addr) (h0 : Heap) (n0 : Nat) (Z0 : n0 ≤ h0.size) (E_a2 : Exa Z h0 a2 "java/lang/Long") :
    MetFree l (⟨"com/example/tagloom/tagloom/tlv/Element", "equals", "(Ljava/lang/Object;)Z"⟩ : MethodName) (head1 (Jvm.Cond.code (⟨"com/example/tagloom/tagloom/tlv/Element", "equals", "(Ljava/lang/Object;)Z"⟩ : MethodName) prog_160_method_11_code 3 (some .boolean) :: ws) ({ frames := 0, cells := 0, slots := 0, locals := 0 } : Room)) (fun a U => a = #[(.ref a1), (.ref a2)] ∧ Z.Warmed39 U.vm ∧ U.heap = h0) (fun _ _ _ _ _ => True) (fun _ U o U' => ∃ v L, o = .returned v ∧ Q4z h0 n0 v U'.heap L ∧ FrameEnd U o U' L ({ frames := 0, cells := 0, slots := 0, locals := 0 } : Room).cells ({ frames := 0, cells := 0, slots := 0, locals := 0 } : Room).slots) := by
  refine MetFree.of_bodySF (plainFor_of_name pn_4) hisR ?_
  intro p e s m args below meth c s₁ Bd hml0 hP hK
  obtain ⟨rfl, hZ, hh⟩ := hP
  have hx := Bd.exec
  have hby := Bd.bytes
  have hml : c.maxLocals = 3 := hml0
  have hown : s.vm.findClass "com/example/tagloom/tagloom/tlv/Element" = some m.cls := findClass_of_methodNamed Bd.named
  have hnm := (name_of_methodNamed Bd.named Bd.method).1
  have X0 : Stand p l e ({ frames := 0, cells := 0, slots := 0, locals := 0 } : Room) s m #[(.ref a1), (.ref a2)] below meth c s₁ [] 0 0 := Stand.of_body Bd
  have e0 : s₁.heap = h0 := by rw [← hh, Bd.state]; rfl
  have N0 := Fr.nil n0
  have pre0 : ∀ tgt, Steps p.tables e below (s₁.setTop (mkF m 0 #[.val (.ref a1), .val (.ref a2), .unset] [])) tgt → Steps p.tables e below (s₁.setTop (entryFrame m #[(.ref a1), (.ref a2)] 3)) tgt := fun tgt k => castTop (ef_4 m a1 a2) k
  obtain ⟨T1, X1, e1, st1⟩ := instNo X0 hx hZ hown (hw _ (List.mem_of_getElem? (i := 35) rfl)) e0 E_a2 (own_long_no (hw _ (List.mem_of_getElem? (i := 51) rfl)) (hw _ (List.mem_of_getElem? (i := 52) rfl)) (hw _ (List.mem_of_getElem? (i := 53) rfl)) (hw _ (List.mem_of_getElem? (i := 1) rfl)) (by decide) (by decide) (by decide)) (g := (mkF m 1 #[.val (.ref a1), .val (.ref a2), .unset] [(.ref a2)])) rfl rfl (hb hby d4_1)
  obtain ⟨fs, hr, hrun, hended, hW, hsame⟩ := X1.leave (v := some (.int (0 : Int32))) (fun h => by rw [Bd.returns] at h; cases h)
  refine ⟨_, _, pre0 _ ?_, hrun, hended, _, _, rfl, ?_, ⟨_, rfl⟩, hW, hsame.mono (by decide) (by decide)⟩
  · show Steps p.tables e below (s₁.setTop (mkF m 0 #[.val (.ref a1), .val (.ref a2), .unset] [])) _
    refine XS.aloadN X0.here hx rfl (hb hby d4_0) rfl rfl ?_
    show Steps p.tables e below (s₁.setTop (mkF m 1 #[.val (.ref a1), .val (.ref a2), .unset] [(.ref a2)])) _
    refine st1 _ ?_
    show Steps p.tables e below (T1.setTop (mkF m 4 #[.val (.ref a1), .val (.ref a2), .unset] [(.int (0 : Int32))])) _
    refine XS.ifYes X1.here hx rfl (pc0 := 4) (pc' := 96) rfl (hb hby d4_4) rfl ((if0 _ _).trans (teq (rfl : (0 : Int32) = (0 : Int32))).1) (by decide) (by decide) ?_
    show Steps p.tables e below (T1.setTop (mkF m 96 #[.val (.ref a1), .val (.ref a2), .unset] [])) _
    refine XS.iconst X1.here hx rfl (hb hby d4_96) ?_
    show Steps p.tables e below (T1.setTop (mkF m 97 #[.val (.ref a1), .val (.ref a2), .unset] [(.int (0 : Int32))])) _
    exact retN X1 hx (t := .boolean) Bd.returns (by simp) (hb hby d4_97) hr
  · show Q4z h0 n0 _ T1.heap _
    rw [e1]
    exact ⟨rfl, N0, rfl⟩
set_option maxRecDepth 65536 in
set_option maxHeartbeats 40000000 in
theorem sg_19 {p : Program} {l : Launch} {e : Env} {R : Room} {s : State} {m : MethodId} {args : Array Value} {below : List Frame} {meth : Method} {c : Code} {T0 : State} {locs : List Loc} {cells slots : Nat} {Z : State} {a0 : Array Value}  (s0 : Slot) (s1 : Slot) (s2 : Slot) (s3 : Slot) (s4 : Slot) (s5 : Slot) (s6 : Slot) (s7 : Slot) (s8 : Slot) (s9 : Slot) (se : Int32) (s11 : Slot) (s12 : Slot) (s13 : Slot) (s14 : Slot) (s15 : Slot) (s16 : Slot) (s17 : Slot) (s18 : Slot) (s19 : Slot) (s20 : Slot) (s21 : Slot) (s22 : Slot) (s23 : Slot) (s24 : Slot) (s25 : Slot) (s26 : Slot) (s27 : Slot) (s28 : Slot) (s29 : Slot) (v0 : Int32) (hv0 : v0 = (if (se &&& (4 : Int32)) = (0 : Int32) then (0 : Int32) else (1 : Int32)))
    (X0 : Stand p l e R s m args below meth c T0 locs cells slots) (hx : p.tables.exec = Jvm.exec) (hZ : Z.Warmed39 s.vm) (hw : ∀ d ∈ tables_1, d.before a0 Z = true) (hby : c.code = code) (hown : s.vm.findClass "com/example/tagloom/tagloom/tlv/ElementEqualsPinLaw" = some m.cls) {target : State}
    (kt : Steps p.tables e below (T0.setTop (mkF m 31 #[s0, s1, s2, s3, s4, s5, s6, s7, s8, s9, .val (.int se), s11, s12, s13, s14, s15, s16, s17, s18, s19, s20, s21, s22, s23, s24, s25, s26, s27, s28, s29] [(.int v0)])) target) : Steps p.tables e below (T0.setTop (mkF m 19 #[s0, s1, s2, s3, s4, s5, s6, s7, s8, s9, .val (.int se), s11, s12, s13, s14, s15, s16, s17, s18, s19, s20, s21, s22, s23, s24, s25, s26, s27, s28, s29] [])) target := by
  by_cases hc23 : (se &&& (4 : Int32)) = (0 : Int32)
  ·
    simp only [if_pos hc23] at hv0
    rw [hv0] at kt
    show Steps p.tables e below (T0.setTop (mkF m 19 #[s0, s1, s2, s3, s4, s5, s6, s7, s8, s9, .val (.int se), s11, s12, s13, s14, s15, s16, s17, s18, s19, s20, s21, s22, s23, s24, s25, s26, s27, s28, s29] [])) _
    refine XS.iload X0.here hx rfl (hb hby at_19) rfl ?_
    show Steps p.tables e below (T0.setTop (mkF m 21 #[s0, s1, s2, s3, s4, s5, s6, s7, s8, s9, .val (.int se), s11, s12, s13, s14, s15, s16, s17, s18, s19, s20, s21, s22, s23, s24, s25, s26, s27, s28, s29] [(.int se)])) _
    refine XS.iconst X0.here hx rfl (hb hby at_21) ?_
    show Steps p.tables e below (T0.setTop (mkF m 22 #[s0, s1, s2, s3, s4, s5, s6, s7, s8, s9, .val (.int se), s11, s12, s13, s14, s15, s16, s17, s18, s19, s20, s21, s22, s23, s24, s25, s26, s27, s28, s29] [(.int (4 : Int32)), (.int se)])) _
    refine XS.iand X0.here hx rfl (hb hby at_22) rfl ?_
    show Steps p.tables e below (T0.setTop (mkF m 23 #[s0, s1, s2, s3, s4, s5, s6, s7, s8, s9, .val (.int se), s11, s12, s13, s14, s15, s16, s17, s18, s19, s20, s21, s22, s23, s24, s25, s26, s27, s28, s29] [(.int (se &&& (4 : Int32)))])) _
    refine XS.ifYes X0.here hx rfl (pc0 := 23) (pc' := 30) rfl (hb hby at_23) rfl ((if0 _ _).trans (teq hc23).1) (by decide) (by decide) ?_
    show Steps p.tables e below (T0.setTop (mkF m 30 #[s0, s1, s2, s3, s4, s5, s6, s7, s8, s9, .val (.int se), s11, s12, s13, s14, s15, s16, s17, s18, s19, s20, s21, s22, s23, s24, s25, s26, s27, s28, s29] [])) _
    refine XS.iconst X0.here hx rfl (hb hby at_30) ?_
    show Steps p.tables e below (T0.setTop (mkF m 31 #[s0, s1, s2, s3, s4, s5, s6, s7, s8, s9, .val (.int se), s11, s12, s13, s14, s15, s16, s17, s18, s19, s20, s21, s22, s23, s24, s25, s26, s27, s28, s29] [(.int (0 : Int32))])) _
    exact kt
  ·
    simp only [if_neg hc23] at hv0
    rw [hv0] at kt
    show Steps p.tables e below (T0.setTop (mkF m 19 #[s0, s1, s2, s3, s4, s5, s6, s7, s8, s9, .val (.int se), s11, s12, s13, s14, s15, s16, s17, s18, s19, s20, s21, s22, s23, s24, s25, s26, s27, s28, s29] [])) _
    refine XS.iload X0.here hx rfl (hb hby at_19) rfl ?_
    show Steps p.tables e below (T0.setTop (mkF m 21 #[s0, s1, s2, s3, s4, s5, s6, s7, s8, s9, .val (.int se), s11, s12, s13, s14, s15, s16, s17, s18, s19, s20, s21, s22, s23, s24, s25, s26, s27, s28, s29] [(.int se)])) _
    refine XS.iconst X0.here hx rfl (hb hby at_21) ?_
    show Steps p.tables e below (T0.setTop (mkF m 22 #[s0, s1, s2, s3, s4, s5, s6, s7, s8, s9, .val (.int se), s11, s12, s13, s14, s15, s16, s17, s18, s19, s20, s21, s22, s23, s24, s25, s26, s27, s28, s29] [(.int (4 : Int32)), (.int se)])) _
    refine XS.iand X0.here hx rfl (hb hby at_22) rfl ?_
    show Steps p.tables e below (T0.setTop (mkF m 23 #[s0, s1, s2, s3, s4, s5, s6, s7, s8, s9, .val (.int se), s11, s12, s13, s14, s15, s16, s17, s18, s19, s20, s21, s22, s23, s24, s25, s26, s27, s28, s29] [(.int (se &&& (4 : Int32)))])) _
    refine XS.ifNo X0.here hx rfl (hb hby at_23) rfl ((if0 _ _).trans (feq hc23).1) ?_
    show Steps p.tables e below (T0.setTop (mkF m 26 #[s0, s1, s2, s3, s4, s5, s6, s7, s8, s9, .val (.int se), s11, s12, s13, s14, s15, s16, s17, s18, s19, s20, s21, s22, s23, s24, s25, s26, s27, s28, s29] [])) _
    refine XS.iconst X0.here hx rfl (hb hby at_26) ?_
    show Steps p.tables e below (T0.setTop (mkF m 27 #[s0, s1, s2, s3, s4, s5, s6, s7, s8, s9, .val (.int se), s11, s12, s13, s14, s15, s16, s17, s18, s19, s20, s21, s22, s23, s24, s25, s26, s27, s28, s29] [(.int (1 : Int32))])) _
    refine XS.goto X0.here hx rfl (pc0 := 27) (pc' := 31) rfl (hb hby at_27) (by decide) (by decide) ?_
    show Steps p.tables e below (T0.setTop (mkF m 31 #[s0, s1, s2, s3, s4, s5, s6, s7, s8, s9, .val (.int se), s11, s12, s13, s14, s15, s16, s17, s18, s19, s20, s21, s22, s23, s24, s25, s26, s27, s28, s29] [(.int (1 : Int32))])) _
    exact kt
set_option maxRecDepth 65536 in
set_option maxHeartbeats 40000000 in
theorem sg_71 {p : Program} {l : Launch} {e : Env} {R : Room} {s : State} {m : MethodId} {args : Array Value} {below : List Frame} {meth : Method} {c : Code} {T0 : State} {locs : List Loc} {cells slots : Nat} {Z : State} {a0 : Array Value}  (off : Int64) (tag : Int64) (len : Int64) (s6 : Slot) (s7 : Slot) (alt : Int64) (s10 : Slot) (hd : Int32) (dp : Int32) (ci : Int32) (co : Int32) (kk : Int32) (o2 : Int64) (h2 : Int32) (d2 : Int32) (c2 : Int32) (t2 : Int64) (b2 : Int32) (l2 : Int64) (ex : Int32) (s27 : Slot) (s28 : Slot) (s29 : Slot) (v0 : Int64) (hv0 : v0 = (if kk = (0 : Int32) then alt else o2)) (v1 : Int32) (hv1 : v1 = (if kk = (0 : Int32) then h2 else (if kk = (1 : Int32) then (alt.toInt32) else h2))) (v2 : Int32) (hv2 : v2 = (if kk = (0 : Int32) then d2 else (if kk = (1 : Int32) then d2 else (if kk = (2 : Int32) then (alt.toInt32) else d2)))) (v3 : Int32) (hv3 : v3 = (if kk = (0 : Int32) then c2 else (if kk = (1 : Int32) then c2 else (if kk = (2 : Int32) then c2 else (if kk = (3 : Int32) then ((alt.toInt32) &&& (3 : Int32)) else c2))))) (v4 : Int64) (hv4 : v4 = (if kk = (0 : Int32) then t2 else (if kk = (1 : Int32) then t2 else (if kk = (2 : Int32) then t2 else (if kk = (3 : Int32) then t2 else (if kk = (4 : Int32) then alt else t2)))))) (v5 : Int32) (hv5 : v5 = (if kk = (0 : Int32) then b2 else (if kk = (1 : Int32) then b2 else (if kk = (2 : Int32) then b2 else (if kk = (3 : Int32) then b2 else (if kk = (4 : Int32) then b2 else (if kk = (5 : Int32) then (if (lcmpW (alt &&& (1 : Int64)) (0 : Int64)) = (0 : Int32) then (0 : Int32) else (1 : Int32)) else b2))))))) (v6 : Int64) (hv6 : v6 = (if kk = (0 : Int32) then l2 else (if kk = (1 : Int32) then l2 else (if kk = (2 : Int32) then l2 else (if kk = (3 : Int32) then l2 else (if kk = (4 : Int32) then l2 else (if kk = (5 : Int32) then l2 else (if kk = (6 : Int32) then alt else l2)))))))) (v7 : Int32) (hv7 : v7 = (if kk = (0 : Int32) then (if (lcmpW off alt) = (0 : Int32) then (1 : Int32) else (0 : Int32)) else (if kk = (1 : Int32) then (if hd = (alt.toInt32) then (1 : Int32) else (0 : Int32)) else (if kk = (2 : Int32) then (if dp = (alt.toInt32) then (1 : Int32) else (0 : Int32)) else (if kk = (3 : Int32) then (if ci = ((alt.toInt32) &&& (3 : Int32)) then (1 : Int32) else (0 : Int32)) else (if kk = (4 : Int32) then (if (lcmpW tag alt) = (0 : Int32) then (1 : Int32) else (0 : Int32)) else (if kk = (5 : Int32) then (if (lcmpW (alt &&& (1 : Int64)) (0 : Int64)) = (0 : Int32) then (if co = (0 : Int32) then (1 : Int32) else (0 : Int32)) else (if co = (1 : Int32) then (1 : Int32) else (0 : Int32))) else (if kk = (6 : Int32) then (if (lcmpW len alt) = (0 : Int32) then (1 : Int32) else (0 : Int32)) else ex))))))))
    (X0 : Stand p l e R s m args below meth c T0 locs cells slots) (hx : p.tables.exec = Jvm.exec) (hZ : Z.Warmed39 s.vm) (hw : ∀ d ∈ tables_1, d.before a0 Z = true) (hby : c.code = code) (hown : s.vm.findClass "com/example/tagloom/tagloom/tlv/ElementEqualsPinLaw" = some m.cls) {target : State}
    (kt : Steps p.tables e below (T0.setTop (mkF m 275 #[.val (.long off), .second, .val (.long tag), .second, .val (.long len), .second, s6, s7, .val (.long alt), .second, s10, .val (.int hd), .val (.int dp), .val (.int ci), .val (.int co), .val (.int kk), .val (.long v0), .second, .val (.int v1), .val (.int v2), .val (.int v3), .val (.long v4), .second, .val (.int v5), .val (.long v6), .second, .val (.int v7), s27, s28, s29] [])) target) : Steps p.tables e below (T0.setTop (mkF m 71 #[.val (.long off), .second, .val (.long tag), .second, .val (.long len), .second, s6, s7, .val (.long alt), .second, s10, .val (.int hd), .val (.int dp), .val (.int ci), .val (.int co), .val (.int kk), .val (.long o2), .second, .val (.int h2), .val (.int d2), .val (.int c2), .val (.long t2), .second, .val (.int b2), .val (.long l2), .second, .val (.int ex), s27, s28, s29] [])) target := by
  by_cases hc73 : kk = (0 : Int32)
  ·
    by_cases hc84 : (lcmpW off alt) = (0 : Int32)
    ·
      simp only [if_pos hc73] at hv0
      rw [hv0] at kt
      simp only [if_pos hc73] at hv1
      rw [hv1] at kt
      simp only [if_pos hc73] at hv2
      rw [hv2] at kt
      simp only [if_pos hc73] at hv3
      rw [hv3] at kt
      simp only [if_pos hc73] at hv4
      rw [hv4] at kt
      simp only [if_pos hc73] at hv5
      rw [hv5] at kt
      simp only [if_pos hc73] at hv6
      rw [hv6] at kt
      simp only [if_pos hc73, if_pos hc84] at hv7
      rw [hv7] at kt
      show Steps p.tables e below (T0.setTop (mkF m 71 #[.val (.long off), .second, .val (.long tag), .second, .val (.long len), .second, s6, s7, .val (.long alt), .second, s10, .val (.int hd), .val (.int dp), .val (.int ci), .val (.int co), .val (.int kk), .val (.long o2), .second, .val (.int h2), .val (.int d2), .val (.int c2), .val (.long t2), .second, .val (.int b2), .val (.long l2), .second, .val (.int ex), s27, s28, s29] [])) _
      refine XS.iload X0.here hx rfl (hb hby at_71) rfl ?_
      show Steps p.tables e below (T0.setTop (mkF m 73 #[.val (.long off), .second, .val (.long tag), .second, .val (.long len), .second, s6, s7, .val (.long alt), .second, s10, .val (.int hd), .val (.int dp), .val (.int ci), .val (.int co), .val (.int kk), .val (.long o2), .second, .val (.int h2), .val (.int d2), .val (.int c2), .val (.long t2), .second, .val (.int b2), .val (.long l2), .second, .val (.int ex), s27, s28, s29] [(.int kk)])) _
      refine XS.ifNo X0.here hx rfl (hb hby at_73) rfl ((if0 _ _).trans (teq hc73).2) ?_
      show Steps p.tables e below (T0.setTop (mkF m 76 #[.val (.long off), .second, .val (.long tag), .second, .val (.long len), .second, s6, s7, .val (.long alt), .second, s10, .val (.int hd), .val (.int dp), .val (.int ci), .val (.int co), .val (.int kk), .val (.long o2), .second, .val (.int h2), .val (.int d2), .val (.int c2), .val (.long t2), .second, .val (.int b2), .val (.long l2), .second, .val (.int ex), s27, s28, s29] [])) _
      refine XS.lload X0.here hx rfl (hb hby at_76) rfl ?_
      show Steps p.tables e below (T0.setTop (mkF m 78 #[.val (.long off), .second, .val (.long tag), .second, .val (.long len), .second, s6, s7, .val (.long alt), .second, s10, .val (.int hd), .val (.int dp), .val (.int ci), .val (.int co), .val (.int kk), .val (.long o2), .second, .val (.int h2), .val (.int d2), .val (.int c2), .val (.long t2), .second, .val (.int b2), .val (.long l2), .second, .val (.int ex), s27, s28, s29] [(.long alt)])) _
      refine XS.lstore X0.here hx rfl (hb hby at_78) rfl (l' := #[.val (.long off), .second, .val (.long tag), .second, .val (.long len), .second, s6, s7, .val (.long alt), .second, s10, .val (.int hd), .val (.int dp), .val (.int ci), .val (.int co), .val (.int kk), .val (.long alt), .second, .val (.int h2), .val (.int d2), .val (.int c2), .val (.long t2), .second, .val (.int b2), .val (.long l2), .second, .val (.int ex), s27, s28, s29]) rfl ?_
      show Steps p.tables e below (T0.setTop (mkF m 80 #[.val (.long off), .second, .val (.long tag), .second, .val (.long len), .second, s6, s7, .val (.long alt), .second, s10, .val (.int hd), .val (.int dp), .val (.int ci), .val (.int co), .val (.int kk), .val (.long alt), .second, .val (.int h2), .val (.int d2), .val (.int c2), .val (.long t2), .second, .val (.int b2), .val (.long l2), .second, .val (.int ex), s27, s28, s29] [])) _
      refine XS.lloadN X0.here hx rfl (hb hby at_80) rfl ?_
      show Steps p.tables e below (T0.setTop (mkF m 81 #[.val (.long off), .second, .val (.long tag), .second, .val (.long len), .second, s6, s7, .val (.long alt), .second, s10, .val (.int hd), .val (.int dp), .val (.int ci), .val (.int co), .val (.int kk), .val (.long alt), .second, .val (.int h2), .val (.int d2), .val (.int c2), .val (.long t2), .second, .val (.int b2), .val (.long l2), .second, .val (.int ex), s27, s28, s29] [(.long off)])) _
      refine XS.lload X0.here hx rfl (hb hby at_81) rfl ?_
      show Steps p.tables e below (T0.setTop (mkF m 83 #[.val (.long off), .second, .val (.long tag), .second, .val (.long len), .second, s6, s7, .val (.long alt), .second, s10, .val (.int hd), .val (.int dp), .val (.int ci), .val (.int co), .val (.int kk), .val (.long alt), .second, .val (.int h2), .val (.int d2), .val (.int c2), .val (.long t2), .second, .val (.int b2), .val (.long l2), .second, .val (.int ex), s27, s28, s29] [(.long alt), (.long off)])) _
      refine XS.lcmp X0.here hx rfl (hb hby at_83) rfl ?_
      show Steps p.tables e below (T0.setTop (mkF m 84 #[.val (.long off), .second, .val (.long tag), .second, .val (.long len), .second, s6, s7, .val (.long alt), .second, s10, .val (.int hd), .val (.int dp), .val (.int ci), .val (.int co), .val (.int kk), .val (.long alt), .second, .val (.int h2), .val (.int d2), .val (.int c2), .val (.long t2), .second, .val (.int b2), .val (.long l2), .second, .val (.int ex), s27, s28, s29] [(.int (lcmpW off alt))])) _
      refine XS.ifNo X0.here hx rfl (hb hby at_84) rfl ((if0 _ _).trans (teq hc84).2) ?_
      show Steps p.tables e below (T0.setTop (mkF m 87 #[.val (.long off), .second, .val (.long tag), .second, .val (.long len), .second, s6, s7, .val (.long alt), .second, s10, .val (.int hd), .val (.int dp), .val (.int ci), .val (.int co), .val (.int kk), .val (.long alt), .second, .val (.int h2), .val (.int d2), .val (.int c2), .val (.long t2), .second, .val (.int b2), .val (.long l2), .second, .val (.int ex), s27, s28, s29] [])) _
      refine XS.iconst X0.here hx rfl (hb hby at_87) ?_
      show Steps p.tables e below (T0.setTop (mkF m 88 #[.val (.long off), .second, .val (.long tag), .second, .val (.long len), .second, s6, s7, .val (.long alt), .second, s10, .val (.int hd), .val (.int dp), .val (.int ci), .val (.int co), .val (.int kk), .val (.long alt), .second, .val (.int h2), .val (.int d2), .val (.int c2), .val (.long t2), .second, .val (.int b2), .val (.long l2), .second, .val (.int ex), s27, s28, s29] [(.int (1 : Int32))])) _
      refine XS.goto X0.here hx rfl (pc0 := 88) (pc' := 92) rfl (hb hby at_88) (by decide) (by decide) ?_
      show Steps p.tables e below (T0.setTop (mkF m 92 #[.val (.long off), .second, .val (.long tag), .second, .val (.long len), .second, s6, s7, .val (.long alt), .second, s10, .val (.int hd), .val (.int dp), .val (.int ci), .val (.int co), .val (.int kk), .val (.long alt), .second, .val (.int h2), .val (.int d2), .val (.int c2), .val (.long t2), .second, .val (.int b2), .val (.long l2), .second, .val (.int ex), s27, s28, s29] [(.int (1 : Int32))])) _
      refine XS.istore X0.here hx rfl (hb hby at_92) rfl (l' := #[.val (.long off), .second, .val (.long tag), .second, .val (.long len), .second, s6, s7, .val (.long alt), .second, s10, .val (.int hd), .val (.int dp), .val (.int ci), .val (.int co), .val (.int kk), .val (.long alt), .second, .val (.int h2), .val (.int d2), .val (.int c2), .val (.long t2), .second, .val (.int b2), .val (.long l2), .second, .val (.int (1 : Int32)), s27, s28, s29]) rfl ?_
      show Steps p.tables e below (T0.setTop (mkF m 94 #[.val (.long off), .second, .val (.long tag), .second, .val (.long len), .second, s6, s7, .val (.long alt), .second, s10, .val (.int hd), .val (.int dp), .val (.int ci), .val (.int co), .val (.int kk), .val (.long alt), .second, .val (.int h2), .val (.int d2), .val (.int c2), .val (.long t2), .second, .val (.int b2), .val (.long l2), .second, .val (.int (1 : Int32)), s27, s28, s29] [])) _
      refine XS.goto X0.here hx rfl (pc0 := 94) (pc' := 275) rfl (hb hby at_94) (by decide) (by decide) ?_
      show Steps p.tables e below (T0.setTop (mkF m 275 #[.val (.long off), .second, .val (.long tag), .second, .val (.long len), .second, s6, s7, .val (.long alt), .second, s10, .val (.int hd), .val (.int dp), .val (.int ci), .val (.int co), .val (.int kk), .val (.long alt), .second, .val (.int h2), .val (.int d2), .val (.int c2), .val (.long t2), .second, .val (.int b2), .val (.long l2), .second, .val (.int (1 : Int32)), s27, s28, s29] [])) _
      exact kt
    ·
      simp only [if_pos hc73] at hv0
      rw [hv0] at kt
      simp only [if_pos hc73] at hv1
      rw [hv1] at kt
      simp only [if_pos hc73] at hv2
      rw [hv2] at kt
      simp only [if_pos hc73] at hv3
      rw [hv3] at kt
      simp only [if_pos hc73] at hv4
      rw [hv4] at kt
      simp only [if_pos hc73] at hv5
      rw [hv5] at kt
      simp only [if_pos hc73] at hv6
      rw [hv6] at kt
      simp only [if_pos hc73, if_neg hc84] at hv7
      rw [hv7] at kt
      show Steps p.tables e below (T0.setTop (mkF m 71 #[.val (.long off), .second, .val (.long tag), .second, .val (.long len), .second, s6, s7, .val (.long alt), .second, s10, .val (.int hd), .val (.int dp), .val (.int ci), .val (.int co), .val (.int kk), .val (.long o2), .second, .val (.int h2), .val (.int d2), .val (.int c2), .val (.long t2), .second, .val (.int b2), .val (.long l2), .second, .val (.int ex), s27, s28, s29] [])) _
      refine XS.iload X0.here hx rfl (hb hby at_71) rfl ?_
      show Steps p.tables e below (T0.setTop (mkF m 73 #[.val (.long off), .second, .val (.long tag), .second, .val (.long len), .second, s6, s7, .val (.long alt), .second, s10, .val (.int hd), .val (.int dp), .val (.int ci), .val (.int co), .val (.int kk), .val (.long o2), .second, .val (.int h2), .val (.int d2), .val (.int c2), .val (.long t2), .second, .val (.int b2), .val (.long l2), .second, .val (.int ex), s27, s28, s29] [(.int kk)])) _
      refine XS.ifNo X0.here hx rfl (hb hby at_73) rfl ((if0 _ _).trans (teq hc73).2) ?_
      show Steps p.tables e below (T0.setTop (mkF m 76 #[.val (.long off), .second, .val (.long tag), .second, .val (.long len), .second, s6, s7, .val (.long alt), .second, s10, .val (.int hd), .val (.int dp), .val (.int ci), .val (.int co), .val (.int kk), .val (.long o2), .second, .val (.int h2), .val (.int d2), .val (.int c2), .val (.long t2), .second, .val (.int b2), .val (.long l2), .second, .val (.int ex), s27, s28, s29] [])) _
      refine XS.lload X0.here hx rfl (hb hby at_76) rfl ?_
      show Steps p.tables e below (T0.setTop (mkF m 78 #[.val (.long off), .second, .val (.long tag), .second, .val (.long len), .second, s6, s7, .val (.long alt), .second, s10, .val (.int hd), .val (.int dp), .val (.int ci), .val (.int co), .val (.int kk), .val (.long o2), .second, .val (.int h2), .val (.int d2), .val (.int c2), .val (.long t2), .second, .val (.int b2), .val (.long l2), .second, .val (.int ex), s27, s28, s29] [(.long alt)])) _
      refine XS.lstore X0.here hx rfl (hb hby at_78) rfl (l' := #[.val (.long off), .second, .val (.long tag), .second, .val (.long len), .second, s6, s7, .val (.long alt), .second, s10, .val (.int hd), .val (.int dp), .val (.int ci), .val (.int co), .val (.int kk), .val (.long alt), .second, .val (.int h2), .val (.int d2), .val (.int c2), .val (.long t2), .second, .val (.int b2), .val (.long l2), .second, .val (.int ex), s27, s28, s29]) rfl ?_
      show Steps p.tables e below (T0.setTop (mkF m 80 #[.val (.long off), .second, .val (.long tag), .second, .val (.long len), .second, s6, s7, .val (.long alt), .second, s10, .val (.int hd), .val (.int dp), .val (.int ci), .val (.int co), .val (.int kk), .val (.long alt), .second, .val (.int h2), .val (.int d2), .val (.int c2), .val (.long t2), .second, .val (.int b2), .val (.long l2), .second, .val (.int ex), s27, s28, s29] [])) _
      refine XS.lloadN X0.here hx rfl (hb hby at_80) rfl ?_
      show Steps p.tables e below (T0.setTop (mkF m 81 #[.val (.long off), .second, .val (.long tag), .second, .val (.long len), .second, s6, s7, .val (.long alt), .second, s10, .val (.int hd), .val (.int dp), .val (.int ci), .val (.int co), .val (.int kk), .val (.long alt), .second, .val (.int h2), .val (.int d2), .val (.int c2), .val (.long t2), .second, .val (.int b2), .val (.long l2), .second, .val (.int ex), s27, s28, s29] [(.long off)])) _
      refine XS.lload X0.here hx rfl (hb hby at_81) rfl ?_
      show Steps p.tables e below (T0.setTop (mkF m 83 #[.val (.long off), .second, .val (.long tag), .second, .val (.long len), .second, s6, s7, .val (.long alt), .second, s10, .val (.int hd), .val (.int dp), .val (.int ci), .val (.int co), .val (.int kk), .val (.long alt), .second, .val (.int h2), .val (.int d2), .val (.int c2), .val (.long t2), .second, .val (.int b2), .val (.long l2), .second, .val (.int ex), s27, s28, s29] [(.long alt), (.long off)])) _
      refine XS.lcmp X0.here hx rfl (hb hby at_83) rfl ?_
      show Steps p.tables e below (T0.setTop (mkF m 84 #[.val (.long off), .second, .val (.long tag), .second, .val (.long len), .second, s6, s7, .val (.long alt), .second, s10, .val (.int hd), .val (.int dp), .val (.int ci), .val (.int co), .val (.int kk), .val (.long alt), .second, .val (.int h2), .val (.int d2), .val (.int c2), .val (.long t2), .second, .val (.int b2), .val (.long l2), .second, .val (.int ex), s27, s28, s29] [(.int (lcmpW off alt))])) _
      refine XS.ifYes X0.here hx rfl (pc0 := 84) (pc' := 91) rfl (hb hby at_84) rfl ((if0 _ _).trans (feq hc84).2) (by decide) (by decide) ?_
      show Steps p.tables e below (T0.setTop (mkF m 91 #[.val (.long off), .second, .val (.long tag), .second, .val (.long len), .second, s6, s7, .val (.long alt), .second, s10, .val (.int hd), .val (.int dp), .val (.int ci), .val (.int co), .val (.int kk), .val (.long alt), .second, .val (.int h2), .val (.int d2), .val (.int c2), .val (.long t2), .second, .val (.int b2), .val (.long l2), .second, .val (.int ex), s27, s28, s29] [])) _
      refine XS.iconst X0.here hx rfl (hb hby at_91) ?_
      show Steps p.tables e below (T0.setTop (mkF m 92 #[.val (.long off), .second, .val (.long tag), .second, .val (.long len), .second, s6, s7, .val (.long alt), .second, s10, .val (.int hd), .val (.int dp), .val (.int ci), .val (.int co), .val (.int kk), .val (.long alt), .second, .val (.int h2), .val (.int d2), .val (.int c2), .val (.long t2), .second, .val (.int b2), .val (.long l2), .second, .val (.int ex), s27, s28, s29] [(.int (0 : Int32))])) _
      refine XS.istore X0.here hx rfl (hb hby at_92) rfl (l' := #[.val (.long off), .second, .val (.long tag), .second, .val (.long len), .second, s6, s7, .val (.long alt), .second, s10, .val (.int hd), .val (.int dp), .val (.int ci), .val (.int co), .val (.int kk), .val (.long alt), .second, .val (.int h2), .val (.int d2), .val (.int c2), .val (.long t2), .second, .val (.int b2), .val (.long l2), .second, .val (.int (0 : Int32)), s27, s28, s29]) rfl ?_
      show Steps p.tables e below (T0.setTop (mkF m 94 #[.val (.long off), .second, .val (.long tag), .second, .val (.long len), .second, s6, s7, .val (.long alt), .second, s10, .val (.int hd), .val (.int dp), .val (.int ci), .val (.int co), .val (.int kk), .val (.long alt), .second, .val (.int h2), .val (.int d2), .val (.int c2), .val (.long t2), .second, .val (.int b2), .val (.long l2), .second, .val (.int (0 : Int32)), s27, s28, s29] [])) _
      refine XS.goto X0.here hx rfl (pc0 := 94) (pc' := 275) rfl (hb hby at_94) (by decide) (by decide) ?_
      show Steps p.tables e below (T0.setTop (mkF m 275 #[.val (.long off), .second, .val (.long tag), .second, .val (.long len), .second, s6, s7, .val (.long alt), .second, s10, .val (.int hd), .val (.int dp), .val (.int ci), .val (.int co), .val (.int kk), .val (.long alt), .second, .val (.int h2), .val (.int d2), .val (.int c2), .val (.long t2), .second, .val (.int b2), .val (.long l2), .second, .val (.int (0 : Int32)), s27, s28, s29] [])) _
      exact kt
  ·
    by_cases hc100 : kk = (1 : Int32)
    ·
      by_cases hc112 : hd = (alt.toInt32)
      ·
        simp only [if_neg hc73] at hv0
        rw [hv0] at kt
        simp only [if_neg hc73, if_pos hc100] at hv1
        rw [hv1] at kt
        simp only [if_neg hc73, if_pos hc100] at hv2
        rw [hv2] at kt
        simp only [if_neg hc73, if_pos hc100] at hv3
        rw [hv3] at kt
        simp only [if_neg hc73, if_pos hc100] at hv4
        rw [hv4] at kt
        simp only [if_neg hc73, if_pos hc100] at hv5
        rw [hv5] at kt
        simp only [if_neg hc73, if_pos hc100] at hv6
        rw [hv6] at kt
        simp only [if_neg hc73, if_pos hc100, if_pos hc112] at hv7
        rw [hv7] at kt
        show Steps p.tables e below (T0.setTop (mkF m 71 #[.val (.long off), .second, .val (.long tag), .second, .val (.long len), .second, s6, s7, .val (.long alt), .second, s10, .val (.int hd), .val (.int dp), .val (.int ci), .val (.int co), .val (.int kk), .val (.long o2), .second, .val (.int h2), .val (.int d2), .val (.int c2), .val (.long t2), .second, .val (.int b2), .val (.long l2), .second, .val (.int ex), s27, s28, s29] [])) _
        refine XS.iload X0.here hx rfl (hb hby at_71) rfl ?_
        show Steps p.tables e below (T0.setTop (mkF m 73 #[.val (.long off), .second, .val (.long tag), .second, .val (.long len), .second, s6, s7, .val (.long alt), .second, s10, .val (.int hd), .val (.int dp), .val (.int ci), .val (.int co), .val (.int kk), .val (.long o2), .second, .val (.int h2), .val (.int d2), .val (.int c2), .val (.long t2), .second, .val (.int b2), .val (.long l2), .second, .val (.int ex), s27, s28, s29] [(.int kk)])) _
        refine XS.ifYes X0.here hx rfl (pc0 := 73) (pc' := 97) rfl (hb hby at_73) rfl ((if0 _ _).trans (feq hc73).2) (by decide) (by decide) ?_
        show Steps p.tables e below (T0.setTop (mkF m 97 #[.val (.long off), .second, .val (.long tag), .second, .val (.long len), .second, s6, s7, .val (.long alt), .second, s10, .val (.int hd), .val (.int dp), .val (.int ci), .val (.int co), .val (.int kk), .val (.long o2), .second, .val (.int h2), .val (.int d2), .val (.int c2), .val (.long t2), .second, .val (.int b2), .val (.long l2), .second, .val (.int ex), s27, s28, s29] [])) _
        refine XS.iload X0.here hx rfl (hb hby at_97) rfl ?_
        show Steps p.tables e below (T0.setTop (mkF m 99 #[.val (.long off), .second, .val (.long tag), .second, .val (.long len), .second, s6, s7, .val (.long alt), .second, s10, .val (.int hd), .val (.int dp), .val (.int ci), .val (.int co), .val (.int kk), .val (.long o2), .second, .val (.int h2), .val (.int d2), .val (.int c2), .val (.long t2), .second, .val (.int b2), .val (.long l2), .second, .val (.int ex), s27, s28, s29] [(.int kk)])) _
        refine XS.iconst X0.here hx rfl (hb hby at_99) ?_
        show Steps p.tables e below (T0.setTop (mkF m 100 #[.val (.long off), .second, .val (.long tag), .second, .val (.long len), .second, s6, s7, .val (.long alt), .second, s10, .val (.int hd), .val (.int dp), .val (.int ci), .val (.int co), .val (.int kk), .val (.long o2), .second, .val (.int h2), .val (.int d2), .val (.int c2), .val (.long t2), .second, .val (.int b2), .val (.long l2), .second, .val (.int ex), s27, s28, s29] [(.int (1 : Int32)), (.int kk)])) _
        refine XS.icmpNo X0.here hx rfl (hb hby at_100) rfl (teq hc100).2 ?_
        show Steps p.tables e below (T0.setTop (mkF m 103 #[.val (.long off), .second, .val (.long tag), .second, .val (.long len), .second, s6, s7, .val (.long alt), .second, s10, .val (.int hd), .val (.int dp), .val (.int ci), .val (.int co), .val (.int kk), .val (.long o2), .second, .val (.int h2), .val (.int d2), .val (.int c2), .val (.long t2), .second, .val (.int b2), .val (.long l2), .second, .val (.int ex), s27, s28, s29] [])) _
        refine XS.lload X0.here hx rfl (hb hby at_103) rfl ?_
        show Steps p.tables e below (T0.setTop (mkF m 105 #[.val (.long off), .second, .val (.long tag), .second, .val (.long len), .second, s6, s7, .val (.long alt), .second, s10, .val (.int hd), .val (.int dp), .val (.int ci), .val (.int co), .val (.int kk), .val (.long o2), .second, .val (.int h2), .val (.int d2), .val (.int c2), .val (.long t2), .second, .val (.int b2), .val (.long l2), .second, .val (.int ex), s27, s28, s29] [(.long alt)])) _
        refine XS.l2i X0.here hx rfl (hb hby at_105) rfl ?_
        show Steps p.tables e below (T0.setTop (mkF m 106 #[.val (.long off), .second, .val (.long tag), .second, .val (.long len), .second, s6, s7, .val (.long alt), .second, s10, .val (.int hd), .val (.int dp), .val (.int ci), .val (.int co), .val (.int kk), .val (.long o2), .second, .val (.int h2), .val (.int d2), .val (.int c2), .val (.long t2), .second, .val (.int b2), .val (.long l2), .second, .val (.int ex), s27, s28, s29] [(.int (alt.toInt32))])) _
        refine XS.istore X0.here hx rfl (hb hby at_106) rfl (l' := #[.val (.long off), .second, .val (.long tag), .second, .val (.long len), .second, s6, s7, .val (.long alt), .second, s10, .val (.int hd), .val (.int dp), .val (.int ci), .val (.int co), .val (.int kk), .val (.long o2), .second, .val (.int (alt.toInt32)), .val (.int d2), .val (.int c2), .val (.long t2), .second, .val (.int b2), .val (.long l2), .second, .val (.int ex), s27, s28, s29]) rfl ?_
        show Steps p.tables e below (T0.setTop (mkF m 108 #[.val (.long off), .second, .val (.long tag), .second, .val (.long len), .second, s6, s7, .val (.long alt), .second, s10, .val (.int hd), .val (.int dp), .val (.int ci), .val (.int co), .val (.int kk), .val (.long o2), .second, .val (.int (alt.toInt32)), .val (.int d2), .val (.int c2), .val (.long t2), .second, .val (.int b2), .val (.long l2), .second, .val (.int ex), s27, s28, s29] [])) _
        refine XS.iload X0.here hx rfl (hb hby at_108) rfl ?_
        show Steps p.tables e below (T0.setTop (mkF m 110 #[.val (.long off), .second, .val (.long tag), .second, .val (.long len), .second, s6, s7, .val (.long alt), .second, s10, .val (.int hd), .val (.int dp), .val (.int ci), .val (.int co), .val (.int kk), .val (.long o2), .second, .val (.int (alt.toInt32)), .val (.int d2), .val (.int c2), .val (.long t2), .second, .val (.int b2), .val (.long l2), .second, .val (.int ex), s27, s28, s29] [(.int hd)])) _
        refine XS.iload X0.here hx rfl (hb hby at_110) rfl ?_
        show Steps p.tables e below (T0.setTop (mkF m 112 #[.val (.long off), .second, .val (.long tag), .second, .val (.long len), .second, s6, s7, .val (.long alt), .second, s10, .val (.int hd), .val (.int dp), .val (.int ci), .val (.int co), .val (.int kk), .val (.long o2), .second, .val (.int (alt.toInt32)), .val (.int d2), .val (.int c2), .val (.long t2), .second, .val (.int b2), .val (.long l2), .second, .val (.int ex), s27, s28, s29] [(.int (alt.toInt32)), (.int hd)])) _
        refine XS.icmpNo X0.here hx rfl (hb hby at_112) rfl (teq hc112).2 ?_
        show Steps p.tables e below (T0.setTop (mkF m 115 #[.val (.long off), .second, .val (.long tag), .second, .val (.long len), .second, s6, s7, .val (.long alt), .second, s10, .val (.int hd), .val (.int dp), .val (.int ci), .val (.int co), .val (.int kk), .val (.long o2), .second, .val (.int (alt.toInt32)), .val (.int d2), .val (.int c2), .val (.long t2), .second, .val (.int b2), .val (.long l2), .second, .val (.int ex), s27, s28, s29] [])) _
        refine XS.iconst X0.here hx rfl (hb hby at_115) ?_
        show Steps p.tables e below (T0.setTop (mkF m 116 #[.val (.long off), .second, .val (.long tag), .second, .val (.long len), .second, s6, s7, .val (.long alt), .second, s10, .val (.int hd), .val (.int dp), .val (.int ci), .val (.int co), .val (.int kk), .val (.long o2), .second, .val (.int (alt.toInt32)), .val (.int d2), .val (.int c2), .val (.long t2), .second, .val (.int b2), .val (.long l2), .second, .val (.int ex), s27, s28, s29] [(.int (1 : Int32))])) _
        refine XS.goto X0.here hx rfl (pc0 := 116) (pc' := 120) rfl (hb hby at_116) (by decide) (by decide) ?_
        show Steps p.tables e below (T0.setTop (mkF m 120 #[.val (.long off), .second, .val (.long tag), .second, .val (.long len), .second, s6, s7, .val (.long alt), .second, s10, .val (.int hd), .val (.int dp), .val (.int ci), .val (.int co), .val (.int kk), .val (.long o2), .second, .val (.int (alt.toInt32)), .val (.int d2), .val (.int c2), .val (.long t2), .second, .val (.int b2), .val (.long l2), .second, .val (.int ex), s27, s28, s29] [(.int (1 : Int32))])) _
        refine XS.istore X0.here hx rfl (hb hby at_120) rfl (l' := #[.val (.long off), .second, .val (.long tag), .second, .val (.long len), .second, s6, s7, .val (.long alt), .second, s10, .val (.int hd), .val (.int dp), .val (.int ci), .val (.int co), .val (.int kk), .val (.long o2), .second, .val (.int (alt.toInt32)), .val (.int d2), .val (.int c2), .val (.long t2), .second, .val (.int b2), .val (.long l2), .second, .val (.int (1 : Int32)), s27, s28, s29]) rfl ?_
        show Steps p.tables e below (T0.setTop (mkF m 122 #[.val (.long off), .second, .val (.long tag), .second, .val (.long len), .second, s6, s7, .val (.long alt), .second, s10, .val (.int hd), .val (.int dp), .val (.int ci), .val (.int co), .val (.int kk), .val (.long o2), .second, .val (.int (alt.toInt32)), .val (.int d2), .val (.int c2), .val (.long t2), .second, .val (.int b2), .val (.long l2), .second, .val (.int (1 : Int32)), s27, s28, s29] [])) _
        refine XS.goto X0.here hx rfl (pc0 := 122) (pc' := 275) rfl (hb hby at_122) (by decide) (by decide) ?_
        show Steps p.tables e below (T0.setTop (mkF m 275 #[.val (.long off), .second, .val (.long tag), .second, .val (.long len), .second, s6, s7, .val (.long alt), .second, s10, .val (.int hd), .val (.int dp), .val (.int ci), .val (.int co), .val (.int kk), .val (.long o2), .second, .val (.int (alt.toInt32)), .val (.int d2), .val (.int c2), .val (.long t2), .second, .val (.int b2), .val (.long l2), .second, .val (.int (1 : Int32)), s27, s28, s29] [])) _
        exact kt
      ·
        simp only [if_neg hc73] at hv0
        rw [hv0] at kt
        simp only [if_neg hc73, if_pos hc100] at hv1
        rw [hv1] at kt
        simp only [if_neg hc73, if_pos hc100] at hv2
        rw [hv2] at kt
        simp only [if_neg hc73, if_pos hc100] at hv3
        rw [hv3] at kt
        simp only [if_neg hc73, if_pos hc100] at hv4
        rw [hv4] at kt
        simp only [if_neg hc73, if_pos hc100] at hv5
        rw [hv5] at kt
        simp only [if_neg hc73, if_pos hc100] at hv6
        rw [hv6] at kt
        simp only [if_neg hc73, if_pos hc100, if_neg hc112] at hv7
        rw [hv7] at kt
        show Steps p.tables e below (T0.setTop (mkF m 71 #[.val (.long off), .second, .val (.long tag), .second, .val (.long len), .second, s6, s7, .val (.long alt), .second, s10, .val (.int hd), .val (.int dp), .val (.int ci), .val (.int co), .val (.int kk), .val (.long o2), .second, .val (.int h2), .val (.int d2), .val (.int c2), .val (.long t2), .second, .val (.int b2), .val (.long l2), .second, .val (.int ex), s27, s28, s29] [])) _
        refine XS.iload X0.here hx rfl (hb hby at_71) rfl ?_
        show Steps p.tables e below (T0.setTop (mkF m 73 #[.val (.long off), .second, .val (.long tag), .second, .val (.long len), .second, s6, s7, .val (.long alt), .second, s10, .val (.int hd), .val (.int dp), .val (.int ci), .val (.int co), .val (.int kk), .val (.long o2), .second, .val (.int h2), .val (.int d2), .val (.int c2), .val (.long t2), .second, .val (.int b2), .val (.long l2), .second, .val (.int ex), s27, s28, s29] [(.int kk)])) _
        refine XS.ifYes X0.here hx rfl (pc0 := 73) (pc' := 97) rfl (hb hby at_73) rfl ((if0 _ _).trans (feq hc73).2) (by decide) (by decide) ?_
        show Steps p.tables e below (T0.setTop (mkF m 97 #[.val (.long off), .second, .val (.long tag), .second, .val (.long len), .second, s6, s7, .val (.long alt), .second, s10, .val (.int hd), .val (.int dp), .val (.int ci), .val (.int co), .val (.int kk), .val (.long o2), .second, .val (.int h2), .val (.int d2), .val (.int c2), .val (.long t2), .second, .val (.int b2), .val (.long l2), .second, .val (.int ex), s27, s28, s29] [])) _
        refine XS.iload X0.here hx rfl (hb hby at_97) rfl ?_
        show Steps p.tables e below (T0.setTop (mkF m 99 #[.val (.long off), .second, .val (.long tag), .second, .val (.long len), .second, s6, s7, .val (.long alt), .second, s10, .val (.int hd), .val (.int dp), .val (.int ci), .val (.int co), .val (.int kk), .val (.long o2), .second, .val (.int h2), .val (.int d2), .val (.int c2), .val (.long t2), .second, .val (.int b2), .val (.long l2), .second, .val (.int ex), s27, s28, s29] [(.int kk)])) _
        refine XS.iconst X0.here hx rfl (hb hby at_99) ?_
        show Steps p.tables e below (T0.setTop (mkF m 100 #[.val (.long off), .second, .val (.long tag), .second, .val (.long len), .second, s6, s7, .val (.long alt), .second, s10, .val (.int hd), .val (.int dp), .val (.int ci), .val (.int co), .val (.int kk), .val (.long o2), .second, .val (.int h2), .val (.int d2), .val (.int c2), .val (.long t2), .second, .val (.int b2), .val (.long l2), .second, .val (.int ex), s27, s28, s29] [(.int (1 : Int32)), (.int kk)])) _
        refine XS.icmpNo X0.here hx rfl (hb hby at_100) rfl (teq hc100).2 ?_
        show Steps p.tables e below (T0.setTop (mkF m 103 #[.val (.long off), .second, .val (.long tag), .second, .val (.long len), .second, s6, s7, .val (.long alt), .second, s10, .val (.int hd), .val (.int dp), .val (.int ci), .val (.int co), .val (.int kk), .val (.long o2), .second, .val (.int h2), .val (.int d2), .val (.int c2), .val (.long t2), .second, .val (.int b2), .val (.long l2), .second, .val (.int ex), s27, s28, s29] [])) _
        refine XS.lload X0.here hx rfl (hb hby at_103) rfl ?_
        show Steps p.tables e below (T0.setTop (mkF m 105 #[.val (.long off), .second, .val (.long tag), .second, .val (.long len), .second, s6, s7, .val (.long alt), .second, s10, .val (.int hd), .val (.int dp), .val (.int ci), .val (.int co), .val (.int kk), .val (.long o2), .second, .val (.int h2), .val (.int d2), .val (.int c2), .val (.long t2), .second, .val (.int b2), .val (.long l2), .second, .val (.int ex), s27, s28, s29] [(.long alt)])) _
        refine XS.l2i X0.here hx rfl (hb hby at_105) rfl ?_
        show Steps p.tables e below (T0.setTop (mkF m 106 #[.val (.long off), .second, .val (.long tag), .second, .val (.long len), .second, s6, s7, .val (.long alt), .second, s10, .val (.int hd), .val (.int dp), .val (.int ci), .val (.int co), .val (.int kk), .val (.long o2), .second, .val (.int h2), .val (.int d2), .val (.int c2), .val (.long t2), .second, .val (.int b2), .val (.long l2), .second, .val (.int ex), s27, s28, s29] [(.int (alt.toInt32))])) _
        refine XS.istore X0.here hx rfl (hb hby at_106) rfl (l' := #[.val (.long off), .second, .val (.long tag), .second, .val (.long len), .second, s6, s7, .val (.long alt), .second, s10, .val (.int hd), .val (.int dp), .val (.int ci), .val (.int co), .val (.int kk), .val (.long o2), .second, .val (.int (alt.toInt32)), .val (.int d2), .val (.int c2), .val (.long t2), .second, .val (.int b2), .val (.long l2), .second, .val (.int ex), s27, s28, s29]) rfl ?_
        show Steps p.tables e below (T0.setTop (mkF m 108 #[.val (.long off), .second, .val (.long tag), .second, .val (.long len), .second, s6, s7, .val (.long alt), .second, s10, .val (.int hd), .val (.int dp), .val (.int ci), .val (.int co), .val (.int kk), .val (.long o2), .second, .val (.int (alt.toInt32)), .val (.int d2), .val (.int c2), .val (.long t2), .second, .val (.int b2), .val (.long l2), .second, .val (.int ex), s27, s28, s29] [])) _
        refine XS.iload X0.here hx rfl (hb hby at_108) rfl ?_
        show Steps p.tables e below (T0.setTop (mkF m 110 #[.val (.long off), .second, .val (.long tag), .second, .val (.long len), .second, s6, s7, .val (.long alt), .second, s10, .val (.int hd), .val (.int dp), .val (.int ci), .val (.int co), .val (.int kk), .val (.long o2), .second, .val (.int (alt.toInt32)), .val (.int d2), .val (.int c2), .val (.long t2), .second, .val (.int b2), .val (.long l2), .second, .val (.int ex), s27, s28, s29] [(.int hd)])) _
        refine XS.iload X0.here hx rfl (hb hby at_110) rfl ?_
        show Steps p.tables e below (T0.setTop (mkF m 112 #[.val (.long off), .second, .val (.long tag), .second, .val (.long len), .second, s6, s7, .val (.long alt), .second, s10, .val (.int hd), .val (.int dp), .val (.int ci), .val (.int co), .val (.int kk), .val (.long o2), .second, .val (.int (alt.toInt32)), .val (.int d2), .val (.int c2), .val (.long t2), .second, .val (.int b2), .val (.long l2), .second, .val (.int ex), s27, s28, s29] [(.int (alt.toInt32)), (.int hd)])) _
        refine XS.icmpYes X0.here hx rfl (pc0 := 112) (pc' := 119) rfl (hb hby at_112) rfl (feq hc112).2 (by decide) (by decide) ?_
        show Steps p.tables e below (T0.setTop (mkF m 119 #[.val (.long off), .second, .val (.long tag), .second, .val (.long len), .second, s6, s7, .val (.long alt), .second, s10, .val (.int hd), .val (.int dp), .val (.int ci), .val (.int co), .val (.int kk), .val (.long o2), .second, .val (.int (alt.toInt32)), .val (.int d2), .val (.int c2), .val (.long t2), .second, .val (.int b2), .val (.long l2), .second, .val (.int ex), s27, s28, s29] [])) _
        refine XS.iconst X0.here hx rfl (hb hby at_119) ?_
        show Steps p.tables e below (T0.setTop (mkF m 120 #[.val (.long off), .second, .val (.long tag), .second, .val (.long len), .second, s6, s7, .val (.long alt), .second, s10, .val (.int hd), .val (.int dp), .val (.int ci), .val (.int co), .val (.int kk), .val (.long o2), .second, .val (.int (alt.toInt32)), .val (.int d2), .val (.int c2), .val (.long t2), .second, .val (.int b2), .val (.long l2), .second, .val (.int ex), s27, s28, s29] [(.int (0 : Int32))])) _
        refine XS.istore X0.here hx rfl (hb hby at_120) rfl (l' := #[.val (.long off), .second, .val (.long tag), .second, .val (.long len), .second, s6, s7, .val (.long alt), .second, s10, .val (.int hd), .val (.int dp), .val (.int ci), .val (.int co), .val (.int kk), .val (.long o2), .second, .val (.int (alt.toInt32)), .val (.int d2), .val (.int c2), .val (.long t2), .second, .val (.int b2), .val (.long l2), .second, .val (.int (0 : Int32)), s27, s28, s29]) rfl ?_
        show Steps p.tables e below (T0.setTop (mkF m 122 #[.val (.long off), .second, .val (.long tag), .second, .val (.long len), .second, s6, s7, .val (.long alt), .second, s10, .val (.int hd), .val (.int dp), .val (.int ci), .val (.int co), .val (.int kk), .val (.long o2), .second, .val (.int (alt.toInt32)), .val (.int d2), .val (.int c2), .val (.long t2), .second, .val (.int b2), .val (.long l2), .second, .val (.int (0 : Int32)), s27, s28, s29] [])) _
        refine XS.goto X0.here hx rfl (pc0 := 122) (pc' := 275) rfl (hb hby at_122) (by decide) (by decide) ?_
        show Steps p.tables e below (T0.setTop (mkF m 275 #[.val (.long off), .second, .val (.long tag), .second, .val (.long len), .second, s6, s7, .val (.long alt), .second, s10, .val (.int hd), .val (.int dp), .val (.int ci), .val (.int co), .val (.int kk), .val (.long o2), .second, .val (.int (alt.toInt32)), .val (.int d2), .val (.int c2), .val (.long t2), .second, .val (.int b2), .val (.long l2), .second, .val (.int (0 : Int32)), s27, s28, s29] [])) _
        exact kt
    ·
      by_cases hc128 : kk = (2 : Int32)
      ·
        by_cases hc140 : dp = (alt.toInt32)
        ·
          simp only [if_neg hc73] at hv0
          rw [hv0] at kt
          simp only [if_neg hc73, if_neg hc100] at hv1
          rw [hv1] at kt
          simp only [if_neg hc73, if_neg hc100, if_pos hc128] at hv2
          rw [hv2] at kt
          simp only [if_neg hc73, if_neg hc100, if_pos hc128] at hv3
          rw [hv3] at kt
          simp only [if_neg hc73, if_neg hc100, if_pos hc128] at hv4
          rw [hv4] at kt
          simp only [if_neg hc73, if_neg hc100, if_pos hc128] at hv5
          rw [hv5] at kt
          simp only [if_neg hc73, if_neg hc100, if_pos hc128] at hv6
          rw [hv6] at kt
          simp only [if_neg hc73, if_neg hc100, if_pos hc128, if_pos hc140] at hv7
          rw [hv7] at kt
          show Steps p.tables e below (T0.setTop (mkF m 71 #[.val (.long off), .second, .val (.long tag), .second, .val (.long len), .second, s6, s7, .val (.long alt), .second, s10, .val (.int hd), .val (.int dp), .val (.int ci), .val (.int co), .val (.int kk), .val (.long o2), .second, .val (.int h2), .val (.int d2), .val (.int c2), .val (.long t2), .second, .val (.int b2), .val (.long l2), .second, .val (.int ex), s27, s28, s29] [])) _
          refine XS.iload X0.here hx rfl (hb hby at_71) rfl ?_
          show Steps p.tables e below (T0.setTop (mkF m 73 #[.val (.long off), .second, .val (.long tag), .second, .val (.long len), .second, s6, s7, .val (.long alt), .second, s10, .val (.int hd), .val (.int dp), .val (.int ci), .val (.int co), .val (.int kk), .val (.long o2), .second, .val (.int h2), .val (.int d2), .val (.int c2), .val (.long t2), .second, .val (.int b2), .val (.long l2), .second, .val (.int ex), s27, s28, s29] [(.int kk)])) _
          refine XS.ifYes X0.here hx rfl (pc0 := 73) (pc' := 97) rfl (hb hby at_73) rfl ((if0 _ _).trans (feq hc73).2) (by decide) (by decide) ?_
          show Steps p.tables e below (T0.setTop (mkF m 97 #[.val (.long off), .second, .val (.long tag), .second, .val (.long len), .second, s6, s7, .val (.long alt), .second, s10, .val (.int hd), .val (.int dp), .val (.int ci), .val (.int co), .val (.int kk), .val (.long o2), .second, .val (.int h2), .val (.int d2), .val (.int c2), .val (.long t2), .second, .val (.int b2), .val (.long l2), .second, .val (.int ex), s27, s28, s29] [])) _
          refine XS.iload X0.here hx rfl (hb hby at_97) rfl ?_
          show Steps p.tables e below (T0.setTop (mkF m 99 #[.val (.long off), .second, .val (.long tag), .second, .val (.long len), .second, s6, s7, .val (.long alt), .second, s10, .val (.int hd), .val (.int dp), .val (.int ci), .val (.int co), .val (.int kk), .val (.long o2), .second, .val (.int h2), .val (.int d2), .val (.int c2), .val (.long t2), .second, .val (.int b2), .val (.long l2), .second, .val (.int ex), s27, s28, s29] [(.int kk)])) _
          refine XS.iconst X0.here hx rfl (hb hby at_99) ?_
          show Steps p.tables e below (T0.setTop (mkF m 100 #[.val (.long off), .second, .val (.long tag), .second, .val (.long len), .second, s6, s7, .val (.long alt), .second, s10, .val (.int hd), .val (.int dp), .val (.int ci), .val (.int co), .val (.int kk), .val (.long o2), .second, .val (.int h2), .val (.int d2), .val (.int c2), .val (.long t2), .second, .val (.int b2), .val (.long l2), .second, .val (.int ex), s27, s28, s29] [(.int (1 : Int32)), (.int kk)])) _
          refine XS.icmpYes X0.here hx rfl (pc0 := 100) (pc' := 125) rfl (hb hby at_100) rfl (feq hc100).2 (by decide) (by decide) ?_
          show Steps p.tables e below (T0.setTop (mkF m 125 #[.val (.long off), .second, .val (.long tag), .second, .val (.long len), .second, s6, s7, .val (.long alt), .second, s10, .val (.int hd), .val (.int dp), .val (.int ci), .val (.int co), .val (.int kk), .val (.long o2), .second, .val (.int h2), .val (.int d2), .val (.int c2), .val (.long t2), .second, .val (.int b2), .val (.long l2), .second, .val (.int ex), s27, s28, s29] [])) _
          refine XS.iload X0.here hx rfl (hb hby at_125) rfl ?_
          show Steps p.tables e below (T0.setTop (mkF m 127 #[.val (.long off), .second, .val (.long tag), .second, .val (.long len), .second, s6, s7, .val (.long alt), .second, s10, .val (.int hd), .val (.int dp), .val (.int ci), .val (.int co), .val (.int kk), .val (.long o2), .second, .val (.int h2), .val (.int d2), .val (.int c2), .val (.long t2), .second, .val (.int b2), .val (.long l2), .second, .val (.int ex), s27, s28, s29] [(.int kk)])) _
          refine XS.iconst X0.here hx rfl (hb hby at_127) ?_
          show Steps p.tables e below (T0.setTop (mkF m 128 #[.val (.long off), .second, .val (.long tag), .second, .val (.long len), .second, s6, s7, .val (.long alt), .second, s10, .val (.int hd), .val (.int dp), .val (.int ci), .val (.int co), .val (.int kk), .val (.long o2), .second, .val (.int h2), .val (.int d2), .val (.int c2), .val (.long t2), .second, .val (.int b2), .val (.long l2), .second, .val (.int ex), s27, s28, s29] [(.int (2 : Int32)), (.int kk)])) _
          refine XS.icmpNo X0.here hx rfl (hb hby at_128) rfl (teq hc128).2 ?_
          show Steps p.tables e below (T0.setTop (mkF m 131 #[.val (.long off), .second, .val (.long tag), .second, .val (.long len), .second, s6, s7, .val (.long alt), .second, s10, .val (.int hd), .val (.int dp), .val (.int ci), .val (.int co), .val (.int kk), .val (.long o2), .second, .val (.int h2), .val (.int d2), .val (.int c2), .val (.long t2), .second, .val (.int b2), .val (.long l2), .second, .val (.int ex), s27, s28, s29] [])) _
          refine XS.lload X0.here hx rfl (hb hby at_131) rfl ?_
          show Steps p.tables e below (T0.setTop (mkF m 133 #[.val (.long off), .second, .val (.long tag), .second, .val (.long len), .second, s6, s7, .val (.long alt), .second, s10, .val (.int hd), .val (.int dp), .val (.int ci), .val (.int co), .val (.int kk), .val (.long o2), .second, .val (.int h2), .val (.int d2), .val (.int c2), .val (.long t2), .second, .val (.int b2), .val (.long l2), .second, .val (.int ex), s27, s28, s29] [(.long alt)])) _
          refine XS.l2i X0.here hx rfl (hb hby at_133) rfl ?_
          show Steps p.tables e below (T0.setTop (mkF m 134 #[.val (.long off), .second, .val (.long tag), .second, .val (.long len), .second, s6, s7, .val (.long alt), .second, s10, .val (.int hd), .val (.int dp), .val (.int ci), .val (.int co), .val (.int kk), .val (.long o2), .second, .val (.int h2), .val (.int d2), .val (.int c2), .val (.long t2), .second, .val (.int b2), .val (.long l2), .second, .val (.int ex), s27, s28, s29] [(.int (alt.toInt32))])) _
          refine XS.istore X0.here hx rfl (hb hby at_134) rfl (l' := #[.val (.long off), .second, .val (.long tag), .second, .val (.long len), .second, s6, s7, .val (.long alt), .second, s10, .val (.int hd), .val (.int dp), .val (.int ci), .val (.int co), .val (.int kk), .val (.long o2), .second, .val (.int h2), .val (.int (alt.toInt32)), .val (.int c2), .val (.long t2), .second, .val (.int b2), .val (.long l2), .second, .val (.int ex), s27, s28, s29]) rfl ?_
          show Steps p.tables e below (T0.setTop (mkF m 136 #[.val (.long off), .second, .val (.long tag), .second, .val (.long len), .second, s6, s7, .val (.long alt), .second, s10, .val (.int hd), .val (.int dp), .val (.int ci), .val (.int co), .val (.int kk), .val (.long o2), .second, .val (.int h2), .val (.int (alt.toInt32)), .val (.int c2), .val (.long t2), .second, .val (.int b2), .val (.long l2), .second, .val (.int ex), s27, s28, s29] [])) _
          refine XS.iload X0.here hx rfl (hb hby at_136) rfl ?_
          show Steps p.tables e below (T0.setTop (mkF m 138 #[.val (.long off), .second, .val (.long tag), .second, .val (.long len), .second, s6, s7, .val (.long alt), .second, s10, .val (.int hd), .val (.int dp), .val (.int ci), .val (.int co), .val (.int kk), .val (.long o2), .second, .val (.int h2), .val (.int (alt.toInt32)), .val (.int c2), .val (.long t2), .second, .val (.int b2), .val (.long l2), .second, .val (.int ex), s27, s28, s29] [(.int dp)])) _
          refine XS.iload X0.here hx rfl (hb hby at_138) rfl ?_
          show Steps p.tables e below (T0.setTop (mkF m 140 #[.val (.long off), .second, .val (.long tag), .second, .val (.long len), .second, s6, s7, .val (.long alt), .second, s10, .val (.int hd), .val (.int dp), .val (.int ci), .val (.int co), .val (.int kk), .val (.long o2), .second, .val (.int h2), .val (.int (alt.toInt32)), .val (.int c2), .val (.long t2), .second, .val (.int b2), .val (.long l2), .second, .val (.int ex), s27, s28, s29] [(.int (alt.toInt32)), (.int dp)])) _
          refine XS.icmpNo X0.here hx rfl (hb hby at_140) rfl (teq hc140).2 ?_
          show Steps p.tables e below (T0.setTop (mkF m 143 #[.val (.long off), .second, .val (.long tag), .second, .val (.long len), .second, s6, s7, .val (.long alt), .second, s10, .val (.int hd), .val (.int dp), .val (.int ci), .val (.int co), .val (.int kk), .val (.long o2), .second, .val (.int h2), .val (.int (alt.toInt32)), .val (.int c2), .val (.long t2), .second, .val (.int b2), .val (.long l2), .second, .val (.int ex), s27, s28, s29] [])) _
          refine XS.iconst X0.here hx rfl (hb hby at_143) ?_
          show Steps p.tables e below (T0.setTop (mkF m 144 #[.val (.long off), .second, .val (.long tag), .second, .val (.long len), .second, s6, s7, .val (.long alt), .second, s10, .val (.int hd), .val (.int dp), .val (.int ci), .val (.int co), .val (.int kk), .val (.long o2), .second, .val (.int h2), .val (.int (alt.toInt32)), .val (.int c2), .val (.long t2), .second, .val (.int b2), .val (.long l2), .second, .val (.int ex), s27, s28, s29] [(.int (1 : Int32))])) _
          refine XS.goto X0.here hx rfl (pc0 := 144) (pc' := 148) rfl (hb hby at_144) (by decide) (by decide) ?_
          show Steps p.tables e below (T0.setTop (mkF m 148 #[.val (.long off), .second, .val (.long tag), .second, .val (.long len), .second, s6, s7, .val (.long alt), .second, s10, .val (.int hd), .val (.int dp), .val (.int ci), .val (.int co), .val (.int kk), .val (.long o2), .second, .val (.int h2), .val (.int (alt.toInt32)), .val (.int c2), .val (.long t2), .second, .val (.int b2), .val (.long l2), .second, .val (.int ex), s27, s28, s29] [(.int (1 : Int32))])) _
          refine XS.istore X0.here hx rfl (hb hby at_148) rfl (l' := #[.val (.long off), .second, .val (.long tag), .second, .val (.long len), .second, s6, s7, .val (.long alt), .second, s10, .val (.int hd), .val (.int dp), .val (.int ci), .val (.int co), .val (.int kk), .val (.long o2), .second, .val (.int h2), .val (.int (alt.toInt32)), .val (.int c2), .val (.long t2), .second, .val (.int b2), .val (.long l2), .second, .val (.int (1 : Int32)), s27, s28, s29]) rfl ?_
          show Steps p.tables e below (T0.setTop (mkF m 150 #[.val (.long off), .second, .val (.long tag), .second, .val (.long len), .second, s6, s7, .val (.long alt), .second, s10, .val (.int hd), .val (.int dp), .val (.int ci), .val (.int co), .val (.int kk), .val (.long o2), .second, .val (.int h2), .val (.int (alt.toInt32)), .val (.int c2), .val (.long t2), .second, .val (.int b2), .val (.long l2), .second, .val (.int (1 : Int32)), s27, s28, s29] [])) _
          refine XS.goto X0.here hx rfl (pc0 := 150) (pc' := 275) rfl (hb hby at_150) (by decide) (by decide) ?_
          show Steps p.tables e below (T0.setTop (mkF m 275 #[.val (.long off), .second, .val (.long tag), .second, .val (.long len), .second, s6, s7, .val (.long alt), .second, s10, .val (.int hd), .val (.int dp), .val (.int ci), .val (.int co), .val (.int kk), .val (.long o2), .second, .val (.int h2), .val (.int (alt.toInt32)), .val (.int c2), .val (.long t2), .second, .val (.int b2), .val (.long l2), .second, .val (.int (1 : Int32)), s27, s28, s29] [])) _
          exact kt
        ·
          simp only [if_neg hc73] at hv0
          rw [hv0] at kt
          simp only [if_neg hc73, if_neg hc100] at hv1
          rw [hv1] at kt
          simp only [if_neg hc73, if_neg hc100, if_pos hc128] at hv2
          rw [hv2] at kt
          simp only [if_neg hc73, if_neg hc100, if_pos hc128] at hv3
          rw [hv3] at kt
          simp only [if_neg hc73, if_neg hc100, if_pos hc128] at hv4
          rw [hv4] at kt
          simp only [if_neg hc73, if_neg hc100, if_pos hc128] at hv5
          rw [hv5] at kt
          simp only [if_neg hc73, if_neg hc100, if_pos hc128] at hv6
          rw [hv6] at kt
          simp only [if_neg hc73, if_neg hc100, if_pos hc128, if_neg hc140] at hv7
          rw [hv7] at kt
          show Steps p.tables e below (T0.setTop (mkF m 71 #[.val (.long off), .second, .val (.long tag), .second, .val (.long len), .second, s6, s7, .val (.long alt), .second, s10, .val (.int hd), .val (.int dp), .val (.int ci), .val (.int co), .val (.int kk), .val (.long o2), .second, .val (.int h2), .val (.int d2), .val (.int c2), .val (.long t2), .second, .val (.int b2), .val (.long l2), .second, .val (.int ex), s27, s28, s29] [])) _
          refine XS.iload X0.here hx rfl (hb hby at_71) rfl ?_
          show Steps p.tables e below (T0.setTop (mkF m 73 #[.val (.long off), .second, .val (.long tag), .second, .val (.long len), .second, s6, s7, .val (.long alt), .second, s10, .val (.int hd), .val (.int dp), .val (.int ci), .val (.int co), .val (.int kk), .val (.long o2), .second, .val (.int h2), .val (.int d2), .val (.int c2), .val (.long t2), .second, .val (.int b2), .val (.long l2), .second, .val (.int ex), s27, s28, s29] [(.int kk)])) _
          refine XS.ifYes X0.here hx rfl (pc0 := 73) (pc' := 97) rfl (hb hby at_73) rfl ((if0 _ _).trans (feq hc73).2) (by decide) (by decide) ?_
          show Steps p.tables e below (T0.setTop (mkF m 97 #[.val (.long off), .second, .val (.long tag), .second, .val (.long len), .second, s6, s7, .val (.long alt), .second, s10, .val (.int hd), .val (.int dp), .val (.int ci), .val (.int co), .val (.int kk), .val (.long o2), .second, .val (.int h2), .val (.int d2), .val (.int c2), .val (.long t2), .second, .val (.int b2), .val (.long l2), .second, .val (.int ex), s27, s28, s29] [])) _
          refine XS.iload X0.here hx rfl (hb hby at_97) rfl ?_
          show Steps p.tables e below (T0.setTop (mkF m 99 #[.val (.long off), .second, .val (.long tag), .second, .val (.long len), .second, s6, s7, .val (.long alt), .second, s10, .val (.int hd), .val (.int dp), .val (.int ci), .val (.int co), .val (.int kk), .val (.long o2), .second, .val (.int h2), .val (.int d2), .val (.int c2), .val (.long t2), .second, .val (.int b2), .val (.long l2), .second, .val (.int ex), s27, s28, s29] [(.int kk)])) _
          refine XS.iconst X0.here hx rfl (hb hby at_99) ?_
          show Steps p.tables e below (T0.setTop (mkF m 100 #[.val (.long off), .second, .val (.long tag), .second, .val (.long len), .second, s6, s7, .val (.long alt), .second, s10, .val (.int hd), .val (.int dp), .val (.int ci), .val (.int co), .val (.int kk), .val (.long o2), .second, .val (.int h2), .val (.int d2), .val (.int c2), .val (.long t2), .second, .val (.int b2), .val (.long l2), .second, .val (.int ex), s27, s28, s29] [(.int (1 : Int32)), (.int kk)])) _
          refine XS.icmpYes X0.here hx rfl (pc0 := 100) (pc' := 125) rfl (hb hby at_100) rfl (feq hc100).2 (by decide) (by decide) ?_
          show Steps p.tables e below (T0.setTop (mkF m 125 #[.val (.long off), .second, .val (.long tag), .second, .val (.long len), .second, s6, s7, .val (.long alt), .second, s10, .val (.int hd), .val (.int dp), .val (.int ci), .val (.int co), .val (.int kk), .val (.long o2), .second, .val (.int h2), .val (.int d2), .val (.int c2), .val (.long t2), .second, .val (.int b2), .val (.long l2), .second, .val (.int ex), s27, s28, s29] [])) _
          refine XS.iload X0.here hx rfl (hb hby at_125) rfl ?_
          show Steps p.tables e below (T0.setTop (mkF m 127 #[.val (.long off), .second, .val (.long tag), .second, .val (.long len), .second, s6, s7, .val (.long alt), .second, s10, .val (.int hd), .val (.int dp), .val (.int ci), .val (.int co), .val (.int kk), .val (.long o2), .second, .val (.int h2), .val (.int d2), .val (.int c2), .val (.long t2), .second, .val (.int b2), .val (.long l2), .second, .val (.int ex), s27, s28, s29] [(.int kk)])) _
          refine XS.iconst X0.here hx rfl (hb hby at_127) ?_
          show Steps p.tables e below (T0.setTop (mkF m 128 #[.val (.long off), .second, .val (.long tag), .second, .val (.long len), .second, s6, s7, .val (.long alt), .second, s10, .val (.int hd), .val (.int dp), .val (.int ci), .val (.int co), .val (.int kk), .val (.long o2), .second, .val (.int h2), .val (.int d2), .val (.int c2), .val (.long t2), .second, .val (.int b2), .val (.long l2), .second, .val (.int ex), s27, s28, s29] [(.int (2 : Int32)), (.int kk)])) _
          refine XS.icmpNo X0.here hx rfl (hb hby at_128) rfl (teq hc128).2 ?_
          show Steps p.tables e below (T0.setTop (mkF m 131 #[.val (.long off), .second, .val (.long tag), .second, .val (.long len), .second, s6, s7, .val (.long alt), .second, s10, .val (.int hd), .val (.int dp), .val (.int ci), .val (.int co), .val (.int kk), .val (.long o2), .second, .val (.int h2), .val (.int d2), .val (.int c2), .val (.long t2), .second, .val (.int b2), .val (.long l2), .second, .val (.int ex), s27, s28, s29] [])) _
          refine XS.lload X0.here hx rfl (hb hby at_131) rfl ?_
          show Steps p.tables e below (T0.setTop (mkF m 133 #[.val (.long off), .second, .val (.long tag), .second, .val (.long len), .second, s6, s7, .val (.long alt), .second, s10, .val (.int hd), .val (.int dp), .val (.int ci), .val (.int co), .val (.int kk), .val (.long o2), .second, .val (.int h2), .val (.int d2), .val (.int c2), .val (.long t2), .second, .val (.int b2), .val (.long l2), .second, .val (.int ex), s27, s28, s29] [(.long alt)])) _
          refine XS.l2i X0.here hx rfl (hb hby at_133) rfl ?_
          show Steps p.tables e below (T0.setTop (mkF m 134 #[.val (.long off), .second, .val (.long tag), .second, .val (.long len), .second, s6, s7, .val (.long alt), .second, s10, .val (.int hd), .val (.int dp), .val (.int ci), .val (.int co), .val (.int kk), .val (.long o2), .second, .val (.int h2), .val (.int d2), .val (.int c2), .val (.long t2), .second, .val (.int b2), .val (.long l2), .second, .val (.int ex), s27, s28, s29] [(.int (alt.toInt32))])) _
          refine XS.istore X0.here hx rfl (hb hby at_134) rfl (l' := #[.val (.long off), .second, .val (.long tag), .second, .val (.long len), .second, s6, s7, .val (.long alt), .second, s10, .val (.int hd), .val (.int dp), .val (.int ci), .val (.int co), .val (.int kk), .val (.long o2), .second, .val (.int h2), .val (.int (alt.toInt32)), .val (.int c2), .val (.long t2), .second, .val (.int b2), .val (.long l2), .second, .val (.int ex), s27, s28, s29]) rfl ?_
          show Steps p.tables e below (T0.setTop (mkF m 136 #[.val (.long off), .second, .val (.long tag), .second, .val (.long len), .second, s6, s7, .val (.long alt), .second, s10, .val (.int hd), .val (.int dp), .val (.int ci), .val (.int co), .val (.int kk), .val (.long o2), .second, .val (.int h2), .val (.int (alt.toInt32)), .val (.int c2), .val (.long t2), .second, .val (.int b2), .val (.long l2), .second, .val (.int ex), s27, s28, s29] [])) _
          refine XS.iload X0.here hx rfl (hb hby at_136) rfl ?_
          show Steps p.tables e below (T0.setTop (mkF m 138 #[.val (.long off), .second, .val (.long tag), .second, .val (.long len), .second, s6, s7, .val (.long alt), .second, s10, .val (.int hd), .val (.int dp), .val (.int ci), .val (.int co), .val (.int kk), .val (.long o2), .second, .val (.int h2), .val (.int (alt.toInt32)), .val (.int c2), .val (.long t2), .second, .val (.int b2), .val (.long l2), .second, .val (.int ex), s27, s28, s29] [(.int dp)])) _
          refine XS.iload X0.here hx rfl (hb hby at_138) rfl ?_
          show Steps p.tables e below (T0.setTop (mkF m 140 #[.val (.long off), .second, .val (.long tag), .second, .val (.long len), .second, s6, s7, .val (.long alt), .second, s10, .val (.int hd), .val (.int dp), .val (.int ci), .val (.int co), .val (.int kk), .val (.long o2), .second, .val (.int h2), .val (.int (alt.toInt32)), .val (.int c2), .val (.long t2), .second, .val (.int b2), .val (.long l2), .second, .val (.int ex), s27, s28, s29] [(.int (alt.toInt32)), (.int dp)])) _
          refine XS.icmpYes X0.here hx rfl (pc0 := 140) (pc' := 147) rfl (hb hby at_140) rfl (feq hc140).2 (by decide) (by decide) ?_
          show Steps p.tables e below (T0.setTop (mkF m 147 #[.val (.long off), .second, .val (.long tag), .second, .val (.long len), .second, s6, s7, .val (.long alt), .second, s10, .val (.int hd), .val (.int dp), .val (.int ci), .val (.int co), .val (.int kk), .val (.long o2), .second, .val (.int h2), .val (.int (alt.toInt32)), .val (.int c2), .val (.long t2), .second, .val (.int b2), .val (.long l2), .second, .val (.int ex), s27, s28, s29] [])) _
          refine XS.iconst X0.here hx rfl (hb hby at_147) ?_
          show Steps p.tables e below (T0.setTop (mkF m 148 #[.val (.long off), .second, .val (.long tag), .second, .val (.long len), .second, s6, s7, .val (.long alt), .second, s10, .val (.int hd), .val (.int dp), .val (.int ci), .val (.int co), .val (.int kk), .val (.long o2), .second, .val (.int h2), .val (.int (alt.toInt32)), .val (.int c2), .val (.long t2), .second, .val (.int b2), .val (.long l2), .second, .val (.int ex), s27, s28, s29] [(.int (0 : Int32))])) _
          refine XS.istore X0.here hx rfl (hb hby at_148) rfl (l' := #[.val (.long off), .second, .val (.long tag), .second, .val (.long len), .second, s6, s7, .val (.long alt), .second, s10, .val (.int hd), .val (.int dp), .val (.int ci), .val (.int co), .val (.int kk), .val (.long o2), .second, .val (.int h2), .val (.int (alt.toInt32)), .val (.int c2), .val (.long t2), .second, .val (.int b2), .val (.long l2), .second, .val (.int (0 : Int32)), s27, s28, s29]) rfl ?_
          show Steps p.tables e below (T0.setTop (mkF m 150 #[.val (.long off), .second, .val (.long tag), .second, .val (.long len), .second, s6, s7, .val (.long alt), .second, s10, .val (.int hd), .val (.int dp), .val (.int ci), .val (.int co), .val (.int kk), .val (.long o2), .second, .val (.int h2), .val (.int (alt.toInt32)), .val (.int c2), .val (.long t2), .second, .val (.int b2), .val (.long l2), .second, .val (.int (0 : Int32)), s27, s28, s29] [])) _
          refine XS.goto X0.here hx rfl (pc0 := 150) (pc' := 275) rfl (hb hby at_150) (by decide) (by decide) ?_
          show Steps p.tables e below (T0.setTop (mkF m 275 #[.val (.long off), .second, .val (.long tag), .second, .val (.long len), .second, s6, s7, .val (.long alt), .second, s10, .val (.int hd), .val (.int dp), .val (.int ci), .val (.int co), .val (.int kk), .val (.long o2), .second, .val (.int h2), .val (.int (alt.toInt32)), .val (.int c2), .val (.long t2), .second, .val (.int b2), .val (.long l2), .second, .val (.int (0 : Int32)), s27, s28, s29] [])) _
          exact kt
      ·
        by_cases hc156 : kk = (3 : Int32)
        ·
          by_cases hc170 : ci = ((alt.toInt32) &&& (3 : Int32))
          ·
            simp only [if_neg hc73] at hv0
            rw [hv0] at kt
            simp only [if_neg hc73, if_neg hc100] at hv1
            rw [hv1] at kt
            simp only [if_neg hc73, if_neg hc100, if_neg hc128] at hv2
            rw [hv2] at kt
            simp only [if_neg hc73, if_neg hc100, if_neg hc128, if_pos hc156] at hv3
            rw [hv3] at kt
            simp only [if_neg hc73, if_neg hc100, if_neg hc128, if_pos hc156] at hv4
            rw [hv4] at kt
            simp only [if_neg hc73, if_neg hc100, if_neg hc128, if_pos hc156] at hv5
            rw [hv5] at kt
            simp only [if_neg hc73, if_neg hc100, if_neg hc128, if_pos hc156] at hv6
            rw [hv6] at kt
            simp only [if_neg hc73, if_neg hc100, if_neg hc128, if_pos hc156, if_pos hc170] at hv7
            rw [hv7] at kt
            show Steps p.tables e below (T0.setTop (mkF m 71 #[.val (.long off), .second, .val (.long tag), .second, .val (.long len), .second, s6, s7, .val (.long alt), .second, s10, .val (.int hd), .val (.int dp), .val (.int ci), .val (.int co), .val (.int kk), .val (.long o2), .second, .val (.int h2), .val (.int d2), .val (.int c2), .val (.long t2), .second, .val (.int b2), .val (.long l2), .second, .val (.int ex), s27, s28, s29] [])) _
            refine XS.iload X0.here hx rfl (hb hby at_71) rfl ?_
            show Steps p.tables e below (T0.setTop (mkF m 73 #[.val (.long off), .second, .val (.long tag), .second, .val (.long len), .second, s6, s7, .val (.long alt), .second, s10, .val (.int hd), .val (.int dp), .val (.int ci), .val (.int co), .val (.int kk), .val (.long o2), .second, .val (.int h2), .val (.int d2), .val (.int c2), .val (.long t2), .second, .val (.int b2), .val (.long l2), .second, .val (.int ex), s27, s28, s29] [(.int kk)])) _
            refine XS.ifYes X0.here hx rfl (pc0 := 73) (pc' := 97) rfl (hb hby at_73) rfl ((if0 _ _).trans (feq hc73).2) (by decide) (by decide) ?_
            show Steps p.tables e below (T0.setTop (mkF m 97 #[.val (.long off), .second, .val (.long tag), .second, .val (.long len), .second, s6, s7, .val (.long alt), .second, s10, .val (.int hd), .val (.int dp), .val (.int ci), .val (.int co), .val (.int kk), .val (.long o2), .second, .val (.int h2), .val (.int d2), .val (.int c2), .val (.long t2), .second, .val (.int b2), .val (.long l2), .second, .val (.int ex), s27, s28, s29] [])) _
            refine XS.iload X0.here hx rfl (hb hby at_97) rfl ?_
            show Steps p.tables e below (T0.setTop (mkF m 99 #[.val (.long off), .second, .val (.long tag), .second, .val (.long len), .second, s6, s7, .val (.long alt), .second, s10, .val (.int hd), .val (.int dp), .val (.int ci), .val (.int co), .val (.int kk), .val (.long o2), .second, .val (.int h2), .val (.int d2), .val (.int c2), .val (.long t2), .second, .val (.int b2), .val (.long l2), .second, .val (.int ex), s27, s28, s29] [(.int kk)])) _
            refine XS.iconst X0.here hx rfl (hb hby at_99) ?_
            show Steps p.tables e below (T0.setTop (mkF m 100 #[.val (.long off), .second, .val (.long tag), .second, .val (.long len), .second, s6, s7, .val (.long alt), .second, s10, .val (.int hd), .val (.int dp), .val (.int ci), .val (.int co), .val (.int kk), .val (.long o2), .second, .val (.int h2), .val (.int d2), .val (.int c2), .val (.long t2), .second, .val (.int b2), .val (.long l2), .second, .val (.int ex), s27, s28, s29] [(.int (1 : Int32)), (.int kk)])) _
            refine XS.icmpYes X0.here hx rfl (pc0 := 100) (pc' := 125) rfl (hb hby at_100) rfl (feq hc100).2 (by decide) (by decide) ?_
            show Steps p.tables e below (T0.setTop (mkF m 125 #[.val (.long off), .second, .val (.long tag), .second, .val (.long len), .second, s6, s7, .val (.long alt), .second, s10, .val (.int hd), .val (.int dp), .val (.int ci), .val (.int co), .val (.int kk), .val (.long o2), .second, .val (.int h2), .val (.int d2), .val (.int c2), .val (.long t2), .second, .val (.int b2), .val (.long l2), .second, .val (.int ex), s27, s28, s29] [])) _
            refine XS.iload X0.here hx rfl (hb hby at_125) rfl ?_
            show Steps p.tables e below (T0.setTop (mkF m 127 #[.val (.long off), .second, .val (.long tag), .second, .val (.long len), .second, s6, s7, .val (.long alt), .second, s10, .val (.int hd), .val (.int dp), .val (.int ci), .val (.int co), .val (.int kk), .val (.long o2), .second, .val (.int h2), .val (.int d2), .val (.int c2), .val (.long t2), .second, .val (.int b2), .val (.long l2), .second, .val (.int ex), s27, s28, s29] [(.int kk)])) _
            refine XS.iconst X0.here hx rfl (hb hby at_127) ?_
            show Steps p.tables e below (T0.setTop (mkF m 128 #[.val (.long off), .second, .val (.long tag), .second, .val (.long len), .second, s6, s7, .val (.long alt), .second, s10, .val (.int hd), .val (.int dp), .val (.int ci), .val (.int co), .val (.int kk), .val (.long o2), .second, .val (.int h2), .val (.int d2), .val (.int c2), .val (.long t2), .second, .val (.int b2), .val (.long l2), .second, .val (.int ex), s27, s28, s29] [(.int (2 : Int32)), (.int kk)])) _
            refine XS.icmpYes X0.here hx rfl (pc0 := 128) (pc' := 153) rfl (hb hby at_128) rfl (feq hc128).2 (by decide) (by decide) ?_
            show Steps p.tables e below (T0.setTop (mkF m 153 #[.val (.long off), .second, .val (.long tag), .second, .val (.long len), .second, s6, s7, .val (.long alt), .second, s10, .val (.int hd), .val (.int dp), .val (.int ci), .val (.int co), .val (.int kk), .val (.long o2), .second, .val (.int h2), .val (.int d2), .val (.int c2), .val (.long t2), .second, .val (.int b2), .val (.long l2), .second, .val (.int ex), s27, s28, s29] [])) _
            refine XS.iload X0.here hx rfl (hb hby at_153) rfl ?_
            show Steps p.tables e below (T0.setTop (mkF m 155 #[.val (.long off), .second, .val (.long tag), .second, .val (.long len), .second, s6, s7, .val (.long alt), .second, s10, .val (.int hd), .val (.int dp), .val (.int ci), .val (.int co), .val (.int kk), .val (.long o2), .second, .val (.int h2), .val (.int d2), .val (.int c2), .val (.long t2), .second, .val (.int b2), .val (.long l2), .second, .val (.int ex), s27, s28, s29] [(.int kk)])) _
            refine XS.iconst X0.here hx rfl (hb hby at_155) ?_
            show Steps p.tables e below (T0.setTop (mkF m 156 #[.val (.long off), .second, .val (.long tag), .second, .val (.long len), .second, s6, s7, .val (.long alt), .second, s10, .val (.int hd), .val (.int dp), .val (.int ci), .val (.int co), .val (.int kk), .val (.long o2), .second, .val (.int h2), .val (.int d2), .val (.int c2), .val (.long t2), .second, .val (.int b2), .val (.long l2), .second, .val (.int ex), s27, s28, s29] [(.int (3 : Int32)), (.int kk)])) _
            refine XS.icmpNo X0.here hx rfl (hb hby at_156) rfl (teq hc156).2 ?_
            show Steps p.tables e below (T0.setTop (mkF m 159 #[.val (.long off), .second, .val (.long tag), .second, .val (.long len), .second, s6, s7, .val (.long alt), .second, s10, .val (.int hd), .val (.int dp), .val (.int ci), .val (.int co), .val (.int kk), .val (.long o2), .second, .val (.int h2), .val (.int d2), .val (.int c2), .val (.long t2), .second, .val (.int b2), .val (.long l2), .second, .val (.int ex), s27, s28, s29] [])) _
            refine XS.lload X0.here hx rfl (hb hby at_159) rfl ?_
            show Steps p.tables e below (T0.setTop (mkF m 161 #[.val (.long off), .second, .val (.long tag), .second, .val (.long len), .second, s6, s7, .val (.long alt), .second, s10, .val (.int hd), .val (.int dp), .val (.int ci), .val (.int co), .val (.int kk), .val (.long o2), .second, .val (.int h2), .val (.int d2), .val (.int c2), .val (.long t2), .second, .val (.int b2), .val (.long l2), .second, .val (.int ex), s27, s28, s29] [(.long alt)])) _
            refine XS.l2i X0.here hx rfl (hb hby at_161) rfl ?_
            show Steps p.tables e below (T0.setTop (mkF m 162 #[.val (.long off), .second, .val (.long tag), .second, .val (.long len), .second, s6, s7, .val (.long alt), .second, s10, .val (.int hd), .val (.int dp), .val (.int ci), .val (.int co), .val (.int kk), .val (.long o2), .second, .val (.int h2), .val (.int d2), .val (.int c2), .val (.long t2), .second, .val (.int b2), .val (.long l2), .second, .val (.int ex), s27, s28, s29] [(.int (alt.toInt32))])) _
            refine XS.iconst X0.here hx rfl (hb hby at_162) ?_
            show Steps p.tables e below (T0.setTop (mkF m 163 #[.val (.long off), .second, .val (.long tag), .second, .val (.long len), .second, s6, s7, .val (.long alt), .second, s10, .val (.int hd), .val (.int dp), .val (.int ci), .val (.int co), .val (.int kk), .val (.long o2), .second, .val (.int h2), .val (.int d2), .val (.int c2), .val (.long t2), .second, .val (.int b2), .val (.long l2), .second, .val (.int ex), s27, s28, s29] [(.int (3 : Int32)), (.int (alt.toInt32))])) _
            refine XS.iand X0.here hx rfl (hb hby at_163) rfl ?_
            show Steps p.tables e below (T0.setTop (mkF m 164 #[.val (.long off), .second, .val (.long tag), .second, .val (.long len), .second, s6, s7, .val (.long alt), .second, s10, .val (.int hd), .val (.int dp), .val (.int ci), .val (.int co), .val (.int kk), .val (.long o2), .second, .val (.int h2), .val (.int d2), .val (.int c2), .val (.long t2), .second, .val (.int b2), .val (.long l2), .second, .val (.int ex), s27, s28, s29] [(.int ((alt.toInt32) &&& (3 : Int32)))])) _
            refine XS.istore X0.here hx rfl (hb hby at_164) rfl (l' := #[.val (.long off), .second, .val (.long tag), .second, .val (.long len), .second, s6, s7, .val (.long alt), .second, s10, .val (.int hd), .val (.int dp), .val (.int ci), .val (.int co), .val (.int kk), .val (.long o2), .second, .val (.int h2), .val (.int d2), .val (.int ((alt.toInt32) &&& (3 : Int32))), .val (.long t2), .second, .val (.int b2), .val (.long l2), .second, .val (.int ex), s27, s28, s29]) rfl ?_
            show Steps p.tables e below (T0.setTop (mkF m 166 #[.val (.long off), .second, .val (.long tag), .second, .val (.long len), .second, s6, s7, .val (.long alt), .second, s10, .val (.int hd), .val (.int dp), .val (.int ci), .val (.int co), .val (.int kk), .val (.long o2), .second, .val (.int h2), .val (.int d2), .val (.int ((alt.toInt32) &&& (3 : Int32))), .val (.long t2), .second, .val (.int b2), .val (.long l2), .second, .val (.int ex), s27, s28, s29] [])) _
            refine XS.iload X0.here hx rfl (hb hby at_166) rfl ?_
            show Steps p.tables e below (T0.setTop (mkF m 168 #[.val (.long off), .second, .val (.long tag), .second, .val (.long len), .second, s6, s7, .val (.long alt), .second, s10, .val (.int hd), .val (.int dp), .val (.int ci), .val (.int co), .val (.int kk), .val (.long o2), .second, .val (.int h2), .val (.int d2), .val (.int ((alt.toInt32) &&& (3 : Int32))), .val (.long t2), .second, .val (.int b2), .val (.long l2), .second, .val (.int ex), s27, s28, s29] [(.int ci)])) _
            refine XS.iload X0.here hx rfl (hb hby at_168) rfl ?_
            show Steps p.tables e below (T0.setTop (mkF m 170 #[.val (.long off), .second, .val (.long tag), .second, .val (.long len), .second, s6, s7, .val (.long alt), .second, s10, .val (.int hd), .val (.int dp), .val (.int ci), .val (.int co), .val (.int kk), .val (.long o2), .second, .val (.int h2), .val (.int d2), .val (.int ((alt.toInt32) &&& (3 : Int32))), .val (.long t2), .second, .val (.int b2), .val (.long l2), .second, .val (.int ex), s27, s28, s29] [(.int ((alt.toInt32) &&& (3 : Int32))), (.int ci)])) _
            refine XS.icmpNo X0.here hx rfl (hb hby at_170) rfl (teq hc170).2 ?_
            show Steps p.tables e below (T0.setTop (mkF m 173 #[.val (.long off), .second, .val (.long tag), .second, .val (.long len), .second, s6, s7, .val (.long alt), .second, s10, .val (.int hd), .val (.int dp), .val (.int ci), .val (.int co), .val (.int kk), .val (.long o2), .second, .val (.int h2), .val (.int d2), .val (.int ((alt.toInt32) &&& (3 : Int32))), .val (.long t2), .second, .val (.int b2), .val (.long l2), .second, .val (.int ex), s27, s28, s29] [])) _
            refine XS.iconst X0.here hx rfl (hb hby at_173) ?_
            show Steps p.tables e below (T0.setTop (mkF m 174 #[.val (.long off), .second, .val (.long tag), .second, .val (.long len), .second, s6, s7, .val (.long alt), .second, s10, .val (.int hd), .val (.int dp), .val (.int ci), .val (.int co), .val (.int kk), .val (.long o2), .second, .val (.int h2), .val (.int d2), .val (.int ((alt.toInt32) &&& (3 : Int32))), .val (.long t2), .second, .val (.int b2), .val (.long l2), .second, .val (.int ex), s27, s28, s29] [(.int (1 : Int32))])) _
            refine XS.goto X0.here hx rfl (pc0 := 174) (pc' := 178) rfl (hb hby at_174) (by decide) (by decide) ?_
            show Steps p.tables e below (T0.setTop (mkF m 178 #[.val (.long off), .second, .val (.long tag), .second, .val (.long len), .second, s6, s7, .val (.long alt), .second, s10, .val (.int hd), .val (.int dp), .val (.int ci), .val (.int co), .val (.int kk), .val (.long o2), .second, .val (.int h2), .val (.int d2), .val (.int ((alt.toInt32) &&& (3 : Int32))), .val (.long t2), .second, .val (.int b2), .val (.long l2), .second, .val (.int ex), s27, s28, s29] [(.int (1 : Int32))])) _
            refine XS.istore X0.here hx rfl (hb hby at_178) rfl (l' := #[.val (.long off), .second, .val (.long tag), .second, .val (.long len), .second, s6, s7, .val (.long alt), .second, s10, .val (.int hd), .val (.int dp), .val (.int ci), .val (.int co), .val (.int kk), .val (.long o2), .second, .val (.int h2), .val (.int d2), .val (.int ((alt.toInt32) &&& (3 : Int32))), .val (.long t2), .second, .val (.int b2), .val (.long l2), .second, .val (.int (1 : Int32)), s27, s28, s29]) rfl ?_
            show Steps p.tables e below (T0.setTop (mkF m 180 #[.val (.long off), .second, .val (.long tag), .second, .val (.long len), .second, s6, s7, .val (.long alt), .second, s10, .val (.int hd), .val (.int dp), .val (.int ci), .val (.int co), .val (.int kk), .val (.long o2), .second, .val (.int h2), .val (.int d2), .val (.int ((alt.toInt32) &&& (3 : Int32))), .val (.long t2), .second, .val (.int b2), .val (.long l2), .second, .val (.int (1 : Int32)), s27, s28, s29] [])) _
            refine XS.goto X0.here hx rfl (pc0 := 180) (pc' := 275) rfl (hb hby at_180) (by decide) (by decide) ?_
            show Steps p.tables e below (T0.setTop (mkF m 275 #[.val (.long off), .second, .val (.long tag), .second, .val (.long len), .second, s6, s7, .val (.long alt), .second, s10, .val (.int hd), .val (.int dp), .val (.int ci), .val (.int co), .val (.int kk), .val (.long o2), .second, .val (.int h2), .val (.int d2), .val (.int ((alt.toInt32) &&& (3 : Int32))), .val (.long t2), .second, .val (.int b2), .val (.long l2), .second, .val (.int (1 : Int32)), s27, s28, s29] [])) _
            exact kt
          ·
            simp only [if_neg hc73] at hv0
            rw [hv0] at kt
            simp only [if_neg hc73, if_neg hc100] at hv1
            rw [hv1] at kt
            simp only [if_neg hc73, if_neg hc100, if_neg hc128] at hv2
            rw [hv2] at kt
            simp only [if_neg hc73, if_neg hc100, if_neg hc128, if_pos hc156] at hv3
            rw [hv3] at kt
            simp only [if_neg hc73, if_neg hc100, if_neg hc128, if_pos hc156] at hv4
            rw [hv4] at kt
            simp only [if_neg hc73, if_neg hc100, if_neg hc128, if_pos hc156] at hv5
            rw [hv5] at kt
            simp only [if_neg hc73, if_neg hc100, if_neg hc128, if_pos hc156] at hv6
            rw [hv6] at kt
            simp only [if_neg hc73, if_neg hc100, if_neg hc128, if_pos hc156, if_neg hc170] at hv7
            rw [hv7] at kt
            show Steps p.tables e below (T0.setTop (mkF m 71 #[.val (.long off), .second, .val (.long tag), .second, .val (.long len), .second, s6, s7, .val (.long alt), .second, s10, .val (.int hd), .val (.int dp), .val (.int ci), .val (.int co), .val (.int kk), .val (.long o2), .second, .val (.int h2), .val (.int d2), .val (.int c2), .val (.long t2), .second, .val (.int b2), .val (.long l2), .second, .val (.int ex), s27, s28, s29] [])) _
            refine XS.iload X0.here hx rfl (hb hby at_71) rfl ?_
            show Steps p.tables e below (T0.setTop (mkF m 73 #[.val (.long off), .second, .val (.long tag), .second, .val (.long len), .second, s6, s7, .val (.long alt), .second, s10, .val (.int hd), .val (.int dp), .val (.int ci), .val (.int co), .val (.int kk), .val (.long o2), .second, .val (.int h2), .val (.int d2), .val (.int c2), .val (.long t2), .second, .val (.int b2), .val (.long l2), .second, .val (.int ex), s27, s28, s29] [(.int kk)])) _
            refine XS.ifYes X0.here hx rfl (pc0 := 73) (pc' := 97) rfl (hb hby at_73) rfl ((if0 _ _).trans (feq hc73).2) (by decide) (by decide) ?_
            show Steps p.tables e below (T0.setTop (mkF m 97 #[.val (.long off), .second, .val (.long tag), .second, .val (.long len), .second, s6, s7, .val (.long alt), .second, s10, .val (.int hd), .val (.int dp), .val (.int ci), .val (.int co), .val (.int kk), .val (.long o2), .second, .val (.int h2), .val (.int d2), .val (.int c2), .val (.long t2), .second, .val (.int b2), .val (.long l2), .second, .val (.int ex), s27, s28, s29] [])) _
            refine XS.iload X0.here hx rfl (hb hby at_97) rfl ?_
            show Steps p.tables e below (T0.setTop (mkF m 99 #[.val (.long off), .second, .val (.long tag), .second, .val (.long len), .second, s6, s7, .val (.long alt), .second, s10, .val (.int hd), .val (.int dp), .val (.int ci), .val (.int co), .val (.int kk), .val (.long o2), .second, .val (.int h2), .val (.int d2), .val (.int c2), .val (.long t2), .second, .val (.int b2), .val (.long l2), .second, .val (.int ex), s27, s28, s29] [(.int kk)])) _
            refine XS.iconst X0.here hx rfl (hb hby at_99) ?_
            show Steps p.tables e below (T0.setTop (mkF m 100 #[.val (.long off), .second, .val (.long tag), .second, .val (.long len), .second, s6, s7, .val (.long alt), .second, s10, .val (.int hd), .val (.int dp), .val (.int ci), .val (.int co), .val (.int kk), .val (.long o2), .second, .val (.int h2), .val (.int d2), .val (.int c2), .val (.long t2), .second, .val (.int b2), .val (.long l2), .second, .val (.int ex), s27, s28, s29] [(.int (1 : Int32)), (.int kk)])) _
            refine XS.icmpYes X0.here hx rfl (pc0 := 100) (pc' := 125) rfl (hb hby at_100) rfl (feq hc100).2 (by decide) (by decide) ?_
            show Steps p.tables e below (T0.setTop (mkF m 125 #[.val (.long off), .second, .val (.long tag), .second, .val (.long len), .second, s6, s7, .val (.long alt), .second, s10, .val (.int hd), .val (.int dp), .val (.int ci), .val (.int co), .val (.int kk), .val (.long o2), .second, .val (.int h2), .val (.int d2), .val (.int c2), .val (.long t2), .second, .val (.int b2), .val (.long l2), .second, .val (.int ex), s27, s28, s29] [])) _
            refine XS.iload X0.here hx rfl (hb hby at_125) rfl ?_
            show Steps p.tables e below (T0.setTop (mkF m 127 #[.val (.long off), .second, .val (.long tag), .second, .val (.long len), .second, s6, s7, .val (.long alt), .second, s10, .val (.int hd), .val (.int dp), .val (.int ci), .val (.int co), .val (.int kk), .val (.long o2), .second, .val (.int h2), .val (.int d2), .val (.int c2), .val (.long t2), .second, .val (.int b2), .val (.long l2), .second, .val (.int ex), s27, s28, s29] [(.int kk)])) _
            refine XS.iconst X0.here hx rfl (hb hby at_127) ?_
            show Steps p.tables e below (T0.setTop (mkF m 128 #[.val (.long off), .second, .val (.long tag), .second, .val (.long len), .second, s6, s7, .val (.long alt), .second, s10, .val (.int hd), .val (.int dp), .val (.int ci), .val (.int co), .val (.int kk), .val (.long o2), .second, .val (.int h2), .val (.int d2), .val (.int c2), .val (.long t2), .second, .val (.int b2), .val (.long l2), .second, .val (.int ex), s27, s28, s29] [(.int (2 : Int32)), (.int kk)])) _
            refine XS.icmpYes X0.here hx rfl (pc0 := 128) (pc' := 153) rfl (hb hby at_128) rfl (feq hc128).2 (by decide) (by decide) ?_
            show Steps p.tables e below (T0.setTop (mkF m 153 #[.val (.long off), .second, .val (.long tag), .second, .val (.long len), .second, s6, s7, .val (.long alt), .second, s10, .val (.int hd), .val (.int dp), .val (.int ci), .val (.int co), .val (.int kk), .val (.long o2), .second, .val (.int h2), .val (.int d2), .val (.int c2), .val (.long t2), .second, .val (.int b2), .val (.long l2), .second, .val (.int ex), s27, s28, s29] [])) _
            refine XS.iload X0.here hx rfl (hb hby at_153) rfl ?_
            show Steps p.tables e below (T0.setTop (mkF m 155 #[.val (.long off), .second, .val (.long tag), .second, .val (.long len), .second, s6, s7, .val (.long alt), .second, s10, .val (.int hd), .val (.int dp), .val (.int ci), .val (.int co), .val (.int kk), .val (.long o2), .second, .val (.int h2), .val (.int d2), .val (.int c2), .val (.long t2), .second, .val (.int b2), .val (.long l2), .second, .val (.int ex), s27, s28, s29] [(.int kk)])) _
            refine XS.iconst X0.here hx rfl (hb hby at_155) ?_
            show Steps p.tables e below (T0.setTop (mkF m 156 #[.val (.long off), .second, .val (.long tag), .second, .val (.long len), .second, s6, s7, .val (.long alt), .second, s10, .val (.int hd), .val (.int dp), .val (.int ci), .val (.int co), .val (.int kk), .val (.long o2), .second, .val (.int h2), .val (.int d2), .val (.int c2), .val (.long t2), .second, .val (.int b2), .val (.long l2), .second, .val (.int ex), s27, s28, s29] [(.int (3 : Int32)), (.int kk)])) _
            refine XS.icmpNo X0.here hx rfl (hb hby at_156) rfl (teq hc156).2 ?_
            show Steps p.tables e below (T0.setTop (mkF m 159 #[.val (.long off), .second, .val (.long tag), .second, .val (.long len), .second, s6, s7, .val (.long alt), .second, s10, .val (.int hd), .val (.int dp), .val (.int ci), .val (.int co), .val (.int kk), .val (.long o2), .second, .val (.int h2), .val (.int d2), .val (.int c2), .val (.long t2), .second, .val (.int b2), .val (.long l2), .second, .val (.int ex), s27, s28, s29] [])) _
            refine XS.lload X0.here hx rfl (hb hby at_159) rfl ?_
            show Steps p.tables e below (T0.setTop (mkF m 161 #[.val (.long off), .second, .val (.long tag), .second, .val (.long len), .second, s6, s7, .val (.long alt), .second, s10, .val (.int hd), .val (.int dp), .val (.int ci), .val (.int co), .val (.int kk), .val (.long o2), .second, .val (.int h2), .val (.int d2), .val (.int c2), .val (.long t2), .second, .val (.int b2), .val (.long l2), .second, .val (.int ex), s27, s28, s29] [(.long alt)])) _
            refine XS.l2i X0.here hx rfl (hb hby at_161) rfl ?_
            show Steps p.tables e below (T0.setTop (mkF m 162 #[.val (.long off), .second, .val (.long tag), .second, .val (.long len), .second, s6, s7, .val (.long alt), .second, s10, .val (.int hd), .val (.int dp), .val (.int ci), .val (.int co), .val (.int kk), .val (.long o2), .second, .val (.int h2), .val (.int d2), .val (.int c2), .val (.long t2), .second, .val (.int b2), .val (.long l2), .second, .val (.int ex), s27, s28, s29] [(.int (alt.toInt32))])) _
            refine XS.iconst X0.here hx rfl (hb hby at_162) ?_
            show Steps p.tables e below (T0.setTop (mkF m 163 #[.val (.long off), .second, .val (.long tag), .second, .val (.long len), .second, s6, s7, .val (.long alt), .second, s10, .val (.int hd), .val (.int dp), .val (.int ci), .val (.int co), .val (.int kk), .val (.long o2), .second, .val (.int h2), .val (.int d2), .val (.int c2), .val (.long t2), .second, .val (.int b2), .val (.long l2), .second, .val (.int ex), s27, s28, s29] [(.int (3 : Int32)), (.int (alt.toInt32))])) _
            refine XS.iand X0.here hx rfl (hb hby at_163) rfl ?_
            show Steps p.tables e below (T0.setTop (mkF m 164 #[.val (.long off), .second, .val (.long tag), .second, .val (.long len), .second, s6, s7, .val (.long alt), .second, s10, .val (.int hd), .val (.int dp), .val (.int ci), .val (.int co), .val (.int kk), .val (.long o2), .second, .val (.int h2), .val (.int d2), .val (.int c2), .val (.long t2), .second, .val (.int b2), .val (.long l2), .second, .val (.int ex), s27, s28, s29] [(.int ((alt.toInt32) &&& (3 : Int32)))])) _
            refine XS.istore X0.here hx rfl (hb hby at_164) rfl (l' := #[.val (.long off), .second, .val (.long tag), .second, .val (.long len), .second, s6, s7, .val (.long alt), .second, s10, .val (.int hd), .val (.int dp), .val (.int ci), .val (.int co), .val (.int kk), .val (.long o2), .second, .val (.int h2), .val (.int d2), .val (.int ((alt.toInt32) &&& (3 : Int32))), .val (.long t2), .second, .val (.int b2), .val (.long l2), .second, .val (.int ex), s27, s28, s29]) rfl ?_
            show Steps p.tables e below (T0.setTop (mkF m 166 #[.val (.long off), .second, .val (.long tag), .second, .val (.long len), .second, s6, s7, .val (.long alt), .second, s10, .val (.int hd), .val (.int dp), .val (.int ci), .val (.int co), .val (.int kk), .val (.long o2), .second, .val (.int h2), .val (.int d2), .val (.int ((alt.toInt32) &&& (3 : Int32))), .val (.long t2), .second, .val (.int b2), .val (.long l2), .second, .val (.int ex), s27, s28, s29] [])) _
            refine XS.iload X0.here hx rfl (hb hby at_166) rfl ?_
            show Steps p.tables e below (T0.setTop (mkF m 168 #[.val (.long off), .second, .val (.long tag), .second, .val (.long len), .second, s6, s7, .val (.long alt), .second, s10, .val (.int hd), .val (.int dp), .val (.int ci), .val (.int co), .val (.int kk), .val (.long o2), .second, .val (.int h2), .val (.int d2), .val (.int ((alt.toInt32) &&& (3 : Int32))), .val (.long t2), .second, .val (.int b2), .val (.long l2), .second, .val (.int ex), s27, s28, s29] [(.int ci)])) _
            refine XS.iload X0.here hx rfl (hb hby at_168) rfl ?_
            show Steps p.tables e below (T0.setTop (mkF m 170 #[.val (.long off), .second, .val (.long tag), .second, .val (.long len), .second, s6, s7, .val (.long alt), .second, s10, .val (.int hd), .val (.int dp), .val (.int ci), .val (.int co), .val (.int kk), .val (.long o2), .second, .val (.int h2), .val (.int d2), .val (.int ((alt.toInt32) &&& (3 : Int32))), .val (.long t2), .second, .val (.int b2), .val (.long l2), .second, .val (.int ex), s27, s28, s29] [(.int ((alt.toInt32) &&& (3 : Int32))), (.int ci)])) _
            refine XS.icmpYes X0.here hx rfl (pc0 := 170) (pc' := 177) rfl (hb hby at_170) rfl (feq hc170).2 (by decide) (by decide) ?_
            show Steps p.tables e below (T0.setTop (mkF m 177 #[.val (.long off), .second, .val (.long tag), .second, .val (.long len), .second, s6, s7, .val (.long alt), .second, s10, .val (.int hd), .val (.int dp), .val (.int ci), .val (.int co), .val (.int kk), .val (.long o2), .second, .val (.int h2), .val (.int d2), .val (.int ((alt.toInt32) &&& (3 : Int32))), .val (.long t2), .second, .val (.int b2), .val (.long l2), .second, .val (.int ex), s27, s28, s29] [])) _
            refine XS.iconst X0.here hx rfl (hb hby at_177) ?_
            show Steps p.tables e below (T0.setTop (mkF m 178 #[.val (.long off), .second, .val (.long tag), .second, .val (.long len), .second, s6, s7, .val (.long alt), .second, s10, .val (.int hd), .val (.int dp), .val (.int ci), .val (.int co), .val (.int kk), .val (.long o2), .second, .val (.int h2), .val (.int d2), .val (.int ((alt.toInt32) &&& (3 : Int32))), .val (.long t2), .second, .val (.int b2), .val (.long l2), .second, .val (.int ex), s27, s28, s29] [(.int (0 : Int32))])) _
            refine XS.istore X0.here hx rfl (hb hby at_178) rfl (l' := #[.val (.long off), .second, .val (.long tag), .second, .val (.long len), .second, s6, s7, .val (.long alt), .second, s10, .val (.int hd), .val (.int dp), .val (.int ci), .val (.int co), .val (.int kk), .val (.long o2), .second, .val (.int h2), .val (.int d2), .val (.int ((alt.toInt32) &&& (3 : Int32))), .val (.long t2), .second, .val (.int b2), .val (.long l2), .second, .val (.int (0 : Int32)), s27, s28, s29]) rfl ?_
            show Steps p.tables e below (T0.setTop (mkF m 180 #[.val (.long off), .second, .val (.long tag), .second, .val (.long len), .second, s6, s7, .val (.long alt), .second, s10, .val (.int hd), .val (.int dp), .val (.int ci), .val (.int co), .val (.int kk), .val (.long o2), .second, .val (.int h2), .val (.int d2), .val (.int ((alt.toInt32) &&& (3 : Int32))), .val (.long t2), .second, .val (.int b2), .val (.long l2), .second, .val (.int (0 : Int32)), s27, s28, s29] [])) _
            refine XS.goto X0.here hx rfl (pc0 := 180) (pc' := 275) rfl (hb hby at_180) (by decide) (by decide) ?_
            show Steps p.tables e below (T0.setTop (mkF m 275 #[.val (.long off), .second, .val (.long tag), .second, .val (.long len), .second, s6, s7, .val (.long alt), .second, s10, .val (.int hd), .val (.int dp), .val (.int ci), .val (.int co), .val (.int kk), .val (.long o2), .second, .val (.int h2), .val (.int d2), .val (.int ((alt.toInt32) &&& (3 : Int32))), .val (.long t2), .second, .val (.int b2), .val (.long l2), .second, .val (.int (0 : Int32)), s27, s28, s29] [])) _
            exact kt
        ·
          by_cases hc186 : kk = (4 : Int32)
          ·
            by_cases hc197 : (lcmpW tag alt) = (0 : Int32)
            ·
              simp only [if_neg hc73] at hv0
              rw [hv0] at kt
              simp only [if_neg hc73, if_neg hc100] at hv1
              rw [hv1] at kt
              simp only [if_neg hc73, if_neg hc100, if_neg hc128] at hv2
              rw [hv2] at kt
              simp only [if_neg hc73, if_neg hc100, if_neg hc128, if_neg hc156] at hv3
              rw [hv3] at kt
              simp only [if_neg hc73, if_neg hc100, if_neg hc128, if_neg hc156, if_pos hc186] at hv4
              rw [hv4] at kt
              simp only [if_neg hc73, if_neg hc100, if_neg hc128, if_neg hc156, if_pos hc186] at hv5
              rw [hv5] at kt
              simp only [if_neg hc73, if_neg hc100, if_neg hc128, if_neg hc156, if_pos hc186] at hv6
              rw [hv6] at kt
              simp only [if_neg hc73, if_neg hc100, if_neg hc128, if_neg hc156, if_pos hc186, if_pos hc197] at hv7
              rw [hv7] at kt
              show Steps p.tables e below (T0.setTop (mkF m 71 #[.val (.long off), .second, .val (.long tag), .second, .val (.long len), .second, s6, s7, .val (.long alt), .second, s10, .val (.int hd), .val (.int dp), .val (.int ci), .val (.int co), .val (.int kk), .val (.long o2), .second, .val (.int h2), .val (.int d2), .val (.int c2), .val (.long t2), .second, .val (.int b2), .val (.long l2), .second, .val (.int ex), s27, s28, s29] [])) _
              refine XS.iload X0.here hx rfl (hb hby at_71) rfl ?_
              show Steps p.tables e below (T0.setTop (mkF m 73 #[.val (.long off), .second, .val (.long tag), .second, .val (.long len), .second, s6, s7, .val (.long alt), .second, s10, .val (.int hd), .val (.int dp), .val (.int ci), .val (.int co), .val (.int kk), .val (.long o2), .second, .val (.int h2), .val (.int d2), .val (.int c2), .val (.long t2), .second, .val (.int b2), .val (.long l2), .second, .val (.int ex), s27, s28, s29] [(.int kk)])) _
              refine XS.ifYes X0.here hx rfl (pc0 := 73) (pc' := 97) rfl (hb hby at_73) rfl ((if0 _ _).trans (feq hc73).2) (by decide) (by decide) ?_
              show Steps p.tables e below (T0.setTop (mkF m 97 #[.val (.long off), .second, .val (.long tag), .second, .val (.long len), .second, s6, s7, .val (.long alt), .second, s10, .val (.int hd), .val (.int dp), .val (.int ci), .val (.int co), .val (.int kk), .val (.long o2), .second, .val (.int h2), .val (.int d2), .val (.int c2), .val (.long t2), .second, .val (.int b2), .val (.long l2), .second, .val (.int ex), s27, s28, s29] [])) _
              refine XS.iload X0.here hx rfl (hb hby at_97) rfl ?_
              show Steps p.tables e below (T0.setTop (mkF m 99 #[.val (.long off), .second, .val (.long tag), .second, .val (.long len), .second, s6, s7, .val (.long alt), .second, s10, .val (.int hd), .val (.int dp), .val (.int ci), .val (.int co), .val (.int kk), .val (.long o2), .second, .val (.int h2), .val (.int d2), .val (.int c2), .val (.long t2), .second, .val (.int b2), .val (.long l2), .second, .val (.int ex), s27, s28, s29] [(.int kk)])) _
              refine XS.iconst X0.here hx rfl (hb hby at_99) ?_
              show Steps p.tables e below (T0.setTop (mkF m 100 #[.val (.long off), .second, .val (.long tag), .second, .val (.long len), .second, s6, s7, .val (.long alt), .second, s10, .val (.int hd), .val (.int dp), .val (.int ci), .val (.int co), .val (.int kk), .val (.long o2), .second, .val (.int h2), .val (.int d2), .val (.int c2), .val (.long t2), .second, .val (.int b2), .val (.long l2), .second, .val (.int ex), s27, s28, s29] [(.int (1 : Int32)), (.int kk)])) _
              refine XS.icmpYes X0.here hx rfl (pc0 := 100) (pc' := 125) rfl (hb hby at_100) rfl (feq hc100).2 (by decide) (by decide) ?_
              show Steps p.tables e below (T0.setTop (mkF m 125 #[.val (.long off), .second, .val (.long tag), .second, .val (.long len), .second, s6, s7, .val (.long alt), .second, s10, .val (.int hd), .val (.int dp), .val (.int ci), .val (.int co), .val (.int kk), .val (.long o2), .second, .val (.int h2), .val (.int d2), .val (.int c2), .val (.long t2), .second, .val (.int b2), .val (.long l2), .second, .val (.int ex), s27, s28, s29] [])) _
              refine XS.iload X0.here hx rfl (hb hby at_125) rfl ?_
              show Steps p.tables e below (T0.setTop (mkF m 127 #[.val (.long off), .second, .val (.long tag), .second, .val (.long len), .second, s6, s7, .val (.long alt), .second, s10, .val (.int hd), .val (.int dp), .val (.int ci), .val (.int co), .val (.int kk), .val (.long o2), .second, .val (.int h2), .val (.int d2), .val (.int c2), .val (.long t2), .second, .val (.int b2), .val (.long l2), .second, .val (.int ex), s27, s28, s29] [(.int kk)])) _
              refine XS.iconst X0.here hx rfl (hb hby at_127) ?_
              show Steps p.tables e below (T0.setTop (mkF m 128 #[.val (.long off), .second, .val (.long tag), .second, .val (.long len), .second, s6, s7, .val (.long alt), .second, s10, .val (.int hd), .val (.int dp), .val (.int ci), .val (.int co), .val (.int kk), .val (.long o2), .second, .val (.int h2), .val (.int d2), .val (.int c2), .val (.long t2), .second, .val (.int b2), .val (.long l2), .second, .val (.int ex), s27, s28, s29] [(.int (2 : Int32)), (.int kk)])) _
              refine XS.icmpYes X0.here hx rfl (pc0 := 128) (pc' := 153) rfl (hb hby at_128) rfl (feq hc128).2 (by decide) (by decide) ?_
              show Steps p.tables e below (T0.setTop (mkF m 153 #[.val (.long off), .second, .val (.long tag), .second, .val (.long len), .second, s6, s7, .val (.long alt), .second, s10, .val (.int hd), .val (.int dp), .val (.int ci), .val (.int co), .val (.int kk), .val (.long o2), .second, .val (.int h2), .val (.int d2), .val (.int c2), .val (.long t2), .second, .val (.int b2), .val (.long l2), .second, .val (.int ex), s27, s28, s29] [])) _
              refine XS.iload X0.here hx rfl (hb hby at_153) rfl ?_
              show Steps p.tables e below (T0.setTop (mkF m 155 #[.val (.long off), .second, .val (.long tag), .second, .val (.long len), .second, s6, s7, .val (.long alt), .second, s10, .val (.int hd), .val (.int dp), .val (.int ci), .val (.int co), .val (.int kk), .val (.long o2), .second, .val (.int h2), .val (.int d2), .val (.int c2), .val (.long t2), .second, .val (.int b2), .val (.long l2), .second, .val (.int ex), s27, s28, s29] [(.int kk)])) _
              refine XS.iconst X0.here hx rfl (hb hby at_155) ?_
              show Steps p.tables e below (T0.setTop (mkF m 156 #[.val (.long off), .second, .val (.long tag), .second, .val (.long len), .second, s6, s7, .val (.long alt), .second, s10, .val (.int hd), .val (.int dp), .val (.int ci), .val (.int co), .val (.int kk), .val (.long o2), .second, .val (.int h2), .val (.int d2), .val (.int c2), .val (.long t2), .second, .val (.int b2), .val (.long l2), .second, .val (.int ex), s27, s28, s29] [(.int (3 : Int32)), (.int kk)])) _
              refine XS.icmpYes X0.here hx rfl (pc0 := 156) (pc' := 183) rfl (hb hby at_156) rfl (feq hc156).2 (by decide) (by decide) ?_
              show Steps p.tables e below (T0.setTop (mkF m 183 #[.val (.long off), .second, .val (.long tag), .second, .val (.long len), .second, s6, s7, .val (.long alt), .second, s10, .val (.int hd), .val (.int dp), .val (.int ci), .val (.int co), .val (.int kk), .val (.long o2), .second, .val (.int h2), .val (.int d2), .val (.int c2), .val (.long t2), .second, .val (.int b2), .val (.long l2), .second, .val (.int ex), s27, s28, s29] [])) _
              refine XS.iload X0.here hx rfl (hb hby at_183) rfl ?_
              show Steps p.tables e below (T0.setTop (mkF m 185 #[.val (.long off), .second, .val (.long tag), .second, .val (.long len), .second, s6, s7, .val (.long alt), .second, s10, .val (.int hd), .val (.int dp), .val (.int ci), .val (.int co), .val (.int kk), .val (.long o2), .second, .val (.int h2), .val (.int d2), .val (.int c2), .val (.long t2), .second, .val (.int b2), .val (.long l2), .second, .val (.int ex), s27, s28, s29] [(.int kk)])) _
              refine XS.iconst X0.here hx rfl (hb hby at_185) ?_
              show Steps p.tables e below (T0.setTop (mkF m 186 #[.val (.long off), .second, .val (.long tag), .second, .val (.long len), .second, s6, s7, .val (.long alt), .second, s10, .val (.int hd), .val (.int dp), .val (.int ci), .val (.int co), .val (.int kk), .val (.long o2), .second, .val (.int h2), .val (.int d2), .val (.int c2), .val (.long t2), .second, .val (.int b2), .val (.long l2), .second, .val (.int ex), s27, s28, s29] [(.int (4 : Int32)), (.int kk)])) _
              refine XS.icmpNo X0.here hx rfl (hb hby at_186) rfl (teq hc186).2 ?_
              show Steps p.tables e below (T0.setTop (mkF m 189 #[.val (.long off), .second, .val (.long tag), .second, .val (.long len), .second, s6, s7, .val (.long alt), .second, s10, .val (.int hd), .val (.int dp), .val (.int ci), .val (.int co), .val (.int kk), .val (.long o2), .second, .val (.int h2), .val (.int d2), .val (.int c2), .val (.long t2), .second, .val (.int b2), .val (.long l2), .second, .val (.int ex), s27, s28, s29] [])) _
              refine XS.lload X0.here hx rfl (hb hby at_189) rfl ?_
              show Steps p.tables e below (T0.setTop (mkF m 191 #[.val (.long off), .second, .val (.long tag), .second, .val (.long len), .second, s6, s7, .val (.long alt), .second, s10, .val (.int hd), .val (.int dp), .val (.int ci), .val (.int co), .val (.int kk), .val (.long o2), .second, .val (.int h2), .val (.int d2), .val (.int c2), .val (.long t2), .second, .val (.int b2), .val (.long l2), .second, .val (.int ex), s27, s28, s29] [(.long alt)])) _
              refine XS.lstore X0.here hx rfl (hb hby at_191) rfl (l' := #[.val (.long off), .second, .val (.long tag), .second, .val (.long len), .second, s6, s7, .val (.long alt), .second, s10, .val (.int hd), .val (.int dp), .val (.int ci), .val (.int co), .val (.int kk), .val (.long o2), .second, .val (.int h2), .val (.int d2), .val (.int c2), .val (.long alt), .second, .val (.int b2), .val (.long l2), .second, .val (.int ex), s27, s28, s29]) rfl ?_
              show Steps p.tables e below (T0.setTop (mkF m 193 #[.val (.long off), .second, .val (.long tag), .second, .val (.long len), .second, s6, s7, .val (.long alt), .second, s10, .val (.int hd), .val (.int dp), .val (.int ci), .val (.int co), .val (.int kk), .val (.long o2), .second, .val (.int h2), .val (.int d2), .val (.int c2), .val (.long alt), .second, .val (.int b2), .val (.long l2), .second, .val (.int ex), s27, s28, s29] [])) _
              refine XS.lloadN X0.here hx rfl (hb hby at_193) rfl ?_
              show Steps p.tables e below (T0.setTop (mkF m 194 #[.val (.long off), .second, .val (.long tag), .second, .val (.long len), .second, s6, s7, .val (.long alt), .second, s10, .val (.int hd), .val (.int dp), .val (.int ci), .val (.int co), .val (.int kk), .val (.long o2), .second, .val (.int h2), .val (.int d2), .val (.int c2), .val (.long alt), .second, .val (.int b2), .val (.long l2), .second, .val (.int ex), s27, s28, s29] [(.long tag)])) _
              refine XS.lload X0.here hx rfl (hb hby at_194) rfl ?_
              show Steps p.tables e below (T0.setTop (mkF m 196 #[.val (.long off), .second, .val (.long tag), .second, .val (.long len), .second, s6, s7, .val (.long alt), .second, s10, .val (.int hd), .val (.int dp), .val (.int ci), .val (.int co), .val (.int kk), .val (.long o2), .second, .val (.int h2), .val (.int d2), .val (.int c2), .val (.long alt), .second, .val (.int b2), .val (.long l2), .second, .val (.int ex), s27, s28, s29] [(.long alt), (.long tag)])) _
              refine XS.lcmp X0.here hx rfl (hb hby at_196) rfl ?_
              show Steps p.tables e below (T0.setTop (mkF m 197 #[.val (.long off), .second, .val (.long tag), .second, .val (.long len), .second, s6, s7, .val (.long alt), .second, s10, .val (.int hd), .val (.int dp), .val (.int ci), .val (.int co), .val (.int kk), .val (.long o2), .second, .val (.int h2), .val (.int d2), .val (.int c2), .val (.long alt), .second, .val (.int b2), .val (.long l2), .second, .val (.int ex), s27, s28, s29] [(.int (lcmpW tag alt))])) _
              refine XS.ifNo X0.here hx rfl (hb hby at_197) rfl ((if0 _ _).trans (teq hc197).2) ?_
              show Steps p.tables e below (T0.setTop (mkF m 200 #[.val (.long off), .second, .val (.long tag), .second, .val (.long len), .second, s6, s7, .val (.long alt), .second, s10, .val (.int hd), .val (.int dp), .val (.int ci), .val (.int co), .val (.int kk), .val (.long o2), .second, .val (.int h2), .val (.int d2), .val (.int c2), .val (.long alt), .second, .val (.int b2), .val (.long l2), .second, .val (.int ex), s27, s28, s29] [])) _
              refine XS.iconst X0.here hx rfl (hb hby at_200) ?_
              show Steps p.tables e below (T0.setTop (mkF m 201 #[.val (.long off), .second, .val (.long tag), .second, .val (.long len), .second, s6, s7, .val (.long alt), .second, s10, .val (.int hd), .val (.int dp), .val (.int ci), .val (.int co), .val (.int kk), .val (.long o2), .second, .val (.int h2), .val (.int d2), .val (.int c2), .val (.long alt), .second, .val (.int b2), .val (.long l2), .second, .val (.int ex), s27, s28, s29] [(.int (1 : Int32))])) _
              refine XS.goto X0.here hx rfl (pc0 := 201) (pc' := 205) rfl (hb hby at_201) (by decide) (by decide) ?_
              show Steps p.tables e below (T0.setTop (mkF m 205 #[.val (.long off), .second, .val (.long tag), .second, .val (.long len), .second, s6, s7, .val (.long alt), .second, s10, .val (.int hd), .val (.int dp), .val (.int ci), .val (.int co), .val (.int kk), .val (.long o2), .second, .val (.int h2), .val (.int d2), .val (.int c2), .val (.long alt), .second, .val (.int b2), .val (.long l2), .second, .val (.int ex), s27, s28, s29] [(.int (1 : Int32))])) _
              refine XS.istore X0.here hx rfl (hb hby at_205) rfl (l' := #[.val (.long off), .second, .val (.long tag), .second, .val (.long len), .second, s6, s7, .val (.long alt), .second, s10, .val (.int hd), .val (.int dp), .val (.int ci), .val (.int co), .val (.int kk), .val (.long o2), .second, .val (.int h2), .val (.int d2), .val (.int c2), .val (.long alt), .second, .val (.int b2), .val (.long l2), .second, .val (.int (1 : Int32)), s27, s28, s29]) rfl ?_
              show Steps p.tables e below (T0.setTop (mkF m 207 #[.val (.long off), .second, .val (.long tag), .second, .val (.long len), .second, s6, s7, .val (.long alt), .second, s10, .val (.int hd), .val (.int dp), .val (.int ci), .val (.int co), .val (.int kk), .val (.long o2), .second, .val (.int h2), .val (.int d2), .val (.int c2), .val (.long alt), .second, .val (.int b2), .val (.long l2), .second, .val (.int (1 : Int32)), s27, s28, s29] [])) _
              refine XS.goto X0.here hx rfl (pc0 := 207) (pc' := 275) rfl (hb hby at_207) (by decide) (by decide) ?_
              show Steps p.tables e below (T0.setTop (mkF m 275 #[.val (.long off), .second, .val (.long tag), .second, .val (.long len), .second, s6, s7, .val (.long alt), .second, s10, .val (.int hd), .val (.int dp), .val (.int ci), .val (.int co), .val (.int kk), .val (.long o2), .second, .val (.int h2), .val (.int d2), .val (.int c2), .val (.long alt), .second, .val (.int b2), .val (.long l2), .second, .val (.int (1 : Int32)), s27, s28, s29] [])) _
              exact kt
            ·
              simp only [if_neg hc73] at hv0
              rw [hv0] at kt
              simp only [if_neg hc73, if_neg hc100] at hv1
              rw [hv1] at kt
              simp only [if_neg hc73, if_neg hc100, if_neg hc128] at hv2
              rw [hv2] at kt
              simp only [if_neg hc73, if_neg hc100, if_neg hc128, if_neg hc156] at hv3
              rw [hv3] at kt
              simp only [if_neg hc73, if_neg hc100, if_neg hc128, if_neg hc156, if_pos hc186] at hv4
              rw [hv4] at kt
              simp only [if_neg hc73, if_neg hc100, if_neg hc128, if_neg hc156, if_pos hc186] at hv5
              rw [hv5] at kt
              simp only [if_neg hc73, if_neg hc100, if_neg hc128, if_neg hc156, if_pos hc186] at hv6
              rw [hv6] at kt
              simp only [if_neg hc73, if_neg hc100, if_neg hc128, if_neg hc156, if_pos hc186, if_neg hc197] at hv7
              rw [hv7] at kt
              show Steps p.tables e below (T0.setTop (mkF m 71 #[.val (.long off), .second, .val (.long tag), .second, .val (.long len), .second, s6, s7, .val (.long alt), .second, s10, .val (.int hd), .val (.int dp), .val (.int ci), .val (.int co), .val (.int kk), .val (.long o2), .second, .val (.int h2), .val (.int d2), .val (.int c2), .val (.long t2), .second, .val (.int b2), .val (.long l2), .second, .val (.int ex), s27, s28, s29] [])) _
              refine XS.iload X0.here hx rfl (hb hby at_71) rfl ?_
              show Steps p.tables e below (T0.setTop (mkF m 73 #[.val (.long off), .second, .val (.long tag), .second, .val (.long len), .second, s6, s7, .val (.long alt), .second, s10, .val (.int hd), .val (.int dp), .val (.int ci), .val (.int co), .val (.int kk), .val (.long o2), .second, .val (.int h2), .val (.int d2), .val (.int c2), .val (.long t2), .second, .val (.int b2), .val (.long l2), .second, .val (.int ex), s27, s28, s29] [(.int kk)])) _
              refine XS.ifYes X0.here hx rfl (pc0 := 73) (pc' := 97) rfl (hb hby at_73) rfl ((if0 _ _).trans (feq hc73).2) (by decide) (by decide) ?_
              show Steps p.tables e below (T0.setTop (mkF m 97 #[.val (.long off), .second, .val (.long tag), .second, .val (.long len), .second, s6, s7, .val (.long alt), .second, s10, .val (.int hd), .val (.int dp), .val (.int ci), .val (.int co), .val (.int kk), .val (.long o2), .second, .val (.int h2), .val (.int d2), .val (.int c2), .val (.long t2), .second, .val (.int b2), .val (.long l2), .second, .val (.int ex), s27, s28, s29] [])) _
              refine XS.iload X0.here hx rfl (hb hby at_97) rfl ?_
              show Steps p.tables e below (T0.setTop (mkF m 99 #[.val (.long off), .second, .val (.long tag), .second, .val (.long len), .second, s6, s7, .val (.long alt), .second, s10, .val (.int hd), .val (.int dp), .val (.int ci), .val (.int co), .val (.int kk), .val (.long o2), .second, .val (.int h2), .val (.int d2), .val (.int c2), .val (.long t2), .second, .val (.int b2), .val (.long l2), .second, .val (.int ex), s27, s28, s29] [(.int kk)])) _
              refine XS.iconst X0.here hx rfl (hb hby at_99) ?_
              show Steps p.tables e below (T0.setTop (mkF m 100 #[.val (.long off), .second, .val (.long tag), .second, .val (.long len), .second, s6, s7, .val (.long alt), .second, s10, .val (.int hd), .val (.int dp), .val (.int ci), .val (.int co), .val (.int kk), .val (.long o2), .second, .val (.int h2), .val (.int d2), .val (.int c2), .val (.long t2), .second, .val (.int b2), .val (.long l2), .second, .val (.int ex), s27, s28, s29] [(.int (1 : Int32)), (.int kk)])) _
              refine XS.icmpYes X0.here hx rfl (pc0 := 100) (pc' := 125) rfl (hb hby at_100) rfl (feq hc100).2 (by decide) (by decide) ?_
              show Steps p.tables e below (T0.setTop (mkF m 125 #[.val (.long off), .second, .val (.long tag), .second, .val (.long len), .second, s6, s7, .val (.long alt), .second, s10, .val (.int hd), .val (.int dp), .val (.int ci), .val (.int co), .val (.int kk), .val (.long o2), .second, .val (.int h2), .val (.int d2), .val (.int c2), .val (.long t2), .second, .val (.int b2), .val (.long l2), .second, .val (.int ex), s27, s28, s29] [])) _
              refine XS.iload X0.here hx rfl (hb hby at_125) rfl ?_
              show Steps p.tables e below (T0.setTop (mkF m 127 #[.val (.long off), .second, .val (.long tag), .second, .val (.long len), .second, s6, s7, .val (.long alt), .second, s10, .val (.int hd), .val (.int dp), .val (.int ci), .val (.int co), .val (.int kk), .val (.long o2), .second, .val (.int h2), .val (.int d2), .val (.int c2), .val (.long t2), .second, .val (.int b2), .val (.long l2), .second, .val (.int ex), s27, s28, s29] [(.int kk)])) _
              refine XS.iconst X0.here hx rfl (hb hby at_127) ?_
              show Steps p.tables e below (T0.setTop (mkF m 128 #[.val (.long off), .second, .val (.long tag), .second, .val (.long len), .second, s6, s7, .val (.long alt), .second, s10, .val (.int hd), .val (.int dp), .val (.int ci), .val (.int co), .val (.int kk), .val (.long o2), .second, .val (.int h2), .val (.int d2), .val (.int c2), .val (.long t2), .second, .val (.int b2), .val (.long l2), .second, .val (.int ex), s27, s28, s29] [(.int (2 : Int32)), (.int kk)])) _
              refine XS.icmpYes X0.here hx rfl (pc0 := 128) (pc' := 153) rfl (hb hby at_128) rfl (feq hc128).2 (by decide) (by decide) ?_
              show Steps p.tables e below (T0.setTop (mkF m 153 #[.val (.long off), .second, .val (.long tag), .second, .val (.long len), .second, s6, s7, .val (.long alt), .second, s10, .val (.int hd), .val (.int dp), .val (.int ci), .val (.int co), .val (.int kk), .val (.long o2), .second, .val (.int h2), .val (.int d2), .val (.int c2), .val (.long t2), .second, .val (.int b2), .val (.long l2), .second, .val (.int ex), s27, s28, s29] [])) _
              refine XS.iload X0.here hx rfl (hb hby at_153) rfl ?_
              show Steps p.tables e below (T0.setTop (mkF m 155 #[.val (.long off), .second, .val (.long tag), .second, .val (.long len), .second, s6, s7, .val (.long alt), .second, s10, .val (.int hd), .val (.int dp), .val (.int ci), .val (.int co), .val (.int kk), .val (.long o2), .second, .val (.int h2), .val (.int d2), .val (.int c2), .val (.long t2), .second, .val (.int b2), .val (.long l2), .second, .val (.int ex), s27, s28, s29] [(.int kk)])) _
              refine XS.iconst X0.here hx rfl (hb hby at_155) ?_
              show Steps p.tables e below (T0.setTop (mkF m 156 #[.val (.long off), .second, .val (.long tag), .second, .val (.long len), .second, s6, s7, .val (.long alt), .second, s10, .val (.int hd), .val (.int dp), .val (.int ci), .val (.int co), .val (.int kk), .val (.long o2), .second, .val (.int h2), .val (.int d2), .val (.int c2), .val (.long t2), .second, .val (.int b2), .val (.long l2), .second, .val (.int ex), s27, s28, s29] [(.int (3 : Int32)), (.int kk)])) _
              refine XS.icmpYes X0.here hx rfl (pc0 := 156) (pc' := 183) rfl (hb hby at_156) rfl (feq hc156).2 (by decide) (by decide) ?_
              show Steps p.tables e below (T0.setTop (mkF m 183 #[.val (.long off), .second, .val (.long tag), .second, .val (.long len), .second, s6, s7, .val (.long alt), .second, s10, .val (.int hd), .val (.int dp), .val (.int ci), .val (.int co), .val (.int kk), .val (.long o2), .second, .val (.int h2), .val (.int d2), .val (.int c2), .val (.long t2), .second, .val (.int b2), .val (.long l2), .second, .val (.int ex), s27, s28, s29] [])) _
              refine XS.iload X0.here hx rfl (hb hby at_183) rfl ?_
              show Steps p.tables e below (T0.setTop (mkF m 185 #[.val (.long off), .second, .val (.long tag), .second, .val (.long len), .second, s6, s7, .val (.long alt), .second, s10, .val (.int hd), .val (.int dp), .val (.int ci), .val (.int co), .val (.int kk), .val (.long o2), .second, .val (.int h2), .val (.int d2), .val (.int c2), .val (.long t2), .second, .val (.int b2), .val (.long l2), .second, .val (.int ex), s27, s28, s29] [(.int kk)])) _
              refine XS.iconst X0.here hx rfl (hb hby at_185) ?_
              show Steps p.tables e below (T0.setTop (mkF m 186 #[.val (.long off), .second, .val (.long tag), .second, .val (.long len), .second, s6, s7, .val (.long alt), .second, s10, .val (.int hd), .val (.int dp), .val (.int ci), .val (.int co), .val (.int kk), .val (.long o2), .second, .val (.int h2), .val (.int d2), .val (.int c2), .val (.long t2), .second, .val (.int b2), .val (.long l2), .second, .val (.int ex), s27, s28, s29] [(.int (4 : Int32)), (.int kk)])) _
              refine XS.icmpNo X0.here hx rfl (hb hby at_186) rfl (teq hc186).2 ?_
              show Steps p.tables e below (T0.setTop (mkF m 189 #[.val (.long off), .second, .val (.long tag), .second, .val (.long len), .second, s6, s7, .val (.long alt), .second, s10, .val (.int hd), .val (.int dp), .val (.int ci), .val (.int co), .val (.int kk), .val (.long o2), .second, .val (.int h2), .val (.int d2), .val (.int c2), .val (.long t2), .second, .val (.int b2), .val (.long l2), .second, .val (.int ex), s27, s28, s29] [])) _
              refine XS.lload X0.here hx rfl (hb hby at_189) rfl ?_
              show Steps p.tables e below (T0.setTop (mkF m 191 #[.val (.long off), .second, .val (.long tag), .second, .val (.long len), .second, s6, s7, .val (.long alt), .second, s10, .val (.int hd), .val (.int dp), .val (.int ci), .val (.int co), .val (.int kk), .val (.long o2), .second, .val (.int h2), .val (.int d2), .val (.int c2), .val (.long t2), .second, .val (.int b2), .val (.long l2), .second, .val (.int ex), s27, s28, s29] [(.long alt)])) _
              refine XS.lstore X0.here hx rfl (hb hby at_191) rfl (l' := #[.val (.long off), .second, .val (.long tag), .second, .val (.long len), .second, s6, s7, .val (.long alt), .second, s10, .val (.int hd), .val (.int dp), .val (.int ci), .val (.int co), .val (.int kk), .val (.long o2), .second, .val (.int h2), .val (.int d2), .val (.int c2), .val (.long alt), .second, .val (.int b2), .val (.long l2), .second, .val (.int ex), s27, s28, s29]) rfl ?_
              show Steps p.tables e below (T0.setTop (mkF m 193 #[.val (.long off), .second, .val (.long tag), .second, .val (.long len), .second, s6, s7, .val (.long alt), .second, s10, .val (.int hd), .val (.int dp), .val (.int ci), .val (.int co), .val (.int kk), .val (.long o2), .second, .val (.int h2), .val (.int d2), .val (.int c2), .val (.long alt), .second, .val (.int b2), .val (.long l2), .second, .val (.int ex), s27, s28, s29] [])) _
              refine XS.lloadN X0.here hx rfl (hb hby at_193) rfl ?_
              show Steps p.tables e below (T0.setTop (mkF m 194 #[.val (.long off), .second, .val (.long tag), .second, .val (.long len), .second, s6, s7, .val (.long alt), .second, s10, .val (.int hd), .val (.int dp), .val (.int ci), .val (.int co), .val (.int kk), .val (.long o2), .second, .val (.int h2), .val (.int d2), .val (.int c2), .val (.long alt), .second, .val (.int b2), .val (.long l2), .second, .val (.int ex), s27, s28, s29] [(.long tag)])) _
              refine XS.lload X0.here hx rfl (hb hby at_194) rfl ?_
              show Steps p.tables e below (T0.setTop (mkF m 196 #[.val (.long off), .second, .val (.long tag), .second, .val (.long len), .second, s6, s7, .val (.long alt), .second, s10, .val (.int hd), .val (.int dp), .val (.int ci), .val (.int co), .val (.int kk), .val (.long o2), .second, .val (.int h2), .val (.int d2), .val (.int c2), .val (.long alt), .second, .val (.int b2), .val (.long l2), .second, .val (.int ex), s27, s28, s29] [(.long alt), (.long tag)])) _
              refine XS.lcmp X0.here hx rfl (hb hby at_196) rfl ?_
              show Steps p.tables e below (T0.setTop (mkF m 197 #[.val (.long off), .second, .val (.long tag), .second, .val (.long len), .second, s6, s7, .val (.long alt), .second, s10, .val (.int hd), .val (.int dp), .val (.int ci), .val (.int co), .val (.int kk), .val (.long o2), .second, .val (.int h2), .val (.int d2), .val (.int c2), .val (.long alt), .second, .val (.int b2), .val (.long l2), .second, .val (.int ex), s27, s28, s29] [(.int (lcmpW tag alt))])) _
              refine XS.ifYes X0.here hx rfl (pc0 := 197) (pc' := 204) rfl (hb hby at_197) rfl ((if0 _ _).trans (feq hc197).2) (by decide) (by decide) ?_
              show Steps p.tables e below (T0.setTop (mkF m 204 #[.val (.long off), .second, .val (.long tag), .second, .val (.long len), .second, s6, s7, .val (.long alt), .second, s10, .val (.int hd), .val (.int dp), .val (.int ci), .val (.int co), .val (.int kk), .val (.long o2), .second, .val (.int h2), .val (.int d2), .val (.int c2), .val (.long alt), .second, .val (.int b2), .val (.long l2), .second, .val (.int ex), s27, s28, s29] [])) _
              refine XS.iconst X0.here hx rfl (hb hby at_204) ?_
              show Steps p.tables e below (T0.setTop (mkF m 205 #[.val (.long off), .second, .val (.long tag), .second, .val (.long len), .second, s6, s7, .val (.long alt), .second, s10, .val (.int hd), .val (.int dp), .val (.int ci), .val (.int co), .val (.int kk), .val (.long o2), .second, .val (.int h2), .val (.int d2), .val (.int c2), .val (.long alt), .second, .val (.int b2), .val (.long l2), .second, .val (.int ex), s27, s28, s29] [(.int (0 : Int32))])) _
              refine XS.istore X0.here hx rfl (hb hby at_205) rfl (l' := #[.val (.long off), .second, .val (.long tag), .second, .val (.long len), .second, s6, s7, .val (.long alt), .second, s10, .val (.int hd), .val (.int dp), .val (.int ci), .val (.int co), .val (.int kk), .val (.long o2), .second, .val (.int h2), .val (.int d2), .val (.int c2), .val (.long alt), .second, .val (.int b2), .val (.long l2), .second, .val (.int (0 : Int32)), s27, s28, s29]) rfl ?_
              show Steps p.tables e below (T0.setTop (mkF m 207 #[.val (.long off), .second, .val (.long tag), .second, .val (.long len), .second, s6, s7, .val (.long alt), .second, s10, .val (.int hd), .val (.int dp), .val (.int ci), .val (.int co), .val (.int kk), .val (.long o2), .second, .val (.int h2), .val (.int d2), .val (.int c2), .val (.long alt), .second, .val (.int b2), .val (.long l2), .second, .val (.int (0 : Int32)), s27, s28, s29] [])) _
              refine XS.goto X0.here hx rfl (pc0 := 207) (pc' := 275) rfl (hb hby at_207) (by decide) (by decide) ?_
              show Steps p.tables e below (T0.setTop (mkF m 275 #[.val (.long off), .second, .val (.long tag), .second, .val (.long len), .second, s6, s7, .val (.long alt), .second, s10, .val (.int hd), .val (.int dp), .val (.int ci), .val (.int co), .val (.int kk), .val (.long o2), .second, .val (.int h2), .val (.int d2), .val (.int c2), .val (.long alt), .second, .val (.int b2), .val (.long l2), .second, .val (.int (0 : Int32)), s27, s28, s29] [])) _
              exact kt
          ·
            by_cases hc213 : kk = (5 : Int32)
            ·
              by_cases hc222 : (lcmpW (alt &&& (1 : Int64)) (0 : Int64)) = (0 : Int32)
              ·
                by_cases hc236 : co = (0 : Int32)
                ·
                  simp only [if_neg hc73] at hv0
                  rw [hv0] at kt
                  simp only [if_neg hc73, if_neg hc100] at hv1
                  rw [hv1] at kt
                  simp only [if_neg hc73, if_neg hc100, if_neg hc128] at hv2
                  rw [hv2] at kt
                  simp only [if_neg hc73, if_neg hc100, if_neg hc128, if_neg hc156] at hv3
                  rw [hv3] at kt
                  simp only [if_neg hc73, if_neg hc100, if_neg hc128, if_neg hc156, if_neg hc186] at hv4
                  rw [hv4] at kt
                  simp only [if_neg hc73, if_neg hc100, if_neg hc128, if_neg hc156, if_neg hc186, if_pos hc213, if_pos hc222] at hv5
                  rw [hv5] at kt
                  simp only [if_neg hc73, if_neg hc100, if_neg hc128, if_neg hc156, if_neg hc186, if_pos hc213] at hv6
                  rw [hv6] at kt
                  simp only [if_neg hc73, if_neg hc100, if_neg hc128, if_neg hc156, if_neg hc186, if_pos hc213, if_pos hc222, if_pos hc236] at hv7
                  rw [hv7] at kt
                  show Steps p.tables e below (T0.setTop (mkF m 71 #[.val (.long off), .second, .val (.long tag), .second, .val (.long len), .second, s6, s7, .val (.long alt), .second, s10, .val (.int hd), .val (.int dp), .val (.int ci), .val (.int co), .val (.int kk), .val (.long o2), .second, .val (.int h2), .val (.int d2), .val (.int c2), .val (.long t2), .second, .val (.int b2), .val (.long l2), .second, .val (.int ex), s27, s28, s29] [])) _
                  refine XS.iload X0.here hx rfl (hb hby at_71) rfl ?_
                  show Steps p.tables e below (T0.setTop (mkF m 73 #[.val (.long off), .second, .val (.long tag), .second, .val (.long len), .second, s6, s7, .val (.long alt), .second, s10, .val (.int hd), .val (.int dp), .val (.int ci), .val (.int co), .val (.int kk), .val (.long o2), .second, .val (.int h2), .val (.int d2), .val (.int c2), .val (.long t2), .second, .val (.int b2), .val (.long l2), .second, .val (.int ex), s27, s28, s29] [(.int kk)])) _
                  refine XS.ifYes X0.here hx rfl (pc0 := 73) (pc' := 97) rfl (hb hby at_73) rfl ((if0 _ _).trans (feq hc73).2) (by decide) (by decide) ?_
                  show Steps p.tables e below (T0.setTop (mkF m 97 #[.val (.long off), .second, .val (.long tag), .second, .val (.long len), .second, s6, s7, .val (.long alt), .second, s10, .val (.int hd), .val (.int dp), .val (.int ci), .val (.int co), .val (.int kk), .val (.long o2), .second, .val (.int h2), .val (.int d2), .val (.int c2), .val (.long t2), .second, .val (.int b2), .val (.long l2), .second, .val (.int ex), s27, s28, s29] [])) _
                  refine XS.iload X0.here hx rfl (hb hby at_97) rfl ?_
                  show Steps p.tables e below (T0.setTop (mkF m 99 #[.val (.long off), .second, .val (.long tag), .second, .val (.long len), .second, s6, s7, .val (.long alt), .second, s10, .val (.int hd), .val (.int dp), .val (.int ci), .val (.int co), .val (.int kk), .val (.long o2), .second, .val (.int h2), .val (.int d2), .val (.int c2), .val (.long t2), .second, .val (.int b2), .val (.long l2), .second, .val (.int ex), s27, s28, s29] [(.int kk)])) _
                  refine XS.iconst X0.here hx rfl (hb hby at_99) ?_
                  show Steps p.tables e below (T0.setTop (mkF m 100 #[.val (.long off), .second, .val (.long tag), .second, .val (.long len), .second, s6, s7, .val (.long alt), .second, s10, .val (.int hd), .val (.int dp), .val (.int ci), .val (.int co), .val (.int kk), .val (.long o2), .second, .val (.int h2), .val (.int d2), .val (.int c2), .val (.long t2), .second, .val (.int b2), .val (.long l2), .second, .val (.int ex), s27, s28, s29] [(.int (1 : Int32)), (.int kk)])) _
                  refine XS.icmpYes X0.here hx rfl (pc0 := 100) (pc' := 125) rfl (hb hby at_100) rfl (feq hc100).2 (by decide) (by decide) ?_
                  show Steps p.tables e below (T0.setTop (mkF m 125 #[.val (.long off), .second, .val (.long tag), .second, .val (.long len), .second, s6, s7, .val (.long alt), .second, s10, .val (.int hd), .val (.int dp), .val (.int ci), .val (.int co), .val (.int kk), .val (.long o2), .second, .val (.int h2), .val (.int d2), .val (.int c2), .val (.long t2), .second, .val (.int b2), .val (.long l2), .second, .val (.int ex), s27, s28, s29] [])) _
                  refine XS.iload X0.here hx rfl (hb hby at_125) rfl ?_
                  show Steps p.tables e below (T0.setTop (mkF m 127 #[.val (.long off), .second, .val (.long tag), .second, .val (.long len), .second, s6, s7, .val (.long alt), .second, s10, .val (.int hd), .val (.int dp), .val (.int ci), .val (.int co), .val (.int kk), .val (.long o2), .second, .val (.int h2), .val (.int d2), .val (.int c2), .val (.long t2), .second, .val (.int b2), .val (.long l2), .second, .val (.int ex), s27, s28, s29] [(.int kk)])) _
                  refine XS.iconst X0.here hx rfl (hb hby at_127) ?_
                  show Steps p.tables e below (T0.setTop (mkF m 128 #[.val (.long off), .second, .val (.long tag), .second, .val (.long len), .second, s6, s7, .val (.long alt), .second, s10, .val (.int hd), .val (.int dp), .val (.int ci), .val (.int co), .val (.int kk), .val (.long o2), .second, .val (.int h2), .val (.int d2), .val (.int c2), .val (.long t2), .second, .val (.int b2), .val (.long l2), .second, .val (.int ex), s27, s28, s29] [(.int (2 : Int32)), (.int kk)])) _
                  refine XS.icmpYes X0.here hx rfl (pc0 := 128) (pc' := 153) rfl (hb hby at_128) rfl (feq hc128).2 (by decide) (by decide) ?_
                  show Steps p.tables e below (T0.setTop (mkF m 153 #[.val (.long off), .second, .val (.long tag), .second, .val (.long len), .second, s6, s7, .val (.long alt), .second, s10, .val (.int hd), .val (.int dp), .val (.int ci), .val (.int co), .val (.int kk), .val (.long o2), .second, .val (.int h2), .val (.int d2), .val (.int c2), .val (.long t2), .second, .val (.int b2), .val (.long l2), .second, .val (.int ex), s27, s28, s29] [])) _
                  refine XS.iload X0.here hx rfl (hb hby at_153) rfl ?_
                  show Steps p.tables e below (T0.setTop (mkF m 155 #[.val (.long off), .second, .val (.long tag), .second, .val (.long len), .second, s6, s7, .val (.long alt), .second, s10, .val (.int hd), .val (.int dp), .val (.int ci), .val (.int co), .val (.int kk), .val (.long o2), .second, .val (.int h2), .val (.int d2), .val (.int c2), .val (.long t2), .second, .val (.int b2), .val (.long l2), .second, .val (.int ex), s27, s28, s29] [(.int kk)])) _
                  refine XS.iconst X0.here hx rfl (hb hby at_155) ?_
                  show Steps p.tables e below (T0.setTop (mkF m 156 #[.val (.long off), .second, .val (.long tag), .second, .val (.long len), .second, s6, s7, .val (.long alt), .second, s10, .val (.int hd), .val (.int dp), .val (.int ci), .val (.int co), .val (.int kk), .val (.long o2), .second, .val (.int h2), .val (.int d2), .val (.int c2), .val (.long t2), .second, .val (.int b2), .val (.long l2), .second, .val (.int ex), s27, s28, s29] [(.int (3 : Int32)), (.int kk)])) _
                  refine XS.icmpYes X0.here hx rfl (pc0 := 156) (pc' := 183) rfl (hb hby at_156) rfl (feq hc156).2 (by decide) (by decide) ?_
                  show Steps p.tables e below (T0.setTop (mkF m 183 #[.val (.long off), .second, .val (.long tag), .second, .val (.long len), .second, s6, s7, .val (.long alt), .second, s10, .val (.int hd), .val (.int dp), .val (.int ci), .val (.int co), .val (.int kk), .val (.long o2), .second, .val (.int h2), .val (.int d2), .val (.int c2), .val (.long t2), .second, .val (.int b2), .val (.long l2), .second, .val (.int ex), s27, s28, s29] [])) _
                  refine XS.iload X0.here hx rfl (hb hby at_183) rfl ?_
                  show Steps p.tables e below (T0.setTop (mkF m 185 #[.val (.long off), .second, .val (.long tag), .second, .val (.long len), .second, s6, s7, .val (.long alt), .second, s10, .val (.int hd), .val (.int dp), .val (.int ci), .val (.int co), .val (.int kk), .val (.long o2), .second, .val (.int h2), .val (.int d2), .val (.int c2), .val (.long t2), .second, .val (.int b2), .val (.long l2), .second, .val (.int ex), s27, s28, s29] [(.int kk)])) _
                  refine XS.iconst X0.here hx rfl (hb hby at_185) ?_
                  show Steps p.tables e below (T0.setTop (mkF m 186 #[.val (.long off), .second, .val (.long tag), .second, .val (.long len), .second, s6, s7, .val (.long alt), .second, s10, .val (.int hd), .val (.int dp), .val (.int ci), .val (.int co), .val (.int kk), .val (.long o2), .second, .val (.int h2), .val (.int d2), .val (.int c2), .val (.long t2), .second, .val (.int b2), .val (.long l2), .second, .val (.int ex), s27, s28, s29] [(.int (4 : Int32)), (.int kk)])) _
                  refine XS.icmpYes X0.here hx rfl (pc0 := 186) (pc' := 210) rfl (hb hby at_186) rfl (feq hc186).2 (by decide) (by decide) ?_
                  show Steps p.tables e below (T0.setTop (mkF m 210 #[.val (.long off), .second, .val (.long tag), .second, .val (.long len), .second, s6, s7, .val (.long alt), .second, s10, .val (.int hd), .val (.int dp), .val (.int ci), .val (.int co), .val (.int kk), .val (.long o2), .second, .val (.int h2), .val (.int d2), .val (.int c2), .val (.long t2), .second, .val (.int b2), .val (.long l2), .second, .val (.int ex), s27, s28, s29] [])) _
                  refine XS.iload X0.here hx rfl (hb hby at_210) rfl ?_
                  show Steps p.tables e below (T0.setTop (mkF m 212 #[.val (.long off), .second, .val (.long tag), .second, .val (.long len), .second, s6, s7, .val (.long alt), .second, s10, .val (.int hd), .val (.int dp), .val (.int ci), .val (.int co), .val (.int kk), .val (.long o2), .second, .val (.int h2), .val (.int d2), .val (.int c2), .val (.long t2), .second, .val (.int b2), .val (.long l2), .second, .val (.int ex), s27, s28, s29] [(.int kk)])) _
                  refine XS.iconst X0.here hx rfl (hb hby at_212) ?_
                  show Steps p.tables e below (T0.setTop (mkF m 213 #[.val (.long off), .second, .val (.long tag), .second, .val (.long len), .second, s6, s7, .val (.long alt), .second, s10, .val (.int hd), .val (.int dp), .val (.int ci), .val (.int co), .val (.int kk), .val (.long o2), .second, .val (.int h2), .val (.int d2), .val (.int c2), .val (.long t2), .second, .val (.int b2), .val (.long l2), .second, .val (.int ex), s27, s28, s29] [(.int (5 : Int32)), (.int kk)])) _
                  refine XS.icmpNo X0.here hx rfl (hb hby at_213) rfl (teq hc213).2 ?_
                  show Steps p.tables e below (T0.setTop (mkF m 216 #[.val (.long off), .second, .val (.long tag), .second, .val (.long len), .second, s6, s7, .val (.long alt), .second, s10, .val (.int hd), .val (.int dp), .val (.int ci), .val (.int co), .val (.int kk), .val (.long o2), .second, .val (.int h2), .val (.int d2), .val (.int c2), .val (.long t2), .second, .val (.int b2), .val (.long l2), .second, .val (.int ex), s27, s28, s29] [])) _
                  refine XS.lload X0.here hx rfl (hb hby at_216) rfl ?_
                  show Steps p.tables e below (T0.setTop (mkF m 218 #[.val (.long off), .second, .val (.long tag), .second, .val (.long len), .second, s6, s7, .val (.long alt), .second, s10, .val (.int hd), .val (.int dp), .val (.int ci), .val (.int co), .val (.int kk), .val (.long o2), .second, .val (.int h2), .val (.int d2), .val (.int c2), .val (.long t2), .second, .val (.int b2), .val (.long l2), .second, .val (.int ex), s27, s28, s29] [(.long alt)])) _
                  refine XS.lconst X0.here hx rfl (hb hby at_218) ?_
                  show Steps p.tables e below (T0.setTop (mkF m 219 #[.val (.long off), .second, .val (.long tag), .second, .val (.long len), .second, s6, s7, .val (.long alt), .second, s10, .val (.int hd), .val (.int dp), .val (.int ci), .val (.int co), .val (.int kk), .val (.long o2), .second, .val (.int h2), .val (.int d2), .val (.int c2), .val (.long t2), .second, .val (.int b2), .val (.long l2), .second, .val (.int ex), s27, s28, s29] [(.long (1 : Int64)), (.long alt)])) _
                  refine XS.land X0.here hx rfl (hb hby at_219) rfl ?_
                  show Steps p.tables e below (T0.setTop (mkF m 220 #[.val (.long off), .second, .val (.long tag), .second, .val (.long len), .second, s6, s7, .val (.long alt), .second, s10, .val (.int hd), .val (.int dp), .val (.int ci), .val (.int co), .val (.int kk), .val (.long o2), .second, .val (.int h2), .val (.int d2), .val (.int c2), .val (.long t2), .second, .val (.int b2), .val (.long l2), .second, .val (.int ex), s27, s28, s29] [(.long (alt &&& (1 : Int64)))])) _
                  refine XS.lconst X0.here hx rfl (hb hby at_220) ?_
                  show Steps p.tables e below (T0.setTop (mkF m 221 #[.val (.long off), .second, .val (.long tag), .second, .val (.long len), .second, s6, s7, .val (.long alt), .second, s10, .val (.int hd), .val (.int dp), .val (.int ci), .val (.int co), .val (.int kk), .val (.long o2), .second, .val (.int h2), .val (.int d2), .val (.int c2), .val (.long t2), .second, .val (.int b2), .val (.long l2), .second, .val (.int ex), s27, s28, s29] [(.long (0 : Int64)), (.long (alt &&& (1 : Int64)))])) _
                  refine XS.lcmp X0.here hx rfl (hb hby at_221) rfl ?_
                  show Steps p.tables e below (T0.setTop (mkF m 222 #[.val (.long off), .second, .val (.long tag), .second, .val (.long len), .second, s6, s7, .val (.long alt), .second, s10, .val (.int hd), .val (.int dp), .val (.int ci), .val (.int co), .val (.int kk), .val (.long o2), .second, .val (.int h2), .val (.int d2), .val (.int c2), .val (.long t2), .second, .val (.int b2), .val (.long l2), .second, .val (.int ex), s27, s28, s29] [(.int (lcmpW (alt &&& (1 : Int64)) (0 : Int64)))])) _
                  refine XS.ifYes X0.here hx rfl (pc0 := 222) (pc' := 229) rfl (hb hby at_222) rfl ((if0 _ _).trans (teq hc222).1) (by decide) (by decide) ?_
                  show Steps p.tables e below (T0.setTop (mkF m 229 #[.val (.long off), .second, .val (.long tag), .second, .val (.long len), .second, s6, s7, .val (.long alt), .second, s10, .val (.int hd), .val (.int dp), .val (.int ci), .val (.int co), .val (.int kk), .val (.long o2), .second, .val (.int h2), .val (.int d2), .val (.int c2), .val (.long t2), .second, .val (.int b2), .val (.long l2), .second, .val (.int ex), s27, s28, s29] [])) _
                  refine XS.iconst X0.here hx rfl (hb hby at_229) ?_
                  show Steps p.tables e below (T0.setTop (mkF m 230 #[.val (.long off), .second, .val (.long tag), .second, .val (.long len), .second, s6, s7, .val (.long alt), .second, s10, .val (.int hd), .val (.int dp), .val (.int ci), .val (.int co), .val (.int kk), .val (.long o2), .second, .val (.int h2), .val (.int d2), .val (.int c2), .val (.long t2), .second, .val (.int b2), .val (.long l2), .second, .val (.int ex), s27, s28, s29] [(.int (0 : Int32))])) _
                  refine XS.istore X0.here hx rfl (hb hby at_230) rfl (l' := #[.val (.long off), .second, .val (.long tag), .second, .val (.long len), .second, s6, s7, .val (.long alt), .second, s10, .val (.int hd), .val (.int dp), .val (.int ci), .val (.int co), .val (.int kk), .val (.long o2), .second, .val (.int h2), .val (.int d2), .val (.int c2), .val (.long t2), .second, .val (.int (0 : Int32)), .val (.long l2), .second, .val (.int ex), s27, s28, s29]) rfl ?_
                  show Steps p.tables e below (T0.setTop (mkF m 232 #[.val (.long off), .second, .val (.long tag), .second, .val (.long len), .second, s6, s7, .val (.long alt), .second, s10, .val (.int hd), .val (.int dp), .val (.int ci), .val (.int co), .val (.int kk), .val (.long o2), .second, .val (.int h2), .val (.int d2), .val (.int c2), .val (.long t2), .second, .val (.int (0 : Int32)), .val (.long l2), .second, .val (.int ex), s27, s28, s29] [])) _
                  refine XS.iload X0.here hx rfl (hb hby at_232) rfl ?_
                  show Steps p.tables e below (T0.setTop (mkF m 234 #[.val (.long off), .second, .val (.long tag), .second, .val (.long len), .second, s6, s7, .val (.long alt), .second, s10, .val (.int hd), .val (.int dp), .val (.int ci), .val (.int co), .val (.int kk), .val (.long o2), .second, .val (.int h2), .val (.int d2), .val (.int c2), .val (.long t2), .second, .val (.int (0 : Int32)), .val (.long l2), .second, .val (.int ex), s27, s28, s29] [(.int co)])) _
                  refine XS.iload X0.here hx rfl (hb hby at_234) rfl ?_
                  show Steps p.tables e below (T0.setTop (mkF m 236 #[.val (.long off), .second, .val (.long tag), .second, .val (.long len), .second, s6, s7, .val (.long alt), .second, s10, .val (.int hd), .val (.int dp), .val (.int ci), .val (.int co), .val (.int kk), .val (.long o2), .second, .val (.int h2), .val (.int d2), .val (.int c2), .val (.long t2), .second, .val (.int (0 : Int32)), .val (.long l2), .second, .val (.int ex), s27, s28, s29] [(.int (0 : Int32)), (.int co)])) _
                  refine XS.icmpNo X0.here hx rfl (hb hby at_236) rfl (teq hc236).2 ?_
                  show Steps p.tables e below (T0.setTop (mkF m 239 #[.val (.long off), .second, .val (.long tag), .second, .val (.long len), .second, s6, s7, .val (.long alt), .second, s10, .val (.int hd), .val (.int dp), .val (.int ci), .val (.int co), .val (.int kk), .val (.long o2), .second, .val (.int h2), .val (.int d2), .val (.int c2), .val (.long t2), .second, .val (.int (0 : Int32)), .val (.long l2), .second, .val (.int ex), s27, s28, s29] [])) _
                  refine XS.iconst X0.here hx rfl (hb hby at_239) ?_
                  show Steps p.tables e below (T0.setTop (mkF m 240 #[.val (.long off), .second, .val (.long tag), .second, .val (.long len), .second, s6, s7, .val (.long alt), .second, s10, .val (.int hd), .val (.int dp), .val (.int ci), .val (.int co), .val (.int kk), .val (.long o2), .second, .val (.int h2), .val (.int d2), .val (.int c2), .val (.long t2), .second, .val (.int (0 : Int32)), .val (.long l2), .second, .val (.int ex), s27, s28, s29] [(.int (1 : Int32))])) _
                  refine XS.goto X0.here hx rfl (pc0 := 240) (pc' := 244) rfl (hb hby at_240) (by decide) (by decide) ?_
                  show Steps p.tables e below (T0.setTop (mkF m 244 #[.val (.long off), .second, .val (.long tag), .second, .val (.long len), .second, s6, s7, .val (.long alt), .second, s10, .val (.int hd), .val (.int dp), .val (.int ci), .val (.int co), .val (.int kk), .val (.long o2), .second, .val (.int h2), .val (.int d2), .val (.int c2), .val (.long t2), .second, .val (.int (0 : Int32)), .val (.long l2), .second, .val (.int ex), s27, s28, s29] [(.int (1 : Int32))])) _
                  refine XS.istore X0.here hx rfl (hb hby at_244) rfl (l' := #[.val (.long off), .second, .val (.long tag), .second, .val (.long len), .second, s6, s7, .val (.long alt), .second, s10, .val (.int hd), .val (.int dp), .val (.int ci), .val (.int co), .val (.int kk), .val (.long o2), .second, .val (.int h2), .val (.int d2), .val (.int c2), .val (.long t2), .second, .val (.int (0 : Int32)), .val (.long l2), .second, .val (.int (1 : Int32)), s27, s28, s29]) rfl ?_
                  show Steps p.tables e below (T0.setTop (mkF m 246 #[.val (.long off), .second, .val (.long tag), .second, .val (.long len), .second, s6, s7, .val (.long alt), .second, s10, .val (.int hd), .val (.int dp), .val (.int ci), .val (.int co), .val (.int kk), .val (.long o2), .second, .val (.int h2), .val (.int d2), .val (.int c2), .val (.long t2), .second, .val (.int (0 : Int32)), .val (.long l2), .second, .val (.int (1 : Int32)), s27, s28, s29] [])) _
                  refine XS.goto X0.here hx rfl (pc0 := 246) (pc' := 275) rfl (hb hby at_246) (by decide) (by decide) ?_
                  show Steps p.tables e below (T0.setTop (mkF m 275 #[.val (.long off), .second, .val (.long tag), .second, .val (.long len), .second, s6, s7, .val (.long alt), .second, s10, .val (.int hd), .val (.int dp), .val (.int ci), .val (.int co), .val (.int kk), .val (.long o2), .second, .val (.int h2), .val (.int d2), .val (.int c2), .val (.long t2), .second, .val (.int (0 : Int32)), .val (.long l2), .second, .val (.int (1 : Int32)), s27, s28, s29] [])) _
                  exact kt
                ·
                  simp only [if_neg hc73] at hv0
                  rw [hv0] at kt
                  simp only [if_neg hc73, if_neg hc100] at hv1
                  rw [hv1] at kt
                  simp only [if_neg hc73, if_neg hc100, if_neg hc128] at hv2
                  rw [hv2] at kt
                  simp only [if_neg hc73, if_neg hc100, if_neg hc128, if_neg hc156] at hv3
                  rw [hv3] at kt
                  simp only [if_neg hc73, if_neg hc100, if_neg hc128, if_neg hc156, if_neg hc186] at hv4
                  rw [hv4] at kt
                  simp only [if_neg hc73, if_neg hc100, if_neg hc128, if_neg hc156, if_neg hc186, if_pos hc213, if_pos hc222] at hv5
                  rw [hv5] at kt
                  simp only [if_neg hc73, if_neg hc100, if_neg hc128, if_neg hc156, if_neg hc186, if_pos hc213] at hv6
                  rw [hv6] at kt
                  simp only [if_neg hc73, if_neg hc100, if_neg hc128, if_neg hc156, if_neg hc186, if_pos hc213, if_pos hc222, if_neg hc236] at hv7
                  rw [hv7] at kt
                  show Steps p.tables e below (T0.setTop (mkF m 71 #[.val (.long off), .second, .val (.long tag), .second, .val (.long len), .second, s6, s7, .val (.long alt), .second, s10, .val (.int hd), .val (.int dp), .val (.int ci), .val (.int co), .val (.int kk), .val (.long o2), .second, .val (.int h2), .val (.int d2), .val (.int c2), .val (.long t2), .second, .val (.int b2), .val (.long l2), .second, .val (.int ex), s27, s28, s29] [])) _
                  refine XS.iload X0.here hx rfl (hb hby at_71) rfl ?_
                  show Steps p.tables e below (T0.setTop (mkF m 73 #[.val (.long off), .second, .val (.long tag), .second, .val (.long len), .second, s6, s7, .val (.long alt), .second, s10, .val (.int hd), .val (.int dp), .val (.int ci), .val (.int co), .val (.int kk), .val (.long o2), .second, .val (.int h2), .val (.int d2), .val (.int c2), .val (.long t2), .second, .val (.int b2), .val (.long l2), .second, .val (.int ex), s27, s28, s29] [(.int kk)])) _
                  refine XS.ifYes X0.here hx rfl (pc0 := 73) (pc' := 97) rfl (hb hby at_73) rfl ((if0 _ _).trans (feq hc73).2) (by decide) (by decide) ?_
                  show Steps p.tables e below (T0.setTop (mkF m 97 #[.val (.long off), .second, .val (.long tag), .second, .val (.long len), .second, s6, s7, .val (.long alt), .second, s10, .val (.int hd), .val (.int dp), .val (.int ci), .val (.int co), .val (.int kk), .val (.long o2), .second, .val (.int h2), .val (.int d2), .val (.int c2), .val (.long t2), .second, .val (.int b2), .val (.long l2), .second, .val (.int ex), s27, s28, s29] [])) _
                  refine XS.iload X0.here hx rfl (hb hby at_97) rfl ?_
                  show Steps p.tables e below (T0.setTop (mkF m 99 #[.val (.long off), .second, .val (.long tag), .second, .val (.long len), .second, s6, s7, .val (.long alt), .second, s10, .val (.int hd), .val (.int dp), .val (.int ci), .val (.int co), .val (.int kk), .val (.long o2), .second, .val (.int h2), .val (.int d2), .val (.int c2), .val (.long t2), .second, .val (.int b2), .val (.long l2), .second, .val (.int ex), s27, s28, s29] [(.int kk)])) _
                  refine XS.iconst X0.here hx rfl (hb hby at_99) ?_
                  show Steps p.tables e below (T0.setTop (mkF m 100 #[.val (.long off), .second, .val (.long tag), .second, .val (.long len), .second, s6, s7, .val (.long alt), .second, s10, .val (.int hd), .val (.int dp), .val (.int ci), .val (.int co), .val (.int kk), .val (.long o2), .second, .val (.int h2), .val (.int d2), .val (.int c2), .val (.long t2), .second, .val (.int b2), .val (.long l2), .second, .val (.int ex), s27, s28, s29] [(.int (1 : Int32)), (.int kk)])) _
                  refine XS.icmpYes X0.here hx rfl (pc0 := 100) (pc' := 125) rfl (hb hby at_100) rfl (feq hc100).2 (by decide) (by decide) ?_
                  show Steps p.tables e below (T0.setTop (mkF m 125 #[.val (.long off), .second, .val (.long tag), .second, .val (.long len), .second, s6, s7, .val (.long alt), .second, s10, .val (.int hd), .val (.int dp), .val (.int ci), .val (.int co), .val (.int kk), .val (.long o2), .second, .val (.int h2), .val (.int d2), .val (.int c2), .val (.long t2), .second, .val (.int b2), .val (.long l2), .second, .val (.int ex), s27, s28, s29] [])) _
                  refine XS.iload X0.here hx rfl (hb hby at_125) rfl ?_
                  show Steps p.tables e below (T0.setTop (mkF m 127 #[.val (.long off), .second, .val (.long tag), .second, .val (.long len), .second, s6, s7, .val (.long alt), .second, s10, .val (.int hd), .val (.int dp), .val (.int ci), .val (.int co), .val (.int kk), .val (.long o2), .second, .val (.int h2), .val (.int d2), .val (.int c2), .val (.long t2), .second, .val (.int b2), .val (.long l2), .second, .val (.int ex), s27, s28, s29] [(.int kk)])) _
                  refine XS.iconst X0.here hx rfl (hb hby at_127) ?_
                  show Steps p.tables e below (T0.setTop (mkF m 128 #[.val (.long off), .second, .val (.long tag), .second, .val (.long len), .second, s6, s7, .val (.long alt), .second, s10, .val (.int hd), .val (.int dp), .val (.int ci), .val (.int co), .val (.int kk), .val (.long o2), .second, .val (.int h2), .val (.int d2), .val (.int c2), .val (.long t2), .second, .val (.int b2), .val (.long l2), .second, .val (.int ex), s27, s28, s29] [(.int (2 : Int32)), (.int kk)])) _
                  refine XS.icmpYes X0.here hx rfl (pc0 := 128) (pc' := 153) rfl (hb hby at_128) rfl (feq hc128).2 (by decide) (by decide) ?_
                  show Steps p.tables e below (T0.setTop (mkF m 153 #[.val (.long off), .second, .val (.long tag), .second, .val (.long len), .second, s6, s7, .val (.long alt), .second, s10, .val (.int hd), .val (.int dp), .val (.int ci), .val (.int co), .val (.int kk), .val (.long o2), .second, .val (.int h2), .val (.int d2), .val (.int c2), .val (.long t2), .second, .val (.int b2), .val (.long l2), .second, .val (.int ex), s27, s28, s29] [])) _
                  refine XS.iload X0.here hx rfl (hb hby at_153) rfl ?_
                  show Steps p.tables e below (T0.setTop (mkF m 155 #[.val (.long off), .second, .val (.long tag), .second, .val (.long len), .second, s6, s7, .val (.long alt), .second, s10, .val (.int hd), .val (.int dp), .val (.int ci), .val (.int co), .val (.int kk), .val (.long o2), .second, .val (.int h2), .val (.int d2), .val (.int c2), .val (.long t2), .second, .val (.int b2), .val (.long l2), .second, .val (.int ex), s27, s28, s29] [(.int kk)])) _
                  refine XS.iconst X0.here hx rfl (hb hby at_155) ?_
                  show Steps p.tables e below (T0.setTop (mkF m 156 #[.val (.long off), .second, .val (.long tag), .second, .val (.long len), .second, s6, s7, .val (.long alt), .second, s10, .val (.int hd), .val (.int dp), .val (.int ci), .val (.int co), .val (.int kk), .val (.long o2), .second, .val (.int h2), .val (.int d2), .val (.int c2), .val (.long t2), .second, .val (.int b2), .val (.long l2), .second, .val (.int ex), s27, s28, s29] [(.int (3 : Int32)), (.int kk)])) _
                  refine XS.icmpYes X0.here hx rfl (pc0 := 156) (pc' := 183) rfl (hb hby at_156) rfl (feq hc156).2 (by decide) (by decide) ?_
                  show Steps p.tables e below (T0.setTop (mkF m 183 #[.val (.long off), .second, .val (.long tag), .second, .val (.long len), .second, s6, s7, .val (.long alt), .second, s10, .val (.int hd), .val (.int dp), .val (.int ci), .val (.int co), .val (.int kk), .val (.long o2), .second, .val (.int h2), .val (.int d2), .val (.int c2), .val (.long t2), .second, .val (.int b2), .val (.long l2), .second, .val (.int ex), s27, s28, s29] [])) _
                  refine XS.iload X0.here hx rfl (hb hby at_183) rfl ?_
                  show Steps p.tables e below (T0.setTop (mkF m 185 #[.val (.long off), .second, .val (.long tag), .second, .val (.long len), .second, s6, s7, .val (.long alt), .second, s10, .val (.int hd), .val (.int dp), .val (.int ci), .val (.int co), .val (.int kk), .val (.long o2), .second, .val (.int h2), .val (.int d2), .val (.int c2), .val (.long t2), .second, .val (.int b2), .val (.long l2), .second, .val (.int ex), s27, s28, s29] [(.int kk)])) _
                  refine XS.iconst X0.here hx rfl (hb hby at_185) ?_
                  show Steps p.tables e below (T0.setTop (mkF m 186 #[.val (.long off), .second, .val (.long tag), .second, .val (.long len), .second, s6, s7, .val (.long alt), .second, s10, .val (.int hd), .val (.int dp), .val (.int ci), .val (.int co), .val (.int kk), .val (.long o2), .second, .val (.int h2), .val (.int d2), .val (.int c2), .val (.long t2), .second, .val (.int b2), .val (.long l2), .second, .val (.int ex), s27, s28, s29] [(.int (4 : Int32)), (.int kk)])) _
                  refine XS.icmpYes X0.here hx rfl (pc0 := 186) (pc' := 210) rfl (hb hby at_186) rfl (feq hc186).2 (by decide) (by decide) ?_
                  show Steps p.tables e below (T0.setTop (mkF m 210 #[.val (.long off), .second, .val (.long tag), .second, .val (.long len), .second, s6, s7, .val (.long alt), .second, s10, .val (.int hd), .val (.int dp), .val (.int ci), .val (.int co), .val (.int kk), .val (.long o2), .second, .val (.int h2), .val (.int d2), .val (.int c2), .val (.long t2), .second, .val (.int b2), .val (.long l2), .second, .val (.int ex), s27, s28, s29] [])) _
                  refine XS.iload X0.here hx rfl (hb hby at_210) rfl ?_
                  show Steps p.tables e below (T0.setTop (mkF m 212 #[.val (.long off), .second, .val (.long tag), .second, .val (.long len), .second, s6, s7, .val (.long alt), .second, s10, .val (.int hd), .val (.int dp), .val (.int ci), .val (.int co), .val (.int kk), .val (.long o2), .second, .val (.int h2), .val (.int d2), .val (.int c2), .val (.long t2), .second, .val (.int b2), .val (.long l2), .second, .val (.int ex), s27, s28, s29] [(.int kk)])) _
                  refine XS.iconst X0.here hx rfl (hb hby at_212) ?_
                  show Steps p.tables e below (T0.setTop (mkF m 213 #[.val (.long off), .second, .val (.long tag), .second, .val (.long len), .second, s6, s7, .val (.long alt), .second, s10, .val (.int hd), .val (.int dp), .val (.int ci), .val (.int co), .val (.int kk), .val (.long o2), .second, .val (.int h2), .val (.int d2), .val (.int c2), .val (.long t2), .second, .val (.int b2), .val (.long l2), .second, .val (.int ex), s27, s28, s29] [(.int (5 : Int32)), (.int kk)])) _
                  refine XS.icmpNo X0.here hx rfl (hb hby at_213) rfl (teq hc213).2 ?_
                  show Steps p.tables e below (T0.setTop (mkF m 216 #[.val (.long off), .second, .val (.long tag), .second, .val (.long len), .second, s6, s7, .val (.long alt), .second, s10, .val (.int hd), .val (.int dp), .val (.int ci), .val (.int co), .val (.int kk), .val (.long o2), .second, .val (.int h2), .val (.int d2), .val (.int c2), .val (.long t2), .second, .val (.int b2), .val (.long l2), .second, .val (.int ex), s27, s28, s29] [])) _
                  refine XS.lload X0.here hx rfl (hb hby at_216) rfl ?_
                  show Steps p.tables e below (T0.setTop (mkF m 218 #[.val (.long off), .second, .val (.long tag), .second, .val (.long len), .second, s6, s7, .val (.long alt), .second, s10, .val (.int hd), .val (.int dp), .val (.int ci), .val (.int co), .val (.int kk), .val (.long o2), .second, .val (.int h2), .val (.int d2), .val (.int c2), .val (.long t2), .second, .val (.int b2), .val (.long l2), .second, .val (.int ex), s27, s28, s29] [(.long alt)])) _
                  refine XS.lconst X0.here hx rfl (hb hby at_218) ?_
                  show Steps p.tables e below (T0.setTop (mkF m 219 #[.val (.long off), .second, .val (.long tag), .second, .val (.long len), .second, s6, s7, .val (.long alt), .second, s10, .val (.int hd), .val (.int dp), .val (.int ci), .val (.int co), .val (.int kk), .val (.long o2), .second, .val (.int h2), .val (.int d2), .val (.int c2), .val (.long t2), .second, .val (.int b2), .val (.long l2), .second, .val (.int ex), s27, s28, s29] [(.long (1 : Int64)), (.long alt)])) _
                  refine XS.land X0.here hx rfl (hb hby at_219) rfl ?_
                  show Steps p.tables e below (T0.setTop (mkF m 220 #[.val (.long off), .second, .val (.long tag), .second, .val (.long len), .second, s6, s7, .val (.long alt), .second, s10, .val (.int hd), .val (.int dp), .val (.int ci), .val (.int co), .val (.int kk), .val (.long o2), .second, .val (.int h2), .val (.int d2), .val (.int c2), .val (.long t2), .second, .val (.int b2), .val (.long l2), .second, .val (.int ex), s27, s28, s29] [(.long (alt &&& (1 : Int64)))])) _
                  refine XS.lconst X0.here hx rfl (hb hby at_220) ?_
                  show Steps p.tables e below (T0.setTop (mkF m 221 #[.val (.long off), .second, .val (.long tag), .second, .val (.long len), .second, s6, s7, .val (.long alt), .second, s10, .val (.int hd), .val (.int dp), .val (.int ci), .val (.int co), .val (.int kk), .val (.long o2), .second, .val (.int h2), .val (.int d2), .val (.int c2), .val (.long t2), .second, .val (.int b2), .val (.long l2), .second, .val (.int ex), s27, s28, s29] [(.long (0 : Int64)), (.long (alt &&& (1 : Int64)))])) _
                  refine XS.lcmp X0.here hx rfl (hb hby at_221) rfl ?_
                  show Steps p.tables e below (T0.setTop (mkF m 222 #[.val (.long off), .second, .val (.long tag), .second, .val (.long len), .second, s6, s7, .val (.long alt), .second, s10, .val (.int hd), .val (.int dp), .val (.int ci), .val (.int co), .val (.int kk), .val (.long o2), .second, .val (.int h2), .val (.int d2), .val (.int c2), .val (.long t2), .second, .val (.int b2), .val (.long l2), .second, .val (.int ex), s27, s28, s29] [(.int (lcmpW (alt &&& (1 : Int64)) (0 : Int64)))])) _
                  refine XS.ifYes X0.here hx rfl (pc0 := 222) (pc' := 229) rfl (hb hby at_222) rfl ((if0 _ _).trans (teq hc222).1) (by decide) (by decide) ?_
                  show Steps p.tables e below (T0.setTop (mkF m 229 #[.val (.long off), .second, .val (.long tag), .second, .val (.long len), .second, s6, s7, .val (.long alt), .second, s10, .val (.int hd), .val (.int dp), .val (.int ci), .val (.int co), .val (.int kk), .val (.long o2), .second, .val (.int h2), .val (.int d2), .val (.int c2), .val (.long t2), .second, .val (.int b2), .val (.long l2), .second, .val (.int ex), s27, s28, s29] [])) _
                  refine XS.iconst X0.here hx rfl (hb hby at_229) ?_
                  show Steps p.tables e below (T0.setTop (mkF m 230 #[.val (.long off), .second, .val (.long tag), .second, .val (.long len), .second, s6, s7, .val (.long alt), .second, s10, .val (.int hd), .val (.int dp), .val (.int ci), .val (.int co), .val (.int kk), .val (.long o2), .second, .val (.int h2), .val (.int d2), .val (.int c2), .val (.long t2), .second, .val (.int b2), .val (.long l2), .second, .val (.int ex), s27, s28, s29] [(.int (0 : Int32))])) _
                  refine XS.istore X0.here hx rfl (hb hby at_230) rfl (l' := #[.val (.long off), .second, .val (.long tag), .second, .val (.long len), .second, s6, s7, .val (.long alt), .second, s10, .val (.int hd), .val (.int dp), .val (.int ci), .val (.int co), .val (.int kk), .val (.long o2), .second, .val (.int h2), .val (.int d2), .val (.int c2), .val (.long t2), .second, .val (.int (0 : Int32)), .val (.long l2), .second, .val (.int ex), s27, s28, s29]) rfl ?_
                  show Steps p.tables e below (T0.setTop (mkF m 232 #[.val (.long off), .second, .val (.long tag), .second, .val (.long len), .second, s6, s7, .val (.long alt), .second, s10, .val (.int hd), .val (.int dp), .val (.int ci), .val (.int co), .val (.int kk), .val (.long o2), .second, .val (.int h2), .val (.int d2), .val (.int c2), .val (.long t2), .second, .val (.int (0 : Int32)), .val (.long l2), .second, .val (.int ex), s27, s28, s29] [])) _
                  refine XS.iload X0.here hx rfl (hb hby at_232) rfl ?_
                  show Steps p.tables e below (T0.setTop (mkF m 234 #[.val (.long off), .second, .val (.long tag), .second, .val (.long len), .second, s6, s7, .val (.long alt), .second, s10, .val (.int hd), .val (.int dp), .val (.int ci), .val (.int co), .val (.int kk), .val (.long o2), .second, .val (.int h2), .val (.int d2), .val (.int c2), .val (.long t2), .second, .val (.int (0 : Int32)), .val (.long l2), .second, .val (.int ex), s27, s28, s29] [(.int co)])) _
                  refine XS.iload X0.here hx rfl (hb hby at_234) rfl ?_
                  show Steps p.tables e below (T0.setTop (mkF m 236 #[.val (.long off), .second, .val (.long tag), .second, .val (.long len), .second, s6, s7, .val (.long alt), .second, s10, .val (.int hd), .val (.int dp), .val (.int ci), .val (.int co), .val (.int kk), .val (.long o2), .second, .val (.int h2), .val (.int d2), .val (.int c2), .val (.long t2), .second, .val (.int (0 : Int32)), .val (.long l2), .second, .val (.int ex), s27, s28, s29] [(.int (0 : Int32)), (.int co)])) _
                  refine XS.icmpYes X0.here hx rfl (pc0 := 236) (pc' := 243) rfl (hb hby at_236) rfl (feq hc236).2 (by decide) (by decide) ?_
                  show Steps p.tables e below (T0.setTop (mkF m 243 #[.val (.long off), .second, .val (.long tag), .second, .val (.long len), .second, s6, s7, .val (.long alt), .second, s10, .val (.int hd), .val (.int dp), .val (.int ci), .val (.int co), .val (.int kk), .val (.long o2), .second, .val (.int h2), .val (.int d2), .val (.int c2), .val (.long t2), .second, .val (.int (0 : Int32)), .val (.long l2), .second, .val (.int ex), s27, s28, s29] [])) _
                  refine XS.iconst X0.here hx rfl (hb hby at_243) ?_
                  show Steps p.tables e below (T0.setTop (mkF m 244 #[.val (.long off), .second, .val (.long tag), .second, .val (.long len), .second, s6, s7, .val (.long alt), .second, s10, .val (.int hd), .val (.int dp), .val (.int ci), .val (.int co), .val (.int kk), .val (.long o2), .second, .val (.int h2), .val (.int d2), .val (.int c2), .val (.long t2), .second, .val (.int (0 : Int32)), .val (.long l2), .second, .val (.int ex), s27, s28, s29] [(.int (0 : Int32))])) _
                  refine XS.istore X0.here hx rfl (hb hby at_244) rfl (l' := #[.val (.long off), .second, .val (.long tag), .second, .val (.long len), .second, s6, s7, .val (.long alt), .second, s10, .val (.int hd), .val (.int dp), .val (.int ci), .val (.int co), .val (.int kk), .val (.long o2), .second, .val (.int h2), .val (.int d2), .val (.int c2), .val (.long t2), .second, .val (.int (0 : Int32)), .val (.long l2), .second, .val (.int (0 : Int32)), s27, s28, s29]) rfl ?_
                  show Steps p.tables e below (T0.setTop (mkF m 246 #[.val (.long off), .second, .val (.long tag), .second, .val (.long len), .second, s6, s7, .val (.long alt), .second, s10, .val (.int hd), .val (.int dp), .val (.int ci), .val (.int co), .val (.int kk), .val (.long o2), .second, .val (.int h2), .val (.int d2), .val (.int c2), .val (.long t2), .second, .val (.int (0 : Int32)), .val (.long l2), .second, .val (.int (0 : Int32)), s27, s28, s29] [])) _
                  refine XS.goto X0.here hx rfl (pc0 := 246) (pc' := 275) rfl (hb hby at_246) (by decide) (by decide) ?_
                  show Steps p.tables e below (T0.setTop (mkF m 275 #[.val (.long off), .second, .val (.long tag), .second, .val (.long len), .second, s6, s7, .val (.long alt), .second, s10, .val (.int hd), .val (.int dp), .val (.int ci), .val (.int co), .val (.int kk), .val (.long o2), .second, .val (.int h2), .val (.int d2), .val (.int c2), .val (.long t2), .second, .val (.int (0 : Int32)), .val (.long l2), .second, .val (.int (0 : Int32)), s27, s28, s29] [])) _
                  exact kt
              ·
                by_cases hc236 : co = (1 : Int32)
                ·
                  simp only [if_neg hc73] at hv0
                  rw [hv0] at kt
                  simp only [if_neg hc73, if_neg hc100] at hv1
                  rw [hv1] at kt
                  simp only [if_neg hc73, if_neg hc100, if_neg hc128] at hv2
                  rw [hv2] at kt
                  simp only [if_neg hc73, if_neg hc100, if_neg hc128, if_neg hc156] at hv3
                  rw [hv3] at kt
                  simp only [if_neg hc73, if_neg hc100, if_neg hc128, if_neg hc156, if_neg hc186] at hv4
                  rw [hv4] at kt
                  simp only [if_neg hc73, if_neg hc100, if_neg hc128, if_neg hc156, if_neg hc186, if_pos hc213, if_neg hc222] at hv5
                  rw [hv5] at kt
                  simp only [if_neg hc73, if_neg hc100, if_neg hc128, if_neg hc156, if_neg hc186, if_pos hc213] at hv6
                  rw [hv6] at kt
                  simp only [if_neg hc73, if_neg hc100, if_neg hc128, if_neg hc156, if_neg hc186, if_pos hc213, if_neg hc222, if_pos hc236] at hv7
                  rw [hv7] at kt
                  show Steps p.tables e below (T0.setTop (mkF m 71 #[.val (.long off), .second, .val (.long tag), .second, .val (.long len), .second, s6, s7, .val (.long alt), .second, s10, .val (.int hd), .val (.int dp), .val (.int ci), .val (.int co), .val (.int kk), .val (.long o2), .second, .val (.int h2), .val (.int d2), .val (.int c2), .val (.long t2), .second, .val (.int b2), .val (.long l2), .second, .val (.int ex), s27, s28, s29] [])) _
                  refine XS.iload X0.here hx rfl (hb hby at_71) rfl ?_
                  show Steps p.tables e below (T0.setTop (mkF m 73 #[.val (.long off), .second, .val (.long tag), .second, .val (.long len), .second, s6, s7, .val (.long alt), .second, s10, .val (.int hd), .val (.int dp), .val (.int ci), .val (.int co), .val (.int kk), .val (.long o2), .second, .val (.int h2), .val (.int d2), .val (.int c2), .val (.long t2), .second, .val (.int b2), .val (.long l2), .second, .val (.int ex), s27, s28, s29] [(.int kk)])) _
                  refine XS.ifYes X0.here hx rfl (pc0 := 73) (pc' := 97) rfl (hb hby at_73) rfl ((if0 _ _).trans (feq hc73).2) (by decide) (by decide) ?_
                  show Steps p.tables e below (T0.setTop (mkF m 97 #[.val (.long off), .second, .val (.long tag), .second, .val (.long len), .second, s6, s7, .val (.long alt), .second, s10, .val (.int hd), .val (.int dp), .val (.int ci), .val (.int co), .val (.int kk), .val (.long o2), .second, .val (.int h2), .val (.int d2), .val (.int c2), .val (.long t2), .second, .val (.int b2), .val (.long l2), .second, .val (.int ex), s27, s28, s29] [])) _
                  refine XS.iload X0.here hx rfl (hb hby at_97) rfl ?_
                  show Steps p.tables e below (T0.setTop (mkF m 99 #[.val (.long off), .second, .val (.long tag), .second, .val (.long len), .second, s6, s7, .val (.long alt), .second, s10, .val (.int hd), .val (.int dp), .val (.int ci), .val (.int co), .val (.int kk), .val (.long o2), .second, .val (.int h2), .val (.int d2), .val (.int c2), .val (.long t2), .second, .val (.int b2), .val (.long l2), .second, .val (.int ex), s27, s28, s29] [(.int kk)])) _
                  refine XS.iconst X0.here hx rfl (hb hby at_99) ?_
                  show Steps p.tables e below (T0.setTop (mkF m 100 #[.val (.long off), .second, .val (.long tag), .second, .val (.long len), .second, s6, s7, .val (.long alt), .second, s10, .val (.int hd), .val (.int dp), .val (.int ci), .val (.int co), .val (.int kk), .val (.long o2), .second, .val (.int h2), .val (.int d2), .val (.int c2), .val (.long t2), .second, .val (.int b2), .val (.long l2), .second, .val (.int ex), s27, s28, s29] [(.int (1 : Int32)), (.int kk)])) _
                  refine XS.icmpYes X0.here hx rfl (pc0 := 100) (pc' := 125) rfl (hb hby at_100) rfl (feq hc100).2 (by decide) (by decide) ?_
                  show Steps p.tables e below (T0.setTop (mkF m 125 #[.val (.long off), .second, .val (.long tag), .second, .val (.long len), .second, s6, s7, .val (.long alt), .second, s10, .val (.int hd), .val (.int dp), .val (.int ci), .val (.int co), .val (.int kk), .val (.long o2), .second, .val (.int h2), .val (.int d2), .val (.int c2), .val (.long t2), .second, .val (.int b2), .val (.long l2), .second, .val (.int ex), s27, s28, s29] [])) _
                  refine XS.iload X0.here hx rfl (hb hby at_125) rfl ?_
                  show Steps p.tables e below (T0.setTop (mkF m 127 #[.val (.long off), .second, .val (.long tag), .second, .val (.long len), .second, s6, s7, .val (.long alt), .second, s10, .val (.int hd), .val (.int dp), .val (.int ci), .val (.int co), .val (.int kk), .val (.long o2), .second, .val (.int h2), .val (.int d2), .val (.int c2), .val (.long t2), .second, .val (.int b2), .val (.long l2), .second, .val (.int ex), s27, s28, s29] [(.int kk)])) _
                  refine XS.iconst X0.here hx rfl (hb hby at_127) ?_
                  show Steps p.tables e below (T0.setTop (mkF m 128 #[.val (.long off), .second, .val (.long tag), .second, .val (.long len), .second, s6, s7, .val (.long alt), .second, s10, .val (.int hd), .val (.int dp), .val (.int ci), .val (.int co), .val (.int kk), .val (.long o2), .second, .val (.int h2), .val (.int d2), .val (.int c2), .val (.long t2), .second, .val (.int b2), .val (.long l2), .second, .val (.int ex), s27, s28, s29] [(.int (2 : Int32)), (.int kk)])) _
                  refine XS.icmpYes X0.here hx rfl (pc0 := 128) (pc' := 153) rfl (hb hby at_128) rfl (feq hc128).2 (by decide) (by decide) ?_
                  show Steps p.tables e below (T0.setTop (mkF m 153 #[.val (.long off), .second, .val (.long tag), .second, .val (.long len), .second, s6, s7, .val (.long alt), .second, s10, .val (.int hd), .val (.int dp), .val (.int ci), .val (.int co), .val (.int kk), .val (.long o2), .second, .val (.int h2), .val (.int d2), .val (.int c2), .val (.long t2), .second, .val (.int b2), .val (.long l2), .second, .val (.int ex), s27, s28, s29] [])) _
                  refine XS.iload X0.here hx rfl (hb hby at_153) rfl ?_
                  show Steps p.tables e below (T0.setTop (mkF m 155 #[.val (.long off), .second, .val (.long tag), .second, .val (.long len), .second, s6, s7, .val (.long alt), .second, s10, .val (.int hd), .val (.int dp), .val (.int ci), .val (.int co), .val (.int kk), .val (.long o2), .second, .val (.int h2), .val (.int d2), .val (.int c2), .val (.long t2), .second, .val (.int b2), .val (.long l2), .second, .val (.int ex), s27, s28, s29] [(.int kk)])) _
                  refine XS.iconst X0.here hx rfl (hb hby at_155) ?_
                  show Steps p.tables e below (T0.setTop (mkF m 156 #[.val (.long off), .second, .val (.long tag), .second, .val (.long len), .second, s6, s7, .val (.long alt), .second, s10, .val (.int hd), .val (.int dp), .val (.int ci), .val (.int co), .val (.int kk), .val (.long o2), .second, .val (.int h2), .val (.int d2), .val (.int c2), .val (.long t2), .second, .val (.int b2), .val (.long l2), .second, .val (.int ex), s27, s28, s29] [(.int (3 : Int32)), (.int kk)])) _
                  refine XS.icmpYes X0.here hx rfl (pc0 := 156) (pc' := 183) rfl (hb hby at_156) rfl (feq hc156).2 (by decide) (by decide) ?_
                  show Steps p.tables e below (T0.setTop (mkF m 183 #[.val (.long off), .second, .val (.long tag), .second, .val (.long len), .second, s6, s7, .val (.long alt), .second, s10, .val (.int hd), .val (.int dp), .val (.int ci), .val (.int co), .val (.int kk), .val (.long o2), .second, .val (.int h2), .val (.int d2), .val (.int c2), .val (.long t2), .second, .val (.int b2), .val (.long l2), .second, .val (.int ex), s27, s28, s29] [])) _
                  refine XS.iload X0.here hx rfl (hb hby at_183) rfl ?_
                  show Steps p.tables e below (T0.setTop (mkF m 185 #[.val (.long off), .second, .val (.long tag), .second, .val (.long len), .second, s6, s7, .val (.long alt), .second, s10, .val (.int hd), .val (.int dp), .val (.int ci), .val (.int co), .val (.int kk), .val (.long o2), .second, .val (.int h2), .val (.int d2), .val (.int c2), .val (.long t2), .second, .val (.int b2), .val (.long l2), .second, .val (.int ex), s27, s28, s29] [(.int kk)])) _
                  refine XS.iconst X0.here hx rfl (hb hby at_185) ?_
                  show Steps p.tables e below (T0.setTop (mkF m 186 #[.val (.long off), .second, .val (.long tag), .second, .val (.long len), .second, s6, s7, .val (.long alt), .second, s10, .val (.int hd), .val (.int dp), .val (.int ci), .val (.int co), .val (.int kk), .val (.long o2), .second, .val (.int h2), .val (.int d2), .val (.int c2), .val (.long t2), .second, .val (.int b2), .val (.long l2), .second, .val (.int ex), s27, s28, s29] [(.int (4 : Int32)), (.int kk)])) _
                  refine XS.icmpYes X0.here hx rfl (pc0 := 186) (pc' := 210) rfl (hb hby at_186) rfl (feq hc186).2 (by decide) (by decide) ?_
                  show Steps p.tables e below (T0.setTop (mkF m 210 #[.val (.long off), .second, .val (.long tag), .second, .val (.long len), .second, s6, s7, .val (.long alt), .second, s10, .val (.int hd), .val (.int dp), .val (.int ci), .val (.int co), .val (.int kk), .val (.long o2), .second, .val (.int h2), .val (.int d2), .val (.int c2), .val (.long t2), .second, .val (.int b2), .val (.long l2), .second, .val (.int ex), s27, s28, s29] [])) _
                  refine XS.iload X0.here hx rfl (hb hby at_210) rfl ?_
                  show Steps p.tables e below (T0.setTop (mkF m 212 #[.val (.long off), .second, .val (.long tag), .second, .val (.long len), .second, s6, s7, .val (.long alt), .second, s10, .val (.int hd), .val (.int dp), .val (.int ci), .val (.int co), .val (.int kk), .val (.long o2), .second, .val (.int h2), .val (.int d2), .val (.int c2), .val (.long t2), .second, .val (.int b2), .val (.long l2), .second, .val (.int ex), s27, s28, s29] [(.int kk)])) _
                  refine XS.iconst X0.here hx rfl (hb hby at_212) ?_
                  show Steps p.tables e below (T0.setTop (mkF m 213 #[.val (.long off), .second, .val (.long tag), .second, .val (.long len), .second, s6, s7, .val (.long alt), .second, s10, .val (.int hd), .val (.int dp), .val (.int ci), .val (.int co), .val (.int kk), .val (.long o2), .second, .val (.int h2), .val (.int d2), .val (.int c2), .val (.long t2), .second, .val (.int b2), .val (.long l2), .second, .val (.int ex), s27, s28, s29] [(.int (5 : Int32)), (.int kk)])) _
                  refine XS.icmpNo X0.here hx rfl (hb hby at_213) rfl (teq hc213).2 ?_
                  show Steps p.tables e below (T0.setTop (mkF m 216 #[.val (.long off), .second, .val (.long tag), .second, .val (.long len), .second, s6, s7, .val (.long alt), .second, s10, .val (.int hd), .val (.int dp), .val (.int ci), .val (.int co), .val (.int kk), .val (.long o2), .second, .val (.int h2), .val (.int d2), .val (.int c2), .val (.long t2), .second, .val (.int b2), .val (.long l2), .second, .val (.int ex), s27, s28, s29] [])) _
                  refine XS.lload X0.here hx rfl (hb hby at_216) rfl ?_
                  show Steps p.tables e below (T0.setTop (mkF m 218 #[.val (.long off), .second, .val (.long tag), .second, .val (.long len), .second, s6, s7, .val (.long alt), .second, s10, .val (.int hd), .val (.int dp), .val (.int ci), .val (.int co), .val (.int kk), .val (.long o2), .second, .val (.int h2), .val (.int d2), .val (.int c2), .val (.long t2), .second, .val (.int b2), .val (.long l2), .second, .val (.int ex), s27, s28, s29] [(.long alt)])) _
                  refine XS.lconst X0.here hx rfl (hb hby at_218) ?_
                  show Steps p.tables e below (T0.setTop (mkF m 219 #[.val (.long off), .second, .val (.long tag), .second, .val (.long len), .second, s6, s7, .val (.long alt), .second, s10, .val (.int hd), .val (.int dp), .val (.int ci), .val (.int co), .val (.int kk), .val (.long o2), .second, .val (.int h2), .val (.int d2), .val (.int c2), .val (.long t2), .second, .val (.int b2), .val (.long l2), .second, .val (.int ex), s27, s28, s29] [(.long (1 : Int64)), (.long alt)])) _
                  refine XS.land X0.here hx rfl (hb hby at_219) rfl ?_
                  show Steps p.tables e below (T0.setTop (mkF m 220 #[.val (.long off), .second, .val (.long tag), .second, .val (.long len), .second, s6, s7, .val (.long alt), .second, s10, .val (.int hd), .val (.int dp), .val (.int ci), .val (.int co), .val (.int kk), .val (.long o2), .second, .val (.int h2), .val (.int d2), .val (.int c2), .val (.long t2), .second, .val (.int b2), .val (.long l2), .second, .val (.int ex), s27, s28, s29] [(.long (alt &&& (1 : Int64)))])) _
                  refine XS.lconst X0.here hx rfl (hb hby at_220) ?_
                  show Steps p.tables e below (T0.setTop (mkF m 221 #[.val (.long off), .second, .val (.long tag), .second, .val (.long len), .second, s6, s7, .val (.long alt), .second, s10, .val (.int hd), .val (.int dp), .val (.int ci), .val (.int co), .val (.int kk), .val (.long o2), .second, .val (.int h2), .val (.int d2), .val (.int c2), .val (.long t2), .second, .val (.int b2), .val (.long l2), .second, .val (.int ex), s27, s28, s29] [(.long (0 : Int64)), (.long (alt &&& (1 : Int64)))])) _
                  refine XS.lcmp X0.here hx rfl (hb hby at_221) rfl ?_
                  show Steps p.tables e below (T0.setTop (mkF m 222 #[.val (.long off), .second, .val (.long tag), .second, .val (.long len), .second, s6, s7, .val (.long alt), .second, s10, .val (.int hd), .val (.int dp), .val (.int ci), .val (.int co), .val (.int kk), .val (.long o2), .second, .val (.int h2), .val (.int d2), .val (.int c2), .val (.long t2), .second, .val (.int b2), .val (.long l2), .second, .val (.int ex), s27, s28, s29] [(.int (lcmpW (alt &&& (1 : Int64)) (0 : Int64)))])) _
                  refine XS.ifNo X0.here hx rfl (hb hby at_222) rfl ((if0 _ _).trans (feq hc222).1) ?_
                  show Steps p.tables e below (T0.setTop (mkF m 225 #[.val (.long off), .second, .val (.long tag), .second, .val (.long len), .second, s6, s7, .val (.long alt), .second, s10, .val (.int hd), .val (.int dp), .val (.int ci), .val (.int co), .val (.int kk), .val (.long o2), .second, .val (.int h2), .val (.int d2), .val (.int c2), .val (.long t2), .second, .val (.int b2), .val (.long l2), .second, .val (.int ex), s27, s28, s29] [])) _
                  refine XS.iconst X0.here hx rfl (hb hby at_225) ?_
                  show Steps p.tables e below (T0.setTop (mkF m 226 #[.val (.long off), .second, .val (.long tag), .second, .val (.long len), .second, s6, s7, .val (.long alt), .second, s10, .val (.int hd), .val (.int dp), .val (.int ci), .val (.int co), .val (.int kk), .val (.long o2), .second, .val (.int h2), .val (.int d2), .val (.int c2), .val (.long t2), .second, .val (.int b2), .val (.long l2), .second, .val (.int ex), s27, s28, s29] [(.int (1 : Int32))])) _
                  refine XS.goto X0.here hx rfl (pc0 := 226) (pc' := 230) rfl (hb hby at_226) (by decide) (by decide) ?_
                  show Steps p.tables e below (T0.setTop (mkF m 230 #[.val (.long off), .second, .val (.long tag), .second, .val (.long len), .second, s6, s7, .val (.long alt), .second, s10, .val (.int hd), .val (.int dp), .val (.int ci), .val (.int co), .val (.int kk), .val (.long o2), .second, .val (.int h2), .val (.int d2), .val (.int c2), .val (.long t2), .second, .val (.int b2), .val (.long l2), .second, .val (.int ex), s27, s28, s29] [(.int (1 : Int32))])) _
                  refine XS.istore X0.here hx rfl (hb hby at_230) rfl (l' := #[.val (.long off), .second, .val (.long tag), .second, .val (.long len), .second, s6, s7, .val (.long alt), .second, s10, .val (.int hd), .val (.int dp), .val (.int ci), .val (.int co), .val (.int kk), .val (.long o2), .second, .val (.int h2), .val (.int d2), .val (.int c2), .val (.long t2), .second, .val (.int (1 : Int32)), .val (.long l2), .second, .val (.int ex), s27, s28, s29]) rfl ?_
                  show Steps p.tables e below (T0.setTop (mkF m 232 #[.val (.long off), .second, .val (.long tag), .second, .val (.long len), .second, s6, s7, .val (.long alt), .second, s10, .val (.int hd), .val (.int dp), .val (.int ci), .val (.int co), .val (.int kk), .val (.long o2), .second, .val (.int h2), .val (.int d2), .val (.int c2), .val (.long t2), .second, .val (.int (1 : Int32)), .val (.long l2), .second, .val (.int ex), s27, s28, s29] [])) _
                  refine XS.iload X0.here hx rfl (hb hby at_232) rfl ?_
                  show Steps p.tables e below (T0.setTop (mkF m 234 #[.val (.long off), .second, .val (.long tag), .second, .val (.long len), .second, s6, s7, .val (.long alt), .second, s10, .val (.int hd), .val (.int dp), .val (.int ci), .val (.int co), .val (.int kk), .val (.long o2), .second, .val (.int h2), .val (.int d2), .val (.int c2), .val (.long t2), .second, .val (.int (1 : Int32)), .val (.long l2), .second, .val (.int ex), s27, s28, s29] [(.int co)])) _
                  refine XS.iload X0.here hx rfl (hb hby at_234) rfl ?_
                  show Steps p.tables e below (T0.setTop (mkF m 236 #[.val (.long off), .second, .val (.long tag), .second, .val (.long len), .second, s6, s7, .val (.long alt), .second, s10, .val (.int hd), .val (.int dp), .val (.int ci), .val (.int co), .val (.int kk), .val (.long o2), .second, .val (.int h2), .val (.int d2), .val (.int c2), .val (.long t2), .second, .val (.int (1 : Int32)), .val (.long l2), .second, .val (.int ex), s27, s28, s29] [(.int (1 : Int32)), (.int co)])) _
                  refine XS.icmpNo X0.here hx rfl (hb hby at_236) rfl (teq hc236).2 ?_
                  show Steps p.tables e below (T0.setTop (mkF m 239 #[.val (.long off), .second, .val (.long tag), .second, .val (.long len), .second, s6, s7, .val (.long alt), .second, s10, .val (.int hd), .val (.int dp), .val (.int ci), .val (.int co), .val (.int kk), .val (.long o2), .second, .val (.int h2), .val (.int d2), .val (.int c2), .val (.long t2), .second, .val (.int (1 : Int32)), .val (.long l2), .second, .val (.int ex), s27, s28, s29] [])) _
                  refine XS.iconst X0.here hx rfl (hb hby at_239) ?_
                  show Steps p.tables e below (T0.setTop (mkF m 240 #[.val (.long off), .second, .val (.long tag), .second, .val (.long len), .second, s6, s7, .val (.long alt), .second, s10, .val (.int hd), .val (.int dp), .val (.int ci), .val (.int co), .val (.int kk), .val (.long o2), .second, .val (.int h2), .val (.int d2), .val (.int c2), .val (.long t2), .second, .val (.int (1 : Int32)), .val (.long l2), .second, .val (.int ex), s27, s28, s29] [(.int (1 : Int32))])) _
                  refine XS.goto X0.here hx rfl (pc0 := 240) (pc' := 244) rfl (hb hby at_240) (by decide) (by decide) ?_
                  show Steps p.tables e below (T0.setTop (mkF m 244 #[.val (.long off), .second, .val (.long tag), .second, .val (.long len), .second, s6, s7, .val (.long alt), .second, s10, .val (.int hd), .val (.int dp), .val (.int ci), .val (.int co), .val (.int kk), .val (.long o2), .second, .val (.int h2), .val (.int d2), .val (.int c2), .val (.long t2), .second, .val (.int (1 : Int32)), .val (.long l2), .second, .val (.int ex), s27, s28, s29] [(.int (1 : Int32))])) _
                  refine XS.istore X0.here hx rfl (hb hby at_244) rfl (l' := #[.val (.long off), .second, .val (.long tag), .second, .val (.long len), .second, s6, s7, .val (.long alt), .second, s10, .val (.int hd), .val (.int dp), .val (.int ci), .val (.int co), .val (.int kk), .val (.long o2), .second, .val (.int h2), .val (.int d2), .val (.int c2), .val (.long t2), .second, .val (.int (1 : Int32)), .val (.long l2), .second, .val (.int (1 : Int32)), s27, s28, s29]) rfl ?_
                  show Steps p.tables e below (T0.setTop (mkF m 246 #[.val (.long off), .second, .val (.long tag), .second, .val (.long len), .second, s6, s7, .val (.long alt), .second, s10, .val (.int hd), .val (.int dp), .val (.int ci), .val (.int co), .val (.int kk), .val (.long o2), .second, .val (.int h2), .val (.int d2), .val (.int c2), .val (.long t2), .second, .val (.int (1 : Int32)), .val (.long l2), .second, .val (.int (1 : Int32)), s27, s28, s29] [])) _
                  refine XS.goto X0.here hx rfl (pc0 := 246) (pc' := 275) rfl (hb hby at_246) (by decide) (by decide) ?_
                  show Steps p.tables e below (T0.setTop (mkF m 275 #[.val (.long off), .second, .val (.long tag), .second, .val (.long len), .second, s6, s7, .val (.long alt), .second, s10, .val (.int hd), .val (.int dp), .val (.int ci), .val (.int co), .val (.int kk), .val (.long o2), .second, .val (.int h2), .val (.int d2), .val (.int c2), .val (.long t2), .second, .val (.int (1 : Int32)), .val (.long l2), .second, .val (.int (1 : Int32)), s27, s28, s29] [])) _
                  exact kt
                ·
                  simp only [if_neg hc73] at hv0
                  rw [hv0] at kt
                  simp only [if_neg hc73, if_neg hc100] at hv1
                  rw [hv1] at kt
                  simp only [if_neg hc73, if_neg hc100, if_neg hc128] at hv2
                  rw [hv2] at kt
                  simp only [if_neg hc73, if_neg hc100, if_neg hc128, if_neg hc156] at hv3
                  rw [hv3] at kt
                  simp only [if_neg hc73, if_neg hc100, if_neg hc128, if_neg hc156, if_neg hc186] at hv4
                  rw [hv4] at kt
                  simp only [if_neg hc73, if_neg hc100, if_neg hc128, if_neg hc156, if_neg hc186, if_pos hc213, if_neg hc222] at hv5
                  rw [hv5] at kt
                  simp only [if_neg hc73, if_neg hc100, if_neg hc128, if_neg hc156, if_neg hc186, if_pos hc213] at hv6
                  rw [hv6] at kt
                  simp only [if_neg hc73, if_neg hc100, if_neg hc128, if_neg hc156, if_neg hc186, if_pos hc213, if_neg hc222, if_neg hc236] at hv7
                  rw [hv7] at kt
                  show Steps p.tables e below (T0.setTop (mkF m 71 #[.val (.long off), .second, .val (.long tag), .second, .val (.long len), .second, s6, s7, .val (.long alt), .second, s10, .val (.int hd), .val (.int dp), .val (.int ci), .val (.int co), .val (.int kk), .val (.long o2), .second, .val (.int h2), .val (.int d2), .val (.int c2), .val (.long t2), .second, .val (.int b2), .val (.long l2), .second, .val (.int ex), s27, s28, s29] [])) _
                  refine XS.iload X0.here hx rfl (hb hby at_71) rfl ?_
                  show Steps p.tables e below (T0.setTop (mkF m 73 #[.val (.long off), .second, .val (.long tag), .second, .val (.long len), .second, s6, s7, .val (.long alt), .second, s10, .val (.int hd), .val (.int dp), .val (.int ci), .val (.int co), .val (.int kk), .val (.long o2), .second, .val (.int h2), .val (.int d2), .val (.int c2), .val (.long t2), .second, .val (.int b2), .val (.long l2), .second, .val (.int ex), s27, s28, s29] [(.int kk)])) _
                  refine XS.ifYes X0.here hx rfl (pc0 := 73) (pc' := 97) rfl (hb hby at_73) rfl ((if0 _ _).trans (feq hc73).2) (by decide) (by decide) ?_
                  show Steps p.tables e below (T0.setTop (mkF m 97 #[.val (.long off), .second, .val (.long tag), .second, .val (.long len), .second, s6, s7, .val (.long alt), .second, s10, .val (.int hd), .val (.int dp), .val (.int ci), .val (.int co), .val (.int kk), .val (.long o2), .second, .val (.int h2), .val (.int d2), .val (.int c2), .val (.long t2), .second, .val (.int b2), .val (.long l2), .second, .val (.int ex), s27, s28, s29] [])) _
                  refine XS.iload X0.here hx rfl (hb hby at_97) rfl ?_
                  show Steps p.tables e below (T0.setTop (mkF m 99 #[.val (.long off), .second, .val (.long tag), .second, .val (.long len), .second, s6, s7, .val (.long alt), .second, s10, .val (.int hd), .val (.int dp), .val (.int ci), .val (.int co), .val (.int kk), .val (.long o2), .second, .val (.int h2), .val (.int d2), .val (.int c2), .val (.long t2), .second, .val (.int b2), .val (.long l2), .second, .val (.int ex), s27, s28, s29] [(.int kk)])) _
                  refine XS.iconst X0.here hx rfl (hb hby at_99) ?_
                  show Steps p.tables e below (T0.setTop (mkF m 100 #[.val (.long off), .second, .val (.long tag), .second, .val (.long len), .second, s6, s7, .val (.long alt), .second, s10, .val (.int hd), .val (.int dp), .val (.int ci), .val (.int co), .val (.int kk), .val (.long o2), .second, .val (.int h2), .val (.int d2), .val (.int c2), .val (.long t2), .second, .val (.int b2), .val (.long l2), .second, .val (.int ex), s27, s28, s29] [(.int (1 : Int32)), (.int kk)])) _
                  refine XS.icmpYes X0.here hx rfl (pc0 := 100) (pc' := 125) rfl (hb hby at_100) rfl (feq hc100).2 (by decide) (by decide) ?_
                  show Steps p.tables e below (T0.setTop (mkF m 125 #[.val (.long off), .second, .val (.long tag), .second, .val (.long len), .second, s6, s7, .val (.long alt), .second, s10, .val (.int hd), .val (.int dp), .val (.int ci), .val (.int co), .val (.int kk), .val (.long o2), .second, .val (.int h2), .val (.int d2), .val (.int c2), .val (.long t2), .second, .val (.int b2), .val (.long l2), .second, .val (.int ex), s27, s28, s29] [])) _
                  refine XS.iload X0.here hx rfl (hb hby at_125) rfl ?_
                  show Steps p.tables e below (T0.setTop (mkF m 127 #[.val (.long off), .second, .val (.long tag), .second, .val (.long len), .second, s6, s7, .val (.long alt), .second, s10, .val (.int hd), .val (.int dp), .val (.int ci), .val (.int co), .val (.int kk), .val (.long o2), .second, .val (.int h2), .val (.int d2), .val (.int c2), .val (.long t2), .second, .val (.int b2), .val (.long l2), .second, .val (.int ex), s27, s28, s29] [(.int kk)])) _
                  refine XS.iconst X0.here hx rfl (hb hby at_127) ?_
                  show Steps p.tables e below (T0.setTop (mkF m 128 #[.val (.long off), .second, .val (.long tag), .second, .val (.long len), .second, s6, s7, .val (.long alt), .second, s10, .val (.int hd), .val (.int dp), .val (.int ci), .val (.int co), .val (.int kk), .val (.long o2), .second, .val (.int h2), .val (.int d2), .val (.int c2), .val (.long t2), .second, .val (.int b2), .val (.long l2), .second, .val (.int ex), s27, s28, s29] [(.int (2 : Int32)), (.int kk)])) _
                  refine XS.icmpYes X0.here hx rfl (pc0 := 128) (pc' := 153) rfl (hb hby at_128) rfl (feq hc128).2 (by decide) (by decide) ?_
                  show Steps p.tables e below (T0.setTop (mkF m 153 #[.val (.long off), .second, .val (.long tag), .second, .val (.long len), .second, s6, s7, .val (.long alt), .second, s10, .val (.int hd), .val (.int dp), .val (.int ci), .val (.int co), .val (.int kk), .val (.long o2), .second, .val (.int h2), .val (.int d2), .val (.int c2), .val (.long t2), .second, .val (.int b2), .val (.long l2), .second, .val (.int ex), s27, s28, s29] [])) _
                  refine XS.iload X0.here hx rfl (hb hby at_153) rfl ?_
                  show Steps p.tables e below (T0.setTop (mkF m 155 #[.val (.long off), .second, .val (.long tag), .second, .val (.long len), .second, s6, s7, .val (.long alt), .second, s10, .val (.int hd), .val (.int dp), .val (.int ci), .val (.int co), .val (.int kk), .val (.long o2), .second, .val (.int h2), .val (.int d2), .val (.int c2), .val (.long t2), .second, .val (.int b2), .val (.long l2), .second, .val (.int ex), s27, s28, s29] [(.int kk)])) _
                  refine XS.iconst X0.here hx rfl (hb hby at_155) ?_
                  show Steps p.tables e below (T0.setTop (mkF m 156 #[.val (.long off), .second, .val (.long tag), .second, .val (.long len), .second, s6, s7, .val (.long alt), .second, s10, .val (.int hd), .val (.int dp), .val (.int ci), .val (.int co), .val (.int kk), .val (.long o2), .second, .val (.int h2), .val (.int d2), .val (.int c2), .val (.long t2), .second, .val (.int b2), .val (.long l2), .second, .val (.int ex), s27, s28, s29] [(.int (3 : Int32)), (.int kk)])) _
                  refine XS.icmpYes X0.here hx rfl (pc0 := 156) (pc' := 183) rfl (hb hby at_156) rfl (feq hc156).2 (by decide) (by decide) ?_
                  show Steps p.tables e below (T0.setTop (mkF m 183 #[.val (.long off), .second, .val (.long tag), .second, .val (.long len), .second, s6, s7, .val (.long alt), .second, s10, .val (.int hd), .val (.int dp), .val (.int ci), .val (.int co), .val (.int kk), .val (.long o2), .second, .val (.int h2), .val (.int d2), .val (.int c2), .val (.long t2), .second, .val (.int b2), .val (.long l2), .second, .val (.int ex), s27, s28, s29] [])) _
                  refine XS.iload X0.here hx rfl (hb hby at_183) rfl ?_
                  show Steps p.tables e below (T0.setTop (mkF m 185 #[.val (.long off), .second, .val (.long tag), .second, .val (.long len), .second, s6, s7, .val (.long alt), .second, s10, .val (.int hd), .val (.int dp), .val (.int ci), .val (.int co), .val (.int kk), .val (.long o2), .second, .val (.int h2), .val (.int d2), .val (.int c2), .val (.long t2), .second, .val (.int b2), .val (.long l2), .second, .val (.int ex), s27, s28, s29] [(.int kk)])) _
                  refine XS.iconst X0.here hx rfl (hb hby at_185) ?_
                  show Steps p.tables e below (T0.setTop (mkF m 186 #[.val (.long off), .second, .val (.long tag), .second, .val (.long len), .second, s6, s7, .val (.long alt), .second, s10, .val (.int hd), .val (.int dp), .val (.int ci), .val (.int co), .val (.int kk), .val (.long o2), .second, .val (.int h2), .val (.int d2), .val (.int c2), .val (.long t2), .second, .val (.int b2), .val (.long l2), .second, .val (.int ex), s27, s28, s29] [(.int (4 : Int32)), (.int kk)])) _
                  refine XS.icmpYes X0.here hx rfl (pc0 := 186) (pc' := 210) rfl (hb hby at_186) rfl (feq hc186).2 (by decide) (by decide) ?_
                  show Steps p.tables e below (T0.setTop (mkF m 210 #[.val (.long off), .second, .val (.long tag), .second, .val (.long len), .second, s6, s7, .val (.long alt), .second, s10, .val (.int hd), .val (.int dp), .val (.int ci), .val (.int co), .val (.int kk), .val (.long o2), .second, .val (.int h2), .val (.int d2), .val (.int c2), .val (.long t2), .second, .val (.int b2), .val (.long l2), .second, .val (.int ex), s27, s28, s29] [])) _
                  refine XS.iload X0.here hx rfl (hb hby at_210) rfl ?_
                  show Steps p.tables e below (T0.setTop (mkF m 212 #[.val (.long off), .second, .val (.long tag), .second, .val (.long len), .second, s6, s7, .val (.long alt), .second, s10, .val (.int hd), .val (.int dp), .val (.int ci), .val (.int co), .val (.int kk), .val (.long o2), .second, .val (.int h2), .val (.int d2), .val (.int c2), .val (.long t2), .second, .val (.int b2), .val (.long l2), .second, .val (.int ex), s27, s28, s29] [(.int kk)])) _
                  refine XS.iconst X0.here hx rfl (hb hby at_212) ?_
                  show Steps p.tables e below (T0.setTop (mkF m 213 #[.val (.long off), .second, .val (.long tag), .second, .val (.long len), .second, s6, s7, .val (.long alt), .second, s10, .val (.int hd), .val (.int dp), .val (.int ci), .val (.int co), .val (.int kk), .val (.long o2), .second, .val (.int h2), .val (.int d2), .val (.int c2), .val (.long t2), .second, .val (.int b2), .val (.long l2), .second, .val (.int ex), s27, s28, s29] [(.int (5 : Int32)), (.int kk)])) _
                  refine XS.icmpNo X0.here hx rfl (hb hby at_213) rfl (teq hc213).2 ?_
                  show Steps p.tables e below (T0.setTop (mkF m 216 #[.val (.long off), .second, .val (.long tag), .second, .val (.long len), .second, s6, s7, .val (.long alt), .second, s10, .val (.int hd), .val (.int dp), .val (.int ci), .val (.int co), .val (.int kk), .val (.long o2), .second, .val (.int h2), .val (.int d2), .val (.int c2), .val (.long t2), .second, .val (.int b2), .val (.long l2), .second, .val (.int ex), s27, s28, s29] [])) _
                  refine XS.lload X0.here hx rfl (hb hby at_216) rfl ?_
                  show Steps p.tables e below (T0.setTop (mkF m 218 #[.val (.long off), .second, .val (.long tag), .second, .val (.long len), .second, s6, s7, .val (.long alt), .second, s10, .val (.int hd), .val (.int dp), .val (.int ci), .val (.int co), .val (.int kk), .val (.long o2), .second, .val (.int h2), .val (.int d2), .val (.int c2), .val (.long t2), .second, .val (.int b2), .val (.long l2), .second, .val (.int ex), s27, s28, s29] [(.long alt)])) _
                  refine XS.lconst X0.here hx rfl (hb hby at_218) ?_
                  show Steps p.tables e below (T0.setTop (mkF m 219 #[.val (.long off), .second, .val (.long tag), .second, .val (.long len), .second, s6, s7, .val (.long alt), .second, s10, .val (.int hd), .val (.int dp), .val (.int ci), .val (.int co), .val (.int kk), .val (.long o2), .second, .val (.int h2), .val (.int d2), .val (.int c2), .val (.long t2), .second, .val (.int b2), .val (.long l2), .second, .val (.int ex), s27, s28, s29] [(.long (1 : Int64)), (.long alt)])) _
                  refine XS.land X0.here hx rfl (hb hby at_219) rfl ?_
                  show Steps p.tables e below (T0.setTop (mkF m 220 #[.val (.long off), .second, .val (.long tag), .second, .val (.long len), .second, s6, s7, .val (.long alt), .second, s10, .val (.int hd), .val (.int dp), .val (.int ci), .val (.int co), .val (.int kk), .val (.long o2), .second, .val (.int h2), .val (.int d2), .val (.int c2), .val (.long t2), .second, .val (.int b2), .val (.long l2), .second, .val (.int ex), s27, s28, s29] [(.long (alt &&& (1 : Int64)))])) _
                  refine XS.lconst X0.here hx rfl (hb hby at_220) ?_
                  show Steps p.tables e below (T0.setTop (mkF m 221 #[.val (.long off), .second, .val (.long tag), .second, .val (.long len), .second, s6, s7, .val (.long alt), .second, s10, .val (.int hd), .val (.int dp), .val (.int ci), .val (.int co), .val (.int kk), .val (.long o2), .second, .val (.int h2), .val (.int d2), .val (.int c2), .val (.long t2), .second, .val (.int b2), .val (.long l2), .second, .val (.int ex), s27, s28, s29] [(.long (0 : Int64)), (.long (alt &&& (1 : Int64)))])) _
                  refine XS.lcmp X0.here hx rfl (hb hby at_221) rfl ?_
                  show Steps p.tables e below (T0.setTop (mkF m 222 #[.val (.long off), .second, .val (.long tag), .second, .val (.long len), .second, s6, s7, .val (.long alt), .second, s10, .val (.int hd), .val (.int dp), .val (.int ci), .val (.int co), .val (.int kk), .val (.long o2), .second, .val (.int h2), .val (.int d2), .val (.int c2), .val (.long t2), .second, .val (.int b2), .val (.long l2), .second, .val (.int ex), s27, s28, s29] [(.int (lcmpW (alt &&& (1 : Int64)) (0 : Int64)))])) _
                  refine XS.ifNo X0.here hx rfl (hb hby at_222) rfl ((if0 _ _).trans (feq hc222).1) ?_
                  show Steps p.tables e below (T0.setTop (mkF m 225 #[.val (.long off), .second, .val (.long tag), .second, .val (.long len), .second, s6, s7, .val (.long alt), .second, s10, .val (.int hd), .val (.int dp), .val (.int ci), .val (.int co), .val (.int kk), .val (.long o2), .second, .val (.int h2), .val (.int d2), .val (.int c2), .val (.long t2), .second, .val (.int b2), .val (.long l2), .second, .val (.int ex), s27, s28, s29] [])) _
                  refine XS.iconst X0.here hx rfl (hb hby at_225) ?_
                  show Steps p.tables e below (T0.setTop (mkF m 226 #[.val (.long off), .second, .val (.long tag), .second, .val (.long len), .second, s6, s7, .val (.long alt), .second, s10, .val (.int hd), .val (.int dp), .val (.int ci), .val (.int co), .val (.int kk), .val (.long o2), .second, .val (.int h2), .val (.int d2), .val (.int c2), .val (.long t2), .second, .val (.int b2), .val (.long l2), .second, .val (.int ex), s27, s28, s29] [(.int (1 : Int32))])) _
                  refine XS.goto X0.here hx rfl (pc0 := 226) (pc' := 230) rfl (hb hby at_226) (by decide) (by decide) ?_
                  show Steps p.tables e below (T0.setTop (mkF m 230 #[.val (.long off), .second, .val (.long tag), .second, .val (.long len), .second, s6, s7, .val (.long alt), .second, s10, .val (.int hd), .val (.int dp), .val (.int ci), .val (.int co), .val (.int kk), .val (.long o2), .second, .val (.int h2), .val (.int d2), .val (.int c2), .val (.long t2), .second, .val (.int b2), .val (.long l2), .second, .val (.int ex), s27, s28, s29] [(.int (1 : Int32))])) _
                  refine XS.istore X0.here hx rfl (hb hby at_230) rfl (l' := #[.val (.long off), .second, .val (.long tag), .second, .val (.long len), .second, s6, s7, .val (.long alt), .second, s10, .val (.int hd), .val (.int dp), .val (.int ci), .val (.int co), .val (.int kk), .val (.long o2), .second, .val (.int h2), .val (.int d2), .val (.int c2), .val (.long t2), .second, .val (.int (1 : Int32)), .val (.long l2), .second, .val (.int ex), s27, s28, s29]) rfl ?_
                  show Steps p.tables e below (T0.setTop (mkF m 232 #[.val (.long off), .second, .val (.long tag), .second, .val (.long len), .second, s6, s7, .val (.long alt), .second, s10, .val (.int hd), .val (.int dp), .val (.int ci), .val (.int co), .val (.int kk), .val (.long o2), .second, .val (.int h2), .val (.int d2), .val (.int c2), .val (.long t2), .second, .val (.int (1 : Int32)), .val (.long l2), .second, .val (.int ex), s27, s28, s29] [])) _
                  refine XS.iload X0.here hx rfl (hb hby at_232) rfl ?_
                  show Steps p.tables e below (T0.setTop (mkF m 234 #[.val (.long off), .second, .val (.long tag), .second, .val (.long len), .second, s6, s7, .val (.long alt), .second, s10, .val (.int hd), .val (.int dp), .val (.int ci), .val (.int co), .val (.int kk), .val (.long o2), .second, .val (.int h2), .val (.int d2), .val (.int c2), .val (.long t2), .second, .val (.int (1 : Int32)), .val (.long l2), .second, .val (.int ex), s27, s28, s29] [(.int co)])) _
                  refine XS.iload X0.here hx rfl (hb hby at_234) rfl ?_
                  show Steps p.tables e below (T0.setTop (mkF m 236 #[.val (.long off), .second, .val (.long tag), .second, .val (.long len), .second, s6, s7, .val (.long alt), .second, s10, .val (.int hd), .val (.int dp), .val (.int ci), .val (.int co), .val (.int kk), .val (.long o2), .second, .val (.int h2), .val (.int d2), .val (.int c2), .val (.long t2), .second, .val (.int (1 : Int32)), .val (.long l2), .second, .val (.int ex), s27, s28, s29] [(.int (1 : Int32)), (.int co)])) _
                  refine XS.icmpYes X0.here hx rfl (pc0 := 236) (pc' := 243) rfl (hb hby at_236) rfl (feq hc236).2 (by decide) (by decide) ?_
                  show Steps p.tables e below (T0.setTop (mkF m 243 #[.val (.long off), .second, .val (.long tag), .second, .val (.long len), .second, s6, s7, .val (.long alt), .second, s10, .val (.int hd), .val (.int dp), .val (.int ci), .val (.int co), .val (.int kk), .val (.long o2), .second, .val (.int h2), .val (.int d2), .val (.int c2), .val (.long t2), .second, .val (.int (1 : Int32)), .val (.long l2), .second, .val (.int ex), s27, s28, s29] [])) _
                  refine XS.iconst X0.here hx rfl (hb hby at_243) ?_
                  show Steps p.tables e below (T0.setTop (mkF m 244 #[.val (.long off), .second, .val (.long tag), .second, .val (.long len), .second, s6, s7, .val (.long alt), .second, s10, .val (.int hd), .val (.int dp), .val (.int ci), .val (.int co), .val (.int kk), .val (.long o2), .second, .val (.int h2), .val (.int d2), .val (.int c2), .val (.long t2), .second, .val (.int (1 : Int32)), .val (.long l2), .second, .val (.int ex), s27, s28, s29] [(.int (0 : Int32))])) _
                  refine XS.istore X0.here hx rfl (hb hby at_244) rfl (l' := #[.val (.long off), .second, .val (.long tag), .second, .val (.long len), .second, s6, s7, .val (.long alt), .second, s10, .val (.int hd), .val (.int dp), .val (.int ci), .val (.int co), .val (.int kk), .val (.long o2), .second, .val (.int h2), .val (.int d2), .val (.int c2), .val (.long t2), .second, .val (.int (1 : Int32)), .val (.long l2), .second, .val (.int (0 : Int32)), s27, s28, s29]) rfl ?_
                  show Steps p.tables e below (T0.setTop (mkF m 246 #[.val (.long off), .second, .val (.long tag), .second, .val (.long len), .second, s6, s7, .val (.long alt), .second, s10, .val (.int hd), .val (.int dp), .val (.int ci), .val (.int co), .val (.int kk), .val (.long o2), .second, .val (.int h2), .val (.int d2), .val (.int c2), .val (.long t2), .second, .val (.int (1 : Int32)), .val (.long l2), .second, .val (.int (0 : Int32)), s27, s28, s29] [])) _
                  refine XS.goto X0.here hx rfl (pc0 := 246) (pc' := 275) rfl (hb hby at_246) (by decide) (by decide) ?_
                  show Steps p.tables e below (T0.setTop (mkF m 275 #[.val (.long off), .second, .val (.long tag), .second, .val (.long len), .second, s6, s7, .val (.long alt), .second, s10, .val (.int hd), .val (.int dp), .val (.int ci), .val (.int co), .val (.int kk), .val (.long o2), .second, .val (.int h2), .val (.int d2), .val (.int c2), .val (.long t2), .second, .val (.int (1 : Int32)), .val (.long l2), .second, .val (.int (0 : Int32)), s27, s28, s29] [])) _
                  exact kt
            ·
              by_cases hc253 : kk = (6 : Int32)
              ·
                by_cases hc265 : (lcmpW len alt) = (0 : Int32)
                ·
                  simp only [if_neg hc73] at hv0
                  rw [hv0] at kt
                  simp only [if_neg hc73, if_neg hc100] at hv1
                  rw [hv1] at kt
                  simp only [if_neg hc73, if_neg hc100, if_neg hc128] at hv2
                  rw [hv2] at kt
                  simp only [if_neg hc73, if_neg hc100, if_neg hc128, if_neg hc156] at hv3
                  rw [hv3] at kt
                  simp only [if_neg hc73, if_neg hc100, if_neg hc128, if_neg hc156, if_neg hc186] at hv4
                  rw [hv4] at kt
                  simp only [if_neg hc73, if_neg hc100, if_neg hc128, if_neg hc156, if_neg hc186, if_neg hc213] at hv5
                  rw [hv5] at kt
                  simp only [if_neg hc73, if_neg hc100, if_neg hc128, if_neg hc156, if_neg hc186, if_neg hc213, if_pos hc253] at hv6
                  rw [hv6] at kt
                  simp only [if_neg hc73, if_neg hc100, if_neg hc128, if_neg hc156, if_neg hc186, if_neg hc213, if_pos hc253, if_pos hc265] at hv7
                  rw [hv7] at kt
                  show Steps p.tables e below (T0.setTop (mkF m 71 #[.val (.long off), .second, .val (.long tag), .second, .val (.long len), .second, s6, s7, .val (.long alt), .second, s10, .val (.int hd), .val (.int dp), .val (.int ci), .val (.int co), .val (.int kk), .val (.long o2), .second, .val (.int h2), .val (.int d2), .val (.int c2), .val (.long t2), .second, .val (.int b2), .val (.long l2), .second, .val (.int ex), s27, s28, s29] [])) _
                  refine XS.iload X0.here hx rfl (hb hby at_71) rfl ?_
                  show Steps p.tables e below (T0.setTop (mkF m 73 #[.val (.long off), .second, .val (.long tag), .second, .val (.long len), .second, s6, s7, .val (.long alt), .second, s10, .val (.int hd), .val (.int dp), .val (.int ci), .val (.int co), .val (.int kk), .val (.long o2), .second, .val (.int h2), .val (.int d2), .val (.int c2), .val (.long t2), .second, .val (.int b2), .val (.long l2), .second, .val (.int ex), s27, s28, s29] [(.int kk)])) _
                  refine XS.ifYes X0.here hx rfl (pc0 := 73) (pc' := 97) rfl (hb hby at_73) rfl ((if0 _ _).trans (feq hc73).2) (by decide) (by decide) ?_
                  show Steps p.tables e below (T0.setTop (mkF m 97 #[.val (.long off), .second, .val (.long tag), .second, .val (.long len), .second, s6, s7, .val (.long alt), .second, s10, .val (.int hd), .val (.int dp), .val (.int ci), .val (.int co), .val (.int kk), .val (.long o2), .second, .val (.int h2), .val (.int d2), .val (.int c2), .val (.long t2), .second, .val (.int b2), .val (.long l2), .second, .val (.int ex), s27, s28, s29] [])) _
                  refine XS.iload X0.here hx rfl (hb hby at_97) rfl ?_
                  show Steps p.tables e below (T0.setTop (mkF m 99 #[.val (.long off), .second, .val (.long tag), .second, .val (.long len), .second, s6, s7, .val (.long alt), .second, s10, .val (.int hd), .val (.int dp), .val (.int ci), .val (.int co), .val (.int kk), .val (.long o2), .second, .val (.int h2), .val (.int d2), .val (.int c2), .val (.long t2), .second, .val (.int b2), .val (.long l2), .second, .val (.int ex), s27, s28, s29] [(.int kk)])) _
                  refine XS.iconst X0.here hx rfl (hb hby at_99) ?_
                  show Steps p.tables e below (T0.setTop (mkF m 100 #[.val (.long off), .second, .val (.long tag), .second, .val (.long len), .second, s6, s7, .val (.long alt), .second, s10, .val (.int hd), .val (.int dp), .val (.int ci), .val (.int co), .val (.int kk), .val (.long o2), .second, .val (.int h2), .val (.int d2), .val (.int c2), .val (.long t2), .second, .val (.int b2), .val (.long l2), .second, .val (.int ex), s27, s28, s29] [(.int (1 : Int32)), (.int kk)])) _
                  refine XS.icmpYes X0.here hx rfl (pc0 := 100) (pc' := 125) rfl (hb hby at_100) rfl (feq hc100).2 (by decide) (by decide) ?_
                  show Steps p.tables e below (T0.setTop (mkF m 125 #[.val (.long off), .second, .val (.long tag), .second, .val (.long len), .second, s6, s7, .val (.long alt), .second, s10, .val (.int hd), .val (.int dp), .val (.int ci), .val (.int co), .val (.int kk), .val (.long o2), .second, .val (.int h2), .val (.int d2), .val (.int c2), .val (.long t2), .second, .val (.int b2), .val (.long l2), .second, .val (.int ex), s27, s28, s29] [])) _
                  refine XS.iload X0.here hx rfl (hb hby at_125) rfl ?_
                  show Steps p.tables e below (T0.setTop (mkF m 127 #[.val (.long off), .second, .val (.long tag), .second, .val (.long len), .second, s6, s7, .val (.long alt), .second, s10, .val (.int hd), .val (.int dp), .val (.int ci), .val (.int co), .val (.int kk), .val (.long o2), .second, .val (.int h2), .val (.int d2), .val (.int c2), .val (.long t2), .second, .val (.int b2), .val (.long l2), .second, .val (.int ex), s27, s28, s29] [(.int kk)])) _
                  refine XS.iconst X0.here hx rfl (hb hby at_127) ?_
                  show Steps p.tables e below (T0.setTop (mkF m 128 #[.val (.long off), .second, .val (.long tag), .second, .val (.long len), .second, s6, s7, .val (.long alt), .second, s10, .val (.int hd), .val (.int dp), .val (.int ci), .val (.int co), .val (.int kk), .val (.long o2), .second, .val (.int h2), .val (.int d2), .val (.int c2), .val (.long t2), .second, .val (.int b2), .val (.long l2), .second, .val (.int ex), s27, s28, s29] [(.int (2 : Int32)), (.int kk)])) _
                  refine XS.icmpYes X0.here hx rfl (pc0 := 128) (pc' := 153) rfl (hb hby at_128) rfl (feq hc128).2 (by decide) (by decide) ?_
                  show Steps p.tables e below (T0.setTop (mkF m 153 #[.val (.long off), .second, .val (.long tag), .second, .val (.long len), .second, s6, s7, .val (.long alt), .second, s10, .val (.int hd), .val (.int dp), .val (.int ci), .val (.int co), .val (.int kk), .val (.long o2), .second, .val (.int h2), .val (.int d2), .val (.int c2), .val (.long t2), .second, .val (.int b2), .val (.long l2), .second, .val (.int ex), s27, s28, s29] [])) _
                  refine XS.iload X0.here hx rfl (hb hby at_153) rfl ?_
                  show Steps p.tables e below (T0.setTop (mkF m 155 #[.val (.long off), .second, .val (.long tag), .second, .val (.long len), .second, s6, s7, .val (.long alt), .second, s10, .val (.int hd), .val (.int dp), .val (.int ci), .val (.int co), .val (.int kk), .val (.long o2), .second, .val (.int h2), .val (.int d2), .val (.int c2), .val (.long t2), .second, .val (.int b2), .val (.long l2), .second, .val (.int ex), s27, s28, s29] [(.int kk)])) _
                  refine XS.iconst X0.here hx rfl (hb hby at_155) ?_
                  show Steps p.tables e below (T0.setTop (mkF m 156 #[.val (.long off), .second, .val (.long tag), .second, .val (.long len), .second, s6, s7, .val (.long alt), .second, s10, .val (.int hd), .val (.int dp), .val (.int ci), .val (.int co), .val (.int kk), .val (.long o2), .second, .val (.int h2), .val (.int d2), .val (.int c2), .val (.long t2), .second, .val (.int b2), .val (.long l2), .second, .val (.int ex), s27, s28, s29] [(.int (3 : Int32)), (.int kk)])) _
                  refine XS.icmpYes X0.here hx rfl (pc0 := 156) (pc' := 183) rfl (hb hby at_156) rfl (feq hc156).2 (by decide) (by decide) ?_
                  show Steps p.tables e below (T0.setTop (mkF m 183 #[.val (.long off), .second, .val (.long tag), .second, .val (.long len), .second, s6, s7, .val (.long alt), .second, s10, .val (.int hd), .val (.int dp), .val (.int ci), .val (.int co), .val (.int kk), .val (.long o2), .second, .val (.int h2), .val (.int d2), .val (.int c2), .val (.long t2), .second, .val (.int b2), .val (.long l2), .second, .val (.int ex), s27, s28, s29] [])) _
                  refine XS.iload X0.here hx rfl (hb hby at_183) rfl ?_
                  show Steps p.tables e below (T0.setTop (mkF m 185 #[.val (.long off), .second, .val (.long tag), .second, .val (.long len), .second, s6, s7, .val (.long alt), .second, s10, .val (.int hd), .val (.int dp), .val (.int ci), .val (.int co), .val (.int kk), .val (.long o2), .second, .val (.int h2), .val (.int d2), .val (.int c2), .val (.long t2), .second, .val (.int b2), .val (.long l2), .second, .val (.int ex), s27, s28, s29] [(.int kk)])) _
                  refine XS.iconst X0.here hx rfl (hb hby at_185) ?_
                  show Steps p.tables e below (T0.setTop (mkF m 186 #[.val (.long off), .second, .val (.long tag), .second, .val (.long len), .second, s6, s7, .val (.long alt), .second, s10, .val (.int hd), .val (.int dp), .val (.int ci), .val (.int co), .val (.int kk), .val (.long o2), .second, .val (.int h2), .val (.int d2), .val (.int c2), .val (.long t2), .second, .val (.int b2), .val (.long l2), .second, .val (.int ex), s27, s28, s29] [(.int (4 : Int32)), (.int kk)])) _
                  refine XS.icmpYes X0.here hx rfl (pc0 := 186) (pc' := 210) rfl (hb hby at_186) rfl (feq hc186).2 (by decide) (by decide) ?_
                  show Steps p.tables e below (T0.setTop (mkF m 210 #[.val (.long off), .second, .val (.long tag), .second, .val (.long len), .second, s6, s7, .val (.long alt), .second, s10, .val (.int hd), .val (.int dp), .val (.int ci), .val (.int co), .val (.int kk), .val (.long o2), .second, .val (.int h2), .val (.int d2), .val (.int c2), .val (.long t2), .second, .val (.int b2), .val (.long l2), .second, .val (.int ex), s27, s28, s29] [])) _
                  refine XS.iload X0.here hx rfl (hb hby at_210) rfl ?_
                  show Steps p.tables e below (T0.setTop (mkF m 212 #[.val (.long off), .second, .val (.long tag), .second, .val (.long len), .second, s6, s7, .val (.long alt), .second, s10, .val (.int hd), .val (.int dp), .val (.int ci), .val (.int co), .val (.int kk), .val (.long o2), .second, .val (.int h2), .val (.int d2), .val (.int c2), .val (.long t2), .second, .val (.int b2), .val (.long l2), .second, .val (.int ex), s27, s28, s29] [(.int kk)])) _
                  refine XS.iconst X0.here hx rfl (hb hby at_212) ?_
                  show Steps p.tables e below (T0.setTop (mkF m 213 #[.val (.long off), .second, .val (.long tag), .second, .val (.long len), .second, s6, s7, .val (.long alt), .second, s10, .val (.int hd), .val (.int dp), .val (.int ci), .val (.int co), .val (.int kk), .val (.long o2), .second, .val (.int h2), .val (.int d2), .val (.int c2), .val (.long t2), .second, .val (.int b2), .val (.long l2), .second, .val (.int ex), s27, s28, s29] [(.int (5 : Int32)), (.int kk)])) _
                  refine XS.icmpYes X0.here hx rfl (pc0 := 213) (pc' := 249) rfl (hb hby at_213) rfl (feq hc213).2 (by decide) (by decide) ?_
                  show Steps p.tables e below (T0.setTop (mkF m 249 #[.val (.long off), .second, .val (.long tag), .second, .val (.long len), .second, s6, s7, .val (.long alt), .second, s10, .val (.int hd), .val (.int dp), .val (.int ci), .val (.int co), .val (.int kk), .val (.long o2), .second, .val (.int h2), .val (.int d2), .val (.int c2), .val (.long t2), .second, .val (.int b2), .val (.long l2), .second, .val (.int ex), s27, s28, s29] [])) _
                  refine XS.iload X0.here hx rfl (hb hby at_249) rfl ?_
                  show Steps p.tables e below (T0.setTop (mkF m 251 #[.val (.long off), .second, .val (.long tag), .second, .val (.long len), .second, s6, s7, .val (.long alt), .second, s10, .val (.int hd), .val (.int dp), .val (.int ci), .val (.int co), .val (.int kk), .val (.long o2), .second, .val (.int h2), .val (.int d2), .val (.int c2), .val (.long t2), .second, .val (.int b2), .val (.long l2), .second, .val (.int ex), s27, s28, s29] [(.int kk)])) _
                  refine XS.bipush X0.here hx rfl (hb hby at_251) ?_
                  show Steps p.tables e below (T0.setTop (mkF m 253 #[.val (.long off), .second, .val (.long tag), .second, .val (.long len), .second, s6, s7, .val (.long alt), .second, s10, .val (.int hd), .val (.int dp), .val (.int ci), .val (.int co), .val (.int kk), .val (.long o2), .second, .val (.int h2), .val (.int d2), .val (.int c2), .val (.long t2), .second, .val (.int b2), .val (.long l2), .second, .val (.int ex), s27, s28, s29] [(.int (6 : Int32)), (.int kk)])) _
                  refine XS.icmpNo X0.here hx rfl (hb hby at_253) rfl (teq hc253).2 ?_
                  show Steps p.tables e below (T0.setTop (mkF m 256 #[.val (.long off), .second, .val (.long tag), .second, .val (.long len), .second, s6, s7, .val (.long alt), .second, s10, .val (.int hd), .val (.int dp), .val (.int ci), .val (.int co), .val (.int kk), .val (.long o2), .second, .val (.int h2), .val (.int d2), .val (.int c2), .val (.long t2), .second, .val (.int b2), .val (.long l2), .second, .val (.int ex), s27, s28, s29] [])) _
                  refine XS.lload X0.here hx rfl (hb hby at_256) rfl ?_
                  show Steps p.tables e below (T0.setTop (mkF m 258 #[.val (.long off), .second, .val (.long tag), .second, .val (.long len), .second, s6, s7, .val (.long alt), .second, s10, .val (.int hd), .val (.int dp), .val (.int ci), .val (.int co), .val (.int kk), .val (.long o2), .second, .val (.int h2), .val (.int d2), .val (.int c2), .val (.long t2), .second, .val (.int b2), .val (.long l2), .second, .val (.int ex), s27, s28, s29] [(.long alt)])) _
                  refine XS.lstore X0.here hx rfl (hb hby at_258) rfl (l' := #[.val (.long off), .second, .val (.long tag), .second, .val (.long len), .second, s6, s7, .val (.long alt), .second, s10, .val (.int hd), .val (.int dp), .val (.int ci), .val (.int co), .val (.int kk), .val (.long o2), .second, .val (.int h2), .val (.int d2), .val (.int c2), .val (.long t2), .second, .val (.int b2), .val (.long alt), .second, .val (.int ex), s27, s28, s29]) rfl ?_
                  show Steps p.tables e below (T0.setTop (mkF m 260 #[.val (.long off), .second, .val (.long tag), .second, .val (.long len), .second, s6, s7, .val (.long alt), .second, s10, .val (.int hd), .val (.int dp), .val (.int ci), .val (.int co), .val (.int kk), .val (.long o2), .second, .val (.int h2), .val (.int d2), .val (.int c2), .val (.long t2), .second, .val (.int b2), .val (.long alt), .second, .val (.int ex), s27, s28, s29] [])) _
                  refine XS.lload X0.here hx rfl (hb hby at_260) rfl ?_
                  show Steps p.tables e below (T0.setTop (mkF m 262 #[.val (.long off), .second, .val (.long tag), .second, .val (.long len), .second, s6, s7, .val (.long alt), .second, s10, .val (.int hd), .val (.int dp), .val (.int ci), .val (.int co), .val (.int kk), .val (.long o2), .second, .val (.int h2), .val (.int d2), .val (.int c2), .val (.long t2), .second, .val (.int b2), .val (.long alt), .second, .val (.int ex), s27, s28, s29] [(.long len)])) _
                  refine XS.lload X0.here hx rfl (hb hby at_262) rfl ?_
                  show Steps p.tables e below (T0.setTop (mkF m 264 #[.val (.long off), .second, .val (.long tag), .second, .val (.long len), .second, s6, s7, .val (.long alt), .second, s10, .val (.int hd), .val (.int dp), .val (.int ci), .val (.int co), .val (.int kk), .val (.long o2), .second, .val (.int h2), .val (.int d2), .val (.int c2), .val (.long t2), .second, .val (.int b2), .val (.long alt), .second, .val (.int ex), s27, s28, s29] [(.long alt), (.long len)])) _
                  refine XS.lcmp X0.here hx rfl (hb hby at_264) rfl ?_
                  show Steps p.tables e below (T0.setTop (mkF m 265 #[.val (.long off), .second, .val (.long tag), .second, .val (.long len), .second, s6, s7, .val (.long alt), .second, s10, .val (.int hd), .val (.int dp), .val (.int ci), .val (.int co), .val (.int kk), .val (.long o2), .second, .val (.int h2), .val (.int d2), .val (.int c2), .val (.long t2), .second, .val (.int b2), .val (.long alt), .second, .val (.int ex), s27, s28, s29] [(.int (lcmpW len alt))])) _
                  refine XS.ifNo X0.here hx rfl (hb hby at_265) rfl ((if0 _ _).trans (teq hc265).2) ?_
                  show Steps p.tables e below (T0.setTop (mkF m 268 #[.val (.long off), .second, .val (.long tag), .second, .val (.long len), .second, s6, s7, .val (.long alt), .second, s10, .val (.int hd), .val (.int dp), .val (.int ci), .val (.int co), .val (.int kk), .val (.long o2), .second, .val (.int h2), .val (.int d2), .val (.int c2), .val (.long t2), .second, .val (.int b2), .val (.long alt), .second, .val (.int ex), s27, s28, s29] [])) _
                  refine XS.iconst X0.here hx rfl (hb hby at_268) ?_
                  show Steps p.tables e below (T0.setTop (mkF m 269 #[.val (.long off), .second, .val (.long tag), .second, .val (.long len), .second, s6, s7, .val (.long alt), .second, s10, .val (.int hd), .val (.int dp), .val (.int ci), .val (.int co), .val (.int kk), .val (.long o2), .second, .val (.int h2), .val (.int d2), .val (.int c2), .val (.long t2), .second, .val (.int b2), .val (.long alt), .second, .val (.int ex), s27, s28, s29] [(.int (1 : Int32))])) _
                  refine XS.goto X0.here hx rfl (pc0 := 269) (pc' := 273) rfl (hb hby at_269) (by decide) (by decide) ?_
                  show Steps p.tables e below (T0.setTop (mkF m 273 #[.val (.long off), .second, .val (.long tag), .second, .val (.long len), .second, s6, s7, .val (.long alt), .second, s10, .val (.int hd), .val (.int dp), .val (.int ci), .val (.int co), .val (.int kk), .val (.long o2), .second, .val (.int h2), .val (.int d2), .val (.int c2), .val (.long t2), .second, .val (.int b2), .val (.long alt), .second, .val (.int ex), s27, s28, s29] [(.int (1 : Int32))])) _
                  refine XS.istore X0.here hx rfl (hb hby at_273) rfl (l' := #[.val (.long off), .second, .val (.long tag), .second, .val (.long len), .second, s6, s7, .val (.long alt), .second, s10, .val (.int hd), .val (.int dp), .val (.int ci), .val (.int co), .val (.int kk), .val (.long o2), .second, .val (.int h2), .val (.int d2), .val (.int c2), .val (.long t2), .second, .val (.int b2), .val (.long alt), .second, .val (.int (1 : Int32)), s27, s28, s29]) rfl ?_
                  show Steps p.tables e below (T0.setTop (mkF m 275 #[.val (.long off), .second, .val (.long tag), .second, .val (.long len), .second, s6, s7, .val (.long alt), .second, s10, .val (.int hd), .val (.int dp), .val (.int ci), .val (.int co), .val (.int kk), .val (.long o2), .second, .val (.int h2), .val (.int d2), .val (.int c2), .val (.long t2), .second, .val (.int b2), .val (.long alt), .second, .val (.int (1 : Int32)), s27, s28, s29] [])) _
                  exact kt
                ·
                  simp only [if_neg hc73] at hv0
                  rw [hv0] at kt
                  simp only [if_neg hc73, if_neg hc100] at hv1
                  rw [hv1] at kt
                  simp only [if_neg hc73, if_neg hc100, if_neg hc128] at hv2
                  rw [hv2] at kt
                  simp only [if_neg hc73, if_neg hc100, if_neg hc128, if_neg hc156] at hv3
                  rw [hv3] at kt
                  simp only [if_neg hc73, if_neg hc100, if_neg hc128, if_neg hc156, if_neg hc186] at hv4
                  rw [hv4] at kt
                  simp only [if_neg hc73, if_neg hc100, if_neg hc128, if_neg hc156, if_neg hc186, if_neg hc213] at hv5
                  rw [hv5] at kt
                  simp only [if_neg hc73, if_neg hc100, if_neg hc128, if_neg hc156, if_neg hc186, if_neg hc213, if_pos hc253] at hv6
                  rw [hv6] at kt
                  simp only [if_neg hc73, if_neg hc100, if_neg hc128, if_neg hc156, if_neg hc186, if_neg hc213, if_pos hc253, if_neg hc265] at hv7
                  rw [hv7] at kt
                  show Steps p.tables e below (T0.setTop (mkF m 71 #[.val (.long off), .second, .val (.long tag), .second, .val (.long len), .second, s6, s7, .val (.long alt), .second, s10, .val (.int hd), .val (.int dp), .val (.int ci), .val (.int co), .val (.int kk), .val (.long o2), .second, .val (.int h2), .val (.int d2), .val (.int c2), .val (.long t2), .second, .val (.int b2), .val (.long l2), .second, .val (.int ex), s27, s28, s29] [])) _
                  refine XS.iload X0.here hx rfl (hb hby at_71) rfl ?_
                  show Steps p.tables e below (T0.setTop (mkF m 73 #[.val (.long off), .second, .val (.long tag), .second, .val (.long len), .second, s6, s7, .val (.long alt), .second, s10, .val (.int hd), .val (.int dp), .val (.int ci), .val (.int co), .val (.int kk), .val (.long o2), .second, .val (.int h2), .val (.int d2), .val (.int c2), .val (.long t2), .second, .val (.int b2), .val (.long l2), .second, .val (.int ex), s27, s28, s29] [(.int kk)])) _
                  refine XS.ifYes X0.here hx rfl (pc0 := 73) (pc' := 97) rfl (hb hby at_73) rfl ((if0 _ _).trans (feq hc73).2) (by decide) (by decide) ?_
                  show Steps p.tables e below (T0.setTop (mkF m 97 #[.val (.long off), .second, .val (.long tag), .second, .val (.long len), .second, s6, s7, .val (.long alt), .second, s10, .val (.int hd), .val (.int dp), .val (.int ci), .val (.int co), .val (.int kk), .val (.long o2), .second, .val (.int h2), .val (.int d2), .val (.int c2), .val (.long t2), .second, .val (.int b2), .val (.long l2), .second, .val (.int ex), s27, s28, s29] [])) _
                  refine XS.iload X0.here hx rfl (hb hby at_97) rfl ?_
                  show Steps p.tables e below (T0.setTop (mkF m 99 #[.val (.long off), .second, .val (.long tag), .second, .val (.long len), .second, s6, s7, .val (.long alt), .second, s10, .val (.int hd), .val (.int dp), .val (.int ci), .val (.int co), .val (.int kk), .val (.long o2), .second, .val (.int h2), .val (.int d2), .val (.int c2), .val (.long t2), .second, .val (.int b2), .val (.long l2), .second, .val (.int ex), s27, s28, s29] [(.int kk)])) _
                  refine XS.iconst X0.here hx rfl (hb hby at_99) ?_
                  show Steps p.tables e below (T0.setTop (mkF m 100 #[.val (.long off), .second, .val (.long tag), .second, .val (.long len), .second, s6, s7, .val (.long alt), .second, s10, .val (.int hd), .val (.int dp), .val (.int ci), .val (.int co), .val (.int kk), .val (.long o2), .second, .val (.int h2), .val (.int d2), .val (.int c2), .val (.long t2), .second, .val (.int b2), .val (.long l2), .second, .val (.int ex), s27, s28, s29] [(.int (1 : Int32)), (.int kk)])) _
                  refine XS.icmpYes X0.here hx rfl (pc0 := 100) (pc' := 125) rfl (hb hby at_100) rfl (feq hc100).2 (by decide) (by decide) ?_
                  show Steps p.tables e below (T0.setTop (mkF m 125 #[.val (.long off), .second, .val (.long tag), .second, .val (.long len), .second, s6, s7, .val (.long alt), .second, s10, .val (.int hd), .val (.int dp), .val (.int ci), .val (.int co), .val (.int kk), .val (.long o2), .second, .val (.int h2), .val (.int d2), .val (.int c2), .val (.long t2), .second, .val (.int b2), .val (.long l2), .second, .val (.int ex), s27, s28, s29] [])) _
                  refine XS.iload X0.here hx rfl (hb hby at_125) rfl ?_
                  show Steps p.tables e below (T0.setTop (mkF m 127 #[.val (.long off), .second, .val (.long tag), .second, .val (.long len), .second, s6, s7, .val (.long alt), .second, s10, .val (.int hd), .val (.int dp), .val (.int ci), .val (.int co), .val (.int kk), .val (.long o2), .second, .val (.int h2), .val (.int d2), .val (.int c2), .val (.long t2), .second, .val (.int b2), .val (.long l2), .second, .val (.int ex), s27, s28, s29] [(.int kk)])) _
                  refine XS.iconst X0.here hx rfl (hb hby at_127) ?_
                  show Steps p.tables e below (T0.setTop (mkF m 128 #[.val (.long off), .second, .val (.long tag), .second, .val (.long len), .second, s6, s7, .val (.long alt), .second, s10, .val (.int hd), .val (.int dp), .val (.int ci), .val (.int co), .val (.int kk), .val (.long o2), .second, .val (.int h2), .val (.int d2), .val (.int c2), .val (.long t2), .second, .val (.int b2), .val (.long l2), .second, .val (.int ex), s27, s28, s29] [(.int (2 : Int32)), (.int kk)])) _
                  refine XS.icmpYes X0.here hx rfl (pc0 := 128) (pc' := 153) rfl (hb hby at_128) rfl (feq hc128).2 (by decide) (by decide) ?_
                  show Steps p.tables e below (T0.setTop (mkF m 153 #[.val (.long off), .second, .val (.long tag), .second, .val (.long len), .second, s6, s7, .val (.long alt), .second, s10, .val (.int hd), .val (.int dp), .val (.int ci), .val (.int co), .val (.int kk), .val (.long o2), .second, .val (.int h2), .val (.int d2), .val (.int c2), .val (.long t2), .second, .val (.int b2), .val (.long l2), .second, .val (.int ex), s27, s28, s29] [])) _
                  refine XS.iload X0.here hx rfl (hb hby at_153) rfl ?_
                  show Steps p.tables e below (T0.setTop (mkF m 155 #[.val (.long off), .second, .val (.long tag), .second, .val (.long len), .second, s6, s7, .val (.long alt), .second, s10, .val (.int hd), .val (.int dp), .val (.int ci), .val (.int co), .val (.int kk), .val (.long o2), .second, .val (.int h2), .val (.int d2), .val (.int c2), .val (.long t2), .second, .val (.int b2), .val (.long l2), .second, .val (.int ex), s27, s28, s29] [(.int kk)])) _
                  refine XS.iconst X0.here hx rfl (hb hby at_155) ?_
                  show Steps p.tables e below (T0.setTop (mkF m 156 #[.val (.long off), .second, .val (.long tag), .second, .val (.long len), .second, s6, s7, .val (.long alt), .second, s10, .val (.int hd), .val (.int dp), .val (.int ci), .val (.int co), .val (.int kk), .val (.long o2), .second, .val (.int h2), .val (.int d2), .val (.int c2), .val (.long t2), .second, .val (.int b2), .val (.long l2), .second, .val (.int ex), s27, s28, s29] [(.int (3 : Int32)), (.int kk)])) _
                  refine XS.icmpYes X0.here hx rfl (pc0 := 156) (pc' := 183) rfl (hb hby at_156) rfl (feq hc156).2 (by decide) (by decide) ?_
                  show Steps p.tables e below (T0.setTop (mkF m 183 #[.val (.long off), .second, .val (.long tag), .second, .val (.long len), .second, s6, s7, .val (.long alt), .second, s10, .val (.int hd), .val (.int dp), .val (.int ci), .val (.int co), .val (.int kk), .val (.long o2), .second, .val (.int h2), .val (.int d2), .val (.int c2), .val (.long t2), .second, .val (.int b2), .val (.long l2), .second, .val (.int ex), s27, s28, s29] [])) _
                  refine XS.iload X0.here hx rfl (hb hby at_183) rfl ?_
                  show Steps p.tables e below (T0.setTop (mkF m 185 #[.val (.long off), .second, .val (.long tag), .second, .val (.long len), .second, s6, s7, .val (.long alt), .second, s10, .val (.int hd), .val (.int dp), .val (.int ci), .val (.int co), .val (.int kk), .val (.long o2), .second, .val (.int h2), .val (.int d2), .val (.int c2), .val (.long t2), .second, .val (.int b2), .val (.long l2), .second, .val (.int ex), s27, s28, s29] [(.int kk)])) _
                  refine XS.iconst X0.here hx rfl (hb hby at_185) ?_
                  show Steps p.tables e below (T0.setTop (mkF m 186 #[.val (.long off), .second, .val (.long tag), .second, .val (.long len), .second, s6, s7, .val (.long alt), .second, s10, .val (.int hd), .val (.int dp), .val (.int ci), .val (.int co), .val (.int kk), .val (.long o2), .second, .val (.int h2), .val (.int d2), .val (.int c2), .val (.long t2), .second, .val (.int b2), .val (.long l2), .second, .val (.int ex), s27, s28, s29] [(.int (4 : Int32)), (.int kk)])) _
                  refine XS.icmpYes X0.here hx rfl (pc0 := 186) (pc' := 210) rfl (hb hby at_186) rfl (feq hc186).2 (by decide) (by decide) ?_
                  show Steps p.tables e below (T0.setTop (mkF m 210 #[.val (.long off), .second, .val (.long tag), .second, .val (.long len), .second, s6, s7, .val (.long alt), .second, s10, .val (.int hd), .val (.int dp), .val (.int ci), .val (.int co), .val (.int kk), .val (.long o2), .second, .val (.int h2), .val (.int d2), .val (.int c2), .val (.long t2), .second, .val (.int b2), .val (.long l2), .second, .val (.int ex), s27, s28, s29] [])) _
                  refine XS.iload X0.here hx rfl (hb hby at_210) rfl ?_
                  show Steps p.tables e below (T0.setTop (mkF m 212 #[.val (.long off), .second, .val (.long tag), .second, .val (.long len), .second, s6, s7, .val (.long alt), .second, s10, .val (.int hd), .val (.int dp), .val (.int ci), .val (.int co), .val (.int kk), .val (.long o2), .second, .val (.int h2), .val (.int d2), .val (.int c2), .val (.long t2), .second, .val (.int b2), .val (.long l2), .second, .val (.int ex), s27, s28, s29] [(.int kk)])) _
                  refine XS.iconst X0.here hx rfl (hb hby at_212) ?_
                  show Steps p.tables e below (T0.setTop (mkF m 213 #[.val (.long off), .second, .val (.long tag), .second, .val (.long len), .second, s6, s7, .val (.long alt), .second, s10, .val (.int hd), .val (.int dp), .val (.int ci), .val (.int co), .val (.int kk), .val (.long o2), .second, .val (.int h2), .val (.int d2), .val (.int c2), .val (.long t2), .second, .val (.int b2), .val (.long l2), .second, .val (.int ex), s27, s28, s29] [(.int (5 : Int32)), (.int kk)])) _
                  refine XS.icmpYes X0.here hx rfl (pc0 := 213) (pc' := 249) rfl (hb hby at_213) rfl (feq hc213).2 (by decide) (by decide) ?_
                  show Steps p.tables e below (T0.setTop (mkF m 249 #[.val (.long off), .second, .val (.long tag), .second, .val (.long len), .second, s6, s7, .val (.long alt), .second, s10, .val (.int hd), .val (.int dp), .val (.int ci), .val (.int co), .val (.int kk), .val (.long o2), .second, .val (.int h2), .val (.int d2), .val (.int c2), .val (.long t2), .second, .val (.int b2), .val (.long l2), .second, .val (.int ex), s27, s28, s29] [])) _
                  refine XS.iload X0.here hx rfl (hb hby at_249) rfl ?_
                  show Steps p.tables e below (T0.setTop (mkF m 251 #[.val (.long off), .second, .val (.long tag), .second, .val (.long len), .second, s6, s7, .val (.long alt), .second, s10, .val (.int hd), .val (.int dp), .val (.int ci), .val (.int co), .val (.int kk), .val (.long o2), .second, .val (.int h2), .val (.int d2), .val (.int c2), .val (.long t2), .second, .val (.int b2), .val (.long l2), .second, .val (.int ex), s27, s28, s29] [(.int kk)])) _
                  refine XS.bipush X0.here hx rfl (hb hby at_251) ?_
                  show Steps p.tables e below (T0.setTop (mkF m 253 #[.val (.long off), .second, .val (.long tag), .second, .val (.long len), .second, s6, s7, .val (.long alt), .second, s10, .val (.int hd), .val (.int dp), .val (.int ci), .val (.int co), .val (.int kk), .val (.long o2), .second, .val (.int h2), .val (.int d2), .val (.int c2), .val (.long t2), .second, .val (.int b2), .val (.long l2), .second, .val (.int ex), s27, s28, s29] [(.int (6 : Int32)), (.int kk)])) _
                  refine XS.icmpNo X0.here hx rfl (hb hby at_253) rfl (teq hc253).2 ?_
                  show Steps p.tables e below (T0.setTop (mkF m 256 #[.val (.long off), .second, .val (.long tag), .second, .val (.long len), .second, s6, s7, .val (.long alt), .second, s10, .val (.int hd), .val (.int dp), .val (.int ci), .val (.int co), .val (.int kk), .val (.long o2), .second, .val (.int h2), .val (.int d2), .val (.int c2), .val (.long t2), .second, .val (.int b2), .val (.long l2), .second, .val (.int ex), s27, s28, s29] [])) _
                  refine XS.lload X0.here hx rfl (hb hby at_256) rfl ?_
                  show Steps p.tables e below (T0.setTop (mkF m 258 #[.val (.long off), .second, .val (.long tag), .second, .val (.long len), .second, s6, s7, .val (.long alt), .second, s10, .val (.int hd), .val (.int dp), .val (.int ci), .val (.int co), .val (.int kk), .val (.long o2), .second, .val (.int h2), .val (.int d2), .val (.int c2), .val (.long t2), .second, .val (.int b2), .val (.long l2), .second, .val (.int ex), s27, s28, s29] [(.long alt)])) _
                  refine XS.lstore X0.here hx rfl (hb hby at_258) rfl (l' := #[.val (.long off), .second, .val (.long tag), .second, .val (.long len), .second, s6, s7, .val (.long alt), .second, s10, .val (.int hd), .val (.int dp), .val (.int ci), .val (.int co), .val (.int kk), .val (.long o2), .second, .val (.int h2), .val (.int d2), .val (.int c2), .val (.long t2), .second, .val (.int b2), .val (.long alt), .second, .val (.int ex), s27, s28, s29]) rfl ?_
                  show Steps p.tables e below (T0.setTop (mkF m 260 #[.val (.long off), .second, .val (.long tag), .second, .val (.long len), .second, s6, s7, .val (.long alt), .second, s10, .val (.int hd), .val (.int dp), .val (.int ci), .val (.int co), .val (.int kk), .val (.long o2), .second, .val (.int h2), .val (.int d2), .val (.int c2), .val (.long t2), .second, .val (.int b2), .val (.long alt), .second, .val (.int ex), s27, s28, s29] [])) _
                  refine XS.lload X0.here hx rfl (hb hby at_260) rfl ?_
                  show Steps p.tables e below (T0.setTop (mkF m 262 #[.val (.long off), .second, .val (.long tag), .second, .val (.long len), .second, s6, s7, .val (.long alt), .second, s10, .val (.int hd), .val (.int dp), .val (.int ci), .val (.int co), .val (.int kk), .val (.long o2), .second, .val (.int h2), .val (.int d2), .val (.int c2), .val (.long t2), .second, .val (.int b2), .val (.long alt), .second, .val (.int ex), s27, s28, s29] [(.long len)])) _
                  refine XS.lload X0.here hx rfl (hb hby at_262) rfl ?_
                  show Steps p.tables e below (T0.setTop (mkF m 264 #[.val (.long off), .second, .val (.long tag), .second, .val (.long len), .second, s6, s7, .val (.long alt), .second, s10, .val (.int hd), .val (.int dp), .val (.int ci), .val (.int co), .val (.int kk), .val (.long o2), .second, .val (.int h2), .val (.int d2), .val (.int c2), .val (.long t2), .second, .val (.int b2), .val (.long alt), .second, .val (.int ex), s27, s28, s29] [(.long alt), (.long len)])) _
                  refine XS.lcmp X0.here hx rfl (hb hby at_264) rfl ?_
                  show Steps p.tables e below (T0.setTop (mkF m 265 #[.val (.long off), .second, .val (.long tag), .second, .val (.long len), .second, s6, s7, .val (.long alt), .second, s10, .val (.int hd), .val (.int dp), .val (.int ci), .val (.int co), .val (.int kk), .val (.long o2), .second, .val (.int h2), .val (.int d2), .val (.int c2), .val (.long t2), .second, .val (.int b2), .val (.long alt), .second, .val (.int ex), s27, s28, s29] [(.int (lcmpW len alt))])) _
                  refine XS.ifYes X0.here hx rfl (pc0 := 265) (pc' := 272) rfl (hb hby at_265) rfl ((if0 _ _).trans (feq hc265).2) (by decide) (by decide) ?_
                  show Steps p.tables e below (T0.setTop (mkF m 272 #[.val (.long off), .second, .val (.long tag), .second, .val (.long len), .second, s6, s7, .val (.long alt), .second, s10, .val (.int hd), .val (.int dp), .val (.int ci), .val (.int co), .val (.int kk), .val (.long o2), .second, .val (.int h2), .val (.int d2), .val (.int c2), .val (.long t2), .second, .val (.int b2), .val (.long alt), .second, .val (.int ex), s27, s28, s29] [])) _
                  refine XS.iconst X0.here hx rfl (hb hby at_272) ?_
                  show Steps p.tables e below (T0.setTop (mkF m 273 #[.val (.long off), .second, .val (.long tag), .second, .val (.long len), .second, s6, s7, .val (.long alt), .second, s10, .val (.int hd), .val (.int dp), .val (.int ci), .val (.int co), .val (.int kk), .val (.long o2), .second, .val (.int h2), .val (.int d2), .val (.int c2), .val (.long t2), .second, .val (.int b2), .val (.long alt), .second, .val (.int ex), s27, s28, s29] [(.int (0 : Int32))])) _
                  refine XS.istore X0.here hx rfl (hb hby at_273) rfl (l' := #[.val (.long off), .second, .val (.long tag), .second, .val (.long len), .second, s6, s7, .val (.long alt), .second, s10, .val (.int hd), .val (.int dp), .val (.int ci), .val (.int co), .val (.int kk), .val (.long o2), .second, .val (.int h2), .val (.int d2), .val (.int c2), .val (.long t2), .second, .val (.int b2), .val (.long alt), .second, .val (.int (0 : Int32)), s27, s28, s29]) rfl ?_
                  show Steps p.tables e below (T0.setTop (mkF m 275 #[.val (.long off), .second, .val (.long tag), .second, .val (.long len), .second, s6, s7, .val (.long alt), .second, s10, .val (.int hd), .val (.int dp), .val (.int ci), .val (.int co), .val (.int kk), .val (.long o2), .second, .val (.int h2), .val (.int d2), .val (.int c2), .val (.long t2), .second, .val (.int b2), .val (.long alt), .second, .val (.int (0 : Int32)), s27, s28, s29] [])) _
                  exact kt
              ·
                simp only [if_neg hc73] at hv0
                rw [hv0] at kt
                simp only [if_neg hc73, if_neg hc100] at hv1
                rw [hv1] at kt
                simp only [if_neg hc73, if_neg hc100, if_neg hc128] at hv2
                rw [hv2] at kt
                simp only [if_neg hc73, if_neg hc100, if_neg hc128, if_neg hc156] at hv3
                rw [hv3] at kt
                simp only [if_neg hc73, if_neg hc100, if_neg hc128, if_neg hc156, if_neg hc186] at hv4
                rw [hv4] at kt
                simp only [if_neg hc73, if_neg hc100, if_neg hc128, if_neg hc156, if_neg hc186, if_neg hc213] at hv5
                rw [hv5] at kt
                simp only [if_neg hc73, if_neg hc100, if_neg hc128, if_neg hc156, if_neg hc186, if_neg hc213, if_neg hc253] at hv6
                rw [hv6] at kt
                simp only [if_neg hc73, if_neg hc100, if_neg hc128, if_neg hc156, if_neg hc186, if_neg hc213, if_neg hc253] at hv7
                rw [hv7] at kt
                show Steps p.tables e below (T0.setTop (mkF m 71 #[.val (.long off), .second, .val (.long tag), .second, .val (.long len), .second, s6, s7, .val (.long alt), .second, s10, .val (.int hd), .val (.int dp), .val (.int ci), .val (.int co), .val (.int kk), .val (.long o2), .second, .val (.int h2), .val (.int d2), .val (.int c2), .val (.long t2), .second, .val (.int b2), .val (.long l2), .second, .val (.int ex), s27, s28, s29] [])) _
                refine XS.iload X0.here hx rfl (hb hby at_71) rfl ?_
                show Steps p.tables e below (T0.setTop (mkF m 73 #[.val (.long off), .second, .val (.long tag), .second, .val (.long len), .second, s6, s7, .val (.long alt), .second, s10, .val (.int hd), .val (.int dp), .val (.int ci), .val (.int co), .val (.int kk), .val (.long o2), .second, .val (.int h2), .val (.int d2), .val (.int c2), .val (.long t2), .second, .val (.int b2), .val (.long l2), .second, .val (.int ex), s27, s28, s29] [(.int kk)])) _
                refine XS.ifYes X0.here hx rfl (pc0 := 73) (pc' := 97) rfl (hb hby at_73) rfl ((if0 _ _).trans (feq hc73).2) (by decide) (by decide) ?_
                show Steps p.tables e below (T0.setTop (mkF m 97 #[.val (.long off), .second, .val (.long tag), .second, .val (.long len), .second, s6, s7, .val (.long alt), .second, s10, .val (.int hd), .val (.int dp), .val (.int ci), .val (.int co), .val (.int kk), .val (.long o2), .second, .val (.int h2), .val (.int d2), .val (.int c2), .val (.long t2), .second, .val (.int b2), .val (.long l2), .second, .val (.int ex), s27, s28, s29] [])) _
                refine XS.iload X0.here hx rfl (hb hby at_97) rfl ?_
                show Steps p.tables e below (T0.setTop (mkF m 99 #[.val (.long off), .second, .val (.long tag), .second, .val (.long len), .second, s6, s7, .val (.long alt), .second, s10, .val (.int hd), .val (.int dp), .val (.int ci), .val (.int co), .val (.int kk), .val (.long o2), .second, .val (.int h2), .val (.int d2), .val (.int c2), .val (.long t2), .second, .val (.int b2), .val (.long l2), .second, .val (.int ex), s27, s28, s29] [(.int kk)])) _
                refine XS.iconst X0.here hx rfl (hb hby at_99) ?_
                show Steps p.tables e below (T0.setTop (mkF m 100 #[.val (.long off), .second, .val (.long tag), .second, .val (.long len), .second, s6, s7, .val (.long alt), .second, s10, .val (.int hd), .val (.int dp), .val (.int ci), .val (.int co), .val (.int kk), .val (.long o2), .second, .val (.int h2), .val (.int d2), .val (.int c2), .val (.long t2), .second, .val (.int b2), .val (.long l2), .second, .val (.int ex), s27, s28, s29] [(.int (1 : Int32)), (.int kk)])) _
                refine XS.icmpYes X0.here hx rfl (pc0 := 100) (pc' := 125) rfl (hb hby at_100) rfl (feq hc100).2 (by decide) (by decide) ?_
                show Steps p.tables e below (T0.setTop (mkF m 125 #[.val (.long off), .second, .val (.long tag), .second, .val (.long len), .second, s6, s7, .val (.long alt), .second, s10, .val (.int hd), .val (.int dp), .val (.int ci), .val (.int co), .val (.int kk), .val (.long o2), .second, .val (.int h2), .val (.int d2), .val (.int c2), .val (.long t2), .second, .val (.int b2), .val (.long l2), .second, .val (.int ex), s27, s28, s29] [])) _
                refine XS.iload X0.here hx rfl (hb hby at_125) rfl ?_
                show Steps p.tables e below (T0.setTop (mkF m 127 #[.val (.long off), .second, .val (.long tag), .second, .val (.long len), .second, s6, s7, .val (.long alt), .second, s10, .val (.int hd), .val (.int dp), .val (.int ci), .val (.int co), .val (.int kk), .val (.long o2), .second, .val (.int h2), .val (.int d2), .val (.int c2), .val (.long t2), .second, .val (.int b2), .val (.long l2), .second, .val (.int ex), s27, s28, s29] [(.int kk)])) _
                refine XS.iconst X0.here hx rfl (hb hby at_127) ?_
                show Steps p.tables e below (T0.setTop (mkF m 128 #[.val (.long off), .second, .val (.long tag), .second, .val (.long len), .second, s6, s7, .val (.long alt), .second, s10, .val (.int hd), .val (.int dp), .val (.int ci), .val (.int co), .val (.int kk), .val (.long o2), .second, .val (.int h2), .val (.int d2), .val (.int c2), .val (.long t2), .second, .val (.int b2), .val (.long l2), .second, .val (.int ex), s27, s28, s29] [(.int (2 : Int32)), (.int kk)])) _
                refine XS.icmpYes X0.here hx rfl (pc0 := 128) (pc' := 153) rfl (hb hby at_128) rfl (feq hc128).2 (by decide) (by decide) ?_
                show Steps p.tables e below (T0.setTop (mkF m 153 #[.val (.long off), .second, .val (.long tag), .second, .val (.long len), .second, s6, s7, .val (.long alt), .second, s10, .val (.int hd), .val (.int dp), .val (.int ci), .val (.int co), .val (.int kk), .val (.long o2), .second, .val (.int h2), .val (.int d2), .val (.int c2), .val (.long t2), .second, .val (.int b2), .val (.long l2), .second, .val (.int ex), s27, s28, s29] [])) _
                refine XS.iload X0.here hx rfl (hb hby at_153) rfl ?_
                show Steps p.tables e below (T0.setTop (mkF m 155 #[.val (.long off), .second, .val (.long tag), .second, .val (.long len), .second, s6, s7, .val (.long alt), .second, s10, .val (.int hd), .val (.int dp), .val (.int ci), .val (.int co), .val (.int kk), .val (.long o2), .second, .val (.int h2), .val (.int d2), .val (.int c2), .val (.long t2), .second, .val (.int b2), .val (.long l2), .second, .val (.int ex), s27, s28, s29] [(.int kk)])) _
                refine XS.iconst X0.here hx rfl (hb hby at_155) ?_
                show Steps p.tables e below (T0.setTop (mkF m 156 #[.val (.long off), .second, .val (.long tag), .second, .val (.long len), .second, s6, s7, .val (.long alt), .second, s10, .val (.int hd), .val (.int dp), .val (.int ci), .val (.int co), .val (.int kk), .val (.long o2), .second, .val (.int h2), .val (.int d2), .val (.int c2), .val (.long t2), .second, .val (.int b2), .val (.long l2), .second, .val (.int ex), s27, s28, s29] [(.int (3 : Int32)), (.int kk)])) _
                refine XS.icmpYes X0.here hx rfl (pc0 := 156) (pc' := 183) rfl (hb hby at_156) rfl (feq hc156).2 (by decide) (by decide) ?_
                show Steps p.tables e below (T0.setTop (mkF m 183 #[.val (.long off), .second, .val (.long tag), .second, .val (.long len), .second, s6, s7, .val (.long alt), .second, s10, .val (.int hd), .val (.int dp), .val (.int ci), .val (.int co), .val (.int kk), .val (.long o2), .second, .val (.int h2), .val (.int d2), .val (.int c2), .val (.long t2), .second, .val (.int b2), .val (.long l2), .second, .val (.int ex), s27, s28, s29] [])) _
                refine XS.iload X0.here hx rfl (hb hby at_183) rfl ?_
                show Steps p.tables e below (T0.setTop (mkF m 185 #[.val (.long off), .second, .val (.long tag), .second, .val (.long len), .second, s6, s7, .val (.long alt), .second, s10, .val (.int hd), .val (.int dp), .val (.int ci), .val (.int co), .val (.int kk), .val (.long o2), .second, .val (.int h2), .val (.int d2), .val (.int c2), .val (.long t2), .second, .val (.int b2), .val (.long l2), .second, .val (.int ex), s27, s28, s29] [(.int kk)])) _
                refine XS.iconst X0.here hx rfl (hb hby at_185) ?_
                show Steps p.tables e below (T0.setTop (mkF m 186 #[.val (.long off), .second, .val (.long tag), .second, .val (.long len), .second, s6, s7, .val (.long alt), .second, s10, .val (.int hd), .val (.int dp), .val (.int ci), .val (.int co), .val (.int kk), .val (.long o2), .second, .val (.int h2), .val (.int d2), .val (.int c2), .val (.long t2), .second, .val (.int b2), .val (.long l2), .second, .val (.int ex), s27, s28, s29] [(.int (4 : Int32)), (.int kk)])) _
                refine XS.icmpYes X0.here hx rfl (pc0 := 186) (pc' := 210) rfl (hb hby at_186) rfl (feq hc186).2 (by decide) (by decide) ?_
                show Steps p.tables e below (T0.setTop (mkF m 210 #[.val (.long off), .second, .val (.long tag), .second, .val (.long len), .second, s6, s7, .val (.long alt), .second, s10, .val (.int hd), .val (.int dp), .val (.int ci), .val (.int co), .val (.int kk), .val (.long o2), .second, .val (.int h2), .val (.int d2), .val (.int c2), .val (.long t2), .second, .val (.int b2), .val (.long l2), .second, .val (.int ex), s27, s28, s29] [])) _
                refine XS.iload X0.here hx rfl (hb hby at_210) rfl ?_
                show Steps p.tables e below (T0.setTop (mkF m 212 #[.val (.long off), .second, .val (.long tag), .second, .val (.long len), .second, s6, s7, .val (.long alt), .second, s10, .val (.int hd), .val (.int dp), .val (.int ci), .val (.int co), .val (.int kk), .val (.long o2), .second, .val (.int h2), .val (.int d2), .val (.int c2), .val (.long t2), .second, .val (.int b2), .val (.long l2), .second, .val (.int ex), s27, s28, s29] [(.int kk)])) _
                refine XS.iconst X0.here hx rfl (hb hby at_212) ?_
                show Steps p.tables e below (T0.setTop (mkF m 213 #[.val (.long off), .second, .val (.long tag), .second, .val (.long len), .second, s6, s7, .val (.long alt), .second, s10, .val (.int hd), .val (.int dp), .val (.int ci), .val (.int co), .val (.int kk), .val (.long o2), .second, .val (.int h2), .val (.int d2), .val (.int c2), .val (.long t2), .second, .val (.int b2), .val (.long l2), .second, .val (.int ex), s27, s28, s29] [(.int (5 : Int32)), (.int kk)])) _
                refine XS.icmpYes X0.here hx rfl (pc0 := 213) (pc' := 249) rfl (hb hby at_213) rfl (feq hc213).2 (by decide) (by decide) ?_
                show Steps p.tables e below (T0.setTop (mkF m 249 #[.val (.long off), .second, .val (.long tag), .second, .val (.long len), .second, s6, s7, .val (.long alt), .second, s10, .val (.int hd), .val (.int dp), .val (.int ci), .val (.int co), .val (.int kk), .val (.long o2), .second, .val (.int h2), .val (.int d2), .val (.int c2), .val (.long t2), .second, .val (.int b2), .val (.long l2), .second, .val (.int ex), s27, s28, s29] [])) _
                refine XS.iload X0.here hx rfl (hb hby at_249) rfl ?_
                show Steps p.tables e below (T0.setTop (mkF m 251 #[.val (.long off), .second, .val (.long tag), .second, .val (.long len), .second, s6, s7, .val (.long alt), .second, s10, .val (.int hd), .val (.int dp), .val (.int ci), .val (.int co), .val (.int kk), .val (.long o2), .second, .val (.int h2), .val (.int d2), .val (.int c2), .val (.long t2), .second, .val (.int b2), .val (.long l2), .second, .val (.int ex), s27, s28, s29] [(.int kk)])) _
                refine XS.bipush X0.here hx rfl (hb hby at_251) ?_
                show Steps p.tables e below (T0.setTop (mkF m 253 #[.val (.long off), .second, .val (.long tag), .second, .val (.long len), .second, s6, s7, .val (.long alt), .second, s10, .val (.int hd), .val (.int dp), .val (.int ci), .val (.int co), .val (.int kk), .val (.long o2), .second, .val (.int h2), .val (.int d2), .val (.int c2), .val (.long t2), .second, .val (.int b2), .val (.long l2), .second, .val (.int ex), s27, s28, s29] [(.int (6 : Int32)), (.int kk)])) _
                refine XS.icmpYes X0.here hx rfl (pc0 := 253) (pc' := 275) rfl (hb hby at_253) rfl (feq hc253).2 (by decide) (by decide) ?_
                show Steps p.tables e below (T0.setTop (mkF m 275 #[.val (.long off), .second, .val (.long tag), .second, .val (.long len), .second, s6, s7, .val (.long alt), .second, s10, .val (.int hd), .val (.int dp), .val (.int ci), .val (.int co), .val (.int kk), .val (.long o2), .second, .val (.int h2), .val (.int d2), .val (.int c2), .val (.long t2), .second, .val (.int b2), .val (.long l2), .second, .val (.int ex), s27, s28, s29] [])) _
                exact kt
theorem ef_0 (m : MethodId) (q0 : Int64) (q1 : Int64) (q2 : Int64) (q3 : Int64) (q4 : Int64) (q5 : Int32) : entryFrame m #[(.long q0), (.long q1), (.long q2), (.long q3), (.long q4), (.int q5)] maxLocals = mkF m 0 #[.val (.long q0), .second, .val (.long q1), .second, .val (.long q2), .second, .val (.long q3), .second, .val (.long q4), .second, .val (.int q5), .unset, .unset, .unset, .unset, .unset, .unset, .unset, .unset, .unset, .unset, .unset, .unset, .unset, .unset, .unset, .unset, .unset, .unset, .unset] [] := by first | (simp [entryFrame, mkF, argsToLocals, Value.category, maxLocals]; done) | rfl
def Q0 (h0 : Heap) (n0 : Nat) (v : Option Value) (h : Heap) (L : List Loc) : Prop := v = some (.int 1) ∧ Fr n0 L
set_option maxRecDepth 65536 in
set_option maxHeartbeats 40000000 in
theorem rm0 (l : Launch) (Z : State) (a0 : Array Value) (hw : ∀ d ∈ tables_1, d.before a0 Z = true) (ws : List Jvm.Cond) (q0 q1 q2 q3 q4 : Int64) (q5 : Int32) (wU wA wC wP : Addr) (h0 : Heap) (n0 : Nat) (Z0 : n0 ≤ h0.size) (O0 : Old Z n0 h0) (CC : own_cache Z) (S_UNIVERSAL : Sta Z Z.heap "com/example/tagloom/tagloom/tlv/TagClass" "UNIVERSAL" "Lcom/example/tagloom/tagloom/tlv/TagClass;" (.ref wU)) (S_APPLICATION : Sta Z Z.heap "com/example/tagloom/tagloom/tlv/TagClass" "APPLICATION" "Lcom/example/tagloom/tagloom/tlv/TagClass;" (.ref wA)) (S_CONTEXT_SPECIFIC : Sta Z Z.heap "com/example/tagloom/tagloom/tlv/TagClass" "CONTEXT_SPECIFIC" "Lcom/example/tagloom/tagloom/tlv/TagClass;" (.ref wC)) (S_PRIVATE : Sta Z Z.heap "com/example/tagloom/tagloom/tlv/TagClass" "PRIVATE" "Lcom/example/tagloom/tagloom/tlv/TagClass;" (.ref wP)) (nUA : wU ≠ wA) (nUC : wU ≠ wC) (nUP : wU ≠ wP) (nAC : wA ≠ wC) (nAP : wA ≠ wP) (nCP : wC ≠ wP) :
    MetFree l x (head1 (Jvm.Cond.code x code maxLocals ret :: ws) room_1) (fun a U => a = #[(.long q0), (.long q1), (.long q2), (.long q3), (.long q4), (.int q5)] ∧ Z.Warmed39 U.vm ∧ U.heap = h0) (fun _ _ _ _ _ => True) (fun _ U o U' => ∃ v L, o = .returned v ∧ Q0 h0 n0 v U'.heap L ∧ FrameEnd U o U' L 3 15) := by
  refine MetFree.of_bodySF (plainFor_of_name pn_0) hisR ?_
  intro p e s m args below meth c s₁ Bd hml0 hP hK
  obtain ⟨rfl, hZ, hh⟩ := hP
  have hx := Bd.exec
  have hby := Bd.bytes
  have hml : c.maxLocals = 30 := hml0
  have hown : s.vm.findClass "com/example/tagloom/tagloom/tlv/ElementEqualsPinLaw" = some m.cls := findClass_of_methodNamed Bd.named
  have hnm := (name_of_methodNamed Bd.named Bd.method).1
  have X0 : Stand p l e room_1 s m #[(.long q0), (.long q1), (.long q2), (.long q3), (.long q4), (.int q5)] below meth c s₁ [] 0 0 := Stand.of_body Bd
  have e0 : s₁.heap = h0 := by rw [← hh, Bd.state]; rfl
  have N0 := Fr.nil n0
  have pre0 : ∀ tgt, Steps p.tables e below (s₁.setTop (mkF m 0 #[.val (.long q0), .second, .val (.long q1), .second, .val (.long q2), .second, .val (.long q3), .second, .val (.long q4), .second, .val (.int q5), .unset, .unset, .unset, .unset, .unset, .unset, .unset, .unset, .unset, .unset, .unset, .unset, .unset, .unset, .unset, .unset, .unset, .unset, .unset] [])) tgt → Steps p.tables e below (s₁.setTop (entryFrame m #[(.long q0), (.long q1), (.long q2), (.long q3), (.long q4), (.int q5)] maxLocals)) tgt := fun tgt k => castTop (ef_0 m q0 q1 q2 q3 q4 q5) k
  obtain ⟨hd, hhd⟩ : ∃ z : Int32, z = (q3.toInt32) := ⟨_, rfl⟩
  obtain ⟨dp, hdp⟩ : ∃ z : Int32, z = (((q3.toUInt64 >>> ((32 : Int32) &&& 0x3f).toInt64.toUInt64).toInt64).toInt32) := ⟨_, rfl⟩
  obtain ⟨v0_19, hv0_19⟩ : ∃ z : Int32, z = (if (q5 &&& (4 : Int32)) = (0 : Int32) then (0 : Int32) else (1 : Int32)) := ⟨_, rfl⟩
  obtain ⟨kk, hkk⟩ : ∃ z : Int32, z = (((q5.toUInt32 >>> ((3 : Int32) &&& 31).toUInt32).toInt32) &&& (15 : Int32)) := ⟨_, rfl⟩
  obtain ⟨v0_71, hv0_71⟩ : ∃ z : Int64, z = (if kk = (0 : Int32) then q4 else q0) := ⟨_, rfl⟩
  obtain ⟨v1_71, hv1_71⟩ : ∃ z : Int32, z = (if kk = (0 : Int32) then hd else (if kk = (1 : Int32) then (q4.toInt32) else hd)) := ⟨_, rfl⟩
  obtain ⟨v2_71, hv2_71⟩ : ∃ z : Int32, z = (if kk = (0 : Int32) then dp else (if kk = (1 : Int32) then dp else (if kk = (2 : Int32) then (q4.toInt32) else dp))) := ⟨_, rfl⟩
  obtain ⟨v3_71, hv3_71⟩ : ∃ z : Int32, z = (if kk = (0 : Int32) then (q5 &&& (3 : Int32)) else (if kk = (1 : Int32) then (q5 &&& (3 : Int32)) else (if kk = (2 : Int32) then (q5 &&& (3 : Int32)) else (if kk = (3 : Int32) then ((q4.toInt32) &&& (3 : Int32)) else (q5 &&& (3 : Int32)))))) := ⟨_, rfl⟩
  obtain ⟨v4_71, hv4_71⟩ : ∃ z : Int64, z = (if kk = (0 : Int32) then q1 else (if kk = (1 : Int32) then q1 else (if kk = (2 : Int32) then q1 else (if kk = (3 : Int32) then q1 else (if kk = (4 : Int32) then q4 else q1))))) := ⟨_, rfl⟩
  obtain ⟨v5_71, hv5_71⟩ : ∃ z : Int32, z = (if kk = (0 : Int32) then v0_19 else (if kk = (1 : Int32) then v0_19 else (if kk = (2 : Int32) then v0_19 else (if kk = (3 : Int32) then v0_19 else (if kk = (4 : Int32) then v0_19 else (if kk = (5 : Int32) then (if (lcmpW (q4 &&& (1 : Int64)) (0 : Int64)) = (0 : Int32) then (0 : Int32) else (1 : Int32)) else v0_19)))))) := ⟨_, rfl⟩
  obtain ⟨v6_71, hv6_71⟩ : ∃ z : Int64, z = (if kk = (0 : Int32) then q2 else (if kk = (1 : Int32) then q2 else (if kk = (2 : Int32) then q2 else (if kk = (3 : Int32) then q2 else (if kk = (4 : Int32) then q2 else (if kk = (5 : Int32) then q2 else (if kk = (6 : Int32) then q4 else q2))))))) := ⟨_, rfl⟩
  obtain ⟨v7_71, hv7_71⟩ : ∃ z : Int32, z = (if kk = (0 : Int32) then (if (lcmpW q0 q4) = (0 : Int32) then (1 : Int32) else (0 : Int32)) else (if kk = (1 : Int32) then (if hd = (q4.toInt32) then (1 : Int32) else (0 : Int32)) else (if kk = (2 : Int32) then (if dp = (q4.toInt32) then (1 : Int32) else (0 : Int32)) else (if kk = (3 : Int32) then (if (q5 &&& (3 : Int32)) = ((q4.toInt32) &&& (3 : Int32)) then (1 : Int32) else (0 : Int32)) else (if kk = (4 : Int32) then (if (lcmpW q1 q4) = (0 : Int32) then (1 : Int32) else (0 : Int32)) else (if kk = (5 : Int32) then (if (lcmpW (q4 &&& (1 : Int64)) (0 : Int64)) = (0 : Int32) then (if v0_19 = (0 : Int32) then (1 : Int32) else (0 : Int32)) else (if v0_19 = (1 : Int32) then (1 : Int32) else (0 : Int32))) else (if kk = (6 : Int32) then (if (lcmpW q2 q4) = (0 : Int32) then (1 : Int32) else (0 : Int32)) else (1 : Int32)))))))) := ⟨_, rfl⟩
  obtain ⟨T1, h1, X1, e1, E1, A1, D1, -, st1⟩ := newO X0 hx hZ hown (hw _ (List.mem_of_getElem? (i := 0) rfl)) (hw _ (List.mem_of_getElem? (i := 1) rfl)) (hw _ (List.mem_of_getElem? (i := 2) rfl)) e0 (g := (mkF m 275 #[.val (.long q0), .second, .val (.long q1), .second, .val (.long q2), .second, .val (.long q3), .second, .val (.long q4), .second, .val (.int q5), .val (.int hd), .val (.int dp), .val (.int (q5 &&& (3 : Int32))), .val (.int v0_19), .val (.int kk), .val (.long v0_71), .second, .val (.int v1_71), .val (.int v2_71), .val (.int v3_71), .val (.long v4_71), .second, .val (.int v5_71), .val (.long v6_71), .second, .val (.int v7_71), .unset, .unset, .unset] [])) rfl (hb hby at_275) (by decide) (by decide)
  obtain ⟨b1, g1⟩ : ∃ z, z = h0.size := ⟨_, rfl⟩
  rw [← g1] at A1 D1 st1
  have g_b1 : n0 ≤ b1 := Nat.le_trans Z0 (Nat.le_of_eq g1.symm)
  have sz_b1 : h0.size ≤ b1 := Nat.le_trans (Nat.le_refl _) (Nat.le_of_eq g1.symm)
  have E_b1 := A1
  have F_offset_b1 : Fld Z h1 b1 "com/example/tagloom/tagloom/tlv/Element" "offset" "J" (.long (0 : Int64)) := D1 (Or.inr (hw _ (List.mem_of_getElem? (i := 17) rfl))) (ty := .long) (by decide)
  have F_headerLength_b1 : Fld Z h1 b1 "com/example/tagloom/tagloom/tlv/Element" "headerLength" "I" (.int (0 : Int32)) := D1 (Or.inr (hw _ (List.mem_of_getElem? (i := 19) rfl))) (ty := .int) (by decide)
  have F_depth_b1 : Fld Z h1 b1 "com/example/tagloom/tagloom/tlv/Element" "depth" "I" (.int (0 : Int32)) := D1 (Or.inr (hw _ (List.mem_of_getElem? (i := 21) rfl))) (ty := .int) (by decide)
  have F_tagClass_b1 : Fld Z h1 b1 "com/example/tagloom/tagloom/tlv/Element" "tagClass" "Lcom/example/tagloom/tagloom/tlv/TagClass;" .null := D1 (Or.inr (hw _ (List.mem_of_getElem? (i := 23) rfl))) (ty := (.object "com/example/tagloom/tagloom/tlv/TagClass")) (by decide)
  have F_tagNumber_b1 : Fld Z h1 b1 "com/example/tagloom/tagloom/tlv/Element" "tagNumber" "J" (.long (0 : Int64)) := D1 (Or.inr (hw _ (List.mem_of_getElem? (i := 25) rfl))) (ty := .long) (by decide)
  have F_constructed_b1 : Fld Z h1 b1 "com/example/tagloom/tagloom/tlv/Element" "constructed" "Z" (.int (0 : Int32)) := D1 (Or.inr (hw _ (List.mem_of_getElem? (i := 27) rfl))) (ty := .boolean) (by decide)
  have F_length_b1 : Fld Z h1 b1 "com/example/tagloom/tagloom/tlv/Element" "length" "J" (.long (0 : Int64)) := D1 (Or.inr (hw _ (List.mem_of_getElem? (i := 29) rfl))) (ty := .long) (by decide)
  obtain ⟨_, _, ⟨T2, L2, k2, n2⟩, -, X2, ⟨Lc2, hQ2, l2, y2, z2⟩, st2⟩ := Jvm.LawKit.callS X1 hx (y := (⟨"com/example/tagloom/tagloom/tlv/ElementEqualsPinLaw", "cls", "(I)Lcom/example/tagloom/tagloom/tlv/TagClass;"⟩ : MethodName)) hown (mvT hZ (hw _ (List.mem_of_getElem? (i := 3) rfl))) (mvT hZ (hw _ (List.mem_of_getElem? (i := 4) rfl))) (mvT hZ (hw _ (List.mem_of_getElem? (i := 5) rfl))) (mvT hZ (hw _ (List.mem_of_getElem? (i := 6) rfl))) (by decide) (backOf (W := 6) (rm1 l Z a0 hw [] (q5 &&& (3 : Int32)) wU wA wC wP h1 n0 (Nat.le_trans Z0 E1.1) (O0.ext E1) S_UNIVERSAL S_APPLICATION S_CONTEXT_SPECIFIC S_PRIVATE) hZ (hw _ (List.mem_of_getElem? (i := 6) rfl)) (hw _ (List.mem_of_getElem? (i := 5) rfl)) (by decide) (by decide)) (g := (mkF m 286 #[.val (.long q0), .second, .val (.long q1), .second, .val (.long q2), .second, .val (.long q3), .second, .val (.long q4), .second, .val (.int q5), .val (.int hd), .val (.int dp), .val (.int (q5 &&& (3 : Int32))), .val (.int v0_19), .val (.int kk), .val (.long v0_71), .second, .val (.int v1_71), .val (.int v2_71), .val (.int v3_71), .val (.long v4_71), .second, .val (.int v5_71), .val (.long v6_71), .second, .val (.int v7_71), .unset, .unset, .unset] [(.int (q5 &&& (3 : Int32))), (.int dp), (.int hd), (.long q0), (.ref b1), (.ref b1)])) rfl (by rw [hml]; rfl) (argsL := [(.int (q5 &&& (3 : Int32)))]) (rest := [(.int dp), (.int hd), (.long q0), (.ref b1), (.ref b1)]) (lenOf pd_2 rfl) rfl (by show 2 * 0 + _ ≤ _; exact Nat.le_of_eq rfl) (hb hby at_286) (fun _ _ => ⟨rfl, e1, (by decide : 1 + 0 ≤ _), (by decide : 7 + 0 ≤ _)⟩)
  dsimp only [Pt.U, Pt.locs, Pt.cells, Pt.slots] at X2 l2 y2 z2 st2 hQ2
  subst l2 y2 z2
  obtain ⟨rfl, N2q, e2⟩ := hQ2
  have N2 := Fr.app N0 N2q
  obtain ⟨_, _, ⟨T3, L3, k3, n3⟩, -, X3, ⟨Lc3, hQ3, l3, y3, z3⟩, st3⟩ := X2.specialBack hx (y := (⟨"com/example/tagloom/tagloom/tlv/Element", "<init>", "(JIILcom/example/tagloom/tagloom/tlv/TagClass;JZJ)V"⟩ : MethodName)) rfl hown (mvT hZ (hw _ (List.mem_of_getElem? (i := 10) rfl))) (mvT hZ (hw _ (List.mem_of_getElem? (i := 11) rfl))) (mvT hZ (hw _ (List.mem_of_getElem? (i := 12) rfl))) (by decide) (backOf (W := 1) (rm2 l Z a0 hw [] b1 q0 hd dp (own_cls (q5 &&& (3 : Int32)) wU wA wC wP) q1 v0_19 q2 ((.long (0 : Int64))) ((.int (0 : Int32))) ((.int (0 : Int32))) (.null) ((.long (0 : Int64))) ((.int (0 : Int32))) ((.long (0 : Int64))) h1 n0 (Nat.le_trans Z0 E1.1) E_b1 g_b1 F_offset_b1 F_headerLength_b1 F_depth_b1 F_tagClass_b1 F_tagNumber_b1 F_constructed_b1 F_length_b1) hZ (hw _ (List.mem_of_getElem? (i := 12) rfl)) (hw _ (List.mem_of_getElem? (i := 2) rfl)) (by decide) (by decide)) (g := (mkF m 294 #[.val (.long q0), .second, .val (.long q1), .second, .val (.long q2), .second, .val (.long q3), .second, .val (.long q4), .second, .val (.int q5), .val (.int hd), .val (.int dp), .val (.int (q5 &&& (3 : Int32))), .val (.int v0_19), .val (.int kk), .val (.long v0_71), .second, .val (.int v1_71), .val (.int v2_71), .val (.int v3_71), .val (.long v4_71), .second, .val (.int v5_71), .val (.long v6_71), .second, .val (.int v7_71), .unset, .unset, .unset] [(.long q2), (.int v0_19), (.long q1), (.ref (own_cls (q5 &&& (3 : Int32)) wU wA wC wP)), (.int dp), (.int hd), (.long q0), (.ref b1), (.ref b1)])) rfl (by rw [hml]; rfl) (Steps.refl _) (a := b1) (argsL := [(.long q0), (.int hd), (.int dp), (.ref (own_cls (q5 &&& (3 : Int32)) wU wA wC wP)), (.long q1), (.int v0_19), (.long q2)]) (rest := [(.ref b1)]) (lenOf pd_3 rfl) rfl (by show 2 * 0 + _ ≤ _; exact Nat.le_of_eq rfl) (hb hby at_294) (fun _ _ => ⟨rfl, e2, (by decide : 1 + 0 ≤ _), (by decide : 7 + 0 ≤ _)⟩)
  dsimp only [Pt.U, Pt.locs, Pt.cells, Pt.slots] at X3 l3 y3 z3 st3 hQ3
  subst l3 y3 z3
  obtain ⟨rfl, N3q, K3, E3, F3_1, F3_2, F3_3, F3_4, F3_5, F3_6, F3_7⟩ := hQ3
  have N3 := Fr.app N2 N3q
  obtain ⟨T4, h4, X4, e4, E4, A4, D4, -, st4⟩ := newO X3 hx hZ hown (hw _ (List.mem_of_getElem? (i := 0) rfl)) (hw _ (List.mem_of_getElem? (i := 1) rfl)) (hw _ (List.mem_of_getElem? (i := 2) rfl)) rfl (g := (mkF m 299 #[.val (.long q0), .second, .val (.long q1), .second, .val (.long q2), .second, .val (.long q3), .second, .val (.long q4), .second, .val (.int q5), .val (.int hd), .val (.int dp), .val (.int (q5 &&& (3 : Int32))), .val (.int v0_19), .val (.int kk), .val (.long v0_71), .second, .val (.int v1_71), .val (.int v2_71), .val (.int v3_71), .val (.long v4_71), .second, .val (.int v5_71), .val (.long v6_71), .second, .val (.int v7_71), .val (.ref b1), .unset, .unset] [])) rfl (hb hby at_299) (by decide) (by decide)
  obtain ⟨b4, g4⟩ : ∃ z, z = T3.heap.size := ⟨_, rfl⟩
  rw [← g4] at A4 D4 st4
  have lt4_b1 : b1 < T3.heap.size := Nat.lt_of_lt_of_le E_b1.lt (Nat.le_trans (Nat.le_refl _) K3.1)
  have ne4_b1 : b1 ≠ b4 := Nat.ne_of_lt (Nat.lt_of_lt_of_le lt4_b1 (Nat.le_of_eq g4.symm))
  have g_b4 : n0 ≤ b4 := Nat.le_trans (Nat.le_trans (Nat.le_trans Z0 E1.1) K3.1) (Nat.le_of_eq g4.symm)
  have sz_b4 : h0.size ≤ b4 := Nat.le_trans (Nat.le_trans (Nat.le_trans (Nat.le_refl _) E1.1) K3.1) (Nat.le_of_eq g4.symm)
  have E_b4 := A4
  have F_offset_b4 : Fld Z h4 b4 "com/example/tagloom/tagloom/tlv/Element" "offset" "J" (.long (0 : Int64)) := D4 (Or.inr (hw _ (List.mem_of_getElem? (i := 17) rfl))) (ty := .long) (by decide)
  have F_headerLength_b4 : Fld Z h4 b4 "com/example/tagloom/tagloom/tlv/Element" "headerLength" "I" (.int (0 : Int32)) := D4 (Or.inr (hw _ (List.mem_of_getElem? (i := 19) rfl))) (ty := .int) (by decide)
  have F_depth_b4 : Fld Z h4 b4 "com/example/tagloom/tagloom/tlv/Element" "depth" "I" (.int (0 : Int32)) := D4 (Or.inr (hw _ (List.mem_of_getElem? (i := 21) rfl))) (ty := .int) (by decide)
  have F_tagClass_b4 : Fld Z h4 b4 "com/example/tagloom/tagloom/tlv/Element" "tagClass" "Lcom/example/tagloom/tagloom/tlv/TagClass;" .null := D4 (Or.inr (hw _ (List.mem_of_getElem? (i := 23) rfl))) (ty := (.object "com/example/tagloom/tagloom/tlv/TagClass")) (by decide)
  have F_tagNumber_b4 : Fld Z h4 b4 "com/example/tagloom/tagloom/tlv/Element" "tagNumber" "J" (.long (0 : Int64)) := D4 (Or.inr (hw _ (List.mem_of_getElem? (i := 25) rfl))) (ty := .long) (by decide)
  have F_constructed_b4 : Fld Z h4 b4 "com/example/tagloom/tagloom/tlv/Element" "constructed" "Z" (.int (0 : Int32)) := D4 (Or.inr (hw _ (List.mem_of_getElem? (i := 27) rfl))) (ty := .boolean) (by decide)
  have F_length_b4 : Fld Z h4 b4 "com/example/tagloom/tagloom/tlv/Element" "length" "J" (.long (0 : Int64)) := D4 (Or.inr (hw _ (List.mem_of_getElem? (i := 29) rfl))) (ty := .long) (by decide)
  have zz6 : n0 ≤ h4.size := (Nat.le_trans (Nat.le_trans (Nat.le_trans Z0 E1.1) K3.1) E4.1)
  obtain ⟨_, _, ⟨T5, L5, k5, n5⟩, -, X5, ⟨Lc5, hQ5, l5, y5, z5⟩, st5⟩ := Jvm.LawKit.callS X4 hx (y := (⟨"com/example/tagloom/tagloom/tlv/ElementEqualsPinLaw", "cls", "(I)Lcom/example/tagloom/tagloom/tlv/TagClass;"⟩ : MethodName)) hown (mvT hZ (hw _ (List.mem_of_getElem? (i := 3) rfl))) (mvT hZ (hw _ (List.mem_of_getElem? (i := 4) rfl))) (mvT hZ (hw _ (List.mem_of_getElem? (i := 5) rfl))) (mvT hZ (hw _ (List.mem_of_getElem? (i := 6) rfl))) (by decide) (backOf (W := 6) (rm1 l Z a0 hw [] v3_71 wU wA wC wP h4 n0 zz6 (((O0.ext E1).keep K3 (allS g_b1 all0)).ext E4) S_UNIVERSAL S_APPLICATION S_CONTEXT_SPECIFIC S_PRIVATE) hZ (hw _ (List.mem_of_getElem? (i := 6) rfl)) (hw _ (List.mem_of_getElem? (i := 5) rfl)) (by decide) (by decide)) (g := (mkF m 311 #[.val (.long q0), .second, .val (.long q1), .second, .val (.long q2), .second, .val (.long q3), .second, .val (.long q4), .second, .val (.int q5), .val (.int hd), .val (.int dp), .val (.int (q5 &&& (3 : Int32))), .val (.int v0_19), .val (.int kk), .val (.long v0_71), .second, .val (.int v1_71), .val (.int v2_71), .val (.int v3_71), .val (.long v4_71), .second, .val (.int v5_71), .val (.long v6_71), .second, .val (.int v7_71), .val (.ref b1), .unset, .unset] [(.int v3_71), (.int v2_71), (.int v1_71), (.long v0_71), (.ref b4), (.ref b4)])) rfl (by rw [hml]; rfl) (argsL := [(.int v3_71)]) (rest := [(.int v2_71), (.int v1_71), (.long v0_71), (.ref b4), (.ref b4)]) (lenOf pd_2 rfl) rfl (by show 2 * 0 + _ ≤ _; exact Nat.le_of_eq rfl) (hb hby at_311) (fun _ _ => ⟨rfl, e4, (by decide : 2 + 0 ≤ _), (by decide : 14 + 0 ≤ _)⟩)
  dsimp only [Pt.U, Pt.locs, Pt.cells, Pt.slots] at X5 l5 y5 z5 st5 hQ5
  subst l5 y5 z5
  obtain ⟨rfl, N5q, e5⟩ := hQ5
  have N5 := Fr.app N3 N5q
  obtain ⟨_, _, ⟨T7, L7, k7, n7⟩, -, X7, ⟨Lc7, hQ7, l7, y7, z7⟩, st7⟩ := X5.specialBack hx (y := (⟨"com/example/tagloom/tagloom/tlv/Element", "<init>", "(JIILcom/example/tagloom/tagloom/tlv/TagClass;JZJ)V"⟩ : MethodName)) rfl hown (mvT hZ (hw _ (List.mem_of_getElem? (i := 10) rfl))) (mvT hZ (hw _ (List.mem_of_getElem? (i := 11) rfl))) (mvT hZ (hw _ (List.mem_of_getElem? (i := 12) rfl))) (by decide) (backOf (W := 1) (rm2 l Z a0 hw [] b4 v0_71 v1_71 v2_71 (own_cls v3_71 wU wA wC wP) v4_71 v5_71 v6_71 ((.long (0 : Int64))) ((.int (0 : Int32))) ((.int (0 : Int32))) (.null) ((.long (0 : Int64))) ((.int (0 : Int32))) ((.long (0 : Int64))) h4 n0 zz6 E_b4 g_b4 F_offset_b4 F_headerLength_b4 F_depth_b4 F_tagClass_b4 F_tagNumber_b4 F_constructed_b4 F_length_b4) hZ (hw _ (List.mem_of_getElem? (i := 12) rfl)) (hw _ (List.mem_of_getElem? (i := 2) rfl)) (by decide) (by decide)) (g := (mkF m 320 #[.val (.long q0), .second, .val (.long q1), .second, .val (.long q2), .second, .val (.long q3), .second, .val (.long q4), .second, .val (.int q5), .val (.int hd), .val (.int dp), .val (.int (q5 &&& (3 : Int32))), .val (.int v0_19), .val (.int kk), .val (.long v0_71), .second, .val (.int v1_71), .val (.int v2_71), .val (.int v3_71), .val (.long v4_71), .second, .val (.int v5_71), .val (.long v6_71), .second, .val (.int v7_71), .val (.ref b1), .unset, .unset] [(.long v6_71), (.int v5_71), (.long v4_71), (.ref (own_cls v3_71 wU wA wC wP)), (.int v2_71), (.int v1_71), (.long v0_71), (.ref b4), (.ref b4)])) rfl (by rw [hml]; rfl) (Steps.refl _) (a := b4) (argsL := [(.long v0_71), (.int v1_71), (.int v2_71), (.ref (own_cls v3_71 wU wA wC wP)), (.long v4_71), (.int v5_71), (.long v6_71)]) (rest := [(.ref b4)]) (lenOf pd_3 rfl) rfl (by show 2 * 0 + _ ≤ _; exact Nat.le_of_eq rfl) (hb hby at_320) (fun _ _ => ⟨rfl, e5, (by decide : 2 + 0 ≤ _), (by decide : 14 + 0 ≤ _)⟩)
  dsimp only [Pt.U, Pt.locs, Pt.cells, Pt.slots] at X7 l7 y7 z7 st7 hQ7
  subst l7 y7 z7
  obtain ⟨rfl, N7q, K7, E7, F7_1, F7_2, F7_3, F7_4, F7_5, F7_6, F7_7⟩ := hQ7
  have N7 := Fr.app N5 N7q
  obtain ⟨cq8, kq8, q8a, q8b, q8c⟩ := isOf hZ rfl ((E3.ext E4).keep K7)
  obtain ⟨_, _, ⟨T8, L8, k8, n8⟩, -, X8, ⟨Lc8, hQ8, l8, y8, z8⟩, st8⟩ := X7.virtualBack hx (y := (⟨"com/example/tagloom/tagloom/tlv/Element", "equals", "(Ljava/lang/Object;)Z"⟩ : MethodName)) (z := (⟨"com/example/tagloom/tagloom/tlv/Element", "equals", "(Ljava/lang/Object;)Z"⟩ : MethodName)) hown (mvT hZ (hw _ (List.mem_of_getElem? (i := 30) rfl))) (mvT hZ (hw _ (List.mem_of_getElem? (i := 31) rfl))) (notFace_of_selects (args := #[]) (mvT hZ (hw _ (List.mem_of_getElem? (i := 33) rfl)))) (mvT hZ (hw _ (List.mem_of_getElem? (i := 33) rfl))) (mvT hZ (hw _ (List.mem_of_getElem? (i := 32) rfl))) (by decide) (backOf (W := 0) (rm4 l Z a0 hw [] b1 b1 q0 hd dp (own_cls (q5 &&& (3 : Int32)) wU wA wC wP) q1 (nar .boolean v0_19) q2 q0 hd dp (own_cls (q5 &&& (3 : Int32)) wU wA wC wP) q1 (nar .boolean v0_19) q2 T7.heap n0 (Nat.le_trans zz6 K7.1) ((E3.ext E4).keep K7) ((F3_1.ext E4).keep K7 (ninS ne4_b1 nin0)) ((F3_2.ext E4).keep K7 (ninS ne4_b1 nin0)) ((F3_3.ext E4).keep K7 (ninS ne4_b1 nin0)) ((F3_4.ext E4).keep K7 (ninS ne4_b1 nin0)) ((F3_5.ext E4).keep K7 (ninS ne4_b1 nin0)) ((F3_6.ext E4).keep K7 (ninS ne4_b1 nin0)) ((F3_7.ext E4).keep K7 (ninS ne4_b1 nin0)) ((F3_1.ext E4).keep K7 (ninS ne4_b1 nin0)) ((F3_2.ext E4).keep K7 (ninS ne4_b1 nin0)) ((F3_3.ext E4).keep K7 (ninS ne4_b1 nin0)) ((F3_4.ext E4).keep K7 (ninS ne4_b1 nin0)) ((F3_5.ext E4).keep K7 (ninS ne4_b1 nin0)) ((F3_6.ext E4).keep K7 (ninS ne4_b1 nin0)) ((F3_7.ext E4).keep K7 (ninS ne4_b1 nin0))) hZ (hw _ (List.mem_of_getElem? (i := 34) rfl)) (hw _ (List.mem_of_getElem? (i := 2) rfl)) (by decide) (by decide)) q8a q8c (g := (mkF m 329 #[.val (.long q0), .second, .val (.long q1), .second, .val (.long q2), .second, .val (.long q3), .second, .val (.long q4), .second, .val (.int q5), .val (.int hd), .val (.int dp), .val (.int (q5 &&& (3 : Int32))), .val (.int v0_19), .val (.int kk), .val (.long v0_71), .second, .val (.int v1_71), .val (.int v2_71), .val (.int v3_71), .val (.long v4_71), .second, .val (.int v5_71), .val (.long v6_71), .second, .val (.int v7_71), .val (.ref b1), .val (.ref b4), .unset] [(.ref b1), (.ref b1)])) rfl (by rw [hml]; rfl) (Steps.refl _) (argsL := [(.ref b1)]) (rest := []) (lenOf pd_4 rfl) rfl (by show 2 * 0 + _ ≤ _; exact Nat.le_of_eq rfl) (hb hby at_329) (fun _ _ => ⟨rfl, rfl, (by decide : 2 + 0 ≤ _), (by decide : 14 + 0 ≤ _)⟩)
  dsimp only [Pt.U, Pt.locs, Pt.cells, Pt.slots] at X8 l8 y8 z8 st8 hQ8
  subst l8 y8 z8
  obtain ⟨rfl, N8q, e8⟩ := hQ8
  have N8 := Fr.app N7 N8q
  obtain ⟨cq9, kq9, q9a, q9b, q9c⟩ := isOf hZ e8 ((E3.ext E4).keep K7)
  obtain ⟨_, _, ⟨T9, L9, k9, n9⟩, -, X9, ⟨Lc9, hQ9, l9, y9, z9⟩, st9⟩ := X8.virtualBack hx (y := (⟨"com/example/tagloom/tagloom/tlv/Element", "equals", "(Ljava/lang/Object;)Z"⟩ : MethodName)) (z := (⟨"com/example/tagloom/tagloom/tlv/Element", "equals", "(Ljava/lang/Object;)Z"⟩ : MethodName)) hown (mvT hZ (hw _ (List.mem_of_getElem? (i := 30) rfl))) (mvT hZ (hw _ (List.mem_of_getElem? (i := 31) rfl))) (notFace_of_selects (args := #[]) (mvT hZ (hw _ (List.mem_of_getElem? (i := 33) rfl)))) (mvT hZ (hw _ (List.mem_of_getElem? (i := 33) rfl))) (mvT hZ (hw _ (List.mem_of_getElem? (i := 32) rfl))) (by decide) (backOf (W := 0) (rm4 l Z a0 hw [] b1 b4 q0 hd dp (own_cls (q5 &&& (3 : Int32)) wU wA wC wP) q1 (nar .boolean v0_19) q2 v0_71 v1_71 v2_71 (own_cls v3_71 wU wA wC wP) v4_71 (nar .boolean v5_71) v6_71 T7.heap n0 (Nat.le_trans zz6 K7.1) E7 ((F3_1.ext E4).keep K7 (ninS ne4_b1 nin0)) ((F3_2.ext E4).keep K7 (ninS ne4_b1 nin0)) ((F3_3.ext E4).keep K7 (ninS ne4_b1 nin0)) ((F3_4.ext E4).keep K7 (ninS ne4_b1 nin0)) ((F3_5.ext E4).keep K7 (ninS ne4_b1 nin0)) ((F3_6.ext E4).keep K7 (ninS ne4_b1 nin0)) ((F3_7.ext E4).keep K7 (ninS ne4_b1 nin0)) F7_1 F7_2 F7_3 F7_4 F7_5 F7_6 F7_7) hZ (hw _ (List.mem_of_getElem? (i := 34) rfl)) (hw _ (List.mem_of_getElem? (i := 2) rfl)) (by decide) (by decide)) q9a q9c (g := (mkF m 339 #[.val (.long q0), .second, .val (.long q1), .second, .val (.long q2), .second, .val (.long q3), .second, .val (.long q4), .second, .val (.int q5), .val (.int hd), .val (.int dp), .val (.int (q5 &&& (3 : Int32))), .val (.int v0_19), .val (.int kk), .val (.long v0_71), .second, .val (.int v1_71), .val (.int v2_71), .val (.int v3_71), .val (.long v4_71), .second, .val (.int v5_71), .val (.long v6_71), .second, .val (.int v7_71), .val (.ref b1), .val (.ref b4), .unset] [(.ref b4), (.ref b1)])) rfl (by rw [hml]; rfl) (Steps.refl _) (argsL := [(.ref b4)]) (rest := []) (lenOf pd_4 rfl) rfl (by show 2 * 0 + _ ≤ _; exact Nat.le_of_eq rfl) (hb hby at_339) (fun _ _ => ⟨rfl, e8, (by decide : 2 + 0 ≤ _), (by decide : 14 + 0 ≤ _)⟩)
  dsimp only [Pt.U, Pt.locs, Pt.cells, Pt.slots] at X9 l9 y9 z9 st9 hQ9
  subst l9 y9 z9
  obtain ⟨rfl, N9q, e9⟩ := hQ9
  have N9 := Fr.app N8 N9q
  obtain ⟨cq10, kq10, q10a, q10b, q10c⟩ := isOf hZ e9 E7
  obtain ⟨_, _, ⟨T10, L10, k10, n10⟩, -, X10, ⟨Lc10, hQ10, l10, y10, z10⟩, st10⟩ := X9.virtualBack hx (y := (⟨"com/example/tagloom/tagloom/tlv/Element", "equals", "(Ljava/lang/Object;)Z"⟩ : MethodName)) (z := (⟨"com/example/tagloom/tagloom/tlv/Element", "equals", "(Ljava/lang/Object;)Z"⟩ : MethodName)) hown (mvT hZ (hw _ (List.mem_of_getElem? (i := 30) rfl))) (mvT hZ (hw _ (List.mem_of_getElem? (i := 31) rfl))) (notFace_of_selects (args := #[]) (mvT hZ (hw _ (List.mem_of_getElem? (i := 33) rfl)))) (mvT hZ (hw _ (List.mem_of_getElem? (i := 33) rfl))) (mvT hZ (hw _ (List.mem_of_getElem? (i := 32) rfl))) (by decide) (backOf (W := 0) (rm4 l Z a0 hw [] b4 b1 v0_71 v1_71 v2_71 (own_cls v3_71 wU wA wC wP) v4_71 (nar .boolean v5_71) v6_71 q0 hd dp (own_cls (q5 &&& (3 : Int32)) wU wA wC wP) q1 (nar .boolean v0_19) q2 T7.heap n0 (Nat.le_trans zz6 K7.1) ((E3.ext E4).keep K7) F7_1 F7_2 F7_3 F7_4 F7_5 F7_6 F7_7 ((F3_1.ext E4).keep K7 (ninS ne4_b1 nin0)) ((F3_2.ext E4).keep K7 (ninS ne4_b1 nin0)) ((F3_3.ext E4).keep K7 (ninS ne4_b1 nin0)) ((F3_4.ext E4).keep K7 (ninS ne4_b1 nin0)) ((F3_5.ext E4).keep K7 (ninS ne4_b1 nin0)) ((F3_6.ext E4).keep K7 (ninS ne4_b1 nin0)) ((F3_7.ext E4).keep K7 (ninS ne4_b1 nin0))) hZ (hw _ (List.mem_of_getElem? (i := 34) rfl)) (hw _ (List.mem_of_getElem? (i := 2) rfl)) (by decide) (by decide)) q10a q10c (g := (mkF m 351 #[.val (.long q0), .second, .val (.long q1), .second, .val (.long q2), .second, .val (.long q3), .second, .val (.long q4), .second, .val (.int q5), .val (.int hd), .val (.int dp), .val (.int (q5 &&& (3 : Int32))), .val (.int v0_19), .val (.int kk), .val (.long v0_71), .second, .val (.int v1_71), .val (.int v2_71), .val (.int v3_71), .val (.long v4_71), .second, .val (.int v5_71), .val (.long v6_71), .second, .val (.int v7_71), .val (.ref b1), .val (.ref b4), .unset] [(.ref b1), (.ref b4)])) rfl (by rw [hml]; rfl) (Steps.refl _) (argsL := [(.ref b1)]) (rest := []) (lenOf pd_4 rfl) rfl (by show 2 * 0 + _ ≤ _; exact Nat.le_of_eq rfl) (hb hby at_351) (fun _ _ => ⟨rfl, e9, (by decide : 2 + 0 ≤ _), (by decide : 14 + 0 ≤ _)⟩)
  dsimp only [Pt.U, Pt.locs, Pt.cells, Pt.slots] at X10 l10 y10 z10 st10 hQ10
  subst l10 y10 z10
  obtain ⟨rfl, N10q, e10⟩ := hQ10
  have N10 := Fr.app N9 N10q
  by_cases hc370 : kk = (8 : Int32)
  ·
    obtain ⟨_, _, ⟨T11, L11, k11, n11⟩, -, X11, ⟨Lc11, hQ11, l11, y11, z11⟩, st11⟩ := Jvm.LawKit.callS X10 hx (y := (⟨"java/lang/Long", "valueOf", "(J)Ljava/lang/Long;"⟩ : MethodName)) hown (mvT hZ (hw _ (List.mem_of_getElem? (i := 43) rfl))) (mvT hZ (hw _ (List.mem_of_getElem? (i := 44) rfl))) (mvT hZ (hw _ (List.mem_of_getElem? (i := 45) rfl))) (mvT hZ (hw _ (List.mem_of_getElem? (i := 46) rfl))) (by decide) (backOf (W := 1) (rm5 l Z a0 hw [] q0 T7.heap n0 (Nat.le_trans zz6 K7.1) ((((O0.ext E1).keep K3 (allS g_b1 all0)).ext E4).keep K7 (allS g_b4 all0)) CC) hZ (hw _ (List.mem_of_getElem? (i := 46) rfl)) (hw _ (List.mem_of_getElem? (i := 45) rfl)) (by decide) (by decide)) (g := (mkF m 381 #[.val (.long q0), .second, .val (.long q1), .second, .val (.long q2), .second, .val (.long q3), .second, .val (.long q4), .second, .val (.int q5), .val (.int hd), .val (.int dp), .val (.int (q5 &&& (3 : Int32))), .val (.int v0_19), .val (.int kk), .val (.long v0_71), .second, .val (.int v1_71), .val (.int v2_71), .val (.int v3_71), .val (.long v4_71), .second, .val (.int v5_71), .val (.long v6_71), .second, .val (.int v7_71), .val (.ref b1), .val (.ref b4), .val (.int (1 : Int32))] [(.long q0), (.ref b1)])) rfl (by rw [hml]; rfl) (argsL := [(.long q0)]) (rest := [(.ref b1)]) (lenOf pd_5 rfl) rfl (by show 2 * 0 + _ ≤ _; exact Nat.le_of_eq rfl) (hb hby at_381) (fun _ _ => ⟨rfl, e10, (by decide : 2 + 1 ≤ _), (by decide : 14 + 1 ≤ _)⟩)
    dsimp only [Pt.U, Pt.locs, Pt.cells, Pt.slots] at X11 l11 y11 z11 st11 hQ11
    subst l11 y11 z11
    obtain ⟨r11, rfl, N11q, K11, E11⟩ := hQ11
    have N11 := Fr.app N10 N11q
    obtain ⟨cq12, kq12, q12a, q12b, q12c⟩ := isOf hZ rfl (((E3.ext E4).keep K7).keep K11)
    obtain ⟨_, _, ⟨T12, L12, k12, n12⟩, -, X12, ⟨Lc12, hQ12, l12, y12, z12⟩, st12⟩ := X11.virtualBack hx (y := (⟨"com/example/tagloom/tagloom/tlv/Element", "equals", "(Ljava/lang/Object;)Z"⟩ : MethodName)) (z := (⟨"com/example/tagloom/tagloom/tlv/Element", "equals", "(Ljava/lang/Object;)Z"⟩ : MethodName)) hown (mvT hZ (hw _ (List.mem_of_getElem? (i := 30) rfl))) (mvT hZ (hw _ (List.mem_of_getElem? (i := 31) rfl))) (notFace_of_selects (args := #[]) (mvT hZ (hw _ (List.mem_of_getElem? (i := 33) rfl)))) (mvT hZ (hw _ (List.mem_of_getElem? (i := 33) rfl))) (mvT hZ (hw _ (List.mem_of_getElem? (i := 32) rfl))) (by decide) (backOf (W := 0) (rm4l l Z a0 hw [] b1 r11 T11.heap n0 (Nat.le_trans (Nat.le_trans zz6 K7.1) K11.1) E11) hZ (hw _ (List.mem_of_getElem? (i := 34) rfl)) (hw _ (List.mem_of_getElem? (i := 2) rfl)) (by decide) (by decide)) q12a q12c (g := (mkF m 384 #[.val (.long q0), .second, .val (.long q1), .second, .val (.long q2), .second, .val (.long q3), .second, .val (.long q4), .second, .val (.int q5), .val (.int hd), .val (.int dp), .val (.int (q5 &&& (3 : Int32))), .val (.int v0_19), .val (.int kk), .val (.long v0_71), .second, .val (.int v1_71), .val (.int v2_71), .val (.int v3_71), .val (.long v4_71), .second, .val (.int v5_71), .val (.long v6_71), .second, .val (.int v7_71), .val (.ref b1), .val (.ref b4), .val (.int (1 : Int32))] [(.ref r11), (.ref b1)])) rfl (by rw [hml]; rfl) (Steps.refl _) (argsL := [(.ref r11)]) (rest := []) (lenOf pd_4 rfl) rfl (by show 2 * 0 + _ ≤ _; exact Nat.le_of_eq rfl) (hb hby at_384) (fun _ _ => ⟨rfl, rfl, (by decide : 3 + 0 ≤ _), (by decide : 15 + 0 ≤ _)⟩)
    dsimp only [Pt.U, Pt.locs, Pt.cells, Pt.slots] at X12 l12 y12 z12 st12 hQ12
    subst l12 y12 z12
    obtain ⟨rfl, N12q, e12⟩ := hQ12
    have N12 := Fr.app N11 N12q
    obtain ⟨cq13, kq13, q13a, q13b, q13c⟩ := isOf hZ e12 (((E3.ext E4).keep K7).keep K11)
    obtain ⟨_, _, ⟨T13, L13, k13, n13⟩, -, X13, ⟨Lc13, hQ13, l13, y13, z13⟩, st13⟩ := X12.virtualBack hx (y := (⟨"com/example/tagloom/tagloom/tlv/Element", "equals", "(Ljava/lang/Object;)Z"⟩ : MethodName)) (z := (⟨"com/example/tagloom/tagloom/tlv/Element", "equals", "(Ljava/lang/Object;)Z"⟩ : MethodName)) hown (mvT hZ (hw _ (List.mem_of_getElem? (i := 30) rfl))) (mvT hZ (hw _ (List.mem_of_getElem? (i := 31) rfl))) (notFace_of_selects (args := #[]) (mvT hZ (hw _ (List.mem_of_getElem? (i := 33) rfl)))) (mvT hZ (hw _ (List.mem_of_getElem? (i := 33) rfl))) (mvT hZ (hw _ (List.mem_of_getElem? (i := 32) rfl))) (by decide) (backOf (W := 0) (rm4n l Z a0 hw [] b1 T11.heap n0 (Nat.le_trans (Nat.le_trans zz6 K7.1) K11.1)) hZ (hw _ (List.mem_of_getElem? (i := 34) rfl)) (hw _ (List.mem_of_getElem? (i := 2) rfl)) (by decide) (by decide)) q13a q13c (g := (mkF m 393 #[.val (.long q0), .second, .val (.long q1), .second, .val (.long q2), .second, .val (.long q3), .second, .val (.long q4), .second, .val (.int q5), .val (.int hd), .val (.int dp), .val (.int (q5 &&& (3 : Int32))), .val (.int v0_19), .val (.int kk), .val (.long v0_71), .second, .val (.int v1_71), .val (.int v2_71), .val (.int v3_71), .val (.long v4_71), .second, .val (.int v5_71), .val (.long v6_71), .second, .val (.int v7_71), .val (.ref b1), .val (.ref b4), .val (.int (1 : Int32))] [.null, (.ref b1)])) rfl (by rw [hml]; rfl) (Steps.refl _) (argsL := [.null]) (rest := []) (lenOf pd_4 rfl) rfl (by show 2 * 0 + _ ≤ _; exact Nat.le_of_eq rfl) (hb hby at_393) (fun _ _ => ⟨rfl, e12, (by decide : 3 + 0 ≤ _), (by decide : 15 + 0 ≤ _)⟩)
    dsimp only [Pt.U, Pt.locs, Pt.cells, Pt.slots] at X13 l13 y13 z13 st13 hQ13
    subst l13 y13 z13
    obtain ⟨rfl, N13q, e13⟩ := hQ13
    have N13 := Fr.app N12 N13q
    obtain ⟨fs, hr, hrun, hended, hW, hsame⟩ := X13.leave (v := some (.int (1 : Int32))) (fun h => by rw [Bd.returns] at h; cases h)
    refine ⟨_, _, pre0 _ ?_, hrun, hended, _, _, rfl, ?_, ⟨_, rfl⟩, hW, hsame.mono (by decide) (by decide)⟩
    · show Steps p.tables e below (s₁.setTop (mkF m 0 #[.val (.long q0), .second, .val (.long q1), .second, .val (.long q2), .second, .val (.long q3), .second, .val (.long q4), .second, .val (.int q5), .unset, .unset, .unset, .unset, .unset, .unset, .unset, .unset, .unset, .unset, .unset, .unset, .unset, .unset, .unset, .unset, .unset, .unset, .unset] [])) _
      refine XS.lload X0.here hx rfl (hb hby at_0) rfl ?_
      show Steps p.tables e below (s₁.setTop (mkF m 2 #[.val (.long q0), .second, .val (.long q1), .second, .val (.long q2), .second, .val (.long q3), .second, .val (.long q4), .second, .val (.int q5), .unset, .unset, .unset, .unset, .unset, .unset, .unset, .unset, .unset, .unset, .unset, .unset, .unset, .unset, .unset, .unset, .unset, .unset, .unset] [(.long q3)])) _
      refine XS.l2i X0.here hx rfl (hb hby at_2) rfl ?_
      show Steps p.tables e below (s₁.setTop (mkF m 3 #[.val (.long q0), .second, .val (.long q1), .second, .val (.long q2), .second, .val (.long q3), .second, .val (.long q4), .second, .val (.int q5), .unset, .unset, .unset, .unset, .unset, .unset, .unset, .unset, .unset, .unset, .unset, .unset, .unset, .unset, .unset, .unset, .unset, .unset, .unset] [(.int (q3.toInt32))])) _
      refine XS.istore X0.here hx rfl (hb hby at_3) rfl (l' := #[.val (.long q0), .second, .val (.long q1), .second, .val (.long q2), .second, .val (.long q3), .second, .val (.long q4), .second, .val (.int q5), .val (.int (q3.toInt32)), .unset, .unset, .unset, .unset, .unset, .unset, .unset, .unset, .unset, .unset, .unset, .unset, .unset, .unset, .unset, .unset, .unset, .unset]) rfl ?_
      show Steps p.tables e below (s₁.setTop (mkF m 5 #[.val (.long q0), .second, .val (.long q1), .second, .val (.long q2), .second, .val (.long q3), .second, .val (.long q4), .second, .val (.int q5), .val (.int (q3.toInt32)), .unset, .unset, .unset, .unset, .unset, .unset, .unset, .unset, .unset, .unset, .unset, .unset, .unset, .unset, .unset, .unset, .unset, .unset] [])) _
      rw [← hhd]
      show Steps p.tables e below (s₁.setTop (mkF m 5 #[.val (.long q0), .second, .val (.long q1), .second, .val (.long q2), .second, .val (.long q3), .second, .val (.long q4), .second, .val (.int q5), .val (.int hd), .unset, .unset, .unset, .unset, .unset, .unset, .unset, .unset, .unset, .unset, .unset, .unset, .unset, .unset, .unset, .unset, .unset, .unset] [])) _
      refine XS.lload X0.here hx rfl (hb hby at_5) rfl ?_
      show Steps p.tables e below (s₁.setTop (mkF m 7 #[.val (.long q0), .second, .val (.long q1), .second, .val (.long q2), .second, .val (.long q3), .second, .val (.long q4), .second, .val (.int q5), .val (.int hd), .unset, .unset, .unset, .unset, .unset, .unset, .unset, .unset, .unset, .unset, .unset, .unset, .unset, .unset, .unset, .unset, .unset, .unset] [(.long q3)])) _
      refine XS.bipush X0.here hx rfl (hb hby at_7) ?_
      show Steps p.tables e below (s₁.setTop (mkF m 9 #[.val (.long q0), .second, .val (.long q1), .second, .val (.long q2), .second, .val (.long q3), .second, .val (.long q4), .second, .val (.int q5), .val (.int hd), .unset, .unset, .unset, .unset, .unset, .unset, .unset, .unset, .unset, .unset, .unset, .unset, .unset, .unset, .unset, .unset, .unset, .unset] [(.int (32 : Int32)), (.long q3)])) _
      refine XS.lushr X0.here hx rfl (hb hby at_9) rfl ?_
      show Steps p.tables e below (s₁.setTop (mkF m 10 #[.val (.long q0), .second, .val (.long q1), .second, .val (.long q2), .second, .val (.long q3), .second, .val (.long q4), .second, .val (.int q5), .val (.int hd), .unset, .unset, .unset, .unset, .unset, .unset, .unset, .unset, .unset, .unset, .unset, .unset, .unset, .unset, .unset, .unset, .unset, .unset] [(.long ((q3.toUInt64 >>> ((32 : Int32) &&& 0x3f).toInt64.toUInt64).toInt64))])) _
      refine XS.l2i X0.here hx rfl (hb hby at_10) rfl ?_
      show Steps p.tables e below (s₁.setTop (mkF m 11 #[.val (.long q0), .second, .val (.long q1), .second, .val (.long q2), .second, .val (.long q3), .second, .val (.long q4), .second, .val (.int q5), .val (.int hd), .unset, .unset, .unset, .unset, .unset, .unset, .unset, .unset, .unset, .unset, .unset, .unset, .unset, .unset, .unset, .unset, .unset, .unset] [(.int (((q3.toUInt64 >>> ((32 : Int32) &&& 0x3f).toInt64.toUInt64).toInt64).toInt32))])) _
      refine XS.istore X0.here hx rfl (hb hby at_11) rfl (l' := #[.val (.long q0), .second, .val (.long q1), .second, .val (.long q2), .second, .val (.long q3), .second, .val (.long q4), .second, .val (.int q5), .val (.int hd), .val (.int (((q3.toUInt64 >>> ((32 : Int32) &&& 0x3f).toInt64.toUInt64).toInt64).toInt32)), .unset, .unset, .unset, .unset, .unset, .unset, .unset, .unset, .unset, .unset, .unset, .unset, .unset, .unset, .unset, .unset, .unset]) rfl ?_
      show Steps p.tables e below (s₁.setTop (mkF m 13 #[.val (.long q0), .second, .val (.long q1), .second, .val (.long q2), .second, .val (.long q3), .second, .val (.long q4), .second, .val (.int q5), .val (.int hd), .val (.int (((q3.toUInt64 >>> ((32 : Int32) &&& 0x3f).toInt64.toUInt64).toInt64).toInt32)), .unset, .unset, .unset, .unset, .unset, .unset, .unset, .unset, .unset, .unset, .unset, .unset, .unset, .unset, .unset, .unset, .unset] [])) _
      rw [← hdp]
      show Steps p.tables e below (s₁.setTop (mkF m 13 #[.val (.long q0), .second, .val (.long q1), .second, .val (.long q2), .second, .val (.long q3), .second, .val (.long q4), .second, .val (.int q5), .val (.int hd), .val (.int dp), .unset, .unset, .unset, .unset, .unset, .unset, .unset, .unset, .unset, .unset, .unset, .unset, .unset, .unset, .unset, .unset, .unset] [])) _
      refine XS.iload X0.here hx rfl (hb hby at_13) rfl ?_
      show Steps p.tables e below (s₁.setTop (mkF m 15 #[.val (.long q0), .second, .val (.long q1), .second, .val (.long q2), .second, .val (.long q3), .second, .val (.long q4), .second, .val (.int q5), .val (.int hd), .val (.int dp), .unset, .unset, .unset, .unset, .unset, .unset, .unset, .unset, .unset, .unset, .unset, .unset, .unset, .unset, .unset, .unset, .unset] [(.int q5)])) _
      refine XS.iconst X0.here hx rfl (hb hby at_15) ?_
      show Steps p.tables e below (s₁.setTop (mkF m 16 #[.val (.long q0), .second, .val (.long q1), .second, .val (.long q2), .second, .val (.long q3), .second, .val (.long q4), .second, .val (.int q5), .val (.int hd), .val (.int dp), .unset, .unset, .unset, .unset, .unset, .unset, .unset, .unset, .unset, .unset, .unset, .unset, .unset, .unset, .unset, .unset, .unset] [(.int (3 : Int32)), (.int q5)])) _
      refine XS.iand X0.here hx rfl (hb hby at_16) rfl ?_
      show Steps p.tables e below (s₁.setTop (mkF m 17 #[.val (.long q0), .second, .val (.long q1), .second, .val (.long q2), .second, .val (.long q3), .second, .val (.long q4), .second, .val (.int q5), .val (.int hd), .val (.int dp), .unset, .unset, .unset, .unset, .unset, .unset, .unset, .unset, .unset, .unset, .unset, .unset, .unset, .unset, .unset, .unset, .unset] [(.int (q5 &&& (3 : Int32)))])) _
      refine XS.istore X0.here hx rfl (hb hby at_17) rfl (l' := #[.val (.long q0), .second, .val (.long q1), .second, .val (.long q2), .second, .val (.long q3), .second, .val (.long q4), .second, .val (.int q5), .val (.int hd), .val (.int dp), .val (.int (q5 &&& (3 : Int32))), .unset, .unset, .unset, .unset, .unset, .unset, .unset, .unset, .unset, .unset, .unset, .unset, .unset, .unset, .unset, .unset]) rfl ?_
      show Steps p.tables e below (s₁.setTop (mkF m 19 #[.val (.long q0), .second, .val (.long q1), .second, .val (.long q2), .second, .val (.long q3), .second, .val (.long q4), .second, .val (.int q5), .val (.int hd), .val (.int dp), .val (.int (q5 &&& (3 : Int32))), .unset, .unset, .unset, .unset, .unset, .unset, .unset, .unset, .unset, .unset, .unset, .unset, .unset, .unset, .unset, .unset] [])) _
      refine sg_19  (.val (.long q0)) (.second) (.val (.long q1)) (.second) (.val (.long q2)) (.second) (.val (.long q3)) (.second) (.val (.long q4)) (.second) (q5) (.val (.int hd)) (.val (.int dp)) (.val (.int (q5 &&& (3 : Int32)))) (.unset) (.unset) (.unset) (.unset) (.unset) (.unset) (.unset) (.unset) (.unset) (.unset) (.unset) (.unset) (.unset) (.unset) (.unset) (.unset) v0_19 hv0_19 X0 hx hZ hw hby hown ?_
      show Steps p.tables e below (s₁.setTop (mkF m 31 #[.val (.long q0), .second, .val (.long q1), .second, .val (.long q2), .second, .val (.long q3), .second, .val (.long q4), .second, .val (.int q5), .val (.int hd), .val (.int dp), .val (.int (q5 &&& (3 : Int32))), .unset, .unset, .unset, .unset, .unset, .unset, .unset, .unset, .unset, .unset, .unset, .unset, .unset, .unset, .unset, .unset] [(.int v0_19)])) _
      refine XS.istore X0.here hx rfl (hb hby at_31) rfl (l' := #[.val (.long q0), .second, .val (.long q1), .second, .val (.long q2), .second, .val (.long q3), .second, .val (.long q4), .second, .val (.int q5), .val (.int hd), .val (.int dp), .val (.int (q5 &&& (3 : Int32))), .val (.int v0_19), .unset, .unset, .unset, .unset, .unset, .unset, .unset, .unset, .unset, .unset, .unset, .unset, .unset, .unset, .unset]) rfl ?_
      show Steps p.tables e below (s₁.setTop (mkF m 33 #[.val (.long q0), .second, .val (.long q1), .second, .val (.long q2), .second, .val (.long q3), .second, .val (.long q4), .second, .val (.int q5), .val (.int hd), .val (.int dp), .val (.int (q5 &&& (3 : Int32))), .val (.int v0_19), .unset, .unset, .unset, .unset, .unset, .unset, .unset, .unset, .unset, .unset, .unset, .unset, .unset, .unset, .unset] [])) _
      refine XS.iload X0.here hx rfl (hb hby at_33) rfl ?_
      show Steps p.tables e below (s₁.setTop (mkF m 35 #[.val (.long q0), .second, .val (.long q1), .second, .val (.long q2), .second, .val (.long q3), .second, .val (.long q4), .second, .val (.int q5), .val (.int hd), .val (.int dp), .val (.int (q5 &&& (3 : Int32))), .val (.int v0_19), .unset, .unset, .unset, .unset, .unset, .unset, .unset, .unset, .unset, .unset, .unset, .unset, .unset, .unset, .unset] [(.int q5)])) _
      refine XS.iconst X0.here hx rfl (hb hby at_35) ?_
      show Steps p.tables e below (s₁.setTop (mkF m 36 #[.val (.long q0), .second, .val (.long q1), .second, .val (.long q2), .second, .val (.long q3), .second, .val (.long q4), .second, .val (.int q5), .val (.int hd), .val (.int dp), .val (.int (q5 &&& (3 : Int32))), .val (.int v0_19), .unset, .unset, .unset, .unset, .unset, .unset, .unset, .unset, .unset, .unset, .unset, .unset, .unset, .unset, .unset] [(.int (3 : Int32)), (.int q5)])) _
      refine XS.iushr X0.here hx rfl (hb hby at_36) rfl ?_
      show Steps p.tables e below (s₁.setTop (mkF m 37 #[.val (.long q0), .second, .val (.long q1), .second, .val (.long q2), .second, .val (.long q3), .second, .val (.long q4), .second, .val (.int q5), .val (.int hd), .val (.int dp), .val (.int (q5 &&& (3 : Int32))), .val (.int v0_19), .unset, .unset, .unset, .unset, .unset, .unset, .unset, .unset, .unset, .unset, .unset, .unset, .unset, .unset, .unset] [(.int ((q5.toUInt32 >>> ((3 : Int32) &&& 31).toUInt32).toInt32))])) _
      refine XS.bipush X0.here hx rfl (hb hby at_37) ?_
      show Steps p.tables e below (s₁.setTop (mkF m 39 #[.val (.long q0), .second, .val (.long q1), .second, .val (.long q2), .second, .val (.long q3), .second, .val (.long q4), .second, .val (.int q5), .val (.int hd), .val (.int dp), .val (.int (q5 &&& (3 : Int32))), .val (.int v0_19), .unset, .unset, .unset, .unset, .unset, .unset, .unset, .unset, .unset, .unset, .unset, .unset, .unset, .unset, .unset] [(.int (15 : Int32)), (.int ((q5.toUInt32 >>> ((3 : Int32) &&& 31).toUInt32).toInt32))])) _
      refine XS.iand X0.here hx rfl (hb hby at_39) rfl ?_
      show Steps p.tables e below (s₁.setTop (mkF m 40 #[.val (.long q0), .second, .val (.long q1), .second, .val (.long q2), .second, .val (.long q3), .second, .val (.long q4), .second, .val (.int q5), .val (.int hd), .val (.int dp), .val (.int (q5 &&& (3 : Int32))), .val (.int v0_19), .unset, .unset, .unset, .unset, .unset, .unset, .unset, .unset, .unset, .unset, .unset, .unset, .unset, .unset, .unset] [(.int (((q5.toUInt32 >>> ((3 : Int32) &&& 31).toUInt32).toInt32) &&& (15 : Int32)))])) _
      refine XS.istore X0.here hx rfl (hb hby at_40) rfl (l' := #[.val (.long q0), .second, .val (.long q1), .second, .val (.long q2), .second, .val (.long q3), .second, .val (.long q4), .second, .val (.int q5), .val (.int hd), .val (.int dp), .val (.int (q5 &&& (3 : Int32))), .val (.int v0_19), .val (.int (((q5.toUInt32 >>> ((3 : Int32) &&& 31).toUInt32).toInt32) &&& (15 : Int32))), .unset, .unset, .unset, .unset, .unset, .unset, .unset, .unset, .unset, .unset, .unset, .unset, .unset, .unset]) rfl ?_
      show Steps p.tables e below (s₁.setTop (mkF m 42 #[.val (.long q0), .second, .val (.long q1), .second, .val (.long q2), .second, .val (.long q3), .second, .val (.long q4), .second, .val (.int q5), .val (.int hd), .val (.int dp), .val (.int (q5 &&& (3 : Int32))), .val (.int v0_19), .val (.int (((q5.toUInt32 >>> ((3 : Int32) &&& 31).toUInt32).toInt32) &&& (15 : Int32))), .unset, .unset, .unset, .unset, .unset, .unset, .unset, .unset, .unset, .unset, .unset, .unset, .unset, .unset] [])) _
      rw [← hkk]
      show Steps p.tables e below (s₁.setTop (mkF m 42 #[.val (.long q0), .second, .val (.long q1), .second, .val (.long q2), .second, .val (.long q3), .second, .val (.long q4), .second, .val (.int q5), .val (.int hd), .val (.int dp), .val (.int (q5 &&& (3 : Int32))), .val (.int v0_19), .val (.int kk), .unset, .unset, .unset, .unset, .unset, .unset, .unset, .unset, .unset, .unset, .unset, .unset, .unset, .unset] [])) _
      refine XS.lloadN X0.here hx rfl (hb hby at_42) rfl ?_
      show Steps p.tables e below (s₁.setTop (mkF m 43 #[.val (.long q0), .second, .val (.long q1), .second, .val (.long q2), .second, .val (.long q3), .second, .val (.long q4), .second, .val (.int q5), .val (.int hd), .val (.int dp), .val (.int (q5 &&& (3 : Int32))), .val (.int v0_19), .val (.int kk), .unset, .unset, .unset, .unset, .unset, .unset, .unset, .unset, .unset, .unset, .unset, .unset, .unset, .unset] [(.long q0)])) _
      refine XS.lstore X0.here hx rfl (hb hby at_43) rfl (l' := #[.val (.long q0), .second, .val (.long q1), .second, .val (.long q2), .second, .val (.long q3), .second, .val (.long q4), .second, .val (.int q5), .val (.int hd), .val (.int dp), .val (.int (q5 &&& (3 : Int32))), .val (.int v0_19), .val (.int kk), .val (.long q0), .second, .unset, .unset, .unset, .unset, .unset, .unset, .unset, .unset, .unset, .unset, .unset, .unset]) rfl ?_
      show Steps p.tables e below (s₁.setTop (mkF m 45 #[.val (.long q0), .second, .val (.long q1), .second, .val (.long q2), .second, .val (.long q3), .second, .val (.long q4), .second, .val (.int q5), .val (.int hd), .val (.int dp), .val (.int (q5 &&& (3 : Int32))), .val (.int v0_19), .val (.int kk), .val (.long q0), .second, .unset, .unset, .unset, .unset, .unset, .unset, .unset, .unset, .unset, .unset, .unset, .unset] [])) _
      refine XS.iload X0.here hx rfl (hb hby at_45) rfl ?_
      show Steps p.tables e below (s₁.setTop (mkF m 47 #[.val (.long q0), .second, .val (.long q1), .second, .val (.long q2), .second, .val (.long q3), .second, .val (.long q4), .second, .val (.int q5), .val (.int hd), .val (.int dp), .val (.int (q5 &&& (3 : Int32))), .val (.int v0_19), .val (.int kk), .val (.long q0), .second, .unset, .unset, .unset, .unset, .unset, .unset, .unset, .unset, .unset, .unset, .unset, .unset] [(.int hd)])) _
      refine XS.istore X0.here hx rfl (hb hby at_47) rfl (l' := #[.val (.long q0), .second, .val (.long q1), .second, .val (.long q2), .second, .val (.long q3), .second, .val (.long q4), .second, .val (.int q5), .val (.int hd), .val (.int dp), .val (.int (q5 &&& (3 : Int32))), .val (.int v0_19), .val (.int kk), .val (.long q0), .second, .val (.int hd), .unset, .unset, .unset, .unset, .unset, .unset, .unset, .unset, .unset, .unset, .unset]) rfl ?_
      show Steps p.tables e below (s₁.setTop (mkF m 49 #[.val (.long q0), .second, .val (.long q1), .second, .val (.long q2), .second, .val (.long q3), .second, .val (.long q4), .second, .val (.int q5), .val (.int hd), .val (.int dp), .val (.int (q5 &&& (3 : Int32))), .val (.int v0_19), .val (.int kk), .val (.long q0), .second, .val (.int hd), .unset, .unset, .unset, .unset, .unset, .unset, .unset, .unset, .unset, .unset, .unset] [])) _
      refine XS.iload X0.here hx rfl (hb hby at_49) rfl ?_
      show Steps p.tables e below (s₁.setTop (mkF m 51 #[.val (.long q0), .second, .val (.long q1), .second, .val (.long q2), .second, .val (.long q3), .second, .val (.long q4), .second, .val (.int q5), .val (.int hd), .val (.int dp), .val (.int (q5 &&& (3 : Int32))), .val (.int v0_19), .val (.int kk), .val (.long q0), .second, .val (.int hd), .unset, .unset, .unset, .unset, .unset, .unset, .unset, .unset, .unset, .unset, .unset] [(.int dp)])) _
      refine XS.istore X0.here hx rfl (hb hby at_51) rfl (l' := #[.val (.long q0), .second, .val (.long q1), .second, .val (.long q2), .second, .val (.long q3), .second, .val (.long q4), .second, .val (.int q5), .val (.int hd), .val (.int dp), .val (.int (q5 &&& (3 : Int32))), .val (.int v0_19), .val (.int kk), .val (.long q0), .second, .val (.int hd), .val (.int dp), .unset, .unset, .unset, .unset, .unset, .unset, .unset, .unset, .unset, .unset]) rfl ?_
      show Steps p.tables e below (s₁.setTop (mkF m 53 #[.val (.long q0), .second, .val (.long q1), .second, .val (.long q2), .second, .val (.long q3), .second, .val (.long q4), .second, .val (.int q5), .val (.int hd), .val (.int dp), .val (.int (q5 &&& (3 : Int32))), .val (.int v0_19), .val (.int kk), .val (.long q0), .second, .val (.int hd), .val (.int dp), .unset, .unset, .unset, .unset, .unset, .unset, .unset, .unset, .unset, .unset] [])) _
      refine XS.iload X0.here hx rfl (hb hby at_53) rfl ?_
      show Steps p.tables e below (s₁.setTop (mkF m 55 #[.val (.long q0), .second, .val (.long q1), .second, .val (.long q2), .second, .val (.long q3), .second, .val (.long q4), .second, .val (.int q5), .val (.int hd), .val (.int dp), .val (.int (q5 &&& (3 : Int32))), .val (.int v0_19), .val (.int kk), .val (.long q0), .second, .val (.int hd), .val (.int dp), .unset, .unset, .unset, .unset, .unset, .unset, .unset, .unset, .unset, .unset] [(.int (q5 &&& (3 : Int32)))])) _
      refine XS.istore X0.here hx rfl (hb hby at_55) rfl (l' := #[.val (.long q0), .second, .val (.long q1), .second, .val (.long q2), .second, .val (.long q3), .second, .val (.long q4), .second, .val (.int q5), .val (.int hd), .val (.int dp), .val (.int (q5 &&& (3 : Int32))), .val (.int v0_19), .val (.int kk), .val (.long q0), .second, .val (.int hd), .val (.int dp), .val (.int (q5 &&& (3 : Int32))), .unset, .unset, .unset, .unset, .unset, .unset, .unset, .unset, .unset]) rfl ?_
      show Steps p.tables e below (s₁.setTop (mkF m 57 #[.val (.long q0), .second, .val (.long q1), .second, .val (.long q2), .second, .val (.long q3), .second, .val (.long q4), .second, .val (.int q5), .val (.int hd), .val (.int dp), .val (.int (q5 &&& (3 : Int32))), .val (.int v0_19), .val (.int kk), .val (.long q0), .second, .val (.int hd), .val (.int dp), .val (.int (q5 &&& (3 : Int32))), .unset, .unset, .unset, .unset, .unset, .unset, .unset, .unset, .unset] [])) _
      refine XS.lloadN X0.here hx rfl (hb hby at_57) rfl ?_
      show Steps p.tables e below (s₁.setTop (mkF m 58 #[.val (.long q0), .second, .val (.long q1), .second, .val (.long q2), .second, .val (.long q3), .second, .val (.long q4), .second, .val (.int q5), .val (.int hd), .val (.int dp), .val (.int (q5 &&& (3 : Int32))), .val (.int v0_19), .val (.int kk), .val (.long q0), .second, .val (.int hd), .val (.int dp), .val (.int (q5 &&& (3 : Int32))), .unset, .unset, .unset, .unset, .unset, .unset, .unset, .unset, .unset] [(.long q1)])) _
      refine XS.lstore X0.here hx rfl (hb hby at_58) rfl (l' := #[.val (.long q0), .second, .val (.long q1), .second, .val (.long q2), .second, .val (.long q3), .second, .val (.long q4), .second, .val (.int q5), .val (.int hd), .val (.int dp), .val (.int (q5 &&& (3 : Int32))), .val (.int v0_19), .val (.int kk), .val (.long q0), .second, .val (.int hd), .val (.int dp), .val (.int (q5 &&& (3 : Int32))), .val (.long q1), .second, .unset, .unset, .unset, .unset, .unset, .unset, .unset]) rfl ?_
      show Steps p.tables e below (s₁.setTop (mkF m 60 #[.val (.long q0), .second, .val (.long q1), .second, .val (.long q2), .second, .val (.long q3), .second, .val (.long q4), .second, .val (.int q5), .val (.int hd), .val (.int dp), .val (.int (q5 &&& (3 : Int32))), .val (.int v0_19), .val (.int kk), .val (.long q0), .second, .val (.int hd), .val (.int dp), .val (.int (q5 &&& (3 : Int32))), .val (.long q1), .second, .unset, .unset, .unset, .unset, .unset, .unset, .unset] [])) _
      refine XS.iload X0.here hx rfl (hb hby at_60) rfl ?_
      show Steps p.tables e below (s₁.setTop (mkF m 62 #[.val (.long q0), .second, .val (.long q1), .second, .val (.long q2), .second, .val (.long q3), .second, .val (.long q4), .second, .val (.int q5), .val (.int hd), .val (.int dp), .val (.int (q5 &&& (3 : Int32))), .val (.int v0_19), .val (.int kk), .val (.long q0), .second, .val (.int hd), .val (.int dp), .val (.int (q5 &&& (3 : Int32))), .val (.long q1), .second, .unset, .unset, .unset, .unset, .unset, .unset, .unset] [(.int v0_19)])) _
      refine XS.istore X0.here hx rfl (hb hby at_62) rfl (l' := #[.val (.long q0), .second, .val (.long q1), .second, .val (.long q2), .second, .val (.long q3), .second, .val (.long q4), .second, .val (.int q5), .val (.int hd), .val (.int dp), .val (.int (q5 &&& (3 : Int32))), .val (.int v0_19), .val (.int kk), .val (.long q0), .second, .val (.int hd), .val (.int dp), .val (.int (q5 &&& (3 : Int32))), .val (.long q1), .second, .val (.int v0_19), .unset, .unset, .unset, .unset, .unset, .unset]) rfl ?_
      show Steps p.tables e below (s₁.setTop (mkF m 64 #[.val (.long q0), .second, .val (.long q1), .second, .val (.long q2), .second, .val (.long q3), .second, .val (.long q4), .second, .val (.int q5), .val (.int hd), .val (.int dp), .val (.int (q5 &&& (3 : Int32))), .val (.int v0_19), .val (.int kk), .val (.long q0), .second, .val (.int hd), .val (.int dp), .val (.int (q5 &&& (3 : Int32))), .val (.long q1), .second, .val (.int v0_19), .unset, .unset, .unset, .unset, .unset, .unset] [])) _
      refine XS.lload X0.here hx rfl (hb hby at_64) rfl ?_
      show Steps p.tables e below (s₁.setTop (mkF m 66 #[.val (.long q0), .second, .val (.long q1), .second, .val (.long q2), .second, .val (.long q3), .second, .val (.long q4), .second, .val (.int q5), .val (.int hd), .val (.int dp), .val (.int (q5 &&& (3 : Int32))), .val (.int v0_19), .val (.int kk), .val (.long q0), .second, .val (.int hd), .val (.int dp), .val (.int (q5 &&& (3 : Int32))), .val (.long q1), .second, .val (.int v0_19), .unset, .unset, .unset, .unset, .unset, .unset] [(.long q2)])) _
      refine XS.lstore X0.here hx rfl (hb hby at_66) rfl (l' := #[.val (.long q0), .second, .val (.long q1), .second, .val (.long q2), .second, .val (.long q3), .second, .val (.long q4), .second, .val (.int q5), .val (.int hd), .val (.int dp), .val (.int (q5 &&& (3 : Int32))), .val (.int v0_19), .val (.int kk), .val (.long q0), .second, .val (.int hd), .val (.int dp), .val (.int (q5 &&& (3 : Int32))), .val (.long q1), .second, .val (.int v0_19), .val (.long q2), .second, .unset, .unset, .unset, .unset]) rfl ?_
      show Steps p.tables e below (s₁.setTop (mkF m 68 #[.val (.long q0), .second, .val (.long q1), .second, .val (.long q2), .second, .val (.long q3), .second, .val (.long q4), .second, .val (.int q5), .val (.int hd), .val (.int dp), .val (.int (q5 &&& (3 : Int32))), .val (.int v0_19), .val (.int kk), .val (.long q0), .second, .val (.int hd), .val (.int dp), .val (.int (q5 &&& (3 : Int32))), .val (.long q1), .second, .val (.int v0_19), .val (.long q2), .second, .unset, .unset, .unset, .unset] [])) _
      refine XS.iconst X0.here hx rfl (hb hby at_68) ?_
      show Steps p.tables e below (s₁.setTop (mkF m 69 #[.val (.long q0), .second, .val (.long q1), .second, .val (.long q2), .second, .val (.long q3), .second, .val (.long q4), .second, .val (.int q5), .val (.int hd), .val (.int dp), .val (.int (q5 &&& (3 : Int32))), .val (.int v0_19), .val (.int kk), .val (.long q0), .second, .val (.int hd), .val (.int dp), .val (.int (q5 &&& (3 : Int32))), .val (.long q1), .second, .val (.int v0_19), .val (.long q2), .second, .unset, .unset, .unset, .unset] [(.int (1 : Int32))])) _
      refine XS.istore X0.here hx rfl (hb hby at_69) rfl (l' := #[.val (.long q0), .second, .val (.long q1), .second, .val (.long q2), .second, .val (.long q3), .second, .val (.long q4), .second, .val (.int q5), .val (.int hd), .val (.int dp), .val (.int (q5 &&& (3 : Int32))), .val (.int v0_19), .val (.int kk), .val (.long q0), .second, .val (.int hd), .val (.int dp), .val (.int (q5 &&& (3 : Int32))), .val (.long q1), .second, .val (.int v0_19), .val (.long q2), .second, .val (.int (1 : Int32)), .unset, .unset, .unset]) rfl ?_
      show Steps p.tables e below (s₁.setTop (mkF m 71 #[.val (.long q0), .second, .val (.long q1), .second, .val (.long q2), .second, .val (.long q3), .second, .val (.long q4), .second, .val (.int q5), .val (.int hd), .val (.int dp), .val (.int (q5 &&& (3 : Int32))), .val (.int v0_19), .val (.int kk), .val (.long q0), .second, .val (.int hd), .val (.int dp), .val (.int (q5 &&& (3 : Int32))), .val (.long q1), .second, .val (.int v0_19), .val (.long q2), .second, .val (.int (1 : Int32)), .unset, .unset, .unset] [])) _
      refine sg_71  (q0) (q1) (q2) (.val (.long q3)) (.second) (q4) (.val (.int q5)) (hd) (dp) ((q5 &&& (3 : Int32))) (v0_19) (kk) (q0) (hd) (dp) ((q5 &&& (3 : Int32))) (q1) (v0_19) (q2) ((1 : Int32)) (.unset) (.unset) (.unset) v0_71 hv0_71 v1_71 hv1_71 v2_71 hv2_71 v3_71 hv3_71 v4_71 hv4_71 v5_71 hv5_71 v6_71 hv6_71 v7_71 hv7_71 X0 hx hZ hw hby hown ?_
      show Steps p.tables e below (s₁.setTop (mkF m 275 #[.val (.long q0), .second, .val (.long q1), .second, .val (.long q2), .second, .val (.long q3), .second, .val (.long q4), .second, .val (.int q5), .val (.int hd), .val (.int dp), .val (.int (q5 &&& (3 : Int32))), .val (.int v0_19), .val (.int kk), .val (.long v0_71), .second, .val (.int v1_71), .val (.int v2_71), .val (.int v3_71), .val (.long v4_71), .second, .val (.int v5_71), .val (.long v6_71), .second, .val (.int v7_71), .unset, .unset, .unset] [])) _
      refine st1 _ ?_
      show Steps p.tables e below (T1.setTop (mkF m 278 #[.val (.long q0), .second, .val (.long q1), .second, .val (.long q2), .second, .val (.long q3), .second, .val (.long q4), .second, .val (.int q5), .val (.int hd), .val (.int dp), .val (.int (q5 &&& (3 : Int32))), .val (.int v0_19), .val (.int kk), .val (.long v0_71), .second, .val (.int v1_71), .val (.int v2_71), .val (.int v3_71), .val (.long v4_71), .second, .val (.int v5_71), .val (.long v6_71), .second, .val (.int v7_71), .unset, .unset, .unset] [(.ref b1)])) _
      refine XS.dup X1.here hx rfl (hb hby at_278) rfl rfl ?_
      show Steps p.tables e below (T1.setTop (mkF m 279 #[.val (.long q0), .second, .val (.long q1), .second, .val (.long q2), .second, .val (.long q3), .second, .val (.long q4), .second, .val (.int q5), .val (.int hd), .val (.int dp), .val (.int (q5 &&& (3 : Int32))), .val (.int v0_19), .val (.int kk), .val (.long v0_71), .second, .val (.int v1_71), .val (.int v2_71), .val (.int v3_71), .val (.long v4_71), .second, .val (.int v5_71), .val (.long v6_71), .second, .val (.int v7_71), .unset, .unset, .unset] [(.ref b1), (.ref b1)])) _
      refine XS.lloadN X1.here hx rfl (hb hby at_279) rfl ?_
      show Steps p.tables e below (T1.setTop (mkF m 280 #[.val (.long q0), .second, .val (.long q1), .second, .val (.long q2), .second, .val (.long q3), .second, .val (.long q4), .second, .val (.int q5), .val (.int hd), .val (.int dp), .val (.int (q5 &&& (3 : Int32))), .val (.int v0_19), .val (.int kk), .val (.long v0_71), .second, .val (.int v1_71), .val (.int v2_71), .val (.int v3_71), .val (.long v4_71), .second, .val (.int v5_71), .val (.long v6_71), .second, .val (.int v7_71), .unset, .unset, .unset] [(.long q0), (.ref b1), (.ref b1)])) _
      refine XS.iload X1.here hx rfl (hb hby at_280) rfl ?_
      show Steps p.tables e below (T1.setTop (mkF m 282 #[.val (.long q0), .second, .val (.long q1), .second, .val (.long q2), .second, .val (.long q3), .second, .val (.long q4), .second, .val (.int q5), .val (.int hd), .val (.int dp), .val (.int (q5 &&& (3 : Int32))), .val (.int v0_19), .val (.int kk), .val (.long v0_71), .second, .val (.int v1_71), .val (.int v2_71), .val (.int v3_71), .val (.long v4_71), .second, .val (.int v5_71), .val (.long v6_71), .second, .val (.int v7_71), .unset, .unset, .unset] [(.int hd), (.long q0), (.ref b1), (.ref b1)])) _
      refine XS.iload X1.here hx rfl (hb hby at_282) rfl ?_
      show Steps p.tables e below (T1.setTop (mkF m 284 #[.val (.long q0), .second, .val (.long q1), .second, .val (.long q2), .second, .val (.long q3), .second, .val (.long q4), .second, .val (.int q5), .val (.int hd), .val (.int dp), .val (.int (q5 &&& (3 : Int32))), .val (.int v0_19), .val (.int kk), .val (.long v0_71), .second, .val (.int v1_71), .val (.int v2_71), .val (.int v3_71), .val (.long v4_71), .second, .val (.int v5_71), .val (.long v6_71), .second, .val (.int v7_71), .unset, .unset, .unset] [(.int dp), (.int hd), (.long q0), (.ref b1), (.ref b1)])) _
      refine XS.iload X1.here hx rfl (hb hby at_284) rfl ?_
      show Steps p.tables e below (T1.setTop (mkF m 286 #[.val (.long q0), .second, .val (.long q1), .second, .val (.long q2), .second, .val (.long q3), .second, .val (.long q4), .second, .val (.int q5), .val (.int hd), .val (.int dp), .val (.int (q5 &&& (3 : Int32))), .val (.int v0_19), .val (.int kk), .val (.long v0_71), .second, .val (.int v1_71), .val (.int v2_71), .val (.int v3_71), .val (.long v4_71), .second, .val (.int v5_71), .val (.long v6_71), .second, .val (.int v7_71), .unset, .unset, .unset] [(.int (q5 &&& (3 : Int32))), (.int dp), (.int hd), (.long q0), (.ref b1), (.ref b1)])) _
      refine st2 _ ?_
      show Steps p.tables e below (T2.setTop (mkF m 289 #[.val (.long q0), .second, .val (.long q1), .second, .val (.long q2), .second, .val (.long q3), .second, .val (.long q4), .second, .val (.int q5), .val (.int hd), .val (.int dp), .val (.int (q5 &&& (3 : Int32))), .val (.int v0_19), .val (.int kk), .val (.long v0_71), .second, .val (.int v1_71), .val (.int v2_71), .val (.int v3_71), .val (.long v4_71), .second, .val (.int v5_71), .val (.long v6_71), .second, .val (.int v7_71), .unset, .unset, .unset] [(.ref (own_cls (q5 &&& (3 : Int32)) wU wA wC wP)), (.int dp), (.int hd), (.long q0), (.ref b1), (.ref b1)])) _
      refine XS.lloadN X2.here hx rfl (hb hby at_289) rfl ?_
      show Steps p.tables e below (T2.setTop (mkF m 290 #[.val (.long q0), .second, .val (.long q1), .second, .val (.long q2), .second, .val (.long q3), .second, .val (.long q4), .second, .val (.int q5), .val (.int hd), .val (.int dp), .val (.int (q5 &&& (3 : Int32))), .val (.int v0_19), .val (.int kk), .val (.long v0_71), .second, .val (.int v1_71), .val (.int v2_71), .val (.int v3_71), .val (.long v4_71), .second, .val (.int v5_71), .val (.long v6_71), .second, .val (.int v7_71), .unset, .unset, .unset] [(.long q1), (.ref (own_cls (q5 &&& (3 : Int32)) wU wA wC wP)), (.int dp), (.int hd), (.long q0), (.ref b1), (.ref b1)])) _
      refine XS.iload X2.here hx rfl (hb hby at_290) rfl ?_
      show Steps p.tables e below (T2.setTop (mkF m 292 #[.val (.long q0), .second, .val (.long q1), .second, .val (.long q2), .second, .val (.long q3), .second, .val (.long q4), .second, .val (.int q5), .val (.int hd), .val (.int dp), .val (.int (q5 &&& (3 : Int32))), .val (.int v0_19), .val (.int kk), .val (.long v0_71), .second, .val (.int v1_71), .val (.int v2_71), .val (.int v3_71), .val (.long v4_71), .second, .val (.int v5_71), .val (.long v6_71), .second, .val (.int v7_71), .unset, .unset, .unset] [(.int v0_19), (.long q1), (.ref (own_cls (q5 &&& (3 : Int32)) wU wA wC wP)), (.int dp), (.int hd), (.long q0), (.ref b1), (.ref b1)])) _
      refine XS.lload X2.here hx rfl (hb hby at_292) rfl ?_
      show Steps p.tables e below (T2.setTop (mkF m 294 #[.val (.long q0), .second, .val (.long q1), .second, .val (.long q2), .second, .val (.long q3), .second, .val (.long q4), .second, .val (.int q5), .val (.int hd), .val (.int dp), .val (.int (q5 &&& (3 : Int32))), .val (.int v0_19), .val (.int kk), .val (.long v0_71), .second, .val (.int v1_71), .val (.int v2_71), .val (.int v3_71), .val (.long v4_71), .second, .val (.int v5_71), .val (.long v6_71), .second, .val (.int v7_71), .unset, .unset, .unset] [(.long q2), (.int v0_19), (.long q1), (.ref (own_cls (q5 &&& (3 : Int32)) wU wA wC wP)), (.int dp), (.int hd), (.long q0), (.ref b1), (.ref b1)])) _
      refine st3.trans ?_
      show Steps p.tables e below (T3.setTop (mkF m 297 #[.val (.long q0), .second, .val (.long q1), .second, .val (.long q2), .second, .val (.long q3), .second, .val (.long q4), .second, .val (.int q5), .val (.int hd), .val (.int dp), .val (.int (q5 &&& (3 : Int32))), .val (.int v0_19), .val (.int kk), .val (.long v0_71), .second, .val (.int v1_71), .val (.int v2_71), .val (.int v3_71), .val (.long v4_71), .second, .val (.int v5_71), .val (.long v6_71), .second, .val (.int v7_71), .unset, .unset, .unset] [(.ref b1)])) _
      refine XS.astore X3.here hx rfl (hb hby at_297) rfl rfl (l' := #[.val (.long q0), .second, .val (.long q1), .second, .val (.long q2), .second, .val (.long q3), .second, .val (.long q4), .second, .val (.int q5), .val (.int hd), .val (.int dp), .val (.int (q5 &&& (3 : Int32))), .val (.int v0_19), .val (.int kk), .val (.long v0_71), .second, .val (.int v1_71), .val (.int v2_71), .val (.int v3_71), .val (.long v4_71), .second, .val (.int v5_71), .val (.long v6_71), .second, .val (.int v7_71), .val (.ref b1), .unset, .unset]) rfl ?_
      show Steps p.tables e below (T3.setTop (mkF m 299 #[.val (.long q0), .second, .val (.long q1), .second, .val (.long q2), .second, .val (.long q3), .second, .val (.long q4), .second, .val (.int q5), .val (.int hd), .val (.int dp), .val (.int (q5 &&& (3 : Int32))), .val (.int v0_19), .val (.int kk), .val (.long v0_71), .second, .val (.int v1_71), .val (.int v2_71), .val (.int v3_71), .val (.long v4_71), .second, .val (.int v5_71), .val (.long v6_71), .second, .val (.int v7_71), .val (.ref b1), .unset, .unset] [])) _
      refine st4 _ ?_
      show Steps p.tables e below (T4.setTop (mkF m 302 #[.val (.long q0), .second, .val (.long q1), .second, .val (.long q2), .second, .val (.long q3), .second, .val (.long q4), .second, .val (.int q5), .val (.int hd), .val (.int dp), .val (.int (q5 &&& (3 : Int32))), .val (.int v0_19), .val (.int kk), .val (.long v0_71), .second, .val (.int v1_71), .val (.int v2_71), .val (.int v3_71), .val (.long v4_71), .second, .val (.int v5_71), .val (.long v6_71), .second, .val (.int v7_71), .val (.ref b1), .unset, .unset] [(.ref b4)])) _
      refine XS.dup X4.here hx rfl (hb hby at_302) rfl rfl ?_
      show Steps p.tables e below (T4.setTop (mkF m 303 #[.val (.long q0), .second, .val (.long q1), .second, .val (.long q2), .second, .val (.long q3), .second, .val (.long q4), .second, .val (.int q5), .val (.int hd), .val (.int dp), .val (.int (q5 &&& (3 : Int32))), .val (.int v0_19), .val (.int kk), .val (.long v0_71), .second, .val (.int v1_71), .val (.int v2_71), .val (.int v3_71), .val (.long v4_71), .second, .val (.int v5_71), .val (.long v6_71), .second, .val (.int v7_71), .val (.ref b1), .unset, .unset] [(.ref b4), (.ref b4)])) _
      refine XS.lload X4.here hx rfl (hb hby at_303) rfl ?_
      show Steps p.tables e below (T4.setTop (mkF m 305 #[.val (.long q0), .second, .val (.long q1), .second, .val (.long q2), .second, .val (.long q3), .second, .val (.long q4), .second, .val (.int q5), .val (.int hd), .val (.int dp), .val (.int (q5 &&& (3 : Int32))), .val (.int v0_19), .val (.int kk), .val (.long v0_71), .second, .val (.int v1_71), .val (.int v2_71), .val (.int v3_71), .val (.long v4_71), .second, .val (.int v5_71), .val (.long v6_71), .second, .val (.int v7_71), .val (.ref b1), .unset, .unset] [(.long v0_71), (.ref b4), (.ref b4)])) _
      refine XS.iload X4.here hx rfl (hb hby at_305) rfl ?_
      show Steps p.tables e below (T4.setTop (mkF m 307 #[.val (.long q0), .second, .val (.long q1), .second, .val (.long q2), .second, .val (.long q3), .second, .val (.long q4), .second, .val (.int q5), .val (.int hd), .val (.int dp), .val (.int (q5 &&& (3 : Int32))), .val (.int v0_19), .val (.int kk), .val (.long v0_71), .second, .val (.int v1_71), .val (.int v2_71), .val (.int v3_71), .val (.long v4_71), .second, .val (.int v5_71), .val (.long v6_71), .second, .val (.int v7_71), .val (.ref b1), .unset, .unset] [(.int v1_71), (.long v0_71), (.ref b4), (.ref b4)])) _
      refine XS.iload X4.here hx rfl (hb hby at_307) rfl ?_
      show Steps p.tables e below (T4.setTop (mkF m 309 #[.val (.long q0), .second, .val (.long q1), .second, .val (.long q2), .second, .val (.long q3), .second, .val (.long q4), .second, .val (.int q5), .val (.int hd), .val (.int dp), .val (.int (q5 &&& (3 : Int32))), .val (.int v0_19), .val (.int kk), .val (.long v0_71), .second, .val (.int v1_71), .val (.int v2_71), .val (.int v3_71), .val (.long v4_71), .second, .val (.int v5_71), .val (.long v6_71), .second, .val (.int v7_71), .val (.ref b1), .unset, .unset] [(.int v2_71), (.int v1_71), (.long v0_71), (.ref b4), (.ref b4)])) _
      refine XS.iload X4.here hx rfl (hb hby at_309) rfl ?_
      show Steps p.tables e below (T4.setTop (mkF m 311 #[.val (.long q0), .second, .val (.long q1), .second, .val (.long q2), .second, .val (.long q3), .second, .val (.long q4), .second, .val (.int q5), .val (.int hd), .val (.int dp), .val (.int (q5 &&& (3 : Int32))), .val (.int v0_19), .val (.int kk), .val (.long v0_71), .second, .val (.int v1_71), .val (.int v2_71), .val (.int v3_71), .val (.long v4_71), .second, .val (.int v5_71), .val (.long v6_71), .second, .val (.int v7_71), .val (.ref b1), .unset, .unset] [(.int v3_71), (.int v2_71), (.int v1_71), (.long v0_71), (.ref b4), (.ref b4)])) _
      refine st5 _ ?_
      show Steps p.tables e below (T5.setTop (mkF m 314 #[.val (.long q0), .second, .val (.long q1), .second, .val (.long q2), .second, .val (.long q3), .second, .val (.long q4), .second, .val (.int q5), .val (.int hd), .val (.int dp), .val (.int (q5 &&& (3 : Int32))), .val (.int v0_19), .val (.int kk), .val (.long v0_71), .second, .val (.int v1_71), .val (.int v2_71), .val (.int v3_71), .val (.long v4_71), .second, .val (.int v5_71), .val (.long v6_71), .second, .val (.int v7_71), .val (.ref b1), .unset, .unset] [(.ref (own_cls v3_71 wU wA wC wP)), (.int v2_71), (.int v1_71), (.long v0_71), (.ref b4), (.ref b4)])) _
      refine XS.lload X5.here hx rfl (hb hby at_314) rfl ?_
      show Steps p.tables e below (T5.setTop (mkF m 316 #[.val (.long q0), .second, .val (.long q1), .second, .val (.long q2), .second, .val (.long q3), .second, .val (.long q4), .second, .val (.int q5), .val (.int hd), .val (.int dp), .val (.int (q5 &&& (3 : Int32))), .val (.int v0_19), .val (.int kk), .val (.long v0_71), .second, .val (.int v1_71), .val (.int v2_71), .val (.int v3_71), .val (.long v4_71), .second, .val (.int v5_71), .val (.long v6_71), .second, .val (.int v7_71), .val (.ref b1), .unset, .unset] [(.long v4_71), (.ref (own_cls v3_71 wU wA wC wP)), (.int v2_71), (.int v1_71), (.long v0_71), (.ref b4), (.ref b4)])) _
      refine XS.iload X5.here hx rfl (hb hby at_316) rfl ?_
      show Steps p.tables e below (T5.setTop (mkF m 318 #[.val (.long q0), .second, .val (.long q1), .second, .val (.long q2), .second, .val (.long q3), .second, .val (.long q4), .second, .val (.int q5), .val (.int hd), .val (.int dp), .val (.int (q5 &&& (3 : Int32))), .val (.int v0_19), .val (.int kk), .val (.long v0_71), .second, .val (.int v1_71), .val (.int v2_71), .val (.int v3_71), .val (.long v4_71), .second, .val (.int v5_71), .val (.long v6_71), .second, .val (.int v7_71), .val (.ref b1), .unset, .unset] [(.int v5_71), (.long v4_71), (.ref (own_cls v3_71 wU wA wC wP)), (.int v2_71), (.int v1_71), (.long v0_71), (.ref b4), (.ref b4)])) _
      refine XS.lload X5.here hx rfl (hb hby at_318) rfl ?_
      show Steps p.tables e below (T5.setTop (mkF m 320 #[.val (.long q0), .second, .val (.long q1), .second, .val (.long q2), .second, .val (.long q3), .second, .val (.long q4), .second, .val (.int q5), .val (.int hd), .val (.int dp), .val (.int (q5 &&& (3 : Int32))), .val (.int v0_19), .val (.int kk), .val (.long v0_71), .second, .val (.int v1_71), .val (.int v2_71), .val (.int v3_71), .val (.long v4_71), .second, .val (.int v5_71), .val (.long v6_71), .second, .val (.int v7_71), .val (.ref b1), .unset, .unset] [(.long v6_71), (.int v5_71), (.long v4_71), (.ref (own_cls v3_71 wU wA wC wP)), (.int v2_71), (.int v1_71), (.long v0_71), (.ref b4), (.ref b4)])) _
      refine st7.trans ?_
      show Steps p.tables e below (T7.setTop (mkF m 323 #[.val (.long q0), .second, .val (.long q1), .second, .val (.long q2), .second, .val (.long q3), .second, .val (.long q4), .second, .val (.int q5), .val (.int hd), .val (.int dp), .val (.int (q5 &&& (3 : Int32))), .val (.int v0_19), .val (.int kk), .val (.long v0_71), .second, .val (.int v1_71), .val (.int v2_71), .val (.int v3_71), .val (.long v4_71), .second, .val (.int v5_71), .val (.long v6_71), .second, .val (.int v7_71), .val (.ref b1), .unset, .unset] [(.ref b4)])) _
      refine XS.astore X7.here hx rfl (hb hby at_323) rfl rfl (l' := #[.val (.long q0), .second, .val (.long q1), .second, .val (.long q2), .second, .val (.long q3), .second, .val (.long q4), .second, .val (.int q5), .val (.int hd), .val (.int dp), .val (.int (q5 &&& (3 : Int32))), .val (.int v0_19), .val (.int kk), .val (.long v0_71), .second, .val (.int v1_71), .val (.int v2_71), .val (.int v3_71), .val (.long v4_71), .second, .val (.int v5_71), .val (.long v6_71), .second, .val (.int v7_71), .val (.ref b1), .val (.ref b4), .unset]) rfl ?_
      show Steps p.tables e below (T7.setTop (mkF m 325 #[.val (.long q0), .second, .val (.long q1), .second, .val (.long q2), .second, .val (.long q3), .second, .val (.long q4), .second, .val (.int q5), .val (.int hd), .val (.int dp), .val (.int (q5 &&& (3 : Int32))), .val (.int v0_19), .val (.int kk), .val (.long v0_71), .second, .val (.int v1_71), .val (.int v2_71), .val (.int v3_71), .val (.long v4_71), .second, .val (.int v5_71), .val (.long v6_71), .second, .val (.int v7_71), .val (.ref b1), .val (.ref b4), .unset] [])) _
      refine XS.aload X7.here hx rfl (hb hby at_325) rfl rfl ?_
      show Steps p.tables e below (T7.setTop (mkF m 327 #[.val (.long q0), .second, .val (.long q1), .second, .val (.long q2), .second, .val (.long q3), .second, .val (.long q4), .second, .val (.int q5), .val (.int hd), .val (.int dp), .val (.int (q5 &&& (3 : Int32))), .val (.int v0_19), .val (.int kk), .val (.long v0_71), .second, .val (.int v1_71), .val (.int v2_71), .val (.int v3_71), .val (.long v4_71), .second, .val (.int v5_71), .val (.long v6_71), .second, .val (.int v7_71), .val (.ref b1), .val (.ref b4), .unset] [(.ref b1)])) _
      refine XS.aload X7.here hx rfl (hb hby at_327) rfl rfl ?_
      show Steps p.tables e below (T7.setTop (mkF m 329 #[.val (.long q0), .second, .val (.long q1), .second, .val (.long q2), .second, .val (.long q3), .second, .val (.long q4), .second, .val (.int q5), .val (.int hd), .val (.int dp), .val (.int (q5 &&& (3 : Int32))), .val (.int v0_19), .val (.int kk), .val (.long v0_71), .second, .val (.int v1_71), .val (.int v2_71), .val (.int v3_71), .val (.long v4_71), .second, .val (.int v5_71), .val (.long v6_71), .second, .val (.int v7_71), .val (.ref b1), .val (.ref b4), .unset] [(.ref b1), (.ref b1)])) _
      refine st8.trans ?_
      show Steps p.tables e below (T8.setTop (mkF m 332 #[.val (.long q0), .second, .val (.long q1), .second, .val (.long q2), .second, .val (.long q3), .second, .val (.long q4), .second, .val (.int q5), .val (.int hd), .val (.int dp), .val (.int (q5 &&& (3 : Int32))), .val (.int v0_19), .val (.int kk), .val (.long v0_71), .second, .val (.int v1_71), .val (.int v2_71), .val (.int v3_71), .val (.long v4_71), .second, .val (.int v5_71), .val (.long v6_71), .second, .val (.int v7_71), .val (.ref b1), .val (.ref b4), .unset] [(.int (own_eq q0 hd dp (own_cls (q5 &&& (3 : Int32)) wU wA wC wP) q1 (nar .boolean v0_19) q2 q0 hd dp (own_cls (q5 &&& (3 : Int32)) wU wA wC wP) q1 (nar .boolean v0_19) q2))])) _
      refine XS.ifNo X8.here hx rfl (hb hby at_332) rfl ((if0 _ _).trans (feq (own_eq_refl _ _ _ _ _ _ _)).1) ?_
      show Steps p.tables e below (T8.setTop (mkF m 335 #[.val (.long q0), .second, .val (.long q1), .second, .val (.long q2), .second, .val (.long q3), .second, .val (.long q4), .second, .val (.int q5), .val (.int hd), .val (.int dp), .val (.int (q5 &&& (3 : Int32))), .val (.int v0_19), .val (.int kk), .val (.long v0_71), .second, .val (.int v1_71), .val (.int v2_71), .val (.int v3_71), .val (.long v4_71), .second, .val (.int v5_71), .val (.long v6_71), .second, .val (.int v7_71), .val (.ref b1), .val (.ref b4), .unset] [])) _
      refine XS.aload X8.here hx rfl (hb hby at_335) rfl rfl ?_
      show Steps p.tables e below (T8.setTop (mkF m 337 #[.val (.long q0), .second, .val (.long q1), .second, .val (.long q2), .second, .val (.long q3), .second, .val (.long q4), .second, .val (.int q5), .val (.int hd), .val (.int dp), .val (.int (q5 &&& (3 : Int32))), .val (.int v0_19), .val (.int kk), .val (.long v0_71), .second, .val (.int v1_71), .val (.int v2_71), .val (.int v3_71), .val (.long v4_71), .second, .val (.int v5_71), .val (.long v6_71), .second, .val (.int v7_71), .val (.ref b1), .val (.ref b4), .unset] [(.ref b1)])) _
      refine XS.aload X8.here hx rfl (hb hby at_337) rfl rfl ?_
      show Steps p.tables e below (T8.setTop (mkF m 339 #[.val (.long q0), .second, .val (.long q1), .second, .val (.long q2), .second, .val (.long q3), .second, .val (.long q4), .second, .val (.int q5), .val (.int hd), .val (.int dp), .val (.int (q5 &&& (3 : Int32))), .val (.int v0_19), .val (.int kk), .val (.long v0_71), .second, .val (.int v1_71), .val (.int v2_71), .val (.int v3_71), .val (.long v4_71), .second, .val (.int v5_71), .val (.long v6_71), .second, .val (.int v7_71), .val (.ref b1), .val (.ref b4), .unset] [(.ref b4), (.ref b1)])) _
      refine st9.trans ?_
      show Steps p.tables e below (T9.setTop (mkF m 342 #[.val (.long q0), .second, .val (.long q1), .second, .val (.long q2), .second, .val (.long q3), .second, .val (.long q4), .second, .val (.int q5), .val (.int hd), .val (.int dp), .val (.int (q5 &&& (3 : Int32))), .val (.int v0_19), .val (.int kk), .val (.long v0_71), .second, .val (.int v1_71), .val (.int v2_71), .val (.int v3_71), .val (.long v4_71), .second, .val (.int v5_71), .val (.long v6_71), .second, .val (.int v7_71), .val (.ref b1), .val (.ref b4), .unset] [(.int (own_eq q0 hd dp (own_cls (q5 &&& (3 : Int32)) wU wA wC wP) q1 (nar .boolean v0_19) q2 v0_71 v1_71 v2_71 (own_cls v3_71 wU wA wC wP) v4_71 (nar .boolean v5_71) v6_71))])) _
      refine XS.iload X9.here hx rfl (hb hby at_342) rfl ?_
      show Steps p.tables e below (T9.setTop (mkF m 344 #[.val (.long q0), .second, .val (.long q1), .second, .val (.long q2), .second, .val (.long q3), .second, .val (.long q4), .second, .val (.int q5), .val (.int hd), .val (.int dp), .val (.int (q5 &&& (3 : Int32))), .val (.int v0_19), .val (.int kk), .val (.long v0_71), .second, .val (.int v1_71), .val (.int v2_71), .val (.int v3_71), .val (.long v4_71), .second, .val (.int v5_71), .val (.long v6_71), .second, .val (.int v7_71), .val (.ref b1), .val (.ref b4), .unset] [(.int v7_71), (.int (own_eq q0 hd dp (own_cls (q5 &&& (3 : Int32)) wU wA wC wP) q1 (nar .boolean v0_19) q2 v0_71 v1_71 v2_71 (own_cls v3_71 wU wA wC wP) v4_71 (nar .boolean v5_71) v6_71))])) _
      refine XS.icmpNo X9.here hx rfl (hb hby at_344) rfl (teq (own_law nUA nUC nUP nAC nAP nCP hv0_19 hv0_71 hv1_71 hv2_71 hv3_71 hv4_71 hv5_71 hv6_71 hv7_71)).2 ?_
      show Steps p.tables e below (T9.setTop (mkF m 347 #[.val (.long q0), .second, .val (.long q1), .second, .val (.long q2), .second, .val (.long q3), .second, .val (.long q4), .second, .val (.int q5), .val (.int hd), .val (.int dp), .val (.int (q5 &&& (3 : Int32))), .val (.int v0_19), .val (.int kk), .val (.long v0_71), .second, .val (.int v1_71), .val (.int v2_71), .val (.int v3_71), .val (.long v4_71), .second, .val (.int v5_71), .val (.long v6_71), .second, .val (.int v7_71), .val (.ref b1), .val (.ref b4), .unset] [])) _
      refine XS.aload X9.here hx rfl (hb hby at_347) rfl rfl ?_
      show Steps p.tables e below (T9.setTop (mkF m 349 #[.val (.long q0), .second, .val (.long q1), .second, .val (.long q2), .second, .val (.long q3), .second, .val (.long q4), .second, .val (.int q5), .val (.int hd), .val (.int dp), .val (.int (q5 &&& (3 : Int32))), .val (.int v0_19), .val (.int kk), .val (.long v0_71), .second, .val (.int v1_71), .val (.int v2_71), .val (.int v3_71), .val (.long v4_71), .second, .val (.int v5_71), .val (.long v6_71), .second, .val (.int v7_71), .val (.ref b1), .val (.ref b4), .unset] [(.ref b4)])) _
      refine XS.aload X9.here hx rfl (hb hby at_349) rfl rfl ?_
      show Steps p.tables e below (T9.setTop (mkF m 351 #[.val (.long q0), .second, .val (.long q1), .second, .val (.long q2), .second, .val (.long q3), .second, .val (.long q4), .second, .val (.int q5), .val (.int hd), .val (.int dp), .val (.int (q5 &&& (3 : Int32))), .val (.int v0_19), .val (.int kk), .val (.long v0_71), .second, .val (.int v1_71), .val (.int v2_71), .val (.int v3_71), .val (.long v4_71), .second, .val (.int v5_71), .val (.long v6_71), .second, .val (.int v7_71), .val (.ref b1), .val (.ref b4), .unset] [(.ref b1), (.ref b4)])) _
      refine st10.trans ?_
      show Steps p.tables e below (T10.setTop (mkF m 354 #[.val (.long q0), .second, .val (.long q1), .second, .val (.long q2), .second, .val (.long q3), .second, .val (.long q4), .second, .val (.int q5), .val (.int hd), .val (.int dp), .val (.int (q5 &&& (3 : Int32))), .val (.int v0_19), .val (.int kk), .val (.long v0_71), .second, .val (.int v1_71), .val (.int v2_71), .val (.int v3_71), .val (.long v4_71), .second, .val (.int v5_71), .val (.long v6_71), .second, .val (.int v7_71), .val (.ref b1), .val (.ref b4), .unset] [(.int (own_eq v0_71 v1_71 v2_71 (own_cls v3_71 wU wA wC wP) v4_71 (nar .boolean v5_71) v6_71 q0 hd dp (own_cls (q5 &&& (3 : Int32)) wU wA wC wP) q1 (nar .boolean v0_19) q2))])) _
      refine XS.iload X10.here hx rfl (hb hby at_354) rfl ?_
      show Steps p.tables e below (T10.setTop (mkF m 356 #[.val (.long q0), .second, .val (.long q1), .second, .val (.long q2), .second, .val (.long q3), .second, .val (.long q4), .second, .val (.int q5), .val (.int hd), .val (.int dp), .val (.int (q5 &&& (3 : Int32))), .val (.int v0_19), .val (.int kk), .val (.long v0_71), .second, .val (.int v1_71), .val (.int v2_71), .val (.int v3_71), .val (.long v4_71), .second, .val (.int v5_71), .val (.long v6_71), .second, .val (.int v7_71), .val (.ref b1), .val (.ref b4), .unset] [(.int v7_71), (.int (own_eq v0_71 v1_71 v2_71 (own_cls v3_71 wU wA wC wP) v4_71 (nar .boolean v5_71) v6_71 q0 hd dp (own_cls (q5 &&& (3 : Int32)) wU wA wC wP) q1 (nar .boolean v0_19) q2))])) _
      refine XS.icmpNo X10.here hx rfl (hb hby at_356) rfl (teq ((own_eq_symm _ _ _ _ _ _ _ _ _ _ _ _ _ _).trans (own_law nUA nUC nUP nAC nAP nCP hv0_19 hv0_71 hv1_71 hv2_71 hv3_71 hv4_71 hv5_71 hv6_71 hv7_71))).2 ?_
      show Steps p.tables e below (T10.setTop (mkF m 359 #[.val (.long q0), .second, .val (.long q1), .second, .val (.long q2), .second, .val (.long q3), .second, .val (.long q4), .second, .val (.int q5), .val (.int hd), .val (.int dp), .val (.int (q5 &&& (3 : Int32))), .val (.int v0_19), .val (.int kk), .val (.long v0_71), .second, .val (.int v1_71), .val (.int v2_71), .val (.int v3_71), .val (.long v4_71), .second, .val (.int v5_71), .val (.long v6_71), .second, .val (.int v7_71), .val (.ref b1), .val (.ref b4), .unset] [])) _
      refine XS.iconst X10.here hx rfl (hb hby at_359) ?_
      show Steps p.tables e below (T10.setTop (mkF m 360 #[.val (.long q0), .second, .val (.long q1), .second, .val (.long q2), .second, .val (.long q3), .second, .val (.long q4), .second, .val (.int q5), .val (.int hd), .val (.int dp), .val (.int (q5 &&& (3 : Int32))), .val (.int v0_19), .val (.int kk), .val (.long v0_71), .second, .val (.int v1_71), .val (.int v2_71), .val (.int v3_71), .val (.long v4_71), .second, .val (.int v5_71), .val (.long v6_71), .second, .val (.int v7_71), .val (.ref b1), .val (.ref b4), .unset] [(.int (1 : Int32))])) _
      refine XS.goto X10.here hx rfl (pc0 := 360) (pc' := 364) rfl (hb hby at_360) (by decide) (by decide) ?_
      show Steps p.tables e below (T10.setTop (mkF m 364 #[.val (.long q0), .second, .val (.long q1), .second, .val (.long q2), .second, .val (.long q3), .second, .val (.long q4), .second, .val (.int q5), .val (.int hd), .val (.int dp), .val (.int (q5 &&& (3 : Int32))), .val (.int v0_19), .val (.int kk), .val (.long v0_71), .second, .val (.int v1_71), .val (.int v2_71), .val (.int v3_71), .val (.long v4_71), .second, .val (.int v5_71), .val (.long v6_71), .second, .val (.int v7_71), .val (.ref b1), .val (.ref b4), .unset] [(.int (1 : Int32))])) _
      refine XS.istore X10.here hx rfl (hb hby at_364) rfl (l' := #[.val (.long q0), .second, .val (.long q1), .second, .val (.long q2), .second, .val (.long q3), .second, .val (.long q4), .second, .val (.int q5), .val (.int hd), .val (.int dp), .val (.int (q5 &&& (3 : Int32))), .val (.int v0_19), .val (.int kk), .val (.long v0_71), .second, .val (.int v1_71), .val (.int v2_71), .val (.int v3_71), .val (.long v4_71), .second, .val (.int v5_71), .val (.long v6_71), .second, .val (.int v7_71), .val (.ref b1), .val (.ref b4), .val (.int (1 : Int32))]) rfl ?_
      show Steps p.tables e below (T10.setTop (mkF m 366 #[.val (.long q0), .second, .val (.long q1), .second, .val (.long q2), .second, .val (.long q3), .second, .val (.long q4), .second, .val (.int q5), .val (.int hd), .val (.int dp), .val (.int (q5 &&& (3 : Int32))), .val (.int v0_19), .val (.int kk), .val (.long v0_71), .second, .val (.int v1_71), .val (.int v2_71), .val (.int v3_71), .val (.long v4_71), .second, .val (.int v5_71), .val (.long v6_71), .second, .val (.int v7_71), .val (.ref b1), .val (.ref b4), .val (.int (1 : Int32))] [])) _
      refine XS.iload X10.here hx rfl (hb hby at_366) rfl ?_
      show Steps p.tables e below (T10.setTop (mkF m 368 #[.val (.long q0), .second, .val (.long q1), .second, .val (.long q2), .second, .val (.long q3), .second, .val (.long q4), .second, .val (.int q5), .val (.int hd), .val (.int dp), .val (.int (q5 &&& (3 : Int32))), .val (.int v0_19), .val (.int kk), .val (.long v0_71), .second, .val (.int v1_71), .val (.int v2_71), .val (.int v3_71), .val (.long v4_71), .second, .val (.int v5_71), .val (.long v6_71), .second, .val (.int v7_71), .val (.ref b1), .val (.ref b4), .val (.int (1 : Int32))] [(.int kk)])) _
      refine XS.bipush X10.here hx rfl (hb hby at_368) ?_
      show Steps p.tables e below (T10.setTop (mkF m 370 #[.val (.long q0), .second, .val (.long q1), .second, .val (.long q2), .second, .val (.long q3), .second, .val (.long q4), .second, .val (.int q5), .val (.int hd), .val (.int dp), .val (.int (q5 &&& (3 : Int32))), .val (.int v0_19), .val (.int kk), .val (.long v0_71), .second, .val (.int v1_71), .val (.int v2_71), .val (.int v3_71), .val (.long v4_71), .second, .val (.int v5_71), .val (.long v6_71), .second, .val (.int v7_71), .val (.ref b1), .val (.ref b4), .val (.int (1 : Int32))] [(.int (8 : Int32)), (.int kk)])) _
      refine XS.icmpNo X10.here hx rfl (hb hby at_370) rfl (teq hc370).2 ?_
      show Steps p.tables e below (T10.setTop (mkF m 373 #[.val (.long q0), .second, .val (.long q1), .second, .val (.long q2), .second, .val (.long q3), .second, .val (.long q4), .second, .val (.int q5), .val (.int hd), .val (.int dp), .val (.int (q5 &&& (3 : Int32))), .val (.int v0_19), .val (.int kk), .val (.long v0_71), .second, .val (.int v1_71), .val (.int v2_71), .val (.int v3_71), .val (.long v4_71), .second, .val (.int v5_71), .val (.long v6_71), .second, .val (.int v7_71), .val (.ref b1), .val (.ref b4), .val (.int (1 : Int32))] [])) _
      refine XS.iload X10.here hx rfl (hb hby at_373) rfl ?_
      show Steps p.tables e below (T10.setTop (mkF m 375 #[.val (.long q0), .second, .val (.long q1), .second, .val (.long q2), .second, .val (.long q3), .second, .val (.long q4), .second, .val (.int q5), .val (.int hd), .val (.int dp), .val (.int (q5 &&& (3 : Int32))), .val (.int v0_19), .val (.int kk), .val (.long v0_71), .second, .val (.int v1_71), .val (.int v2_71), .val (.int v3_71), .val (.long v4_71), .second, .val (.int v5_71), .val (.long v6_71), .second, .val (.int v7_71), .val (.ref b1), .val (.ref b4), .val (.int (1 : Int32))] [(.int (1 : Int32))])) _
      refine XS.ifNo X10.here hx rfl (hb hby at_375) rfl ((if0 _ _).trans (feq (by decide : ¬ (1 : Int32) = (0 : Int32))).1) ?_
      show Steps p.tables e below (T10.setTop (mkF m 378 #[.val (.long q0), .second, .val (.long q1), .second, .val (.long q2), .second, .val (.long q3), .second, .val (.long q4), .second, .val (.int q5), .val (.int hd), .val (.int dp), .val (.int (q5 &&& (3 : Int32))), .val (.int v0_19), .val (.int kk), .val (.long v0_71), .second, .val (.int v1_71), .val (.int v2_71), .val (.int v3_71), .val (.long v4_71), .second, .val (.int v5_71), .val (.long v6_71), .second, .val (.int v7_71), .val (.ref b1), .val (.ref b4), .val (.int (1 : Int32))] [])) _
      refine XS.aload X10.here hx rfl (hb hby at_378) rfl rfl ?_
      show Steps p.tables e below (T10.setTop (mkF m 380 #[.val (.long q0), .second, .val (.long q1), .second, .val (.long q2), .second, .val (.long q3), .second, .val (.long q4), .second, .val (.int q5), .val (.int hd), .val (.int dp), .val (.int (q5 &&& (3 : Int32))), .val (.int v0_19), .val (.int kk), .val (.long v0_71), .second, .val (.int v1_71), .val (.int v2_71), .val (.int v3_71), .val (.long v4_71), .second, .val (.int v5_71), .val (.long v6_71), .second, .val (.int v7_71), .val (.ref b1), .val (.ref b4), .val (.int (1 : Int32))] [(.ref b1)])) _
      refine XS.lloadN X10.here hx rfl (hb hby at_380) rfl ?_
      show Steps p.tables e below (T10.setTop (mkF m 381 #[.val (.long q0), .second, .val (.long q1), .second, .val (.long q2), .second, .val (.long q3), .second, .val (.long q4), .second, .val (.int q5), .val (.int hd), .val (.int dp), .val (.int (q5 &&& (3 : Int32))), .val (.int v0_19), .val (.int kk), .val (.long v0_71), .second, .val (.int v1_71), .val (.int v2_71), .val (.int v3_71), .val (.long v4_71), .second, .val (.int v5_71), .val (.long v6_71), .second, .val (.int v7_71), .val (.ref b1), .val (.ref b4), .val (.int (1 : Int32))] [(.long q0), (.ref b1)])) _
      refine st11 _ ?_
      show Steps p.tables e below (T11.setTop (mkF m 384 #[.val (.long q0), .second, .val (.long q1), .second, .val (.long q2), .second, .val (.long q3), .second, .val (.long q4), .second, .val (.int q5), .val (.int hd), .val (.int dp), .val (.int (q5 &&& (3 : Int32))), .val (.int v0_19), .val (.int kk), .val (.long v0_71), .second, .val (.int v1_71), .val (.int v2_71), .val (.int v3_71), .val (.long v4_71), .second, .val (.int v5_71), .val (.long v6_71), .second, .val (.int v7_71), .val (.ref b1), .val (.ref b4), .val (.int (1 : Int32))] [(.ref r11), (.ref b1)])) _
      refine st12.trans ?_
      show Steps p.tables e below (T12.setTop (mkF m 387 #[.val (.long q0), .second, .val (.long q1), .second, .val (.long q2), .second, .val (.long q3), .second, .val (.long q4), .second, .val (.int q5), .val (.int hd), .val (.int dp), .val (.int (q5 &&& (3 : Int32))), .val (.int v0_19), .val (.int kk), .val (.long v0_71), .second, .val (.int v1_71), .val (.int v2_71), .val (.int v3_71), .val (.long v4_71), .second, .val (.int v5_71), .val (.long v6_71), .second, .val (.int v7_71), .val (.ref b1), .val (.ref b4), .val (.int (1 : Int32))] [(.int (0 : Int32))])) _
      refine XS.ifNo X12.here hx rfl (hb hby at_387) rfl ((if0 _ _).trans (teq (rfl : (0 : Int32) = (0 : Int32))).2) ?_
      show Steps p.tables e below (T12.setTop (mkF m 390 #[.val (.long q0), .second, .val (.long q1), .second, .val (.long q2), .second, .val (.long q3), .second, .val (.long q4), .second, .val (.int q5), .val (.int hd), .val (.int dp), .val (.int (q5 &&& (3 : Int32))), .val (.int v0_19), .val (.int kk), .val (.long v0_71), .second, .val (.int v1_71), .val (.int v2_71), .val (.int v3_71), .val (.long v4_71), .second, .val (.int v5_71), .val (.long v6_71), .second, .val (.int v7_71), .val (.ref b1), .val (.ref b4), .val (.int (1 : Int32))] [])) _
      refine XS.aload X12.here hx rfl (hb hby at_390) rfl rfl ?_
      show Steps p.tables e below (T12.setTop (mkF m 392 #[.val (.long q0), .second, .val (.long q1), .second, .val (.long q2), .second, .val (.long q3), .second, .val (.long q4), .second, .val (.int q5), .val (.int hd), .val (.int dp), .val (.int (q5 &&& (3 : Int32))), .val (.int v0_19), .val (.int kk), .val (.long v0_71), .second, .val (.int v1_71), .val (.int v2_71), .val (.int v3_71), .val (.long v4_71), .second, .val (.int v5_71), .val (.long v6_71), .second, .val (.int v7_71), .val (.ref b1), .val (.ref b4), .val (.int (1 : Int32))] [(.ref b1)])) _
      refine XS.aconstNull X12.here hx rfl (hb hby at_392) ?_
      show Steps p.tables e below (T12.setTop (mkF m 393 #[.val (.long q0), .second, .val (.long q1), .second, .val (.long q2), .second, .val (.long q3), .second, .val (.long q4), .second, .val (.int q5), .val (.int hd), .val (.int dp), .val (.int (q5 &&& (3 : Int32))), .val (.int v0_19), .val (.int kk), .val (.long v0_71), .second, .val (.int v1_71), .val (.int v2_71), .val (.int v3_71), .val (.long v4_71), .second, .val (.int v5_71), .val (.long v6_71), .second, .val (.int v7_71), .val (.ref b1), .val (.ref b4), .val (.int (1 : Int32))] [.null, (.ref b1)])) _
      refine st13.trans ?_
      show Steps p.tables e below (T13.setTop (mkF m 396 #[.val (.long q0), .second, .val (.long q1), .second, .val (.long q2), .second, .val (.long q3), .second, .val (.long q4), .second, .val (.int q5), .val (.int hd), .val (.int dp), .val (.int (q5 &&& (3 : Int32))), .val (.int v0_19), .val (.int kk), .val (.long v0_71), .second, .val (.int v1_71), .val (.int v2_71), .val (.int v3_71), .val (.long v4_71), .second, .val (.int v5_71), .val (.long v6_71), .second, .val (.int v7_71), .val (.ref b1), .val (.ref b4), .val (.int (1 : Int32))] [(.int (0 : Int32))])) _
      refine XS.ifNo X13.here hx rfl (hb hby at_396) rfl ((if0 _ _).trans (teq (rfl : (0 : Int32) = (0 : Int32))).2) ?_
      show Steps p.tables e below (T13.setTop (mkF m 399 #[.val (.long q0), .second, .val (.long q1), .second, .val (.long q2), .second, .val (.long q3), .second, .val (.long q4), .second, .val (.int q5), .val (.int hd), .val (.int dp), .val (.int (q5 &&& (3 : Int32))), .val (.int v0_19), .val (.int kk), .val (.long v0_71), .second, .val (.int v1_71), .val (.int v2_71), .val (.int v3_71), .val (.long v4_71), .second, .val (.int v5_71), .val (.long v6_71), .second, .val (.int v7_71), .val (.ref b1), .val (.ref b4), .val (.int (1 : Int32))] [])) _
      refine XS.iconst X13.here hx rfl (hb hby at_399) ?_
      show Steps p.tables e below (T13.setTop (mkF m 400 #[.val (.long q0), .second, .val (.long q1), .second, .val (.long q2), .second, .val (.long q3), .second, .val (.long q4), .second, .val (.int q5), .val (.int hd), .val (.int dp), .val (.int (q5 &&& (3 : Int32))), .val (.int v0_19), .val (.int kk), .val (.long v0_71), .second, .val (.int v1_71), .val (.int v2_71), .val (.int v3_71), .val (.long v4_71), .second, .val (.int v5_71), .val (.long v6_71), .second, .val (.int v7_71), .val (.ref b1), .val (.ref b4), .val (.int (1 : Int32))] [(.int (1 : Int32))])) _
      refine XS.goto X13.here hx rfl (pc0 := 400) (pc' := 404) rfl (hb hby at_400) (by decide) (by decide) ?_
      show Steps p.tables e below (T13.setTop (mkF m 404 #[.val (.long q0), .second, .val (.long q1), .second, .val (.long q2), .second, .val (.long q3), .second, .val (.long q4), .second, .val (.int q5), .val (.int hd), .val (.int dp), .val (.int (q5 &&& (3 : Int32))), .val (.int v0_19), .val (.int kk), .val (.long v0_71), .second, .val (.int v1_71), .val (.int v2_71), .val (.int v3_71), .val (.long v4_71), .second, .val (.int v5_71), .val (.long v6_71), .second, .val (.int v7_71), .val (.ref b1), .val (.ref b4), .val (.int (1 : Int32))] [(.int (1 : Int32))])) _
      refine XS.istore X13.here hx rfl (hb hby at_404) rfl (l' := #[.val (.long q0), .second, .val (.long q1), .second, .val (.long q2), .second, .val (.long q3), .second, .val (.long q4), .second, .val (.int q5), .val (.int hd), .val (.int dp), .val (.int (q5 &&& (3 : Int32))), .val (.int v0_19), .val (.int kk), .val (.long v0_71), .second, .val (.int v1_71), .val (.int v2_71), .val (.int v3_71), .val (.long v4_71), .second, .val (.int v5_71), .val (.long v6_71), .second, .val (.int v7_71), .val (.ref b1), .val (.ref b4), .val (.int (1 : Int32))]) rfl ?_
      show Steps p.tables e below (T13.setTop (mkF m 406 #[.val (.long q0), .second, .val (.long q1), .second, .val (.long q2), .second, .val (.long q3), .second, .val (.long q4), .second, .val (.int q5), .val (.int hd), .val (.int dp), .val (.int (q5 &&& (3 : Int32))), .val (.int v0_19), .val (.int kk), .val (.long v0_71), .second, .val (.int v1_71), .val (.int v2_71), .val (.int v3_71), .val (.long v4_71), .second, .val (.int v5_71), .val (.long v6_71), .second, .val (.int v7_71), .val (.ref b1), .val (.ref b4), .val (.int (1 : Int32))] [])) _
      refine XS.iload X13.here hx rfl (hb hby at_406) rfl ?_
      show Steps p.tables e below (T13.setTop (mkF m 408 #[.val (.long q0), .second, .val (.long q1), .second, .val (.long q2), .second, .val (.long q3), .second, .val (.long q4), .second, .val (.int q5), .val (.int hd), .val (.int dp), .val (.int (q5 &&& (3 : Int32))), .val (.int v0_19), .val (.int kk), .val (.long v0_71), .second, .val (.int v1_71), .val (.int v2_71), .val (.int v3_71), .val (.long v4_71), .second, .val (.int v5_71), .val (.long v6_71), .second, .val (.int v7_71), .val (.ref b1), .val (.ref b4), .val (.int (1 : Int32))] [(.int (1 : Int32))])) _
      exact retN X13 hx (t := .boolean) Bd.returns (by simp) (hb hby at_408) hr
    · show Q0 h0 n0 _ T13.heap _
      rw [e13]
      exact ⟨rfl, N13⟩
  ·
    obtain ⟨fs, hr, hrun, hended, hW, hsame⟩ := X10.leave (v := some (.int (1 : Int32))) (fun h => by rw [Bd.returns] at h; cases h)
    refine ⟨_, _, pre0 _ ?_, hrun, hended, _, _, rfl, ?_, ⟨_, rfl⟩, hW, hsame.mono (by decide) (by decide)⟩
    · show Steps p.tables e below (s₁.setTop (mkF m 0 #[.val (.long q0), .second, .val (.long q1), .second, .val (.long q2), .second, .val (.long q3), .second, .val (.long q4), .second, .val (.int q5), .unset, .unset, .unset, .unset, .unset, .unset, .unset, .unset, .unset, .unset, .unset, .unset, .unset, .unset, .unset, .unset, .unset, .unset, .unset] [])) _
      refine XS.lload X0.here hx rfl (hb hby at_0) rfl ?_
      show Steps p.tables e below (s₁.setTop (mkF m 2 #[.val (.long q0), .second, .val (.long q1), .second, .val (.long q2), .second, .val (.long q3), .second, .val (.long q4), .second, .val (.int q5), .unset, .unset, .unset, .unset, .unset, .unset, .unset, .unset, .unset, .unset, .unset, .unset, .unset, .unset, .unset, .unset, .unset, .unset, .unset] [(.long q3)])) _
      refine XS.l2i X0.here hx rfl (hb hby at_2) rfl ?_
      show Steps p.tables e below (s₁.setTop (mkF m 3 #[.val (.long q0), .second, .val (.long q1), .second, .val (.long q2), .second, .val (.long q3), .second, .val (.long q4), .second, .val (.int q5), .unset, .unset, .unset, .unset, .unset, .unset, .unset, .unset, .unset, .unset, .unset, .unset, .unset, .unset, .unset, .unset, .unset, .unset, .unset] [(.int (q3.toInt32))])) _
      refine XS.istore X0.here hx rfl (hb hby at_3) rfl (l' := #[.val (.long q0), .second, .val (.long q1), .second, .val (.long q2), .second, .val (.long q3), .second, .val (.long q4), .second, .val (.int q5), .val (.int (q3.toInt32)), .unset, .unset, .unset, .unset, .unset, .unset, .unset, .unset, .unset, .unset, .unset, .unset, .unset, .unset, .unset, .unset, .unset, .unset]) rfl ?_
      show Steps p.tables e below (s₁.setTop (mkF m 5 #[.val (.long q0), .second, .val (.long q1), .second, .val (.long q2), .second, .val (.long q3), .second, .val (.long q4), .second, .val (.int q5), .val (.int (q3.toInt32)), .unset, .unset, .unset, .unset, .unset, .unset, .unset, .unset, .unset, .unset, .unset, .unset, .unset, .unset, .unset, .unset, .unset, .unset] [])) _
      rw [← hhd]
      show Steps p.tables e below (s₁.setTop (mkF m 5 #[.val (.long q0), .second, .val (.long q1), .second, .val (.long q2), .second, .val (.long q3), .second, .val (.long q4), .second, .val (.int q5), .val (.int hd), .unset, .unset, .unset, .unset, .unset, .unset, .unset, .unset, .unset, .unset, .unset, .unset, .unset, .unset, .unset, .unset, .unset, .unset] [])) _
      refine XS.lload X0.here hx rfl (hb hby at_5) rfl ?_
      show Steps p.tables e below (s₁.setTop (mkF m 7 #[.val (.long q0), .second, .val (.long q1), .second, .val (.long q2), .second, .val (.long q3), .second, .val (.long q4), .second, .val (.int q5), .val (.int hd), .unset, .unset, .unset, .unset, .unset, .unset, .unset, .unset, .unset, .unset, .unset, .unset, .unset, .unset, .unset, .unset, .unset, .unset] [(.long q3)])) _
      refine XS.bipush X0.here hx rfl (hb hby at_7) ?_
      show Steps p.tables e below (s₁.setTop (mkF m 9 #[.val (.long q0), .second, .val (.long q1), .second, .val (.long q2), .second, .val (.long q3), .second, .val (.long q4), .second, .val (.int q5), .val (.int hd), .unset, .unset, .unset, .unset, .unset, .unset, .unset, .unset, .unset, .unset, .unset, .unset, .unset, .unset, .unset, .unset, .unset, .unset] [(.int (32 : Int32)), (.long q3)])) _
      refine XS.lushr X0.here hx rfl (hb hby at_9) rfl ?_
      show Steps p.tables e below (s₁.setTop (mkF m 10 #[.val (.long q0), .second, .val (.long q1), .second, .val (.long q2), .second, .val (.long q3), .second, .val (.long q4), .second, .val (.int q5), .val (.int hd), .unset, .unset, .unset, .unset, .unset, .unset, .unset, .unset, .unset, .unset, .unset, .unset, .unset, .unset, .unset, .unset, .unset, .unset] [(.long ((q3.toUInt64 >>> ((32 : Int32) &&& 0x3f).toInt64.toUInt64).toInt64))])) _
      refine XS.l2i X0.here hx rfl (hb hby at_10) rfl ?_
      show Steps p.tables e below (s₁.setTop (mkF m 11 #[.val (.long q0), .second, .val (.long q1), .second, .val (.long q2), .second, .val (.long q3), .second, .val (.long q4), .second, .val (.int q5), .val (.int hd), .unset, .unset, .unset, .unset, .unset, .unset, .unset, .unset, .unset, .unset, .unset, .unset, .unset, .unset, .unset, .unset, .unset, .unset] [(.int (((q3.toUInt64 >>> ((32 : Int32) &&& 0x3f).toInt64.toUInt64).toInt64).toInt32))])) _
      refine XS.istore X0.here hx rfl (hb hby at_11) rfl (l' := #[.val (.long q0), .second, .val (.long q1), .second, .val (.long q2), .second, .val (.long q3), .second, .val (.long q4), .second, .val (.int q5), .val (.int hd), .val (.int (((q3.toUInt64 >>> ((32 : Int32) &&& 0x3f).toInt64.toUInt64).toInt64).toInt32)), .unset, .unset, .unset, .unset, .unset, .unset, .unset, .unset, .unset, .unset, .unset, .unset, .unset, .unset, .unset, .unset, .unset]) rfl ?_
      show Steps p.tables e below (s₁.setTop (mkF m 13 #[.val (.long q0), .second, .val (.long q1), .second, .val (.long q2), .second, .val (.long q3), .second, .val (.long q4), .second, .val (.int q5), .val (.int hd), .val (.int (((q3.toUInt64 >>> ((32 : Int32) &&& 0x3f).toInt64.toUInt64).toInt64).toInt32)), .unset, .unset, .unset, .unset, .unset, .unset, .unset, .unset, .unset, .unset, .unset, .unset, .unset, .unset, .unset, .unset, .unset] [])) _
      rw [← hdp]
      show Steps p.tables e below (s₁.setTop (mkF m 13 #[.val (.long q0), .second, .val (.long q1), .second, .val (.long q2), .second, .val (.long q3), .second, .val (.long q4), .second, .val (.int q5), .val (.int hd), .val (.int dp), .unset, .unset, .unset, .unset, .unset, .unset, .unset, .unset, .unset, .unset, .unset, .unset, .unset, .unset, .unset, .unset, .unset] [])) _
      refine XS.iload X0.here hx rfl (hb hby at_13) rfl ?_
      show Steps p.tables e below (s₁.setTop (mkF m 15 #[.val (.long q0), .second, .val (.long q1), .second, .val (.long q2), .second, .val (.long q3), .second, .val (.long q4), .second, .val (.int q5), .val (.int hd), .val (.int dp), .unset, .unset, .unset, .unset, .unset, .unset, .unset, .unset, .unset, .unset, .unset, .unset, .unset, .unset, .unset, .unset, .unset] [(.int q5)])) _
      refine XS.iconst X0.here hx rfl (hb hby at_15) ?_
      show Steps p.tables e below (s₁.setTop (mkF m 16 #[.val (.long q0), .second, .val (.long q1), .second, .val (.long q2), .second, .val (.long q3), .second, .val (.long q4), .second, .val (.int q5), .val (.int hd), .val (.int dp), .unset, .unset, .unset, .unset, .unset, .unset, .unset, .unset, .unset, .unset, .unset, .unset, .unset, .unset, .unset, .unset, .unset] [(.int (3 : Int32)), (.int q5)])) _
      refine XS.iand X0.here hx rfl (hb hby at_16) rfl ?_
      show Steps p.tables e below (s₁.setTop (mkF m 17 #[.val (.long q0), .second, .val (.long q1), .second, .val (.long q2), .second, .val (.long q3), .second, .val (.long q4), .second, .val (.int q5), .val (.int hd), .val (.int dp), .unset, .unset, .unset, .unset, .unset, .unset, .unset, .unset, .unset, .unset, .unset, .unset, .unset, .unset, .unset, .unset, .unset] [(.int (q5 &&& (3 : Int32)))])) _
      refine XS.istore X0.here hx rfl (hb hby at_17) rfl (l' := #[.val (.long q0), .second, .val (.long q1), .second, .val (.long q2), .second, .val (.long q3), .second, .val (.long q4), .second, .val (.int q5), .val (.int hd), .val (.int dp), .val (.int (q5 &&& (3 : Int32))), .unset, .unset, .unset, .unset, .unset, .unset, .unset, .unset, .unset, .unset, .unset, .unset, .unset, .unset, .unset, .unset]) rfl ?_
      show Steps p.tables e below (s₁.setTop (mkF m 19 #[.val (.long q0), .second, .val (.long q1), .second, .val (.long q2), .second, .val (.long q3), .second, .val (.long q4), .second, .val (.int q5), .val (.int hd), .val (.int dp), .val (.int (q5 &&& (3 : Int32))), .unset, .unset, .unset, .unset, .unset, .unset, .unset, .unset, .unset, .unset, .unset, .unset, .unset, .unset, .unset, .unset] [])) _
      refine sg_19  (.val (.long q0)) (.second) (.val (.long q1)) (.second) (.val (.long q2)) (.second) (.val (.long q3)) (.second) (.val (.long q4)) (.second) (q5) (.val (.int hd)) (.val (.int dp)) (.val (.int (q5 &&& (3 : Int32)))) (.unset) (.unset) (.unset) (.unset) (.unset) (.unset) (.unset) (.unset) (.unset) (.unset) (.unset) (.unset) (.unset) (.unset) (.unset) (.unset) v0_19 hv0_19 X0 hx hZ hw hby hown ?_
      show Steps p.tables e below (s₁.setTop (mkF m 31 #[.val (.long q0), .second, .val (.long q1), .second, .val (.long q2), .second, .val (.long q3), .second, .val (.long q4), .second, .val (.int q5), .val (.int hd), .val (.int dp), .val (.int (q5 &&& (3 : Int32))), .unset, .unset, .unset, .unset, .unset, .unset, .unset, .unset, .unset, .unset, .unset, .unset, .unset, .unset, .unset, .unset] [(.int v0_19)])) _
      refine XS.istore X0.here hx rfl (hb hby at_31) rfl (l' := #[.val (.long q0), .second, .val (.long q1), .second, .val (.long q2), .second, .val (.long q3), .second, .val (.long q4), .second, .val (.int q5), .val (.int hd), .val (.int dp), .val (.int (q5 &&& (3 : Int32))), .val (.int v0_19), .unset, .unset, .unset, .unset, .unset, .unset, .unset, .unset, .unset, .unset, .unset, .unset, .unset, .unset, .unset]) rfl ?_
      show Steps p.tables e below (s₁.setTop (mkF m 33 #[.val (.long q0), .second, .val (.long q1), .second, .val (.long q2), .second, .val (.long q3), .second, .val (.long q4), .second, .val (.int q5), .val (.int hd), .val (.int dp), .val (.int (q5 &&& (3 : Int32))), .val (.int v0_19), .unset, .unset, .unset, .unset, .unset, .unset, .unset, .unset, .unset, .unset, .unset, .unset, .unset, .unset, .unset] [])) _
      refine XS.iload X0.here hx rfl (hb hby at_33) rfl ?_
      show Steps p.tables e below (s₁.setTop (mkF m 35 #[.val (.long q0), .second, .val (.long q1), .second, .val (.long q2), .second, .val (.long q3), .second, .val (.long q4), .second, .val (.int q5), .val (.int hd), .val (.int dp), .val (.int (q5 &&& (3 : Int32))), .val (.int v0_19), .unset, .unset, .unset, .unset, .unset, .unset, .unset, .unset, .unset, .unset, .unset, .unset, .unset, .unset, .unset] [(.int q5)])) _
      refine XS.iconst X0.here hx rfl (hb hby at_35) ?_
      show Steps p.tables e below (s₁.setTop (mkF m 36 #[.val (.long q0), .second, .val (.long q1), .second, .val (.long q2), .second, .val (.long q3), .second, .val (.long q4), .second, .val (.int q5), .val (.int hd), .val (.int dp), .val (.int (q5 &&& (3 : Int32))), .val (.int v0_19), .unset, .unset, .unset, .unset, .unset, .unset, .unset, .unset, .unset, .unset, .unset, .unset, .unset, .unset, .unset] [(.int (3 : Int32)), (.int q5)])) _
      refine XS.iushr X0.here hx rfl (hb hby at_36) rfl ?_
      show Steps p.tables e below (s₁.setTop (mkF m 37 #[.val (.long q0), .second, .val (.long q1), .second, .val (.long q2), .second, .val (.long q3), .second, .val (.long q4), .second, .val (.int q5), .val (.int hd), .val (.int dp), .val (.int (q5 &&& (3 : Int32))), .val (.int v0_19), .unset, .unset, .unset, .unset, .unset, .unset, .unset, .unset, .unset, .unset, .unset, .unset, .unset, .unset, .unset] [(.int ((q5.toUInt32 >>> ((3 : Int32) &&& 31).toUInt32).toInt32))])) _
      refine XS.bipush X0.here hx rfl (hb hby at_37) ?_
      show Steps p.tables e below (s₁.setTop (mkF m 39 #[.val (.long q0), .second, .val (.long q1), .second, .val (.long q2), .second, .val (.long q3), .second, .val (.long q4), .second, .val (.int q5), .val (.int hd), .val (.int dp), .val (.int (q5 &&& (3 : Int32))), .val (.int v0_19), .unset, .unset, .unset, .unset, .unset, .unset, .unset, .unset, .unset, .unset, .unset, .unset, .unset, .unset, .unset] [(.int (15 : Int32)), (.int ((q5.toUInt32 >>> ((3 : Int32) &&& 31).toUInt32).toInt32))])) _
      refine XS.iand X0.here hx rfl (hb hby at_39) rfl ?_
      show Steps p.tables e below (s₁.setTop (mkF m 40 #[.val (.long q0), .second, .val (.long q1), .second, .val (.long q2), .second, .val (.long q3), .second, .val (.long q4), .second, .val (.int q5), .val (.int hd), .val (.int dp), .val (.int (q5 &&& (3 : Int32))), .val (.int v0_19), .unset, .unset, .unset, .unset, .unset, .unset, .unset, .unset, .unset, .unset, .unset, .unset, .unset, .unset, .unset] [(.int (((q5.toUInt32 >>> ((3 : Int32) &&& 31).toUInt32).toInt32) &&& (15 : Int32)))])) _
      refine XS.istore X0.here hx rfl (hb hby at_40) rfl (l' := #[.val (.long q0), .second, .val (.long q1), .second, .val (.long q2), .second, .val (.long q3), .second, .val (.long q4), .second, .val (.int q5), .val (.int hd), .val (.int dp), .val (.int (q5 &&& (3 : Int32))), .val (.int v0_19), .val (.int (((q5.toUInt32 >>> ((3 : Int32) &&& 31).toUInt32).toInt32) &&& (15 : Int32))), .unset, .unset, .unset, .unset, .unset, .unset, .unset, .unset, .unset, .unset, .unset, .unset, .unset, .unset]) rfl ?_
      show Steps p.tables e below (s₁.setTop (mkF m 42 #[.val (.long q0), .second, .val (.long q1), .second, .val (.long q2), .second, .val (.long q3), .second, .val (.long q4), .second, .val (.int q5), .val (.int hd), .val (.int dp), .val (.int (q5 &&& (3 : Int32))), .val (.int v0_19), .val (.int (((q5.toUInt32 >>> ((3 : Int32) &&& 31).toUInt32).toInt32) &&& (15 : Int32))), .unset, .unset, .unset, .unset, .unset, .unset, .unset, .unset, .unset, .unset, .unset, .unset, .unset, .unset] [])) _
      rw [← hkk]
      show Steps p.tables e below (s₁.setTop (mkF m 42 #[.val (.long q0), .second, .val (.long q1), .second, .val (.long q2), .second, .val (.long q3), .second, .val (.long q4), .second, .val (.int q5), .val (.int hd), .val (.int dp), .val (.int (q5 &&& (3 : Int32))), .val (.int v0_19), .val (.int kk), .unset, .unset, .unset, .unset, .unset, .unset, .unset, .unset, .unset, .unset, .unset, .unset, .unset, .unset] [])) _
      refine XS.lloadN X0.here hx rfl (hb hby at_42) rfl ?_
      show Steps p.tables e below (s₁.setTop (mkF m 43 #[.val (.long q0), .second, .val (.long q1), .second, .val (.long q2), .second, .val (.long q3), .second, .val (.long q4), .second, .val (.int q5), .val (.int hd), .val (.int dp), .val (.int (q5 &&& (3 : Int32))), .val (.int v0_19), .val (.int kk), .unset, .unset, .unset, .unset, .unset, .unset, .unset, .unset, .unset, .unset, .unset, .unset, .unset, .unset] [(.long q0)])) _
      refine XS.lstore X0.here hx rfl (hb hby at_43) rfl (l' := #[.val (.long q0), .second, .val (.long q1), .second, .val (.long q2), .second, .val (.long q3), .second, .val (.long q4), .second, .val (.int q5), .val (.int hd), .val (.int dp), .val (.int (q5 &&& (3 : Int32))), .val (.int v0_19), .val (.int kk), .val (.long q0), .second, .unset, .unset, .unset, .unset, .unset, .unset, .unset, .unset, .unset, .unset, .unset, .unset]) rfl ?_
      show Steps p.tables e below (s₁.setTop (mkF m 45 #[.val (.long q0), .second, .val (.long q1), .second, .val (.long q2), .second, .val (.long q3), .second, .val (.long q4), .second, .val (.int q5), .val (.int hd), .val (.int dp), .val (.int (q5 &&& (3 : Int32))), .val (.int v0_19), .val (.int kk), .val (.long q0), .second, .unset, .unset, .unset, .unset, .unset, .unset, .unset, .unset, .unset, .unset, .unset, .unset] [])) _
      refine XS.iload X0.here hx rfl (hb hby at_45) rfl ?_
      show Steps p.tables e below (s₁.setTop (mkF m 47 #[.val (.long q0), .second, .val (.long q1), .second, .val (.long q2), .second, .val (.long q3), .second, .val (.long q4), .second, .val (.int q5), .val (.int hd), .val (.int dp), .val (.int (q5 &&& (3 : Int32))), .val (.int v0_19), .val (.int kk), .val (.long q0), .second, .unset, .unset, .unset, .unset, .unset, .unset, .unset, .unset, .unset, .unset, .unset, .unset] [(.int hd)])) _
      refine XS.istore X0.here hx rfl (hb hby at_47) rfl (l' := #[.val (.long q0), .second, .val (.long q1), .second, .val (.long q2), .second, .val (.long q3), .second, .val (.long q4), .second, .val (.int q5), .val (.int hd), .val (.int dp), .val (.int (q5 &&& (3 : Int32))), .val (.int v0_19), .val (.int kk), .val (.long q0), .second, .val (.int hd), .unset, .unset, .unset, .unset, .unset, .unset, .unset, .unset, .unset, .unset, .unset]) rfl ?_
      show Steps p.tables e below (s₁.setTop (mkF m 49 #[.val (.long q0), .second, .val (.long q1), .second, .val (.long q2), .second, .val (.long q3), .second, .val (.long q4), .second, .val (.int q5), .val (.int hd), .val (.int dp), .val (.int (q5 &&& (3 : Int32))), .val (.int v0_19), .val (.int kk), .val (.long q0), .second, .val (.int hd), .unset, .unset, .unset, .unset, .unset, .unset, .unset, .unset, .unset, .unset, .unset] [])) _
      refine XS.iload X0.here hx rfl (hb hby at_49) rfl ?_
      show Steps p.tables e below (s₁.setTop (mkF m 51 #[.val (.long q0), .second, .val (.long q1), .second, .val (.long q2), .second, .val (.long q3), .second, .val (.long q4), .second, .val (.int q5), .val (.int hd), .val (.int dp), .val (.int (q5 &&& (3 : Int32))), .val (.int v0_19), .val (.int kk), .val (.long q0), .second, .val (.int hd), .unset, .unset, .unset, .unset, .unset, .unset, .unset, .unset, .unset, .unset, .unset] [(.int dp)])) _
      refine XS.istore X0.here hx rfl (hb hby at_51) rfl (l' := #[.val (.long q0), .second, .val (.long q1), .second, .val (.long q2), .second, .val (.long q3), .second, .val (.long q4), .second, .val (.int q5), .val (.int hd), .val (.int dp), .val (.int (q5 &&& (3 : Int32))), .val (.int v0_19), .val (.int kk), .val (.long q0), .second, .val (.int hd), .val (.int dp), .unset, .unset, .unset, .unset, .unset, .unset, .unset, .unset, .unset, .unset]) rfl ?_
      show Steps p.tables e below (s₁.setTop (mkF m 53 #[.val (.long q0), .second, .val (.long q1), .second, .val (.long q2), .second, .val (.long q3), .second, .val (.long q4), .second, .val (.int q5), .val (.int hd), .val (.int dp), .val (.int (q5 &&& (3 : Int32))), .val (.int v0_19), .val (.int kk), .val (.long q0), .second, .val (.int hd), .val (.int dp), .unset, .unset, .unset, .unset, .unset, .unset, .unset, .unset, .unset, .unset] [])) _
      refine XS.iload X0.here hx rfl (hb hby at_53) rfl ?_
      show Steps p.tables e below (s₁.setTop (mkF m 55 #[.val (.long q0), .second, .val (.long q1), .second, .val (.long q2), .second, .val (.long q3), .second, .val (.long q4), .second, .val (.int q5), .val (.int hd), .val (.int dp), .val (.int (q5 &&& (3 : Int32))), .val (.int v0_19), .val (.int kk), .val (.long q0), .second, .val (.int hd), .val (.int dp), .unset, .unset, .unset, .unset, .unset, .unset, .unset, .unset, .unset, .unset] [(.int (q5 &&& (3 : Int32)))])) _
      refine XS.istore X0.here hx rfl (hb hby at_55) rfl (l' := #[.val (.long q0), .second, .val (.long q1), .second, .val (.long q2), .second, .val (.long q3), .second, .val (.long q4), .second, .val (.int q5), .val (.int hd), .val (.int dp), .val (.int (q5 &&& (3 : Int32))), .val (.int v0_19), .val (.int kk), .val (.long q0), .second, .val (.int hd), .val (.int dp), .val (.int (q5 &&& (3 : Int32))), .unset, .unset, .unset, .unset, .unset, .unset, .unset, .unset, .unset]) rfl ?_
      show Steps p.tables e below (s₁.setTop (mkF m 57 #[.val (.long q0), .second, .val (.long q1), .second, .val (.long q2), .second, .val (.long q3), .second, .val (.long q4), .second, .val (.int q5), .val (.int hd), .val (.int dp), .val (.int (q5 &&& (3 : Int32))), .val (.int v0_19), .val (.int kk), .val (.long q0), .second, .val (.int hd), .val (.int dp), .val (.int (q5 &&& (3 : Int32))), .unset, .unset, .unset, .unset, .unset, .unset, .unset, .unset, .unset] [])) _
      refine XS.lloadN X0.here hx rfl (hb hby at_57) rfl ?_
      show Steps p.tables e below (s₁.setTop (mkF m 58 #[.val (.long q0), .second, .val (.long q1), .second, .val (.long q2), .second, .val (.long q3), .second, .val (.long q4), .second, .val (.int q5), .val (.int hd), .val (.int dp), .val (.int (q5 &&& (3 : Int32))), .val (.int v0_19), .val (.int kk), .val (.long q0), .second, .val (.int hd), .val (.int dp), .val (.int (q5 &&& (3 : Int32))), .unset, .unset, .unset, .unset, .unset, .unset, .unset, .unset, .unset] [(.long q1)])) _
      refine XS.lstore X0.here hx rfl (hb hby at_58) rfl (l' := #[.val (.long q0), .second, .val (.long q1), .second, .val (.long q2), .second, .val (.long q3), .second, .val (.long q4), .second, .val (.int q5), .val (.int hd), .val (.int dp), .val (.int (q5 &&& (3 : Int32))), .val (.int v0_19), .val (.int kk), .val (.long q0), .second, .val (.int hd), .val (.int dp), .val (.int (q5 &&& (3 : Int32))), .val (.long q1), .second, .unset, .unset, .unset, .unset, .unset, .unset, .unset]) rfl ?_
      show Steps p.tables e below (s₁.setTop (mkF m 60 #[.val (.long q0), .second, .val (.long q1), .second, .val (.long q2), .second, .val (.long q3), .second, .val (.long q4), .second, .val (.int q5), .val (.int hd), .val (.int dp), .val (.int (q5 &&& (3 : Int32))), .val (.int v0_19), .val (.int kk), .val (.long q0), .second, .val (.int hd), .val (.int dp), .val (.int (q5 &&& (3 : Int32))), .val (.long q1), .second, .unset, .unset, .unset, .unset, .unset, .unset, .unset] [])) _
      refine XS.iload X0.here hx rfl (hb hby at_60) rfl ?_
      show Steps p.tables e below (s₁.setTop (mkF m 62 #[.val (.long q0), .second, .val (.long q1), .second, .val (.long q2), .second, .val (.long q3), .second, .val (.long q4), .second, .val (.int q5), .val (.int hd), .val (.int dp), .val (.int (q5 &&& (3 : Int32))), .val (.int v0_19), .val (.int kk), .val (.long q0), .second, .val (.int hd), .val (.int dp), .val (.int (q5 &&& (3 : Int32))), .val (.long q1), .second, .unset, .unset, .unset, .unset, .unset, .unset, .unset] [(.int v0_19)])) _
      refine XS.istore X0.here hx rfl (hb hby at_62) rfl (l' := #[.val (.long q0), .second, .val (.long q1), .second, .val (.long q2), .second, .val (.long q3), .second, .val (.long q4), .second, .val (.int q5), .val (.int hd), .val (.int dp), .val (.int (q5 &&& (3 : Int32))), .val (.int v0_19), .val (.int kk), .val (.long q0), .second, .val (.int hd), .val (.int dp), .val (.int (q5 &&& (3 : Int32))), .val (.long q1), .second, .val (.int v0_19), .unset, .unset, .unset, .unset, .unset, .unset]) rfl ?_
      show Steps p.tables e below (s₁.setTop (mkF m 64 #[.val (.long q0), .second, .val (.long q1), .second, .val (.long q2), .second, .val (.long q3), .second, .val (.long q4), .second, .val (.int q5), .val (.int hd), .val (.int dp), .val (.int (q5 &&& (3 : Int32))), .val (.int v0_19), .val (.int kk), .val (.long q0), .second, .val (.int hd), .val (.int dp), .val (.int (q5 &&& (3 : Int32))), .val (.long q1), .second, .val (.int v0_19), .unset, .unset, .unset, .unset, .unset, .unset] [])) _
      refine XS.lload X0.here hx rfl (hb hby at_64) rfl ?_
      show Steps p.tables e below (s₁.setTop (mkF m 66 #[.val (.long q0), .second, .val (.long q1), .second, .val (.long q2), .second, .val (.long q3), .second, .val (.long q4), .second, .val (.int q5), .val (.int hd), .val (.int dp), .val (.int (q5 &&& (3 : Int32))), .val (.int v0_19), .val (.int kk), .val (.long q0), .second, .val (.int hd), .val (.int dp), .val (.int (q5 &&& (3 : Int32))), .val (.long q1), .second, .val (.int v0_19), .unset, .unset, .unset, .unset, .unset, .unset] [(.long q2)])) _
      refine XS.lstore X0.here hx rfl (hb hby at_66) rfl (l' := #[.val (.long q0), .second, .val (.long q1), .second, .val (.long q2), .second, .val (.long q3), .second, .val (.long q4), .second, .val (.int q5), .val (.int hd), .val (.int dp), .val (.int (q5 &&& (3 : Int32))), .val (.int v0_19), .val (.int kk), .val (.long q0), .second, .val (.int hd), .val (.int dp), .val (.int (q5 &&& (3 : Int32))), .val (.long q1), .second, .val (.int v0_19), .val (.long q2), .second, .unset, .unset, .unset, .unset]) rfl ?_
      show Steps p.tables e below (s₁.setTop (mkF m 68 #[.val (.long q0), .second, .val (.long q1), .second, .val (.long q2), .second, .val (.long q3), .second, .val (.long q4), .second, .val (.int q5), .val (.int hd), .val (.int dp), .val (.int (q5 &&& (3 : Int32))), .val (.int v0_19), .val (.int kk), .val (.long q0), .second, .val (.int hd), .val (.int dp), .val (.int (q5 &&& (3 : Int32))), .val (.long q1), .second, .val (.int v0_19), .val (.long q2), .second, .unset, .unset, .unset, .unset] [])) _
      refine XS.iconst X0.here hx rfl (hb hby at_68) ?_
      show Steps p.tables e below (s₁.setTop (mkF m 69 #[.val (.long q0), .second, .val (.long q1), .second, .val (.long q2), .second, .val (.long q3), .second, .val (.long q4), .second, .val (.int q5), .val (.int hd), .val (.int dp), .val (.int (q5 &&& (3 : Int32))), .val (.int v0_19), .val (.int kk), .val (.long q0), .second, .val (.int hd), .val (.int dp), .val (.int (q5 &&& (3 : Int32))), .val (.long q1), .second, .val (.int v0_19), .val (.long q2), .second, .unset, .unset, .unset, .unset] [(.int (1 : Int32))])) _
      refine XS.istore X0.here hx rfl (hb hby at_69) rfl (l' := #[.val (.long q0), .second, .val (.long q1), .second, .val (.long q2), .second, .val (.long q3), .second, .val (.long q4), .second, .val (.int q5), .val (.int hd), .val (.int dp), .val (.int (q5 &&& (3 : Int32))), .val (.int v0_19), .val (.int kk), .val (.long q0), .second, .val (.int hd), .val (.int dp), .val (.int (q5 &&& (3 : Int32))), .val (.long q1), .second, .val (.int v0_19), .val (.long q2), .second, .val (.int (1 : Int32)), .unset, .unset, .unset]) rfl ?_
      show Steps p.tables e below (s₁.setTop (mkF m 71 #[.val (.long q0), .second, .val (.long q1), .second, .val (.long q2), .second, .val (.long q3), .second, .val (.long q4), .second, .val (.int q5), .val (.int hd), .val (.int dp), .val (.int (q5 &&& (3 : Int32))), .val (.int v0_19), .val (.int kk), .val (.long q0), .second, .val (.int hd), .val (.int dp), .val (.int (q5 &&& (3 : Int32))), .val (.long q1), .second, .val (.int v0_19), .val (.long q2), .second, .val (.int (1 : Int32)), .unset, .unset, .unset] [])) _
      refine sg_71  (q0) (q1) (q2) (.val (.long q3)) (.second) (q4) (.val (.int q5)) (hd) (dp) ((q5 &&& (3 : Int32))) (v0_19) (kk) (q0) (hd) (dp) ((q5 &&& (3 : Int32))) (q1) (v0_19) (q2) ((1 : Int32)) (.unset) (.unset) (.unset) v0_71 hv0_71 v1_71 hv1_71 v2_71 hv2_71 v3_71 hv3_71 v4_71 hv4_71 v5_71 hv5_71 v6_71 hv6_71 v7_71 hv7_71 X0 hx hZ hw hby hown ?_
      show Steps p.tables e below (s₁.setTop (mkF m 275 #[.val (.long q0), .second, .val (.long q1), .second, .val (.long q2), .second, .val (.long q3), .second, .val (.long q4), .second, .val (.int q5), .val (.int hd), .val (.int dp), .val (.int (q5 &&& (3 : Int32))), .val (.int v0_19), .val (.int kk), .val (.long v0_71), .second, .val (.int v1_71), .val (.int v2_71), .val (.int v3_71), .val (.long v4_71), .second, .val (.int v5_71), .val (.long v6_71), .second, .val (.int v7_71), .unset, .unset, .unset] [])) _
      refine st1 _ ?_
      show Steps p.tables e below (T1.setTop (mkF m 278 #[.val (.long q0), .second, .val (.long q1), .second, .val (.long q2), .second, .val (.long q3), .second, .val (.long q4), .second, .val (.int q5), .val (.int hd), .val (.int dp), .val (.int (q5 &&& (3 : Int32))), .val (.int v0_19), .val (.int kk), .val (.long v0_71), .second, .val (.int v1_71), .val (.int v2_71), .val (.int v3_71), .val (.long v4_71), .second, .val (.int v5_71), .val (.long v6_71), .second, .val (.int v7_71), .unset, .unset, .unset] [(.ref b1)])) _
      refine XS.dup X1.here hx rfl (hb hby at_278) rfl rfl ?_
      show Steps p.tables e below (T1.setTop (mkF m 279 #[.val (.long q0), .second, .val (.long q1), .second, .val (.long q2), .second, .val (.long q3), .second, .val (.long q4), .second, .val (.int q5), .val (.int hd), .val (.int dp), .val (.int (q5 &&& (3 : Int32))), .val (.int v0_19), .val (.int kk), .val (.long v0_71), .second, .val (.int v1_71), .val (.int v2_71), .val (.int v3_71), .val (.long v4_71), .second, .val (.int v5_71), .val (.long v6_71), .second, .val (.int v7_71), .unset, .unset, .unset] [(.ref b1), (.ref b1)])) _
      refine XS.lloadN X1.here hx rfl (hb hby at_279) rfl ?_
      show Steps p.tables e below (T1.setTop (mkF m 280 #[.val (.long q0), .second, .val (.long q1), .second, .val (.long q2), .second, .val (.long q3), .second, .val (.long q4), .second, .val (.int q5), .val (.int hd), .val (.int dp), .val (.int (q5 &&& (3 : Int32))), .val (.int v0_19), .val (.int kk), .val (.long v0_71), .second, .val (.int v1_71), .val (.int v2_71), .val (.int v3_71), .val (.long v4_71), .second, .val (.int v5_71), .val (.long v6_71), .second, .val (.int v7_71), .unset, .unset, .unset] [(.long q0), (.ref b1), (.ref b1)])) _
      refine XS.iload X1.here hx rfl (hb hby at_280) rfl ?_
      show Steps p.tables e below (T1.setTop (mkF m 282 #[.val (.long q0), .second, .val (.long q1), .second, .val (.long q2), .second, .val (.long q3), .second, .val (.long q4), .second, .val (.int q5), .val (.int hd), .val (.int dp), .val (.int (q5 &&& (3 : Int32))), .val (.int v0_19), .val (.int kk), .val (.long v0_71), .second, .val (.int v1_71), .val (.int v2_71), .val (.int v3_71), .val (.long v4_71), .second, .val (.int v5_71), .val (.long v6_71), .second, .val (.int v7_71), .unset, .unset, .unset] [(.int hd), (.long q0), (.ref b1), (.ref b1)])) _
      refine XS.iload X1.here hx rfl (hb hby at_282) rfl ?_
      show Steps p.tables e below (T1.setTop (mkF m 284 #[.val (.long q0), .second, .val (.long q1), .second, .val (.long q2), .second, .val (.long q3), .second, .val (.long q4), .second, .val (.int q5), .val (.int hd), .val (.int dp), .val (.int (q5 &&& (3 : Int32))), .val (.int v0_19), .val (.int kk), .val (.long v0_71), .second, .val (.int v1_71), .val (.int v2_71), .val (.int v3_71), .val (.long v4_71), .second, .val (.int v5_71), .val (.long v6_71), .second, .val (.int v7_71), .unset, .unset, .unset] [(.int dp), (.int hd), (.long q0), (.ref b1), (.ref b1)])) _
      refine XS.iload X1.here hx rfl (hb hby at_284) rfl ?_
      show Steps p.tables e below (T1.setTop (mkF m 286 #[.val (.long q0), .second, .val (.long q1), .second, .val (.long q2), .second, .val (.long q3), .second, .val (.long q4), .second, .val (.int q5), .val (.int hd), .val (.int dp), .val (.int (q5 &&& (3 : Int32))), .val (.int v0_19), .val (.int kk), .val (.long v0_71), .second, .val (.int v1_71), .val (.int v2_71), .val (.int v3_71), .val (.long v4_71), .second, .val (.int v5_71), .val (.long v6_71), .second, .val (.int v7_71), .unset, .unset, .unset] [(.int (q5 &&& (3 : Int32))), (.int dp), (.int hd), (.long q0), (.ref b1), (.ref b1)])) _
      refine st2 _ ?_
      show Steps p.tables e below (T2.setTop (mkF m 289 #[.val (.long q0), .second, .val (.long q1), .second, .val (.long q2), .second, .val (.long q3), .second, .val (.long q4), .second, .val (.int q5), .val (.int hd), .val (.int dp), .val (.int (q5 &&& (3 : Int32))), .val (.int v0_19), .val (.int kk), .val (.long v0_71), .second, .val (.int v1_71), .val (.int v2_71), .val (.int v3_71), .val (.long v4_71), .second, .val (.int v5_71), .val (.long v6_71), .second, .val (.int v7_71), .unset, .unset, .unset] [(.ref (own_cls (q5 &&& (3 : Int32)) wU wA wC wP)), (.int dp), (.int hd), (.long q0), (.ref b1), (.ref b1)])) _
      refine XS.lloadN X2.here hx rfl (hb hby at_289) rfl ?_
      show Steps p.tables e below (T2.setTop (mkF m 290 #[.val (.long q0), .second, .val (.long q1), .second, .val (.long q2), .second, .val (.long q3), .second, .val (.long q4), .second, .val (.int q5), .val (.int hd), .val (.int dp), .val (.int (q5 &&& (3 : Int32))), .val (.int v0_19), .val (.int kk), .val (.long v0_71), .second, .val (.int v1_71), .val (.int v2_71), .val (.int v3_71), .val (.long v4_71), .second, .val (.int v5_71), .val (.long v6_71), .second, .val (.int v7_71), .unset, .unset, .unset] [(.long q1), (.ref (own_cls (q5 &&& (3 : Int32)) wU wA wC wP)), (.int dp), (.int hd), (.long q0), (.ref b1), (.ref b1)])) _
      refine XS.iload X2.here hx rfl (hb hby at_290) rfl ?_
      show Steps p.tables e below (T2.setTop (mkF m 292 #[.val (.long q0), .second, .val (.long q1), .second, .val (.long q2), .second, .val (.long q3), .second, .val (.long q4), .second, .val (.int q5), .val (.int hd), .val (.int dp), .val (.int (q5 &&& (3 : Int32))), .val (.int v0_19), .val (.int kk), .val (.long v0_71), .second, .val (.int v1_71), .val (.int v2_71), .val (.int v3_71), .val (.long v4_71), .second, .val (.int v5_71), .val (.long v6_71), .second, .val (.int v7_71), .unset, .unset, .unset] [(.int v0_19), (.long q1), (.ref (own_cls (q5 &&& (3 : Int32)) wU wA wC wP)), (.int dp), (.int hd), (.long q0), (.ref b1), (.ref b1)])) _
      refine XS.lload X2.here hx rfl (hb hby at_292) rfl ?_
      show Steps p.tables e below (T2.setTop (mkF m 294 #[.val (.long q0), .second, .val (.long q1), .second, .val (.long q2), .second, .val (.long q3), .second, .val (.long q4), .second, .val (.int q5), .val (.int hd), .val (.int dp), .val (.int (q5 &&& (3 : Int32))), .val (.int v0_19), .val (.int kk), .val (.long v0_71), .second, .val (.int v1_71), .val (.int v2_71), .val (.int v3_71), .val (.long v4_71), .second, .val (.int v5_71), .val (.long v6_71), .second, .val (.int v7_71), .unset, .unset, .unset] [(.long q2), (.int v0_19), (.long q1), (.ref (own_cls (q5 &&& (3 : Int32)) wU wA wC wP)), (.int dp), (.int hd), (.long q0), (.ref b1), (.ref b1)])) _
      refine st3.trans ?_
      show Steps p.tables e below (T3.setTop (mkF m 297 #[.val (.long q0), .second, .val (.long q1), .second, .val (.long q2), .second, .val (.long q3), .second, .val (.long q4), .second, .val (.int q5), .val (.int hd), .val (.int dp), .val (.int (q5 &&& (3 : Int32))), .val (.int v0_19), .val (.int kk), .val (.long v0_71), .second, .val (.int v1_71), .val (.int v2_71), .val (.int v3_71), .val (.long v4_71), .second, .val (.int v5_71), .val (.long v6_71), .second, .val (.int v7_71), .unset, .unset, .unset] [(.ref b1)])) _
      refine XS.astore X3.here hx rfl (hb hby at_297) rfl rfl (l' := #[.val (.long q0), .second, .val (.long q1), .second, .val (.long q2), .second, .val (.long q3), .second, .val (.long q4), .second, .val (.int q5), .val (.int hd), .val (.int dp), .val (.int (q5 &&& (3 : Int32))), .val (.int v0_19), .val (.int kk), .val (.long v0_71), .second, .val (.int v1_71), .val (.int v2_71), .val (.int v3_71), .val (.long v4_71), .second, .val (.int v5_71), .val (.long v6_71), .second, .val (.int v7_71), .val (.ref b1), .unset, .unset]) rfl ?_
      show Steps p.tables e below (T3.setTop (mkF m 299 #[.val (.long q0), .second, .val (.long q1), .second, .val (.long q2), .second, .val (.long q3), .second, .val (.long q4), .second, .val (.int q5), .val (.int hd), .val (.int dp), .val (.int (q5 &&& (3 : Int32))), .val (.int v0_19), .val (.int kk), .val (.long v0_71), .second, .val (.int v1_71), .val (.int v2_71), .val (.int v3_71), .val (.long v4_71), .second, .val (.int v5_71), .val (.long v6_71), .second, .val (.int v7_71), .val (.ref b1), .unset, .unset] [])) _
      refine st4 _ ?_
      show Steps p.tables e below (T4.setTop (mkF m 302 #[.val (.long q0), .second, .val (.long q1), .second, .val (.long q2), .second, .val (.long q3), .second, .val (.long q4), .second, .val (.int q5), .val (.int hd), .val (.int dp), .val (.int (q5 &&& (3 : Int32))), .val (.int v0_19), .val (.int kk), .val (.long v0_71), .second, .val (.int v1_71), .val (.int v2_71), .val (.int v3_71), .val (.long v4_71), .second, .val (.int v5_71), .val (.long v6_71), .second, .val (.int v7_71), .val (.ref b1), .unset, .unset] [(.ref b4)])) _
      refine XS.dup X4.here hx rfl (hb hby at_302) rfl rfl ?_
      show Steps p.tables e below (T4.setTop (mkF m 303 #[.val (.long q0), .second, .val (.long q1), .second, .val (.long q2), .second, .val (.long q3), .second, .val (.long q4), .second, .val (.int q5), .val (.int hd), .val (.int dp), .val (.int (q5 &&& (3 : Int32))), .val (.int v0_19), .val (.int kk), .val (.long v0_71), .second, .val (.int v1_71), .val (.int v2_71), .val (.int v3_71), .val (.long v4_71), .second, .val (.int v5_71), .val (.long v6_71), .second, .val (.int v7_71), .val (.ref b1), .unset, .unset] [(.ref b4), (.ref b4)])) _
      refine XS.lload X4.here hx rfl (hb hby at_303) rfl ?_
      show Steps p.tables e below (T4.setTop (mkF m 305 #[.val (.long q0), .second, .val (.long q1), .second, .val (.long q2), .second, .val (.long q3), .second, .val (.long q4), .second, .val (.int q5), .val (.int hd), .val (.int dp), .val (.int (q5 &&& (3 : Int32))), .val (.int v0_19), .val (.int kk), .val (.long v0_71), .second, .val (.int v1_71), .val (.int v2_71), .val (.int v3_71), .val (.long v4_71), .second, .val (.int v5_71), .val (.long v6_71), .second, .val (.int v7_71), .val (.ref b1), .unset, .unset] [(.long v0_71), (.ref b4), (.ref b4)])) _
      refine XS.iload X4.here hx rfl (hb hby at_305) rfl ?_
      show Steps p.tables e below (T4.setTop (mkF m 307 #[.val (.long q0), .second, .val (.long q1), .second, .val (.long q2), .second, .val (.long q3), .second, .val (.long q4), .second, .val (.int q5), .val (.int hd), .val (.int dp), .val (.int (q5 &&& (3 : Int32))), .val (.int v0_19), .val (.int kk), .val (.long v0_71), .second, .val (.int v1_71), .val (.int v2_71), .val (.int v3_71), .val (.long v4_71), .second, .val (.int v5_71), .val (.long v6_71), .second, .val (.int v7_71), .val (.ref b1), .unset, .unset] [(.int v1_71), (.long v0_71), (.ref b4), (.ref b4)])) _
      refine XS.iload X4.here hx rfl (hb hby at_307) rfl ?_
      show Steps p.tables e below (T4.setTop (mkF m 309 #[.val (.long q0), .second, .val (.long q1), .second, .val (.long q2), .second, .val (.long q3), .second, .val (.long q4), .second, .val (.int q5), .val (.int hd), .val (.int dp), .val (.int (q5 &&& (3 : Int32))), .val (.int v0_19), .val (.int kk), .val (.long v0_71), .second, .val (.int v1_71), .val (.int v2_71), .val (.int v3_71), .val (.long v4_71), .second, .val (.int v5_71), .val (.long v6_71), .second, .val (.int v7_71), .val (.ref b1), .unset, .unset] [(.int v2_71), (.int v1_71), (.long v0_71), (.ref b4), (.ref b4)])) _
      refine XS.iload X4.here hx rfl (hb hby at_309) rfl ?_
      show Steps p.tables e below (T4.setTop (mkF m 311 #[.val (.long q0), .second, .val (.long q1), .second, .val (.long q2), .second, .val (.long q3), .second, .val (.long q4), .second, .val (.int q5), .val (.int hd), .val (.int dp), .val (.int (q5 &&& (3 : Int32))), .val (.int v0_19), .val (.int kk), .val (.long v0_71), .second, .val (.int v1_71), .val (.int v2_71), .val (.int v3_71), .val (.long v4_71), .second, .val (.int v5_71), .val (.long v6_71), .second, .val (.int v7_71), .val (.ref b1), .unset, .unset] [(.int v3_71), (.int v2_71), (.int v1_71), (.long v0_71), (.ref b4), (.ref b4)])) _
      refine st5 _ ?_
      show Steps p.tables e below (T5.setTop (mkF m 314 #[.val (.long q0), .second, .val (.long q1), .second, .val (.long q2), .second, .val (.long q3), .second, .val (.long q4), .second, .val (.int q5), .val (.int hd), .val (.int dp), .val (.int (q5 &&& (3 : Int32))), .val (.int v0_19), .val (.int kk), .val (.long v0_71), .second, .val (.int v1_71), .val (.int v2_71), .val (.int v3_71), .val (.long v4_71), .second, .val (.int v5_71), .val (.long v6_71), .second, .val (.int v7_71), .val (.ref b1), .unset, .unset] [(.ref (own_cls v3_71 wU wA wC wP)), (.int v2_71), (.int v1_71), (.long v0_71), (.ref b4), (.ref b4)])) _
      refine XS.lload X5.here hx rfl (hb hby at_314) rfl ?_
      show Steps p.tables e below (T5.setTop (mkF m 316 #[.val (.long q0), .second, .val (.long q1), .second, .val (.long q2), .second, .val (.long q3), .second, .val (.long q4), .second, .val (.int q5), .val (.int hd), .val (.int dp), .val (.int (q5 &&& (3 : Int32))), .val (.int v0_19), .val (.int kk), .val (.long v0_71), .second, .val (.int v1_71), .val (.int v2_71), .val (.int v3_71), .val (.long v4_71), .second, .val (.int v5_71), .val (.long v6_71), .second, .val (.int v7_71), .val (.ref b1), .unset, .unset] [(.long v4_71), (.ref (own_cls v3_71 wU wA wC wP)), (.int v2_71), (.int v1_71), (.long v0_71), (.ref b4), (.ref b4)])) _
      refine XS.iload X5.here hx rfl (hb hby at_316) rfl ?_
      show Steps p.tables e below (T5.setTop (mkF m 318 #[.val (.long q0), .second, .val (.long q1), .second, .val (.long q2), .second, .val (.long q3), .second, .val (.long q4), .second, .val (.int q5), .val (.int hd), .val (.int dp), .val (.int (q5 &&& (3 : Int32))), .val (.int v0_19), .val (.int kk), .val (.long v0_71), .second, .val (.int v1_71), .val (.int v2_71), .val (.int v3_71), .val (.long v4_71), .second, .val (.int v5_71), .val (.long v6_71), .second, .val (.int v7_71), .val (.ref b1), .unset, .unset] [(.int v5_71), (.long v4_71), (.ref (own_cls v3_71 wU wA wC wP)), (.int v2_71), (.int v1_71), (.long v0_71), (.ref b4), (.ref b4)])) _
      refine XS.lload X5.here hx rfl (hb hby at_318) rfl ?_
      show Steps p.tables e below (T5.setTop (mkF m 320 #[.val (.long q0), .second, .val (.long q1), .second, .val (.long q2), .second, .val (.long q3), .second, .val (.long q4), .second, .val (.int q5), .val (.int hd), .val (.int dp), .val (.int (q5 &&& (3 : Int32))), .val (.int v0_19), .val (.int kk), .val (.long v0_71), .second, .val (.int v1_71), .val (.int v2_71), .val (.int v3_71), .val (.long v4_71), .second, .val (.int v5_71), .val (.long v6_71), .second, .val (.int v7_71), .val (.ref b1), .unset, .unset] [(.long v6_71), (.int v5_71), (.long v4_71), (.ref (own_cls v3_71 wU wA wC wP)), (.int v2_71), (.int v1_71), (.long v0_71), (.ref b4), (.ref b4)])) _
      refine st7.trans ?_
      show Steps p.tables e below (T7.setTop (mkF m 323 #[.val (.long q0), .second, .val (.long q1), .second, .val (.long q2), .second, .val (.long q3), .second, .val (.long q4), .second, .val (.int q5), .val (.int hd), .val (.int dp), .val (.int (q5 &&& (3 : Int32))), .val (.int v0_19), .val (.int kk), .val (.long v0_71), .second, .val (.int v1_71), .val (.int v2_71), .val (.int v3_71), .val (.long v4_71), .second, .val (.int v5_71), .val (.long v6_71), .second, .val (.int v7_71), .val (.ref b1), .unset, .unset] [(.ref b4)])) _
      refine XS.astore X7.here hx rfl (hb hby at_323) rfl rfl (l' := #[.val (.long q0), .second, .val (.long q1), .second, .val (.long q2), .second, .val (.long q3), .second, .val (.long q4), .second, .val (.int q5), .val (.int hd), .val (.int dp), .val (.int (q5 &&& (3 : Int32))), .val (.int v0_19), .val (.int kk), .val (.long v0_71), .second, .val (.int v1_71), .val (.int v2_71), .val (.int v3_71), .val (.long v4_71), .second, .val (.int v5_71), .val (.long v6_71), .second, .val (.int v7_71), .val (.ref b1), .val (.ref b4), .unset]) rfl ?_
      show Steps p.tables e below (T7.setTop (mkF m 325 #[.val (.long q0), .second, .val (.long q1), .second, .val (.long q2), .second, .val (.long q3), .second, .val (.long q4), .second, .val (.int q5), .val (.int hd), .val (.int dp), .val (.int (q5 &&& (3 : Int32))), .val (.int v0_19), .val (.int kk), .val (.long v0_71), .second, .val (.int v1_71), .val (.int v2_71), .val (.int v3_71), .val (.long v4_71), .second, .val (.int v5_71), .val (.long v6_71), .second, .val (.int v7_71), .val (.ref b1), .val (.ref b4), .unset] [])) _
      refine XS.aload X7.here hx rfl (hb hby at_325) rfl rfl ?_
      show Steps p.tables e below (T7.setTop (mkF m 327 #[.val (.long q0), .second, .val (.long q1), .second, .val (.long q2), .second, .val (.long q3), .second, .val (.long q4), .second, .val (.int q5), .val (.int hd), .val (.int dp), .val (.int (q5 &&& (3 : Int32))), .val (.int v0_19), .val (.int kk), .val (.long v0_71), .second, .val (.int v1_71), .val (.int v2_71), .val (.int v3_71), .val (.long v4_71), .second, .val (.int v5_71), .val (.long v6_71), .second, .val (.int v7_71), .val (.ref b1), .val (.ref b4), .unset] [(.ref b1)])) _
      refine XS.aload X7.here hx rfl (hb hby at_327) rfl rfl ?_
      show Steps p.tables e below (T7.setTop (mkF m 329 #[.val (.long q0), .second, .val (.long q1), .second, .val (.long q2), .second, .val (.long q3), .second, .val (.long q4), .second, .val (.int q5), .val (.int hd), .val (.int dp), .val (.int (q5 &&& (3 : Int32))), .val (.int v0_19), .val (.int kk), .val (.long v0_71), .second, .val (.int v1_71), .val (.int v2_71), .val (.int v3_71), .val (.long v4_71), .second, .val (.int v5_71), .val (.long v6_71), .second, .val (.int v7_71), .val (.ref b1), .val (.ref b4), .unset] [(.ref b1), (.ref b1)])) _
      refine st8.trans ?_
      show Steps p.tables e below (T8.setTop (mkF m 332 #[.val (.long q0), .second, .val (.long q1), .second, .val (.long q2), .second, .val (.long q3), .second, .val (.long q4), .second, .val (.int q5), .val (.int hd), .val (.int dp), .val (.int (q5 &&& (3 : Int32))), .val (.int v0_19), .val (.int kk), .val (.long v0_71), .second, .val (.int v1_71), .val (.int v2_71), .val (.int v3_71), .val (.long v4_71), .second, .val (.int v5_71), .val (.long v6_71), .second, .val (.int v7_71), .val (.ref b1), .val (.ref b4), .unset] [(.int (own_eq q0 hd dp (own_cls (q5 &&& (3 : Int32)) wU wA wC wP) q1 (nar .boolean v0_19) q2 q0 hd dp (own_cls (q5 &&& (3 : Int32)) wU wA wC wP) q1 (nar .boolean v0_19) q2))])) _
      refine XS.ifNo X8.here hx rfl (hb hby at_332) rfl ((if0 _ _).trans (feq (own_eq_refl _ _ _ _ _ _ _)).1) ?_
      show Steps p.tables e below (T8.setTop (mkF m 335 #[.val (.long q0), .second, .val (.long q1), .second, .val (.long q2), .second, .val (.long q3), .second, .val (.long q4), .second, .val (.int q5), .val (.int hd), .val (.int dp), .val (.int (q5 &&& (3 : Int32))), .val (.int v0_19), .val (.int kk), .val (.long v0_71), .second, .val (.int v1_71), .val (.int v2_71), .val (.int v3_71), .val (.long v4_71), .second, .val (.int v5_71), .val (.long v6_71), .second, .val (.int v7_71), .val (.ref b1), .val (.ref b4), .unset] [])) _
      refine XS.aload X8.here hx rfl (hb hby at_335) rfl rfl ?_
      show Steps p.tables e below (T8.setTop (mkF m 337 #[.val (.long q0), .second, .val (.long q1), .second, .val (.long q2), .second, .val (.long q3), .second, .val (.long q4), .second, .val (.int q5), .val (.int hd), .val (.int dp), .val (.int (q5 &&& (3 : Int32))), .val (.int v0_19), .val (.int kk), .val (.long v0_71), .second, .val (.int v1_71), .val (.int v2_71), .val (.int v3_71), .val (.long v4_71), .second, .val (.int v5_71), .val (.long v6_71), .second, .val (.int v7_71), .val (.ref b1), .val (.ref b4), .unset] [(.ref b1)])) _
      refine XS.aload X8.here hx rfl (hb hby at_337) rfl rfl ?_
      show Steps p.tables e below (T8.setTop (mkF m 339 #[.val (.long q0), .second, .val (.long q1), .second, .val (.long q2), .second, .val (.long q3), .second, .val (.long q4), .second, .val (.int q5), .val (.int hd), .val (.int dp), .val (.int (q5 &&& (3 : Int32))), .val (.int v0_19), .val (.int kk), .val (.long v0_71), .second, .val (.int v1_71), .val (.int v2_71), .val (.int v3_71), .val (.long v4_71), .second, .val (.int v5_71), .val (.long v6_71), .second, .val (.int v7_71), .val (.ref b1), .val (.ref b4), .unset] [(.ref b4), (.ref b1)])) _
      refine st9.trans ?_
      show Steps p.tables e below (T9.setTop (mkF m 342 #[.val (.long q0), .second, .val (.long q1), .second, .val (.long q2), .second, .val (.long q3), .second, .val (.long q4), .second, .val (.int q5), .val (.int hd), .val (.int dp), .val (.int (q5 &&& (3 : Int32))), .val (.int v0_19), .val (.int kk), .val (.long v0_71), .second, .val (.int v1_71), .val (.int v2_71), .val (.int v3_71), .val (.long v4_71), .second, .val (.int v5_71), .val (.long v6_71), .second, .val (.int v7_71), .val (.ref b1), .val (.ref b4), .unset] [(.int (own_eq q0 hd dp (own_cls (q5 &&& (3 : Int32)) wU wA wC wP) q1 (nar .boolean v0_19) q2 v0_71 v1_71 v2_71 (own_cls v3_71 wU wA wC wP) v4_71 (nar .boolean v5_71) v6_71))])) _
      refine XS.iload X9.here hx rfl (hb hby at_342) rfl ?_
      show Steps p.tables e below (T9.setTop (mkF m 344 #[.val (.long q0), .second, .val (.long q1), .second, .val (.long q2), .second, .val (.long q3), .second, .val (.long q4), .second, .val (.int q5), .val (.int hd), .val (.int dp), .val (.int (q5 &&& (3 : Int32))), .val (.int v0_19), .val (.int kk), .val (.long v0_71), .second, .val (.int v1_71), .val (.int v2_71), .val (.int v3_71), .val (.long v4_71), .second, .val (.int v5_71), .val (.long v6_71), .second, .val (.int v7_71), .val (.ref b1), .val (.ref b4), .unset] [(.int v7_71), (.int (own_eq q0 hd dp (own_cls (q5 &&& (3 : Int32)) wU wA wC wP) q1 (nar .boolean v0_19) q2 v0_71 v1_71 v2_71 (own_cls v3_71 wU wA wC wP) v4_71 (nar .boolean v5_71) v6_71))])) _
      refine XS.icmpNo X9.here hx rfl (hb hby at_344) rfl (teq (own_law nUA nUC nUP nAC nAP nCP hv0_19 hv0_71 hv1_71 hv2_71 hv3_71 hv4_71 hv5_71 hv6_71 hv7_71)).2 ?_
      show Steps p.tables e below (T9.setTop (mkF m 347 #[.val (.long q0), .second, .val (.long q1), .second, .val (.long q2), .second, .val (.long q3), .second, .val (.long q4), .second, .val (.int q5), .val (.int hd), .val (.int dp), .val (.int (q5 &&& (3 : Int32))), .val (.int v0_19), .val (.int kk), .val (.long v0_71), .second, .val (.int v1_71), .val (.int v2_71), .val (.int v3_71), .val (.long v4_71), .second, .val (.int v5_71), .val (.long v6_71), .second, .val (.int v7_71), .val (.ref b1), .val (.ref b4), .unset] [])) _
      refine XS.aload X9.here hx rfl (hb hby at_347) rfl rfl ?_
      show Steps p.tables e below (T9.setTop (mkF m 349 #[.val (.long q0), .second, .val (.long q1), .second, .val (.long q2), .second, .val (.long q3), .second, .val (.long q4), .second, .val (.int q5), .val (.int hd), .val (.int dp), .val (.int (q5 &&& (3 : Int32))), .val (.int v0_19), .val (.int kk), .val (.long v0_71), .second, .val (.int v1_71), .val (.int v2_71), .val (.int v3_71), .val (.long v4_71), .second, .val (.int v5_71), .val (.long v6_71), .second, .val (.int v7_71), .val (.ref b1), .val (.ref b4), .unset] [(.ref b4)])) _
      refine XS.aload X9.here hx rfl (hb hby at_349) rfl rfl ?_
      show Steps p.tables e below (T9.setTop (mkF m 351 #[.val (.long q0), .second, .val (.long q1), .second, .val (.long q2), .second, .val (.long q3), .second, .val (.long q4), .second, .val (.int q5), .val (.int hd), .val (.int dp), .val (.int (q5 &&& (3 : Int32))), .val (.int v0_19), .val (.int kk), .val (.long v0_71), .second, .val (.int v1_71), .val (.int v2_71), .val (.int v3_71), .val (.long v4_71), .second, .val (.int v5_71), .val (.long v6_71), .second, .val (.int v7_71), .val (.ref b1), .val (.ref b4), .unset] [(.ref b1), (.ref b4)])) _
      refine st10.trans ?_
      show Steps p.tables e below (T10.setTop (mkF m 354 #[.val (.long q0), .second, .val (.long q1), .second, .val (.long q2), .second, .val (.long q3), .second, .val (.long q4), .second, .val (.int q5), .val (.int hd), .val (.int dp), .val (.int (q5 &&& (3 : Int32))), .val (.int v0_19), .val (.int kk), .val (.long v0_71), .second, .val (.int v1_71), .val (.int v2_71), .val (.int v3_71), .val (.long v4_71), .second, .val (.int v5_71), .val (.long v6_71), .second, .val (.int v7_71), .val (.ref b1), .val (.ref b4), .unset] [(.int (own_eq v0_71 v1_71 v2_71 (own_cls v3_71 wU wA wC wP) v4_71 (nar .boolean v5_71) v6_71 q0 hd dp (own_cls (q5 &&& (3 : Int32)) wU wA wC wP) q1 (nar .boolean v0_19) q2))])) _
      refine XS.iload X10.here hx rfl (hb hby at_354) rfl ?_
      show Steps p.tables e below (T10.setTop (mkF m 356 #[.val (.long q0), .second, .val (.long q1), .second, .val (.long q2), .second, .val (.long q3), .second, .val (.long q4), .second, .val (.int q5), .val (.int hd), .val (.int dp), .val (.int (q5 &&& (3 : Int32))), .val (.int v0_19), .val (.int kk), .val (.long v0_71), .second, .val (.int v1_71), .val (.int v2_71), .val (.int v3_71), .val (.long v4_71), .second, .val (.int v5_71), .val (.long v6_71), .second, .val (.int v7_71), .val (.ref b1), .val (.ref b4), .unset] [(.int v7_71), (.int (own_eq v0_71 v1_71 v2_71 (own_cls v3_71 wU wA wC wP) v4_71 (nar .boolean v5_71) v6_71 q0 hd dp (own_cls (q5 &&& (3 : Int32)) wU wA wC wP) q1 (nar .boolean v0_19) q2))])) _
      refine XS.icmpNo X10.here hx rfl (hb hby at_356) rfl (teq ((own_eq_symm _ _ _ _ _ _ _ _ _ _ _ _ _ _).trans (own_law nUA nUC nUP nAC nAP nCP hv0_19 hv0_71 hv1_71 hv2_71 hv3_71 hv4_71 hv5_71 hv6_71 hv7_71))).2 ?_
      show Steps p.tables e below (T10.setTop (mkF m 359 #[.val (.long q0), .second, .val (.long q1), .second, .val (.long q2), .second, .val (.long q3), .second, .val (.long q4), .second, .val (.int q5), .val (.int hd), .val (.int dp), .val (.int (q5 &&& (3 : Int32))), .val (.int v0_19), .val (.int kk), .val (.long v0_71), .second, .val (.int v1_71), .val (.int v2_71), .val (.int v3_71), .val (.long v4_71), .second, .val (.int v5_71), .val (.long v6_71), .second, .val (.int v7_71), .val (.ref b1), .val (.ref b4), .unset] [])) _
      refine XS.iconst X10.here hx rfl (hb hby at_359) ?_
      show Steps p.tables e below (T10.setTop (mkF m 360 #[.val (.long q0), .second, .val (.long q1), .second, .val (.long q2), .second, .val (.long q3), .second, .val (.long q4), .second, .val (.int q5), .val (.int hd), .val (.int dp), .val (.int (q5 &&& (3 : Int32))), .val (.int v0_19), .val (.int kk), .val (.long v0_71), .second, .val (.int v1_71), .val (.int v2_71), .val (.int v3_71), .val (.long v4_71), .second, .val (.int v5_71), .val (.long v6_71), .second, .val (.int v7_71), .val (.ref b1), .val (.ref b4), .unset] [(.int (1 : Int32))])) _
      refine XS.goto X10.here hx rfl (pc0 := 360) (pc' := 364) rfl (hb hby at_360) (by decide) (by decide) ?_
      show Steps p.tables e below (T10.setTop (mkF m 364 #[.val (.long q0), .second, .val (.long q1), .second, .val (.long q2), .second, .val (.long q3), .second, .val (.long q4), .second, .val (.int q5), .val (.int hd), .val (.int dp), .val (.int (q5 &&& (3 : Int32))), .val (.int v0_19), .val (.int kk), .val (.long v0_71), .second, .val (.int v1_71), .val (.int v2_71), .val (.int v3_71), .val (.long v4_71), .second, .val (.int v5_71), .val (.long v6_71), .second, .val (.int v7_71), .val (.ref b1), .val (.ref b4), .unset] [(.int (1 : Int32))])) _
      refine XS.istore X10.here hx rfl (hb hby at_364) rfl (l' := #[.val (.long q0), .second, .val (.long q1), .second, .val (.long q2), .second, .val (.long q3), .second, .val (.long q4), .second, .val (.int q5), .val (.int hd), .val (.int dp), .val (.int (q5 &&& (3 : Int32))), .val (.int v0_19), .val (.int kk), .val (.long v0_71), .second, .val (.int v1_71), .val (.int v2_71), .val (.int v3_71), .val (.long v4_71), .second, .val (.int v5_71), .val (.long v6_71), .second, .val (.int v7_71), .val (.ref b1), .val (.ref b4), .val (.int (1 : Int32))]) rfl ?_
      show Steps p.tables e below (T10.setTop (mkF m 366 #[.val (.long q0), .second, .val (.long q1), .second, .val (.long q2), .second, .val (.long q3), .second, .val (.long q4), .second, .val (.int q5), .val (.int hd), .val (.int dp), .val (.int (q5 &&& (3 : Int32))), .val (.int v0_19), .val (.int kk), .val (.long v0_71), .second, .val (.int v1_71), .val (.int v2_71), .val (.int v3_71), .val (.long v4_71), .second, .val (.int v5_71), .val (.long v6_71), .second, .val (.int v7_71), .val (.ref b1), .val (.ref b4), .val (.int (1 : Int32))] [])) _
      refine XS.iload X10.here hx rfl (hb hby at_366) rfl ?_
      show Steps p.tables e below (T10.setTop (mkF m 368 #[.val (.long q0), .second, .val (.long q1), .second, .val (.long q2), .second, .val (.long q3), .second, .val (.long q4), .second, .val (.int q5), .val (.int hd), .val (.int dp), .val (.int (q5 &&& (3 : Int32))), .val (.int v0_19), .val (.int kk), .val (.long v0_71), .second, .val (.int v1_71), .val (.int v2_71), .val (.int v3_71), .val (.long v4_71), .second, .val (.int v5_71), .val (.long v6_71), .second, .val (.int v7_71), .val (.ref b1), .val (.ref b4), .val (.int (1 : Int32))] [(.int kk)])) _
      refine XS.bipush X10.here hx rfl (hb hby at_368) ?_
      show Steps p.tables e below (T10.setTop (mkF m 370 #[.val (.long q0), .second, .val (.long q1), .second, .val (.long q2), .second, .val (.long q3), .second, .val (.long q4), .second, .val (.int q5), .val (.int hd), .val (.int dp), .val (.int (q5 &&& (3 : Int32))), .val (.int v0_19), .val (.int kk), .val (.long v0_71), .second, .val (.int v1_71), .val (.int v2_71), .val (.int v3_71), .val (.long v4_71), .second, .val (.int v5_71), .val (.long v6_71), .second, .val (.int v7_71), .val (.ref b1), .val (.ref b4), .val (.int (1 : Int32))] [(.int (8 : Int32)), (.int kk)])) _
      refine XS.icmpYes X10.here hx rfl (pc0 := 370) (pc' := 406) rfl (hb hby at_370) rfl (feq hc370).2 (by decide) (by decide) ?_
      show Steps p.tables e below (T10.setTop (mkF m 406 #[.val (.long q0), .second, .val (.long q1), .second, .val (.long q2), .second, .val (.long q3), .second, .val (.long q4), .second, .val (.int q5), .val (.int hd), .val (.int dp), .val (.int (q5 &&& (3 : Int32))), .val (.int v0_19), .val (.int kk), .val (.long v0_71), .second, .val (.int v1_71), .val (.int v2_71), .val (.int v3_71), .val (.long v4_71), .second, .val (.int v5_71), .val (.long v6_71), .second, .val (.int v7_71), .val (.ref b1), .val (.ref b4), .val (.int (1 : Int32))] [])) _
      refine XS.iload X10.here hx rfl (hb hby at_406) rfl ?_
      show Steps p.tables e below (T10.setTop (mkF m 408 #[.val (.long q0), .second, .val (.long q1), .second, .val (.long q2), .second, .val (.long q3), .second, .val (.long q4), .second, .val (.int q5), .val (.int hd), .val (.int dp), .val (.int (q5 &&& (3 : Int32))), .val (.int v0_19), .val (.int kk), .val (.long v0_71), .second, .val (.int v1_71), .val (.int v2_71), .val (.int v3_71), .val (.long v4_71), .second, .val (.int v5_71), .val (.long v6_71), .second, .val (.int v7_71), .val (.ref b1), .val (.ref b4), .val (.int (1 : Int32))] [(.int (1 : Int32))])) _
      exact retN X10 hx (t := .boolean) Bd.returns (by simp) (hb hby at_408) hr
    · show Q0 h0 n0 _ T10.heap _
      rw [e10]
      exact ⟨rfl, N10⟩
set_option maxRecDepth 65536 in
set_option maxHeartbeats 40000000 in
theorem comes_1 {Post : Tables → Env → Array Value → State → Outcome → State → Prop} (hpost : ∀ tb e args s v u, (limb_1_1.after args s (.returned v) u = true ∧ limb_1_2.after args s (.returned v) u = true ∧ True) → FrameEnd s (.returned v) u (Jvm.fieldLocs frame_1_writes args s ++ Jvm.arrayLocs frame_1_arrays args s ++ Jvm.staticLocs frame_1_statics s) 16 128 → Post tb e args s (.returned v) u) :
    ArmFor flags0 classFile x code maxLocals ret World_1 tables_1 room_1 Calls_1 rest_1 Pre_1 Post := by
  intro l hfl _ _ p e ha hc hk s m args below hf hA hF happ hP
  obtain ⟨hcalls, hrest, hpre⟩ := hP
  obtain ⟨-, -, -, hnamed, -, -, -, hat⟩ := (Spec.applies_iff hf).mp happ
  obtain ⟨hg, hn⟩ := and_e (Cond.before_iff.mp (show (Jvm.Cond.and given_1 narrow_1).before args s = true from hpre))
  obtain ⟨g1, g2⟩ := and_e hg
  obtain ⟨g3, g4⟩ := and_e g2
  obtain ⟨g5, g6⟩ := and_e g4
  obtain ⟨g7, g8⟩ := and_e g6
  obtain ⟨g9, g10⟩ := and_e g8
  obtain ⟨g11, g12⟩ := and_e g10
  obtain ⟨w0, w1, w2, w3, w4, w5, rfl⟩ : ∃ w0 w1 w2 w3 w4 w5 : Value, args = #[w0, w1, w2, w3, w4, w5] := by
    have hs : args.size = 6 := by simpa [Cond.value, given_1] using g1
    obtain ⟨L⟩ := args
    match L, hs with
    | [w0, w1, w2, w3, w4, w5], _ => exact ⟨w0, w1, w2, w3, w4, w5, rfl⟩
  have hw := fun d (hd : d ∈ tables_1) => atoms_spec (ws := Jvm.Cond.code x code maxLocals ret :: tables_1) hat d (List.mem_cons_of_mem _ hd)
  obtain ⟨i0, ei0⟩ := isL_v g3
  obtain rfl : w0 = (.long i0) := Option.some.inj ei0
  obtain ⟨i1, ei1⟩ := isL_v g5
  obtain rfl : w1 = (.long i1) := Option.some.inj ei1
  obtain ⟨i2, ei2⟩ := isL_v g7
  obtain rfl : w2 = (.long i2) := Option.some.inj ei2
  obtain ⟨i3, ei3⟩ := isL_v g9
  obtain rfl : w3 = (.long i3) := Option.some.inj ei3
  obtain ⟨i4, ei4⟩ := isL_v g11
  obtain rfl : w4 = (.long i4) := Option.some.inj ei4
  obtain ⟨i5, ei5⟩ := is_v g12
  obtain rfl : w5 = (.int i5) := Option.some.inj ei5
  obtain ⟨hsets, hown0⟩ := atoms_of _ (rest_1_c_eq ▸ (show rest_1_c.before _ s = true from hrest))
  have hr0 := Cond.before_iff.mp hown0
  obtain ⟨y1, z1⟩ := and_e hn
  obtain ⟨y2, z2⟩ := and_e z1
  obtain ⟨y3, z3⟩ := and_e z2
  obtain ⟨y4, z4⟩ := and_e z3
  obtain ⟨y5, z5⟩ := and_e z4
  obtain ⟨y6, z6⟩ := and_e z5
  obtain ⟨y7, z7⟩ := and_e z6
  obtain ⟨wU, evwU⟩ := exa_v y2
  have SwU := Sta.start evwU (Or.inr ⟨(hw _ (List.mem_of_getElem? (i := 8) rfl)), (hw _ (List.mem_of_getElem? (i := 38) rfl))⟩)
  have owU := own_ord evwU y7
  obtain ⟨wA, evwA⟩ := exa_v y4
  have SwA := Sta.start evwA (Or.inr ⟨(hw _ (List.mem_of_getElem? (i := 8) rfl)), (hw _ (List.mem_of_getElem? (i := 42) rfl))⟩)
  have owA := own_ord evwA z7
  obtain ⟨wC, evwC⟩ := exa_v y1
  have SwC := Sta.start evwC (Or.inr ⟨(hw _ (List.mem_of_getElem? (i := 8) rfl)), (hw _ (List.mem_of_getElem? (i := 9) rfl))⟩)
  have owC := own_ord evwC y5
  obtain ⟨wP, evwP⟩ := exa_v y3
  have SwP := Sta.start evwP (Or.inr ⟨(hw _ (List.mem_of_getElem? (i := 8) rfl)), (hw _ (List.mem_of_getElem? (i := 40) rfl))⟩)
  have owP := own_ord evwP y6
  have hCC : own_cache s := own_cache_of (hsets _ (List.mem_of_getElem? (i := 0) rfl)) (hsets _ (List.mem_of_getElem? (i := 1) rfl)) (hsets _ (List.mem_of_getElem? (i := 2) rfl)) (hsets _ (List.mem_of_getElem? (i := 4) rfl)) (hsets _ (List.mem_of_getElem? (i := 5) rfl))
  obtain ⟨n, o, h1, h2, h3, _, L, rfl, ⟨rfl, N⟩, hq⟩ := rm0 l s _ hw tables_1 i0 i1 i2 i3 i4 i5 wU wA wC wP s.heap s.heap.size (Nat.le_refl _) (Old.start s) hCC SwU SwA SwC SwP (own_far owU owA (by decide)) (own_far owU owC (by decide)) (own_far owU owP (by decide)) (own_far owA owC (by decide)) (own_far owA owP (by decide)) (own_far owC owP (by decide)) p e ha hc hk s m _ below hf ((Spec.applies_iff_loose hf).mp happ).1 ⟨rfl, State.Warmed39.refl s, rfl⟩ trivial
  refine ⟨n, _, h1, h2, h3, hpost _ _ _ _ _ _ ⟨Cond.after_iff.mpr rfl, Cond.after_iff.mpr (eq_i res_at (Term.int_eval (1)) rfl), trivial⟩ ⟨hq.1, hq.2.1, (hq.2.2.sift fun y hy => Or.inr (N y hy)).mono (by decide) (by decide)⟩⟩
theorem main_1_1 : Claimed_1_1 := comes_1 fun _ _ _ _ _ _ h hF => ⟨h.1, hF⟩
theorem main_1_2 : Claimed_1_2 := comes_1 fun _ _ _ _ _ _ h hF => ⟨h.2.1, hF⟩

end Jvm.Pilot.@@N@@
namespace Jvm.Pilot.@@N@@
open Jvm Jvm.ClassFile Sem Op Lib Jvm.Free Jvm.Stand Jvm.Pilot.@@N@@.Jvm.D
/-! MADE BY PROGRAM (witnessworld.py) out of the Statement's table words and the real class files: 18 classes; the members and pool entries that the words name. The judged class is class 1, her method 2. -/
namespace start1
open Jvm.ClassFile
def u (s : String) : CpInfo := .utf8 (stringToUtf16 s)
/-- a pool by its gaps: so many unusable entries, then the entry; so many at the end -/
def gap : Nat → List CpInfo → List CpInfo
  | 0, r => r
  | n + 1, r => .unusable :: gap n r
def poolList (es : List (Nat × CpInfo)) (last : Nat) : List CpInfo := es.foldr (fun e r => gap e.1 (e.2 :: r)) (gap last [])
def pool (es : List (Nat × CpInfo)) (last : Nat) : Array CpInfo := ⟨poolList es last⟩
def fileOf (pool : Array CpInfo) (this : Nat) (attrs : Array Attribute := #[]) (ms : Array MethodInfo := #[]) (fl : Nat := 33) (sup : Nat := 0) (ifs : Array Nat := #[]) (fds : Array FieldInfo := #[]) : ClassFile where
  minorVersion := 0
  majorVersion := 65
  constantPool := pool
  accessFlags := fl
  thisClass := this
  superClass := sup
  interfaces := ifs
  fields := fds
  methods := ms
  attributes := attrs
def plain (name : String) (sup : Option ClassId) : Class where
  name := name
  kind := .ordinary
  loader := none
  accessFlags := 33
  super := sup
  interfaces := #[]
  cf := none
  fields := #[]
  methods := #[]
  instanceTypes := #[]
  staticTypes := #[]
  resolved := #[]
  callSites := []
  init := .initialized
  statics := none
  mirror := none

def pool0 : Array CpInfo := pool [(5, u "<init>"), (0, u "()V"), (1, .class_ 10), (1, u "java/lang/Object")] 113

def k0c0 : Code := { maxStack := 0, maxLocals := 1, code := object_method_1_code, exceptionTable := #[], attributes := #[] }
def k0m0 : Method := { name := "<init>", desc := "()V", sig := { parameters := [], returnType := none }, accessFlags := 1, code := some k0c0 }
/-- java/lang/Object -/
def k0 : Class := { plain "java/lang/Object" none with
  accessFlags := 33
  interfaces := #[]
  cf := some (fileOf pool0 8 #[] #[{ accessFlags := 1, nameIndex := 5, descriptorIndex := 6, attributes := #[] }] 33 0 #[] #[])
  fields := #[]
  methods := #[k0m0]
  instanceTypes := #[]
  staticTypes := #[]
  resolved := Array.replicate 124 none
  statics := none }

def pool1 : Array CpInfo := pool [(2, .class_ 4), (1, u "java/lang/Object"), (0, u "<init>"), (0, u "()V"), (0, .fieldref 8 9), (0, .class_ 10), (0, .nameAndType 11 12), (0, u "com/example/tagloom/tagloom/tlv/TagClass"), (0, u "UNIVERSAL"), (0, u "Lcom/example/tagloom/tagloom/tlv/TagClass;"), (0, .fieldref 8 14), (0, .nameAndType 15 12), (0, u "APPLICATION"), (0, .fieldref 8 17), (0, .nameAndType 18 12), (0, u "CONTEXT_SPECIFIC"), (0, .fieldref 8 20), (0, .nameAndType 21 12), (0, u "PRIVATE"), (0, .class_ 23), (0, u "com/example/tagloom/tagloom/tlv/Element"), (0, .methodref 25 26), (0, .class_ 27), (0, .nameAndType 28 29), (0, u "com/example/tagloom/tagloom/tlv/ElementEqualsPinLaw"), (0, u "cls"), (0, u "(I)Lcom/example/tagloom/tagloom/tlv/TagClass;"), (0, .methodref 22 31), (0, .nameAndType 5 32), (0, u "(JIILcom/example/tagloom/tagloom/tlv/TagClass;JZJ)V"), (0, .methodref 22 34), (0, .nameAndType 35 36), (0, u "equals"), (0, u "(Ljava/lang/Object;)Z"), (0, .methodref 38 39), (0, .class_ 40), (0, .nameAndType 41 42), (0, u "java/lang/Long"), (0, u "valueOf"), (0, u "(J)Ljava/lang/Long;"), (3, u "law"), (0, u "(JJJJJI)Z")] 2

def k1m0 : Method := { name := "<init>", desc := "()V", sig := { parameters := [], returnType := none }, accessFlags := 1, code := none }
def k1c1 : Code := { maxStack := 2, maxLocals := 2, code := method_2_code, exceptionTable := #[], attributes := #[] }
def k1m1 : Method := { name := "cls", desc := "(I)Lcom/example/tagloom/tagloom/tlv/TagClass;", sig := { parameters := [.int], returnType := some (.object "com/example/tagloom/tagloom/tlv/TagClass") }, accessFlags := 10, code := some k1c1 }
def k1c2 : Code := { maxStack := 12, maxLocals := 30, code := code, exceptionTable := #[], attributes := #[] }
def k1m2 : Method := { name := "law", desc := "(JJJJJI)Z", sig := { parameters := [.long, .long, .long, .long, .long, .int], returnType := some .boolean }, accessFlags := 9, code := some k1c2 }
/-- com/example/tagloom/tagloom/tlv/ElementEqualsPinLaw -/
def k1 : Class := { plain "com/example/tagloom/tagloom/tlv/ElementEqualsPinLaw" (some 0) with
  accessFlags := 49
  interfaces := #[]
  cf := some (fileOf pool1 25 #[] #[{ accessFlags := 1, nameIndex := 5, descriptorIndex := 6, attributes := #[] }, { accessFlags := 10, nameIndex := 28, descriptorIndex := 29, attributes := #[] }, { accessFlags := 9, nameIndex := 46, descriptorIndex := 47, attributes := #[] }] 49 2 #[] #[])
  fields := #[]
  methods := #[k1m0, k1m1, k1m2]
  instanceTypes := #[]
  staticTypes := #[]
  resolved := Array.replicate 50 none
  statics := none }

def pool2 : Array CpInfo := pool [(1, .methodref 2 3), (0, .class_ 4), (0, .nameAndType 5 6), (0, u "java/lang/Object"), (0, u "<init>"), (0, u "()V"), (0, .fieldref 8 9), (0, .class_ 10), (0, .nameAndType 11 12), (0, u "com/example/tagloom/tagloom/tlv/Element"), (0, u "offset"), (0, u "J"), (0, .fieldref 8 14), (0, .nameAndType 15 16), (0, u "headerLength"), (0, u "I"), (0, .fieldref 8 18), (0, .nameAndType 19 16), (0, u "depth"), (0, .fieldref 8 21), (0, .nameAndType 22 23), (0, u "tagClass"), (0, u "Lcom/example/tagloom/tagloom/tlv/TagClass;"), (0, .fieldref 8 25), (0, .nameAndType 26 12), (0, u "tagNumber"), (0, .fieldref 8 28), (0, .nameAndType 29 30), (0, u "constructed"), (0, u "Z"), (0, .fieldref 8 32), (0, .nameAndType 33 12), (0, u "length"), (13, u "INDEFINITE"), (1, u "(JIILcom/example/tagloom/tagloom/tlv/TagClass;JZJ)V"), (10, u "equals"), (0, u "(Ljava/lang/Object;)Z")] 2

def k2c0 : Code := { maxStack := 3, maxLocals := 11, code := prog_160_method_1_code, exceptionTable := #[], attributes := #[] }
def k2m0 : Method := { name := "<init>", desc := "(JIILcom/example/tagloom/tagloom/tlv/TagClass;JZJ)V", sig := { parameters := [.long, .int, .int, (.object "com/example/tagloom/tagloom/tlv/TagClass"), .long, .boolean, .long], returnType := none }, accessFlags := 0, code := some k2c0 }
def k2c1 : Code := { maxStack := 4, maxLocals := 3, code := prog_160_method_11_code, exceptionTable := #[], attributes := #[] }
def k2m1 : Method := { name := "equals", desc := "(Ljava/lang/Object;)Z", sig := { parameters := [(.object "java/lang/Object")], returnType := some .boolean }, accessFlags := 1, code := some k2c1 }
/-- com/example/tagloom/tagloom/tlv/Element -/
def k2 : Class := { plain "com/example/tagloom/tagloom/tlv/Element" (some 0) with
  accessFlags := 49
  interfaces := #[]
  cf := some (fileOf pool2 8 #[] #[{ accessFlags := 0, nameIndex := 5, descriptorIndex := 49, attributes := #[] }, { accessFlags := 1, nameIndex := 60, descriptorIndex := 61, attributes := #[] }] 49 2 #[] #[{ accessFlags := 25, nameIndex := 47, descriptorIndex := 12, attributes := #[] }, { accessFlags := 18, nameIndex := 11, descriptorIndex := 12, attributes := #[] }, { accessFlags := 18, nameIndex := 15, descriptorIndex := 16, attributes := #[] }, { accessFlags := 18, nameIndex := 19, descriptorIndex := 16, attributes := #[] }, { accessFlags := 18, nameIndex := 22, descriptorIndex := 23, attributes := #[] }, { accessFlags := 18, nameIndex := 26, descriptorIndex := 12, attributes := #[] }, { accessFlags := 18, nameIndex := 29, descriptorIndex := 30, attributes := #[] }, { accessFlags := 18, nameIndex := 33, descriptorIndex := 12, attributes := #[] }])
  fields := #[{ name := "INDEFINITE", type := .long, accessFlags := 25, slot := 0, constantValue := 0 }, { name := "offset", type := .long, accessFlags := 18, slot := 0, constantValue := 0 }, { name := "headerLength", type := .int, accessFlags := 18, slot := 1, constantValue := 0 }, { name := "depth", type := .int, accessFlags := 18, slot := 2, constantValue := 0 }, { name := "tagClass", type := (.object "com/example/tagloom/tagloom/tlv/TagClass"), accessFlags := 18, slot := 3, constantValue := 0 }, { name := "tagNumber", type := .long, accessFlags := 18, slot := 4, constantValue := 0 }, { name := "constructed", type := .boolean, accessFlags := 18, slot := 5, constantValue := 0 }, { name := "length", type := .long, accessFlags := 18, slot := 6, constantValue := 0 }]
  methods := #[k2m0, k2m1]
  instanceTypes := #[.long, .int, .int, (.object "com/example/tagloom/tagloom/tlv/TagClass"), .long, .boolean, .long]
  staticTypes := #[.long]
  resolved := Array.replicate 64 none
  statics := none }

def pool3 : Array CpInfo := pool [(1, .class_ 2), (0, u "java/lang/constant/Constable"), (0, .class_ 4), (0, u "java/lang/Object")] 6

/-- java/lang/constant/Constable -/
def k3 : Class := { plain "java/lang/constant/Constable" (some 0) with
  accessFlags := 1537
  interfaces := #[]
  cf := some (fileOf pool3 1 #[] #[] 1537 3 #[] #[])
  fields := #[]
  methods := #[]
  instanceTypes := #[]
  staticTypes := #[]
  resolved := Array.replicate 11 none
  statics := none }

def pool4 : Array CpInfo := pool [(1, .class_ 2), (0, u "java/lang/Comparable"), (0, .class_ 4), (0, u "java/lang/Object")] 7

/-- java/lang/Comparable -/
def k4 : Class := { plain "java/lang/Comparable" (some 0) with
  accessFlags := 1537
  interfaces := #[]
  cf := some (fileOf pool4 1 #[] #[] 1537 3 #[] #[])
  fields := #[]
  methods := #[]
  instanceTypes := #[]
  staticTypes := #[]
  resolved := Array.replicate 12 none
  statics := none }

def pool5 : Array CpInfo := pool [(1, .class_ 2), (0, u "java/io/Serializable"), (0, .class_ 4), (0, u "java/lang/Object")] 2

/-- java/io/Serializable -/
def k5 : Class := { plain "java/io/Serializable" (some 0) with
  accessFlags := 1537
  interfaces := #[]
  cf := some (fileOf pool5 1 #[] #[] 1537 3 #[] #[])
  fields := #[]
  methods := #[]
  instanceTypes := #[]
  staticTypes := #[]
  resolved := Array.replicate 7 none
  statics := none }

def pool6 : Array CpInfo := pool [(2, .class_ 4), (1, u "java/lang/Enum"), (0, u "name"), (0, u "Ljava/lang/String;"), (2, u "ordinal"), (0, u "I"), (1, .class_ 14), (1, u "java/lang/Object"), (4, u "hash"), (86, .class_ 108), (1, u "java/lang/Enum$EnumDesc"), (2, .class_ 112), (0, u "java/lang/constant/Constable"), (0, .class_ 114), (0, u "java/lang/Comparable"), (0, .class_ 116), (0, u "java/io/Serializable")] 87

/-- java/lang/Enum -/
def k6 : Class := { plain "java/lang/Enum" (some 0) with
  accessFlags := 1057
  interfaces := #[3, 4, 5]
  cf := some (fileOf pool6 2 #[.nestMembers #[106]] #[] 1057 12 #[111, 113, 115] #[{ accessFlags := 18, nameIndex := 5, descriptorIndex := 6, attributes := #[] }, { accessFlags := 18, nameIndex := 9, descriptorIndex := 10, attributes := #[] }, { accessFlags := 2, nameIndex := 19, descriptorIndex := 10, attributes := #[] }])
  fields := #[{ name := "name", type := (.object "java/lang/String"), accessFlags := 18, slot := 0, constantValue := 0 }, { name := "ordinal", type := .int, accessFlags := 18, slot := 1, constantValue := 0 }, { name := "hash", type := .int, accessFlags := 2, slot := 2, constantValue := 0 }]
  methods := #[]
  instanceTypes := #[(.object "java/lang/String"), .int, .int]
  staticTypes := #[]
  resolved := Array.replicate 204 none
  statics := none }

def pool7 : Array CpInfo := pool [(1, .class_ 2), (0, u "com/example/tagloom/tagloom/tlv/TagClass"), (2, u "UNIVERSAL"), (0, u "Lcom/example/tagloom/tagloom/tlv/TagClass;"), (2, u "APPLICATION"), (2, u "CONTEXT_SPECIFIC"), (2, u "PRIVATE"), (2, u "$VALUES"), (0, u "[Lcom/example/tagloom/tagloom/tlv/TagClass;"), (6, .class_ 28), (1, u "java/lang/Enum"), (8, u "BY_TOP_BITS")] 24

/-- com/example/tagloom/tagloom/tlv/TagClass -/
def k7 : Class := { plain "com/example/tagloom/tagloom/tlv/TagClass" (some 6) with
  accessFlags := 16433
  interfaces := #[]
  cf := some (fileOf pool7 1 #[] #[] 16433 26 #[] #[{ accessFlags := 16409, nameIndex := 5, descriptorIndex := 6, attributes := #[] }, { accessFlags := 16409, nameIndex := 9, descriptorIndex := 6, attributes := #[] }, { accessFlags := 16409, nameIndex := 12, descriptorIndex := 6, attributes := #[] }, { accessFlags := 16409, nameIndex := 15, descriptorIndex := 6, attributes := #[] }, { accessFlags := 26, nameIndex := 37, descriptorIndex := 19, attributes := #[] }, { accessFlags := 4122, nameIndex := 18, descriptorIndex := 19, attributes := #[] }])
  fields := #[{ name := "UNIVERSAL", type := (.object "com/example/tagloom/tagloom/tlv/TagClass"), accessFlags := 16409, slot := 0, constantValue := 0 }, { name := "APPLICATION", type := (.object "com/example/tagloom/tagloom/tlv/TagClass"), accessFlags := 16409, slot := 1, constantValue := 0 }, { name := "CONTEXT_SPECIFIC", type := (.object "com/example/tagloom/tagloom/tlv/TagClass"), accessFlags := 16409, slot := 2, constantValue := 0 }, { name := "PRIVATE", type := (.object "com/example/tagloom/tagloom/tlv/TagClass"), accessFlags := 16409, slot := 3, constantValue := 0 }, { name := "BY_TOP_BITS", type := (.array (.object "com/example/tagloom/tagloom/tlv/TagClass")), accessFlags := 26, slot := 4, constantValue := 0 }, { name := "$VALUES", type := (.array (.object "com/example/tagloom/tagloom/tlv/TagClass")), accessFlags := 4122, slot := 5, constantValue := 0 }]
  methods := #[]
  instanceTypes := #[(.object "java/lang/String"), .int, .int]
  staticTypes := #[(.object "com/example/tagloom/tagloom/tlv/TagClass"), (.object "com/example/tagloom/tagloom/tlv/TagClass"), (.object "com/example/tagloom/tagloom/tlv/TagClass"), (.object "com/example/tagloom/tagloom/tlv/TagClass"), (.array (.object "com/example/tagloom/tagloom/tlv/TagClass")), (.array (.object "com/example/tagloom/tagloom/tlv/TagClass"))]
  resolved := Array.replicate 62 none
  statics := some 0 }

def pool8 : Array CpInfo := pool [(1, .methodref 2 3), (0, .class_ 4), (0, .nameAndType 5 6), (0, u "java/lang/Object"), (0, u "<init>"), (0, u "()V"), (1, .class_ 10), (1, u "java/lang/Number"), (2, .class_ 14), (0, u "java/io/Serializable"), (0, u "serialVersionUID"), (0, u "J")] 20

def k8c0 : Code := { maxStack := 1, maxLocals := 1, code := jdk_18_method_1_code, exceptionTable := #[], attributes := #[] }
def k8m0 : Method := { name := "<init>", desc := "()V", sig := { parameters := [], returnType := none }, accessFlags := 1, code := some k8c0 }
/-- java/lang/Number -/
def k8 : Class := { plain "java/lang/Number" (some 0) with
  accessFlags := 1057
  interfaces := #[5]
  cf := some (fileOf pool8 8 #[] #[{ accessFlags := 1, nameIndex := 5, descriptorIndex := 6, attributes := #[] }] 1057 2 #[13] #[{ accessFlags := 26, nameIndex := 15, descriptorIndex := 16, attributes := #[] }])
  fields := #[{ name := "serialVersionUID", type := .long, accessFlags := 26, slot := 0, constantValue := 0 }]
  methods := #[k8m0]
  instanceTypes := #[]
  staticTypes := #[.long]
  resolved := Array.replicate 37 none
  statics := none }

def pool9 : Array CpInfo := pool [(1, .class_ 2), (0, u "java/lang/constant/ConstantDesc"), (0, .class_ 4), (0, u "java/lang/Object")] 32

/-- java/lang/constant/ConstantDesc -/
def k9 : Class := { plain "java/lang/constant/ConstantDesc" (some 0) with
  accessFlags := 1537
  interfaces := #[]
  cf := some (fileOf pool9 1 #[] #[] 1537 3 #[] #[])
  fields := #[]
  methods := #[]
  instanceTypes := #[]
  staticTypes := #[]
  resolved := Array.replicate 37 none
  statics := none }

def pool10 : Array CpInfo := pool [(1, .class_ 2), (0, u "java/lang/Long"), (55, .nameAndType 59 60), (0, u "<init>"), (0, u "()V"), (24, u "valueOf"), (143, u "(J)Ljava/lang/Long;"), (0, .long 18446744073709551488), (1, .long 127), (1, .fieldref 235 236), (0, .class_ 237), (0, .nameAndType 238 239), (0, u "java/lang/Long$LongCache"), (0, u "cache"), (0, u "[Ljava/lang/Long;"), (0, .methodref 1 241), (0, .nameAndType 59 242), (0, u "(J)V"), (27, .methodref 271 58), (0, .class_ 272), (0, u "java/lang/Number"), (0, .fieldref 1 274), (0, .nameAndType 275 276), (0, u "value"), (0, u "J"), (84, u "TYPE"), (0, u "Ljava/lang/Class;"), (0, .class_ 364), (0, u "java/lang/Comparable"), (0, .class_ 366), (0, u "java/lang/constant/Constable"), (0, .class_ 368), (0, u "java/lang/constant/ConstantDesc"), (0, u "MIN_VALUE"), (1, u "MAX_VALUE"), (4, u "SIZE"), (0, u "I"), (1, u "BYTES"), (1, u "serialVersionUID")] 142

def k10c0 : Code := { maxStack := 4, maxLocals := 3, code := jdk_35_method_24_code, exceptionTable := #[], attributes := #[] }
def k10m0 : Method := { name := "valueOf", desc := "(J)Ljava/lang/Long;", sig := { parameters := [.long], returnType := some (.object "java/lang/Long") }, accessFlags := 9, code := some k10c0 }
def k10c1 : Code := { maxStack := 3, maxLocals := 3, code := jdk_35_method_26_code, exceptionTable := #[], attributes := #[] }
def k10m1 : Method := { name := "<init>", desc := "(J)V", sig := { parameters := [.long], returnType := none }, accessFlags := 1, code := some k10c1 }
/-- java/lang/Long -/
def k10 : Class := { plain "java/lang/Long" (some 8) with
  accessFlags := 49
  interfaces := #[4, 3, 9]
  cf := some (fileOf pool10 1 #[.nestMembers #[235]] #[{ accessFlags := 9, nameIndex := 85, descriptorIndex := 229, attributes := #[] }, { accessFlags := 1, nameIndex := 59, descriptorIndex := 242, attributes := #[] }] 49 271 #[363, 365, 367] #[{ accessFlags := 25, nameIndex := 369, descriptorIndex := 276, attributes := #[] }, { accessFlags := 25, nameIndex := 371, descriptorIndex := 276, attributes := #[] }, { accessFlags := 25, nameIndex := 361, descriptorIndex := 362, attributes := #[] }, { accessFlags := 18, nameIndex := 275, descriptorIndex := 276, attributes := #[] }, { accessFlags := 25, nameIndex := 376, descriptorIndex := 377, attributes := #[] }, { accessFlags := 25, nameIndex := 379, descriptorIndex := 377, attributes := #[] }, { accessFlags := 26, nameIndex := 381, descriptorIndex := 276, attributes := #[] }])
  fields := #[{ name := "MIN_VALUE", type := .long, accessFlags := 25, slot := 0, constantValue := 0 }, { name := "MAX_VALUE", type := .long, accessFlags := 25, slot := 1, constantValue := 0 }, { name := "TYPE", type := (.object "java/lang/Class"), accessFlags := 25, slot := 2, constantValue := 0 }, { name := "value", type := .long, accessFlags := 18, slot := 0, constantValue := 0 }, { name := "SIZE", type := .int, accessFlags := 25, slot := 3, constantValue := 0 }, { name := "BYTES", type := .int, accessFlags := 25, slot := 4, constantValue := 0 }, { name := "serialVersionUID", type := .long, accessFlags := 26, slot := 5, constantValue := 0 }]
  methods := #[k10m0, k10m1]
  instanceTypes := #[.long]
  staticTypes := #[.long, .long, (.object "java/lang/Class"), .int, .int, .long]
  resolved := Array.replicate 524 none
  statics := none }

def pool11 : Array CpInfo := pool [(2, .class_ 4), (1, u "java/lang/Object"), (0, u "<init>"), (0, u "()V"), (0, .class_ 8), (0, u "java/lang/Long"), (7, .class_ 18), (1, u "java/lang/Long$LongCache"), (0, u "$assertionsDisabled"), (0, u "Z"), (8, u "archivedCache"), (0, u "[Ljava/lang/Long;"), (7, u "cache")] 24

def k11m0 : Method := { name := "<init>", desc := "()V", sig := { parameters := [], returnType := none }, accessFlags := 2, code := none }
/-- java/lang/Long$LongCache -/
def k11 : Class := { plain "java/lang/Long$LongCache" (some 0) with
  accessFlags := 48
  interfaces := #[]
  cf := some (fileOf pool11 16 #[.nestHost 7] #[{ accessFlags := 2, nameIndex := 5, descriptorIndex := 6, attributes := #[] }] 48 2 #[] #[{ accessFlags := 24, nameIndex := 38, descriptorIndex := 30, attributes := #[] }, { accessFlags := 8, nameIndex := 29, descriptorIndex := 30, attributes := #[] }, { accessFlags := 4120, nameIndex := 19, descriptorIndex := 20, attributes := #[] }])
  fields := #[{ name := "cache", type := (.array (.object "java/lang/Long")), accessFlags := 24, slot := 0, constantValue := 0 }, { name := "archivedCache", type := (.array (.object "java/lang/Long")), accessFlags := 8, slot := 1, constantValue := 0 }, { name := "$assertionsDisabled", type := .boolean, accessFlags := 4120, slot := 2, constantValue := 0 }]
  methods := #[k11m0]
  instanceTypes := #[]
  staticTypes := #[(.array (.object "java/lang/Long")), (.array (.object "java/lang/Long")), .boolean]
  resolved := Array.replicate 63 none
  statics := some 1 }

def pool12 : Array CpInfo := pool [(1, u "java/lang/Cloneable"), (0, .class_ 1), (0, u "java/lang/Object"), (0, .class_ 3)] 3

/-- java/lang/Cloneable -/
def k12 : Class := { plain "java/lang/Cloneable" (some 0) with
  accessFlags := 1537
  interfaces := #[]
  cf := some (fileOf pool12 2 #[] #[] 1537 4 #[] #[])
  fields := #[]
  methods := #[]
  instanceTypes := #[]
  staticTypes := #[]
  resolved := Array.replicate 8 none
  statics := none }

/-- the primitive byte -/
def k13 : Class := { plain "byte" none with kind := .primitive 'B', accessFlags := 0x411 }
/-- [B -/
def k14 : Class := { plain "[B" (some 0) with kind := .array 13 .byte, interfaces := #[12, 5], accessFlags := 1041 }

/-- the primitive int -/
def k15 : Class := { plain "int" none with kind := .primitive 'I', accessFlags := 0x411 }
/-- [I -/
def k16 : Class := { plain "[I" (some 0) with kind := .array 15 .int, interfaces := #[12, 5], accessFlags := 1041 }

/-- [Ljava/lang/Long; -/
def k17 : Class := { plain "[Ljava/lang/Long;" (some 0) with kind := .array 10 (.object "java/lang/Long"), interfaces := #[12, 5], accessFlags := 1041 }

def heap : Heap := #[{ cls := 7, slots := #[.ref 259, .ref 260, .ref 261, .ref 262, .null, .null], vm := .statics 7 },
  { cls := 11, slots := #[.ref 2, .null, .int 0], vm := .statics 11 },
  { cls := 17, slots := #[.ref 3, .ref 4, .ref 5, .ref 6, .ref 7, .ref 8, .ref 9, .ref 10, .ref 11, .ref 12, .ref 13, .ref 14, .ref 15, .ref 16, .ref 17, .ref 18, .ref 19, .ref 20, .ref 21, .ref 22, .ref 23, .ref 24, .ref 25, .ref 26, .ref 27, .ref 28, .ref 29, .ref 30, .ref 31, .ref 32, .ref 33, .ref 34, .ref 35, .ref 36, .ref 37, .ref 38, .ref 39, .ref 40, .ref 41, .ref 42, .ref 43, .ref 44, .ref 45, .ref 46, .ref 47, .ref 48, .ref 49, .ref 50, .ref 51, .ref 52, .ref 53, .ref 54, .ref 55, .ref 56, .ref 57, .ref 58, .ref 59, .ref 60, .ref 61, .ref 62, .ref 63, .ref 64, .ref 65, .ref 66, .ref 67, .ref 68, .ref 69, .ref 70, .ref 71, .ref 72, .ref 73, .ref 74, .ref 75, .ref 76, .ref 77, .ref 78, .ref 79, .ref 80, .ref 81, .ref 82, .ref 83, .ref 84, .ref 85, .ref 86, .ref 87, .ref 88, .ref 89, .ref 90, .ref 91, .ref 92, .ref 93, .ref 94, .ref 95, .ref 96, .ref 97, .ref 98, .ref 99, .ref 100, .ref 101, .ref 102, .ref 103, .ref 104, .ref 105, .ref 106, .ref 107, .ref 108, .ref 109, .ref 110, .ref 111, .ref 112, .ref 113, .ref 114, .ref 115, .ref 116, .ref 117, .ref 118, .ref 119, .ref 120, .ref 121, .ref 122, .ref 123, .ref 124, .ref 125, .ref 126, .ref 127, .ref 128, .ref 129, .ref 130, .ref 131, .ref 132, .ref 133, .ref 134, .ref 135, .ref 136, .ref 137, .ref 138, .ref 139, .ref 140, .ref 141, .ref 142, .ref 143, .ref 144, .ref 145, .ref 146, .ref 147, .ref 148, .ref 149, .ref 150, .ref 151, .ref 152, .ref 153, .ref 154, .ref 155, .ref 156, .ref 157, .ref 158, .ref 159, .ref 160, .ref 161, .ref 162, .ref 163, .ref 164, .ref 165, .ref 166, .ref 167, .ref 168, .ref 169, .ref 170, .ref 171, .ref 172, .ref 173, .ref 174, .ref 175, .ref 176, .ref 177, .ref 178, .ref 179, .ref 180, .ref 181, .ref 182, .ref 183, .ref 184, .ref 185, .ref 186, .ref 187, .ref 188, .ref 189, .ref 190, .ref 191, .ref 192, .ref 193, .ref 194, .ref 195, .ref 196, .ref 197, .ref 198, .ref 199, .ref 200, .ref 201, .ref 202, .ref 203, .ref 204, .ref 205, .ref 206, .ref 207, .ref 208, .ref 209, .ref 210, .ref 211, .ref 212, .ref 213, .ref 214, .ref 215, .ref 216, .ref 217, .ref 218, .ref 219, .ref 220, .ref 221, .ref 222, .ref 223, .ref 224, .ref 225, .ref 226, .ref 227, .ref 228, .ref 229, .ref 230, .ref 231, .ref 232, .ref 233, .ref 234, .ref 235, .ref 236, .ref 237, .ref 238, .ref 239, .ref 240, .ref 241, .ref 242, .ref 243, .ref 244, .ref 245, .ref 246, .ref 247, .ref 248, .ref 249, .ref 250, .ref 251, .ref 252, .ref 253, .ref 254, .ref 255, .ref 256, .ref 257, .ref 258], vm := .none },
  { cls := 10, slots := #[.long (-128)], vm := .none },
  { cls := 10, slots := #[.long (-127)], vm := .none },
  { cls := 10, slots := #[.long (-126)], vm := .none },
  { cls := 10, slots := #[.long (-125)], vm := .none },
  { cls := 10, slots := #[.long (-124)], vm := .none },
  { cls := 10, slots := #[.long (-123)], vm := .none },
  { cls := 10, slots := #[.long (-122)], vm := .none },
  { cls := 10, slots := #[.long (-121)], vm := .none },
  { cls := 10, slots := #[.long (-120)], vm := .none },
  { cls := 10, slots := #[.long (-119)], vm := .none },
  { cls := 10, slots := #[.long (-118)], vm := .none },
  { cls := 10, slots := #[.long (-117)], vm := .none },
  { cls := 10, slots := #[.long (-116)], vm := .none },
  { cls := 10, slots := #[.long (-115)], vm := .none },
  { cls := 10, slots := #[.long (-114)], vm := .none },
  { cls := 10, slots := #[.long (-113)], vm := .none },
  { cls := 10, slots := #[.long (-112)], vm := .none },
  { cls := 10, slots := #[.long (-111)], vm := .none },
  { cls := 10, slots := #[.long (-110)], vm := .none },
  { cls := 10, slots := #[.long (-109)], vm := .none },
  { cls := 10, slots := #[.long (-108)], vm := .none },
  { cls := 10, slots := #[.long (-107)], vm := .none },
  { cls := 10, slots := #[.long (-106)], vm := .none },
  { cls := 10, slots := #[.long (-105)], vm := .none },
  { cls := 10, slots := #[.long (-104)], vm := .none },
  { cls := 10, slots := #[.long (-103)], vm := .none },
  { cls := 10, slots := #[.long (-102)], vm := .none },
  { cls := 10, slots := #[.long (-101)], vm := .none },
  { cls := 10, slots := #[.long (-100)], vm := .none },
  { cls := 10, slots := #[.long (-99)], vm := .none },
  { cls := 10, slots := #[.long (-98)], vm := .none },
  { cls := 10, slots := #[.long (-97)], vm := .none },
  { cls := 10, slots := #[.long (-96)], vm := .none },
  { cls := 10, slots := #[.long (-95)], vm := .none },
  { cls := 10, slots := #[.long (-94)], vm := .none },
  { cls := 10, slots := #[.long (-93)], vm := .none },
  { cls := 10, slots := #[.long (-92)], vm := .none },
  { cls := 10, slots := #[.long (-91)], vm := .none },
  { cls := 10, slots := #[.long (-90)], vm := .none },
  { cls := 10, slots := #[.long (-89)], vm := .none },
  { cls := 10, slots := #[.long (-88)], vm := .none },
  { cls := 10, slots := #[.long (-87)], vm := .none },
  { cls := 10, slots := #[.long (-86)], vm := .none },
  { cls := 10, slots := #[.long (-85)], vm := .none },
  { cls := 10, slots := #[.long (-84)], vm := .none },
  { cls := 10, slots := #[.long (-83)], vm := .none },
  { cls := 10, slots := #[.long (-82)], vm := .none },
  { cls := 10, slots := #[.long (-81)], vm := .none },
  { cls := 10, slots := #[.long (-80)], vm := .none },
  { cls := 10, slots := #[.long (-79)], vm := .none },
  { cls := 10, slots := #[.long (-78)], vm := .none },
  { cls := 10, slots := #[.long (-77)], vm := .none },
  { cls := 10, slots := #[.long (-76)], vm := .none },
  { cls := 10, slots := #[.long (-75)], vm := .none },
  { cls := 10, slots := #[.long (-74)], vm := .none },
  { cls := 10, slots := #[.long (-73)], vm := .none },
  { cls := 10, slots := #[.long (-72)], vm := .none },
  { cls := 10, slots := #[.long (-71)], vm := .none },
  { cls := 10, slots := #[.long (-70)], vm := .none },
  { cls := 10, slots := #[.long (-69)], vm := .none },
  { cls := 10, slots := #[.long (-68)], vm := .none },
  { cls := 10, slots := #[.long (-67)], vm := .none },
  { cls := 10, slots := #[.long (-66)], vm := .none },
  { cls := 10, slots := #[.long (-65)], vm := .none },
  { cls := 10, slots := #[.long (-64)], vm := .none },
  { cls := 10, slots := #[.long (-63)], vm := .none },
  { cls := 10, slots := #[.long (-62)], vm := .none },
  { cls := 10, slots := #[.long (-61)], vm := .none },
  { cls := 10, slots := #[.long (-60)], vm := .none },
  { cls := 10, slots := #[.long (-59)], vm := .none },
  { cls := 10, slots := #[.long (-58)], vm := .none },
  { cls := 10, slots := #[.long (-57)], vm := .none },
  { cls := 10, slots := #[.long (-56)], vm := .none },
  { cls := 10, slots := #[.long (-55)], vm := .none },
  { cls := 10, slots := #[.long (-54)], vm := .none },
  { cls := 10, slots := #[.long (-53)], vm := .none },
  { cls := 10, slots := #[.long (-52)], vm := .none },
  { cls := 10, slots := #[.long (-51)], vm := .none },
  { cls := 10, slots := #[.long (-50)], vm := .none },
  { cls := 10, slots := #[.long (-49)], vm := .none },
  { cls := 10, slots := #[.long (-48)], vm := .none },
  { cls := 10, slots := #[.long (-47)], vm := .none },
  { cls := 10, slots := #[.long (-46)], vm := .none },
  { cls := 10, slots := #[.long (-45)], vm := .none },
  { cls := 10, slots := #[.long (-44)], vm := .none },
  { cls := 10, slots := #[.long (-43)], vm := .none },
  { cls := 10, slots := #[.long (-42)], vm := .none },
  { cls := 10, slots := #[.long (-41)], vm := .none },
  { cls := 10, slots := #[.long (-40)], vm := .none },
  { cls := 10, slots := #[.long (-39)], vm := .none },
  { cls := 10, slots := #[.long (-38)], vm := .none },
  { cls := 10, slots := #[.long (-37)], vm := .none },
  { cls := 10, slots := #[.long (-36)], vm := .none },
  { cls := 10, slots := #[.long (-35)], vm := .none },
  { cls := 10, slots := #[.long (-34)], vm := .none },
  { cls := 10, slots := #[.long (-33)], vm := .none },
  { cls := 10, slots := #[.long (-32)], vm := .none },
  { cls := 10, slots := #[.long (-31)], vm := .none },
  { cls := 10, slots := #[.long (-30)], vm := .none },
  { cls := 10, slots := #[.long (-29)], vm := .none },
  { cls := 10, slots := #[.long (-28)], vm := .none },
  { cls := 10, slots := #[.long (-27)], vm := .none },
  { cls := 10, slots := #[.long (-26)], vm := .none },
  { cls := 10, slots := #[.long (-25)], vm := .none },
  { cls := 10, slots := #[.long (-24)], vm := .none },
  { cls := 10, slots := #[.long (-23)], vm := .none },
  { cls := 10, slots := #[.long (-22)], vm := .none },
  { cls := 10, slots := #[.long (-21)], vm := .none },
  { cls := 10, slots := #[.long (-20)], vm := .none },
  { cls := 10, slots := #[.long (-19)], vm := .none },
  { cls := 10, slots := #[.long (-18)], vm := .none },
  { cls := 10, slots := #[.long (-17)], vm := .none },
  { cls := 10, slots := #[.long (-16)], vm := .none },
  { cls := 10, slots := #[.long (-15)], vm := .none },
  { cls := 10, slots := #[.long (-14)], vm := .none },
  { cls := 10, slots := #[.long (-13)], vm := .none },
  { cls := 10, slots := #[.long (-12)], vm := .none },
  { cls := 10, slots := #[.long (-11)], vm := .none },
  { cls := 10, slots := #[.long (-10)], vm := .none },
  { cls := 10, slots := #[.long (-9)], vm := .none },
  { cls := 10, slots := #[.long (-8)], vm := .none },
  { cls := 10, slots := #[.long (-7)], vm := .none },
  { cls := 10, slots := #[.long (-6)], vm := .none },
  { cls := 10, slots := #[.long (-5)], vm := .none },
  { cls := 10, slots := #[.long (-4)], vm := .none },
  { cls := 10, slots := #[.long (-3)], vm := .none },
  { cls := 10, slots := #[.long (-2)], vm := .none },
  { cls := 10, slots := #[.long (-1)], vm := .none },
  { cls := 10, slots := #[.long (0)], vm := .none },
  { cls := 10, slots := #[.long (1)], vm := .none },
  { cls := 10, slots := #[.long (2)], vm := .none },
  { cls := 10, slots := #[.long (3)], vm := .none },
  { cls := 10, slots := #[.long (4)], vm := .none },
  { cls := 10, slots := #[.long (5)], vm := .none },
  { cls := 10, slots := #[.long (6)], vm := .none },
  { cls := 10, slots := #[.long (7)], vm := .none },
  { cls := 10, slots := #[.long (8)], vm := .none },
  { cls := 10, slots := #[.long (9)], vm := .none },
  { cls := 10, slots := #[.long (10)], vm := .none },
  { cls := 10, slots := #[.long (11)], vm := .none },
  { cls := 10, slots := #[.long (12)], vm := .none },
  { cls := 10, slots := #[.long (13)], vm := .none },
  { cls := 10, slots := #[.long (14)], vm := .none },
  { cls := 10, slots := #[.long (15)], vm := .none },
  { cls := 10, slots := #[.long (16)], vm := .none },
  { cls := 10, slots := #[.long (17)], vm := .none },
  { cls := 10, slots := #[.long (18)], vm := .none },
  { cls := 10, slots := #[.long (19)], vm := .none },
  { cls := 10, slots := #[.long (20)], vm := .none },
  { cls := 10, slots := #[.long (21)], vm := .none },
  { cls := 10, slots := #[.long (22)], vm := .none },
  { cls := 10, slots := #[.long (23)], vm := .none },
  { cls := 10, slots := #[.long (24)], vm := .none },
  { cls := 10, slots := #[.long (25)], vm := .none },
  { cls := 10, slots := #[.long (26)], vm := .none },
  { cls := 10, slots := #[.long (27)], vm := .none },
  { cls := 10, slots := #[.long (28)], vm := .none },
  { cls := 10, slots := #[.long (29)], vm := .none },
  { cls := 10, slots := #[.long (30)], vm := .none },
  { cls := 10, slots := #[.long (31)], vm := .none },
  { cls := 10, slots := #[.long (32)], vm := .none },
  { cls := 10, slots := #[.long (33)], vm := .none },
  { cls := 10, slots := #[.long (34)], vm := .none },
  { cls := 10, slots := #[.long (35)], vm := .none },
  { cls := 10, slots := #[.long (36)], vm := .none },
  { cls := 10, slots := #[.long (37)], vm := .none },
  { cls := 10, slots := #[.long (38)], vm := .none },
  { cls := 10, slots := #[.long (39)], vm := .none },
  { cls := 10, slots := #[.long (40)], vm := .none },
  { cls := 10, slots := #[.long (41)], vm := .none },
  { cls := 10, slots := #[.long (42)], vm := .none },
  { cls := 10, slots := #[.long (43)], vm := .none },
  { cls := 10, slots := #[.long (44)], vm := .none },
  { cls := 10, slots := #[.long (45)], vm := .none },
  { cls := 10, slots := #[.long (46)], vm := .none },
  { cls := 10, slots := #[.long (47)], vm := .none },
  { cls := 10, slots := #[.long (48)], vm := .none },
  { cls := 10, slots := #[.long (49)], vm := .none },
  { cls := 10, slots := #[.long (50)], vm := .none },
  { cls := 10, slots := #[.long (51)], vm := .none },
  { cls := 10, slots := #[.long (52)], vm := .none },
  { cls := 10, slots := #[.long (53)], vm := .none },
  { cls := 10, slots := #[.long (54)], vm := .none },
  { cls := 10, slots := #[.long (55)], vm := .none },
  { cls := 10, slots := #[.long (56)], vm := .none },
  { cls := 10, slots := #[.long (57)], vm := .none },
  { cls := 10, slots := #[.long (58)], vm := .none },
  { cls := 10, slots := #[.long (59)], vm := .none },
  { cls := 10, slots := #[.long (60)], vm := .none },
  { cls := 10, slots := #[.long (61)], vm := .none },
  { cls := 10, slots := #[.long (62)], vm := .none },
  { cls := 10, slots := #[.long (63)], vm := .none },
  { cls := 10, slots := #[.long (64)], vm := .none },
  { cls := 10, slots := #[.long (65)], vm := .none },
  { cls := 10, slots := #[.long (66)], vm := .none },
  { cls := 10, slots := #[.long (67)], vm := .none },
  { cls := 10, slots := #[.long (68)], vm := .none },
  { cls := 10, slots := #[.long (69)], vm := .none },
  { cls := 10, slots := #[.long (70)], vm := .none },
  { cls := 10, slots := #[.long (71)], vm := .none },
  { cls := 10, slots := #[.long (72)], vm := .none },
  { cls := 10, slots := #[.long (73)], vm := .none },
  { cls := 10, slots := #[.long (74)], vm := .none },
  { cls := 10, slots := #[.long (75)], vm := .none },
  { cls := 10, slots := #[.long (76)], vm := .none },
  { cls := 10, slots := #[.long (77)], vm := .none },
  { cls := 10, slots := #[.long (78)], vm := .none },
  { cls := 10, slots := #[.long (79)], vm := .none },
  { cls := 10, slots := #[.long (80)], vm := .none },
  { cls := 10, slots := #[.long (81)], vm := .none },
  { cls := 10, slots := #[.long (82)], vm := .none },
  { cls := 10, slots := #[.long (83)], vm := .none },
  { cls := 10, slots := #[.long (84)], vm := .none },
  { cls := 10, slots := #[.long (85)], vm := .none },
  { cls := 10, slots := #[.long (86)], vm := .none },
  { cls := 10, slots := #[.long (87)], vm := .none },
  { cls := 10, slots := #[.long (88)], vm := .none },
  { cls := 10, slots := #[.long (89)], vm := .none },
  { cls := 10, slots := #[.long (90)], vm := .none },
  { cls := 10, slots := #[.long (91)], vm := .none },
  { cls := 10, slots := #[.long (92)], vm := .none },
  { cls := 10, slots := #[.long (93)], vm := .none },
  { cls := 10, slots := #[.long (94)], vm := .none },
  { cls := 10, slots := #[.long (95)], vm := .none },
  { cls := 10, slots := #[.long (96)], vm := .none },
  { cls := 10, slots := #[.long (97)], vm := .none },
  { cls := 10, slots := #[.long (98)], vm := .none },
  { cls := 10, slots := #[.long (99)], vm := .none },
  { cls := 10, slots := #[.long (100)], vm := .none },
  { cls := 10, slots := #[.long (101)], vm := .none },
  { cls := 10, slots := #[.long (102)], vm := .none },
  { cls := 10, slots := #[.long (103)], vm := .none },
  { cls := 10, slots := #[.long (104)], vm := .none },
  { cls := 10, slots := #[.long (105)], vm := .none },
  { cls := 10, slots := #[.long (106)], vm := .none },
  { cls := 10, slots := #[.long (107)], vm := .none },
  { cls := 10, slots := #[.long (108)], vm := .none },
  { cls := 10, slots := #[.long (109)], vm := .none },
  { cls := 10, slots := #[.long (110)], vm := .none },
  { cls := 10, slots := #[.long (111)], vm := .none },
  { cls := 10, slots := #[.long (112)], vm := .none },
  { cls := 10, slots := #[.long (113)], vm := .none },
  { cls := 10, slots := #[.long (114)], vm := .none },
  { cls := 10, slots := #[.long (115)], vm := .none },
  { cls := 10, slots := #[.long (116)], vm := .none },
  { cls := 10, slots := #[.long (117)], vm := .none },
  { cls := 10, slots := #[.long (118)], vm := .none },
  { cls := 10, slots := #[.long (119)], vm := .none },
  { cls := 10, slots := #[.long (120)], vm := .none },
  { cls := 10, slots := #[.long (121)], vm := .none },
  { cls := 10, slots := #[.long (122)], vm := .none },
  { cls := 10, slots := #[.long (123)], vm := .none },
  { cls := 10, slots := #[.long (124)], vm := .none },
  { cls := 10, slots := #[.long (125)], vm := .none },
  { cls := 10, slots := #[.long (126)], vm := .none },
  { cls := 10, slots := #[.long (127)], vm := .none },
  { cls := 7, slots := #[.null, .int 0, .int 0], vm := .none },
  { cls := 7, slots := #[.null, .int 1, .int 0], vm := .none },
  { cls := 7, slots := #[.null, .int 2, .int 0], vm := .none },
  { cls := 7, slots := #[.null, .int 3, .int 0], vm := .none }]
def classes : Array Class := #[k0, k1, k2, k3, k4, k5, k6, k7, k8, k9, k10, k11, k12, k13, k14, k15, k16, k17]
def interned : List (Array UInt16 × Addr) := []
def slotsUsed : Nat := 533
def theMethod : MethodId := ⟨1, 2⟩
def args0 : Array Value := #[.long 5, .long 7, .long 1, .long 2, .long 3, .int 1]
def aboutOver (below : List Frame) : State where
  vm := { classes := classes, interned := interned.toArray }
  heap := heap
  slotsUsed := slotsUsed
  threads := #[{ frames := .invoking theMethod args0 :: below }]
def below0 : List Frame := [.native { method := ⟨0, 0⟩, args := #[] }]
def about1 : State := aboutOver below0
def p0 : Program := .bare "" "" ""
def e0 : Env := launch0.env 0 0 0
theorem w_frames : about1.frames = Frame.invoking theMethod args0 :: below0 := rfl
set_option maxRecDepth 65536 in
theorem w_args : argsFit about1.vm theMethod args0 = true := by decide +kernel
set_option maxRecDepth 65536 in
theorem w_heap : heapFits about1 = true := by decide +kernel
set_option maxRecDepth 65536 in
theorem w_runnable : about1.curStatus? = some .runnable := by decide +kernel
set_option maxRecDepth 65536 in
theorem w_alone : about1.alone = true := by decide +kernel
set_option maxRecDepth 65536 in
theorem w_named : about1.methodNamed? x = some theMethod := by decide +kernel
set_option maxRecDepth 65536 in
theorem w_hears : about1.hears theMethod below0 = true := by decide +kernel
set_option maxRecDepth 65536 in
theorem w_ripe : about1.ripe theMethod args0 below0 = true := by decide +kernel
theorem w_running : about1.status = .running := rfl
set_option maxRecDepth 65536 in
theorem w_room : about1.hasRoom e0.platform room_1 = true :=
  launch0.hasRoom_least _ room_1 (by decide +kernel) (by decide +kernel) (by decide +kernel) (by decide +kernel) (by decide +kernel) (by decide +kernel)
theorem allAtoms_all (ts : List Jvm.Cond) (a : Array Jvm.Value) (st : Jvm.State) : (allAtoms ts).before a st = ts.all (fun c => c.before a st) := by
  induction ts with
  | nil => rfl
  | cons c t ih =>
    show (Jvm.Cond.and c (allAtoms t)).before a st = _
    rw [Jvm.Cond.before_and, ih, List.all_cons]
def words1 : List Jvm.Cond := Jvm.Cond.code x code maxLocals ret :: tables_1
/-- a 'code' word, met by the world's own term for the bytes: nothing is compared byte by byte -/
theorem code_word {y : MethodName} {bytes : ByteArray} {mx : Nat} {rt : Option FieldType} {a : Array Value} {s : State} {m : MethodId} {meth : Method} {c : Code} (h1 : s.methodNamed? y = some m) (h2 : s.vm.method? m = some meth) (h3 : meth.code = some c) (h4 : c.code = bytes)
    (h5 : (c.maxLocals == mx && c.exceptionTable.isEmpty && decide (c.maxStack ≤ mostOperands) && decide (meth.sig.returnType = rt) && !meth.locks && decide (parseMethodDescriptor y.desc = some meth.sig)) = true) : (Jvm.Cond.code y bytes mx rt).before a s = true := by
  simp only [Bool.and_eq_true, beq_iff_eq, Bool.not_eq_true', decide_eq_true_eq] at h5
  obtain ⟨⟨⟨⟨⟨g1, g2⟩, g3⟩, g4⟩, g5⟩, g6⟩ := h5
  simp [Cond.before, Cond.holds, Cond.value, h1, h2, h3, h4, g1, g2, g3, g4, g5, g6]
def isCode : Jvm.Cond → Bool
  | .code _ _ _ _ => true
  | _ => false
theorem all_split {L : List Jvm.Cond} {P : Jvm.Cond → Bool} (h1 : L.all (fun c => isCode c || P c) = true) (h2 : ∀ c ∈ L.filter isCode, P c = true) : L.all P = true := by
  refine List.all_eq_true.mpr fun c hc => ?_
  have h := List.all_eq_true.mp h1 c hc
  rcases Bool.eq_false_or_eq_true (isCode c) with hi | hi
  · exact h2 c (List.mem_filter.mpr ⟨hc, hi⟩)
  · simpa [hi] using h
set_option maxRecDepth 65536 in
theorem w_c0 : (Jvm.Cond.code x code maxLocals ret).before args0 about1 = true := code_word (m := ⟨1, 2⟩) (meth := k1m2) (c := k1c2) (by decide +kernel) rfl rfl rfl (by decide +kernel)
set_option maxRecDepth 65536 in
theorem w_c1 : (Jvm.Cond.code ({ cls := "com/example/tagloom/tagloom/tlv/ElementEqualsPinLaw", name := "cls", desc := "(I)Lcom/example/tagloom/tagloom/tlv/TagClass;" } : Jvm.MethodName) method_2_code (2 : Nat) (Option.some (Jvm.ClassFile.FieldType.object "com/example/tagloom/tagloom/tlv/TagClass"))).before args0 about1 = true := code_word (m := ⟨1, 1⟩) (meth := k1m1) (c := k1c1) (by decide +kernel) rfl rfl rfl (by decide +kernel)
set_option maxRecDepth 65536 in
theorem w_c2 : (Jvm.Cond.code ({ cls := "com/example/tagloom/tagloom/tlv/Element", name := "<init>", desc := "(JIILcom/example/tagloom/tagloom/tlv/TagClass;JZJ)V" } : Jvm.MethodName) prog_160_method_1_code (11 : Nat) (Option.none : Option Jvm.ClassFile.FieldType)).before args0 about1 = true := code_word (m := ⟨2, 0⟩) (meth := k2m0) (c := k2c0) (by decide +kernel) rfl rfl rfl (by decide +kernel)
set_option maxRecDepth 65536 in
theorem w_c3 : (Jvm.Cond.code ({ cls := "java/lang/Object", name := "<init>", desc := "()V" } : Jvm.MethodName) object_method_1_code (1 : Nat) (Option.none : Option Jvm.ClassFile.FieldType)).before args0 about1 = true := code_word (m := ⟨0, 0⟩) (meth := k0m0) (c := k0c0) (by decide +kernel) rfl rfl rfl (by decide +kernel)
set_option maxRecDepth 65536 in
theorem w_c4 : (Jvm.Cond.code ({ cls := "com/example/tagloom/tagloom/tlv/Element", name := "equals", desc := "(Ljava/lang/Object;)Z" } : Jvm.MethodName) prog_160_method_11_code (3 : Nat) (Option.some Jvm.ClassFile.FieldType.boolean)).before args0 about1 = true := code_word (m := ⟨2, 1⟩) (meth := k2m1) (c := k2c1) (by decide +kernel) rfl rfl rfl (by decide +kernel)
set_option maxRecDepth 65536 in
theorem w_c5 : (Jvm.Cond.code ({ cls := "java/lang/Long", name := "valueOf", desc := "(J)Ljava/lang/Long;" } : Jvm.MethodName) jdk_35_method_24_code (3 : Nat) (Option.some (Jvm.ClassFile.FieldType.object "java/lang/Long"))).before args0 about1 = true := code_word (m := ⟨10, 0⟩) (meth := k10m0) (c := k10c0) (by decide +kernel) rfl rfl rfl (by decide +kernel)
set_option maxRecDepth 65536 in
theorem w_c6 : (Jvm.Cond.code ({ cls := "java/lang/Long", name := "<init>", desc := "(J)V" } : Jvm.MethodName) jdk_35_method_26_code (3 : Nat) (Option.none : Option Jvm.ClassFile.FieldType)).before args0 about1 = true := code_word (m := ⟨10, 1⟩) (meth := k10m1) (c := k10c1) (by decide +kernel) rfl rfl rfl (by decide +kernel)
set_option maxRecDepth 65536 in
theorem w_c7 : (Jvm.Cond.code ({ cls := "java/lang/Number", name := "<init>", desc := "()V" } : Jvm.MethodName) jdk_18_method_1_code (1 : Nat) (Option.none : Option Jvm.ClassFile.FieldType)).before args0 about1 = true := code_word (m := ⟨8, 0⟩) (meth := k8m0) (c := k8c0) (by decide +kernel) rfl rfl rfl (by decide +kernel)
def codes1 : List Jvm.Cond := [Jvm.Cond.code x code maxLocals ret, Jvm.Cond.code ({ cls := "com/example/tagloom/tagloom/tlv/ElementEqualsPinLaw", name := "cls", desc := "(I)Lcom/example/tagloom/tagloom/tlv/TagClass;" } : Jvm.MethodName) method_2_code (2 : Nat) (Option.some (Jvm.ClassFile.FieldType.object "com/example/tagloom/tagloom/tlv/TagClass")), Jvm.Cond.code ({ cls := "com/example/tagloom/tagloom/tlv/Element", name := "<init>", desc := "(JIILcom/example/tagloom/tagloom/tlv/TagClass;JZJ)V" } : Jvm.MethodName) prog_160_method_1_code (11 : Nat) (Option.none : Option Jvm.ClassFile.FieldType), Jvm.Cond.code ({ cls := "java/lang/Object", name := "<init>", desc := "()V" } : Jvm.MethodName) object_method_1_code (1 : Nat) (Option.none : Option Jvm.ClassFile.FieldType), Jvm.Cond.code ({ cls := "com/example/tagloom/tagloom/tlv/Element", name := "equals", desc := "(Ljava/lang/Object;)Z" } : Jvm.MethodName) prog_160_method_11_code (3 : Nat) (Option.some Jvm.ClassFile.FieldType.boolean), Jvm.Cond.code ({ cls := "java/lang/Long", name := "valueOf", desc := "(J)Ljava/lang/Long;" } : Jvm.MethodName) jdk_35_method_24_code (3 : Nat) (Option.some (Jvm.ClassFile.FieldType.object "java/lang/Long")), Jvm.Cond.code ({ cls := "java/lang/Long", name := "<init>", desc := "(J)V" } : Jvm.MethodName) jdk_35_method_26_code (3 : Nat) (Option.none : Option Jvm.ClassFile.FieldType), Jvm.Cond.code ({ cls := "java/lang/Number", name := "<init>", desc := "()V" } : Jvm.MethodName) jdk_18_method_1_code (1 : Nat) (Option.none : Option Jvm.ClassFile.FieldType)]
set_option maxRecDepth 65536 in
theorem codes_eq : words1.filter isCode = codes1 := rfl
theorem w_codes : ∀ c ∈ words1.filter isCode, c.before args0 about1 = true := by
  rw [codes_eq]
  intro c hc
  simp only [codes1, List.mem_cons, List.not_mem_nil, or_false] at hc
  rcases hc with rfl | rfl | rfl | rfl | rfl | rfl | rfl | rfl
  · exact w_c0
  · exact w_c1
  · exact w_c2
  · exact w_c3
  · exact w_c4
  · exact w_c5
  · exact w_c6
  · exact w_c7
set_option maxRecDepth 65536 in
theorem w_t1 : (words1.take 24).all (fun c => isCode c || c.before args0 about1) = true := by decide +kernel
set_option maxRecDepth 65536 in
theorem w_t2 : ((words1.drop 24).take 24).all (fun c => isCode c || c.before args0 about1) = true := by decide +kernel
set_option maxRecDepth 65536 in
theorem w_t3 : ((words1.drop 24).drop 24).all (fun c => isCode c || c.before args0 about1) = true := by decide +kernel
theorem w_tables : (allAtoms (Jvm.Cond.code x code maxLocals ret :: tables_1)).before args0 about1 = true := by
  rw [allAtoms_all]
  show words1.all (fun c => c.before args0 about1) = true
  refine all_split ?_ w_codes
  rw [← List.take_append_drop 24 words1, List.all_append, w_t1, ← List.take_append_drop 24 (words1.drop 24), List.all_append, w_t2, w_t3]
  rfl
set_option maxRecDepth 65536 in
theorem w_rest : rest_1_c.before args0 about1 = true := by decide +kernel
set_option maxRecDepth 65536 in
theorem w_case : (Jvm.Cond.and given_1 narrow_1).before args0 about1 = true := by decide +kernel
theorem w_applies : (headSpec (Jvm.Cond.code x code maxLocals ret :: tables_1) room_1).applies x e0.platform about1 = true :=
  (Spec.applies_iff w_frames).mpr ⟨w_running, w_runnable, w_alone, w_named, w_hears, w_ripe, w_room, w_tables⟩
theorem atStart : AtStart classFile x code maxLocals ret World_1 tables_1 room_1 Calls_1 rest_1 Pre_1 launch0 p0 e0 about1 theMethod args0 below0 :=
  ⟨lists_1, trivial, launch0.admits_env _ _ _, launch0.least_env, fairChoices_fair.cas, fairChoices_fair.clock, w_frames, w_args, w_heap, w_applies, trivial, w_rest, w_case⟩
end start1
theorem witness_1 : WitnessClaimed_1 := ⟨start1.p0, start1.e0, start1.about1, start1.theMethod, start1.args0, start1.below0, start1.atStart⟩
end Jvm.Pilot.@@N@@
