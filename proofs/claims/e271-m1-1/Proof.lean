import JvmDerived
import JvmDerived.Pilot.@@N@@Statement
import JvmDerived.Pilot.@@N@@Code
set_option linter.unusedVariables false
set_option linter.unusedSimpArgs false
namespace Jvm.RoadKit
open Sem ClassFile Op Lib Jvm.Stand Jvm.Free Jvm.LawKit
section New
variable {p : Program} {l : Launch} {e : Env} {R : Room} {s : State} {m : MethodId} {args : Array Value} {below : List Frame} {meth : Method} {c : Code} {T : State} {locs : List Loc} {cells slots : Nat}
theorem retI (X : Stand p l e R s m args below meth c T locs cells slots) (hx : p.tables.exec = Jvm.exec) {pc : Nat} {Ls : Array Slot} {z : Int32} {rest : List Value} (hret : meth.sig.returnType = some .int) (hd : decode c.code pc = .ok (.ireturn, 1)) {fs : List Frame}
    (hl : ∀ (f : JFrame) (acts : List Action), f.method = m → f.locked = none → f.entered = [] → (doReturn e (T.setTop f) acts (some (.int z))).1 = T.setFrames fs) : Steps p.tables e below (T.setTop (mkF m pc Ls (.int z :: rest))) (T.setFrames fs) := by
  have hm' : T.vm.method? m = some meth := X.method'
  have hn : narrow .int (.int z) = .int z := rfl
  show Steps p.tables e below (T.setTop { method := m, pc := pc, locals := Ls, stack := _ :: rest, locked := none }) _
  jvm_step X.here [X.here.top, hx, hd, hm', hret, hn]
  first | (intro acts; rw [hl _ acts rfl rfl rfl]) | rw [hl _ _ rfl rfl rfl]
  exact Steps.refl _
end New
end Jvm.RoadKit
namespace Jvm.Pilot.@@N@@
open Jvm Jvm.ClassFile Sem Op Lib Jvm.Free Jvm.Stand Jvm.LawKit Jvm.RoadKit Bundle Jvm.Pilot.@@N@@.Jvm.D

theorem pd_0 : parseMethodDescriptor "(I)I" = some ⟨[.int], some .int⟩ := by decide +kernel
theorem pd_1 : parseMethodDescriptor "(III)I" = some ⟨[.int, .int, .int], some .int⟩ := by decide +kernel
theorem pd_2 : parseMethodDescriptor "(I)Z" = some ⟨[.int], some .boolean⟩ := by decide +kernel
theorem pd_3 : parseMethodDescriptor "()V" = some ⟨[], none⟩ := by decide +kernel
theorem pd_4 : parseMethodDescriptor "(I)V" = some ⟨[.int], none⟩ := by decide +kernel
theorem pd_5 : parseMethodDescriptor "(ZI)I" = some ⟨[.boolean, .int], some .int⟩ := by decide +kernel
theorem pd_6 : parseMethodDescriptor "()I" = some ⟨[], some .int⟩ := by decide +kernel
theorem pd_7 : parseMethodDescriptor "(Lcom/example/yealm/yealm/equiv/RefinablePartition;II)I" = some ⟨[(.object "com/example/yealm/yealm/equiv/RefinablePartition"), .int, .int], some .int⟩ := by decide +kernel
theorem pd_8 : parseMethodDescriptor "(II)I" = some ⟨[.int, .int], some .int⟩ := by decide +kernel
theorem own_selp {Z s : State} {a0 args : Array Value} {y : MethodName} {n : Nat} (hZ : Z.Warmed39 s.vm) (wi : (Cond.instantiable y.cls n).before a0 Z = true) (wp : (Cond.privateMethod y).before a0 Z = true) (wm : (Cond.instanceMethod y).before a0 Z = true) (hy : y.cls ≠ "java/lang/invoke/MethodHandle" ∧ y.cls ≠ "java/lang/invoke/VarHandle") : (Cond.selects y.cls y y).before args s = true := by
  have wi' : (Cond.instantiable y.cls n).before args s = true := mvT hZ wi
  obtain ⟨c, k, h1, h2, h3, h4, -⟩ := Cond.instantiable_spec wi'
  exact selects_self_of_private h1 h2 (Bool.or_eq_false_iff.mp h4).1 (Cond.privateMethod_at (mvP hZ wp (args := args))) (mvT hZ wm) hy
/-- an int[] of n places by its values -/
def own_A (Z : State) (h : Heap) (b : Addr) (n : Int32) (l : List Int32) : Prop := ∃ k, Arv Z h b k .int n (l.map Value.int) (.int (0 : Int32))
def own_RP (Z : State) (h : Heap) (a bE bP bB bG bN bM bF bT : Addr) (n : Int32) (lE lP lB lG lN lM lF lT : List Int32) (bc tc : Int32) : Prop :=
  Exa Z h a "com/example/yealm/yealm/equiv/RefinablePartition" ∧ Fld Z h a "com/example/yealm/yealm/equiv/RefinablePartition" "elements" "[I" (.ref bE) ∧ Fld Z h a "com/example/yealm/yealm/equiv/RefinablePartition" "positions" "[I" (.ref bP) ∧ Fld Z h a "com/example/yealm/yealm/equiv/RefinablePartition" "blockOf" "[I" (.ref bB) ∧ Fld Z h a "com/example/yealm/yealm/equiv/RefinablePartition" "blockBegin" "[I" (.ref bG) ∧ Fld Z h a "com/example/yealm/yealm/equiv/RefinablePartition" "blockEnd" "[I" (.ref bN) ∧ Fld Z h a "com/example/yealm/yealm/equiv/RefinablePartition" "markedEnd" "[I" (.ref bM) ∧ Fld Z h a "com/example/yealm/yealm/equiv/RefinablePartition" "splitFrom" "[I" (.ref bF) ∧ Fld Z h a "com/example/yealm/yealm/equiv/RefinablePartition" "touched" "[I" (.ref bT) ∧ Fld Z h a "com/example/yealm/yealm/equiv/RefinablePartition" "blockCount" "I" (.int bc) ∧ Fld Z h a "com/example/yealm/yealm/equiv/RefinablePartition" "touchedCount" "I" (.int tc) ∧ own_A Z h bE n lE ∧ own_A Z h bP n lP ∧ own_A Z h bB n lB ∧ own_A Z h bG n lG ∧ own_A Z h bN n lN ∧ own_A Z h bM n lM ∧ own_A Z h bF n lF ∧ own_A Z h bT n lT
def own_D (n0 : Nat) (a bE bP bB bG bN bM bF bT : Addr) : Prop := (n0 ≤ a ∧ n0 ≤ bE ∧ n0 ≤ bP ∧ n0 ≤ bB ∧ n0 ≤ bG ∧ n0 ≤ bN ∧ n0 ≤ bM ∧ n0 ≤ bF ∧ n0 ≤ bT) ∧ (a ≠ bE ∧ a ≠ bP ∧ a ≠ bB ∧ a ≠ bG ∧ a ≠ bN ∧ a ≠ bM ∧ a ≠ bF ∧ a ≠ bT) ∧ (bE ≠ bP ∧ bE ≠ bB ∧ bE ≠ bG ∧ bE ≠ bN ∧ bE ≠ bM ∧ bE ≠ bF ∧ bE ≠ bT ∧ bP ≠ bB ∧ bP ≠ bG ∧ bP ≠ bN ∧ bP ≠ bM ∧ bP ≠ bF ∧ bP ≠ bT ∧ bB ≠ bG ∧ bB ≠ bN ∧ bB ≠ bM ∧ bB ≠ bF ∧ bB ≠ bT ∧ bG ≠ bN ∧ bG ≠ bM ∧ bG ≠ bF ∧ bG ≠ bT ∧ bN ≠ bM ∧ bN ≠ bF ∧ bN ≠ bT ∧ bM ≠ bF ∧ bM ≠ bT ∧ bF ≠ bT)
def own_get (n : Int32) (l : List Int32) (i : Int32) : Option Int32 := if i < 0 then none else if i < n then l[i.toNatClampNeg]? else none
def own_put (n : Int32) (l : List Int32) (i v : Int32) : Option (List Int32) := if i < 0 then none else if i < n then (if i.toNatClampNeg < l.length then some (l.set i.toNatClampNeg v) else none) else none
theorem own_get_e {n i v : Int32} {l : List Int32} (h : own_get n l i = some v) : (¬ i < 0 ∧ i < n) ∧ l[i.toNatClampNeg]? = some v := by
  unfold own_get at h
  by_cases h1 : i < 0
  · rw [if_pos h1] at h; cases h
  · rw [if_neg h1] at h
    by_cases h2 : i < n
    · rw [if_pos h2] at h; exact ⟨⟨h1, h2⟩, h⟩
    · rw [if_neg h2] at h; cases h
theorem own_put_e {n i v : Int32} {l l' : List Int32} (h : own_put n l i v = some l') : (¬ i < 0 ∧ i < n) ∧ i.toNatClampNeg < l.length ∧ l' = l.set i.toNatClampNeg v := by
  unfold own_put at h
  by_cases h1 : i < 0
  · rw [if_pos h1] at h; cases h
  · rw [if_neg h1] at h
    by_cases h2 : i < n
    · rw [if_pos h2] at h
      by_cases h3 : i.toNatClampNeg < l.length
      · rw [if_pos h3] at h; exact ⟨⟨h1, h2⟩, h3, (Option.some.inj h).symm⟩
      · rw [if_neg h3] at h; cases h
    · rw [if_neg h2] at h; cases h
theorem own_getD {l : List Int32} {i : Nat} {v : Int32} (h : l[i]? = some v) : (l.map Value.int).getD i (.int (0 : Int32)) = .int v := by
  simp [List.getD, List.getElem?_map, h]
theorem own_vs {l l' : List Int32} {i : Nat} {x : Int32} (h : l' = l.set i x) : (l.map Value.int).set i (.int x) = l'.map Value.int := by rw [h, List.map_set]
theorem own_get_i {n t : Int32} {l : List Int32} (ht : ¬ t < 0) (hn : t < n) (hl : t.toNatClampNeg < l.length) : own_get n l t = some (l.getD t.toNatClampNeg 0) := by
  unfold own_get; rw [if_neg ht, if_pos hn, List.getD, List.getElem?_eq_getElem hl]; rfl
def own_mark (n : Int32) (lE lP lB lG lM lT : List Int32) (tc s : Int32) : Option (Int32 × List Int32 × List Int32 × List Int32 × List Int32 × Int32) :=
  (own_get n lB s).bind fun vb => (own_get n lP s).bind fun vp => (own_get n lM vb).bind fun ve =>
    if vp < ve then some ((0 : Int32), lE, lP, lM, lT, tc) else
    (own_get n lG vb).bind fun vg => (if ve = vg then (own_put n lT tc vb).bind fun T2 => some (T2, tc + (1 : Int32)) else some (lT, tc)).bind fun q =>
    (own_get n lE ve).bind fun vo => (own_put n lE ve s).bind fun E1 => (own_put n lP s ve).bind fun P1 => (own_put n E1 vp vo).bind fun E2 => (own_put n P1 vo vp).bind fun P2 =>
    (own_put n lM vb (ve + (1 : Int32))).bind fun M1 => some ((1 : Int32), E2, P2, M1, q.1, q.2)
def own_newb (n : Int32) (lE lB lG lN lM lF : List Int32) (bc : Int32) : Option (List Int32 × List Int32 × List Int32 × List Int32 × List Int32) :=
  (own_put n lF bc (0 : Int32)).bind fun F1 => (own_put n lG bc (0 : Int32)).bind fun G1 => (own_put n lN bc (1 : Int32)).bind fun N1 => (own_put n lM bc (0 : Int32)).bind fun M1 =>
  (own_get n lE (0 : Int32)).bind fun vo => (own_put n lB vo bc).bind fun B1 => some (B1, G1, N1, M1, F1)
def own_split (n : Int32) (lE lB lG lN lM lF : List Int32) (bc : Int32) : Option (List Int32 × List Int32 × List Int32 × List Int32 × List Int32) :=
  (own_newb n lE lB lG lN lM lF bc).bind fun q => (own_put n q.2.1 (0 : Int32) (1 : Int32)).bind fun G2 => some (q.1, G2, q.2.2.1, q.2.2.2.1, q.2.2.2.2)
def own_blk (p s : Int32) : Int32 := if p = (0 : Int32) then (0 : Int32) else if s = (0 : Int32) then (1 : Int32) else (0 : Int32)
def own_beg (p b : Int32) : Int32 := if p = (0 : Int32) then (0 : Int32) else if b = (1 : Int32) then (0 : Int32) else (1 : Int32)
def own_bit (v n : Int32) : Int32 := if v < (0 : Int32) then (0 : Int32) else if v < n then ((1 : Int32) <<< (v &&& 31)) else (0 : Int32)
def own_at (n : Int32) (l : List Int32) (t : Int32) : Int32 := if t < n then l.getD t.toNatClampNeg 0 else (-1 : Int32)
def own_E (n : Int32) : List Int32 := [(0 : Int32), if ((0 : Int32) + (1 : Int32)) < n then ((0 : Int32) + (1 : Int32)) else (0 : Int32), if (((0 : Int32) + (1 : Int32)) + (1 : Int32)) < n then (((0 : Int32) + (1 : Int32)) + (1 : Int32)) else (0 : Int32), if ((((0 : Int32) + (1 : Int32)) + (1 : Int32)) + (1 : Int32)) < n then ((((0 : Int32) + (1 : Int32)) + (1 : Int32)) + (1 : Int32)) else (0 : Int32)]
def own_Z4 : List Int32 := [(0 : Int32), (0 : Int32), (0 : Int32), (0 : Int32)]
theorem own_four {nn : Int32} (h : ¬ (4 : Int32) < nn) : ¬ (((((0 : Int32) + (1 : Int32)) + (1 : Int32)) + (1 : Int32)) + (1 : Int32)) < nn := by
  have e : (((((0 : Int32) + (1 : Int32)) + (1 : Int32)) + (1 : Int32)) + (1 : Int32)) = 4 := by decide
  rw [e]; exact h
theorem own_up {n : Int32} : (¬ ((0 : Int32) + (1 : Int32)) < n → ¬ (((0 : Int32) + (1 : Int32)) + (1 : Int32)) < n) ∧ (¬ (((0 : Int32) + (1 : Int32)) + (1 : Int32)) < n → ¬ ((((0 : Int32) + (1 : Int32)) + (1 : Int32)) + (1 : Int32)) < n) := by
  have e1 : ((0 : Int32) + (1 : Int32)).toInt = 1 := by decide
  have e2 : (((0 : Int32) + (1 : Int32)) + (1 : Int32)).toInt = 2 := by decide
  have e3 : ((((0 : Int32) + (1 : Int32)) + (1 : Int32)) + (1 : Int32)).toInt = 3 := by decide
  rw [Int32.lt_iff_toInt_lt, Int32.lt_iff_toInt_lt, Int32.lt_iff_toInt_lt, e1, e2, e3]
  omega
theorem own_E1 {n : Int32} (h : ¬ ((0 : Int32) + (1 : Int32)) < n) : own_E n = [(0 : Int32), (0 : Int32), (0 : Int32), (0 : Int32)] := by
  have h2 := own_up.1 h
  have h3 := own_up.2 h2
  simp only [own_E, if_neg h, if_neg h2, if_neg h3]
theorem own_E2 {n : Int32} (h1 : ((0 : Int32) + (1 : Int32)) < n) (h : ¬ (((0 : Int32) + (1 : Int32)) + (1 : Int32)) < n) : own_E n = [(0 : Int32), ((0 : Int32) + (1 : Int32)), (0 : Int32), (0 : Int32)] := by
  have h3 := own_up.2 h
  simp only [own_E, if_pos h1, if_neg h, if_neg h3]
theorem own_E3 {n : Int32} (h1 : ((0 : Int32) + (1 : Int32)) < n) (h2 : (((0 : Int32) + (1 : Int32)) + (1 : Int32)) < n) (h : ¬ ((((0 : Int32) + (1 : Int32)) + (1 : Int32)) + (1 : Int32)) < n) : own_E n = [(0 : Int32), ((0 : Int32) + (1 : Int32)), (((0 : Int32) + (1 : Int32)) + (1 : Int32)), (0 : Int32)] := by
  simp only [own_E, if_pos h1, if_pos h2, if_neg h]
theorem own_E4 {n : Int32} (h1 : ((0 : Int32) + (1 : Int32)) < n) (h2 : (((0 : Int32) + (1 : Int32)) + (1 : Int32)) < n) (h : ((((0 : Int32) + (1 : Int32)) + (1 : Int32)) + (1 : Int32)) < n) : own_E n = [(0 : Int32), ((0 : Int32) + (1 : Int32)), (((0 : Int32) + (1 : Int32)) + (1 : Int32)), ((((0 : Int32) + (1 : Int32)) + (1 : Int32)) + (1 : Int32))] := by
  simp only [own_E, if_pos h1, if_pos h2, if_pos h]
/-- what holds at the end: the law's own tests -/
def own_sm (pre x y : Int32) : Int32 := if own_blk pre x = own_blk pre y then (1 : Int32) else (0 : Int32)
def own_ds (x y : Int32) : Int32 := if x = y then (0 : Int32) else (1 : Int32)
abbrev own_fin (n pre x y rx ry : Int32) (lE lM lT : List Int32) (tc : Int32) : Prop :=
  rx = 1 ∧ ry = own_ds x y ∧ tc = (if own_sm pre x y = 0 then 2 else 1) ∧ own_get n lT 0 = some (own_blk pre x) ∧ (own_sm pre x y = 0 → own_get n lT 1 = some (own_blk pre y)) ∧
  own_get n lM (own_blk pre x) = some (own_beg pre (own_blk pre x) + (if own_sm pre x y = 0 then 1 else if own_ds x y = 0 then 1 else 2)) ∧ (own_sm pre x y = 0 → own_get n lM (own_blk pre y) = some (own_beg pre (own_blk pre y) + 1)) ∧ lE.length = 4 ∧
  (((own_bit (own_at n lE 0) n ||| own_bit (own_at n lE 1) n) ||| own_bit (own_at n lE 2) n) ||| own_bit (own_at n lE 3) n) = ((1 : Int32) <<< (n &&& 31)) - 1 ∧
  own_get 4 [own_at n lE 0, own_at n lE 1, own_at n lE 2, own_at n lE 3] (own_beg pre (own_blk pre x)) = some x ∧
  (¬ own_ds x y = 0 → own_get 4 [own_at n lE 0, own_at n lE 1, own_at n lE 2, own_at n lE 3] (own_beg pre (own_blk pre y) + (if own_sm pre x y = 0 then 0 else 1)) = some y)
def own_N4 (n : Int32) : List Int32 := [n, (0 : Int32), (0 : Int32), (0 : Int32)]
def own_ok (n pre x y : Int32) : Bool :=
  if pre = 0 then
    (match own_mark n (own_E n) (own_E n) own_Z4 own_Z4 own_Z4 own_Z4 0 x with
    | none => false
    | some (rx, E1, P1, M1, T1, t1) => match own_mark n E1 P1 own_Z4 own_Z4 M1 T1 t1 y with
      | none => false
      | some (ry, E2, P2, M2, T2, t2) => decide (own_fin n pre x y rx ry E2 M2 T2 t2))
  else
    (match own_mark n (own_E n) (own_E n) own_Z4 own_Z4 own_Z4 own_Z4 0 0 with
    | none => false
    | some (r0, Ea, Pa, Ma, Ta, ta) => match own_split n Ea own_Z4 own_Z4 (own_N4 n) Ma own_Z4 1 with
      | none => false
      | some (Bb, Gb, Nb, Mb, Fb) => decide (r0 = 1) && decide (own_get n Ma 0 = some 1) && decide (own_get n own_Z4 0 = some 0) && (match own_mark n Ea Pa Bb Gb Mb Ta 0 x with
        | none => false
        | some (rx, E1, P1, M1, T1, t1) => match own_mark n E1 P1 Bb Gb M1 T1 t1 y with
          | none => false
          | some (ry, E2, P2, M2, T2, t2) => decide (own_fin n pre x y rx ry E2 M2 T2 t2)))
theorem own_all : ∀ (k : Fin 4) (p : Fin 2) (x y : Fin 4), x.1 ≤ k.1 → y.1 ≤ k.1 → (p.1 = 1 → 1 ≤ k.1) → own_ok (Int32.ofNat (k.1 + 1)) (Int32.ofNat p.1) (Int32.ofNat x.1) (Int32.ofNat y.1) = true := by decide +kernel
/-- the states that the two calls (and, where pre, the three ahead of them) leave -/
def own_run (n pre x y rx ry : Int32) (lE lP lB lG lN lM lF lT : List Int32) (bc tc : Int32) : Prop :=
  (pre = 0 → ∃ E1 P1 M1 T1 t1, own_mark n (own_E n) (own_E n) own_Z4 own_Z4 own_Z4 own_Z4 0 x = some (rx, E1, P1, M1, T1, t1) ∧ own_mark n E1 P1 own_Z4 own_Z4 M1 T1 t1 y = some (ry, lE, lP, lM, lT, tc) ∧ lB = own_Z4 ∧ lG = own_Z4 ∧ lN = own_N4 n ∧ lF = own_Z4 ∧ bc = 1) ∧
  (¬ pre = 0 → ∃ Ea Pa Ma Ta ta Mb E1 P1 M1 T1 t1, own_mark n (own_E n) (own_E n) own_Z4 own_Z4 own_Z4 own_Z4 0 0 = some ((1 : Int32), Ea, Pa, Ma, Ta, ta) ∧ own_get n Ma 0 = some 1 ∧ own_get n own_Z4 0 = some 0 ∧ own_split n Ea own_Z4 own_Z4 (own_N4 n) Ma own_Z4 1 = some (lB, lG, lN, Mb, lF) ∧ own_mark n Ea Pa lB lG Mb Ta 0 x = some (rx, E1, P1, M1, T1, t1) ∧ own_mark n E1 P1 lB lG M1 T1 t1 y = some (ry, lE, lP, lM, lT, tc) ∧ bc = 2)
theorem own_ok_e {n pre x y : Int32} (h : own_ok n pre x y = true) : ∃ rx ry lE lP lB lG lN lM lF lT bc tc, own_run n pre x y rx ry lE lP lB lG lN lM lF lT bc tc ∧ own_fin n pre x y rx ry lE lM lT tc := by
  unfold own_ok at h
  by_cases hp : pre = 0
  · rw [if_pos hp] at h
    cases h1 : own_mark n (own_E n) (own_E n) own_Z4 own_Z4 own_Z4 own_Z4 0 x with
    | none => rw [h1] at h; cases h
    | some q =>
      obtain ⟨rx, E1, P1, M1, T1, t1⟩ := q
      rw [h1] at h
      dsimp only at h
      cases h2 : own_mark n E1 P1 own_Z4 own_Z4 M1 T1 t1 y with
      | none => rw [h2] at h; cases h
      | some q =>
        obtain ⟨ry, E2, P2, M2, T2, t2⟩ := q
        rw [h2] at h
        dsimp only at h
        exact ⟨rx, ry, E2, P2, own_Z4, own_Z4, own_N4 n, M2, own_Z4, T2, 1, t2, ⟨fun _ => ⟨E1, P1, M1, T1, t1, h1, h2, rfl, rfl, rfl, rfl, rfl⟩, fun z => absurd hp z⟩, of_decide_eq_true h⟩
  · rw [if_neg hp] at h
    cases h0 : own_mark n (own_E n) (own_E n) own_Z4 own_Z4 own_Z4 own_Z4 0 0 with
    | none => rw [h0] at h; cases h
    | some q =>
      obtain ⟨r0, Ea, Pa, Ma, Ta, ta⟩ := q
      rw [h0] at h
      dsimp only at h
      cases hs : own_split n Ea own_Z4 own_Z4 (own_N4 n) Ma own_Z4 1 with
      | none => rw [hs] at h; cases h
      | some q =>
        obtain ⟨Bb, Gb, Nb, Mb, Fb⟩ := q
        rw [hs] at h
        dsimp only at h
        rw [Bool.and_eq_true, Bool.and_eq_true, Bool.and_eq_true] at h
        obtain ⟨⟨⟨g1, g2⟩, g3⟩, h⟩ := h
        have g1 := of_decide_eq_true g1
        subst g1
        cases h1 : own_mark n Ea Pa Bb Gb Mb Ta 0 x with
        | none => rw [h1] at h; cases h
        | some q =>
          obtain ⟨rx, E1, P1, M1, T1, t1⟩ := q
          rw [h1] at h
          dsimp only at h
          cases h2 : own_mark n E1 P1 Bb Gb M1 T1 t1 y with
          | none => rw [h2] at h; cases h
          | some q =>
            obtain ⟨ry, E2, P2, M2, T2, t2⟩ := q
            rw [h2] at h
            dsimp only at h
            exact ⟨rx, ry, E2, P2, Bb, Gb, Nb, M2, Fb, T2, 2, t2, ⟨fun z => absurd z hp, fun _ => ⟨Ea, Pa, Ma, Ta, ta, Mb, E1, P1, M1, T1, t1, h0, of_decide_eq_true g2, of_decide_eq_true g3, hs, h1, h2, rfl⟩⟩, of_decide_eq_true h⟩
theorem own_of (x : Int32) (n : Nat) (h0 : 0 ≤ x.toInt) (h1 : x.toInt < n) (hn : n < 2147483648) : ∃ k : Fin n, x = Int32.ofNat k.1 := by
  refine ⟨⟨x.toInt.toNat, by omega⟩, ?_⟩
  apply Int32.toInt_inj.mp
  rw [Int32.toInt_ofNat_of_lt (by show x.toInt.toNat < _; omega)]
  show x.toInt = ((x.toInt.toNat : Nat) : Int)
  omega
theorem own_num {q nn : Int32} (h : nn = ((1 : Int32) + (q &&& (3 : Int32)))) : 1 ≤ nn.toInt ∧ nn.toInt ≤ 4 := by
  have e1 := c_mask q 3 2 (by decide) (by decide)
  have e2 := c_iadd 1 (q &&& 3)
  rw [← h] at e2
  have e3 : (1 : Int32).toInt = 1 := by decide
  have := rng32 nn
  omega
theorem own_nums {nn : Int32} (h : 1 ≤ nn.toInt ∧ nn.toInt ≤ 4) : ¬ nn < 0 ∧ (0 : Int32) < nn ∧ ¬ (4 : Int32) < nn ∧ nn.toNatClampNeg ≤ 4 ∧ nn ≠ 0 := by
  have e0 : (0 : Int32).toInt = 0 := by decide
  have e4 : (4 : Int32).toInt = 4 := by decide
  refine ⟨by rw [Int32.lt_iff_toInt_lt]; omega, by rw [Int32.lt_iff_toInt_lt]; omega, by rw [Int32.lt_iff_toInt_lt]; omega, by rw [Int32.toNatClampNeg]; omega, fun q => ?_⟩
  rw [q] at h; omega
theorem own_rem {q nn x : Int32} (hn : 1 ≤ nn.toInt ∧ nn.toInt ≤ 4) (h : x = ((q &&& (2147483647 : Int32)) % nn)) : 0 ≤ x.toInt ∧ x.toInt < nn.toInt := by
  have e1 := c_mask q 2147483647 31 (by decide) (by decide)
  have e2 := (c_iremV (q &&& 2147483647) nn).1 (by omega) (by omega)
  rw [← h] at e2
  exact ⟨e2.1, e2.2.1⟩
theorem own_cfg {q1 nn pre x y : Int32} (hn : 1 ≤ nn.toInt ∧ nn.toInt ≤ 4) (hp : pre = (if (q1 &&& (1 : Int32)) = (0 : Int32) then (0 : Int32) else (if nn < (2 : Int32) then (0 : Int32) else (1 : Int32)))) (hx : 0 ≤ x.toInt ∧ x.toInt < nn.toInt) (hy : 0 ≤ y.toInt ∧ y.toInt < nn.toInt) :
    ∃ rx ry lE lP lB lG lN lM lF lT bc tc, own_run nn pre x y rx ry lE lP lB lG lN lM lF lT bc tc ∧ own_fin nn pre x y rx ry lE lM lT tc := by
  apply own_ok_e
  have hk : ∃ k : Fin 4, nn = Int32.ofNat (k.1 + 1) := by
    refine ⟨⟨nn.toInt.toNat - 1, by omega⟩, ?_⟩
    apply Int32.toInt_inj.mp
    rw [Int32.toInt_ofNat_of_lt (by show nn.toInt.toNat - 1 + 1 < _; omega)]
    show nn.toInt = ((nn.toInt.toNat - 1 + 1 : Nat) : Int)
    omega
  obtain ⟨k, ek⟩ := hk
  have tk : nn.toInt = k.1 + 1 := by rw [ek, Int32.toInt_ofNat_of_lt (by omega)]; omega
  obtain ⟨x', ex⟩ := own_of x 4 hx.1 (by omega) (by decide)
  have tx : x.toInt = x'.1 := by rw [ex, Int32.toInt_ofNat_of_lt (by omega)]
  obtain ⟨y', ey⟩ := own_of y 4 hy.1 (by omega) (by decide)
  have ty : y.toInt = y'.1 := by rw [ey, Int32.toInt_ofNat_of_lt (by omega)]
  have hp' : ∃ p : Fin 2, pre = Int32.ofNat p.1 ∧ (p.1 = 1 → 1 ≤ k.1) := by
    by_cases c1 : (q1 &&& (1 : Int32)) = (0 : Int32)
    · rw [if_pos c1] at hp; exact ⟨0, hp, fun q => by cases q⟩
    · rw [if_neg c1] at hp
      by_cases c2 : nn < (2 : Int32)
      · rw [if_pos c2] at hp; exact ⟨0, hp, fun q => by cases q⟩
      · rw [if_neg c2] at hp
        refine ⟨1, hp, fun _ => ?_⟩
        rw [Int32.lt_iff_toInt_lt] at c2
        have : (2 : Int32).toInt = 2 := by decide
        omega
  obtain ⟨p, ep, hpk⟩ := hp'
  rw [ek, ep, ex, ey]
  exact own_all k p x' y' (by omega) (by omega) hpk
theorem own_ps1 {ds sm gy yy : Int32} {li : List Int32} (h : ¬ ds = (0 : Int32) → own_get 4 li (gy + (if sm = (0 : Int32) then (0 : Int32) else (1 : Int32))) = some yy) (h1 : ¬ ds = (0 : Int32)) (h2 : sm = (0 : Int32)) : (¬ (gy + (0 : Int32)) < 0 ∧ (gy + (0 : Int32)) < 4) ∧ li[(gy + (0 : Int32)).toNatClampNeg]? = some yy := by
  have q := h h1
  rw [if_pos h2] at q
  exact own_get_e q
theorem own_ps2 {ds sm gy yy : Int32} {li : List Int32} (h : ¬ ds = (0 : Int32) → own_get 4 li (gy + (if sm = (0 : Int32) then (0 : Int32) else (1 : Int32))) = some yy) (h1 : ¬ ds = (0 : Int32)) (h2 : ¬ sm = (0 : Int32)) : (¬ (gy + (1 : Int32)) < 0 ∧ (gy + (1 : Int32)) < 4) ∧ li[(gy + (1 : Int32)).toNatClampNeg]? = some yy := by
  have q := h h1
  rw [if_neg h2] at q
  exact own_get_e q

theorem d1_0 : decode prog_61_method_1_code 0 = .ok (.aload_n 0, 1) := by decide +kernel
theorem d1_1 : decode prog_61_method_1_code 1 = .ok (.invokespecial 1, 3) := by decide +kernel
theorem d1_4 : decode prog_61_method_1_code 4 = .ok (.aload_n 0, 1) := by decide +kernel
theorem d1_5 : decode prog_61_method_1_code 5 = .ok (.iconst 1, 1) := by decide +kernel
theorem d1_6 : decode prog_61_method_1_code 6 = .ok (.putfield 7, 3) := by decide +kernel
theorem d1_9 : decode prog_61_method_1_code 9 = .ok (.aload_n 0, 1) := by decide +kernel
theorem d1_10 : decode prog_61_method_1_code 10 = .ok (.iload_n 1, 1) := by decide +kernel
theorem d1_11 : decode prog_61_method_1_code 11 = .ok (.newarray .int, 2) := by decide +kernel
theorem d1_13 : decode prog_61_method_1_code 13 = .ok (.putfield 13, 3) := by decide +kernel
theorem d1_16 : decode prog_61_method_1_code 16 = .ok (.aload_n 0, 1) := by decide +kernel
theorem d1_17 : decode prog_61_method_1_code 17 = .ok (.iload_n 1, 1) := by decide +kernel
theorem d1_18 : decode prog_61_method_1_code 18 = .ok (.newarray .int, 2) := by decide +kernel
theorem d1_20 : decode prog_61_method_1_code 20 = .ok (.putfield 17, 3) := by decide +kernel
theorem d1_23 : decode prog_61_method_1_code 23 = .ok (.iconst 0, 1) := by decide +kernel
theorem d1_24 : decode prog_61_method_1_code 24 = .ok (.istore_n 2, 1) := by decide +kernel
theorem d1_25 : decode prog_61_method_1_code 25 = .ok (.iload_n 2, 1) := by decide +kernel
theorem d1_26 : decode prog_61_method_1_code 26 = .ok (.iload_n 1, 1) := by decide +kernel
theorem d1_27 : decode prog_61_method_1_code 27 = .ok (.if_icmp .ge 23, 3) := by decide +kernel
theorem d1_30 : decode prog_61_method_1_code 30 = .ok (.aload_n 0, 1) := by decide +kernel
theorem d1_31 : decode prog_61_method_1_code 31 = .ok (.getfield 13, 3) := by decide +kernel
theorem d1_34 : decode prog_61_method_1_code 34 = .ok (.iload_n 2, 1) := by decide +kernel
theorem d1_35 : decode prog_61_method_1_code 35 = .ok (.iload_n 2, 1) := by decide +kernel
theorem d1_36 : decode prog_61_method_1_code 36 = .ok (.iastore, 1) := by decide +kernel
theorem d1_37 : decode prog_61_method_1_code 37 = .ok (.aload_n 0, 1) := by decide +kernel
theorem d1_38 : decode prog_61_method_1_code 38 = .ok (.getfield 17, 3) := by decide +kernel
theorem d1_41 : decode prog_61_method_1_code 41 = .ok (.iload_n 2, 1) := by decide +kernel
theorem d1_42 : decode prog_61_method_1_code 42 = .ok (.iload_n 2, 1) := by decide +kernel
theorem d1_43 : decode prog_61_method_1_code 43 = .ok (.iastore, 1) := by decide +kernel
theorem d1_44 : decode prog_61_method_1_code 44 = .ok (.iinc 2 1, 3) := by decide +kernel
theorem d1_47 : decode prog_61_method_1_code 47 = .ok (.goto (-22), 3) := by decide +kernel
theorem d1_50 : decode prog_61_method_1_code 50 = .ok (.aload_n 0, 1) := by decide +kernel
theorem d1_51 : decode prog_61_method_1_code 51 = .ok (.iload_n 1, 1) := by decide +kernel
theorem d1_52 : decode prog_61_method_1_code 52 = .ok (.newarray .int, 2) := by decide +kernel
theorem d1_54 : decode prog_61_method_1_code 54 = .ok (.putfield 20, 3) := by decide +kernel
theorem d1_57 : decode prog_61_method_1_code 57 = .ok (.aload_n 0, 1) := by decide +kernel
theorem d1_58 : decode prog_61_method_1_code 58 = .ok (.iload_n 1, 1) := by decide +kernel
theorem d1_59 : decode prog_61_method_1_code 59 = .ok (.newarray .int, 2) := by decide +kernel
theorem d1_61 : decode prog_61_method_1_code 61 = .ok (.putfield 23, 3) := by decide +kernel
theorem d1_64 : decode prog_61_method_1_code 64 = .ok (.aload_n 0, 1) := by decide +kernel
theorem d1_65 : decode prog_61_method_1_code 65 = .ok (.iload_n 1, 1) := by decide +kernel
theorem d1_66 : decode prog_61_method_1_code 66 = .ok (.newarray .int, 2) := by decide +kernel
theorem d1_68 : decode prog_61_method_1_code 68 = .ok (.putfield 26, 3) := by decide +kernel
theorem d1_71 : decode prog_61_method_1_code 71 = .ok (.aload_n 0, 1) := by decide +kernel
theorem d1_72 : decode prog_61_method_1_code 72 = .ok (.iload_n 1, 1) := by decide +kernel
theorem d1_73 : decode prog_61_method_1_code 73 = .ok (.newarray .int, 2) := by decide +kernel
theorem d1_75 : decode prog_61_method_1_code 75 = .ok (.putfield 29, 3) := by decide +kernel
theorem d1_78 : decode prog_61_method_1_code 78 = .ok (.aload_n 0, 1) := by decide +kernel
theorem d1_79 : decode prog_61_method_1_code 79 = .ok (.getfield 26, 3) := by decide +kernel
theorem d1_82 : decode prog_61_method_1_code 82 = .ok (.iconst 0, 1) := by decide +kernel
theorem d1_83 : decode prog_61_method_1_code 83 = .ok (.iload_n 1, 1) := by decide +kernel
theorem d1_84 : decode prog_61_method_1_code 84 = .ok (.iastore, 1) := by decide +kernel
theorem d1_85 : decode prog_61_method_1_code 85 = .ok (.aload_n 0, 1) := by decide +kernel
theorem d1_86 : decode prog_61_method_1_code 86 = .ok (.iload_n 1, 1) := by decide +kernel
theorem d1_87 : decode prog_61_method_1_code 87 = .ok (.newarray .int, 2) := by decide +kernel
theorem d1_89 : decode prog_61_method_1_code 89 = .ok (.putfield 32, 3) := by decide +kernel
theorem d1_92 : decode prog_61_method_1_code 92 = .ok (.aload_n 0, 1) := by decide +kernel
theorem d1_93 : decode prog_61_method_1_code 93 = .ok (.iload_n 1, 1) := by decide +kernel
theorem d1_94 : decode prog_61_method_1_code 94 = .ok (.newarray .int, 2) := by decide +kernel
theorem d1_96 : decode prog_61_method_1_code 96 = .ok (.putfield 35, 3) := by decide +kernel
theorem d1_99 : decode prog_61_method_1_code 99 = .ok (.return_, 1) := by decide +kernel
theorem pn_1 : plainName "com/example/yealm/yealm/equiv/RefinablePartition" = true := by first | (simp [plainName, overriddenIn]; done) | decide +kernel
theorem d3_0 : decode prog_61_method_10_code 0 = .ok (.aload_n 0, 1) := by decide +kernel
theorem d3_1 : decode prog_61_method_10_code 1 = .ok (.getfield 20, 3) := by decide +kernel
theorem d3_4 : decode prog_61_method_10_code 4 = .ok (.iload_n 1, 1) := by decide +kernel
theorem d3_5 : decode prog_61_method_10_code 5 = .ok (.iaload, 1) := by decide +kernel
theorem d3_6 : decode prog_61_method_10_code 6 = .ok (.istore_n 2, 1) := by decide +kernel
theorem d3_7 : decode prog_61_method_10_code 7 = .ok (.aload_n 0, 1) := by decide +kernel
theorem d3_8 : decode prog_61_method_10_code 8 = .ok (.getfield 17, 3) := by decide +kernel
theorem d3_11 : decode prog_61_method_10_code 11 = .ok (.iload_n 1, 1) := by decide +kernel
theorem d3_12 : decode prog_61_method_10_code 12 = .ok (.iaload, 1) := by decide +kernel
theorem d3_13 : decode prog_61_method_10_code 13 = .ok (.istore_n 3, 1) := by decide +kernel
theorem d3_14 : decode prog_61_method_10_code 14 = .ok (.aload_n 0, 1) := by decide +kernel
theorem d3_15 : decode prog_61_method_10_code 15 = .ok (.getfield 29, 3) := by decide +kernel
theorem d3_18 : decode prog_61_method_10_code 18 = .ok (.iload_n 2, 1) := by decide +kernel
theorem d3_19 : decode prog_61_method_10_code 19 = .ok (.iaload, 1) := by decide +kernel
theorem d3_20 : decode prog_61_method_10_code 20 = .ok (.istore 4, 2) := by decide +kernel
theorem d3_22 : decode prog_61_method_10_code 22 = .ok (.iload_n 3, 1) := by decide +kernel
theorem d3_23 : decode prog_61_method_10_code 23 = .ok (.iload 4, 2) := by decide +kernel
theorem d3_25 : decode prog_61_method_10_code 25 = .ok (.if_icmp .ge 5, 3) := by decide +kernel
theorem d3_28 : decode prog_61_method_10_code 28 = .ok (.iconst 0, 1) := by decide +kernel
theorem d3_29 : decode prog_61_method_10_code 29 = .ok (.ireturn, 1) := by decide +kernel
theorem d3_30 : decode prog_61_method_10_code 30 = .ok (.iload 4, 2) := by decide +kernel
theorem d3_32 : decode prog_61_method_10_code 32 = .ok (.aload_n 0, 1) := by decide +kernel
theorem d3_33 : decode prog_61_method_10_code 33 = .ok (.getfield 23, 3) := by decide +kernel
theorem d3_36 : decode prog_61_method_10_code 36 = .ok (.iload_n 2, 1) := by decide +kernel
theorem d3_37 : decode prog_61_method_10_code 37 = .ok (.iaload, 1) := by decide +kernel
theorem d3_38 : decode prog_61_method_10_code 38 = .ok (.if_icmp .ne 20, 3) := by decide +kernel
theorem d3_41 : decode prog_61_method_10_code 41 = .ok (.aload_n 0, 1) := by decide +kernel
theorem d3_42 : decode prog_61_method_10_code 42 = .ok (.getfield 35, 3) := by decide +kernel
theorem d3_45 : decode prog_61_method_10_code 45 = .ok (.aload_n 0, 1) := by decide +kernel
theorem d3_46 : decode prog_61_method_10_code 46 = .ok (.dup, 1) := by decide +kernel
theorem d3_47 : decode prog_61_method_10_code 47 = .ok (.getfield 38, 3) := by decide +kernel
theorem d3_50 : decode prog_61_method_10_code 50 = .ok (.dup_x1, 1) := by decide +kernel
theorem d3_51 : decode prog_61_method_10_code 51 = .ok (.iconst 1, 1) := by decide +kernel
theorem d3_52 : decode prog_61_method_10_code 52 = .ok (.iadd, 1) := by decide +kernel
theorem d3_53 : decode prog_61_method_10_code 53 = .ok (.putfield 38, 3) := by decide +kernel
theorem d3_56 : decode prog_61_method_10_code 56 = .ok (.iload_n 2, 1) := by decide +kernel
theorem d3_57 : decode prog_61_method_10_code 57 = .ok (.iastore, 1) := by decide +kernel
theorem d3_58 : decode prog_61_method_10_code 58 = .ok (.aload_n 0, 1) := by decide +kernel
theorem d3_59 : decode prog_61_method_10_code 59 = .ok (.getfield 13, 3) := by decide +kernel
theorem d3_62 : decode prog_61_method_10_code 62 = .ok (.iload 4, 2) := by decide +kernel
theorem d3_64 : decode prog_61_method_10_code 64 = .ok (.iaload, 1) := by decide +kernel
theorem d3_65 : decode prog_61_method_10_code 65 = .ok (.istore 5, 2) := by decide +kernel
theorem d3_67 : decode prog_61_method_10_code 67 = .ok (.aload_n 0, 1) := by decide +kernel
theorem d3_68 : decode prog_61_method_10_code 68 = .ok (.getfield 13, 3) := by decide +kernel
theorem d3_71 : decode prog_61_method_10_code 71 = .ok (.iload 4, 2) := by decide +kernel
theorem d3_73 : decode prog_61_method_10_code 73 = .ok (.iload_n 1, 1) := by decide +kernel
theorem d3_74 : decode prog_61_method_10_code 74 = .ok (.iastore, 1) := by decide +kernel
theorem d3_75 : decode prog_61_method_10_code 75 = .ok (.aload_n 0, 1) := by decide +kernel
theorem d3_76 : decode prog_61_method_10_code 76 = .ok (.getfield 17, 3) := by decide +kernel
theorem d3_79 : decode prog_61_method_10_code 79 = .ok (.iload_n 1, 1) := by decide +kernel
theorem d3_80 : decode prog_61_method_10_code 80 = .ok (.iload 4, 2) := by decide +kernel
theorem d3_82 : decode prog_61_method_10_code 82 = .ok (.iastore, 1) := by decide +kernel
theorem d3_83 : decode prog_61_method_10_code 83 = .ok (.aload_n 0, 1) := by decide +kernel
theorem d3_84 : decode prog_61_method_10_code 84 = .ok (.getfield 13, 3) := by decide +kernel
theorem d3_87 : decode prog_61_method_10_code 87 = .ok (.iload_n 3, 1) := by decide +kernel
theorem d3_88 : decode prog_61_method_10_code 88 = .ok (.iload 5, 2) := by decide +kernel
theorem d3_90 : decode prog_61_method_10_code 90 = .ok (.iastore, 1) := by decide +kernel
theorem d3_91 : decode prog_61_method_10_code 91 = .ok (.aload_n 0, 1) := by decide +kernel
theorem d3_92 : decode prog_61_method_10_code 92 = .ok (.getfield 17, 3) := by decide +kernel
theorem d3_95 : decode prog_61_method_10_code 95 = .ok (.iload 5, 2) := by decide +kernel
theorem d3_97 : decode prog_61_method_10_code 97 = .ok (.iload_n 3, 1) := by decide +kernel
theorem d3_98 : decode prog_61_method_10_code 98 = .ok (.iastore, 1) := by decide +kernel
theorem d3_99 : decode prog_61_method_10_code 99 = .ok (.aload_n 0, 1) := by decide +kernel
theorem d3_100 : decode prog_61_method_10_code 100 = .ok (.getfield 29, 3) := by decide +kernel
theorem d3_103 : decode prog_61_method_10_code 103 = .ok (.iload_n 2, 1) := by decide +kernel
theorem d3_104 : decode prog_61_method_10_code 104 = .ok (.iload 4, 2) := by decide +kernel
theorem d3_106 : decode prog_61_method_10_code 106 = .ok (.iconst 1, 1) := by decide +kernel
theorem d3_107 : decode prog_61_method_10_code 107 = .ok (.iadd, 1) := by decide +kernel
theorem d3_108 : decode prog_61_method_10_code 108 = .ok (.iastore, 1) := by decide +kernel
theorem d3_109 : decode prog_61_method_10_code 109 = .ok (.iconst 1, 1) := by decide +kernel
theorem d3_110 : decode prog_61_method_10_code 110 = .ok (.ireturn, 1) := by decide +kernel
theorem pn_3 : plainName "com/example/yealm/yealm/equiv/RefinablePartition" = true := by first | (simp [plainName, overriddenIn]; done) | decide +kernel
theorem d4_0 : decode method_2_code 0 = .ok (.iload_n 0, 1) := by decide +kernel
theorem d4_1 : decode method_2_code 1 = .ok (.ifCond .eq 11, 3) := by decide +kernel
theorem d4_4 : decode method_2_code 4 = .ok (.iload_n 1, 1) := by decide +kernel
theorem d4_5 : decode method_2_code 5 = .ok (.ifCond .ne 7, 3) := by decide +kernel
theorem d4_8 : decode method_2_code 8 = .ok (.iconst 1, 1) := by decide +kernel
theorem d4_9 : decode method_2_code 9 = .ok (.goto 4, 3) := by decide +kernel
theorem d4_12 : decode method_2_code 12 = .ok (.iconst 0, 1) := by decide +kernel
theorem d4_13 : decode method_2_code 13 = .ok (.ireturn, 1) := by decide +kernel
theorem pn_4 : plainName "com/example/yealm/yealm/equiv/RefinablePartitionMarkPinLaw" = true := by first | (simp [plainName, overriddenIn]; done) | decide +kernel
theorem d5_0 : decode method_3_code 0 = .ok (.iload_n 0, 1) := by decide +kernel
theorem d5_1 : decode method_3_code 1 = .ok (.ifCond .ne 5, 3) := by decide +kernel
theorem d5_4 : decode method_3_code 4 = .ok (.iconst 0, 1) := by decide +kernel
theorem d5_5 : decode method_3_code 5 = .ok (.ireturn, 1) := by decide +kernel
theorem d5_6 : decode method_3_code 6 = .ok (.iload_n 1, 1) := by decide +kernel
theorem d5_7 : decode method_3_code 7 = .ok (.iconst 1, 1) := by decide +kernel
theorem d5_8 : decode method_3_code 8 = .ok (.if_icmp .ne 7, 3) := by decide +kernel
theorem d5_11 : decode method_3_code 11 = .ok (.iconst 0, 1) := by decide +kernel
theorem d5_12 : decode method_3_code 12 = .ok (.goto 4, 3) := by decide +kernel
theorem d5_15 : decode method_3_code 15 = .ok (.iconst 1, 1) := by decide +kernel
theorem d5_16 : decode method_3_code 16 = .ok (.ireturn, 1) := by decide +kernel
theorem pn_5 : plainName "com/example/yealm/yealm/equiv/RefinablePartitionMarkPinLaw" = true := by first | (simp [plainName, overriddenIn]; done) | decide +kernel
theorem d6_0 : decode prog_61_method_11_code 0 = .ok (.aload_n 0, 1) := by decide +kernel
theorem d6_1 : decode prog_61_method_11_code 1 = .ok (.getfield 38, 3) := by decide +kernel
theorem d6_4 : decode prog_61_method_11_code 4 = .ok (.ireturn, 1) := by decide +kernel
theorem pn_6 : plainName "com/example/yealm/yealm/equiv/RefinablePartition" = true := by first | (simp [plainName, overriddenIn]; done) | decide +kernel
theorem d7_0 : decode prog_61_method_12_code 0 = .ok (.aload_n 0, 1) := by decide +kernel
theorem d7_1 : decode prog_61_method_12_code 1 = .ok (.getfield 35, 3) := by decide +kernel
theorem d7_4 : decode prog_61_method_12_code 4 = .ok (.iload_n 1, 1) := by decide +kernel
theorem d7_5 : decode prog_61_method_12_code 5 = .ok (.iaload, 1) := by decide +kernel
theorem d7_6 : decode prog_61_method_12_code 6 = .ok (.ireturn, 1) := by decide +kernel
theorem pn_7 : plainName "com/example/yealm/yealm/equiv/RefinablePartition" = true := by first | (simp [plainName, overriddenIn]; done) | decide +kernel
theorem d8_0 : decode prog_61_method_6_code 0 = .ok (.aload_n 0, 1) := by decide +kernel
theorem d8_1 : decode prog_61_method_6_code 1 = .ok (.getfield 29, 3) := by decide +kernel
theorem d8_4 : decode prog_61_method_6_code 4 = .ok (.iload_n 1, 1) := by decide +kernel
theorem d8_5 : decode prog_61_method_6_code 5 = .ok (.iaload, 1) := by decide +kernel
theorem d8_6 : decode prog_61_method_6_code 6 = .ok (.ireturn, 1) := by decide +kernel
theorem pn_8 : plainName "com/example/yealm/yealm/equiv/RefinablePartition" = true := by first | (simp [plainName, overriddenIn]; done) | decide +kernel
theorem d9_0 : decode method_4_code 0 = .ok (.iload_n 1, 1) := by decide +kernel
theorem d9_1 : decode method_4_code 1 = .ok (.iload_n 2, 1) := by decide +kernel
theorem d9_2 : decode method_4_code 2 = .ok (.if_icmp .ge 11, 3) := by decide +kernel
theorem d9_5 : decode method_4_code 5 = .ok (.aload_n 0, 1) := by decide +kernel
theorem d9_6 : decode method_4_code 6 = .ok (.iload_n 1, 1) := by decide +kernel
theorem d9_7 : decode method_4_code 7 = .ok (.invokevirtual 7, 3) := by decide +kernel
theorem d9_10 : decode method_4_code 10 = .ok (.goto 4, 3) := by decide +kernel
theorem d9_13 : decode method_4_code 13 = .ok (.iconst (-1), 1) := by decide +kernel
theorem d9_14 : decode method_4_code 14 = .ok (.ireturn, 1) := by decide +kernel
theorem pn_9 : plainName "com/example/yealm/yealm/equiv/RefinablePartitionMarkPinLaw" = true := by first | (simp [plainName, overriddenIn]; done) | decide +kernel
theorem d10_0 : decode prog_61_method_8_code 0 = .ok (.aload_n 0, 1) := by decide +kernel
theorem d10_1 : decode prog_61_method_8_code 1 = .ok (.getfield 13, 3) := by decide +kernel
theorem d10_4 : decode prog_61_method_8_code 4 = .ok (.iload_n 1, 1) := by decide +kernel
theorem d10_5 : decode prog_61_method_8_code 5 = .ok (.iaload, 1) := by decide +kernel
theorem d10_6 : decode prog_61_method_8_code 6 = .ok (.ireturn, 1) := by decide +kernel
theorem pn_10 : plainName "com/example/yealm/yealm/equiv/RefinablePartition" = true := by first | (simp [plainName, overriddenIn]; done) | decide +kernel
theorem d11_0 : decode method_5_code 0 = .ok (.iload_n 0, 1) := by decide +kernel
theorem d11_1 : decode method_5_code 1 = .ok (.ifCond .lt 14, 3) := by decide +kernel
theorem d11_4 : decode method_5_code 4 = .ok (.iload_n 0, 1) := by decide +kernel
theorem d11_5 : decode method_5_code 5 = .ok (.iload_n 1, 1) := by decide +kernel
theorem d11_6 : decode method_5_code 6 = .ok (.if_icmp .ge 9, 3) := by decide +kernel
theorem d11_9 : decode method_5_code 9 = .ok (.iconst 1, 1) := by decide +kernel
theorem d11_10 : decode method_5_code 10 = .ok (.iload_n 0, 1) := by decide +kernel
theorem d11_11 : decode method_5_code 11 = .ok (.ishl, 1) := by decide +kernel
theorem d11_12 : decode method_5_code 12 = .ok (.goto 4, 3) := by decide +kernel
theorem d11_15 : decode method_5_code 15 = .ok (.iconst 0, 1) := by decide +kernel
theorem d11_16 : decode method_5_code 16 = .ok (.ireturn, 1) := by decide +kernel
theorem pn_11 : plainName "com/example/yealm/yealm/equiv/RefinablePartitionMarkPinLaw" = true := by first | (simp [plainName, overriddenIn]; done) | decide +kernel
theorem d12_0 : decode prog_61_method_15_code 0 = .ok (.aload_n 0, 1) := by decide +kernel
theorem d12_1 : decode prog_61_method_15_code 1 = .ok (.getfield 29, 3) := by decide +kernel
theorem d12_4 : decode prog_61_method_15_code 4 = .ok (.iload_n 1, 1) := by decide +kernel
theorem d12_5 : decode prog_61_method_15_code 5 = .ok (.iaload, 1) := by decide +kernel
theorem d12_6 : decode prog_61_method_15_code 6 = .ok (.istore_n 2, 1) := by decide +kernel
theorem d12_7 : decode prog_61_method_15_code 7 = .ok (.aload_n 0, 1) := by decide +kernel
theorem d12_8 : decode prog_61_method_15_code 8 = .ok (.iload_n 1, 1) := by decide +kernel
theorem d12_9 : decode prog_61_method_15_code 9 = .ok (.aload_n 0, 1) := by decide +kernel
theorem d12_10 : decode prog_61_method_15_code 10 = .ok (.getfield 23, 3) := by decide +kernel
theorem d12_13 : decode prog_61_method_15_code 13 = .ok (.iload_n 1, 1) := by decide +kernel
theorem d12_14 : decode prog_61_method_15_code 14 = .ok (.iaload, 1) := by decide +kernel
theorem d12_15 : decode prog_61_method_15_code 15 = .ok (.iload_n 2, 1) := by decide +kernel
theorem d12_16 : decode prog_61_method_15_code 16 = .ok (.invokevirtual 41, 3) := by decide +kernel
theorem d12_19 : decode prog_61_method_15_code 19 = .ok (.istore_n 3, 1) := by decide +kernel
theorem d12_20 : decode prog_61_method_15_code 20 = .ok (.aload_n 0, 1) := by decide +kernel
theorem d12_21 : decode prog_61_method_15_code 21 = .ok (.getfield 23, 3) := by decide +kernel
theorem d12_24 : decode prog_61_method_15_code 24 = .ok (.iload_n 1, 1) := by decide +kernel
theorem d12_25 : decode prog_61_method_15_code 25 = .ok (.iload_n 2, 1) := by decide +kernel
theorem d12_26 : decode prog_61_method_15_code 26 = .ok (.iastore, 1) := by decide +kernel
theorem d12_27 : decode prog_61_method_15_code 27 = .ok (.iload_n 3, 1) := by decide +kernel
theorem d12_28 : decode prog_61_method_15_code 28 = .ok (.ireturn, 1) := by decide +kernel
theorem pn_12 : plainName "com/example/yealm/yealm/equiv/RefinablePartition" = true := by first | (simp [plainName, overriddenIn]; done) | decide +kernel
theorem d13_0 : decode prog_61_method_17_code 0 = .ok (.aload_n 0, 1) := by decide +kernel
theorem d13_1 : decode prog_61_method_17_code 1 = .ok (.dup, 1) := by decide +kernel
theorem d13_2 : decode prog_61_method_17_code 2 = .ok (.getfield 7, 3) := by decide +kernel
theorem d13_5 : decode prog_61_method_17_code 5 = .ok (.dup_x1, 1) := by decide +kernel
theorem d13_6 : decode prog_61_method_17_code 6 = .ok (.iconst 1, 1) := by decide +kernel
theorem d13_7 : decode prog_61_method_17_code 7 = .ok (.iadd, 1) := by decide +kernel
theorem d13_8 : decode prog_61_method_17_code 8 = .ok (.putfield 7, 3) := by decide +kernel
theorem d13_11 : decode prog_61_method_17_code 11 = .ok (.istore 4, 2) := by decide +kernel
theorem d13_13 : decode prog_61_method_17_code 13 = .ok (.aload_n 0, 1) := by decide +kernel
theorem d13_14 : decode prog_61_method_17_code 14 = .ok (.getfield 32, 3) := by decide +kernel
theorem d13_17 : decode prog_61_method_17_code 17 = .ok (.iload 4, 2) := by decide +kernel
theorem d13_19 : decode prog_61_method_17_code 19 = .ok (.iload_n 1, 1) := by decide +kernel
theorem d13_20 : decode prog_61_method_17_code 20 = .ok (.iastore, 1) := by decide +kernel
theorem d13_21 : decode prog_61_method_17_code 21 = .ok (.aload_n 0, 1) := by decide +kernel
theorem d13_22 : decode prog_61_method_17_code 22 = .ok (.getfield 23, 3) := by decide +kernel
theorem d13_25 : decode prog_61_method_17_code 25 = .ok (.iload 4, 2) := by decide +kernel
theorem d13_27 : decode prog_61_method_17_code 27 = .ok (.iload_n 2, 1) := by decide +kernel
theorem d13_28 : decode prog_61_method_17_code 28 = .ok (.iastore, 1) := by decide +kernel
theorem d13_29 : decode prog_61_method_17_code 29 = .ok (.aload_n 0, 1) := by decide +kernel
theorem d13_30 : decode prog_61_method_17_code 30 = .ok (.getfield 26, 3) := by decide +kernel
theorem d13_33 : decode prog_61_method_17_code 33 = .ok (.iload 4, 2) := by decide +kernel
theorem d13_35 : decode prog_61_method_17_code 35 = .ok (.iload_n 3, 1) := by decide +kernel
theorem d13_36 : decode prog_61_method_17_code 36 = .ok (.iastore, 1) := by decide +kernel
theorem d13_37 : decode prog_61_method_17_code 37 = .ok (.aload_n 0, 1) := by decide +kernel
theorem d13_38 : decode prog_61_method_17_code 38 = .ok (.getfield 29, 3) := by decide +kernel
theorem d13_41 : decode prog_61_method_17_code 41 = .ok (.iload 4, 2) := by decide +kernel
theorem d13_43 : decode prog_61_method_17_code 43 = .ok (.iload_n 2, 1) := by decide +kernel
theorem d13_44 : decode prog_61_method_17_code 44 = .ok (.iastore, 1) := by decide +kernel
theorem d13_45 : decode prog_61_method_17_code 45 = .ok (.iload_n 2, 1) := by decide +kernel
theorem d13_46 : decode prog_61_method_17_code 46 = .ok (.istore 5, 2) := by decide +kernel
theorem d13_48 : decode prog_61_method_17_code 48 = .ok (.iload 5, 2) := by decide +kernel
theorem d13_50 : decode prog_61_method_17_code 50 = .ok (.iload_n 3, 1) := by decide +kernel
theorem d13_51 : decode prog_61_method_17_code 51 = .ok (.if_icmp .ge 23, 3) := by decide +kernel
theorem d13_54 : decode prog_61_method_17_code 54 = .ok (.aload_n 0, 1) := by decide +kernel
theorem d13_55 : decode prog_61_method_17_code 55 = .ok (.getfield 20, 3) := by decide +kernel
theorem d13_58 : decode prog_61_method_17_code 58 = .ok (.aload_n 0, 1) := by decide +kernel
theorem d13_59 : decode prog_61_method_17_code 59 = .ok (.getfield 13, 3) := by decide +kernel
theorem d13_62 : decode prog_61_method_17_code 62 = .ok (.iload 5, 2) := by decide +kernel
theorem d13_64 : decode prog_61_method_17_code 64 = .ok (.iaload, 1) := by decide +kernel
theorem d13_65 : decode prog_61_method_17_code 65 = .ok (.iload 4, 2) := by decide +kernel
theorem d13_67 : decode prog_61_method_17_code 67 = .ok (.iastore, 1) := by decide +kernel
theorem d13_68 : decode prog_61_method_17_code 68 = .ok (.iinc 5 1, 3) := by decide +kernel
theorem d13_71 : decode prog_61_method_17_code 71 = .ok (.goto (-23), 3) := by decide +kernel
theorem d13_74 : decode prog_61_method_17_code 74 = .ok (.iload 4, 2) := by decide +kernel
theorem d13_76 : decode prog_61_method_17_code 76 = .ok (.ireturn, 1) := by decide +kernel
theorem pn_13 : plainName "com/example/yealm/yealm/equiv/RefinablePartition" = true := by first | (simp [plainName, overriddenIn]; done) | decide +kernel
theorem d14_0 : decode prog_61_method_13_code 0 = .ok (.aload_n 0, 1) := by decide +kernel
theorem d14_1 : decode prog_61_method_13_code 1 = .ok (.iconst 0, 1) := by decide +kernel
theorem d14_2 : decode prog_61_method_13_code 2 = .ok (.putfield 38, 3) := by decide +kernel
theorem d14_5 : decode prog_61_method_13_code 5 = .ok (.return_, 1) := by decide +kernel
theorem pn_14 : plainName "com/example/yealm/yealm/equiv/RefinablePartition" = true := by first | (simp [plainName, overriddenIn]; done) | decide +kernel
theorem pn_0 : plainName "com/example/yealm/yealm/equiv/RefinablePartitionMarkPinLaw" = true := by first | (simp [plainName, overriddenIn]; done) | decide +kernel
theorem ef_6 (m : MethodId) (a1 : Addr) : entryFrame m #[(.ref a1)] 1 = mkF m 0 #[.val (.ref a1)] [] := by first | (simp [entryFrame, mkF, argsToLocals, Value.category]; done) | rfl
def QV (y : Int32) (h0 : Heap) (n0 : Nat) (v : Option Value) (h : Heap) (L : List Loc) : Prop := v = some (.int y) ∧ Fr n0 L ∧ h = h0
set_option maxRecDepth 65536 in
set_option maxHeartbeats 40000000 in
theorem rm6 (l : Launch) (Z : State) (a0 : Array Value) (hw : ∀ d ∈ tables_1, d.before a0 Z = true) (ws : List Jvm.Cond) (a1 bE bP bB bG bN bM bF bT : Addr) (n : Int32) (lE lP lB lG lN lM lF lT : List Int32) (bc tc : Int32) (h0 : Heap) (n0 : Nat) (Z0 : n0 ≤ h0.size) (RP : own_RP Z h0 a1 bE bP bB bG bN bM bF bT n lE lP lB lG lN lM lF lT bc tc) :
    MetFree l (⟨"com/example/yealm/yealm/equiv/RefinablePartition", "getTouchedCount", "()I"⟩ : MethodName) (head1 (Jvm.Cond.code (⟨"com/example/yealm/yealm/equiv/RefinablePartition", "getTouchedCount", "()I"⟩ : MethodName) prog_61_method_11_code 1 (some .int) :: ws) ({ frames := 0, cells := 0, slots := 0, locals := 0 } : Room)) (fun a U => a = #[(.ref a1)] ∧ Z.Warmed39 U.vm ∧ U.heap = h0) (fun _ _ _ _ _ => True) (fun _ U o U' => ∃ v L, o = .returned v ∧ QV tc h0 n0 v U'.heap L ∧ FrameEnd U o U' L ({ frames := 0, cells := 0, slots := 0, locals := 0 } : Room).cells ({ frames := 0, cells := 0, slots := 0, locals := 0 } : Room).slots) := by
  refine MetFree.of_bodySF (plainFor_of_name pn_6) hisR ?_
  intro p e s m args below meth c s₁ Bd hml0 hP hK
  obtain ⟨rfl, hZ, hh⟩ := hP
  have hx := Bd.exec
  have hby := Bd.bytes
  have hml : c.maxLocals = 1 := hml0
  have hown : s.vm.findClass "com/example/yealm/yealm/equiv/RefinablePartition" = some m.cls := findClass_of_methodNamed Bd.named
  have hnm := (name_of_methodNamed Bd.named Bd.method).1
  have X0 : Stand p l e ({ frames := 0, cells := 0, slots := 0, locals := 0 } : Room) s m #[(.ref a1)] below meth c s₁ [] 0 0 := Stand.of_body Bd
  have e0 : s₁.heap = h0 := by rw [← hh, Bd.state]; rfl
  have N0 := Fr.nil n0
  have pre0 : ∀ tgt, Steps p.tables e below (s₁.setTop (mkF m 0 #[.val (.ref a1)] [])) tgt → Steps p.tables e below (s₁.setTop (entryFrame m #[(.ref a1)] 1)) tgt := fun tgt k => castTop (ef_6 m a1) k
  obtain ⟨Em, FbE, FbP, FbB, FbG, FbN, FbM, FbF, FbT, Fbc, Ftc, ⟨kE, VE⟩, ⟨kP, VP⟩, ⟨kB, VB⟩, ⟨kG, VG⟩, ⟨kN, VN⟩, ⟨kM, VM⟩, ⟨kF, VF⟩, ⟨kT, VT⟩⟩ := RP
  obtain ⟨T1, X1, e1, st1⟩ := getF X0 hx hZ hown (host := "") (Or.inl (hw _ (List.mem_of_getElem? (i := 34) rfl))) Via.refl e0 Ftc (g := (mkF m 1 #[.val (.ref a1)] [(.ref a1)])) rfl rfl (hb hby d6_1)
  obtain ⟨fs, hr, hrun, hended, hW, hsame⟩ := X1.leave (v := some (.int tc)) (fun h => by rw [Bd.returns] at h; cases h)
  refine ⟨_, _, pre0 _ ?_, hrun, hended, _, _, rfl, ?_, ⟨_, rfl⟩, hW, hsame.mono (by decide) (by decide)⟩
  · show Steps p.tables e below (s₁.setTop (mkF m 0 #[.val (.ref a1)] [])) _
    refine XS.aloadN X0.here hx rfl (hb hby d6_0) rfl rfl ?_
    show Steps p.tables e below (s₁.setTop (mkF m 1 #[.val (.ref a1)] [(.ref a1)])) _
    refine st1 _ ?_
    show Steps p.tables e below (T1.setTop (mkF m 4 #[.val (.ref a1)] [(.int tc)])) _
    exact retI X1 hx Bd.returns (hb hby d6_4) hr
  · show QV tc h0 n0 _ T1.heap _
    rw [e1]
    exact ⟨rfl, N0, rfl⟩
theorem ef_7 (m : MethodId) (a1 : Addr) (t : Int32) : entryFrame m #[(.ref a1), (.int t)] 2 = mkF m 0 #[.val (.ref a1), .val (.int t)] [] := by first | (simp [entryFrame, mkF, argsToLocals, Value.category]; done) | rfl
set_option maxRecDepth 65536 in
set_option maxHeartbeats 40000000 in
theorem rm7 (l : Launch) (Z : State) (a0 : Array Value) (hw : ∀ d ∈ tables_1, d.before a0 Z = true) (ws : List Jvm.Cond) (a1 bE bP bB bG bN bM bF bT : Addr) (n : Int32) (lE lP lB lG lN lM lF lT : List Int32) (bc tc : Int32) (t y : Int32) (h0 : Heap) (n0 : Nat) (Z0 : n0 ≤ h0.size) (RP : own_RP Z h0 a1 bE bP bB bG bN bM bF bT n lE lP lB lG lN lM lF lT bc tc) (hy0 : own_get n lT t = some y) :
    MetFree l (⟨"com/example/yealm/yealm/equiv/RefinablePartition", "touched", "(I)I"⟩ : MethodName) (head1 (Jvm.Cond.code (⟨"com/example/yealm/yealm/equiv/RefinablePartition", "touched", "(I)I"⟩ : MethodName) prog_61_method_12_code 2 (some .int) :: ws) ({ frames := 0, cells := 0, slots := 0, locals := 0 } : Room)) (fun a U => a = #[(.ref a1), (.int t)] ∧ Z.Warmed39 U.vm ∧ U.heap = h0) (fun _ _ _ _ _ => True) (fun _ U o U' => ∃ v L, o = .returned v ∧ QV y h0 n0 v U'.heap L ∧ FrameEnd U o U' L ({ frames := 0, cells := 0, slots := 0, locals := 0 } : Room).cells ({ frames := 0, cells := 0, slots := 0, locals := 0 } : Room).slots) := by
  refine MetFree.of_bodySF (plainFor_of_name pn_7) hisR ?_
  intro p e s m args below meth c s₁ Bd hml0 hP hK
  obtain ⟨rfl, hZ, hh⟩ := hP
  have hx := Bd.exec
  have hby := Bd.bytes
  have hml : c.maxLocals = 2 := hml0
  have hown : s.vm.findClass "com/example/yealm/yealm/equiv/RefinablePartition" = some m.cls := findClass_of_methodNamed Bd.named
  have hnm := (name_of_methodNamed Bd.named Bd.method).1
  have X0 : Stand p l e ({ frames := 0, cells := 0, slots := 0, locals := 0 } : Room) s m #[(.ref a1), (.int t)] below meth c s₁ [] 0 0 := Stand.of_body Bd
  have e0 : s₁.heap = h0 := by rw [← hh, Bd.state]; rfl
  have N0 := Fr.nil n0
  have pre0 : ∀ tgt, Steps p.tables e below (s₁.setTop (mkF m 0 #[.val (.ref a1), .val (.int t)] [])) tgt → Steps p.tables e below (s₁.setTop (entryFrame m #[(.ref a1), (.int t)] 2)) tgt := fun tgt k => castTop (ef_7 m a1 t) k
  have hy := own_get_e hy0
  obtain ⟨Em, FbE, FbP, FbB, FbG, FbN, FbM, FbF, FbT, Fbc, Ftc, ⟨kE, VE⟩, ⟨kP, VP⟩, ⟨kB, VB⟩, ⟨kG, VG⟩, ⟨kN, VN⟩, ⟨kM, VM⟩, ⟨kF, VF⟩, ⟨kT, VT⟩⟩ := RP
  obtain ⟨T1, X1, e1, st1⟩ := getF X0 hx hZ hown (host := "") (Or.inl (hw _ (List.mem_of_getElem? (i := 27) rfl))) Via.refl e0 FbT (g := (mkF m 1 #[.val (.ref a1), .val (.int t)] [(.ref a1)])) rfl rfl (hb hby d7_1)
  have Vo_2 := VT
  obtain ⟨Cl_2, Ar_2, Kc_2, Sz_2, Nn_2, Hs_2, Gf_2⟩ := Vo_2
  obtain ⟨fs, hr, hrun, hended, hW, hsame⟩ := X1.leave (v := some (.int y)) (fun h => by rw [Bd.returns] at h; cases h)
  refine ⟨_, _, pre0 _ ?_, hrun, hended, _, _, rfl, ?_, ⟨_, rfl⟩, hW, hsame.mono (by decide) (by decide)⟩
  · show Steps p.tables e below (s₁.setTop (mkF m 0 #[.val (.ref a1), .val (.int t)] [])) _
    refine XS.aloadN X0.here hx rfl (hb hby d7_0) rfl rfl ?_
    show Steps p.tables e below (s₁.setTop (mkF m 1 #[.val (.ref a1), .val (.int t)] [(.ref a1)])) _
    refine st1 _ ?_
    show Steps p.tables e below (T1.setTop (mkF m 4 #[.val (.ref a1), .val (.int t)] [(.ref bT)])) _
    refine XS.iloadN X1.here hx rfl (hb hby d7_4) rfl ?_
    show Steps p.tables e below (T1.setTop (mkF m 5 #[.val (.ref a1), .val (.int t)] [(.int t), (.ref bT)])) _
    refine X1.iaload hx (j := t) (v := (.int y)) (by rw [e1]; exact Ar_2.1) (State.isArrayOf_alike hZ.alike Ar_2.2.1) Ar_2.2.2 (inb_of Sz_2 hy.1) (Has.at Hs_2 (inb_of Sz_2 hy.1) (own_getD hy.2)) (g := (mkF m 5 #[.val (.ref a1), .val (.int t)] [(.int t), (.ref bT)])) rfl rfl (hb hby d7_5) _ ?_
    show Steps p.tables e below (T1.setTop (mkF m 6 #[.val (.ref a1), .val (.int t)] [(.int y)])) _
    exact retI X1 hx Bd.returns (hb hby d7_6) hr
  · show QV y h0 n0 _ T1.heap _
    rw [e1]
    exact ⟨rfl, N0, rfl⟩
theorem ef_8 (m : MethodId) (a1 : Addr) (t : Int32) : entryFrame m #[(.ref a1), (.int t)] 2 = mkF m 0 #[.val (.ref a1), .val (.int t)] [] := by first | (simp [entryFrame, mkF, argsToLocals, Value.category]; done) | rfl
set_option maxRecDepth 65536 in
set_option maxHeartbeats 40000000 in
theorem rm8 (l : Launch) (Z : State) (a0 : Array Value) (hw : ∀ d ∈ tables_1, d.before a0 Z = true) (ws : List Jvm.Cond) (a1 bE bP bB bG bN bM bF bT : Addr) (n : Int32) (lE lP lB lG lN lM lF lT : List Int32) (bc tc : Int32) (t y : Int32) (h0 : Heap) (n0 : Nat) (Z0 : n0 ≤ h0.size) (RP : own_RP Z h0 a1 bE bP bB bG bN bM bF bT n lE lP lB lG lN lM lF lT bc tc) (hy0 : own_get n lM t = some y) :
    MetFree l (⟨"com/example/yealm/yealm/equiv/RefinablePartition", "markedEnd", "(I)I"⟩ : MethodName) (head1 (Jvm.Cond.code (⟨"com/example/yealm/yealm/equiv/RefinablePartition", "markedEnd", "(I)I"⟩ : MethodName) prog_61_method_6_code 2 (some .int) :: ws) ({ frames := 0, cells := 0, slots := 0, locals := 0 } : Room)) (fun a U => a = #[(.ref a1), (.int t)] ∧ Z.Warmed39 U.vm ∧ U.heap = h0) (fun _ _ _ _ _ => True) (fun _ U o U' => ∃ v L, o = .returned v ∧ QV y h0 n0 v U'.heap L ∧ FrameEnd U o U' L ({ frames := 0, cells := 0, slots := 0, locals := 0 } : Room).cells ({ frames := 0, cells := 0, slots := 0, locals := 0 } : Room).slots) := by
  refine MetFree.of_bodySF (plainFor_of_name pn_8) hisR ?_
  intro p e s m args below meth c s₁ Bd hml0 hP hK
  obtain ⟨rfl, hZ, hh⟩ := hP
  have hx := Bd.exec
  have hby := Bd.bytes
  have hml : c.maxLocals = 2 := hml0
  have hown : s.vm.findClass "com/example/yealm/yealm/equiv/RefinablePartition" = some m.cls := findClass_of_methodNamed Bd.named
  have hnm := (name_of_methodNamed Bd.named Bd.method).1
  have X0 : Stand p l e ({ frames := 0, cells := 0, slots := 0, locals := 0 } : Room) s m #[(.ref a1), (.int t)] below meth c s₁ [] 0 0 := Stand.of_body Bd
  have e0 : s₁.heap = h0 := by rw [← hh, Bd.state]; rfl
  have N0 := Fr.nil n0
  have pre0 : ∀ tgt, Steps p.tables e below (s₁.setTop (mkF m 0 #[.val (.ref a1), .val (.int t)] [])) tgt → Steps p.tables e below (s₁.setTop (entryFrame m #[(.ref a1), (.int t)] 2)) tgt := fun tgt k => castTop (ef_8 m a1 t) k
  have hy := own_get_e hy0
  obtain ⟨Em, FbE, FbP, FbB, FbG, FbN, FbM, FbF, FbT, Fbc, Ftc, ⟨kE, VE⟩, ⟨kP, VP⟩, ⟨kB, VB⟩, ⟨kG, VG⟩, ⟨kN, VN⟩, ⟨kM, VM⟩, ⟨kF, VF⟩, ⟨kT, VT⟩⟩ := RP
  obtain ⟨T1, X1, e1, st1⟩ := getF X0 hx hZ hown (host := "") (Or.inl (hw _ (List.mem_of_getElem? (i := 23) rfl))) Via.refl e0 FbM (g := (mkF m 1 #[.val (.ref a1), .val (.int t)] [(.ref a1)])) rfl rfl (hb hby d8_1)
  have Vo_2 := VM
  obtain ⟨Cl_2, Ar_2, Kc_2, Sz_2, Nn_2, Hs_2, Gf_2⟩ := Vo_2
  obtain ⟨fs, hr, hrun, hended, hW, hsame⟩ := X1.leave (v := some (.int y)) (fun h => by rw [Bd.returns] at h; cases h)
  refine ⟨_, _, pre0 _ ?_, hrun, hended, _, _, rfl, ?_, ⟨_, rfl⟩, hW, hsame.mono (by decide) (by decide)⟩
  · show Steps p.tables e below (s₁.setTop (mkF m 0 #[.val (.ref a1), .val (.int t)] [])) _
    refine XS.aloadN X0.here hx rfl (hb hby d8_0) rfl rfl ?_
    show Steps p.tables e below (s₁.setTop (mkF m 1 #[.val (.ref a1), .val (.int t)] [(.ref a1)])) _
    refine st1 _ ?_
    show Steps p.tables e below (T1.setTop (mkF m 4 #[.val (.ref a1), .val (.int t)] [(.ref bM)])) _
    refine XS.iloadN X1.here hx rfl (hb hby d8_4) rfl ?_
    show Steps p.tables e below (T1.setTop (mkF m 5 #[.val (.ref a1), .val (.int t)] [(.int t), (.ref bM)])) _
    refine X1.iaload hx (j := t) (v := (.int y)) (by rw [e1]; exact Ar_2.1) (State.isArrayOf_alike hZ.alike Ar_2.2.1) Ar_2.2.2 (inb_of Sz_2 hy.1) (Has.at Hs_2 (inb_of Sz_2 hy.1) (own_getD hy.2)) (g := (mkF m 5 #[.val (.ref a1), .val (.int t)] [(.int t), (.ref bM)])) rfl rfl (hb hby d8_5) _ ?_
    show Steps p.tables e below (T1.setTop (mkF m 6 #[.val (.ref a1), .val (.int t)] [(.int y)])) _
    exact retI X1 hx Bd.returns (hb hby d8_6) hr
  · show QV y h0 n0 _ T1.heap _
    rw [e1]
    exact ⟨rfl, N0, rfl⟩
theorem ef_10 (m : MethodId) (a1 : Addr) (t : Int32) : entryFrame m #[(.ref a1), (.int t)] 2 = mkF m 0 #[.val (.ref a1), .val (.int t)] [] := by first | (simp [entryFrame, mkF, argsToLocals, Value.category]; done) | rfl
set_option maxRecDepth 65536 in
set_option maxHeartbeats 40000000 in
theorem rm10 (l : Launch) (Z : State) (a0 : Array Value) (hw : ∀ d ∈ tables_1, d.before a0 Z = true) (ws : List Jvm.Cond) (a1 bE bP bB bG bN bM bF bT : Addr) (n : Int32) (lE lP lB lG lN lM lF lT : List Int32) (bc tc : Int32) (t y : Int32) (h0 : Heap) (n0 : Nat) (Z0 : n0 ≤ h0.size) (RP : own_RP Z h0 a1 bE bP bB bG bN bM bF bT n lE lP lB lG lN lM lF lT bc tc) (hy0 : own_get n lE t = some y) :
    MetFree l (⟨"com/example/yealm/yealm/equiv/RefinablePartition", "stateAt", "(I)I"⟩ : MethodName) (head1 (Jvm.Cond.code (⟨"com/example/yealm/yealm/equiv/RefinablePartition", "stateAt", "(I)I"⟩ : MethodName) prog_61_method_8_code 2 (some .int) :: ws) ({ frames := 0, cells := 0, slots := 0, locals := 0 } : Room)) (fun a U => a = #[(.ref a1), (.int t)] ∧ Z.Warmed39 U.vm ∧ U.heap = h0) (fun _ _ _ _ _ => True) (fun _ U o U' => ∃ v L, o = .returned v ∧ QV y h0 n0 v U'.heap L ∧ FrameEnd U o U' L ({ frames := 0, cells := 0, slots := 0, locals := 0 } : Room).cells ({ frames := 0, cells := 0, slots := 0, locals := 0 } : Room).slots) := by
  refine MetFree.of_bodySF (plainFor_of_name pn_10) hisR ?_
  intro p e s m args below meth c s₁ Bd hml0 hP hK
  obtain ⟨rfl, hZ, hh⟩ := hP
  have hx := Bd.exec
  have hby := Bd.bytes
  have hml : c.maxLocals = 2 := hml0
  have hown : s.vm.findClass "com/example/yealm/yealm/equiv/RefinablePartition" = some m.cls := findClass_of_methodNamed Bd.named
  have hnm := (name_of_methodNamed Bd.named Bd.method).1
  have X0 : Stand p l e ({ frames := 0, cells := 0, slots := 0, locals := 0 } : Room) s m #[(.ref a1), (.int t)] below meth c s₁ [] 0 0 := Stand.of_body Bd
  have e0 : s₁.heap = h0 := by rw [← hh, Bd.state]; rfl
  have N0 := Fr.nil n0
  have pre0 : ∀ tgt, Steps p.tables e below (s₁.setTop (mkF m 0 #[.val (.ref a1), .val (.int t)] [])) tgt → Steps p.tables e below (s₁.setTop (entryFrame m #[(.ref a1), (.int t)] 2)) tgt := fun tgt k => castTop (ef_10 m a1 t) k
  have hy := own_get_e hy0
  obtain ⟨Em, FbE, FbP, FbB, FbG, FbN, FbM, FbF, FbT, Fbc, Ftc, ⟨kE, VE⟩, ⟨kP, VP⟩, ⟨kB, VB⟩, ⟨kG, VG⟩, ⟨kN, VN⟩, ⟨kM, VM⟩, ⟨kF, VF⟩, ⟨kT, VT⟩⟩ := RP
  obtain ⟨T1, X1, e1, st1⟩ := getF X0 hx hZ hown (host := "") (Or.inl (hw _ (List.mem_of_getElem? (i := 13) rfl))) Via.refl e0 FbE (g := (mkF m 1 #[.val (.ref a1), .val (.int t)] [(.ref a1)])) rfl rfl (hb hby d10_1)
  have Vo_2 := VE
  obtain ⟨Cl_2, Ar_2, Kc_2, Sz_2, Nn_2, Hs_2, Gf_2⟩ := Vo_2
  obtain ⟨fs, hr, hrun, hended, hW, hsame⟩ := X1.leave (v := some (.int y)) (fun h => by rw [Bd.returns] at h; cases h)
  refine ⟨_, _, pre0 _ ?_, hrun, hended, _, _, rfl, ?_, ⟨_, rfl⟩, hW, hsame.mono (by decide) (by decide)⟩
  · show Steps p.tables e below (s₁.setTop (mkF m 0 #[.val (.ref a1), .val (.int t)] [])) _
    refine XS.aloadN X0.here hx rfl (hb hby d10_0) rfl rfl ?_
    show Steps p.tables e below (s₁.setTop (mkF m 1 #[.val (.ref a1), .val (.int t)] [(.ref a1)])) _
    refine st1 _ ?_
    show Steps p.tables e below (T1.setTop (mkF m 4 #[.val (.ref a1), .val (.int t)] [(.ref bE)])) _
    refine XS.iloadN X1.here hx rfl (hb hby d10_4) rfl ?_
    show Steps p.tables e below (T1.setTop (mkF m 5 #[.val (.ref a1), .val (.int t)] [(.int t), (.ref bE)])) _
    refine X1.iaload hx (j := t) (v := (.int y)) (by rw [e1]; exact Ar_2.1) (State.isArrayOf_alike hZ.alike Ar_2.2.1) Ar_2.2.2 (inb_of Sz_2 hy.1) (Has.at Hs_2 (inb_of Sz_2 hy.1) (own_getD hy.2)) (g := (mkF m 5 #[.val (.ref a1), .val (.int t)] [(.int t), (.ref bE)])) rfl rfl (hb hby d10_5) _ ?_
    show Steps p.tables e below (T1.setTop (mkF m 6 #[.val (.ref a1), .val (.int t)] [(.int y)])) _
    exact retI X1 hx Bd.returns (hb hby d10_6) hr
  · show QV y h0 n0 _ T1.heap _
    rw [e1]
    exact ⟨rfl, N0, rfl⟩
theorem ef_4 (m : MethodId) (p1 : Int32) (s1 : Int32) : entryFrame m #[(.int p1), (.int s1)] 2 = mkF m 0 #[.val (.int p1), .val (.int s1)] [] := by first | (simp [entryFrame, mkF, argsToLocals, Value.category]; done) | rfl
set_option maxRecDepth 65536 in
set_option maxHeartbeats 40000000 in
theorem rm4 (l : Launch) (Z : State) (a0 : Array Value) (hw : ∀ d ∈ tables_1, d.before a0 Z = true) (ws : List Jvm.Cond) (p1 s1 : Int32) (h0 : Heap) (n0 : Nat) (Z0 : n0 ≤ h0.size) :
    MetFree l (⟨"com/example/yealm/yealm/equiv/RefinablePartitionMarkPinLaw", "blk", "(ZI)I"⟩ : MethodName) (head1 (Jvm.Cond.code (⟨"com/example/yealm/yealm/equiv/RefinablePartitionMarkPinLaw", "blk", "(ZI)I"⟩ : MethodName) method_2_code 2 (some .int) :: ws) ({ frames := 0, cells := 0, slots := 0, locals := 0 } : Room)) (fun a U => a = #[(.int p1), (.int s1)] ∧ Z.Warmed39 U.vm ∧ U.heap = h0) (fun _ _ _ _ _ => True) (fun _ U o U' => ∃ v L, o = .returned v ∧ QV (own_blk p1 s1) h0 n0 v U'.heap L ∧ FrameEnd U o U' L ({ frames := 0, cells := 0, slots := 0, locals := 0 } : Room).cells ({ frames := 0, cells := 0, slots := 0, locals := 0 } : Room).slots) := by
  refine MetFree.of_bodySF (plainFor_of_name pn_4) hisR ?_
  intro p e s m args below meth c s₁ Bd hml0 hP hK
  obtain ⟨rfl, hZ, hh⟩ := hP
  have hx := Bd.exec
  have hby := Bd.bytes
  have hml : c.maxLocals = 2 := hml0
  have hown : s.vm.findClass "com/example/yealm/yealm/equiv/RefinablePartitionMarkPinLaw" = some m.cls := findClass_of_methodNamed Bd.named
  have hnm := (name_of_methodNamed Bd.named Bd.method).1
  have X0 : Stand p l e ({ frames := 0, cells := 0, slots := 0, locals := 0 } : Room) s m #[(.int p1), (.int s1)] below meth c s₁ [] 0 0 := Stand.of_body Bd
  have e0 : s₁.heap = h0 := by rw [← hh, Bd.state]; rfl
  have N0 := Fr.nil n0
  have pre0 : ∀ tgt, Steps p.tables e below (s₁.setTop (mkF m 0 #[.val (.int p1), .val (.int s1)] [])) tgt → Steps p.tables e below (s₁.setTop (entryFrame m #[(.int p1), (.int s1)] 2)) tgt := fun tgt k => castTop (ef_4 m p1 s1) k
  by_cases hc1 : p1 = (0 : Int32)
  ·
    obtain ⟨fs, hr, hrun, hended, hW, hsame⟩ := X0.leave (v := some (.int (0 : Int32))) (fun h => by rw [Bd.returns] at h; cases h)
    refine ⟨_, _, pre0 _ ?_, hrun, hended, _, _, rfl, ?_, ⟨_, rfl⟩, hW, hsame.mono (by decide) (by decide)⟩
    · show Steps p.tables e below (s₁.setTop (mkF m 0 #[.val (.int p1), .val (.int s1)] [])) _
      refine XS.iloadN X0.here hx rfl (hb hby d4_0) rfl ?_
      show Steps p.tables e below (s₁.setTop (mkF m 1 #[.val (.int p1), .val (.int s1)] [(.int p1)])) _
      refine XS.ifYes X0.here hx rfl (pc0 := 1) (pc' := 12) rfl (hb hby d4_1) rfl ((if0 _ _).trans (teq hc1).1) (by decide) (by decide) ?_
      show Steps p.tables e below (s₁.setTop (mkF m 12 #[.val (.int p1), .val (.int s1)] [])) _
      refine XS.iconst X0.here hx rfl (hb hby d4_12) ?_
      show Steps p.tables e below (s₁.setTop (mkF m 13 #[.val (.int p1), .val (.int s1)] [(.int (0 : Int32))])) _
      exact retI X0 hx Bd.returns (hb hby d4_13) hr
    · show QV (own_blk p1 s1) h0 n0 _ s₁.heap _
      rw [e0]
      exact ⟨(by simp only [own_blk, if_pos hc1]), N0, rfl⟩
  ·
    by_cases hc5 : s1 = (0 : Int32)
    ·
      obtain ⟨fs, hr, hrun, hended, hW, hsame⟩ := X0.leave (v := some (.int (1 : Int32))) (fun h => by rw [Bd.returns] at h; cases h)
      refine ⟨_, _, pre0 _ ?_, hrun, hended, _, _, rfl, ?_, ⟨_, rfl⟩, hW, hsame.mono (by decide) (by decide)⟩
      · show Steps p.tables e below (s₁.setTop (mkF m 0 #[.val (.int p1), .val (.int s1)] [])) _
        refine XS.iloadN X0.here hx rfl (hb hby d4_0) rfl ?_
        show Steps p.tables e below (s₁.setTop (mkF m 1 #[.val (.int p1), .val (.int s1)] [(.int p1)])) _
        refine XS.ifNo X0.here hx rfl (hb hby d4_1) rfl ((if0 _ _).trans (feq hc1).1) ?_
        show Steps p.tables e below (s₁.setTop (mkF m 4 #[.val (.int p1), .val (.int s1)] [])) _
        refine XS.iloadN X0.here hx rfl (hb hby d4_4) rfl ?_
        show Steps p.tables e below (s₁.setTop (mkF m 5 #[.val (.int p1), .val (.int s1)] [(.int s1)])) _
        refine XS.ifNo X0.here hx rfl (hb hby d4_5) rfl ((if0 _ _).trans (teq hc5).2) ?_
        show Steps p.tables e below (s₁.setTop (mkF m 8 #[.val (.int p1), .val (.int s1)] [])) _
        refine XS.iconst X0.here hx rfl (hb hby d4_8) ?_
        show Steps p.tables e below (s₁.setTop (mkF m 9 #[.val (.int p1), .val (.int s1)] [(.int (1 : Int32))])) _
        refine XS.goto X0.here hx rfl (pc0 := 9) (pc' := 13) rfl (hb hby d4_9) (by decide) (by decide) ?_
        show Steps p.tables e below (s₁.setTop (mkF m 13 #[.val (.int p1), .val (.int s1)] [(.int (1 : Int32))])) _
        exact retI X0 hx Bd.returns (hb hby d4_13) hr
      · show QV (own_blk p1 s1) h0 n0 _ s₁.heap _
        rw [e0]
        exact ⟨(by simp only [own_blk, if_neg hc1, if_pos hc5]), N0, rfl⟩
    ·
      obtain ⟨fs, hr, hrun, hended, hW, hsame⟩ := X0.leave (v := some (.int (0 : Int32))) (fun h => by rw [Bd.returns] at h; cases h)
      refine ⟨_, _, pre0 _ ?_, hrun, hended, _, _, rfl, ?_, ⟨_, rfl⟩, hW, hsame.mono (by decide) (by decide)⟩
      · show Steps p.tables e below (s₁.setTop (mkF m 0 #[.val (.int p1), .val (.int s1)] [])) _
        refine XS.iloadN X0.here hx rfl (hb hby d4_0) rfl ?_
        show Steps p.tables e below (s₁.setTop (mkF m 1 #[.val (.int p1), .val (.int s1)] [(.int p1)])) _
        refine XS.ifNo X0.here hx rfl (hb hby d4_1) rfl ((if0 _ _).trans (feq hc1).1) ?_
        show Steps p.tables e below (s₁.setTop (mkF m 4 #[.val (.int p1), .val (.int s1)] [])) _
        refine XS.iloadN X0.here hx rfl (hb hby d4_4) rfl ?_
        show Steps p.tables e below (s₁.setTop (mkF m 5 #[.val (.int p1), .val (.int s1)] [(.int s1)])) _
        refine XS.ifYes X0.here hx rfl (pc0 := 5) (pc' := 12) rfl (hb hby d4_5) rfl ((if0 _ _).trans (feq hc5).2) (by decide) (by decide) ?_
        show Steps p.tables e below (s₁.setTop (mkF m 12 #[.val (.int p1), .val (.int s1)] [])) _
        refine XS.iconst X0.here hx rfl (hb hby d4_12) ?_
        show Steps p.tables e below (s₁.setTop (mkF m 13 #[.val (.int p1), .val (.int s1)] [(.int (0 : Int32))])) _
        exact retI X0 hx Bd.returns (hb hby d4_13) hr
      · show QV (own_blk p1 s1) h0 n0 _ s₁.heap _
        rw [e0]
        exact ⟨(by simp only [own_blk, if_neg hc1, if_neg hc5]), N0, rfl⟩
theorem ef_5 (m : MethodId) (p1 : Int32) (s1 : Int32) : entryFrame m #[(.int p1), (.int s1)] 2 = mkF m 0 #[.val (.int p1), .val (.int s1)] [] := by first | (simp [entryFrame, mkF, argsToLocals, Value.category]; done) | rfl
set_option maxRecDepth 65536 in
set_option maxHeartbeats 40000000 in
theorem rm5 (l : Launch) (Z : State) (a0 : Array Value) (hw : ∀ d ∈ tables_1, d.before a0 Z = true) (ws : List Jvm.Cond) (p1 s1 : Int32) (h0 : Heap) (n0 : Nat) (Z0 : n0 ≤ h0.size) :
    MetFree l (⟨"com/example/yealm/yealm/equiv/RefinablePartitionMarkPinLaw", "beg", "(ZI)I"⟩ : MethodName) (head1 (Jvm.Cond.code (⟨"com/example/yealm/yealm/equiv/RefinablePartitionMarkPinLaw", "beg", "(ZI)I"⟩ : MethodName) method_3_code 2 (some .int) :: ws) ({ frames := 0, cells := 0, slots := 0, locals := 0 } : Room)) (fun a U => a = #[(.int p1), (.int s1)] ∧ Z.Warmed39 U.vm ∧ U.heap = h0) (fun _ _ _ _ _ => True) (fun _ U o U' => ∃ v L, o = .returned v ∧ QV (own_beg p1 s1) h0 n0 v U'.heap L ∧ FrameEnd U o U' L ({ frames := 0, cells := 0, slots := 0, locals := 0 } : Room).cells ({ frames := 0, cells := 0, slots := 0, locals := 0 } : Room).slots) := by
  refine MetFree.of_bodySF (plainFor_of_name pn_5) hisR ?_
  intro p e s m args below meth c s₁ Bd hml0 hP hK
  obtain ⟨rfl, hZ, hh⟩ := hP
  have hx := Bd.exec
  have hby := Bd.bytes
  have hml : c.maxLocals = 2 := hml0
  have hown : s.vm.findClass "com/example/yealm/yealm/equiv/RefinablePartitionMarkPinLaw" = some m.cls := findClass_of_methodNamed Bd.named
  have hnm := (name_of_methodNamed Bd.named Bd.method).1
  have X0 : Stand p l e ({ frames := 0, cells := 0, slots := 0, locals := 0 } : Room) s m #[(.int p1), (.int s1)] below meth c s₁ [] 0 0 := Stand.of_body Bd
  have e0 : s₁.heap = h0 := by rw [← hh, Bd.state]; rfl
  have N0 := Fr.nil n0
  have pre0 : ∀ tgt, Steps p.tables e below (s₁.setTop (mkF m 0 #[.val (.int p1), .val (.int s1)] [])) tgt → Steps p.tables e below (s₁.setTop (entryFrame m #[(.int p1), (.int s1)] 2)) tgt := fun tgt k => castTop (ef_5 m p1 s1) k
  by_cases hc1 : p1 = (0 : Int32)
  ·
    obtain ⟨fs, hr, hrun, hended, hW, hsame⟩ := X0.leave (v := some (.int (0 : Int32))) (fun h => by rw [Bd.returns] at h; cases h)
    refine ⟨_, _, pre0 _ ?_, hrun, hended, _, _, rfl, ?_, ⟨_, rfl⟩, hW, hsame.mono (by decide) (by decide)⟩
    · show Steps p.tables e below (s₁.setTop (mkF m 0 #[.val (.int p1), .val (.int s1)] [])) _
      refine XS.iloadN X0.here hx rfl (hb hby d5_0) rfl ?_
      show Steps p.tables e below (s₁.setTop (mkF m 1 #[.val (.int p1), .val (.int s1)] [(.int p1)])) _
      refine XS.ifNo X0.here hx rfl (hb hby d5_1) rfl ((if0 _ _).trans (teq hc1).2) ?_
      show Steps p.tables e below (s₁.setTop (mkF m 4 #[.val (.int p1), .val (.int s1)] [])) _
      refine XS.iconst X0.here hx rfl (hb hby d5_4) ?_
      show Steps p.tables e below (s₁.setTop (mkF m 5 #[.val (.int p1), .val (.int s1)] [(.int (0 : Int32))])) _
      exact retI X0 hx Bd.returns (hb hby d5_5) hr
    · show QV (own_beg p1 s1) h0 n0 _ s₁.heap _
      rw [e0]
      exact ⟨(by simp only [own_beg, if_pos hc1]), N0, rfl⟩
  ·
    by_cases hc8 : s1 = (1 : Int32)
    ·
      obtain ⟨fs, hr, hrun, hended, hW, hsame⟩ := X0.leave (v := some (.int (0 : Int32))) (fun h => by rw [Bd.returns] at h; cases h)
      refine ⟨_, _, pre0 _ ?_, hrun, hended, _, _, rfl, ?_, ⟨_, rfl⟩, hW, hsame.mono (by decide) (by decide)⟩
      · show Steps p.tables e below (s₁.setTop (mkF m 0 #[.val (.int p1), .val (.int s1)] [])) _
        refine XS.iloadN X0.here hx rfl (hb hby d5_0) rfl ?_
        show Steps p.tables e below (s₁.setTop (mkF m 1 #[.val (.int p1), .val (.int s1)] [(.int p1)])) _
        refine XS.ifYes X0.here hx rfl (pc0 := 1) (pc' := 6) rfl (hb hby d5_1) rfl ((if0 _ _).trans (feq hc1).2) (by decide) (by decide) ?_
        show Steps p.tables e below (s₁.setTop (mkF m 6 #[.val (.int p1), .val (.int s1)] [])) _
        refine XS.iloadN X0.here hx rfl (hb hby d5_6) rfl ?_
        show Steps p.tables e below (s₁.setTop (mkF m 7 #[.val (.int p1), .val (.int s1)] [(.int s1)])) _
        refine XS.iconst X0.here hx rfl (hb hby d5_7) ?_
        show Steps p.tables e below (s₁.setTop (mkF m 8 #[.val (.int p1), .val (.int s1)] [(.int (1 : Int32)), (.int s1)])) _
        refine XS.icmpNo X0.here hx rfl (hb hby d5_8) rfl (teq hc8).2 ?_
        show Steps p.tables e below (s₁.setTop (mkF m 11 #[.val (.int p1), .val (.int s1)] [])) _
        refine XS.iconst X0.here hx rfl (hb hby d5_11) ?_
        show Steps p.tables e below (s₁.setTop (mkF m 12 #[.val (.int p1), .val (.int s1)] [(.int (0 : Int32))])) _
        refine XS.goto X0.here hx rfl (pc0 := 12) (pc' := 16) rfl (hb hby d5_12) (by decide) (by decide) ?_
        show Steps p.tables e below (s₁.setTop (mkF m 16 #[.val (.int p1), .val (.int s1)] [(.int (0 : Int32))])) _
        exact retI X0 hx Bd.returns (hb hby d5_16) hr
      · show QV (own_beg p1 s1) h0 n0 _ s₁.heap _
        rw [e0]
        exact ⟨(by simp only [own_beg, if_neg hc1, if_pos hc8]), N0, rfl⟩
    ·
      obtain ⟨fs, hr, hrun, hended, hW, hsame⟩ := X0.leave (v := some (.int (1 : Int32))) (fun h => by rw [Bd.returns] at h; cases h)
      refine ⟨_, _, pre0 _ ?_, hrun, hended, _, _, rfl, ?_, ⟨_, rfl⟩, hW, hsame.mono (by decide) (by decide)⟩
      · show Steps p.tables e below (s₁.setTop (mkF m 0 #[.val (.int p1), .val (.int s1)] [])) _
        refine XS.iloadN X0.here hx rfl (hb hby d5_0) rfl ?_
        show Steps p.tables e below (s₁.setTop (mkF m 1 #[.val (.int p1), .val (.int s1)] [(.int p1)])) _
        refine XS.ifYes X0.here hx rfl (pc0 := 1) (pc' := 6) rfl (hb hby d5_1) rfl ((if0 _ _).trans (feq hc1).2) (by decide) (by decide) ?_
        show Steps p.tables e below (s₁.setTop (mkF m 6 #[.val (.int p1), .val (.int s1)] [])) _
        refine XS.iloadN X0.here hx rfl (hb hby d5_6) rfl ?_
        show Steps p.tables e below (s₁.setTop (mkF m 7 #[.val (.int p1), .val (.int s1)] [(.int s1)])) _
        refine XS.iconst X0.here hx rfl (hb hby d5_7) ?_
        show Steps p.tables e below (s₁.setTop (mkF m 8 #[.val (.int p1), .val (.int s1)] [(.int (1 : Int32)), (.int s1)])) _
        refine XS.icmpYes X0.here hx rfl (pc0 := 8) (pc' := 15) rfl (hb hby d5_8) rfl (feq hc8).2 (by decide) (by decide) ?_
        show Steps p.tables e below (s₁.setTop (mkF m 15 #[.val (.int p1), .val (.int s1)] [])) _
        refine XS.iconst X0.here hx rfl (hb hby d5_15) ?_
        show Steps p.tables e below (s₁.setTop (mkF m 16 #[.val (.int p1), .val (.int s1)] [(.int (1 : Int32))])) _
        exact retI X0 hx Bd.returns (hb hby d5_16) hr
      · show QV (own_beg p1 s1) h0 n0 _ s₁.heap _
        rw [e0]
        exact ⟨(by simp only [own_beg, if_neg hc1, if_neg hc8]), N0, rfl⟩
theorem ef_11 (m : MethodId) (p1 : Int32) (s1 : Int32) : entryFrame m #[(.int p1), (.int s1)] 2 = mkF m 0 #[.val (.int p1), .val (.int s1)] [] := by first | (simp [entryFrame, mkF, argsToLocals, Value.category]; done) | rfl
set_option maxRecDepth 65536 in
set_option maxHeartbeats 40000000 in
theorem rm11 (l : Launch) (Z : State) (a0 : Array Value) (hw : ∀ d ∈ tables_1, d.before a0 Z = true) (ws : List Jvm.Cond) (p1 s1 : Int32) (h0 : Heap) (n0 : Nat) (Z0 : n0 ≤ h0.size) :
    MetFree l (⟨"com/example/yealm/yealm/equiv/RefinablePartitionMarkPinLaw", "bit", "(II)I"⟩ : MethodName) (head1 (Jvm.Cond.code (⟨"com/example/yealm/yealm/equiv/RefinablePartitionMarkPinLaw", "bit", "(II)I"⟩ : MethodName) method_5_code 2 (some .int) :: ws) ({ frames := 0, cells := 0, slots := 0, locals := 0 } : Room)) (fun a U => a = #[(.int p1), (.int s1)] ∧ Z.Warmed39 U.vm ∧ U.heap = h0) (fun _ _ _ _ _ => True) (fun _ U o U' => ∃ v L, o = .returned v ∧ QV (own_bit p1 s1) h0 n0 v U'.heap L ∧ FrameEnd U o U' L ({ frames := 0, cells := 0, slots := 0, locals := 0 } : Room).cells ({ frames := 0, cells := 0, slots := 0, locals := 0 } : Room).slots) := by
  refine MetFree.of_bodySF (plainFor_of_name pn_11) hisR ?_
  intro p e s m args below meth c s₁ Bd hml0 hP hK
  obtain ⟨rfl, hZ, hh⟩ := hP
  have hx := Bd.exec
  have hby := Bd.bytes
  have hml : c.maxLocals = 2 := hml0
  have hown : s.vm.findClass "com/example/yealm/yealm/equiv/RefinablePartitionMarkPinLaw" = some m.cls := findClass_of_methodNamed Bd.named
  have hnm := (name_of_methodNamed Bd.named Bd.method).1
  have X0 : Stand p l e ({ frames := 0, cells := 0, slots := 0, locals := 0 } : Room) s m #[(.int p1), (.int s1)] below meth c s₁ [] 0 0 := Stand.of_body Bd
  have e0 : s₁.heap = h0 := by rw [← hh, Bd.state]; rfl
  have N0 := Fr.nil n0
  have pre0 : ∀ tgt, Steps p.tables e below (s₁.setTop (mkF m 0 #[.val (.int p1), .val (.int s1)] [])) tgt → Steps p.tables e below (s₁.setTop (entryFrame m #[(.int p1), (.int s1)] 2)) tgt := fun tgt k => castTop (ef_11 m p1 s1) k
  by_cases hc1 : p1 < (0 : Int32)
  ·
    obtain ⟨fs, hr, hrun, hended, hW, hsame⟩ := X0.leave (v := some (.int (0 : Int32))) (fun h => by rw [Bd.returns] at h; cases h)
    refine ⟨_, _, pre0 _ ?_, hrun, hended, _, _, rfl, ?_, ⟨_, rfl⟩, hW, hsame.mono (by decide) (by decide)⟩
    · show Steps p.tables e below (s₁.setTop (mkF m 0 #[.val (.int p1), .val (.int s1)] [])) _
      refine XS.iloadN X0.here hx rfl (hb hby d11_0) rfl ?_
      show Steps p.tables e below (s₁.setTop (mkF m 1 #[.val (.int p1), .val (.int s1)] [(.int p1)])) _
      refine XS.ifYes X0.here hx rfl (pc0 := 1) (pc' := 15) rfl (hb hby d11_1) rfl ((if0 _ _).trans (tlt hc1).1) (by decide) (by decide) ?_
      show Steps p.tables e below (s₁.setTop (mkF m 15 #[.val (.int p1), .val (.int s1)] [])) _
      refine XS.iconst X0.here hx rfl (hb hby d11_15) ?_
      show Steps p.tables e below (s₁.setTop (mkF m 16 #[.val (.int p1), .val (.int s1)] [(.int (0 : Int32))])) _
      exact retI X0 hx Bd.returns (hb hby d11_16) hr
    · show QV (own_bit p1 s1) h0 n0 _ s₁.heap _
      rw [e0]
      exact ⟨(by simp only [own_bit, if_pos hc1]), N0, rfl⟩
  ·
    by_cases hc6 : p1 < s1
    ·
      obtain ⟨fs, hr, hrun, hended, hW, hsame⟩ := X0.leave (v := some (.int ((1 : Int32) <<< (p1 &&& 31)))) (fun h => by rw [Bd.returns] at h; cases h)
      refine ⟨_, _, pre0 _ ?_, hrun, hended, _, _, rfl, ?_, ⟨_, rfl⟩, hW, hsame.mono (by decide) (by decide)⟩
      · show Steps p.tables e below (s₁.setTop (mkF m 0 #[.val (.int p1), .val (.int s1)] [])) _
        refine XS.iloadN X0.here hx rfl (hb hby d11_0) rfl ?_
        show Steps p.tables e below (s₁.setTop (mkF m 1 #[.val (.int p1), .val (.int s1)] [(.int p1)])) _
        refine XS.ifNo X0.here hx rfl (hb hby d11_1) rfl ((if0 _ _).trans (flt hc1).1) ?_
        show Steps p.tables e below (s₁.setTop (mkF m 4 #[.val (.int p1), .val (.int s1)] [])) _
        refine XS.iloadN X0.here hx rfl (hb hby d11_4) rfl ?_
        show Steps p.tables e below (s₁.setTop (mkF m 5 #[.val (.int p1), .val (.int s1)] [(.int p1)])) _
        refine XS.iloadN X0.here hx rfl (hb hby d11_5) rfl ?_
        show Steps p.tables e below (s₁.setTop (mkF m 6 #[.val (.int p1), .val (.int s1)] [(.int s1), (.int p1)])) _
        refine XS.icmpNo X0.here hx rfl (hb hby d11_6) rfl (tlt hc6).2.1 ?_
        show Steps p.tables e below (s₁.setTop (mkF m 9 #[.val (.int p1), .val (.int s1)] [])) _
        refine XS.iconst X0.here hx rfl (hb hby d11_9) ?_
        show Steps p.tables e below (s₁.setTop (mkF m 10 #[.val (.int p1), .val (.int s1)] [(.int (1 : Int32))])) _
        refine XS.iloadN X0.here hx rfl (hb hby d11_10) rfl ?_
        show Steps p.tables e below (s₁.setTop (mkF m 11 #[.val (.int p1), .val (.int s1)] [(.int p1), (.int (1 : Int32))])) _
        refine XS.ishl X0.here hx rfl (hb hby d11_11) rfl ?_
        show Steps p.tables e below (s₁.setTop (mkF m 12 #[.val (.int p1), .val (.int s1)] [(.int ((1 : Int32) <<< (p1 &&& 31)))])) _
        refine XS.goto X0.here hx rfl (pc0 := 12) (pc' := 16) rfl (hb hby d11_12) (by decide) (by decide) ?_
        show Steps p.tables e below (s₁.setTop (mkF m 16 #[.val (.int p1), .val (.int s1)] [(.int ((1 : Int32) <<< (p1 &&& 31)))])) _
        exact retI X0 hx Bd.returns (hb hby d11_16) hr
      · show QV (own_bit p1 s1) h0 n0 _ s₁.heap _
        rw [e0]
        exact ⟨(by simp only [own_bit, if_neg hc1, if_pos hc6]), N0, rfl⟩
    ·
      obtain ⟨fs, hr, hrun, hended, hW, hsame⟩ := X0.leave (v := some (.int (0 : Int32))) (fun h => by rw [Bd.returns] at h; cases h)
      refine ⟨_, _, pre0 _ ?_, hrun, hended, _, _, rfl, ?_, ⟨_, rfl⟩, hW, hsame.mono (by decide) (by decide)⟩
      · show Steps p.tables e below (s₁.setTop (mkF m 0 #[.val (.int p1), .val (.int s1)] [])) _
        refine XS.iloadN X0.here hx rfl (hb hby d11_0) rfl ?_
        show Steps p.tables e below (s₁.setTop (mkF m 1 #[.val (.int p1), .val (.int s1)] [(.int p1)])) _
        refine XS.ifNo X0.here hx rfl (hb hby d11_1) rfl ((if0 _ _).trans (flt hc1).1) ?_
        show Steps p.tables e below (s₁.setTop (mkF m 4 #[.val (.int p1), .val (.int s1)] [])) _
        refine XS.iloadN X0.here hx rfl (hb hby d11_4) rfl ?_
        show Steps p.tables e below (s₁.setTop (mkF m 5 #[.val (.int p1), .val (.int s1)] [(.int p1)])) _
        refine XS.iloadN X0.here hx rfl (hb hby d11_5) rfl ?_
        show Steps p.tables e below (s₁.setTop (mkF m 6 #[.val (.int p1), .val (.int s1)] [(.int s1), (.int p1)])) _
        refine XS.icmpYes X0.here hx rfl (pc0 := 6) (pc' := 15) rfl (hb hby d11_6) rfl (flt hc6).2.1 (by decide) (by decide) ?_
        show Steps p.tables e below (s₁.setTop (mkF m 15 #[.val (.int p1), .val (.int s1)] [])) _
        refine XS.iconst X0.here hx rfl (hb hby d11_15) ?_
        show Steps p.tables e below (s₁.setTop (mkF m 16 #[.val (.int p1), .val (.int s1)] [(.int (0 : Int32))])) _
        exact retI X0 hx Bd.returns (hb hby d11_16) hr
      · show QV (own_bit p1 s1) h0 n0 _ s₁.heap _
        rw [e0]
        exact ⟨(by simp only [own_bit, if_neg hc1, if_neg hc6]), N0, rfl⟩
theorem ef_9 (m : MethodId) (a1 : Addr) (t : Int32) (n : Int32) : entryFrame m #[(.ref a1), (.int t), (.int n)] 3 = mkF m 0 #[.val (.ref a1), .val (.int t), .val (.int n)] [] := by first | (simp [entryFrame, mkF, argsToLocals, Value.category]; done) | rfl
set_option maxRecDepth 65536 in
set_option maxHeartbeats 40000000 in
theorem rm9 (l : Launch) (Z : State) (a0 : Array Value) (hw : ∀ d ∈ tables_1, d.before a0 Z = true) (ws : List Jvm.Cond) (a1 bE bP bB bG bN bM bF bT : Addr) (n : Int32) (lE lP lB lG lN lM lF lT : List Int32) (bc tc : Int32) (t : Int32) (h0 : Heap) (n0 : Nat) (Z0 : n0 ≤ h0.size) (RP : own_RP Z h0 a1 bE bP bB bG bN bM bF bT n lE lP lB lG lN lM lF lT bc tc) (ht : ¬ t < 0) (hle : t.toNatClampNeg < lE.length) :
    MetFree l (⟨"com/example/yealm/yealm/equiv/RefinablePartitionMarkPinLaw", "at", "(Lcom/example/yealm/yealm/equiv/RefinablePartition;II)I"⟩ : MethodName) (head1 (Jvm.Cond.code (⟨"com/example/yealm/yealm/equiv/RefinablePartitionMarkPinLaw", "at", "(Lcom/example/yealm/yealm/equiv/RefinablePartition;II)I"⟩ : MethodName) method_4_code 3 (some .int) :: ws) ({ frames := 1, cells := 0, slots := 0, locals := 13 } : Room)) (fun a U => a = #[(.ref a1), (.int t), (.int n)] ∧ Z.Warmed39 U.vm ∧ U.heap = h0) (fun _ _ _ _ _ => True) (fun _ U o U' => ∃ v L, o = .returned v ∧ QV (own_at n lE t) h0 n0 v U'.heap L ∧ FrameEnd U o U' L ({ frames := 1, cells := 0, slots := 0, locals := 13 } : Room).cells ({ frames := 1, cells := 0, slots := 0, locals := 13 } : Room).slots) := by
  refine MetFree.of_bodySF (plainFor_of_name pn_9) hisR ?_
  intro p e s m args below meth c s₁ Bd hml0 hP hK
  obtain ⟨rfl, hZ, hh⟩ := hP
  have hx := Bd.exec
  have hby := Bd.bytes
  have hml : c.maxLocals = 3 := hml0
  have hown : s.vm.findClass "com/example/yealm/yealm/equiv/RefinablePartitionMarkPinLaw" = some m.cls := findClass_of_methodNamed Bd.named
  have hnm := (name_of_methodNamed Bd.named Bd.method).1
  have X0 : Stand p l e ({ frames := 1, cells := 0, slots := 0, locals := 13 } : Room) s m #[(.ref a1), (.int t), (.int n)] below meth c s₁ [] 0 0 := Stand.of_body Bd
  have e0 : s₁.heap = h0 := by rw [← hh, Bd.state]; rfl
  have N0 := Fr.nil n0
  have pre0 : ∀ tgt, Steps p.tables e below (s₁.setTop (mkF m 0 #[.val (.ref a1), .val (.int t), .val (.int n)] [])) tgt → Steps p.tables e below (s₁.setTop (entryFrame m #[(.ref a1), (.int t), (.int n)] 3)) tgt := fun tgt k => castTop (ef_9 m a1 t n) k
  have Em := RP.1
  by_cases hc2 : t < n
  ·
    obtain ⟨cq1, kq1, q1a, q1b, q1c⟩ := isOf hZ e0 Em
    obtain ⟨_, _, ⟨T1, L1, k1, n1⟩, -, X1, ⟨Lc1, hQ1, l1, y1, z1⟩, st1⟩ := X0.virtualBack hx (y := (⟨"com/example/yealm/yealm/equiv/RefinablePartition", "stateAt", "(I)I"⟩ : MethodName)) (z := (⟨"com/example/yealm/yealm/equiv/RefinablePartition", "stateAt", "(I)I"⟩ : MethodName)) hown (mvT hZ (hw _ (List.mem_of_getElem? (i := 61) rfl))) (mvT hZ (hw _ (List.mem_of_getElem? (i := 62) rfl))) (notFace_of_selects (args := #[]) (mvT hZ (hw _ (List.mem_of_getElem? (i := 64) rfl)))) (mvT hZ (hw _ (List.mem_of_getElem? (i := 64) rfl))) (mvT hZ (hw _ (List.mem_of_getElem? (i := 63) rfl))) (by decide) (backOf (W := 0) (rm10 l Z a0 hw [] a1 bE bP bB bG bN bM bF bT n lE lP lB lG lN lM lF lT bc tc t (lE.getD t.toNatClampNeg 0) h0 n0 Z0 RP (own_get_i ht hc2 hle)) hZ (hw _ (List.mem_of_getElem? (i := 65) rfl)) (hw _ (List.mem_of_getElem? (i := 4) rfl)) (by decide) (by decide)) q1a q1c (g := (mkF m 7 #[.val (.ref a1), .val (.int t), .val (.int n)] [(.int t), (.ref a1)])) rfl (by rw [hml]; rfl) (Steps.refl _) (argsL := [(.int t)]) (rest := []) (lenOf pd_0 rfl) rfl (by show 2 * 0 + _ ≤ _; exact Nat.le_of_eq rfl) (hb hby d9_7) (fun _ _ => ⟨rfl, e0, (by decide : 0 + 0 ≤ _), (by decide : 0 + 0 ≤ _)⟩)
    dsimp only [Pt.U, Pt.locs, Pt.cells, Pt.slots] at X1 l1 y1 z1 st1 hQ1
    subst l1 y1 z1
    obtain ⟨rfl, N1q, e1⟩ := hQ1
    have N1 := Fr.app N0 N1q
    obtain ⟨fs, hr, hrun, hended, hW, hsame⟩ := X1.leave (v := some (.int (lE.getD t.toNatClampNeg 0))) (fun h => by rw [Bd.returns] at h; cases h)
    refine ⟨_, _, pre0 _ ?_, hrun, hended, _, _, rfl, ?_, ⟨_, rfl⟩, hW, hsame.mono (by decide) (by decide)⟩
    · show Steps p.tables e below (s₁.setTop (mkF m 0 #[.val (.ref a1), .val (.int t), .val (.int n)] [])) _
      refine XS.iloadN X0.here hx rfl (hb hby d9_0) rfl ?_
      show Steps p.tables e below (s₁.setTop (mkF m 1 #[.val (.ref a1), .val (.int t), .val (.int n)] [(.int t)])) _
      refine XS.iloadN X0.here hx rfl (hb hby d9_1) rfl ?_
      show Steps p.tables e below (s₁.setTop (mkF m 2 #[.val (.ref a1), .val (.int t), .val (.int n)] [(.int n), (.int t)])) _
      refine XS.icmpNo X0.here hx rfl (hb hby d9_2) rfl (tlt hc2).2.1 ?_
      show Steps p.tables e below (s₁.setTop (mkF m 5 #[.val (.ref a1), .val (.int t), .val (.int n)] [])) _
      refine XS.aloadN X0.here hx rfl (hb hby d9_5) rfl rfl ?_
      show Steps p.tables e below (s₁.setTop (mkF m 6 #[.val (.ref a1), .val (.int t), .val (.int n)] [(.ref a1)])) _
      refine XS.iloadN X0.here hx rfl (hb hby d9_6) rfl ?_
      show Steps p.tables e below (s₁.setTop (mkF m 7 #[.val (.ref a1), .val (.int t), .val (.int n)] [(.int t), (.ref a1)])) _
      refine st1.trans ?_
      show Steps p.tables e below (T1.setTop (mkF m 10 #[.val (.ref a1), .val (.int t), .val (.int n)] [(.int (lE.getD t.toNatClampNeg 0))])) _
      refine XS.goto X1.here hx rfl (pc0 := 10) (pc' := 14) rfl (hb hby d9_10) (by decide) (by decide) ?_
      show Steps p.tables e below (T1.setTop (mkF m 14 #[.val (.ref a1), .val (.int t), .val (.int n)] [(.int (lE.getD t.toNatClampNeg 0))])) _
      exact retI X1 hx Bd.returns (hb hby d9_14) hr
    · show QV (own_at n lE t) h0 n0 _ T1.heap _
      rw [e1]
      exact ⟨(by simp only [own_at, if_pos hc2]), N1, rfl⟩
  ·
    obtain ⟨fs, hr, hrun, hended, hW, hsame⟩ := X0.leave (v := some (.int (-1 : Int32))) (fun h => by rw [Bd.returns] at h; cases h)
    refine ⟨_, _, pre0 _ ?_, hrun, hended, _, _, rfl, ?_, ⟨_, rfl⟩, hW, hsame.mono (by decide) (by decide)⟩
    · show Steps p.tables e below (s₁.setTop (mkF m 0 #[.val (.ref a1), .val (.int t), .val (.int n)] [])) _
      refine XS.iloadN X0.here hx rfl (hb hby d9_0) rfl ?_
      show Steps p.tables e below (s₁.setTop (mkF m 1 #[.val (.ref a1), .val (.int t), .val (.int n)] [(.int t)])) _
      refine XS.iloadN X0.here hx rfl (hb hby d9_1) rfl ?_
      show Steps p.tables e below (s₁.setTop (mkF m 2 #[.val (.ref a1), .val (.int t), .val (.int n)] [(.int n), (.int t)])) _
      refine XS.icmpYes X0.here hx rfl (pc0 := 2) (pc' := 13) rfl (hb hby d9_2) rfl (flt hc2).2.1 (by decide) (by decide) ?_
      show Steps p.tables e below (s₁.setTop (mkF m 13 #[.val (.ref a1), .val (.int t), .val (.int n)] [])) _
      refine XS.iconst X0.here hx rfl (hb hby d9_13) ?_
      show Steps p.tables e below (s₁.setTop (mkF m 14 #[.val (.ref a1), .val (.int t), .val (.int n)] [(.int (-1 : Int32))])) _
      exact retI X0 hx Bd.returns (hb hby d9_14) hr
    · show QV (own_at n lE t) h0 n0 _ s₁.heap _
      rw [e0]
      exact ⟨(by simp only [own_at, if_neg hc2]), N0, rfl⟩
theorem ef_14 (m : MethodId) (a1 : Addr) : entryFrame m #[(.ref a1)] 1 = mkF m 0 #[.val (.ref a1)] [] := by first | (simp [entryFrame, mkF, argsToLocals, Value.category]; done) | rfl
def QR (Z : State) (a1 bE bP bB bG bN bM bF bT : Addr) (n : Int32) (lE lP lB lG lN lM lF lT : List Int32) (bc tc : Int32) (r : Option Value) (h0 : Heap) (n0 : Nat) (v : Option Value) (h : Heap) (L : List Loc) : Prop := v = r ∧ Fr n0 L ∧ Keep h0 h [a1, bE, bP, bB, bG, bN, bM, bF, bT] ∧ own_RP Z h a1 bE bP bB bG bN bM bF bT n lE lP lB lG lN lM lF lT bc tc
set_option maxRecDepth 65536 in
set_option maxHeartbeats 40000000 in
theorem rm14 (l : Launch) (Z : State) (a0 : Array Value) (hw : ∀ d ∈ tables_1, d.before a0 Z = true) (ws : List Jvm.Cond) (a1 bE bP bB bG bN bM bF bT : Addr) (n : Int32) (lE lP lB lG lN lM lF lT : List Int32) (bc tc : Int32) (h0 : Heap) (n0 : Nat) (Z0 : n0 ≤ h0.size) (RP : own_RP Z h0 a1 bE bP bB bG bN bM bF bT n lE lP lB lG lN lM lF lT bc tc) (DD : own_D n0 a1 bE bP bB bG bN bM bF bT) :
    MetFree l (⟨"com/example/yealm/yealm/equiv/RefinablePartition", "forgetTouched", "()V"⟩ : MethodName) (head1 (Jvm.Cond.code (⟨"com/example/yealm/yealm/equiv/RefinablePartition", "forgetTouched", "()V"⟩ : MethodName) prog_61_method_13_code 1 none :: ws) ({ frames := 0, cells := 0, slots := 0, locals := 0 } : Room)) (fun a U => a = #[(.ref a1)] ∧ Z.Warmed39 U.vm ∧ U.heap = h0) (fun _ _ _ _ _ => True) (fun _ U o U' => ∃ v L, o = .returned v ∧ QR Z a1 bE bP bB bG bN bM bF bT n lE lP lB lG lN lM lF lT bc (0 : Int32) (none) h0 n0 v U'.heap L ∧ FrameEnd U o U' L ({ frames := 0, cells := 0, slots := 0, locals := 0 } : Room).cells ({ frames := 0, cells := 0, slots := 0, locals := 0 } : Room).slots) := by
  refine MetFree.of_bodySF (plainFor_of_name pn_14) hisR ?_
  intro p e s m args below meth c s₁ Bd hml0 hP hK
  obtain ⟨rfl, hZ, hh⟩ := hP
  have hx := Bd.exec
  have hby := Bd.bytes
  have hml : c.maxLocals = 1 := hml0
  have hown : s.vm.findClass "com/example/yealm/yealm/equiv/RefinablePartition" = some m.cls := findClass_of_methodNamed Bd.named
  have hnm := (name_of_methodNamed Bd.named Bd.method).1
  have X0 : Stand p l e ({ frames := 0, cells := 0, slots := 0, locals := 0 } : Room) s m #[(.ref a1)] below meth c s₁ [] 0 0 := Stand.of_body Bd
  have e0 : s₁.heap = h0 := by rw [← hh, Bd.state]; rfl
  have N0 := Fr.nil n0
  have pre0 : ∀ tgt, Steps p.tables e below (s₁.setTop (mkF m 0 #[.val (.ref a1)] [])) tgt → Steps p.tables e below (s₁.setTop (entryFrame m #[(.ref a1)] 1)) tgt := fun tgt k => castTop (ef_14 m a1) k
  obtain ⟨Em, FbE, FbP, FbB, FbG, FbN, FbM, FbF, FbT, Fbc, Ftc, ⟨kE, VE⟩, ⟨kP, VP⟩, ⟨kB, VB⟩, ⟨kG, VG⟩, ⟨kN, VN⟩, ⟨kM, VM⟩, ⟨kF, VF⟩, ⟨kT, VT⟩⟩ := RP
  obtain ⟨⟨g_a1, g_bE, g_bP, g_bB, g_bG, g_bN, g_bM, g_bF, g_bT⟩, ⟨naE, naP, naB, naG, naN, naM, naF, naT⟩, ⟨nEP, nEB, nEG, nEN, nEM, nEF, nET, nPB, nPG, nPN, nPM, nPF, nPT, nBG, nBN, nBM, nBF, nBT, nGN, nGM, nGF, nGT, nNM, nNF, nNT, nMF, nMT, nFT⟩⟩ := DD
  obtain ⟨T1, h1, X1, e1, W1, st1⟩ := putF X0 hx hZ hown (host := "") (Or.inl (hw _ (List.mem_of_getElem? (i := 34) rfl))) Via.refl e0 Ftc Em (Or.inl (hw _ (List.mem_of_getElem? (i := 35) rfl))) (hw _ (List.mem_of_getElem? (i := 3) rfl)) (ty := .int) (by decide) rfl rfl (g := (mkF m 2 #[.val (.ref a1)] [(.int (0 : Int32)), (.ref a1)])) rfl rfl (hb hby d14_2)
  have Fw1 := Ftc.same W1
  have N1 := Fr.snoc X1 N0 g_a1
  have fx2 := (FbE.other W1 (Or.inr (slot_ne (Or.inr (hw _ (List.mem_of_getElem? (i := 14) rfl))) (Or.inl (hw _ (List.mem_of_getElem? (i := 35) rfl))) (by decide) (t := (.array .int)) (t' := .int) (by decide) (by decide))))
  have fx3 := (FbP.other W1 (Or.inr (slot_ne (Or.inr (hw _ (List.mem_of_getElem? (i := 16) rfl))) (Or.inl (hw _ (List.mem_of_getElem? (i := 35) rfl))) (by decide) (t := (.array .int)) (t' := .int) (by decide) (by decide))))
  have fx4 := (FbB.other W1 (Or.inr (slot_ne (Or.inr (hw _ (List.mem_of_getElem? (i := 18) rfl))) (Or.inl (hw _ (List.mem_of_getElem? (i := 35) rfl))) (by decide) (t := (.array .int)) (t' := .int) (by decide) (by decide))))
  have fx5 := (FbG.other W1 (Or.inr (slot_ne (Or.inr (hw _ (List.mem_of_getElem? (i := 20) rfl))) (Or.inl (hw _ (List.mem_of_getElem? (i := 35) rfl))) (by decide) (t := (.array .int)) (t' := .int) (by decide) (by decide))))
  have fx6 := (FbN.other W1 (Or.inr (slot_ne (Or.inr (hw _ (List.mem_of_getElem? (i := 22) rfl))) (Or.inl (hw _ (List.mem_of_getElem? (i := 35) rfl))) (by decide) (t := (.array .int)) (t' := .int) (by decide) (by decide))))
  have fx7 := (FbM.other W1 (Or.inr (slot_ne (Or.inr (hw _ (List.mem_of_getElem? (i := 24) rfl))) (Or.inl (hw _ (List.mem_of_getElem? (i := 35) rfl))) (by decide) (t := (.array .int)) (t' := .int) (by decide) (by decide))))
  have fx8 := (FbF.other W1 (Or.inr (slot_ne (Or.inr (hw _ (List.mem_of_getElem? (i := 26) rfl))) (Or.inl (hw _ (List.mem_of_getElem? (i := 35) rfl))) (by decide) (t := (.array .int)) (t' := .int) (by decide) (by decide))))
  have fx9 := (FbT.other W1 (Or.inr (slot_ne (Or.inr (hw _ (List.mem_of_getElem? (i := 28) rfl))) (Or.inl (hw _ (List.mem_of_getElem? (i := 35) rfl))) (by decide) (t := (.array .int)) (t' := .int) (by decide) (by decide))))
  have fx10 := (Fbc.other W1 (Or.inr (slot_ne (Or.inl (hw _ (List.mem_of_getElem? (i := 12) rfl))) (Or.inl (hw _ (List.mem_of_getElem? (i := 35) rfl))) (by decide) (t := .int) (t' := .int) (by decide) (by decide))))
  obtain ⟨fs, hr, hrun, hended, hW, hsame⟩ := X1.leave (v := none) (fun _ => rfl)
  refine ⟨_, _, pre0 _ ?_, hrun, hended, _, _, rfl, ?_, ⟨_, rfl⟩, hW, hsame.mono (by decide) (by decide)⟩
  · show Steps p.tables e below (s₁.setTop (mkF m 0 #[.val (.ref a1)] [])) _
    refine XS.aloadN X0.here hx rfl (hb hby d14_0) rfl rfl ?_
    show Steps p.tables e below (s₁.setTop (mkF m 1 #[.val (.ref a1)] [(.ref a1)])) _
    refine XS.iconst X0.here hx rfl (hb hby d14_1) ?_
    show Steps p.tables e below (s₁.setTop (mkF m 2 #[.val (.ref a1)] [(.int (0 : Int32)), (.ref a1)])) _
    refine st1 _ ?_
    show Steps p.tables e below (T1.setTop (mkF m 5 #[.val (.ref a1)] [])) _
    exact X1.returnOut hx Bd.returns (hb hby d14_5) hr
  · show QR Z a1 bE bP bB bG bN bM bF bT n lE lP lB lG lN lM lF lT bc (0 : Int32) (none) h0 n0 _ T1.heap _
    rw [e1]
    exact ⟨rfl, N1, ((Keep.refl h0 [a1, bE, bP, bB, bG, bN, bM, bF, bT]).wr W1 (Or.inl (List.mem_of_getElem? (i := 0) rfl))), ⟨(Em.wr W1), fx2, fx3, fx4, fx5, fx6, fx7, fx8, fx9, fx10, Fw1, ⟨_, (VE.other W1 (Ne.symm naE))⟩, ⟨_, (VP.other W1 (Ne.symm naP))⟩, ⟨_, (VB.other W1 (Ne.symm naB))⟩, ⟨_, (VG.other W1 (Ne.symm naG))⟩, ⟨_, (VN.other W1 (Ne.symm naN))⟩, ⟨_, (VM.other W1 (Ne.symm naM))⟩, ⟨_, (VF.other W1 (Ne.symm naF))⟩, ⟨_, (VT.other W1 (Ne.symm naT))⟩⟩⟩
theorem ef_3 (m : MethodId) (a1 : Addr) (s1 : Int32) : entryFrame m #[(.ref a1), (.int s1)] 6 = mkF m 0 #[.val (.ref a1), .val (.int s1), .unset, .unset, .unset, .unset] [] := by first | (simp [entryFrame, mkF, argsToLocals, Value.category]; done) | rfl
set_option maxRecDepth 65536 in
set_option maxHeartbeats 40000000 in
theorem rm3 (l : Launch) (Z : State) (a0 : Array Value) (hw : ∀ d ∈ tables_1, d.before a0 Z = true) (ws : List Jvm.Cond) (a1 bE bP bB bG bN bM bF bT : Addr) (n : Int32) (lE lP lB lG lN lM lF lT : List Int32) (bc tc : Int32) (s1 r : Int32) (lE' lP' lM' lT' : List Int32) (tc' : Int32) (h0 : Heap) (n0 : Nat) (Z0 : n0 ≤ h0.size) (RP : own_RP Z h0 a1 bE bP bB bG bN bM bF bT n lE lP lB lG lN lM lF lT bc tc) (DD : own_D n0 a1 bE bP bB bG bN bM bF bT) (hm : own_mark n lE lP lB lG lM lT tc s1 = some (r, lE', lP', lM', lT', tc')) :
    MetFree l (⟨"com/example/yealm/yealm/equiv/RefinablePartition", "mark", "(I)Z"⟩ : MethodName) (head1 (Jvm.Cond.code (⟨"com/example/yealm/yealm/equiv/RefinablePartition", "mark", "(I)Z"⟩ : MethodName) prog_61_method_10_code 6 (some .boolean) :: ws) ({ frames := 0, cells := 0, slots := 0, locals := 0 } : Room)) (fun a U => a = #[(.ref a1), (.int s1)] ∧ Z.Warmed39 U.vm ∧ U.heap = h0) (fun _ _ _ _ _ => True) (fun _ U o U' => ∃ v L, o = .returned v ∧ QR Z a1 bE bP bB bG bN bM bF bT n lE' lP' lB lG lN lM' lF lT' bc tc' (some (.int r)) h0 n0 v U'.heap L ∧ FrameEnd U o U' L ({ frames := 0, cells := 0, slots := 0, locals := 0 } : Room).cells ({ frames := 0, cells := 0, slots := 0, locals := 0 } : Room).slots) := by
  refine MetFree.of_bodySF (plainFor_of_name pn_3) hisR ?_
  intro p e s m args below meth c s₁ Bd hml0 hP hK
  obtain ⟨rfl, hZ, hh⟩ := hP
  have hx := Bd.exec
  have hby := Bd.bytes
  have hml : c.maxLocals = 6 := hml0
  have hown : s.vm.findClass "com/example/yealm/yealm/equiv/RefinablePartition" = some m.cls := findClass_of_methodNamed Bd.named
  have hnm := (name_of_methodNamed Bd.named Bd.method).1
  have X0 : Stand p l e ({ frames := 0, cells := 0, slots := 0, locals := 0 } : Room) s m #[(.ref a1), (.int s1)] below meth c s₁ [] 0 0 := Stand.of_body Bd
  have e0 : s₁.heap = h0 := by rw [← hh, Bd.state]; rfl
  have N0 := Fr.nil n0
  have pre0 : ∀ tgt, Steps p.tables e below (s₁.setTop (mkF m 0 #[.val (.ref a1), .val (.int s1), .unset, .unset, .unset, .unset] [])) tgt → Steps p.tables e below (s₁.setTop (entryFrame m #[(.ref a1), (.int s1)] 6)) tgt := fun tgt k => castTop (ef_3 m a1 s1) k
  simp only [own_mark, Option.bind_eq_some_iff] at hm
  obtain ⟨vb, hvb, vp, hvp, ve, hve, hm⟩ := hm
  replace hvb := own_get_e hvb
  replace hvp := own_get_e hvp
  replace hve := own_get_e hve
  obtain ⟨Em, FbE, FbP, FbB, FbG, FbN, FbM, FbF, FbT, Fbc, Ftc, ⟨kE, VE⟩, ⟨kP, VP⟩, ⟨kB, VB⟩, ⟨kG, VG⟩, ⟨kN, VN⟩, ⟨kM, VM⟩, ⟨kF, VF⟩, ⟨kT, VT⟩⟩ := RP
  obtain ⟨⟨g_a1, g_bE, g_bP, g_bB, g_bG, g_bN, g_bM, g_bF, g_bT⟩, ⟨naE, naP, naB, naG, naN, naM, naF, naT⟩, ⟨nEP, nEB, nEG, nEN, nEM, nEF, nET, nPB, nPG, nPN, nPM, nPF, nPT, nBG, nBN, nBM, nBF, nBT, nGN, nGM, nGF, nGT, nNM, nNF, nNT, nMF, nMT, nFT⟩⟩ := DD
  obtain ⟨T1, X1, e1, st1⟩ := getF X0 hx hZ hown (host := "") (Or.inl (hw _ (List.mem_of_getElem? (i := 17) rfl))) Via.refl e0 FbB (g := (mkF m 1 #[.val (.ref a1), .val (.int s1), .unset, .unset, .unset, .unset] [(.ref a1)])) rfl rfl (hb hby d3_1)
  have Vo_2 := VB
  obtain ⟨Cl_2, Ar_2, Kc_2, Sz_2, Nn_2, Hs_2, Gf_2⟩ := Vo_2
  obtain ⟨T3, X3, e3, st3⟩ := getF X1 hx hZ hown (host := "") (Or.inl (hw _ (List.mem_of_getElem? (i := 15) rfl))) Via.refl e1 FbP (g := (mkF m 8 #[.val (.ref a1), .val (.int s1), .val (.int vb), .unset, .unset, .unset] [(.ref a1)])) rfl rfl (hb hby d3_8)
  have Vo_4 := VP
  obtain ⟨Cl_4, Ar_4, Kc_4, Sz_4, Nn_4, Hs_4, Gf_4⟩ := Vo_4
  obtain ⟨T5, X5, e5, st5⟩ := getF X3 hx hZ hown (host := "") (Or.inl (hw _ (List.mem_of_getElem? (i := 23) rfl))) Via.refl e3 FbM (g := (mkF m 15 #[.val (.ref a1), .val (.int s1), .val (.int vb), .val (.int vp), .unset, .unset] [(.ref a1)])) rfl rfl (hb hby d3_15)
  have Vo_6 := VM
  obtain ⟨Cl_6, Ar_6, Kc_6, Sz_6, Nn_6, Hs_6, Gf_6⟩ := Vo_6
  by_cases hc25 : vp < ve
  ·
    rw [if_pos hc25] at hm
    simp only [Option.some.injEq, Prod.mk.injEq] at hm
    obtain ⟨rfl, rfl, rfl, rfl, rfl, rfl⟩ := hm
    obtain ⟨fs, hr, hrun, hended, hW, hsame⟩ := X5.leave (v := some (.int (0 : Int32))) (fun h => by rw [Bd.returns] at h; cases h)
    refine ⟨_, _, pre0 _ ?_, hrun, hended, _, _, rfl, ?_, ⟨_, rfl⟩, hW, hsame.mono (by decide) (by decide)⟩
    · show Steps p.tables e below (s₁.setTop (mkF m 0 #[.val (.ref a1), .val (.int s1), .unset, .unset, .unset, .unset] [])) _
      refine XS.aloadN X0.here hx rfl (hb hby d3_0) rfl rfl ?_
      show Steps p.tables e below (s₁.setTop (mkF m 1 #[.val (.ref a1), .val (.int s1), .unset, .unset, .unset, .unset] [(.ref a1)])) _
      refine st1 _ ?_
      show Steps p.tables e below (T1.setTop (mkF m 4 #[.val (.ref a1), .val (.int s1), .unset, .unset, .unset, .unset] [(.ref bB)])) _
      refine XS.iloadN X1.here hx rfl (hb hby d3_4) rfl ?_
      show Steps p.tables e below (T1.setTop (mkF m 5 #[.val (.ref a1), .val (.int s1), .unset, .unset, .unset, .unset] [(.int s1), (.ref bB)])) _
      refine X1.iaload hx (j := s1) (v := (.int vb)) (by rw [e1]; exact Ar_2.1) (State.isArrayOf_alike hZ.alike Ar_2.2.1) Ar_2.2.2 (inb_of Sz_2 hvb.1) (Has.at Hs_2 (inb_of Sz_2 hvb.1) (own_getD hvb.2)) (g := (mkF m 5 #[.val (.ref a1), .val (.int s1), .unset, .unset, .unset, .unset] [(.int s1), (.ref bB)])) rfl rfl (hb hby d3_5) _ ?_
      show Steps p.tables e below (T1.setTop (mkF m 6 #[.val (.ref a1), .val (.int s1), .unset, .unset, .unset, .unset] [(.int vb)])) _
      refine XS.istoreN X1.here hx rfl (hb hby d3_6) rfl (l' := #[.val (.ref a1), .val (.int s1), .val (.int vb), .unset, .unset, .unset]) rfl ?_
      show Steps p.tables e below (T1.setTop (mkF m 7 #[.val (.ref a1), .val (.int s1), .val (.int vb), .unset, .unset, .unset] [])) _
      refine XS.aloadN X1.here hx rfl (hb hby d3_7) rfl rfl ?_
      show Steps p.tables e below (T1.setTop (mkF m 8 #[.val (.ref a1), .val (.int s1), .val (.int vb), .unset, .unset, .unset] [(.ref a1)])) _
      refine st3 _ ?_
      show Steps p.tables e below (T3.setTop (mkF m 11 #[.val (.ref a1), .val (.int s1), .val (.int vb), .unset, .unset, .unset] [(.ref bP)])) _
      refine XS.iloadN X3.here hx rfl (hb hby d3_11) rfl ?_
      show Steps p.tables e below (T3.setTop (mkF m 12 #[.val (.ref a1), .val (.int s1), .val (.int vb), .unset, .unset, .unset] [(.int s1), (.ref bP)])) _
      refine X3.iaload hx (j := s1) (v := (.int vp)) (by rw [e3]; exact Ar_4.1) (State.isArrayOf_alike hZ.alike Ar_4.2.1) Ar_4.2.2 (inb_of Sz_4 hvp.1) (Has.at Hs_4 (inb_of Sz_4 hvp.1) (own_getD hvp.2)) (g := (mkF m 12 #[.val (.ref a1), .val (.int s1), .val (.int vb), .unset, .unset, .unset] [(.int s1), (.ref bP)])) rfl rfl (hb hby d3_12) _ ?_
      show Steps p.tables e below (T3.setTop (mkF m 13 #[.val (.ref a1), .val (.int s1), .val (.int vb), .unset, .unset, .unset] [(.int vp)])) _
      refine XS.istoreN X3.here hx rfl (hb hby d3_13) rfl (l' := #[.val (.ref a1), .val (.int s1), .val (.int vb), .val (.int vp), .unset, .unset]) rfl ?_
      show Steps p.tables e below (T3.setTop (mkF m 14 #[.val (.ref a1), .val (.int s1), .val (.int vb), .val (.int vp), .unset, .unset] [])) _
      refine XS.aloadN X3.here hx rfl (hb hby d3_14) rfl rfl ?_
      show Steps p.tables e below (T3.setTop (mkF m 15 #[.val (.ref a1), .val (.int s1), .val (.int vb), .val (.int vp), .unset, .unset] [(.ref a1)])) _
      refine st5 _ ?_
      show Steps p.tables e below (T5.setTop (mkF m 18 #[.val (.ref a1), .val (.int s1), .val (.int vb), .val (.int vp), .unset, .unset] [(.ref bM)])) _
      refine XS.iloadN X5.here hx rfl (hb hby d3_18) rfl ?_
      show Steps p.tables e below (T5.setTop (mkF m 19 #[.val (.ref a1), .val (.int s1), .val (.int vb), .val (.int vp), .unset, .unset] [(.int vb), (.ref bM)])) _
      refine X5.iaload hx (j := vb) (v := (.int ve)) (by rw [e5]; exact Ar_6.1) (State.isArrayOf_alike hZ.alike Ar_6.2.1) Ar_6.2.2 (inb_of Sz_6 hve.1) (Has.at Hs_6 (inb_of Sz_6 hve.1) (own_getD hve.2)) (g := (mkF m 19 #[.val (.ref a1), .val (.int s1), .val (.int vb), .val (.int vp), .unset, .unset] [(.int vb), (.ref bM)])) rfl rfl (hb hby d3_19) _ ?_
      show Steps p.tables e below (T5.setTop (mkF m 20 #[.val (.ref a1), .val (.int s1), .val (.int vb), .val (.int vp), .unset, .unset] [(.int ve)])) _
      refine XS.istore X5.here hx rfl (hb hby d3_20) rfl (l' := #[.val (.ref a1), .val (.int s1), .val (.int vb), .val (.int vp), .val (.int ve), .unset]) rfl ?_
      show Steps p.tables e below (T5.setTop (mkF m 22 #[.val (.ref a1), .val (.int s1), .val (.int vb), .val (.int vp), .val (.int ve), .unset] [])) _
      refine XS.iloadN X5.here hx rfl (hb hby d3_22) rfl ?_
      show Steps p.tables e below (T5.setTop (mkF m 23 #[.val (.ref a1), .val (.int s1), .val (.int vb), .val (.int vp), .val (.int ve), .unset] [(.int vp)])) _
      refine XS.iload X5.here hx rfl (hb hby d3_23) rfl ?_
      show Steps p.tables e below (T5.setTop (mkF m 25 #[.val (.ref a1), .val (.int s1), .val (.int vb), .val (.int vp), .val (.int ve), .unset] [(.int ve), (.int vp)])) _
      refine XS.icmpNo X5.here hx rfl (hb hby d3_25) rfl (tlt hc25).2.1 ?_
      show Steps p.tables e below (T5.setTop (mkF m 28 #[.val (.ref a1), .val (.int s1), .val (.int vb), .val (.int vp), .val (.int ve), .unset] [])) _
      refine XS.iconst X5.here hx rfl (hb hby d3_28) ?_
      show Steps p.tables e below (T5.setTop (mkF m 29 #[.val (.ref a1), .val (.int s1), .val (.int vb), .val (.int vp), .val (.int ve), .unset] [(.int (0 : Int32))])) _
      exact retN X5 hx (t := .boolean) Bd.returns (by simp) (hb hby d3_29) hr
    · show QR Z a1 bE bP bB bG bN bM bF bT n _ _ _ _ _ _ _ _ _ _ _ h0 n0 _ T5.heap _
      rw [e5]
      exact ⟨rfl, N0, (Keep.refl h0 [a1, bE, bP, bB, bG, bN, bM, bF, bT]), ⟨Em, FbE, FbP, FbB, FbG, FbN, FbM, FbF, FbT, Fbc, Ftc, ⟨_, VE⟩, ⟨_, VP⟩, ⟨_, VB⟩, ⟨_, VG⟩, ⟨_, VN⟩, ⟨_, VM⟩, ⟨_, VF⟩, ⟨_, VT⟩⟩⟩
  ·
    rw [if_neg hc25] at hm
    simp only [Option.bind_eq_some_iff] at hm
    obtain ⟨vg, hvg, ⟨T1, tc1⟩, hq, vo, hvo, E1, hE1, P1, hP1, E2, hE2, P2, hP2, M1, hM1, hres⟩ := hm
    replace hvg := own_get_e hvg
    replace hvo := own_get_e hvo
    replace hE1 := own_put_e hE1
    replace hP1 := own_put_e hP1
    replace hE2 := own_put_e hE2
    replace hP2 := own_put_e hP2
    replace hM1 := own_put_e hM1
    obtain ⟨T7, X7, e7, st7⟩ := getF X5 hx hZ hown (host := "") (Or.inl (hw _ (List.mem_of_getElem? (i := 19) rfl))) Via.refl e5 FbG (g := (mkF m 33 #[.val (.ref a1), .val (.int s1), .val (.int vb), .val (.int vp), .val (.int ve), .unset] [(.ref a1), (.int ve)])) rfl rfl (hb hby d3_33)
    have Vo_8 := VG
    obtain ⟨Cl_8, Ar_8, Kc_8, Sz_8, Nn_8, Hs_8, Gf_8⟩ := Vo_8
    by_cases hc38 : ve = vg
    ·
      rw [if_pos hc38] at hq
      simp only [Option.bind_eq_some_iff, Option.some.injEq, Prod.mk.injEq] at hq
      obtain ⟨T2, hT, rfl, rfl⟩ := hq
      replace hT := own_put_e hT
      obtain ⟨T9, X9, e9, st9⟩ := getF X7 hx hZ hown (host := "") (Or.inl (hw _ (List.mem_of_getElem? (i := 27) rfl))) Via.refl e7 FbT (g := (mkF m 42 #[.val (.ref a1), .val (.int s1), .val (.int vb), .val (.int vp), .val (.int ve), .unset] [(.ref a1)])) rfl rfl (hb hby d3_42)
      obtain ⟨T10, X10, e10, st10⟩ := getF X9 hx hZ hown (host := "") (Or.inl (hw _ (List.mem_of_getElem? (i := 34) rfl))) Via.refl e9 Ftc (g := (mkF m 47 #[.val (.ref a1), .val (.int s1), .val (.int vb), .val (.int vp), .val (.int ve), .unset] [(.ref a1), (.ref a1), (.ref bT)])) rfl rfl (hb hby d3_47)
      obtain ⟨T11, h11, X11, e11, W11, st11⟩ := putF X10 hx hZ hown (host := "") (Or.inl (hw _ (List.mem_of_getElem? (i := 34) rfl))) Via.refl e10 Ftc Em (Or.inl (hw _ (List.mem_of_getElem? (i := 35) rfl))) (hw _ (List.mem_of_getElem? (i := 3) rfl)) (ty := .int) (by decide) rfl rfl (g := (mkF m 53 #[.val (.ref a1), .val (.int s1), .val (.int vb), .val (.int vp), .val (.int ve), .unset] [(.int (tc + (1 : Int32))), (.ref a1), (.int tc), (.ref bT)])) rfl rfl (hb hby d3_53)
      have Fw11 := Ftc.same W11
      have N11 := Fr.snoc X11 N0 g_a1
      have Vo_12 := (VT.other W11 (Ne.symm naT))
      obtain ⟨Cl_12, Ar_12, Kc_12, Sz_12, Nn_12, Hs_12, Gf_12⟩ := Vo_12
      obtain ⟨T13, h13, X13, e13, W13, st13⟩ := stI X11 hx hZ e11 Ar_12 (j := tc) (inb_of Sz_12 hT.1) (g := (mkF m 57 #[.val (.ref a1), .val (.int s1), .val (.int vb), .val (.int vp), .val (.int ve), .unset] [(.int vb), (.int tc), (.ref bT)])) rfl rfl (hb hby d3_57)
      have Vs13 : Arv Z h13 bT kT .int n ((lT.map Value.int).set (tc).toNatClampNeg (.int vb)) (.int (0 : Int32)) := Arv.set Ar_12 Kc_12 Sz_12 Nn_12 Hs_12 Gf_12 rfl W13 (tc).toNatClampNeg rfl (by rw [List.length_map]; exact hT.2.1)
      have Vt13 : Arv Z h13 bT kT .int n (T2.map Value.int) (.int (0 : Int32)) := own_vs hT.2.2 ▸ Vs13
      have N13 := Fr.snoc X13 N11 g_bT
      have fx14 := ((FbE.other W11 (Or.inr (slot_ne (Or.inr (hw _ (List.mem_of_getElem? (i := 14) rfl))) (Or.inl (hw _ (List.mem_of_getElem? (i := 35) rfl))) (by decide) (t := (.array .int)) (t' := .int) (by decide) (by decide)))).other W13 (Or.inl naT))
      obtain ⟨T15, X15, e15, st15⟩ := getF X13 hx hZ hown (host := "") (Or.inl (hw _ (List.mem_of_getElem? (i := 13) rfl))) Via.refl e13 fx14 (g := (mkF m 59 #[.val (.ref a1), .val (.int s1), .val (.int vb), .val (.int vp), .val (.int ve), .unset] [(.ref a1)])) rfl rfl (hb hby d3_59)
      have Vo_16 := ((VE.other W11 (Ne.symm naE)).other W13 nET)
      obtain ⟨Cl_16, Ar_16, Kc_16, Sz_16, Nn_16, Hs_16, Gf_16⟩ := Vo_16
      obtain ⟨T17, X17, e17, st17⟩ := getF X15 hx hZ hown (host := "") (Or.inl (hw _ (List.mem_of_getElem? (i := 13) rfl))) Via.refl e15 fx14 (g := (mkF m 68 #[.val (.ref a1), .val (.int s1), .val (.int vb), .val (.int vp), .val (.int ve), .val (.int vo)] [(.ref a1)])) rfl rfl (hb hby d3_68)
      have Vo_18 := ((VE.other W11 (Ne.symm naE)).other W13 nET)
      obtain ⟨Cl_18, Ar_18, Kc_18, Sz_18, Nn_18, Hs_18, Gf_18⟩ := Vo_18
      obtain ⟨T19, h19, X19, e19, W19, st19⟩ := stI X17 hx hZ e17 Ar_18 (j := ve) (inb_of Sz_18 hE1.1) (g := (mkF m 74 #[.val (.ref a1), .val (.int s1), .val (.int vb), .val (.int vp), .val (.int ve), .val (.int vo)] [(.int s1), (.int ve), (.ref bE)])) rfl rfl (hb hby d3_74)
      have Vs19 : Arv Z h19 bE kE .int n ((lE.map Value.int).set (ve).toNatClampNeg (.int s1)) (.int (0 : Int32)) := Arv.set Ar_18 Kc_18 Sz_18 Nn_18 Hs_18 Gf_18 rfl W19 (ve).toNatClampNeg rfl (by rw [List.length_map]; exact hE1.2.1)
      have Vt19 : Arv Z h19 bE kE .int n (E1.map Value.int) (.int (0 : Int32)) := own_vs hE1.2.2 ▸ Vs19
      have N19 := Fr.snoc X19 N13 g_bE
      have fx20 := (((FbP.other W11 (Or.inr (slot_ne (Or.inr (hw _ (List.mem_of_getElem? (i := 16) rfl))) (Or.inl (hw _ (List.mem_of_getElem? (i := 35) rfl))) (by decide) (t := (.array .int)) (t' := .int) (by decide) (by decide)))).other W13 (Or.inl naT)).other W19 (Or.inl naE))
      obtain ⟨T21, X21, e21, st21⟩ := getF X19 hx hZ hown (host := "") (Or.inl (hw _ (List.mem_of_getElem? (i := 15) rfl))) Via.refl e19 fx20 (g := (mkF m 76 #[.val (.ref a1), .val (.int s1), .val (.int vb), .val (.int vp), .val (.int ve), .val (.int vo)] [(.ref a1)])) rfl rfl (hb hby d3_76)
      have fx23 := (((VP.other W11 (Ne.symm naP)).other W13 nPT).other W19 (Ne.symm nEP))
      have Vo_22 := fx23
      obtain ⟨Cl_22, Ar_22, Kc_22, Sz_22, Nn_22, Hs_22, Gf_22⟩ := Vo_22
      obtain ⟨T24, h24, X24, e24, W24, st24⟩ := stI X21 hx hZ e21 Ar_22 (j := s1) (inb_of Sz_22 hP1.1) (g := (mkF m 82 #[.val (.ref a1), .val (.int s1), .val (.int vb), .val (.int vp), .val (.int ve), .val (.int vo)] [(.int ve), (.int s1), (.ref bP)])) rfl rfl (hb hby d3_82)
      have Vs24 : Arv Z h24 bP kP .int n ((lP.map Value.int).set (s1).toNatClampNeg (.int ve)) (.int (0 : Int32)) := Arv.set Ar_22 Kc_22 Sz_22 Nn_22 Hs_22 Gf_22 rfl W24 (s1).toNatClampNeg rfl (by rw [List.length_map]; exact hP1.2.1)
      have Vt24 : Arv Z h24 bP kP .int n (P1.map Value.int) (.int (0 : Int32)) := own_vs hP1.2.2 ▸ Vs24
      have N24 := Fr.snoc X24 N19 g_bP
      obtain ⟨T25, X25, e25, st25⟩ := getF X24 hx hZ hown (host := "") (Or.inl (hw _ (List.mem_of_getElem? (i := 13) rfl))) Via.refl e24 ((fx14.other W19 (Or.inl naE)).other W24 (Or.inl naP)) (g := (mkF m 84 #[.val (.ref a1), .val (.int s1), .val (.int vb), .val (.int vp), .val (.int ve), .val (.int vo)] [(.ref a1)])) rfl rfl (hb hby d3_84)
      have Vo_26 := (Vt19.other W24 nEP)
      obtain ⟨Cl_26, Ar_26, Kc_26, Sz_26, Nn_26, Hs_26, Gf_26⟩ := Vo_26
      obtain ⟨T27, h27, X27, e27, W27, st27⟩ := stI X25 hx hZ e25 Ar_26 (j := vp) (inb_of Sz_26 hE2.1) (g := (mkF m 90 #[.val (.ref a1), .val (.int s1), .val (.int vb), .val (.int vp), .val (.int ve), .val (.int vo)] [(.int vo), (.int vp), (.ref bE)])) rfl rfl (hb hby d3_90)
      have Vs27 : Arv Z h27 bE kE .int n ((E1.map Value.int).set (vp).toNatClampNeg (.int vo)) (.int (0 : Int32)) := Arv.set Ar_26 Kc_26 Sz_26 Nn_26 Hs_26 Gf_26 rfl W27 (vp).toNatClampNeg rfl (by rw [List.length_map]; exact hE2.2.1)
      have Vt27 : Arv Z h27 bE kE .int n (E2.map Value.int) (.int (0 : Int32)) := own_vs hE2.2.2 ▸ Vs27
      have N27 := Fr.snoc X27 N24 g_bE
      obtain ⟨T28, X28, e28, st28⟩ := getF X27 hx hZ hown (host := "") (Or.inl (hw _ (List.mem_of_getElem? (i := 15) rfl))) Via.refl e27 ((fx20.other W24 (Or.inl naP)).other W27 (Or.inl naE)) (g := (mkF m 92 #[.val (.ref a1), .val (.int s1), .val (.int vb), .val (.int vp), .val (.int ve), .val (.int vo)] [(.ref a1)])) rfl rfl (hb hby d3_92)
      have Vo_29 := (Vt24.other W27 (Ne.symm nEP))
      obtain ⟨Cl_29, Ar_29, Kc_29, Sz_29, Nn_29, Hs_29, Gf_29⟩ := Vo_29
      obtain ⟨T30, h30, X30, e30, W30, st30⟩ := stI X28 hx hZ e28 Ar_29 (j := vo) (inb_of Sz_29 hP2.1) (g := (mkF m 98 #[.val (.ref a1), .val (.int s1), .val (.int vb), .val (.int vp), .val (.int ve), .val (.int vo)] [(.int vp), (.int vo), (.ref bP)])) rfl rfl (hb hby d3_98)
      have Vs30 : Arv Z h30 bP kP .int n ((P1.map Value.int).set (vo).toNatClampNeg (.int vp)) (.int (0 : Int32)) := Arv.set Ar_29 Kc_29 Sz_29 Nn_29 Hs_29 Gf_29 rfl W30 (vo).toNatClampNeg rfl (by rw [List.length_map]; exact hP2.2.1)
      have Vt30 : Arv Z h30 bP kP .int n (P2.map Value.int) (.int (0 : Int32)) := own_vs hP2.2.2 ▸ Vs30
      have N30 := Fr.snoc X30 N27 g_bP
      have fx31 := ((((((FbM.other W11 (Or.inr (slot_ne (Or.inr (hw _ (List.mem_of_getElem? (i := 24) rfl))) (Or.inl (hw _ (List.mem_of_getElem? (i := 35) rfl))) (by decide) (t := (.array .int)) (t' := .int) (by decide) (by decide)))).other W13 (Or.inl naT)).other W19 (Or.inl naE)).other W24 (Or.inl naP)).other W27 (Or.inl naE)).other W30 (Or.inl naP))
      obtain ⟨T32, X32, e32, st32⟩ := getF X30 hx hZ hown (host := "") (Or.inl (hw _ (List.mem_of_getElem? (i := 23) rfl))) Via.refl e30 fx31 (g := (mkF m 100 #[.val (.ref a1), .val (.int s1), .val (.int vb), .val (.int vp), .val (.int ve), .val (.int vo)] [(.ref a1)])) rfl rfl (hb hby d3_100)
      have fx34 := ((((((VM.other W11 (Ne.symm naM)).other W13 nMT).other W19 (Ne.symm nEM)).other W24 (Ne.symm nPM)).other W27 (Ne.symm nEM)).other W30 (Ne.symm nPM))
      have Vo_33 := fx34
      obtain ⟨Cl_33, Ar_33, Kc_33, Sz_33, Nn_33, Hs_33, Gf_33⟩ := Vo_33
      obtain ⟨T35, h35, X35, e35, W35, st35⟩ := stI X32 hx hZ e32 Ar_33 (j := vb) (inb_of Sz_33 hM1.1) (g := (mkF m 108 #[.val (.ref a1), .val (.int s1), .val (.int vb), .val (.int vp), .val (.int ve), .val (.int vo)] [(.int (ve + (1 : Int32))), (.int vb), (.ref bM)])) rfl rfl (hb hby d3_108)
      have Vs35 : Arv Z h35 bM kM .int n ((lM.map Value.int).set (vb).toNatClampNeg (.int (ve + (1 : Int32)))) (.int (0 : Int32)) := Arv.set Ar_33 Kc_33 Sz_33 Nn_33 Hs_33 Gf_33 rfl W35 (vb).toNatClampNeg rfl (by rw [List.length_map]; exact hM1.2.1)
      have Vt35 : Arv Z h35 bM kM .int n (M1.map Value.int) (.int (0 : Int32)) := own_vs hM1.2.2 ▸ Vs35
      have N35 := Fr.snoc X35 N30 g_bM
      simp only [Option.some.injEq, Prod.mk.injEq] at hres
      obtain ⟨rfl, rfl, rfl, rfl, rfl, rfl⟩ := hres
      have fx36 := (((((((Em.wr W11).wr W13).wr W19).wr W24).wr W27).wr W30).wr W35)
      have fx37 := (((((fx14.other W19 (Or.inl naE)).other W24 (Or.inl naP)).other W27 (Or.inl naE)).other W30 (Or.inl naP)).other W35 (Or.inl naM))
      have fx38 := ((((fx20.other W24 (Or.inl naP)).other W27 (Or.inl naE)).other W30 (Or.inl naP)).other W35 (Or.inl naM))
      have fx39 := (((((((FbB.other W11 (Or.inr (slot_ne (Or.inr (hw _ (List.mem_of_getElem? (i := 18) rfl))) (Or.inl (hw _ (List.mem_of_getElem? (i := 35) rfl))) (by decide) (t := (.array .int)) (t' := .int) (by decide) (by decide)))).other W13 (Or.inl naT)).other W19 (Or.inl naE)).other W24 (Or.inl naP)).other W27 (Or.inl naE)).other W30 (Or.inl naP)).other W35 (Or.inl naM))
      have fx40 := (((((((FbG.other W11 (Or.inr (slot_ne (Or.inr (hw _ (List.mem_of_getElem? (i := 20) rfl))) (Or.inl (hw _ (List.mem_of_getElem? (i := 35) rfl))) (by decide) (t := (.array .int)) (t' := .int) (by decide) (by decide)))).other W13 (Or.inl naT)).other W19 (Or.inl naE)).other W24 (Or.inl naP)).other W27 (Or.inl naE)).other W30 (Or.inl naP)).other W35 (Or.inl naM))
      have fx41 := (((((((FbN.other W11 (Or.inr (slot_ne (Or.inr (hw _ (List.mem_of_getElem? (i := 22) rfl))) (Or.inl (hw _ (List.mem_of_getElem? (i := 35) rfl))) (by decide) (t := (.array .int)) (t' := .int) (by decide) (by decide)))).other W13 (Or.inl naT)).other W19 (Or.inl naE)).other W24 (Or.inl naP)).other W27 (Or.inl naE)).other W30 (Or.inl naP)).other W35 (Or.inl naM))
      have fx42 := (((((((FbF.other W11 (Or.inr (slot_ne (Or.inr (hw _ (List.mem_of_getElem? (i := 26) rfl))) (Or.inl (hw _ (List.mem_of_getElem? (i := 35) rfl))) (by decide) (t := (.array .int)) (t' := .int) (by decide) (by decide)))).other W13 (Or.inl naT)).other W19 (Or.inl naE)).other W24 (Or.inl naP)).other W27 (Or.inl naE)).other W30 (Or.inl naP)).other W35 (Or.inl naM))
      have fx43 := (((((((FbT.other W11 (Or.inr (slot_ne (Or.inr (hw _ (List.mem_of_getElem? (i := 28) rfl))) (Or.inl (hw _ (List.mem_of_getElem? (i := 35) rfl))) (by decide) (t := (.array .int)) (t' := .int) (by decide) (by decide)))).other W13 (Or.inl naT)).other W19 (Or.inl naE)).other W24 (Or.inl naP)).other W27 (Or.inl naE)).other W30 (Or.inl naP)).other W35 (Or.inl naM))
      have fx44 := (((((((Fbc.other W11 (Or.inr (slot_ne (Or.inl (hw _ (List.mem_of_getElem? (i := 12) rfl))) (Or.inl (hw _ (List.mem_of_getElem? (i := 35) rfl))) (by decide) (t := .int) (t' := .int) (by decide) (by decide)))).other W13 (Or.inl naT)).other W19 (Or.inl naE)).other W24 (Or.inl naP)).other W27 (Or.inl naE)).other W30 (Or.inl naP)).other W35 (Or.inl naM))
      have fx45 := ((((((Fw11.other W13 (Or.inl naT)).other W19 (Or.inl naE)).other W24 (Or.inl naP)).other W27 (Or.inl naE)).other W30 (Or.inl naP)).other W35 (Or.inl naM))
      have fx46 := (((((((VB.other W11 (Ne.symm naB)).other W13 nBT).other W19 (Ne.symm nEB)).other W24 (Ne.symm nPB)).other W27 (Ne.symm nEB)).other W30 (Ne.symm nPB)).other W35 nBM)
      have fx47 := (((((((VG.other W11 (Ne.symm naG)).other W13 nGT).other W19 (Ne.symm nEG)).other W24 (Ne.symm nPG)).other W27 (Ne.symm nEG)).other W30 (Ne.symm nPG)).other W35 nGM)
      have fx48 := (((((((VN.other W11 (Ne.symm naN)).other W13 nNT).other W19 (Ne.symm nEN)).other W24 (Ne.symm nPN)).other W27 (Ne.symm nEN)).other W30 (Ne.symm nPN)).other W35 nNM)
      have fx49 := (((((((VF.other W11 (Ne.symm naF)).other W13 nFT).other W19 (Ne.symm nEF)).other W24 (Ne.symm nPF)).other W27 (Ne.symm nEF)).other W30 (Ne.symm nPF)).other W35 (Ne.symm nMF))
      have fx50 := (((((Vt13.other W19 (Ne.symm nET)).other W24 (Ne.symm nPT)).other W27 (Ne.symm nET)).other W30 (Ne.symm nPT)).other W35 (Ne.symm nMT))
      obtain ⟨fs, hr, hrun, hended, hW, hsame⟩ := X35.leave (v := some (.int (1 : Int32))) (fun h => by rw [Bd.returns] at h; cases h)
      refine ⟨_, _, pre0 _ ?_, hrun, hended, _, _, rfl, ?_, ⟨_, rfl⟩, hW, hsame.mono (by decide) (by decide)⟩
      · show Steps p.tables e below (s₁.setTop (mkF m 0 #[.val (.ref a1), .val (.int s1), .unset, .unset, .unset, .unset] [])) _
        refine XS.aloadN X0.here hx rfl (hb hby d3_0) rfl rfl ?_
        show Steps p.tables e below (s₁.setTop (mkF m 1 #[.val (.ref a1), .val (.int s1), .unset, .unset, .unset, .unset] [(.ref a1)])) _
        refine st1 _ ?_
        show Steps p.tables e below (T1.setTop (mkF m 4 #[.val (.ref a1), .val (.int s1), .unset, .unset, .unset, .unset] [(.ref bB)])) _
        refine XS.iloadN X1.here hx rfl (hb hby d3_4) rfl ?_
        show Steps p.tables e below (T1.setTop (mkF m 5 #[.val (.ref a1), .val (.int s1), .unset, .unset, .unset, .unset] [(.int s1), (.ref bB)])) _
        refine X1.iaload hx (j := s1) (v := (.int vb)) (by rw [e1]; exact Ar_2.1) (State.isArrayOf_alike hZ.alike Ar_2.2.1) Ar_2.2.2 (inb_of Sz_2 hvb.1) (Has.at Hs_2 (inb_of Sz_2 hvb.1) (own_getD hvb.2)) (g := (mkF m 5 #[.val (.ref a1), .val (.int s1), .unset, .unset, .unset, .unset] [(.int s1), (.ref bB)])) rfl rfl (hb hby d3_5) _ ?_
        show Steps p.tables e below (T1.setTop (mkF m 6 #[.val (.ref a1), .val (.int s1), .unset, .unset, .unset, .unset] [(.int vb)])) _
        refine XS.istoreN X1.here hx rfl (hb hby d3_6) rfl (l' := #[.val (.ref a1), .val (.int s1), .val (.int vb), .unset, .unset, .unset]) rfl ?_
        show Steps p.tables e below (T1.setTop (mkF m 7 #[.val (.ref a1), .val (.int s1), .val (.int vb), .unset, .unset, .unset] [])) _
        refine XS.aloadN X1.here hx rfl (hb hby d3_7) rfl rfl ?_
        show Steps p.tables e below (T1.setTop (mkF m 8 #[.val (.ref a1), .val (.int s1), .val (.int vb), .unset, .unset, .unset] [(.ref a1)])) _
        refine st3 _ ?_
        show Steps p.tables e below (T3.setTop (mkF m 11 #[.val (.ref a1), .val (.int s1), .val (.int vb), .unset, .unset, .unset] [(.ref bP)])) _
        refine XS.iloadN X3.here hx rfl (hb hby d3_11) rfl ?_
        show Steps p.tables e below (T3.setTop (mkF m 12 #[.val (.ref a1), .val (.int s1), .val (.int vb), .unset, .unset, .unset] [(.int s1), (.ref bP)])) _
        refine X3.iaload hx (j := s1) (v := (.int vp)) (by rw [e3]; exact Ar_4.1) (State.isArrayOf_alike hZ.alike Ar_4.2.1) Ar_4.2.2 (inb_of Sz_4 hvp.1) (Has.at Hs_4 (inb_of Sz_4 hvp.1) (own_getD hvp.2)) (g := (mkF m 12 #[.val (.ref a1), .val (.int s1), .val (.int vb), .unset, .unset, .unset] [(.int s1), (.ref bP)])) rfl rfl (hb hby d3_12) _ ?_
        show Steps p.tables e below (T3.setTop (mkF m 13 #[.val (.ref a1), .val (.int s1), .val (.int vb), .unset, .unset, .unset] [(.int vp)])) _
        refine XS.istoreN X3.here hx rfl (hb hby d3_13) rfl (l' := #[.val (.ref a1), .val (.int s1), .val (.int vb), .val (.int vp), .unset, .unset]) rfl ?_
        show Steps p.tables e below (T3.setTop (mkF m 14 #[.val (.ref a1), .val (.int s1), .val (.int vb), .val (.int vp), .unset, .unset] [])) _
        refine XS.aloadN X3.here hx rfl (hb hby d3_14) rfl rfl ?_
        show Steps p.tables e below (T3.setTop (mkF m 15 #[.val (.ref a1), .val (.int s1), .val (.int vb), .val (.int vp), .unset, .unset] [(.ref a1)])) _
        refine st5 _ ?_
        show Steps p.tables e below (T5.setTop (mkF m 18 #[.val (.ref a1), .val (.int s1), .val (.int vb), .val (.int vp), .unset, .unset] [(.ref bM)])) _
        refine XS.iloadN X5.here hx rfl (hb hby d3_18) rfl ?_
        show Steps p.tables e below (T5.setTop (mkF m 19 #[.val (.ref a1), .val (.int s1), .val (.int vb), .val (.int vp), .unset, .unset] [(.int vb), (.ref bM)])) _
        refine X5.iaload hx (j := vb) (v := (.int ve)) (by rw [e5]; exact Ar_6.1) (State.isArrayOf_alike hZ.alike Ar_6.2.1) Ar_6.2.2 (inb_of Sz_6 hve.1) (Has.at Hs_6 (inb_of Sz_6 hve.1) (own_getD hve.2)) (g := (mkF m 19 #[.val (.ref a1), .val (.int s1), .val (.int vb), .val (.int vp), .unset, .unset] [(.int vb), (.ref bM)])) rfl rfl (hb hby d3_19) _ ?_
        show Steps p.tables e below (T5.setTop (mkF m 20 #[.val (.ref a1), .val (.int s1), .val (.int vb), .val (.int vp), .unset, .unset] [(.int ve)])) _
        refine XS.istore X5.here hx rfl (hb hby d3_20) rfl (l' := #[.val (.ref a1), .val (.int s1), .val (.int vb), .val (.int vp), .val (.int ve), .unset]) rfl ?_
        show Steps p.tables e below (T5.setTop (mkF m 22 #[.val (.ref a1), .val (.int s1), .val (.int vb), .val (.int vp), .val (.int ve), .unset] [])) _
        refine XS.iloadN X5.here hx rfl (hb hby d3_22) rfl ?_
        show Steps p.tables e below (T5.setTop (mkF m 23 #[.val (.ref a1), .val (.int s1), .val (.int vb), .val (.int vp), .val (.int ve), .unset] [(.int vp)])) _
        refine XS.iload X5.here hx rfl (hb hby d3_23) rfl ?_
        show Steps p.tables e below (T5.setTop (mkF m 25 #[.val (.ref a1), .val (.int s1), .val (.int vb), .val (.int vp), .val (.int ve), .unset] [(.int ve), (.int vp)])) _
        refine XS.icmpYes X5.here hx rfl (pc0 := 25) (pc' := 30) rfl (hb hby d3_25) rfl (flt hc25).2.1 (by decide) (by decide) ?_
        show Steps p.tables e below (T5.setTop (mkF m 30 #[.val (.ref a1), .val (.int s1), .val (.int vb), .val (.int vp), .val (.int ve), .unset] [])) _
        refine XS.iload X5.here hx rfl (hb hby d3_30) rfl ?_
        show Steps p.tables e below (T5.setTop (mkF m 32 #[.val (.ref a1), .val (.int s1), .val (.int vb), .val (.int vp), .val (.int ve), .unset] [(.int ve)])) _
        refine XS.aloadN X5.here hx rfl (hb hby d3_32) rfl rfl ?_
        show Steps p.tables e below (T5.setTop (mkF m 33 #[.val (.ref a1), .val (.int s1), .val (.int vb), .val (.int vp), .val (.int ve), .unset] [(.ref a1), (.int ve)])) _
        refine st7 _ ?_
        show Steps p.tables e below (T7.setTop (mkF m 36 #[.val (.ref a1), .val (.int s1), .val (.int vb), .val (.int vp), .val (.int ve), .unset] [(.ref bG), (.int ve)])) _
        refine XS.iloadN X7.here hx rfl (hb hby d3_36) rfl ?_
        show Steps p.tables e below (T7.setTop (mkF m 37 #[.val (.ref a1), .val (.int s1), .val (.int vb), .val (.int vp), .val (.int ve), .unset] [(.int vb), (.ref bG), (.int ve)])) _
        refine X7.iaload hx (j := vb) (v := (.int vg)) (by rw [e7]; exact Ar_8.1) (State.isArrayOf_alike hZ.alike Ar_8.2.1) Ar_8.2.2 (inb_of Sz_8 hvg.1) (Has.at Hs_8 (inb_of Sz_8 hvg.1) (own_getD hvg.2)) (g := (mkF m 37 #[.val (.ref a1), .val (.int s1), .val (.int vb), .val (.int vp), .val (.int ve), .unset] [(.int vb), (.ref bG), (.int ve)])) rfl rfl (hb hby d3_37) _ ?_
        show Steps p.tables e below (T7.setTop (mkF m 38 #[.val (.ref a1), .val (.int s1), .val (.int vb), .val (.int vp), .val (.int ve), .unset] [(.int vg), (.int ve)])) _
        refine XS.icmpNo X7.here hx rfl (hb hby d3_38) rfl (teq hc38).2 ?_
        show Steps p.tables e below (T7.setTop (mkF m 41 #[.val (.ref a1), .val (.int s1), .val (.int vb), .val (.int vp), .val (.int ve), .unset] [])) _
        refine XS.aloadN X7.here hx rfl (hb hby d3_41) rfl rfl ?_
        show Steps p.tables e below (T7.setTop (mkF m 42 #[.val (.ref a1), .val (.int s1), .val (.int vb), .val (.int vp), .val (.int ve), .unset] [(.ref a1)])) _
        refine st9 _ ?_
        show Steps p.tables e below (T9.setTop (mkF m 45 #[.val (.ref a1), .val (.int s1), .val (.int vb), .val (.int vp), .val (.int ve), .unset] [(.ref bT)])) _
        refine XS.aloadN X9.here hx rfl (hb hby d3_45) rfl rfl ?_
        show Steps p.tables e below (T9.setTop (mkF m 46 #[.val (.ref a1), .val (.int s1), .val (.int vb), .val (.int vp), .val (.int ve), .unset] [(.ref a1), (.ref bT)])) _
        refine XS.dup X9.here hx rfl (hb hby d3_46) rfl rfl ?_
        show Steps p.tables e below (T9.setTop (mkF m 47 #[.val (.ref a1), .val (.int s1), .val (.int vb), .val (.int vp), .val (.int ve), .unset] [(.ref a1), (.ref a1), (.ref bT)])) _
        refine st10 _ ?_
        show Steps p.tables e below (T10.setTop (mkF m 50 #[.val (.ref a1), .val (.int s1), .val (.int vb), .val (.int vp), .val (.int ve), .unset] [(.int tc), (.ref a1), (.ref bT)])) _
        refine XS.dupX1 X10.here hx rfl (hb hby d3_50) rfl rfl rfl ?_
        show Steps p.tables e below (T10.setTop (mkF m 51 #[.val (.ref a1), .val (.int s1), .val (.int vb), .val (.int vp), .val (.int ve), .unset] [(.int tc), (.ref a1), (.int tc), (.ref bT)])) _
        refine XS.iconst X10.here hx rfl (hb hby d3_51) ?_
        show Steps p.tables e below (T10.setTop (mkF m 52 #[.val (.ref a1), .val (.int s1), .val (.int vb), .val (.int vp), .val (.int ve), .unset] [(.int (1 : Int32)), (.int tc), (.ref a1), (.int tc), (.ref bT)])) _
        refine XS.iadd X10.here hx rfl (hb hby d3_52) rfl ?_
        show Steps p.tables e below (T10.setTop (mkF m 53 #[.val (.ref a1), .val (.int s1), .val (.int vb), .val (.int vp), .val (.int ve), .unset] [(.int (tc + (1 : Int32))), (.ref a1), (.int tc), (.ref bT)])) _
        refine st11 _ ?_
        show Steps p.tables e below (T11.setTop (mkF m 56 #[.val (.ref a1), .val (.int s1), .val (.int vb), .val (.int vp), .val (.int ve), .unset] [(.int tc), (.ref bT)])) _
        refine XS.iloadN X11.here hx rfl (hb hby d3_56) rfl ?_
        show Steps p.tables e below (T11.setTop (mkF m 57 #[.val (.ref a1), .val (.int s1), .val (.int vb), .val (.int vp), .val (.int ve), .unset] [(.int vb), (.int tc), (.ref bT)])) _
        refine st13 _ ?_
        show Steps p.tables e below (T13.setTop (mkF m 58 #[.val (.ref a1), .val (.int s1), .val (.int vb), .val (.int vp), .val (.int ve), .unset] [])) _
        refine XS.aloadN X13.here hx rfl (hb hby d3_58) rfl rfl ?_
        show Steps p.tables e below (T13.setTop (mkF m 59 #[.val (.ref a1), .val (.int s1), .val (.int vb), .val (.int vp), .val (.int ve), .unset] [(.ref a1)])) _
        refine st15 _ ?_
        show Steps p.tables e below (T15.setTop (mkF m 62 #[.val (.ref a1), .val (.int s1), .val (.int vb), .val (.int vp), .val (.int ve), .unset] [(.ref bE)])) _
        refine XS.iload X15.here hx rfl (hb hby d3_62) rfl ?_
        show Steps p.tables e below (T15.setTop (mkF m 64 #[.val (.ref a1), .val (.int s1), .val (.int vb), .val (.int vp), .val (.int ve), .unset] [(.int ve), (.ref bE)])) _
        refine X15.iaload hx (j := ve) (v := (.int vo)) (by rw [e15]; exact Ar_16.1) (State.isArrayOf_alike hZ.alike Ar_16.2.1) Ar_16.2.2 (inb_of Sz_16 hvo.1) (Has.at Hs_16 (inb_of Sz_16 hvo.1) (own_getD hvo.2)) (g := (mkF m 64 #[.val (.ref a1), .val (.int s1), .val (.int vb), .val (.int vp), .val (.int ve), .unset] [(.int ve), (.ref bE)])) rfl rfl (hb hby d3_64) _ ?_
        show Steps p.tables e below (T15.setTop (mkF m 65 #[.val (.ref a1), .val (.int s1), .val (.int vb), .val (.int vp), .val (.int ve), .unset] [(.int vo)])) _
        refine XS.istore X15.here hx rfl (hb hby d3_65) rfl (l' := #[.val (.ref a1), .val (.int s1), .val (.int vb), .val (.int vp), .val (.int ve), .val (.int vo)]) rfl ?_
        show Steps p.tables e below (T15.setTop (mkF m 67 #[.val (.ref a1), .val (.int s1), .val (.int vb), .val (.int vp), .val (.int ve), .val (.int vo)] [])) _
        refine XS.aloadN X15.here hx rfl (hb hby d3_67) rfl rfl ?_
        show Steps p.tables e below (T15.setTop (mkF m 68 #[.val (.ref a1), .val (.int s1), .val (.int vb), .val (.int vp), .val (.int ve), .val (.int vo)] [(.ref a1)])) _
        refine st17 _ ?_
        show Steps p.tables e below (T17.setTop (mkF m 71 #[.val (.ref a1), .val (.int s1), .val (.int vb), .val (.int vp), .val (.int ve), .val (.int vo)] [(.ref bE)])) _
        refine XS.iload X17.here hx rfl (hb hby d3_71) rfl ?_
        show Steps p.tables e below (T17.setTop (mkF m 73 #[.val (.ref a1), .val (.int s1), .val (.int vb), .val (.int vp), .val (.int ve), .val (.int vo)] [(.int ve), (.ref bE)])) _
        refine XS.iloadN X17.here hx rfl (hb hby d3_73) rfl ?_
        show Steps p.tables e below (T17.setTop (mkF m 74 #[.val (.ref a1), .val (.int s1), .val (.int vb), .val (.int vp), .val (.int ve), .val (.int vo)] [(.int s1), (.int ve), (.ref bE)])) _
        refine st19 _ ?_
        show Steps p.tables e below (T19.setTop (mkF m 75 #[.val (.ref a1), .val (.int s1), .val (.int vb), .val (.int vp), .val (.int ve), .val (.int vo)] [])) _
        refine XS.aloadN X19.here hx rfl (hb hby d3_75) rfl rfl ?_
        show Steps p.tables e below (T19.setTop (mkF m 76 #[.val (.ref a1), .val (.int s1), .val (.int vb), .val (.int vp), .val (.int ve), .val (.int vo)] [(.ref a1)])) _
        refine st21 _ ?_
        show Steps p.tables e below (T21.setTop (mkF m 79 #[.val (.ref a1), .val (.int s1), .val (.int vb), .val (.int vp), .val (.int ve), .val (.int vo)] [(.ref bP)])) _
        refine XS.iloadN X21.here hx rfl (hb hby d3_79) rfl ?_
        show Steps p.tables e below (T21.setTop (mkF m 80 #[.val (.ref a1), .val (.int s1), .val (.int vb), .val (.int vp), .val (.int ve), .val (.int vo)] [(.int s1), (.ref bP)])) _
        refine XS.iload X21.here hx rfl (hb hby d3_80) rfl ?_
        show Steps p.tables e below (T21.setTop (mkF m 82 #[.val (.ref a1), .val (.int s1), .val (.int vb), .val (.int vp), .val (.int ve), .val (.int vo)] [(.int ve), (.int s1), (.ref bP)])) _
        refine st24 _ ?_
        show Steps p.tables e below (T24.setTop (mkF m 83 #[.val (.ref a1), .val (.int s1), .val (.int vb), .val (.int vp), .val (.int ve), .val (.int vo)] [])) _
        refine XS.aloadN X24.here hx rfl (hb hby d3_83) rfl rfl ?_
        show Steps p.tables e below (T24.setTop (mkF m 84 #[.val (.ref a1), .val (.int s1), .val (.int vb), .val (.int vp), .val (.int ve), .val (.int vo)] [(.ref a1)])) _
        refine st25 _ ?_
        show Steps p.tables e below (T25.setTop (mkF m 87 #[.val (.ref a1), .val (.int s1), .val (.int vb), .val (.int vp), .val (.int ve), .val (.int vo)] [(.ref bE)])) _
        refine XS.iloadN X25.here hx rfl (hb hby d3_87) rfl ?_
        show Steps p.tables e below (T25.setTop (mkF m 88 #[.val (.ref a1), .val (.int s1), .val (.int vb), .val (.int vp), .val (.int ve), .val (.int vo)] [(.int vp), (.ref bE)])) _
        refine XS.iload X25.here hx rfl (hb hby d3_88) rfl ?_
        show Steps p.tables e below (T25.setTop (mkF m 90 #[.val (.ref a1), .val (.int s1), .val (.int vb), .val (.int vp), .val (.int ve), .val (.int vo)] [(.int vo), (.int vp), (.ref bE)])) _
        refine st27 _ ?_
        show Steps p.tables e below (T27.setTop (mkF m 91 #[.val (.ref a1), .val (.int s1), .val (.int vb), .val (.int vp), .val (.int ve), .val (.int vo)] [])) _
        refine XS.aloadN X27.here hx rfl (hb hby d3_91) rfl rfl ?_
        show Steps p.tables e below (T27.setTop (mkF m 92 #[.val (.ref a1), .val (.int s1), .val (.int vb), .val (.int vp), .val (.int ve), .val (.int vo)] [(.ref a1)])) _
        refine st28 _ ?_
        show Steps p.tables e below (T28.setTop (mkF m 95 #[.val (.ref a1), .val (.int s1), .val (.int vb), .val (.int vp), .val (.int ve), .val (.int vo)] [(.ref bP)])) _
        refine XS.iload X28.here hx rfl (hb hby d3_95) rfl ?_
        show Steps p.tables e below (T28.setTop (mkF m 97 #[.val (.ref a1), .val (.int s1), .val (.int vb), .val (.int vp), .val (.int ve), .val (.int vo)] [(.int vo), (.ref bP)])) _
        refine XS.iloadN X28.here hx rfl (hb hby d3_97) rfl ?_
        show Steps p.tables e below (T28.setTop (mkF m 98 #[.val (.ref a1), .val (.int s1), .val (.int vb), .val (.int vp), .val (.int ve), .val (.int vo)] [(.int vp), (.int vo), (.ref bP)])) _
        refine st30 _ ?_
        show Steps p.tables e below (T30.setTop (mkF m 99 #[.val (.ref a1), .val (.int s1), .val (.int vb), .val (.int vp), .val (.int ve), .val (.int vo)] [])) _
        refine XS.aloadN X30.here hx rfl (hb hby d3_99) rfl rfl ?_
        show Steps p.tables e below (T30.setTop (mkF m 100 #[.val (.ref a1), .val (.int s1), .val (.int vb), .val (.int vp), .val (.int ve), .val (.int vo)] [(.ref a1)])) _
        refine st32 _ ?_
        show Steps p.tables e below (T32.setTop (mkF m 103 #[.val (.ref a1), .val (.int s1), .val (.int vb), .val (.int vp), .val (.int ve), .val (.int vo)] [(.ref bM)])) _
        refine XS.iloadN X32.here hx rfl (hb hby d3_103) rfl ?_
        show Steps p.tables e below (T32.setTop (mkF m 104 #[.val (.ref a1), .val (.int s1), .val (.int vb), .val (.int vp), .val (.int ve), .val (.int vo)] [(.int vb), (.ref bM)])) _
        refine XS.iload X32.here hx rfl (hb hby d3_104) rfl ?_
        show Steps p.tables e below (T32.setTop (mkF m 106 #[.val (.ref a1), .val (.int s1), .val (.int vb), .val (.int vp), .val (.int ve), .val (.int vo)] [(.int ve), (.int vb), (.ref bM)])) _
        refine XS.iconst X32.here hx rfl (hb hby d3_106) ?_
        show Steps p.tables e below (T32.setTop (mkF m 107 #[.val (.ref a1), .val (.int s1), .val (.int vb), .val (.int vp), .val (.int ve), .val (.int vo)] [(.int (1 : Int32)), (.int ve), (.int vb), (.ref bM)])) _
        refine XS.iadd X32.here hx rfl (hb hby d3_107) rfl ?_
        show Steps p.tables e below (T32.setTop (mkF m 108 #[.val (.ref a1), .val (.int s1), .val (.int vb), .val (.int vp), .val (.int ve), .val (.int vo)] [(.int (ve + (1 : Int32))), (.int vb), (.ref bM)])) _
        refine st35 _ ?_
        show Steps p.tables e below (T35.setTop (mkF m 109 #[.val (.ref a1), .val (.int s1), .val (.int vb), .val (.int vp), .val (.int ve), .val (.int vo)] [])) _
        refine XS.iconst X35.here hx rfl (hb hby d3_109) ?_
        show Steps p.tables e below (T35.setTop (mkF m 110 #[.val (.ref a1), .val (.int s1), .val (.int vb), .val (.int vp), .val (.int ve), .val (.int vo)] [(.int (1 : Int32))])) _
        exact retN X35 hx (t := .boolean) Bd.returns (by simp) (hb hby d3_110) hr
      · show QR Z a1 bE bP bB bG bN bM bF bT n _ _ _ _ _ _ _ _ _ _ _ h0 n0 _ T35.heap _
        rw [e35]
        exact ⟨rfl, N35, ((((((((Keep.refl h0 [a1, bE, bP, bB, bG, bN, bM, bF, bT]).wr W11 (Or.inl (List.mem_of_getElem? (i := 0) rfl))).wr W13 (Or.inl (List.mem_of_getElem? (i := 8) rfl))).wr W19 (Or.inl (List.mem_of_getElem? (i := 1) rfl))).wr W24 (Or.inl (List.mem_of_getElem? (i := 2) rfl))).wr W27 (Or.inl (List.mem_of_getElem? (i := 1) rfl))).wr W30 (Or.inl (List.mem_of_getElem? (i := 2) rfl))).wr W35 (Or.inl (List.mem_of_getElem? (i := 6) rfl))), ⟨fx36, fx37, fx38, fx39, fx40, fx41, (fx31.other W35 (Or.inl naM)), fx42, fx43, fx44, fx45, ⟨_, ((Vt27.other W30 nEP).other W35 nEM)⟩, ⟨_, (Vt30.other W35 nPM)⟩, ⟨_, fx46⟩, ⟨_, fx47⟩, ⟨_, fx48⟩, ⟨_, Vt35⟩, ⟨_, fx49⟩, ⟨_, fx50⟩⟩⟩
    ·
      rw [if_neg hc38] at hq
      simp only [Option.some.injEq, Prod.mk.injEq] at hq
      obtain ⟨rfl, rfl⟩ := hq
      obtain ⟨T51, X51, e51, st51⟩ := getF X7 hx hZ hown (host := "") (Or.inl (hw _ (List.mem_of_getElem? (i := 13) rfl))) Via.refl e7 FbE (g := (mkF m 59 #[.val (.ref a1), .val (.int s1), .val (.int vb), .val (.int vp), .val (.int ve), .unset] [(.ref a1)])) rfl rfl (hb hby d3_59)
      have Vo_52 := VE
      obtain ⟨Cl_52, Ar_52, Kc_52, Sz_52, Nn_52, Hs_52, Gf_52⟩ := Vo_52
      obtain ⟨T53, X53, e53, st53⟩ := getF X51 hx hZ hown (host := "") (Or.inl (hw _ (List.mem_of_getElem? (i := 13) rfl))) Via.refl e51 FbE (g := (mkF m 68 #[.val (.ref a1), .val (.int s1), .val (.int vb), .val (.int vp), .val (.int ve), .val (.int vo)] [(.ref a1)])) rfl rfl (hb hby d3_68)
      have Vo_54 := VE
      obtain ⟨Cl_54, Ar_54, Kc_54, Sz_54, Nn_54, Hs_54, Gf_54⟩ := Vo_54
      obtain ⟨T55, h55, X55, e55, W55, st55⟩ := stI X53 hx hZ e53 Ar_54 (j := ve) (inb_of Sz_54 hE1.1) (g := (mkF m 74 #[.val (.ref a1), .val (.int s1), .val (.int vb), .val (.int vp), .val (.int ve), .val (.int vo)] [(.int s1), (.int ve), (.ref bE)])) rfl rfl (hb hby d3_74)
      have Vs55 : Arv Z h55 bE kE .int n ((lE.map Value.int).set (ve).toNatClampNeg (.int s1)) (.int (0 : Int32)) := Arv.set Ar_54 Kc_54 Sz_54 Nn_54 Hs_54 Gf_54 rfl W55 (ve).toNatClampNeg rfl (by rw [List.length_map]; exact hE1.2.1)
      have Vt55 : Arv Z h55 bE kE .int n (E1.map Value.int) (.int (0 : Int32)) := own_vs hE1.2.2 ▸ Vs55
      have N55 := Fr.snoc X55 N0 g_bE
      obtain ⟨T56, X56, e56, st56⟩ := getF X55 hx hZ hown (host := "") (Or.inl (hw _ (List.mem_of_getElem? (i := 15) rfl))) Via.refl e55 (FbP.other W55 (Or.inl naE)) (g := (mkF m 76 #[.val (.ref a1), .val (.int s1), .val (.int vb), .val (.int vp), .val (.int ve), .val (.int vo)] [(.ref a1)])) rfl rfl (hb hby d3_76)
      have Vo_57 := (VP.other W55 (Ne.symm nEP))
      obtain ⟨Cl_57, Ar_57, Kc_57, Sz_57, Nn_57, Hs_57, Gf_57⟩ := Vo_57
      obtain ⟨T58, h58, X58, e58, W58, st58⟩ := stI X56 hx hZ e56 Ar_57 (j := s1) (inb_of Sz_57 hP1.1) (g := (mkF m 82 #[.val (.ref a1), .val (.int s1), .val (.int vb), .val (.int vp), .val (.int ve), .val (.int vo)] [(.int ve), (.int s1), (.ref bP)])) rfl rfl (hb hby d3_82)
      have Vs58 : Arv Z h58 bP kP .int n ((lP.map Value.int).set (s1).toNatClampNeg (.int ve)) (.int (0 : Int32)) := Arv.set Ar_57 Kc_57 Sz_57 Nn_57 Hs_57 Gf_57 rfl W58 (s1).toNatClampNeg rfl (by rw [List.length_map]; exact hP1.2.1)
      have Vt58 : Arv Z h58 bP kP .int n (P1.map Value.int) (.int (0 : Int32)) := own_vs hP1.2.2 ▸ Vs58
      have N58 := Fr.snoc X58 N55 g_bP
      obtain ⟨T59, X59, e59, st59⟩ := getF X58 hx hZ hown (host := "") (Or.inl (hw _ (List.mem_of_getElem? (i := 13) rfl))) Via.refl e58 ((FbE.other W55 (Or.inl naE)).other W58 (Or.inl naP)) (g := (mkF m 84 #[.val (.ref a1), .val (.int s1), .val (.int vb), .val (.int vp), .val (.int ve), .val (.int vo)] [(.ref a1)])) rfl rfl (hb hby d3_84)
      have Vo_60 := (Vt55.other W58 nEP)
      obtain ⟨Cl_60, Ar_60, Kc_60, Sz_60, Nn_60, Hs_60, Gf_60⟩ := Vo_60
      obtain ⟨T61, h61, X61, e61, W61, st61⟩ := stI X59 hx hZ e59 Ar_60 (j := vp) (inb_of Sz_60 hE2.1) (g := (mkF m 90 #[.val (.ref a1), .val (.int s1), .val (.int vb), .val (.int vp), .val (.int ve), .val (.int vo)] [(.int vo), (.int vp), (.ref bE)])) rfl rfl (hb hby d3_90)
      have Vs61 : Arv Z h61 bE kE .int n ((E1.map Value.int).set (vp).toNatClampNeg (.int vo)) (.int (0 : Int32)) := Arv.set Ar_60 Kc_60 Sz_60 Nn_60 Hs_60 Gf_60 rfl W61 (vp).toNatClampNeg rfl (by rw [List.length_map]; exact hE2.2.1)
      have Vt61 : Arv Z h61 bE kE .int n (E2.map Value.int) (.int (0 : Int32)) := own_vs hE2.2.2 ▸ Vs61
      have N61 := Fr.snoc X61 N58 g_bE
      have fx62 := (((FbP.other W55 (Or.inl naE)).other W58 (Or.inl naP)).other W61 (Or.inl naE))
      obtain ⟨T63, X63, e63, st63⟩ := getF X61 hx hZ hown (host := "") (Or.inl (hw _ (List.mem_of_getElem? (i := 15) rfl))) Via.refl e61 fx62 (g := (mkF m 92 #[.val (.ref a1), .val (.int s1), .val (.int vb), .val (.int vp), .val (.int ve), .val (.int vo)] [(.ref a1)])) rfl rfl (hb hby d3_92)
      have Vo_64 := (Vt58.other W61 (Ne.symm nEP))
      obtain ⟨Cl_64, Ar_64, Kc_64, Sz_64, Nn_64, Hs_64, Gf_64⟩ := Vo_64
      obtain ⟨T65, h65, X65, e65, W65, st65⟩ := stI X63 hx hZ e63 Ar_64 (j := vo) (inb_of Sz_64 hP2.1) (g := (mkF m 98 #[.val (.ref a1), .val (.int s1), .val (.int vb), .val (.int vp), .val (.int ve), .val (.int vo)] [(.int vp), (.int vo), (.ref bP)])) rfl rfl (hb hby d3_98)
      have Vs65 : Arv Z h65 bP kP .int n ((P1.map Value.int).set (vo).toNatClampNeg (.int vp)) (.int (0 : Int32)) := Arv.set Ar_64 Kc_64 Sz_64 Nn_64 Hs_64 Gf_64 rfl W65 (vo).toNatClampNeg rfl (by rw [List.length_map]; exact hP2.2.1)
      have Vt65 : Arv Z h65 bP kP .int n (P2.map Value.int) (.int (0 : Int32)) := own_vs hP2.2.2 ▸ Vs65
      have N65 := Fr.snoc X65 N61 g_bP
      have fx66 := ((((FbM.other W55 (Or.inl naE)).other W58 (Or.inl naP)).other W61 (Or.inl naE)).other W65 (Or.inl naP))
      obtain ⟨T67, X67, e67, st67⟩ := getF X65 hx hZ hown (host := "") (Or.inl (hw _ (List.mem_of_getElem? (i := 23) rfl))) Via.refl e65 fx66 (g := (mkF m 100 #[.val (.ref a1), .val (.int s1), .val (.int vb), .val (.int vp), .val (.int ve), .val (.int vo)] [(.ref a1)])) rfl rfl (hb hby d3_100)
      have fx69 := ((((VM.other W55 (Ne.symm nEM)).other W58 (Ne.symm nPM)).other W61 (Ne.symm nEM)).other W65 (Ne.symm nPM))
      have Vo_68 := fx69
      obtain ⟨Cl_68, Ar_68, Kc_68, Sz_68, Nn_68, Hs_68, Gf_68⟩ := Vo_68
      obtain ⟨T70, h70, X70, e70, W70, st70⟩ := stI X67 hx hZ e67 Ar_68 (j := vb) (inb_of Sz_68 hM1.1) (g := (mkF m 108 #[.val (.ref a1), .val (.int s1), .val (.int vb), .val (.int vp), .val (.int ve), .val (.int vo)] [(.int (ve + (1 : Int32))), (.int vb), (.ref bM)])) rfl rfl (hb hby d3_108)
      have Vs70 : Arv Z h70 bM kM .int n ((lM.map Value.int).set (vb).toNatClampNeg (.int (ve + (1 : Int32)))) (.int (0 : Int32)) := Arv.set Ar_68 Kc_68 Sz_68 Nn_68 Hs_68 Gf_68 rfl W70 (vb).toNatClampNeg rfl (by rw [List.length_map]; exact hM1.2.1)
      have Vt70 : Arv Z h70 bM kM .int n (M1.map Value.int) (.int (0 : Int32)) := own_vs hM1.2.2 ▸ Vs70
      have N70 := Fr.snoc X70 N65 g_bM
      simp only [Option.some.injEq, Prod.mk.injEq] at hres
      obtain ⟨rfl, rfl, rfl, rfl, rfl, rfl⟩ := hres
      have fx71 := (((((FbE.other W55 (Or.inl naE)).other W58 (Or.inl naP)).other W61 (Or.inl naE)).other W65 (Or.inl naP)).other W70 (Or.inl naM))
      have fx72 := (((((FbB.other W55 (Or.inl naE)).other W58 (Or.inl naP)).other W61 (Or.inl naE)).other W65 (Or.inl naP)).other W70 (Or.inl naM))
      have fx73 := (((((FbG.other W55 (Or.inl naE)).other W58 (Or.inl naP)).other W61 (Or.inl naE)).other W65 (Or.inl naP)).other W70 (Or.inl naM))
      have fx74 := (((((FbN.other W55 (Or.inl naE)).other W58 (Or.inl naP)).other W61 (Or.inl naE)).other W65 (Or.inl naP)).other W70 (Or.inl naM))
      have fx75 := (((((FbF.other W55 (Or.inl naE)).other W58 (Or.inl naP)).other W61 (Or.inl naE)).other W65 (Or.inl naP)).other W70 (Or.inl naM))
      have fx76 := (((((FbT.other W55 (Or.inl naE)).other W58 (Or.inl naP)).other W61 (Or.inl naE)).other W65 (Or.inl naP)).other W70 (Or.inl naM))
      have fx77 := (((((Fbc.other W55 (Or.inl naE)).other W58 (Or.inl naP)).other W61 (Or.inl naE)).other W65 (Or.inl naP)).other W70 (Or.inl naM))
      have fx78 := (((((Ftc.other W55 (Or.inl naE)).other W58 (Or.inl naP)).other W61 (Or.inl naE)).other W65 (Or.inl naP)).other W70 (Or.inl naM))
      have fx79 := (((((VB.other W55 (Ne.symm nEB)).other W58 (Ne.symm nPB)).other W61 (Ne.symm nEB)).other W65 (Ne.symm nPB)).other W70 nBM)
      have fx80 := (((((VG.other W55 (Ne.symm nEG)).other W58 (Ne.symm nPG)).other W61 (Ne.symm nEG)).other W65 (Ne.symm nPG)).other W70 nGM)
      have fx81 := (((((VN.other W55 (Ne.symm nEN)).other W58 (Ne.symm nPN)).other W61 (Ne.symm nEN)).other W65 (Ne.symm nPN)).other W70 nNM)
      have fx82 := (((((VF.other W55 (Ne.symm nEF)).other W58 (Ne.symm nPF)).other W61 (Ne.symm nEF)).other W65 (Ne.symm nPF)).other W70 (Ne.symm nMF))
      have fx83 := (((((VT.other W55 (Ne.symm nET)).other W58 (Ne.symm nPT)).other W61 (Ne.symm nET)).other W65 (Ne.symm nPT)).other W70 (Ne.symm nMT))
      obtain ⟨fs, hr, hrun, hended, hW, hsame⟩ := X70.leave (v := some (.int (1 : Int32))) (fun h => by rw [Bd.returns] at h; cases h)
      refine ⟨_, _, pre0 _ ?_, hrun, hended, _, _, rfl, ?_, ⟨_, rfl⟩, hW, hsame.mono (by decide) (by decide)⟩
      · show Steps p.tables e below (s₁.setTop (mkF m 0 #[.val (.ref a1), .val (.int s1), .unset, .unset, .unset, .unset] [])) _
        refine XS.aloadN X0.here hx rfl (hb hby d3_0) rfl rfl ?_
        show Steps p.tables e below (s₁.setTop (mkF m 1 #[.val (.ref a1), .val (.int s1), .unset, .unset, .unset, .unset] [(.ref a1)])) _
        refine st1 _ ?_
        show Steps p.tables e below (T1.setTop (mkF m 4 #[.val (.ref a1), .val (.int s1), .unset, .unset, .unset, .unset] [(.ref bB)])) _
        refine XS.iloadN X1.here hx rfl (hb hby d3_4) rfl ?_
        show Steps p.tables e below (T1.setTop (mkF m 5 #[.val (.ref a1), .val (.int s1), .unset, .unset, .unset, .unset] [(.int s1), (.ref bB)])) _
        refine X1.iaload hx (j := s1) (v := (.int vb)) (by rw [e1]; exact Ar_2.1) (State.isArrayOf_alike hZ.alike Ar_2.2.1) Ar_2.2.2 (inb_of Sz_2 hvb.1) (Has.at Hs_2 (inb_of Sz_2 hvb.1) (own_getD hvb.2)) (g := (mkF m 5 #[.val (.ref a1), .val (.int s1), .unset, .unset, .unset, .unset] [(.int s1), (.ref bB)])) rfl rfl (hb hby d3_5) _ ?_
        show Steps p.tables e below (T1.setTop (mkF m 6 #[.val (.ref a1), .val (.int s1), .unset, .unset, .unset, .unset] [(.int vb)])) _
        refine XS.istoreN X1.here hx rfl (hb hby d3_6) rfl (l' := #[.val (.ref a1), .val (.int s1), .val (.int vb), .unset, .unset, .unset]) rfl ?_
        show Steps p.tables e below (T1.setTop (mkF m 7 #[.val (.ref a1), .val (.int s1), .val (.int vb), .unset, .unset, .unset] [])) _
        refine XS.aloadN X1.here hx rfl (hb hby d3_7) rfl rfl ?_
        show Steps p.tables e below (T1.setTop (mkF m 8 #[.val (.ref a1), .val (.int s1), .val (.int vb), .unset, .unset, .unset] [(.ref a1)])) _
        refine st3 _ ?_
        show Steps p.tables e below (T3.setTop (mkF m 11 #[.val (.ref a1), .val (.int s1), .val (.int vb), .unset, .unset, .unset] [(.ref bP)])) _
        refine XS.iloadN X3.here hx rfl (hb hby d3_11) rfl ?_
        show Steps p.tables e below (T3.setTop (mkF m 12 #[.val (.ref a1), .val (.int s1), .val (.int vb), .unset, .unset, .unset] [(.int s1), (.ref bP)])) _
        refine X3.iaload hx (j := s1) (v := (.int vp)) (by rw [e3]; exact Ar_4.1) (State.isArrayOf_alike hZ.alike Ar_4.2.1) Ar_4.2.2 (inb_of Sz_4 hvp.1) (Has.at Hs_4 (inb_of Sz_4 hvp.1) (own_getD hvp.2)) (g := (mkF m 12 #[.val (.ref a1), .val (.int s1), .val (.int vb), .unset, .unset, .unset] [(.int s1), (.ref bP)])) rfl rfl (hb hby d3_12) _ ?_
        show Steps p.tables e below (T3.setTop (mkF m 13 #[.val (.ref a1), .val (.int s1), .val (.int vb), .unset, .unset, .unset] [(.int vp)])) _
        refine XS.istoreN X3.here hx rfl (hb hby d3_13) rfl (l' := #[.val (.ref a1), .val (.int s1), .val (.int vb), .val (.int vp), .unset, .unset]) rfl ?_
        show Steps p.tables e below (T3.setTop (mkF m 14 #[.val (.ref a1), .val (.int s1), .val (.int vb), .val (.int vp), .unset, .unset] [])) _
        refine XS.aloadN X3.here hx rfl (hb hby d3_14) rfl rfl ?_
        show Steps p.tables e below (T3.setTop (mkF m 15 #[.val (.ref a1), .val (.int s1), .val (.int vb), .val (.int vp), .unset, .unset] [(.ref a1)])) _
        refine st5 _ ?_
        show Steps p.tables e below (T5.setTop (mkF m 18 #[.val (.ref a1), .val (.int s1), .val (.int vb), .val (.int vp), .unset, .unset] [(.ref bM)])) _
        refine XS.iloadN X5.here hx rfl (hb hby d3_18) rfl ?_
        show Steps p.tables e below (T5.setTop (mkF m 19 #[.val (.ref a1), .val (.int s1), .val (.int vb), .val (.int vp), .unset, .unset] [(.int vb), (.ref bM)])) _
        refine X5.iaload hx (j := vb) (v := (.int ve)) (by rw [e5]; exact Ar_6.1) (State.isArrayOf_alike hZ.alike Ar_6.2.1) Ar_6.2.2 (inb_of Sz_6 hve.1) (Has.at Hs_6 (inb_of Sz_6 hve.1) (own_getD hve.2)) (g := (mkF m 19 #[.val (.ref a1), .val (.int s1), .val (.int vb), .val (.int vp), .unset, .unset] [(.int vb), (.ref bM)])) rfl rfl (hb hby d3_19) _ ?_
        show Steps p.tables e below (T5.setTop (mkF m 20 #[.val (.ref a1), .val (.int s1), .val (.int vb), .val (.int vp), .unset, .unset] [(.int ve)])) _
        refine XS.istore X5.here hx rfl (hb hby d3_20) rfl (l' := #[.val (.ref a1), .val (.int s1), .val (.int vb), .val (.int vp), .val (.int ve), .unset]) rfl ?_
        show Steps p.tables e below (T5.setTop (mkF m 22 #[.val (.ref a1), .val (.int s1), .val (.int vb), .val (.int vp), .val (.int ve), .unset] [])) _
        refine XS.iloadN X5.here hx rfl (hb hby d3_22) rfl ?_
        show Steps p.tables e below (T5.setTop (mkF m 23 #[.val (.ref a1), .val (.int s1), .val (.int vb), .val (.int vp), .val (.int ve), .unset] [(.int vp)])) _
        refine XS.iload X5.here hx rfl (hb hby d3_23) rfl ?_
        show Steps p.tables e below (T5.setTop (mkF m 25 #[.val (.ref a1), .val (.int s1), .val (.int vb), .val (.int vp), .val (.int ve), .unset] [(.int ve), (.int vp)])) _
        refine XS.icmpYes X5.here hx rfl (pc0 := 25) (pc' := 30) rfl (hb hby d3_25) rfl (flt hc25).2.1 (by decide) (by decide) ?_
        show Steps p.tables e below (T5.setTop (mkF m 30 #[.val (.ref a1), .val (.int s1), .val (.int vb), .val (.int vp), .val (.int ve), .unset] [])) _
        refine XS.iload X5.here hx rfl (hb hby d3_30) rfl ?_
        show Steps p.tables e below (T5.setTop (mkF m 32 #[.val (.ref a1), .val (.int s1), .val (.int vb), .val (.int vp), .val (.int ve), .unset] [(.int ve)])) _
        refine XS.aloadN X5.here hx rfl (hb hby d3_32) rfl rfl ?_
        show Steps p.tables e below (T5.setTop (mkF m 33 #[.val (.ref a1), .val (.int s1), .val (.int vb), .val (.int vp), .val (.int ve), .unset] [(.ref a1), (.int ve)])) _
        refine st7 _ ?_
        show Steps p.tables e below (T7.setTop (mkF m 36 #[.val (.ref a1), .val (.int s1), .val (.int vb), .val (.int vp), .val (.int ve), .unset] [(.ref bG), (.int ve)])) _
        refine XS.iloadN X7.here hx rfl (hb hby d3_36) rfl ?_
        show Steps p.tables e below (T7.setTop (mkF m 37 #[.val (.ref a1), .val (.int s1), .val (.int vb), .val (.int vp), .val (.int ve), .unset] [(.int vb), (.ref bG), (.int ve)])) _
        refine X7.iaload hx (j := vb) (v := (.int vg)) (by rw [e7]; exact Ar_8.1) (State.isArrayOf_alike hZ.alike Ar_8.2.1) Ar_8.2.2 (inb_of Sz_8 hvg.1) (Has.at Hs_8 (inb_of Sz_8 hvg.1) (own_getD hvg.2)) (g := (mkF m 37 #[.val (.ref a1), .val (.int s1), .val (.int vb), .val (.int vp), .val (.int ve), .unset] [(.int vb), (.ref bG), (.int ve)])) rfl rfl (hb hby d3_37) _ ?_
        show Steps p.tables e below (T7.setTop (mkF m 38 #[.val (.ref a1), .val (.int s1), .val (.int vb), .val (.int vp), .val (.int ve), .unset] [(.int vg), (.int ve)])) _
        refine XS.icmpYes X7.here hx rfl (pc0 := 38) (pc' := 58) rfl (hb hby d3_38) rfl (feq hc38).2 (by decide) (by decide) ?_
        show Steps p.tables e below (T7.setTop (mkF m 58 #[.val (.ref a1), .val (.int s1), .val (.int vb), .val (.int vp), .val (.int ve), .unset] [])) _
        refine XS.aloadN X7.here hx rfl (hb hby d3_58) rfl rfl ?_
        show Steps p.tables e below (T7.setTop (mkF m 59 #[.val (.ref a1), .val (.int s1), .val (.int vb), .val (.int vp), .val (.int ve), .unset] [(.ref a1)])) _
        refine st51 _ ?_
        show Steps p.tables e below (T51.setTop (mkF m 62 #[.val (.ref a1), .val (.int s1), .val (.int vb), .val (.int vp), .val (.int ve), .unset] [(.ref bE)])) _
        refine XS.iload X51.here hx rfl (hb hby d3_62) rfl ?_
        show Steps p.tables e below (T51.setTop (mkF m 64 #[.val (.ref a1), .val (.int s1), .val (.int vb), .val (.int vp), .val (.int ve), .unset] [(.int ve), (.ref bE)])) _
        refine X51.iaload hx (j := ve) (v := (.int vo)) (by rw [e51]; exact Ar_52.1) (State.isArrayOf_alike hZ.alike Ar_52.2.1) Ar_52.2.2 (inb_of Sz_52 hvo.1) (Has.at Hs_52 (inb_of Sz_52 hvo.1) (own_getD hvo.2)) (g := (mkF m 64 #[.val (.ref a1), .val (.int s1), .val (.int vb), .val (.int vp), .val (.int ve), .unset] [(.int ve), (.ref bE)])) rfl rfl (hb hby d3_64) _ ?_
        show Steps p.tables e below (T51.setTop (mkF m 65 #[.val (.ref a1), .val (.int s1), .val (.int vb), .val (.int vp), .val (.int ve), .unset] [(.int vo)])) _
        refine XS.istore X51.here hx rfl (hb hby d3_65) rfl (l' := #[.val (.ref a1), .val (.int s1), .val (.int vb), .val (.int vp), .val (.int ve), .val (.int vo)]) rfl ?_
        show Steps p.tables e below (T51.setTop (mkF m 67 #[.val (.ref a1), .val (.int s1), .val (.int vb), .val (.int vp), .val (.int ve), .val (.int vo)] [])) _
        refine XS.aloadN X51.here hx rfl (hb hby d3_67) rfl rfl ?_
        show Steps p.tables e below (T51.setTop (mkF m 68 #[.val (.ref a1), .val (.int s1), .val (.int vb), .val (.int vp), .val (.int ve), .val (.int vo)] [(.ref a1)])) _
        refine st53 _ ?_
        show Steps p.tables e below (T53.setTop (mkF m 71 #[.val (.ref a1), .val (.int s1), .val (.int vb), .val (.int vp), .val (.int ve), .val (.int vo)] [(.ref bE)])) _
        refine XS.iload X53.here hx rfl (hb hby d3_71) rfl ?_
        show Steps p.tables e below (T53.setTop (mkF m 73 #[.val (.ref a1), .val (.int s1), .val (.int vb), .val (.int vp), .val (.int ve), .val (.int vo)] [(.int ve), (.ref bE)])) _
        refine XS.iloadN X53.here hx rfl (hb hby d3_73) rfl ?_
        show Steps p.tables e below (T53.setTop (mkF m 74 #[.val (.ref a1), .val (.int s1), .val (.int vb), .val (.int vp), .val (.int ve), .val (.int vo)] [(.int s1), (.int ve), (.ref bE)])) _
        refine st55 _ ?_
        show Steps p.tables e below (T55.setTop (mkF m 75 #[.val (.ref a1), .val (.int s1), .val (.int vb), .val (.int vp), .val (.int ve), .val (.int vo)] [])) _
        refine XS.aloadN X55.here hx rfl (hb hby d3_75) rfl rfl ?_
        show Steps p.tables e below (T55.setTop (mkF m 76 #[.val (.ref a1), .val (.int s1), .val (.int vb), .val (.int vp), .val (.int ve), .val (.int vo)] [(.ref a1)])) _
        refine st56 _ ?_
        show Steps p.tables e below (T56.setTop (mkF m 79 #[.val (.ref a1), .val (.int s1), .val (.int vb), .val (.int vp), .val (.int ve), .val (.int vo)] [(.ref bP)])) _
        refine XS.iloadN X56.here hx rfl (hb hby d3_79) rfl ?_
        show Steps p.tables e below (T56.setTop (mkF m 80 #[.val (.ref a1), .val (.int s1), .val (.int vb), .val (.int vp), .val (.int ve), .val (.int vo)] [(.int s1), (.ref bP)])) _
        refine XS.iload X56.here hx rfl (hb hby d3_80) rfl ?_
        show Steps p.tables e below (T56.setTop (mkF m 82 #[.val (.ref a1), .val (.int s1), .val (.int vb), .val (.int vp), .val (.int ve), .val (.int vo)] [(.int ve), (.int s1), (.ref bP)])) _
        refine st58 _ ?_
        show Steps p.tables e below (T58.setTop (mkF m 83 #[.val (.ref a1), .val (.int s1), .val (.int vb), .val (.int vp), .val (.int ve), .val (.int vo)] [])) _
        refine XS.aloadN X58.here hx rfl (hb hby d3_83) rfl rfl ?_
        show Steps p.tables e below (T58.setTop (mkF m 84 #[.val (.ref a1), .val (.int s1), .val (.int vb), .val (.int vp), .val (.int ve), .val (.int vo)] [(.ref a1)])) _
        refine st59 _ ?_
        show Steps p.tables e below (T59.setTop (mkF m 87 #[.val (.ref a1), .val (.int s1), .val (.int vb), .val (.int vp), .val (.int ve), .val (.int vo)] [(.ref bE)])) _
        refine XS.iloadN X59.here hx rfl (hb hby d3_87) rfl ?_
        show Steps p.tables e below (T59.setTop (mkF m 88 #[.val (.ref a1), .val (.int s1), .val (.int vb), .val (.int vp), .val (.int ve), .val (.int vo)] [(.int vp), (.ref bE)])) _
        refine XS.iload X59.here hx rfl (hb hby d3_88) rfl ?_
        show Steps p.tables e below (T59.setTop (mkF m 90 #[.val (.ref a1), .val (.int s1), .val (.int vb), .val (.int vp), .val (.int ve), .val (.int vo)] [(.int vo), (.int vp), (.ref bE)])) _
        refine st61 _ ?_
        show Steps p.tables e below (T61.setTop (mkF m 91 #[.val (.ref a1), .val (.int s1), .val (.int vb), .val (.int vp), .val (.int ve), .val (.int vo)] [])) _
        refine XS.aloadN X61.here hx rfl (hb hby d3_91) rfl rfl ?_
        show Steps p.tables e below (T61.setTop (mkF m 92 #[.val (.ref a1), .val (.int s1), .val (.int vb), .val (.int vp), .val (.int ve), .val (.int vo)] [(.ref a1)])) _
        refine st63 _ ?_
        show Steps p.tables e below (T63.setTop (mkF m 95 #[.val (.ref a1), .val (.int s1), .val (.int vb), .val (.int vp), .val (.int ve), .val (.int vo)] [(.ref bP)])) _
        refine XS.iload X63.here hx rfl (hb hby d3_95) rfl ?_
        show Steps p.tables e below (T63.setTop (mkF m 97 #[.val (.ref a1), .val (.int s1), .val (.int vb), .val (.int vp), .val (.int ve), .val (.int vo)] [(.int vo), (.ref bP)])) _
        refine XS.iloadN X63.here hx rfl (hb hby d3_97) rfl ?_
        show Steps p.tables e below (T63.setTop (mkF m 98 #[.val (.ref a1), .val (.int s1), .val (.int vb), .val (.int vp), .val (.int ve), .val (.int vo)] [(.int vp), (.int vo), (.ref bP)])) _
        refine st65 _ ?_
        show Steps p.tables e below (T65.setTop (mkF m 99 #[.val (.ref a1), .val (.int s1), .val (.int vb), .val (.int vp), .val (.int ve), .val (.int vo)] [])) _
        refine XS.aloadN X65.here hx rfl (hb hby d3_99) rfl rfl ?_
        show Steps p.tables e below (T65.setTop (mkF m 100 #[.val (.ref a1), .val (.int s1), .val (.int vb), .val (.int vp), .val (.int ve), .val (.int vo)] [(.ref a1)])) _
        refine st67 _ ?_
        show Steps p.tables e below (T67.setTop (mkF m 103 #[.val (.ref a1), .val (.int s1), .val (.int vb), .val (.int vp), .val (.int ve), .val (.int vo)] [(.ref bM)])) _
        refine XS.iloadN X67.here hx rfl (hb hby d3_103) rfl ?_
        show Steps p.tables e below (T67.setTop (mkF m 104 #[.val (.ref a1), .val (.int s1), .val (.int vb), .val (.int vp), .val (.int ve), .val (.int vo)] [(.int vb), (.ref bM)])) _
        refine XS.iload X67.here hx rfl (hb hby d3_104) rfl ?_
        show Steps p.tables e below (T67.setTop (mkF m 106 #[.val (.ref a1), .val (.int s1), .val (.int vb), .val (.int vp), .val (.int ve), .val (.int vo)] [(.int ve), (.int vb), (.ref bM)])) _
        refine XS.iconst X67.here hx rfl (hb hby d3_106) ?_
        show Steps p.tables e below (T67.setTop (mkF m 107 #[.val (.ref a1), .val (.int s1), .val (.int vb), .val (.int vp), .val (.int ve), .val (.int vo)] [(.int (1 : Int32)), (.int ve), (.int vb), (.ref bM)])) _
        refine XS.iadd X67.here hx rfl (hb hby d3_107) rfl ?_
        show Steps p.tables e below (T67.setTop (mkF m 108 #[.val (.ref a1), .val (.int s1), .val (.int vb), .val (.int vp), .val (.int ve), .val (.int vo)] [(.int (ve + (1 : Int32))), (.int vb), (.ref bM)])) _
        refine st70 _ ?_
        show Steps p.tables e below (T70.setTop (mkF m 109 #[.val (.ref a1), .val (.int s1), .val (.int vb), .val (.int vp), .val (.int ve), .val (.int vo)] [])) _
        refine XS.iconst X70.here hx rfl (hb hby d3_109) ?_
        show Steps p.tables e below (T70.setTop (mkF m 110 #[.val (.ref a1), .val (.int s1), .val (.int vb), .val (.int vp), .val (.int ve), .val (.int vo)] [(.int (1 : Int32))])) _
        exact retN X70 hx (t := .boolean) Bd.returns (by simp) (hb hby d3_110) hr
      · show QR Z a1 bE bP bB bG bN bM bF bT n _ _ _ _ _ _ _ _ _ _ _ h0 n0 _ T70.heap _
        rw [e70]
        exact ⟨rfl, N70, ((((((Keep.refl h0 [a1, bE, bP, bB, bG, bN, bM, bF, bT]).wr W55 (Or.inl (List.mem_of_getElem? (i := 1) rfl))).wr W58 (Or.inl (List.mem_of_getElem? (i := 2) rfl))).wr W61 (Or.inl (List.mem_of_getElem? (i := 1) rfl))).wr W65 (Or.inl (List.mem_of_getElem? (i := 2) rfl))).wr W70 (Or.inl (List.mem_of_getElem? (i := 6) rfl))), ⟨(((((Em.wr W55).wr W58).wr W61).wr W65).wr W70), fx71, ((fx62.other W65 (Or.inl naP)).other W70 (Or.inl naM)), fx72, fx73, fx74, (fx66.other W70 (Or.inl naM)), fx75, fx76, fx77, fx78, ⟨_, ((Vt61.other W65 nEP).other W70 nEM)⟩, ⟨_, (Vt65.other W70 nPM)⟩, ⟨_, fx79⟩, ⟨_, fx80⟩, ⟨_, fx81⟩, ⟨_, Vt70⟩, ⟨_, fx82⟩, ⟨_, fx83⟩⟩⟩
theorem ef_13 (m : MethodId) (a1 : Addr) (p1 : Int32) (p2 : Int32) (p3 : Int32) : entryFrame m #[(.ref a1), (.int p1), (.int p2), (.int p3)] 6 = mkF m 0 #[.val (.ref a1), .val (.int p1), .val (.int p2), .val (.int p3), .unset, .unset] [] := by first | (simp [entryFrame, mkF, argsToLocals, Value.category]; done) | rfl
set_option maxRecDepth 65536 in
set_option maxHeartbeats 40000000 in
theorem rm13 (l : Launch) (Z : State) (a0 : Array Value) (hw : ∀ d ∈ tables_1, d.before a0 Z = true) (ws : List Jvm.Cond) (a1 bE bP bB bG bN bM bF bT : Addr) (n : Int32) (lE lP lB lG lN lM lF lT : List Int32) (bc tc : Int32) (p1 p2 p3 : Int32) (lB' lG' lN' lM' lF' : List Int32) (h0 : Heap) (n0 : Nat) (Z0 : n0 ≤ h0.size) (RP : own_RP Z h0 a1 bE bP bB bG bN bM bF bT n lE lP lB lG lN lM lF lT bc tc) (DD : own_D n0 a1 bE bP bB bG bN bM bF bT) (hp1 : p1 = (0 : Int32)) (hp2 : p2 = (0 : Int32)) (hp3 : p3 = (1 : Int32)) (hm : own_newb n lE lB lG lN lM lF bc = some (lB', lG', lN', lM', lF')) :
    MetFree l (⟨"com/example/yealm/yealm/equiv/RefinablePartition", "newBlock", "(III)I"⟩ : MethodName) (head1 (Jvm.Cond.code (⟨"com/example/yealm/yealm/equiv/RefinablePartition", "newBlock", "(III)I"⟩ : MethodName) prog_61_method_17_code 6 (some .int) :: ws) ({ frames := 0, cells := 0, slots := 0, locals := 0 } : Room)) (fun a U => a = #[(.ref a1), (.int p1), (.int p2), (.int p3)] ∧ Z.Warmed39 U.vm ∧ U.heap = h0) (fun _ _ _ _ _ => True) (fun _ U o U' => ∃ v L, o = .returned v ∧ QR Z a1 bE bP bB bG bN bM bF bT n lE lP lB' lG' lN' lM' lF' lT (bc + (1 : Int32)) tc (some (.int bc)) h0 n0 v U'.heap L ∧ FrameEnd U o U' L ({ frames := 0, cells := 0, slots := 0, locals := 0 } : Room).cells ({ frames := 0, cells := 0, slots := 0, locals := 0 } : Room).slots) := by
  refine MetFree.of_bodySF (plainFor_of_name pn_13) hisR ?_
  intro p e s m args below meth c s₁ Bd hml0 hP hK
  obtain ⟨rfl, hZ, hh⟩ := hP
  have hx := Bd.exec
  have hby := Bd.bytes
  have hml : c.maxLocals = 6 := hml0
  have hown : s.vm.findClass "com/example/yealm/yealm/equiv/RefinablePartition" = some m.cls := findClass_of_methodNamed Bd.named
  have hnm := (name_of_methodNamed Bd.named Bd.method).1
  have X0 : Stand p l e ({ frames := 0, cells := 0, slots := 0, locals := 0 } : Room) s m #[(.ref a1), (.int p1), (.int p2), (.int p3)] below meth c s₁ [] 0 0 := Stand.of_body Bd
  have e0 : s₁.heap = h0 := by rw [← hh, Bd.state]; rfl
  have N0 := Fr.nil n0
  have pre0 : ∀ tgt, Steps p.tables e below (s₁.setTop (mkF m 0 #[.val (.ref a1), .val (.int p1), .val (.int p2), .val (.int p3), .unset, .unset] [])) tgt → Steps p.tables e below (s₁.setTop (entryFrame m #[(.ref a1), (.int p1), (.int p2), (.int p3)] 6)) tgt := fun tgt k => castTop (ef_13 m a1 p1 p2 p3) k
  subst hp1 hp2 hp3
  simp only [own_newb, Option.bind_eq_some_iff] at hm
  obtain ⟨F1, hF1, G1, hG1, N1, hN1, M1, hM1, vo, hvo, B1, hB1, hres⟩ := hm
  replace hvo := own_get_e hvo
  replace hF1 := own_put_e hF1
  replace hG1 := own_put_e hG1
  replace hN1 := own_put_e hN1
  replace hM1 := own_put_e hM1
  replace hB1 := own_put_e hB1
  obtain ⟨Em, FbE, FbP, FbB, FbG, FbN, FbM, FbF, FbT, Fbc, Ftc, ⟨kE, VE⟩, ⟨kP, VP⟩, ⟨kB, VB⟩, ⟨kG, VG⟩, ⟨kN, VN⟩, ⟨kM, VM⟩, ⟨kF, VF⟩, ⟨kT, VT⟩⟩ := RP
  obtain ⟨⟨g_a1, g_bE, g_bP, g_bB, g_bG, g_bN, g_bM, g_bF, g_bT⟩, ⟨naE, naP, naB, naG, naN, naM, naF, naT⟩, ⟨nEP, nEB, nEG, nEN, nEM, nEF, nET, nPB, nPG, nPN, nPM, nPF, nPT, nBG, nBN, nBM, nBF, nBT, nGN, nGM, nGF, nGT, nNM, nNF, nNT, nMF, nMT, nFT⟩⟩ := DD
  obtain ⟨T1, X1, e1, st1⟩ := getF X0 hx hZ hown (host := "") (Or.inl (hw _ (List.mem_of_getElem? (i := 11) rfl))) Via.refl e0 Fbc (g := (mkF m 2 #[.val (.ref a1), .val (.int (0 : Int32)), .val (.int (0 : Int32)), .val (.int (1 : Int32)), .unset, .unset] [(.ref a1), (.ref a1)])) rfl rfl (hb hby d13_2)
  obtain ⟨T2, h2, X2, e2, W2, st2⟩ := putF X1 hx hZ hown (host := "") (Or.inl (hw _ (List.mem_of_getElem? (i := 11) rfl))) Via.refl e1 Fbc Em (Or.inl (hw _ (List.mem_of_getElem? (i := 12) rfl))) (hw _ (List.mem_of_getElem? (i := 3) rfl)) (ty := .int) (by decide) rfl rfl (g := (mkF m 8 #[.val (.ref a1), .val (.int (0 : Int32)), .val (.int (0 : Int32)), .val (.int (1 : Int32)), .unset, .unset] [(.int (bc + (1 : Int32))), (.ref a1), (.int bc)])) rfl rfl (hb hby d13_8)
  have Fw2 := Fbc.same W2
  have N2 := Fr.snoc X2 N0 g_a1
  have fx3 := (FbF.other W2 (Or.inr (slot_ne (Or.inr (hw _ (List.mem_of_getElem? (i := 26) rfl))) (Or.inl (hw _ (List.mem_of_getElem? (i := 12) rfl))) (by decide) (t := (.array .int)) (t' := .int) (by decide) (by decide))))
  obtain ⟨T4, X4, e4, st4⟩ := getF X2 hx hZ hown (host := "") (Or.inl (hw _ (List.mem_of_getElem? (i := 25) rfl))) Via.refl e2 fx3 (g := (mkF m 14 #[.val (.ref a1), .val (.int (0 : Int32)), .val (.int (0 : Int32)), .val (.int (1 : Int32)), .val (.int bc), .unset] [(.ref a1)])) rfl rfl (hb hby d13_14)
  have Vo_5 := (VF.other W2 (Ne.symm naF))
  obtain ⟨Cl_5, Ar_5, Kc_5, Sz_5, Nn_5, Hs_5, Gf_5⟩ := Vo_5
  obtain ⟨T6, h6, X6, e6, W6, st6⟩ := stI X4 hx hZ e4 Ar_5 (j := bc) (inb_of Sz_5 hF1.1) (g := (mkF m 20 #[.val (.ref a1), .val (.int (0 : Int32)), .val (.int (0 : Int32)), .val (.int (1 : Int32)), .val (.int bc), .unset] [(.int (0 : Int32)), (.int bc), (.ref bF)])) rfl rfl (hb hby d13_20)
  have Vs6 : Arv Z h6 bF kF .int n ((lF.map Value.int).set (bc).toNatClampNeg (.int (0 : Int32))) (.int (0 : Int32)) := Arv.set Ar_5 Kc_5 Sz_5 Nn_5 Hs_5 Gf_5 rfl W6 (bc).toNatClampNeg rfl (by rw [List.length_map]; exact hF1.2.1)
  have Vt6 : Arv Z h6 bF kF .int n (F1.map Value.int) (.int (0 : Int32)) := own_vs hF1.2.2 ▸ Vs6
  have N6 := Fr.snoc X6 N2 g_bF
  have fx7 := ((FbG.other W2 (Or.inr (slot_ne (Or.inr (hw _ (List.mem_of_getElem? (i := 20) rfl))) (Or.inl (hw _ (List.mem_of_getElem? (i := 12) rfl))) (by decide) (t := (.array .int)) (t' := .int) (by decide) (by decide)))).other W6 (Or.inl naF))
  obtain ⟨T8, X8, e8, st8⟩ := getF X6 hx hZ hown (host := "") (Or.inl (hw _ (List.mem_of_getElem? (i := 19) rfl))) Via.refl e6 fx7 (g := (mkF m 22 #[.val (.ref a1), .val (.int (0 : Int32)), .val (.int (0 : Int32)), .val (.int (1 : Int32)), .val (.int bc), .unset] [(.ref a1)])) rfl rfl (hb hby d13_22)
  have Vo_9 := ((VG.other W2 (Ne.symm naG)).other W6 nGF)
  obtain ⟨Cl_9, Ar_9, Kc_9, Sz_9, Nn_9, Hs_9, Gf_9⟩ := Vo_9
  obtain ⟨T10, h10, X10, e10, W10, st10⟩ := stI X8 hx hZ e8 Ar_9 (j := bc) (inb_of Sz_9 hG1.1) (g := (mkF m 28 #[.val (.ref a1), .val (.int (0 : Int32)), .val (.int (0 : Int32)), .val (.int (1 : Int32)), .val (.int bc), .unset] [(.int (0 : Int32)), (.int bc), (.ref bG)])) rfl rfl (hb hby d13_28)
  have Vs10 : Arv Z h10 bG kG .int n ((lG.map Value.int).set (bc).toNatClampNeg (.int (0 : Int32))) (.int (0 : Int32)) := Arv.set Ar_9 Kc_9 Sz_9 Nn_9 Hs_9 Gf_9 rfl W10 (bc).toNatClampNeg rfl (by rw [List.length_map]; exact hG1.2.1)
  have Vt10 : Arv Z h10 bG kG .int n (G1.map Value.int) (.int (0 : Int32)) := own_vs hG1.2.2 ▸ Vs10
  have N10 := Fr.snoc X10 N6 g_bG
  have fx11 := (((FbN.other W2 (Or.inr (slot_ne (Or.inr (hw _ (List.mem_of_getElem? (i := 22) rfl))) (Or.inl (hw _ (List.mem_of_getElem? (i := 12) rfl))) (by decide) (t := (.array .int)) (t' := .int) (by decide) (by decide)))).other W6 (Or.inl naF)).other W10 (Or.inl naG))
  obtain ⟨T12, X12, e12, st12⟩ := getF X10 hx hZ hown (host := "") (Or.inl (hw _ (List.mem_of_getElem? (i := 21) rfl))) Via.refl e10 fx11 (g := (mkF m 30 #[.val (.ref a1), .val (.int (0 : Int32)), .val (.int (0 : Int32)), .val (.int (1 : Int32)), .val (.int bc), .unset] [(.ref a1)])) rfl rfl (hb hby d13_30)
  have fx14 := (((VN.other W2 (Ne.symm naN)).other W6 nNF).other W10 (Ne.symm nGN))
  have Vo_13 := fx14
  obtain ⟨Cl_13, Ar_13, Kc_13, Sz_13, Nn_13, Hs_13, Gf_13⟩ := Vo_13
  obtain ⟨T15, h15, X15, e15, W15, st15⟩ := stI X12 hx hZ e12 Ar_13 (j := bc) (inb_of Sz_13 hN1.1) (g := (mkF m 36 #[.val (.ref a1), .val (.int (0 : Int32)), .val (.int (0 : Int32)), .val (.int (1 : Int32)), .val (.int bc), .unset] [(.int (1 : Int32)), (.int bc), (.ref bN)])) rfl rfl (hb hby d13_36)
  have Vs15 : Arv Z h15 bN kN .int n ((lN.map Value.int).set (bc).toNatClampNeg (.int (1 : Int32))) (.int (0 : Int32)) := Arv.set Ar_13 Kc_13 Sz_13 Nn_13 Hs_13 Gf_13 rfl W15 (bc).toNatClampNeg rfl (by rw [List.length_map]; exact hN1.2.1)
  have Vt15 : Arv Z h15 bN kN .int n (N1.map Value.int) (.int (0 : Int32)) := own_vs hN1.2.2 ▸ Vs15
  have N15 := Fr.snoc X15 N10 g_bN
  have fx16 := ((((FbM.other W2 (Or.inr (slot_ne (Or.inr (hw _ (List.mem_of_getElem? (i := 24) rfl))) (Or.inl (hw _ (List.mem_of_getElem? (i := 12) rfl))) (by decide) (t := (.array .int)) (t' := .int) (by decide) (by decide)))).other W6 (Or.inl naF)).other W10 (Or.inl naG)).other W15 (Or.inl naN))
  obtain ⟨T17, X17, e17, st17⟩ := getF X15 hx hZ hown (host := "") (Or.inl (hw _ (List.mem_of_getElem? (i := 23) rfl))) Via.refl e15 fx16 (g := (mkF m 38 #[.val (.ref a1), .val (.int (0 : Int32)), .val (.int (0 : Int32)), .val (.int (1 : Int32)), .val (.int bc), .unset] [(.ref a1)])) rfl rfl (hb hby d13_38)
  have fx19 := ((((VM.other W2 (Ne.symm naM)).other W6 nMF).other W10 (Ne.symm nGM)).other W15 (Ne.symm nNM))
  have Vo_18 := fx19
  obtain ⟨Cl_18, Ar_18, Kc_18, Sz_18, Nn_18, Hs_18, Gf_18⟩ := Vo_18
  obtain ⟨T20, h20, X20, e20, W20, st20⟩ := stI X17 hx hZ e17 Ar_18 (j := bc) (inb_of Sz_18 hM1.1) (g := (mkF m 44 #[.val (.ref a1), .val (.int (0 : Int32)), .val (.int (0 : Int32)), .val (.int (1 : Int32)), .val (.int bc), .unset] [(.int (0 : Int32)), (.int bc), (.ref bM)])) rfl rfl (hb hby d13_44)
  have Vs20 : Arv Z h20 bM kM .int n ((lM.map Value.int).set (bc).toNatClampNeg (.int (0 : Int32))) (.int (0 : Int32)) := Arv.set Ar_18 Kc_18 Sz_18 Nn_18 Hs_18 Gf_18 rfl W20 (bc).toNatClampNeg rfl (by rw [List.length_map]; exact hM1.2.1)
  have Vt20 : Arv Z h20 bM kM .int n (M1.map Value.int) (.int (0 : Int32)) := own_vs hM1.2.2 ▸ Vs20
  have N20 := Fr.snoc X20 N15 g_bM
  have fx21 := (((((FbB.other W2 (Or.inr (slot_ne (Or.inr (hw _ (List.mem_of_getElem? (i := 18) rfl))) (Or.inl (hw _ (List.mem_of_getElem? (i := 12) rfl))) (by decide) (t := (.array .int)) (t' := .int) (by decide) (by decide)))).other W6 (Or.inl naF)).other W10 (Or.inl naG)).other W15 (Or.inl naN)).other W20 (Or.inl naM))
  obtain ⟨T22, X22, e22, st22⟩ := getF X20 hx hZ hown (host := "") (Or.inl (hw _ (List.mem_of_getElem? (i := 17) rfl))) Via.refl e20 fx21 (g := (mkF m 55 #[.val (.ref a1), .val (.int (0 : Int32)), .val (.int (0 : Int32)), .val (.int (1 : Int32)), .val (.int bc), .val (.int (0 : Int32))] [(.ref a1)])) rfl rfl (hb hby d13_55)
  have fx23 := (((((FbE.other W2 (Or.inr (slot_ne (Or.inr (hw _ (List.mem_of_getElem? (i := 14) rfl))) (Or.inl (hw _ (List.mem_of_getElem? (i := 12) rfl))) (by decide) (t := (.array .int)) (t' := .int) (by decide) (by decide)))).other W6 (Or.inl naF)).other W10 (Or.inl naG)).other W15 (Or.inl naN)).other W20 (Or.inl naM))
  obtain ⟨T24, X24, e24, st24⟩ := getF X22 hx hZ hown (host := "") (Or.inl (hw _ (List.mem_of_getElem? (i := 13) rfl))) Via.refl e22 fx23 (g := (mkF m 59 #[.val (.ref a1), .val (.int (0 : Int32)), .val (.int (0 : Int32)), .val (.int (1 : Int32)), .val (.int bc), .val (.int (0 : Int32))] [(.ref a1), (.ref bB)])) rfl rfl (hb hby d13_59)
  have fx26 := (((((VE.other W2 (Ne.symm naE)).other W6 nEF).other W10 nEG).other W15 nEN).other W20 nEM)
  have Vo_25 := fx26
  obtain ⟨Cl_25, Ar_25, Kc_25, Sz_25, Nn_25, Hs_25, Gf_25⟩ := Vo_25
  have fx28 := (((((VB.other W2 (Ne.symm naB)).other W6 nBF).other W10 nBG).other W15 nBN).other W20 nBM)
  have Vo_27 := fx28
  obtain ⟨Cl_27, Ar_27, Kc_27, Sz_27, Nn_27, Hs_27, Gf_27⟩ := Vo_27
  obtain ⟨T29, h29, X29, e29, W29, st29⟩ := stI X24 hx hZ e24 Ar_27 (j := vo) (inb_of Sz_27 hB1.1) (g := (mkF m 67 #[.val (.ref a1), .val (.int (0 : Int32)), .val (.int (0 : Int32)), .val (.int (1 : Int32)), .val (.int bc), .val (.int (0 : Int32))] [(.int bc), (.int vo), (.ref bB)])) rfl rfl (hb hby d13_67)
  have Vs29 : Arv Z h29 bB kB .int n ((lB.map Value.int).set (vo).toNatClampNeg (.int bc)) (.int (0 : Int32)) := Arv.set Ar_27 Kc_27 Sz_27 Nn_27 Hs_27 Gf_27 rfl W29 (vo).toNatClampNeg rfl (by rw [List.length_map]; exact hB1.2.1)
  have Vt29 : Arv Z h29 bB kB .int n (B1.map Value.int) (.int (0 : Int32)) := own_vs hB1.2.2 ▸ Vs29
  have N29 := Fr.snoc X29 N20 g_bB
  simp only [Option.some.injEq, Prod.mk.injEq] at hres
  obtain ⟨rfl, rfl, rfl, rfl, rfl⟩ := hres
  have fx30 := ((((((FbP.other W2 (Or.inr (slot_ne (Or.inr (hw _ (List.mem_of_getElem? (i := 16) rfl))) (Or.inl (hw _ (List.mem_of_getElem? (i := 12) rfl))) (by decide) (t := (.array .int)) (t' := .int) (by decide) (by decide)))).other W6 (Or.inl naF)).other W10 (Or.inl naG)).other W15 (Or.inl naN)).other W20 (Or.inl naM)).other W29 (Or.inl naB))
  have fx31 := ((((fx7.other W10 (Or.inl naG)).other W15 (Or.inl naN)).other W20 (Or.inl naM)).other W29 (Or.inl naB))
  have fx32 := (((fx11.other W15 (Or.inl naN)).other W20 (Or.inl naM)).other W29 (Or.inl naB))
  have fx33 := (((((fx3.other W6 (Or.inl naF)).other W10 (Or.inl naG)).other W15 (Or.inl naN)).other W20 (Or.inl naM)).other W29 (Or.inl naB))
  have fx34 := ((((((FbT.other W2 (Or.inr (slot_ne (Or.inr (hw _ (List.mem_of_getElem? (i := 28) rfl))) (Or.inl (hw _ (List.mem_of_getElem? (i := 12) rfl))) (by decide) (t := (.array .int)) (t' := .int) (by decide) (by decide)))).other W6 (Or.inl naF)).other W10 (Or.inl naG)).other W15 (Or.inl naN)).other W20 (Or.inl naM)).other W29 (Or.inl naB))
  have fx35 := (((((Fw2.other W6 (Or.inl naF)).other W10 (Or.inl naG)).other W15 (Or.inl naN)).other W20 (Or.inl naM)).other W29 (Or.inl naB))
  have fx36 := ((((((Ftc.other W2 (Or.inr (slot_ne (Or.inl (hw _ (List.mem_of_getElem? (i := 35) rfl))) (Or.inl (hw _ (List.mem_of_getElem? (i := 12) rfl))) (by decide) (t := .int) (t' := .int) (by decide) (by decide)))).other W6 (Or.inl naF)).other W10 (Or.inl naG)).other W15 (Or.inl naN)).other W20 (Or.inl naM)).other W29 (Or.inl naB))
  have fx37 := ((((((VP.other W2 (Ne.symm naP)).other W6 nPF).other W10 nPG).other W15 nPN).other W20 nPM).other W29 nPB)
  have fx38 := (((Vt10.other W15 nGN).other W20 nGM).other W29 (Ne.symm nBG))
  have fx39 := ((((Vt6.other W10 (Ne.symm nGF)).other W15 (Ne.symm nNF)).other W20 (Ne.symm nMF)).other W29 (Ne.symm nBF))
  have fx40 := ((((((VT.other W2 (Ne.symm naT)).other W6 (Ne.symm nFT)).other W10 (Ne.symm nGT)).other W15 (Ne.symm nNT)).other W20 (Ne.symm nMT)).other W29 (Ne.symm nBT))
  obtain ⟨fs, hr, hrun, hended, hW, hsame⟩ := X29.leave (v := some (.int bc)) (fun h => by rw [Bd.returns] at h; cases h)
  refine ⟨_, _, pre0 _ ?_, hrun, hended, _, _, rfl, ?_, ⟨_, rfl⟩, hW, hsame.mono (by decide) (by decide)⟩
  · show Steps p.tables e below (s₁.setTop (mkF m 0 #[.val (.ref a1), .val (.int (0 : Int32)), .val (.int (0 : Int32)), .val (.int (1 : Int32)), .unset, .unset] [])) _
    refine XS.aloadN X0.here hx rfl (hb hby d13_0) rfl rfl ?_
    show Steps p.tables e below (s₁.setTop (mkF m 1 #[.val (.ref a1), .val (.int (0 : Int32)), .val (.int (0 : Int32)), .val (.int (1 : Int32)), .unset, .unset] [(.ref a1)])) _
    refine XS.dup X0.here hx rfl (hb hby d13_1) rfl rfl ?_
    show Steps p.tables e below (s₁.setTop (mkF m 2 #[.val (.ref a1), .val (.int (0 : Int32)), .val (.int (0 : Int32)), .val (.int (1 : Int32)), .unset, .unset] [(.ref a1), (.ref a1)])) _
    refine st1 _ ?_
    show Steps p.tables e below (T1.setTop (mkF m 5 #[.val (.ref a1), .val (.int (0 : Int32)), .val (.int (0 : Int32)), .val (.int (1 : Int32)), .unset, .unset] [(.int bc), (.ref a1)])) _
    refine XS.dupX1 X1.here hx rfl (hb hby d13_5) rfl rfl rfl ?_
    show Steps p.tables e below (T1.setTop (mkF m 6 #[.val (.ref a1), .val (.int (0 : Int32)), .val (.int (0 : Int32)), .val (.int (1 : Int32)), .unset, .unset] [(.int bc), (.ref a1), (.int bc)])) _
    refine XS.iconst X1.here hx rfl (hb hby d13_6) ?_
    show Steps p.tables e below (T1.setTop (mkF m 7 #[.val (.ref a1), .val (.int (0 : Int32)), .val (.int (0 : Int32)), .val (.int (1 : Int32)), .unset, .unset] [(.int (1 : Int32)), (.int bc), (.ref a1), (.int bc)])) _
    refine XS.iadd X1.here hx rfl (hb hby d13_7) rfl ?_
    show Steps p.tables e below (T1.setTop (mkF m 8 #[.val (.ref a1), .val (.int (0 : Int32)), .val (.int (0 : Int32)), .val (.int (1 : Int32)), .unset, .unset] [(.int (bc + (1 : Int32))), (.ref a1), (.int bc)])) _
    refine st2 _ ?_
    show Steps p.tables e below (T2.setTop (mkF m 11 #[.val (.ref a1), .val (.int (0 : Int32)), .val (.int (0 : Int32)), .val (.int (1 : Int32)), .unset, .unset] [(.int bc)])) _
    refine XS.istore X2.here hx rfl (hb hby d13_11) rfl (l' := #[.val (.ref a1), .val (.int (0 : Int32)), .val (.int (0 : Int32)), .val (.int (1 : Int32)), .val (.int bc), .unset]) rfl ?_
    show Steps p.tables e below (T2.setTop (mkF m 13 #[.val (.ref a1), .val (.int (0 : Int32)), .val (.int (0 : Int32)), .val (.int (1 : Int32)), .val (.int bc), .unset] [])) _
    refine XS.aloadN X2.here hx rfl (hb hby d13_13) rfl rfl ?_
    show Steps p.tables e below (T2.setTop (mkF m 14 #[.val (.ref a1), .val (.int (0 : Int32)), .val (.int (0 : Int32)), .val (.int (1 : Int32)), .val (.int bc), .unset] [(.ref a1)])) _
    refine st4 _ ?_
    show Steps p.tables e below (T4.setTop (mkF m 17 #[.val (.ref a1), .val (.int (0 : Int32)), .val (.int (0 : Int32)), .val (.int (1 : Int32)), .val (.int bc), .unset] [(.ref bF)])) _
    refine XS.iload X4.here hx rfl (hb hby d13_17) rfl ?_
    show Steps p.tables e below (T4.setTop (mkF m 19 #[.val (.ref a1), .val (.int (0 : Int32)), .val (.int (0 : Int32)), .val (.int (1 : Int32)), .val (.int bc), .unset] [(.int bc), (.ref bF)])) _
    refine XS.iloadN X4.here hx rfl (hb hby d13_19) rfl ?_
    show Steps p.tables e below (T4.setTop (mkF m 20 #[.val (.ref a1), .val (.int (0 : Int32)), .val (.int (0 : Int32)), .val (.int (1 : Int32)), .val (.int bc), .unset] [(.int (0 : Int32)), (.int bc), (.ref bF)])) _
    refine st6 _ ?_
    show Steps p.tables e below (T6.setTop (mkF m 21 #[.val (.ref a1), .val (.int (0 : Int32)), .val (.int (0 : Int32)), .val (.int (1 : Int32)), .val (.int bc), .unset] [])) _
    refine XS.aloadN X6.here hx rfl (hb hby d13_21) rfl rfl ?_
    show Steps p.tables e below (T6.setTop (mkF m 22 #[.val (.ref a1), .val (.int (0 : Int32)), .val (.int (0 : Int32)), .val (.int (1 : Int32)), .val (.int bc), .unset] [(.ref a1)])) _
    refine st8 _ ?_
    show Steps p.tables e below (T8.setTop (mkF m 25 #[.val (.ref a1), .val (.int (0 : Int32)), .val (.int (0 : Int32)), .val (.int (1 : Int32)), .val (.int bc), .unset] [(.ref bG)])) _
    refine XS.iload X8.here hx rfl (hb hby d13_25) rfl ?_
    show Steps p.tables e below (T8.setTop (mkF m 27 #[.val (.ref a1), .val (.int (0 : Int32)), .val (.int (0 : Int32)), .val (.int (1 : Int32)), .val (.int bc), .unset] [(.int bc), (.ref bG)])) _
    refine XS.iloadN X8.here hx rfl (hb hby d13_27) rfl ?_
    show Steps p.tables e below (T8.setTop (mkF m 28 #[.val (.ref a1), .val (.int (0 : Int32)), .val (.int (0 : Int32)), .val (.int (1 : Int32)), .val (.int bc), .unset] [(.int (0 : Int32)), (.int bc), (.ref bG)])) _
    refine st10 _ ?_
    show Steps p.tables e below (T10.setTop (mkF m 29 #[.val (.ref a1), .val (.int (0 : Int32)), .val (.int (0 : Int32)), .val (.int (1 : Int32)), .val (.int bc), .unset] [])) _
    refine XS.aloadN X10.here hx rfl (hb hby d13_29) rfl rfl ?_
    show Steps p.tables e below (T10.setTop (mkF m 30 #[.val (.ref a1), .val (.int (0 : Int32)), .val (.int (0 : Int32)), .val (.int (1 : Int32)), .val (.int bc), .unset] [(.ref a1)])) _
    refine st12 _ ?_
    show Steps p.tables e below (T12.setTop (mkF m 33 #[.val (.ref a1), .val (.int (0 : Int32)), .val (.int (0 : Int32)), .val (.int (1 : Int32)), .val (.int bc), .unset] [(.ref bN)])) _
    refine XS.iload X12.here hx rfl (hb hby d13_33) rfl ?_
    show Steps p.tables e below (T12.setTop (mkF m 35 #[.val (.ref a1), .val (.int (0 : Int32)), .val (.int (0 : Int32)), .val (.int (1 : Int32)), .val (.int bc), .unset] [(.int bc), (.ref bN)])) _
    refine XS.iloadN X12.here hx rfl (hb hby d13_35) rfl ?_
    show Steps p.tables e below (T12.setTop (mkF m 36 #[.val (.ref a1), .val (.int (0 : Int32)), .val (.int (0 : Int32)), .val (.int (1 : Int32)), .val (.int bc), .unset] [(.int (1 : Int32)), (.int bc), (.ref bN)])) _
    refine st15 _ ?_
    show Steps p.tables e below (T15.setTop (mkF m 37 #[.val (.ref a1), .val (.int (0 : Int32)), .val (.int (0 : Int32)), .val (.int (1 : Int32)), .val (.int bc), .unset] [])) _
    refine XS.aloadN X15.here hx rfl (hb hby d13_37) rfl rfl ?_
    show Steps p.tables e below (T15.setTop (mkF m 38 #[.val (.ref a1), .val (.int (0 : Int32)), .val (.int (0 : Int32)), .val (.int (1 : Int32)), .val (.int bc), .unset] [(.ref a1)])) _
    refine st17 _ ?_
    show Steps p.tables e below (T17.setTop (mkF m 41 #[.val (.ref a1), .val (.int (0 : Int32)), .val (.int (0 : Int32)), .val (.int (1 : Int32)), .val (.int bc), .unset] [(.ref bM)])) _
    refine XS.iload X17.here hx rfl (hb hby d13_41) rfl ?_
    show Steps p.tables e below (T17.setTop (mkF m 43 #[.val (.ref a1), .val (.int (0 : Int32)), .val (.int (0 : Int32)), .val (.int (1 : Int32)), .val (.int bc), .unset] [(.int bc), (.ref bM)])) _
    refine XS.iloadN X17.here hx rfl (hb hby d13_43) rfl ?_
    show Steps p.tables e below (T17.setTop (mkF m 44 #[.val (.ref a1), .val (.int (0 : Int32)), .val (.int (0 : Int32)), .val (.int (1 : Int32)), .val (.int bc), .unset] [(.int (0 : Int32)), (.int bc), (.ref bM)])) _
    refine st20 _ ?_
    show Steps p.tables e below (T20.setTop (mkF m 45 #[.val (.ref a1), .val (.int (0 : Int32)), .val (.int (0 : Int32)), .val (.int (1 : Int32)), .val (.int bc), .unset] [])) _
    refine XS.iloadN X20.here hx rfl (hb hby d13_45) rfl ?_
    show Steps p.tables e below (T20.setTop (mkF m 46 #[.val (.ref a1), .val (.int (0 : Int32)), .val (.int (0 : Int32)), .val (.int (1 : Int32)), .val (.int bc), .unset] [(.int (0 : Int32))])) _
    refine XS.istore X20.here hx rfl (hb hby d13_46) rfl (l' := #[.val (.ref a1), .val (.int (0 : Int32)), .val (.int (0 : Int32)), .val (.int (1 : Int32)), .val (.int bc), .val (.int (0 : Int32))]) rfl ?_
    show Steps p.tables e below (T20.setTop (mkF m 48 #[.val (.ref a1), .val (.int (0 : Int32)), .val (.int (0 : Int32)), .val (.int (1 : Int32)), .val (.int bc), .val (.int (0 : Int32))] [])) _
    refine XS.iload X20.here hx rfl (hb hby d13_48) rfl ?_
    show Steps p.tables e below (T20.setTop (mkF m 50 #[.val (.ref a1), .val (.int (0 : Int32)), .val (.int (0 : Int32)), .val (.int (1 : Int32)), .val (.int bc), .val (.int (0 : Int32))] [(.int (0 : Int32))])) _
    refine XS.iloadN X20.here hx rfl (hb hby d13_50) rfl ?_
    show Steps p.tables e below (T20.setTop (mkF m 51 #[.val (.ref a1), .val (.int (0 : Int32)), .val (.int (0 : Int32)), .val (.int (1 : Int32)), .val (.int bc), .val (.int (0 : Int32))] [(.int (1 : Int32)), (.int (0 : Int32))])) _
    refine XS.icmpNo X20.here hx rfl (hb hby d13_51) rfl (tlt (by decide : (0 : Int32) < (1 : Int32))).2.1 ?_
    show Steps p.tables e below (T20.setTop (mkF m 54 #[.val (.ref a1), .val (.int (0 : Int32)), .val (.int (0 : Int32)), .val (.int (1 : Int32)), .val (.int bc), .val (.int (0 : Int32))] [])) _
    refine XS.aloadN X20.here hx rfl (hb hby d13_54) rfl rfl ?_
    show Steps p.tables e below (T20.setTop (mkF m 55 #[.val (.ref a1), .val (.int (0 : Int32)), .val (.int (0 : Int32)), .val (.int (1 : Int32)), .val (.int bc), .val (.int (0 : Int32))] [(.ref a1)])) _
    refine st22 _ ?_
    show Steps p.tables e below (T22.setTop (mkF m 58 #[.val (.ref a1), .val (.int (0 : Int32)), .val (.int (0 : Int32)), .val (.int (1 : Int32)), .val (.int bc), .val (.int (0 : Int32))] [(.ref bB)])) _
    refine XS.aloadN X22.here hx rfl (hb hby d13_58) rfl rfl ?_
    show Steps p.tables e below (T22.setTop (mkF m 59 #[.val (.ref a1), .val (.int (0 : Int32)), .val (.int (0 : Int32)), .val (.int (1 : Int32)), .val (.int bc), .val (.int (0 : Int32))] [(.ref a1), (.ref bB)])) _
    refine st24 _ ?_
    show Steps p.tables e below (T24.setTop (mkF m 62 #[.val (.ref a1), .val (.int (0 : Int32)), .val (.int (0 : Int32)), .val (.int (1 : Int32)), .val (.int bc), .val (.int (0 : Int32))] [(.ref bE), (.ref bB)])) _
    refine XS.iload X24.here hx rfl (hb hby d13_62) rfl ?_
    show Steps p.tables e below (T24.setTop (mkF m 64 #[.val (.ref a1), .val (.int (0 : Int32)), .val (.int (0 : Int32)), .val (.int (1 : Int32)), .val (.int bc), .val (.int (0 : Int32))] [(.int (0 : Int32)), (.ref bE), (.ref bB)])) _
    refine X24.iaload hx (j := (0 : Int32)) (v := (.int vo)) (by rw [e24]; exact Ar_25.1) (State.isArrayOf_alike hZ.alike Ar_25.2.1) Ar_25.2.2 (inb_of Sz_25 hvo.1) (Has.at Hs_25 (inb_of Sz_25 hvo.1) (own_getD hvo.2)) (g := (mkF m 64 #[.val (.ref a1), .val (.int (0 : Int32)), .val (.int (0 : Int32)), .val (.int (1 : Int32)), .val (.int bc), .val (.int (0 : Int32))] [(.int (0 : Int32)), (.ref bE), (.ref bB)])) rfl rfl (hb hby d13_64) _ ?_
    show Steps p.tables e below (T24.setTop (mkF m 65 #[.val (.ref a1), .val (.int (0 : Int32)), .val (.int (0 : Int32)), .val (.int (1 : Int32)), .val (.int bc), .val (.int (0 : Int32))] [(.int vo), (.ref bB)])) _
    refine XS.iload X24.here hx rfl (hb hby d13_65) rfl ?_
    show Steps p.tables e below (T24.setTop (mkF m 67 #[.val (.ref a1), .val (.int (0 : Int32)), .val (.int (0 : Int32)), .val (.int (1 : Int32)), .val (.int bc), .val (.int (0 : Int32))] [(.int bc), (.int vo), (.ref bB)])) _
    refine st29 _ ?_
    show Steps p.tables e below (T29.setTop (mkF m 68 #[.val (.ref a1), .val (.int (0 : Int32)), .val (.int (0 : Int32)), .val (.int (1 : Int32)), .val (.int bc), .val (.int (0 : Int32))] [])) _
    refine XS.iinc X29.here hx rfl (hb hby d13_68) rfl (l' := #[.val (.ref a1), .val (.int (0 : Int32)), .val (.int (0 : Int32)), .val (.int (1 : Int32)), .val (.int bc), .val (.int ((0 : Int32) + (1 : Int32)))]) rfl ?_
    show Steps p.tables e below (T29.setTop (mkF m 71 #[.val (.ref a1), .val (.int (0 : Int32)), .val (.int (0 : Int32)), .val (.int (1 : Int32)), .val (.int bc), .val (.int ((0 : Int32) + (1 : Int32)))] [])) _
    refine XS.goto X29.here hx rfl (pc0 := 71) (pc' := 48) rfl (hb hby d13_71) (by decide) (by decide) ?_
    show Steps p.tables e below (T29.setTop (mkF m 48 #[.val (.ref a1), .val (.int (0 : Int32)), .val (.int (0 : Int32)), .val (.int (1 : Int32)), .val (.int bc), .val (.int ((0 : Int32) + (1 : Int32)))] [])) _
    refine XS.iload X29.here hx rfl (hb hby d13_48) rfl ?_
    show Steps p.tables e below (T29.setTop (mkF m 50 #[.val (.ref a1), .val (.int (0 : Int32)), .val (.int (0 : Int32)), .val (.int (1 : Int32)), .val (.int bc), .val (.int ((0 : Int32) + (1 : Int32)))] [(.int ((0 : Int32) + (1 : Int32)))])) _
    refine XS.iloadN X29.here hx rfl (hb hby d13_50) rfl ?_
    show Steps p.tables e below (T29.setTop (mkF m 51 #[.val (.ref a1), .val (.int (0 : Int32)), .val (.int (0 : Int32)), .val (.int (1 : Int32)), .val (.int bc), .val (.int ((0 : Int32) + (1 : Int32)))] [(.int (1 : Int32)), (.int ((0 : Int32) + (1 : Int32)))])) _
    refine XS.icmpYes X29.here hx rfl (pc0 := 51) (pc' := 74) rfl (hb hby d13_51) rfl (flt (by decide : ¬ ((0 : Int32) + (1 : Int32)) < (1 : Int32))).2.1 (by decide) (by decide) ?_
    show Steps p.tables e below (T29.setTop (mkF m 74 #[.val (.ref a1), .val (.int (0 : Int32)), .val (.int (0 : Int32)), .val (.int (1 : Int32)), .val (.int bc), .val (.int ((0 : Int32) + (1 : Int32)))] [])) _
    refine XS.iload X29.here hx rfl (hb hby d13_74) rfl ?_
    show Steps p.tables e below (T29.setTop (mkF m 76 #[.val (.ref a1), .val (.int (0 : Int32)), .val (.int (0 : Int32)), .val (.int (1 : Int32)), .val (.int bc), .val (.int ((0 : Int32) + (1 : Int32)))] [(.int bc)])) _
    exact retI X29 hx Bd.returns (hb hby d13_76) hr
  · show QR Z a1 bE bP bB bG bN bM bF bT n _ _ _ _ _ _ _ _ _ _ _ h0 n0 _ T29.heap _
    rw [e29]
    exact ⟨rfl, N29, (((((((Keep.refl h0 [a1, bE, bP, bB, bG, bN, bM, bF, bT]).wr W2 (Or.inl (List.mem_of_getElem? (i := 0) rfl))).wr W6 (Or.inl (List.mem_of_getElem? (i := 7) rfl))).wr W10 (Or.inl (List.mem_of_getElem? (i := 4) rfl))).wr W15 (Or.inl (List.mem_of_getElem? (i := 5) rfl))).wr W20 (Or.inl (List.mem_of_getElem? (i := 6) rfl))).wr W29 (Or.inl (List.mem_of_getElem? (i := 3) rfl))), ⟨((((((Em.wr W2).wr W6).wr W10).wr W15).wr W20).wr W29), (fx23.other W29 (Or.inl naB)), fx30, (fx21.other W29 (Or.inl naB)), fx31, fx32, ((fx16.other W20 (Or.inl naM)).other W29 (Or.inl naB)), fx33, fx34, fx35, fx36, ⟨_, (fx26.other W29 nEB)⟩, ⟨_, fx37⟩, ⟨_, Vt29⟩, ⟨_, fx38⟩, ⟨_, ((Vt15.other W20 nNM).other W29 (Ne.symm nBN))⟩, ⟨_, (Vt20.other W29 (Ne.symm nBM))⟩, ⟨_, fx39⟩, ⟨_, fx40⟩⟩⟩
theorem ef_12 (m : MethodId) (a1 : Addr) (p1 : Int32) : entryFrame m #[(.ref a1), (.int p1)] 4 = mkF m 0 #[.val (.ref a1), .val (.int p1), .unset, .unset] [] := by first | (simp [entryFrame, mkF, argsToLocals, Value.category]; done) | rfl
set_option maxRecDepth 65536 in
set_option maxHeartbeats 40000000 in
theorem rm12 (l : Launch) (Z : State) (a0 : Array Value) (hw : ∀ d ∈ tables_1, d.before a0 Z = true) (ws : List Jvm.Cond) (a1 bE bP bB bG bN bM bF bT : Addr) (n : Int32) (lE lP lB lG lN lM lF lT : List Int32) (bc tc : Int32) (p1 : Int32) (lB' lG' lN' lM' lF' : List Int32) (h0 : Heap) (n0 : Nat) (Z0 : n0 ≤ h0.size) (RP : own_RP Z h0 a1 bE bP bB bG bN bM bF bT n lE lP lB lG lN lM lF lT bc tc) (DD : own_D n0 a1 bE bP bB bG bN bM bF bT) (hp1 : p1 = (0 : Int32)) (hM0 : own_get n lM 0 = some 1) (hG0 : own_get n lG 0 = some 0) (hm : own_split n lE lB lG lN lM lF bc = some (lB', lG', lN', lM', lF')) :
    MetFree l (⟨"com/example/yealm/yealm/equiv/RefinablePartition", "split", "(I)I"⟩ : MethodName) (head1 (Jvm.Cond.code (⟨"com/example/yealm/yealm/equiv/RefinablePartition", "split", "(I)I"⟩ : MethodName) prog_61_method_15_code 4 (some .int) :: ws) ({ frames := 1, cells := 0, slots := 0, locals := 17 } : Room)) (fun a U => a = #[(.ref a1), (.int p1)] ∧ Z.Warmed39 U.vm ∧ U.heap = h0) (fun _ _ _ _ _ => True) (fun _ U o U' => ∃ v L, o = .returned v ∧ QR Z a1 bE bP bB bG bN bM bF bT n lE lP lB' lG' lN' lM' lF' lT (bc + (1 : Int32)) tc (some (.int bc)) h0 n0 v U'.heap L ∧ FrameEnd U o U' L ({ frames := 1, cells := 0, slots := 0, locals := 17 } : Room).cells ({ frames := 1, cells := 0, slots := 0, locals := 17 } : Room).slots) := by
  refine MetFree.of_bodySF (plainFor_of_name pn_12) hisR ?_
  intro p e s m args below meth c s₁ Bd hml0 hP hK
  obtain ⟨rfl, hZ, hh⟩ := hP
  have hx := Bd.exec
  have hby := Bd.bytes
  have hml : c.maxLocals = 4 := hml0
  have hown : s.vm.findClass "com/example/yealm/yealm/equiv/RefinablePartition" = some m.cls := findClass_of_methodNamed Bd.named
  have hnm := (name_of_methodNamed Bd.named Bd.method).1
  have X0 : Stand p l e ({ frames := 1, cells := 0, slots := 0, locals := 17 } : Room) s m #[(.ref a1), (.int p1)] below meth c s₁ [] 0 0 := Stand.of_body Bd
  have e0 : s₁.heap = h0 := by rw [← hh, Bd.state]; rfl
  have N0 := Fr.nil n0
  have pre0 : ∀ tgt, Steps p.tables e below (s₁.setTop (mkF m 0 #[.val (.ref a1), .val (.int p1), .unset, .unset] [])) tgt → Steps p.tables e below (s₁.setTop (entryFrame m #[(.ref a1), (.int p1)] 4)) tgt := fun tgt k => castTop (ef_12 m a1 p1) k
  subst hp1
  simp only [own_split, Option.bind_eq_some_iff] at hm
  obtain ⟨⟨B1, G1, N1, M1, F1⟩, hm1, G2, hG2, hres⟩ := hm
  dsimp only at hG2 hres
  simp only [Option.some.injEq, Prod.mk.injEq] at hres
  obtain ⟨rfl, rfl, rfl, rfl, rfl⟩ := hres
  replace hG2 := own_put_e hG2
  replace hM0 := own_get_e hM0
  replace hG0 := own_get_e hG0
  have DD' := DD
  have RP' := RP
  obtain ⟨Em, FbE, FbP, FbB, FbG, FbN, FbM, FbF, FbT, Fbc, Ftc, ⟨kE, VE⟩, ⟨kP, VP⟩, ⟨kB, VB⟩, ⟨kG, VG⟩, ⟨kN, VN⟩, ⟨kM, VM⟩, ⟨kF, VF⟩, ⟨kT, VT⟩⟩ := RP'
  obtain ⟨⟨g_a1, g_bE, g_bP, g_bB, g_bG, g_bN, g_bM, g_bF, g_bT⟩, ⟨naE, naP, naB, naG, naN, naM, naF, naT⟩, ⟨nEP, nEB, nEG, nEN, nEM, nEF, nET, nPB, nPG, nPN, nPM, nPF, nPT, nBG, nBN, nBM, nBF, nBT, nGN, nGM, nGF, nGT, nNM, nNF, nNT, nMF, nMT, nFT⟩⟩ := DD
  obtain ⟨T1, X1, e1, st1⟩ := getF X0 hx hZ hown (host := "") (Or.inl (hw _ (List.mem_of_getElem? (i := 23) rfl))) Via.refl e0 FbM (g := (mkF m 1 #[.val (.ref a1), .val (.int (0 : Int32)), .unset, .unset] [(.ref a1)])) rfl rfl (hb hby d12_1)
  have Vo_2 := VM
  obtain ⟨Cl_2, Ar_2, Kc_2, Sz_2, Nn_2, Hs_2, Gf_2⟩ := Vo_2
  obtain ⟨T3, X3, e3, st3⟩ := getF X1 hx hZ hown (host := "") (Or.inl (hw _ (List.mem_of_getElem? (i := 19) rfl))) Via.refl e1 FbG (g := (mkF m 10 #[.val (.ref a1), .val (.int (0 : Int32)), .val (.int (1 : Int32)), .unset] [(.ref a1), (.int (0 : Int32)), (.ref a1)])) rfl rfl (hb hby d12_10)
  have Vo_4 := VG
  obtain ⟨Cl_4, Ar_4, Kc_4, Sz_4, Nn_4, Hs_4, Gf_4⟩ := Vo_4
  obtain ⟨cq5, q5, q5'⟩ := Em.cell
  obtain ⟨_, _, ⟨T5, L5, k5, n5⟩, -, X5, ⟨Lc5, hQ5, l5, y5, z5⟩, st5⟩ := X3.privateBack hx (y := (⟨"com/example/yealm/yealm/equiv/RefinablePartition", "newBlock", "(III)I"⟩ : MethodName)) hown (mvT hZ (hw _ (List.mem_of_getElem? (i := 74) rfl))) (mvT hZ (hw _ (List.mem_of_getElem? (i := 75) rfl))) (own_selp hZ (hw _ (List.mem_of_getElem? (i := 3) rfl)) (hw _ (List.mem_of_getElem? (i := 76) rfl)) (hw _ (List.mem_of_getElem? (i := 75) rfl)) (by decide)) (Cond.privateMethod_at (mvP hZ (hw _ (List.mem_of_getElem? (i := 76) rfl)) (args := #[]))) (mvT hZ (hw _ (List.mem_of_getElem? (i := 77) rfl))) (by decide) (backOf (W := 0) (rm13 l Z a0 hw [] a1 bE bP bB bG bN bM bF bT n lE lP lB lG lN lM lF lT bc tc (0 : Int32) (0 : Int32) (1 : Int32) B1 G1 N1 M1 F1 h0 n0 Z0 RP DD' rfl rfl rfl hm1) hZ (hw _ (List.mem_of_getElem? (i := 77) rfl)) (hw _ (List.mem_of_getElem? (i := 4) rfl)) (by decide) (by decide)) (g := (mkF m 16 #[.val (.ref a1), .val (.int (0 : Int32)), .val (.int (1 : Int32)), .unset] [(.int (1 : Int32)), (.int (0 : Int32)), (.int (0 : Int32)), (.ref a1)])) rfl (by rw [hml]; rfl) (Steps.refl _) (a := a1) (by rw [e3]; exact q5) q5' (argsL := [(.int (0 : Int32)), (.int (0 : Int32)), (.int (1 : Int32))]) (rest := []) (lenOf pd_1 rfl) rfl (by show 2 * 0 + _ ≤ _; exact Nat.le_of_eq rfl) (hb hby d12_16) (fun _ _ => ⟨rfl, e3, (by decide : 0 + 0 ≤ _), (by decide : 0 + 0 ≤ _)⟩)
  dsimp only [Pt.U, Pt.locs, Pt.cells, Pt.slots] at X5 l5 y5 z5 st5 hQ5
  subst l5 y5 z5
  obtain ⟨rfl, N5q, K5, RP5⟩ := hQ5
  have N5 := Fr.app N0 N5q
  have RP5' := RP5
  obtain ⟨Emy, FbEy, FbPy, FbBy, FbGy, FbNy, FbMy, FbFy, FbTy, Fbcy, Ftcy, ⟨kEy, VEy⟩, ⟨kPy, VPy⟩, ⟨kBy, VBy⟩, ⟨kGy, VGy⟩, ⟨kNy, VNy⟩, ⟨kMy, VMy⟩, ⟨kFy, VFy⟩, ⟨kTy, VTy⟩⟩ := RP5'
  obtain ⟨T6, X6, e6, st6⟩ := getF X5 hx hZ hown (host := "") (Or.inl (hw _ (List.mem_of_getElem? (i := 19) rfl))) Via.refl rfl FbGy (g := (mkF m 21 #[.val (.ref a1), .val (.int (0 : Int32)), .val (.int (1 : Int32)), .val (.int bc)] [(.ref a1)])) rfl rfl (hb hby d12_21)
  have Vo_7 := VGy
  obtain ⟨Cl_7, Ar_7, Kc_7, Sz_7, Nn_7, Hs_7, Gf_7⟩ := Vo_7
  obtain ⟨T8, h8, X8, e8, W8, st8⟩ := stI X6 hx hZ e6 Ar_7 (j := (0 : Int32)) (inb_of Sz_7 hG2.1) (g := (mkF m 26 #[.val (.ref a1), .val (.int (0 : Int32)), .val (.int (1 : Int32)), .val (.int bc)] [(.int (1 : Int32)), (.int (0 : Int32)), (.ref bG)])) rfl rfl (hb hby d12_26)
  have Vs8 : Arv Z h8 bG kGy .int n ((G1.map Value.int).set ((0 : Int32)).toNatClampNeg (.int (1 : Int32))) (.int (0 : Int32)) := Arv.set Ar_7 Kc_7 Sz_7 Nn_7 Hs_7 Gf_7 rfl W8 ((0 : Int32)).toNatClampNeg rfl (by rw [List.length_map]; exact hG2.2.1)
  have Vt8 : Arv Z h8 bG kGy .int n (G2.map Value.int) (.int (0 : Int32)) := own_vs hG2.2.2 ▸ Vs8
  have N8 := Fr.snoc X8 N5 g_bG
  obtain ⟨fs, hr, hrun, hended, hW, hsame⟩ := X8.leave (v := some (.int bc)) (fun h => by rw [Bd.returns] at h; cases h)
  refine ⟨_, _, pre0 _ ?_, hrun, hended, _, _, rfl, ?_, ⟨_, rfl⟩, hW, hsame.mono (by decide) (by decide)⟩
  · show Steps p.tables e below (s₁.setTop (mkF m 0 #[.val (.ref a1), .val (.int (0 : Int32)), .unset, .unset] [])) _
    refine XS.aloadN X0.here hx rfl (hb hby d12_0) rfl rfl ?_
    show Steps p.tables e below (s₁.setTop (mkF m 1 #[.val (.ref a1), .val (.int (0 : Int32)), .unset, .unset] [(.ref a1)])) _
    refine st1 _ ?_
    show Steps p.tables e below (T1.setTop (mkF m 4 #[.val (.ref a1), .val (.int (0 : Int32)), .unset, .unset] [(.ref bM)])) _
    refine XS.iloadN X1.here hx rfl (hb hby d12_4) rfl ?_
    show Steps p.tables e below (T1.setTop (mkF m 5 #[.val (.ref a1), .val (.int (0 : Int32)), .unset, .unset] [(.int (0 : Int32)), (.ref bM)])) _
    refine X1.iaload hx (j := (0 : Int32)) (v := (.int (1 : Int32))) (by rw [e1]; exact Ar_2.1) (State.isArrayOf_alike hZ.alike Ar_2.2.1) Ar_2.2.2 (inb_of Sz_2 hM0.1) (Has.at Hs_2 (inb_of Sz_2 hM0.1) (own_getD hM0.2)) (g := (mkF m 5 #[.val (.ref a1), .val (.int (0 : Int32)), .unset, .unset] [(.int (0 : Int32)), (.ref bM)])) rfl rfl (hb hby d12_5) _ ?_
    show Steps p.tables e below (T1.setTop (mkF m 6 #[.val (.ref a1), .val (.int (0 : Int32)), .unset, .unset] [(.int (1 : Int32))])) _
    refine XS.istoreN X1.here hx rfl (hb hby d12_6) rfl (l' := #[.val (.ref a1), .val (.int (0 : Int32)), .val (.int (1 : Int32)), .unset]) rfl ?_
    show Steps p.tables e below (T1.setTop (mkF m 7 #[.val (.ref a1), .val (.int (0 : Int32)), .val (.int (1 : Int32)), .unset] [])) _
    refine XS.aloadN X1.here hx rfl (hb hby d12_7) rfl rfl ?_
    show Steps p.tables e below (T1.setTop (mkF m 8 #[.val (.ref a1), .val (.int (0 : Int32)), .val (.int (1 : Int32)), .unset] [(.ref a1)])) _
    refine XS.iloadN X1.here hx rfl (hb hby d12_8) rfl ?_
    show Steps p.tables e below (T1.setTop (mkF m 9 #[.val (.ref a1), .val (.int (0 : Int32)), .val (.int (1 : Int32)), .unset] [(.int (0 : Int32)), (.ref a1)])) _
    refine XS.aloadN X1.here hx rfl (hb hby d12_9) rfl rfl ?_
    show Steps p.tables e below (T1.setTop (mkF m 10 #[.val (.ref a1), .val (.int (0 : Int32)), .val (.int (1 : Int32)), .unset] [(.ref a1), (.int (0 : Int32)), (.ref a1)])) _
    refine st3 _ ?_
    show Steps p.tables e below (T3.setTop (mkF m 13 #[.val (.ref a1), .val (.int (0 : Int32)), .val (.int (1 : Int32)), .unset] [(.ref bG), (.int (0 : Int32)), (.ref a1)])) _
    refine XS.iloadN X3.here hx rfl (hb hby d12_13) rfl ?_
    show Steps p.tables e below (T3.setTop (mkF m 14 #[.val (.ref a1), .val (.int (0 : Int32)), .val (.int (1 : Int32)), .unset] [(.int (0 : Int32)), (.ref bG), (.int (0 : Int32)), (.ref a1)])) _
    refine X3.iaload hx (j := (0 : Int32)) (v := (.int (0 : Int32))) (by rw [e3]; exact Ar_4.1) (State.isArrayOf_alike hZ.alike Ar_4.2.1) Ar_4.2.2 (inb_of Sz_4 hG0.1) (Has.at Hs_4 (inb_of Sz_4 hG0.1) (own_getD hG0.2)) (g := (mkF m 14 #[.val (.ref a1), .val (.int (0 : Int32)), .val (.int (1 : Int32)), .unset] [(.int (0 : Int32)), (.ref bG), (.int (0 : Int32)), (.ref a1)])) rfl rfl (hb hby d12_14) _ ?_
    show Steps p.tables e below (T3.setTop (mkF m 15 #[.val (.ref a1), .val (.int (0 : Int32)), .val (.int (1 : Int32)), .unset] [(.int (0 : Int32)), (.int (0 : Int32)), (.ref a1)])) _
    refine XS.iloadN X3.here hx rfl (hb hby d12_15) rfl ?_
    show Steps p.tables e below (T3.setTop (mkF m 16 #[.val (.ref a1), .val (.int (0 : Int32)), .val (.int (1 : Int32)), .unset] [(.int (1 : Int32)), (.int (0 : Int32)), (.int (0 : Int32)), (.ref a1)])) _
    refine st5.trans ?_
    show Steps p.tables e below (T5.setTop (mkF m 19 #[.val (.ref a1), .val (.int (0 : Int32)), .val (.int (1 : Int32)), .unset] [(.int bc)])) _
    refine XS.istoreN X5.here hx rfl (hb hby d12_19) rfl (l' := #[.val (.ref a1), .val (.int (0 : Int32)), .val (.int (1 : Int32)), .val (.int bc)]) rfl ?_
    show Steps p.tables e below (T5.setTop (mkF m 20 #[.val (.ref a1), .val (.int (0 : Int32)), .val (.int (1 : Int32)), .val (.int bc)] [])) _
    refine XS.aloadN X5.here hx rfl (hb hby d12_20) rfl rfl ?_
    show Steps p.tables e below (T5.setTop (mkF m 21 #[.val (.ref a1), .val (.int (0 : Int32)), .val (.int (1 : Int32)), .val (.int bc)] [(.ref a1)])) _
    refine st6 _ ?_
    show Steps p.tables e below (T6.setTop (mkF m 24 #[.val (.ref a1), .val (.int (0 : Int32)), .val (.int (1 : Int32)), .val (.int bc)] [(.ref bG)])) _
    refine XS.iloadN X6.here hx rfl (hb hby d12_24) rfl ?_
    show Steps p.tables e below (T6.setTop (mkF m 25 #[.val (.ref a1), .val (.int (0 : Int32)), .val (.int (1 : Int32)), .val (.int bc)] [(.int (0 : Int32)), (.ref bG)])) _
    refine XS.iloadN X6.here hx rfl (hb hby d12_25) rfl ?_
    show Steps p.tables e below (T6.setTop (mkF m 26 #[.val (.ref a1), .val (.int (0 : Int32)), .val (.int (1 : Int32)), .val (.int bc)] [(.int (1 : Int32)), (.int (0 : Int32)), (.ref bG)])) _
    refine st8 _ ?_
    show Steps p.tables e below (T8.setTop (mkF m 27 #[.val (.ref a1), .val (.int (0 : Int32)), .val (.int (1 : Int32)), .val (.int bc)] [])) _
    refine XS.iloadN X8.here hx rfl (hb hby d12_27) rfl ?_
    show Steps p.tables e below (T8.setTop (mkF m 28 #[.val (.ref a1), .val (.int (0 : Int32)), .val (.int (1 : Int32)), .val (.int bc)] [(.int bc)])) _
    exact retI X8 hx Bd.returns (hb hby d12_28) hr
  · show QR Z a1 bE bP bB bG bN bM bF bT n _ _ _ _ _ _ _ _ _ _ _ h0 n0 _ T8.heap _
    rw [e8]
    exact ⟨rfl, N8, (((Keep.refl h0 [a1, bE, bP, bB, bG, bN, bM, bF, bT]).trans K5 (allS (Or.inl (List.mem_of_getElem? (i := 0) rfl)) (allS (Or.inl (List.mem_of_getElem? (i := 1) rfl)) (allS (Or.inl (List.mem_of_getElem? (i := 2) rfl)) (allS (Or.inl (List.mem_of_getElem? (i := 3) rfl)) (allS (Or.inl (List.mem_of_getElem? (i := 4) rfl)) (allS (Or.inl (List.mem_of_getElem? (i := 5) rfl)) (allS (Or.inl (List.mem_of_getElem? (i := 6) rfl)) (allS (Or.inl (List.mem_of_getElem? (i := 7) rfl)) (allS (Or.inl (List.mem_of_getElem? (i := 8) rfl)) all0)))))))))).wr W8 (Or.inl (List.mem_of_getElem? (i := 4) rfl))), ⟨(Emy.wr W8), (FbEy.other W8 (Or.inl naG)), (FbPy.other W8 (Or.inl naG)), (FbBy.other W8 (Or.inl naG)), (FbGy.other W8 (Or.inl naG)), (FbNy.other W8 (Or.inl naG)), (FbMy.other W8 (Or.inl naG)), (FbFy.other W8 (Or.inl naG)), (FbTy.other W8 (Or.inl naG)), (Fbcy.other W8 (Or.inl naG)), (Ftcy.other W8 (Or.inl naG)), ⟨_, (VEy.other W8 nEG)⟩, ⟨_, (VPy.other W8 nPG)⟩, ⟨_, (VBy.other W8 nBG)⟩, ⟨_, Vt8⟩, ⟨_, (VNy.other W8 (Ne.symm nGN))⟩, ⟨_, (VMy.other W8 (Ne.symm nGM))⟩, ⟨_, (VFy.other W8 (Ne.symm nGF))⟩, ⟨_, (VTy.other W8 (Ne.symm nGT))⟩⟩⟩
theorem ef_1 (m : MethodId) (a1 : Addr) (n : Int32) : entryFrame m #[(.ref a1), (.int n)] 3 = mkF m 0 #[.val (.ref a1), .val (.int n), .unset] [] := by first | (simp [entryFrame, mkF, argsToLocals, Value.category]; done) | rfl
def Q1 (Z : State) (a1 : Addr) (n : Int32) (h0 : Heap) (n0 : Nat) (v : Option Value) (h : Heap) (L : List Loc) : Prop := v = none ∧ Fr n0 L ∧ ∃ bE bP bB bG bN bM bF bT : Addr, Keep h0 h [a1] ∧ own_D n0 a1 bE bP bB bG bN bM bF bT ∧ (h0.size ≤ bE ∧ h0.size ≤ bP ∧ h0.size ≤ bB ∧ h0.size ≤ bG ∧ h0.size ≤ bN ∧ h0.size ≤ bM ∧ h0.size ≤ bF ∧ h0.size ≤ bT) ∧ own_RP Z h a1 bE bP bB bG bN bM bF bT n (own_E n) (own_E n) own_Z4 own_Z4 (own_N4 n) own_Z4 own_Z4 own_Z4 (1 : Int32) (0 : Int32)
set_option maxRecDepth 65536 in
set_option maxHeartbeats 40000000 in
theorem rm1 (l : Launch) (Z : State) (a0 : Array Value) (hw : ∀ d ∈ tables_1, d.before a0 Z = true) (ws : List Jvm.Cond) (a1 : Addr) (n : Int32) (uE uP uB uG uN uM uF uT ubc : Value) (h0 : Heap) (n0 : Nat) (Z0 : n0 ≤ h0.size) (E_a1 : Exa Z h0 a1 "com/example/yealm/yealm/equiv/RefinablePartition") (g_a1 : n0 ≤ a1) (F_elements : Fld Z h0 a1 "com/example/yealm/yealm/equiv/RefinablePartition" "elements" "[I" uE) (F_positions : Fld Z h0 a1 "com/example/yealm/yealm/equiv/RefinablePartition" "positions" "[I" uP) (F_blockOf : Fld Z h0 a1 "com/example/yealm/yealm/equiv/RefinablePartition" "blockOf" "[I" uB) (F_blockBegin : Fld Z h0 a1 "com/example/yealm/yealm/equiv/RefinablePartition" "blockBegin" "[I" uG) (F_blockEnd : Fld Z h0 a1 "com/example/yealm/yealm/equiv/RefinablePartition" "blockEnd" "[I" uN) (F_markedEnd : Fld Z h0 a1 "com/example/yealm/yealm/equiv/RefinablePartition" "markedEnd" "[I" uM) (F_splitFrom : Fld Z h0 a1 "com/example/yealm/yealm/equiv/RefinablePartition" "splitFrom" "[I" uF) (F_touched : Fld Z h0 a1 "com/example/yealm/yealm/equiv/RefinablePartition" "touched" "[I" uT) (F_blockCount : Fld Z h0 a1 "com/example/yealm/yealm/equiv/RefinablePartition" "blockCount" "I" ubc) (F_touchedCount : Fld Z h0 a1 "com/example/yealm/yealm/equiv/RefinablePartition" "touchedCount" "I" (.int (0 : Int32))) (hn0 : ¬ n < 0) (hn1 : (0 : Int32) < n) (hn5 : ¬ (4 : Int32) < n) (hn4 : n.toNatClampNeg ≤ 4) :
    MetFree l (⟨"com/example/yealm/yealm/equiv/RefinablePartition", "<init>", "(I)V"⟩ : MethodName) (head1 (Jvm.Cond.code (⟨"com/example/yealm/yealm/equiv/RefinablePartition", "<init>", "(I)V"⟩ : MethodName) prog_61_method_1_code 3 none :: ws) ({ frames := 1, cells := 8, slots := 32, locals := 12 } : Room)) (fun a U => a = #[(.ref a1), (.int n)] ∧ Z.Warmed39 U.vm ∧ U.heap = h0) (fun _ _ _ _ _ => True) (fun _ U o U' => ∃ v L, o = .returned v ∧ Q1 Z a1 n h0 n0 v U'.heap L ∧ FrameEnd U o U' L ({ frames := 1, cells := 8, slots := 32, locals := 12 } : Room).cells ({ frames := 1, cells := 8, slots := 32, locals := 12 } : Room).slots) := by
  refine MetFree.of_bodySF (plainFor_of_name pn_1) hisR ?_
  intro p e s m args below meth c s₁ Bd hml0 hP hK
  obtain ⟨rfl, hZ, hh⟩ := hP
  have hx := Bd.exec
  have hby := Bd.bytes
  have hml : c.maxLocals = 3 := hml0
  have hown : s.vm.findClass "com/example/yealm/yealm/equiv/RefinablePartition" = some m.cls := findClass_of_methodNamed Bd.named
  have hnm := (name_of_methodNamed Bd.named Bd.method).1
  have X0 : Stand p l e ({ frames := 1, cells := 8, slots := 32, locals := 12 } : Room) s m #[(.ref a1), (.int n)] below meth c s₁ [] 0 0 := Stand.of_body Bd
  have e0 : s₁.heap = h0 := by rw [← hh, Bd.state]; rfl
  have N0 := Fr.nil n0
  have pre0 : ∀ tgt, Steps p.tables e below (s₁.setTop (mkF m 0 #[.val (.ref a1), .val (.int n), .unset] [])) tgt → Steps p.tables e below (s₁.setTop (entryFrame m #[(.ref a1), (.int n)] 3)) tgt := fun tgt k => castTop (ef_1 m a1 n) k
  obtain ⟨T1, X1, e1, st1⟩ := initO X0 hx hZ hown (hw _ (List.mem_of_getElem? (i := 8) rfl)) (hw _ (List.mem_of_getElem? (i := 9) rfl)) (hw _ (List.mem_of_getElem? (i := 10) rfl)) e0 (g := (mkF m 1 #[.val (.ref a1), .val (.int n), .unset] [(.ref a1)])) rfl (by rw [hml]; rfl) rfl (hb hby d1_1) (by decide) (W := 0) (by show 2 * 0 + _ ≤ _; exact Nat.le_of_eq rfl) (by decide)
  obtain ⟨T2, h2, X2, e2, W2, st2⟩ := putF X1 hx hZ hown (host := "") (Or.inl (hw _ (List.mem_of_getElem? (i := 11) rfl))) Via.refl e1 F_blockCount E_a1 (Or.inl (hw _ (List.mem_of_getElem? (i := 12) rfl))) (hw _ (List.mem_of_getElem? (i := 3) rfl)) (ty := .int) (by decide) rfl rfl (g := (mkF m 6 #[.val (.ref a1), .val (.int n), .unset] [(.int (1 : Int32)), (.ref a1)])) rfl rfl (hb hby d1_6)
  have Fw2 := F_blockCount.same W2
  have N2 := Fr.snoc X2 N0 g_a1
  obtain ⟨T3, h3, k3, X3, e3, E3, A3, st3⟩ := newP X2 hx hZ (hw _ (List.mem_of_getElem? (i := 1) rfl)) e2 (g := (mkF m 11 #[.val (.ref a1), .val (.int n), .unset] [(.int n), (.ref a1)])) rfl (hb hby d1_11) rfl hn0 (cap := 4) hn4 (by decide) (by decide) (by decide)
  obtain ⟨b3, g3⟩ : ∃ z, z = h2.size := ⟨_, rfl⟩
  rw [← g3] at A3 st3
  have lt3_a1 : a1 < h2.size := Nat.lt_of_lt_of_le E_a1.lt (Nat.le_trans (Nat.le_refl _) (Keep.of_wr W2).1)
  have ne3_a1 : a1 ≠ b3 := Nat.ne_of_lt (Nat.lt_of_lt_of_le lt3_a1 (Nat.le_of_eq g3.symm))
  have g_b3 : n0 ≤ b3 := Nat.le_trans (Nat.le_trans Z0 (Keep.of_wr W2).1) (Nat.le_of_eq g3.symm)
  have sz_b3 : h0.size ≤ b3 := Nat.le_trans (Nat.le_trans (Nat.le_refl _) (Keep.of_wr W2).1) (Nat.le_of_eq g3.symm)
  have V_b3 : Arv Z h3 b3 k3 .int n [(.int (0 : Int32)), (.int (0 : Int32)), (.int (0 : Int32)), (.int (0 : Int32))] (.int (0 : Int32)) := (Arv.new A3 hn0).pad (pad_rep [] (.int (0 : Int32)) 4)
  have fx4 := ((F_elements.other W2 (Or.inr (slot_ne (Or.inr (hw _ (List.mem_of_getElem? (i := 14) rfl))) (Or.inl (hw _ (List.mem_of_getElem? (i := 12) rfl))) (by decide) (t := (.array .int)) (t' := .int) (by decide) (by decide)))).ext E3)
  obtain ⟨T5, h5, X5, e5, W5, st5⟩ := putF X3 hx hZ hown (host := "") (Or.inl (hw _ (List.mem_of_getElem? (i := 13) rfl))) Via.refl e3 fx4 ((E_a1.wr W2).ext E3) (Or.inr ⟨(hw _ (List.mem_of_getElem? (i := 14) rfl)), rfl, hnm⟩) (hw _ (List.mem_of_getElem? (i := 3) rfl)) (ty := (.array .int)) (by decide) rfl rfl (g := (mkF m 13 #[.val (.ref a1), .val (.int n), .unset] [(.ref b3), (.ref a1)])) rfl rfl (hb hby d1_13)
  have Fw5 := fx4.same W5
  have N5 := Fr.snoc X5 N2 g_a1
  obtain ⟨T6, h6, k6, X6, e6, E6, A6, st6⟩ := newP X5 hx hZ (hw _ (List.mem_of_getElem? (i := 1) rfl)) e5 (g := (mkF m 18 #[.val (.ref a1), .val (.int n), .unset] [(.int n), (.ref a1)])) rfl (hb hby d1_18) rfl hn0 (cap := 4) hn4 (by decide) (by decide) (by decide)
  obtain ⟨b6, g6⟩ : ∃ z, z = h5.size := ⟨_, rfl⟩
  rw [← g6] at A6 st6
  have lt6_a1 : a1 < h5.size := Nat.lt_of_lt_of_le lt3_a1 (Nat.le_trans (Nat.le_trans (Nat.le_refl _) E3.1) (Keep.of_wr W5).1)
  have ne6_a1 : a1 ≠ b6 := Nat.ne_of_lt (Nat.lt_of_lt_of_le lt6_a1 (Nat.le_of_eq g6.symm))
  have lt6_b3 : b3 < h5.size := Nat.lt_of_lt_of_le V_b3.lt (Nat.le_trans (Nat.le_refl _) (Keep.of_wr W5).1)
  have ne6_b3 : b3 ≠ b6 := Nat.ne_of_lt (Nat.lt_of_lt_of_le lt6_b3 (Nat.le_of_eq g6.symm))
  have zz7 : n0 ≤ h5.size := (Nat.le_trans (Nat.le_trans (Nat.le_trans Z0 (Keep.of_wr W2).1) E3.1) (Keep.of_wr W5).1)
  have g_b6 : n0 ≤ b6 := Nat.le_trans zz7 (Nat.le_of_eq g6.symm)
  have zz8 : h0.size ≤ h5.size := (Nat.le_trans (Nat.le_trans (Nat.le_trans (Nat.le_refl _) (Keep.of_wr W2).1) E3.1) (Keep.of_wr W5).1)
  have sz_b6 : h0.size ≤ b6 := Nat.le_trans zz8 (Nat.le_of_eq g6.symm)
  have V_b6 : Arv Z h6 b6 k6 .int n [(.int (0 : Int32)), (.int (0 : Int32)), (.int (0 : Int32)), (.int (0 : Int32))] (.int (0 : Int32)) := (Arv.new A6 hn0).pad (pad_rep [] (.int (0 : Int32)) 4)
  have fx9 := ((((F_positions.other W2 (Or.inr (slot_ne (Or.inr (hw _ (List.mem_of_getElem? (i := 16) rfl))) (Or.inl (hw _ (List.mem_of_getElem? (i := 12) rfl))) (by decide) (t := (.array .int)) (t' := .int) (by decide) (by decide)))).ext E3).other W5 (Or.inr (slot_ne (Or.inr (hw _ (List.mem_of_getElem? (i := 16) rfl))) (Or.inr (hw _ (List.mem_of_getElem? (i := 14) rfl))) (by decide) (t := (.array .int)) (t' := (.array .int)) (by decide) (by decide)))).ext E6)
  obtain ⟨T10, h10, X10, e10, W10, st10⟩ := putF X6 hx hZ hown (host := "") (Or.inl (hw _ (List.mem_of_getElem? (i := 15) rfl))) Via.refl e6 fx9 ((((E_a1.wr W2).ext E3).wr W5).ext E6) (Or.inr ⟨(hw _ (List.mem_of_getElem? (i := 16) rfl)), rfl, hnm⟩) (hw _ (List.mem_of_getElem? (i := 3) rfl)) (ty := (.array .int)) (by decide) rfl rfl (g := (mkF m 20 #[.val (.ref a1), .val (.int n), .unset] [(.ref b6), (.ref a1)])) rfl rfl (hb hby d1_20)
  have Fw10 := fx9.same W10
  have N10 := Fr.snoc X10 N5 g_a1
  have fx11 := ((Fw5.ext E6).other W10 (Or.inr (slot_ne (Or.inr (hw _ (List.mem_of_getElem? (i := 14) rfl))) (Or.inr (hw _ (List.mem_of_getElem? (i := 16) rfl))) (by decide) (t := (.array .int)) (t' := (.array .int)) (by decide) (by decide))))
  obtain ⟨T12, X12, e12, st12⟩ := getF X10 hx hZ hown (host := "") (Or.inl (hw _ (List.mem_of_getElem? (i := 13) rfl))) Via.refl e10 fx11 (g := (mkF m 31 #[.val (.ref a1), .val (.int n), .val (.int (0 : Int32))] [(.ref a1)])) rfl rfl (hb hby d1_31)
  have fx14 := (((V_b3.other W5 (Ne.symm ne3_a1)).ext E6).other W10 (Ne.symm ne3_a1))
  have Vo_13 := fx14
  obtain ⟨Cl_13, Ar_13, Kc_13, Sz_13, Nn_13, Hs_13, Gf_13⟩ := Vo_13
  obtain ⟨T15, h15, X15, e15, W15, st15⟩ := stI X12 hx hZ e12 Ar_13 (j := (0 : Int32)) (inb_of Sz_13 ⟨by decide, hn1⟩) (g := (mkF m 36 #[.val (.ref a1), .val (.int n), .val (.int (0 : Int32))] [(.int (0 : Int32)), (.int (0 : Int32)), (.ref b3)])) rfl rfl (hb hby d1_36)
  have Vs15 : Arv Z h15 b3 k3 .int n [(.int (0 : Int32)), (.int (0 : Int32)), (.int (0 : Int32)), (.int (0 : Int32))] (.int (0 : Int32)) := Arv.set Ar_13 Kc_13 Sz_13 Nn_13 Hs_13 Gf_13 rfl W15 0 (by decide) (Nat.le_of_ble_eq_true rfl)
  have N15 := Fr.snoc X15 N10 g_b3
  obtain ⟨T16, X16, e16, st16⟩ := getF X15 hx hZ hown (host := "") (Or.inl (hw _ (List.mem_of_getElem? (i := 15) rfl))) Via.refl e15 (Fw10.other W15 (Or.inl ne3_a1)) (g := (mkF m 38 #[.val (.ref a1), .val (.int n), .val (.int (0 : Int32))] [(.ref a1)])) rfl rfl (hb hby d1_38)
  have fx18 := ((V_b6.other W10 (Ne.symm ne6_a1)).other W15 (Ne.symm ne6_b3))
  have Vo_17 := fx18
  obtain ⟨Cl_17, Ar_17, Kc_17, Sz_17, Nn_17, Hs_17, Gf_17⟩ := Vo_17
  obtain ⟨T19, h19, X19, e19, W19, st19⟩ := stI X16 hx hZ e16 Ar_17 (j := (0 : Int32)) (inb_of Sz_17 ⟨by decide, hn1⟩) (g := (mkF m 43 #[.val (.ref a1), .val (.int n), .val (.int (0 : Int32))] [(.int (0 : Int32)), (.int (0 : Int32)), (.ref b6)])) rfl rfl (hb hby d1_43)
  have Vs19 : Arv Z h19 b6 k6 .int n [(.int (0 : Int32)), (.int (0 : Int32)), (.int (0 : Int32)), (.int (0 : Int32))] (.int (0 : Int32)) := Arv.set Ar_17 Kc_17 Sz_17 Nn_17 Hs_17 Gf_17 rfl W19 0 (by decide) (Nat.le_of_ble_eq_true rfl)
  have N19 := Fr.snoc X19 N15 g_b6
  by_cases hc27_2 : ((0 : Int32) + (1 : Int32)) < n
  ·
    obtain ⟨T20, X20, e20, st20⟩ := getF X19 hx hZ hown (host := "") (Or.inl (hw _ (List.mem_of_getElem? (i := 13) rfl))) Via.refl e19 ((fx11.other W15 (Or.inl ne3_a1)).other W19 (Or.inl ne6_a1)) (g := (mkF m 31 #[.val (.ref a1), .val (.int n), .val (.int ((0 : Int32) + (1 : Int32)))] [(.ref a1)])) rfl rfl (hb hby d1_31)
    have Vo_21 := (Vs15.other W19 ne6_b3)
    obtain ⟨Cl_21, Ar_21, Kc_21, Sz_21, Nn_21, Hs_21, Gf_21⟩ := Vo_21
    obtain ⟨T22, h22, X22, e22, W22, st22⟩ := stI X20 hx hZ e20 Ar_21 (j := ((0 : Int32) + (1 : Int32))) (inb_of Sz_21 ⟨by decide, hc27_2⟩) (g := (mkF m 36 #[.val (.ref a1), .val (.int n), .val (.int ((0 : Int32) + (1 : Int32)))] [(.int ((0 : Int32) + (1 : Int32))), (.int ((0 : Int32) + (1 : Int32))), (.ref b3)])) rfl rfl (hb hby d1_36)
    have Vs22 : Arv Z h22 b3 k3 .int n [(.int (0 : Int32)), (.int ((0 : Int32) + (1 : Int32))), (.int (0 : Int32)), (.int (0 : Int32))] (.int (0 : Int32)) := Arv.set Ar_21 Kc_21 Sz_21 Nn_21 Hs_21 Gf_21 rfl W22 1 (by decide) (Nat.le_of_ble_eq_true rfl)
    have N22 := Fr.snoc X22 N19 g_b3
    have fx23 := (((Fw10.other W15 (Or.inl ne3_a1)).other W19 (Or.inl ne6_a1)).other W22 (Or.inl ne3_a1))
    obtain ⟨T24, X24, e24, st24⟩ := getF X22 hx hZ hown (host := "") (Or.inl (hw _ (List.mem_of_getElem? (i := 15) rfl))) Via.refl e22 fx23 (g := (mkF m 38 #[.val (.ref a1), .val (.int n), .val (.int ((0 : Int32) + (1 : Int32)))] [(.ref a1)])) rfl rfl (hb hby d1_38)
    have Vo_25 := (Vs19.other W22 (Ne.symm ne6_b3))
    obtain ⟨Cl_25, Ar_25, Kc_25, Sz_25, Nn_25, Hs_25, Gf_25⟩ := Vo_25
    obtain ⟨T26, h26, X26, e26, W26, st26⟩ := stI X24 hx hZ e24 Ar_25 (j := ((0 : Int32) + (1 : Int32))) (inb_of Sz_25 ⟨by decide, hc27_2⟩) (g := (mkF m 43 #[.val (.ref a1), .val (.int n), .val (.int ((0 : Int32) + (1 : Int32)))] [(.int ((0 : Int32) + (1 : Int32))), (.int ((0 : Int32) + (1 : Int32))), (.ref b6)])) rfl rfl (hb hby d1_43)
    have Vs26 : Arv Z h26 b6 k6 .int n [(.int (0 : Int32)), (.int ((0 : Int32) + (1 : Int32))), (.int (0 : Int32)), (.int (0 : Int32))] (.int (0 : Int32)) := Arv.set Ar_25 Kc_25 Sz_25 Nn_25 Hs_25 Gf_25 rfl W26 1 (by decide) (Nat.le_of_ble_eq_true rfl)
    have N26 := Fr.snoc X26 N22 g_b6
    by_cases hc27_3 : (((0 : Int32) + (1 : Int32)) + (1 : Int32)) < n
    ·
      have fx27 := ((((fx11.other W15 (Or.inl ne3_a1)).other W19 (Or.inl ne6_a1)).other W22 (Or.inl ne3_a1)).other W26 (Or.inl ne6_a1))
      obtain ⟨T28, X28, e28, st28⟩ := getF X26 hx hZ hown (host := "") (Or.inl (hw _ (List.mem_of_getElem? (i := 13) rfl))) Via.refl e26 fx27 (g := (mkF m 31 #[.val (.ref a1), .val (.int n), .val (.int (((0 : Int32) + (1 : Int32)) + (1 : Int32)))] [(.ref a1)])) rfl rfl (hb hby d1_31)
      have Vo_29 := (Vs22.other W26 ne6_b3)
      obtain ⟨Cl_29, Ar_29, Kc_29, Sz_29, Nn_29, Hs_29, Gf_29⟩ := Vo_29
      obtain ⟨T30, h30, X30, e30, W30, st30⟩ := stI X28 hx hZ e28 Ar_29 (j := (((0 : Int32) + (1 : Int32)) + (1 : Int32))) (inb_of Sz_29 ⟨by decide, hc27_3⟩) (g := (mkF m 36 #[.val (.ref a1), .val (.int n), .val (.int (((0 : Int32) + (1 : Int32)) + (1 : Int32)))] [(.int (((0 : Int32) + (1 : Int32)) + (1 : Int32))), (.int (((0 : Int32) + (1 : Int32)) + (1 : Int32))), (.ref b3)])) rfl rfl (hb hby d1_36)
      have Vs30 : Arv Z h30 b3 k3 .int n [(.int (0 : Int32)), (.int ((0 : Int32) + (1 : Int32))), (.int (((0 : Int32) + (1 : Int32)) + (1 : Int32))), (.int (0 : Int32))] (.int (0 : Int32)) := Arv.set Ar_29 Kc_29 Sz_29 Nn_29 Hs_29 Gf_29 rfl W30 2 (by decide) (Nat.le_of_ble_eq_true rfl)
      have N30 := Fr.snoc X30 N26 g_b3
      obtain ⟨T31, X31, e31, st31⟩ := getF X30 hx hZ hown (host := "") (Or.inl (hw _ (List.mem_of_getElem? (i := 15) rfl))) Via.refl e30 ((fx23.other W26 (Or.inl ne6_a1)).other W30 (Or.inl ne3_a1)) (g := (mkF m 38 #[.val (.ref a1), .val (.int n), .val (.int (((0 : Int32) + (1 : Int32)) + (1 : Int32)))] [(.ref a1)])) rfl rfl (hb hby d1_38)
      have Vo_32 := (Vs26.other W30 (Ne.symm ne6_b3))
      obtain ⟨Cl_32, Ar_32, Kc_32, Sz_32, Nn_32, Hs_32, Gf_32⟩ := Vo_32
      obtain ⟨T33, h33, X33, e33, W33, st33⟩ := stI X31 hx hZ e31 Ar_32 (j := (((0 : Int32) + (1 : Int32)) + (1 : Int32))) (inb_of Sz_32 ⟨by decide, hc27_3⟩) (g := (mkF m 43 #[.val (.ref a1), .val (.int n), .val (.int (((0 : Int32) + (1 : Int32)) + (1 : Int32)))] [(.int (((0 : Int32) + (1 : Int32)) + (1 : Int32))), (.int (((0 : Int32) + (1 : Int32)) + (1 : Int32))), (.ref b6)])) rfl rfl (hb hby d1_43)
      have Vs33 : Arv Z h33 b6 k6 .int n [(.int (0 : Int32)), (.int ((0 : Int32) + (1 : Int32))), (.int (((0 : Int32) + (1 : Int32)) + (1 : Int32))), (.int (0 : Int32))] (.int (0 : Int32)) := Arv.set Ar_32 Kc_32 Sz_32 Nn_32 Hs_32 Gf_32 rfl W33 2 (by decide) (Nat.le_of_ble_eq_true rfl)
      have N33 := Fr.snoc X33 N30 g_b6
      by_cases hc27_4 : ((((0 : Int32) + (1 : Int32)) + (1 : Int32)) + (1 : Int32)) < n
      ·
        obtain ⟨T34, X34, e34, st34⟩ := getF X33 hx hZ hown (host := "") (Or.inl (hw _ (List.mem_of_getElem? (i := 13) rfl))) Via.refl e33 ((fx27.other W30 (Or.inl ne3_a1)).other W33 (Or.inl ne6_a1)) (g := (mkF m 31 #[.val (.ref a1), .val (.int n), .val (.int ((((0 : Int32) + (1 : Int32)) + (1 : Int32)) + (1 : Int32)))] [(.ref a1)])) rfl rfl (hb hby d1_31)
        have Vo_35 := (Vs30.other W33 ne6_b3)
        obtain ⟨Cl_35, Ar_35, Kc_35, Sz_35, Nn_35, Hs_35, Gf_35⟩ := Vo_35
        obtain ⟨T36, h36, X36, e36, W36, st36⟩ := stI X34 hx hZ e34 Ar_35 (j := ((((0 : Int32) + (1 : Int32)) + (1 : Int32)) + (1 : Int32))) (inb_of Sz_35 ⟨by decide, hc27_4⟩) (g := (mkF m 36 #[.val (.ref a1), .val (.int n), .val (.int ((((0 : Int32) + (1 : Int32)) + (1 : Int32)) + (1 : Int32)))] [(.int ((((0 : Int32) + (1 : Int32)) + (1 : Int32)) + (1 : Int32))), (.int ((((0 : Int32) + (1 : Int32)) + (1 : Int32)) + (1 : Int32))), (.ref b3)])) rfl rfl (hb hby d1_36)
        have Vs36 : Arv Z h36 b3 k3 .int n [(.int (0 : Int32)), (.int ((0 : Int32) + (1 : Int32))), (.int (((0 : Int32) + (1 : Int32)) + (1 : Int32))), (.int ((((0 : Int32) + (1 : Int32)) + (1 : Int32)) + (1 : Int32)))] (.int (0 : Int32)) := Arv.set Ar_35 Kc_35 Sz_35 Nn_35 Hs_35 Gf_35 rfl W36 3 (by decide) (Nat.le_of_ble_eq_true rfl)
        have N36 := Fr.snoc X36 N33 g_b3
        have fx37 := ((((fx23.other W26 (Or.inl ne6_a1)).other W30 (Or.inl ne3_a1)).other W33 (Or.inl ne6_a1)).other W36 (Or.inl ne3_a1))
        obtain ⟨T38, X38, e38, st38⟩ := getF X36 hx hZ hown (host := "") (Or.inl (hw _ (List.mem_of_getElem? (i := 15) rfl))) Via.refl e36 fx37 (g := (mkF m 38 #[.val (.ref a1), .val (.int n), .val (.int ((((0 : Int32) + (1 : Int32)) + (1 : Int32)) + (1 : Int32)))] [(.ref a1)])) rfl rfl (hb hby d1_38)
        have Vo_39 := (Vs33.other W36 (Ne.symm ne6_b3))
        obtain ⟨Cl_39, Ar_39, Kc_39, Sz_39, Nn_39, Hs_39, Gf_39⟩ := Vo_39
        obtain ⟨T40, h40, X40, e40, W40, st40⟩ := stI X38 hx hZ e38 Ar_39 (j := ((((0 : Int32) + (1 : Int32)) + (1 : Int32)) + (1 : Int32))) (inb_of Sz_39 ⟨by decide, hc27_4⟩) (g := (mkF m 43 #[.val (.ref a1), .val (.int n), .val (.int ((((0 : Int32) + (1 : Int32)) + (1 : Int32)) + (1 : Int32)))] [(.int ((((0 : Int32) + (1 : Int32)) + (1 : Int32)) + (1 : Int32))), (.int ((((0 : Int32) + (1 : Int32)) + (1 : Int32)) + (1 : Int32))), (.ref b6)])) rfl rfl (hb hby d1_43)
        have Vs40 : Arv Z h40 b6 k6 .int n [(.int (0 : Int32)), (.int ((0 : Int32) + (1 : Int32))), (.int (((0 : Int32) + (1 : Int32)) + (1 : Int32))), (.int ((((0 : Int32) + (1 : Int32)) + (1 : Int32)) + (1 : Int32)))] (.int (0 : Int32)) := Arv.set Ar_39 Kc_39 Sz_39 Nn_39 Hs_39 Gf_39 rfl W40 3 (by decide) (Nat.le_of_ble_eq_true rfl)
        have N40 := Fr.snoc X40 N36 g_b6
        obtain ⟨T41, h41, k41, X41, e41, E41, A41, st41⟩ := newP X40 hx hZ (hw _ (List.mem_of_getElem? (i := 1) rfl)) e40 (g := (mkF m 52 #[.val (.ref a1), .val (.int n), .val (.int (((((0 : Int32) + (1 : Int32)) + (1 : Int32)) + (1 : Int32)) + (1 : Int32)))] [(.int n), (.ref a1)])) rfl (hb hby d1_52) rfl hn0 (cap := 4) hn4 (by decide) (by decide) (by decide)
        obtain ⟨b41, g41⟩ : ∃ z, z = h40.size := ⟨_, rfl⟩
        rw [← g41] at A41 st41
        have lt41_a1 : a1 < h40.size := Nat.lt_of_lt_of_le lt6_a1 (Nat.le_trans (Nat.le_trans (Nat.le_trans (Nat.le_trans (Nat.le_trans (Nat.le_trans (Nat.le_trans (Nat.le_trans (Nat.le_trans (Nat.le_trans (Nat.le_refl _) E6.1) (Keep.of_wr W10).1) (Keep.of_wr W15).1) (Keep.of_wr W19).1) (Keep.of_wr W22).1) (Keep.of_wr W26).1) (Keep.of_wr W30).1) (Keep.of_wr W33).1) (Keep.of_wr W36).1) (Keep.of_wr W40).1)
        have ne41_a1 : a1 ≠ b41 := Nat.ne_of_lt (Nat.lt_of_lt_of_le lt41_a1 (Nat.le_of_eq g41.symm))
        have lt41_b3 : b3 < h40.size := Nat.lt_of_lt_of_le lt6_b3 (Nat.le_trans (Nat.le_trans (Nat.le_trans (Nat.le_trans (Nat.le_trans (Nat.le_trans (Nat.le_trans (Nat.le_trans (Nat.le_trans (Nat.le_trans (Nat.le_refl _) E6.1) (Keep.of_wr W10).1) (Keep.of_wr W15).1) (Keep.of_wr W19).1) (Keep.of_wr W22).1) (Keep.of_wr W26).1) (Keep.of_wr W30).1) (Keep.of_wr W33).1) (Keep.of_wr W36).1) (Keep.of_wr W40).1)
        have ne41_b3 : b3 ≠ b41 := Nat.ne_of_lt (Nat.lt_of_lt_of_le lt41_b3 (Nat.le_of_eq g41.symm))
        have lt41_b6 : b6 < h40.size := Nat.lt_of_lt_of_le V_b6.lt (Nat.le_trans (Nat.le_trans (Nat.le_trans (Nat.le_trans (Nat.le_trans (Nat.le_trans (Nat.le_trans (Nat.le_trans (Nat.le_trans (Nat.le_refl _) (Keep.of_wr W10).1) (Keep.of_wr W15).1) (Keep.of_wr W19).1) (Keep.of_wr W22).1) (Keep.of_wr W26).1) (Keep.of_wr W30).1) (Keep.of_wr W33).1) (Keep.of_wr W36).1) (Keep.of_wr W40).1)
        have ne41_b6 : b6 ≠ b41 := Nat.ne_of_lt (Nat.lt_of_lt_of_le lt41_b6 (Nat.le_of_eq g41.symm))
        have zz42 : n0 ≤ h40.size := (Nat.le_trans (Nat.le_trans (Nat.le_trans (Nat.le_trans (Nat.le_trans (Nat.le_trans (Nat.le_trans (Nat.le_trans (Nat.le_trans (Nat.le_trans zz7 E6.1) (Keep.of_wr W10).1) (Keep.of_wr W15).1) (Keep.of_wr W19).1) (Keep.of_wr W22).1) (Keep.of_wr W26).1) (Keep.of_wr W30).1) (Keep.of_wr W33).1) (Keep.of_wr W36).1) (Keep.of_wr W40).1)
        have g_b41 : n0 ≤ b41 := Nat.le_trans zz42 (Nat.le_of_eq g41.symm)
        have zz43 : h0.size ≤ h40.size := (Nat.le_trans (Nat.le_trans (Nat.le_trans (Nat.le_trans (Nat.le_trans (Nat.le_trans (Nat.le_trans (Nat.le_trans (Nat.le_trans (Nat.le_trans zz8 E6.1) (Keep.of_wr W10).1) (Keep.of_wr W15).1) (Keep.of_wr W19).1) (Keep.of_wr W22).1) (Keep.of_wr W26).1) (Keep.of_wr W30).1) (Keep.of_wr W33).1) (Keep.of_wr W36).1) (Keep.of_wr W40).1)
        have sz_b41 : h0.size ≤ b41 := Nat.le_trans zz43 (Nat.le_of_eq g41.symm)
        have V_b41 : Arv Z h41 b41 k41 .int n [(.int (0 : Int32)), (.int (0 : Int32)), (.int (0 : Int32)), (.int (0 : Int32))] (.int (0 : Int32)) := (Arv.new A41 hn0).pad (pad_rep [] (.int (0 : Int32)) 4)
        have fx44 := ((((((((((((((F_blockOf.other W2 (Or.inr (slot_ne (Or.inr (hw _ (List.mem_of_getElem? (i := 18) rfl))) (Or.inl (hw _ (List.mem_of_getElem? (i := 12) rfl))) (by decide) (t := (.array .int)) (t' := .int) (by decide) (by decide)))).ext E3).other W5 (Or.inr (slot_ne (Or.inr (hw _ (List.mem_of_getElem? (i := 18) rfl))) (Or.inr (hw _ (List.mem_of_getElem? (i := 14) rfl))) (by decide) (t := (.array .int)) (t' := (.array .int)) (by decide) (by decide)))).ext E6).other W10 (Or.inr (slot_ne (Or.inr (hw _ (List.mem_of_getElem? (i := 18) rfl))) (Or.inr (hw _ (List.mem_of_getElem? (i := 16) rfl))) (by decide) (t := (.array .int)) (t' := (.array .int)) (by decide) (by decide)))).other W15 (Or.inl ne3_a1)).other W19 (Or.inl ne6_a1)).other W22 (Or.inl ne3_a1)).other W26 (Or.inl ne6_a1)).other W30 (Or.inl ne3_a1)).other W33 (Or.inl ne6_a1)).other W36 (Or.inl ne3_a1)).other W40 (Or.inl ne6_a1)).ext E41)
        have fx45 := ((((((((((((((E_a1.wr W2).ext E3).wr W5).ext E6).wr W10).wr W15).wr W19).wr W22).wr W26).wr W30).wr W33).wr W36).wr W40).ext E41)
        obtain ⟨T46, h46, X46, e46, W46, st46⟩ := putF X41 hx hZ hown (host := "") (Or.inl (hw _ (List.mem_of_getElem? (i := 17) rfl))) Via.refl e41 fx44 fx45 (Or.inr ⟨(hw _ (List.mem_of_getElem? (i := 18) rfl)), rfl, hnm⟩) (hw _ (List.mem_of_getElem? (i := 3) rfl)) (ty := (.array .int)) (by decide) rfl rfl (g := (mkF m 54 #[.val (.ref a1), .val (.int n), .val (.int (((((0 : Int32) + (1 : Int32)) + (1 : Int32)) + (1 : Int32)) + (1 : Int32)))] [(.ref b41), (.ref a1)])) rfl rfl (hb hby d1_54)
        have Fw46 := fx44.same W46
        have N46 := Fr.snoc X46 N40 g_a1
        obtain ⟨T47, h47, k47, X47, e47, E47, A47, st47⟩ := newP X46 hx hZ (hw _ (List.mem_of_getElem? (i := 1) rfl)) e46 (g := (mkF m 59 #[.val (.ref a1), .val (.int n), .val (.int (((((0 : Int32) + (1 : Int32)) + (1 : Int32)) + (1 : Int32)) + (1 : Int32)))] [(.int n), (.ref a1)])) rfl (hb hby d1_59) rfl hn0 (cap := 4) hn4 (by decide) (by decide) (by decide)
        obtain ⟨b47, g47⟩ : ∃ z, z = h46.size := ⟨_, rfl⟩
        rw [← g47] at A47 st47
        have lt47_a1 : a1 < h46.size := Nat.lt_of_lt_of_le lt41_a1 (Nat.le_trans (Nat.le_trans (Nat.le_refl _) E41.1) (Keep.of_wr W46).1)
        have ne47_a1 : a1 ≠ b47 := Nat.ne_of_lt (Nat.lt_of_lt_of_le lt47_a1 (Nat.le_of_eq g47.symm))
        have lt47_b3 : b3 < h46.size := Nat.lt_of_lt_of_le lt41_b3 (Nat.le_trans (Nat.le_trans (Nat.le_refl _) E41.1) (Keep.of_wr W46).1)
        have ne47_b3 : b3 ≠ b47 := Nat.ne_of_lt (Nat.lt_of_lt_of_le lt47_b3 (Nat.le_of_eq g47.symm))
        have lt47_b6 : b6 < h46.size := Nat.lt_of_lt_of_le lt41_b6 (Nat.le_trans (Nat.le_trans (Nat.le_refl _) E41.1) (Keep.of_wr W46).1)
        have ne47_b6 : b6 ≠ b47 := Nat.ne_of_lt (Nat.lt_of_lt_of_le lt47_b6 (Nat.le_of_eq g47.symm))
        have lt47_b41 : b41 < h46.size := Nat.lt_of_lt_of_le V_b41.lt (Nat.le_trans (Nat.le_refl _) (Keep.of_wr W46).1)
        have ne47_b41 : b41 ≠ b47 := Nat.ne_of_lt (Nat.lt_of_lt_of_le lt47_b41 (Nat.le_of_eq g47.symm))
        have g_b47 : n0 ≤ b47 := Nat.le_trans (Nat.le_trans (Nat.le_trans zz42 E41.1) (Keep.of_wr W46).1) (Nat.le_of_eq g47.symm)
        have sz_b47 : h0.size ≤ b47 := Nat.le_trans (Nat.le_trans (Nat.le_trans zz43 E41.1) (Keep.of_wr W46).1) (Nat.le_of_eq g47.symm)
        have V_b47 : Arv Z h47 b47 k47 .int n [(.int (0 : Int32)), (.int (0 : Int32)), (.int (0 : Int32)), (.int (0 : Int32))] (.int (0 : Int32)) := (Arv.new A47 hn0).pad (pad_rep [] (.int (0 : Int32)) 4)
        have fx48 := ((((((((((((((((F_blockBegin.other W2 (Or.inr (slot_ne (Or.inr (hw _ (List.mem_of_getElem? (i := 20) rfl))) (Or.inl (hw _ (List.mem_of_getElem? (i := 12) rfl))) (by decide) (t := (.array .int)) (t' := .int) (by decide) (by decide)))).ext E3).other W5 (Or.inr (slot_ne (Or.inr (hw _ (List.mem_of_getElem? (i := 20) rfl))) (Or.inr (hw _ (List.mem_of_getElem? (i := 14) rfl))) (by decide) (t := (.array .int)) (t' := (.array .int)) (by decide) (by decide)))).ext E6).other W10 (Or.inr (slot_ne (Or.inr (hw _ (List.mem_of_getElem? (i := 20) rfl))) (Or.inr (hw _ (List.mem_of_getElem? (i := 16) rfl))) (by decide) (t := (.array .int)) (t' := (.array .int)) (by decide) (by decide)))).other W15 (Or.inl ne3_a1)).other W19 (Or.inl ne6_a1)).other W22 (Or.inl ne3_a1)).other W26 (Or.inl ne6_a1)).other W30 (Or.inl ne3_a1)).other W33 (Or.inl ne6_a1)).other W36 (Or.inl ne3_a1)).other W40 (Or.inl ne6_a1)).ext E41).other W46 (Or.inr (slot_ne (Or.inr (hw _ (List.mem_of_getElem? (i := 20) rfl))) (Or.inr (hw _ (List.mem_of_getElem? (i := 18) rfl))) (by decide) (t := (.array .int)) (t' := (.array .int)) (by decide) (by decide)))).ext E47)
        obtain ⟨T49, h49, X49, e49, W49, st49⟩ := putF X47 hx hZ hown (host := "") (Or.inl (hw _ (List.mem_of_getElem? (i := 19) rfl))) Via.refl e47 fx48 ((fx45.wr W46).ext E47) (Or.inr ⟨(hw _ (List.mem_of_getElem? (i := 20) rfl)), rfl, hnm⟩) (hw _ (List.mem_of_getElem? (i := 3) rfl)) (ty := (.array .int)) (by decide) rfl rfl (g := (mkF m 61 #[.val (.ref a1), .val (.int n), .val (.int (((((0 : Int32) + (1 : Int32)) + (1 : Int32)) + (1 : Int32)) + (1 : Int32)))] [(.ref b47), (.ref a1)])) rfl rfl (hb hby d1_61)
        have Fw49 := fx48.same W49
        have N49 := Fr.snoc X49 N46 g_a1
        obtain ⟨T50, h50, k50, X50, e50, E50, A50, st50⟩ := newP X49 hx hZ (hw _ (List.mem_of_getElem? (i := 1) rfl)) e49 (g := (mkF m 66 #[.val (.ref a1), .val (.int n), .val (.int (((((0 : Int32) + (1 : Int32)) + (1 : Int32)) + (1 : Int32)) + (1 : Int32)))] [(.int n), (.ref a1)])) rfl (hb hby d1_66) rfl hn0 (cap := 4) hn4 (by decide) (by decide) (by decide)
        obtain ⟨b50, g50⟩ : ∃ z, z = h49.size := ⟨_, rfl⟩
        rw [← g50] at A50 st50
        have lt50_a1 : a1 < h49.size := Nat.lt_of_lt_of_le lt47_a1 (Nat.le_trans (Nat.le_trans (Nat.le_refl _) E47.1) (Keep.of_wr W49).1)
        have ne50_a1 : a1 ≠ b50 := Nat.ne_of_lt (Nat.lt_of_lt_of_le lt50_a1 (Nat.le_of_eq g50.symm))
        have lt50_b3 : b3 < h49.size := Nat.lt_of_lt_of_le lt47_b3 (Nat.le_trans (Nat.le_trans (Nat.le_refl _) E47.1) (Keep.of_wr W49).1)
        have ne50_b3 : b3 ≠ b50 := Nat.ne_of_lt (Nat.lt_of_lt_of_le lt50_b3 (Nat.le_of_eq g50.symm))
        have lt50_b6 : b6 < h49.size := Nat.lt_of_lt_of_le lt47_b6 (Nat.le_trans (Nat.le_trans (Nat.le_refl _) E47.1) (Keep.of_wr W49).1)
        have ne50_b6 : b6 ≠ b50 := Nat.ne_of_lt (Nat.lt_of_lt_of_le lt50_b6 (Nat.le_of_eq g50.symm))
        have lt50_b41 : b41 < h49.size := Nat.lt_of_lt_of_le lt47_b41 (Nat.le_trans (Nat.le_trans (Nat.le_refl _) E47.1) (Keep.of_wr W49).1)
        have ne50_b41 : b41 ≠ b50 := Nat.ne_of_lt (Nat.lt_of_lt_of_le lt50_b41 (Nat.le_of_eq g50.symm))
        have lt50_b47 : b47 < h49.size := Nat.lt_of_lt_of_le V_b47.lt (Nat.le_trans (Nat.le_refl _) (Keep.of_wr W49).1)
        have ne50_b47 : b47 ≠ b50 := Nat.ne_of_lt (Nat.lt_of_lt_of_le lt50_b47 (Nat.le_of_eq g50.symm))
        have zz51 : n0 ≤ h49.size := (Nat.le_trans (Nat.le_trans (Nat.le_trans (Nat.le_trans zz42 E41.1) (Keep.of_wr W46).1) E47.1) (Keep.of_wr W49).1)
        have g_b50 : n0 ≤ b50 := Nat.le_trans zz51 (Nat.le_of_eq g50.symm)
        have zz52 : h0.size ≤ h49.size := (Nat.le_trans (Nat.le_trans (Nat.le_trans (Nat.le_trans zz43 E41.1) (Keep.of_wr W46).1) E47.1) (Keep.of_wr W49).1)
        have sz_b50 : h0.size ≤ b50 := Nat.le_trans zz52 (Nat.le_of_eq g50.symm)
        have V_b50 : Arv Z h50 b50 k50 .int n [(.int (0 : Int32)), (.int (0 : Int32)), (.int (0 : Int32)), (.int (0 : Int32))] (.int (0 : Int32)) := (Arv.new A50 hn0).pad (pad_rep [] (.int (0 : Int32)) 4)
        have fx53 := ((((((((((((((((((F_blockEnd.other W2 (Or.inr (slot_ne (Or.inr (hw _ (List.mem_of_getElem? (i := 22) rfl))) (Or.inl (hw _ (List.mem_of_getElem? (i := 12) rfl))) (by decide) (t := (.array .int)) (t' := .int) (by decide) (by decide)))).ext E3).other W5 (Or.inr (slot_ne (Or.inr (hw _ (List.mem_of_getElem? (i := 22) rfl))) (Or.inr (hw _ (List.mem_of_getElem? (i := 14) rfl))) (by decide) (t := (.array .int)) (t' := (.array .int)) (by decide) (by decide)))).ext E6).other W10 (Or.inr (slot_ne (Or.inr (hw _ (List.mem_of_getElem? (i := 22) rfl))) (Or.inr (hw _ (List.mem_of_getElem? (i := 16) rfl))) (by decide) (t := (.array .int)) (t' := (.array .int)) (by decide) (by decide)))).other W15 (Or.inl ne3_a1)).other W19 (Or.inl ne6_a1)).other W22 (Or.inl ne3_a1)).other W26 (Or.inl ne6_a1)).other W30 (Or.inl ne3_a1)).other W33 (Or.inl ne6_a1)).other W36 (Or.inl ne3_a1)).other W40 (Or.inl ne6_a1)).ext E41).other W46 (Or.inr (slot_ne (Or.inr (hw _ (List.mem_of_getElem? (i := 22) rfl))) (Or.inr (hw _ (List.mem_of_getElem? (i := 18) rfl))) (by decide) (t := (.array .int)) (t' := (.array .int)) (by decide) (by decide)))).ext E47).other W49 (Or.inr (slot_ne (Or.inr (hw _ (List.mem_of_getElem? (i := 22) rfl))) (Or.inr (hw _ (List.mem_of_getElem? (i := 20) rfl))) (by decide) (t := (.array .int)) (t' := (.array .int)) (by decide) (by decide)))).ext E50)
        obtain ⟨T54, h54, X54, e54, W54, st54⟩ := putF X50 hx hZ hown (host := "") (Or.inl (hw _ (List.mem_of_getElem? (i := 21) rfl))) Via.refl e50 fx53 ((((fx45.wr W46).ext E47).wr W49).ext E50) (Or.inr ⟨(hw _ (List.mem_of_getElem? (i := 22) rfl)), rfl, hnm⟩) (hw _ (List.mem_of_getElem? (i := 3) rfl)) (ty := (.array .int)) (by decide) rfl rfl (g := (mkF m 68 #[.val (.ref a1), .val (.int n), .val (.int (((((0 : Int32) + (1 : Int32)) + (1 : Int32)) + (1 : Int32)) + (1 : Int32)))] [(.ref b50), (.ref a1)])) rfl rfl (hb hby d1_68)
        have Fw54 := fx53.same W54
        have N54 := Fr.snoc X54 N49 g_a1
        obtain ⟨T55, h55, k55, X55, e55, E55, A55, st55⟩ := newP X54 hx hZ (hw _ (List.mem_of_getElem? (i := 1) rfl)) e54 (g := (mkF m 73 #[.val (.ref a1), .val (.int n), .val (.int (((((0 : Int32) + (1 : Int32)) + (1 : Int32)) + (1 : Int32)) + (1 : Int32)))] [(.int n), (.ref a1)])) rfl (hb hby d1_73) rfl hn0 (cap := 4) hn4 (by decide) (by decide) (by decide)
        obtain ⟨b55, g55⟩ : ∃ z, z = h54.size := ⟨_, rfl⟩
        rw [← g55] at A55 st55
        have lt55_a1 : a1 < h54.size := Nat.lt_of_lt_of_le lt50_a1 (Nat.le_trans (Nat.le_trans (Nat.le_refl _) E50.1) (Keep.of_wr W54).1)
        have ne55_a1 : a1 ≠ b55 := Nat.ne_of_lt (Nat.lt_of_lt_of_le lt55_a1 (Nat.le_of_eq g55.symm))
        have lt55_b3 : b3 < h54.size := Nat.lt_of_lt_of_le lt50_b3 (Nat.le_trans (Nat.le_trans (Nat.le_refl _) E50.1) (Keep.of_wr W54).1)
        have ne55_b3 : b3 ≠ b55 := Nat.ne_of_lt (Nat.lt_of_lt_of_le lt55_b3 (Nat.le_of_eq g55.symm))
        have lt55_b6 : b6 < h54.size := Nat.lt_of_lt_of_le lt50_b6 (Nat.le_trans (Nat.le_trans (Nat.le_refl _) E50.1) (Keep.of_wr W54).1)
        have ne55_b6 : b6 ≠ b55 := Nat.ne_of_lt (Nat.lt_of_lt_of_le lt55_b6 (Nat.le_of_eq g55.symm))
        have lt55_b41 : b41 < h54.size := Nat.lt_of_lt_of_le lt50_b41 (Nat.le_trans (Nat.le_trans (Nat.le_refl _) E50.1) (Keep.of_wr W54).1)
        have ne55_b41 : b41 ≠ b55 := Nat.ne_of_lt (Nat.lt_of_lt_of_le lt55_b41 (Nat.le_of_eq g55.symm))
        have lt55_b47 : b47 < h54.size := Nat.lt_of_lt_of_le lt50_b47 (Nat.le_trans (Nat.le_trans (Nat.le_refl _) E50.1) (Keep.of_wr W54).1)
        have ne55_b47 : b47 ≠ b55 := Nat.ne_of_lt (Nat.lt_of_lt_of_le lt55_b47 (Nat.le_of_eq g55.symm))
        have lt55_b50 : b50 < h54.size := Nat.lt_of_lt_of_le V_b50.lt (Nat.le_trans (Nat.le_refl _) (Keep.of_wr W54).1)
        have ne55_b50 : b50 ≠ b55 := Nat.ne_of_lt (Nat.lt_of_lt_of_le lt55_b50 (Nat.le_of_eq g55.symm))
        have g_b55 : n0 ≤ b55 := Nat.le_trans (Nat.le_trans (Nat.le_trans zz51 E50.1) (Keep.of_wr W54).1) (Nat.le_of_eq g55.symm)
        have sz_b55 : h0.size ≤ b55 := Nat.le_trans (Nat.le_trans (Nat.le_trans zz52 E50.1) (Keep.of_wr W54).1) (Nat.le_of_eq g55.symm)
        have V_b55 : Arv Z h55 b55 k55 .int n [(.int (0 : Int32)), (.int (0 : Int32)), (.int (0 : Int32)), (.int (0 : Int32))] (.int (0 : Int32)) := (Arv.new A55 hn0).pad (pad_rep [] (.int (0 : Int32)) 4)
        have fx56 := ((((((((((((((((((((F_markedEnd.other W2 (Or.inr (slot_ne (Or.inr (hw _ (List.mem_of_getElem? (i := 24) rfl))) (Or.inl (hw _ (List.mem_of_getElem? (i := 12) rfl))) (by decide) (t := (.array .int)) (t' := .int) (by decide) (by decide)))).ext E3).other W5 (Or.inr (slot_ne (Or.inr (hw _ (List.mem_of_getElem? (i := 24) rfl))) (Or.inr (hw _ (List.mem_of_getElem? (i := 14) rfl))) (by decide) (t := (.array .int)) (t' := (.array .int)) (by decide) (by decide)))).ext E6).other W10 (Or.inr (slot_ne (Or.inr (hw _ (List.mem_of_getElem? (i := 24) rfl))) (Or.inr (hw _ (List.mem_of_getElem? (i := 16) rfl))) (by decide) (t := (.array .int)) (t' := (.array .int)) (by decide) (by decide)))).other W15 (Or.inl ne3_a1)).other W19 (Or.inl ne6_a1)).other W22 (Or.inl ne3_a1)).other W26 (Or.inl ne6_a1)).other W30 (Or.inl ne3_a1)).other W33 (Or.inl ne6_a1)).other W36 (Or.inl ne3_a1)).other W40 (Or.inl ne6_a1)).ext E41).other W46 (Or.inr (slot_ne (Or.inr (hw _ (List.mem_of_getElem? (i := 24) rfl))) (Or.inr (hw _ (List.mem_of_getElem? (i := 18) rfl))) (by decide) (t := (.array .int)) (t' := (.array .int)) (by decide) (by decide)))).ext E47).other W49 (Or.inr (slot_ne (Or.inr (hw _ (List.mem_of_getElem? (i := 24) rfl))) (Or.inr (hw _ (List.mem_of_getElem? (i := 20) rfl))) (by decide) (t := (.array .int)) (t' := (.array .int)) (by decide) (by decide)))).ext E50).other W54 (Or.inr (slot_ne (Or.inr (hw _ (List.mem_of_getElem? (i := 24) rfl))) (Or.inr (hw _ (List.mem_of_getElem? (i := 22) rfl))) (by decide) (t := (.array .int)) (t' := (.array .int)) (by decide) (by decide)))).ext E55)
        have fx57 := ((((((fx45.wr W46).ext E47).wr W49).ext E50).wr W54).ext E55)
        obtain ⟨T58, h58, X58, e58, W58, st58⟩ := putF X55 hx hZ hown (host := "") (Or.inl (hw _ (List.mem_of_getElem? (i := 23) rfl))) Via.refl e55 fx56 fx57 (Or.inr ⟨(hw _ (List.mem_of_getElem? (i := 24) rfl)), rfl, hnm⟩) (hw _ (List.mem_of_getElem? (i := 3) rfl)) (ty := (.array .int)) (by decide) rfl rfl (g := (mkF m 75 #[.val (.ref a1), .val (.int n), .val (.int (((((0 : Int32) + (1 : Int32)) + (1 : Int32)) + (1 : Int32)) + (1 : Int32)))] [(.ref b55), (.ref a1)])) rfl rfl (hb hby d1_75)
        have Fw58 := fx56.same W58
        have N58 := Fr.snoc X58 N54 g_a1
        have fx59 := ((Fw54.ext E55).other W58 (Or.inr (slot_ne (Or.inr (hw _ (List.mem_of_getElem? (i := 22) rfl))) (Or.inr (hw _ (List.mem_of_getElem? (i := 24) rfl))) (by decide) (t := (.array .int)) (t' := (.array .int)) (by decide) (by decide))))
        obtain ⟨T60, X60, e60, st60⟩ := getF X58 hx hZ hown (host := "") (Or.inl (hw _ (List.mem_of_getElem? (i := 21) rfl))) Via.refl e58 fx59 (g := (mkF m 79 #[.val (.ref a1), .val (.int n), .val (.int (((((0 : Int32) + (1 : Int32)) + (1 : Int32)) + (1 : Int32)) + (1 : Int32)))] [(.ref a1)])) rfl rfl (hb hby d1_79)
        have fx62 := (((V_b50.other W54 (Ne.symm ne50_a1)).ext E55).other W58 (Ne.symm ne50_a1))
        have Vo_61 := fx62
        obtain ⟨Cl_61, Ar_61, Kc_61, Sz_61, Nn_61, Hs_61, Gf_61⟩ := Vo_61
        obtain ⟨T63, h63, X63, e63, W63, st63⟩ := stI X60 hx hZ e60 Ar_61 (j := (0 : Int32)) (inb_of Sz_61 ⟨by decide, hn1⟩) (g := (mkF m 84 #[.val (.ref a1), .val (.int n), .val (.int (((((0 : Int32) + (1 : Int32)) + (1 : Int32)) + (1 : Int32)) + (1 : Int32)))] [(.int n), (.int (0 : Int32)), (.ref b50)])) rfl rfl (hb hby d1_84)
        have Vs63 : Arv Z h63 b50 k50 .int n [(.int n), (.int (0 : Int32)), (.int (0 : Int32)), (.int (0 : Int32))] (.int (0 : Int32)) := Arv.set Ar_61 Kc_61 Sz_61 Nn_61 Hs_61 Gf_61 rfl W63 0 (by decide) (Nat.le_of_ble_eq_true rfl)
        have N63 := Fr.snoc X63 N58 g_b50
        obtain ⟨T64, h64, k64, X64, e64, E64, A64, st64⟩ := newP X63 hx hZ (hw _ (List.mem_of_getElem? (i := 1) rfl)) e63 (g := (mkF m 87 #[.val (.ref a1), .val (.int n), .val (.int (((((0 : Int32) + (1 : Int32)) + (1 : Int32)) + (1 : Int32)) + (1 : Int32)))] [(.int n), (.ref a1)])) rfl (hb hby d1_87) rfl hn0 (cap := 4) hn4 (by decide) (by decide) (by decide)
        obtain ⟨b64, g64⟩ : ∃ z, z = h63.size := ⟨_, rfl⟩
        rw [← g64] at A64 st64
        have lt64_a1 : a1 < h63.size := Nat.lt_of_lt_of_le lt55_a1 (Nat.le_trans (Nat.le_trans (Nat.le_trans (Nat.le_refl _) E55.1) (Keep.of_wr W58).1) (Keep.of_wr W63).1)
        have ne64_a1 : a1 ≠ b64 := Nat.ne_of_lt (Nat.lt_of_lt_of_le lt64_a1 (Nat.le_of_eq g64.symm))
        have lt64_b3 : b3 < h63.size := Nat.lt_of_lt_of_le lt55_b3 (Nat.le_trans (Nat.le_trans (Nat.le_trans (Nat.le_refl _) E55.1) (Keep.of_wr W58).1) (Keep.of_wr W63).1)
        have ne64_b3 : b3 ≠ b64 := Nat.ne_of_lt (Nat.lt_of_lt_of_le lt64_b3 (Nat.le_of_eq g64.symm))
        have lt64_b6 : b6 < h63.size := Nat.lt_of_lt_of_le lt55_b6 (Nat.le_trans (Nat.le_trans (Nat.le_trans (Nat.le_refl _) E55.1) (Keep.of_wr W58).1) (Keep.of_wr W63).1)
        have ne64_b6 : b6 ≠ b64 := Nat.ne_of_lt (Nat.lt_of_lt_of_le lt64_b6 (Nat.le_of_eq g64.symm))
        have lt64_b41 : b41 < h63.size := Nat.lt_of_lt_of_le lt55_b41 (Nat.le_trans (Nat.le_trans (Nat.le_trans (Nat.le_refl _) E55.1) (Keep.of_wr W58).1) (Keep.of_wr W63).1)
        have ne64_b41 : b41 ≠ b64 := Nat.ne_of_lt (Nat.lt_of_lt_of_le lt64_b41 (Nat.le_of_eq g64.symm))
        have lt64_b47 : b47 < h63.size := Nat.lt_of_lt_of_le lt55_b47 (Nat.le_trans (Nat.le_trans (Nat.le_trans (Nat.le_refl _) E55.1) (Keep.of_wr W58).1) (Keep.of_wr W63).1)
        have ne64_b47 : b47 ≠ b64 := Nat.ne_of_lt (Nat.lt_of_lt_of_le lt64_b47 (Nat.le_of_eq g64.symm))
        have lt64_b50 : b50 < h63.size := Nat.lt_of_lt_of_le lt55_b50 (Nat.le_trans (Nat.le_trans (Nat.le_trans (Nat.le_refl _) E55.1) (Keep.of_wr W58).1) (Keep.of_wr W63).1)
        have ne64_b50 : b50 ≠ b64 := Nat.ne_of_lt (Nat.lt_of_lt_of_le lt64_b50 (Nat.le_of_eq g64.symm))
        have lt64_b55 : b55 < h63.size := Nat.lt_of_lt_of_le V_b55.lt (Nat.le_trans (Nat.le_trans (Nat.le_refl _) (Keep.of_wr W58).1) (Keep.of_wr W63).1)
        have ne64_b55 : b55 ≠ b64 := Nat.ne_of_lt (Nat.lt_of_lt_of_le lt64_b55 (Nat.le_of_eq g64.symm))
        have zz65 : n0 ≤ h63.size := (Nat.le_trans (Nat.le_trans (Nat.le_trans (Nat.le_trans (Nat.le_trans zz51 E50.1) (Keep.of_wr W54).1) E55.1) (Keep.of_wr W58).1) (Keep.of_wr W63).1)
        have g_b64 : n0 ≤ b64 := Nat.le_trans zz65 (Nat.le_of_eq g64.symm)
        have zz66 : h0.size ≤ h63.size := (Nat.le_trans (Nat.le_trans (Nat.le_trans (Nat.le_trans (Nat.le_trans zz52 E50.1) (Keep.of_wr W54).1) E55.1) (Keep.of_wr W58).1) (Keep.of_wr W63).1)
        have sz_b64 : h0.size ≤ b64 := Nat.le_trans zz66 (Nat.le_of_eq g64.symm)
        have V_b64 : Arv Z h64 b64 k64 .int n [(.int (0 : Int32)), (.int (0 : Int32)), (.int (0 : Int32)), (.int (0 : Int32))] (.int (0 : Int32)) := (Arv.new A64 hn0).pad (pad_rep [] (.int (0 : Int32)) 4)
        have fx67 := (((((((((((((((((((((((F_splitFrom.other W2 (Or.inr (slot_ne (Or.inr (hw _ (List.mem_of_getElem? (i := 26) rfl))) (Or.inl (hw _ (List.mem_of_getElem? (i := 12) rfl))) (by decide) (t := (.array .int)) (t' := .int) (by decide) (by decide)))).ext E3).other W5 (Or.inr (slot_ne (Or.inr (hw _ (List.mem_of_getElem? (i := 26) rfl))) (Or.inr (hw _ (List.mem_of_getElem? (i := 14) rfl))) (by decide) (t := (.array .int)) (t' := (.array .int)) (by decide) (by decide)))).ext E6).other W10 (Or.inr (slot_ne (Or.inr (hw _ (List.mem_of_getElem? (i := 26) rfl))) (Or.inr (hw _ (List.mem_of_getElem? (i := 16) rfl))) (by decide) (t := (.array .int)) (t' := (.array .int)) (by decide) (by decide)))).other W15 (Or.inl ne3_a1)).other W19 (Or.inl ne6_a1)).other W22 (Or.inl ne3_a1)).other W26 (Or.inl ne6_a1)).other W30 (Or.inl ne3_a1)).other W33 (Or.inl ne6_a1)).other W36 (Or.inl ne3_a1)).other W40 (Or.inl ne6_a1)).ext E41).other W46 (Or.inr (slot_ne (Or.inr (hw _ (List.mem_of_getElem? (i := 26) rfl))) (Or.inr (hw _ (List.mem_of_getElem? (i := 18) rfl))) (by decide) (t := (.array .int)) (t' := (.array .int)) (by decide) (by decide)))).ext E47).other W49 (Or.inr (slot_ne (Or.inr (hw _ (List.mem_of_getElem? (i := 26) rfl))) (Or.inr (hw _ (List.mem_of_getElem? (i := 20) rfl))) (by decide) (t := (.array .int)) (t' := (.array .int)) (by decide) (by decide)))).ext E50).other W54 (Or.inr (slot_ne (Or.inr (hw _ (List.mem_of_getElem? (i := 26) rfl))) (Or.inr (hw _ (List.mem_of_getElem? (i := 22) rfl))) (by decide) (t := (.array .int)) (t' := (.array .int)) (by decide) (by decide)))).ext E55).other W58 (Or.inr (slot_ne (Or.inr (hw _ (List.mem_of_getElem? (i := 26) rfl))) (Or.inr (hw _ (List.mem_of_getElem? (i := 24) rfl))) (by decide) (t := (.array .int)) (t' := (.array .int)) (by decide) (by decide)))).other W63 (Or.inl ne50_a1)).ext E64)
        obtain ⟨T68, h68, X68, e68, W68, st68⟩ := putF X64 hx hZ hown (host := "") (Or.inl (hw _ (List.mem_of_getElem? (i := 25) rfl))) Via.refl e64 fx67 (((fx57.wr W58).wr W63).ext E64) (Or.inr ⟨(hw _ (List.mem_of_getElem? (i := 26) rfl)), rfl, hnm⟩) (hw _ (List.mem_of_getElem? (i := 3) rfl)) (ty := (.array .int)) (by decide) rfl rfl (g := (mkF m 89 #[.val (.ref a1), .val (.int n), .val (.int (((((0 : Int32) + (1 : Int32)) + (1 : Int32)) + (1 : Int32)) + (1 : Int32)))] [(.ref b64), (.ref a1)])) rfl rfl (hb hby d1_89)
        have Fw68 := fx67.same W68
        have N68 := Fr.snoc X68 N63 g_a1
        obtain ⟨T69, h69, k69, X69, e69, E69, A69, st69⟩ := newP X68 hx hZ (hw _ (List.mem_of_getElem? (i := 1) rfl)) e68 (g := (mkF m 94 #[.val (.ref a1), .val (.int n), .val (.int (((((0 : Int32) + (1 : Int32)) + (1 : Int32)) + (1 : Int32)) + (1 : Int32)))] [(.int n), (.ref a1)])) rfl (hb hby d1_94) rfl hn0 (cap := 4) hn4 (by decide) (by decide) (by decide)
        obtain ⟨b69, g69⟩ : ∃ z, z = h68.size := ⟨_, rfl⟩
        rw [← g69] at A69 st69
        have lt69_a1 : a1 < h68.size := Nat.lt_of_lt_of_le lt64_a1 (Nat.le_trans (Nat.le_trans (Nat.le_refl _) E64.1) (Keep.of_wr W68).1)
        have ne69_a1 : a1 ≠ b69 := Nat.ne_of_lt (Nat.lt_of_lt_of_le lt69_a1 (Nat.le_of_eq g69.symm))
        have lt69_b3 : b3 < h68.size := Nat.lt_of_lt_of_le lt64_b3 (Nat.le_trans (Nat.le_trans (Nat.le_refl _) E64.1) (Keep.of_wr W68).1)
        have ne69_b3 : b3 ≠ b69 := Nat.ne_of_lt (Nat.lt_of_lt_of_le lt69_b3 (Nat.le_of_eq g69.symm))
        have lt69_b6 : b6 < h68.size := Nat.lt_of_lt_of_le lt64_b6 (Nat.le_trans (Nat.le_trans (Nat.le_refl _) E64.1) (Keep.of_wr W68).1)
        have ne69_b6 : b6 ≠ b69 := Nat.ne_of_lt (Nat.lt_of_lt_of_le lt69_b6 (Nat.le_of_eq g69.symm))
        have lt69_b41 : b41 < h68.size := Nat.lt_of_lt_of_le lt64_b41 (Nat.le_trans (Nat.le_trans (Nat.le_refl _) E64.1) (Keep.of_wr W68).1)
        have ne69_b41 : b41 ≠ b69 := Nat.ne_of_lt (Nat.lt_of_lt_of_le lt69_b41 (Nat.le_of_eq g69.symm))
        have lt69_b47 : b47 < h68.size := Nat.lt_of_lt_of_le lt64_b47 (Nat.le_trans (Nat.le_trans (Nat.le_refl _) E64.1) (Keep.of_wr W68).1)
        have ne69_b47 : b47 ≠ b69 := Nat.ne_of_lt (Nat.lt_of_lt_of_le lt69_b47 (Nat.le_of_eq g69.symm))
        have lt69_b50 : b50 < h68.size := Nat.lt_of_lt_of_le lt64_b50 (Nat.le_trans (Nat.le_trans (Nat.le_refl _) E64.1) (Keep.of_wr W68).1)
        have ne69_b50 : b50 ≠ b69 := Nat.ne_of_lt (Nat.lt_of_lt_of_le lt69_b50 (Nat.le_of_eq g69.symm))
        have lt69_b55 : b55 < h68.size := Nat.lt_of_lt_of_le lt64_b55 (Nat.le_trans (Nat.le_trans (Nat.le_refl _) E64.1) (Keep.of_wr W68).1)
        have ne69_b55 : b55 ≠ b69 := Nat.ne_of_lt (Nat.lt_of_lt_of_le lt69_b55 (Nat.le_of_eq g69.symm))
        have lt69_b64 : b64 < h68.size := Nat.lt_of_lt_of_le V_b64.lt (Nat.le_trans (Nat.le_refl _) (Keep.of_wr W68).1)
        have ne69_b64 : b64 ≠ b69 := Nat.ne_of_lt (Nat.lt_of_lt_of_le lt69_b64 (Nat.le_of_eq g69.symm))
        have g_b69 : n0 ≤ b69 := Nat.le_trans (Nat.le_trans (Nat.le_trans zz65 E64.1) (Keep.of_wr W68).1) (Nat.le_of_eq g69.symm)
        have sz_b69 : h0.size ≤ b69 := Nat.le_trans (Nat.le_trans (Nat.le_trans zz66 E64.1) (Keep.of_wr W68).1) (Nat.le_of_eq g69.symm)
        have V_b69 : Arv Z h69 b69 k69 .int n [(.int (0 : Int32)), (.int (0 : Int32)), (.int (0 : Int32)), (.int (0 : Int32))] (.int (0 : Int32)) := (Arv.new A69 hn0).pad (pad_rep [] (.int (0 : Int32)) 4)
        have fx70 := (((((((((((((((((((((((((F_touched.other W2 (Or.inr (slot_ne (Or.inr (hw _ (List.mem_of_getElem? (i := 28) rfl))) (Or.inl (hw _ (List.mem_of_getElem? (i := 12) rfl))) (by decide) (t := (.array .int)) (t' := .int) (by decide) (by decide)))).ext E3).other W5 (Or.inr (slot_ne (Or.inr (hw _ (List.mem_of_getElem? (i := 28) rfl))) (Or.inr (hw _ (List.mem_of_getElem? (i := 14) rfl))) (by decide) (t := (.array .int)) (t' := (.array .int)) (by decide) (by decide)))).ext E6).other W10 (Or.inr (slot_ne (Or.inr (hw _ (List.mem_of_getElem? (i := 28) rfl))) (Or.inr (hw _ (List.mem_of_getElem? (i := 16) rfl))) (by decide) (t := (.array .int)) (t' := (.array .int)) (by decide) (by decide)))).other W15 (Or.inl ne3_a1)).other W19 (Or.inl ne6_a1)).other W22 (Or.inl ne3_a1)).other W26 (Or.inl ne6_a1)).other W30 (Or.inl ne3_a1)).other W33 (Or.inl ne6_a1)).other W36 (Or.inl ne3_a1)).other W40 (Or.inl ne6_a1)).ext E41).other W46 (Or.inr (slot_ne (Or.inr (hw _ (List.mem_of_getElem? (i := 28) rfl))) (Or.inr (hw _ (List.mem_of_getElem? (i := 18) rfl))) (by decide) (t := (.array .int)) (t' := (.array .int)) (by decide) (by decide)))).ext E47).other W49 (Or.inr (slot_ne (Or.inr (hw _ (List.mem_of_getElem? (i := 28) rfl))) (Or.inr (hw _ (List.mem_of_getElem? (i := 20) rfl))) (by decide) (t := (.array .int)) (t' := (.array .int)) (by decide) (by decide)))).ext E50).other W54 (Or.inr (slot_ne (Or.inr (hw _ (List.mem_of_getElem? (i := 28) rfl))) (Or.inr (hw _ (List.mem_of_getElem? (i := 22) rfl))) (by decide) (t := (.array .int)) (t' := (.array .int)) (by decide) (by decide)))).ext E55).other W58 (Or.inr (slot_ne (Or.inr (hw _ (List.mem_of_getElem? (i := 28) rfl))) (Or.inr (hw _ (List.mem_of_getElem? (i := 24) rfl))) (by decide) (t := (.array .int)) (t' := (.array .int)) (by decide) (by decide)))).other W63 (Or.inl ne50_a1)).ext E64).other W68 (Or.inr (slot_ne (Or.inr (hw _ (List.mem_of_getElem? (i := 28) rfl))) (Or.inr (hw _ (List.mem_of_getElem? (i := 26) rfl))) (by decide) (t := (.array .int)) (t' := (.array .int)) (by decide) (by decide)))).ext E69)
        obtain ⟨T71, h71, X71, e71, W71, st71⟩ := putF X69 hx hZ hown (host := "") (Or.inl (hw _ (List.mem_of_getElem? (i := 27) rfl))) Via.refl e69 fx70 (((((fx57.wr W58).wr W63).ext E64).wr W68).ext E69) (Or.inr ⟨(hw _ (List.mem_of_getElem? (i := 28) rfl)), rfl, hnm⟩) (hw _ (List.mem_of_getElem? (i := 3) rfl)) (ty := (.array .int)) (by decide) rfl rfl (g := (mkF m 96 #[.val (.ref a1), .val (.int n), .val (.int (((((0 : Int32) + (1 : Int32)) + (1 : Int32)) + (1 : Int32)) + (1 : Int32)))] [(.ref b69), (.ref a1)])) rfl rfl (hb hby d1_96)
        have Fw71 := fx70.same W71
        have N71 := Fr.snoc X71 N68 g_a1
        have hE := own_E4 hc27_2 hc27_3 hc27_4
        have fx72 := (((((((((((((((((fx27.other W30 (Or.inl ne3_a1)).other W33 (Or.inl ne6_a1)).other W36 (Or.inl ne3_a1)).other W40 (Or.inl ne6_a1)).ext E41).other W46 (Or.inr (slot_ne (Or.inr (hw _ (List.mem_of_getElem? (i := 14) rfl))) (Or.inr (hw _ (List.mem_of_getElem? (i := 18) rfl))) (by decide) (t := (.array .int)) (t' := (.array .int)) (by decide) (by decide)))).ext E47).other W49 (Or.inr (slot_ne (Or.inr (hw _ (List.mem_of_getElem? (i := 14) rfl))) (Or.inr (hw _ (List.mem_of_getElem? (i := 20) rfl))) (by decide) (t := (.array .int)) (t' := (.array .int)) (by decide) (by decide)))).ext E50).other W54 (Or.inr (slot_ne (Or.inr (hw _ (List.mem_of_getElem? (i := 14) rfl))) (Or.inr (hw _ (List.mem_of_getElem? (i := 22) rfl))) (by decide) (t := (.array .int)) (t' := (.array .int)) (by decide) (by decide)))).ext E55).other W58 (Or.inr (slot_ne (Or.inr (hw _ (List.mem_of_getElem? (i := 14) rfl))) (Or.inr (hw _ (List.mem_of_getElem? (i := 24) rfl))) (by decide) (t := (.array .int)) (t' := (.array .int)) (by decide) (by decide)))).other W63 (Or.inl ne50_a1)).ext E64).other W68 (Or.inr (slot_ne (Or.inr (hw _ (List.mem_of_getElem? (i := 14) rfl))) (Or.inr (hw _ (List.mem_of_getElem? (i := 26) rfl))) (by decide) (t := (.array .int)) (t' := (.array .int)) (by decide) (by decide)))).ext E69).other W71 (Or.inr (slot_ne (Or.inr (hw _ (List.mem_of_getElem? (i := 14) rfl))) (Or.inr (hw _ (List.mem_of_getElem? (i := 28) rfl))) (by decide) (t := (.array .int)) (t' := (.array .int)) (by decide) (by decide))))
        have fx73 := ((((((((((((((fx37.other W40 (Or.inl ne6_a1)).ext E41).other W46 (Or.inr (slot_ne (Or.inr (hw _ (List.mem_of_getElem? (i := 16) rfl))) (Or.inr (hw _ (List.mem_of_getElem? (i := 18) rfl))) (by decide) (t := (.array .int)) (t' := (.array .int)) (by decide) (by decide)))).ext E47).other W49 (Or.inr (slot_ne (Or.inr (hw _ (List.mem_of_getElem? (i := 16) rfl))) (Or.inr (hw _ (List.mem_of_getElem? (i := 20) rfl))) (by decide) (t := (.array .int)) (t' := (.array .int)) (by decide) (by decide)))).ext E50).other W54 (Or.inr (slot_ne (Or.inr (hw _ (List.mem_of_getElem? (i := 16) rfl))) (Or.inr (hw _ (List.mem_of_getElem? (i := 22) rfl))) (by decide) (t := (.array .int)) (t' := (.array .int)) (by decide) (by decide)))).ext E55).other W58 (Or.inr (slot_ne (Or.inr (hw _ (List.mem_of_getElem? (i := 16) rfl))) (Or.inr (hw _ (List.mem_of_getElem? (i := 24) rfl))) (by decide) (t := (.array .int)) (t' := (.array .int)) (by decide) (by decide)))).other W63 (Or.inl ne50_a1)).ext E64).other W68 (Or.inr (slot_ne (Or.inr (hw _ (List.mem_of_getElem? (i := 16) rfl))) (Or.inr (hw _ (List.mem_of_getElem? (i := 26) rfl))) (by decide) (t := (.array .int)) (t' := (.array .int)) (by decide) (by decide)))).ext E69).other W71 (Or.inr (slot_ne (Or.inr (hw _ (List.mem_of_getElem? (i := 16) rfl))) (Or.inr (hw _ (List.mem_of_getElem? (i := 28) rfl))) (by decide) (t := (.array .int)) (t' := (.array .int)) (by decide) (by decide))))
        have fx74 := (((((((((((Fw46.ext E47).other W49 (Or.inr (slot_ne (Or.inr (hw _ (List.mem_of_getElem? (i := 18) rfl))) (Or.inr (hw _ (List.mem_of_getElem? (i := 20) rfl))) (by decide) (t := (.array .int)) (t' := (.array .int)) (by decide) (by decide)))).ext E50).other W54 (Or.inr (slot_ne (Or.inr (hw _ (List.mem_of_getElem? (i := 18) rfl))) (Or.inr (hw _ (List.mem_of_getElem? (i := 22) rfl))) (by decide) (t := (.array .int)) (t' := (.array .int)) (by decide) (by decide)))).ext E55).other W58 (Or.inr (slot_ne (Or.inr (hw _ (List.mem_of_getElem? (i := 18) rfl))) (Or.inr (hw _ (List.mem_of_getElem? (i := 24) rfl))) (by decide) (t := (.array .int)) (t' := (.array .int)) (by decide) (by decide)))).other W63 (Or.inl ne50_a1)).ext E64).other W68 (Or.inr (slot_ne (Or.inr (hw _ (List.mem_of_getElem? (i := 18) rfl))) (Or.inr (hw _ (List.mem_of_getElem? (i := 26) rfl))) (by decide) (t := (.array .int)) (t' := (.array .int)) (by decide) (by decide)))).ext E69).other W71 (Or.inr (slot_ne (Or.inr (hw _ (List.mem_of_getElem? (i := 18) rfl))) (Or.inr (hw _ (List.mem_of_getElem? (i := 28) rfl))) (by decide) (t := (.array .int)) (t' := (.array .int)) (by decide) (by decide))))
        have fx75 := (((((((((Fw49.ext E50).other W54 (Or.inr (slot_ne (Or.inr (hw _ (List.mem_of_getElem? (i := 20) rfl))) (Or.inr (hw _ (List.mem_of_getElem? (i := 22) rfl))) (by decide) (t := (.array .int)) (t' := (.array .int)) (by decide) (by decide)))).ext E55).other W58 (Or.inr (slot_ne (Or.inr (hw _ (List.mem_of_getElem? (i := 20) rfl))) (Or.inr (hw _ (List.mem_of_getElem? (i := 24) rfl))) (by decide) (t := (.array .int)) (t' := (.array .int)) (by decide) (by decide)))).other W63 (Or.inl ne50_a1)).ext E64).other W68 (Or.inr (slot_ne (Or.inr (hw _ (List.mem_of_getElem? (i := 20) rfl))) (Or.inr (hw _ (List.mem_of_getElem? (i := 26) rfl))) (by decide) (t := (.array .int)) (t' := (.array .int)) (by decide) (by decide)))).ext E69).other W71 (Or.inr (slot_ne (Or.inr (hw _ (List.mem_of_getElem? (i := 20) rfl))) (Or.inr (hw _ (List.mem_of_getElem? (i := 28) rfl))) (by decide) (t := (.array .int)) (t' := (.array .int)) (by decide) (by decide))))
        have fx76 := (((((fx59.other W63 (Or.inl ne50_a1)).ext E64).other W68 (Or.inr (slot_ne (Or.inr (hw _ (List.mem_of_getElem? (i := 22) rfl))) (Or.inr (hw _ (List.mem_of_getElem? (i := 26) rfl))) (by decide) (t := (.array .int)) (t' := (.array .int)) (by decide) (by decide)))).ext E69).other W71 (Or.inr (slot_ne (Or.inr (hw _ (List.mem_of_getElem? (i := 22) rfl))) (Or.inr (hw _ (List.mem_of_getElem? (i := 28) rfl))) (by decide) (t := (.array .int)) (t' := (.array .int)) (by decide) (by decide))))
        have fx77 := (((((Fw58.other W63 (Or.inl ne50_a1)).ext E64).other W68 (Or.inr (slot_ne (Or.inr (hw _ (List.mem_of_getElem? (i := 24) rfl))) (Or.inr (hw _ (List.mem_of_getElem? (i := 26) rfl))) (by decide) (t := (.array .int)) (t' := (.array .int)) (by decide) (by decide)))).ext E69).other W71 (Or.inr (slot_ne (Or.inr (hw _ (List.mem_of_getElem? (i := 24) rfl))) (Or.inr (hw _ (List.mem_of_getElem? (i := 28) rfl))) (by decide) (t := (.array .int)) (t' := (.array .int)) (by decide) (by decide))))
        have fx78 := ((Fw68.ext E69).other W71 (Or.inr (slot_ne (Or.inr (hw _ (List.mem_of_getElem? (i := 26) rfl))) (Or.inr (hw _ (List.mem_of_getElem? (i := 28) rfl))) (by decide) (t := (.array .int)) (t' := (.array .int)) (by decide) (by decide))))
        have fx79 := (((((((((((((((((((((((((Fw2.ext E3).other W5 (Or.inr (slot_ne (Or.inl (hw _ (List.mem_of_getElem? (i := 12) rfl))) (Or.inr (hw _ (List.mem_of_getElem? (i := 14) rfl))) (by decide) (t := .int) (t' := (.array .int)) (by decide) (by decide)))).ext E6).other W10 (Or.inr (slot_ne (Or.inl (hw _ (List.mem_of_getElem? (i := 12) rfl))) (Or.inr (hw _ (List.mem_of_getElem? (i := 16) rfl))) (by decide) (t := .int) (t' := (.array .int)) (by decide) (by decide)))).other W15 (Or.inl ne3_a1)).other W19 (Or.inl ne6_a1)).other W22 (Or.inl ne3_a1)).other W26 (Or.inl ne6_a1)).other W30 (Or.inl ne3_a1)).other W33 (Or.inl ne6_a1)).other W36 (Or.inl ne3_a1)).other W40 (Or.inl ne6_a1)).ext E41).other W46 (Or.inr (slot_ne (Or.inl (hw _ (List.mem_of_getElem? (i := 12) rfl))) (Or.inr (hw _ (List.mem_of_getElem? (i := 18) rfl))) (by decide) (t := .int) (t' := (.array .int)) (by decide) (by decide)))).ext E47).other W49 (Or.inr (slot_ne (Or.inl (hw _ (List.mem_of_getElem? (i := 12) rfl))) (Or.inr (hw _ (List.mem_of_getElem? (i := 20) rfl))) (by decide) (t := .int) (t' := (.array .int)) (by decide) (by decide)))).ext E50).other W54 (Or.inr (slot_ne (Or.inl (hw _ (List.mem_of_getElem? (i := 12) rfl))) (Or.inr (hw _ (List.mem_of_getElem? (i := 22) rfl))) (by decide) (t := .int) (t' := (.array .int)) (by decide) (by decide)))).ext E55).other W58 (Or.inr (slot_ne (Or.inl (hw _ (List.mem_of_getElem? (i := 12) rfl))) (Or.inr (hw _ (List.mem_of_getElem? (i := 24) rfl))) (by decide) (t := .int) (t' := (.array .int)) (by decide) (by decide)))).other W63 (Or.inl ne50_a1)).ext E64).other W68 (Or.inr (slot_ne (Or.inl (hw _ (List.mem_of_getElem? (i := 12) rfl))) (Or.inr (hw _ (List.mem_of_getElem? (i := 26) rfl))) (by decide) (t := .int) (t' := (.array .int)) (by decide) (by decide)))).ext E69).other W71 (Or.inr (slot_ne (Or.inl (hw _ (List.mem_of_getElem? (i := 12) rfl))) (Or.inr (hw _ (List.mem_of_getElem? (i := 28) rfl))) (by decide) (t := .int) (t' := (.array .int)) (by decide) (by decide))))
        have fx80 := ((((((((((((((((((((((((((F_touchedCount.other W2 (Or.inr (slot_ne (Or.inl (hw _ (List.mem_of_getElem? (i := 35) rfl))) (Or.inl (hw _ (List.mem_of_getElem? (i := 12) rfl))) (by decide) (t := .int) (t' := .int) (by decide) (by decide)))).ext E3).other W5 (Or.inr (slot_ne (Or.inl (hw _ (List.mem_of_getElem? (i := 35) rfl))) (Or.inr (hw _ (List.mem_of_getElem? (i := 14) rfl))) (by decide) (t := .int) (t' := (.array .int)) (by decide) (by decide)))).ext E6).other W10 (Or.inr (slot_ne (Or.inl (hw _ (List.mem_of_getElem? (i := 35) rfl))) (Or.inr (hw _ (List.mem_of_getElem? (i := 16) rfl))) (by decide) (t := .int) (t' := (.array .int)) (by decide) (by decide)))).other W15 (Or.inl ne3_a1)).other W19 (Or.inl ne6_a1)).other W22 (Or.inl ne3_a1)).other W26 (Or.inl ne6_a1)).other W30 (Or.inl ne3_a1)).other W33 (Or.inl ne6_a1)).other W36 (Or.inl ne3_a1)).other W40 (Or.inl ne6_a1)).ext E41).other W46 (Or.inr (slot_ne (Or.inl (hw _ (List.mem_of_getElem? (i := 35) rfl))) (Or.inr (hw _ (List.mem_of_getElem? (i := 18) rfl))) (by decide) (t := .int) (t' := (.array .int)) (by decide) (by decide)))).ext E47).other W49 (Or.inr (slot_ne (Or.inl (hw _ (List.mem_of_getElem? (i := 35) rfl))) (Or.inr (hw _ (List.mem_of_getElem? (i := 20) rfl))) (by decide) (t := .int) (t' := (.array .int)) (by decide) (by decide)))).ext E50).other W54 (Or.inr (slot_ne (Or.inl (hw _ (List.mem_of_getElem? (i := 35) rfl))) (Or.inr (hw _ (List.mem_of_getElem? (i := 22) rfl))) (by decide) (t := .int) (t' := (.array .int)) (by decide) (by decide)))).ext E55).other W58 (Or.inr (slot_ne (Or.inl (hw _ (List.mem_of_getElem? (i := 35) rfl))) (Or.inr (hw _ (List.mem_of_getElem? (i := 24) rfl))) (by decide) (t := .int) (t' := (.array .int)) (by decide) (by decide)))).other W63 (Or.inl ne50_a1)).ext E64).other W68 (Or.inr (slot_ne (Or.inl (hw _ (List.mem_of_getElem? (i := 35) rfl))) (Or.inr (hw _ (List.mem_of_getElem? (i := 26) rfl))) (by decide) (t := .int) (t' := (.array .int)) (by decide) (by decide)))).ext E69).other W71 (Or.inr (slot_ne (Or.inl (hw _ (List.mem_of_getElem? (i := 35) rfl))) (Or.inr (hw _ (List.mem_of_getElem? (i := 28) rfl))) (by decide) (t := .int) (t' := (.array .int)) (by decide) (by decide))))
        have fx81 := ((((((((((((((Vs36.other W40 ne6_b3).ext E41).other W46 (Ne.symm ne3_a1)).ext E47).other W49 (Ne.symm ne3_a1)).ext E50).other W54 (Ne.symm ne3_a1)).ext E55).other W58 (Ne.symm ne3_a1)).other W63 ne50_b3).ext E64).other W68 (Ne.symm ne3_a1)).ext E69).other W71 (Ne.symm ne3_a1))
        have fx82 := (((((((((((((Vs40.ext E41).other W46 (Ne.symm ne6_a1)).ext E47).other W49 (Ne.symm ne6_a1)).ext E50).other W54 (Ne.symm ne6_a1)).ext E55).other W58 (Ne.symm ne6_a1)).other W63 ne50_b6).ext E64).other W68 (Ne.symm ne6_a1)).ext E69).other W71 (Ne.symm ne6_a1))
        have fx83 := ((((((((((((V_b41.other W46 (Ne.symm ne41_a1)).ext E47).other W49 (Ne.symm ne41_a1)).ext E50).other W54 (Ne.symm ne41_a1)).ext E55).other W58 (Ne.symm ne41_a1)).other W63 ne50_b41).ext E64).other W68 (Ne.symm ne41_a1)).ext E69).other W71 (Ne.symm ne41_a1))
        have fx84 := ((((((((((V_b47.other W49 (Ne.symm ne47_a1)).ext E50).other W54 (Ne.symm ne47_a1)).ext E55).other W58 (Ne.symm ne47_a1)).other W63 ne50_b47).ext E64).other W68 (Ne.symm ne47_a1)).ext E69).other W71 (Ne.symm ne47_a1))
        have fx85 := ((((Vs63.ext E64).other W68 (Ne.symm ne50_a1)).ext E69).other W71 (Ne.symm ne50_a1))
        have fx86 := ((((((V_b55.other W58 (Ne.symm ne55_a1)).other W63 (Ne.symm ne55_b50)).ext E64).other W68 (Ne.symm ne55_a1)).ext E69).other W71 (Ne.symm ne55_a1))
        have fx87 := (((V_b64.other W68 (Ne.symm ne64_a1)).ext E69).other W71 (Ne.symm ne64_a1))
        obtain ⟨fs, hr, hrun, hended, hW, hsame⟩ := X71.leave (v := none) (fun _ => rfl)
        refine ⟨_, _, pre0 _ ?_, hrun, hended, _, _, rfl, ?_, ⟨_, rfl⟩, hW, hsame.mono (by decide) (by decide)⟩
        · show Steps p.tables e below (s₁.setTop (mkF m 0 #[.val (.ref a1), .val (.int n), .unset] [])) _
          refine XS.aloadN X0.here hx rfl (hb hby d1_0) rfl rfl ?_
          show Steps p.tables e below (s₁.setTop (mkF m 1 #[.val (.ref a1), .val (.int n), .unset] [(.ref a1)])) _
          refine st1 _ ?_
          show Steps p.tables e below (T1.setTop (mkF m 4 #[.val (.ref a1), .val (.int n), .unset] [])) _
          refine XS.aloadN X1.here hx rfl (hb hby d1_4) rfl rfl ?_
          show Steps p.tables e below (T1.setTop (mkF m 5 #[.val (.ref a1), .val (.int n), .unset] [(.ref a1)])) _
          refine XS.iconst X1.here hx rfl (hb hby d1_5) ?_
          show Steps p.tables e below (T1.setTop (mkF m 6 #[.val (.ref a1), .val (.int n), .unset] [(.int (1 : Int32)), (.ref a1)])) _
          refine st2 _ ?_
          show Steps p.tables e below (T2.setTop (mkF m 9 #[.val (.ref a1), .val (.int n), .unset] [])) _
          refine XS.aloadN X2.here hx rfl (hb hby d1_9) rfl rfl ?_
          show Steps p.tables e below (T2.setTop (mkF m 10 #[.val (.ref a1), .val (.int n), .unset] [(.ref a1)])) _
          refine XS.iloadN X2.here hx rfl (hb hby d1_10) rfl ?_
          show Steps p.tables e below (T2.setTop (mkF m 11 #[.val (.ref a1), .val (.int n), .unset] [(.int n), (.ref a1)])) _
          refine st3 _ ?_
          show Steps p.tables e below (T3.setTop (mkF m 13 #[.val (.ref a1), .val (.int n), .unset] [(.ref b3), (.ref a1)])) _
          refine st5 _ ?_
          show Steps p.tables e below (T5.setTop (mkF m 16 #[.val (.ref a1), .val (.int n), .unset] [])) _
          refine XS.aloadN X5.here hx rfl (hb hby d1_16) rfl rfl ?_
          show Steps p.tables e below (T5.setTop (mkF m 17 #[.val (.ref a1), .val (.int n), .unset] [(.ref a1)])) _
          refine XS.iloadN X5.here hx rfl (hb hby d1_17) rfl ?_
          show Steps p.tables e below (T5.setTop (mkF m 18 #[.val (.ref a1), .val (.int n), .unset] [(.int n), (.ref a1)])) _
          refine st6 _ ?_
          show Steps p.tables e below (T6.setTop (mkF m 20 #[.val (.ref a1), .val (.int n), .unset] [(.ref b6), (.ref a1)])) _
          refine st10 _ ?_
          show Steps p.tables e below (T10.setTop (mkF m 23 #[.val (.ref a1), .val (.int n), .unset] [])) _
          refine XS.iconst X10.here hx rfl (hb hby d1_23) ?_
          show Steps p.tables e below (T10.setTop (mkF m 24 #[.val (.ref a1), .val (.int n), .unset] [(.int (0 : Int32))])) _
          refine XS.istoreN X10.here hx rfl (hb hby d1_24) rfl (l' := #[.val (.ref a1), .val (.int n), .val (.int (0 : Int32))]) rfl ?_
          show Steps p.tables e below (T10.setTop (mkF m 25 #[.val (.ref a1), .val (.int n), .val (.int (0 : Int32))] [])) _
          refine XS.iloadN X10.here hx rfl (hb hby d1_25) rfl ?_
          show Steps p.tables e below (T10.setTop (mkF m 26 #[.val (.ref a1), .val (.int n), .val (.int (0 : Int32))] [(.int (0 : Int32))])) _
          refine XS.iloadN X10.here hx rfl (hb hby d1_26) rfl ?_
          show Steps p.tables e below (T10.setTop (mkF m 27 #[.val (.ref a1), .val (.int n), .val (.int (0 : Int32))] [(.int n), (.int (0 : Int32))])) _
          refine XS.icmpNo X10.here hx rfl (hb hby d1_27) rfl (tlt hn1).2.1 ?_
          show Steps p.tables e below (T10.setTop (mkF m 30 #[.val (.ref a1), .val (.int n), .val (.int (0 : Int32))] [])) _
          refine XS.aloadN X10.here hx rfl (hb hby d1_30) rfl rfl ?_
          show Steps p.tables e below (T10.setTop (mkF m 31 #[.val (.ref a1), .val (.int n), .val (.int (0 : Int32))] [(.ref a1)])) _
          refine st12 _ ?_
          show Steps p.tables e below (T12.setTop (mkF m 34 #[.val (.ref a1), .val (.int n), .val (.int (0 : Int32))] [(.ref b3)])) _
          refine XS.iloadN X12.here hx rfl (hb hby d1_34) rfl ?_
          show Steps p.tables e below (T12.setTop (mkF m 35 #[.val (.ref a1), .val (.int n), .val (.int (0 : Int32))] [(.int (0 : Int32)), (.ref b3)])) _
          refine XS.iloadN X12.here hx rfl (hb hby d1_35) rfl ?_
          show Steps p.tables e below (T12.setTop (mkF m 36 #[.val (.ref a1), .val (.int n), .val (.int (0 : Int32))] [(.int (0 : Int32)), (.int (0 : Int32)), (.ref b3)])) _
          refine st15 _ ?_
          show Steps p.tables e below (T15.setTop (mkF m 37 #[.val (.ref a1), .val (.int n), .val (.int (0 : Int32))] [])) _
          refine XS.aloadN X15.here hx rfl (hb hby d1_37) rfl rfl ?_
          show Steps p.tables e below (T15.setTop (mkF m 38 #[.val (.ref a1), .val (.int n), .val (.int (0 : Int32))] [(.ref a1)])) _
          refine st16 _ ?_
          show Steps p.tables e below (T16.setTop (mkF m 41 #[.val (.ref a1), .val (.int n), .val (.int (0 : Int32))] [(.ref b6)])) _
          refine XS.iloadN X16.here hx rfl (hb hby d1_41) rfl ?_
          show Steps p.tables e below (T16.setTop (mkF m 42 #[.val (.ref a1), .val (.int n), .val (.int (0 : Int32))] [(.int (0 : Int32)), (.ref b6)])) _
          refine XS.iloadN X16.here hx rfl (hb hby d1_42) rfl ?_
          show Steps p.tables e below (T16.setTop (mkF m 43 #[.val (.ref a1), .val (.int n), .val (.int (0 : Int32))] [(.int (0 : Int32)), (.int (0 : Int32)), (.ref b6)])) _
          refine st19 _ ?_
          show Steps p.tables e below (T19.setTop (mkF m 44 #[.val (.ref a1), .val (.int n), .val (.int (0 : Int32))] [])) _
          refine XS.iinc X19.here hx rfl (hb hby d1_44) rfl (l' := #[.val (.ref a1), .val (.int n), .val (.int ((0 : Int32) + (1 : Int32)))]) rfl ?_
          show Steps p.tables e below (T19.setTop (mkF m 47 #[.val (.ref a1), .val (.int n), .val (.int ((0 : Int32) + (1 : Int32)))] [])) _
          refine XS.goto X19.here hx rfl (pc0 := 47) (pc' := 25) rfl (hb hby d1_47) (by decide) (by decide) ?_
          show Steps p.tables e below (T19.setTop (mkF m 25 #[.val (.ref a1), .val (.int n), .val (.int ((0 : Int32) + (1 : Int32)))] [])) _
          refine XS.iloadN X19.here hx rfl (hb hby d1_25) rfl ?_
          show Steps p.tables e below (T19.setTop (mkF m 26 #[.val (.ref a1), .val (.int n), .val (.int ((0 : Int32) + (1 : Int32)))] [(.int ((0 : Int32) + (1 : Int32)))])) _
          refine XS.iloadN X19.here hx rfl (hb hby d1_26) rfl ?_
          show Steps p.tables e below (T19.setTop (mkF m 27 #[.val (.ref a1), .val (.int n), .val (.int ((0 : Int32) + (1 : Int32)))] [(.int n), (.int ((0 : Int32) + (1 : Int32)))])) _
          refine XS.icmpNo X19.here hx rfl (hb hby d1_27) rfl (tlt hc27_2).2.1 ?_
          show Steps p.tables e below (T19.setTop (mkF m 30 #[.val (.ref a1), .val (.int n), .val (.int ((0 : Int32) + (1 : Int32)))] [])) _
          refine XS.aloadN X19.here hx rfl (hb hby d1_30) rfl rfl ?_
          show Steps p.tables e below (T19.setTop (mkF m 31 #[.val (.ref a1), .val (.int n), .val (.int ((0 : Int32) + (1 : Int32)))] [(.ref a1)])) _
          refine st20 _ ?_
          show Steps p.tables e below (T20.setTop (mkF m 34 #[.val (.ref a1), .val (.int n), .val (.int ((0 : Int32) + (1 : Int32)))] [(.ref b3)])) _
          refine XS.iloadN X20.here hx rfl (hb hby d1_34) rfl ?_
          show Steps p.tables e below (T20.setTop (mkF m 35 #[.val (.ref a1), .val (.int n), .val (.int ((0 : Int32) + (1 : Int32)))] [(.int ((0 : Int32) + (1 : Int32))), (.ref b3)])) _
          refine XS.iloadN X20.here hx rfl (hb hby d1_35) rfl ?_
          show Steps p.tables e below (T20.setTop (mkF m 36 #[.val (.ref a1), .val (.int n), .val (.int ((0 : Int32) + (1 : Int32)))] [(.int ((0 : Int32) + (1 : Int32))), (.int ((0 : Int32) + (1 : Int32))), (.ref b3)])) _
          refine st22 _ ?_
          show Steps p.tables e below (T22.setTop (mkF m 37 #[.val (.ref a1), .val (.int n), .val (.int ((0 : Int32) + (1 : Int32)))] [])) _
          refine XS.aloadN X22.here hx rfl (hb hby d1_37) rfl rfl ?_
          show Steps p.tables e below (T22.setTop (mkF m 38 #[.val (.ref a1), .val (.int n), .val (.int ((0 : Int32) + (1 : Int32)))] [(.ref a1)])) _
          refine st24 _ ?_
          show Steps p.tables e below (T24.setTop (mkF m 41 #[.val (.ref a1), .val (.int n), .val (.int ((0 : Int32) + (1 : Int32)))] [(.ref b6)])) _
          refine XS.iloadN X24.here hx rfl (hb hby d1_41) rfl ?_
          show Steps p.tables e below (T24.setTop (mkF m 42 #[.val (.ref a1), .val (.int n), .val (.int ((0 : Int32) + (1 : Int32)))] [(.int ((0 : Int32) + (1 : Int32))), (.ref b6)])) _
          refine XS.iloadN X24.here hx rfl (hb hby d1_42) rfl ?_
          show Steps p.tables e below (T24.setTop (mkF m 43 #[.val (.ref a1), .val (.int n), .val (.int ((0 : Int32) + (1 : Int32)))] [(.int ((0 : Int32) + (1 : Int32))), (.int ((0 : Int32) + (1 : Int32))), (.ref b6)])) _
          refine st26 _ ?_
          show Steps p.tables e below (T26.setTop (mkF m 44 #[.val (.ref a1), .val (.int n), .val (.int ((0 : Int32) + (1 : Int32)))] [])) _
          refine XS.iinc X26.here hx rfl (hb hby d1_44) rfl (l' := #[.val (.ref a1), .val (.int n), .val (.int (((0 : Int32) + (1 : Int32)) + (1 : Int32)))]) rfl ?_
          show Steps p.tables e below (T26.setTop (mkF m 47 #[.val (.ref a1), .val (.int n), .val (.int (((0 : Int32) + (1 : Int32)) + (1 : Int32)))] [])) _
          refine XS.goto X26.here hx rfl (pc0 := 47) (pc' := 25) rfl (hb hby d1_47) (by decide) (by decide) ?_
          show Steps p.tables e below (T26.setTop (mkF m 25 #[.val (.ref a1), .val (.int n), .val (.int (((0 : Int32) + (1 : Int32)) + (1 : Int32)))] [])) _
          refine XS.iloadN X26.here hx rfl (hb hby d1_25) rfl ?_
          show Steps p.tables e below (T26.setTop (mkF m 26 #[.val (.ref a1), .val (.int n), .val (.int (((0 : Int32) + (1 : Int32)) + (1 : Int32)))] [(.int (((0 : Int32) + (1 : Int32)) + (1 : Int32)))])) _
          refine XS.iloadN X26.here hx rfl (hb hby d1_26) rfl ?_
          show Steps p.tables e below (T26.setTop (mkF m 27 #[.val (.ref a1), .val (.int n), .val (.int (((0 : Int32) + (1 : Int32)) + (1 : Int32)))] [(.int n), (.int (((0 : Int32) + (1 : Int32)) + (1 : Int32)))])) _
          refine XS.icmpNo X26.here hx rfl (hb hby d1_27) rfl (tlt hc27_3).2.1 ?_
          show Steps p.tables e below (T26.setTop (mkF m 30 #[.val (.ref a1), .val (.int n), .val (.int (((0 : Int32) + (1 : Int32)) + (1 : Int32)))] [])) _
          refine XS.aloadN X26.here hx rfl (hb hby d1_30) rfl rfl ?_
          show Steps p.tables e below (T26.setTop (mkF m 31 #[.val (.ref a1), .val (.int n), .val (.int (((0 : Int32) + (1 : Int32)) + (1 : Int32)))] [(.ref a1)])) _
          refine st28 _ ?_
          show Steps p.tables e below (T28.setTop (mkF m 34 #[.val (.ref a1), .val (.int n), .val (.int (((0 : Int32) + (1 : Int32)) + (1 : Int32)))] [(.ref b3)])) _
          refine XS.iloadN X28.here hx rfl (hb hby d1_34) rfl ?_
          show Steps p.tables e below (T28.setTop (mkF m 35 #[.val (.ref a1), .val (.int n), .val (.int (((0 : Int32) + (1 : Int32)) + (1 : Int32)))] [(.int (((0 : Int32) + (1 : Int32)) + (1 : Int32))), (.ref b3)])) _
          refine XS.iloadN X28.here hx rfl (hb hby d1_35) rfl ?_
          show Steps p.tables e below (T28.setTop (mkF m 36 #[.val (.ref a1), .val (.int n), .val (.int (((0 : Int32) + (1 : Int32)) + (1 : Int32)))] [(.int (((0 : Int32) + (1 : Int32)) + (1 : Int32))), (.int (((0 : Int32) + (1 : Int32)) + (1 : Int32))), (.ref b3)])) _
          refine st30 _ ?_
          show Steps p.tables e below (T30.setTop (mkF m 37 #[.val (.ref a1), .val (.int n), .val (.int (((0 : Int32) + (1 : Int32)) + (1 : Int32)))] [])) _
          refine XS.aloadN X30.here hx rfl (hb hby d1_37) rfl rfl ?_
          show Steps p.tables e below (T30.setTop (mkF m 38 #[.val (.ref a1), .val (.int n), .val (.int (((0 : Int32) + (1 : Int32)) + (1 : Int32)))] [(.ref a1)])) _
          refine st31 _ ?_
          show Steps p.tables e below (T31.setTop (mkF m 41 #[.val (.ref a1), .val (.int n), .val (.int (((0 : Int32) + (1 : Int32)) + (1 : Int32)))] [(.ref b6)])) _
          refine XS.iloadN X31.here hx rfl (hb hby d1_41) rfl ?_
          show Steps p.tables e below (T31.setTop (mkF m 42 #[.val (.ref a1), .val (.int n), .val (.int (((0 : Int32) + (1 : Int32)) + (1 : Int32)))] [(.int (((0 : Int32) + (1 : Int32)) + (1 : Int32))), (.ref b6)])) _
          refine XS.iloadN X31.here hx rfl (hb hby d1_42) rfl ?_
          show Steps p.tables e below (T31.setTop (mkF m 43 #[.val (.ref a1), .val (.int n), .val (.int (((0 : Int32) + (1 : Int32)) + (1 : Int32)))] [(.int (((0 : Int32) + (1 : Int32)) + (1 : Int32))), (.int (((0 : Int32) + (1 : Int32)) + (1 : Int32))), (.ref b6)])) _
          refine st33 _ ?_
          show Steps p.tables e below (T33.setTop (mkF m 44 #[.val (.ref a1), .val (.int n), .val (.int (((0 : Int32) + (1 : Int32)) + (1 : Int32)))] [])) _
          refine XS.iinc X33.here hx rfl (hb hby d1_44) rfl (l' := #[.val (.ref a1), .val (.int n), .val (.int ((((0 : Int32) + (1 : Int32)) + (1 : Int32)) + (1 : Int32)))]) rfl ?_
          show Steps p.tables e below (T33.setTop (mkF m 47 #[.val (.ref a1), .val (.int n), .val (.int ((((0 : Int32) + (1 : Int32)) + (1 : Int32)) + (1 : Int32)))] [])) _
          refine XS.goto X33.here hx rfl (pc0 := 47) (pc' := 25) rfl (hb hby d1_47) (by decide) (by decide) ?_
          show Steps p.tables e below (T33.setTop (mkF m 25 #[.val (.ref a1), .val (.int n), .val (.int ((((0 : Int32) + (1 : Int32)) + (1 : Int32)) + (1 : Int32)))] [])) _
          refine XS.iloadN X33.here hx rfl (hb hby d1_25) rfl ?_
          show Steps p.tables e below (T33.setTop (mkF m 26 #[.val (.ref a1), .val (.int n), .val (.int ((((0 : Int32) + (1 : Int32)) + (1 : Int32)) + (1 : Int32)))] [(.int ((((0 : Int32) + (1 : Int32)) + (1 : Int32)) + (1 : Int32)))])) _
          refine XS.iloadN X33.here hx rfl (hb hby d1_26) rfl ?_
          show Steps p.tables e below (T33.setTop (mkF m 27 #[.val (.ref a1), .val (.int n), .val (.int ((((0 : Int32) + (1 : Int32)) + (1 : Int32)) + (1 : Int32)))] [(.int n), (.int ((((0 : Int32) + (1 : Int32)) + (1 : Int32)) + (1 : Int32)))])) _
          refine XS.icmpNo X33.here hx rfl (hb hby d1_27) rfl (tlt hc27_4).2.1 ?_
          show Steps p.tables e below (T33.setTop (mkF m 30 #[.val (.ref a1), .val (.int n), .val (.int ((((0 : Int32) + (1 : Int32)) + (1 : Int32)) + (1 : Int32)))] [])) _
          refine XS.aloadN X33.here hx rfl (hb hby d1_30) rfl rfl ?_
          show Steps p.tables e below (T33.setTop (mkF m 31 #[.val (.ref a1), .val (.int n), .val (.int ((((0 : Int32) + (1 : Int32)) + (1 : Int32)) + (1 : Int32)))] [(.ref a1)])) _
          refine st34 _ ?_
          show Steps p.tables e below (T34.setTop (mkF m 34 #[.val (.ref a1), .val (.int n), .val (.int ((((0 : Int32) + (1 : Int32)) + (1 : Int32)) + (1 : Int32)))] [(.ref b3)])) _
          refine XS.iloadN X34.here hx rfl (hb hby d1_34) rfl ?_
          show Steps p.tables e below (T34.setTop (mkF m 35 #[.val (.ref a1), .val (.int n), .val (.int ((((0 : Int32) + (1 : Int32)) + (1 : Int32)) + (1 : Int32)))] [(.int ((((0 : Int32) + (1 : Int32)) + (1 : Int32)) + (1 : Int32))), (.ref b3)])) _
          refine XS.iloadN X34.here hx rfl (hb hby d1_35) rfl ?_
          show Steps p.tables e below (T34.setTop (mkF m 36 #[.val (.ref a1), .val (.int n), .val (.int ((((0 : Int32) + (1 : Int32)) + (1 : Int32)) + (1 : Int32)))] [(.int ((((0 : Int32) + (1 : Int32)) + (1 : Int32)) + (1 : Int32))), (.int ((((0 : Int32) + (1 : Int32)) + (1 : Int32)) + (1 : Int32))), (.ref b3)])) _
          refine st36 _ ?_
          show Steps p.tables e below (T36.setTop (mkF m 37 #[.val (.ref a1), .val (.int n), .val (.int ((((0 : Int32) + (1 : Int32)) + (1 : Int32)) + (1 : Int32)))] [])) _
          refine XS.aloadN X36.here hx rfl (hb hby d1_37) rfl rfl ?_
          show Steps p.tables e below (T36.setTop (mkF m 38 #[.val (.ref a1), .val (.int n), .val (.int ((((0 : Int32) + (1 : Int32)) + (1 : Int32)) + (1 : Int32)))] [(.ref a1)])) _
          refine st38 _ ?_
          show Steps p.tables e below (T38.setTop (mkF m 41 #[.val (.ref a1), .val (.int n), .val (.int ((((0 : Int32) + (1 : Int32)) + (1 : Int32)) + (1 : Int32)))] [(.ref b6)])) _
          refine XS.iloadN X38.here hx rfl (hb hby d1_41) rfl ?_
          show Steps p.tables e below (T38.setTop (mkF m 42 #[.val (.ref a1), .val (.int n), .val (.int ((((0 : Int32) + (1 : Int32)) + (1 : Int32)) + (1 : Int32)))] [(.int ((((0 : Int32) + (1 : Int32)) + (1 : Int32)) + (1 : Int32))), (.ref b6)])) _
          refine XS.iloadN X38.here hx rfl (hb hby d1_42) rfl ?_
          show Steps p.tables e below (T38.setTop (mkF m 43 #[.val (.ref a1), .val (.int n), .val (.int ((((0 : Int32) + (1 : Int32)) + (1 : Int32)) + (1 : Int32)))] [(.int ((((0 : Int32) + (1 : Int32)) + (1 : Int32)) + (1 : Int32))), (.int ((((0 : Int32) + (1 : Int32)) + (1 : Int32)) + (1 : Int32))), (.ref b6)])) _
          refine st40 _ ?_
          show Steps p.tables e below (T40.setTop (mkF m 44 #[.val (.ref a1), .val (.int n), .val (.int ((((0 : Int32) + (1 : Int32)) + (1 : Int32)) + (1 : Int32)))] [])) _
          refine XS.iinc X40.here hx rfl (hb hby d1_44) rfl (l' := #[.val (.ref a1), .val (.int n), .val (.int (((((0 : Int32) + (1 : Int32)) + (1 : Int32)) + (1 : Int32)) + (1 : Int32)))]) rfl ?_
          show Steps p.tables e below (T40.setTop (mkF m 47 #[.val (.ref a1), .val (.int n), .val (.int (((((0 : Int32) + (1 : Int32)) + (1 : Int32)) + (1 : Int32)) + (1 : Int32)))] [])) _
          refine XS.goto X40.here hx rfl (pc0 := 47) (pc' := 25) rfl (hb hby d1_47) (by decide) (by decide) ?_
          show Steps p.tables e below (T40.setTop (mkF m 25 #[.val (.ref a1), .val (.int n), .val (.int (((((0 : Int32) + (1 : Int32)) + (1 : Int32)) + (1 : Int32)) + (1 : Int32)))] [])) _
          refine XS.iloadN X40.here hx rfl (hb hby d1_25) rfl ?_
          show Steps p.tables e below (T40.setTop (mkF m 26 #[.val (.ref a1), .val (.int n), .val (.int (((((0 : Int32) + (1 : Int32)) + (1 : Int32)) + (1 : Int32)) + (1 : Int32)))] [(.int (((((0 : Int32) + (1 : Int32)) + (1 : Int32)) + (1 : Int32)) + (1 : Int32)))])) _
          refine XS.iloadN X40.here hx rfl (hb hby d1_26) rfl ?_
          show Steps p.tables e below (T40.setTop (mkF m 27 #[.val (.ref a1), .val (.int n), .val (.int (((((0 : Int32) + (1 : Int32)) + (1 : Int32)) + (1 : Int32)) + (1 : Int32)))] [(.int n), (.int (((((0 : Int32) + (1 : Int32)) + (1 : Int32)) + (1 : Int32)) + (1 : Int32)))])) _
          refine XS.icmpYes X40.here hx rfl (pc0 := 27) (pc' := 50) rfl (hb hby d1_27) rfl (flt (own_four hn5)).2.1 (by decide) (by decide) ?_
          show Steps p.tables e below (T40.setTop (mkF m 50 #[.val (.ref a1), .val (.int n), .val (.int (((((0 : Int32) + (1 : Int32)) + (1 : Int32)) + (1 : Int32)) + (1 : Int32)))] [])) _
          refine XS.aloadN X40.here hx rfl (hb hby d1_50) rfl rfl ?_
          show Steps p.tables e below (T40.setTop (mkF m 51 #[.val (.ref a1), .val (.int n), .val (.int (((((0 : Int32) + (1 : Int32)) + (1 : Int32)) + (1 : Int32)) + (1 : Int32)))] [(.ref a1)])) _
          refine XS.iloadN X40.here hx rfl (hb hby d1_51) rfl ?_
          show Steps p.tables e below (T40.setTop (mkF m 52 #[.val (.ref a1), .val (.int n), .val (.int (((((0 : Int32) + (1 : Int32)) + (1 : Int32)) + (1 : Int32)) + (1 : Int32)))] [(.int n), (.ref a1)])) _
          refine st41 _ ?_
          show Steps p.tables e below (T41.setTop (mkF m 54 #[.val (.ref a1), .val (.int n), .val (.int (((((0 : Int32) + (1 : Int32)) + (1 : Int32)) + (1 : Int32)) + (1 : Int32)))] [(.ref b41), (.ref a1)])) _
          refine st46 _ ?_
          show Steps p.tables e below (T46.setTop (mkF m 57 #[.val (.ref a1), .val (.int n), .val (.int (((((0 : Int32) + (1 : Int32)) + (1 : Int32)) + (1 : Int32)) + (1 : Int32)))] [])) _
          refine XS.aloadN X46.here hx rfl (hb hby d1_57) rfl rfl ?_
          show Steps p.tables e below (T46.setTop (mkF m 58 #[.val (.ref a1), .val (.int n), .val (.int (((((0 : Int32) + (1 : Int32)) + (1 : Int32)) + (1 : Int32)) + (1 : Int32)))] [(.ref a1)])) _
          refine XS.iloadN X46.here hx rfl (hb hby d1_58) rfl ?_
          show Steps p.tables e below (T46.setTop (mkF m 59 #[.val (.ref a1), .val (.int n), .val (.int (((((0 : Int32) + (1 : Int32)) + (1 : Int32)) + (1 : Int32)) + (1 : Int32)))] [(.int n), (.ref a1)])) _
          refine st47 _ ?_
          show Steps p.tables e below (T47.setTop (mkF m 61 #[.val (.ref a1), .val (.int n), .val (.int (((((0 : Int32) + (1 : Int32)) + (1 : Int32)) + (1 : Int32)) + (1 : Int32)))] [(.ref b47), (.ref a1)])) _
          refine st49 _ ?_
          show Steps p.tables e below (T49.setTop (mkF m 64 #[.val (.ref a1), .val (.int n), .val (.int (((((0 : Int32) + (1 : Int32)) + (1 : Int32)) + (1 : Int32)) + (1 : Int32)))] [])) _
          refine XS.aloadN X49.here hx rfl (hb hby d1_64) rfl rfl ?_
          show Steps p.tables e below (T49.setTop (mkF m 65 #[.val (.ref a1), .val (.int n), .val (.int (((((0 : Int32) + (1 : Int32)) + (1 : Int32)) + (1 : Int32)) + (1 : Int32)))] [(.ref a1)])) _
          refine XS.iloadN X49.here hx rfl (hb hby d1_65) rfl ?_
          show Steps p.tables e below (T49.setTop (mkF m 66 #[.val (.ref a1), .val (.int n), .val (.int (((((0 : Int32) + (1 : Int32)) + (1 : Int32)) + (1 : Int32)) + (1 : Int32)))] [(.int n), (.ref a1)])) _
          refine st50 _ ?_
          show Steps p.tables e below (T50.setTop (mkF m 68 #[.val (.ref a1), .val (.int n), .val (.int (((((0 : Int32) + (1 : Int32)) + (1 : Int32)) + (1 : Int32)) + (1 : Int32)))] [(.ref b50), (.ref a1)])) _
          refine st54 _ ?_
          show Steps p.tables e below (T54.setTop (mkF m 71 #[.val (.ref a1), .val (.int n), .val (.int (((((0 : Int32) + (1 : Int32)) + (1 : Int32)) + (1 : Int32)) + (1 : Int32)))] [])) _
          refine XS.aloadN X54.here hx rfl (hb hby d1_71) rfl rfl ?_
          show Steps p.tables e below (T54.setTop (mkF m 72 #[.val (.ref a1), .val (.int n), .val (.int (((((0 : Int32) + (1 : Int32)) + (1 : Int32)) + (1 : Int32)) + (1 : Int32)))] [(.ref a1)])) _
          refine XS.iloadN X54.here hx rfl (hb hby d1_72) rfl ?_
          show Steps p.tables e below (T54.setTop (mkF m 73 #[.val (.ref a1), .val (.int n), .val (.int (((((0 : Int32) + (1 : Int32)) + (1 : Int32)) + (1 : Int32)) + (1 : Int32)))] [(.int n), (.ref a1)])) _
          refine st55 _ ?_
          show Steps p.tables e below (T55.setTop (mkF m 75 #[.val (.ref a1), .val (.int n), .val (.int (((((0 : Int32) + (1 : Int32)) + (1 : Int32)) + (1 : Int32)) + (1 : Int32)))] [(.ref b55), (.ref a1)])) _
          refine st58 _ ?_
          show Steps p.tables e below (T58.setTop (mkF m 78 #[.val (.ref a1), .val (.int n), .val (.int (((((0 : Int32) + (1 : Int32)) + (1 : Int32)) + (1 : Int32)) + (1 : Int32)))] [])) _
          refine XS.aloadN X58.here hx rfl (hb hby d1_78) rfl rfl ?_
          show Steps p.tables e below (T58.setTop (mkF m 79 #[.val (.ref a1), .val (.int n), .val (.int (((((0 : Int32) + (1 : Int32)) + (1 : Int32)) + (1 : Int32)) + (1 : Int32)))] [(.ref a1)])) _
          refine st60 _ ?_
          show Steps p.tables e below (T60.setTop (mkF m 82 #[.val (.ref a1), .val (.int n), .val (.int (((((0 : Int32) + (1 : Int32)) + (1 : Int32)) + (1 : Int32)) + (1 : Int32)))] [(.ref b50)])) _
          refine XS.iconst X60.here hx rfl (hb hby d1_82) ?_
          show Steps p.tables e below (T60.setTop (mkF m 83 #[.val (.ref a1), .val (.int n), .val (.int (((((0 : Int32) + (1 : Int32)) + (1 : Int32)) + (1 : Int32)) + (1 : Int32)))] [(.int (0 : Int32)), (.ref b50)])) _
          refine XS.iloadN X60.here hx rfl (hb hby d1_83) rfl ?_
          show Steps p.tables e below (T60.setTop (mkF m 84 #[.val (.ref a1), .val (.int n), .val (.int (((((0 : Int32) + (1 : Int32)) + (1 : Int32)) + (1 : Int32)) + (1 : Int32)))] [(.int n), (.int (0 : Int32)), (.ref b50)])) _
          refine st63 _ ?_
          show Steps p.tables e below (T63.setTop (mkF m 85 #[.val (.ref a1), .val (.int n), .val (.int (((((0 : Int32) + (1 : Int32)) + (1 : Int32)) + (1 : Int32)) + (1 : Int32)))] [])) _
          refine XS.aloadN X63.here hx rfl (hb hby d1_85) rfl rfl ?_
          show Steps p.tables e below (T63.setTop (mkF m 86 #[.val (.ref a1), .val (.int n), .val (.int (((((0 : Int32) + (1 : Int32)) + (1 : Int32)) + (1 : Int32)) + (1 : Int32)))] [(.ref a1)])) _
          refine XS.iloadN X63.here hx rfl (hb hby d1_86) rfl ?_
          show Steps p.tables e below (T63.setTop (mkF m 87 #[.val (.ref a1), .val (.int n), .val (.int (((((0 : Int32) + (1 : Int32)) + (1 : Int32)) + (1 : Int32)) + (1 : Int32)))] [(.int n), (.ref a1)])) _
          refine st64 _ ?_
          show Steps p.tables e below (T64.setTop (mkF m 89 #[.val (.ref a1), .val (.int n), .val (.int (((((0 : Int32) + (1 : Int32)) + (1 : Int32)) + (1 : Int32)) + (1 : Int32)))] [(.ref b64), (.ref a1)])) _
          refine st68 _ ?_
          show Steps p.tables e below (T68.setTop (mkF m 92 #[.val (.ref a1), .val (.int n), .val (.int (((((0 : Int32) + (1 : Int32)) + (1 : Int32)) + (1 : Int32)) + (1 : Int32)))] [])) _
          refine XS.aloadN X68.here hx rfl (hb hby d1_92) rfl rfl ?_
          show Steps p.tables e below (T68.setTop (mkF m 93 #[.val (.ref a1), .val (.int n), .val (.int (((((0 : Int32) + (1 : Int32)) + (1 : Int32)) + (1 : Int32)) + (1 : Int32)))] [(.ref a1)])) _
          refine XS.iloadN X68.here hx rfl (hb hby d1_93) rfl ?_
          show Steps p.tables e below (T68.setTop (mkF m 94 #[.val (.ref a1), .val (.int n), .val (.int (((((0 : Int32) + (1 : Int32)) + (1 : Int32)) + (1 : Int32)) + (1 : Int32)))] [(.int n), (.ref a1)])) _
          refine st69 _ ?_
          show Steps p.tables e below (T69.setTop (mkF m 96 #[.val (.ref a1), .val (.int n), .val (.int (((((0 : Int32) + (1 : Int32)) + (1 : Int32)) + (1 : Int32)) + (1 : Int32)))] [(.ref b69), (.ref a1)])) _
          refine st71 _ ?_
          show Steps p.tables e below (T71.setTop (mkF m 99 #[.val (.ref a1), .val (.int n), .val (.int (((((0 : Int32) + (1 : Int32)) + (1 : Int32)) + (1 : Int32)) + (1 : Int32)))] [])) _
          exact X71.returnOut hx Bd.returns (hb hby d1_99) hr
        · show Q1 Z a1 n h0 n0 _ T71.heap _
          rw [e71]
          exact ⟨rfl, N71, b3, b6, b41, b47, b50, b55, b64, b69, (((((((((((((((((((((((((((Keep.refl h0 [a1]).wr W2 (Or.inl (List.mem_of_getElem? (i := 0) rfl))).ext E3).wr W5 (Or.inl (List.mem_of_getElem? (i := 0) rfl))).ext E6).wr W10 (Or.inl (List.mem_of_getElem? (i := 0) rfl))).wr W15 (Or.inr sz_b3)).wr W19 (Or.inr sz_b6)).wr W22 (Or.inr sz_b3)).wr W26 (Or.inr sz_b6)).wr W30 (Or.inr sz_b3)).wr W33 (Or.inr sz_b6)).wr W36 (Or.inr sz_b3)).wr W40 (Or.inr sz_b6)).ext E41).wr W46 (Or.inl (List.mem_of_getElem? (i := 0) rfl))).ext E47).wr W49 (Or.inl (List.mem_of_getElem? (i := 0) rfl))).ext E50).wr W54 (Or.inl (List.mem_of_getElem? (i := 0) rfl))).ext E55).wr W58 (Or.inl (List.mem_of_getElem? (i := 0) rfl))).wr W63 (Or.inr sz_b50)).ext E64).wr W68 (Or.inl (List.mem_of_getElem? (i := 0) rfl))).ext E69).wr W71 (Or.inl (List.mem_of_getElem? (i := 0) rfl))), ⟨⟨g_a1, g_b3, g_b6, g_b41, g_b47, g_b50, g_b55, g_b64, g_b69⟩, ⟨ne3_a1, ne6_a1, ne41_a1, ne47_a1, ne50_a1, ne55_a1, ne64_a1, ne69_a1⟩, ⟨ne6_b3, ne41_b3, ne47_b3, ne50_b3, ne55_b3, ne64_b3, ne69_b3, ne41_b6, ne47_b6, ne50_b6, ne55_b6, ne64_b6, ne69_b6, ne47_b41, ne50_b41, ne55_b41, ne64_b41, ne69_b41, ne50_b47, ne55_b47, ne64_b47, ne69_b47, ne55_b50, ne64_b50, ne69_b50, ne64_b55, ne69_b55, ne69_b64⟩⟩, ⟨sz_b3, sz_b6, sz_b41, sz_b47, sz_b50, sz_b55, sz_b64, sz_b69⟩, (by rw [hE]; exact ⟨((((((fx57.wr W58).wr W63).ext E64).wr W68).ext E69).wr W71), fx72, fx73, fx74, fx75, fx76, fx77, fx78, Fw71, fx79, fx80, ⟨_, fx81⟩, ⟨_, fx82⟩, ⟨_, fx83⟩, ⟨_, fx84⟩, ⟨_, fx85⟩, ⟨_, fx86⟩, ⟨_, fx87⟩, ⟨_, (V_b69.other W71 (Ne.symm ne69_a1))⟩⟩)⟩
      ·
        obtain ⟨T88, h88, k88, X88, e88, E88, A88, st88⟩ := newP X33 hx hZ (hw _ (List.mem_of_getElem? (i := 1) rfl)) e33 (g := (mkF m 52 #[.val (.ref a1), .val (.int n), .val (.int ((((0 : Int32) + (1 : Int32)) + (1 : Int32)) + (1 : Int32)))] [(.int n), (.ref a1)])) rfl (hb hby d1_52) rfl hn0 (cap := 4) hn4 (by decide) (by decide) (by decide)
        obtain ⟨b88, g88⟩ : ∃ z, z = h33.size := ⟨_, rfl⟩
        rw [← g88] at A88 st88
        have lt88_a1 : a1 < h33.size := Nat.lt_of_lt_of_le lt6_a1 (Nat.le_trans (Nat.le_trans (Nat.le_trans (Nat.le_trans (Nat.le_trans (Nat.le_trans (Nat.le_trans (Nat.le_trans (Nat.le_refl _) E6.1) (Keep.of_wr W10).1) (Keep.of_wr W15).1) (Keep.of_wr W19).1) (Keep.of_wr W22).1) (Keep.of_wr W26).1) (Keep.of_wr W30).1) (Keep.of_wr W33).1)
        have ne88_a1 : a1 ≠ b88 := Nat.ne_of_lt (Nat.lt_of_lt_of_le lt88_a1 (Nat.le_of_eq g88.symm))
        have lt88_b3 : b3 < h33.size := Nat.lt_of_lt_of_le lt6_b3 (Nat.le_trans (Nat.le_trans (Nat.le_trans (Nat.le_trans (Nat.le_trans (Nat.le_trans (Nat.le_trans (Nat.le_trans (Nat.le_refl _) E6.1) (Keep.of_wr W10).1) (Keep.of_wr W15).1) (Keep.of_wr W19).1) (Keep.of_wr W22).1) (Keep.of_wr W26).1) (Keep.of_wr W30).1) (Keep.of_wr W33).1)
        have ne88_b3 : b3 ≠ b88 := Nat.ne_of_lt (Nat.lt_of_lt_of_le lt88_b3 (Nat.le_of_eq g88.symm))
        have lt88_b6 : b6 < h33.size := Nat.lt_of_lt_of_le V_b6.lt (Nat.le_trans (Nat.le_trans (Nat.le_trans (Nat.le_trans (Nat.le_trans (Nat.le_trans (Nat.le_trans (Nat.le_refl _) (Keep.of_wr W10).1) (Keep.of_wr W15).1) (Keep.of_wr W19).1) (Keep.of_wr W22).1) (Keep.of_wr W26).1) (Keep.of_wr W30).1) (Keep.of_wr W33).1)
        have ne88_b6 : b6 ≠ b88 := Nat.ne_of_lt (Nat.lt_of_lt_of_le lt88_b6 (Nat.le_of_eq g88.symm))
        have zz89 : n0 ≤ h33.size := (Nat.le_trans (Nat.le_trans (Nat.le_trans (Nat.le_trans (Nat.le_trans (Nat.le_trans (Nat.le_trans (Nat.le_trans zz7 E6.1) (Keep.of_wr W10).1) (Keep.of_wr W15).1) (Keep.of_wr W19).1) (Keep.of_wr W22).1) (Keep.of_wr W26).1) (Keep.of_wr W30).1) (Keep.of_wr W33).1)
        have g_b88 : n0 ≤ b88 := Nat.le_trans zz89 (Nat.le_of_eq g88.symm)
        have zz90 : h0.size ≤ h33.size := (Nat.le_trans (Nat.le_trans (Nat.le_trans (Nat.le_trans (Nat.le_trans (Nat.le_trans (Nat.le_trans (Nat.le_trans zz8 E6.1) (Keep.of_wr W10).1) (Keep.of_wr W15).1) (Keep.of_wr W19).1) (Keep.of_wr W22).1) (Keep.of_wr W26).1) (Keep.of_wr W30).1) (Keep.of_wr W33).1)
        have sz_b88 : h0.size ≤ b88 := Nat.le_trans zz90 (Nat.le_of_eq g88.symm)
        have V_b88 : Arv Z h88 b88 k88 .int n [(.int (0 : Int32)), (.int (0 : Int32)), (.int (0 : Int32)), (.int (0 : Int32))] (.int (0 : Int32)) := (Arv.new A88 hn0).pad (pad_rep [] (.int (0 : Int32)) 4)
        have fx91 := ((((((((((((F_blockOf.other W2 (Or.inr (slot_ne (Or.inr (hw _ (List.mem_of_getElem? (i := 18) rfl))) (Or.inl (hw _ (List.mem_of_getElem? (i := 12) rfl))) (by decide) (t := (.array .int)) (t' := .int) (by decide) (by decide)))).ext E3).other W5 (Or.inr (slot_ne (Or.inr (hw _ (List.mem_of_getElem? (i := 18) rfl))) (Or.inr (hw _ (List.mem_of_getElem? (i := 14) rfl))) (by decide) (t := (.array .int)) (t' := (.array .int)) (by decide) (by decide)))).ext E6).other W10 (Or.inr (slot_ne (Or.inr (hw _ (List.mem_of_getElem? (i := 18) rfl))) (Or.inr (hw _ (List.mem_of_getElem? (i := 16) rfl))) (by decide) (t := (.array .int)) (t' := (.array .int)) (by decide) (by decide)))).other W15 (Or.inl ne3_a1)).other W19 (Or.inl ne6_a1)).other W22 (Or.inl ne3_a1)).other W26 (Or.inl ne6_a1)).other W30 (Or.inl ne3_a1)).other W33 (Or.inl ne6_a1)).ext E88)
        have fx92 := ((((((((((((E_a1.wr W2).ext E3).wr W5).ext E6).wr W10).wr W15).wr W19).wr W22).wr W26).wr W30).wr W33).ext E88)
        obtain ⟨T93, h93, X93, e93, W93, st93⟩ := putF X88 hx hZ hown (host := "") (Or.inl (hw _ (List.mem_of_getElem? (i := 17) rfl))) Via.refl e88 fx91 fx92 (Or.inr ⟨(hw _ (List.mem_of_getElem? (i := 18) rfl)), rfl, hnm⟩) (hw _ (List.mem_of_getElem? (i := 3) rfl)) (ty := (.array .int)) (by decide) rfl rfl (g := (mkF m 54 #[.val (.ref a1), .val (.int n), .val (.int ((((0 : Int32) + (1 : Int32)) + (1 : Int32)) + (1 : Int32)))] [(.ref b88), (.ref a1)])) rfl rfl (hb hby d1_54)
        have Fw93 := fx91.same W93
        have N93 := Fr.snoc X93 N33 g_a1
        obtain ⟨T94, h94, k94, X94, e94, E94, A94, st94⟩ := newP X93 hx hZ (hw _ (List.mem_of_getElem? (i := 1) rfl)) e93 (g := (mkF m 59 #[.val (.ref a1), .val (.int n), .val (.int ((((0 : Int32) + (1 : Int32)) + (1 : Int32)) + (1 : Int32)))] [(.int n), (.ref a1)])) rfl (hb hby d1_59) rfl hn0 (cap := 4) hn4 (by decide) (by decide) (by decide)
        obtain ⟨b94, g94⟩ : ∃ z, z = h93.size := ⟨_, rfl⟩
        rw [← g94] at A94 st94
        have lt94_a1 : a1 < h93.size := Nat.lt_of_lt_of_le lt88_a1 (Nat.le_trans (Nat.le_trans (Nat.le_refl _) E88.1) (Keep.of_wr W93).1)
        have ne94_a1 : a1 ≠ b94 := Nat.ne_of_lt (Nat.lt_of_lt_of_le lt94_a1 (Nat.le_of_eq g94.symm))
        have lt94_b3 : b3 < h93.size := Nat.lt_of_lt_of_le lt88_b3 (Nat.le_trans (Nat.le_trans (Nat.le_refl _) E88.1) (Keep.of_wr W93).1)
        have ne94_b3 : b3 ≠ b94 := Nat.ne_of_lt (Nat.lt_of_lt_of_le lt94_b3 (Nat.le_of_eq g94.symm))
        have lt94_b6 : b6 < h93.size := Nat.lt_of_lt_of_le lt88_b6 (Nat.le_trans (Nat.le_trans (Nat.le_refl _) E88.1) (Keep.of_wr W93).1)
        have ne94_b6 : b6 ≠ b94 := Nat.ne_of_lt (Nat.lt_of_lt_of_le lt94_b6 (Nat.le_of_eq g94.symm))
        have lt94_b88 : b88 < h93.size := Nat.lt_of_lt_of_le V_b88.lt (Nat.le_trans (Nat.le_refl _) (Keep.of_wr W93).1)
        have ne94_b88 : b88 ≠ b94 := Nat.ne_of_lt (Nat.lt_of_lt_of_le lt94_b88 (Nat.le_of_eq g94.symm))
        have g_b94 : n0 ≤ b94 := Nat.le_trans (Nat.le_trans (Nat.le_trans zz89 E88.1) (Keep.of_wr W93).1) (Nat.le_of_eq g94.symm)
        have sz_b94 : h0.size ≤ b94 := Nat.le_trans (Nat.le_trans (Nat.le_trans zz90 E88.1) (Keep.of_wr W93).1) (Nat.le_of_eq g94.symm)
        have V_b94 : Arv Z h94 b94 k94 .int n [(.int (0 : Int32)), (.int (0 : Int32)), (.int (0 : Int32)), (.int (0 : Int32))] (.int (0 : Int32)) := (Arv.new A94 hn0).pad (pad_rep [] (.int (0 : Int32)) 4)
        have fx95 := ((((((((((((((F_blockBegin.other W2 (Or.inr (slot_ne (Or.inr (hw _ (List.mem_of_getElem? (i := 20) rfl))) (Or.inl (hw _ (List.mem_of_getElem? (i := 12) rfl))) (by decide) (t := (.array .int)) (t' := .int) (by decide) (by decide)))).ext E3).other W5 (Or.inr (slot_ne (Or.inr (hw _ (List.mem_of_getElem? (i := 20) rfl))) (Or.inr (hw _ (List.mem_of_getElem? (i := 14) rfl))) (by decide) (t := (.array .int)) (t' := (.array .int)) (by decide) (by decide)))).ext E6).other W10 (Or.inr (slot_ne (Or.inr (hw _ (List.mem_of_getElem? (i := 20) rfl))) (Or.inr (hw _ (List.mem_of_getElem? (i := 16) rfl))) (by decide) (t := (.array .int)) (t' := (.array .int)) (by decide) (by decide)))).other W15 (Or.inl ne3_a1)).other W19 (Or.inl ne6_a1)).other W22 (Or.inl ne3_a1)).other W26 (Or.inl ne6_a1)).other W30 (Or.inl ne3_a1)).other W33 (Or.inl ne6_a1)).ext E88).other W93 (Or.inr (slot_ne (Or.inr (hw _ (List.mem_of_getElem? (i := 20) rfl))) (Or.inr (hw _ (List.mem_of_getElem? (i := 18) rfl))) (by decide) (t := (.array .int)) (t' := (.array .int)) (by decide) (by decide)))).ext E94)
        obtain ⟨T96, h96, X96, e96, W96, st96⟩ := putF X94 hx hZ hown (host := "") (Or.inl (hw _ (List.mem_of_getElem? (i := 19) rfl))) Via.refl e94 fx95 ((fx92.wr W93).ext E94) (Or.inr ⟨(hw _ (List.mem_of_getElem? (i := 20) rfl)), rfl, hnm⟩) (hw _ (List.mem_of_getElem? (i := 3) rfl)) (ty := (.array .int)) (by decide) rfl rfl (g := (mkF m 61 #[.val (.ref a1), .val (.int n), .val (.int ((((0 : Int32) + (1 : Int32)) + (1 : Int32)) + (1 : Int32)))] [(.ref b94), (.ref a1)])) rfl rfl (hb hby d1_61)
        have Fw96 := fx95.same W96
        have N96 := Fr.snoc X96 N93 g_a1
        obtain ⟨T97, h97, k97, X97, e97, E97, A97, st97⟩ := newP X96 hx hZ (hw _ (List.mem_of_getElem? (i := 1) rfl)) e96 (g := (mkF m 66 #[.val (.ref a1), .val (.int n), .val (.int ((((0 : Int32) + (1 : Int32)) + (1 : Int32)) + (1 : Int32)))] [(.int n), (.ref a1)])) rfl (hb hby d1_66) rfl hn0 (cap := 4) hn4 (by decide) (by decide) (by decide)
        obtain ⟨b97, g97⟩ : ∃ z, z = h96.size := ⟨_, rfl⟩
        rw [← g97] at A97 st97
        have lt97_a1 : a1 < h96.size := Nat.lt_of_lt_of_le lt94_a1 (Nat.le_trans (Nat.le_trans (Nat.le_refl _) E94.1) (Keep.of_wr W96).1)
        have ne97_a1 : a1 ≠ b97 := Nat.ne_of_lt (Nat.lt_of_lt_of_le lt97_a1 (Nat.le_of_eq g97.symm))
        have lt97_b3 : b3 < h96.size := Nat.lt_of_lt_of_le lt94_b3 (Nat.le_trans (Nat.le_trans (Nat.le_refl _) E94.1) (Keep.of_wr W96).1)
        have ne97_b3 : b3 ≠ b97 := Nat.ne_of_lt (Nat.lt_of_lt_of_le lt97_b3 (Nat.le_of_eq g97.symm))
        have lt97_b6 : b6 < h96.size := Nat.lt_of_lt_of_le lt94_b6 (Nat.le_trans (Nat.le_trans (Nat.le_refl _) E94.1) (Keep.of_wr W96).1)
        have ne97_b6 : b6 ≠ b97 := Nat.ne_of_lt (Nat.lt_of_lt_of_le lt97_b6 (Nat.le_of_eq g97.symm))
        have lt97_b88 : b88 < h96.size := Nat.lt_of_lt_of_le lt94_b88 (Nat.le_trans (Nat.le_trans (Nat.le_refl _) E94.1) (Keep.of_wr W96).1)
        have ne97_b88 : b88 ≠ b97 := Nat.ne_of_lt (Nat.lt_of_lt_of_le lt97_b88 (Nat.le_of_eq g97.symm))
        have lt97_b94 : b94 < h96.size := Nat.lt_of_lt_of_le V_b94.lt (Nat.le_trans (Nat.le_refl _) (Keep.of_wr W96).1)
        have ne97_b94 : b94 ≠ b97 := Nat.ne_of_lt (Nat.lt_of_lt_of_le lt97_b94 (Nat.le_of_eq g97.symm))
        have zz98 : n0 ≤ h96.size := (Nat.le_trans (Nat.le_trans (Nat.le_trans (Nat.le_trans zz89 E88.1) (Keep.of_wr W93).1) E94.1) (Keep.of_wr W96).1)
        have g_b97 : n0 ≤ b97 := Nat.le_trans zz98 (Nat.le_of_eq g97.symm)
        have zz99 : h0.size ≤ h96.size := (Nat.le_trans (Nat.le_trans (Nat.le_trans (Nat.le_trans zz90 E88.1) (Keep.of_wr W93).1) E94.1) (Keep.of_wr W96).1)
        have sz_b97 : h0.size ≤ b97 := Nat.le_trans zz99 (Nat.le_of_eq g97.symm)
        have V_b97 : Arv Z h97 b97 k97 .int n [(.int (0 : Int32)), (.int (0 : Int32)), (.int (0 : Int32)), (.int (0 : Int32))] (.int (0 : Int32)) := (Arv.new A97 hn0).pad (pad_rep [] (.int (0 : Int32)) 4)
        have fx100 := ((((((((((((((((F_blockEnd.other W2 (Or.inr (slot_ne (Or.inr (hw _ (List.mem_of_getElem? (i := 22) rfl))) (Or.inl (hw _ (List.mem_of_getElem? (i := 12) rfl))) (by decide) (t := (.array .int)) (t' := .int) (by decide) (by decide)))).ext E3).other W5 (Or.inr (slot_ne (Or.inr (hw _ (List.mem_of_getElem? (i := 22) rfl))) (Or.inr (hw _ (List.mem_of_getElem? (i := 14) rfl))) (by decide) (t := (.array .int)) (t' := (.array .int)) (by decide) (by decide)))).ext E6).other W10 (Or.inr (slot_ne (Or.inr (hw _ (List.mem_of_getElem? (i := 22) rfl))) (Or.inr (hw _ (List.mem_of_getElem? (i := 16) rfl))) (by decide) (t := (.array .int)) (t' := (.array .int)) (by decide) (by decide)))).other W15 (Or.inl ne3_a1)).other W19 (Or.inl ne6_a1)).other W22 (Or.inl ne3_a1)).other W26 (Or.inl ne6_a1)).other W30 (Or.inl ne3_a1)).other W33 (Or.inl ne6_a1)).ext E88).other W93 (Or.inr (slot_ne (Or.inr (hw _ (List.mem_of_getElem? (i := 22) rfl))) (Or.inr (hw _ (List.mem_of_getElem? (i := 18) rfl))) (by decide) (t := (.array .int)) (t' := (.array .int)) (by decide) (by decide)))).ext E94).other W96 (Or.inr (slot_ne (Or.inr (hw _ (List.mem_of_getElem? (i := 22) rfl))) (Or.inr (hw _ (List.mem_of_getElem? (i := 20) rfl))) (by decide) (t := (.array .int)) (t' := (.array .int)) (by decide) (by decide)))).ext E97)
        obtain ⟨T101, h101, X101, e101, W101, st101⟩ := putF X97 hx hZ hown (host := "") (Or.inl (hw _ (List.mem_of_getElem? (i := 21) rfl))) Via.refl e97 fx100 ((((fx92.wr W93).ext E94).wr W96).ext E97) (Or.inr ⟨(hw _ (List.mem_of_getElem? (i := 22) rfl)), rfl, hnm⟩) (hw _ (List.mem_of_getElem? (i := 3) rfl)) (ty := (.array .int)) (by decide) rfl rfl (g := (mkF m 68 #[.val (.ref a1), .val (.int n), .val (.int ((((0 : Int32) + (1 : Int32)) + (1 : Int32)) + (1 : Int32)))] [(.ref b97), (.ref a1)])) rfl rfl (hb hby d1_68)
        have Fw101 := fx100.same W101
        have N101 := Fr.snoc X101 N96 g_a1
        obtain ⟨T102, h102, k102, X102, e102, E102, A102, st102⟩ := newP X101 hx hZ (hw _ (List.mem_of_getElem? (i := 1) rfl)) e101 (g := (mkF m 73 #[.val (.ref a1), .val (.int n), .val (.int ((((0 : Int32) + (1 : Int32)) + (1 : Int32)) + (1 : Int32)))] [(.int n), (.ref a1)])) rfl (hb hby d1_73) rfl hn0 (cap := 4) hn4 (by decide) (by decide) (by decide)
        obtain ⟨b102, g102⟩ : ∃ z, z = h101.size := ⟨_, rfl⟩
        rw [← g102] at A102 st102
        have lt102_a1 : a1 < h101.size := Nat.lt_of_lt_of_le lt97_a1 (Nat.le_trans (Nat.le_trans (Nat.le_refl _) E97.1) (Keep.of_wr W101).1)
        have ne102_a1 : a1 ≠ b102 := Nat.ne_of_lt (Nat.lt_of_lt_of_le lt102_a1 (Nat.le_of_eq g102.symm))
        have lt102_b3 : b3 < h101.size := Nat.lt_of_lt_of_le lt97_b3 (Nat.le_trans (Nat.le_trans (Nat.le_refl _) E97.1) (Keep.of_wr W101).1)
        have ne102_b3 : b3 ≠ b102 := Nat.ne_of_lt (Nat.lt_of_lt_of_le lt102_b3 (Nat.le_of_eq g102.symm))
        have lt102_b6 : b6 < h101.size := Nat.lt_of_lt_of_le lt97_b6 (Nat.le_trans (Nat.le_trans (Nat.le_refl _) E97.1) (Keep.of_wr W101).1)
        have ne102_b6 : b6 ≠ b102 := Nat.ne_of_lt (Nat.lt_of_lt_of_le lt102_b6 (Nat.le_of_eq g102.symm))
        have lt102_b88 : b88 < h101.size := Nat.lt_of_lt_of_le lt97_b88 (Nat.le_trans (Nat.le_trans (Nat.le_refl _) E97.1) (Keep.of_wr W101).1)
        have ne102_b88 : b88 ≠ b102 := Nat.ne_of_lt (Nat.lt_of_lt_of_le lt102_b88 (Nat.le_of_eq g102.symm))
        have lt102_b94 : b94 < h101.size := Nat.lt_of_lt_of_le lt97_b94 (Nat.le_trans (Nat.le_trans (Nat.le_refl _) E97.1) (Keep.of_wr W101).1)
        have ne102_b94 : b94 ≠ b102 := Nat.ne_of_lt (Nat.lt_of_lt_of_le lt102_b94 (Nat.le_of_eq g102.symm))
        have lt102_b97 : b97 < h101.size := Nat.lt_of_lt_of_le V_b97.lt (Nat.le_trans (Nat.le_refl _) (Keep.of_wr W101).1)
        have ne102_b97 : b97 ≠ b102 := Nat.ne_of_lt (Nat.lt_of_lt_of_le lt102_b97 (Nat.le_of_eq g102.symm))
        have g_b102 : n0 ≤ b102 := Nat.le_trans (Nat.le_trans (Nat.le_trans zz98 E97.1) (Keep.of_wr W101).1) (Nat.le_of_eq g102.symm)
        have sz_b102 : h0.size ≤ b102 := Nat.le_trans (Nat.le_trans (Nat.le_trans zz99 E97.1) (Keep.of_wr W101).1) (Nat.le_of_eq g102.symm)
        have V_b102 : Arv Z h102 b102 k102 .int n [(.int (0 : Int32)), (.int (0 : Int32)), (.int (0 : Int32)), (.int (0 : Int32))] (.int (0 : Int32)) := (Arv.new A102 hn0).pad (pad_rep [] (.int (0 : Int32)) 4)
        have fx103 := ((((((((((((((((((F_markedEnd.other W2 (Or.inr (slot_ne (Or.inr (hw _ (List.mem_of_getElem? (i := 24) rfl))) (Or.inl (hw _ (List.mem_of_getElem? (i := 12) rfl))) (by decide) (t := (.array .int)) (t' := .int) (by decide) (by decide)))).ext E3).other W5 (Or.inr (slot_ne (Or.inr (hw _ (List.mem_of_getElem? (i := 24) rfl))) (Or.inr (hw _ (List.mem_of_getElem? (i := 14) rfl))) (by decide) (t := (.array .int)) (t' := (.array .int)) (by decide) (by decide)))).ext E6).other W10 (Or.inr (slot_ne (Or.inr (hw _ (List.mem_of_getElem? (i := 24) rfl))) (Or.inr (hw _ (List.mem_of_getElem? (i := 16) rfl))) (by decide) (t := (.array .int)) (t' := (.array .int)) (by decide) (by decide)))).other W15 (Or.inl ne3_a1)).other W19 (Or.inl ne6_a1)).other W22 (Or.inl ne3_a1)).other W26 (Or.inl ne6_a1)).other W30 (Or.inl ne3_a1)).other W33 (Or.inl ne6_a1)).ext E88).other W93 (Or.inr (slot_ne (Or.inr (hw _ (List.mem_of_getElem? (i := 24) rfl))) (Or.inr (hw _ (List.mem_of_getElem? (i := 18) rfl))) (by decide) (t := (.array .int)) (t' := (.array .int)) (by decide) (by decide)))).ext E94).other W96 (Or.inr (slot_ne (Or.inr (hw _ (List.mem_of_getElem? (i := 24) rfl))) (Or.inr (hw _ (List.mem_of_getElem? (i := 20) rfl))) (by decide) (t := (.array .int)) (t' := (.array .int)) (by decide) (by decide)))).ext E97).other W101 (Or.inr (slot_ne (Or.inr (hw _ (List.mem_of_getElem? (i := 24) rfl))) (Or.inr (hw _ (List.mem_of_getElem? (i := 22) rfl))) (by decide) (t := (.array .int)) (t' := (.array .int)) (by decide) (by decide)))).ext E102)
        have fx104 := ((((((fx92.wr W93).ext E94).wr W96).ext E97).wr W101).ext E102)
        obtain ⟨T105, h105, X105, e105, W105, st105⟩ := putF X102 hx hZ hown (host := "") (Or.inl (hw _ (List.mem_of_getElem? (i := 23) rfl))) Via.refl e102 fx103 fx104 (Or.inr ⟨(hw _ (List.mem_of_getElem? (i := 24) rfl)), rfl, hnm⟩) (hw _ (List.mem_of_getElem? (i := 3) rfl)) (ty := (.array .int)) (by decide) rfl rfl (g := (mkF m 75 #[.val (.ref a1), .val (.int n), .val (.int ((((0 : Int32) + (1 : Int32)) + (1 : Int32)) + (1 : Int32)))] [(.ref b102), (.ref a1)])) rfl rfl (hb hby d1_75)
        have Fw105 := fx103.same W105
        have N105 := Fr.snoc X105 N101 g_a1
        have fx106 := ((Fw101.ext E102).other W105 (Or.inr (slot_ne (Or.inr (hw _ (List.mem_of_getElem? (i := 22) rfl))) (Or.inr (hw _ (List.mem_of_getElem? (i := 24) rfl))) (by decide) (t := (.array .int)) (t' := (.array .int)) (by decide) (by decide))))
        obtain ⟨T107, X107, e107, st107⟩ := getF X105 hx hZ hown (host := "") (Or.inl (hw _ (List.mem_of_getElem? (i := 21) rfl))) Via.refl e105 fx106 (g := (mkF m 79 #[.val (.ref a1), .val (.int n), .val (.int ((((0 : Int32) + (1 : Int32)) + (1 : Int32)) + (1 : Int32)))] [(.ref a1)])) rfl rfl (hb hby d1_79)
        have fx109 := (((V_b97.other W101 (Ne.symm ne97_a1)).ext E102).other W105 (Ne.symm ne97_a1))
        have Vo_108 := fx109
        obtain ⟨Cl_108, Ar_108, Kc_108, Sz_108, Nn_108, Hs_108, Gf_108⟩ := Vo_108
        obtain ⟨T110, h110, X110, e110, W110, st110⟩ := stI X107 hx hZ e107 Ar_108 (j := (0 : Int32)) (inb_of Sz_108 ⟨by decide, hn1⟩) (g := (mkF m 84 #[.val (.ref a1), .val (.int n), .val (.int ((((0 : Int32) + (1 : Int32)) + (1 : Int32)) + (1 : Int32)))] [(.int n), (.int (0 : Int32)), (.ref b97)])) rfl rfl (hb hby d1_84)
        have Vs110 : Arv Z h110 b97 k97 .int n [(.int n), (.int (0 : Int32)), (.int (0 : Int32)), (.int (0 : Int32))] (.int (0 : Int32)) := Arv.set Ar_108 Kc_108 Sz_108 Nn_108 Hs_108 Gf_108 rfl W110 0 (by decide) (Nat.le_of_ble_eq_true rfl)
        have N110 := Fr.snoc X110 N105 g_b97
        obtain ⟨T111, h111, k111, X111, e111, E111, A111, st111⟩ := newP X110 hx hZ (hw _ (List.mem_of_getElem? (i := 1) rfl)) e110 (g := (mkF m 87 #[.val (.ref a1), .val (.int n), .val (.int ((((0 : Int32) + (1 : Int32)) + (1 : Int32)) + (1 : Int32)))] [(.int n), (.ref a1)])) rfl (hb hby d1_87) rfl hn0 (cap := 4) hn4 (by decide) (by decide) (by decide)
        obtain ⟨b111, g111⟩ : ∃ z, z = h110.size := ⟨_, rfl⟩
        rw [← g111] at A111 st111
        have lt111_a1 : a1 < h110.size := Nat.lt_of_lt_of_le lt102_a1 (Nat.le_trans (Nat.le_trans (Nat.le_trans (Nat.le_refl _) E102.1) (Keep.of_wr W105).1) (Keep.of_wr W110).1)
        have ne111_a1 : a1 ≠ b111 := Nat.ne_of_lt (Nat.lt_of_lt_of_le lt111_a1 (Nat.le_of_eq g111.symm))
        have lt111_b3 : b3 < h110.size := Nat.lt_of_lt_of_le lt102_b3 (Nat.le_trans (Nat.le_trans (Nat.le_trans (Nat.le_refl _) E102.1) (Keep.of_wr W105).1) (Keep.of_wr W110).1)
        have ne111_b3 : b3 ≠ b111 := Nat.ne_of_lt (Nat.lt_of_lt_of_le lt111_b3 (Nat.le_of_eq g111.symm))
        have lt111_b6 : b6 < h110.size := Nat.lt_of_lt_of_le lt102_b6 (Nat.le_trans (Nat.le_trans (Nat.le_trans (Nat.le_refl _) E102.1) (Keep.of_wr W105).1) (Keep.of_wr W110).1)
        have ne111_b6 : b6 ≠ b111 := Nat.ne_of_lt (Nat.lt_of_lt_of_le lt111_b6 (Nat.le_of_eq g111.symm))
        have lt111_b88 : b88 < h110.size := Nat.lt_of_lt_of_le lt102_b88 (Nat.le_trans (Nat.le_trans (Nat.le_trans (Nat.le_refl _) E102.1) (Keep.of_wr W105).1) (Keep.of_wr W110).1)
        have ne111_b88 : b88 ≠ b111 := Nat.ne_of_lt (Nat.lt_of_lt_of_le lt111_b88 (Nat.le_of_eq g111.symm))
        have lt111_b94 : b94 < h110.size := Nat.lt_of_lt_of_le lt102_b94 (Nat.le_trans (Nat.le_trans (Nat.le_trans (Nat.le_refl _) E102.1) (Keep.of_wr W105).1) (Keep.of_wr W110).1)
        have ne111_b94 : b94 ≠ b111 := Nat.ne_of_lt (Nat.lt_of_lt_of_le lt111_b94 (Nat.le_of_eq g111.symm))
        have lt111_b97 : b97 < h110.size := Nat.lt_of_lt_of_le lt102_b97 (Nat.le_trans (Nat.le_trans (Nat.le_trans (Nat.le_refl _) E102.1) (Keep.of_wr W105).1) (Keep.of_wr W110).1)
        have ne111_b97 : b97 ≠ b111 := Nat.ne_of_lt (Nat.lt_of_lt_of_le lt111_b97 (Nat.le_of_eq g111.symm))
        have lt111_b102 : b102 < h110.size := Nat.lt_of_lt_of_le V_b102.lt (Nat.le_trans (Nat.le_trans (Nat.le_refl _) (Keep.of_wr W105).1) (Keep.of_wr W110).1)
        have ne111_b102 : b102 ≠ b111 := Nat.ne_of_lt (Nat.lt_of_lt_of_le lt111_b102 (Nat.le_of_eq g111.symm))
        have zz112 : n0 ≤ h110.size := (Nat.le_trans (Nat.le_trans (Nat.le_trans (Nat.le_trans (Nat.le_trans zz98 E97.1) (Keep.of_wr W101).1) E102.1) (Keep.of_wr W105).1) (Keep.of_wr W110).1)
        have g_b111 : n0 ≤ b111 := Nat.le_trans zz112 (Nat.le_of_eq g111.symm)
        have zz113 : h0.size ≤ h110.size := (Nat.le_trans (Nat.le_trans (Nat.le_trans (Nat.le_trans (Nat.le_trans zz99 E97.1) (Keep.of_wr W101).1) E102.1) (Keep.of_wr W105).1) (Keep.of_wr W110).1)
        have sz_b111 : h0.size ≤ b111 := Nat.le_trans zz113 (Nat.le_of_eq g111.symm)
        have V_b111 : Arv Z h111 b111 k111 .int n [(.int (0 : Int32)), (.int (0 : Int32)), (.int (0 : Int32)), (.int (0 : Int32))] (.int (0 : Int32)) := (Arv.new A111 hn0).pad (pad_rep [] (.int (0 : Int32)) 4)
        have fx114 := (((((((((((((((((((((F_splitFrom.other W2 (Or.inr (slot_ne (Or.inr (hw _ (List.mem_of_getElem? (i := 26) rfl))) (Or.inl (hw _ (List.mem_of_getElem? (i := 12) rfl))) (by decide) (t := (.array .int)) (t' := .int) (by decide) (by decide)))).ext E3).other W5 (Or.inr (slot_ne (Or.inr (hw _ (List.mem_of_getElem? (i := 26) rfl))) (Or.inr (hw _ (List.mem_of_getElem? (i := 14) rfl))) (by decide) (t := (.array .int)) (t' := (.array .int)) (by decide) (by decide)))).ext E6).other W10 (Or.inr (slot_ne (Or.inr (hw _ (List.mem_of_getElem? (i := 26) rfl))) (Or.inr (hw _ (List.mem_of_getElem? (i := 16) rfl))) (by decide) (t := (.array .int)) (t' := (.array .int)) (by decide) (by decide)))).other W15 (Or.inl ne3_a1)).other W19 (Or.inl ne6_a1)).other W22 (Or.inl ne3_a1)).other W26 (Or.inl ne6_a1)).other W30 (Or.inl ne3_a1)).other W33 (Or.inl ne6_a1)).ext E88).other W93 (Or.inr (slot_ne (Or.inr (hw _ (List.mem_of_getElem? (i := 26) rfl))) (Or.inr (hw _ (List.mem_of_getElem? (i := 18) rfl))) (by decide) (t := (.array .int)) (t' := (.array .int)) (by decide) (by decide)))).ext E94).other W96 (Or.inr (slot_ne (Or.inr (hw _ (List.mem_of_getElem? (i := 26) rfl))) (Or.inr (hw _ (List.mem_of_getElem? (i := 20) rfl))) (by decide) (t := (.array .int)) (t' := (.array .int)) (by decide) (by decide)))).ext E97).other W101 (Or.inr (slot_ne (Or.inr (hw _ (List.mem_of_getElem? (i := 26) rfl))) (Or.inr (hw _ (List.mem_of_getElem? (i := 22) rfl))) (by decide) (t := (.array .int)) (t' := (.array .int)) (by decide) (by decide)))).ext E102).other W105 (Or.inr (slot_ne (Or.inr (hw _ (List.mem_of_getElem? (i := 26) rfl))) (Or.inr (hw _ (List.mem_of_getElem? (i := 24) rfl))) (by decide) (t := (.array .int)) (t' := (.array .int)) (by decide) (by decide)))).other W110 (Or.inl ne97_a1)).ext E111)
        obtain ⟨T115, h115, X115, e115, W115, st115⟩ := putF X111 hx hZ hown (host := "") (Or.inl (hw _ (List.mem_of_getElem? (i := 25) rfl))) Via.refl e111 fx114 (((fx104.wr W105).wr W110).ext E111) (Or.inr ⟨(hw _ (List.mem_of_getElem? (i := 26) rfl)), rfl, hnm⟩) (hw _ (List.mem_of_getElem? (i := 3) rfl)) (ty := (.array .int)) (by decide) rfl rfl (g := (mkF m 89 #[.val (.ref a1), .val (.int n), .val (.int ((((0 : Int32) + (1 : Int32)) + (1 : Int32)) + (1 : Int32)))] [(.ref b111), (.ref a1)])) rfl rfl (hb hby d1_89)
        have Fw115 := fx114.same W115
        have N115 := Fr.snoc X115 N110 g_a1
        obtain ⟨T116, h116, k116, X116, e116, E116, A116, st116⟩ := newP X115 hx hZ (hw _ (List.mem_of_getElem? (i := 1) rfl)) e115 (g := (mkF m 94 #[.val (.ref a1), .val (.int n), .val (.int ((((0 : Int32) + (1 : Int32)) + (1 : Int32)) + (1 : Int32)))] [(.int n), (.ref a1)])) rfl (hb hby d1_94) rfl hn0 (cap := 4) hn4 (by decide) (by decide) (by decide)
        obtain ⟨b116, g116⟩ : ∃ z, z = h115.size := ⟨_, rfl⟩
        rw [← g116] at A116 st116
        have lt116_a1 : a1 < h115.size := Nat.lt_of_lt_of_le lt111_a1 (Nat.le_trans (Nat.le_trans (Nat.le_refl _) E111.1) (Keep.of_wr W115).1)
        have ne116_a1 : a1 ≠ b116 := Nat.ne_of_lt (Nat.lt_of_lt_of_le lt116_a1 (Nat.le_of_eq g116.symm))
        have lt116_b3 : b3 < h115.size := Nat.lt_of_lt_of_le lt111_b3 (Nat.le_trans (Nat.le_trans (Nat.le_refl _) E111.1) (Keep.of_wr W115).1)
        have ne116_b3 : b3 ≠ b116 := Nat.ne_of_lt (Nat.lt_of_lt_of_le lt116_b3 (Nat.le_of_eq g116.symm))
        have lt116_b6 : b6 < h115.size := Nat.lt_of_lt_of_le lt111_b6 (Nat.le_trans (Nat.le_trans (Nat.le_refl _) E111.1) (Keep.of_wr W115).1)
        have ne116_b6 : b6 ≠ b116 := Nat.ne_of_lt (Nat.lt_of_lt_of_le lt116_b6 (Nat.le_of_eq g116.symm))
        have lt116_b88 : b88 < h115.size := Nat.lt_of_lt_of_le lt111_b88 (Nat.le_trans (Nat.le_trans (Nat.le_refl _) E111.1) (Keep.of_wr W115).1)
        have ne116_b88 : b88 ≠ b116 := Nat.ne_of_lt (Nat.lt_of_lt_of_le lt116_b88 (Nat.le_of_eq g116.symm))
        have lt116_b94 : b94 < h115.size := Nat.lt_of_lt_of_le lt111_b94 (Nat.le_trans (Nat.le_trans (Nat.le_refl _) E111.1) (Keep.of_wr W115).1)
        have ne116_b94 : b94 ≠ b116 := Nat.ne_of_lt (Nat.lt_of_lt_of_le lt116_b94 (Nat.le_of_eq g116.symm))
        have lt116_b97 : b97 < h115.size := Nat.lt_of_lt_of_le lt111_b97 (Nat.le_trans (Nat.le_trans (Nat.le_refl _) E111.1) (Keep.of_wr W115).1)
        have ne116_b97 : b97 ≠ b116 := Nat.ne_of_lt (Nat.lt_of_lt_of_le lt116_b97 (Nat.le_of_eq g116.symm))
        have lt116_b102 : b102 < h115.size := Nat.lt_of_lt_of_le lt111_b102 (Nat.le_trans (Nat.le_trans (Nat.le_refl _) E111.1) (Keep.of_wr W115).1)
        have ne116_b102 : b102 ≠ b116 := Nat.ne_of_lt (Nat.lt_of_lt_of_le lt116_b102 (Nat.le_of_eq g116.symm))
        have lt116_b111 : b111 < h115.size := Nat.lt_of_lt_of_le V_b111.lt (Nat.le_trans (Nat.le_refl _) (Keep.of_wr W115).1)
        have ne116_b111 : b111 ≠ b116 := Nat.ne_of_lt (Nat.lt_of_lt_of_le lt116_b111 (Nat.le_of_eq g116.symm))
        have zz117 : n0 ≤ h115.size := (Nat.le_trans (Nat.le_trans zz112 E111.1) (Keep.of_wr W115).1)
        have g_b116 : n0 ≤ b116 := Nat.le_trans zz117 (Nat.le_of_eq g116.symm)
        have zz118 : h0.size ≤ h115.size := (Nat.le_trans (Nat.le_trans zz113 E111.1) (Keep.of_wr W115).1)
        have sz_b116 : h0.size ≤ b116 := Nat.le_trans zz118 (Nat.le_of_eq g116.symm)
        have V_b116 : Arv Z h116 b116 k116 .int n [(.int (0 : Int32)), (.int (0 : Int32)), (.int (0 : Int32)), (.int (0 : Int32))] (.int (0 : Int32)) := (Arv.new A116 hn0).pad (pad_rep [] (.int (0 : Int32)) 4)
        have fx119 := (((((((((((((((((((((((F_touched.other W2 (Or.inr (slot_ne (Or.inr (hw _ (List.mem_of_getElem? (i := 28) rfl))) (Or.inl (hw _ (List.mem_of_getElem? (i := 12) rfl))) (by decide) (t := (.array .int)) (t' := .int) (by decide) (by decide)))).ext E3).other W5 (Or.inr (slot_ne (Or.inr (hw _ (List.mem_of_getElem? (i := 28) rfl))) (Or.inr (hw _ (List.mem_of_getElem? (i := 14) rfl))) (by decide) (t := (.array .int)) (t' := (.array .int)) (by decide) (by decide)))).ext E6).other W10 (Or.inr (slot_ne (Or.inr (hw _ (List.mem_of_getElem? (i := 28) rfl))) (Or.inr (hw _ (List.mem_of_getElem? (i := 16) rfl))) (by decide) (t := (.array .int)) (t' := (.array .int)) (by decide) (by decide)))).other W15 (Or.inl ne3_a1)).other W19 (Or.inl ne6_a1)).other W22 (Or.inl ne3_a1)).other W26 (Or.inl ne6_a1)).other W30 (Or.inl ne3_a1)).other W33 (Or.inl ne6_a1)).ext E88).other W93 (Or.inr (slot_ne (Or.inr (hw _ (List.mem_of_getElem? (i := 28) rfl))) (Or.inr (hw _ (List.mem_of_getElem? (i := 18) rfl))) (by decide) (t := (.array .int)) (t' := (.array .int)) (by decide) (by decide)))).ext E94).other W96 (Or.inr (slot_ne (Or.inr (hw _ (List.mem_of_getElem? (i := 28) rfl))) (Or.inr (hw _ (List.mem_of_getElem? (i := 20) rfl))) (by decide) (t := (.array .int)) (t' := (.array .int)) (by decide) (by decide)))).ext E97).other W101 (Or.inr (slot_ne (Or.inr (hw _ (List.mem_of_getElem? (i := 28) rfl))) (Or.inr (hw _ (List.mem_of_getElem? (i := 22) rfl))) (by decide) (t := (.array .int)) (t' := (.array .int)) (by decide) (by decide)))).ext E102).other W105 (Or.inr (slot_ne (Or.inr (hw _ (List.mem_of_getElem? (i := 28) rfl))) (Or.inr (hw _ (List.mem_of_getElem? (i := 24) rfl))) (by decide) (t := (.array .int)) (t' := (.array .int)) (by decide) (by decide)))).other W110 (Or.inl ne97_a1)).ext E111).other W115 (Or.inr (slot_ne (Or.inr (hw _ (List.mem_of_getElem? (i := 28) rfl))) (Or.inr (hw _ (List.mem_of_getElem? (i := 26) rfl))) (by decide) (t := (.array .int)) (t' := (.array .int)) (by decide) (by decide)))).ext E116)
        obtain ⟨T120, h120, X120, e120, W120, st120⟩ := putF X116 hx hZ hown (host := "") (Or.inl (hw _ (List.mem_of_getElem? (i := 27) rfl))) Via.refl e116 fx119 (((((fx104.wr W105).wr W110).ext E111).wr W115).ext E116) (Or.inr ⟨(hw _ (List.mem_of_getElem? (i := 28) rfl)), rfl, hnm⟩) (hw _ (List.mem_of_getElem? (i := 3) rfl)) (ty := (.array .int)) (by decide) rfl rfl (g := (mkF m 96 #[.val (.ref a1), .val (.int n), .val (.int ((((0 : Int32) + (1 : Int32)) + (1 : Int32)) + (1 : Int32)))] [(.ref b116), (.ref a1)])) rfl rfl (hb hby d1_96)
        have Fw120 := fx119.same W120
        have N120 := Fr.snoc X120 N115 g_a1
        have hE := own_E3 hc27_2 hc27_3 hc27_4
        have fx121 := ((((((fx104.wr W105).wr W110).ext E111).wr W115).ext E116).wr W120)
        have fx122 := (((((((((((((((fx27.other W30 (Or.inl ne3_a1)).other W33 (Or.inl ne6_a1)).ext E88).other W93 (Or.inr (slot_ne (Or.inr (hw _ (List.mem_of_getElem? (i := 14) rfl))) (Or.inr (hw _ (List.mem_of_getElem? (i := 18) rfl))) (by decide) (t := (.array .int)) (t' := (.array .int)) (by decide) (by decide)))).ext E94).other W96 (Or.inr (slot_ne (Or.inr (hw _ (List.mem_of_getElem? (i := 14) rfl))) (Or.inr (hw _ (List.mem_of_getElem? (i := 20) rfl))) (by decide) (t := (.array .int)) (t' := (.array .int)) (by decide) (by decide)))).ext E97).other W101 (Or.inr (slot_ne (Or.inr (hw _ (List.mem_of_getElem? (i := 14) rfl))) (Or.inr (hw _ (List.mem_of_getElem? (i := 22) rfl))) (by decide) (t := (.array .int)) (t' := (.array .int)) (by decide) (by decide)))).ext E102).other W105 (Or.inr (slot_ne (Or.inr (hw _ (List.mem_of_getElem? (i := 14) rfl))) (Or.inr (hw _ (List.mem_of_getElem? (i := 24) rfl))) (by decide) (t := (.array .int)) (t' := (.array .int)) (by decide) (by decide)))).other W110 (Or.inl ne97_a1)).ext E111).other W115 (Or.inr (slot_ne (Or.inr (hw _ (List.mem_of_getElem? (i := 14) rfl))) (Or.inr (hw _ (List.mem_of_getElem? (i := 26) rfl))) (by decide) (t := (.array .int)) (t' := (.array .int)) (by decide) (by decide)))).ext E116).other W120 (Or.inr (slot_ne (Or.inr (hw _ (List.mem_of_getElem? (i := 14) rfl))) (Or.inr (hw _ (List.mem_of_getElem? (i := 28) rfl))) (by decide) (t := (.array .int)) (t' := (.array .int)) (by decide) (by decide))))
        have fx123 := ((((((((((((((((fx23.other W26 (Or.inl ne6_a1)).other W30 (Or.inl ne3_a1)).other W33 (Or.inl ne6_a1)).ext E88).other W93 (Or.inr (slot_ne (Or.inr (hw _ (List.mem_of_getElem? (i := 16) rfl))) (Or.inr (hw _ (List.mem_of_getElem? (i := 18) rfl))) (by decide) (t := (.array .int)) (t' := (.array .int)) (by decide) (by decide)))).ext E94).other W96 (Or.inr (slot_ne (Or.inr (hw _ (List.mem_of_getElem? (i := 16) rfl))) (Or.inr (hw _ (List.mem_of_getElem? (i := 20) rfl))) (by decide) (t := (.array .int)) (t' := (.array .int)) (by decide) (by decide)))).ext E97).other W101 (Or.inr (slot_ne (Or.inr (hw _ (List.mem_of_getElem? (i := 16) rfl))) (Or.inr (hw _ (List.mem_of_getElem? (i := 22) rfl))) (by decide) (t := (.array .int)) (t' := (.array .int)) (by decide) (by decide)))).ext E102).other W105 (Or.inr (slot_ne (Or.inr (hw _ (List.mem_of_getElem? (i := 16) rfl))) (Or.inr (hw _ (List.mem_of_getElem? (i := 24) rfl))) (by decide) (t := (.array .int)) (t' := (.array .int)) (by decide) (by decide)))).other W110 (Or.inl ne97_a1)).ext E111).other W115 (Or.inr (slot_ne (Or.inr (hw _ (List.mem_of_getElem? (i := 16) rfl))) (Or.inr (hw _ (List.mem_of_getElem? (i := 26) rfl))) (by decide) (t := (.array .int)) (t' := (.array .int)) (by decide) (by decide)))).ext E116).other W120 (Or.inr (slot_ne (Or.inr (hw _ (List.mem_of_getElem? (i := 16) rfl))) (Or.inr (hw _ (List.mem_of_getElem? (i := 28) rfl))) (by decide) (t := (.array .int)) (t' := (.array .int)) (by decide) (by decide))))
        have fx124 := (((((((((((Fw93.ext E94).other W96 (Or.inr (slot_ne (Or.inr (hw _ (List.mem_of_getElem? (i := 18) rfl))) (Or.inr (hw _ (List.mem_of_getElem? (i := 20) rfl))) (by decide) (t := (.array .int)) (t' := (.array .int)) (by decide) (by decide)))).ext E97).other W101 (Or.inr (slot_ne (Or.inr (hw _ (List.mem_of_getElem? (i := 18) rfl))) (Or.inr (hw _ (List.mem_of_getElem? (i := 22) rfl))) (by decide) (t := (.array .int)) (t' := (.array .int)) (by decide) (by decide)))).ext E102).other W105 (Or.inr (slot_ne (Or.inr (hw _ (List.mem_of_getElem? (i := 18) rfl))) (Or.inr (hw _ (List.mem_of_getElem? (i := 24) rfl))) (by decide) (t := (.array .int)) (t' := (.array .int)) (by decide) (by decide)))).other W110 (Or.inl ne97_a1)).ext E111).other W115 (Or.inr (slot_ne (Or.inr (hw _ (List.mem_of_getElem? (i := 18) rfl))) (Or.inr (hw _ (List.mem_of_getElem? (i := 26) rfl))) (by decide) (t := (.array .int)) (t' := (.array .int)) (by decide) (by decide)))).ext E116).other W120 (Or.inr (slot_ne (Or.inr (hw _ (List.mem_of_getElem? (i := 18) rfl))) (Or.inr (hw _ (List.mem_of_getElem? (i := 28) rfl))) (by decide) (t := (.array .int)) (t' := (.array .int)) (by decide) (by decide))))
        have fx125 := (((((((((Fw96.ext E97).other W101 (Or.inr (slot_ne (Or.inr (hw _ (List.mem_of_getElem? (i := 20) rfl))) (Or.inr (hw _ (List.mem_of_getElem? (i := 22) rfl))) (by decide) (t := (.array .int)) (t' := (.array .int)) (by decide) (by decide)))).ext E102).other W105 (Or.inr (slot_ne (Or.inr (hw _ (List.mem_of_getElem? (i := 20) rfl))) (Or.inr (hw _ (List.mem_of_getElem? (i := 24) rfl))) (by decide) (t := (.array .int)) (t' := (.array .int)) (by decide) (by decide)))).other W110 (Or.inl ne97_a1)).ext E111).other W115 (Or.inr (slot_ne (Or.inr (hw _ (List.mem_of_getElem? (i := 20) rfl))) (Or.inr (hw _ (List.mem_of_getElem? (i := 26) rfl))) (by decide) (t := (.array .int)) (t' := (.array .int)) (by decide) (by decide)))).ext E116).other W120 (Or.inr (slot_ne (Or.inr (hw _ (List.mem_of_getElem? (i := 20) rfl))) (Or.inr (hw _ (List.mem_of_getElem? (i := 28) rfl))) (by decide) (t := (.array .int)) (t' := (.array .int)) (by decide) (by decide))))
        have fx126 := (((((fx106.other W110 (Or.inl ne97_a1)).ext E111).other W115 (Or.inr (slot_ne (Or.inr (hw _ (List.mem_of_getElem? (i := 22) rfl))) (Or.inr (hw _ (List.mem_of_getElem? (i := 26) rfl))) (by decide) (t := (.array .int)) (t' := (.array .int)) (by decide) (by decide)))).ext E116).other W120 (Or.inr (slot_ne (Or.inr (hw _ (List.mem_of_getElem? (i := 22) rfl))) (Or.inr (hw _ (List.mem_of_getElem? (i := 28) rfl))) (by decide) (t := (.array .int)) (t' := (.array .int)) (by decide) (by decide))))
        have fx127 := (((((Fw105.other W110 (Or.inl ne97_a1)).ext E111).other W115 (Or.inr (slot_ne (Or.inr (hw _ (List.mem_of_getElem? (i := 24) rfl))) (Or.inr (hw _ (List.mem_of_getElem? (i := 26) rfl))) (by decide) (t := (.array .int)) (t' := (.array .int)) (by decide) (by decide)))).ext E116).other W120 (Or.inr (slot_ne (Or.inr (hw _ (List.mem_of_getElem? (i := 24) rfl))) (Or.inr (hw _ (List.mem_of_getElem? (i := 28) rfl))) (by decide) (t := (.array .int)) (t' := (.array .int)) (by decide) (by decide))))
        have fx128 := ((Fw115.ext E116).other W120 (Or.inr (slot_ne (Or.inr (hw _ (List.mem_of_getElem? (i := 26) rfl))) (Or.inr (hw _ (List.mem_of_getElem? (i := 28) rfl))) (by decide) (t := (.array .int)) (t' := (.array .int)) (by decide) (by decide))))
        have fx129 := (((((((((((((((((((((((Fw2.ext E3).other W5 (Or.inr (slot_ne (Or.inl (hw _ (List.mem_of_getElem? (i := 12) rfl))) (Or.inr (hw _ (List.mem_of_getElem? (i := 14) rfl))) (by decide) (t := .int) (t' := (.array .int)) (by decide) (by decide)))).ext E6).other W10 (Or.inr (slot_ne (Or.inl (hw _ (List.mem_of_getElem? (i := 12) rfl))) (Or.inr (hw _ (List.mem_of_getElem? (i := 16) rfl))) (by decide) (t := .int) (t' := (.array .int)) (by decide) (by decide)))).other W15 (Or.inl ne3_a1)).other W19 (Or.inl ne6_a1)).other W22 (Or.inl ne3_a1)).other W26 (Or.inl ne6_a1)).other W30 (Or.inl ne3_a1)).other W33 (Or.inl ne6_a1)).ext E88).other W93 (Or.inr (slot_ne (Or.inl (hw _ (List.mem_of_getElem? (i := 12) rfl))) (Or.inr (hw _ (List.mem_of_getElem? (i := 18) rfl))) (by decide) (t := .int) (t' := (.array .int)) (by decide) (by decide)))).ext E94).other W96 (Or.inr (slot_ne (Or.inl (hw _ (List.mem_of_getElem? (i := 12) rfl))) (Or.inr (hw _ (List.mem_of_getElem? (i := 20) rfl))) (by decide) (t := .int) (t' := (.array .int)) (by decide) (by decide)))).ext E97).other W101 (Or.inr (slot_ne (Or.inl (hw _ (List.mem_of_getElem? (i := 12) rfl))) (Or.inr (hw _ (List.mem_of_getElem? (i := 22) rfl))) (by decide) (t := .int) (t' := (.array .int)) (by decide) (by decide)))).ext E102).other W105 (Or.inr (slot_ne (Or.inl (hw _ (List.mem_of_getElem? (i := 12) rfl))) (Or.inr (hw _ (List.mem_of_getElem? (i := 24) rfl))) (by decide) (t := .int) (t' := (.array .int)) (by decide) (by decide)))).other W110 (Or.inl ne97_a1)).ext E111).other W115 (Or.inr (slot_ne (Or.inl (hw _ (List.mem_of_getElem? (i := 12) rfl))) (Or.inr (hw _ (List.mem_of_getElem? (i := 26) rfl))) (by decide) (t := .int) (t' := (.array .int)) (by decide) (by decide)))).ext E116).other W120 (Or.inr (slot_ne (Or.inl (hw _ (List.mem_of_getElem? (i := 12) rfl))) (Or.inr (hw _ (List.mem_of_getElem? (i := 28) rfl))) (by decide) (t := .int) (t' := (.array .int)) (by decide) (by decide))))
        have fx130 := ((((((((((((((((((((((((F_touchedCount.other W2 (Or.inr (slot_ne (Or.inl (hw _ (List.mem_of_getElem? (i := 35) rfl))) (Or.inl (hw _ (List.mem_of_getElem? (i := 12) rfl))) (by decide) (t := .int) (t' := .int) (by decide) (by decide)))).ext E3).other W5 (Or.inr (slot_ne (Or.inl (hw _ (List.mem_of_getElem? (i := 35) rfl))) (Or.inr (hw _ (List.mem_of_getElem? (i := 14) rfl))) (by decide) (t := .int) (t' := (.array .int)) (by decide) (by decide)))).ext E6).other W10 (Or.inr (slot_ne (Or.inl (hw _ (List.mem_of_getElem? (i := 35) rfl))) (Or.inr (hw _ (List.mem_of_getElem? (i := 16) rfl))) (by decide) (t := .int) (t' := (.array .int)) (by decide) (by decide)))).other W15 (Or.inl ne3_a1)).other W19 (Or.inl ne6_a1)).other W22 (Or.inl ne3_a1)).other W26 (Or.inl ne6_a1)).other W30 (Or.inl ne3_a1)).other W33 (Or.inl ne6_a1)).ext E88).other W93 (Or.inr (slot_ne (Or.inl (hw _ (List.mem_of_getElem? (i := 35) rfl))) (Or.inr (hw _ (List.mem_of_getElem? (i := 18) rfl))) (by decide) (t := .int) (t' := (.array .int)) (by decide) (by decide)))).ext E94).other W96 (Or.inr (slot_ne (Or.inl (hw _ (List.mem_of_getElem? (i := 35) rfl))) (Or.inr (hw _ (List.mem_of_getElem? (i := 20) rfl))) (by decide) (t := .int) (t' := (.array .int)) (by decide) (by decide)))).ext E97).other W101 (Or.inr (slot_ne (Or.inl (hw _ (List.mem_of_getElem? (i := 35) rfl))) (Or.inr (hw _ (List.mem_of_getElem? (i := 22) rfl))) (by decide) (t := .int) (t' := (.array .int)) (by decide) (by decide)))).ext E102).other W105 (Or.inr (slot_ne (Or.inl (hw _ (List.mem_of_getElem? (i := 35) rfl))) (Or.inr (hw _ (List.mem_of_getElem? (i := 24) rfl))) (by decide) (t := .int) (t' := (.array .int)) (by decide) (by decide)))).other W110 (Or.inl ne97_a1)).ext E111).other W115 (Or.inr (slot_ne (Or.inl (hw _ (List.mem_of_getElem? (i := 35) rfl))) (Or.inr (hw _ (List.mem_of_getElem? (i := 26) rfl))) (by decide) (t := .int) (t' := (.array .int)) (by decide) (by decide)))).ext E116).other W120 (Or.inr (slot_ne (Or.inl (hw _ (List.mem_of_getElem? (i := 35) rfl))) (Or.inr (hw _ (List.mem_of_getElem? (i := 28) rfl))) (by decide) (t := .int) (t' := (.array .int)) (by decide) (by decide))))
        have fx131 := ((((((((((((((Vs30.other W33 ne6_b3).ext E88).other W93 (Ne.symm ne3_a1)).ext E94).other W96 (Ne.symm ne3_a1)).ext E97).other W101 (Ne.symm ne3_a1)).ext E102).other W105 (Ne.symm ne3_a1)).other W110 ne97_b3).ext E111).other W115 (Ne.symm ne3_a1)).ext E116).other W120 (Ne.symm ne3_a1))
        have fx132 := (((((((((((((Vs33.ext E88).other W93 (Ne.symm ne6_a1)).ext E94).other W96 (Ne.symm ne6_a1)).ext E97).other W101 (Ne.symm ne6_a1)).ext E102).other W105 (Ne.symm ne6_a1)).other W110 ne97_b6).ext E111).other W115 (Ne.symm ne6_a1)).ext E116).other W120 (Ne.symm ne6_a1))
        have fx133 := ((((((((((((V_b88.other W93 (Ne.symm ne88_a1)).ext E94).other W96 (Ne.symm ne88_a1)).ext E97).other W101 (Ne.symm ne88_a1)).ext E102).other W105 (Ne.symm ne88_a1)).other W110 ne97_b88).ext E111).other W115 (Ne.symm ne88_a1)).ext E116).other W120 (Ne.symm ne88_a1))
        have fx134 := ((((((((((V_b94.other W96 (Ne.symm ne94_a1)).ext E97).other W101 (Ne.symm ne94_a1)).ext E102).other W105 (Ne.symm ne94_a1)).other W110 ne97_b94).ext E111).other W115 (Ne.symm ne94_a1)).ext E116).other W120 (Ne.symm ne94_a1))
        have fx135 := ((((Vs110.ext E111).other W115 (Ne.symm ne97_a1)).ext E116).other W120 (Ne.symm ne97_a1))
        have fx136 := ((((((V_b102.other W105 (Ne.symm ne102_a1)).other W110 (Ne.symm ne102_b97)).ext E111).other W115 (Ne.symm ne102_a1)).ext E116).other W120 (Ne.symm ne102_a1))
        have fx137 := (((V_b111.other W115 (Ne.symm ne111_a1)).ext E116).other W120 (Ne.symm ne111_a1))
        obtain ⟨fs, hr, hrun, hended, hW, hsame⟩ := X120.leave (v := none) (fun _ => rfl)
        refine ⟨_, _, pre0 _ ?_, hrun, hended, _, _, rfl, ?_, ⟨_, rfl⟩, hW, hsame.mono (by decide) (by decide)⟩
        · show Steps p.tables e below (s₁.setTop (mkF m 0 #[.val (.ref a1), .val (.int n), .unset] [])) _
          refine XS.aloadN X0.here hx rfl (hb hby d1_0) rfl rfl ?_
          show Steps p.tables e below (s₁.setTop (mkF m 1 #[.val (.ref a1), .val (.int n), .unset] [(.ref a1)])) _
          refine st1 _ ?_
          show Steps p.tables e below (T1.setTop (mkF m 4 #[.val (.ref a1), .val (.int n), .unset] [])) _
          refine XS.aloadN X1.here hx rfl (hb hby d1_4) rfl rfl ?_
          show Steps p.tables e below (T1.setTop (mkF m 5 #[.val (.ref a1), .val (.int n), .unset] [(.ref a1)])) _
          refine XS.iconst X1.here hx rfl (hb hby d1_5) ?_
          show Steps p.tables e below (T1.setTop (mkF m 6 #[.val (.ref a1), .val (.int n), .unset] [(.int (1 : Int32)), (.ref a1)])) _
          refine st2 _ ?_
          show Steps p.tables e below (T2.setTop (mkF m 9 #[.val (.ref a1), .val (.int n), .unset] [])) _
          refine XS.aloadN X2.here hx rfl (hb hby d1_9) rfl rfl ?_
          show Steps p.tables e below (T2.setTop (mkF m 10 #[.val (.ref a1), .val (.int n), .unset] [(.ref a1)])) _
          refine XS.iloadN X2.here hx rfl (hb hby d1_10) rfl ?_
          show Steps p.tables e below (T2.setTop (mkF m 11 #[.val (.ref a1), .val (.int n), .unset] [(.int n), (.ref a1)])) _
          refine st3 _ ?_
          show Steps p.tables e below (T3.setTop (mkF m 13 #[.val (.ref a1), .val (.int n), .unset] [(.ref b3), (.ref a1)])) _
          refine st5 _ ?_
          show Steps p.tables e below (T5.setTop (mkF m 16 #[.val (.ref a1), .val (.int n), .unset] [])) _
          refine XS.aloadN X5.here hx rfl (hb hby d1_16) rfl rfl ?_
          show Steps p.tables e below (T5.setTop (mkF m 17 #[.val (.ref a1), .val (.int n), .unset] [(.ref a1)])) _
          refine XS.iloadN X5.here hx rfl (hb hby d1_17) rfl ?_
          show Steps p.tables e below (T5.setTop (mkF m 18 #[.val (.ref a1), .val (.int n), .unset] [(.int n), (.ref a1)])) _
          refine st6 _ ?_
          show Steps p.tables e below (T6.setTop (mkF m 20 #[.val (.ref a1), .val (.int n), .unset] [(.ref b6), (.ref a1)])) _
          refine st10 _ ?_
          show Steps p.tables e below (T10.setTop (mkF m 23 #[.val (.ref a1), .val (.int n), .unset] [])) _
          refine XS.iconst X10.here hx rfl (hb hby d1_23) ?_
          show Steps p.tables e below (T10.setTop (mkF m 24 #[.val (.ref a1), .val (.int n), .unset] [(.int (0 : Int32))])) _
          refine XS.istoreN X10.here hx rfl (hb hby d1_24) rfl (l' := #[.val (.ref a1), .val (.int n), .val (.int (0 : Int32))]) rfl ?_
          show Steps p.tables e below (T10.setTop (mkF m 25 #[.val (.ref a1), .val (.int n), .val (.int (0 : Int32))] [])) _
          refine XS.iloadN X10.here hx rfl (hb hby d1_25) rfl ?_
          show Steps p.tables e below (T10.setTop (mkF m 26 #[.val (.ref a1), .val (.int n), .val (.int (0 : Int32))] [(.int (0 : Int32))])) _
          refine XS.iloadN X10.here hx rfl (hb hby d1_26) rfl ?_
          show Steps p.tables e below (T10.setTop (mkF m 27 #[.val (.ref a1), .val (.int n), .val (.int (0 : Int32))] [(.int n), (.int (0 : Int32))])) _
          refine XS.icmpNo X10.here hx rfl (hb hby d1_27) rfl (tlt hn1).2.1 ?_
          show Steps p.tables e below (T10.setTop (mkF m 30 #[.val (.ref a1), .val (.int n), .val (.int (0 : Int32))] [])) _
          refine XS.aloadN X10.here hx rfl (hb hby d1_30) rfl rfl ?_
          show Steps p.tables e below (T10.setTop (mkF m 31 #[.val (.ref a1), .val (.int n), .val (.int (0 : Int32))] [(.ref a1)])) _
          refine st12 _ ?_
          show Steps p.tables e below (T12.setTop (mkF m 34 #[.val (.ref a1), .val (.int n), .val (.int (0 : Int32))] [(.ref b3)])) _
          refine XS.iloadN X12.here hx rfl (hb hby d1_34) rfl ?_
          show Steps p.tables e below (T12.setTop (mkF m 35 #[.val (.ref a1), .val (.int n), .val (.int (0 : Int32))] [(.int (0 : Int32)), (.ref b3)])) _
          refine XS.iloadN X12.here hx rfl (hb hby d1_35) rfl ?_
          show Steps p.tables e below (T12.setTop (mkF m 36 #[.val (.ref a1), .val (.int n), .val (.int (0 : Int32))] [(.int (0 : Int32)), (.int (0 : Int32)), (.ref b3)])) _
          refine st15 _ ?_
          show Steps p.tables e below (T15.setTop (mkF m 37 #[.val (.ref a1), .val (.int n), .val (.int (0 : Int32))] [])) _
          refine XS.aloadN X15.here hx rfl (hb hby d1_37) rfl rfl ?_
          show Steps p.tables e below (T15.setTop (mkF m 38 #[.val (.ref a1), .val (.int n), .val (.int (0 : Int32))] [(.ref a1)])) _
          refine st16 _ ?_
          show Steps p.tables e below (T16.setTop (mkF m 41 #[.val (.ref a1), .val (.int n), .val (.int (0 : Int32))] [(.ref b6)])) _
          refine XS.iloadN X16.here hx rfl (hb hby d1_41) rfl ?_
          show Steps p.tables e below (T16.setTop (mkF m 42 #[.val (.ref a1), .val (.int n), .val (.int (0 : Int32))] [(.int (0 : Int32)), (.ref b6)])) _
          refine XS.iloadN X16.here hx rfl (hb hby d1_42) rfl ?_
          show Steps p.tables e below (T16.setTop (mkF m 43 #[.val (.ref a1), .val (.int n), .val (.int (0 : Int32))] [(.int (0 : Int32)), (.int (0 : Int32)), (.ref b6)])) _
          refine st19 _ ?_
          show Steps p.tables e below (T19.setTop (mkF m 44 #[.val (.ref a1), .val (.int n), .val (.int (0 : Int32))] [])) _
          refine XS.iinc X19.here hx rfl (hb hby d1_44) rfl (l' := #[.val (.ref a1), .val (.int n), .val (.int ((0 : Int32) + (1 : Int32)))]) rfl ?_
          show Steps p.tables e below (T19.setTop (mkF m 47 #[.val (.ref a1), .val (.int n), .val (.int ((0 : Int32) + (1 : Int32)))] [])) _
          refine XS.goto X19.here hx rfl (pc0 := 47) (pc' := 25) rfl (hb hby d1_47) (by decide) (by decide) ?_
          show Steps p.tables e below (T19.setTop (mkF m 25 #[.val (.ref a1), .val (.int n), .val (.int ((0 : Int32) + (1 : Int32)))] [])) _
          refine XS.iloadN X19.here hx rfl (hb hby d1_25) rfl ?_
          show Steps p.tables e below (T19.setTop (mkF m 26 #[.val (.ref a1), .val (.int n), .val (.int ((0 : Int32) + (1 : Int32)))] [(.int ((0 : Int32) + (1 : Int32)))])) _
          refine XS.iloadN X19.here hx rfl (hb hby d1_26) rfl ?_
          show Steps p.tables e below (T19.setTop (mkF m 27 #[.val (.ref a1), .val (.int n), .val (.int ((0 : Int32) + (1 : Int32)))] [(.int n), (.int ((0 : Int32) + (1 : Int32)))])) _
          refine XS.icmpNo X19.here hx rfl (hb hby d1_27) rfl (tlt hc27_2).2.1 ?_
          show Steps p.tables e below (T19.setTop (mkF m 30 #[.val (.ref a1), .val (.int n), .val (.int ((0 : Int32) + (1 : Int32)))] [])) _
          refine XS.aloadN X19.here hx rfl (hb hby d1_30) rfl rfl ?_
          show Steps p.tables e below (T19.setTop (mkF m 31 #[.val (.ref a1), .val (.int n), .val (.int ((0 : Int32) + (1 : Int32)))] [(.ref a1)])) _
          refine st20 _ ?_
          show Steps p.tables e below (T20.setTop (mkF m 34 #[.val (.ref a1), .val (.int n), .val (.int ((0 : Int32) + (1 : Int32)))] [(.ref b3)])) _
          refine XS.iloadN X20.here hx rfl (hb hby d1_34) rfl ?_
          show Steps p.tables e below (T20.setTop (mkF m 35 #[.val (.ref a1), .val (.int n), .val (.int ((0 : Int32) + (1 : Int32)))] [(.int ((0 : Int32) + (1 : Int32))), (.ref b3)])) _
          refine XS.iloadN X20.here hx rfl (hb hby d1_35) rfl ?_
          show Steps p.tables e below (T20.setTop (mkF m 36 #[.val (.ref a1), .val (.int n), .val (.int ((0 : Int32) + (1 : Int32)))] [(.int ((0 : Int32) + (1 : Int32))), (.int ((0 : Int32) + (1 : Int32))), (.ref b3)])) _
          refine st22 _ ?_
          show Steps p.tables e below (T22.setTop (mkF m 37 #[.val (.ref a1), .val (.int n), .val (.int ((0 : Int32) + (1 : Int32)))] [])) _
          refine XS.aloadN X22.here hx rfl (hb hby d1_37) rfl rfl ?_
          show Steps p.tables e below (T22.setTop (mkF m 38 #[.val (.ref a1), .val (.int n), .val (.int ((0 : Int32) + (1 : Int32)))] [(.ref a1)])) _
          refine st24 _ ?_
          show Steps p.tables e below (T24.setTop (mkF m 41 #[.val (.ref a1), .val (.int n), .val (.int ((0 : Int32) + (1 : Int32)))] [(.ref b6)])) _
          refine XS.iloadN X24.here hx rfl (hb hby d1_41) rfl ?_
          show Steps p.tables e below (T24.setTop (mkF m 42 #[.val (.ref a1), .val (.int n), .val (.int ((0 : Int32) + (1 : Int32)))] [(.int ((0 : Int32) + (1 : Int32))), (.ref b6)])) _
          refine XS.iloadN X24.here hx rfl (hb hby d1_42) rfl ?_
          show Steps p.tables e below (T24.setTop (mkF m 43 #[.val (.ref a1), .val (.int n), .val (.int ((0 : Int32) + (1 : Int32)))] [(.int ((0 : Int32) + (1 : Int32))), (.int ((0 : Int32) + (1 : Int32))), (.ref b6)])) _
          refine st26 _ ?_
          show Steps p.tables e below (T26.setTop (mkF m 44 #[.val (.ref a1), .val (.int n), .val (.int ((0 : Int32) + (1 : Int32)))] [])) _
          refine XS.iinc X26.here hx rfl (hb hby d1_44) rfl (l' := #[.val (.ref a1), .val (.int n), .val (.int (((0 : Int32) + (1 : Int32)) + (1 : Int32)))]) rfl ?_
          show Steps p.tables e below (T26.setTop (mkF m 47 #[.val (.ref a1), .val (.int n), .val (.int (((0 : Int32) + (1 : Int32)) + (1 : Int32)))] [])) _
          refine XS.goto X26.here hx rfl (pc0 := 47) (pc' := 25) rfl (hb hby d1_47) (by decide) (by decide) ?_
          show Steps p.tables e below (T26.setTop (mkF m 25 #[.val (.ref a1), .val (.int n), .val (.int (((0 : Int32) + (1 : Int32)) + (1 : Int32)))] [])) _
          refine XS.iloadN X26.here hx rfl (hb hby d1_25) rfl ?_
          show Steps p.tables e below (T26.setTop (mkF m 26 #[.val (.ref a1), .val (.int n), .val (.int (((0 : Int32) + (1 : Int32)) + (1 : Int32)))] [(.int (((0 : Int32) + (1 : Int32)) + (1 : Int32)))])) _
          refine XS.iloadN X26.here hx rfl (hb hby d1_26) rfl ?_
          show Steps p.tables e below (T26.setTop (mkF m 27 #[.val (.ref a1), .val (.int n), .val (.int (((0 : Int32) + (1 : Int32)) + (1 : Int32)))] [(.int n), (.int (((0 : Int32) + (1 : Int32)) + (1 : Int32)))])) _
          refine XS.icmpNo X26.here hx rfl (hb hby d1_27) rfl (tlt hc27_3).2.1 ?_
          show Steps p.tables e below (T26.setTop (mkF m 30 #[.val (.ref a1), .val (.int n), .val (.int (((0 : Int32) + (1 : Int32)) + (1 : Int32)))] [])) _
          refine XS.aloadN X26.here hx rfl (hb hby d1_30) rfl rfl ?_
          show Steps p.tables e below (T26.setTop (mkF m 31 #[.val (.ref a1), .val (.int n), .val (.int (((0 : Int32) + (1 : Int32)) + (1 : Int32)))] [(.ref a1)])) _
          refine st28 _ ?_
          show Steps p.tables e below (T28.setTop (mkF m 34 #[.val (.ref a1), .val (.int n), .val (.int (((0 : Int32) + (1 : Int32)) + (1 : Int32)))] [(.ref b3)])) _
          refine XS.iloadN X28.here hx rfl (hb hby d1_34) rfl ?_
          show Steps p.tables e below (T28.setTop (mkF m 35 #[.val (.ref a1), .val (.int n), .val (.int (((0 : Int32) + (1 : Int32)) + (1 : Int32)))] [(.int (((0 : Int32) + (1 : Int32)) + (1 : Int32))), (.ref b3)])) _
          refine XS.iloadN X28.here hx rfl (hb hby d1_35) rfl ?_
          show Steps p.tables e below (T28.setTop (mkF m 36 #[.val (.ref a1), .val (.int n), .val (.int (((0 : Int32) + (1 : Int32)) + (1 : Int32)))] [(.int (((0 : Int32) + (1 : Int32)) + (1 : Int32))), (.int (((0 : Int32) + (1 : Int32)) + (1 : Int32))), (.ref b3)])) _
          refine st30 _ ?_
          show Steps p.tables e below (T30.setTop (mkF m 37 #[.val (.ref a1), .val (.int n), .val (.int (((0 : Int32) + (1 : Int32)) + (1 : Int32)))] [])) _
          refine XS.aloadN X30.here hx rfl (hb hby d1_37) rfl rfl ?_
          show Steps p.tables e below (T30.setTop (mkF m 38 #[.val (.ref a1), .val (.int n), .val (.int (((0 : Int32) + (1 : Int32)) + (1 : Int32)))] [(.ref a1)])) _
          refine st31 _ ?_
          show Steps p.tables e below (T31.setTop (mkF m 41 #[.val (.ref a1), .val (.int n), .val (.int (((0 : Int32) + (1 : Int32)) + (1 : Int32)))] [(.ref b6)])) _
          refine XS.iloadN X31.here hx rfl (hb hby d1_41) rfl ?_
          show Steps p.tables e below (T31.setTop (mkF m 42 #[.val (.ref a1), .val (.int n), .val (.int (((0 : Int32) + (1 : Int32)) + (1 : Int32)))] [(.int (((0 : Int32) + (1 : Int32)) + (1 : Int32))), (.ref b6)])) _
          refine XS.iloadN X31.here hx rfl (hb hby d1_42) rfl ?_
          show Steps p.tables e below (T31.setTop (mkF m 43 #[.val (.ref a1), .val (.int n), .val (.int (((0 : Int32) + (1 : Int32)) + (1 : Int32)))] [(.int (((0 : Int32) + (1 : Int32)) + (1 : Int32))), (.int (((0 : Int32) + (1 : Int32)) + (1 : Int32))), (.ref b6)])) _
          refine st33 _ ?_
          show Steps p.tables e below (T33.setTop (mkF m 44 #[.val (.ref a1), .val (.int n), .val (.int (((0 : Int32) + (1 : Int32)) + (1 : Int32)))] [])) _
          refine XS.iinc X33.here hx rfl (hb hby d1_44) rfl (l' := #[.val (.ref a1), .val (.int n), .val (.int ((((0 : Int32) + (1 : Int32)) + (1 : Int32)) + (1 : Int32)))]) rfl ?_
          show Steps p.tables e below (T33.setTop (mkF m 47 #[.val (.ref a1), .val (.int n), .val (.int ((((0 : Int32) + (1 : Int32)) + (1 : Int32)) + (1 : Int32)))] [])) _
          refine XS.goto X33.here hx rfl (pc0 := 47) (pc' := 25) rfl (hb hby d1_47) (by decide) (by decide) ?_
          show Steps p.tables e below (T33.setTop (mkF m 25 #[.val (.ref a1), .val (.int n), .val (.int ((((0 : Int32) + (1 : Int32)) + (1 : Int32)) + (1 : Int32)))] [])) _
          refine XS.iloadN X33.here hx rfl (hb hby d1_25) rfl ?_
          show Steps p.tables e below (T33.setTop (mkF m 26 #[.val (.ref a1), .val (.int n), .val (.int ((((0 : Int32) + (1 : Int32)) + (1 : Int32)) + (1 : Int32)))] [(.int ((((0 : Int32) + (1 : Int32)) + (1 : Int32)) + (1 : Int32)))])) _
          refine XS.iloadN X33.here hx rfl (hb hby d1_26) rfl ?_
          show Steps p.tables e below (T33.setTop (mkF m 27 #[.val (.ref a1), .val (.int n), .val (.int ((((0 : Int32) + (1 : Int32)) + (1 : Int32)) + (1 : Int32)))] [(.int n), (.int ((((0 : Int32) + (1 : Int32)) + (1 : Int32)) + (1 : Int32)))])) _
          refine XS.icmpYes X33.here hx rfl (pc0 := 27) (pc' := 50) rfl (hb hby d1_27) rfl (flt hc27_4).2.1 (by decide) (by decide) ?_
          show Steps p.tables e below (T33.setTop (mkF m 50 #[.val (.ref a1), .val (.int n), .val (.int ((((0 : Int32) + (1 : Int32)) + (1 : Int32)) + (1 : Int32)))] [])) _
          refine XS.aloadN X33.here hx rfl (hb hby d1_50) rfl rfl ?_
          show Steps p.tables e below (T33.setTop (mkF m 51 #[.val (.ref a1), .val (.int n), .val (.int ((((0 : Int32) + (1 : Int32)) + (1 : Int32)) + (1 : Int32)))] [(.ref a1)])) _
          refine XS.iloadN X33.here hx rfl (hb hby d1_51) rfl ?_
          show Steps p.tables e below (T33.setTop (mkF m 52 #[.val (.ref a1), .val (.int n), .val (.int ((((0 : Int32) + (1 : Int32)) + (1 : Int32)) + (1 : Int32)))] [(.int n), (.ref a1)])) _
          refine st88 _ ?_
          show Steps p.tables e below (T88.setTop (mkF m 54 #[.val (.ref a1), .val (.int n), .val (.int ((((0 : Int32) + (1 : Int32)) + (1 : Int32)) + (1 : Int32)))] [(.ref b88), (.ref a1)])) _
          refine st93 _ ?_
          show Steps p.tables e below (T93.setTop (mkF m 57 #[.val (.ref a1), .val (.int n), .val (.int ((((0 : Int32) + (1 : Int32)) + (1 : Int32)) + (1 : Int32)))] [])) _
          refine XS.aloadN X93.here hx rfl (hb hby d1_57) rfl rfl ?_
          show Steps p.tables e below (T93.setTop (mkF m 58 #[.val (.ref a1), .val (.int n), .val (.int ((((0 : Int32) + (1 : Int32)) + (1 : Int32)) + (1 : Int32)))] [(.ref a1)])) _
          refine XS.iloadN X93.here hx rfl (hb hby d1_58) rfl ?_
          show Steps p.tables e below (T93.setTop (mkF m 59 #[.val (.ref a1), .val (.int n), .val (.int ((((0 : Int32) + (1 : Int32)) + (1 : Int32)) + (1 : Int32)))] [(.int n), (.ref a1)])) _
          refine st94 _ ?_
          show Steps p.tables e below (T94.setTop (mkF m 61 #[.val (.ref a1), .val (.int n), .val (.int ((((0 : Int32) + (1 : Int32)) + (1 : Int32)) + (1 : Int32)))] [(.ref b94), (.ref a1)])) _
          refine st96 _ ?_
          show Steps p.tables e below (T96.setTop (mkF m 64 #[.val (.ref a1), .val (.int n), .val (.int ((((0 : Int32) + (1 : Int32)) + (1 : Int32)) + (1 : Int32)))] [])) _
          refine XS.aloadN X96.here hx rfl (hb hby d1_64) rfl rfl ?_
          show Steps p.tables e below (T96.setTop (mkF m 65 #[.val (.ref a1), .val (.int n), .val (.int ((((0 : Int32) + (1 : Int32)) + (1 : Int32)) + (1 : Int32)))] [(.ref a1)])) _
          refine XS.iloadN X96.here hx rfl (hb hby d1_65) rfl ?_
          show Steps p.tables e below (T96.setTop (mkF m 66 #[.val (.ref a1), .val (.int n), .val (.int ((((0 : Int32) + (1 : Int32)) + (1 : Int32)) + (1 : Int32)))] [(.int n), (.ref a1)])) _
          refine st97 _ ?_
          show Steps p.tables e below (T97.setTop (mkF m 68 #[.val (.ref a1), .val (.int n), .val (.int ((((0 : Int32) + (1 : Int32)) + (1 : Int32)) + (1 : Int32)))] [(.ref b97), (.ref a1)])) _
          refine st101 _ ?_
          show Steps p.tables e below (T101.setTop (mkF m 71 #[.val (.ref a1), .val (.int n), .val (.int ((((0 : Int32) + (1 : Int32)) + (1 : Int32)) + (1 : Int32)))] [])) _
          refine XS.aloadN X101.here hx rfl (hb hby d1_71) rfl rfl ?_
          show Steps p.tables e below (T101.setTop (mkF m 72 #[.val (.ref a1), .val (.int n), .val (.int ((((0 : Int32) + (1 : Int32)) + (1 : Int32)) + (1 : Int32)))] [(.ref a1)])) _
          refine XS.iloadN X101.here hx rfl (hb hby d1_72) rfl ?_
          show Steps p.tables e below (T101.setTop (mkF m 73 #[.val (.ref a1), .val (.int n), .val (.int ((((0 : Int32) + (1 : Int32)) + (1 : Int32)) + (1 : Int32)))] [(.int n), (.ref a1)])) _
          refine st102 _ ?_
          show Steps p.tables e below (T102.setTop (mkF m 75 #[.val (.ref a1), .val (.int n), .val (.int ((((0 : Int32) + (1 : Int32)) + (1 : Int32)) + (1 : Int32)))] [(.ref b102), (.ref a1)])) _
          refine st105 _ ?_
          show Steps p.tables e below (T105.setTop (mkF m 78 #[.val (.ref a1), .val (.int n), .val (.int ((((0 : Int32) + (1 : Int32)) + (1 : Int32)) + (1 : Int32)))] [])) _
          refine XS.aloadN X105.here hx rfl (hb hby d1_78) rfl rfl ?_
          show Steps p.tables e below (T105.setTop (mkF m 79 #[.val (.ref a1), .val (.int n), .val (.int ((((0 : Int32) + (1 : Int32)) + (1 : Int32)) + (1 : Int32)))] [(.ref a1)])) _
          refine st107 _ ?_
          show Steps p.tables e below (T107.setTop (mkF m 82 #[.val (.ref a1), .val (.int n), .val (.int ((((0 : Int32) + (1 : Int32)) + (1 : Int32)) + (1 : Int32)))] [(.ref b97)])) _
          refine XS.iconst X107.here hx rfl (hb hby d1_82) ?_
          show Steps p.tables e below (T107.setTop (mkF m 83 #[.val (.ref a1), .val (.int n), .val (.int ((((0 : Int32) + (1 : Int32)) + (1 : Int32)) + (1 : Int32)))] [(.int (0 : Int32)), (.ref b97)])) _
          refine XS.iloadN X107.here hx rfl (hb hby d1_83) rfl ?_
          show Steps p.tables e below (T107.setTop (mkF m 84 #[.val (.ref a1), .val (.int n), .val (.int ((((0 : Int32) + (1 : Int32)) + (1 : Int32)) + (1 : Int32)))] [(.int n), (.int (0 : Int32)), (.ref b97)])) _
          refine st110 _ ?_
          show Steps p.tables e below (T110.setTop (mkF m 85 #[.val (.ref a1), .val (.int n), .val (.int ((((0 : Int32) + (1 : Int32)) + (1 : Int32)) + (1 : Int32)))] [])) _
          refine XS.aloadN X110.here hx rfl (hb hby d1_85) rfl rfl ?_
          show Steps p.tables e below (T110.setTop (mkF m 86 #[.val (.ref a1), .val (.int n), .val (.int ((((0 : Int32) + (1 : Int32)) + (1 : Int32)) + (1 : Int32)))] [(.ref a1)])) _
          refine XS.iloadN X110.here hx rfl (hb hby d1_86) rfl ?_
          show Steps p.tables e below (T110.setTop (mkF m 87 #[.val (.ref a1), .val (.int n), .val (.int ((((0 : Int32) + (1 : Int32)) + (1 : Int32)) + (1 : Int32)))] [(.int n), (.ref a1)])) _
          refine st111 _ ?_
          show Steps p.tables e below (T111.setTop (mkF m 89 #[.val (.ref a1), .val (.int n), .val (.int ((((0 : Int32) + (1 : Int32)) + (1 : Int32)) + (1 : Int32)))] [(.ref b111), (.ref a1)])) _
          refine st115 _ ?_
          show Steps p.tables e below (T115.setTop (mkF m 92 #[.val (.ref a1), .val (.int n), .val (.int ((((0 : Int32) + (1 : Int32)) + (1 : Int32)) + (1 : Int32)))] [])) _
          refine XS.aloadN X115.here hx rfl (hb hby d1_92) rfl rfl ?_
          show Steps p.tables e below (T115.setTop (mkF m 93 #[.val (.ref a1), .val (.int n), .val (.int ((((0 : Int32) + (1 : Int32)) + (1 : Int32)) + (1 : Int32)))] [(.ref a1)])) _
          refine XS.iloadN X115.here hx rfl (hb hby d1_93) rfl ?_
          show Steps p.tables e below (T115.setTop (mkF m 94 #[.val (.ref a1), .val (.int n), .val (.int ((((0 : Int32) + (1 : Int32)) + (1 : Int32)) + (1 : Int32)))] [(.int n), (.ref a1)])) _
          refine st116 _ ?_
          show Steps p.tables e below (T116.setTop (mkF m 96 #[.val (.ref a1), .val (.int n), .val (.int ((((0 : Int32) + (1 : Int32)) + (1 : Int32)) + (1 : Int32)))] [(.ref b116), (.ref a1)])) _
          refine st120 _ ?_
          show Steps p.tables e below (T120.setTop (mkF m 99 #[.val (.ref a1), .val (.int n), .val (.int ((((0 : Int32) + (1 : Int32)) + (1 : Int32)) + (1 : Int32)))] [])) _
          exact X120.returnOut hx Bd.returns (hb hby d1_99) hr
        · show Q1 Z a1 n h0 n0 _ T120.heap _
          rw [e120]
          exact ⟨rfl, N120, b3, b6, b88, b94, b97, b102, b111, b116, (((((((((((((((((((((((((Keep.refl h0 [a1]).wr W2 (Or.inl (List.mem_of_getElem? (i := 0) rfl))).ext E3).wr W5 (Or.inl (List.mem_of_getElem? (i := 0) rfl))).ext E6).wr W10 (Or.inl (List.mem_of_getElem? (i := 0) rfl))).wr W15 (Or.inr sz_b3)).wr W19 (Or.inr sz_b6)).wr W22 (Or.inr sz_b3)).wr W26 (Or.inr sz_b6)).wr W30 (Or.inr sz_b3)).wr W33 (Or.inr sz_b6)).ext E88).wr W93 (Or.inl (List.mem_of_getElem? (i := 0) rfl))).ext E94).wr W96 (Or.inl (List.mem_of_getElem? (i := 0) rfl))).ext E97).wr W101 (Or.inl (List.mem_of_getElem? (i := 0) rfl))).ext E102).wr W105 (Or.inl (List.mem_of_getElem? (i := 0) rfl))).wr W110 (Or.inr sz_b97)).ext E111).wr W115 (Or.inl (List.mem_of_getElem? (i := 0) rfl))).ext E116).wr W120 (Or.inl (List.mem_of_getElem? (i := 0) rfl))), ⟨⟨g_a1, g_b3, g_b6, g_b88, g_b94, g_b97, g_b102, g_b111, g_b116⟩, ⟨ne3_a1, ne6_a1, ne88_a1, ne94_a1, ne97_a1, ne102_a1, ne111_a1, ne116_a1⟩, ⟨ne6_b3, ne88_b3, ne94_b3, ne97_b3, ne102_b3, ne111_b3, ne116_b3, ne88_b6, ne94_b6, ne97_b6, ne102_b6, ne111_b6, ne116_b6, ne94_b88, ne97_b88, ne102_b88, ne111_b88, ne116_b88, ne97_b94, ne102_b94, ne111_b94, ne116_b94, ne102_b97, ne111_b97, ne116_b97, ne111_b102, ne116_b102, ne116_b111⟩⟩, ⟨sz_b3, sz_b6, sz_b88, sz_b94, sz_b97, sz_b102, sz_b111, sz_b116⟩, (by rw [hE]; exact ⟨fx121, fx122, fx123, fx124, fx125, fx126, fx127, fx128, Fw120, fx129, fx130, ⟨_, fx131⟩, ⟨_, fx132⟩, ⟨_, fx133⟩, ⟨_, fx134⟩, ⟨_, fx135⟩, ⟨_, fx136⟩, ⟨_, fx137⟩, ⟨_, (V_b116.other W120 (Ne.symm ne116_a1))⟩⟩)⟩
    ·
      obtain ⟨T138, h138, k138, X138, e138, E138, A138, st138⟩ := newP X26 hx hZ (hw _ (List.mem_of_getElem? (i := 1) rfl)) e26 (g := (mkF m 52 #[.val (.ref a1), .val (.int n), .val (.int (((0 : Int32) + (1 : Int32)) + (1 : Int32)))] [(.int n), (.ref a1)])) rfl (hb hby d1_52) rfl hn0 (cap := 4) hn4 (by decide) (by decide) (by decide)
      obtain ⟨b138, g138⟩ : ∃ z, z = h26.size := ⟨_, rfl⟩
      rw [← g138] at A138 st138
      have lt138_a1 : a1 < h26.size := Nat.lt_of_lt_of_le lt6_a1 (Nat.le_trans (Nat.le_trans (Nat.le_trans (Nat.le_trans (Nat.le_trans (Nat.le_trans (Nat.le_refl _) E6.1) (Keep.of_wr W10).1) (Keep.of_wr W15).1) (Keep.of_wr W19).1) (Keep.of_wr W22).1) (Keep.of_wr W26).1)
      have ne138_a1 : a1 ≠ b138 := Nat.ne_of_lt (Nat.lt_of_lt_of_le lt138_a1 (Nat.le_of_eq g138.symm))
      have lt138_b3 : b3 < h26.size := Nat.lt_of_lt_of_le lt6_b3 (Nat.le_trans (Nat.le_trans (Nat.le_trans (Nat.le_trans (Nat.le_trans (Nat.le_trans (Nat.le_refl _) E6.1) (Keep.of_wr W10).1) (Keep.of_wr W15).1) (Keep.of_wr W19).1) (Keep.of_wr W22).1) (Keep.of_wr W26).1)
      have ne138_b3 : b3 ≠ b138 := Nat.ne_of_lt (Nat.lt_of_lt_of_le lt138_b3 (Nat.le_of_eq g138.symm))
      have lt138_b6 : b6 < h26.size := Nat.lt_of_lt_of_le V_b6.lt (Nat.le_trans (Nat.le_trans (Nat.le_trans (Nat.le_trans (Nat.le_trans (Nat.le_refl _) (Keep.of_wr W10).1) (Keep.of_wr W15).1) (Keep.of_wr W19).1) (Keep.of_wr W22).1) (Keep.of_wr W26).1)
      have ne138_b6 : b6 ≠ b138 := Nat.ne_of_lt (Nat.lt_of_lt_of_le lt138_b6 (Nat.le_of_eq g138.symm))
      have zz139 : n0 ≤ h26.size := (Nat.le_trans (Nat.le_trans (Nat.le_trans (Nat.le_trans (Nat.le_trans (Nat.le_trans zz7 E6.1) (Keep.of_wr W10).1) (Keep.of_wr W15).1) (Keep.of_wr W19).1) (Keep.of_wr W22).1) (Keep.of_wr W26).1)
      have g_b138 : n0 ≤ b138 := Nat.le_trans zz139 (Nat.le_of_eq g138.symm)
      have zz140 : h0.size ≤ h26.size := (Nat.le_trans (Nat.le_trans (Nat.le_trans (Nat.le_trans (Nat.le_trans (Nat.le_trans zz8 E6.1) (Keep.of_wr W10).1) (Keep.of_wr W15).1) (Keep.of_wr W19).1) (Keep.of_wr W22).1) (Keep.of_wr W26).1)
      have sz_b138 : h0.size ≤ b138 := Nat.le_trans zz140 (Nat.le_of_eq g138.symm)
      have V_b138 : Arv Z h138 b138 k138 .int n [(.int (0 : Int32)), (.int (0 : Int32)), (.int (0 : Int32)), (.int (0 : Int32))] (.int (0 : Int32)) := (Arv.new A138 hn0).pad (pad_rep [] (.int (0 : Int32)) 4)
      have fx141 := ((((((((((F_blockOf.other W2 (Or.inr (slot_ne (Or.inr (hw _ (List.mem_of_getElem? (i := 18) rfl))) (Or.inl (hw _ (List.mem_of_getElem? (i := 12) rfl))) (by decide) (t := (.array .int)) (t' := .int) (by decide) (by decide)))).ext E3).other W5 (Or.inr (slot_ne (Or.inr (hw _ (List.mem_of_getElem? (i := 18) rfl))) (Or.inr (hw _ (List.mem_of_getElem? (i := 14) rfl))) (by decide) (t := (.array .int)) (t' := (.array .int)) (by decide) (by decide)))).ext E6).other W10 (Or.inr (slot_ne (Or.inr (hw _ (List.mem_of_getElem? (i := 18) rfl))) (Or.inr (hw _ (List.mem_of_getElem? (i := 16) rfl))) (by decide) (t := (.array .int)) (t' := (.array .int)) (by decide) (by decide)))).other W15 (Or.inl ne3_a1)).other W19 (Or.inl ne6_a1)).other W22 (Or.inl ne3_a1)).other W26 (Or.inl ne6_a1)).ext E138)
      have fx142 := ((((((((((E_a1.wr W2).ext E3).wr W5).ext E6).wr W10).wr W15).wr W19).wr W22).wr W26).ext E138)
      obtain ⟨T143, h143, X143, e143, W143, st143⟩ := putF X138 hx hZ hown (host := "") (Or.inl (hw _ (List.mem_of_getElem? (i := 17) rfl))) Via.refl e138 fx141 fx142 (Or.inr ⟨(hw _ (List.mem_of_getElem? (i := 18) rfl)), rfl, hnm⟩) (hw _ (List.mem_of_getElem? (i := 3) rfl)) (ty := (.array .int)) (by decide) rfl rfl (g := (mkF m 54 #[.val (.ref a1), .val (.int n), .val (.int (((0 : Int32) + (1 : Int32)) + (1 : Int32)))] [(.ref b138), (.ref a1)])) rfl rfl (hb hby d1_54)
      have Fw143 := fx141.same W143
      have N143 := Fr.snoc X143 N26 g_a1
      obtain ⟨T144, h144, k144, X144, e144, E144, A144, st144⟩ := newP X143 hx hZ (hw _ (List.mem_of_getElem? (i := 1) rfl)) e143 (g := (mkF m 59 #[.val (.ref a1), .val (.int n), .val (.int (((0 : Int32) + (1 : Int32)) + (1 : Int32)))] [(.int n), (.ref a1)])) rfl (hb hby d1_59) rfl hn0 (cap := 4) hn4 (by decide) (by decide) (by decide)
      obtain ⟨b144, g144⟩ : ∃ z, z = h143.size := ⟨_, rfl⟩
      rw [← g144] at A144 st144
      have lt144_a1 : a1 < h143.size := Nat.lt_of_lt_of_le lt138_a1 (Nat.le_trans (Nat.le_trans (Nat.le_refl _) E138.1) (Keep.of_wr W143).1)
      have ne144_a1 : a1 ≠ b144 := Nat.ne_of_lt (Nat.lt_of_lt_of_le lt144_a1 (Nat.le_of_eq g144.symm))
      have lt144_b3 : b3 < h143.size := Nat.lt_of_lt_of_le lt138_b3 (Nat.le_trans (Nat.le_trans (Nat.le_refl _) E138.1) (Keep.of_wr W143).1)
      have ne144_b3 : b3 ≠ b144 := Nat.ne_of_lt (Nat.lt_of_lt_of_le lt144_b3 (Nat.le_of_eq g144.symm))
      have lt144_b6 : b6 < h143.size := Nat.lt_of_lt_of_le lt138_b6 (Nat.le_trans (Nat.le_trans (Nat.le_refl _) E138.1) (Keep.of_wr W143).1)
      have ne144_b6 : b6 ≠ b144 := Nat.ne_of_lt (Nat.lt_of_lt_of_le lt144_b6 (Nat.le_of_eq g144.symm))
      have lt144_b138 : b138 < h143.size := Nat.lt_of_lt_of_le V_b138.lt (Nat.le_trans (Nat.le_refl _) (Keep.of_wr W143).1)
      have ne144_b138 : b138 ≠ b144 := Nat.ne_of_lt (Nat.lt_of_lt_of_le lt144_b138 (Nat.le_of_eq g144.symm))
      have zz145 : n0 ≤ h143.size := (Nat.le_trans (Nat.le_trans zz139 E138.1) (Keep.of_wr W143).1)
      have g_b144 : n0 ≤ b144 := Nat.le_trans zz145 (Nat.le_of_eq g144.symm)
      have zz146 : h0.size ≤ h143.size := (Nat.le_trans (Nat.le_trans zz140 E138.1) (Keep.of_wr W143).1)
      have sz_b144 : h0.size ≤ b144 := Nat.le_trans zz146 (Nat.le_of_eq g144.symm)
      have V_b144 : Arv Z h144 b144 k144 .int n [(.int (0 : Int32)), (.int (0 : Int32)), (.int (0 : Int32)), (.int (0 : Int32))] (.int (0 : Int32)) := (Arv.new A144 hn0).pad (pad_rep [] (.int (0 : Int32)) 4)
      have fx147 := ((((((((((((F_blockBegin.other W2 (Or.inr (slot_ne (Or.inr (hw _ (List.mem_of_getElem? (i := 20) rfl))) (Or.inl (hw _ (List.mem_of_getElem? (i := 12) rfl))) (by decide) (t := (.array .int)) (t' := .int) (by decide) (by decide)))).ext E3).other W5 (Or.inr (slot_ne (Or.inr (hw _ (List.mem_of_getElem? (i := 20) rfl))) (Or.inr (hw _ (List.mem_of_getElem? (i := 14) rfl))) (by decide) (t := (.array .int)) (t' := (.array .int)) (by decide) (by decide)))).ext E6).other W10 (Or.inr (slot_ne (Or.inr (hw _ (List.mem_of_getElem? (i := 20) rfl))) (Or.inr (hw _ (List.mem_of_getElem? (i := 16) rfl))) (by decide) (t := (.array .int)) (t' := (.array .int)) (by decide) (by decide)))).other W15 (Or.inl ne3_a1)).other W19 (Or.inl ne6_a1)).other W22 (Or.inl ne3_a1)).other W26 (Or.inl ne6_a1)).ext E138).other W143 (Or.inr (slot_ne (Or.inr (hw _ (List.mem_of_getElem? (i := 20) rfl))) (Or.inr (hw _ (List.mem_of_getElem? (i := 18) rfl))) (by decide) (t := (.array .int)) (t' := (.array .int)) (by decide) (by decide)))).ext E144)
      obtain ⟨T148, h148, X148, e148, W148, st148⟩ := putF X144 hx hZ hown (host := "") (Or.inl (hw _ (List.mem_of_getElem? (i := 19) rfl))) Via.refl e144 fx147 ((fx142.wr W143).ext E144) (Or.inr ⟨(hw _ (List.mem_of_getElem? (i := 20) rfl)), rfl, hnm⟩) (hw _ (List.mem_of_getElem? (i := 3) rfl)) (ty := (.array .int)) (by decide) rfl rfl (g := (mkF m 61 #[.val (.ref a1), .val (.int n), .val (.int (((0 : Int32) + (1 : Int32)) + (1 : Int32)))] [(.ref b144), (.ref a1)])) rfl rfl (hb hby d1_61)
      have Fw148 := fx147.same W148
      have N148 := Fr.snoc X148 N143 g_a1
      obtain ⟨T149, h149, k149, X149, e149, E149, A149, st149⟩ := newP X148 hx hZ (hw _ (List.mem_of_getElem? (i := 1) rfl)) e148 (g := (mkF m 66 #[.val (.ref a1), .val (.int n), .val (.int (((0 : Int32) + (1 : Int32)) + (1 : Int32)))] [(.int n), (.ref a1)])) rfl (hb hby d1_66) rfl hn0 (cap := 4) hn4 (by decide) (by decide) (by decide)
      obtain ⟨b149, g149⟩ : ∃ z, z = h148.size := ⟨_, rfl⟩
      rw [← g149] at A149 st149
      have lt149_a1 : a1 < h148.size := Nat.lt_of_lt_of_le lt144_a1 (Nat.le_trans (Nat.le_trans (Nat.le_refl _) E144.1) (Keep.of_wr W148).1)
      have ne149_a1 : a1 ≠ b149 := Nat.ne_of_lt (Nat.lt_of_lt_of_le lt149_a1 (Nat.le_of_eq g149.symm))
      have lt149_b3 : b3 < h148.size := Nat.lt_of_lt_of_le lt144_b3 (Nat.le_trans (Nat.le_trans (Nat.le_refl _) E144.1) (Keep.of_wr W148).1)
      have ne149_b3 : b3 ≠ b149 := Nat.ne_of_lt (Nat.lt_of_lt_of_le lt149_b3 (Nat.le_of_eq g149.symm))
      have lt149_b6 : b6 < h148.size := Nat.lt_of_lt_of_le lt144_b6 (Nat.le_trans (Nat.le_trans (Nat.le_refl _) E144.1) (Keep.of_wr W148).1)
      have ne149_b6 : b6 ≠ b149 := Nat.ne_of_lt (Nat.lt_of_lt_of_le lt149_b6 (Nat.le_of_eq g149.symm))
      have lt149_b138 : b138 < h148.size := Nat.lt_of_lt_of_le lt144_b138 (Nat.le_trans (Nat.le_trans (Nat.le_refl _) E144.1) (Keep.of_wr W148).1)
      have ne149_b138 : b138 ≠ b149 := Nat.ne_of_lt (Nat.lt_of_lt_of_le lt149_b138 (Nat.le_of_eq g149.symm))
      have lt149_b144 : b144 < h148.size := Nat.lt_of_lt_of_le V_b144.lt (Nat.le_trans (Nat.le_refl _) (Keep.of_wr W148).1)
      have ne149_b144 : b144 ≠ b149 := Nat.ne_of_lt (Nat.lt_of_lt_of_le lt149_b144 (Nat.le_of_eq g149.symm))
      have zz150 : n0 ≤ h148.size := (Nat.le_trans (Nat.le_trans zz145 E144.1) (Keep.of_wr W148).1)
      have g_b149 : n0 ≤ b149 := Nat.le_trans zz150 (Nat.le_of_eq g149.symm)
      have zz151 : h0.size ≤ h148.size := (Nat.le_trans (Nat.le_trans zz146 E144.1) (Keep.of_wr W148).1)
      have sz_b149 : h0.size ≤ b149 := Nat.le_trans zz151 (Nat.le_of_eq g149.symm)
      have V_b149 : Arv Z h149 b149 k149 .int n [(.int (0 : Int32)), (.int (0 : Int32)), (.int (0 : Int32)), (.int (0 : Int32))] (.int (0 : Int32)) := (Arv.new A149 hn0).pad (pad_rep [] (.int (0 : Int32)) 4)
      have fx152 := ((((((((((((((F_blockEnd.other W2 (Or.inr (slot_ne (Or.inr (hw _ (List.mem_of_getElem? (i := 22) rfl))) (Or.inl (hw _ (List.mem_of_getElem? (i := 12) rfl))) (by decide) (t := (.array .int)) (t' := .int) (by decide) (by decide)))).ext E3).other W5 (Or.inr (slot_ne (Or.inr (hw _ (List.mem_of_getElem? (i := 22) rfl))) (Or.inr (hw _ (List.mem_of_getElem? (i := 14) rfl))) (by decide) (t := (.array .int)) (t' := (.array .int)) (by decide) (by decide)))).ext E6).other W10 (Or.inr (slot_ne (Or.inr (hw _ (List.mem_of_getElem? (i := 22) rfl))) (Or.inr (hw _ (List.mem_of_getElem? (i := 16) rfl))) (by decide) (t := (.array .int)) (t' := (.array .int)) (by decide) (by decide)))).other W15 (Or.inl ne3_a1)).other W19 (Or.inl ne6_a1)).other W22 (Or.inl ne3_a1)).other W26 (Or.inl ne6_a1)).ext E138).other W143 (Or.inr (slot_ne (Or.inr (hw _ (List.mem_of_getElem? (i := 22) rfl))) (Or.inr (hw _ (List.mem_of_getElem? (i := 18) rfl))) (by decide) (t := (.array .int)) (t' := (.array .int)) (by decide) (by decide)))).ext E144).other W148 (Or.inr (slot_ne (Or.inr (hw _ (List.mem_of_getElem? (i := 22) rfl))) (Or.inr (hw _ (List.mem_of_getElem? (i := 20) rfl))) (by decide) (t := (.array .int)) (t' := (.array .int)) (by decide) (by decide)))).ext E149)
      obtain ⟨T153, h153, X153, e153, W153, st153⟩ := putF X149 hx hZ hown (host := "") (Or.inl (hw _ (List.mem_of_getElem? (i := 21) rfl))) Via.refl e149 fx152 ((((fx142.wr W143).ext E144).wr W148).ext E149) (Or.inr ⟨(hw _ (List.mem_of_getElem? (i := 22) rfl)), rfl, hnm⟩) (hw _ (List.mem_of_getElem? (i := 3) rfl)) (ty := (.array .int)) (by decide) rfl rfl (g := (mkF m 68 #[.val (.ref a1), .val (.int n), .val (.int (((0 : Int32) + (1 : Int32)) + (1 : Int32)))] [(.ref b149), (.ref a1)])) rfl rfl (hb hby d1_68)
      have Fw153 := fx152.same W153
      have N153 := Fr.snoc X153 N148 g_a1
      obtain ⟨T154, h154, k154, X154, e154, E154, A154, st154⟩ := newP X153 hx hZ (hw _ (List.mem_of_getElem? (i := 1) rfl)) e153 (g := (mkF m 73 #[.val (.ref a1), .val (.int n), .val (.int (((0 : Int32) + (1 : Int32)) + (1 : Int32)))] [(.int n), (.ref a1)])) rfl (hb hby d1_73) rfl hn0 (cap := 4) hn4 (by decide) (by decide) (by decide)
      obtain ⟨b154, g154⟩ : ∃ z, z = h153.size := ⟨_, rfl⟩
      rw [← g154] at A154 st154
      have lt154_a1 : a1 < h153.size := Nat.lt_of_lt_of_le lt149_a1 (Nat.le_trans (Nat.le_trans (Nat.le_refl _) E149.1) (Keep.of_wr W153).1)
      have ne154_a1 : a1 ≠ b154 := Nat.ne_of_lt (Nat.lt_of_lt_of_le lt154_a1 (Nat.le_of_eq g154.symm))
      have lt154_b3 : b3 < h153.size := Nat.lt_of_lt_of_le lt149_b3 (Nat.le_trans (Nat.le_trans (Nat.le_refl _) E149.1) (Keep.of_wr W153).1)
      have ne154_b3 : b3 ≠ b154 := Nat.ne_of_lt (Nat.lt_of_lt_of_le lt154_b3 (Nat.le_of_eq g154.symm))
      have lt154_b6 : b6 < h153.size := Nat.lt_of_lt_of_le lt149_b6 (Nat.le_trans (Nat.le_trans (Nat.le_refl _) E149.1) (Keep.of_wr W153).1)
      have ne154_b6 : b6 ≠ b154 := Nat.ne_of_lt (Nat.lt_of_lt_of_le lt154_b6 (Nat.le_of_eq g154.symm))
      have lt154_b138 : b138 < h153.size := Nat.lt_of_lt_of_le lt149_b138 (Nat.le_trans (Nat.le_trans (Nat.le_refl _) E149.1) (Keep.of_wr W153).1)
      have ne154_b138 : b138 ≠ b154 := Nat.ne_of_lt (Nat.lt_of_lt_of_le lt154_b138 (Nat.le_of_eq g154.symm))
      have lt154_b144 : b144 < h153.size := Nat.lt_of_lt_of_le lt149_b144 (Nat.le_trans (Nat.le_trans (Nat.le_refl _) E149.1) (Keep.of_wr W153).1)
      have ne154_b144 : b144 ≠ b154 := Nat.ne_of_lt (Nat.lt_of_lt_of_le lt154_b144 (Nat.le_of_eq g154.symm))
      have lt154_b149 : b149 < h153.size := Nat.lt_of_lt_of_le V_b149.lt (Nat.le_trans (Nat.le_refl _) (Keep.of_wr W153).1)
      have ne154_b149 : b149 ≠ b154 := Nat.ne_of_lt (Nat.lt_of_lt_of_le lt154_b149 (Nat.le_of_eq g154.symm))
      have zz155 : n0 ≤ h153.size := (Nat.le_trans (Nat.le_trans zz150 E149.1) (Keep.of_wr W153).1)
      have g_b154 : n0 ≤ b154 := Nat.le_trans zz155 (Nat.le_of_eq g154.symm)
      have zz156 : h0.size ≤ h153.size := (Nat.le_trans (Nat.le_trans zz151 E149.1) (Keep.of_wr W153).1)
      have sz_b154 : h0.size ≤ b154 := Nat.le_trans zz156 (Nat.le_of_eq g154.symm)
      have V_b154 : Arv Z h154 b154 k154 .int n [(.int (0 : Int32)), (.int (0 : Int32)), (.int (0 : Int32)), (.int (0 : Int32))] (.int (0 : Int32)) := (Arv.new A154 hn0).pad (pad_rep [] (.int (0 : Int32)) 4)
      have fx157 := ((((((((((((((((F_markedEnd.other W2 (Or.inr (slot_ne (Or.inr (hw _ (List.mem_of_getElem? (i := 24) rfl))) (Or.inl (hw _ (List.mem_of_getElem? (i := 12) rfl))) (by decide) (t := (.array .int)) (t' := .int) (by decide) (by decide)))).ext E3).other W5 (Or.inr (slot_ne (Or.inr (hw _ (List.mem_of_getElem? (i := 24) rfl))) (Or.inr (hw _ (List.mem_of_getElem? (i := 14) rfl))) (by decide) (t := (.array .int)) (t' := (.array .int)) (by decide) (by decide)))).ext E6).other W10 (Or.inr (slot_ne (Or.inr (hw _ (List.mem_of_getElem? (i := 24) rfl))) (Or.inr (hw _ (List.mem_of_getElem? (i := 16) rfl))) (by decide) (t := (.array .int)) (t' := (.array .int)) (by decide) (by decide)))).other W15 (Or.inl ne3_a1)).other W19 (Or.inl ne6_a1)).other W22 (Or.inl ne3_a1)).other W26 (Or.inl ne6_a1)).ext E138).other W143 (Or.inr (slot_ne (Or.inr (hw _ (List.mem_of_getElem? (i := 24) rfl))) (Or.inr (hw _ (List.mem_of_getElem? (i := 18) rfl))) (by decide) (t := (.array .int)) (t' := (.array .int)) (by decide) (by decide)))).ext E144).other W148 (Or.inr (slot_ne (Or.inr (hw _ (List.mem_of_getElem? (i := 24) rfl))) (Or.inr (hw _ (List.mem_of_getElem? (i := 20) rfl))) (by decide) (t := (.array .int)) (t' := (.array .int)) (by decide) (by decide)))).ext E149).other W153 (Or.inr (slot_ne (Or.inr (hw _ (List.mem_of_getElem? (i := 24) rfl))) (Or.inr (hw _ (List.mem_of_getElem? (i := 22) rfl))) (by decide) (t := (.array .int)) (t' := (.array .int)) (by decide) (by decide)))).ext E154)
      have fx158 := ((((((fx142.wr W143).ext E144).wr W148).ext E149).wr W153).ext E154)
      obtain ⟨T159, h159, X159, e159, W159, st159⟩ := putF X154 hx hZ hown (host := "") (Or.inl (hw _ (List.mem_of_getElem? (i := 23) rfl))) Via.refl e154 fx157 fx158 (Or.inr ⟨(hw _ (List.mem_of_getElem? (i := 24) rfl)), rfl, hnm⟩) (hw _ (List.mem_of_getElem? (i := 3) rfl)) (ty := (.array .int)) (by decide) rfl rfl (g := (mkF m 75 #[.val (.ref a1), .val (.int n), .val (.int (((0 : Int32) + (1 : Int32)) + (1 : Int32)))] [(.ref b154), (.ref a1)])) rfl rfl (hb hby d1_75)
      have Fw159 := fx157.same W159
      have N159 := Fr.snoc X159 N153 g_a1
      have fx160 := ((Fw153.ext E154).other W159 (Or.inr (slot_ne (Or.inr (hw _ (List.mem_of_getElem? (i := 22) rfl))) (Or.inr (hw _ (List.mem_of_getElem? (i := 24) rfl))) (by decide) (t := (.array .int)) (t' := (.array .int)) (by decide) (by decide))))
      obtain ⟨T161, X161, e161, st161⟩ := getF X159 hx hZ hown (host := "") (Or.inl (hw _ (List.mem_of_getElem? (i := 21) rfl))) Via.refl e159 fx160 (g := (mkF m 79 #[.val (.ref a1), .val (.int n), .val (.int (((0 : Int32) + (1 : Int32)) + (1 : Int32)))] [(.ref a1)])) rfl rfl (hb hby d1_79)
      have fx163 := (((V_b149.other W153 (Ne.symm ne149_a1)).ext E154).other W159 (Ne.symm ne149_a1))
      have Vo_162 := fx163
      obtain ⟨Cl_162, Ar_162, Kc_162, Sz_162, Nn_162, Hs_162, Gf_162⟩ := Vo_162
      obtain ⟨T164, h164, X164, e164, W164, st164⟩ := stI X161 hx hZ e161 Ar_162 (j := (0 : Int32)) (inb_of Sz_162 ⟨by decide, hn1⟩) (g := (mkF m 84 #[.val (.ref a1), .val (.int n), .val (.int (((0 : Int32) + (1 : Int32)) + (1 : Int32)))] [(.int n), (.int (0 : Int32)), (.ref b149)])) rfl rfl (hb hby d1_84)
      have Vs164 : Arv Z h164 b149 k149 .int n [(.int n), (.int (0 : Int32)), (.int (0 : Int32)), (.int (0 : Int32))] (.int (0 : Int32)) := Arv.set Ar_162 Kc_162 Sz_162 Nn_162 Hs_162 Gf_162 rfl W164 0 (by decide) (Nat.le_of_ble_eq_true rfl)
      have N164 := Fr.snoc X164 N159 g_b149
      obtain ⟨T165, h165, k165, X165, e165, E165, A165, st165⟩ := newP X164 hx hZ (hw _ (List.mem_of_getElem? (i := 1) rfl)) e164 (g := (mkF m 87 #[.val (.ref a1), .val (.int n), .val (.int (((0 : Int32) + (1 : Int32)) + (1 : Int32)))] [(.int n), (.ref a1)])) rfl (hb hby d1_87) rfl hn0 (cap := 4) hn4 (by decide) (by decide) (by decide)
      obtain ⟨b165, g165⟩ : ∃ z, z = h164.size := ⟨_, rfl⟩
      rw [← g165] at A165 st165
      have lt165_a1 : a1 < h164.size := Nat.lt_of_lt_of_le lt154_a1 (Nat.le_trans (Nat.le_trans (Nat.le_trans (Nat.le_refl _) E154.1) (Keep.of_wr W159).1) (Keep.of_wr W164).1)
      have ne165_a1 : a1 ≠ b165 := Nat.ne_of_lt (Nat.lt_of_lt_of_le lt165_a1 (Nat.le_of_eq g165.symm))
      have lt165_b3 : b3 < h164.size := Nat.lt_of_lt_of_le lt154_b3 (Nat.le_trans (Nat.le_trans (Nat.le_trans (Nat.le_refl _) E154.1) (Keep.of_wr W159).1) (Keep.of_wr W164).1)
      have ne165_b3 : b3 ≠ b165 := Nat.ne_of_lt (Nat.lt_of_lt_of_le lt165_b3 (Nat.le_of_eq g165.symm))
      have lt165_b6 : b6 < h164.size := Nat.lt_of_lt_of_le lt154_b6 (Nat.le_trans (Nat.le_trans (Nat.le_trans (Nat.le_refl _) E154.1) (Keep.of_wr W159).1) (Keep.of_wr W164).1)
      have ne165_b6 : b6 ≠ b165 := Nat.ne_of_lt (Nat.lt_of_lt_of_le lt165_b6 (Nat.le_of_eq g165.symm))
      have lt165_b138 : b138 < h164.size := Nat.lt_of_lt_of_le lt154_b138 (Nat.le_trans (Nat.le_trans (Nat.le_trans (Nat.le_refl _) E154.1) (Keep.of_wr W159).1) (Keep.of_wr W164).1)
      have ne165_b138 : b138 ≠ b165 := Nat.ne_of_lt (Nat.lt_of_lt_of_le lt165_b138 (Nat.le_of_eq g165.symm))
      have lt165_b144 : b144 < h164.size := Nat.lt_of_lt_of_le lt154_b144 (Nat.le_trans (Nat.le_trans (Nat.le_trans (Nat.le_refl _) E154.1) (Keep.of_wr W159).1) (Keep.of_wr W164).1)
      have ne165_b144 : b144 ≠ b165 := Nat.ne_of_lt (Nat.lt_of_lt_of_le lt165_b144 (Nat.le_of_eq g165.symm))
      have lt165_b149 : b149 < h164.size := Nat.lt_of_lt_of_le lt154_b149 (Nat.le_trans (Nat.le_trans (Nat.le_trans (Nat.le_refl _) E154.1) (Keep.of_wr W159).1) (Keep.of_wr W164).1)
      have ne165_b149 : b149 ≠ b165 := Nat.ne_of_lt (Nat.lt_of_lt_of_le lt165_b149 (Nat.le_of_eq g165.symm))
      have lt165_b154 : b154 < h164.size := Nat.lt_of_lt_of_le V_b154.lt (Nat.le_trans (Nat.le_trans (Nat.le_refl _) (Keep.of_wr W159).1) (Keep.of_wr W164).1)
      have ne165_b154 : b154 ≠ b165 := Nat.ne_of_lt (Nat.lt_of_lt_of_le lt165_b154 (Nat.le_of_eq g165.symm))
      have zz166 : n0 ≤ h164.size := (Nat.le_trans (Nat.le_trans (Nat.le_trans zz155 E154.1) (Keep.of_wr W159).1) (Keep.of_wr W164).1)
      have g_b165 : n0 ≤ b165 := Nat.le_trans zz166 (Nat.le_of_eq g165.symm)
      have zz167 : h0.size ≤ h164.size := (Nat.le_trans (Nat.le_trans (Nat.le_trans zz156 E154.1) (Keep.of_wr W159).1) (Keep.of_wr W164).1)
      have sz_b165 : h0.size ≤ b165 := Nat.le_trans zz167 (Nat.le_of_eq g165.symm)
      have V_b165 : Arv Z h165 b165 k165 .int n [(.int (0 : Int32)), (.int (0 : Int32)), (.int (0 : Int32)), (.int (0 : Int32))] (.int (0 : Int32)) := (Arv.new A165 hn0).pad (pad_rep [] (.int (0 : Int32)) 4)
      have fx168 := (((((((((((((((((((F_splitFrom.other W2 (Or.inr (slot_ne (Or.inr (hw _ (List.mem_of_getElem? (i := 26) rfl))) (Or.inl (hw _ (List.mem_of_getElem? (i := 12) rfl))) (by decide) (t := (.array .int)) (t' := .int) (by decide) (by decide)))).ext E3).other W5 (Or.inr (slot_ne (Or.inr (hw _ (List.mem_of_getElem? (i := 26) rfl))) (Or.inr (hw _ (List.mem_of_getElem? (i := 14) rfl))) (by decide) (t := (.array .int)) (t' := (.array .int)) (by decide) (by decide)))).ext E6).other W10 (Or.inr (slot_ne (Or.inr (hw _ (List.mem_of_getElem? (i := 26) rfl))) (Or.inr (hw _ (List.mem_of_getElem? (i := 16) rfl))) (by decide) (t := (.array .int)) (t' := (.array .int)) (by decide) (by decide)))).other W15 (Or.inl ne3_a1)).other W19 (Or.inl ne6_a1)).other W22 (Or.inl ne3_a1)).other W26 (Or.inl ne6_a1)).ext E138).other W143 (Or.inr (slot_ne (Or.inr (hw _ (List.mem_of_getElem? (i := 26) rfl))) (Or.inr (hw _ (List.mem_of_getElem? (i := 18) rfl))) (by decide) (t := (.array .int)) (t' := (.array .int)) (by decide) (by decide)))).ext E144).other W148 (Or.inr (slot_ne (Or.inr (hw _ (List.mem_of_getElem? (i := 26) rfl))) (Or.inr (hw _ (List.mem_of_getElem? (i := 20) rfl))) (by decide) (t := (.array .int)) (t' := (.array .int)) (by decide) (by decide)))).ext E149).other W153 (Or.inr (slot_ne (Or.inr (hw _ (List.mem_of_getElem? (i := 26) rfl))) (Or.inr (hw _ (List.mem_of_getElem? (i := 22) rfl))) (by decide) (t := (.array .int)) (t' := (.array .int)) (by decide) (by decide)))).ext E154).other W159 (Or.inr (slot_ne (Or.inr (hw _ (List.mem_of_getElem? (i := 26) rfl))) (Or.inr (hw _ (List.mem_of_getElem? (i := 24) rfl))) (by decide) (t := (.array .int)) (t' := (.array .int)) (by decide) (by decide)))).other W164 (Or.inl ne149_a1)).ext E165)
      obtain ⟨T169, h169, X169, e169, W169, st169⟩ := putF X165 hx hZ hown (host := "") (Or.inl (hw _ (List.mem_of_getElem? (i := 25) rfl))) Via.refl e165 fx168 (((fx158.wr W159).wr W164).ext E165) (Or.inr ⟨(hw _ (List.mem_of_getElem? (i := 26) rfl)), rfl, hnm⟩) (hw _ (List.mem_of_getElem? (i := 3) rfl)) (ty := (.array .int)) (by decide) rfl rfl (g := (mkF m 89 #[.val (.ref a1), .val (.int n), .val (.int (((0 : Int32) + (1 : Int32)) + (1 : Int32)))] [(.ref b165), (.ref a1)])) rfl rfl (hb hby d1_89)
      have Fw169 := fx168.same W169
      have N169 := Fr.snoc X169 N164 g_a1
      obtain ⟨T170, h170, k170, X170, e170, E170, A170, st170⟩ := newP X169 hx hZ (hw _ (List.mem_of_getElem? (i := 1) rfl)) e169 (g := (mkF m 94 #[.val (.ref a1), .val (.int n), .val (.int (((0 : Int32) + (1 : Int32)) + (1 : Int32)))] [(.int n), (.ref a1)])) rfl (hb hby d1_94) rfl hn0 (cap := 4) hn4 (by decide) (by decide) (by decide)
      obtain ⟨b170, g170⟩ : ∃ z, z = h169.size := ⟨_, rfl⟩
      rw [← g170] at A170 st170
      have lt170_a1 : a1 < h169.size := Nat.lt_of_lt_of_le lt165_a1 (Nat.le_trans (Nat.le_trans (Nat.le_refl _) E165.1) (Keep.of_wr W169).1)
      have ne170_a1 : a1 ≠ b170 := Nat.ne_of_lt (Nat.lt_of_lt_of_le lt170_a1 (Nat.le_of_eq g170.symm))
      have lt170_b3 : b3 < h169.size := Nat.lt_of_lt_of_le lt165_b3 (Nat.le_trans (Nat.le_trans (Nat.le_refl _) E165.1) (Keep.of_wr W169).1)
      have ne170_b3 : b3 ≠ b170 := Nat.ne_of_lt (Nat.lt_of_lt_of_le lt170_b3 (Nat.le_of_eq g170.symm))
      have lt170_b6 : b6 < h169.size := Nat.lt_of_lt_of_le lt165_b6 (Nat.le_trans (Nat.le_trans (Nat.le_refl _) E165.1) (Keep.of_wr W169).1)
      have ne170_b6 : b6 ≠ b170 := Nat.ne_of_lt (Nat.lt_of_lt_of_le lt170_b6 (Nat.le_of_eq g170.symm))
      have lt170_b138 : b138 < h169.size := Nat.lt_of_lt_of_le lt165_b138 (Nat.le_trans (Nat.le_trans (Nat.le_refl _) E165.1) (Keep.of_wr W169).1)
      have ne170_b138 : b138 ≠ b170 := Nat.ne_of_lt (Nat.lt_of_lt_of_le lt170_b138 (Nat.le_of_eq g170.symm))
      have lt170_b144 : b144 < h169.size := Nat.lt_of_lt_of_le lt165_b144 (Nat.le_trans (Nat.le_trans (Nat.le_refl _) E165.1) (Keep.of_wr W169).1)
      have ne170_b144 : b144 ≠ b170 := Nat.ne_of_lt (Nat.lt_of_lt_of_le lt170_b144 (Nat.le_of_eq g170.symm))
      have lt170_b149 : b149 < h169.size := Nat.lt_of_lt_of_le lt165_b149 (Nat.le_trans (Nat.le_trans (Nat.le_refl _) E165.1) (Keep.of_wr W169).1)
      have ne170_b149 : b149 ≠ b170 := Nat.ne_of_lt (Nat.lt_of_lt_of_le lt170_b149 (Nat.le_of_eq g170.symm))
      have lt170_b154 : b154 < h169.size := Nat.lt_of_lt_of_le lt165_b154 (Nat.le_trans (Nat.le_trans (Nat.le_refl _) E165.1) (Keep.of_wr W169).1)
      have ne170_b154 : b154 ≠ b170 := Nat.ne_of_lt (Nat.lt_of_lt_of_le lt170_b154 (Nat.le_of_eq g170.symm))
      have lt170_b165 : b165 < h169.size := Nat.lt_of_lt_of_le V_b165.lt (Nat.le_trans (Nat.le_refl _) (Keep.of_wr W169).1)
      have ne170_b165 : b165 ≠ b170 := Nat.ne_of_lt (Nat.lt_of_lt_of_le lt170_b165 (Nat.le_of_eq g170.symm))
      have zz171 : n0 ≤ h169.size := (Nat.le_trans (Nat.le_trans zz166 E165.1) (Keep.of_wr W169).1)
      have g_b170 : n0 ≤ b170 := Nat.le_trans zz171 (Nat.le_of_eq g170.symm)
      have zz172 : h0.size ≤ h169.size := (Nat.le_trans (Nat.le_trans zz167 E165.1) (Keep.of_wr W169).1)
      have sz_b170 : h0.size ≤ b170 := Nat.le_trans zz172 (Nat.le_of_eq g170.symm)
      have V_b170 : Arv Z h170 b170 k170 .int n [(.int (0 : Int32)), (.int (0 : Int32)), (.int (0 : Int32)), (.int (0 : Int32))] (.int (0 : Int32)) := (Arv.new A170 hn0).pad (pad_rep [] (.int (0 : Int32)) 4)
      have fx173 := (((((((((((((((((((((F_touched.other W2 (Or.inr (slot_ne (Or.inr (hw _ (List.mem_of_getElem? (i := 28) rfl))) (Or.inl (hw _ (List.mem_of_getElem? (i := 12) rfl))) (by decide) (t := (.array .int)) (t' := .int) (by decide) (by decide)))).ext E3).other W5 (Or.inr (slot_ne (Or.inr (hw _ (List.mem_of_getElem? (i := 28) rfl))) (Or.inr (hw _ (List.mem_of_getElem? (i := 14) rfl))) (by decide) (t := (.array .int)) (t' := (.array .int)) (by decide) (by decide)))).ext E6).other W10 (Or.inr (slot_ne (Or.inr (hw _ (List.mem_of_getElem? (i := 28) rfl))) (Or.inr (hw _ (List.mem_of_getElem? (i := 16) rfl))) (by decide) (t := (.array .int)) (t' := (.array .int)) (by decide) (by decide)))).other W15 (Or.inl ne3_a1)).other W19 (Or.inl ne6_a1)).other W22 (Or.inl ne3_a1)).other W26 (Or.inl ne6_a1)).ext E138).other W143 (Or.inr (slot_ne (Or.inr (hw _ (List.mem_of_getElem? (i := 28) rfl))) (Or.inr (hw _ (List.mem_of_getElem? (i := 18) rfl))) (by decide) (t := (.array .int)) (t' := (.array .int)) (by decide) (by decide)))).ext E144).other W148 (Or.inr (slot_ne (Or.inr (hw _ (List.mem_of_getElem? (i := 28) rfl))) (Or.inr (hw _ (List.mem_of_getElem? (i := 20) rfl))) (by decide) (t := (.array .int)) (t' := (.array .int)) (by decide) (by decide)))).ext E149).other W153 (Or.inr (slot_ne (Or.inr (hw _ (List.mem_of_getElem? (i := 28) rfl))) (Or.inr (hw _ (List.mem_of_getElem? (i := 22) rfl))) (by decide) (t := (.array .int)) (t' := (.array .int)) (by decide) (by decide)))).ext E154).other W159 (Or.inr (slot_ne (Or.inr (hw _ (List.mem_of_getElem? (i := 28) rfl))) (Or.inr (hw _ (List.mem_of_getElem? (i := 24) rfl))) (by decide) (t := (.array .int)) (t' := (.array .int)) (by decide) (by decide)))).other W164 (Or.inl ne149_a1)).ext E165).other W169 (Or.inr (slot_ne (Or.inr (hw _ (List.mem_of_getElem? (i := 28) rfl))) (Or.inr (hw _ (List.mem_of_getElem? (i := 26) rfl))) (by decide) (t := (.array .int)) (t' := (.array .int)) (by decide) (by decide)))).ext E170)
      obtain ⟨T174, h174, X174, e174, W174, st174⟩ := putF X170 hx hZ hown (host := "") (Or.inl (hw _ (List.mem_of_getElem? (i := 27) rfl))) Via.refl e170 fx173 (((((fx158.wr W159).wr W164).ext E165).wr W169).ext E170) (Or.inr ⟨(hw _ (List.mem_of_getElem? (i := 28) rfl)), rfl, hnm⟩) (hw _ (List.mem_of_getElem? (i := 3) rfl)) (ty := (.array .int)) (by decide) rfl rfl (g := (mkF m 96 #[.val (.ref a1), .val (.int n), .val (.int (((0 : Int32) + (1 : Int32)) + (1 : Int32)))] [(.ref b170), (.ref a1)])) rfl rfl (hb hby d1_96)
      have Fw174 := fx173.same W174
      have N174 := Fr.snoc X174 N169 g_a1
      have hE := own_E2 hc27_2 hc27_3
      have fx175 := ((((((fx158.wr W159).wr W164).ext E165).wr W169).ext E170).wr W174)
      have fx176 := (((((((((((((((((fx11.other W15 (Or.inl ne3_a1)).other W19 (Or.inl ne6_a1)).other W22 (Or.inl ne3_a1)).other W26 (Or.inl ne6_a1)).ext E138).other W143 (Or.inr (slot_ne (Or.inr (hw _ (List.mem_of_getElem? (i := 14) rfl))) (Or.inr (hw _ (List.mem_of_getElem? (i := 18) rfl))) (by decide) (t := (.array .int)) (t' := (.array .int)) (by decide) (by decide)))).ext E144).other W148 (Or.inr (slot_ne (Or.inr (hw _ (List.mem_of_getElem? (i := 14) rfl))) (Or.inr (hw _ (List.mem_of_getElem? (i := 20) rfl))) (by decide) (t := (.array .int)) (t' := (.array .int)) (by decide) (by decide)))).ext E149).other W153 (Or.inr (slot_ne (Or.inr (hw _ (List.mem_of_getElem? (i := 14) rfl))) (Or.inr (hw _ (List.mem_of_getElem? (i := 22) rfl))) (by decide) (t := (.array .int)) (t' := (.array .int)) (by decide) (by decide)))).ext E154).other W159 (Or.inr (slot_ne (Or.inr (hw _ (List.mem_of_getElem? (i := 14) rfl))) (Or.inr (hw _ (List.mem_of_getElem? (i := 24) rfl))) (by decide) (t := (.array .int)) (t' := (.array .int)) (by decide) (by decide)))).other W164 (Or.inl ne149_a1)).ext E165).other W169 (Or.inr (slot_ne (Or.inr (hw _ (List.mem_of_getElem? (i := 14) rfl))) (Or.inr (hw _ (List.mem_of_getElem? (i := 26) rfl))) (by decide) (t := (.array .int)) (t' := (.array .int)) (by decide) (by decide)))).ext E170).other W174 (Or.inr (slot_ne (Or.inr (hw _ (List.mem_of_getElem? (i := 14) rfl))) (Or.inr (hw _ (List.mem_of_getElem? (i := 28) rfl))) (by decide) (t := (.array .int)) (t' := (.array .int)) (by decide) (by decide))))
      have fx177 := ((((((((((((((fx23.other W26 (Or.inl ne6_a1)).ext E138).other W143 (Or.inr (slot_ne (Or.inr (hw _ (List.mem_of_getElem? (i := 16) rfl))) (Or.inr (hw _ (List.mem_of_getElem? (i := 18) rfl))) (by decide) (t := (.array .int)) (t' := (.array .int)) (by decide) (by decide)))).ext E144).other W148 (Or.inr (slot_ne (Or.inr (hw _ (List.mem_of_getElem? (i := 16) rfl))) (Or.inr (hw _ (List.mem_of_getElem? (i := 20) rfl))) (by decide) (t := (.array .int)) (t' := (.array .int)) (by decide) (by decide)))).ext E149).other W153 (Or.inr (slot_ne (Or.inr (hw _ (List.mem_of_getElem? (i := 16) rfl))) (Or.inr (hw _ (List.mem_of_getElem? (i := 22) rfl))) (by decide) (t := (.array .int)) (t' := (.array .int)) (by decide) (by decide)))).ext E154).other W159 (Or.inr (slot_ne (Or.inr (hw _ (List.mem_of_getElem? (i := 16) rfl))) (Or.inr (hw _ (List.mem_of_getElem? (i := 24) rfl))) (by decide) (t := (.array .int)) (t' := (.array .int)) (by decide) (by decide)))).other W164 (Or.inl ne149_a1)).ext E165).other W169 (Or.inr (slot_ne (Or.inr (hw _ (List.mem_of_getElem? (i := 16) rfl))) (Or.inr (hw _ (List.mem_of_getElem? (i := 26) rfl))) (by decide) (t := (.array .int)) (t' := (.array .int)) (by decide) (by decide)))).ext E170).other W174 (Or.inr (slot_ne (Or.inr (hw _ (List.mem_of_getElem? (i := 16) rfl))) (Or.inr (hw _ (List.mem_of_getElem? (i := 28) rfl))) (by decide) (t := (.array .int)) (t' := (.array .int)) (by decide) (by decide))))
      have fx178 := (((((((((((Fw143.ext E144).other W148 (Or.inr (slot_ne (Or.inr (hw _ (List.mem_of_getElem? (i := 18) rfl))) (Or.inr (hw _ (List.mem_of_getElem? (i := 20) rfl))) (by decide) (t := (.array .int)) (t' := (.array .int)) (by decide) (by decide)))).ext E149).other W153 (Or.inr (slot_ne (Or.inr (hw _ (List.mem_of_getElem? (i := 18) rfl))) (Or.inr (hw _ (List.mem_of_getElem? (i := 22) rfl))) (by decide) (t := (.array .int)) (t' := (.array .int)) (by decide) (by decide)))).ext E154).other W159 (Or.inr (slot_ne (Or.inr (hw _ (List.mem_of_getElem? (i := 18) rfl))) (Or.inr (hw _ (List.mem_of_getElem? (i := 24) rfl))) (by decide) (t := (.array .int)) (t' := (.array .int)) (by decide) (by decide)))).other W164 (Or.inl ne149_a1)).ext E165).other W169 (Or.inr (slot_ne (Or.inr (hw _ (List.mem_of_getElem? (i := 18) rfl))) (Or.inr (hw _ (List.mem_of_getElem? (i := 26) rfl))) (by decide) (t := (.array .int)) (t' := (.array .int)) (by decide) (by decide)))).ext E170).other W174 (Or.inr (slot_ne (Or.inr (hw _ (List.mem_of_getElem? (i := 18) rfl))) (Or.inr (hw _ (List.mem_of_getElem? (i := 28) rfl))) (by decide) (t := (.array .int)) (t' := (.array .int)) (by decide) (by decide))))
      have fx179 := (((((((((Fw148.ext E149).other W153 (Or.inr (slot_ne (Or.inr (hw _ (List.mem_of_getElem? (i := 20) rfl))) (Or.inr (hw _ (List.mem_of_getElem? (i := 22) rfl))) (by decide) (t := (.array .int)) (t' := (.array .int)) (by decide) (by decide)))).ext E154).other W159 (Or.inr (slot_ne (Or.inr (hw _ (List.mem_of_getElem? (i := 20) rfl))) (Or.inr (hw _ (List.mem_of_getElem? (i := 24) rfl))) (by decide) (t := (.array .int)) (t' := (.array .int)) (by decide) (by decide)))).other W164 (Or.inl ne149_a1)).ext E165).other W169 (Or.inr (slot_ne (Or.inr (hw _ (List.mem_of_getElem? (i := 20) rfl))) (Or.inr (hw _ (List.mem_of_getElem? (i := 26) rfl))) (by decide) (t := (.array .int)) (t' := (.array .int)) (by decide) (by decide)))).ext E170).other W174 (Or.inr (slot_ne (Or.inr (hw _ (List.mem_of_getElem? (i := 20) rfl))) (Or.inr (hw _ (List.mem_of_getElem? (i := 28) rfl))) (by decide) (t := (.array .int)) (t' := (.array .int)) (by decide) (by decide))))
      have fx180 := (((((fx160.other W164 (Or.inl ne149_a1)).ext E165).other W169 (Or.inr (slot_ne (Or.inr (hw _ (List.mem_of_getElem? (i := 22) rfl))) (Or.inr (hw _ (List.mem_of_getElem? (i := 26) rfl))) (by decide) (t := (.array .int)) (t' := (.array .int)) (by decide) (by decide)))).ext E170).other W174 (Or.inr (slot_ne (Or.inr (hw _ (List.mem_of_getElem? (i := 22) rfl))) (Or.inr (hw _ (List.mem_of_getElem? (i := 28) rfl))) (by decide) (t := (.array .int)) (t' := (.array .int)) (by decide) (by decide))))
      have fx181 := (((((Fw159.other W164 (Or.inl ne149_a1)).ext E165).other W169 (Or.inr (slot_ne (Or.inr (hw _ (List.mem_of_getElem? (i := 24) rfl))) (Or.inr (hw _ (List.mem_of_getElem? (i := 26) rfl))) (by decide) (t := (.array .int)) (t' := (.array .int)) (by decide) (by decide)))).ext E170).other W174 (Or.inr (slot_ne (Or.inr (hw _ (List.mem_of_getElem? (i := 24) rfl))) (Or.inr (hw _ (List.mem_of_getElem? (i := 28) rfl))) (by decide) (t := (.array .int)) (t' := (.array .int)) (by decide) (by decide))))
      have fx182 := ((Fw169.ext E170).other W174 (Or.inr (slot_ne (Or.inr (hw _ (List.mem_of_getElem? (i := 26) rfl))) (Or.inr (hw _ (List.mem_of_getElem? (i := 28) rfl))) (by decide) (t := (.array .int)) (t' := (.array .int)) (by decide) (by decide))))
      have fx183 := (((((((((((((((((((((Fw2.ext E3).other W5 (Or.inr (slot_ne (Or.inl (hw _ (List.mem_of_getElem? (i := 12) rfl))) (Or.inr (hw _ (List.mem_of_getElem? (i := 14) rfl))) (by decide) (t := .int) (t' := (.array .int)) (by decide) (by decide)))).ext E6).other W10 (Or.inr (slot_ne (Or.inl (hw _ (List.mem_of_getElem? (i := 12) rfl))) (Or.inr (hw _ (List.mem_of_getElem? (i := 16) rfl))) (by decide) (t := .int) (t' := (.array .int)) (by decide) (by decide)))).other W15 (Or.inl ne3_a1)).other W19 (Or.inl ne6_a1)).other W22 (Or.inl ne3_a1)).other W26 (Or.inl ne6_a1)).ext E138).other W143 (Or.inr (slot_ne (Or.inl (hw _ (List.mem_of_getElem? (i := 12) rfl))) (Or.inr (hw _ (List.mem_of_getElem? (i := 18) rfl))) (by decide) (t := .int) (t' := (.array .int)) (by decide) (by decide)))).ext E144).other W148 (Or.inr (slot_ne (Or.inl (hw _ (List.mem_of_getElem? (i := 12) rfl))) (Or.inr (hw _ (List.mem_of_getElem? (i := 20) rfl))) (by decide) (t := .int) (t' := (.array .int)) (by decide) (by decide)))).ext E149).other W153 (Or.inr (slot_ne (Or.inl (hw _ (List.mem_of_getElem? (i := 12) rfl))) (Or.inr (hw _ (List.mem_of_getElem? (i := 22) rfl))) (by decide) (t := .int) (t' := (.array .int)) (by decide) (by decide)))).ext E154).other W159 (Or.inr (slot_ne (Or.inl (hw _ (List.mem_of_getElem? (i := 12) rfl))) (Or.inr (hw _ (List.mem_of_getElem? (i := 24) rfl))) (by decide) (t := .int) (t' := (.array .int)) (by decide) (by decide)))).other W164 (Or.inl ne149_a1)).ext E165).other W169 (Or.inr (slot_ne (Or.inl (hw _ (List.mem_of_getElem? (i := 12) rfl))) (Or.inr (hw _ (List.mem_of_getElem? (i := 26) rfl))) (by decide) (t := .int) (t' := (.array .int)) (by decide) (by decide)))).ext E170).other W174 (Or.inr (slot_ne (Or.inl (hw _ (List.mem_of_getElem? (i := 12) rfl))) (Or.inr (hw _ (List.mem_of_getElem? (i := 28) rfl))) (by decide) (t := .int) (t' := (.array .int)) (by decide) (by decide))))
      have fx184 := ((((((((((((((((((((((F_touchedCount.other W2 (Or.inr (slot_ne (Or.inl (hw _ (List.mem_of_getElem? (i := 35) rfl))) (Or.inl (hw _ (List.mem_of_getElem? (i := 12) rfl))) (by decide) (t := .int) (t' := .int) (by decide) (by decide)))).ext E3).other W5 (Or.inr (slot_ne (Or.inl (hw _ (List.mem_of_getElem? (i := 35) rfl))) (Or.inr (hw _ (List.mem_of_getElem? (i := 14) rfl))) (by decide) (t := .int) (t' := (.array .int)) (by decide) (by decide)))).ext E6).other W10 (Or.inr (slot_ne (Or.inl (hw _ (List.mem_of_getElem? (i := 35) rfl))) (Or.inr (hw _ (List.mem_of_getElem? (i := 16) rfl))) (by decide) (t := .int) (t' := (.array .int)) (by decide) (by decide)))).other W15 (Or.inl ne3_a1)).other W19 (Or.inl ne6_a1)).other W22 (Or.inl ne3_a1)).other W26 (Or.inl ne6_a1)).ext E138).other W143 (Or.inr (slot_ne (Or.inl (hw _ (List.mem_of_getElem? (i := 35) rfl))) (Or.inr (hw _ (List.mem_of_getElem? (i := 18) rfl))) (by decide) (t := .int) (t' := (.array .int)) (by decide) (by decide)))).ext E144).other W148 (Or.inr (slot_ne (Or.inl (hw _ (List.mem_of_getElem? (i := 35) rfl))) (Or.inr (hw _ (List.mem_of_getElem? (i := 20) rfl))) (by decide) (t := .int) (t' := (.array .int)) (by decide) (by decide)))).ext E149).other W153 (Or.inr (slot_ne (Or.inl (hw _ (List.mem_of_getElem? (i := 35) rfl))) (Or.inr (hw _ (List.mem_of_getElem? (i := 22) rfl))) (by decide) (t := .int) (t' := (.array .int)) (by decide) (by decide)))).ext E154).other W159 (Or.inr (slot_ne (Or.inl (hw _ (List.mem_of_getElem? (i := 35) rfl))) (Or.inr (hw _ (List.mem_of_getElem? (i := 24) rfl))) (by decide) (t := .int) (t' := (.array .int)) (by decide) (by decide)))).other W164 (Or.inl ne149_a1)).ext E165).other W169 (Or.inr (slot_ne (Or.inl (hw _ (List.mem_of_getElem? (i := 35) rfl))) (Or.inr (hw _ (List.mem_of_getElem? (i := 26) rfl))) (by decide) (t := .int) (t' := (.array .int)) (by decide) (by decide)))).ext E170).other W174 (Or.inr (slot_ne (Or.inl (hw _ (List.mem_of_getElem? (i := 35) rfl))) (Or.inr (hw _ (List.mem_of_getElem? (i := 28) rfl))) (by decide) (t := .int) (t' := (.array .int)) (by decide) (by decide))))
      have fx185 := ((((((((((((((Vs22.other W26 ne6_b3).ext E138).other W143 (Ne.symm ne3_a1)).ext E144).other W148 (Ne.symm ne3_a1)).ext E149).other W153 (Ne.symm ne3_a1)).ext E154).other W159 (Ne.symm ne3_a1)).other W164 ne149_b3).ext E165).other W169 (Ne.symm ne3_a1)).ext E170).other W174 (Ne.symm ne3_a1))
      have fx186 := (((((((((((((Vs26.ext E138).other W143 (Ne.symm ne6_a1)).ext E144).other W148 (Ne.symm ne6_a1)).ext E149).other W153 (Ne.symm ne6_a1)).ext E154).other W159 (Ne.symm ne6_a1)).other W164 ne149_b6).ext E165).other W169 (Ne.symm ne6_a1)).ext E170).other W174 (Ne.symm ne6_a1))
      have fx187 := ((((((((((((V_b138.other W143 (Ne.symm ne138_a1)).ext E144).other W148 (Ne.symm ne138_a1)).ext E149).other W153 (Ne.symm ne138_a1)).ext E154).other W159 (Ne.symm ne138_a1)).other W164 ne149_b138).ext E165).other W169 (Ne.symm ne138_a1)).ext E170).other W174 (Ne.symm ne138_a1))
      have fx188 := ((((((((((V_b144.other W148 (Ne.symm ne144_a1)).ext E149).other W153 (Ne.symm ne144_a1)).ext E154).other W159 (Ne.symm ne144_a1)).other W164 ne149_b144).ext E165).other W169 (Ne.symm ne144_a1)).ext E170).other W174 (Ne.symm ne144_a1))
      have fx189 := ((((Vs164.ext E165).other W169 (Ne.symm ne149_a1)).ext E170).other W174 (Ne.symm ne149_a1))
      have fx190 := ((((((V_b154.other W159 (Ne.symm ne154_a1)).other W164 (Ne.symm ne154_b149)).ext E165).other W169 (Ne.symm ne154_a1)).ext E170).other W174 (Ne.symm ne154_a1))
      have fx191 := (((V_b165.other W169 (Ne.symm ne165_a1)).ext E170).other W174 (Ne.symm ne165_a1))
      obtain ⟨fs, hr, hrun, hended, hW, hsame⟩ := X174.leave (v := none) (fun _ => rfl)
      refine ⟨_, _, pre0 _ ?_, hrun, hended, _, _, rfl, ?_, ⟨_, rfl⟩, hW, hsame.mono (by decide) (by decide)⟩
      · show Steps p.tables e below (s₁.setTop (mkF m 0 #[.val (.ref a1), .val (.int n), .unset] [])) _
        refine XS.aloadN X0.here hx rfl (hb hby d1_0) rfl rfl ?_
        show Steps p.tables e below (s₁.setTop (mkF m 1 #[.val (.ref a1), .val (.int n), .unset] [(.ref a1)])) _
        refine st1 _ ?_
        show Steps p.tables e below (T1.setTop (mkF m 4 #[.val (.ref a1), .val (.int n), .unset] [])) _
        refine XS.aloadN X1.here hx rfl (hb hby d1_4) rfl rfl ?_
        show Steps p.tables e below (T1.setTop (mkF m 5 #[.val (.ref a1), .val (.int n), .unset] [(.ref a1)])) _
        refine XS.iconst X1.here hx rfl (hb hby d1_5) ?_
        show Steps p.tables e below (T1.setTop (mkF m 6 #[.val (.ref a1), .val (.int n), .unset] [(.int (1 : Int32)), (.ref a1)])) _
        refine st2 _ ?_
        show Steps p.tables e below (T2.setTop (mkF m 9 #[.val (.ref a1), .val (.int n), .unset] [])) _
        refine XS.aloadN X2.here hx rfl (hb hby d1_9) rfl rfl ?_
        show Steps p.tables e below (T2.setTop (mkF m 10 #[.val (.ref a1), .val (.int n), .unset] [(.ref a1)])) _
        refine XS.iloadN X2.here hx rfl (hb hby d1_10) rfl ?_
        show Steps p.tables e below (T2.setTop (mkF m 11 #[.val (.ref a1), .val (.int n), .unset] [(.int n), (.ref a1)])) _
        refine st3 _ ?_
        show Steps p.tables e below (T3.setTop (mkF m 13 #[.val (.ref a1), .val (.int n), .unset] [(.ref b3), (.ref a1)])) _
        refine st5 _ ?_
        show Steps p.tables e below (T5.setTop (mkF m 16 #[.val (.ref a1), .val (.int n), .unset] [])) _
        refine XS.aloadN X5.here hx rfl (hb hby d1_16) rfl rfl ?_
        show Steps p.tables e below (T5.setTop (mkF m 17 #[.val (.ref a1), .val (.int n), .unset] [(.ref a1)])) _
        refine XS.iloadN X5.here hx rfl (hb hby d1_17) rfl ?_
        show Steps p.tables e below (T5.setTop (mkF m 18 #[.val (.ref a1), .val (.int n), .unset] [(.int n), (.ref a1)])) _
        refine st6 _ ?_
        show Steps p.tables e below (T6.setTop (mkF m 20 #[.val (.ref a1), .val (.int n), .unset] [(.ref b6), (.ref a1)])) _
        refine st10 _ ?_
        show Steps p.tables e below (T10.setTop (mkF m 23 #[.val (.ref a1), .val (.int n), .unset] [])) _
        refine XS.iconst X10.here hx rfl (hb hby d1_23) ?_
        show Steps p.tables e below (T10.setTop (mkF m 24 #[.val (.ref a1), .val (.int n), .unset] [(.int (0 : Int32))])) _
        refine XS.istoreN X10.here hx rfl (hb hby d1_24) rfl (l' := #[.val (.ref a1), .val (.int n), .val (.int (0 : Int32))]) rfl ?_
        show Steps p.tables e below (T10.setTop (mkF m 25 #[.val (.ref a1), .val (.int n), .val (.int (0 : Int32))] [])) _
        refine XS.iloadN X10.here hx rfl (hb hby d1_25) rfl ?_
        show Steps p.tables e below (T10.setTop (mkF m 26 #[.val (.ref a1), .val (.int n), .val (.int (0 : Int32))] [(.int (0 : Int32))])) _
        refine XS.iloadN X10.here hx rfl (hb hby d1_26) rfl ?_
        show Steps p.tables e below (T10.setTop (mkF m 27 #[.val (.ref a1), .val (.int n), .val (.int (0 : Int32))] [(.int n), (.int (0 : Int32))])) _
        refine XS.icmpNo X10.here hx rfl (hb hby d1_27) rfl (tlt hn1).2.1 ?_
        show Steps p.tables e below (T10.setTop (mkF m 30 #[.val (.ref a1), .val (.int n), .val (.int (0 : Int32))] [])) _
        refine XS.aloadN X10.here hx rfl (hb hby d1_30) rfl rfl ?_
        show Steps p.tables e below (T10.setTop (mkF m 31 #[.val (.ref a1), .val (.int n), .val (.int (0 : Int32))] [(.ref a1)])) _
        refine st12 _ ?_
        show Steps p.tables e below (T12.setTop (mkF m 34 #[.val (.ref a1), .val (.int n), .val (.int (0 : Int32))] [(.ref b3)])) _
        refine XS.iloadN X12.here hx rfl (hb hby d1_34) rfl ?_
        show Steps p.tables e below (T12.setTop (mkF m 35 #[.val (.ref a1), .val (.int n), .val (.int (0 : Int32))] [(.int (0 : Int32)), (.ref b3)])) _
        refine XS.iloadN X12.here hx rfl (hb hby d1_35) rfl ?_
        show Steps p.tables e below (T12.setTop (mkF m 36 #[.val (.ref a1), .val (.int n), .val (.int (0 : Int32))] [(.int (0 : Int32)), (.int (0 : Int32)), (.ref b3)])) _
        refine st15 _ ?_
        show Steps p.tables e below (T15.setTop (mkF m 37 #[.val (.ref a1), .val (.int n), .val (.int (0 : Int32))] [])) _
        refine XS.aloadN X15.here hx rfl (hb hby d1_37) rfl rfl ?_
        show Steps p.tables e below (T15.setTop (mkF m 38 #[.val (.ref a1), .val (.int n), .val (.int (0 : Int32))] [(.ref a1)])) _
        refine st16 _ ?_
        show Steps p.tables e below (T16.setTop (mkF m 41 #[.val (.ref a1), .val (.int n), .val (.int (0 : Int32))] [(.ref b6)])) _
        refine XS.iloadN X16.here hx rfl (hb hby d1_41) rfl ?_
        show Steps p.tables e below (T16.setTop (mkF m 42 #[.val (.ref a1), .val (.int n), .val (.int (0 : Int32))] [(.int (0 : Int32)), (.ref b6)])) _
        refine XS.iloadN X16.here hx rfl (hb hby d1_42) rfl ?_
        show Steps p.tables e below (T16.setTop (mkF m 43 #[.val (.ref a1), .val (.int n), .val (.int (0 : Int32))] [(.int (0 : Int32)), (.int (0 : Int32)), (.ref b6)])) _
        refine st19 _ ?_
        show Steps p.tables e below (T19.setTop (mkF m 44 #[.val (.ref a1), .val (.int n), .val (.int (0 : Int32))] [])) _
        refine XS.iinc X19.here hx rfl (hb hby d1_44) rfl (l' := #[.val (.ref a1), .val (.int n), .val (.int ((0 : Int32) + (1 : Int32)))]) rfl ?_
        show Steps p.tables e below (T19.setTop (mkF m 47 #[.val (.ref a1), .val (.int n), .val (.int ((0 : Int32) + (1 : Int32)))] [])) _
        refine XS.goto X19.here hx rfl (pc0 := 47) (pc' := 25) rfl (hb hby d1_47) (by decide) (by decide) ?_
        show Steps p.tables e below (T19.setTop (mkF m 25 #[.val (.ref a1), .val (.int n), .val (.int ((0 : Int32) + (1 : Int32)))] [])) _
        refine XS.iloadN X19.here hx rfl (hb hby d1_25) rfl ?_
        show Steps p.tables e below (T19.setTop (mkF m 26 #[.val (.ref a1), .val (.int n), .val (.int ((0 : Int32) + (1 : Int32)))] [(.int ((0 : Int32) + (1 : Int32)))])) _
        refine XS.iloadN X19.here hx rfl (hb hby d1_26) rfl ?_
        show Steps p.tables e below (T19.setTop (mkF m 27 #[.val (.ref a1), .val (.int n), .val (.int ((0 : Int32) + (1 : Int32)))] [(.int n), (.int ((0 : Int32) + (1 : Int32)))])) _
        refine XS.icmpNo X19.here hx rfl (hb hby d1_27) rfl (tlt hc27_2).2.1 ?_
        show Steps p.tables e below (T19.setTop (mkF m 30 #[.val (.ref a1), .val (.int n), .val (.int ((0 : Int32) + (1 : Int32)))] [])) _
        refine XS.aloadN X19.here hx rfl (hb hby d1_30) rfl rfl ?_
        show Steps p.tables e below (T19.setTop (mkF m 31 #[.val (.ref a1), .val (.int n), .val (.int ((0 : Int32) + (1 : Int32)))] [(.ref a1)])) _
        refine st20 _ ?_
        show Steps p.tables e below (T20.setTop (mkF m 34 #[.val (.ref a1), .val (.int n), .val (.int ((0 : Int32) + (1 : Int32)))] [(.ref b3)])) _
        refine XS.iloadN X20.here hx rfl (hb hby d1_34) rfl ?_
        show Steps p.tables e below (T20.setTop (mkF m 35 #[.val (.ref a1), .val (.int n), .val (.int ((0 : Int32) + (1 : Int32)))] [(.int ((0 : Int32) + (1 : Int32))), (.ref b3)])) _
        refine XS.iloadN X20.here hx rfl (hb hby d1_35) rfl ?_
        show Steps p.tables e below (T20.setTop (mkF m 36 #[.val (.ref a1), .val (.int n), .val (.int ((0 : Int32) + (1 : Int32)))] [(.int ((0 : Int32) + (1 : Int32))), (.int ((0 : Int32) + (1 : Int32))), (.ref b3)])) _
        refine st22 _ ?_
        show Steps p.tables e below (T22.setTop (mkF m 37 #[.val (.ref a1), .val (.int n), .val (.int ((0 : Int32) + (1 : Int32)))] [])) _
        refine XS.aloadN X22.here hx rfl (hb hby d1_37) rfl rfl ?_
        show Steps p.tables e below (T22.setTop (mkF m 38 #[.val (.ref a1), .val (.int n), .val (.int ((0 : Int32) + (1 : Int32)))] [(.ref a1)])) _
        refine st24 _ ?_
        show Steps p.tables e below (T24.setTop (mkF m 41 #[.val (.ref a1), .val (.int n), .val (.int ((0 : Int32) + (1 : Int32)))] [(.ref b6)])) _
        refine XS.iloadN X24.here hx rfl (hb hby d1_41) rfl ?_
        show Steps p.tables e below (T24.setTop (mkF m 42 #[.val (.ref a1), .val (.int n), .val (.int ((0 : Int32) + (1 : Int32)))] [(.int ((0 : Int32) + (1 : Int32))), (.ref b6)])) _
        refine XS.iloadN X24.here hx rfl (hb hby d1_42) rfl ?_
        show Steps p.tables e below (T24.setTop (mkF m 43 #[.val (.ref a1), .val (.int n), .val (.int ((0 : Int32) + (1 : Int32)))] [(.int ((0 : Int32) + (1 : Int32))), (.int ((0 : Int32) + (1 : Int32))), (.ref b6)])) _
        refine st26 _ ?_
        show Steps p.tables e below (T26.setTop (mkF m 44 #[.val (.ref a1), .val (.int n), .val (.int ((0 : Int32) + (1 : Int32)))] [])) _
        refine XS.iinc X26.here hx rfl (hb hby d1_44) rfl (l' := #[.val (.ref a1), .val (.int n), .val (.int (((0 : Int32) + (1 : Int32)) + (1 : Int32)))]) rfl ?_
        show Steps p.tables e below (T26.setTop (mkF m 47 #[.val (.ref a1), .val (.int n), .val (.int (((0 : Int32) + (1 : Int32)) + (1 : Int32)))] [])) _
        refine XS.goto X26.here hx rfl (pc0 := 47) (pc' := 25) rfl (hb hby d1_47) (by decide) (by decide) ?_
        show Steps p.tables e below (T26.setTop (mkF m 25 #[.val (.ref a1), .val (.int n), .val (.int (((0 : Int32) + (1 : Int32)) + (1 : Int32)))] [])) _
        refine XS.iloadN X26.here hx rfl (hb hby d1_25) rfl ?_
        show Steps p.tables e below (T26.setTop (mkF m 26 #[.val (.ref a1), .val (.int n), .val (.int (((0 : Int32) + (1 : Int32)) + (1 : Int32)))] [(.int (((0 : Int32) + (1 : Int32)) + (1 : Int32)))])) _
        refine XS.iloadN X26.here hx rfl (hb hby d1_26) rfl ?_
        show Steps p.tables e below (T26.setTop (mkF m 27 #[.val (.ref a1), .val (.int n), .val (.int (((0 : Int32) + (1 : Int32)) + (1 : Int32)))] [(.int n), (.int (((0 : Int32) + (1 : Int32)) + (1 : Int32)))])) _
        refine XS.icmpYes X26.here hx rfl (pc0 := 27) (pc' := 50) rfl (hb hby d1_27) rfl (flt hc27_3).2.1 (by decide) (by decide) ?_
        show Steps p.tables e below (T26.setTop (mkF m 50 #[.val (.ref a1), .val (.int n), .val (.int (((0 : Int32) + (1 : Int32)) + (1 : Int32)))] [])) _
        refine XS.aloadN X26.here hx rfl (hb hby d1_50) rfl rfl ?_
        show Steps p.tables e below (T26.setTop (mkF m 51 #[.val (.ref a1), .val (.int n), .val (.int (((0 : Int32) + (1 : Int32)) + (1 : Int32)))] [(.ref a1)])) _
        refine XS.iloadN X26.here hx rfl (hb hby d1_51) rfl ?_
        show Steps p.tables e below (T26.setTop (mkF m 52 #[.val (.ref a1), .val (.int n), .val (.int (((0 : Int32) + (1 : Int32)) + (1 : Int32)))] [(.int n), (.ref a1)])) _
        refine st138 _ ?_
        show Steps p.tables e below (T138.setTop (mkF m 54 #[.val (.ref a1), .val (.int n), .val (.int (((0 : Int32) + (1 : Int32)) + (1 : Int32)))] [(.ref b138), (.ref a1)])) _
        refine st143 _ ?_
        show Steps p.tables e below (T143.setTop (mkF m 57 #[.val (.ref a1), .val (.int n), .val (.int (((0 : Int32) + (1 : Int32)) + (1 : Int32)))] [])) _
        refine XS.aloadN X143.here hx rfl (hb hby d1_57) rfl rfl ?_
        show Steps p.tables e below (T143.setTop (mkF m 58 #[.val (.ref a1), .val (.int n), .val (.int (((0 : Int32) + (1 : Int32)) + (1 : Int32)))] [(.ref a1)])) _
        refine XS.iloadN X143.here hx rfl (hb hby d1_58) rfl ?_
        show Steps p.tables e below (T143.setTop (mkF m 59 #[.val (.ref a1), .val (.int n), .val (.int (((0 : Int32) + (1 : Int32)) + (1 : Int32)))] [(.int n), (.ref a1)])) _
        refine st144 _ ?_
        show Steps p.tables e below (T144.setTop (mkF m 61 #[.val (.ref a1), .val (.int n), .val (.int (((0 : Int32) + (1 : Int32)) + (1 : Int32)))] [(.ref b144), (.ref a1)])) _
        refine st148 _ ?_
        show Steps p.tables e below (T148.setTop (mkF m 64 #[.val (.ref a1), .val (.int n), .val (.int (((0 : Int32) + (1 : Int32)) + (1 : Int32)))] [])) _
        refine XS.aloadN X148.here hx rfl (hb hby d1_64) rfl rfl ?_
        show Steps p.tables e below (T148.setTop (mkF m 65 #[.val (.ref a1), .val (.int n), .val (.int (((0 : Int32) + (1 : Int32)) + (1 : Int32)))] [(.ref a1)])) _
        refine XS.iloadN X148.here hx rfl (hb hby d1_65) rfl ?_
        show Steps p.tables e below (T148.setTop (mkF m 66 #[.val (.ref a1), .val (.int n), .val (.int (((0 : Int32) + (1 : Int32)) + (1 : Int32)))] [(.int n), (.ref a1)])) _
        refine st149 _ ?_
        show Steps p.tables e below (T149.setTop (mkF m 68 #[.val (.ref a1), .val (.int n), .val (.int (((0 : Int32) + (1 : Int32)) + (1 : Int32)))] [(.ref b149), (.ref a1)])) _
        refine st153 _ ?_
        show Steps p.tables e below (T153.setTop (mkF m 71 #[.val (.ref a1), .val (.int n), .val (.int (((0 : Int32) + (1 : Int32)) + (1 : Int32)))] [])) _
        refine XS.aloadN X153.here hx rfl (hb hby d1_71) rfl rfl ?_
        show Steps p.tables e below (T153.setTop (mkF m 72 #[.val (.ref a1), .val (.int n), .val (.int (((0 : Int32) + (1 : Int32)) + (1 : Int32)))] [(.ref a1)])) _
        refine XS.iloadN X153.here hx rfl (hb hby d1_72) rfl ?_
        show Steps p.tables e below (T153.setTop (mkF m 73 #[.val (.ref a1), .val (.int n), .val (.int (((0 : Int32) + (1 : Int32)) + (1 : Int32)))] [(.int n), (.ref a1)])) _
        refine st154 _ ?_
        show Steps p.tables e below (T154.setTop (mkF m 75 #[.val (.ref a1), .val (.int n), .val (.int (((0 : Int32) + (1 : Int32)) + (1 : Int32)))] [(.ref b154), (.ref a1)])) _
        refine st159 _ ?_
        show Steps p.tables e below (T159.setTop (mkF m 78 #[.val (.ref a1), .val (.int n), .val (.int (((0 : Int32) + (1 : Int32)) + (1 : Int32)))] [])) _
        refine XS.aloadN X159.here hx rfl (hb hby d1_78) rfl rfl ?_
        show Steps p.tables e below (T159.setTop (mkF m 79 #[.val (.ref a1), .val (.int n), .val (.int (((0 : Int32) + (1 : Int32)) + (1 : Int32)))] [(.ref a1)])) _
        refine st161 _ ?_
        show Steps p.tables e below (T161.setTop (mkF m 82 #[.val (.ref a1), .val (.int n), .val (.int (((0 : Int32) + (1 : Int32)) + (1 : Int32)))] [(.ref b149)])) _
        refine XS.iconst X161.here hx rfl (hb hby d1_82) ?_
        show Steps p.tables e below (T161.setTop (mkF m 83 #[.val (.ref a1), .val (.int n), .val (.int (((0 : Int32) + (1 : Int32)) + (1 : Int32)))] [(.int (0 : Int32)), (.ref b149)])) _
        refine XS.iloadN X161.here hx rfl (hb hby d1_83) rfl ?_
        show Steps p.tables e below (T161.setTop (mkF m 84 #[.val (.ref a1), .val (.int n), .val (.int (((0 : Int32) + (1 : Int32)) + (1 : Int32)))] [(.int n), (.int (0 : Int32)), (.ref b149)])) _
        refine st164 _ ?_
        show Steps p.tables e below (T164.setTop (mkF m 85 #[.val (.ref a1), .val (.int n), .val (.int (((0 : Int32) + (1 : Int32)) + (1 : Int32)))] [])) _
        refine XS.aloadN X164.here hx rfl (hb hby d1_85) rfl rfl ?_
        show Steps p.tables e below (T164.setTop (mkF m 86 #[.val (.ref a1), .val (.int n), .val (.int (((0 : Int32) + (1 : Int32)) + (1 : Int32)))] [(.ref a1)])) _
        refine XS.iloadN X164.here hx rfl (hb hby d1_86) rfl ?_
        show Steps p.tables e below (T164.setTop (mkF m 87 #[.val (.ref a1), .val (.int n), .val (.int (((0 : Int32) + (1 : Int32)) + (1 : Int32)))] [(.int n), (.ref a1)])) _
        refine st165 _ ?_
        show Steps p.tables e below (T165.setTop (mkF m 89 #[.val (.ref a1), .val (.int n), .val (.int (((0 : Int32) + (1 : Int32)) + (1 : Int32)))] [(.ref b165), (.ref a1)])) _
        refine st169 _ ?_
        show Steps p.tables e below (T169.setTop (mkF m 92 #[.val (.ref a1), .val (.int n), .val (.int (((0 : Int32) + (1 : Int32)) + (1 : Int32)))] [])) _
        refine XS.aloadN X169.here hx rfl (hb hby d1_92) rfl rfl ?_
        show Steps p.tables e below (T169.setTop (mkF m 93 #[.val (.ref a1), .val (.int n), .val (.int (((0 : Int32) + (1 : Int32)) + (1 : Int32)))] [(.ref a1)])) _
        refine XS.iloadN X169.here hx rfl (hb hby d1_93) rfl ?_
        show Steps p.tables e below (T169.setTop (mkF m 94 #[.val (.ref a1), .val (.int n), .val (.int (((0 : Int32) + (1 : Int32)) + (1 : Int32)))] [(.int n), (.ref a1)])) _
        refine st170 _ ?_
        show Steps p.tables e below (T170.setTop (mkF m 96 #[.val (.ref a1), .val (.int n), .val (.int (((0 : Int32) + (1 : Int32)) + (1 : Int32)))] [(.ref b170), (.ref a1)])) _
        refine st174 _ ?_
        show Steps p.tables e below (T174.setTop (mkF m 99 #[.val (.ref a1), .val (.int n), .val (.int (((0 : Int32) + (1 : Int32)) + (1 : Int32)))] [])) _
        exact X174.returnOut hx Bd.returns (hb hby d1_99) hr
      · show Q1 Z a1 n h0 n0 _ T174.heap _
        rw [e174]
        exact ⟨rfl, N174, b3, b6, b138, b144, b149, b154, b165, b170, (((((((((((((((((((((((Keep.refl h0 [a1]).wr W2 (Or.inl (List.mem_of_getElem? (i := 0) rfl))).ext E3).wr W5 (Or.inl (List.mem_of_getElem? (i := 0) rfl))).ext E6).wr W10 (Or.inl (List.mem_of_getElem? (i := 0) rfl))).wr W15 (Or.inr sz_b3)).wr W19 (Or.inr sz_b6)).wr W22 (Or.inr sz_b3)).wr W26 (Or.inr sz_b6)).ext E138).wr W143 (Or.inl (List.mem_of_getElem? (i := 0) rfl))).ext E144).wr W148 (Or.inl (List.mem_of_getElem? (i := 0) rfl))).ext E149).wr W153 (Or.inl (List.mem_of_getElem? (i := 0) rfl))).ext E154).wr W159 (Or.inl (List.mem_of_getElem? (i := 0) rfl))).wr W164 (Or.inr sz_b149)).ext E165).wr W169 (Or.inl (List.mem_of_getElem? (i := 0) rfl))).ext E170).wr W174 (Or.inl (List.mem_of_getElem? (i := 0) rfl))), ⟨⟨g_a1, g_b3, g_b6, g_b138, g_b144, g_b149, g_b154, g_b165, g_b170⟩, ⟨ne3_a1, ne6_a1, ne138_a1, ne144_a1, ne149_a1, ne154_a1, ne165_a1, ne170_a1⟩, ⟨ne6_b3, ne138_b3, ne144_b3, ne149_b3, ne154_b3, ne165_b3, ne170_b3, ne138_b6, ne144_b6, ne149_b6, ne154_b6, ne165_b6, ne170_b6, ne144_b138, ne149_b138, ne154_b138, ne165_b138, ne170_b138, ne149_b144, ne154_b144, ne165_b144, ne170_b144, ne154_b149, ne165_b149, ne170_b149, ne165_b154, ne170_b154, ne170_b165⟩⟩, ⟨sz_b3, sz_b6, sz_b138, sz_b144, sz_b149, sz_b154, sz_b165, sz_b170⟩, (by rw [hE]; exact ⟨fx175, fx176, fx177, fx178, fx179, fx180, fx181, fx182, Fw174, fx183, fx184, ⟨_, fx185⟩, ⟨_, fx186⟩, ⟨_, fx187⟩, ⟨_, fx188⟩, ⟨_, fx189⟩, ⟨_, fx190⟩, ⟨_, fx191⟩, ⟨_, (V_b170.other W174 (Ne.symm ne170_a1))⟩⟩)⟩
  ·
    obtain ⟨T192, h192, k192, X192, e192, E192, A192, st192⟩ := newP X19 hx hZ (hw _ (List.mem_of_getElem? (i := 1) rfl)) e19 (g := (mkF m 52 #[.val (.ref a1), .val (.int n), .val (.int ((0 : Int32) + (1 : Int32)))] [(.int n), (.ref a1)])) rfl (hb hby d1_52) rfl hn0 (cap := 4) hn4 (by decide) (by decide) (by decide)
    obtain ⟨b192, g192⟩ : ∃ z, z = h19.size := ⟨_, rfl⟩
    rw [← g192] at A192 st192
    have lt192_a1 : a1 < h19.size := Nat.lt_of_lt_of_le lt6_a1 (Nat.le_trans (Nat.le_trans (Nat.le_trans (Nat.le_trans (Nat.le_refl _) E6.1) (Keep.of_wr W10).1) (Keep.of_wr W15).1) (Keep.of_wr W19).1)
    have ne192_a1 : a1 ≠ b192 := Nat.ne_of_lt (Nat.lt_of_lt_of_le lt192_a1 (Nat.le_of_eq g192.symm))
    have lt192_b3 : b3 < h19.size := Nat.lt_of_lt_of_le lt6_b3 (Nat.le_trans (Nat.le_trans (Nat.le_trans (Nat.le_trans (Nat.le_refl _) E6.1) (Keep.of_wr W10).1) (Keep.of_wr W15).1) (Keep.of_wr W19).1)
    have ne192_b3 : b3 ≠ b192 := Nat.ne_of_lt (Nat.lt_of_lt_of_le lt192_b3 (Nat.le_of_eq g192.symm))
    have lt192_b6 : b6 < h19.size := Nat.lt_of_lt_of_le V_b6.lt (Nat.le_trans (Nat.le_trans (Nat.le_trans (Nat.le_refl _) (Keep.of_wr W10).1) (Keep.of_wr W15).1) (Keep.of_wr W19).1)
    have ne192_b6 : b6 ≠ b192 := Nat.ne_of_lt (Nat.lt_of_lt_of_le lt192_b6 (Nat.le_of_eq g192.symm))
    have zz193 : n0 ≤ h19.size := (Nat.le_trans (Nat.le_trans (Nat.le_trans (Nat.le_trans zz7 E6.1) (Keep.of_wr W10).1) (Keep.of_wr W15).1) (Keep.of_wr W19).1)
    have g_b192 : n0 ≤ b192 := Nat.le_trans zz193 (Nat.le_of_eq g192.symm)
    have zz194 : h0.size ≤ h19.size := (Nat.le_trans (Nat.le_trans (Nat.le_trans (Nat.le_trans zz8 E6.1) (Keep.of_wr W10).1) (Keep.of_wr W15).1) (Keep.of_wr W19).1)
    have sz_b192 : h0.size ≤ b192 := Nat.le_trans zz194 (Nat.le_of_eq g192.symm)
    have V_b192 : Arv Z h192 b192 k192 .int n [(.int (0 : Int32)), (.int (0 : Int32)), (.int (0 : Int32)), (.int (0 : Int32))] (.int (0 : Int32)) := (Arv.new A192 hn0).pad (pad_rep [] (.int (0 : Int32)) 4)
    have fx195 := ((((((((F_blockOf.other W2 (Or.inr (slot_ne (Or.inr (hw _ (List.mem_of_getElem? (i := 18) rfl))) (Or.inl (hw _ (List.mem_of_getElem? (i := 12) rfl))) (by decide) (t := (.array .int)) (t' := .int) (by decide) (by decide)))).ext E3).other W5 (Or.inr (slot_ne (Or.inr (hw _ (List.mem_of_getElem? (i := 18) rfl))) (Or.inr (hw _ (List.mem_of_getElem? (i := 14) rfl))) (by decide) (t := (.array .int)) (t' := (.array .int)) (by decide) (by decide)))).ext E6).other W10 (Or.inr (slot_ne (Or.inr (hw _ (List.mem_of_getElem? (i := 18) rfl))) (Or.inr (hw _ (List.mem_of_getElem? (i := 16) rfl))) (by decide) (t := (.array .int)) (t' := (.array .int)) (by decide) (by decide)))).other W15 (Or.inl ne3_a1)).other W19 (Or.inl ne6_a1)).ext E192)
    have fx196 := ((((((((E_a1.wr W2).ext E3).wr W5).ext E6).wr W10).wr W15).wr W19).ext E192)
    obtain ⟨T197, h197, X197, e197, W197, st197⟩ := putF X192 hx hZ hown (host := "") (Or.inl (hw _ (List.mem_of_getElem? (i := 17) rfl))) Via.refl e192 fx195 fx196 (Or.inr ⟨(hw _ (List.mem_of_getElem? (i := 18) rfl)), rfl, hnm⟩) (hw _ (List.mem_of_getElem? (i := 3) rfl)) (ty := (.array .int)) (by decide) rfl rfl (g := (mkF m 54 #[.val (.ref a1), .val (.int n), .val (.int ((0 : Int32) + (1 : Int32)))] [(.ref b192), (.ref a1)])) rfl rfl (hb hby d1_54)
    have Fw197 := fx195.same W197
    have N197 := Fr.snoc X197 N19 g_a1
    obtain ⟨T198, h198, k198, X198, e198, E198, A198, st198⟩ := newP X197 hx hZ (hw _ (List.mem_of_getElem? (i := 1) rfl)) e197 (g := (mkF m 59 #[.val (.ref a1), .val (.int n), .val (.int ((0 : Int32) + (1 : Int32)))] [(.int n), (.ref a1)])) rfl (hb hby d1_59) rfl hn0 (cap := 4) hn4 (by decide) (by decide) (by decide)
    obtain ⟨b198, g198⟩ : ∃ z, z = h197.size := ⟨_, rfl⟩
    rw [← g198] at A198 st198
    have lt198_a1 : a1 < h197.size := Nat.lt_of_lt_of_le lt192_a1 (Nat.le_trans (Nat.le_trans (Nat.le_refl _) E192.1) (Keep.of_wr W197).1)
    have ne198_a1 : a1 ≠ b198 := Nat.ne_of_lt (Nat.lt_of_lt_of_le lt198_a1 (Nat.le_of_eq g198.symm))
    have lt198_b3 : b3 < h197.size := Nat.lt_of_lt_of_le lt192_b3 (Nat.le_trans (Nat.le_trans (Nat.le_refl _) E192.1) (Keep.of_wr W197).1)
    have ne198_b3 : b3 ≠ b198 := Nat.ne_of_lt (Nat.lt_of_lt_of_le lt198_b3 (Nat.le_of_eq g198.symm))
    have lt198_b6 : b6 < h197.size := Nat.lt_of_lt_of_le lt192_b6 (Nat.le_trans (Nat.le_trans (Nat.le_refl _) E192.1) (Keep.of_wr W197).1)
    have ne198_b6 : b6 ≠ b198 := Nat.ne_of_lt (Nat.lt_of_lt_of_le lt198_b6 (Nat.le_of_eq g198.symm))
    have lt198_b192 : b192 < h197.size := Nat.lt_of_lt_of_le V_b192.lt (Nat.le_trans (Nat.le_refl _) (Keep.of_wr W197).1)
    have ne198_b192 : b192 ≠ b198 := Nat.ne_of_lt (Nat.lt_of_lt_of_le lt198_b192 (Nat.le_of_eq g198.symm))
    have zz199 : n0 ≤ h197.size := (Nat.le_trans (Nat.le_trans zz193 E192.1) (Keep.of_wr W197).1)
    have g_b198 : n0 ≤ b198 := Nat.le_trans zz199 (Nat.le_of_eq g198.symm)
    have zz200 : h0.size ≤ h197.size := (Nat.le_trans (Nat.le_trans zz194 E192.1) (Keep.of_wr W197).1)
    have sz_b198 : h0.size ≤ b198 := Nat.le_trans zz200 (Nat.le_of_eq g198.symm)
    have V_b198 : Arv Z h198 b198 k198 .int n [(.int (0 : Int32)), (.int (0 : Int32)), (.int (0 : Int32)), (.int (0 : Int32))] (.int (0 : Int32)) := (Arv.new A198 hn0).pad (pad_rep [] (.int (0 : Int32)) 4)
    have fx201 := ((((((((((F_blockBegin.other W2 (Or.inr (slot_ne (Or.inr (hw _ (List.mem_of_getElem? (i := 20) rfl))) (Or.inl (hw _ (List.mem_of_getElem? (i := 12) rfl))) (by decide) (t := (.array .int)) (t' := .int) (by decide) (by decide)))).ext E3).other W5 (Or.inr (slot_ne (Or.inr (hw _ (List.mem_of_getElem? (i := 20) rfl))) (Or.inr (hw _ (List.mem_of_getElem? (i := 14) rfl))) (by decide) (t := (.array .int)) (t' := (.array .int)) (by decide) (by decide)))).ext E6).other W10 (Or.inr (slot_ne (Or.inr (hw _ (List.mem_of_getElem? (i := 20) rfl))) (Or.inr (hw _ (List.mem_of_getElem? (i := 16) rfl))) (by decide) (t := (.array .int)) (t' := (.array .int)) (by decide) (by decide)))).other W15 (Or.inl ne3_a1)).other W19 (Or.inl ne6_a1)).ext E192).other W197 (Or.inr (slot_ne (Or.inr (hw _ (List.mem_of_getElem? (i := 20) rfl))) (Or.inr (hw _ (List.mem_of_getElem? (i := 18) rfl))) (by decide) (t := (.array .int)) (t' := (.array .int)) (by decide) (by decide)))).ext E198)
    obtain ⟨T202, h202, X202, e202, W202, st202⟩ := putF X198 hx hZ hown (host := "") (Or.inl (hw _ (List.mem_of_getElem? (i := 19) rfl))) Via.refl e198 fx201 ((fx196.wr W197).ext E198) (Or.inr ⟨(hw _ (List.mem_of_getElem? (i := 20) rfl)), rfl, hnm⟩) (hw _ (List.mem_of_getElem? (i := 3) rfl)) (ty := (.array .int)) (by decide) rfl rfl (g := (mkF m 61 #[.val (.ref a1), .val (.int n), .val (.int ((0 : Int32) + (1 : Int32)))] [(.ref b198), (.ref a1)])) rfl rfl (hb hby d1_61)
    have Fw202 := fx201.same W202
    have N202 := Fr.snoc X202 N197 g_a1
    obtain ⟨T203, h203, k203, X203, e203, E203, A203, st203⟩ := newP X202 hx hZ (hw _ (List.mem_of_getElem? (i := 1) rfl)) e202 (g := (mkF m 66 #[.val (.ref a1), .val (.int n), .val (.int ((0 : Int32) + (1 : Int32)))] [(.int n), (.ref a1)])) rfl (hb hby d1_66) rfl hn0 (cap := 4) hn4 (by decide) (by decide) (by decide)
    obtain ⟨b203, g203⟩ : ∃ z, z = h202.size := ⟨_, rfl⟩
    rw [← g203] at A203 st203
    have lt203_a1 : a1 < h202.size := Nat.lt_of_lt_of_le lt198_a1 (Nat.le_trans (Nat.le_trans (Nat.le_refl _) E198.1) (Keep.of_wr W202).1)
    have ne203_a1 : a1 ≠ b203 := Nat.ne_of_lt (Nat.lt_of_lt_of_le lt203_a1 (Nat.le_of_eq g203.symm))
    have lt203_b3 : b3 < h202.size := Nat.lt_of_lt_of_le lt198_b3 (Nat.le_trans (Nat.le_trans (Nat.le_refl _) E198.1) (Keep.of_wr W202).1)
    have ne203_b3 : b3 ≠ b203 := Nat.ne_of_lt (Nat.lt_of_lt_of_le lt203_b3 (Nat.le_of_eq g203.symm))
    have lt203_b6 : b6 < h202.size := Nat.lt_of_lt_of_le lt198_b6 (Nat.le_trans (Nat.le_trans (Nat.le_refl _) E198.1) (Keep.of_wr W202).1)
    have ne203_b6 : b6 ≠ b203 := Nat.ne_of_lt (Nat.lt_of_lt_of_le lt203_b6 (Nat.le_of_eq g203.symm))
    have lt203_b192 : b192 < h202.size := Nat.lt_of_lt_of_le lt198_b192 (Nat.le_trans (Nat.le_trans (Nat.le_refl _) E198.1) (Keep.of_wr W202).1)
    have ne203_b192 : b192 ≠ b203 := Nat.ne_of_lt (Nat.lt_of_lt_of_le lt203_b192 (Nat.le_of_eq g203.symm))
    have lt203_b198 : b198 < h202.size := Nat.lt_of_lt_of_le V_b198.lt (Nat.le_trans (Nat.le_refl _) (Keep.of_wr W202).1)
    have ne203_b198 : b198 ≠ b203 := Nat.ne_of_lt (Nat.lt_of_lt_of_le lt203_b198 (Nat.le_of_eq g203.symm))
    have zz204 : n0 ≤ h202.size := (Nat.le_trans (Nat.le_trans zz199 E198.1) (Keep.of_wr W202).1)
    have g_b203 : n0 ≤ b203 := Nat.le_trans zz204 (Nat.le_of_eq g203.symm)
    have zz205 : h0.size ≤ h202.size := (Nat.le_trans (Nat.le_trans zz200 E198.1) (Keep.of_wr W202).1)
    have sz_b203 : h0.size ≤ b203 := Nat.le_trans zz205 (Nat.le_of_eq g203.symm)
    have V_b203 : Arv Z h203 b203 k203 .int n [(.int (0 : Int32)), (.int (0 : Int32)), (.int (0 : Int32)), (.int (0 : Int32))] (.int (0 : Int32)) := (Arv.new A203 hn0).pad (pad_rep [] (.int (0 : Int32)) 4)
    have fx206 := ((((((((((((F_blockEnd.other W2 (Or.inr (slot_ne (Or.inr (hw _ (List.mem_of_getElem? (i := 22) rfl))) (Or.inl (hw _ (List.mem_of_getElem? (i := 12) rfl))) (by decide) (t := (.array .int)) (t' := .int) (by decide) (by decide)))).ext E3).other W5 (Or.inr (slot_ne (Or.inr (hw _ (List.mem_of_getElem? (i := 22) rfl))) (Or.inr (hw _ (List.mem_of_getElem? (i := 14) rfl))) (by decide) (t := (.array .int)) (t' := (.array .int)) (by decide) (by decide)))).ext E6).other W10 (Or.inr (slot_ne (Or.inr (hw _ (List.mem_of_getElem? (i := 22) rfl))) (Or.inr (hw _ (List.mem_of_getElem? (i := 16) rfl))) (by decide) (t := (.array .int)) (t' := (.array .int)) (by decide) (by decide)))).other W15 (Or.inl ne3_a1)).other W19 (Or.inl ne6_a1)).ext E192).other W197 (Or.inr (slot_ne (Or.inr (hw _ (List.mem_of_getElem? (i := 22) rfl))) (Or.inr (hw _ (List.mem_of_getElem? (i := 18) rfl))) (by decide) (t := (.array .int)) (t' := (.array .int)) (by decide) (by decide)))).ext E198).other W202 (Or.inr (slot_ne (Or.inr (hw _ (List.mem_of_getElem? (i := 22) rfl))) (Or.inr (hw _ (List.mem_of_getElem? (i := 20) rfl))) (by decide) (t := (.array .int)) (t' := (.array .int)) (by decide) (by decide)))).ext E203)
    obtain ⟨T207, h207, X207, e207, W207, st207⟩ := putF X203 hx hZ hown (host := "") (Or.inl (hw _ (List.mem_of_getElem? (i := 21) rfl))) Via.refl e203 fx206 ((((fx196.wr W197).ext E198).wr W202).ext E203) (Or.inr ⟨(hw _ (List.mem_of_getElem? (i := 22) rfl)), rfl, hnm⟩) (hw _ (List.mem_of_getElem? (i := 3) rfl)) (ty := (.array .int)) (by decide) rfl rfl (g := (mkF m 68 #[.val (.ref a1), .val (.int n), .val (.int ((0 : Int32) + (1 : Int32)))] [(.ref b203), (.ref a1)])) rfl rfl (hb hby d1_68)
    have Fw207 := fx206.same W207
    have N207 := Fr.snoc X207 N202 g_a1
    obtain ⟨T208, h208, k208, X208, e208, E208, A208, st208⟩ := newP X207 hx hZ (hw _ (List.mem_of_getElem? (i := 1) rfl)) e207 (g := (mkF m 73 #[.val (.ref a1), .val (.int n), .val (.int ((0 : Int32) + (1 : Int32)))] [(.int n), (.ref a1)])) rfl (hb hby d1_73) rfl hn0 (cap := 4) hn4 (by decide) (by decide) (by decide)
    obtain ⟨b208, g208⟩ : ∃ z, z = h207.size := ⟨_, rfl⟩
    rw [← g208] at A208 st208
    have lt208_a1 : a1 < h207.size := Nat.lt_of_lt_of_le lt203_a1 (Nat.le_trans (Nat.le_trans (Nat.le_refl _) E203.1) (Keep.of_wr W207).1)
    have ne208_a1 : a1 ≠ b208 := Nat.ne_of_lt (Nat.lt_of_lt_of_le lt208_a1 (Nat.le_of_eq g208.symm))
    have lt208_b3 : b3 < h207.size := Nat.lt_of_lt_of_le lt203_b3 (Nat.le_trans (Nat.le_trans (Nat.le_refl _) E203.1) (Keep.of_wr W207).1)
    have ne208_b3 : b3 ≠ b208 := Nat.ne_of_lt (Nat.lt_of_lt_of_le lt208_b3 (Nat.le_of_eq g208.symm))
    have lt208_b6 : b6 < h207.size := Nat.lt_of_lt_of_le lt203_b6 (Nat.le_trans (Nat.le_trans (Nat.le_refl _) E203.1) (Keep.of_wr W207).1)
    have ne208_b6 : b6 ≠ b208 := Nat.ne_of_lt (Nat.lt_of_lt_of_le lt208_b6 (Nat.le_of_eq g208.symm))
    have lt208_b192 : b192 < h207.size := Nat.lt_of_lt_of_le lt203_b192 (Nat.le_trans (Nat.le_trans (Nat.le_refl _) E203.1) (Keep.of_wr W207).1)
    have ne208_b192 : b192 ≠ b208 := Nat.ne_of_lt (Nat.lt_of_lt_of_le lt208_b192 (Nat.le_of_eq g208.symm))
    have lt208_b198 : b198 < h207.size := Nat.lt_of_lt_of_le lt203_b198 (Nat.le_trans (Nat.le_trans (Nat.le_refl _) E203.1) (Keep.of_wr W207).1)
    have ne208_b198 : b198 ≠ b208 := Nat.ne_of_lt (Nat.lt_of_lt_of_le lt208_b198 (Nat.le_of_eq g208.symm))
    have lt208_b203 : b203 < h207.size := Nat.lt_of_lt_of_le V_b203.lt (Nat.le_trans (Nat.le_refl _) (Keep.of_wr W207).1)
    have ne208_b203 : b203 ≠ b208 := Nat.ne_of_lt (Nat.lt_of_lt_of_le lt208_b203 (Nat.le_of_eq g208.symm))
    have zz209 : n0 ≤ h207.size := (Nat.le_trans (Nat.le_trans zz204 E203.1) (Keep.of_wr W207).1)
    have g_b208 : n0 ≤ b208 := Nat.le_trans zz209 (Nat.le_of_eq g208.symm)
    have zz210 : h0.size ≤ h207.size := (Nat.le_trans (Nat.le_trans zz205 E203.1) (Keep.of_wr W207).1)
    have sz_b208 : h0.size ≤ b208 := Nat.le_trans zz210 (Nat.le_of_eq g208.symm)
    have V_b208 : Arv Z h208 b208 k208 .int n [(.int (0 : Int32)), (.int (0 : Int32)), (.int (0 : Int32)), (.int (0 : Int32))] (.int (0 : Int32)) := (Arv.new A208 hn0).pad (pad_rep [] (.int (0 : Int32)) 4)
    have fx211 := ((((((((((((((F_markedEnd.other W2 (Or.inr (slot_ne (Or.inr (hw _ (List.mem_of_getElem? (i := 24) rfl))) (Or.inl (hw _ (List.mem_of_getElem? (i := 12) rfl))) (by decide) (t := (.array .int)) (t' := .int) (by decide) (by decide)))).ext E3).other W5 (Or.inr (slot_ne (Or.inr (hw _ (List.mem_of_getElem? (i := 24) rfl))) (Or.inr (hw _ (List.mem_of_getElem? (i := 14) rfl))) (by decide) (t := (.array .int)) (t' := (.array .int)) (by decide) (by decide)))).ext E6).other W10 (Or.inr (slot_ne (Or.inr (hw _ (List.mem_of_getElem? (i := 24) rfl))) (Or.inr (hw _ (List.mem_of_getElem? (i := 16) rfl))) (by decide) (t := (.array .int)) (t' := (.array .int)) (by decide) (by decide)))).other W15 (Or.inl ne3_a1)).other W19 (Or.inl ne6_a1)).ext E192).other W197 (Or.inr (slot_ne (Or.inr (hw _ (List.mem_of_getElem? (i := 24) rfl))) (Or.inr (hw _ (List.mem_of_getElem? (i := 18) rfl))) (by decide) (t := (.array .int)) (t' := (.array .int)) (by decide) (by decide)))).ext E198).other W202 (Or.inr (slot_ne (Or.inr (hw _ (List.mem_of_getElem? (i := 24) rfl))) (Or.inr (hw _ (List.mem_of_getElem? (i := 20) rfl))) (by decide) (t := (.array .int)) (t' := (.array .int)) (by decide) (by decide)))).ext E203).other W207 (Or.inr (slot_ne (Or.inr (hw _ (List.mem_of_getElem? (i := 24) rfl))) (Or.inr (hw _ (List.mem_of_getElem? (i := 22) rfl))) (by decide) (t := (.array .int)) (t' := (.array .int)) (by decide) (by decide)))).ext E208)
    have fx212 := ((((((fx196.wr W197).ext E198).wr W202).ext E203).wr W207).ext E208)
    obtain ⟨T213, h213, X213, e213, W213, st213⟩ := putF X208 hx hZ hown (host := "") (Or.inl (hw _ (List.mem_of_getElem? (i := 23) rfl))) Via.refl e208 fx211 fx212 (Or.inr ⟨(hw _ (List.mem_of_getElem? (i := 24) rfl)), rfl, hnm⟩) (hw _ (List.mem_of_getElem? (i := 3) rfl)) (ty := (.array .int)) (by decide) rfl rfl (g := (mkF m 75 #[.val (.ref a1), .val (.int n), .val (.int ((0 : Int32) + (1 : Int32)))] [(.ref b208), (.ref a1)])) rfl rfl (hb hby d1_75)
    have Fw213 := fx211.same W213
    have N213 := Fr.snoc X213 N207 g_a1
    have fx214 := ((Fw207.ext E208).other W213 (Or.inr (slot_ne (Or.inr (hw _ (List.mem_of_getElem? (i := 22) rfl))) (Or.inr (hw _ (List.mem_of_getElem? (i := 24) rfl))) (by decide) (t := (.array .int)) (t' := (.array .int)) (by decide) (by decide))))
    obtain ⟨T215, X215, e215, st215⟩ := getF X213 hx hZ hown (host := "") (Or.inl (hw _ (List.mem_of_getElem? (i := 21) rfl))) Via.refl e213 fx214 (g := (mkF m 79 #[.val (.ref a1), .val (.int n), .val (.int ((0 : Int32) + (1 : Int32)))] [(.ref a1)])) rfl rfl (hb hby d1_79)
    have fx217 := (((V_b203.other W207 (Ne.symm ne203_a1)).ext E208).other W213 (Ne.symm ne203_a1))
    have Vo_216 := fx217
    obtain ⟨Cl_216, Ar_216, Kc_216, Sz_216, Nn_216, Hs_216, Gf_216⟩ := Vo_216
    obtain ⟨T218, h218, X218, e218, W218, st218⟩ := stI X215 hx hZ e215 Ar_216 (j := (0 : Int32)) (inb_of Sz_216 ⟨by decide, hn1⟩) (g := (mkF m 84 #[.val (.ref a1), .val (.int n), .val (.int ((0 : Int32) + (1 : Int32)))] [(.int n), (.int (0 : Int32)), (.ref b203)])) rfl rfl (hb hby d1_84)
    have Vs218 : Arv Z h218 b203 k203 .int n [(.int n), (.int (0 : Int32)), (.int (0 : Int32)), (.int (0 : Int32))] (.int (0 : Int32)) := Arv.set Ar_216 Kc_216 Sz_216 Nn_216 Hs_216 Gf_216 rfl W218 0 (by decide) (Nat.le_of_ble_eq_true rfl)
    have N218 := Fr.snoc X218 N213 g_b203
    obtain ⟨T219, h219, k219, X219, e219, E219, A219, st219⟩ := newP X218 hx hZ (hw _ (List.mem_of_getElem? (i := 1) rfl)) e218 (g := (mkF m 87 #[.val (.ref a1), .val (.int n), .val (.int ((0 : Int32) + (1 : Int32)))] [(.int n), (.ref a1)])) rfl (hb hby d1_87) rfl hn0 (cap := 4) hn4 (by decide) (by decide) (by decide)
    obtain ⟨b219, g219⟩ : ∃ z, z = h218.size := ⟨_, rfl⟩
    rw [← g219] at A219 st219
    have lt219_a1 : a1 < h218.size := Nat.lt_of_lt_of_le lt208_a1 (Nat.le_trans (Nat.le_trans (Nat.le_trans (Nat.le_refl _) E208.1) (Keep.of_wr W213).1) (Keep.of_wr W218).1)
    have ne219_a1 : a1 ≠ b219 := Nat.ne_of_lt (Nat.lt_of_lt_of_le lt219_a1 (Nat.le_of_eq g219.symm))
    have lt219_b3 : b3 < h218.size := Nat.lt_of_lt_of_le lt208_b3 (Nat.le_trans (Nat.le_trans (Nat.le_trans (Nat.le_refl _) E208.1) (Keep.of_wr W213).1) (Keep.of_wr W218).1)
    have ne219_b3 : b3 ≠ b219 := Nat.ne_of_lt (Nat.lt_of_lt_of_le lt219_b3 (Nat.le_of_eq g219.symm))
    have lt219_b6 : b6 < h218.size := Nat.lt_of_lt_of_le lt208_b6 (Nat.le_trans (Nat.le_trans (Nat.le_trans (Nat.le_refl _) E208.1) (Keep.of_wr W213).1) (Keep.of_wr W218).1)
    have ne219_b6 : b6 ≠ b219 := Nat.ne_of_lt (Nat.lt_of_lt_of_le lt219_b6 (Nat.le_of_eq g219.symm))
    have lt219_b192 : b192 < h218.size := Nat.lt_of_lt_of_le lt208_b192 (Nat.le_trans (Nat.le_trans (Nat.le_trans (Nat.le_refl _) E208.1) (Keep.of_wr W213).1) (Keep.of_wr W218).1)
    have ne219_b192 : b192 ≠ b219 := Nat.ne_of_lt (Nat.lt_of_lt_of_le lt219_b192 (Nat.le_of_eq g219.symm))
    have lt219_b198 : b198 < h218.size := Nat.lt_of_lt_of_le lt208_b198 (Nat.le_trans (Nat.le_trans (Nat.le_trans (Nat.le_refl _) E208.1) (Keep.of_wr W213).1) (Keep.of_wr W218).1)
    have ne219_b198 : b198 ≠ b219 := Nat.ne_of_lt (Nat.lt_of_lt_of_le lt219_b198 (Nat.le_of_eq g219.symm))
    have lt219_b203 : b203 < h218.size := Nat.lt_of_lt_of_le lt208_b203 (Nat.le_trans (Nat.le_trans (Nat.le_trans (Nat.le_refl _) E208.1) (Keep.of_wr W213).1) (Keep.of_wr W218).1)
    have ne219_b203 : b203 ≠ b219 := Nat.ne_of_lt (Nat.lt_of_lt_of_le lt219_b203 (Nat.le_of_eq g219.symm))
    have lt219_b208 : b208 < h218.size := Nat.lt_of_lt_of_le V_b208.lt (Nat.le_trans (Nat.le_trans (Nat.le_refl _) (Keep.of_wr W213).1) (Keep.of_wr W218).1)
    have ne219_b208 : b208 ≠ b219 := Nat.ne_of_lt (Nat.lt_of_lt_of_le lt219_b208 (Nat.le_of_eq g219.symm))
    have zz220 : n0 ≤ h218.size := (Nat.le_trans (Nat.le_trans (Nat.le_trans zz209 E208.1) (Keep.of_wr W213).1) (Keep.of_wr W218).1)
    have g_b219 : n0 ≤ b219 := Nat.le_trans zz220 (Nat.le_of_eq g219.symm)
    have zz221 : h0.size ≤ h218.size := (Nat.le_trans (Nat.le_trans (Nat.le_trans zz210 E208.1) (Keep.of_wr W213).1) (Keep.of_wr W218).1)
    have sz_b219 : h0.size ≤ b219 := Nat.le_trans zz221 (Nat.le_of_eq g219.symm)
    have V_b219 : Arv Z h219 b219 k219 .int n [(.int (0 : Int32)), (.int (0 : Int32)), (.int (0 : Int32)), (.int (0 : Int32))] (.int (0 : Int32)) := (Arv.new A219 hn0).pad (pad_rep [] (.int (0 : Int32)) 4)
    have fx222 := (((((((((((((((((F_splitFrom.other W2 (Or.inr (slot_ne (Or.inr (hw _ (List.mem_of_getElem? (i := 26) rfl))) (Or.inl (hw _ (List.mem_of_getElem? (i := 12) rfl))) (by decide) (t := (.array .int)) (t' := .int) (by decide) (by decide)))).ext E3).other W5 (Or.inr (slot_ne (Or.inr (hw _ (List.mem_of_getElem? (i := 26) rfl))) (Or.inr (hw _ (List.mem_of_getElem? (i := 14) rfl))) (by decide) (t := (.array .int)) (t' := (.array .int)) (by decide) (by decide)))).ext E6).other W10 (Or.inr (slot_ne (Or.inr (hw _ (List.mem_of_getElem? (i := 26) rfl))) (Or.inr (hw _ (List.mem_of_getElem? (i := 16) rfl))) (by decide) (t := (.array .int)) (t' := (.array .int)) (by decide) (by decide)))).other W15 (Or.inl ne3_a1)).other W19 (Or.inl ne6_a1)).ext E192).other W197 (Or.inr (slot_ne (Or.inr (hw _ (List.mem_of_getElem? (i := 26) rfl))) (Or.inr (hw _ (List.mem_of_getElem? (i := 18) rfl))) (by decide) (t := (.array .int)) (t' := (.array .int)) (by decide) (by decide)))).ext E198).other W202 (Or.inr (slot_ne (Or.inr (hw _ (List.mem_of_getElem? (i := 26) rfl))) (Or.inr (hw _ (List.mem_of_getElem? (i := 20) rfl))) (by decide) (t := (.array .int)) (t' := (.array .int)) (by decide) (by decide)))).ext E203).other W207 (Or.inr (slot_ne (Or.inr (hw _ (List.mem_of_getElem? (i := 26) rfl))) (Or.inr (hw _ (List.mem_of_getElem? (i := 22) rfl))) (by decide) (t := (.array .int)) (t' := (.array .int)) (by decide) (by decide)))).ext E208).other W213 (Or.inr (slot_ne (Or.inr (hw _ (List.mem_of_getElem? (i := 26) rfl))) (Or.inr (hw _ (List.mem_of_getElem? (i := 24) rfl))) (by decide) (t := (.array .int)) (t' := (.array .int)) (by decide) (by decide)))).other W218 (Or.inl ne203_a1)).ext E219)
    obtain ⟨T223, h223, X223, e223, W223, st223⟩ := putF X219 hx hZ hown (host := "") (Or.inl (hw _ (List.mem_of_getElem? (i := 25) rfl))) Via.refl e219 fx222 (((fx212.wr W213).wr W218).ext E219) (Or.inr ⟨(hw _ (List.mem_of_getElem? (i := 26) rfl)), rfl, hnm⟩) (hw _ (List.mem_of_getElem? (i := 3) rfl)) (ty := (.array .int)) (by decide) rfl rfl (g := (mkF m 89 #[.val (.ref a1), .val (.int n), .val (.int ((0 : Int32) + (1 : Int32)))] [(.ref b219), (.ref a1)])) rfl rfl (hb hby d1_89)
    have Fw223 := fx222.same W223
    have N223 := Fr.snoc X223 N218 g_a1
    obtain ⟨T224, h224, k224, X224, e224, E224, A224, st224⟩ := newP X223 hx hZ (hw _ (List.mem_of_getElem? (i := 1) rfl)) e223 (g := (mkF m 94 #[.val (.ref a1), .val (.int n), .val (.int ((0 : Int32) + (1 : Int32)))] [(.int n), (.ref a1)])) rfl (hb hby d1_94) rfl hn0 (cap := 4) hn4 (by decide) (by decide) (by decide)
    obtain ⟨b224, g224⟩ : ∃ z, z = h223.size := ⟨_, rfl⟩
    rw [← g224] at A224 st224
    have lt224_a1 : a1 < h223.size := Nat.lt_of_lt_of_le lt219_a1 (Nat.le_trans (Nat.le_trans (Nat.le_refl _) E219.1) (Keep.of_wr W223).1)
    have ne224_a1 : a1 ≠ b224 := Nat.ne_of_lt (Nat.lt_of_lt_of_le lt224_a1 (Nat.le_of_eq g224.symm))
    have lt224_b3 : b3 < h223.size := Nat.lt_of_lt_of_le lt219_b3 (Nat.le_trans (Nat.le_trans (Nat.le_refl _) E219.1) (Keep.of_wr W223).1)
    have ne224_b3 : b3 ≠ b224 := Nat.ne_of_lt (Nat.lt_of_lt_of_le lt224_b3 (Nat.le_of_eq g224.symm))
    have lt224_b6 : b6 < h223.size := Nat.lt_of_lt_of_le lt219_b6 (Nat.le_trans (Nat.le_trans (Nat.le_refl _) E219.1) (Keep.of_wr W223).1)
    have ne224_b6 : b6 ≠ b224 := Nat.ne_of_lt (Nat.lt_of_lt_of_le lt224_b6 (Nat.le_of_eq g224.symm))
    have lt224_b192 : b192 < h223.size := Nat.lt_of_lt_of_le lt219_b192 (Nat.le_trans (Nat.le_trans (Nat.le_refl _) E219.1) (Keep.of_wr W223).1)
    have ne224_b192 : b192 ≠ b224 := Nat.ne_of_lt (Nat.lt_of_lt_of_le lt224_b192 (Nat.le_of_eq g224.symm))
    have lt224_b198 : b198 < h223.size := Nat.lt_of_lt_of_le lt219_b198 (Nat.le_trans (Nat.le_trans (Nat.le_refl _) E219.1) (Keep.of_wr W223).1)
    have ne224_b198 : b198 ≠ b224 := Nat.ne_of_lt (Nat.lt_of_lt_of_le lt224_b198 (Nat.le_of_eq g224.symm))
    have lt224_b203 : b203 < h223.size := Nat.lt_of_lt_of_le lt219_b203 (Nat.le_trans (Nat.le_trans (Nat.le_refl _) E219.1) (Keep.of_wr W223).1)
    have ne224_b203 : b203 ≠ b224 := Nat.ne_of_lt (Nat.lt_of_lt_of_le lt224_b203 (Nat.le_of_eq g224.symm))
    have lt224_b208 : b208 < h223.size := Nat.lt_of_lt_of_le lt219_b208 (Nat.le_trans (Nat.le_trans (Nat.le_refl _) E219.1) (Keep.of_wr W223).1)
    have ne224_b208 : b208 ≠ b224 := Nat.ne_of_lt (Nat.lt_of_lt_of_le lt224_b208 (Nat.le_of_eq g224.symm))
    have lt224_b219 : b219 < h223.size := Nat.lt_of_lt_of_le V_b219.lt (Nat.le_trans (Nat.le_refl _) (Keep.of_wr W223).1)
    have ne224_b219 : b219 ≠ b224 := Nat.ne_of_lt (Nat.lt_of_lt_of_le lt224_b219 (Nat.le_of_eq g224.symm))
    have zz225 : n0 ≤ h223.size := (Nat.le_trans (Nat.le_trans zz220 E219.1) (Keep.of_wr W223).1)
    have g_b224 : n0 ≤ b224 := Nat.le_trans zz225 (Nat.le_of_eq g224.symm)
    have zz226 : h0.size ≤ h223.size := (Nat.le_trans (Nat.le_trans zz221 E219.1) (Keep.of_wr W223).1)
    have sz_b224 : h0.size ≤ b224 := Nat.le_trans zz226 (Nat.le_of_eq g224.symm)
    have V_b224 : Arv Z h224 b224 k224 .int n [(.int (0 : Int32)), (.int (0 : Int32)), (.int (0 : Int32)), (.int (0 : Int32))] (.int (0 : Int32)) := (Arv.new A224 hn0).pad (pad_rep [] (.int (0 : Int32)) 4)
    have fx227 := (((((((((((((((((((F_touched.other W2 (Or.inr (slot_ne (Or.inr (hw _ (List.mem_of_getElem? (i := 28) rfl))) (Or.inl (hw _ (List.mem_of_getElem? (i := 12) rfl))) (by decide) (t := (.array .int)) (t' := .int) (by decide) (by decide)))).ext E3).other W5 (Or.inr (slot_ne (Or.inr (hw _ (List.mem_of_getElem? (i := 28) rfl))) (Or.inr (hw _ (List.mem_of_getElem? (i := 14) rfl))) (by decide) (t := (.array .int)) (t' := (.array .int)) (by decide) (by decide)))).ext E6).other W10 (Or.inr (slot_ne (Or.inr (hw _ (List.mem_of_getElem? (i := 28) rfl))) (Or.inr (hw _ (List.mem_of_getElem? (i := 16) rfl))) (by decide) (t := (.array .int)) (t' := (.array .int)) (by decide) (by decide)))).other W15 (Or.inl ne3_a1)).other W19 (Or.inl ne6_a1)).ext E192).other W197 (Or.inr (slot_ne (Or.inr (hw _ (List.mem_of_getElem? (i := 28) rfl))) (Or.inr (hw _ (List.mem_of_getElem? (i := 18) rfl))) (by decide) (t := (.array .int)) (t' := (.array .int)) (by decide) (by decide)))).ext E198).other W202 (Or.inr (slot_ne (Or.inr (hw _ (List.mem_of_getElem? (i := 28) rfl))) (Or.inr (hw _ (List.mem_of_getElem? (i := 20) rfl))) (by decide) (t := (.array .int)) (t' := (.array .int)) (by decide) (by decide)))).ext E203).other W207 (Or.inr (slot_ne (Or.inr (hw _ (List.mem_of_getElem? (i := 28) rfl))) (Or.inr (hw _ (List.mem_of_getElem? (i := 22) rfl))) (by decide) (t := (.array .int)) (t' := (.array .int)) (by decide) (by decide)))).ext E208).other W213 (Or.inr (slot_ne (Or.inr (hw _ (List.mem_of_getElem? (i := 28) rfl))) (Or.inr (hw _ (List.mem_of_getElem? (i := 24) rfl))) (by decide) (t := (.array .int)) (t' := (.array .int)) (by decide) (by decide)))).other W218 (Or.inl ne203_a1)).ext E219).other W223 (Or.inr (slot_ne (Or.inr (hw _ (List.mem_of_getElem? (i := 28) rfl))) (Or.inr (hw _ (List.mem_of_getElem? (i := 26) rfl))) (by decide) (t := (.array .int)) (t' := (.array .int)) (by decide) (by decide)))).ext E224)
    obtain ⟨T228, h228, X228, e228, W228, st228⟩ := putF X224 hx hZ hown (host := "") (Or.inl (hw _ (List.mem_of_getElem? (i := 27) rfl))) Via.refl e224 fx227 (((((fx212.wr W213).wr W218).ext E219).wr W223).ext E224) (Or.inr ⟨(hw _ (List.mem_of_getElem? (i := 28) rfl)), rfl, hnm⟩) (hw _ (List.mem_of_getElem? (i := 3) rfl)) (ty := (.array .int)) (by decide) rfl rfl (g := (mkF m 96 #[.val (.ref a1), .val (.int n), .val (.int ((0 : Int32) + (1 : Int32)))] [(.ref b224), (.ref a1)])) rfl rfl (hb hby d1_96)
    have Fw228 := fx227.same W228
    have N228 := Fr.snoc X228 N223 g_a1
    have hE := own_E1 hc27_2
    have fx229 := ((((((fx212.wr W213).wr W218).ext E219).wr W223).ext E224).wr W228)
    have fx230 := (((((((((((((((fx11.other W15 (Or.inl ne3_a1)).other W19 (Or.inl ne6_a1)).ext E192).other W197 (Or.inr (slot_ne (Or.inr (hw _ (List.mem_of_getElem? (i := 14) rfl))) (Or.inr (hw _ (List.mem_of_getElem? (i := 18) rfl))) (by decide) (t := (.array .int)) (t' := (.array .int)) (by decide) (by decide)))).ext E198).other W202 (Or.inr (slot_ne (Or.inr (hw _ (List.mem_of_getElem? (i := 14) rfl))) (Or.inr (hw _ (List.mem_of_getElem? (i := 20) rfl))) (by decide) (t := (.array .int)) (t' := (.array .int)) (by decide) (by decide)))).ext E203).other W207 (Or.inr (slot_ne (Or.inr (hw _ (List.mem_of_getElem? (i := 14) rfl))) (Or.inr (hw _ (List.mem_of_getElem? (i := 22) rfl))) (by decide) (t := (.array .int)) (t' := (.array .int)) (by decide) (by decide)))).ext E208).other W213 (Or.inr (slot_ne (Or.inr (hw _ (List.mem_of_getElem? (i := 14) rfl))) (Or.inr (hw _ (List.mem_of_getElem? (i := 24) rfl))) (by decide) (t := (.array .int)) (t' := (.array .int)) (by decide) (by decide)))).other W218 (Or.inl ne203_a1)).ext E219).other W223 (Or.inr (slot_ne (Or.inr (hw _ (List.mem_of_getElem? (i := 14) rfl))) (Or.inr (hw _ (List.mem_of_getElem? (i := 26) rfl))) (by decide) (t := (.array .int)) (t' := (.array .int)) (by decide) (by decide)))).ext E224).other W228 (Or.inr (slot_ne (Or.inr (hw _ (List.mem_of_getElem? (i := 14) rfl))) (Or.inr (hw _ (List.mem_of_getElem? (i := 28) rfl))) (by decide) (t := (.array .int)) (t' := (.array .int)) (by decide) (by decide))))
    have fx231 := (((((((((((((((Fw10.other W15 (Or.inl ne3_a1)).other W19 (Or.inl ne6_a1)).ext E192).other W197 (Or.inr (slot_ne (Or.inr (hw _ (List.mem_of_getElem? (i := 16) rfl))) (Or.inr (hw _ (List.mem_of_getElem? (i := 18) rfl))) (by decide) (t := (.array .int)) (t' := (.array .int)) (by decide) (by decide)))).ext E198).other W202 (Or.inr (slot_ne (Or.inr (hw _ (List.mem_of_getElem? (i := 16) rfl))) (Or.inr (hw _ (List.mem_of_getElem? (i := 20) rfl))) (by decide) (t := (.array .int)) (t' := (.array .int)) (by decide) (by decide)))).ext E203).other W207 (Or.inr (slot_ne (Or.inr (hw _ (List.mem_of_getElem? (i := 16) rfl))) (Or.inr (hw _ (List.mem_of_getElem? (i := 22) rfl))) (by decide) (t := (.array .int)) (t' := (.array .int)) (by decide) (by decide)))).ext E208).other W213 (Or.inr (slot_ne (Or.inr (hw _ (List.mem_of_getElem? (i := 16) rfl))) (Or.inr (hw _ (List.mem_of_getElem? (i := 24) rfl))) (by decide) (t := (.array .int)) (t' := (.array .int)) (by decide) (by decide)))).other W218 (Or.inl ne203_a1)).ext E219).other W223 (Or.inr (slot_ne (Or.inr (hw _ (List.mem_of_getElem? (i := 16) rfl))) (Or.inr (hw _ (List.mem_of_getElem? (i := 26) rfl))) (by decide) (t := (.array .int)) (t' := (.array .int)) (by decide) (by decide)))).ext E224).other W228 (Or.inr (slot_ne (Or.inr (hw _ (List.mem_of_getElem? (i := 16) rfl))) (Or.inr (hw _ (List.mem_of_getElem? (i := 28) rfl))) (by decide) (t := (.array .int)) (t' := (.array .int)) (by decide) (by decide))))
    have fx232 := (((((((((((Fw197.ext E198).other W202 (Or.inr (slot_ne (Or.inr (hw _ (List.mem_of_getElem? (i := 18) rfl))) (Or.inr (hw _ (List.mem_of_getElem? (i := 20) rfl))) (by decide) (t := (.array .int)) (t' := (.array .int)) (by decide) (by decide)))).ext E203).other W207 (Or.inr (slot_ne (Or.inr (hw _ (List.mem_of_getElem? (i := 18) rfl))) (Or.inr (hw _ (List.mem_of_getElem? (i := 22) rfl))) (by decide) (t := (.array .int)) (t' := (.array .int)) (by decide) (by decide)))).ext E208).other W213 (Or.inr (slot_ne (Or.inr (hw _ (List.mem_of_getElem? (i := 18) rfl))) (Or.inr (hw _ (List.mem_of_getElem? (i := 24) rfl))) (by decide) (t := (.array .int)) (t' := (.array .int)) (by decide) (by decide)))).other W218 (Or.inl ne203_a1)).ext E219).other W223 (Or.inr (slot_ne (Or.inr (hw _ (List.mem_of_getElem? (i := 18) rfl))) (Or.inr (hw _ (List.mem_of_getElem? (i := 26) rfl))) (by decide) (t := (.array .int)) (t' := (.array .int)) (by decide) (by decide)))).ext E224).other W228 (Or.inr (slot_ne (Or.inr (hw _ (List.mem_of_getElem? (i := 18) rfl))) (Or.inr (hw _ (List.mem_of_getElem? (i := 28) rfl))) (by decide) (t := (.array .int)) (t' := (.array .int)) (by decide) (by decide))))
    have fx233 := (((((((((Fw202.ext E203).other W207 (Or.inr (slot_ne (Or.inr (hw _ (List.mem_of_getElem? (i := 20) rfl))) (Or.inr (hw _ (List.mem_of_getElem? (i := 22) rfl))) (by decide) (t := (.array .int)) (t' := (.array .int)) (by decide) (by decide)))).ext E208).other W213 (Or.inr (slot_ne (Or.inr (hw _ (List.mem_of_getElem? (i := 20) rfl))) (Or.inr (hw _ (List.mem_of_getElem? (i := 24) rfl))) (by decide) (t := (.array .int)) (t' := (.array .int)) (by decide) (by decide)))).other W218 (Or.inl ne203_a1)).ext E219).other W223 (Or.inr (slot_ne (Or.inr (hw _ (List.mem_of_getElem? (i := 20) rfl))) (Or.inr (hw _ (List.mem_of_getElem? (i := 26) rfl))) (by decide) (t := (.array .int)) (t' := (.array .int)) (by decide) (by decide)))).ext E224).other W228 (Or.inr (slot_ne (Or.inr (hw _ (List.mem_of_getElem? (i := 20) rfl))) (Or.inr (hw _ (List.mem_of_getElem? (i := 28) rfl))) (by decide) (t := (.array .int)) (t' := (.array .int)) (by decide) (by decide))))
    have fx234 := (((((fx214.other W218 (Or.inl ne203_a1)).ext E219).other W223 (Or.inr (slot_ne (Or.inr (hw _ (List.mem_of_getElem? (i := 22) rfl))) (Or.inr (hw _ (List.mem_of_getElem? (i := 26) rfl))) (by decide) (t := (.array .int)) (t' := (.array .int)) (by decide) (by decide)))).ext E224).other W228 (Or.inr (slot_ne (Or.inr (hw _ (List.mem_of_getElem? (i := 22) rfl))) (Or.inr (hw _ (List.mem_of_getElem? (i := 28) rfl))) (by decide) (t := (.array .int)) (t' := (.array .int)) (by decide) (by decide))))
    have fx235 := (((((Fw213.other W218 (Or.inl ne203_a1)).ext E219).other W223 (Or.inr (slot_ne (Or.inr (hw _ (List.mem_of_getElem? (i := 24) rfl))) (Or.inr (hw _ (List.mem_of_getElem? (i := 26) rfl))) (by decide) (t := (.array .int)) (t' := (.array .int)) (by decide) (by decide)))).ext E224).other W228 (Or.inr (slot_ne (Or.inr (hw _ (List.mem_of_getElem? (i := 24) rfl))) (Or.inr (hw _ (List.mem_of_getElem? (i := 28) rfl))) (by decide) (t := (.array .int)) (t' := (.array .int)) (by decide) (by decide))))
    have fx236 := ((Fw223.ext E224).other W228 (Or.inr (slot_ne (Or.inr (hw _ (List.mem_of_getElem? (i := 26) rfl))) (Or.inr (hw _ (List.mem_of_getElem? (i := 28) rfl))) (by decide) (t := (.array .int)) (t' := (.array .int)) (by decide) (by decide))))
    have fx237 := (((((((((((((((((((Fw2.ext E3).other W5 (Or.inr (slot_ne (Or.inl (hw _ (List.mem_of_getElem? (i := 12) rfl))) (Or.inr (hw _ (List.mem_of_getElem? (i := 14) rfl))) (by decide) (t := .int) (t' := (.array .int)) (by decide) (by decide)))).ext E6).other W10 (Or.inr (slot_ne (Or.inl (hw _ (List.mem_of_getElem? (i := 12) rfl))) (Or.inr (hw _ (List.mem_of_getElem? (i := 16) rfl))) (by decide) (t := .int) (t' := (.array .int)) (by decide) (by decide)))).other W15 (Or.inl ne3_a1)).other W19 (Or.inl ne6_a1)).ext E192).other W197 (Or.inr (slot_ne (Or.inl (hw _ (List.mem_of_getElem? (i := 12) rfl))) (Or.inr (hw _ (List.mem_of_getElem? (i := 18) rfl))) (by decide) (t := .int) (t' := (.array .int)) (by decide) (by decide)))).ext E198).other W202 (Or.inr (slot_ne (Or.inl (hw _ (List.mem_of_getElem? (i := 12) rfl))) (Or.inr (hw _ (List.mem_of_getElem? (i := 20) rfl))) (by decide) (t := .int) (t' := (.array .int)) (by decide) (by decide)))).ext E203).other W207 (Or.inr (slot_ne (Or.inl (hw _ (List.mem_of_getElem? (i := 12) rfl))) (Or.inr (hw _ (List.mem_of_getElem? (i := 22) rfl))) (by decide) (t := .int) (t' := (.array .int)) (by decide) (by decide)))).ext E208).other W213 (Or.inr (slot_ne (Or.inl (hw _ (List.mem_of_getElem? (i := 12) rfl))) (Or.inr (hw _ (List.mem_of_getElem? (i := 24) rfl))) (by decide) (t := .int) (t' := (.array .int)) (by decide) (by decide)))).other W218 (Or.inl ne203_a1)).ext E219).other W223 (Or.inr (slot_ne (Or.inl (hw _ (List.mem_of_getElem? (i := 12) rfl))) (Or.inr (hw _ (List.mem_of_getElem? (i := 26) rfl))) (by decide) (t := .int) (t' := (.array .int)) (by decide) (by decide)))).ext E224).other W228 (Or.inr (slot_ne (Or.inl (hw _ (List.mem_of_getElem? (i := 12) rfl))) (Or.inr (hw _ (List.mem_of_getElem? (i := 28) rfl))) (by decide) (t := .int) (t' := (.array .int)) (by decide) (by decide))))
    have fx238 := ((((((((((((((((((((F_touchedCount.other W2 (Or.inr (slot_ne (Or.inl (hw _ (List.mem_of_getElem? (i := 35) rfl))) (Or.inl (hw _ (List.mem_of_getElem? (i := 12) rfl))) (by decide) (t := .int) (t' := .int) (by decide) (by decide)))).ext E3).other W5 (Or.inr (slot_ne (Or.inl (hw _ (List.mem_of_getElem? (i := 35) rfl))) (Or.inr (hw _ (List.mem_of_getElem? (i := 14) rfl))) (by decide) (t := .int) (t' := (.array .int)) (by decide) (by decide)))).ext E6).other W10 (Or.inr (slot_ne (Or.inl (hw _ (List.mem_of_getElem? (i := 35) rfl))) (Or.inr (hw _ (List.mem_of_getElem? (i := 16) rfl))) (by decide) (t := .int) (t' := (.array .int)) (by decide) (by decide)))).other W15 (Or.inl ne3_a1)).other W19 (Or.inl ne6_a1)).ext E192).other W197 (Or.inr (slot_ne (Or.inl (hw _ (List.mem_of_getElem? (i := 35) rfl))) (Or.inr (hw _ (List.mem_of_getElem? (i := 18) rfl))) (by decide) (t := .int) (t' := (.array .int)) (by decide) (by decide)))).ext E198).other W202 (Or.inr (slot_ne (Or.inl (hw _ (List.mem_of_getElem? (i := 35) rfl))) (Or.inr (hw _ (List.mem_of_getElem? (i := 20) rfl))) (by decide) (t := .int) (t' := (.array .int)) (by decide) (by decide)))).ext E203).other W207 (Or.inr (slot_ne (Or.inl (hw _ (List.mem_of_getElem? (i := 35) rfl))) (Or.inr (hw _ (List.mem_of_getElem? (i := 22) rfl))) (by decide) (t := .int) (t' := (.array .int)) (by decide) (by decide)))).ext E208).other W213 (Or.inr (slot_ne (Or.inl (hw _ (List.mem_of_getElem? (i := 35) rfl))) (Or.inr (hw _ (List.mem_of_getElem? (i := 24) rfl))) (by decide) (t := .int) (t' := (.array .int)) (by decide) (by decide)))).other W218 (Or.inl ne203_a1)).ext E219).other W223 (Or.inr (slot_ne (Or.inl (hw _ (List.mem_of_getElem? (i := 35) rfl))) (Or.inr (hw _ (List.mem_of_getElem? (i := 26) rfl))) (by decide) (t := .int) (t' := (.array .int)) (by decide) (by decide)))).ext E224).other W228 (Or.inr (slot_ne (Or.inl (hw _ (List.mem_of_getElem? (i := 35) rfl))) (Or.inr (hw _ (List.mem_of_getElem? (i := 28) rfl))) (by decide) (t := .int) (t' := (.array .int)) (by decide) (by decide))))
    have fx239 := ((((((((((((((Vs15.other W19 ne6_b3).ext E192).other W197 (Ne.symm ne3_a1)).ext E198).other W202 (Ne.symm ne3_a1)).ext E203).other W207 (Ne.symm ne3_a1)).ext E208).other W213 (Ne.symm ne3_a1)).other W218 ne203_b3).ext E219).other W223 (Ne.symm ne3_a1)).ext E224).other W228 (Ne.symm ne3_a1))
    have fx240 := (((((((((((((Vs19.ext E192).other W197 (Ne.symm ne6_a1)).ext E198).other W202 (Ne.symm ne6_a1)).ext E203).other W207 (Ne.symm ne6_a1)).ext E208).other W213 (Ne.symm ne6_a1)).other W218 ne203_b6).ext E219).other W223 (Ne.symm ne6_a1)).ext E224).other W228 (Ne.symm ne6_a1))
    have fx241 := ((((((((((((V_b192.other W197 (Ne.symm ne192_a1)).ext E198).other W202 (Ne.symm ne192_a1)).ext E203).other W207 (Ne.symm ne192_a1)).ext E208).other W213 (Ne.symm ne192_a1)).other W218 ne203_b192).ext E219).other W223 (Ne.symm ne192_a1)).ext E224).other W228 (Ne.symm ne192_a1))
    have fx242 := ((((((((((V_b198.other W202 (Ne.symm ne198_a1)).ext E203).other W207 (Ne.symm ne198_a1)).ext E208).other W213 (Ne.symm ne198_a1)).other W218 ne203_b198).ext E219).other W223 (Ne.symm ne198_a1)).ext E224).other W228 (Ne.symm ne198_a1))
    have fx243 := ((((Vs218.ext E219).other W223 (Ne.symm ne203_a1)).ext E224).other W228 (Ne.symm ne203_a1))
    have fx244 := ((((((V_b208.other W213 (Ne.symm ne208_a1)).other W218 (Ne.symm ne208_b203)).ext E219).other W223 (Ne.symm ne208_a1)).ext E224).other W228 (Ne.symm ne208_a1))
    have fx245 := (((V_b219.other W223 (Ne.symm ne219_a1)).ext E224).other W228 (Ne.symm ne219_a1))
    obtain ⟨fs, hr, hrun, hended, hW, hsame⟩ := X228.leave (v := none) (fun _ => rfl)
    refine ⟨_, _, pre0 _ ?_, hrun, hended, _, _, rfl, ?_, ⟨_, rfl⟩, hW, hsame.mono (by decide) (by decide)⟩
    · show Steps p.tables e below (s₁.setTop (mkF m 0 #[.val (.ref a1), .val (.int n), .unset] [])) _
      refine XS.aloadN X0.here hx rfl (hb hby d1_0) rfl rfl ?_
      show Steps p.tables e below (s₁.setTop (mkF m 1 #[.val (.ref a1), .val (.int n), .unset] [(.ref a1)])) _
      refine st1 _ ?_
      show Steps p.tables e below (T1.setTop (mkF m 4 #[.val (.ref a1), .val (.int n), .unset] [])) _
      refine XS.aloadN X1.here hx rfl (hb hby d1_4) rfl rfl ?_
      show Steps p.tables e below (T1.setTop (mkF m 5 #[.val (.ref a1), .val (.int n), .unset] [(.ref a1)])) _
      refine XS.iconst X1.here hx rfl (hb hby d1_5) ?_
      show Steps p.tables e below (T1.setTop (mkF m 6 #[.val (.ref a1), .val (.int n), .unset] [(.int (1 : Int32)), (.ref a1)])) _
      refine st2 _ ?_
      show Steps p.tables e below (T2.setTop (mkF m 9 #[.val (.ref a1), .val (.int n), .unset] [])) _
      refine XS.aloadN X2.here hx rfl (hb hby d1_9) rfl rfl ?_
      show Steps p.tables e below (T2.setTop (mkF m 10 #[.val (.ref a1), .val (.int n), .unset] [(.ref a1)])) _
      refine XS.iloadN X2.here hx rfl (hb hby d1_10) rfl ?_
      show Steps p.tables e below (T2.setTop (mkF m 11 #[.val (.ref a1), .val (.int n), .unset] [(.int n), (.ref a1)])) _
      refine st3 _ ?_
      show Steps p.tables e below (T3.setTop (mkF m 13 #[.val (.ref a1), .val (.int n), .unset] [(.ref b3), (.ref a1)])) _
      refine st5 _ ?_
      show Steps p.tables e below (T5.setTop (mkF m 16 #[.val (.ref a1), .val (.int n), .unset] [])) _
      refine XS.aloadN X5.here hx rfl (hb hby d1_16) rfl rfl ?_
      show Steps p.tables e below (T5.setTop (mkF m 17 #[.val (.ref a1), .val (.int n), .unset] [(.ref a1)])) _
      refine XS.iloadN X5.here hx rfl (hb hby d1_17) rfl ?_
      show Steps p.tables e below (T5.setTop (mkF m 18 #[.val (.ref a1), .val (.int n), .unset] [(.int n), (.ref a1)])) _
      refine st6 _ ?_
      show Steps p.tables e below (T6.setTop (mkF m 20 #[.val (.ref a1), .val (.int n), .unset] [(.ref b6), (.ref a1)])) _
      refine st10 _ ?_
      show Steps p.tables e below (T10.setTop (mkF m 23 #[.val (.ref a1), .val (.int n), .unset] [])) _
      refine XS.iconst X10.here hx rfl (hb hby d1_23) ?_
      show Steps p.tables e below (T10.setTop (mkF m 24 #[.val (.ref a1), .val (.int n), .unset] [(.int (0 : Int32))])) _
      refine XS.istoreN X10.here hx rfl (hb hby d1_24) rfl (l' := #[.val (.ref a1), .val (.int n), .val (.int (0 : Int32))]) rfl ?_
      show Steps p.tables e below (T10.setTop (mkF m 25 #[.val (.ref a1), .val (.int n), .val (.int (0 : Int32))] [])) _
      refine XS.iloadN X10.here hx rfl (hb hby d1_25) rfl ?_
      show Steps p.tables e below (T10.setTop (mkF m 26 #[.val (.ref a1), .val (.int n), .val (.int (0 : Int32))] [(.int (0 : Int32))])) _
      refine XS.iloadN X10.here hx rfl (hb hby d1_26) rfl ?_
      show Steps p.tables e below (T10.setTop (mkF m 27 #[.val (.ref a1), .val (.int n), .val (.int (0 : Int32))] [(.int n), (.int (0 : Int32))])) _
      refine XS.icmpNo X10.here hx rfl (hb hby d1_27) rfl (tlt hn1).2.1 ?_
      show Steps p.tables e below (T10.setTop (mkF m 30 #[.val (.ref a1), .val (.int n), .val (.int (0 : Int32))] [])) _
      refine XS.aloadN X10.here hx rfl (hb hby d1_30) rfl rfl ?_
      show Steps p.tables e below (T10.setTop (mkF m 31 #[.val (.ref a1), .val (.int n), .val (.int (0 : Int32))] [(.ref a1)])) _
      refine st12 _ ?_
      show Steps p.tables e below (T12.setTop (mkF m 34 #[.val (.ref a1), .val (.int n), .val (.int (0 : Int32))] [(.ref b3)])) _
      refine XS.iloadN X12.here hx rfl (hb hby d1_34) rfl ?_
      show Steps p.tables e below (T12.setTop (mkF m 35 #[.val (.ref a1), .val (.int n), .val (.int (0 : Int32))] [(.int (0 : Int32)), (.ref b3)])) _
      refine XS.iloadN X12.here hx rfl (hb hby d1_35) rfl ?_
      show Steps p.tables e below (T12.setTop (mkF m 36 #[.val (.ref a1), .val (.int n), .val (.int (0 : Int32))] [(.int (0 : Int32)), (.int (0 : Int32)), (.ref b3)])) _
      refine st15 _ ?_
      show Steps p.tables e below (T15.setTop (mkF m 37 #[.val (.ref a1), .val (.int n), .val (.int (0 : Int32))] [])) _
      refine XS.aloadN X15.here hx rfl (hb hby d1_37) rfl rfl ?_
      show Steps p.tables e below (T15.setTop (mkF m 38 #[.val (.ref a1), .val (.int n), .val (.int (0 : Int32))] [(.ref a1)])) _
      refine st16 _ ?_
      show Steps p.tables e below (T16.setTop (mkF m 41 #[.val (.ref a1), .val (.int n), .val (.int (0 : Int32))] [(.ref b6)])) _
      refine XS.iloadN X16.here hx rfl (hb hby d1_41) rfl ?_
      show Steps p.tables e below (T16.setTop (mkF m 42 #[.val (.ref a1), .val (.int n), .val (.int (0 : Int32))] [(.int (0 : Int32)), (.ref b6)])) _
      refine XS.iloadN X16.here hx rfl (hb hby d1_42) rfl ?_
      show Steps p.tables e below (T16.setTop (mkF m 43 #[.val (.ref a1), .val (.int n), .val (.int (0 : Int32))] [(.int (0 : Int32)), (.int (0 : Int32)), (.ref b6)])) _
      refine st19 _ ?_
      show Steps p.tables e below (T19.setTop (mkF m 44 #[.val (.ref a1), .val (.int n), .val (.int (0 : Int32))] [])) _
      refine XS.iinc X19.here hx rfl (hb hby d1_44) rfl (l' := #[.val (.ref a1), .val (.int n), .val (.int ((0 : Int32) + (1 : Int32)))]) rfl ?_
      show Steps p.tables e below (T19.setTop (mkF m 47 #[.val (.ref a1), .val (.int n), .val (.int ((0 : Int32) + (1 : Int32)))] [])) _
      refine XS.goto X19.here hx rfl (pc0 := 47) (pc' := 25) rfl (hb hby d1_47) (by decide) (by decide) ?_
      show Steps p.tables e below (T19.setTop (mkF m 25 #[.val (.ref a1), .val (.int n), .val (.int ((0 : Int32) + (1 : Int32)))] [])) _
      refine XS.iloadN X19.here hx rfl (hb hby d1_25) rfl ?_
      show Steps p.tables e below (T19.setTop (mkF m 26 #[.val (.ref a1), .val (.int n), .val (.int ((0 : Int32) + (1 : Int32)))] [(.int ((0 : Int32) + (1 : Int32)))])) _
      refine XS.iloadN X19.here hx rfl (hb hby d1_26) rfl ?_
      show Steps p.tables e below (T19.setTop (mkF m 27 #[.val (.ref a1), .val (.int n), .val (.int ((0 : Int32) + (1 : Int32)))] [(.int n), (.int ((0 : Int32) + (1 : Int32)))])) _
      refine XS.icmpYes X19.here hx rfl (pc0 := 27) (pc' := 50) rfl (hb hby d1_27) rfl (flt hc27_2).2.1 (by decide) (by decide) ?_
      show Steps p.tables e below (T19.setTop (mkF m 50 #[.val (.ref a1), .val (.int n), .val (.int ((0 : Int32) + (1 : Int32)))] [])) _
      refine XS.aloadN X19.here hx rfl (hb hby d1_50) rfl rfl ?_
      show Steps p.tables e below (T19.setTop (mkF m 51 #[.val (.ref a1), .val (.int n), .val (.int ((0 : Int32) + (1 : Int32)))] [(.ref a1)])) _
      refine XS.iloadN X19.here hx rfl (hb hby d1_51) rfl ?_
      show Steps p.tables e below (T19.setTop (mkF m 52 #[.val (.ref a1), .val (.int n), .val (.int ((0 : Int32) + (1 : Int32)))] [(.int n), (.ref a1)])) _
      refine st192 _ ?_
      show Steps p.tables e below (T192.setTop (mkF m 54 #[.val (.ref a1), .val (.int n), .val (.int ((0 : Int32) + (1 : Int32)))] [(.ref b192), (.ref a1)])) _
      refine st197 _ ?_
      show Steps p.tables e below (T197.setTop (mkF m 57 #[.val (.ref a1), .val (.int n), .val (.int ((0 : Int32) + (1 : Int32)))] [])) _
      refine XS.aloadN X197.here hx rfl (hb hby d1_57) rfl rfl ?_
      show Steps p.tables e below (T197.setTop (mkF m 58 #[.val (.ref a1), .val (.int n), .val (.int ((0 : Int32) + (1 : Int32)))] [(.ref a1)])) _
      refine XS.iloadN X197.here hx rfl (hb hby d1_58) rfl ?_
      show Steps p.tables e below (T197.setTop (mkF m 59 #[.val (.ref a1), .val (.int n), .val (.int ((0 : Int32) + (1 : Int32)))] [(.int n), (.ref a1)])) _
      refine st198 _ ?_
      show Steps p.tables e below (T198.setTop (mkF m 61 #[.val (.ref a1), .val (.int n), .val (.int ((0 : Int32) + (1 : Int32)))] [(.ref b198), (.ref a1)])) _
      refine st202 _ ?_
      show Steps p.tables e below (T202.setTop (mkF m 64 #[.val (.ref a1), .val (.int n), .val (.int ((0 : Int32) + (1 : Int32)))] [])) _
      refine XS.aloadN X202.here hx rfl (hb hby d1_64) rfl rfl ?_
      show Steps p.tables e below (T202.setTop (mkF m 65 #[.val (.ref a1), .val (.int n), .val (.int ((0 : Int32) + (1 : Int32)))] [(.ref a1)])) _
      refine XS.iloadN X202.here hx rfl (hb hby d1_65) rfl ?_
      show Steps p.tables e below (T202.setTop (mkF m 66 #[.val (.ref a1), .val (.int n), .val (.int ((0 : Int32) + (1 : Int32)))] [(.int n), (.ref a1)])) _
      refine st203 _ ?_
      show Steps p.tables e below (T203.setTop (mkF m 68 #[.val (.ref a1), .val (.int n), .val (.int ((0 : Int32) + (1 : Int32)))] [(.ref b203), (.ref a1)])) _
      refine st207 _ ?_
      show Steps p.tables e below (T207.setTop (mkF m 71 #[.val (.ref a1), .val (.int n), .val (.int ((0 : Int32) + (1 : Int32)))] [])) _
      refine XS.aloadN X207.here hx rfl (hb hby d1_71) rfl rfl ?_
      show Steps p.tables e below (T207.setTop (mkF m 72 #[.val (.ref a1), .val (.int n), .val (.int ((0 : Int32) + (1 : Int32)))] [(.ref a1)])) _
      refine XS.iloadN X207.here hx rfl (hb hby d1_72) rfl ?_
      show Steps p.tables e below (T207.setTop (mkF m 73 #[.val (.ref a1), .val (.int n), .val (.int ((0 : Int32) + (1 : Int32)))] [(.int n), (.ref a1)])) _
      refine st208 _ ?_
      show Steps p.tables e below (T208.setTop (mkF m 75 #[.val (.ref a1), .val (.int n), .val (.int ((0 : Int32) + (1 : Int32)))] [(.ref b208), (.ref a1)])) _
      refine st213 _ ?_
      show Steps p.tables e below (T213.setTop (mkF m 78 #[.val (.ref a1), .val (.int n), .val (.int ((0 : Int32) + (1 : Int32)))] [])) _
      refine XS.aloadN X213.here hx rfl (hb hby d1_78) rfl rfl ?_
      show Steps p.tables e below (T213.setTop (mkF m 79 #[.val (.ref a1), .val (.int n), .val (.int ((0 : Int32) + (1 : Int32)))] [(.ref a1)])) _
      refine st215 _ ?_
      show Steps p.tables e below (T215.setTop (mkF m 82 #[.val (.ref a1), .val (.int n), .val (.int ((0 : Int32) + (1 : Int32)))] [(.ref b203)])) _
      refine XS.iconst X215.here hx rfl (hb hby d1_82) ?_
      show Steps p.tables e below (T215.setTop (mkF m 83 #[.val (.ref a1), .val (.int n), .val (.int ((0 : Int32) + (1 : Int32)))] [(.int (0 : Int32)), (.ref b203)])) _
      refine XS.iloadN X215.here hx rfl (hb hby d1_83) rfl ?_
      show Steps p.tables e below (T215.setTop (mkF m 84 #[.val (.ref a1), .val (.int n), .val (.int ((0 : Int32) + (1 : Int32)))] [(.int n), (.int (0 : Int32)), (.ref b203)])) _
      refine st218 _ ?_
      show Steps p.tables e below (T218.setTop (mkF m 85 #[.val (.ref a1), .val (.int n), .val (.int ((0 : Int32) + (1 : Int32)))] [])) _
      refine XS.aloadN X218.here hx rfl (hb hby d1_85) rfl rfl ?_
      show Steps p.tables e below (T218.setTop (mkF m 86 #[.val (.ref a1), .val (.int n), .val (.int ((0 : Int32) + (1 : Int32)))] [(.ref a1)])) _
      refine XS.iloadN X218.here hx rfl (hb hby d1_86) rfl ?_
      show Steps p.tables e below (T218.setTop (mkF m 87 #[.val (.ref a1), .val (.int n), .val (.int ((0 : Int32) + (1 : Int32)))] [(.int n), (.ref a1)])) _
      refine st219 _ ?_
      show Steps p.tables e below (T219.setTop (mkF m 89 #[.val (.ref a1), .val (.int n), .val (.int ((0 : Int32) + (1 : Int32)))] [(.ref b219), (.ref a1)])) _
      refine st223 _ ?_
      show Steps p.tables e below (T223.setTop (mkF m 92 #[.val (.ref a1), .val (.int n), .val (.int ((0 : Int32) + (1 : Int32)))] [])) _
      refine XS.aloadN X223.here hx rfl (hb hby d1_92) rfl rfl ?_
      show Steps p.tables e below (T223.setTop (mkF m 93 #[.val (.ref a1), .val (.int n), .val (.int ((0 : Int32) + (1 : Int32)))] [(.ref a1)])) _
      refine XS.iloadN X223.here hx rfl (hb hby d1_93) rfl ?_
      show Steps p.tables e below (T223.setTop (mkF m 94 #[.val (.ref a1), .val (.int n), .val (.int ((0 : Int32) + (1 : Int32)))] [(.int n), (.ref a1)])) _
      refine st224 _ ?_
      show Steps p.tables e below (T224.setTop (mkF m 96 #[.val (.ref a1), .val (.int n), .val (.int ((0 : Int32) + (1 : Int32)))] [(.ref b224), (.ref a1)])) _
      refine st228 _ ?_
      show Steps p.tables e below (T228.setTop (mkF m 99 #[.val (.ref a1), .val (.int n), .val (.int ((0 : Int32) + (1 : Int32)))] [])) _
      exact X228.returnOut hx Bd.returns (hb hby d1_99) hr
    · show Q1 Z a1 n h0 n0 _ T228.heap _
      rw [e228]
      exact ⟨rfl, N228, b3, b6, b192, b198, b203, b208, b219, b224, (((((((((((((((((((((Keep.refl h0 [a1]).wr W2 (Or.inl (List.mem_of_getElem? (i := 0) rfl))).ext E3).wr W5 (Or.inl (List.mem_of_getElem? (i := 0) rfl))).ext E6).wr W10 (Or.inl (List.mem_of_getElem? (i := 0) rfl))).wr W15 (Or.inr sz_b3)).wr W19 (Or.inr sz_b6)).ext E192).wr W197 (Or.inl (List.mem_of_getElem? (i := 0) rfl))).ext E198).wr W202 (Or.inl (List.mem_of_getElem? (i := 0) rfl))).ext E203).wr W207 (Or.inl (List.mem_of_getElem? (i := 0) rfl))).ext E208).wr W213 (Or.inl (List.mem_of_getElem? (i := 0) rfl))).wr W218 (Or.inr sz_b203)).ext E219).wr W223 (Or.inl (List.mem_of_getElem? (i := 0) rfl))).ext E224).wr W228 (Or.inl (List.mem_of_getElem? (i := 0) rfl))), ⟨⟨g_a1, g_b3, g_b6, g_b192, g_b198, g_b203, g_b208, g_b219, g_b224⟩, ⟨ne3_a1, ne6_a1, ne192_a1, ne198_a1, ne203_a1, ne208_a1, ne219_a1, ne224_a1⟩, ⟨ne6_b3, ne192_b3, ne198_b3, ne203_b3, ne208_b3, ne219_b3, ne224_b3, ne192_b6, ne198_b6, ne203_b6, ne208_b6, ne219_b6, ne224_b6, ne198_b192, ne203_b192, ne208_b192, ne219_b192, ne224_b192, ne203_b198, ne208_b198, ne219_b198, ne224_b198, ne208_b203, ne219_b203, ne224_b203, ne219_b208, ne224_b208, ne224_b219⟩⟩, ⟨sz_b3, sz_b6, sz_b192, sz_b198, sz_b203, sz_b208, sz_b219, sz_b224⟩, (by rw [hE]; exact ⟨fx229, fx230, fx231, fx232, fx233, fx234, fx235, fx236, Fw228, fx237, fx238, ⟨_, fx239⟩, ⟨_, fx240⟩, ⟨_, fx241⟩, ⟨_, fx242⟩, ⟨_, fx243⟩, ⟨_, fx244⟩, ⟨_, fx245⟩, ⟨_, (V_b224.other W228 (Ne.symm ne224_a1))⟩⟩)⟩
set_option maxRecDepth 65536 in
set_option maxHeartbeats 40000000 in
theorem pb_63 {p : Program} {l : Launch} {e : Env} {s : State} {m : MethodId} {args : Array Value} {below : List Frame} {meth : Method} {c : Code} {T0 : State} {locs : List Loc} {Z : State} {a0 : Array Value} {h0 : Heap} {n0 : Nat} (s0 : Slot) (s1 : Slot) (s2 : Slot) (s3 : Slot) (s4 : Slot) (pre : Int32) (xx : Int32) (yy : Int32) (s8 : Slot) (a1 : Addr) (s13 : Slot) (s14 : Slot) (s15 : Slot) (s16 : Slot) (s17 : Slot) (s18 : Slot) (s19 : Slot) (s20 : Slot) (s21 : Slot) (bE bP bB bG bN bM bF bT : Addr) (nn rx ry : Int32) (lE lP lB lG lN lM lF lT : List Int32) (bc tc : Int32)
    (X0 : Stand p l e room_1 s m args below meth c T0 locs 10 46) (hx : p.tables.exec = Jvm.exec) (hZ : Z.Warmed39 s.vm) (hw : ∀ d ∈ tables_1, d.before a0 Z = true) (hby : c.code = code) (hml : c.maxLocals = 22) (hown : s.vm.findClass "com/example/yealm/yealm/equiv/RefinablePartitionMarkPinLaw" = some m.cls) (e0 : T0.heap = h0) (Z0 : n0 ≤ h0.size) (NL : Fr n0 locs) (RP : own_RP Z h0 a1 bE bP bB bG bN bM bF bT nn (own_E nn) (own_E nn) own_Z4 own_Z4 (own_N4 nn) own_Z4 own_Z4 own_Z4 (1 : Int32) (0 : Int32)) (DD : own_D n0 a1 bE bP bB bG bN bM bF bT) (RUN : own_run nn pre xx yy rx ry lE lP lB lG lN lM lF lT bc tc) :
    ∃ (T' : State) (locs' : List Loc), Stand p l e room_1 s m args below meth c T' locs' 10 46 ∧ Fr n0 locs' ∧ Keep h0 T'.heap [a1, bE, bP, bB, bG, bN, bM, bF, bT] ∧ own_RP Z T'.heap a1 bE bP bB bG bN bM bF bT nn lE lP lB lG lN lM lF lT bc tc ∧ ∀ target, Steps p.tables e below (T'.setTop (mkF m 125 #[s0, s1, s2, s3, s4, .val (.int pre), .val (.int xx), .val (.int yy), s8, .val (.ref a1), .val (.int (1 : Int32)), .val (.int rx), .val (.int ry), s13, s14, s15, s16, s17, s18, s19, s20, s21] [])) target → Steps p.tables e below (T0.setTop (mkF m 63 #[s0, s1, s2, s3, s4, .val (.int pre), .val (.int xx), .val (.int yy), s8, .val (.ref a1), .val (.int (1 : Int32)), .unset, .unset, s13, s14, s15, s16, s17, s18, s19, s20, s21] [])) target := by
  by_cases hc65 : pre = (0 : Int32)
  ·
    obtain ⟨xE, xP, xM, xT, xt, hmx, hmy, hB, hG, hN, hF, hbc⟩ := RUN.1 hc65
    subst hB hG hN hF hbc
    obtain ⟨cq1, kq1, q1a, q1b, q1c⟩ := isOf hZ e0 RP.1
    obtain ⟨_, _, ⟨T1, L1, k1, n1⟩, -, X1, ⟨Lc1, hQ1, l1, y1, z1⟩, st1⟩ := X0.virtualBack hx (y := (⟨"com/example/yealm/yealm/equiv/RefinablePartition", "mark", "(I)Z"⟩ : MethodName)) (z := (⟨"com/example/yealm/yealm/equiv/RefinablePartition", "mark", "(I)Z"⟩ : MethodName)) hown (mvT hZ (hw _ (List.mem_of_getElem? (i := 29) rfl))) (mvT hZ (hw _ (List.mem_of_getElem? (i := 30) rfl))) (notFace_of_selects (args := #[]) (mvT hZ (hw _ (List.mem_of_getElem? (i := 32) rfl)))) (mvT hZ (hw _ (List.mem_of_getElem? (i := 32) rfl))) (mvT hZ (hw _ (List.mem_of_getElem? (i := 31) rfl))) (by decide) (backOf (W := 0) (rm3 l Z a0 hw [] a1 bE bP bB bG bN bM bF bT nn (own_E nn) (own_E nn) own_Z4 own_Z4 (own_N4 nn) own_Z4 own_Z4 own_Z4 (1 : Int32) (0 : Int32) xx rx xE xP xM xT xt h0 n0 Z0 RP DD hmx) hZ (hw _ (List.mem_of_getElem? (i := 33) rfl)) (hw _ (List.mem_of_getElem? (i := 4) rfl)) (by decide) (by decide)) q1a q1c (g := (mkF m 111 #[s0, s1, s2, s3, s4, .val (.int pre), .val (.int xx), .val (.int yy), s8, .val (.ref a1), .val (.int (1 : Int32)), .unset, .unset, s13, s14, s15, s16, s17, s18, s19, s20, s21] [(.int xx), (.ref a1)])) rfl (by rw [hml]; rfl) (Steps.refl _) (argsL := [(.int xx)]) (rest := []) (lenOf pd_2 rfl) rfl (by show 2 * 0 + _ ≤ _; exact Nat.le_of_eq rfl) (hb hby at_111) (fun _ _ => ⟨rfl, e0, (by decide : 10 + 0 ≤ _), (by decide : 46 + 0 ≤ _)⟩)
    dsimp only [Pt.U, Pt.locs, Pt.cells, Pt.slots] at X1 l1 y1 z1 st1 hQ1
    subst l1 y1 z1
    obtain ⟨rfl, N1q, K1, RP1⟩ := hQ1
    have N1 := Fr.app NL N1q
    have Em1 := RP1.1
    obtain ⟨cq2, kq2, q2a, q2b, q2c⟩ := isOf hZ rfl Em1
    obtain ⟨_, _, ⟨T2, L2, k2, n2⟩, -, X2, ⟨Lc2, hQ2, l2, y2, z2⟩, st2⟩ := X1.virtualBack hx (y := (⟨"com/example/yealm/yealm/equiv/RefinablePartition", "mark", "(I)Z"⟩ : MethodName)) (z := (⟨"com/example/yealm/yealm/equiv/RefinablePartition", "mark", "(I)Z"⟩ : MethodName)) hown (mvT hZ (hw _ (List.mem_of_getElem? (i := 29) rfl))) (mvT hZ (hw _ (List.mem_of_getElem? (i := 30) rfl))) (notFace_of_selects (args := #[]) (mvT hZ (hw _ (List.mem_of_getElem? (i := 32) rfl)))) (mvT hZ (hw _ (List.mem_of_getElem? (i := 32) rfl))) (mvT hZ (hw _ (List.mem_of_getElem? (i := 31) rfl))) (by decide) (backOf (W := 0) (rm3 l Z a0 hw [] a1 bE bP bB bG bN bM bF bT nn xE xP own_Z4 own_Z4 (own_N4 nn) xM own_Z4 xT (1 : Int32) xt yy ry lE lP lM lT tc T1.heap n0 (Nat.le_trans Z0 K1.1) RP1 DD hmy) hZ (hw _ (List.mem_of_getElem? (i := 33) rfl)) (hw _ (List.mem_of_getElem? (i := 4) rfl)) (by decide) (by decide)) q2a q2c (g := (mkF m 120 #[s0, s1, s2, s3, s4, .val (.int pre), .val (.int xx), .val (.int yy), s8, .val (.ref a1), .val (.int (1 : Int32)), .val (.int rx), .unset, s13, s14, s15, s16, s17, s18, s19, s20, s21] [(.int yy), (.ref a1)])) rfl (by rw [hml]; rfl) (Steps.refl _) (argsL := [(.int yy)]) (rest := []) (lenOf pd_2 rfl) rfl (by show 2 * 0 + _ ≤ _; exact Nat.le_of_eq rfl) (hb hby at_120) (fun _ _ => ⟨rfl, rfl, (by decide : 10 + 0 ≤ _), (by decide : 46 + 0 ≤ _)⟩)
    dsimp only [Pt.U, Pt.locs, Pt.cells, Pt.slots] at X2 l2 y2 z2 st2 hQ2
    subst l2 y2 z2
    obtain ⟨rfl, N2q, K2, RP2⟩ := hQ2
    have N2 := Fr.app N1 N2q
    have Em2 := RP2.1
    refine ⟨T2, _, X2, N2, (((Keep.refl h0 [a1, bE, bP, bB, bG, bN, bM, bF, bT]).trans K1 (allS (Or.inl (List.mem_of_getElem? (i := 0) rfl)) (allS (Or.inl (List.mem_of_getElem? (i := 1) rfl)) (allS (Or.inl (List.mem_of_getElem? (i := 2) rfl)) (allS (Or.inl (List.mem_of_getElem? (i := 3) rfl)) (allS (Or.inl (List.mem_of_getElem? (i := 4) rfl)) (allS (Or.inl (List.mem_of_getElem? (i := 5) rfl)) (allS (Or.inl (List.mem_of_getElem? (i := 6) rfl)) (allS (Or.inl (List.mem_of_getElem? (i := 7) rfl)) (allS (Or.inl (List.mem_of_getElem? (i := 8) rfl)) all0)))))))))).trans K2 (allS (Or.inl (List.mem_of_getElem? (i := 0) rfl)) (allS (Or.inl (List.mem_of_getElem? (i := 1) rfl)) (allS (Or.inl (List.mem_of_getElem? (i := 2) rfl)) (allS (Or.inl (List.mem_of_getElem? (i := 3) rfl)) (allS (Or.inl (List.mem_of_getElem? (i := 4) rfl)) (allS (Or.inl (List.mem_of_getElem? (i := 5) rfl)) (allS (Or.inl (List.mem_of_getElem? (i := 6) rfl)) (allS (Or.inl (List.mem_of_getElem? (i := 7) rfl)) (allS (Or.inl (List.mem_of_getElem? (i := 8) rfl)) all0)))))))))), RP2, fun target kt => ?_⟩
    show Steps p.tables e below (T0.setTop (mkF m 63 #[s0, s1, s2, s3, s4, .val (.int pre), .val (.int xx), .val (.int yy), s8, .val (.ref a1), .val (.int (1 : Int32)), .unset, .unset, s13, s14, s15, s16, s17, s18, s19, s20, s21] [])) _
    refine XS.iload X0.here hx rfl (hb hby at_63) rfl ?_
    show Steps p.tables e below (T0.setTop (mkF m 65 #[s0, s1, s2, s3, s4, .val (.int pre), .val (.int xx), .val (.int yy), s8, .val (.ref a1), .val (.int (1 : Int32)), .unset, .unset, s13, s14, s15, s16, s17, s18, s19, s20, s21] [(.int pre)])) _
    refine XS.ifYes X0.here hx rfl (pc0 := 65) (pc' := 107) rfl (hb hby at_65) rfl ((if0 _ _).trans (teq hc65).1) (by decide) (by decide) ?_
    show Steps p.tables e below (T0.setTop (mkF m 107 #[s0, s1, s2, s3, s4, .val (.int pre), .val (.int xx), .val (.int yy), s8, .val (.ref a1), .val (.int (1 : Int32)), .unset, .unset, s13, s14, s15, s16, s17, s18, s19, s20, s21] [])) _
    refine XS.aload X0.here hx rfl (hb hby at_107) rfl rfl ?_
    show Steps p.tables e below (T0.setTop (mkF m 109 #[s0, s1, s2, s3, s4, .val (.int pre), .val (.int xx), .val (.int yy), s8, .val (.ref a1), .val (.int (1 : Int32)), .unset, .unset, s13, s14, s15, s16, s17, s18, s19, s20, s21] [(.ref a1)])) _
    refine XS.iload X0.here hx rfl (hb hby at_109) rfl ?_
    show Steps p.tables e below (T0.setTop (mkF m 111 #[s0, s1, s2, s3, s4, .val (.int pre), .val (.int xx), .val (.int yy), s8, .val (.ref a1), .val (.int (1 : Int32)), .unset, .unset, s13, s14, s15, s16, s17, s18, s19, s20, s21] [(.int xx), (.ref a1)])) _
    refine st1.trans ?_
    show Steps p.tables e below (T1.setTop (mkF m 114 #[s0, s1, s2, s3, s4, .val (.int pre), .val (.int xx), .val (.int yy), s8, .val (.ref a1), .val (.int (1 : Int32)), .unset, .unset, s13, s14, s15, s16, s17, s18, s19, s20, s21] [(.int rx)])) _
    refine XS.istore X1.here hx rfl (hb hby at_114) rfl (l' := #[s0, s1, s2, s3, s4, .val (.int pre), .val (.int xx), .val (.int yy), s8, .val (.ref a1), .val (.int (1 : Int32)), .val (.int rx), .unset, s13, s14, s15, s16, s17, s18, s19, s20, s21]) rfl ?_
    show Steps p.tables e below (T1.setTop (mkF m 116 #[s0, s1, s2, s3, s4, .val (.int pre), .val (.int xx), .val (.int yy), s8, .val (.ref a1), .val (.int (1 : Int32)), .val (.int rx), .unset, s13, s14, s15, s16, s17, s18, s19, s20, s21] [])) _
    refine XS.aload X1.here hx rfl (hb hby at_116) rfl rfl ?_
    show Steps p.tables e below (T1.setTop (mkF m 118 #[s0, s1, s2, s3, s4, .val (.int pre), .val (.int xx), .val (.int yy), s8, .val (.ref a1), .val (.int (1 : Int32)), .val (.int rx), .unset, s13, s14, s15, s16, s17, s18, s19, s20, s21] [(.ref a1)])) _
    refine XS.iload X1.here hx rfl (hb hby at_118) rfl ?_
    show Steps p.tables e below (T1.setTop (mkF m 120 #[s0, s1, s2, s3, s4, .val (.int pre), .val (.int xx), .val (.int yy), s8, .val (.ref a1), .val (.int (1 : Int32)), .val (.int rx), .unset, s13, s14, s15, s16, s17, s18, s19, s20, s21] [(.int yy), (.ref a1)])) _
    refine st2.trans ?_
    show Steps p.tables e below (T2.setTop (mkF m 123 #[s0, s1, s2, s3, s4, .val (.int pre), .val (.int xx), .val (.int yy), s8, .val (.ref a1), .val (.int (1 : Int32)), .val (.int rx), .unset, s13, s14, s15, s16, s17, s18, s19, s20, s21] [(.int ry)])) _
    refine XS.istore X2.here hx rfl (hb hby at_123) rfl (l' := #[s0, s1, s2, s3, s4, .val (.int pre), .val (.int xx), .val (.int yy), s8, .val (.ref a1), .val (.int (1 : Int32)), .val (.int rx), .val (.int ry), s13, s14, s15, s16, s17, s18, s19, s20, s21]) rfl ?_
    show Steps p.tables e below (T2.setTop (mkF m 125 #[s0, s1, s2, s3, s4, .val (.int pre), .val (.int xx), .val (.int yy), s8, .val (.ref a1), .val (.int (1 : Int32)), .val (.int rx), .val (.int ry), s13, s14, s15, s16, s17, s18, s19, s20, s21] [])) _
    exact kt
  ·
    obtain ⟨Ea, Pa, Ma, Ta, ta, Mb, xE, xP, xM, xT, xt, hm0, hM0, hG0, hsp, hmx, hmy, hbc⟩ := RUN.2 hc65
    subst hbc
    obtain ⟨cq3, kq3, q3a, q3b, q3c⟩ := isOf hZ e0 RP.1
    obtain ⟨_, _, ⟨T3, L3, k3, n3⟩, -, X3, ⟨Lc3, hQ3, l3, y3, z3⟩, st3⟩ := X0.virtualBack hx (y := (⟨"com/example/yealm/yealm/equiv/RefinablePartition", "mark", "(I)Z"⟩ : MethodName)) (z := (⟨"com/example/yealm/yealm/equiv/RefinablePartition", "mark", "(I)Z"⟩ : MethodName)) hown (mvT hZ (hw _ (List.mem_of_getElem? (i := 29) rfl))) (mvT hZ (hw _ (List.mem_of_getElem? (i := 30) rfl))) (notFace_of_selects (args := #[]) (mvT hZ (hw _ (List.mem_of_getElem? (i := 32) rfl)))) (mvT hZ (hw _ (List.mem_of_getElem? (i := 32) rfl))) (mvT hZ (hw _ (List.mem_of_getElem? (i := 31) rfl))) (by decide) (backOf (W := 0) (rm3 l Z a0 hw [] a1 bE bP bB bG bN bM bF bT nn (own_E nn) (own_E nn) own_Z4 own_Z4 (own_N4 nn) own_Z4 own_Z4 own_Z4 (1 : Int32) (0 : Int32) (0 : Int32) (1 : Int32) Ea Pa Ma Ta ta h0 n0 Z0 RP DD hm0) hZ (hw _ (List.mem_of_getElem? (i := 33) rfl)) (hw _ (List.mem_of_getElem? (i := 4) rfl)) (by decide) (by decide)) q3a q3c (g := (mkF m 71 #[s0, s1, s2, s3, s4, .val (.int pre), .val (.int xx), .val (.int yy), s8, .val (.ref a1), .val (.int (1 : Int32)), .unset, .unset, s13, s14, s15, s16, s17, s18, s19, s20, s21] [(.int (0 : Int32)), (.ref a1)])) rfl (by rw [hml]; rfl) (Steps.refl _) (argsL := [(.int (0 : Int32))]) (rest := []) (lenOf pd_2 rfl) rfl (by show 2 * 0 + _ ≤ _; exact Nat.le_of_eq rfl) (hb hby at_71) (fun _ _ => ⟨rfl, e0, (by decide : 10 + 0 ≤ _), (by decide : 46 + 0 ≤ _)⟩)
    dsimp only [Pt.U, Pt.locs, Pt.cells, Pt.slots] at X3 l3 y3 z3 st3 hQ3
    subst l3 y3 z3
    obtain ⟨rfl, N3q, K3, RP3⟩ := hQ3
    have N3 := Fr.app NL N3q
    have Em3 := RP3.1
    obtain ⟨cq4, kq4, q4a, q4b, q4c⟩ := isOf hZ rfl Em3
    obtain ⟨_, _, ⟨T4, L4, k4, n4⟩, -, X4, ⟨Lc4, hQ4, l4, y4, z4⟩, st4⟩ := X3.virtualBack hx (y := (⟨"com/example/yealm/yealm/equiv/RefinablePartition", "split", "(I)I"⟩ : MethodName)) (z := (⟨"com/example/yealm/yealm/equiv/RefinablePartition", "split", "(I)I"⟩ : MethodName)) hown (mvT hZ (hw _ (List.mem_of_getElem? (i := 69) rfl))) (mvT hZ (hw _ (List.mem_of_getElem? (i := 70) rfl))) (notFace_of_selects (args := #[]) (mvT hZ (hw _ (List.mem_of_getElem? (i := 72) rfl)))) (mvT hZ (hw _ (List.mem_of_getElem? (i := 72) rfl))) (mvT hZ (hw _ (List.mem_of_getElem? (i := 71) rfl))) (by decide) (backOf (W := 0) (rm12 l Z a0 hw [] a1 bE bP bB bG bN bM bF bT nn Ea Pa own_Z4 own_Z4 (own_N4 nn) Ma own_Z4 Ta (1 : Int32) ta (0 : Int32) lB lG lN Mb lF T3.heap n0 (Nat.le_trans Z0 K3.1) RP3 DD rfl hM0 hG0 hsp) hZ (hw _ (List.mem_of_getElem? (i := 73) rfl)) (hw _ (List.mem_of_getElem? (i := 4) rfl)) (by decide) (by decide)) q4a q4c (g := (mkF m 79 #[s0, s1, s2, s3, s4, .val (.int pre), .val (.int xx), .val (.int yy), s8, .val (.ref a1), .val (.int (1 : Int32)), .val (.int (1 : Int32)), .unset, s13, s14, s15, s16, s17, s18, s19, s20, s21] [(.int (0 : Int32)), (.ref a1)])) rfl (by rw [hml]; rfl) (Steps.refl _) (argsL := [(.int (0 : Int32))]) (rest := []) (lenOf pd_0 rfl) rfl (by show 2 * 0 + _ ≤ _; exact Nat.le_of_eq rfl) (hb hby at_79) (fun _ _ => ⟨rfl, rfl, (by decide : 10 + 0 ≤ _), (by decide : 46 + 0 ≤ _)⟩)
    dsimp only [Pt.U, Pt.locs, Pt.cells, Pt.slots] at X4 l4 y4 z4 st4 hQ4
    subst l4 y4 z4
    obtain ⟨rfl, N4q, K4, RP4⟩ := hQ4
    have N4 := Fr.app N3 N4q
    have Em4 := RP4.1
    obtain ⟨cq5, kq5, q5a, q5b, q5c⟩ := isOf hZ rfl Em4
    obtain ⟨_, _, ⟨T5, L5, k5, n5⟩, -, X5, ⟨Lc5, hQ5, l5, y5, z5⟩, st5⟩ := X4.virtualBack hx (y := (⟨"com/example/yealm/yealm/equiv/RefinablePartition", "forgetTouched", "()V"⟩ : MethodName)) (z := (⟨"com/example/yealm/yealm/equiv/RefinablePartition", "forgetTouched", "()V"⟩ : MethodName)) hown (mvT hZ (hw _ (List.mem_of_getElem? (i := 78) rfl))) (mvT hZ (hw _ (List.mem_of_getElem? (i := 79) rfl))) (notFace_of_selects (args := #[]) (mvT hZ (hw _ (List.mem_of_getElem? (i := 81) rfl)))) (mvT hZ (hw _ (List.mem_of_getElem? (i := 81) rfl))) (mvT hZ (hw _ (List.mem_of_getElem? (i := 80) rfl))) (by decide) (backOf (W := 0) (rm14 l Z a0 hw [] a1 bE bP bB bG bN bM bF bT nn Ea Pa lB lG lN Mb lF Ta ((1 : Int32) + (1 : Int32)) ta T4.heap n0 (Nat.le_trans (Nat.le_trans Z0 K3.1) K4.1) RP4 DD) hZ (hw _ (List.mem_of_getElem? (i := 82) rfl)) (hw _ (List.mem_of_getElem? (i := 4) rfl)) (by decide) (by decide)) q5a q5c (g := (mkF m 86 #[s0, s1, s2, s3, s4, .val (.int pre), .val (.int xx), .val (.int yy), s8, .val (.ref a1), .val (.int (1 : Int32)), .val (.int (1 : Int32)), .val (.int (1 : Int32)), s13, s14, s15, s16, s17, s18, s19, s20, s21] [(.ref a1)])) rfl (by rw [hml]; rfl) (Steps.refl _) (argsL := []) (rest := []) (lenOf pd_3 rfl) rfl (by show 2 * 0 + _ ≤ _; exact Nat.le_of_eq rfl) (hb hby at_86) (fun _ _ => ⟨rfl, rfl, (by decide : 10 + 0 ≤ _), (by decide : 46 + 0 ≤ _)⟩)
    dsimp only [Pt.U, Pt.locs, Pt.cells, Pt.slots] at X5 l5 y5 z5 st5 hQ5
    subst l5 y5 z5
    obtain ⟨rfl, N5q, K5, RP5⟩ := hQ5
    have N5 := Fr.app N4 N5q
    have Em5 := RP5.1
    have zz7 : n0 ≤ T5.heap.size := (Nat.le_trans (Nat.le_trans (Nat.le_trans Z0 K3.1) K4.1) K5.1)
    obtain ⟨cq6, kq6, q6a, q6b, q6c⟩ := isOf hZ rfl Em5
    obtain ⟨_, _, ⟨T6, L6, k6, n6⟩, -, X6, ⟨Lc6, hQ6, l6, y6, z6⟩, st6⟩ := X5.virtualBack hx (y := (⟨"com/example/yealm/yealm/equiv/RefinablePartition", "mark", "(I)Z"⟩ : MethodName)) (z := (⟨"com/example/yealm/yealm/equiv/RefinablePartition", "mark", "(I)Z"⟩ : MethodName)) hown (mvT hZ (hw _ (List.mem_of_getElem? (i := 29) rfl))) (mvT hZ (hw _ (List.mem_of_getElem? (i := 30) rfl))) (notFace_of_selects (args := #[]) (mvT hZ (hw _ (List.mem_of_getElem? (i := 32) rfl)))) (mvT hZ (hw _ (List.mem_of_getElem? (i := 32) rfl))) (mvT hZ (hw _ (List.mem_of_getElem? (i := 31) rfl))) (by decide) (backOf (W := 0) (rm3 l Z a0 hw [] a1 bE bP bB bG bN bM bF bT nn Ea Pa lB lG lN Mb lF Ta ((1 : Int32) + (1 : Int32)) (0 : Int32) xx rx xE xP xM xT xt T5.heap n0 zz7 RP5 DD hmx) hZ (hw _ (List.mem_of_getElem? (i := 33) rfl)) (hw _ (List.mem_of_getElem? (i := 4) rfl)) (by decide) (by decide)) q6a q6c (g := (mkF m 111 #[s0, s1, s2, s3, s4, .val (.int pre), .val (.int xx), .val (.int yy), s8, .val (.ref a1), .val (.int (1 : Int32)), .val (.int (1 : Int32)), .val (.int (1 : Int32)), s13, s14, s15, s16, s17, s18, s19, s20, s21] [(.int xx), (.ref a1)])) rfl (by rw [hml]; rfl) (Steps.refl _) (argsL := [(.int xx)]) (rest := []) (lenOf pd_2 rfl) rfl (by show 2 * 0 + _ ≤ _; exact Nat.le_of_eq rfl) (hb hby at_111) (fun _ _ => ⟨rfl, rfl, (by decide : 10 + 0 ≤ _), (by decide : 46 + 0 ≤ _)⟩)
    dsimp only [Pt.U, Pt.locs, Pt.cells, Pt.slots] at X6 l6 y6 z6 st6 hQ6
    subst l6 y6 z6
    obtain ⟨rfl, N6q, K6, RP6⟩ := hQ6
    have N6 := Fr.app N5 N6q
    have Em6 := RP6.1
    obtain ⟨cq8, kq8, q8a, q8b, q8c⟩ := isOf hZ rfl Em6
    obtain ⟨_, _, ⟨T8, L8, k8, n8⟩, -, X8, ⟨Lc8, hQ8, l8, y8, z8⟩, st8⟩ := X6.virtualBack hx (y := (⟨"com/example/yealm/yealm/equiv/RefinablePartition", "mark", "(I)Z"⟩ : MethodName)) (z := (⟨"com/example/yealm/yealm/equiv/RefinablePartition", "mark", "(I)Z"⟩ : MethodName)) hown (mvT hZ (hw _ (List.mem_of_getElem? (i := 29) rfl))) (mvT hZ (hw _ (List.mem_of_getElem? (i := 30) rfl))) (notFace_of_selects (args := #[]) (mvT hZ (hw _ (List.mem_of_getElem? (i := 32) rfl)))) (mvT hZ (hw _ (List.mem_of_getElem? (i := 32) rfl))) (mvT hZ (hw _ (List.mem_of_getElem? (i := 31) rfl))) (by decide) (backOf (W := 0) (rm3 l Z a0 hw [] a1 bE bP bB bG bN bM bF bT nn xE xP lB lG lN xM lF xT ((1 : Int32) + (1 : Int32)) xt yy ry lE lP lM lT tc T6.heap n0 (Nat.le_trans zz7 K6.1) RP6 DD hmy) hZ (hw _ (List.mem_of_getElem? (i := 33) rfl)) (hw _ (List.mem_of_getElem? (i := 4) rfl)) (by decide) (by decide)) q8a q8c (g := (mkF m 120 #[s0, s1, s2, s3, s4, .val (.int pre), .val (.int xx), .val (.int yy), s8, .val (.ref a1), .val (.int (1 : Int32)), .val (.int rx), .val (.int (1 : Int32)), s13, s14, s15, s16, s17, s18, s19, s20, s21] [(.int yy), (.ref a1)])) rfl (by rw [hml]; rfl) (Steps.refl _) (argsL := [(.int yy)]) (rest := []) (lenOf pd_2 rfl) rfl (by show 2 * 0 + _ ≤ _; exact Nat.le_of_eq rfl) (hb hby at_120) (fun _ _ => ⟨rfl, rfl, (by decide : 10 + 0 ≤ _), (by decide : 46 + 0 ≤ _)⟩)
    dsimp only [Pt.U, Pt.locs, Pt.cells, Pt.slots] at X8 l8 y8 z8 st8 hQ8
    subst l8 y8 z8
    obtain ⟨rfl, N8q, K8, RP8⟩ := hQ8
    have N8 := Fr.app N6 N8q
    have Em8 := RP8.1
    refine ⟨T8, _, X8, N8, ((((((Keep.refl h0 [a1, bE, bP, bB, bG, bN, bM, bF, bT]).trans K3 (allS (Or.inl (List.mem_of_getElem? (i := 0) rfl)) (allS (Or.inl (List.mem_of_getElem? (i := 1) rfl)) (allS (Or.inl (List.mem_of_getElem? (i := 2) rfl)) (allS (Or.inl (List.mem_of_getElem? (i := 3) rfl)) (allS (Or.inl (List.mem_of_getElem? (i := 4) rfl)) (allS (Or.inl (List.mem_of_getElem? (i := 5) rfl)) (allS (Or.inl (List.mem_of_getElem? (i := 6) rfl)) (allS (Or.inl (List.mem_of_getElem? (i := 7) rfl)) (allS (Or.inl (List.mem_of_getElem? (i := 8) rfl)) all0)))))))))).trans K4 (allS (Or.inl (List.mem_of_getElem? (i := 0) rfl)) (allS (Or.inl (List.mem_of_getElem? (i := 1) rfl)) (allS (Or.inl (List.mem_of_getElem? (i := 2) rfl)) (allS (Or.inl (List.mem_of_getElem? (i := 3) rfl)) (allS (Or.inl (List.mem_of_getElem? (i := 4) rfl)) (allS (Or.inl (List.mem_of_getElem? (i := 5) rfl)) (allS (Or.inl (List.mem_of_getElem? (i := 6) rfl)) (allS (Or.inl (List.mem_of_getElem? (i := 7) rfl)) (allS (Or.inl (List.mem_of_getElem? (i := 8) rfl)) all0)))))))))).trans K5 (allS (Or.inl (List.mem_of_getElem? (i := 0) rfl)) (allS (Or.inl (List.mem_of_getElem? (i := 1) rfl)) (allS (Or.inl (List.mem_of_getElem? (i := 2) rfl)) (allS (Or.inl (List.mem_of_getElem? (i := 3) rfl)) (allS (Or.inl (List.mem_of_getElem? (i := 4) rfl)) (allS (Or.inl (List.mem_of_getElem? (i := 5) rfl)) (allS (Or.inl (List.mem_of_getElem? (i := 6) rfl)) (allS (Or.inl (List.mem_of_getElem? (i := 7) rfl)) (allS (Or.inl (List.mem_of_getElem? (i := 8) rfl)) all0)))))))))).trans K6 (allS (Or.inl (List.mem_of_getElem? (i := 0) rfl)) (allS (Or.inl (List.mem_of_getElem? (i := 1) rfl)) (allS (Or.inl (List.mem_of_getElem? (i := 2) rfl)) (allS (Or.inl (List.mem_of_getElem? (i := 3) rfl)) (allS (Or.inl (List.mem_of_getElem? (i := 4) rfl)) (allS (Or.inl (List.mem_of_getElem? (i := 5) rfl)) (allS (Or.inl (List.mem_of_getElem? (i := 6) rfl)) (allS (Or.inl (List.mem_of_getElem? (i := 7) rfl)) (allS (Or.inl (List.mem_of_getElem? (i := 8) rfl)) all0)))))))))).trans K8 (allS (Or.inl (List.mem_of_getElem? (i := 0) rfl)) (allS (Or.inl (List.mem_of_getElem? (i := 1) rfl)) (allS (Or.inl (List.mem_of_getElem? (i := 2) rfl)) (allS (Or.inl (List.mem_of_getElem? (i := 3) rfl)) (allS (Or.inl (List.mem_of_getElem? (i := 4) rfl)) (allS (Or.inl (List.mem_of_getElem? (i := 5) rfl)) (allS (Or.inl (List.mem_of_getElem? (i := 6) rfl)) (allS (Or.inl (List.mem_of_getElem? (i := 7) rfl)) (allS (Or.inl (List.mem_of_getElem? (i := 8) rfl)) all0)))))))))), RP8, fun target kt => ?_⟩
    show Steps p.tables e below (T0.setTop (mkF m 63 #[s0, s1, s2, s3, s4, .val (.int pre), .val (.int xx), .val (.int yy), s8, .val (.ref a1), .val (.int (1 : Int32)), .unset, .unset, s13, s14, s15, s16, s17, s18, s19, s20, s21] [])) _
    refine XS.iload X0.here hx rfl (hb hby at_63) rfl ?_
    show Steps p.tables e below (T0.setTop (mkF m 65 #[s0, s1, s2, s3, s4, .val (.int pre), .val (.int xx), .val (.int yy), s8, .val (.ref a1), .val (.int (1 : Int32)), .unset, .unset, s13, s14, s15, s16, s17, s18, s19, s20, s21] [(.int pre)])) _
    refine XS.ifNo X0.here hx rfl (hb hby at_65) rfl ((if0 _ _).trans (feq hc65).1) ?_
    show Steps p.tables e below (T0.setTop (mkF m 68 #[s0, s1, s2, s3, s4, .val (.int pre), .val (.int xx), .val (.int yy), s8, .val (.ref a1), .val (.int (1 : Int32)), .unset, .unset, s13, s14, s15, s16, s17, s18, s19, s20, s21] [])) _
    refine XS.aload X0.here hx rfl (hb hby at_68) rfl rfl ?_
    show Steps p.tables e below (T0.setTop (mkF m 70 #[s0, s1, s2, s3, s4, .val (.int pre), .val (.int xx), .val (.int yy), s8, .val (.ref a1), .val (.int (1 : Int32)), .unset, .unset, s13, s14, s15, s16, s17, s18, s19, s20, s21] [(.ref a1)])) _
    refine XS.iconst X0.here hx rfl (hb hby at_70) ?_
    show Steps p.tables e below (T0.setTop (mkF m 71 #[s0, s1, s2, s3, s4, .val (.int pre), .val (.int xx), .val (.int yy), s8, .val (.ref a1), .val (.int (1 : Int32)), .unset, .unset, s13, s14, s15, s16, s17, s18, s19, s20, s21] [(.int (0 : Int32)), (.ref a1)])) _
    refine st3.trans ?_
    show Steps p.tables e below (T3.setTop (mkF m 74 #[s0, s1, s2, s3, s4, .val (.int pre), .val (.int xx), .val (.int yy), s8, .val (.ref a1), .val (.int (1 : Int32)), .unset, .unset, s13, s14, s15, s16, s17, s18, s19, s20, s21] [(.int (1 : Int32))])) _
    refine XS.istore X3.here hx rfl (hb hby at_74) rfl (l' := #[s0, s1, s2, s3, s4, .val (.int pre), .val (.int xx), .val (.int yy), s8, .val (.ref a1), .val (.int (1 : Int32)), .val (.int (1 : Int32)), .unset, s13, s14, s15, s16, s17, s18, s19, s20, s21]) rfl ?_
    show Steps p.tables e below (T3.setTop (mkF m 76 #[s0, s1, s2, s3, s4, .val (.int pre), .val (.int xx), .val (.int yy), s8, .val (.ref a1), .val (.int (1 : Int32)), .val (.int (1 : Int32)), .unset, s13, s14, s15, s16, s17, s18, s19, s20, s21] [])) _
    refine XS.aload X3.here hx rfl (hb hby at_76) rfl rfl ?_
    show Steps p.tables e below (T3.setTop (mkF m 78 #[s0, s1, s2, s3, s4, .val (.int pre), .val (.int xx), .val (.int yy), s8, .val (.ref a1), .val (.int (1 : Int32)), .val (.int (1 : Int32)), .unset, s13, s14, s15, s16, s17, s18, s19, s20, s21] [(.ref a1)])) _
    refine XS.iconst X3.here hx rfl (hb hby at_78) ?_
    show Steps p.tables e below (T3.setTop (mkF m 79 #[s0, s1, s2, s3, s4, .val (.int pre), .val (.int xx), .val (.int yy), s8, .val (.ref a1), .val (.int (1 : Int32)), .val (.int (1 : Int32)), .unset, s13, s14, s15, s16, s17, s18, s19, s20, s21] [(.int (0 : Int32)), (.ref a1)])) _
    refine st4.trans ?_
    show Steps p.tables e below (T4.setTop (mkF m 82 #[s0, s1, s2, s3, s4, .val (.int pre), .val (.int xx), .val (.int yy), s8, .val (.ref a1), .val (.int (1 : Int32)), .val (.int (1 : Int32)), .unset, s13, s14, s15, s16, s17, s18, s19, s20, s21] [(.int (1 : Int32))])) _
    refine XS.istore X4.here hx rfl (hb hby at_82) rfl (l' := #[s0, s1, s2, s3, s4, .val (.int pre), .val (.int xx), .val (.int yy), s8, .val (.ref a1), .val (.int (1 : Int32)), .val (.int (1 : Int32)), .val (.int (1 : Int32)), s13, s14, s15, s16, s17, s18, s19, s20, s21]) rfl ?_
    show Steps p.tables e below (T4.setTop (mkF m 84 #[s0, s1, s2, s3, s4, .val (.int pre), .val (.int xx), .val (.int yy), s8, .val (.ref a1), .val (.int (1 : Int32)), .val (.int (1 : Int32)), .val (.int (1 : Int32)), s13, s14, s15, s16, s17, s18, s19, s20, s21] [])) _
    refine XS.aload X4.here hx rfl (hb hby at_84) rfl rfl ?_
    show Steps p.tables e below (T4.setTop (mkF m 86 #[s0, s1, s2, s3, s4, .val (.int pre), .val (.int xx), .val (.int yy), s8, .val (.ref a1), .val (.int (1 : Int32)), .val (.int (1 : Int32)), .val (.int (1 : Int32)), s13, s14, s15, s16, s17, s18, s19, s20, s21] [(.ref a1)])) _
    refine st5.trans ?_
    show Steps p.tables e below (T5.setTop (mkF m 89 #[s0, s1, s2, s3, s4, .val (.int pre), .val (.int xx), .val (.int yy), s8, .val (.ref a1), .val (.int (1 : Int32)), .val (.int (1 : Int32)), .val (.int (1 : Int32)), s13, s14, s15, s16, s17, s18, s19, s20, s21] [])) _
    refine XS.iload X5.here hx rfl (hb hby at_89) rfl ?_
    show Steps p.tables e below (T5.setTop (mkF m 91 #[s0, s1, s2, s3, s4, .val (.int pre), .val (.int xx), .val (.int yy), s8, .val (.ref a1), .val (.int (1 : Int32)), .val (.int (1 : Int32)), .val (.int (1 : Int32)), s13, s14, s15, s16, s17, s18, s19, s20, s21] [(.int (1 : Int32))])) _
    refine XS.ifNo X5.here hx rfl (hb hby at_91) rfl ((if0 _ _).trans (feq (by decide : ¬ (1 : Int32) = (0 : Int32))).1) ?_
    show Steps p.tables e below (T5.setTop (mkF m 94 #[s0, s1, s2, s3, s4, .val (.int pre), .val (.int xx), .val (.int yy), s8, .val (.ref a1), .val (.int (1 : Int32)), .val (.int (1 : Int32)), .val (.int (1 : Int32)), s13, s14, s15, s16, s17, s18, s19, s20, s21] [])) _
    refine XS.iload X5.here hx rfl (hb hby at_94) rfl ?_
    show Steps p.tables e below (T5.setTop (mkF m 96 #[s0, s1, s2, s3, s4, .val (.int pre), .val (.int xx), .val (.int yy), s8, .val (.ref a1), .val (.int (1 : Int32)), .val (.int (1 : Int32)), .val (.int (1 : Int32)), s13, s14, s15, s16, s17, s18, s19, s20, s21] [(.int (1 : Int32))])) _
    refine XS.iconst X5.here hx rfl (hb hby at_96) ?_
    show Steps p.tables e below (T5.setTop (mkF m 97 #[s0, s1, s2, s3, s4, .val (.int pre), .val (.int xx), .val (.int yy), s8, .val (.ref a1), .val (.int (1 : Int32)), .val (.int (1 : Int32)), .val (.int (1 : Int32)), s13, s14, s15, s16, s17, s18, s19, s20, s21] [(.int (1 : Int32)), (.int (1 : Int32))])) _
    refine XS.icmpNo X5.here hx rfl (hb hby at_97) rfl (teq (rfl : (1 : Int32) = (1 : Int32))).2 ?_
    show Steps p.tables e below (T5.setTop (mkF m 100 #[s0, s1, s2, s3, s4, .val (.int pre), .val (.int xx), .val (.int yy), s8, .val (.ref a1), .val (.int (1 : Int32)), .val (.int (1 : Int32)), .val (.int (1 : Int32)), s13, s14, s15, s16, s17, s18, s19, s20, s21] [])) _
    refine XS.iconst X5.here hx rfl (hb hby at_100) ?_
    show Steps p.tables e below (T5.setTop (mkF m 101 #[s0, s1, s2, s3, s4, .val (.int pre), .val (.int xx), .val (.int yy), s8, .val (.ref a1), .val (.int (1 : Int32)), .val (.int (1 : Int32)), .val (.int (1 : Int32)), s13, s14, s15, s16, s17, s18, s19, s20, s21] [(.int (1 : Int32))])) _
    refine XS.goto X5.here hx rfl (pc0 := 101) (pc' := 105) rfl (hb hby at_101) (by decide) (by decide) ?_
    show Steps p.tables e below (T5.setTop (mkF m 105 #[s0, s1, s2, s3, s4, .val (.int pre), .val (.int xx), .val (.int yy), s8, .val (.ref a1), .val (.int (1 : Int32)), .val (.int (1 : Int32)), .val (.int (1 : Int32)), s13, s14, s15, s16, s17, s18, s19, s20, s21] [(.int (1 : Int32))])) _
    refine XS.istore X5.here hx rfl (hb hby at_105) rfl (l' := #[s0, s1, s2, s3, s4, .val (.int pre), .val (.int xx), .val (.int yy), s8, .val (.ref a1), .val (.int (1 : Int32)), .val (.int (1 : Int32)), .val (.int (1 : Int32)), s13, s14, s15, s16, s17, s18, s19, s20, s21]) rfl ?_
    show Steps p.tables e below (T5.setTop (mkF m 107 #[s0, s1, s2, s3, s4, .val (.int pre), .val (.int xx), .val (.int yy), s8, .val (.ref a1), .val (.int (1 : Int32)), .val (.int (1 : Int32)), .val (.int (1 : Int32)), s13, s14, s15, s16, s17, s18, s19, s20, s21] [])) _
    refine XS.aload X5.here hx rfl (hb hby at_107) rfl rfl ?_
    show Steps p.tables e below (T5.setTop (mkF m 109 #[s0, s1, s2, s3, s4, .val (.int pre), .val (.int xx), .val (.int yy), s8, .val (.ref a1), .val (.int (1 : Int32)), .val (.int (1 : Int32)), .val (.int (1 : Int32)), s13, s14, s15, s16, s17, s18, s19, s20, s21] [(.ref a1)])) _
    refine XS.iload X5.here hx rfl (hb hby at_109) rfl ?_
    show Steps p.tables e below (T5.setTop (mkF m 111 #[s0, s1, s2, s3, s4, .val (.int pre), .val (.int xx), .val (.int yy), s8, .val (.ref a1), .val (.int (1 : Int32)), .val (.int (1 : Int32)), .val (.int (1 : Int32)), s13, s14, s15, s16, s17, s18, s19, s20, s21] [(.int xx), (.ref a1)])) _
    refine st6.trans ?_
    show Steps p.tables e below (T6.setTop (mkF m 114 #[s0, s1, s2, s3, s4, .val (.int pre), .val (.int xx), .val (.int yy), s8, .val (.ref a1), .val (.int (1 : Int32)), .val (.int (1 : Int32)), .val (.int (1 : Int32)), s13, s14, s15, s16, s17, s18, s19, s20, s21] [(.int rx)])) _
    refine XS.istore X6.here hx rfl (hb hby at_114) rfl (l' := #[s0, s1, s2, s3, s4, .val (.int pre), .val (.int xx), .val (.int yy), s8, .val (.ref a1), .val (.int (1 : Int32)), .val (.int rx), .val (.int (1 : Int32)), s13, s14, s15, s16, s17, s18, s19, s20, s21]) rfl ?_
    show Steps p.tables e below (T6.setTop (mkF m 116 #[s0, s1, s2, s3, s4, .val (.int pre), .val (.int xx), .val (.int yy), s8, .val (.ref a1), .val (.int (1 : Int32)), .val (.int rx), .val (.int (1 : Int32)), s13, s14, s15, s16, s17, s18, s19, s20, s21] [])) _
    refine XS.aload X6.here hx rfl (hb hby at_116) rfl rfl ?_
    show Steps p.tables e below (T6.setTop (mkF m 118 #[s0, s1, s2, s3, s4, .val (.int pre), .val (.int xx), .val (.int yy), s8, .val (.ref a1), .val (.int (1 : Int32)), .val (.int rx), .val (.int (1 : Int32)), s13, s14, s15, s16, s17, s18, s19, s20, s21] [(.ref a1)])) _
    refine XS.iload X6.here hx rfl (hb hby at_118) rfl ?_
    show Steps p.tables e below (T6.setTop (mkF m 120 #[s0, s1, s2, s3, s4, .val (.int pre), .val (.int xx), .val (.int yy), s8, .val (.ref a1), .val (.int (1 : Int32)), .val (.int rx), .val (.int (1 : Int32)), s13, s14, s15, s16, s17, s18, s19, s20, s21] [(.int yy), (.ref a1)])) _
    refine st8.trans ?_
    show Steps p.tables e below (T8.setTop (mkF m 123 #[s0, s1, s2, s3, s4, .val (.int pre), .val (.int xx), .val (.int yy), s8, .val (.ref a1), .val (.int (1 : Int32)), .val (.int rx), .val (.int (1 : Int32)), s13, s14, s15, s16, s17, s18, s19, s20, s21] [(.int ry)])) _
    refine XS.istore X8.here hx rfl (hb hby at_123) rfl (l' := #[s0, s1, s2, s3, s4, .val (.int pre), .val (.int xx), .val (.int yy), s8, .val (.ref a1), .val (.int (1 : Int32)), .val (.int rx), .val (.int ry), s13, s14, s15, s16, s17, s18, s19, s20, s21]) rfl ?_
    show Steps p.tables e below (T8.setTop (mkF m 125 #[s0, s1, s2, s3, s4, .val (.int pre), .val (.int xx), .val (.int yy), s8, .val (.ref a1), .val (.int (1 : Int32)), .val (.int rx), .val (.int ry), s13, s14, s15, s16, s17, s18, s19, s20, s21] [])) _
    exact kt
set_option maxRecDepth 65536 in
set_option maxHeartbeats 40000000 in
theorem sg_7 {p : Program} {l : Launch} {e : Env} {R : Room} {s : State} {m : MethodId} {args : Array Value} {below : List Frame} {meth : Method} {c : Code} {T0 : State} {locs : List Loc} {cells slots : Nat} {Z : State} {a0 : Array Value}  (s0 : Slot) (qb : Int32) (s2 : Slot) (s3 : Slot) (nn : Int32) (s5 : Slot) (s6 : Slot) (s7 : Slot) (s8 : Slot) (s9 : Slot) (s10 : Slot) (s11 : Slot) (s12 : Slot) (s13 : Slot) (s14 : Slot) (s15 : Slot) (s16 : Slot) (s17 : Slot) (s18 : Slot) (s19 : Slot) (s20 : Slot) (s21 : Slot) (v0 : Int32) (hv0 : v0 = (if (qb &&& (1 : Int32)) = (0 : Int32) then (0 : Int32) else (if nn < (2 : Int32) then (0 : Int32) else (1 : Int32))))
    (X0 : Stand p l e R s m args below meth c T0 locs cells slots) (hx : p.tables.exec = Jvm.exec) (hZ : Z.Warmed39 s.vm) (hw : ∀ d ∈ tables_1, d.before a0 Z = true) (hby : c.code = code) (hown : s.vm.findClass "com/example/yealm/yealm/equiv/RefinablePartitionMarkPinLaw" = some m.cls) {target : State}
    (kt : Steps p.tables e below (T0.setTop (mkF m 24 #[s0, .val (.int qb), s2, s3, .val (.int nn), s5, s6, s7, s8, s9, s10, s11, s12, s13, s14, s15, s16, s17, s18, s19, s20, s21] [(.int v0)])) target) : Steps p.tables e below (T0.setTop (mkF m 7 #[s0, .val (.int qb), s2, s3, .val (.int nn), s5, s6, s7, s8, s9, s10, s11, s12, s13, s14, s15, s16, s17, s18, s19, s20, s21] [])) target := by
  by_cases hc10 : (qb &&& (1 : Int32)) = (0 : Int32)
  ·
    simp only [if_pos hc10] at hv0
    rw [hv0] at kt
    show Steps p.tables e below (T0.setTop (mkF m 7 #[s0, .val (.int qb), s2, s3, .val (.int nn), s5, s6, s7, s8, s9, s10, s11, s12, s13, s14, s15, s16, s17, s18, s19, s20, s21] [])) _
    refine XS.iloadN X0.here hx rfl (hb hby at_7) rfl ?_
    show Steps p.tables e below (T0.setTop (mkF m 8 #[s0, .val (.int qb), s2, s3, .val (.int nn), s5, s6, s7, s8, s9, s10, s11, s12, s13, s14, s15, s16, s17, s18, s19, s20, s21] [(.int qb)])) _
    refine XS.iconst X0.here hx rfl (hb hby at_8) ?_
    show Steps p.tables e below (T0.setTop (mkF m 9 #[s0, .val (.int qb), s2, s3, .val (.int nn), s5, s6, s7, s8, s9, s10, s11, s12, s13, s14, s15, s16, s17, s18, s19, s20, s21] [(.int (1 : Int32)), (.int qb)])) _
    refine XS.iand X0.here hx rfl (hb hby at_9) rfl ?_
    show Steps p.tables e below (T0.setTop (mkF m 10 #[s0, .val (.int qb), s2, s3, .val (.int nn), s5, s6, s7, s8, s9, s10, s11, s12, s13, s14, s15, s16, s17, s18, s19, s20, s21] [(.int (qb &&& (1 : Int32)))])) _
    refine XS.ifYes X0.here hx rfl (pc0 := 10) (pc' := 23) rfl (hb hby at_10) rfl ((if0 _ _).trans (teq hc10).1) (by decide) (by decide) ?_
    show Steps p.tables e below (T0.setTop (mkF m 23 #[s0, .val (.int qb), s2, s3, .val (.int nn), s5, s6, s7, s8, s9, s10, s11, s12, s13, s14, s15, s16, s17, s18, s19, s20, s21] [])) _
    refine XS.iconst X0.here hx rfl (hb hby at_23) ?_
    show Steps p.tables e below (T0.setTop (mkF m 24 #[s0, .val (.int qb), s2, s3, .val (.int nn), s5, s6, s7, s8, s9, s10, s11, s12, s13, s14, s15, s16, s17, s18, s19, s20, s21] [(.int (0 : Int32))])) _
    exact kt
  ·
    by_cases hc16 : nn < (2 : Int32)
    ·
      simp only [if_neg hc10, if_pos hc16] at hv0
      rw [hv0] at kt
      show Steps p.tables e below (T0.setTop (mkF m 7 #[s0, .val (.int qb), s2, s3, .val (.int nn), s5, s6, s7, s8, s9, s10, s11, s12, s13, s14, s15, s16, s17, s18, s19, s20, s21] [])) _
      refine XS.iloadN X0.here hx rfl (hb hby at_7) rfl ?_
      show Steps p.tables e below (T0.setTop (mkF m 8 #[s0, .val (.int qb), s2, s3, .val (.int nn), s5, s6, s7, s8, s9, s10, s11, s12, s13, s14, s15, s16, s17, s18, s19, s20, s21] [(.int qb)])) _
      refine XS.iconst X0.here hx rfl (hb hby at_8) ?_
      show Steps p.tables e below (T0.setTop (mkF m 9 #[s0, .val (.int qb), s2, s3, .val (.int nn), s5, s6, s7, s8, s9, s10, s11, s12, s13, s14, s15, s16, s17, s18, s19, s20, s21] [(.int (1 : Int32)), (.int qb)])) _
      refine XS.iand X0.here hx rfl (hb hby at_9) rfl ?_
      show Steps p.tables e below (T0.setTop (mkF m 10 #[s0, .val (.int qb), s2, s3, .val (.int nn), s5, s6, s7, s8, s9, s10, s11, s12, s13, s14, s15, s16, s17, s18, s19, s20, s21] [(.int (qb &&& (1 : Int32)))])) _
      refine XS.ifNo X0.here hx rfl (hb hby at_10) rfl ((if0 _ _).trans (feq hc10).1) ?_
      show Steps p.tables e below (T0.setTop (mkF m 13 #[s0, .val (.int qb), s2, s3, .val (.int nn), s5, s6, s7, s8, s9, s10, s11, s12, s13, s14, s15, s16, s17, s18, s19, s20, s21] [])) _
      refine XS.iload X0.here hx rfl (hb hby at_13) rfl ?_
      show Steps p.tables e below (T0.setTop (mkF m 15 #[s0, .val (.int qb), s2, s3, .val (.int nn), s5, s6, s7, s8, s9, s10, s11, s12, s13, s14, s15, s16, s17, s18, s19, s20, s21] [(.int nn)])) _
      refine XS.iconst X0.here hx rfl (hb hby at_15) ?_
      show Steps p.tables e below (T0.setTop (mkF m 16 #[s0, .val (.int qb), s2, s3, .val (.int nn), s5, s6, s7, s8, s9, s10, s11, s12, s13, s14, s15, s16, s17, s18, s19, s20, s21] [(.int (2 : Int32)), (.int nn)])) _
      refine XS.icmpYes X0.here hx rfl (pc0 := 16) (pc' := 23) rfl (hb hby at_16) rfl (tlt hc16).1 (by decide) (by decide) ?_
      show Steps p.tables e below (T0.setTop (mkF m 23 #[s0, .val (.int qb), s2, s3, .val (.int nn), s5, s6, s7, s8, s9, s10, s11, s12, s13, s14, s15, s16, s17, s18, s19, s20, s21] [])) _
      refine XS.iconst X0.here hx rfl (hb hby at_23) ?_
      show Steps p.tables e below (T0.setTop (mkF m 24 #[s0, .val (.int qb), s2, s3, .val (.int nn), s5, s6, s7, s8, s9, s10, s11, s12, s13, s14, s15, s16, s17, s18, s19, s20, s21] [(.int (0 : Int32))])) _
      exact kt
    ·
      simp only [if_neg hc10, if_neg hc16] at hv0
      rw [hv0] at kt
      show Steps p.tables e below (T0.setTop (mkF m 7 #[s0, .val (.int qb), s2, s3, .val (.int nn), s5, s6, s7, s8, s9, s10, s11, s12, s13, s14, s15, s16, s17, s18, s19, s20, s21] [])) _
      refine XS.iloadN X0.here hx rfl (hb hby at_7) rfl ?_
      show Steps p.tables e below (T0.setTop (mkF m 8 #[s0, .val (.int qb), s2, s3, .val (.int nn), s5, s6, s7, s8, s9, s10, s11, s12, s13, s14, s15, s16, s17, s18, s19, s20, s21] [(.int qb)])) _
      refine XS.iconst X0.here hx rfl (hb hby at_8) ?_
      show Steps p.tables e below (T0.setTop (mkF m 9 #[s0, .val (.int qb), s2, s3, .val (.int nn), s5, s6, s7, s8, s9, s10, s11, s12, s13, s14, s15, s16, s17, s18, s19, s20, s21] [(.int (1 : Int32)), (.int qb)])) _
      refine XS.iand X0.here hx rfl (hb hby at_9) rfl ?_
      show Steps p.tables e below (T0.setTop (mkF m 10 #[s0, .val (.int qb), s2, s3, .val (.int nn), s5, s6, s7, s8, s9, s10, s11, s12, s13, s14, s15, s16, s17, s18, s19, s20, s21] [(.int (qb &&& (1 : Int32)))])) _
      refine XS.ifNo X0.here hx rfl (hb hby at_10) rfl ((if0 _ _).trans (feq hc10).1) ?_
      show Steps p.tables e below (T0.setTop (mkF m 13 #[s0, .val (.int qb), s2, s3, .val (.int nn), s5, s6, s7, s8, s9, s10, s11, s12, s13, s14, s15, s16, s17, s18, s19, s20, s21] [])) _
      refine XS.iload X0.here hx rfl (hb hby at_13) rfl ?_
      show Steps p.tables e below (T0.setTop (mkF m 15 #[s0, .val (.int qb), s2, s3, .val (.int nn), s5, s6, s7, s8, s9, s10, s11, s12, s13, s14, s15, s16, s17, s18, s19, s20, s21] [(.int nn)])) _
      refine XS.iconst X0.here hx rfl (hb hby at_15) ?_
      show Steps p.tables e below (T0.setTop (mkF m 16 #[s0, .val (.int qb), s2, s3, .val (.int nn), s5, s6, s7, s8, s9, s10, s11, s12, s13, s14, s15, s16, s17, s18, s19, s20, s21] [(.int (2 : Int32)), (.int nn)])) _
      refine XS.icmpNo X0.here hx rfl (hb hby at_16) rfl (flt hc16).1 ?_
      show Steps p.tables e below (T0.setTop (mkF m 19 #[s0, .val (.int qb), s2, s3, .val (.int nn), s5, s6, s7, s8, s9, s10, s11, s12, s13, s14, s15, s16, s17, s18, s19, s20, s21] [])) _
      refine XS.iconst X0.here hx rfl (hb hby at_19) ?_
      show Steps p.tables e below (T0.setTop (mkF m 20 #[s0, .val (.int qb), s2, s3, .val (.int nn), s5, s6, s7, s8, s9, s10, s11, s12, s13, s14, s15, s16, s17, s18, s19, s20, s21] [(.int (1 : Int32))])) _
      refine XS.goto X0.here hx rfl (pc0 := 20) (pc' := 24) rfl (hb hby at_20) (by decide) (by decide) ?_
      show Steps p.tables e below (T0.setTop (mkF m 24 #[s0, .val (.int qb), s2, s3, .val (.int nn), s5, s6, s7, s8, s9, s10, s11, s12, s13, s14, s15, s16, s17, s18, s19, s20, s21] [(.int (1 : Int32))])) _
      exact kt
set_option maxRecDepth 65536 in
set_option maxHeartbeats 40000000 in
theorem sg_161 {p : Program} {l : Launch} {e : Env} {R : Room} {s : State} {m : MethodId} {args : Array Value} {below : List Frame} {meth : Method} {c : Code} {T0 : State} {locs : List Loc} {cells slots : Nat} {Z : State} {a0 : Array Value}  (s0 : Slot) (s1 : Slot) (s2 : Slot) (s3 : Slot) (s4 : Slot) (s5 : Slot) (s6 : Slot) (s7 : Slot) (s8 : Slot) (s9 : Slot) (s10 : Slot) (s11 : Slot) (s12 : Slot) (bx : Int32) (by1 : Int32) (s15 : Slot) (s16 : Slot) (s17 : Slot) (s18 : Slot) (s19 : Slot) (s20 : Slot) (s21 : Slot) (v0 : Int32) (hv0 : v0 = (if bx = by1 then (1 : Int32) else (0 : Int32)))
    (X0 : Stand p l e R s m args below meth c T0 locs cells slots) (hx : p.tables.exec = Jvm.exec) (hZ : Z.Warmed39 s.vm) (hw : ∀ d ∈ tables_1, d.before a0 Z = true) (hby : c.code = code) (hown : s.vm.findClass "com/example/yealm/yealm/equiv/RefinablePartitionMarkPinLaw" = some m.cls) {target : State}
    (kt : Steps p.tables e below (T0.setTop (mkF m 173 #[s0, s1, s2, s3, s4, s5, s6, s7, s8, s9, s10, s11, s12, .val (.int bx), .val (.int by1), s15, s16, s17, s18, s19, s20, s21] [(.int v0)])) target) : Steps p.tables e below (T0.setTop (mkF m 161 #[s0, s1, s2, s3, s4, s5, s6, s7, s8, s9, s10, s11, s12, .val (.int bx), .val (.int by1), s15, s16, s17, s18, s19, s20, s21] [])) target := by
  by_cases hc165 : bx = by1
  ·
    simp only [if_pos hc165] at hv0
    rw [hv0] at kt
    show Steps p.tables e below (T0.setTop (mkF m 161 #[s0, s1, s2, s3, s4, s5, s6, s7, s8, s9, s10, s11, s12, .val (.int bx), .val (.int by1), s15, s16, s17, s18, s19, s20, s21] [])) _
    refine XS.iload X0.here hx rfl (hb hby at_161) rfl ?_
    show Steps p.tables e below (T0.setTop (mkF m 163 #[s0, s1, s2, s3, s4, s5, s6, s7, s8, s9, s10, s11, s12, .val (.int bx), .val (.int by1), s15, s16, s17, s18, s19, s20, s21] [(.int bx)])) _
    refine XS.iload X0.here hx rfl (hb hby at_163) rfl ?_
    show Steps p.tables e below (T0.setTop (mkF m 165 #[s0, s1, s2, s3, s4, s5, s6, s7, s8, s9, s10, s11, s12, .val (.int bx), .val (.int by1), s15, s16, s17, s18, s19, s20, s21] [(.int by1), (.int bx)])) _
    refine XS.icmpNo X0.here hx rfl (hb hby at_165) rfl (teq hc165).2 ?_
    show Steps p.tables e below (T0.setTop (mkF m 168 #[s0, s1, s2, s3, s4, s5, s6, s7, s8, s9, s10, s11, s12, .val (.int bx), .val (.int by1), s15, s16, s17, s18, s19, s20, s21] [])) _
    refine XS.iconst X0.here hx rfl (hb hby at_168) ?_
    show Steps p.tables e below (T0.setTop (mkF m 169 #[s0, s1, s2, s3, s4, s5, s6, s7, s8, s9, s10, s11, s12, .val (.int bx), .val (.int by1), s15, s16, s17, s18, s19, s20, s21] [(.int (1 : Int32))])) _
    refine XS.goto X0.here hx rfl (pc0 := 169) (pc' := 173) rfl (hb hby at_169) (by decide) (by decide) ?_
    show Steps p.tables e below (T0.setTop (mkF m 173 #[s0, s1, s2, s3, s4, s5, s6, s7, s8, s9, s10, s11, s12, .val (.int bx), .val (.int by1), s15, s16, s17, s18, s19, s20, s21] [(.int (1 : Int32))])) _
    exact kt
  ·
    simp only [if_neg hc165] at hv0
    rw [hv0] at kt
    show Steps p.tables e below (T0.setTop (mkF m 161 #[s0, s1, s2, s3, s4, s5, s6, s7, s8, s9, s10, s11, s12, .val (.int bx), .val (.int by1), s15, s16, s17, s18, s19, s20, s21] [])) _
    refine XS.iload X0.here hx rfl (hb hby at_161) rfl ?_
    show Steps p.tables e below (T0.setTop (mkF m 163 #[s0, s1, s2, s3, s4, s5, s6, s7, s8, s9, s10, s11, s12, .val (.int bx), .val (.int by1), s15, s16, s17, s18, s19, s20, s21] [(.int bx)])) _
    refine XS.iload X0.here hx rfl (hb hby at_163) rfl ?_
    show Steps p.tables e below (T0.setTop (mkF m 165 #[s0, s1, s2, s3, s4, s5, s6, s7, s8, s9, s10, s11, s12, .val (.int bx), .val (.int by1), s15, s16, s17, s18, s19, s20, s21] [(.int by1), (.int bx)])) _
    refine XS.icmpYes X0.here hx rfl (pc0 := 165) (pc' := 172) rfl (hb hby at_165) rfl (feq hc165).2 (by decide) (by decide) ?_
    show Steps p.tables e below (T0.setTop (mkF m 172 #[s0, s1, s2, s3, s4, s5, s6, s7, s8, s9, s10, s11, s12, .val (.int bx), .val (.int by1), s15, s16, s17, s18, s19, s20, s21] [])) _
    refine XS.iconst X0.here hx rfl (hb hby at_172) ?_
    show Steps p.tables e below (T0.setTop (mkF m 173 #[s0, s1, s2, s3, s4, s5, s6, s7, s8, s9, s10, s11, s12, .val (.int bx), .val (.int by1), s15, s16, s17, s18, s19, s20, s21] [(.int (0 : Int32))])) _
    exact kt
set_option maxRecDepth 65536 in
set_option maxHeartbeats 40000000 in
theorem sg_175 {p : Program} {l : Launch} {e : Env} {R : Room} {s : State} {m : MethodId} {args : Array Value} {below : List Frame} {meth : Method} {c : Code} {T0 : State} {locs : List Loc} {cells slots : Nat} {Z : State} {a0 : Array Value}  (s0 : Slot) (s1 : Slot) (s2 : Slot) (s3 : Slot) (s4 : Slot) (s5 : Slot) (xx : Int32) (yy : Int32) (s8 : Slot) (s9 : Slot) (s10 : Slot) (s11 : Slot) (s12 : Slot) (s13 : Slot) (s14 : Slot) (s15 : Slot) (s16 : Slot) (s17 : Slot) (s18 : Slot) (s19 : Slot) (s20 : Slot) (s21 : Slot) (v0 : Int32) (hv0 : v0 = (if xx = yy then (0 : Int32) else (1 : Int32)))
    (X0 : Stand p l e R s m args below meth c T0 locs cells slots) (hx : p.tables.exec = Jvm.exec) (hZ : Z.Warmed39 s.vm) (hw : ∀ d ∈ tables_1, d.before a0 Z = true) (hby : c.code = code) (hown : s.vm.findClass "com/example/yealm/yealm/equiv/RefinablePartitionMarkPinLaw" = some m.cls) {target : State}
    (kt : Steps p.tables e below (T0.setTop (mkF m 187 #[s0, s1, s2, s3, s4, s5, .val (.int xx), .val (.int yy), s8, s9, s10, s11, s12, s13, s14, s15, s16, s17, s18, s19, s20, s21] [(.int v0)])) target) : Steps p.tables e below (T0.setTop (mkF m 175 #[s0, s1, s2, s3, s4, s5, .val (.int xx), .val (.int yy), s8, s9, s10, s11, s12, s13, s14, s15, s16, s17, s18, s19, s20, s21] [])) target := by
  by_cases hc179 : xx = yy
  ·
    simp only [if_pos hc179] at hv0
    rw [hv0] at kt
    show Steps p.tables e below (T0.setTop (mkF m 175 #[s0, s1, s2, s3, s4, s5, .val (.int xx), .val (.int yy), s8, s9, s10, s11, s12, s13, s14, s15, s16, s17, s18, s19, s20, s21] [])) _
    refine XS.iload X0.here hx rfl (hb hby at_175) rfl ?_
    show Steps p.tables e below (T0.setTop (mkF m 177 #[s0, s1, s2, s3, s4, s5, .val (.int xx), .val (.int yy), s8, s9, s10, s11, s12, s13, s14, s15, s16, s17, s18, s19, s20, s21] [(.int xx)])) _
    refine XS.iload X0.here hx rfl (hb hby at_177) rfl ?_
    show Steps p.tables e below (T0.setTop (mkF m 179 #[s0, s1, s2, s3, s4, s5, .val (.int xx), .val (.int yy), s8, s9, s10, s11, s12, s13, s14, s15, s16, s17, s18, s19, s20, s21] [(.int yy), (.int xx)])) _
    refine XS.icmpYes X0.here hx rfl (pc0 := 179) (pc' := 186) rfl (hb hby at_179) rfl (teq hc179).1 (by decide) (by decide) ?_
    show Steps p.tables e below (T0.setTop (mkF m 186 #[s0, s1, s2, s3, s4, s5, .val (.int xx), .val (.int yy), s8, s9, s10, s11, s12, s13, s14, s15, s16, s17, s18, s19, s20, s21] [])) _
    refine XS.iconst X0.here hx rfl (hb hby at_186) ?_
    show Steps p.tables e below (T0.setTop (mkF m 187 #[s0, s1, s2, s3, s4, s5, .val (.int xx), .val (.int yy), s8, s9, s10, s11, s12, s13, s14, s15, s16, s17, s18, s19, s20, s21] [(.int (0 : Int32))])) _
    exact kt
  ·
    simp only [if_neg hc179] at hv0
    rw [hv0] at kt
    show Steps p.tables e below (T0.setTop (mkF m 175 #[s0, s1, s2, s3, s4, s5, .val (.int xx), .val (.int yy), s8, s9, s10, s11, s12, s13, s14, s15, s16, s17, s18, s19, s20, s21] [])) _
    refine XS.iload X0.here hx rfl (hb hby at_175) rfl ?_
    show Steps p.tables e below (T0.setTop (mkF m 177 #[s0, s1, s2, s3, s4, s5, .val (.int xx), .val (.int yy), s8, s9, s10, s11, s12, s13, s14, s15, s16, s17, s18, s19, s20, s21] [(.int xx)])) _
    refine XS.iload X0.here hx rfl (hb hby at_177) rfl ?_
    show Steps p.tables e below (T0.setTop (mkF m 179 #[s0, s1, s2, s3, s4, s5, .val (.int xx), .val (.int yy), s8, s9, s10, s11, s12, s13, s14, s15, s16, s17, s18, s19, s20, s21] [(.int yy), (.int xx)])) _
    refine XS.icmpNo X0.here hx rfl (hb hby at_179) rfl (feq hc179).1 ?_
    show Steps p.tables e below (T0.setTop (mkF m 182 #[s0, s1, s2, s3, s4, s5, .val (.int xx), .val (.int yy), s8, s9, s10, s11, s12, s13, s14, s15, s16, s17, s18, s19, s20, s21] [])) _
    refine XS.iconst X0.here hx rfl (hb hby at_182) ?_
    show Steps p.tables e below (T0.setTop (mkF m 183 #[s0, s1, s2, s3, s4, s5, .val (.int xx), .val (.int yy), s8, s9, s10, s11, s12, s13, s14, s15, s16, s17, s18, s19, s20, s21] [(.int (1 : Int32))])) _
    refine XS.goto X0.here hx rfl (pc0 := 183) (pc' := 187) rfl (hb hby at_183) (by decide) (by decide) ?_
    show Steps p.tables e below (T0.setTop (mkF m 187 #[s0, s1, s2, s3, s4, s5, .val (.int xx), .val (.int yy), s8, s9, s10, s11, s12, s13, s14, s15, s16, s17, s18, s19, s20, s21] [(.int (1 : Int32))])) _
    exact kt
set_option maxRecDepth 65536 in
set_option maxHeartbeats 40000000 in
theorem sg_227 {p : Program} {l : Launch} {e : Env} {R : Room} {s : State} {m : MethodId} {args : Array Value} {below : List Frame} {meth : Method} {c : Code} {T0 : State} {locs : List Loc} {cells slots : Nat} {Z : State} {a0 : Array Value}  (s0 : Slot) (s1 : Slot) (s2 : Slot) (s3 : Slot) (s4 : Slot) (s5 : Slot) (s6 : Slot) (s7 : Slot) (s8 : Slot) (s9 : Slot) (s10 : Slot) (s11 : Slot) (s12 : Slot) (s13 : Slot) (s14 : Slot) (s15 : Slot) (s16 : Slot) (sm : Int32) (s18 : Slot) (s19 : Slot) (s20 : Slot) (s21 : Slot) (t9 : Int32) (v0 : Int32) (hv0 : v0 = (if sm = (0 : Int32) then (2 : Int32) else (1 : Int32)))
    (X0 : Stand p l e R s m args below meth c T0 locs cells slots) (hx : p.tables.exec = Jvm.exec) (hZ : Z.Warmed39 s.vm) (hw : ∀ d ∈ tables_1, d.before a0 Z = true) (hby : c.code = code) (hown : s.vm.findClass "com/example/yealm/yealm/equiv/RefinablePartitionMarkPinLaw" = some m.cls) {target : State}
    (kt : Steps p.tables e below (T0.setTop (mkF m 237 #[s0, s1, s2, s3, s4, s5, s6, s7, s8, s9, s10, s11, s12, s13, s14, s15, s16, .val (.int sm), s18, s19, s20, s21] [(.int v0), (.int t9)])) target) : Steps p.tables e below (T0.setTop (mkF m 227 #[s0, s1, s2, s3, s4, s5, s6, s7, s8, s9, s10, s11, s12, s13, s14, s15, s16, .val (.int sm), s18, s19, s20, s21] [(.int t9)])) target := by
  by_cases hc229 : sm = (0 : Int32)
  ·
    simp only [if_pos hc229] at hv0
    rw [hv0] at kt
    show Steps p.tables e below (T0.setTop (mkF m 227 #[s0, s1, s2, s3, s4, s5, s6, s7, s8, s9, s10, s11, s12, s13, s14, s15, s16, .val (.int sm), s18, s19, s20, s21] [(.int t9)])) _
    refine XS.iload X0.here hx rfl (hb hby at_227) rfl ?_
    show Steps p.tables e below (T0.setTop (mkF m 229 #[s0, s1, s2, s3, s4, s5, s6, s7, s8, s9, s10, s11, s12, s13, s14, s15, s16, .val (.int sm), s18, s19, s20, s21] [(.int sm), (.int t9)])) _
    refine XS.ifYes X0.here hx rfl (pc0 := 229) (pc' := 236) rfl (hb hby at_229) rfl ((if0 _ _).trans (teq hc229).1) (by decide) (by decide) ?_
    show Steps p.tables e below (T0.setTop (mkF m 236 #[s0, s1, s2, s3, s4, s5, s6, s7, s8, s9, s10, s11, s12, s13, s14, s15, s16, .val (.int sm), s18, s19, s20, s21] [(.int t9)])) _
    refine XS.iconst X0.here hx rfl (hb hby at_236) ?_
    show Steps p.tables e below (T0.setTop (mkF m 237 #[s0, s1, s2, s3, s4, s5, s6, s7, s8, s9, s10, s11, s12, s13, s14, s15, s16, .val (.int sm), s18, s19, s20, s21] [(.int (2 : Int32)), (.int t9)])) _
    exact kt
  ·
    simp only [if_neg hc229] at hv0
    rw [hv0] at kt
    show Steps p.tables e below (T0.setTop (mkF m 227 #[s0, s1, s2, s3, s4, s5, s6, s7, s8, s9, s10, s11, s12, s13, s14, s15, s16, .val (.int sm), s18, s19, s20, s21] [(.int t9)])) _
    refine XS.iload X0.here hx rfl (hb hby at_227) rfl ?_
    show Steps p.tables e below (T0.setTop (mkF m 229 #[s0, s1, s2, s3, s4, s5, s6, s7, s8, s9, s10, s11, s12, s13, s14, s15, s16, .val (.int sm), s18, s19, s20, s21] [(.int sm), (.int t9)])) _
    refine XS.ifNo X0.here hx rfl (hb hby at_229) rfl ((if0 _ _).trans (feq hc229).1) ?_
    show Steps p.tables e below (T0.setTop (mkF m 232 #[s0, s1, s2, s3, s4, s5, s6, s7, s8, s9, s10, s11, s12, s13, s14, s15, s16, .val (.int sm), s18, s19, s20, s21] [(.int t9)])) _
    refine XS.iconst X0.here hx rfl (hb hby at_232) ?_
    show Steps p.tables e below (T0.setTop (mkF m 233 #[s0, s1, s2, s3, s4, s5, s6, s7, s8, s9, s10, s11, s12, s13, s14, s15, s16, .val (.int sm), s18, s19, s20, s21] [(.int (1 : Int32)), (.int t9)])) _
    refine XS.goto X0.here hx rfl (pc0 := 233) (pc' := 237) rfl (hb hby at_233) (by decide) (by decide) ?_
    show Steps p.tables e below (T0.setTop (mkF m 237 #[s0, s1, s2, s3, s4, s5, s6, s7, s8, s9, s10, s11, s12, s13, s14, s15, s16, .val (.int sm), s18, s19, s20, s21] [(.int (1 : Int32)), (.int t9)])) _
    exact kt
set_option maxRecDepth 65536 in
set_option maxHeartbeats 40000000 in
theorem sg_312 {p : Program} {l : Launch} {e : Env} {R : Room} {s : State} {m : MethodId} {args : Array Value} {below : List Frame} {meth : Method} {c : Code} {T0 : State} {locs : List Loc} {cells slots : Nat} {Z : State} {a0 : Array Value}  (s0 : Slot) (s1 : Slot) (s2 : Slot) (s3 : Slot) (s4 : Slot) (s5 : Slot) (s6 : Slot) (s7 : Slot) (s8 : Slot) (s9 : Slot) (s10 : Slot) (s11 : Slot) (s12 : Slot) (s13 : Slot) (s14 : Slot) (s15 : Slot) (s16 : Slot) (sm : Int32) (ds : Int32) (s19 : Slot) (s20 : Slot) (s21 : Slot) (t9 : Int32) (t8 : Int32) (v0 : Int32) (hv0 : v0 = (if sm = (0 : Int32) then (1 : Int32) else (if ds = (0 : Int32) then (1 : Int32) else (2 : Int32))))
    (X0 : Stand p l e R s m args below meth c T0 locs cells slots) (hx : p.tables.exec = Jvm.exec) (hZ : Z.Warmed39 s.vm) (hw : ∀ d ∈ tables_1, d.before a0 Z = true) (hby : c.code = code) (hown : s.vm.findClass "com/example/yealm/yealm/equiv/RefinablePartitionMarkPinLaw" = some m.cls) {target : State}
    (kt : Steps p.tables e below (T0.setTop (mkF m 327 #[s0, s1, s2, s3, s4, s5, s6, s7, s8, s9, s10, s11, s12, s13, s14, s15, s16, .val (.int sm), .val (.int ds), s19, s20, s21] [(.int v0), (.int t9), (.int t8)])) target) : Steps p.tables e below (T0.setTop (mkF m 312 #[s0, s1, s2, s3, s4, s5, s6, s7, s8, s9, s10, s11, s12, s13, s14, s15, s16, .val (.int sm), .val (.int ds), s19, s20, s21] [(.int t9), (.int t8)])) target := by
  by_cases hc314 : sm = (0 : Int32)
  ·
    simp only [if_pos hc314] at hv0
    rw [hv0] at kt
    show Steps p.tables e below (T0.setTop (mkF m 312 #[s0, s1, s2, s3, s4, s5, s6, s7, s8, s9, s10, s11, s12, s13, s14, s15, s16, .val (.int sm), .val (.int ds), s19, s20, s21] [(.int t9), (.int t8)])) _
    refine XS.iload X0.here hx rfl (hb hby at_312) rfl ?_
    show Steps p.tables e below (T0.setTop (mkF m 314 #[s0, s1, s2, s3, s4, s5, s6, s7, s8, s9, s10, s11, s12, s13, s14, s15, s16, .val (.int sm), .val (.int ds), s19, s20, s21] [(.int sm), (.int t9), (.int t8)])) _
    refine XS.ifYes X0.here hx rfl (pc0 := 314) (pc' := 326) rfl (hb hby at_314) rfl ((if0 _ _).trans (teq hc314).1) (by decide) (by decide) ?_
    show Steps p.tables e below (T0.setTop (mkF m 326 #[s0, s1, s2, s3, s4, s5, s6, s7, s8, s9, s10, s11, s12, s13, s14, s15, s16, .val (.int sm), .val (.int ds), s19, s20, s21] [(.int t9), (.int t8)])) _
    refine XS.iconst X0.here hx rfl (hb hby at_326) ?_
    show Steps p.tables e below (T0.setTop (mkF m 327 #[s0, s1, s2, s3, s4, s5, s6, s7, s8, s9, s10, s11, s12, s13, s14, s15, s16, .val (.int sm), .val (.int ds), s19, s20, s21] [(.int (1 : Int32)), (.int t9), (.int t8)])) _
    exact kt
  ·
    by_cases hc319 : ds = (0 : Int32)
    ·
      simp only [if_neg hc314, if_pos hc319] at hv0
      rw [hv0] at kt
      show Steps p.tables e below (T0.setTop (mkF m 312 #[s0, s1, s2, s3, s4, s5, s6, s7, s8, s9, s10, s11, s12, s13, s14, s15, s16, .val (.int sm), .val (.int ds), s19, s20, s21] [(.int t9), (.int t8)])) _
      refine XS.iload X0.here hx rfl (hb hby at_312) rfl ?_
      show Steps p.tables e below (T0.setTop (mkF m 314 #[s0, s1, s2, s3, s4, s5, s6, s7, s8, s9, s10, s11, s12, s13, s14, s15, s16, .val (.int sm), .val (.int ds), s19, s20, s21] [(.int sm), (.int t9), (.int t8)])) _
      refine XS.ifNo X0.here hx rfl (hb hby at_314) rfl ((if0 _ _).trans (feq hc314).1) ?_
      show Steps p.tables e below (T0.setTop (mkF m 317 #[s0, s1, s2, s3, s4, s5, s6, s7, s8, s9, s10, s11, s12, s13, s14, s15, s16, .val (.int sm), .val (.int ds), s19, s20, s21] [(.int t9), (.int t8)])) _
      refine XS.iload X0.here hx rfl (hb hby at_317) rfl ?_
      show Steps p.tables e below (T0.setTop (mkF m 319 #[s0, s1, s2, s3, s4, s5, s6, s7, s8, s9, s10, s11, s12, s13, s14, s15, s16, .val (.int sm), .val (.int ds), s19, s20, s21] [(.int ds), (.int t9), (.int t8)])) _
      refine XS.ifYes X0.here hx rfl (pc0 := 319) (pc' := 326) rfl (hb hby at_319) rfl ((if0 _ _).trans (teq hc319).1) (by decide) (by decide) ?_
      show Steps p.tables e below (T0.setTop (mkF m 326 #[s0, s1, s2, s3, s4, s5, s6, s7, s8, s9, s10, s11, s12, s13, s14, s15, s16, .val (.int sm), .val (.int ds), s19, s20, s21] [(.int t9), (.int t8)])) _
      refine XS.iconst X0.here hx rfl (hb hby at_326) ?_
      show Steps p.tables e below (T0.setTop (mkF m 327 #[s0, s1, s2, s3, s4, s5, s6, s7, s8, s9, s10, s11, s12, s13, s14, s15, s16, .val (.int sm), .val (.int ds), s19, s20, s21] [(.int (1 : Int32)), (.int t9), (.int t8)])) _
      exact kt
    ·
      simp only [if_neg hc314, if_neg hc319] at hv0
      rw [hv0] at kt
      show Steps p.tables e below (T0.setTop (mkF m 312 #[s0, s1, s2, s3, s4, s5, s6, s7, s8, s9, s10, s11, s12, s13, s14, s15, s16, .val (.int sm), .val (.int ds), s19, s20, s21] [(.int t9), (.int t8)])) _
      refine XS.iload X0.here hx rfl (hb hby at_312) rfl ?_
      show Steps p.tables e below (T0.setTop (mkF m 314 #[s0, s1, s2, s3, s4, s5, s6, s7, s8, s9, s10, s11, s12, s13, s14, s15, s16, .val (.int sm), .val (.int ds), s19, s20, s21] [(.int sm), (.int t9), (.int t8)])) _
      refine XS.ifNo X0.here hx rfl (hb hby at_314) rfl ((if0 _ _).trans (feq hc314).1) ?_
      show Steps p.tables e below (T0.setTop (mkF m 317 #[s0, s1, s2, s3, s4, s5, s6, s7, s8, s9, s10, s11, s12, s13, s14, s15, s16, .val (.int sm), .val (.int ds), s19, s20, s21] [(.int t9), (.int t8)])) _
      refine XS.iload X0.here hx rfl (hb hby at_317) rfl ?_
      show Steps p.tables e below (T0.setTop (mkF m 319 #[s0, s1, s2, s3, s4, s5, s6, s7, s8, s9, s10, s11, s12, s13, s14, s15, s16, .val (.int sm), .val (.int ds), s19, s20, s21] [(.int ds), (.int t9), (.int t8)])) _
      refine XS.ifNo X0.here hx rfl (hb hby at_319) rfl ((if0 _ _).trans (feq hc319).1) ?_
      show Steps p.tables e below (T0.setTop (mkF m 322 #[s0, s1, s2, s3, s4, s5, s6, s7, s8, s9, s10, s11, s12, s13, s14, s15, s16, .val (.int sm), .val (.int ds), s19, s20, s21] [(.int t9), (.int t8)])) _
      refine XS.iconst X0.here hx rfl (hb hby at_322) ?_
      show Steps p.tables e below (T0.setTop (mkF m 323 #[s0, s1, s2, s3, s4, s5, s6, s7, s8, s9, s10, s11, s12, s13, s14, s15, s16, .val (.int sm), .val (.int ds), s19, s20, s21] [(.int (2 : Int32)), (.int t9), (.int t8)])) _
      refine XS.goto X0.here hx rfl (pc0 := 323) (pc' := 327) rfl (hb hby at_323) (by decide) (by decide) ?_
      show Steps p.tables e below (T0.setTop (mkF m 327 #[s0, s1, s2, s3, s4, s5, s6, s7, s8, s9, s10, s11, s12, s13, s14, s15, s16, .val (.int sm), .val (.int ds), s19, s20, s21] [(.int (2 : Int32)), (.int t9), (.int t8)])) _
      exact kt
set_option maxRecDepth 65536 in
set_option maxHeartbeats 40000000 in
theorem cs_270 {p : Program} {l : Launch} {e : Env} {s : State} {m : MethodId} {args : Array Value} {below : List Frame} {meth : Method} {c : Code} {T0 : State} {locs : List Loc} {Z : State} {a0 : Array Value} {h0 : Heap} {n0 : Nat} (bE bP bB bG bN bM bF bT : Addr) (nn : Int32) (lE lP lB lG lN lM lF lT : List Int32) (bc tc : Int32) (s0 : Slot) (s1 : Slot) (s2 : Slot) (s3 : Slot) (s4 : Slot) (s5 : Slot) (s6 : Slot) (s7 : Slot) (s8 : Slot) (a1 : Addr) (s11 : Slot) (s12 : Slot) (s13 : Slot) (by1 : Int32) (s15 : Slot) (s16 : Slot) (sm : Int32) (s18 : Slot) (s19 : Slot) (s20 : Slot) (s21 : Slot)
    (X0 : Stand p l e room_1 s m args below meth c T0 locs 10 46) (hx : p.tables.exec = Jvm.exec) (hZ : Z.Warmed39 s.vm) (hw : ∀ d ∈ tables_1, d.before a0 Z = true) (hby : c.code = code) (hml : c.maxLocals = 22) (hown : s.vm.findClass "com/example/yealm/yealm/equiv/RefinablePartitionMarkPinLaw" = some m.cls) (e0 : T0.heap = h0) (Z0 : n0 ≤ h0.size) (RP : own_RP Z h0 a1 bE bP bB bG bN bM bF bT nn lE lP lB lG lN lM lF lT bc tc) (hT1 : sm = (0 : Int32) → own_get nn lT 1 = some by1) :
    ∃ (T' : State) (L' : List Loc), Stand p l e room_1 s m args below meth c T' (locs ++ L') 10 46 ∧ Fr n0 L' ∧ T'.heap = h0 ∧ ∀ target, Steps p.tables e below (T'.setTop (mkF m 298 #[s0, s1, s2, s3, s4, s5, s6, s7, s8, .val (.ref a1), .val (.int (1 : Int32)), s11, s12, s13, .val (.int by1), s15, s16, .val (.int sm), s18, s19, s20, s21] [])) target → Steps p.tables e below (T0.setTop (mkF m 270 #[s0, s1, s2, s3, s4, s5, s6, s7, s8, .val (.ref a1), .val (.int (1 : Int32)), s11, s12, s13, .val (.int by1), s15, s16, .val (.int sm), s18, s19, s20, s21] [])) target := by
  by_cases hc277 : sm = (0 : Int32)
  ·
    obtain ⟨cq1, kq1, q1a, q1b, q1c⟩ := isOf hZ e0 RP.1
    obtain ⟨_, _, ⟨T1, L1, k1, n1⟩, -, X1, ⟨Lc1, hQ1, l1, y1, z1⟩, st1⟩ := X0.virtualBack hx (y := (⟨"com/example/yealm/yealm/equiv/RefinablePartition", "touched", "(I)I"⟩ : MethodName)) (z := (⟨"com/example/yealm/yealm/equiv/RefinablePartition", "touched", "(I)I"⟩ : MethodName)) hown (mvT hZ (hw _ (List.mem_of_getElem? (i := 48) rfl))) (mvT hZ (hw _ (List.mem_of_getElem? (i := 49) rfl))) (notFace_of_selects (args := #[]) (mvT hZ (hw _ (List.mem_of_getElem? (i := 51) rfl)))) (mvT hZ (hw _ (List.mem_of_getElem? (i := 51) rfl))) (mvT hZ (hw _ (List.mem_of_getElem? (i := 50) rfl))) (by decide) (backOf (W := 0) (rm7 l Z a0 hw [] a1 bE bP bB bG bN bM bF bT nn lE lP lB lG lN lM lF lT bc tc (1 : Int32) by1 h0 n0 Z0 RP (hT1 hc277)) hZ (hw _ (List.mem_of_getElem? (i := 52) rfl)) (hw _ (List.mem_of_getElem? (i := 4) rfl)) (by decide) (by decide)) q1a q1c (g := (mkF m 283 #[s0, s1, s2, s3, s4, s5, s6, s7, s8, .val (.ref a1), .val (.int (1 : Int32)), s11, s12, s13, .val (.int by1), s15, s16, .val (.int sm), s18, s19, s20, s21] [(.int (1 : Int32)), (.ref a1)])) rfl (by rw [hml]; rfl) (Steps.refl _) (argsL := [(.int (1 : Int32))]) (rest := []) (lenOf pd_0 rfl) rfl (by show 2 * 0 + _ ≤ _; exact Nat.le_of_eq rfl) (hb hby at_283) (fun _ _ => ⟨rfl, e0, (by decide : 10 + 0 ≤ _), (by decide : 46 + 0 ≤ _)⟩)
    dsimp only [Pt.U, Pt.locs, Pt.cells, Pt.slots] at X1 l1 y1 z1 st1 hQ1
    subst l1 y1 z1
    obtain ⟨rfl, N1q, e1⟩ := hQ1
    have N1 := Fr.app (Fr.nil n0) N1q
    refine ⟨T1, Lc1, X1, N1q, e1, fun target kt => ?_⟩
    show Steps p.tables e below (T0.setTop (mkF m 270 #[s0, s1, s2, s3, s4, s5, s6, s7, s8, .val (.ref a1), .val (.int (1 : Int32)), s11, s12, s13, .val (.int by1), s15, s16, .val (.int sm), s18, s19, s20, s21] [])) _
    refine XS.iload X0.here hx rfl (hb hby at_270) rfl ?_
    show Steps p.tables e below (T0.setTop (mkF m 272 #[s0, s1, s2, s3, s4, s5, s6, s7, s8, .val (.ref a1), .val (.int (1 : Int32)), s11, s12, s13, .val (.int by1), s15, s16, .val (.int sm), s18, s19, s20, s21] [(.int (1 : Int32))])) _
    refine XS.ifNo X0.here hx rfl (hb hby at_272) rfl ((if0 _ _).trans (feq (by decide : ¬ (1 : Int32) = (0 : Int32))).1) ?_
    show Steps p.tables e below (T0.setTop (mkF m 275 #[s0, s1, s2, s3, s4, s5, s6, s7, s8, .val (.ref a1), .val (.int (1 : Int32)), s11, s12, s13, .val (.int by1), s15, s16, .val (.int sm), s18, s19, s20, s21] [])) _
    refine XS.iload X0.here hx rfl (hb hby at_275) rfl ?_
    show Steps p.tables e below (T0.setTop (mkF m 277 #[s0, s1, s2, s3, s4, s5, s6, s7, s8, .val (.ref a1), .val (.int (1 : Int32)), s11, s12, s13, .val (.int by1), s15, s16, .val (.int sm), s18, s19, s20, s21] [(.int sm)])) _
    refine XS.ifNo X0.here hx rfl (hb hby at_277) rfl ((if0 _ _).trans (teq hc277).2) ?_
    show Steps p.tables e below (T0.setTop (mkF m 280 #[s0, s1, s2, s3, s4, s5, s6, s7, s8, .val (.ref a1), .val (.int (1 : Int32)), s11, s12, s13, .val (.int by1), s15, s16, .val (.int sm), s18, s19, s20, s21] [])) _
    refine XS.aload X0.here hx rfl (hb hby at_280) rfl rfl ?_
    show Steps p.tables e below (T0.setTop (mkF m 282 #[s0, s1, s2, s3, s4, s5, s6, s7, s8, .val (.ref a1), .val (.int (1 : Int32)), s11, s12, s13, .val (.int by1), s15, s16, .val (.int sm), s18, s19, s20, s21] [(.ref a1)])) _
    refine XS.iconst X0.here hx rfl (hb hby at_282) ?_
    show Steps p.tables e below (T0.setTop (mkF m 283 #[s0, s1, s2, s3, s4, s5, s6, s7, s8, .val (.ref a1), .val (.int (1 : Int32)), s11, s12, s13, .val (.int by1), s15, s16, .val (.int sm), s18, s19, s20, s21] [(.int (1 : Int32)), (.ref a1)])) _
    refine st1.trans ?_
    show Steps p.tables e below (T1.setTop (mkF m 286 #[s0, s1, s2, s3, s4, s5, s6, s7, s8, .val (.ref a1), .val (.int (1 : Int32)), s11, s12, s13, .val (.int by1), s15, s16, .val (.int sm), s18, s19, s20, s21] [(.int by1)])) _
    refine XS.iload X1.here hx rfl (hb hby at_286) rfl ?_
    show Steps p.tables e below (T1.setTop (mkF m 288 #[s0, s1, s2, s3, s4, s5, s6, s7, s8, .val (.ref a1), .val (.int (1 : Int32)), s11, s12, s13, .val (.int by1), s15, s16, .val (.int sm), s18, s19, s20, s21] [(.int by1), (.int by1)])) _
    refine XS.icmpNo X1.here hx rfl (hb hby at_288) rfl (teq (rfl : by1 = by1)).2 ?_
    show Steps p.tables e below (T1.setTop (mkF m 291 #[s0, s1, s2, s3, s4, s5, s6, s7, s8, .val (.ref a1), .val (.int (1 : Int32)), s11, s12, s13, .val (.int by1), s15, s16, .val (.int sm), s18, s19, s20, s21] [])) _
    refine XS.iconst X1.here hx rfl (hb hby at_291) ?_
    show Steps p.tables e below (T1.setTop (mkF m 292 #[s0, s1, s2, s3, s4, s5, s6, s7, s8, .val (.ref a1), .val (.int (1 : Int32)), s11, s12, s13, .val (.int by1), s15, s16, .val (.int sm), s18, s19, s20, s21] [(.int (1 : Int32))])) _
    refine XS.goto X1.here hx rfl (pc0 := 292) (pc' := 296) rfl (hb hby at_292) (by decide) (by decide) ?_
    show Steps p.tables e below (T1.setTop (mkF m 296 #[s0, s1, s2, s3, s4, s5, s6, s7, s8, .val (.ref a1), .val (.int (1 : Int32)), s11, s12, s13, .val (.int by1), s15, s16, .val (.int sm), s18, s19, s20, s21] [(.int (1 : Int32))])) _
    refine XS.istore X1.here hx rfl (hb hby at_296) rfl (l' := #[s0, s1, s2, s3, s4, s5, s6, s7, s8, .val (.ref a1), .val (.int (1 : Int32)), s11, s12, s13, .val (.int by1), s15, s16, .val (.int sm), s18, s19, s20, s21]) rfl ?_
    show Steps p.tables e below (T1.setTop (mkF m 298 #[s0, s1, s2, s3, s4, s5, s6, s7, s8, .val (.ref a1), .val (.int (1 : Int32)), s11, s12, s13, .val (.int by1), s15, s16, .val (.int sm), s18, s19, s20, s21] [])) _
    exact kt
  ·
    refine ⟨T0, [], (List.append_nil locs).symm ▸ X0, Fr.nil n0, e0, fun target kt => ?_⟩
    show Steps p.tables e below (T0.setTop (mkF m 270 #[s0, s1, s2, s3, s4, s5, s6, s7, s8, .val (.ref a1), .val (.int (1 : Int32)), s11, s12, s13, .val (.int by1), s15, s16, .val (.int sm), s18, s19, s20, s21] [])) _
    refine XS.iload X0.here hx rfl (hb hby at_270) rfl ?_
    show Steps p.tables e below (T0.setTop (mkF m 272 #[s0, s1, s2, s3, s4, s5, s6, s7, s8, .val (.ref a1), .val (.int (1 : Int32)), s11, s12, s13, .val (.int by1), s15, s16, .val (.int sm), s18, s19, s20, s21] [(.int (1 : Int32))])) _
    refine XS.ifNo X0.here hx rfl (hb hby at_272) rfl ((if0 _ _).trans (feq (by decide : ¬ (1 : Int32) = (0 : Int32))).1) ?_
    show Steps p.tables e below (T0.setTop (mkF m 275 #[s0, s1, s2, s3, s4, s5, s6, s7, s8, .val (.ref a1), .val (.int (1 : Int32)), s11, s12, s13, .val (.int by1), s15, s16, .val (.int sm), s18, s19, s20, s21] [])) _
    refine XS.iload X0.here hx rfl (hb hby at_275) rfl ?_
    show Steps p.tables e below (T0.setTop (mkF m 277 #[s0, s1, s2, s3, s4, s5, s6, s7, s8, .val (.ref a1), .val (.int (1 : Int32)), s11, s12, s13, .val (.int by1), s15, s16, .val (.int sm), s18, s19, s20, s21] [(.int sm)])) _
    refine XS.ifYes X0.here hx rfl (pc0 := 277) (pc' := 298) rfl (hb hby at_277) rfl ((if0 _ _).trans (feq hc277).2) (by decide) (by decide) ?_
    show Steps p.tables e below (T0.setTop (mkF m 298 #[s0, s1, s2, s3, s4, s5, s6, s7, s8, .val (.ref a1), .val (.int (1 : Int32)), s11, s12, s13, .val (.int by1), s15, s16, .val (.int sm), s18, s19, s20, s21] [])) _
    exact kt
set_option maxRecDepth 65536 in
set_option maxHeartbeats 40000000 in
theorem cs_338 {p : Program} {l : Launch} {e : Env} {s : State} {m : MethodId} {args : Array Value} {below : List Frame} {meth : Method} {c : Code} {T0 : State} {locs : List Loc} {Z : State} {a0 : Array Value} {h0 : Heap} {n0 : Nat} (bE bP bB bG bN bM bF bT : Addr) (nn : Int32) (lE lP lB lG lN lM lF lT : List Int32) (bc tc : Int32) (s0 : Slot) (s1 : Slot) (s2 : Slot) (s3 : Slot) (s4 : Slot) (s5 : Slot) (s6 : Slot) (s7 : Slot) (s8 : Slot) (a1 : Addr) (s11 : Slot) (s12 : Slot) (s13 : Slot) (by1 : Int32) (s15 : Slot) (gy : Int32) (sm : Int32) (s18 : Slot) (s19 : Slot) (s20 : Slot) (s21 : Slot)
    (X0 : Stand p l e room_1 s m args below meth c T0 locs 10 46) (hx : p.tables.exec = Jvm.exec) (hZ : Z.Warmed39 s.vm) (hw : ∀ d ∈ tables_1, d.before a0 Z = true) (hby : c.code = code) (hml : c.maxLocals = 22) (hown : s.vm.findClass "com/example/yealm/yealm/equiv/RefinablePartitionMarkPinLaw" = some m.cls) (e0 : T0.heap = h0) (Z0 : n0 ≤ h0.size) (RP : own_RP Z h0 a1 bE bP bB bG bN bM bF bT nn lE lP lB lG lN lM lF lT bc tc) (hM1 : sm = (0 : Int32) → own_get nn lM by1 = some (gy + (1 : Int32))) :
    ∃ (T' : State) (L' : List Loc), Stand p l e room_1 s m args below meth c T' (locs ++ L') 10 46 ∧ Fr n0 L' ∧ T'.heap = h0 ∧ ∀ target, Steps p.tables e below (T'.setTop (mkF m 369 #[s0, s1, s2, s3, s4, s5, s6, s7, s8, .val (.ref a1), .val (.int (1 : Int32)), s11, s12, s13, .val (.int by1), s15, .val (.int gy), .val (.int sm), s18, s19, s20, s21] [])) target → Steps p.tables e below (T0.setTop (mkF m 338 #[s0, s1, s2, s3, s4, s5, s6, s7, s8, .val (.ref a1), .val (.int (1 : Int32)), s11, s12, s13, .val (.int by1), s15, .val (.int gy), .val (.int sm), s18, s19, s20, s21] [])) target := by
  by_cases hc345 : sm = (0 : Int32)
  ·
    obtain ⟨cq1, kq1, q1a, q1b, q1c⟩ := isOf hZ e0 RP.1
    obtain ⟨_, _, ⟨T1, L1, k1, n1⟩, -, X1, ⟨Lc1, hQ1, l1, y1, z1⟩, st1⟩ := X0.virtualBack hx (y := (⟨"com/example/yealm/yealm/equiv/RefinablePartition", "markedEnd", "(I)I"⟩ : MethodName)) (z := (⟨"com/example/yealm/yealm/equiv/RefinablePartition", "markedEnd", "(I)I"⟩ : MethodName)) hown (mvT hZ (hw _ (List.mem_of_getElem? (i := 53) rfl))) (mvT hZ (hw _ (List.mem_of_getElem? (i := 54) rfl))) (notFace_of_selects (args := #[]) (mvT hZ (hw _ (List.mem_of_getElem? (i := 56) rfl)))) (mvT hZ (hw _ (List.mem_of_getElem? (i := 56) rfl))) (mvT hZ (hw _ (List.mem_of_getElem? (i := 55) rfl))) (by decide) (backOf (W := 0) (rm8 l Z a0 hw [] a1 bE bP bB bG bN bM bF bT nn lE lP lB lG lN lM lF lT bc tc by1 (gy + (1 : Int32)) h0 n0 Z0 RP (hM1 hc345)) hZ (hw _ (List.mem_of_getElem? (i := 57) rfl)) (hw _ (List.mem_of_getElem? (i := 4) rfl)) (by decide) (by decide)) q1a q1c (g := (mkF m 352 #[s0, s1, s2, s3, s4, s5, s6, s7, s8, .val (.ref a1), .val (.int (1 : Int32)), s11, s12, s13, .val (.int by1), s15, .val (.int gy), .val (.int sm), s18, s19, s20, s21] [(.int by1), (.ref a1)])) rfl (by rw [hml]; rfl) (Steps.refl _) (argsL := [(.int by1)]) (rest := []) (lenOf pd_0 rfl) rfl (by show 2 * 0 + _ ≤ _; exact Nat.le_of_eq rfl) (hb hby at_352) (fun _ _ => ⟨rfl, e0, (by decide : 10 + 0 ≤ _), (by decide : 46 + 0 ≤ _)⟩)
    dsimp only [Pt.U, Pt.locs, Pt.cells, Pt.slots] at X1 l1 y1 z1 st1 hQ1
    subst l1 y1 z1
    obtain ⟨rfl, N1q, e1⟩ := hQ1
    have N1 := Fr.app (Fr.nil n0) N1q
    refine ⟨T1, Lc1, X1, N1q, e1, fun target kt => ?_⟩
    show Steps p.tables e below (T0.setTop (mkF m 338 #[s0, s1, s2, s3, s4, s5, s6, s7, s8, .val (.ref a1), .val (.int (1 : Int32)), s11, s12, s13, .val (.int by1), s15, .val (.int gy), .val (.int sm), s18, s19, s20, s21] [])) _
    refine XS.iload X0.here hx rfl (hb hby at_338) rfl ?_
    show Steps p.tables e below (T0.setTop (mkF m 340 #[s0, s1, s2, s3, s4, s5, s6, s7, s8, .val (.ref a1), .val (.int (1 : Int32)), s11, s12, s13, .val (.int by1), s15, .val (.int gy), .val (.int sm), s18, s19, s20, s21] [(.int (1 : Int32))])) _
    refine XS.ifNo X0.here hx rfl (hb hby at_340) rfl ((if0 _ _).trans (feq (by decide : ¬ (1 : Int32) = (0 : Int32))).1) ?_
    show Steps p.tables e below (T0.setTop (mkF m 343 #[s0, s1, s2, s3, s4, s5, s6, s7, s8, .val (.ref a1), .val (.int (1 : Int32)), s11, s12, s13, .val (.int by1), s15, .val (.int gy), .val (.int sm), s18, s19, s20, s21] [])) _
    refine XS.iload X0.here hx rfl (hb hby at_343) rfl ?_
    show Steps p.tables e below (T0.setTop (mkF m 345 #[s0, s1, s2, s3, s4, s5, s6, s7, s8, .val (.ref a1), .val (.int (1 : Int32)), s11, s12, s13, .val (.int by1), s15, .val (.int gy), .val (.int sm), s18, s19, s20, s21] [(.int sm)])) _
    refine XS.ifNo X0.here hx rfl (hb hby at_345) rfl ((if0 _ _).trans (teq hc345).2) ?_
    show Steps p.tables e below (T0.setTop (mkF m 348 #[s0, s1, s2, s3, s4, s5, s6, s7, s8, .val (.ref a1), .val (.int (1 : Int32)), s11, s12, s13, .val (.int by1), s15, .val (.int gy), .val (.int sm), s18, s19, s20, s21] [])) _
    refine XS.aload X0.here hx rfl (hb hby at_348) rfl rfl ?_
    show Steps p.tables e below (T0.setTop (mkF m 350 #[s0, s1, s2, s3, s4, s5, s6, s7, s8, .val (.ref a1), .val (.int (1 : Int32)), s11, s12, s13, .val (.int by1), s15, .val (.int gy), .val (.int sm), s18, s19, s20, s21] [(.ref a1)])) _
    refine XS.iload X0.here hx rfl (hb hby at_350) rfl ?_
    show Steps p.tables e below (T0.setTop (mkF m 352 #[s0, s1, s2, s3, s4, s5, s6, s7, s8, .val (.ref a1), .val (.int (1 : Int32)), s11, s12, s13, .val (.int by1), s15, .val (.int gy), .val (.int sm), s18, s19, s20, s21] [(.int by1), (.ref a1)])) _
    refine st1.trans ?_
    show Steps p.tables e below (T1.setTop (mkF m 355 #[s0, s1, s2, s3, s4, s5, s6, s7, s8, .val (.ref a1), .val (.int (1 : Int32)), s11, s12, s13, .val (.int by1), s15, .val (.int gy), .val (.int sm), s18, s19, s20, s21] [(.int (gy + (1 : Int32)))])) _
    refine XS.iload X1.here hx rfl (hb hby at_355) rfl ?_
    show Steps p.tables e below (T1.setTop (mkF m 357 #[s0, s1, s2, s3, s4, s5, s6, s7, s8, .val (.ref a1), .val (.int (1 : Int32)), s11, s12, s13, .val (.int by1), s15, .val (.int gy), .val (.int sm), s18, s19, s20, s21] [(.int gy), (.int (gy + (1 : Int32)))])) _
    refine XS.iconst X1.here hx rfl (hb hby at_357) ?_
    show Steps p.tables e below (T1.setTop (mkF m 358 #[s0, s1, s2, s3, s4, s5, s6, s7, s8, .val (.ref a1), .val (.int (1 : Int32)), s11, s12, s13, .val (.int by1), s15, .val (.int gy), .val (.int sm), s18, s19, s20, s21] [(.int (1 : Int32)), (.int gy), (.int (gy + (1 : Int32)))])) _
    refine XS.iadd X1.here hx rfl (hb hby at_358) rfl ?_
    show Steps p.tables e below (T1.setTop (mkF m 359 #[s0, s1, s2, s3, s4, s5, s6, s7, s8, .val (.ref a1), .val (.int (1 : Int32)), s11, s12, s13, .val (.int by1), s15, .val (.int gy), .val (.int sm), s18, s19, s20, s21] [(.int (gy + (1 : Int32))), (.int (gy + (1 : Int32)))])) _
    refine XS.icmpNo X1.here hx rfl (hb hby at_359) rfl (teq (rfl : (gy + (1 : Int32)) = (gy + (1 : Int32)))).2 ?_
    show Steps p.tables e below (T1.setTop (mkF m 362 #[s0, s1, s2, s3, s4, s5, s6, s7, s8, .val (.ref a1), .val (.int (1 : Int32)), s11, s12, s13, .val (.int by1), s15, .val (.int gy), .val (.int sm), s18, s19, s20, s21] [])) _
    refine XS.iconst X1.here hx rfl (hb hby at_362) ?_
    show Steps p.tables e below (T1.setTop (mkF m 363 #[s0, s1, s2, s3, s4, s5, s6, s7, s8, .val (.ref a1), .val (.int (1 : Int32)), s11, s12, s13, .val (.int by1), s15, .val (.int gy), .val (.int sm), s18, s19, s20, s21] [(.int (1 : Int32))])) _
    refine XS.goto X1.here hx rfl (pc0 := 363) (pc' := 367) rfl (hb hby at_363) (by decide) (by decide) ?_
    show Steps p.tables e below (T1.setTop (mkF m 367 #[s0, s1, s2, s3, s4, s5, s6, s7, s8, .val (.ref a1), .val (.int (1 : Int32)), s11, s12, s13, .val (.int by1), s15, .val (.int gy), .val (.int sm), s18, s19, s20, s21] [(.int (1 : Int32))])) _
    refine XS.istore X1.here hx rfl (hb hby at_367) rfl (l' := #[s0, s1, s2, s3, s4, s5, s6, s7, s8, .val (.ref a1), .val (.int (1 : Int32)), s11, s12, s13, .val (.int by1), s15, .val (.int gy), .val (.int sm), s18, s19, s20, s21]) rfl ?_
    show Steps p.tables e below (T1.setTop (mkF m 369 #[s0, s1, s2, s3, s4, s5, s6, s7, s8, .val (.ref a1), .val (.int (1 : Int32)), s11, s12, s13, .val (.int by1), s15, .val (.int gy), .val (.int sm), s18, s19, s20, s21] [])) _
    exact kt
  ·
    refine ⟨T0, [], (List.append_nil locs).symm ▸ X0, Fr.nil n0, e0, fun target kt => ?_⟩
    show Steps p.tables e below (T0.setTop (mkF m 338 #[s0, s1, s2, s3, s4, s5, s6, s7, s8, .val (.ref a1), .val (.int (1 : Int32)), s11, s12, s13, .val (.int by1), s15, .val (.int gy), .val (.int sm), s18, s19, s20, s21] [])) _
    refine XS.iload X0.here hx rfl (hb hby at_338) rfl ?_
    show Steps p.tables e below (T0.setTop (mkF m 340 #[s0, s1, s2, s3, s4, s5, s6, s7, s8, .val (.ref a1), .val (.int (1 : Int32)), s11, s12, s13, .val (.int by1), s15, .val (.int gy), .val (.int sm), s18, s19, s20, s21] [(.int (1 : Int32))])) _
    refine XS.ifNo X0.here hx rfl (hb hby at_340) rfl ((if0 _ _).trans (feq (by decide : ¬ (1 : Int32) = (0 : Int32))).1) ?_
    show Steps p.tables e below (T0.setTop (mkF m 343 #[s0, s1, s2, s3, s4, s5, s6, s7, s8, .val (.ref a1), .val (.int (1 : Int32)), s11, s12, s13, .val (.int by1), s15, .val (.int gy), .val (.int sm), s18, s19, s20, s21] [])) _
    refine XS.iload X0.here hx rfl (hb hby at_343) rfl ?_
    show Steps p.tables e below (T0.setTop (mkF m 345 #[s0, s1, s2, s3, s4, s5, s6, s7, s8, .val (.ref a1), .val (.int (1 : Int32)), s11, s12, s13, .val (.int by1), s15, .val (.int gy), .val (.int sm), s18, s19, s20, s21] [(.int sm)])) _
    refine XS.ifYes X0.here hx rfl (pc0 := 345) (pc' := 369) rfl (hb hby at_345) rfl ((if0 _ _).trans (feq hc345).2) (by decide) (by decide) ?_
    show Steps p.tables e below (T0.setTop (mkF m 369 #[s0, s1, s2, s3, s4, s5, s6, s7, s8, .val (.ref a1), .val (.int (1 : Int32)), s11, s12, s13, .val (.int by1), s15, .val (.int gy), .val (.int sm), s18, s19, s20, s21] [])) _
    exact kt
set_option maxRecDepth 65536 in
set_option maxHeartbeats 40000000 in
theorem sg_503 {p : Program} {l : Launch} {e : Env} {R : Room} {s : State} {m : MethodId} {args : Array Value} {below : List Frame} {meth : Method} {c : Code} {T0 : State} {locs : List Loc} {cells slots : Nat} {Z : State} {a0 : Array Value}  (s0 : Slot) (s1 : Slot) (s2 : Slot) (s3 : Slot) (s4 : Slot) (s5 : Slot) (s6 : Slot) (yy : Int32) (e1 : Addr) (s9 : Slot) (s11 : Slot) (s12 : Slot) (s13 : Slot) (s14 : Slot) (s15 : Slot) (gy : Int32) (sm : Int32) (ds : Int32) (s19 : Slot) (s20 : Slot) (v0 : Slot) (hv0 : v0 = (if ds = (0 : Int32) then (.unset) else (if sm = (0 : Int32) then (.val (.int (gy + (0 : Int32)))) else (.val (.int (gy + (1 : Int32)))))))
    (X0 : Stand p l e R s m args below meth c T0 locs cells slots) (hx : p.tables.exec = Jvm.exec) (hZ : Z.Warmed39 s.vm) (hw : ∀ d ∈ tables_1, d.before a0 Z = true) (hby : c.code = code) (hown : s.vm.findClass "com/example/yealm/yealm/equiv/RefinablePartitionMarkPinLaw" = some m.cls) (h0 : Heap) (e0 : T0.heap = h0) (cl : Cell) (li : List Int32) (Ar : Arr Z h0 e1 cl .int) (Sz : cl.slots.size = (4 : Int32).toNatClampNeg) (Hs : Has cl (li.map Value.int) (.int (0 : Int32))) (hE2 : ¬ ds = (0 : Int32) → own_get 4 li (gy + (if sm = (0 : Int32) then (0 : Int32) else (1 : Int32))) = some yy) {target : State}
    (kt : Steps p.tables e below (T0.setTop (mkF m 545 #[s0, s1, s2, s3, s4, s5, s6, .val (.int yy), .val (.ref e1), s9, .val (.int (1 : Int32)), s11, s12, s13, s14, s15, .val (.int gy), .val (.int sm), .val (.int ds), s19, s20, v0] [])) target) : Steps p.tables e below (T0.setTop (mkF m 503 #[s0, s1, s2, s3, s4, s5, s6, .val (.int yy), .val (.ref e1), s9, .val (.int (1 : Int32)), s11, s12, s13, s14, s15, .val (.int gy), .val (.int sm), .val (.int ds), s19, s20, .unset] [])) target := by
  by_cases hc505 : ds = (0 : Int32)
  ·
    simp only [if_pos hc505] at hv0
    rw [hv0] at kt
    show Steps p.tables e below (T0.setTop (mkF m 503 #[s0, s1, s2, s3, s4, s5, s6, .val (.int yy), .val (.ref e1), s9, .val (.int (1 : Int32)), s11, s12, s13, s14, s15, .val (.int gy), .val (.int sm), .val (.int ds), s19, s20, .unset] [])) _
    refine XS.iload X0.here hx rfl (hb hby at_503) rfl ?_
    show Steps p.tables e below (T0.setTop (mkF m 505 #[s0, s1, s2, s3, s4, s5, s6, .val (.int yy), .val (.ref e1), s9, .val (.int (1 : Int32)), s11, s12, s13, s14, s15, .val (.int gy), .val (.int sm), .val (.int ds), s19, s20, .unset] [(.int ds)])) _
    refine XS.ifYes X0.here hx rfl (pc0 := 505) (pc' := 545) rfl (hb hby at_505) rfl ((if0 _ _).trans (teq hc505).1) (by decide) (by decide) ?_
    show Steps p.tables e below (T0.setTop (mkF m 545 #[s0, s1, s2, s3, s4, s5, s6, .val (.int yy), .val (.ref e1), s9, .val (.int (1 : Int32)), s11, s12, s13, s14, s15, .val (.int gy), .val (.int sm), .val (.int ds), s19, s20, .unset] [])) _
    exact kt
  ·
    by_cases hc512 : sm = (0 : Int32)
    ·
      simp only [if_neg hc505, if_pos hc512] at hv0
      rw [hv0] at kt
      show Steps p.tables e below (T0.setTop (mkF m 503 #[s0, s1, s2, s3, s4, s5, s6, .val (.int yy), .val (.ref e1), s9, .val (.int (1 : Int32)), s11, s12, s13, s14, s15, .val (.int gy), .val (.int sm), .val (.int ds), s19, s20, .unset] [])) _
      refine XS.iload X0.here hx rfl (hb hby at_503) rfl ?_
      show Steps p.tables e below (T0.setTop (mkF m 505 #[s0, s1, s2, s3, s4, s5, s6, .val (.int yy), .val (.ref e1), s9, .val (.int (1 : Int32)), s11, s12, s13, s14, s15, .val (.int gy), .val (.int sm), .val (.int ds), s19, s20, .unset] [(.int ds)])) _
      refine XS.ifNo X0.here hx rfl (hb hby at_505) rfl ((if0 _ _).trans (feq hc505).1) ?_
      show Steps p.tables e below (T0.setTop (mkF m 508 #[s0, s1, s2, s3, s4, s5, s6, .val (.int yy), .val (.ref e1), s9, .val (.int (1 : Int32)), s11, s12, s13, s14, s15, .val (.int gy), .val (.int sm), .val (.int ds), s19, s20, .unset] [])) _
      refine XS.iload X0.here hx rfl (hb hby at_508) rfl ?_
      show Steps p.tables e below (T0.setTop (mkF m 510 #[s0, s1, s2, s3, s4, s5, s6, .val (.int yy), .val (.ref e1), s9, .val (.int (1 : Int32)), s11, s12, s13, s14, s15, .val (.int gy), .val (.int sm), .val (.int ds), s19, s20, .unset] [(.int gy)])) _
      refine XS.iload X0.here hx rfl (hb hby at_510) rfl ?_
      show Steps p.tables e below (T0.setTop (mkF m 512 #[s0, s1, s2, s3, s4, s5, s6, .val (.int yy), .val (.ref e1), s9, .val (.int (1 : Int32)), s11, s12, s13, s14, s15, .val (.int gy), .val (.int sm), .val (.int ds), s19, s20, .unset] [(.int sm), (.int gy)])) _
      refine XS.ifYes X0.here hx rfl (pc0 := 512) (pc' := 519) rfl (hb hby at_512) rfl ((if0 _ _).trans (teq hc512).1) (by decide) (by decide) ?_
      show Steps p.tables e below (T0.setTop (mkF m 519 #[s0, s1, s2, s3, s4, s5, s6, .val (.int yy), .val (.ref e1), s9, .val (.int (1 : Int32)), s11, s12, s13, s14, s15, .val (.int gy), .val (.int sm), .val (.int ds), s19, s20, .unset] [(.int gy)])) _
      refine XS.iconst X0.here hx rfl (hb hby at_519) ?_
      show Steps p.tables e below (T0.setTop (mkF m 520 #[s0, s1, s2, s3, s4, s5, s6, .val (.int yy), .val (.ref e1), s9, .val (.int (1 : Int32)), s11, s12, s13, s14, s15, .val (.int gy), .val (.int sm), .val (.int ds), s19, s20, .unset] [(.int (0 : Int32)), (.int gy)])) _
      refine XS.iadd X0.here hx rfl (hb hby at_520) rfl ?_
      show Steps p.tables e below (T0.setTop (mkF m 521 #[s0, s1, s2, s3, s4, s5, s6, .val (.int yy), .val (.ref e1), s9, .val (.int (1 : Int32)), s11, s12, s13, s14, s15, .val (.int gy), .val (.int sm), .val (.int ds), s19, s20, .unset] [(.int (gy + (0 : Int32)))])) _
      refine XS.istore X0.here hx rfl (hb hby at_521) rfl (l' := #[s0, s1, s2, s3, s4, s5, s6, .val (.int yy), .val (.ref e1), s9, .val (.int (1 : Int32)), s11, s12, s13, s14, s15, .val (.int gy), .val (.int sm), .val (.int ds), s19, s20, .val (.int (gy + (0 : Int32)))]) rfl ?_
      show Steps p.tables e below (T0.setTop (mkF m 523 #[s0, s1, s2, s3, s4, s5, s6, .val (.int yy), .val (.ref e1), s9, .val (.int (1 : Int32)), s11, s12, s13, s14, s15, .val (.int gy), .val (.int sm), .val (.int ds), s19, s20, .val (.int (gy + (0 : Int32)))] [])) _
      refine XS.iload X0.here hx rfl (hb hby at_523) rfl ?_
      show Steps p.tables e below (T0.setTop (mkF m 525 #[s0, s1, s2, s3, s4, s5, s6, .val (.int yy), .val (.ref e1), s9, .val (.int (1 : Int32)), s11, s12, s13, s14, s15, .val (.int gy), .val (.int sm), .val (.int ds), s19, s20, .val (.int (gy + (0 : Int32)))] [(.int (1 : Int32))])) _
      refine XS.ifNo X0.here hx rfl (hb hby at_525) rfl ((if0 _ _).trans (feq (by decide : ¬ (1 : Int32) = (0 : Int32))).1) ?_
      show Steps p.tables e below (T0.setTop (mkF m 528 #[s0, s1, s2, s3, s4, s5, s6, .val (.int yy), .val (.ref e1), s9, .val (.int (1 : Int32)), s11, s12, s13, s14, s15, .val (.int gy), .val (.int sm), .val (.int ds), s19, s20, .val (.int (gy + (0 : Int32)))] [])) _
      refine XS.aload X0.here hx rfl (hb hby at_528) rfl rfl ?_
      show Steps p.tables e below (T0.setTop (mkF m 530 #[s0, s1, s2, s3, s4, s5, s6, .val (.int yy), .val (.ref e1), s9, .val (.int (1 : Int32)), s11, s12, s13, s14, s15, .val (.int gy), .val (.int sm), .val (.int ds), s19, s20, .val (.int (gy + (0 : Int32)))] [(.ref e1)])) _
      refine XS.iload X0.here hx rfl (hb hby at_530) rfl ?_
      show Steps p.tables e below (T0.setTop (mkF m 532 #[s0, s1, s2, s3, s4, s5, s6, .val (.int yy), .val (.ref e1), s9, .val (.int (1 : Int32)), s11, s12, s13, s14, s15, .val (.int gy), .val (.int sm), .val (.int ds), s19, s20, .val (.int (gy + (0 : Int32)))] [(.int (gy + (0 : Int32))), (.ref e1)])) _
      refine X0.iaload hx (j := (gy + (0 : Int32))) (v := (.int yy)) (by rw [e0]; exact Ar.1) (State.isArrayOf_alike hZ.alike Ar.2.1) Ar.2.2 (inb_of Sz (own_ps1 hE2 hc505 hc512).1) (Has.at Hs (inb_of Sz (own_ps1 hE2 hc505 hc512).1) (own_getD (own_ps1 hE2 hc505 hc512).2)) (g := (mkF m 532 #[s0, s1, s2, s3, s4, s5, s6, .val (.int yy), .val (.ref e1), s9, .val (.int (1 : Int32)), s11, s12, s13, s14, s15, .val (.int gy), .val (.int sm), .val (.int ds), s19, s20, .val (.int (gy + (0 : Int32)))] [(.int (gy + (0 : Int32))), (.ref e1)])) rfl rfl (hb hby at_532) _ ?_
      show Steps p.tables e below (T0.setTop (mkF m 533 #[s0, s1, s2, s3, s4, s5, s6, .val (.int yy), .val (.ref e1), s9, .val (.int (1 : Int32)), s11, s12, s13, s14, s15, .val (.int gy), .val (.int sm), .val (.int ds), s19, s20, .val (.int (gy + (0 : Int32)))] [(.int yy)])) _
      refine XS.iload X0.here hx rfl (hb hby at_533) rfl ?_
      show Steps p.tables e below (T0.setTop (mkF m 535 #[s0, s1, s2, s3, s4, s5, s6, .val (.int yy), .val (.ref e1), s9, .val (.int (1 : Int32)), s11, s12, s13, s14, s15, .val (.int gy), .val (.int sm), .val (.int ds), s19, s20, .val (.int (gy + (0 : Int32)))] [(.int yy), (.int yy)])) _
      refine XS.icmpNo X0.here hx rfl (hb hby at_535) rfl (teq (rfl : yy = yy)).2 ?_
      show Steps p.tables e below (T0.setTop (mkF m 538 #[s0, s1, s2, s3, s4, s5, s6, .val (.int yy), .val (.ref e1), s9, .val (.int (1 : Int32)), s11, s12, s13, s14, s15, .val (.int gy), .val (.int sm), .val (.int ds), s19, s20, .val (.int (gy + (0 : Int32)))] [])) _
      refine XS.iconst X0.here hx rfl (hb hby at_538) ?_
      show Steps p.tables e below (T0.setTop (mkF m 539 #[s0, s1, s2, s3, s4, s5, s6, .val (.int yy), .val (.ref e1), s9, .val (.int (1 : Int32)), s11, s12, s13, s14, s15, .val (.int gy), .val (.int sm), .val (.int ds), s19, s20, .val (.int (gy + (0 : Int32)))] [(.int (1 : Int32))])) _
      refine XS.goto X0.here hx rfl (pc0 := 539) (pc' := 543) rfl (hb hby at_539) (by decide) (by decide) ?_
      show Steps p.tables e below (T0.setTop (mkF m 543 #[s0, s1, s2, s3, s4, s5, s6, .val (.int yy), .val (.ref e1), s9, .val (.int (1 : Int32)), s11, s12, s13, s14, s15, .val (.int gy), .val (.int sm), .val (.int ds), s19, s20, .val (.int (gy + (0 : Int32)))] [(.int (1 : Int32))])) _
      refine XS.istore X0.here hx rfl (hb hby at_543) rfl (l' := #[s0, s1, s2, s3, s4, s5, s6, .val (.int yy), .val (.ref e1), s9, .val (.int (1 : Int32)), s11, s12, s13, s14, s15, .val (.int gy), .val (.int sm), .val (.int ds), s19, s20, .val (.int (gy + (0 : Int32)))]) rfl ?_
      show Steps p.tables e below (T0.setTop (mkF m 545 #[s0, s1, s2, s3, s4, s5, s6, .val (.int yy), .val (.ref e1), s9, .val (.int (1 : Int32)), s11, s12, s13, s14, s15, .val (.int gy), .val (.int sm), .val (.int ds), s19, s20, .val (.int (gy + (0 : Int32)))] [])) _
      exact kt
    ·
      simp only [if_neg hc505, if_neg hc512] at hv0
      rw [hv0] at kt
      show Steps p.tables e below (T0.setTop (mkF m 503 #[s0, s1, s2, s3, s4, s5, s6, .val (.int yy), .val (.ref e1), s9, .val (.int (1 : Int32)), s11, s12, s13, s14, s15, .val (.int gy), .val (.int sm), .val (.int ds), s19, s20, .unset] [])) _
      refine XS.iload X0.here hx rfl (hb hby at_503) rfl ?_
      show Steps p.tables e below (T0.setTop (mkF m 505 #[s0, s1, s2, s3, s4, s5, s6, .val (.int yy), .val (.ref e1), s9, .val (.int (1 : Int32)), s11, s12, s13, s14, s15, .val (.int gy), .val (.int sm), .val (.int ds), s19, s20, .unset] [(.int ds)])) _
      refine XS.ifNo X0.here hx rfl (hb hby at_505) rfl ((if0 _ _).trans (feq hc505).1) ?_
      show Steps p.tables e below (T0.setTop (mkF m 508 #[s0, s1, s2, s3, s4, s5, s6, .val (.int yy), .val (.ref e1), s9, .val (.int (1 : Int32)), s11, s12, s13, s14, s15, .val (.int gy), .val (.int sm), .val (.int ds), s19, s20, .unset] [])) _
      refine XS.iload X0.here hx rfl (hb hby at_508) rfl ?_
      show Steps p.tables e below (T0.setTop (mkF m 510 #[s0, s1, s2, s3, s4, s5, s6, .val (.int yy), .val (.ref e1), s9, .val (.int (1 : Int32)), s11, s12, s13, s14, s15, .val (.int gy), .val (.int sm), .val (.int ds), s19, s20, .unset] [(.int gy)])) _
      refine XS.iload X0.here hx rfl (hb hby at_510) rfl ?_
      show Steps p.tables e below (T0.setTop (mkF m 512 #[s0, s1, s2, s3, s4, s5, s6, .val (.int yy), .val (.ref e1), s9, .val (.int (1 : Int32)), s11, s12, s13, s14, s15, .val (.int gy), .val (.int sm), .val (.int ds), s19, s20, .unset] [(.int sm), (.int gy)])) _
      refine XS.ifNo X0.here hx rfl (hb hby at_512) rfl ((if0 _ _).trans (feq hc512).1) ?_
      show Steps p.tables e below (T0.setTop (mkF m 515 #[s0, s1, s2, s3, s4, s5, s6, .val (.int yy), .val (.ref e1), s9, .val (.int (1 : Int32)), s11, s12, s13, s14, s15, .val (.int gy), .val (.int sm), .val (.int ds), s19, s20, .unset] [(.int gy)])) _
      refine XS.iconst X0.here hx rfl (hb hby at_515) ?_
      show Steps p.tables e below (T0.setTop (mkF m 516 #[s0, s1, s2, s3, s4, s5, s6, .val (.int yy), .val (.ref e1), s9, .val (.int (1 : Int32)), s11, s12, s13, s14, s15, .val (.int gy), .val (.int sm), .val (.int ds), s19, s20, .unset] [(.int (1 : Int32)), (.int gy)])) _
      refine XS.goto X0.here hx rfl (pc0 := 516) (pc' := 520) rfl (hb hby at_516) (by decide) (by decide) ?_
      show Steps p.tables e below (T0.setTop (mkF m 520 #[s0, s1, s2, s3, s4, s5, s6, .val (.int yy), .val (.ref e1), s9, .val (.int (1 : Int32)), s11, s12, s13, s14, s15, .val (.int gy), .val (.int sm), .val (.int ds), s19, s20, .unset] [(.int (1 : Int32)), (.int gy)])) _
      refine XS.iadd X0.here hx rfl (hb hby at_520) rfl ?_
      show Steps p.tables e below (T0.setTop (mkF m 521 #[s0, s1, s2, s3, s4, s5, s6, .val (.int yy), .val (.ref e1), s9, .val (.int (1 : Int32)), s11, s12, s13, s14, s15, .val (.int gy), .val (.int sm), .val (.int ds), s19, s20, .unset] [(.int (gy + (1 : Int32)))])) _
      refine XS.istore X0.here hx rfl (hb hby at_521) rfl (l' := #[s0, s1, s2, s3, s4, s5, s6, .val (.int yy), .val (.ref e1), s9, .val (.int (1 : Int32)), s11, s12, s13, s14, s15, .val (.int gy), .val (.int sm), .val (.int ds), s19, s20, .val (.int (gy + (1 : Int32)))]) rfl ?_
      show Steps p.tables e below (T0.setTop (mkF m 523 #[s0, s1, s2, s3, s4, s5, s6, .val (.int yy), .val (.ref e1), s9, .val (.int (1 : Int32)), s11, s12, s13, s14, s15, .val (.int gy), .val (.int sm), .val (.int ds), s19, s20, .val (.int (gy + (1 : Int32)))] [])) _
      refine XS.iload X0.here hx rfl (hb hby at_523) rfl ?_
      show Steps p.tables e below (T0.setTop (mkF m 525 #[s0, s1, s2, s3, s4, s5, s6, .val (.int yy), .val (.ref e1), s9, .val (.int (1 : Int32)), s11, s12, s13, s14, s15, .val (.int gy), .val (.int sm), .val (.int ds), s19, s20, .val (.int (gy + (1 : Int32)))] [(.int (1 : Int32))])) _
      refine XS.ifNo X0.here hx rfl (hb hby at_525) rfl ((if0 _ _).trans (feq (by decide : ¬ (1 : Int32) = (0 : Int32))).1) ?_
      show Steps p.tables e below (T0.setTop (mkF m 528 #[s0, s1, s2, s3, s4, s5, s6, .val (.int yy), .val (.ref e1), s9, .val (.int (1 : Int32)), s11, s12, s13, s14, s15, .val (.int gy), .val (.int sm), .val (.int ds), s19, s20, .val (.int (gy + (1 : Int32)))] [])) _
      refine XS.aload X0.here hx rfl (hb hby at_528) rfl rfl ?_
      show Steps p.tables e below (T0.setTop (mkF m 530 #[s0, s1, s2, s3, s4, s5, s6, .val (.int yy), .val (.ref e1), s9, .val (.int (1 : Int32)), s11, s12, s13, s14, s15, .val (.int gy), .val (.int sm), .val (.int ds), s19, s20, .val (.int (gy + (1 : Int32)))] [(.ref e1)])) _
      refine XS.iload X0.here hx rfl (hb hby at_530) rfl ?_
      show Steps p.tables e below (T0.setTop (mkF m 532 #[s0, s1, s2, s3, s4, s5, s6, .val (.int yy), .val (.ref e1), s9, .val (.int (1 : Int32)), s11, s12, s13, s14, s15, .val (.int gy), .val (.int sm), .val (.int ds), s19, s20, .val (.int (gy + (1 : Int32)))] [(.int (gy + (1 : Int32))), (.ref e1)])) _
      refine X0.iaload hx (j := (gy + (1 : Int32))) (v := (.int yy)) (by rw [e0]; exact Ar.1) (State.isArrayOf_alike hZ.alike Ar.2.1) Ar.2.2 (inb_of Sz (own_ps2 hE2 hc505 hc512).1) (Has.at Hs (inb_of Sz (own_ps2 hE2 hc505 hc512).1) (own_getD (own_ps2 hE2 hc505 hc512).2)) (g := (mkF m 532 #[s0, s1, s2, s3, s4, s5, s6, .val (.int yy), .val (.ref e1), s9, .val (.int (1 : Int32)), s11, s12, s13, s14, s15, .val (.int gy), .val (.int sm), .val (.int ds), s19, s20, .val (.int (gy + (1 : Int32)))] [(.int (gy + (1 : Int32))), (.ref e1)])) rfl rfl (hb hby at_532) _ ?_
      show Steps p.tables e below (T0.setTop (mkF m 533 #[s0, s1, s2, s3, s4, s5, s6, .val (.int yy), .val (.ref e1), s9, .val (.int (1 : Int32)), s11, s12, s13, s14, s15, .val (.int gy), .val (.int sm), .val (.int ds), s19, s20, .val (.int (gy + (1 : Int32)))] [(.int yy)])) _
      refine XS.iload X0.here hx rfl (hb hby at_533) rfl ?_
      show Steps p.tables e below (T0.setTop (mkF m 535 #[s0, s1, s2, s3, s4, s5, s6, .val (.int yy), .val (.ref e1), s9, .val (.int (1 : Int32)), s11, s12, s13, s14, s15, .val (.int gy), .val (.int sm), .val (.int ds), s19, s20, .val (.int (gy + (1 : Int32)))] [(.int yy), (.int yy)])) _
      refine XS.icmpNo X0.here hx rfl (hb hby at_535) rfl (teq (rfl : yy = yy)).2 ?_
      show Steps p.tables e below (T0.setTop (mkF m 538 #[s0, s1, s2, s3, s4, s5, s6, .val (.int yy), .val (.ref e1), s9, .val (.int (1 : Int32)), s11, s12, s13, s14, s15, .val (.int gy), .val (.int sm), .val (.int ds), s19, s20, .val (.int (gy + (1 : Int32)))] [])) _
      refine XS.iconst X0.here hx rfl (hb hby at_538) ?_
      show Steps p.tables e below (T0.setTop (mkF m 539 #[s0, s1, s2, s3, s4, s5, s6, .val (.int yy), .val (.ref e1), s9, .val (.int (1 : Int32)), s11, s12, s13, s14, s15, .val (.int gy), .val (.int sm), .val (.int ds), s19, s20, .val (.int (gy + (1 : Int32)))] [(.int (1 : Int32))])) _
      refine XS.goto X0.here hx rfl (pc0 := 539) (pc' := 543) rfl (hb hby at_539) (by decide) (by decide) ?_
      show Steps p.tables e below (T0.setTop (mkF m 543 #[s0, s1, s2, s3, s4, s5, s6, .val (.int yy), .val (.ref e1), s9, .val (.int (1 : Int32)), s11, s12, s13, s14, s15, .val (.int gy), .val (.int sm), .val (.int ds), s19, s20, .val (.int (gy + (1 : Int32)))] [(.int (1 : Int32))])) _
      refine XS.istore X0.here hx rfl (hb hby at_543) rfl (l' := #[s0, s1, s2, s3, s4, s5, s6, .val (.int yy), .val (.ref e1), s9, .val (.int (1 : Int32)), s11, s12, s13, s14, s15, .val (.int gy), .val (.int sm), .val (.int ds), s19, s20, .val (.int (gy + (1 : Int32)))]) rfl ?_
      show Steps p.tables e below (T0.setTop (mkF m 545 #[s0, s1, s2, s3, s4, s5, s6, .val (.int yy), .val (.ref e1), s9, .val (.int (1 : Int32)), s11, s12, s13, s14, s15, .val (.int gy), .val (.int sm), .val (.int ds), s19, s20, .val (.int (gy + (1 : Int32)))] [])) _
      exact kt
theorem own_A_wr {Z : State} {h h' : Heap} {a b : Addr} {sl : Nat} {v : Value} {n : Int32} {vs : List Int32} (A : own_A Z h b n vs) (W : Wr h h' a sl v) (q : b ≠ a) : own_A Z h' b n vs := by obtain ⟨k, V⟩ := A; exact ⟨k, V.other W q⟩
theorem own_RP_wr {Z : State} {h h' : Heap} {x a bE bP bB bG bN bM bF bT : Addr} {sl : Nat} {v : Value} {n : Int32} {lE lP lB lG lN lM lF lT : List Int32} {bc tc : Int32} (Y : own_RP Z h a bE bP bB bG bN bM bF bT n lE lP lB lG lN lM lF lT bc tc) (W : Wr h h' x sl v) (q : a ≠ x) (qE : bE ≠ x) (qP : bP ≠ x) (qB : bB ≠ x) (qG : bG ≠ x) (qN : bN ≠ x) (qM : bM ≠ x) (qF : bF ≠ x) (qT : bT ≠ x) : own_RP Z h' a bE bP bB bG bN bM bF bT n lE lP lB lG lN lM lF lT bc tc := by
  obtain ⟨e, f1, f2, f3, f4, f5, f6, f7, f8, f9, f10, aE, aP, aB, aG, aN, aM, aF, aT⟩ := Y
  exact ⟨e.wr W, f1.other W (Or.inl q), f2.other W (Or.inl q), f3.other W (Or.inl q), f4.other W (Or.inl q), f5.other W (Or.inl q), f6.other W (Or.inl q), f7.other W (Or.inl q), f8.other W (Or.inl q), f9.other W (Or.inl q), f10.other W (Or.inl q), own_A_wr aE W qE, own_A_wr aP W qP, own_A_wr aB W qB, own_A_wr aG W qG, own_A_wr aN W qN, own_A_wr aM W qM, own_A_wr aF W qF, own_A_wr aT W qT⟩
theorem ef_0 (m : MethodId) (q0 : Int32) (q1 : Int32) (q2 : Int32) (q3 : Int32) : entryFrame m #[(.int q0), (.int q1), (.int q2), (.int q3)] maxLocals = mkF m 0 #[.val (.int q0), .val (.int q1), .val (.int q2), .val (.int q3), .unset, .unset, .unset, .unset, .unset, .unset, .unset, .unset, .unset, .unset, .unset, .unset, .unset, .unset, .unset, .unset, .unset, .unset] [] := by first | (simp [entryFrame, mkF, argsToLocals, Value.category, maxLocals]; done) | rfl
def Q0 (h0 : Heap) (n0 : Nat) (v : Option Value) (h : Heap) (L : List Loc) : Prop := v = some (.int 1) ∧ Fr n0 L
set_option maxRecDepth 65536 in
set_option maxHeartbeats 40000000 in
theorem rm0 (l : Launch) (Z : State) (a0 : Array Value) (hw : ∀ d ∈ tables_1, d.before a0 Z = true) (ws : List Jvm.Cond) (q0 q1 q2 q3 : Int32) (h0 : Heap) (n0 : Nat) (Z0 : n0 ≤ h0.size) :
    MetFree l x (head1 (Jvm.Cond.code x code maxLocals ret :: ws) room_1) (fun a U => a = #[(.int q0), (.int q1), (.int q2), (.int q3)] ∧ Z.Warmed39 U.vm ∧ U.heap = h0) (fun _ _ _ _ _ => True) (fun _ U o U' => ∃ v L, o = .returned v ∧ Q0 h0 n0 v U'.heap L ∧ FrameEnd U o U' L 10 46) := by
  refine MetFree.of_bodySF (plainFor_of_name pn_0) hisR ?_
  intro p e s m args below meth c s₁ Bd hml0 hP hK
  obtain ⟨rfl, hZ, hh⟩ := hP
  have hx := Bd.exec
  have hby := Bd.bytes
  have hml : c.maxLocals = 22 := hml0
  have hown : s.vm.findClass "com/example/yealm/yealm/equiv/RefinablePartitionMarkPinLaw" = some m.cls := findClass_of_methodNamed Bd.named
  have hnm := (name_of_methodNamed Bd.named Bd.method).1
  have X0 : Stand p l e room_1 s m #[(.int q0), (.int q1), (.int q2), (.int q3)] below meth c s₁ [] 0 0 := Stand.of_body Bd
  have e0 : s₁.heap = h0 := by rw [← hh, Bd.state]; rfl
  have N0 := Fr.nil n0
  have pre0 : ∀ tgt, Steps p.tables e below (s₁.setTop (mkF m 0 #[.val (.int q0), .val (.int q1), .val (.int q2), .val (.int q3), .unset, .unset, .unset, .unset, .unset, .unset, .unset, .unset, .unset, .unset, .unset, .unset, .unset, .unset, .unset, .unset, .unset, .unset] [])) tgt → Steps p.tables e below (s₁.setTop (entryFrame m #[(.int q0), (.int q1), (.int q2), (.int q3)] maxLocals)) tgt := fun tgt k => castTop (ef_0 m q0 q1 q2 q3) k
  obtain ⟨nn, hnn⟩ : ∃ z : Int32, z = ((1 : Int32) + (q0 &&& (3 : Int32))) := ⟨_, rfl⟩
  have HN := own_num hnn
  obtain ⟨hn0, hn1, hn5, hn4, hnz⟩ := own_nums HN
  obtain ⟨v0_7, hv0_7⟩ : ∃ z : Int32, z = (if (q1 &&& (1 : Int32)) = (0 : Int32) then (0 : Int32) else (if nn < (2 : Int32) then (0 : Int32) else (1 : Int32))) := ⟨_, rfl⟩
  obtain ⟨xx, hxx⟩ : ∃ z : Int32, z = ((q2 &&& (2147483647 : Int32)) % nn) := ⟨_, rfl⟩
  obtain ⟨yy, hyy⟩ : ∃ z : Int32, z = ((q3 &&& (2147483647 : Int32)) % nn) := ⟨_, rfl⟩
  obtain ⟨rx, ry, lE, lP, lB, lG, lN, lM, lF, lT, bc, tc, RUN, FIN⟩ := own_cfg HN hv0_7 (own_rem HN hxx) (own_rem HN hyy)
  obtain ⟨f1, f2, f3, f4, f5, f6, f7, f8, f9, f10, f11⟩ := FIN
  have RUN' := RUN
  obtain ⟨T1, h1, k1, X1, e1, E1, A1, st1⟩ := newP X0 hx hZ (hw _ (List.mem_of_getElem? (i := 1) rfl)) e0 (g := (mkF m 45 #[.val (.int q0), .val (.int q1), .val (.int q2), .val (.int q3), .val (.int nn), .val (.int v0_7), .val (.int xx), .val (.int yy), .unset, .unset, .unset, .unset, .unset, .unset, .unset, .unset, .unset, .unset, .unset, .unset, .unset, .unset] [(.int (4 : Int32))])) rfl (hb hby at_45) rfl (by decide) (cap := 4) (by decide) (by decide) (by decide) (by decide)
  obtain ⟨b1, g1⟩ : ∃ z, z = h0.size := ⟨_, rfl⟩
  rw [← g1] at A1 st1
  have g_b1 : n0 ≤ b1 := Nat.le_trans Z0 (Nat.le_of_eq g1.symm)
  have sz_b1 : h0.size ≤ b1 := Nat.le_trans (Nat.le_refl _) (Nat.le_of_eq g1.symm)
  have V_b1 : Arv Z h1 b1 k1 .int (4 : Int32) [(.int (0 : Int32)), (.int (0 : Int32)), (.int (0 : Int32)), (.int (0 : Int32))] (.int (0 : Int32)) := (Arv.new A1 (by decide)).pad (pad_rep [] (.int (0 : Int32)) 4)
  obtain ⟨T2, h2, X2, e2, E2, A2, D2, -, st2⟩ := newO X1 hx hZ hown (hw _ (List.mem_of_getElem? (i := 2) rfl)) (hw _ (List.mem_of_getElem? (i := 3) rfl)) (hw _ (List.mem_of_getElem? (i := 4) rfl)) e1 (g := (mkF m 49 #[.val (.int q0), .val (.int q1), .val (.int q2), .val (.int q3), .val (.int nn), .val (.int v0_7), .val (.int xx), .val (.int yy), .val (.ref b1), .unset, .unset, .unset, .unset, .unset, .unset, .unset, .unset, .unset, .unset, .unset, .unset, .unset] [])) rfl (hb hby at_49) (by decide) (by decide)
  obtain ⟨b2, g2⟩ : ∃ z, z = h1.size := ⟨_, rfl⟩
  rw [← g2] at A2 D2 st2
  have lt2_b1 : b1 < h1.size := V_b1.lt
  have ne2_b1 : b1 ≠ b2 := Nat.ne_of_lt (Nat.lt_of_lt_of_le lt2_b1 (Nat.le_of_eq g2.symm))
  have g_b2 : n0 ≤ b2 := Nat.le_trans (Nat.le_trans Z0 E1.1) (Nat.le_of_eq g2.symm)
  have sz_b2 : h0.size ≤ b2 := Nat.le_trans (Nat.le_trans (Nat.le_refl _) E1.1) (Nat.le_of_eq g2.symm)
  have E_b2 := A2
  have F_blockCount_b2 : Fld Z h2 b2 "com/example/yealm/yealm/equiv/RefinablePartition" "blockCount" "I" (.int (0 : Int32)) := D2 (Or.inl (hw _ (List.mem_of_getElem? (i := 12) rfl))) (ty := .int) (by decide)
  have F_elements_b2 : Fld Z h2 b2 "com/example/yealm/yealm/equiv/RefinablePartition" "elements" "[I" .null := D2 (Or.inr (hw _ (List.mem_of_getElem? (i := 14) rfl))) (ty := (.array .int)) (by decide)
  have F_positions_b2 : Fld Z h2 b2 "com/example/yealm/yealm/equiv/RefinablePartition" "positions" "[I" .null := D2 (Or.inr (hw _ (List.mem_of_getElem? (i := 16) rfl))) (ty := (.array .int)) (by decide)
  have F_blockOf_b2 : Fld Z h2 b2 "com/example/yealm/yealm/equiv/RefinablePartition" "blockOf" "[I" .null := D2 (Or.inr (hw _ (List.mem_of_getElem? (i := 18) rfl))) (ty := (.array .int)) (by decide)
  have F_blockBegin_b2 : Fld Z h2 b2 "com/example/yealm/yealm/equiv/RefinablePartition" "blockBegin" "[I" .null := D2 (Or.inr (hw _ (List.mem_of_getElem? (i := 20) rfl))) (ty := (.array .int)) (by decide)
  have F_blockEnd_b2 : Fld Z h2 b2 "com/example/yealm/yealm/equiv/RefinablePartition" "blockEnd" "[I" .null := D2 (Or.inr (hw _ (List.mem_of_getElem? (i := 22) rfl))) (ty := (.array .int)) (by decide)
  have F_markedEnd_b2 : Fld Z h2 b2 "com/example/yealm/yealm/equiv/RefinablePartition" "markedEnd" "[I" .null := D2 (Or.inr (hw _ (List.mem_of_getElem? (i := 24) rfl))) (ty := (.array .int)) (by decide)
  have F_splitFrom_b2 : Fld Z h2 b2 "com/example/yealm/yealm/equiv/RefinablePartition" "splitFrom" "[I" .null := D2 (Or.inr (hw _ (List.mem_of_getElem? (i := 26) rfl))) (ty := (.array .int)) (by decide)
  have F_touched_b2 : Fld Z h2 b2 "com/example/yealm/yealm/equiv/RefinablePartition" "touched" "[I" .null := D2 (Or.inr (hw _ (List.mem_of_getElem? (i := 28) rfl))) (ty := (.array .int)) (by decide)
  have F_touchedCount_b2 : Fld Z h2 b2 "com/example/yealm/yealm/equiv/RefinablePartition" "touchedCount" "I" (.int (0 : Int32)) := D2 (Or.inl (hw _ (List.mem_of_getElem? (i := 35) rfl))) (ty := .int) (by decide)
  have lte := (V_b1.ext E2).lt
  obtain ⟨_, _, ⟨T3, L3, k3, n3⟩, -, X3, ⟨Lc3, hQ3, l3, y3, z3⟩, st3⟩ := X2.specialBack hx (y := (⟨"com/example/yealm/yealm/equiv/RefinablePartition", "<init>", "(I)V"⟩ : MethodName)) rfl hown (mvT hZ (hw _ (List.mem_of_getElem? (i := 5) rfl))) (mvT hZ (hw _ (List.mem_of_getElem? (i := 6) rfl))) (mvT hZ (hw _ (List.mem_of_getElem? (i := 7) rfl))) (by decide) (backOf (W := 1) (rm1 l Z a0 hw [] b2 nn (.null) (.null) (.null) (.null) (.null) (.null) (.null) (.null) ((.int (0 : Int32))) h2 n0 (Nat.le_trans (Nat.le_trans Z0 E1.1) E2.1) E_b2 g_b2 F_elements_b2 F_positions_b2 F_blockOf_b2 F_blockBegin_b2 F_blockEnd_b2 F_markedEnd_b2 F_splitFrom_b2 F_touched_b2 F_blockCount_b2 F_touchedCount_b2 hn0 hn1 hn5 hn4) hZ (hw _ (List.mem_of_getElem? (i := 7) rfl)) (hw _ (List.mem_of_getElem? (i := 4) rfl)) (by decide) (by decide)) (g := (mkF m 55 #[.val (.int q0), .val (.int q1), .val (.int q2), .val (.int q3), .val (.int nn), .val (.int v0_7), .val (.int xx), .val (.int yy), .val (.ref b1), .unset, .unset, .unset, .unset, .unset, .unset, .unset, .unset, .unset, .unset, .unset, .unset, .unset] [(.int nn), (.ref b2), (.ref b2)])) rfl (by rw [hml]; rfl) (Steps.refl _) (a := b2) (argsL := [(.int nn)]) (rest := [(.ref b2)]) (lenOf pd_4 rfl) rfl (by show 2 * 0 + _ ≤ _; exact Nat.le_of_eq rfl) (hb hby at_55) (fun _ _ => ⟨rfl, e2, (by decide : 2 + 8 ≤ _), (by decide : 14 + 32 ≤ _)⟩)
  dsimp only [Pt.U, Pt.locs, Pt.cells, Pt.slots] at X3 l3 y3 z3 st3 hQ3
  subst l3 y3 z3
  obtain ⟨rfl, N3q, m3_E, m3_P, m3_B, m3_G, m3_N, m3_M, m3_F, m3_T, K3, DD3, SZ3, RP3⟩ := hQ3
  have N3 := Fr.app N0 N3q
  have Em3 := RP3.1
  obtain ⟨szE3, szP3, szB3, szG3, szN3, szM3, szF3, szT3⟩ := SZ3
  have DD3' := DD3
  obtain ⟨⟨gg_, g_m3_E, g_m3_P, g_m3_B, g_m3_G, g_m3_N, g_m3_M, g_m3_F, g_m3_T⟩, _, _⟩ := DD3'
  have zz5 : n0 ≤ T3.heap.size := (Nat.le_trans (Nat.le_trans (Nat.le_trans Z0 E1.1) E2.1) K3.1)
  obtain ⟨T4, L4, X4, N4, K4, RP4, st4⟩ := pb_63 (.val (.int q0)) (.val (.int q1)) (.val (.int q2)) (.val (.int q3)) (.val (.int nn)) (v0_7) (xx) (yy) (.val (.ref b1)) (b2) (.unset) (.unset) (.unset) (.unset) (.unset) (.unset) (.unset) (.unset) (.unset) m3_E m3_P m3_B m3_G m3_N m3_M m3_F m3_T nn rx ry lE lP lB lG lN lM lF lT bc tc X3 hx hZ hw hby hml hown rfl zz5 N3 RP3 DD3 RUN
  have Em4 := RP4.1
  obtain ⟨_, _, ⟨T6, L6, k6, n6⟩, -, X6, ⟨Lc6, hQ6, l6, y6, z6⟩, st6⟩ := Jvm.LawKit.callS X4 hx (y := (⟨"com/example/yealm/yealm/equiv/RefinablePartitionMarkPinLaw", "blk", "(ZI)I"⟩ : MethodName)) hown (mvT hZ (hw _ (List.mem_of_getElem? (i := 36) rfl))) (mvT hZ (hw _ (List.mem_of_getElem? (i := 37) rfl))) (mvT hZ (hw _ (List.mem_of_getElem? (i := 38) rfl))) (mvT hZ (hw _ (List.mem_of_getElem? (i := 39) rfl))) (by decide) (backOf (W := 0) (rm4 l Z a0 hw [] v0_7 xx T4.heap n0 (Nat.le_trans zz5 K4.1)) hZ (hw _ (List.mem_of_getElem? (i := 39) rfl)) (hw _ (List.mem_of_getElem? (i := 38) rfl)) (by decide) (by decide)) (g := (mkF m 129 #[.val (.int q0), .val (.int q1), .val (.int q2), .val (.int q3), .val (.int nn), .val (.int v0_7), .val (.int xx), .val (.int yy), .val (.ref b1), .val (.ref b2), .val (.int (1 : Int32)), .val (.int rx), .val (.int ry), .unset, .unset, .unset, .unset, .unset, .unset, .unset, .unset, .unset] [(.int xx), (.int v0_7)])) rfl (by rw [hml]; rfl) (argsL := [(.int v0_7), (.int xx)]) (rest := []) (lenOf pd_5 rfl) rfl (by show 2 * 0 + _ ≤ _; exact Nat.le_of_eq rfl) (hb hby at_129) (fun _ _ => ⟨rfl, rfl, (by decide : 10 + 0 ≤ _), (by decide : 46 + 0 ≤ _)⟩)
  dsimp only [Pt.U, Pt.locs, Pt.cells, Pt.slots] at X6 l6 y6 z6 st6 hQ6
  subst l6 y6 z6
  obtain ⟨rfl, N6q, e6⟩ := hQ6
  have N6 := Fr.app N4 N6q
  obtain ⟨_, _, ⟨T7, L7, k7, n7⟩, -, X7, ⟨Lc7, hQ7, l7, y7, z7⟩, st7⟩ := Jvm.LawKit.callS X6 hx (y := (⟨"com/example/yealm/yealm/equiv/RefinablePartitionMarkPinLaw", "blk", "(ZI)I"⟩ : MethodName)) hown (mvT hZ (hw _ (List.mem_of_getElem? (i := 36) rfl))) (mvT hZ (hw _ (List.mem_of_getElem? (i := 37) rfl))) (mvT hZ (hw _ (List.mem_of_getElem? (i := 38) rfl))) (mvT hZ (hw _ (List.mem_of_getElem? (i := 39) rfl))) (by decide) (backOf (W := 0) (rm4 l Z a0 hw [] v0_7 yy T4.heap n0 (Nat.le_trans zz5 K4.1)) hZ (hw _ (List.mem_of_getElem? (i := 39) rfl)) (hw _ (List.mem_of_getElem? (i := 38) rfl)) (by decide) (by decide)) (g := (mkF m 138 #[.val (.int q0), .val (.int q1), .val (.int q2), .val (.int q3), .val (.int nn), .val (.int v0_7), .val (.int xx), .val (.int yy), .val (.ref b1), .val (.ref b2), .val (.int (1 : Int32)), .val (.int rx), .val (.int ry), .val (.int (own_blk v0_7 xx)), .unset, .unset, .unset, .unset, .unset, .unset, .unset, .unset] [(.int yy), (.int v0_7)])) rfl (by rw [hml]; rfl) (argsL := [(.int v0_7), (.int yy)]) (rest := []) (lenOf pd_5 rfl) rfl (by show 2 * 0 + _ ≤ _; exact Nat.le_of_eq rfl) (hb hby at_138) (fun _ _ => ⟨rfl, e6, (by decide : 10 + 0 ≤ _), (by decide : 46 + 0 ≤ _)⟩)
  dsimp only [Pt.U, Pt.locs, Pt.cells, Pt.slots] at X7 l7 y7 z7 st7 hQ7
  subst l7 y7 z7
  obtain ⟨rfl, N7q, e7⟩ := hQ7
  have N7 := Fr.app N6 N7q
  obtain ⟨_, _, ⟨T8, L8, k8, n8⟩, -, X8, ⟨Lc8, hQ8, l8, y8, z8⟩, st8⟩ := Jvm.LawKit.callS X7 hx (y := (⟨"com/example/yealm/yealm/equiv/RefinablePartitionMarkPinLaw", "beg", "(ZI)I"⟩ : MethodName)) hown (mvT hZ (hw _ (List.mem_of_getElem? (i := 40) rfl))) (mvT hZ (hw _ (List.mem_of_getElem? (i := 41) rfl))) (mvT hZ (hw _ (List.mem_of_getElem? (i := 38) rfl))) (mvT hZ (hw _ (List.mem_of_getElem? (i := 42) rfl))) (by decide) (backOf (W := 0) (rm5 l Z a0 hw [] v0_7 (own_blk v0_7 xx) T4.heap n0 (Nat.le_trans zz5 K4.1)) hZ (hw _ (List.mem_of_getElem? (i := 42) rfl)) (hw _ (List.mem_of_getElem? (i := 38) rfl)) (by decide) (by decide)) (g := (mkF m 147 #[.val (.int q0), .val (.int q1), .val (.int q2), .val (.int q3), .val (.int nn), .val (.int v0_7), .val (.int xx), .val (.int yy), .val (.ref b1), .val (.ref b2), .val (.int (1 : Int32)), .val (.int rx), .val (.int ry), .val (.int (own_blk v0_7 xx)), .val (.int (own_blk v0_7 yy)), .unset, .unset, .unset, .unset, .unset, .unset, .unset] [(.int (own_blk v0_7 xx)), (.int v0_7)])) rfl (by rw [hml]; rfl) (argsL := [(.int v0_7), (.int (own_blk v0_7 xx))]) (rest := []) (lenOf pd_5 rfl) rfl (by show 2 * 0 + _ ≤ _; exact Nat.le_of_eq rfl) (hb hby at_147) (fun _ _ => ⟨rfl, e7, (by decide : 10 + 0 ≤ _), (by decide : 46 + 0 ≤ _)⟩)
  dsimp only [Pt.U, Pt.locs, Pt.cells, Pt.slots] at X8 l8 y8 z8 st8 hQ8
  subst l8 y8 z8
  obtain ⟨rfl, N8q, e8⟩ := hQ8
  have N8 := Fr.app N7 N8q
  obtain ⟨_, _, ⟨T9, L9, k9, n9⟩, -, X9, ⟨Lc9, hQ9, l9, y9, z9⟩, st9⟩ := Jvm.LawKit.callS X8 hx (y := (⟨"com/example/yealm/yealm/equiv/RefinablePartitionMarkPinLaw", "beg", "(ZI)I"⟩ : MethodName)) hown (mvT hZ (hw _ (List.mem_of_getElem? (i := 40) rfl))) (mvT hZ (hw _ (List.mem_of_getElem? (i := 41) rfl))) (mvT hZ (hw _ (List.mem_of_getElem? (i := 38) rfl))) (mvT hZ (hw _ (List.mem_of_getElem? (i := 42) rfl))) (by decide) (backOf (W := 0) (rm5 l Z a0 hw [] v0_7 (own_blk v0_7 yy) T4.heap n0 (Nat.le_trans zz5 K4.1)) hZ (hw _ (List.mem_of_getElem? (i := 42) rfl)) (hw _ (List.mem_of_getElem? (i := 38) rfl)) (by decide) (by decide)) (g := (mkF m 156 #[.val (.int q0), .val (.int q1), .val (.int q2), .val (.int q3), .val (.int nn), .val (.int v0_7), .val (.int xx), .val (.int yy), .val (.ref b1), .val (.ref b2), .val (.int (1 : Int32)), .val (.int rx), .val (.int ry), .val (.int (own_blk v0_7 xx)), .val (.int (own_blk v0_7 yy)), .val (.int (own_beg v0_7 (own_blk v0_7 xx))), .unset, .unset, .unset, .unset, .unset, .unset] [(.int (own_blk v0_7 yy)), (.int v0_7)])) rfl (by rw [hml]; rfl) (argsL := [(.int v0_7), (.int (own_blk v0_7 yy))]) (rest := []) (lenOf pd_5 rfl) rfl (by show 2 * 0 + _ ≤ _; exact Nat.le_of_eq rfl) (hb hby at_156) (fun _ _ => ⟨rfl, e8, (by decide : 10 + 0 ≤ _), (by decide : 46 + 0 ≤ _)⟩)
  dsimp only [Pt.U, Pt.locs, Pt.cells, Pt.slots] at X9 l9 y9 z9 st9 hQ9
  subst l9 y9 z9
  obtain ⟨rfl, N9q, e9⟩ := hQ9
  have N9 := Fr.app N8 N9q
  obtain ⟨v0_161, hv0_161⟩ : ∃ z : Int32, z = (if (own_blk v0_7 xx) = (own_blk v0_7 yy) then (1 : Int32) else (0 : Int32)) := ⟨_, rfl⟩
  obtain ⟨v0_175, hv0_175⟩ : ∃ z : Int32, z = (if xx = yy then (0 : Int32) else (1 : Int32)) := ⟨_, rfl⟩
  have hsm : own_sm v0_7 xx yy = v0_161 := hv0_161.symm
  have hds : own_ds xx yy = v0_175 := hv0_175.symm
  rw [hsm] at f3 f5 f6 f7 f11
  rw [hds] at f2 f6 f11
  obtain ⟨cq10, kq10, q10a, q10b, q10c⟩ := isOf hZ e9 Em4
  obtain ⟨_, _, ⟨T10, L10, k10, n10⟩, -, X10, ⟨Lc10, hQ10, l10, y10, z10⟩, st10⟩ := X9.virtualBack hx (y := (⟨"com/example/yealm/yealm/equiv/RefinablePartition", "getTouchedCount", "()I"⟩ : MethodName)) (z := (⟨"com/example/yealm/yealm/equiv/RefinablePartition", "getTouchedCount", "()I"⟩ : MethodName)) hown (mvT hZ (hw _ (List.mem_of_getElem? (i := 43) rfl))) (mvT hZ (hw _ (List.mem_of_getElem? (i := 44) rfl))) (notFace_of_selects (args := #[]) (mvT hZ (hw _ (List.mem_of_getElem? (i := 46) rfl)))) (mvT hZ (hw _ (List.mem_of_getElem? (i := 46) rfl))) (mvT hZ (hw _ (List.mem_of_getElem? (i := 45) rfl))) (by decide) (backOf (W := 0) (rm6 l Z a0 hw [] b2 m3_E m3_P m3_B m3_G m3_N m3_M m3_F m3_T nn lE lP lB lG lN lM lF lT bc tc T4.heap n0 (Nat.le_trans zz5 K4.1) RP4) hZ (hw _ (List.mem_of_getElem? (i := 47) rfl)) (hw _ (List.mem_of_getElem? (i := 4) rfl)) (by decide) (by decide)) q10a q10c (g := (mkF m 215 #[.val (.int q0), .val (.int q1), .val (.int q2), .val (.int q3), .val (.int nn), .val (.int v0_7), .val (.int xx), .val (.int yy), .val (.ref b1), .val (.ref b2), .val (.int (1 : Int32)), .val (.int rx), .val (.int ry), .val (.int (own_blk v0_7 xx)), .val (.int (own_blk v0_7 yy)), .val (.int (own_beg v0_7 (own_blk v0_7 xx))), .val (.int (own_beg v0_7 (own_blk v0_7 yy))), .val (.int v0_161), .val (.int v0_175), .unset, .unset, .unset] [(.ref b2)])) rfl (by rw [hml]; rfl) (Steps.refl _) (argsL := []) (rest := []) (lenOf pd_6 rfl) rfl (by show 2 * 0 + _ ≤ _; exact Nat.le_of_eq rfl) (hb hby at_215) (fun _ _ => ⟨rfl, e9, (by decide : 10 + 0 ≤ _), (by decide : 46 + 0 ≤ _)⟩)
  dsimp only [Pt.U, Pt.locs, Pt.cells, Pt.slots] at X10 l10 y10 z10 st10 hQ10
  subst l10 y10 z10
  obtain ⟨rfl, N10q, e10⟩ := hQ10
  have N10 := Fr.app N9 N10q
  obtain ⟨v0_227, hv0_227⟩ : ∃ z : Int32, z = (if v0_161 = (0 : Int32) then (2 : Int32) else (1 : Int32)) := ⟨_, rfl⟩
  obtain ⟨cq11, kq11, q11a, q11b, q11c⟩ := isOf hZ e10 Em4
  obtain ⟨_, _, ⟨T11, L11, k11, n11⟩, -, X11, ⟨Lc11, hQ11, l11, y11, z11⟩, st11⟩ := X10.virtualBack hx (y := (⟨"com/example/yealm/yealm/equiv/RefinablePartition", "touched", "(I)I"⟩ : MethodName)) (z := (⟨"com/example/yealm/yealm/equiv/RefinablePartition", "touched", "(I)I"⟩ : MethodName)) hown (mvT hZ (hw _ (List.mem_of_getElem? (i := 48) rfl))) (mvT hZ (hw _ (List.mem_of_getElem? (i := 49) rfl))) (notFace_of_selects (args := #[]) (mvT hZ (hw _ (List.mem_of_getElem? (i := 51) rfl)))) (mvT hZ (hw _ (List.mem_of_getElem? (i := 51) rfl))) (mvT hZ (hw _ (List.mem_of_getElem? (i := 50) rfl))) (by decide) (backOf (W := 0) (rm7 l Z a0 hw [] b2 m3_E m3_P m3_B m3_G m3_N m3_M m3_F m3_T nn lE lP lB lG lN lM lF lT bc tc (0 : Int32) (own_blk v0_7 xx) T4.heap n0 (Nat.le_trans zz5 K4.1) RP4 f4) hZ (hw _ (List.mem_of_getElem? (i := 52) rfl)) (hw _ (List.mem_of_getElem? (i := 4) rfl)) (by decide) (by decide)) q11a q11c (g := (mkF m 255 #[.val (.int q0), .val (.int q1), .val (.int q2), .val (.int q3), .val (.int nn), .val (.int v0_7), .val (.int xx), .val (.int yy), .val (.ref b1), .val (.ref b2), .val (.int (1 : Int32)), .val (.int rx), .val (.int ry), .val (.int (own_blk v0_7 xx)), .val (.int (own_blk v0_7 yy)), .val (.int (own_beg v0_7 (own_blk v0_7 xx))), .val (.int (own_beg v0_7 (own_blk v0_7 yy))), .val (.int v0_161), .val (.int v0_175), .val (.int tc), .unset, .unset] [(.int (0 : Int32)), (.ref b2)])) rfl (by rw [hml]; rfl) (Steps.refl _) (argsL := [(.int (0 : Int32))]) (rest := []) (lenOf pd_0 rfl) rfl (by show 2 * 0 + _ ≤ _; exact Nat.le_of_eq rfl) (hb hby at_255) (fun _ _ => ⟨rfl, e10, (by decide : 10 + 0 ≤ _), (by decide : 46 + 0 ≤ _)⟩)
  dsimp only [Pt.U, Pt.locs, Pt.cells, Pt.slots] at X11 l11 y11 z11 st11 hQ11
  subst l11 y11 z11
  obtain ⟨rfl, N11q, e11⟩ := hQ11
  have N11 := Fr.app N10 N11q
  obtain ⟨T12, L12, X12, N12q, e12, st12⟩ := cs_270 m3_E m3_P m3_B m3_G m3_N m3_M m3_F m3_T nn lE lP lB lG lN lM lF lT bc tc (.val (.int q0)) (.val (.int q1)) (.val (.int q2)) (.val (.int q3)) (.val (.int nn)) (.val (.int v0_7)) (.val (.int xx)) (.val (.int yy)) (.val (.ref b1)) (b2) (.val (.int rx)) (.val (.int ry)) (.val (.int (own_blk v0_7 xx))) ((own_blk v0_7 yy)) (.val (.int (own_beg v0_7 (own_blk v0_7 xx)))) (.val (.int (own_beg v0_7 (own_blk v0_7 yy)))) (v0_161) (.val (.int v0_175)) (.val (.int tc)) (.unset) (.unset) X11 hx hZ hw hby hml hown e11 (Nat.le_trans zz5 K4.1) RP4 f5
  have N12 := Fr.app N11 N12q
  obtain ⟨cq13, kq13, q13a, q13b, q13c⟩ := isOf hZ e12 Em4
  obtain ⟨_, _, ⟨T13, L13, k13, n13⟩, -, X13, ⟨Lc13, hQ13, l13, y13, z13⟩, st13⟩ := X12.virtualBack hx (y := (⟨"com/example/yealm/yealm/equiv/RefinablePartition", "markedEnd", "(I)I"⟩ : MethodName)) (z := (⟨"com/example/yealm/yealm/equiv/RefinablePartition", "markedEnd", "(I)I"⟩ : MethodName)) hown (mvT hZ (hw _ (List.mem_of_getElem? (i := 53) rfl))) (mvT hZ (hw _ (List.mem_of_getElem? (i := 54) rfl))) (notFace_of_selects (args := #[]) (mvT hZ (hw _ (List.mem_of_getElem? (i := 56) rfl)))) (mvT hZ (hw _ (List.mem_of_getElem? (i := 56) rfl))) (mvT hZ (hw _ (List.mem_of_getElem? (i := 55) rfl))) (by decide) (backOf (W := 0) (rm8 l Z a0 hw [] b2 m3_E m3_P m3_B m3_G m3_N m3_M m3_F m3_T nn lE lP lB lG lN lM lF lT bc tc (own_blk v0_7 xx) ((own_beg v0_7 (own_blk v0_7 xx)) + (if v0_161 = (0 : Int32) then (1 : Int32) else if v0_175 = (0 : Int32) then (1 : Int32) else (2 : Int32))) T4.heap n0 (Nat.le_trans zz5 K4.1) RP4 f6) hZ (hw _ (List.mem_of_getElem? (i := 57) rfl)) (hw _ (List.mem_of_getElem? (i := 4) rfl)) (by decide) (by decide)) q13a q13c (g := (mkF m 307 #[.val (.int q0), .val (.int q1), .val (.int q2), .val (.int q3), .val (.int nn), .val (.int v0_7), .val (.int xx), .val (.int yy), .val (.ref b1), .val (.ref b2), .val (.int (1 : Int32)), .val (.int rx), .val (.int ry), .val (.int (own_blk v0_7 xx)), .val (.int (own_blk v0_7 yy)), .val (.int (own_beg v0_7 (own_blk v0_7 xx))), .val (.int (own_beg v0_7 (own_blk v0_7 yy))), .val (.int v0_161), .val (.int v0_175), .val (.int tc), .unset, .unset] [(.int (own_blk v0_7 xx)), (.ref b2)])) rfl (by rw [hml]; rfl) (Steps.refl _) (argsL := [(.int (own_blk v0_7 xx))]) (rest := []) (lenOf pd_0 rfl) rfl (by show 2 * 0 + _ ≤ _; exact Nat.le_of_eq rfl) (hb hby at_307) (fun _ _ => ⟨rfl, e12, (by decide : 10 + 0 ≤ _), (by decide : 46 + 0 ≤ _)⟩)
  dsimp only [Pt.U, Pt.locs, Pt.cells, Pt.slots] at X13 l13 y13 z13 st13 hQ13
  subst l13 y13 z13
  obtain ⟨rfl, N13q, e13⟩ := hQ13
  have N13 := Fr.app N12 N13q
  obtain ⟨v0_312, hv0_312⟩ : ∃ z : Int32, z = (if v0_161 = (0 : Int32) then (1 : Int32) else (if v0_175 = (0 : Int32) then (1 : Int32) else (2 : Int32))) := ⟨_, rfl⟩
  obtain ⟨T14, L14, X14, N14q, e14, st14⟩ := cs_338 m3_E m3_P m3_B m3_G m3_N m3_M m3_F m3_T nn lE lP lB lG lN lM lF lT bc tc (.val (.int q0)) (.val (.int q1)) (.val (.int q2)) (.val (.int q3)) (.val (.int nn)) (.val (.int v0_7)) (.val (.int xx)) (.val (.int yy)) (.val (.ref b1)) (b2) (.val (.int rx)) (.val (.int ry)) (.val (.int (own_blk v0_7 xx))) ((own_blk v0_7 yy)) (.val (.int (own_beg v0_7 (own_blk v0_7 xx)))) ((own_beg v0_7 (own_blk v0_7 yy))) (v0_161) (.val (.int v0_175)) (.val (.int tc)) (.unset) (.unset) X13 hx hZ hw hby hml hown e13 (Nat.le_trans zz5 K4.1) RP4 f7
  have N14 := Fr.app N13 N14q
  obtain ⟨_, _, ⟨T15, L15, k15, n15⟩, -, X15, ⟨Lc15, hQ15, l15, y15, z15⟩, st15⟩ := Jvm.LawKit.callS X14 hx (y := (⟨"com/example/yealm/yealm/equiv/RefinablePartitionMarkPinLaw", "at", "(Lcom/example/yealm/yealm/equiv/RefinablePartition;II)I"⟩ : MethodName)) hown (mvT hZ (hw _ (List.mem_of_getElem? (i := 58) rfl))) (mvT hZ (hw _ (List.mem_of_getElem? (i := 59) rfl))) (mvT hZ (hw _ (List.mem_of_getElem? (i := 38) rfl))) (mvT hZ (hw _ (List.mem_of_getElem? (i := 60) rfl))) (by decide) (backOf (W := 2) (rm9 l Z a0 hw [] b2 m3_E m3_P m3_B m3_G m3_N m3_M m3_F m3_T nn lE lP lB lG lN lM lF lT bc tc (0 : Int32) T4.heap n0 (Nat.le_trans zz5 K4.1) RP4 (by decide) (by rw [f8]; decide)) hZ (hw _ (List.mem_of_getElem? (i := 60) rfl)) (hw _ (List.mem_of_getElem? (i := 38) rfl)) (by decide) (by decide)) (g := (mkF m 377 #[.val (.int q0), .val (.int q1), .val (.int q2), .val (.int q3), .val (.int nn), .val (.int v0_7), .val (.int xx), .val (.int yy), .val (.ref b1), .val (.ref b2), .val (.int (1 : Int32)), .val (.int rx), .val (.int ry), .val (.int (own_blk v0_7 xx)), .val (.int (own_blk v0_7 yy)), .val (.int (own_beg v0_7 (own_blk v0_7 xx))), .val (.int (own_beg v0_7 (own_blk v0_7 yy))), .val (.int v0_161), .val (.int v0_175), .val (.int tc), .unset, .unset] [(.int nn), (.int (0 : Int32)), (.ref b2), (.int (0 : Int32)), (.ref b1)])) rfl (by rw [hml]; rfl) (argsL := [(.ref b2), (.int (0 : Int32)), (.int nn)]) (rest := [(.int (0 : Int32)), (.ref b1)]) (lenOf pd_7 rfl) rfl (by show 2 * 0 + _ ≤ _; exact Nat.le_of_eq rfl) (hb hby at_377) (fun _ _ => ⟨rfl, e14, (by decide : 10 + 0 ≤ _), (by decide : 46 + 0 ≤ _)⟩)
  dsimp only [Pt.U, Pt.locs, Pt.cells, Pt.slots] at X15 l15 y15 z15 st15 hQ15
  subst l15 y15 z15
  obtain ⟨rfl, N15q, e15⟩ := hQ15
  have N15 := Fr.app N14 N15q
  have fx17 := (((V_b1.ext E2).keep K3 (ninS ne2_b1 nin0)).keep K4 (ninS ne2_b1 (ninS (Nat.ne_of_lt (Nat.lt_of_lt_of_le lte szE3)) (ninS (Nat.ne_of_lt (Nat.lt_of_lt_of_le lte szP3)) (ninS (Nat.ne_of_lt (Nat.lt_of_lt_of_le lte szB3)) (ninS (Nat.ne_of_lt (Nat.lt_of_lt_of_le lte szG3)) (ninS (Nat.ne_of_lt (Nat.lt_of_lt_of_le lte szN3)) (ninS (Nat.ne_of_lt (Nat.lt_of_lt_of_le lte szM3)) (ninS (Nat.ne_of_lt (Nat.lt_of_lt_of_le lte szF3)) (ninS (Nat.ne_of_lt (Nat.lt_of_lt_of_le lte szT3)) nin0))))))))))
  have Vo_16 := fx17
  obtain ⟨Cl_16, Ar_16, Kc_16, Sz_16, Nn_16, Hs_16, Gf_16⟩ := Vo_16
  obtain ⟨T18, h18, X18, e18, W18, st18⟩ := stI X15 hx hZ e15 Ar_16 (j := (0 : Int32)) (inb_of Sz_16 ⟨by decide, by decide⟩) (g := (mkF m 380 #[.val (.int q0), .val (.int q1), .val (.int q2), .val (.int q3), .val (.int nn), .val (.int v0_7), .val (.int xx), .val (.int yy), .val (.ref b1), .val (.ref b2), .val (.int (1 : Int32)), .val (.int rx), .val (.int ry), .val (.int (own_blk v0_7 xx)), .val (.int (own_blk v0_7 yy)), .val (.int (own_beg v0_7 (own_blk v0_7 xx))), .val (.int (own_beg v0_7 (own_blk v0_7 yy))), .val (.int v0_161), .val (.int v0_175), .val (.int tc), .unset, .unset] [(.int (own_at nn lE (0 : Int32))), (.int (0 : Int32)), (.ref b1)])) rfl rfl (hb hby at_380)
  have Vs18 : Arv Z h18 b1 k1 .int (4 : Int32) [(.int (own_at nn lE (0 : Int32))), (.int (0 : Int32)), (.int (0 : Int32)), (.int (0 : Int32))] (.int (0 : Int32)) := Arv.set Ar_16 Kc_16 Sz_16 Nn_16 Hs_16 Gf_16 rfl W18 0 rfl (Nat.le_of_ble_eq_true rfl)
  have N18 := Fr.snoc X18 N15 g_b1
  obtain ⟨_, _, ⟨T19, L19, k19, n19⟩, -, X19, ⟨Lc19, hQ19, l19, y19, z19⟩, st19⟩ := Jvm.LawKit.callS X18 hx (y := (⟨"com/example/yealm/yealm/equiv/RefinablePartitionMarkPinLaw", "at", "(Lcom/example/yealm/yealm/equiv/RefinablePartition;II)I"⟩ : MethodName)) hown (mvT hZ (hw _ (List.mem_of_getElem? (i := 58) rfl))) (mvT hZ (hw _ (List.mem_of_getElem? (i := 59) rfl))) (mvT hZ (hw _ (List.mem_of_getElem? (i := 38) rfl))) (mvT hZ (hw _ (List.mem_of_getElem? (i := 60) rfl))) (by decide) (backOf (W := 2) (rm9 l Z a0 hw [] b2 m3_E m3_P m3_B m3_G m3_N m3_M m3_F m3_T nn lE lP lB lG lN lM lF lT bc tc (1 : Int32) h18 n0 (Nat.le_trans (Nat.le_trans zz5 K4.1) (Keep.of_wr W18).1) (own_RP_wr RP4 W18 (Ne.symm ne2_b1) (Ne.symm (Nat.ne_of_lt (Nat.lt_of_lt_of_le lte szE3))) (Ne.symm (Nat.ne_of_lt (Nat.lt_of_lt_of_le lte szP3))) (Ne.symm (Nat.ne_of_lt (Nat.lt_of_lt_of_le lte szB3))) (Ne.symm (Nat.ne_of_lt (Nat.lt_of_lt_of_le lte szG3))) (Ne.symm (Nat.ne_of_lt (Nat.lt_of_lt_of_le lte szN3))) (Ne.symm (Nat.ne_of_lt (Nat.lt_of_lt_of_le lte szM3))) (Ne.symm (Nat.ne_of_lt (Nat.lt_of_lt_of_le lte szF3))) (Ne.symm (Nat.ne_of_lt (Nat.lt_of_lt_of_le lte szT3)))) (by decide) (by rw [f8]; decide)) hZ (hw _ (List.mem_of_getElem? (i := 60) rfl)) (hw _ (List.mem_of_getElem? (i := 38) rfl)) (by decide) (by decide)) (g := (mkF m 389 #[.val (.int q0), .val (.int q1), .val (.int q2), .val (.int q3), .val (.int nn), .val (.int v0_7), .val (.int xx), .val (.int yy), .val (.ref b1), .val (.ref b2), .val (.int (1 : Int32)), .val (.int rx), .val (.int ry), .val (.int (own_blk v0_7 xx)), .val (.int (own_blk v0_7 yy)), .val (.int (own_beg v0_7 (own_blk v0_7 xx))), .val (.int (own_beg v0_7 (own_blk v0_7 yy))), .val (.int v0_161), .val (.int v0_175), .val (.int tc), .unset, .unset] [(.int nn), (.int (1 : Int32)), (.ref b2), (.int (1 : Int32)), (.ref b1)])) rfl (by rw [hml]; rfl) (argsL := [(.ref b2), (.int (1 : Int32)), (.int nn)]) (rest := [(.int (1 : Int32)), (.ref b1)]) (lenOf pd_7 rfl) rfl (by show 2 * 0 + _ ≤ _; exact Nat.le_of_eq rfl) (hb hby at_389) (fun _ _ => ⟨rfl, e18, (by decide : 10 + 0 ≤ _), (by decide : 46 + 0 ≤ _)⟩)
  dsimp only [Pt.U, Pt.locs, Pt.cells, Pt.slots] at X19 l19 y19 z19 st19 hQ19
  subst l19 y19 z19
  obtain ⟨rfl, N19q, e19⟩ := hQ19
  have N19 := Fr.app N18 N19q
  have Vo_20 := Vs18
  obtain ⟨Cl_20, Ar_20, Kc_20, Sz_20, Nn_20, Hs_20, Gf_20⟩ := Vo_20
  obtain ⟨T21, h21, X21, e21, W21, st21⟩ := stI X19 hx hZ e19 Ar_20 (j := (1 : Int32)) (inb_of Sz_20 ⟨by decide, by decide⟩) (g := (mkF m 392 #[.val (.int q0), .val (.int q1), .val (.int q2), .val (.int q3), .val (.int nn), .val (.int v0_7), .val (.int xx), .val (.int yy), .val (.ref b1), .val (.ref b2), .val (.int (1 : Int32)), .val (.int rx), .val (.int ry), .val (.int (own_blk v0_7 xx)), .val (.int (own_blk v0_7 yy)), .val (.int (own_beg v0_7 (own_blk v0_7 xx))), .val (.int (own_beg v0_7 (own_blk v0_7 yy))), .val (.int v0_161), .val (.int v0_175), .val (.int tc), .unset, .unset] [(.int (own_at nn lE (1 : Int32))), (.int (1 : Int32)), (.ref b1)])) rfl rfl (hb hby at_392)
  have Vs21 : Arv Z h21 b1 k1 .int (4 : Int32) [(.int (own_at nn lE (0 : Int32))), (.int (own_at nn lE (1 : Int32))), (.int (0 : Int32)), (.int (0 : Int32))] (.int (0 : Int32)) := Arv.set Ar_20 Kc_20 Sz_20 Nn_20 Hs_20 Gf_20 rfl W21 1 rfl (Nat.le_of_ble_eq_true rfl)
  have N21 := Fr.snoc X21 N19 g_b1
  have zz23 : n0 ≤ h21.size := (Nat.le_trans (Nat.le_trans (Nat.le_trans zz5 K4.1) (Keep.of_wr W18).1) (Keep.of_wr W21).1)
  obtain ⟨_, _, ⟨T22, L22, k22, n22⟩, -, X22, ⟨Lc22, hQ22, l22, y22, z22⟩, st22⟩ := Jvm.LawKit.callS X21 hx (y := (⟨"com/example/yealm/yealm/equiv/RefinablePartitionMarkPinLaw", "at", "(Lcom/example/yealm/yealm/equiv/RefinablePartition;II)I"⟩ : MethodName)) hown (mvT hZ (hw _ (List.mem_of_getElem? (i := 58) rfl))) (mvT hZ (hw _ (List.mem_of_getElem? (i := 59) rfl))) (mvT hZ (hw _ (List.mem_of_getElem? (i := 38) rfl))) (mvT hZ (hw _ (List.mem_of_getElem? (i := 60) rfl))) (by decide) (backOf (W := 2) (rm9 l Z a0 hw [] b2 m3_E m3_P m3_B m3_G m3_N m3_M m3_F m3_T nn lE lP lB lG lN lM lF lT bc tc (2 : Int32) h21 n0 zz23 (own_RP_wr (own_RP_wr RP4 W18 (Ne.symm ne2_b1) (Ne.symm (Nat.ne_of_lt (Nat.lt_of_lt_of_le lte szE3))) (Ne.symm (Nat.ne_of_lt (Nat.lt_of_lt_of_le lte szP3))) (Ne.symm (Nat.ne_of_lt (Nat.lt_of_lt_of_le lte szB3))) (Ne.symm (Nat.ne_of_lt (Nat.lt_of_lt_of_le lte szG3))) (Ne.symm (Nat.ne_of_lt (Nat.lt_of_lt_of_le lte szN3))) (Ne.symm (Nat.ne_of_lt (Nat.lt_of_lt_of_le lte szM3))) (Ne.symm (Nat.ne_of_lt (Nat.lt_of_lt_of_le lte szF3))) (Ne.symm (Nat.ne_of_lt (Nat.lt_of_lt_of_le lte szT3)))) W21 (Ne.symm ne2_b1) (Ne.symm (Nat.ne_of_lt (Nat.lt_of_lt_of_le lte szE3))) (Ne.symm (Nat.ne_of_lt (Nat.lt_of_lt_of_le lte szP3))) (Ne.symm (Nat.ne_of_lt (Nat.lt_of_lt_of_le lte szB3))) (Ne.symm (Nat.ne_of_lt (Nat.lt_of_lt_of_le lte szG3))) (Ne.symm (Nat.ne_of_lt (Nat.lt_of_lt_of_le lte szN3))) (Ne.symm (Nat.ne_of_lt (Nat.lt_of_lt_of_le lte szM3))) (Ne.symm (Nat.ne_of_lt (Nat.lt_of_lt_of_le lte szF3))) (Ne.symm (Nat.ne_of_lt (Nat.lt_of_lt_of_le lte szT3)))) (by decide) (by rw [f8]; decide)) hZ (hw _ (List.mem_of_getElem? (i := 60) rfl)) (hw _ (List.mem_of_getElem? (i := 38) rfl)) (by decide) (by decide)) (g := (mkF m 401 #[.val (.int q0), .val (.int q1), .val (.int q2), .val (.int q3), .val (.int nn), .val (.int v0_7), .val (.int xx), .val (.int yy), .val (.ref b1), .val (.ref b2), .val (.int (1 : Int32)), .val (.int rx), .val (.int ry), .val (.int (own_blk v0_7 xx)), .val (.int (own_blk v0_7 yy)), .val (.int (own_beg v0_7 (own_blk v0_7 xx))), .val (.int (own_beg v0_7 (own_blk v0_7 yy))), .val (.int v0_161), .val (.int v0_175), .val (.int tc), .unset, .unset] [(.int nn), (.int (2 : Int32)), (.ref b2), (.int (2 : Int32)), (.ref b1)])) rfl (by rw [hml]; rfl) (argsL := [(.ref b2), (.int (2 : Int32)), (.int nn)]) (rest := [(.int (2 : Int32)), (.ref b1)]) (lenOf pd_7 rfl) rfl (by show 2 * 0 + _ ≤ _; exact Nat.le_of_eq rfl) (hb hby at_401) (fun _ _ => ⟨rfl, e21, (by decide : 10 + 0 ≤ _), (by decide : 46 + 0 ≤ _)⟩)
  dsimp only [Pt.U, Pt.locs, Pt.cells, Pt.slots] at X22 l22 y22 z22 st22 hQ22
  subst l22 y22 z22
  obtain ⟨rfl, N22q, e22⟩ := hQ22
  have N22 := Fr.app N21 N22q
  have Vo_24 := Vs21
  obtain ⟨Cl_24, Ar_24, Kc_24, Sz_24, Nn_24, Hs_24, Gf_24⟩ := Vo_24
  obtain ⟨T25, h25, X25, e25, W25, st25⟩ := stI X22 hx hZ e22 Ar_24 (j := (2 : Int32)) (inb_of Sz_24 ⟨by decide, by decide⟩) (g := (mkF m 404 #[.val (.int q0), .val (.int q1), .val (.int q2), .val (.int q3), .val (.int nn), .val (.int v0_7), .val (.int xx), .val (.int yy), .val (.ref b1), .val (.ref b2), .val (.int (1 : Int32)), .val (.int rx), .val (.int ry), .val (.int (own_blk v0_7 xx)), .val (.int (own_blk v0_7 yy)), .val (.int (own_beg v0_7 (own_blk v0_7 xx))), .val (.int (own_beg v0_7 (own_blk v0_7 yy))), .val (.int v0_161), .val (.int v0_175), .val (.int tc), .unset, .unset] [(.int (own_at nn lE (2 : Int32))), (.int (2 : Int32)), (.ref b1)])) rfl rfl (hb hby at_404)
  have Vs25 : Arv Z h25 b1 k1 .int (4 : Int32) [(.int (own_at nn lE (0 : Int32))), (.int (own_at nn lE (1 : Int32))), (.int (own_at nn lE (2 : Int32))), (.int (0 : Int32))] (.int (0 : Int32)) := Arv.set Ar_24 Kc_24 Sz_24 Nn_24 Hs_24 Gf_24 rfl W25 2 rfl (Nat.le_of_ble_eq_true rfl)
  have N25 := Fr.snoc X25 N22 g_b1
  obtain ⟨_, _, ⟨T26, L26, k26, n26⟩, -, X26, ⟨Lc26, hQ26, l26, y26, z26⟩, st26⟩ := Jvm.LawKit.callS X25 hx (y := (⟨"com/example/yealm/yealm/equiv/RefinablePartitionMarkPinLaw", "at", "(Lcom/example/yealm/yealm/equiv/RefinablePartition;II)I"⟩ : MethodName)) hown (mvT hZ (hw _ (List.mem_of_getElem? (i := 58) rfl))) (mvT hZ (hw _ (List.mem_of_getElem? (i := 59) rfl))) (mvT hZ (hw _ (List.mem_of_getElem? (i := 38) rfl))) (mvT hZ (hw _ (List.mem_of_getElem? (i := 60) rfl))) (by decide) (backOf (W := 2) (rm9 l Z a0 hw [] b2 m3_E m3_P m3_B m3_G m3_N m3_M m3_F m3_T nn lE lP lB lG lN lM lF lT bc tc (3 : Int32) h25 n0 (Nat.le_trans zz23 (Keep.of_wr W25).1) (own_RP_wr (own_RP_wr (own_RP_wr RP4 W18 (Ne.symm ne2_b1) (Ne.symm (Nat.ne_of_lt (Nat.lt_of_lt_of_le lte szE3))) (Ne.symm (Nat.ne_of_lt (Nat.lt_of_lt_of_le lte szP3))) (Ne.symm (Nat.ne_of_lt (Nat.lt_of_lt_of_le lte szB3))) (Ne.symm (Nat.ne_of_lt (Nat.lt_of_lt_of_le lte szG3))) (Ne.symm (Nat.ne_of_lt (Nat.lt_of_lt_of_le lte szN3))) (Ne.symm (Nat.ne_of_lt (Nat.lt_of_lt_of_le lte szM3))) (Ne.symm (Nat.ne_of_lt (Nat.lt_of_lt_of_le lte szF3))) (Ne.symm (Nat.ne_of_lt (Nat.lt_of_lt_of_le lte szT3)))) W21 (Ne.symm ne2_b1) (Ne.symm (Nat.ne_of_lt (Nat.lt_of_lt_of_le lte szE3))) (Ne.symm (Nat.ne_of_lt (Nat.lt_of_lt_of_le lte szP3))) (Ne.symm (Nat.ne_of_lt (Nat.lt_of_lt_of_le lte szB3))) (Ne.symm (Nat.ne_of_lt (Nat.lt_of_lt_of_le lte szG3))) (Ne.symm (Nat.ne_of_lt (Nat.lt_of_lt_of_le lte szN3))) (Ne.symm (Nat.ne_of_lt (Nat.lt_of_lt_of_le lte szM3))) (Ne.symm (Nat.ne_of_lt (Nat.lt_of_lt_of_le lte szF3))) (Ne.symm (Nat.ne_of_lt (Nat.lt_of_lt_of_le lte szT3)))) W25 (Ne.symm ne2_b1) (Ne.symm (Nat.ne_of_lt (Nat.lt_of_lt_of_le lte szE3))) (Ne.symm (Nat.ne_of_lt (Nat.lt_of_lt_of_le lte szP3))) (Ne.symm (Nat.ne_of_lt (Nat.lt_of_lt_of_le lte szB3))) (Ne.symm (Nat.ne_of_lt (Nat.lt_of_lt_of_le lte szG3))) (Ne.symm (Nat.ne_of_lt (Nat.lt_of_lt_of_le lte szN3))) (Ne.symm (Nat.ne_of_lt (Nat.lt_of_lt_of_le lte szM3))) (Ne.symm (Nat.ne_of_lt (Nat.lt_of_lt_of_le lte szF3))) (Ne.symm (Nat.ne_of_lt (Nat.lt_of_lt_of_le lte szT3)))) (by decide) (by rw [f8]; decide)) hZ (hw _ (List.mem_of_getElem? (i := 60) rfl)) (hw _ (List.mem_of_getElem? (i := 38) rfl)) (by decide) (by decide)) (g := (mkF m 413 #[.val (.int q0), .val (.int q1), .val (.int q2), .val (.int q3), .val (.int nn), .val (.int v0_7), .val (.int xx), .val (.int yy), .val (.ref b1), .val (.ref b2), .val (.int (1 : Int32)), .val (.int rx), .val (.int ry), .val (.int (own_blk v0_7 xx)), .val (.int (own_blk v0_7 yy)), .val (.int (own_beg v0_7 (own_blk v0_7 xx))), .val (.int (own_beg v0_7 (own_blk v0_7 yy))), .val (.int v0_161), .val (.int v0_175), .val (.int tc), .unset, .unset] [(.int nn), (.int (3 : Int32)), (.ref b2), (.int (3 : Int32)), (.ref b1)])) rfl (by rw [hml]; rfl) (argsL := [(.ref b2), (.int (3 : Int32)), (.int nn)]) (rest := [(.int (3 : Int32)), (.ref b1)]) (lenOf pd_7 rfl) rfl (by show 2 * 0 + _ ≤ _; exact Nat.le_of_eq rfl) (hb hby at_413) (fun _ _ => ⟨rfl, e25, (by decide : 10 + 0 ≤ _), (by decide : 46 + 0 ≤ _)⟩)
  dsimp only [Pt.U, Pt.locs, Pt.cells, Pt.slots] at X26 l26 y26 z26 st26 hQ26
  subst l26 y26 z26
  obtain ⟨rfl, N26q, e26⟩ := hQ26
  have N26 := Fr.app N25 N26q
  have Vo_27 := Vs25
  obtain ⟨Cl_27, Ar_27, Kc_27, Sz_27, Nn_27, Hs_27, Gf_27⟩ := Vo_27
  obtain ⟨T28, h28, X28, e28, W28, st28⟩ := stI X26 hx hZ e26 Ar_27 (j := (3 : Int32)) (inb_of Sz_27 ⟨by decide, by decide⟩) (g := (mkF m 416 #[.val (.int q0), .val (.int q1), .val (.int q2), .val (.int q3), .val (.int nn), .val (.int v0_7), .val (.int xx), .val (.int yy), .val (.ref b1), .val (.ref b2), .val (.int (1 : Int32)), .val (.int rx), .val (.int ry), .val (.int (own_blk v0_7 xx)), .val (.int (own_blk v0_7 yy)), .val (.int (own_beg v0_7 (own_blk v0_7 xx))), .val (.int (own_beg v0_7 (own_blk v0_7 yy))), .val (.int v0_161), .val (.int v0_175), .val (.int tc), .unset, .unset] [(.int (own_at nn lE (3 : Int32))), (.int (3 : Int32)), (.ref b1)])) rfl rfl (hb hby at_416)
  have Vs28 : Arv Z h28 b1 k1 .int (4 : Int32) [(.int (own_at nn lE (0 : Int32))), (.int (own_at nn lE (1 : Int32))), (.int (own_at nn lE (2 : Int32))), (.int (own_at nn lE (3 : Int32)))] (.int (0 : Int32)) := Arv.set Ar_27 Kc_27 Sz_27 Nn_27 Hs_27 Gf_27 rfl W28 3 rfl (Nat.le_of_ble_eq_true rfl)
  have N28 := Fr.snoc X28 N26 g_b1
  have Vo_29 := Vs28
  obtain ⟨Cl_29, Ar_29, Kc_29, Sz_29, Nn_29, Hs_29, Gf_29⟩ := Vo_29
  obtain ⟨LF30, XF30, NF30⟩ : ∃ LC, Stand p l e room_1 s m #[(.int q0), (.int q1), (.int q2), (.int q3)] below meth c T28 LC 10 46 ∧ Fr n0 LC := ⟨_, X28, N28⟩
  have zz32 : n0 ≤ h28.size := (Nat.le_trans (Nat.le_trans zz23 (Keep.of_wr W25).1) (Keep.of_wr W28).1)
  obtain ⟨_, _, ⟨T31, L31, k31, n31⟩, -, X31, ⟨Lc31, hQ31, l31, y31, z31⟩, st31⟩ := Jvm.LawKit.callS XF30 hx (y := (⟨"com/example/yealm/yealm/equiv/RefinablePartitionMarkPinLaw", "bit", "(II)I"⟩ : MethodName)) hown (mvT hZ (hw _ (List.mem_of_getElem? (i := 66) rfl))) (mvT hZ (hw _ (List.mem_of_getElem? (i := 67) rfl))) (mvT hZ (hw _ (List.mem_of_getElem? (i := 38) rfl))) (mvT hZ (hw _ (List.mem_of_getElem? (i := 68) rfl))) (by decide) (backOf (W := 0) (rm11 l Z a0 hw [] (own_at nn lE (0 : Int32)) nn h28 n0 zz32) hZ (hw _ (List.mem_of_getElem? (i := 68) rfl)) (hw _ (List.mem_of_getElem? (i := 38) rfl)) (by decide) (by decide)) (g := (mkF m 423 #[.val (.int q0), .val (.int q1), .val (.int q2), .val (.int q3), .val (.int nn), .val (.int v0_7), .val (.int xx), .val (.int yy), .val (.ref b1), .val (.ref b2), .val (.int (1 : Int32)), .val (.int rx), .val (.int ry), .val (.int (own_blk v0_7 xx)), .val (.int (own_blk v0_7 yy)), .val (.int (own_beg v0_7 (own_blk v0_7 xx))), .val (.int (own_beg v0_7 (own_blk v0_7 yy))), .val (.int v0_161), .val (.int v0_175), .val (.int tc), .unset, .unset] [(.int nn), (.int (own_at nn lE (0 : Int32)))])) rfl (by rw [hml]; rfl) (argsL := [(.int (own_at nn lE (0 : Int32))), (.int nn)]) (rest := []) (lenOf pd_8 rfl) rfl (by show 2 * 0 + _ ≤ _; exact Nat.le_of_eq rfl) (hb hby at_423) (fun _ _ => ⟨rfl, e28, (by decide : 10 + 0 ≤ _), (by decide : 46 + 0 ≤ _)⟩)
  dsimp only [Pt.U, Pt.locs, Pt.cells, Pt.slots] at X31 l31 y31 z31 st31 hQ31
  subst l31 y31 z31
  obtain ⟨rfl, N31q, e31⟩ := hQ31
  have N31 := Fr.app NF30 N31q
  have Vo_33 := Vs28
  obtain ⟨Cl_33, Ar_33, Kc_33, Sz_33, Nn_33, Hs_33, Gf_33⟩ := Vo_33
  obtain ⟨_, _, ⟨T34, L34, k34, n34⟩, -, X34, ⟨Lc34, hQ34, l34, y34, z34⟩, st34⟩ := Jvm.LawKit.callS X31 hx (y := (⟨"com/example/yealm/yealm/equiv/RefinablePartitionMarkPinLaw", "bit", "(II)I"⟩ : MethodName)) hown (mvT hZ (hw _ (List.mem_of_getElem? (i := 66) rfl))) (mvT hZ (hw _ (List.mem_of_getElem? (i := 67) rfl))) (mvT hZ (hw _ (List.mem_of_getElem? (i := 38) rfl))) (mvT hZ (hw _ (List.mem_of_getElem? (i := 68) rfl))) (by decide) (backOf (W := 1) (rm11 l Z a0 hw [] (own_at nn lE (1 : Int32)) nn h28 n0 zz32) hZ (hw _ (List.mem_of_getElem? (i := 68) rfl)) (hw _ (List.mem_of_getElem? (i := 38) rfl)) (by decide) (by decide)) (g := (mkF m 432 #[.val (.int q0), .val (.int q1), .val (.int q2), .val (.int q3), .val (.int nn), .val (.int v0_7), .val (.int xx), .val (.int yy), .val (.ref b1), .val (.ref b2), .val (.int (1 : Int32)), .val (.int rx), .val (.int ry), .val (.int (own_blk v0_7 xx)), .val (.int (own_blk v0_7 yy)), .val (.int (own_beg v0_7 (own_blk v0_7 xx))), .val (.int (own_beg v0_7 (own_blk v0_7 yy))), .val (.int v0_161), .val (.int v0_175), .val (.int tc), .unset, .unset] [(.int nn), (.int (own_at nn lE (1 : Int32))), (.int (own_bit (own_at nn lE (0 : Int32)) nn))])) rfl (by rw [hml]; rfl) (argsL := [(.int (own_at nn lE (1 : Int32))), (.int nn)]) (rest := [(.int (own_bit (own_at nn lE (0 : Int32)) nn))]) (lenOf pd_8 rfl) rfl (by show 2 * 0 + _ ≤ _; exact Nat.le_of_eq rfl) (hb hby at_432) (fun _ _ => ⟨rfl, e31, (by decide : 10 + 0 ≤ _), (by decide : 46 + 0 ≤ _)⟩)
  dsimp only [Pt.U, Pt.locs, Pt.cells, Pt.slots] at X34 l34 y34 z34 st34 hQ34
  subst l34 y34 z34
  obtain ⟨rfl, N34q, e34⟩ := hQ34
  have N34 := Fr.app N31 N34q
  have Vo_35 := Vs28
  obtain ⟨Cl_35, Ar_35, Kc_35, Sz_35, Nn_35, Hs_35, Gf_35⟩ := Vo_35
  obtain ⟨_, _, ⟨T36, L36, k36, n36⟩, -, X36, ⟨Lc36, hQ36, l36, y36, z36⟩, st36⟩ := Jvm.LawKit.callS X34 hx (y := (⟨"com/example/yealm/yealm/equiv/RefinablePartitionMarkPinLaw", "bit", "(II)I"⟩ : MethodName)) hown (mvT hZ (hw _ (List.mem_of_getElem? (i := 66) rfl))) (mvT hZ (hw _ (List.mem_of_getElem? (i := 67) rfl))) (mvT hZ (hw _ (List.mem_of_getElem? (i := 38) rfl))) (mvT hZ (hw _ (List.mem_of_getElem? (i := 68) rfl))) (by decide) (backOf (W := 1) (rm11 l Z a0 hw [] (own_at nn lE (2 : Int32)) nn h28 n0 zz32) hZ (hw _ (List.mem_of_getElem? (i := 68) rfl)) (hw _ (List.mem_of_getElem? (i := 38) rfl)) (by decide) (by decide)) (g := (mkF m 442 #[.val (.int q0), .val (.int q1), .val (.int q2), .val (.int q3), .val (.int nn), .val (.int v0_7), .val (.int xx), .val (.int yy), .val (.ref b1), .val (.ref b2), .val (.int (1 : Int32)), .val (.int rx), .val (.int ry), .val (.int (own_blk v0_7 xx)), .val (.int (own_blk v0_7 yy)), .val (.int (own_beg v0_7 (own_blk v0_7 xx))), .val (.int (own_beg v0_7 (own_blk v0_7 yy))), .val (.int v0_161), .val (.int v0_175), .val (.int tc), .unset, .unset] [(.int nn), (.int (own_at nn lE (2 : Int32))), (.int ((own_bit (own_at nn lE (0 : Int32)) nn) ||| (own_bit (own_at nn lE (1 : Int32)) nn)))])) rfl (by rw [hml]; rfl) (argsL := [(.int (own_at nn lE (2 : Int32))), (.int nn)]) (rest := [(.int ((own_bit (own_at nn lE (0 : Int32)) nn) ||| (own_bit (own_at nn lE (1 : Int32)) nn)))]) (lenOf pd_8 rfl) rfl (by show 2 * 0 + _ ≤ _; exact Nat.le_of_eq rfl) (hb hby at_442) (fun _ _ => ⟨rfl, e34, (by decide : 10 + 0 ≤ _), (by decide : 46 + 0 ≤ _)⟩)
  dsimp only [Pt.U, Pt.locs, Pt.cells, Pt.slots] at X36 l36 y36 z36 st36 hQ36
  subst l36 y36 z36
  obtain ⟨rfl, N36q, e36⟩ := hQ36
  have N36 := Fr.app N34 N36q
  have Vo_37 := Vs28
  obtain ⟨Cl_37, Ar_37, Kc_37, Sz_37, Nn_37, Hs_37, Gf_37⟩ := Vo_37
  obtain ⟨_, _, ⟨T38, L38, k38, n38⟩, -, X38, ⟨Lc38, hQ38, l38, y38, z38⟩, st38⟩ := Jvm.LawKit.callS X36 hx (y := (⟨"com/example/yealm/yealm/equiv/RefinablePartitionMarkPinLaw", "bit", "(II)I"⟩ : MethodName)) hown (mvT hZ (hw _ (List.mem_of_getElem? (i := 66) rfl))) (mvT hZ (hw _ (List.mem_of_getElem? (i := 67) rfl))) (mvT hZ (hw _ (List.mem_of_getElem? (i := 38) rfl))) (mvT hZ (hw _ (List.mem_of_getElem? (i := 68) rfl))) (by decide) (backOf (W := 1) (rm11 l Z a0 hw [] (own_at nn lE (3 : Int32)) nn h28 n0 zz32) hZ (hw _ (List.mem_of_getElem? (i := 68) rfl)) (hw _ (List.mem_of_getElem? (i := 38) rfl)) (by decide) (by decide)) (g := (mkF m 452 #[.val (.int q0), .val (.int q1), .val (.int q2), .val (.int q3), .val (.int nn), .val (.int v0_7), .val (.int xx), .val (.int yy), .val (.ref b1), .val (.ref b2), .val (.int (1 : Int32)), .val (.int rx), .val (.int ry), .val (.int (own_blk v0_7 xx)), .val (.int (own_blk v0_7 yy)), .val (.int (own_beg v0_7 (own_blk v0_7 xx))), .val (.int (own_beg v0_7 (own_blk v0_7 yy))), .val (.int v0_161), .val (.int v0_175), .val (.int tc), .unset, .unset] [(.int nn), (.int (own_at nn lE (3 : Int32))), (.int (((own_bit (own_at nn lE (0 : Int32)) nn) ||| (own_bit (own_at nn lE (1 : Int32)) nn)) ||| (own_bit (own_at nn lE (2 : Int32)) nn)))])) rfl (by rw [hml]; rfl) (argsL := [(.int (own_at nn lE (3 : Int32))), (.int nn)]) (rest := [(.int (((own_bit (own_at nn lE (0 : Int32)) nn) ||| (own_bit (own_at nn lE (1 : Int32)) nn)) ||| (own_bit (own_at nn lE (2 : Int32)) nn)))]) (lenOf pd_8 rfl) rfl (by show 2 * 0 + _ ≤ _; exact Nat.le_of_eq rfl) (hb hby at_452) (fun _ _ => ⟨rfl, e36, (by decide : 10 + 0 ≤ _), (by decide : 46 + 0 ≤ _)⟩)
  dsimp only [Pt.U, Pt.locs, Pt.cells, Pt.slots] at X38 l38 y38 z38 st38 hQ38
  subst l38 y38 z38
  obtain ⟨rfl, N38q, e38⟩ := hQ38
  have N38 := Fr.app N36 N38q
  have Vo_39 := Vs28
  obtain ⟨Cl_39, Ar_39, Kc_39, Sz_39, Nn_39, Hs_39, Gf_39⟩ := Vo_39
  have Vo_40 := Vs28
  obtain ⟨Cl_40, Ar_40, Kc_40, Sz_40, Nn_40, Hs_40, Gf_40⟩ := Vo_40
  obtain ⟨v0_503, hv0_503⟩ : ∃ z : Slot, z = (if v0_175 = (0 : Int32) then (.unset) else (if v0_161 = (0 : Int32) then (.val (.int ((own_beg v0_7 (own_blk v0_7 yy)) + (0 : Int32)))) else (.val (.int ((own_beg v0_7 (own_blk v0_7 yy)) + (1 : Int32)))))) := ⟨_, rfl⟩
  obtain ⟨fs, hr, hrun, hended, hW, hsame⟩ := X38.leave (v := some (.int (1 : Int32))) (fun h => by rw [Bd.returns] at h; cases h)
  refine ⟨_, _, pre0 _ ?_, hrun, hended, _, _, rfl, ?_, ⟨_, rfl⟩, hW, hsame.mono (by decide) (by decide)⟩
  · show Steps p.tables e below (s₁.setTop (mkF m 0 #[.val (.int q0), .val (.int q1), .val (.int q2), .val (.int q3), .unset, .unset, .unset, .unset, .unset, .unset, .unset, .unset, .unset, .unset, .unset, .unset, .unset, .unset, .unset, .unset, .unset, .unset] [])) _
    refine XS.iconst X0.here hx rfl (hb hby at_0) ?_
    show Steps p.tables e below (s₁.setTop (mkF m 1 #[.val (.int q0), .val (.int q1), .val (.int q2), .val (.int q3), .unset, .unset, .unset, .unset, .unset, .unset, .unset, .unset, .unset, .unset, .unset, .unset, .unset, .unset, .unset, .unset, .unset, .unset] [(.int (1 : Int32))])) _
    refine XS.iloadN X0.here hx rfl (hb hby at_1) rfl ?_
    show Steps p.tables e below (s₁.setTop (mkF m 2 #[.val (.int q0), .val (.int q1), .val (.int q2), .val (.int q3), .unset, .unset, .unset, .unset, .unset, .unset, .unset, .unset, .unset, .unset, .unset, .unset, .unset, .unset, .unset, .unset, .unset, .unset] [(.int q0), (.int (1 : Int32))])) _
    refine XS.iconst X0.here hx rfl (hb hby at_2) ?_
    show Steps p.tables e below (s₁.setTop (mkF m 3 #[.val (.int q0), .val (.int q1), .val (.int q2), .val (.int q3), .unset, .unset, .unset, .unset, .unset, .unset, .unset, .unset, .unset, .unset, .unset, .unset, .unset, .unset, .unset, .unset, .unset, .unset] [(.int (3 : Int32)), (.int q0), (.int (1 : Int32))])) _
    refine XS.iand X0.here hx rfl (hb hby at_3) rfl ?_
    show Steps p.tables e below (s₁.setTop (mkF m 4 #[.val (.int q0), .val (.int q1), .val (.int q2), .val (.int q3), .unset, .unset, .unset, .unset, .unset, .unset, .unset, .unset, .unset, .unset, .unset, .unset, .unset, .unset, .unset, .unset, .unset, .unset] [(.int (q0 &&& (3 : Int32))), (.int (1 : Int32))])) _
    refine XS.iadd X0.here hx rfl (hb hby at_4) rfl ?_
    show Steps p.tables e below (s₁.setTop (mkF m 5 #[.val (.int q0), .val (.int q1), .val (.int q2), .val (.int q3), .unset, .unset, .unset, .unset, .unset, .unset, .unset, .unset, .unset, .unset, .unset, .unset, .unset, .unset, .unset, .unset, .unset, .unset] [(.int ((1 : Int32) + (q0 &&& (3 : Int32))))])) _
    refine XS.istore X0.here hx rfl (hb hby at_5) rfl (l' := #[.val (.int q0), .val (.int q1), .val (.int q2), .val (.int q3), .val (.int ((1 : Int32) + (q0 &&& (3 : Int32)))), .unset, .unset, .unset, .unset, .unset, .unset, .unset, .unset, .unset, .unset, .unset, .unset, .unset, .unset, .unset, .unset, .unset]) rfl ?_
    show Steps p.tables e below (s₁.setTop (mkF m 7 #[.val (.int q0), .val (.int q1), .val (.int q2), .val (.int q3), .val (.int ((1 : Int32) + (q0 &&& (3 : Int32)))), .unset, .unset, .unset, .unset, .unset, .unset, .unset, .unset, .unset, .unset, .unset, .unset, .unset, .unset, .unset, .unset, .unset] [])) _
    rw [← hnn]
    show Steps p.tables e below (s₁.setTop (mkF m 7 #[.val (.int q0), .val (.int q1), .val (.int q2), .val (.int q3), .val (.int nn), .unset, .unset, .unset, .unset, .unset, .unset, .unset, .unset, .unset, .unset, .unset, .unset, .unset, .unset, .unset, .unset, .unset] [])) _
    refine sg_7  (.val (.int q0)) (q1) (.val (.int q2)) (.val (.int q3)) (nn) (.unset) (.unset) (.unset) (.unset) (.unset) (.unset) (.unset) (.unset) (.unset) (.unset) (.unset) (.unset) (.unset) (.unset) (.unset) (.unset) (.unset) v0_7 hv0_7 X0 hx hZ hw hby hown ?_
    show Steps p.tables e below (s₁.setTop (mkF m 24 #[.val (.int q0), .val (.int q1), .val (.int q2), .val (.int q3), .val (.int nn), .unset, .unset, .unset, .unset, .unset, .unset, .unset, .unset, .unset, .unset, .unset, .unset, .unset, .unset, .unset, .unset, .unset] [(.int v0_7)])) _
    refine XS.istore X0.here hx rfl (hb hby at_24) rfl (l' := #[.val (.int q0), .val (.int q1), .val (.int q2), .val (.int q3), .val (.int nn), .val (.int v0_7), .unset, .unset, .unset, .unset, .unset, .unset, .unset, .unset, .unset, .unset, .unset, .unset, .unset, .unset, .unset, .unset]) rfl ?_
    show Steps p.tables e below (s₁.setTop (mkF m 26 #[.val (.int q0), .val (.int q1), .val (.int q2), .val (.int q3), .val (.int nn), .val (.int v0_7), .unset, .unset, .unset, .unset, .unset, .unset, .unset, .unset, .unset, .unset, .unset, .unset, .unset, .unset, .unset, .unset] [])) _
    refine XS.iloadN X0.here hx rfl (hb hby at_26) rfl ?_
    show Steps p.tables e below (s₁.setTop (mkF m 27 #[.val (.int q0), .val (.int q1), .val (.int q2), .val (.int q3), .val (.int nn), .val (.int v0_7), .unset, .unset, .unset, .unset, .unset, .unset, .unset, .unset, .unset, .unset, .unset, .unset, .unset, .unset, .unset, .unset] [(.int q2)])) _
    refine X0.ldcInt hx hown (mvT hZ (hw _ (List.mem_of_getElem? (i := 0) rfl))) (g := (mkF m 27 #[.val (.int q0), .val (.int q1), .val (.int q2), .val (.int q3), .val (.int nn), .val (.int v0_7), .unset, .unset, .unset, .unset, .unset, .unset, .unset, .unset, .unset, .unset, .unset, .unset, .unset, .unset, .unset, .unset] [(.int q2)])) rfl (hb hby at_27) _ ?_
    show Steps p.tables e below (s₁.setTop (mkF m 29 #[.val (.int q0), .val (.int q1), .val (.int q2), .val (.int q3), .val (.int nn), .val (.int v0_7), .unset, .unset, .unset, .unset, .unset, .unset, .unset, .unset, .unset, .unset, .unset, .unset, .unset, .unset, .unset, .unset] [(.int (2147483647 : Int32)), (.int q2)])) _
    refine XS.iand X0.here hx rfl (hb hby at_29) rfl ?_
    show Steps p.tables e below (s₁.setTop (mkF m 30 #[.val (.int q0), .val (.int q1), .val (.int q2), .val (.int q3), .val (.int nn), .val (.int v0_7), .unset, .unset, .unset, .unset, .unset, .unset, .unset, .unset, .unset, .unset, .unset, .unset, .unset, .unset, .unset, .unset] [(.int (q2 &&& (2147483647 : Int32)))])) _
    refine XS.iload X0.here hx rfl (hb hby at_30) rfl ?_
    show Steps p.tables e below (s₁.setTop (mkF m 32 #[.val (.int q0), .val (.int q1), .val (.int q2), .val (.int q3), .val (.int nn), .val (.int v0_7), .unset, .unset, .unset, .unset, .unset, .unset, .unset, .unset, .unset, .unset, .unset, .unset, .unset, .unset, .unset, .unset] [(.int nn), (.int (q2 &&& (2147483647 : Int32)))])) _
    refine XS.irem X0.here hx rfl (hb hby at_32) rfl hnz ?_
    show Steps p.tables e below (s₁.setTop (mkF m 33 #[.val (.int q0), .val (.int q1), .val (.int q2), .val (.int q3), .val (.int nn), .val (.int v0_7), .unset, .unset, .unset, .unset, .unset, .unset, .unset, .unset, .unset, .unset, .unset, .unset, .unset, .unset, .unset, .unset] [(.int ((q2 &&& (2147483647 : Int32)) - ((q2 &&& (2147483647 : Int32)) / nn) * nn))])) _
    rw [irem_eq_mod]
    show Steps p.tables e below (s₁.setTop (mkF m 33 #[.val (.int q0), .val (.int q1), .val (.int q2), .val (.int q3), .val (.int nn), .val (.int v0_7), .unset, .unset, .unset, .unset, .unset, .unset, .unset, .unset, .unset, .unset, .unset, .unset, .unset, .unset, .unset, .unset] [(.int ((q2 &&& (2147483647 : Int32)) % nn))])) _
    refine XS.istore X0.here hx rfl (hb hby at_33) rfl (l' := #[.val (.int q0), .val (.int q1), .val (.int q2), .val (.int q3), .val (.int nn), .val (.int v0_7), .val (.int ((q2 &&& (2147483647 : Int32)) % nn)), .unset, .unset, .unset, .unset, .unset, .unset, .unset, .unset, .unset, .unset, .unset, .unset, .unset, .unset, .unset]) rfl ?_
    show Steps p.tables e below (s₁.setTop (mkF m 35 #[.val (.int q0), .val (.int q1), .val (.int q2), .val (.int q3), .val (.int nn), .val (.int v0_7), .val (.int ((q2 &&& (2147483647 : Int32)) % nn)), .unset, .unset, .unset, .unset, .unset, .unset, .unset, .unset, .unset, .unset, .unset, .unset, .unset, .unset, .unset] [])) _
    rw [← hxx]
    show Steps p.tables e below (s₁.setTop (mkF m 35 #[.val (.int q0), .val (.int q1), .val (.int q2), .val (.int q3), .val (.int nn), .val (.int v0_7), .val (.int xx), .unset, .unset, .unset, .unset, .unset, .unset, .unset, .unset, .unset, .unset, .unset, .unset, .unset, .unset, .unset] [])) _
    refine XS.iloadN X0.here hx rfl (hb hby at_35) rfl ?_
    show Steps p.tables e below (s₁.setTop (mkF m 36 #[.val (.int q0), .val (.int q1), .val (.int q2), .val (.int q3), .val (.int nn), .val (.int v0_7), .val (.int xx), .unset, .unset, .unset, .unset, .unset, .unset, .unset, .unset, .unset, .unset, .unset, .unset, .unset, .unset, .unset] [(.int q3)])) _
    refine X0.ldcInt hx hown (mvT hZ (hw _ (List.mem_of_getElem? (i := 0) rfl))) (g := (mkF m 36 #[.val (.int q0), .val (.int q1), .val (.int q2), .val (.int q3), .val (.int nn), .val (.int v0_7), .val (.int xx), .unset, .unset, .unset, .unset, .unset, .unset, .unset, .unset, .unset, .unset, .unset, .unset, .unset, .unset, .unset] [(.int q3)])) rfl (hb hby at_36) _ ?_
    show Steps p.tables e below (s₁.setTop (mkF m 38 #[.val (.int q0), .val (.int q1), .val (.int q2), .val (.int q3), .val (.int nn), .val (.int v0_7), .val (.int xx), .unset, .unset, .unset, .unset, .unset, .unset, .unset, .unset, .unset, .unset, .unset, .unset, .unset, .unset, .unset] [(.int (2147483647 : Int32)), (.int q3)])) _
    refine XS.iand X0.here hx rfl (hb hby at_38) rfl ?_
    show Steps p.tables e below (s₁.setTop (mkF m 39 #[.val (.int q0), .val (.int q1), .val (.int q2), .val (.int q3), .val (.int nn), .val (.int v0_7), .val (.int xx), .unset, .unset, .unset, .unset, .unset, .unset, .unset, .unset, .unset, .unset, .unset, .unset, .unset, .unset, .unset] [(.int (q3 &&& (2147483647 : Int32)))])) _
    refine XS.iload X0.here hx rfl (hb hby at_39) rfl ?_
    show Steps p.tables e below (s₁.setTop (mkF m 41 #[.val (.int q0), .val (.int q1), .val (.int q2), .val (.int q3), .val (.int nn), .val (.int v0_7), .val (.int xx), .unset, .unset, .unset, .unset, .unset, .unset, .unset, .unset, .unset, .unset, .unset, .unset, .unset, .unset, .unset] [(.int nn), (.int (q3 &&& (2147483647 : Int32)))])) _
    refine XS.irem X0.here hx rfl (hb hby at_41) rfl hnz ?_
    show Steps p.tables e below (s₁.setTop (mkF m 42 #[.val (.int q0), .val (.int q1), .val (.int q2), .val (.int q3), .val (.int nn), .val (.int v0_7), .val (.int xx), .unset, .unset, .unset, .unset, .unset, .unset, .unset, .unset, .unset, .unset, .unset, .unset, .unset, .unset, .unset] [(.int ((q3 &&& (2147483647 : Int32)) - ((q3 &&& (2147483647 : Int32)) / nn) * nn))])) _
    rw [irem_eq_mod]
    show Steps p.tables e below (s₁.setTop (mkF m 42 #[.val (.int q0), .val (.int q1), .val (.int q2), .val (.int q3), .val (.int nn), .val (.int v0_7), .val (.int xx), .unset, .unset, .unset, .unset, .unset, .unset, .unset, .unset, .unset, .unset, .unset, .unset, .unset, .unset, .unset] [(.int ((q3 &&& (2147483647 : Int32)) % nn))])) _
    refine XS.istore X0.here hx rfl (hb hby at_42) rfl (l' := #[.val (.int q0), .val (.int q1), .val (.int q2), .val (.int q3), .val (.int nn), .val (.int v0_7), .val (.int xx), .val (.int ((q3 &&& (2147483647 : Int32)) % nn)), .unset, .unset, .unset, .unset, .unset, .unset, .unset, .unset, .unset, .unset, .unset, .unset, .unset, .unset]) rfl ?_
    show Steps p.tables e below (s₁.setTop (mkF m 44 #[.val (.int q0), .val (.int q1), .val (.int q2), .val (.int q3), .val (.int nn), .val (.int v0_7), .val (.int xx), .val (.int ((q3 &&& (2147483647 : Int32)) % nn)), .unset, .unset, .unset, .unset, .unset, .unset, .unset, .unset, .unset, .unset, .unset, .unset, .unset, .unset] [])) _
    rw [← hyy]
    show Steps p.tables e below (s₁.setTop (mkF m 44 #[.val (.int q0), .val (.int q1), .val (.int q2), .val (.int q3), .val (.int nn), .val (.int v0_7), .val (.int xx), .val (.int yy), .unset, .unset, .unset, .unset, .unset, .unset, .unset, .unset, .unset, .unset, .unset, .unset, .unset, .unset] [])) _
    refine XS.iconst X0.here hx rfl (hb hby at_44) ?_
    show Steps p.tables e below (s₁.setTop (mkF m 45 #[.val (.int q0), .val (.int q1), .val (.int q2), .val (.int q3), .val (.int nn), .val (.int v0_7), .val (.int xx), .val (.int yy), .unset, .unset, .unset, .unset, .unset, .unset, .unset, .unset, .unset, .unset, .unset, .unset, .unset, .unset] [(.int (4 : Int32))])) _
    refine st1 _ ?_
    show Steps p.tables e below (T1.setTop (mkF m 47 #[.val (.int q0), .val (.int q1), .val (.int q2), .val (.int q3), .val (.int nn), .val (.int v0_7), .val (.int xx), .val (.int yy), .unset, .unset, .unset, .unset, .unset, .unset, .unset, .unset, .unset, .unset, .unset, .unset, .unset, .unset] [(.ref b1)])) _
    refine XS.astore X1.here hx rfl (hb hby at_47) rfl rfl (l' := #[.val (.int q0), .val (.int q1), .val (.int q2), .val (.int q3), .val (.int nn), .val (.int v0_7), .val (.int xx), .val (.int yy), .val (.ref b1), .unset, .unset, .unset, .unset, .unset, .unset, .unset, .unset, .unset, .unset, .unset, .unset, .unset]) rfl ?_
    show Steps p.tables e below (T1.setTop (mkF m 49 #[.val (.int q0), .val (.int q1), .val (.int q2), .val (.int q3), .val (.int nn), .val (.int v0_7), .val (.int xx), .val (.int yy), .val (.ref b1), .unset, .unset, .unset, .unset, .unset, .unset, .unset, .unset, .unset, .unset, .unset, .unset, .unset] [])) _
    refine st2 _ ?_
    show Steps p.tables e below (T2.setTop (mkF m 52 #[.val (.int q0), .val (.int q1), .val (.int q2), .val (.int q3), .val (.int nn), .val (.int v0_7), .val (.int xx), .val (.int yy), .val (.ref b1), .unset, .unset, .unset, .unset, .unset, .unset, .unset, .unset, .unset, .unset, .unset, .unset, .unset] [(.ref b2)])) _
    refine XS.dup X2.here hx rfl (hb hby at_52) rfl rfl ?_
    show Steps p.tables e below (T2.setTop (mkF m 53 #[.val (.int q0), .val (.int q1), .val (.int q2), .val (.int q3), .val (.int nn), .val (.int v0_7), .val (.int xx), .val (.int yy), .val (.ref b1), .unset, .unset, .unset, .unset, .unset, .unset, .unset, .unset, .unset, .unset, .unset, .unset, .unset] [(.ref b2), (.ref b2)])) _
    refine XS.iload X2.here hx rfl (hb hby at_53) rfl ?_
    show Steps p.tables e below (T2.setTop (mkF m 55 #[.val (.int q0), .val (.int q1), .val (.int q2), .val (.int q3), .val (.int nn), .val (.int v0_7), .val (.int xx), .val (.int yy), .val (.ref b1), .unset, .unset, .unset, .unset, .unset, .unset, .unset, .unset, .unset, .unset, .unset, .unset, .unset] [(.int nn), (.ref b2), (.ref b2)])) _
    refine st3.trans ?_
    show Steps p.tables e below (T3.setTop (mkF m 58 #[.val (.int q0), .val (.int q1), .val (.int q2), .val (.int q3), .val (.int nn), .val (.int v0_7), .val (.int xx), .val (.int yy), .val (.ref b1), .unset, .unset, .unset, .unset, .unset, .unset, .unset, .unset, .unset, .unset, .unset, .unset, .unset] [(.ref b2)])) _
    refine XS.astore X3.here hx rfl (hb hby at_58) rfl rfl (l' := #[.val (.int q0), .val (.int q1), .val (.int q2), .val (.int q3), .val (.int nn), .val (.int v0_7), .val (.int xx), .val (.int yy), .val (.ref b1), .val (.ref b2), .unset, .unset, .unset, .unset, .unset, .unset, .unset, .unset, .unset, .unset, .unset, .unset]) rfl ?_
    show Steps p.tables e below (T3.setTop (mkF m 60 #[.val (.int q0), .val (.int q1), .val (.int q2), .val (.int q3), .val (.int nn), .val (.int v0_7), .val (.int xx), .val (.int yy), .val (.ref b1), .val (.ref b2), .unset, .unset, .unset, .unset, .unset, .unset, .unset, .unset, .unset, .unset, .unset, .unset] [])) _
    refine XS.iconst X3.here hx rfl (hb hby at_60) ?_
    show Steps p.tables e below (T3.setTop (mkF m 61 #[.val (.int q0), .val (.int q1), .val (.int q2), .val (.int q3), .val (.int nn), .val (.int v0_7), .val (.int xx), .val (.int yy), .val (.ref b1), .val (.ref b2), .unset, .unset, .unset, .unset, .unset, .unset, .unset, .unset, .unset, .unset, .unset, .unset] [(.int (1 : Int32))])) _
    refine XS.istore X3.here hx rfl (hb hby at_61) rfl (l' := #[.val (.int q0), .val (.int q1), .val (.int q2), .val (.int q3), .val (.int nn), .val (.int v0_7), .val (.int xx), .val (.int yy), .val (.ref b1), .val (.ref b2), .val (.int (1 : Int32)), .unset, .unset, .unset, .unset, .unset, .unset, .unset, .unset, .unset, .unset, .unset]) rfl ?_
    show Steps p.tables e below (T3.setTop (mkF m 63 #[.val (.int q0), .val (.int q1), .val (.int q2), .val (.int q3), .val (.int nn), .val (.int v0_7), .val (.int xx), .val (.int yy), .val (.ref b1), .val (.ref b2), .val (.int (1 : Int32)), .unset, .unset, .unset, .unset, .unset, .unset, .unset, .unset, .unset, .unset, .unset] [])) _
    refine st4 _ ?_
    show Steps p.tables e below (T4.setTop (mkF m 125 #[.val (.int q0), .val (.int q1), .val (.int q2), .val (.int q3), .val (.int nn), .val (.int v0_7), .val (.int xx), .val (.int yy), .val (.ref b1), .val (.ref b2), .val (.int (1 : Int32)), .val (.int rx), .val (.int ry), .unset, .unset, .unset, .unset, .unset, .unset, .unset, .unset, .unset] [])) _
    refine XS.iload X4.here hx rfl (hb hby at_125) rfl ?_
    show Steps p.tables e below (T4.setTop (mkF m 127 #[.val (.int q0), .val (.int q1), .val (.int q2), .val (.int q3), .val (.int nn), .val (.int v0_7), .val (.int xx), .val (.int yy), .val (.ref b1), .val (.ref b2), .val (.int (1 : Int32)), .val (.int rx), .val (.int ry), .unset, .unset, .unset, .unset, .unset, .unset, .unset, .unset, .unset] [(.int v0_7)])) _
    refine XS.iload X4.here hx rfl (hb hby at_127) rfl ?_
    show Steps p.tables e below (T4.setTop (mkF m 129 #[.val (.int q0), .val (.int q1), .val (.int q2), .val (.int q3), .val (.int nn), .val (.int v0_7), .val (.int xx), .val (.int yy), .val (.ref b1), .val (.ref b2), .val (.int (1 : Int32)), .val (.int rx), .val (.int ry), .unset, .unset, .unset, .unset, .unset, .unset, .unset, .unset, .unset] [(.int xx), (.int v0_7)])) _
    refine st6 _ ?_
    show Steps p.tables e below (T6.setTop (mkF m 132 #[.val (.int q0), .val (.int q1), .val (.int q2), .val (.int q3), .val (.int nn), .val (.int v0_7), .val (.int xx), .val (.int yy), .val (.ref b1), .val (.ref b2), .val (.int (1 : Int32)), .val (.int rx), .val (.int ry), .unset, .unset, .unset, .unset, .unset, .unset, .unset, .unset, .unset] [(.int (own_blk v0_7 xx))])) _
    refine XS.istore X6.here hx rfl (hb hby at_132) rfl (l' := #[.val (.int q0), .val (.int q1), .val (.int q2), .val (.int q3), .val (.int nn), .val (.int v0_7), .val (.int xx), .val (.int yy), .val (.ref b1), .val (.ref b2), .val (.int (1 : Int32)), .val (.int rx), .val (.int ry), .val (.int (own_blk v0_7 xx)), .unset, .unset, .unset, .unset, .unset, .unset, .unset, .unset]) rfl ?_
    show Steps p.tables e below (T6.setTop (mkF m 134 #[.val (.int q0), .val (.int q1), .val (.int q2), .val (.int q3), .val (.int nn), .val (.int v0_7), .val (.int xx), .val (.int yy), .val (.ref b1), .val (.ref b2), .val (.int (1 : Int32)), .val (.int rx), .val (.int ry), .val (.int (own_blk v0_7 xx)), .unset, .unset, .unset, .unset, .unset, .unset, .unset, .unset] [])) _
    refine XS.iload X6.here hx rfl (hb hby at_134) rfl ?_
    show Steps p.tables e below (T6.setTop (mkF m 136 #[.val (.int q0), .val (.int q1), .val (.int q2), .val (.int q3), .val (.int nn), .val (.int v0_7), .val (.int xx), .val (.int yy), .val (.ref b1), .val (.ref b2), .val (.int (1 : Int32)), .val (.int rx), .val (.int ry), .val (.int (own_blk v0_7 xx)), .unset, .unset, .unset, .unset, .unset, .unset, .unset, .unset] [(.int v0_7)])) _
    refine XS.iload X6.here hx rfl (hb hby at_136) rfl ?_
    show Steps p.tables e below (T6.setTop (mkF m 138 #[.val (.int q0), .val (.int q1), .val (.int q2), .val (.int q3), .val (.int nn), .val (.int v0_7), .val (.int xx), .val (.int yy), .val (.ref b1), .val (.ref b2), .val (.int (1 : Int32)), .val (.int rx), .val (.int ry), .val (.int (own_blk v0_7 xx)), .unset, .unset, .unset, .unset, .unset, .unset, .unset, .unset] [(.int yy), (.int v0_7)])) _
    refine st7 _ ?_
    show Steps p.tables e below (T7.setTop (mkF m 141 #[.val (.int q0), .val (.int q1), .val (.int q2), .val (.int q3), .val (.int nn), .val (.int v0_7), .val (.int xx), .val (.int yy), .val (.ref b1), .val (.ref b2), .val (.int (1 : Int32)), .val (.int rx), .val (.int ry), .val (.int (own_blk v0_7 xx)), .unset, .unset, .unset, .unset, .unset, .unset, .unset, .unset] [(.int (own_blk v0_7 yy))])) _
    refine XS.istore X7.here hx rfl (hb hby at_141) rfl (l' := #[.val (.int q0), .val (.int q1), .val (.int q2), .val (.int q3), .val (.int nn), .val (.int v0_7), .val (.int xx), .val (.int yy), .val (.ref b1), .val (.ref b2), .val (.int (1 : Int32)), .val (.int rx), .val (.int ry), .val (.int (own_blk v0_7 xx)), .val (.int (own_blk v0_7 yy)), .unset, .unset, .unset, .unset, .unset, .unset, .unset]) rfl ?_
    show Steps p.tables e below (T7.setTop (mkF m 143 #[.val (.int q0), .val (.int q1), .val (.int q2), .val (.int q3), .val (.int nn), .val (.int v0_7), .val (.int xx), .val (.int yy), .val (.ref b1), .val (.ref b2), .val (.int (1 : Int32)), .val (.int rx), .val (.int ry), .val (.int (own_blk v0_7 xx)), .val (.int (own_blk v0_7 yy)), .unset, .unset, .unset, .unset, .unset, .unset, .unset] [])) _
    refine XS.iload X7.here hx rfl (hb hby at_143) rfl ?_
    show Steps p.tables e below (T7.setTop (mkF m 145 #[.val (.int q0), .val (.int q1), .val (.int q2), .val (.int q3), .val (.int nn), .val (.int v0_7), .val (.int xx), .val (.int yy), .val (.ref b1), .val (.ref b2), .val (.int (1 : Int32)), .val (.int rx), .val (.int ry), .val (.int (own_blk v0_7 xx)), .val (.int (own_blk v0_7 yy)), .unset, .unset, .unset, .unset, .unset, .unset, .unset] [(.int v0_7)])) _
    refine XS.iload X7.here hx rfl (hb hby at_145) rfl ?_
    show Steps p.tables e below (T7.setTop (mkF m 147 #[.val (.int q0), .val (.int q1), .val (.int q2), .val (.int q3), .val (.int nn), .val (.int v0_7), .val (.int xx), .val (.int yy), .val (.ref b1), .val (.ref b2), .val (.int (1 : Int32)), .val (.int rx), .val (.int ry), .val (.int (own_blk v0_7 xx)), .val (.int (own_blk v0_7 yy)), .unset, .unset, .unset, .unset, .unset, .unset, .unset] [(.int (own_blk v0_7 xx)), (.int v0_7)])) _
    refine st8 _ ?_
    show Steps p.tables e below (T8.setTop (mkF m 150 #[.val (.int q0), .val (.int q1), .val (.int q2), .val (.int q3), .val (.int nn), .val (.int v0_7), .val (.int xx), .val (.int yy), .val (.ref b1), .val (.ref b2), .val (.int (1 : Int32)), .val (.int rx), .val (.int ry), .val (.int (own_blk v0_7 xx)), .val (.int (own_blk v0_7 yy)), .unset, .unset, .unset, .unset, .unset, .unset, .unset] [(.int (own_beg v0_7 (own_blk v0_7 xx)))])) _
    refine XS.istore X8.here hx rfl (hb hby at_150) rfl (l' := #[.val (.int q0), .val (.int q1), .val (.int q2), .val (.int q3), .val (.int nn), .val (.int v0_7), .val (.int xx), .val (.int yy), .val (.ref b1), .val (.ref b2), .val (.int (1 : Int32)), .val (.int rx), .val (.int ry), .val (.int (own_blk v0_7 xx)), .val (.int (own_blk v0_7 yy)), .val (.int (own_beg v0_7 (own_blk v0_7 xx))), .unset, .unset, .unset, .unset, .unset, .unset]) rfl ?_
    show Steps p.tables e below (T8.setTop (mkF m 152 #[.val (.int q0), .val (.int q1), .val (.int q2), .val (.int q3), .val (.int nn), .val (.int v0_7), .val (.int xx), .val (.int yy), .val (.ref b1), .val (.ref b2), .val (.int (1 : Int32)), .val (.int rx), .val (.int ry), .val (.int (own_blk v0_7 xx)), .val (.int (own_blk v0_7 yy)), .val (.int (own_beg v0_7 (own_blk v0_7 xx))), .unset, .unset, .unset, .unset, .unset, .unset] [])) _
    refine XS.iload X8.here hx rfl (hb hby at_152) rfl ?_
    show Steps p.tables e below (T8.setTop (mkF m 154 #[.val (.int q0), .val (.int q1), .val (.int q2), .val (.int q3), .val (.int nn), .val (.int v0_7), .val (.int xx), .val (.int yy), .val (.ref b1), .val (.ref b2), .val (.int (1 : Int32)), .val (.int rx), .val (.int ry), .val (.int (own_blk v0_7 xx)), .val (.int (own_blk v0_7 yy)), .val (.int (own_beg v0_7 (own_blk v0_7 xx))), .unset, .unset, .unset, .unset, .unset, .unset] [(.int v0_7)])) _
    refine XS.iload X8.here hx rfl (hb hby at_154) rfl ?_
    show Steps p.tables e below (T8.setTop (mkF m 156 #[.val (.int q0), .val (.int q1), .val (.int q2), .val (.int q3), .val (.int nn), .val (.int v0_7), .val (.int xx), .val (.int yy), .val (.ref b1), .val (.ref b2), .val (.int (1 : Int32)), .val (.int rx), .val (.int ry), .val (.int (own_blk v0_7 xx)), .val (.int (own_blk v0_7 yy)), .val (.int (own_beg v0_7 (own_blk v0_7 xx))), .unset, .unset, .unset, .unset, .unset, .unset] [(.int (own_blk v0_7 yy)), (.int v0_7)])) _
    refine st9 _ ?_
    show Steps p.tables e below (T9.setTop (mkF m 159 #[.val (.int q0), .val (.int q1), .val (.int q2), .val (.int q3), .val (.int nn), .val (.int v0_7), .val (.int xx), .val (.int yy), .val (.ref b1), .val (.ref b2), .val (.int (1 : Int32)), .val (.int rx), .val (.int ry), .val (.int (own_blk v0_7 xx)), .val (.int (own_blk v0_7 yy)), .val (.int (own_beg v0_7 (own_blk v0_7 xx))), .unset, .unset, .unset, .unset, .unset, .unset] [(.int (own_beg v0_7 (own_blk v0_7 yy)))])) _
    refine XS.istore X9.here hx rfl (hb hby at_159) rfl (l' := #[.val (.int q0), .val (.int q1), .val (.int q2), .val (.int q3), .val (.int nn), .val (.int v0_7), .val (.int xx), .val (.int yy), .val (.ref b1), .val (.ref b2), .val (.int (1 : Int32)), .val (.int rx), .val (.int ry), .val (.int (own_blk v0_7 xx)), .val (.int (own_blk v0_7 yy)), .val (.int (own_beg v0_7 (own_blk v0_7 xx))), .val (.int (own_beg v0_7 (own_blk v0_7 yy))), .unset, .unset, .unset, .unset, .unset]) rfl ?_
    show Steps p.tables e below (T9.setTop (mkF m 161 #[.val (.int q0), .val (.int q1), .val (.int q2), .val (.int q3), .val (.int nn), .val (.int v0_7), .val (.int xx), .val (.int yy), .val (.ref b1), .val (.ref b2), .val (.int (1 : Int32)), .val (.int rx), .val (.int ry), .val (.int (own_blk v0_7 xx)), .val (.int (own_blk v0_7 yy)), .val (.int (own_beg v0_7 (own_blk v0_7 xx))), .val (.int (own_beg v0_7 (own_blk v0_7 yy))), .unset, .unset, .unset, .unset, .unset] [])) _
    refine sg_161  (.val (.int q0)) (.val (.int q1)) (.val (.int q2)) (.val (.int q3)) (.val (.int nn)) (.val (.int v0_7)) (.val (.int xx)) (.val (.int yy)) (.val (.ref b1)) (.val (.ref b2)) (.val (.int (1 : Int32))) (.val (.int rx)) (.val (.int ry)) ((own_blk v0_7 xx)) ((own_blk v0_7 yy)) (.val (.int (own_beg v0_7 (own_blk v0_7 xx)))) (.val (.int (own_beg v0_7 (own_blk v0_7 yy)))) (.unset) (.unset) (.unset) (.unset) (.unset) v0_161 hv0_161 X9 hx hZ hw hby hown ?_
    show Steps p.tables e below (T9.setTop (mkF m 173 #[.val (.int q0), .val (.int q1), .val (.int q2), .val (.int q3), .val (.int nn), .val (.int v0_7), .val (.int xx), .val (.int yy), .val (.ref b1), .val (.ref b2), .val (.int (1 : Int32)), .val (.int rx), .val (.int ry), .val (.int (own_blk v0_7 xx)), .val (.int (own_blk v0_7 yy)), .val (.int (own_beg v0_7 (own_blk v0_7 xx))), .val (.int (own_beg v0_7 (own_blk v0_7 yy))), .unset, .unset, .unset, .unset, .unset] [(.int v0_161)])) _
    refine XS.istore X9.here hx rfl (hb hby at_173) rfl (l' := #[.val (.int q0), .val (.int q1), .val (.int q2), .val (.int q3), .val (.int nn), .val (.int v0_7), .val (.int xx), .val (.int yy), .val (.ref b1), .val (.ref b2), .val (.int (1 : Int32)), .val (.int rx), .val (.int ry), .val (.int (own_blk v0_7 xx)), .val (.int (own_blk v0_7 yy)), .val (.int (own_beg v0_7 (own_blk v0_7 xx))), .val (.int (own_beg v0_7 (own_blk v0_7 yy))), .val (.int v0_161), .unset, .unset, .unset, .unset]) rfl ?_
    show Steps p.tables e below (T9.setTop (mkF m 175 #[.val (.int q0), .val (.int q1), .val (.int q2), .val (.int q3), .val (.int nn), .val (.int v0_7), .val (.int xx), .val (.int yy), .val (.ref b1), .val (.ref b2), .val (.int (1 : Int32)), .val (.int rx), .val (.int ry), .val (.int (own_blk v0_7 xx)), .val (.int (own_blk v0_7 yy)), .val (.int (own_beg v0_7 (own_blk v0_7 xx))), .val (.int (own_beg v0_7 (own_blk v0_7 yy))), .val (.int v0_161), .unset, .unset, .unset, .unset] [])) _
    refine sg_175  (.val (.int q0)) (.val (.int q1)) (.val (.int q2)) (.val (.int q3)) (.val (.int nn)) (.val (.int v0_7)) (xx) (yy) (.val (.ref b1)) (.val (.ref b2)) (.val (.int (1 : Int32))) (.val (.int rx)) (.val (.int ry)) (.val (.int (own_blk v0_7 xx))) (.val (.int (own_blk v0_7 yy))) (.val (.int (own_beg v0_7 (own_blk v0_7 xx)))) (.val (.int (own_beg v0_7 (own_blk v0_7 yy)))) (.val (.int v0_161)) (.unset) (.unset) (.unset) (.unset) v0_175 hv0_175 X9 hx hZ hw hby hown ?_
    show Steps p.tables e below (T9.setTop (mkF m 187 #[.val (.int q0), .val (.int q1), .val (.int q2), .val (.int q3), .val (.int nn), .val (.int v0_7), .val (.int xx), .val (.int yy), .val (.ref b1), .val (.ref b2), .val (.int (1 : Int32)), .val (.int rx), .val (.int ry), .val (.int (own_blk v0_7 xx)), .val (.int (own_blk v0_7 yy)), .val (.int (own_beg v0_7 (own_blk v0_7 xx))), .val (.int (own_beg v0_7 (own_blk v0_7 yy))), .val (.int v0_161), .unset, .unset, .unset, .unset] [(.int v0_175)])) _
    refine XS.istore X9.here hx rfl (hb hby at_187) rfl (l' := #[.val (.int q0), .val (.int q1), .val (.int q2), .val (.int q3), .val (.int nn), .val (.int v0_7), .val (.int xx), .val (.int yy), .val (.ref b1), .val (.ref b2), .val (.int (1 : Int32)), .val (.int rx), .val (.int ry), .val (.int (own_blk v0_7 xx)), .val (.int (own_blk v0_7 yy)), .val (.int (own_beg v0_7 (own_blk v0_7 xx))), .val (.int (own_beg v0_7 (own_blk v0_7 yy))), .val (.int v0_161), .val (.int v0_175), .unset, .unset, .unset]) rfl ?_
    show Steps p.tables e below (T9.setTop (mkF m 189 #[.val (.int q0), .val (.int q1), .val (.int q2), .val (.int q3), .val (.int nn), .val (.int v0_7), .val (.int xx), .val (.int yy), .val (.ref b1), .val (.ref b2), .val (.int (1 : Int32)), .val (.int rx), .val (.int ry), .val (.int (own_blk v0_7 xx)), .val (.int (own_blk v0_7 yy)), .val (.int (own_beg v0_7 (own_blk v0_7 xx))), .val (.int (own_beg v0_7 (own_blk v0_7 yy))), .val (.int v0_161), .val (.int v0_175), .unset, .unset, .unset] [])) _
    refine XS.iload X9.here hx rfl (hb hby at_189) rfl ?_
    show Steps p.tables e below (T9.setTop (mkF m 191 #[.val (.int q0), .val (.int q1), .val (.int q2), .val (.int q3), .val (.int nn), .val (.int v0_7), .val (.int xx), .val (.int yy), .val (.ref b1), .val (.ref b2), .val (.int (1 : Int32)), .val (.int rx), .val (.int ry), .val (.int (own_blk v0_7 xx)), .val (.int (own_blk v0_7 yy)), .val (.int (own_beg v0_7 (own_blk v0_7 xx))), .val (.int (own_beg v0_7 (own_blk v0_7 yy))), .val (.int v0_161), .val (.int v0_175), .unset, .unset, .unset] [(.int (1 : Int32))])) _
    refine XS.ifNo X9.here hx rfl (hb hby at_191) rfl ((if0 _ _).trans (feq (by decide : ¬ (1 : Int32) = (0 : Int32))).1) ?_
    show Steps p.tables e below (T9.setTop (mkF m 194 #[.val (.int q0), .val (.int q1), .val (.int q2), .val (.int q3), .val (.int nn), .val (.int v0_7), .val (.int xx), .val (.int yy), .val (.ref b1), .val (.ref b2), .val (.int (1 : Int32)), .val (.int rx), .val (.int ry), .val (.int (own_blk v0_7 xx)), .val (.int (own_blk v0_7 yy)), .val (.int (own_beg v0_7 (own_blk v0_7 xx))), .val (.int (own_beg v0_7 (own_blk v0_7 yy))), .val (.int v0_161), .val (.int v0_175), .unset, .unset, .unset] [])) _
    refine XS.iload X9.here hx rfl (hb hby at_194) rfl ?_
    show Steps p.tables e below (T9.setTop (mkF m 196 #[.val (.int q0), .val (.int q1), .val (.int q2), .val (.int q3), .val (.int nn), .val (.int v0_7), .val (.int xx), .val (.int yy), .val (.ref b1), .val (.ref b2), .val (.int (1 : Int32)), .val (.int rx), .val (.int ry), .val (.int (own_blk v0_7 xx)), .val (.int (own_blk v0_7 yy)), .val (.int (own_beg v0_7 (own_blk v0_7 xx))), .val (.int (own_beg v0_7 (own_blk v0_7 yy))), .val (.int v0_161), .val (.int v0_175), .unset, .unset, .unset] [(.int rx)])) _
    refine XS.ifNo X9.here hx rfl (hb hby at_196) rfl ((if0 _ _).trans (feq (by rw [f1]; decide : ¬ rx = (0 : Int32))).1) ?_
    show Steps p.tables e below (T9.setTop (mkF m 199 #[.val (.int q0), .val (.int q1), .val (.int q2), .val (.int q3), .val (.int nn), .val (.int v0_7), .val (.int xx), .val (.int yy), .val (.ref b1), .val (.ref b2), .val (.int (1 : Int32)), .val (.int rx), .val (.int ry), .val (.int (own_blk v0_7 xx)), .val (.int (own_blk v0_7 yy)), .val (.int (own_beg v0_7 (own_blk v0_7 xx))), .val (.int (own_beg v0_7 (own_blk v0_7 yy))), .val (.int v0_161), .val (.int v0_175), .unset, .unset, .unset] [])) _
    refine XS.iload X9.here hx rfl (hb hby at_199) rfl ?_
    show Steps p.tables e below (T9.setTop (mkF m 201 #[.val (.int q0), .val (.int q1), .val (.int q2), .val (.int q3), .val (.int nn), .val (.int v0_7), .val (.int xx), .val (.int yy), .val (.ref b1), .val (.ref b2), .val (.int (1 : Int32)), .val (.int rx), .val (.int ry), .val (.int (own_blk v0_7 xx)), .val (.int (own_blk v0_7 yy)), .val (.int (own_beg v0_7 (own_blk v0_7 xx))), .val (.int (own_beg v0_7 (own_blk v0_7 yy))), .val (.int v0_161), .val (.int v0_175), .unset, .unset, .unset] [(.int ry)])) _
    refine XS.iload X9.here hx rfl (hb hby at_201) rfl ?_
    show Steps p.tables e below (T9.setTop (mkF m 203 #[.val (.int q0), .val (.int q1), .val (.int q2), .val (.int q3), .val (.int nn), .val (.int v0_7), .val (.int xx), .val (.int yy), .val (.ref b1), .val (.ref b2), .val (.int (1 : Int32)), .val (.int rx), .val (.int ry), .val (.int (own_blk v0_7 xx)), .val (.int (own_blk v0_7 yy)), .val (.int (own_beg v0_7 (own_blk v0_7 xx))), .val (.int (own_beg v0_7 (own_blk v0_7 yy))), .val (.int v0_161), .val (.int v0_175), .unset, .unset, .unset] [(.int v0_175), (.int ry)])) _
    refine XS.icmpNo X9.here hx rfl (hb hby at_203) rfl (teq f2).2 ?_
    show Steps p.tables e below (T9.setTop (mkF m 206 #[.val (.int q0), .val (.int q1), .val (.int q2), .val (.int q3), .val (.int nn), .val (.int v0_7), .val (.int xx), .val (.int yy), .val (.ref b1), .val (.ref b2), .val (.int (1 : Int32)), .val (.int rx), .val (.int ry), .val (.int (own_blk v0_7 xx)), .val (.int (own_blk v0_7 yy)), .val (.int (own_beg v0_7 (own_blk v0_7 xx))), .val (.int (own_beg v0_7 (own_blk v0_7 yy))), .val (.int v0_161), .val (.int v0_175), .unset, .unset, .unset] [])) _
    refine XS.iconst X9.here hx rfl (hb hby at_206) ?_
    show Steps p.tables e below (T9.setTop (mkF m 207 #[.val (.int q0), .val (.int q1), .val (.int q2), .val (.int q3), .val (.int nn), .val (.int v0_7), .val (.int xx), .val (.int yy), .val (.ref b1), .val (.ref b2), .val (.int (1 : Int32)), .val (.int rx), .val (.int ry), .val (.int (own_blk v0_7 xx)), .val (.int (own_blk v0_7 yy)), .val (.int (own_beg v0_7 (own_blk v0_7 xx))), .val (.int (own_beg v0_7 (own_blk v0_7 yy))), .val (.int v0_161), .val (.int v0_175), .unset, .unset, .unset] [(.int (1 : Int32))])) _
    refine XS.goto X9.here hx rfl (pc0 := 207) (pc' := 211) rfl (hb hby at_207) (by decide) (by decide) ?_
    show Steps p.tables e below (T9.setTop (mkF m 211 #[.val (.int q0), .val (.int q1), .val (.int q2), .val (.int q3), .val (.int nn), .val (.int v0_7), .val (.int xx), .val (.int yy), .val (.ref b1), .val (.ref b2), .val (.int (1 : Int32)), .val (.int rx), .val (.int ry), .val (.int (own_blk v0_7 xx)), .val (.int (own_blk v0_7 yy)), .val (.int (own_beg v0_7 (own_blk v0_7 xx))), .val (.int (own_beg v0_7 (own_blk v0_7 yy))), .val (.int v0_161), .val (.int v0_175), .unset, .unset, .unset] [(.int (1 : Int32))])) _
    refine XS.istore X9.here hx rfl (hb hby at_211) rfl (l' := #[.val (.int q0), .val (.int q1), .val (.int q2), .val (.int q3), .val (.int nn), .val (.int v0_7), .val (.int xx), .val (.int yy), .val (.ref b1), .val (.ref b2), .val (.int (1 : Int32)), .val (.int rx), .val (.int ry), .val (.int (own_blk v0_7 xx)), .val (.int (own_blk v0_7 yy)), .val (.int (own_beg v0_7 (own_blk v0_7 xx))), .val (.int (own_beg v0_7 (own_blk v0_7 yy))), .val (.int v0_161), .val (.int v0_175), .unset, .unset, .unset]) rfl ?_
    show Steps p.tables e below (T9.setTop (mkF m 213 #[.val (.int q0), .val (.int q1), .val (.int q2), .val (.int q3), .val (.int nn), .val (.int v0_7), .val (.int xx), .val (.int yy), .val (.ref b1), .val (.ref b2), .val (.int (1 : Int32)), .val (.int rx), .val (.int ry), .val (.int (own_blk v0_7 xx)), .val (.int (own_blk v0_7 yy)), .val (.int (own_beg v0_7 (own_blk v0_7 xx))), .val (.int (own_beg v0_7 (own_blk v0_7 yy))), .val (.int v0_161), .val (.int v0_175), .unset, .unset, .unset] [])) _
    refine XS.aload X9.here hx rfl (hb hby at_213) rfl rfl ?_
    show Steps p.tables e below (T9.setTop (mkF m 215 #[.val (.int q0), .val (.int q1), .val (.int q2), .val (.int q3), .val (.int nn), .val (.int v0_7), .val (.int xx), .val (.int yy), .val (.ref b1), .val (.ref b2), .val (.int (1 : Int32)), .val (.int rx), .val (.int ry), .val (.int (own_blk v0_7 xx)), .val (.int (own_blk v0_7 yy)), .val (.int (own_beg v0_7 (own_blk v0_7 xx))), .val (.int (own_beg v0_7 (own_blk v0_7 yy))), .val (.int v0_161), .val (.int v0_175), .unset, .unset, .unset] [(.ref b2)])) _
    refine st10.trans ?_
    show Steps p.tables e below (T10.setTop (mkF m 218 #[.val (.int q0), .val (.int q1), .val (.int q2), .val (.int q3), .val (.int nn), .val (.int v0_7), .val (.int xx), .val (.int yy), .val (.ref b1), .val (.ref b2), .val (.int (1 : Int32)), .val (.int rx), .val (.int ry), .val (.int (own_blk v0_7 xx)), .val (.int (own_blk v0_7 yy)), .val (.int (own_beg v0_7 (own_blk v0_7 xx))), .val (.int (own_beg v0_7 (own_blk v0_7 yy))), .val (.int v0_161), .val (.int v0_175), .unset, .unset, .unset] [(.int tc)])) _
    refine XS.istore X10.here hx rfl (hb hby at_218) rfl (l' := #[.val (.int q0), .val (.int q1), .val (.int q2), .val (.int q3), .val (.int nn), .val (.int v0_7), .val (.int xx), .val (.int yy), .val (.ref b1), .val (.ref b2), .val (.int (1 : Int32)), .val (.int rx), .val (.int ry), .val (.int (own_blk v0_7 xx)), .val (.int (own_blk v0_7 yy)), .val (.int (own_beg v0_7 (own_blk v0_7 xx))), .val (.int (own_beg v0_7 (own_blk v0_7 yy))), .val (.int v0_161), .val (.int v0_175), .val (.int tc), .unset, .unset]) rfl ?_
    show Steps p.tables e below (T10.setTop (mkF m 220 #[.val (.int q0), .val (.int q1), .val (.int q2), .val (.int q3), .val (.int nn), .val (.int v0_7), .val (.int xx), .val (.int yy), .val (.ref b1), .val (.ref b2), .val (.int (1 : Int32)), .val (.int rx), .val (.int ry), .val (.int (own_blk v0_7 xx)), .val (.int (own_blk v0_7 yy)), .val (.int (own_beg v0_7 (own_blk v0_7 xx))), .val (.int (own_beg v0_7 (own_blk v0_7 yy))), .val (.int v0_161), .val (.int v0_175), .val (.int tc), .unset, .unset] [])) _
    refine XS.iload X10.here hx rfl (hb hby at_220) rfl ?_
    show Steps p.tables e below (T10.setTop (mkF m 222 #[.val (.int q0), .val (.int q1), .val (.int q2), .val (.int q3), .val (.int nn), .val (.int v0_7), .val (.int xx), .val (.int yy), .val (.ref b1), .val (.ref b2), .val (.int (1 : Int32)), .val (.int rx), .val (.int ry), .val (.int (own_blk v0_7 xx)), .val (.int (own_blk v0_7 yy)), .val (.int (own_beg v0_7 (own_blk v0_7 xx))), .val (.int (own_beg v0_7 (own_blk v0_7 yy))), .val (.int v0_161), .val (.int v0_175), .val (.int tc), .unset, .unset] [(.int (1 : Int32))])) _
    refine XS.ifNo X10.here hx rfl (hb hby at_222) rfl ((if0 _ _).trans (feq (by decide : ¬ (1 : Int32) = (0 : Int32))).1) ?_
    show Steps p.tables e below (T10.setTop (mkF m 225 #[.val (.int q0), .val (.int q1), .val (.int q2), .val (.int q3), .val (.int nn), .val (.int v0_7), .val (.int xx), .val (.int yy), .val (.ref b1), .val (.ref b2), .val (.int (1 : Int32)), .val (.int rx), .val (.int ry), .val (.int (own_blk v0_7 xx)), .val (.int (own_blk v0_7 yy)), .val (.int (own_beg v0_7 (own_blk v0_7 xx))), .val (.int (own_beg v0_7 (own_blk v0_7 yy))), .val (.int v0_161), .val (.int v0_175), .val (.int tc), .unset, .unset] [])) _
    refine XS.iload X10.here hx rfl (hb hby at_225) rfl ?_
    show Steps p.tables e below (T10.setTop (mkF m 227 #[.val (.int q0), .val (.int q1), .val (.int q2), .val (.int q3), .val (.int nn), .val (.int v0_7), .val (.int xx), .val (.int yy), .val (.ref b1), .val (.ref b2), .val (.int (1 : Int32)), .val (.int rx), .val (.int ry), .val (.int (own_blk v0_7 xx)), .val (.int (own_blk v0_7 yy)), .val (.int (own_beg v0_7 (own_blk v0_7 xx))), .val (.int (own_beg v0_7 (own_blk v0_7 yy))), .val (.int v0_161), .val (.int v0_175), .val (.int tc), .unset, .unset] [(.int tc)])) _
    refine sg_227  (.val (.int q0)) (.val (.int q1)) (.val (.int q2)) (.val (.int q3)) (.val (.int nn)) (.val (.int v0_7)) (.val (.int xx)) (.val (.int yy)) (.val (.ref b1)) (.val (.ref b2)) (.val (.int (1 : Int32))) (.val (.int rx)) (.val (.int ry)) (.val (.int (own_blk v0_7 xx))) (.val (.int (own_blk v0_7 yy))) (.val (.int (own_beg v0_7 (own_blk v0_7 xx)))) (.val (.int (own_beg v0_7 (own_blk v0_7 yy)))) (v0_161) (.val (.int v0_175)) (.val (.int tc)) (.unset) (.unset) (tc) v0_227 hv0_227 X10 hx hZ hw hby hown ?_
    show Steps p.tables e below (T10.setTop (mkF m 237 #[.val (.int q0), .val (.int q1), .val (.int q2), .val (.int q3), .val (.int nn), .val (.int v0_7), .val (.int xx), .val (.int yy), .val (.ref b1), .val (.ref b2), .val (.int (1 : Int32)), .val (.int rx), .val (.int ry), .val (.int (own_blk v0_7 xx)), .val (.int (own_blk v0_7 yy)), .val (.int (own_beg v0_7 (own_blk v0_7 xx))), .val (.int (own_beg v0_7 (own_blk v0_7 yy))), .val (.int v0_161), .val (.int v0_175), .val (.int tc), .unset, .unset] [(.int v0_227), (.int tc)])) _
    refine XS.icmpNo X10.here hx rfl (hb hby at_237) rfl (teq (f3.trans hv0_227.symm)).2 ?_
    show Steps p.tables e below (T10.setTop (mkF m 240 #[.val (.int q0), .val (.int q1), .val (.int q2), .val (.int q3), .val (.int nn), .val (.int v0_7), .val (.int xx), .val (.int yy), .val (.ref b1), .val (.ref b2), .val (.int (1 : Int32)), .val (.int rx), .val (.int ry), .val (.int (own_blk v0_7 xx)), .val (.int (own_blk v0_7 yy)), .val (.int (own_beg v0_7 (own_blk v0_7 xx))), .val (.int (own_beg v0_7 (own_blk v0_7 yy))), .val (.int v0_161), .val (.int v0_175), .val (.int tc), .unset, .unset] [])) _
    refine XS.iconst X10.here hx rfl (hb hby at_240) ?_
    show Steps p.tables e below (T10.setTop (mkF m 241 #[.val (.int q0), .val (.int q1), .val (.int q2), .val (.int q3), .val (.int nn), .val (.int v0_7), .val (.int xx), .val (.int yy), .val (.ref b1), .val (.ref b2), .val (.int (1 : Int32)), .val (.int rx), .val (.int ry), .val (.int (own_blk v0_7 xx)), .val (.int (own_blk v0_7 yy)), .val (.int (own_beg v0_7 (own_blk v0_7 xx))), .val (.int (own_beg v0_7 (own_blk v0_7 yy))), .val (.int v0_161), .val (.int v0_175), .val (.int tc), .unset, .unset] [(.int (1 : Int32))])) _
    refine XS.goto X10.here hx rfl (pc0 := 241) (pc' := 245) rfl (hb hby at_241) (by decide) (by decide) ?_
    show Steps p.tables e below (T10.setTop (mkF m 245 #[.val (.int q0), .val (.int q1), .val (.int q2), .val (.int q3), .val (.int nn), .val (.int v0_7), .val (.int xx), .val (.int yy), .val (.ref b1), .val (.ref b2), .val (.int (1 : Int32)), .val (.int rx), .val (.int ry), .val (.int (own_blk v0_7 xx)), .val (.int (own_blk v0_7 yy)), .val (.int (own_beg v0_7 (own_blk v0_7 xx))), .val (.int (own_beg v0_7 (own_blk v0_7 yy))), .val (.int v0_161), .val (.int v0_175), .val (.int tc), .unset, .unset] [(.int (1 : Int32))])) _
    refine XS.istore X10.here hx rfl (hb hby at_245) rfl (l' := #[.val (.int q0), .val (.int q1), .val (.int q2), .val (.int q3), .val (.int nn), .val (.int v0_7), .val (.int xx), .val (.int yy), .val (.ref b1), .val (.ref b2), .val (.int (1 : Int32)), .val (.int rx), .val (.int ry), .val (.int (own_blk v0_7 xx)), .val (.int (own_blk v0_7 yy)), .val (.int (own_beg v0_7 (own_blk v0_7 xx))), .val (.int (own_beg v0_7 (own_blk v0_7 yy))), .val (.int v0_161), .val (.int v0_175), .val (.int tc), .unset, .unset]) rfl ?_
    show Steps p.tables e below (T10.setTop (mkF m 247 #[.val (.int q0), .val (.int q1), .val (.int q2), .val (.int q3), .val (.int nn), .val (.int v0_7), .val (.int xx), .val (.int yy), .val (.ref b1), .val (.ref b2), .val (.int (1 : Int32)), .val (.int rx), .val (.int ry), .val (.int (own_blk v0_7 xx)), .val (.int (own_blk v0_7 yy)), .val (.int (own_beg v0_7 (own_blk v0_7 xx))), .val (.int (own_beg v0_7 (own_blk v0_7 yy))), .val (.int v0_161), .val (.int v0_175), .val (.int tc), .unset, .unset] [])) _
    refine XS.iload X10.here hx rfl (hb hby at_247) rfl ?_
    show Steps p.tables e below (T10.setTop (mkF m 249 #[.val (.int q0), .val (.int q1), .val (.int q2), .val (.int q3), .val (.int nn), .val (.int v0_7), .val (.int xx), .val (.int yy), .val (.ref b1), .val (.ref b2), .val (.int (1 : Int32)), .val (.int rx), .val (.int ry), .val (.int (own_blk v0_7 xx)), .val (.int (own_blk v0_7 yy)), .val (.int (own_beg v0_7 (own_blk v0_7 xx))), .val (.int (own_beg v0_7 (own_blk v0_7 yy))), .val (.int v0_161), .val (.int v0_175), .val (.int tc), .unset, .unset] [(.int (1 : Int32))])) _
    refine XS.ifNo X10.here hx rfl (hb hby at_249) rfl ((if0 _ _).trans (feq (by decide : ¬ (1 : Int32) = (0 : Int32))).1) ?_
    show Steps p.tables e below (T10.setTop (mkF m 252 #[.val (.int q0), .val (.int q1), .val (.int q2), .val (.int q3), .val (.int nn), .val (.int v0_7), .val (.int xx), .val (.int yy), .val (.ref b1), .val (.ref b2), .val (.int (1 : Int32)), .val (.int rx), .val (.int ry), .val (.int (own_blk v0_7 xx)), .val (.int (own_blk v0_7 yy)), .val (.int (own_beg v0_7 (own_blk v0_7 xx))), .val (.int (own_beg v0_7 (own_blk v0_7 yy))), .val (.int v0_161), .val (.int v0_175), .val (.int tc), .unset, .unset] [])) _
    refine XS.aload X10.here hx rfl (hb hby at_252) rfl rfl ?_
    show Steps p.tables e below (T10.setTop (mkF m 254 #[.val (.int q0), .val (.int q1), .val (.int q2), .val (.int q3), .val (.int nn), .val (.int v0_7), .val (.int xx), .val (.int yy), .val (.ref b1), .val (.ref b2), .val (.int (1 : Int32)), .val (.int rx), .val (.int ry), .val (.int (own_blk v0_7 xx)), .val (.int (own_blk v0_7 yy)), .val (.int (own_beg v0_7 (own_blk v0_7 xx))), .val (.int (own_beg v0_7 (own_blk v0_7 yy))), .val (.int v0_161), .val (.int v0_175), .val (.int tc), .unset, .unset] [(.ref b2)])) _
    refine XS.iconst X10.here hx rfl (hb hby at_254) ?_
    show Steps p.tables e below (T10.setTop (mkF m 255 #[.val (.int q0), .val (.int q1), .val (.int q2), .val (.int q3), .val (.int nn), .val (.int v0_7), .val (.int xx), .val (.int yy), .val (.ref b1), .val (.ref b2), .val (.int (1 : Int32)), .val (.int rx), .val (.int ry), .val (.int (own_blk v0_7 xx)), .val (.int (own_blk v0_7 yy)), .val (.int (own_beg v0_7 (own_blk v0_7 xx))), .val (.int (own_beg v0_7 (own_blk v0_7 yy))), .val (.int v0_161), .val (.int v0_175), .val (.int tc), .unset, .unset] [(.int (0 : Int32)), (.ref b2)])) _
    refine st11.trans ?_
    show Steps p.tables e below (T11.setTop (mkF m 258 #[.val (.int q0), .val (.int q1), .val (.int q2), .val (.int q3), .val (.int nn), .val (.int v0_7), .val (.int xx), .val (.int yy), .val (.ref b1), .val (.ref b2), .val (.int (1 : Int32)), .val (.int rx), .val (.int ry), .val (.int (own_blk v0_7 xx)), .val (.int (own_blk v0_7 yy)), .val (.int (own_beg v0_7 (own_blk v0_7 xx))), .val (.int (own_beg v0_7 (own_blk v0_7 yy))), .val (.int v0_161), .val (.int v0_175), .val (.int tc), .unset, .unset] [(.int (own_blk v0_7 xx))])) _
    refine XS.iload X11.here hx rfl (hb hby at_258) rfl ?_
    show Steps p.tables e below (T11.setTop (mkF m 260 #[.val (.int q0), .val (.int q1), .val (.int q2), .val (.int q3), .val (.int nn), .val (.int v0_7), .val (.int xx), .val (.int yy), .val (.ref b1), .val (.ref b2), .val (.int (1 : Int32)), .val (.int rx), .val (.int ry), .val (.int (own_blk v0_7 xx)), .val (.int (own_blk v0_7 yy)), .val (.int (own_beg v0_7 (own_blk v0_7 xx))), .val (.int (own_beg v0_7 (own_blk v0_7 yy))), .val (.int v0_161), .val (.int v0_175), .val (.int tc), .unset, .unset] [(.int (own_blk v0_7 xx)), (.int (own_blk v0_7 xx))])) _
    refine XS.icmpNo X11.here hx rfl (hb hby at_260) rfl (teq (rfl : (own_blk v0_7 xx) = (own_blk v0_7 xx))).2 ?_
    show Steps p.tables e below (T11.setTop (mkF m 263 #[.val (.int q0), .val (.int q1), .val (.int q2), .val (.int q3), .val (.int nn), .val (.int v0_7), .val (.int xx), .val (.int yy), .val (.ref b1), .val (.ref b2), .val (.int (1 : Int32)), .val (.int rx), .val (.int ry), .val (.int (own_blk v0_7 xx)), .val (.int (own_blk v0_7 yy)), .val (.int (own_beg v0_7 (own_blk v0_7 xx))), .val (.int (own_beg v0_7 (own_blk v0_7 yy))), .val (.int v0_161), .val (.int v0_175), .val (.int tc), .unset, .unset] [])) _
    refine XS.iconst X11.here hx rfl (hb hby at_263) ?_
    show Steps p.tables e below (T11.setTop (mkF m 264 #[.val (.int q0), .val (.int q1), .val (.int q2), .val (.int q3), .val (.int nn), .val (.int v0_7), .val (.int xx), .val (.int yy), .val (.ref b1), .val (.ref b2), .val (.int (1 : Int32)), .val (.int rx), .val (.int ry), .val (.int (own_blk v0_7 xx)), .val (.int (own_blk v0_7 yy)), .val (.int (own_beg v0_7 (own_blk v0_7 xx))), .val (.int (own_beg v0_7 (own_blk v0_7 yy))), .val (.int v0_161), .val (.int v0_175), .val (.int tc), .unset, .unset] [(.int (1 : Int32))])) _
    refine XS.goto X11.here hx rfl (pc0 := 264) (pc' := 268) rfl (hb hby at_264) (by decide) (by decide) ?_
    show Steps p.tables e below (T11.setTop (mkF m 268 #[.val (.int q0), .val (.int q1), .val (.int q2), .val (.int q3), .val (.int nn), .val (.int v0_7), .val (.int xx), .val (.int yy), .val (.ref b1), .val (.ref b2), .val (.int (1 : Int32)), .val (.int rx), .val (.int ry), .val (.int (own_blk v0_7 xx)), .val (.int (own_blk v0_7 yy)), .val (.int (own_beg v0_7 (own_blk v0_7 xx))), .val (.int (own_beg v0_7 (own_blk v0_7 yy))), .val (.int v0_161), .val (.int v0_175), .val (.int tc), .unset, .unset] [(.int (1 : Int32))])) _
    refine XS.istore X11.here hx rfl (hb hby at_268) rfl (l' := #[.val (.int q0), .val (.int q1), .val (.int q2), .val (.int q3), .val (.int nn), .val (.int v0_7), .val (.int xx), .val (.int yy), .val (.ref b1), .val (.ref b2), .val (.int (1 : Int32)), .val (.int rx), .val (.int ry), .val (.int (own_blk v0_7 xx)), .val (.int (own_blk v0_7 yy)), .val (.int (own_beg v0_7 (own_blk v0_7 xx))), .val (.int (own_beg v0_7 (own_blk v0_7 yy))), .val (.int v0_161), .val (.int v0_175), .val (.int tc), .unset, .unset]) rfl ?_
    show Steps p.tables e below (T11.setTop (mkF m 270 #[.val (.int q0), .val (.int q1), .val (.int q2), .val (.int q3), .val (.int nn), .val (.int v0_7), .val (.int xx), .val (.int yy), .val (.ref b1), .val (.ref b2), .val (.int (1 : Int32)), .val (.int rx), .val (.int ry), .val (.int (own_blk v0_7 xx)), .val (.int (own_blk v0_7 yy)), .val (.int (own_beg v0_7 (own_blk v0_7 xx))), .val (.int (own_beg v0_7 (own_blk v0_7 yy))), .val (.int v0_161), .val (.int v0_175), .val (.int tc), .unset, .unset] [])) _
    refine st12 _ ?_
    show Steps p.tables e below (T12.setTop (mkF m 298 #[.val (.int q0), .val (.int q1), .val (.int q2), .val (.int q3), .val (.int nn), .val (.int v0_7), .val (.int xx), .val (.int yy), .val (.ref b1), .val (.ref b2), .val (.int (1 : Int32)), .val (.int rx), .val (.int ry), .val (.int (own_blk v0_7 xx)), .val (.int (own_blk v0_7 yy)), .val (.int (own_beg v0_7 (own_blk v0_7 xx))), .val (.int (own_beg v0_7 (own_blk v0_7 yy))), .val (.int v0_161), .val (.int v0_175), .val (.int tc), .unset, .unset] [])) _
    refine XS.iload X12.here hx rfl (hb hby at_298) rfl ?_
    show Steps p.tables e below (T12.setTop (mkF m 300 #[.val (.int q0), .val (.int q1), .val (.int q2), .val (.int q3), .val (.int nn), .val (.int v0_7), .val (.int xx), .val (.int yy), .val (.ref b1), .val (.ref b2), .val (.int (1 : Int32)), .val (.int rx), .val (.int ry), .val (.int (own_blk v0_7 xx)), .val (.int (own_blk v0_7 yy)), .val (.int (own_beg v0_7 (own_blk v0_7 xx))), .val (.int (own_beg v0_7 (own_blk v0_7 yy))), .val (.int v0_161), .val (.int v0_175), .val (.int tc), .unset, .unset] [(.int (1 : Int32))])) _
    refine XS.ifNo X12.here hx rfl (hb hby at_300) rfl ((if0 _ _).trans (feq (by decide : ¬ (1 : Int32) = (0 : Int32))).1) ?_
    show Steps p.tables e below (T12.setTop (mkF m 303 #[.val (.int q0), .val (.int q1), .val (.int q2), .val (.int q3), .val (.int nn), .val (.int v0_7), .val (.int xx), .val (.int yy), .val (.ref b1), .val (.ref b2), .val (.int (1 : Int32)), .val (.int rx), .val (.int ry), .val (.int (own_blk v0_7 xx)), .val (.int (own_blk v0_7 yy)), .val (.int (own_beg v0_7 (own_blk v0_7 xx))), .val (.int (own_beg v0_7 (own_blk v0_7 yy))), .val (.int v0_161), .val (.int v0_175), .val (.int tc), .unset, .unset] [])) _
    refine XS.aload X12.here hx rfl (hb hby at_303) rfl rfl ?_
    show Steps p.tables e below (T12.setTop (mkF m 305 #[.val (.int q0), .val (.int q1), .val (.int q2), .val (.int q3), .val (.int nn), .val (.int v0_7), .val (.int xx), .val (.int yy), .val (.ref b1), .val (.ref b2), .val (.int (1 : Int32)), .val (.int rx), .val (.int ry), .val (.int (own_blk v0_7 xx)), .val (.int (own_blk v0_7 yy)), .val (.int (own_beg v0_7 (own_blk v0_7 xx))), .val (.int (own_beg v0_7 (own_blk v0_7 yy))), .val (.int v0_161), .val (.int v0_175), .val (.int tc), .unset, .unset] [(.ref b2)])) _
    refine XS.iload X12.here hx rfl (hb hby at_305) rfl ?_
    show Steps p.tables e below (T12.setTop (mkF m 307 #[.val (.int q0), .val (.int q1), .val (.int q2), .val (.int q3), .val (.int nn), .val (.int v0_7), .val (.int xx), .val (.int yy), .val (.ref b1), .val (.ref b2), .val (.int (1 : Int32)), .val (.int rx), .val (.int ry), .val (.int (own_blk v0_7 xx)), .val (.int (own_blk v0_7 yy)), .val (.int (own_beg v0_7 (own_blk v0_7 xx))), .val (.int (own_beg v0_7 (own_blk v0_7 yy))), .val (.int v0_161), .val (.int v0_175), .val (.int tc), .unset, .unset] [(.int (own_blk v0_7 xx)), (.ref b2)])) _
    refine st13.trans ?_
    show Steps p.tables e below (T13.setTop (mkF m 310 #[.val (.int q0), .val (.int q1), .val (.int q2), .val (.int q3), .val (.int nn), .val (.int v0_7), .val (.int xx), .val (.int yy), .val (.ref b1), .val (.ref b2), .val (.int (1 : Int32)), .val (.int rx), .val (.int ry), .val (.int (own_blk v0_7 xx)), .val (.int (own_blk v0_7 yy)), .val (.int (own_beg v0_7 (own_blk v0_7 xx))), .val (.int (own_beg v0_7 (own_blk v0_7 yy))), .val (.int v0_161), .val (.int v0_175), .val (.int tc), .unset, .unset] [(.int ((own_beg v0_7 (own_blk v0_7 xx)) + (if v0_161 = (0 : Int32) then (1 : Int32) else if v0_175 = (0 : Int32) then (1 : Int32) else (2 : Int32))))])) _
    refine XS.iload X13.here hx rfl (hb hby at_310) rfl ?_
    show Steps p.tables e below (T13.setTop (mkF m 312 #[.val (.int q0), .val (.int q1), .val (.int q2), .val (.int q3), .val (.int nn), .val (.int v0_7), .val (.int xx), .val (.int yy), .val (.ref b1), .val (.ref b2), .val (.int (1 : Int32)), .val (.int rx), .val (.int ry), .val (.int (own_blk v0_7 xx)), .val (.int (own_blk v0_7 yy)), .val (.int (own_beg v0_7 (own_blk v0_7 xx))), .val (.int (own_beg v0_7 (own_blk v0_7 yy))), .val (.int v0_161), .val (.int v0_175), .val (.int tc), .unset, .unset] [(.int (own_beg v0_7 (own_blk v0_7 xx))), (.int ((own_beg v0_7 (own_blk v0_7 xx)) + (if v0_161 = (0 : Int32) then (1 : Int32) else if v0_175 = (0 : Int32) then (1 : Int32) else (2 : Int32))))])) _
    refine sg_312  (.val (.int q0)) (.val (.int q1)) (.val (.int q2)) (.val (.int q3)) (.val (.int nn)) (.val (.int v0_7)) (.val (.int xx)) (.val (.int yy)) (.val (.ref b1)) (.val (.ref b2)) (.val (.int (1 : Int32))) (.val (.int rx)) (.val (.int ry)) (.val (.int (own_blk v0_7 xx))) (.val (.int (own_blk v0_7 yy))) (.val (.int (own_beg v0_7 (own_blk v0_7 xx)))) (.val (.int (own_beg v0_7 (own_blk v0_7 yy)))) (v0_161) (v0_175) (.val (.int tc)) (.unset) (.unset) ((own_beg v0_7 (own_blk v0_7 xx))) (((own_beg v0_7 (own_blk v0_7 xx)) + (if v0_161 = (0 : Int32) then (1 : Int32) else if v0_175 = (0 : Int32) then (1 : Int32) else (2 : Int32)))) v0_312 hv0_312 X13 hx hZ hw hby hown ?_
    show Steps p.tables e below (T13.setTop (mkF m 327 #[.val (.int q0), .val (.int q1), .val (.int q2), .val (.int q3), .val (.int nn), .val (.int v0_7), .val (.int xx), .val (.int yy), .val (.ref b1), .val (.ref b2), .val (.int (1 : Int32)), .val (.int rx), .val (.int ry), .val (.int (own_blk v0_7 xx)), .val (.int (own_blk v0_7 yy)), .val (.int (own_beg v0_7 (own_blk v0_7 xx))), .val (.int (own_beg v0_7 (own_blk v0_7 yy))), .val (.int v0_161), .val (.int v0_175), .val (.int tc), .unset, .unset] [(.int v0_312), (.int (own_beg v0_7 (own_blk v0_7 xx))), (.int ((own_beg v0_7 (own_blk v0_7 xx)) + (if v0_161 = (0 : Int32) then (1 : Int32) else if v0_175 = (0 : Int32) then (1 : Int32) else (2 : Int32))))])) _
    refine XS.iadd X13.here hx rfl (hb hby at_327) rfl ?_
    show Steps p.tables e below (T13.setTop (mkF m 328 #[.val (.int q0), .val (.int q1), .val (.int q2), .val (.int q3), .val (.int nn), .val (.int v0_7), .val (.int xx), .val (.int yy), .val (.ref b1), .val (.ref b2), .val (.int (1 : Int32)), .val (.int rx), .val (.int ry), .val (.int (own_blk v0_7 xx)), .val (.int (own_blk v0_7 yy)), .val (.int (own_beg v0_7 (own_blk v0_7 xx))), .val (.int (own_beg v0_7 (own_blk v0_7 yy))), .val (.int v0_161), .val (.int v0_175), .val (.int tc), .unset, .unset] [(.int ((own_beg v0_7 (own_blk v0_7 xx)) + v0_312)), (.int ((own_beg v0_7 (own_blk v0_7 xx)) + (if v0_161 = (0 : Int32) then (1 : Int32) else if v0_175 = (0 : Int32) then (1 : Int32) else (2 : Int32))))])) _
    refine XS.icmpNo X13.here hx rfl (hb hby at_328) rfl (teq (by rw [hv0_312] : ((own_beg v0_7 (own_blk v0_7 xx)) + (if v0_161 = (0 : Int32) then (1 : Int32) else if v0_175 = (0 : Int32) then (1 : Int32) else (2 : Int32))) = ((own_beg v0_7 (own_blk v0_7 xx)) + v0_312))).2 ?_
    show Steps p.tables e below (T13.setTop (mkF m 331 #[.val (.int q0), .val (.int q1), .val (.int q2), .val (.int q3), .val (.int nn), .val (.int v0_7), .val (.int xx), .val (.int yy), .val (.ref b1), .val (.ref b2), .val (.int (1 : Int32)), .val (.int rx), .val (.int ry), .val (.int (own_blk v0_7 xx)), .val (.int (own_blk v0_7 yy)), .val (.int (own_beg v0_7 (own_blk v0_7 xx))), .val (.int (own_beg v0_7 (own_blk v0_7 yy))), .val (.int v0_161), .val (.int v0_175), .val (.int tc), .unset, .unset] [])) _
    refine XS.iconst X13.here hx rfl (hb hby at_331) ?_
    show Steps p.tables e below (T13.setTop (mkF m 332 #[.val (.int q0), .val (.int q1), .val (.int q2), .val (.int q3), .val (.int nn), .val (.int v0_7), .val (.int xx), .val (.int yy), .val (.ref b1), .val (.ref b2), .val (.int (1 : Int32)), .val (.int rx), .val (.int ry), .val (.int (own_blk v0_7 xx)), .val (.int (own_blk v0_7 yy)), .val (.int (own_beg v0_7 (own_blk v0_7 xx))), .val (.int (own_beg v0_7 (own_blk v0_7 yy))), .val (.int v0_161), .val (.int v0_175), .val (.int tc), .unset, .unset] [(.int (1 : Int32))])) _
    refine XS.goto X13.here hx rfl (pc0 := 332) (pc' := 336) rfl (hb hby at_332) (by decide) (by decide) ?_
    show Steps p.tables e below (T13.setTop (mkF m 336 #[.val (.int q0), .val (.int q1), .val (.int q2), .val (.int q3), .val (.int nn), .val (.int v0_7), .val (.int xx), .val (.int yy), .val (.ref b1), .val (.ref b2), .val (.int (1 : Int32)), .val (.int rx), .val (.int ry), .val (.int (own_blk v0_7 xx)), .val (.int (own_blk v0_7 yy)), .val (.int (own_beg v0_7 (own_blk v0_7 xx))), .val (.int (own_beg v0_7 (own_blk v0_7 yy))), .val (.int v0_161), .val (.int v0_175), .val (.int tc), .unset, .unset] [(.int (1 : Int32))])) _
    refine XS.istore X13.here hx rfl (hb hby at_336) rfl (l' := #[.val (.int q0), .val (.int q1), .val (.int q2), .val (.int q3), .val (.int nn), .val (.int v0_7), .val (.int xx), .val (.int yy), .val (.ref b1), .val (.ref b2), .val (.int (1 : Int32)), .val (.int rx), .val (.int ry), .val (.int (own_blk v0_7 xx)), .val (.int (own_blk v0_7 yy)), .val (.int (own_beg v0_7 (own_blk v0_7 xx))), .val (.int (own_beg v0_7 (own_blk v0_7 yy))), .val (.int v0_161), .val (.int v0_175), .val (.int tc), .unset, .unset]) rfl ?_
    show Steps p.tables e below (T13.setTop (mkF m 338 #[.val (.int q0), .val (.int q1), .val (.int q2), .val (.int q3), .val (.int nn), .val (.int v0_7), .val (.int xx), .val (.int yy), .val (.ref b1), .val (.ref b2), .val (.int (1 : Int32)), .val (.int rx), .val (.int ry), .val (.int (own_blk v0_7 xx)), .val (.int (own_blk v0_7 yy)), .val (.int (own_beg v0_7 (own_blk v0_7 xx))), .val (.int (own_beg v0_7 (own_blk v0_7 yy))), .val (.int v0_161), .val (.int v0_175), .val (.int tc), .unset, .unset] [])) _
    refine st14 _ ?_
    show Steps p.tables e below (T14.setTop (mkF m 369 #[.val (.int q0), .val (.int q1), .val (.int q2), .val (.int q3), .val (.int nn), .val (.int v0_7), .val (.int xx), .val (.int yy), .val (.ref b1), .val (.ref b2), .val (.int (1 : Int32)), .val (.int rx), .val (.int ry), .val (.int (own_blk v0_7 xx)), .val (.int (own_blk v0_7 yy)), .val (.int (own_beg v0_7 (own_blk v0_7 xx))), .val (.int (own_beg v0_7 (own_blk v0_7 yy))), .val (.int v0_161), .val (.int v0_175), .val (.int tc), .unset, .unset] [])) _
    refine XS.aload X14.here hx rfl (hb hby at_369) rfl rfl ?_
    show Steps p.tables e below (T14.setTop (mkF m 371 #[.val (.int q0), .val (.int q1), .val (.int q2), .val (.int q3), .val (.int nn), .val (.int v0_7), .val (.int xx), .val (.int yy), .val (.ref b1), .val (.ref b2), .val (.int (1 : Int32)), .val (.int rx), .val (.int ry), .val (.int (own_blk v0_7 xx)), .val (.int (own_blk v0_7 yy)), .val (.int (own_beg v0_7 (own_blk v0_7 xx))), .val (.int (own_beg v0_7 (own_blk v0_7 yy))), .val (.int v0_161), .val (.int v0_175), .val (.int tc), .unset, .unset] [(.ref b1)])) _
    refine XS.iconst X14.here hx rfl (hb hby at_371) ?_
    show Steps p.tables e below (T14.setTop (mkF m 372 #[.val (.int q0), .val (.int q1), .val (.int q2), .val (.int q3), .val (.int nn), .val (.int v0_7), .val (.int xx), .val (.int yy), .val (.ref b1), .val (.ref b2), .val (.int (1 : Int32)), .val (.int rx), .val (.int ry), .val (.int (own_blk v0_7 xx)), .val (.int (own_blk v0_7 yy)), .val (.int (own_beg v0_7 (own_blk v0_7 xx))), .val (.int (own_beg v0_7 (own_blk v0_7 yy))), .val (.int v0_161), .val (.int v0_175), .val (.int tc), .unset, .unset] [(.int (0 : Int32)), (.ref b1)])) _
    refine XS.aload X14.here hx rfl (hb hby at_372) rfl rfl ?_
    show Steps p.tables e below (T14.setTop (mkF m 374 #[.val (.int q0), .val (.int q1), .val (.int q2), .val (.int q3), .val (.int nn), .val (.int v0_7), .val (.int xx), .val (.int yy), .val (.ref b1), .val (.ref b2), .val (.int (1 : Int32)), .val (.int rx), .val (.int ry), .val (.int (own_blk v0_7 xx)), .val (.int (own_blk v0_7 yy)), .val (.int (own_beg v0_7 (own_blk v0_7 xx))), .val (.int (own_beg v0_7 (own_blk v0_7 yy))), .val (.int v0_161), .val (.int v0_175), .val (.int tc), .unset, .unset] [(.ref b2), (.int (0 : Int32)), (.ref b1)])) _
    refine XS.iconst X14.here hx rfl (hb hby at_374) ?_
    show Steps p.tables e below (T14.setTop (mkF m 375 #[.val (.int q0), .val (.int q1), .val (.int q2), .val (.int q3), .val (.int nn), .val (.int v0_7), .val (.int xx), .val (.int yy), .val (.ref b1), .val (.ref b2), .val (.int (1 : Int32)), .val (.int rx), .val (.int ry), .val (.int (own_blk v0_7 xx)), .val (.int (own_blk v0_7 yy)), .val (.int (own_beg v0_7 (own_blk v0_7 xx))), .val (.int (own_beg v0_7 (own_blk v0_7 yy))), .val (.int v0_161), .val (.int v0_175), .val (.int tc), .unset, .unset] [(.int (0 : Int32)), (.ref b2), (.int (0 : Int32)), (.ref b1)])) _
    refine XS.iload X14.here hx rfl (hb hby at_375) rfl ?_
    show Steps p.tables e below (T14.setTop (mkF m 377 #[.val (.int q0), .val (.int q1), .val (.int q2), .val (.int q3), .val (.int nn), .val (.int v0_7), .val (.int xx), .val (.int yy), .val (.ref b1), .val (.ref b2), .val (.int (1 : Int32)), .val (.int rx), .val (.int ry), .val (.int (own_blk v0_7 xx)), .val (.int (own_blk v0_7 yy)), .val (.int (own_beg v0_7 (own_blk v0_7 xx))), .val (.int (own_beg v0_7 (own_blk v0_7 yy))), .val (.int v0_161), .val (.int v0_175), .val (.int tc), .unset, .unset] [(.int nn), (.int (0 : Int32)), (.ref b2), (.int (0 : Int32)), (.ref b1)])) _
    refine st15 _ ?_
    show Steps p.tables e below (T15.setTop (mkF m 380 #[.val (.int q0), .val (.int q1), .val (.int q2), .val (.int q3), .val (.int nn), .val (.int v0_7), .val (.int xx), .val (.int yy), .val (.ref b1), .val (.ref b2), .val (.int (1 : Int32)), .val (.int rx), .val (.int ry), .val (.int (own_blk v0_7 xx)), .val (.int (own_blk v0_7 yy)), .val (.int (own_beg v0_7 (own_blk v0_7 xx))), .val (.int (own_beg v0_7 (own_blk v0_7 yy))), .val (.int v0_161), .val (.int v0_175), .val (.int tc), .unset, .unset] [(.int (own_at nn lE (0 : Int32))), (.int (0 : Int32)), (.ref b1)])) _
    refine st18 _ ?_
    show Steps p.tables e below (T18.setTop (mkF m 381 #[.val (.int q0), .val (.int q1), .val (.int q2), .val (.int q3), .val (.int nn), .val (.int v0_7), .val (.int xx), .val (.int yy), .val (.ref b1), .val (.ref b2), .val (.int (1 : Int32)), .val (.int rx), .val (.int ry), .val (.int (own_blk v0_7 xx)), .val (.int (own_blk v0_7 yy)), .val (.int (own_beg v0_7 (own_blk v0_7 xx))), .val (.int (own_beg v0_7 (own_blk v0_7 yy))), .val (.int v0_161), .val (.int v0_175), .val (.int tc), .unset, .unset] [])) _
    refine XS.aload X18.here hx rfl (hb hby at_381) rfl rfl ?_
    show Steps p.tables e below (T18.setTop (mkF m 383 #[.val (.int q0), .val (.int q1), .val (.int q2), .val (.int q3), .val (.int nn), .val (.int v0_7), .val (.int xx), .val (.int yy), .val (.ref b1), .val (.ref b2), .val (.int (1 : Int32)), .val (.int rx), .val (.int ry), .val (.int (own_blk v0_7 xx)), .val (.int (own_blk v0_7 yy)), .val (.int (own_beg v0_7 (own_blk v0_7 xx))), .val (.int (own_beg v0_7 (own_blk v0_7 yy))), .val (.int v0_161), .val (.int v0_175), .val (.int tc), .unset, .unset] [(.ref b1)])) _
    refine XS.iconst X18.here hx rfl (hb hby at_383) ?_
    show Steps p.tables e below (T18.setTop (mkF m 384 #[.val (.int q0), .val (.int q1), .val (.int q2), .val (.int q3), .val (.int nn), .val (.int v0_7), .val (.int xx), .val (.int yy), .val (.ref b1), .val (.ref b2), .val (.int (1 : Int32)), .val (.int rx), .val (.int ry), .val (.int (own_blk v0_7 xx)), .val (.int (own_blk v0_7 yy)), .val (.int (own_beg v0_7 (own_blk v0_7 xx))), .val (.int (own_beg v0_7 (own_blk v0_7 yy))), .val (.int v0_161), .val (.int v0_175), .val (.int tc), .unset, .unset] [(.int (1 : Int32)), (.ref b1)])) _
    refine XS.aload X18.here hx rfl (hb hby at_384) rfl rfl ?_
    show Steps p.tables e below (T18.setTop (mkF m 386 #[.val (.int q0), .val (.int q1), .val (.int q2), .val (.int q3), .val (.int nn), .val (.int v0_7), .val (.int xx), .val (.int yy), .val (.ref b1), .val (.ref b2), .val (.int (1 : Int32)), .val (.int rx), .val (.int ry), .val (.int (own_blk v0_7 xx)), .val (.int (own_blk v0_7 yy)), .val (.int (own_beg v0_7 (own_blk v0_7 xx))), .val (.int (own_beg v0_7 (own_blk v0_7 yy))), .val (.int v0_161), .val (.int v0_175), .val (.int tc), .unset, .unset] [(.ref b2), (.int (1 : Int32)), (.ref b1)])) _
    refine XS.iconst X18.here hx rfl (hb hby at_386) ?_
    show Steps p.tables e below (T18.setTop (mkF m 387 #[.val (.int q0), .val (.int q1), .val (.int q2), .val (.int q3), .val (.int nn), .val (.int v0_7), .val (.int xx), .val (.int yy), .val (.ref b1), .val (.ref b2), .val (.int (1 : Int32)), .val (.int rx), .val (.int ry), .val (.int (own_blk v0_7 xx)), .val (.int (own_blk v0_7 yy)), .val (.int (own_beg v0_7 (own_blk v0_7 xx))), .val (.int (own_beg v0_7 (own_blk v0_7 yy))), .val (.int v0_161), .val (.int v0_175), .val (.int tc), .unset, .unset] [(.int (1 : Int32)), (.ref b2), (.int (1 : Int32)), (.ref b1)])) _
    refine XS.iload X18.here hx rfl (hb hby at_387) rfl ?_
    show Steps p.tables e below (T18.setTop (mkF m 389 #[.val (.int q0), .val (.int q1), .val (.int q2), .val (.int q3), .val (.int nn), .val (.int v0_7), .val (.int xx), .val (.int yy), .val (.ref b1), .val (.ref b2), .val (.int (1 : Int32)), .val (.int rx), .val (.int ry), .val (.int (own_blk v0_7 xx)), .val (.int (own_blk v0_7 yy)), .val (.int (own_beg v0_7 (own_blk v0_7 xx))), .val (.int (own_beg v0_7 (own_blk v0_7 yy))), .val (.int v0_161), .val (.int v0_175), .val (.int tc), .unset, .unset] [(.int nn), (.int (1 : Int32)), (.ref b2), (.int (1 : Int32)), (.ref b1)])) _
    refine st19 _ ?_
    show Steps p.tables e below (T19.setTop (mkF m 392 #[.val (.int q0), .val (.int q1), .val (.int q2), .val (.int q3), .val (.int nn), .val (.int v0_7), .val (.int xx), .val (.int yy), .val (.ref b1), .val (.ref b2), .val (.int (1 : Int32)), .val (.int rx), .val (.int ry), .val (.int (own_blk v0_7 xx)), .val (.int (own_blk v0_7 yy)), .val (.int (own_beg v0_7 (own_blk v0_7 xx))), .val (.int (own_beg v0_7 (own_blk v0_7 yy))), .val (.int v0_161), .val (.int v0_175), .val (.int tc), .unset, .unset] [(.int (own_at nn lE (1 : Int32))), (.int (1 : Int32)), (.ref b1)])) _
    refine st21 _ ?_
    show Steps p.tables e below (T21.setTop (mkF m 393 #[.val (.int q0), .val (.int q1), .val (.int q2), .val (.int q3), .val (.int nn), .val (.int v0_7), .val (.int xx), .val (.int yy), .val (.ref b1), .val (.ref b2), .val (.int (1 : Int32)), .val (.int rx), .val (.int ry), .val (.int (own_blk v0_7 xx)), .val (.int (own_blk v0_7 yy)), .val (.int (own_beg v0_7 (own_blk v0_7 xx))), .val (.int (own_beg v0_7 (own_blk v0_7 yy))), .val (.int v0_161), .val (.int v0_175), .val (.int tc), .unset, .unset] [])) _
    refine XS.aload X21.here hx rfl (hb hby at_393) rfl rfl ?_
    show Steps p.tables e below (T21.setTop (mkF m 395 #[.val (.int q0), .val (.int q1), .val (.int q2), .val (.int q3), .val (.int nn), .val (.int v0_7), .val (.int xx), .val (.int yy), .val (.ref b1), .val (.ref b2), .val (.int (1 : Int32)), .val (.int rx), .val (.int ry), .val (.int (own_blk v0_7 xx)), .val (.int (own_blk v0_7 yy)), .val (.int (own_beg v0_7 (own_blk v0_7 xx))), .val (.int (own_beg v0_7 (own_blk v0_7 yy))), .val (.int v0_161), .val (.int v0_175), .val (.int tc), .unset, .unset] [(.ref b1)])) _
    refine XS.iconst X21.here hx rfl (hb hby at_395) ?_
    show Steps p.tables e below (T21.setTop (mkF m 396 #[.val (.int q0), .val (.int q1), .val (.int q2), .val (.int q3), .val (.int nn), .val (.int v0_7), .val (.int xx), .val (.int yy), .val (.ref b1), .val (.ref b2), .val (.int (1 : Int32)), .val (.int rx), .val (.int ry), .val (.int (own_blk v0_7 xx)), .val (.int (own_blk v0_7 yy)), .val (.int (own_beg v0_7 (own_blk v0_7 xx))), .val (.int (own_beg v0_7 (own_blk v0_7 yy))), .val (.int v0_161), .val (.int v0_175), .val (.int tc), .unset, .unset] [(.int (2 : Int32)), (.ref b1)])) _
    refine XS.aload X21.here hx rfl (hb hby at_396) rfl rfl ?_
    show Steps p.tables e below (T21.setTop (mkF m 398 #[.val (.int q0), .val (.int q1), .val (.int q2), .val (.int q3), .val (.int nn), .val (.int v0_7), .val (.int xx), .val (.int yy), .val (.ref b1), .val (.ref b2), .val (.int (1 : Int32)), .val (.int rx), .val (.int ry), .val (.int (own_blk v0_7 xx)), .val (.int (own_blk v0_7 yy)), .val (.int (own_beg v0_7 (own_blk v0_7 xx))), .val (.int (own_beg v0_7 (own_blk v0_7 yy))), .val (.int v0_161), .val (.int v0_175), .val (.int tc), .unset, .unset] [(.ref b2), (.int (2 : Int32)), (.ref b1)])) _
    refine XS.iconst X21.here hx rfl (hb hby at_398) ?_
    show Steps p.tables e below (T21.setTop (mkF m 399 #[.val (.int q0), .val (.int q1), .val (.int q2), .val (.int q3), .val (.int nn), .val (.int v0_7), .val (.int xx), .val (.int yy), .val (.ref b1), .val (.ref b2), .val (.int (1 : Int32)), .val (.int rx), .val (.int ry), .val (.int (own_blk v0_7 xx)), .val (.int (own_blk v0_7 yy)), .val (.int (own_beg v0_7 (own_blk v0_7 xx))), .val (.int (own_beg v0_7 (own_blk v0_7 yy))), .val (.int v0_161), .val (.int v0_175), .val (.int tc), .unset, .unset] [(.int (2 : Int32)), (.ref b2), (.int (2 : Int32)), (.ref b1)])) _
    refine XS.iload X21.here hx rfl (hb hby at_399) rfl ?_
    show Steps p.tables e below (T21.setTop (mkF m 401 #[.val (.int q0), .val (.int q1), .val (.int q2), .val (.int q3), .val (.int nn), .val (.int v0_7), .val (.int xx), .val (.int yy), .val (.ref b1), .val (.ref b2), .val (.int (1 : Int32)), .val (.int rx), .val (.int ry), .val (.int (own_blk v0_7 xx)), .val (.int (own_blk v0_7 yy)), .val (.int (own_beg v0_7 (own_blk v0_7 xx))), .val (.int (own_beg v0_7 (own_blk v0_7 yy))), .val (.int v0_161), .val (.int v0_175), .val (.int tc), .unset, .unset] [(.int nn), (.int (2 : Int32)), (.ref b2), (.int (2 : Int32)), (.ref b1)])) _
    refine st22 _ ?_
    show Steps p.tables e below (T22.setTop (mkF m 404 #[.val (.int q0), .val (.int q1), .val (.int q2), .val (.int q3), .val (.int nn), .val (.int v0_7), .val (.int xx), .val (.int yy), .val (.ref b1), .val (.ref b2), .val (.int (1 : Int32)), .val (.int rx), .val (.int ry), .val (.int (own_blk v0_7 xx)), .val (.int (own_blk v0_7 yy)), .val (.int (own_beg v0_7 (own_blk v0_7 xx))), .val (.int (own_beg v0_7 (own_blk v0_7 yy))), .val (.int v0_161), .val (.int v0_175), .val (.int tc), .unset, .unset] [(.int (own_at nn lE (2 : Int32))), (.int (2 : Int32)), (.ref b1)])) _
    refine st25 _ ?_
    show Steps p.tables e below (T25.setTop (mkF m 405 #[.val (.int q0), .val (.int q1), .val (.int q2), .val (.int q3), .val (.int nn), .val (.int v0_7), .val (.int xx), .val (.int yy), .val (.ref b1), .val (.ref b2), .val (.int (1 : Int32)), .val (.int rx), .val (.int ry), .val (.int (own_blk v0_7 xx)), .val (.int (own_blk v0_7 yy)), .val (.int (own_beg v0_7 (own_blk v0_7 xx))), .val (.int (own_beg v0_7 (own_blk v0_7 yy))), .val (.int v0_161), .val (.int v0_175), .val (.int tc), .unset, .unset] [])) _
    refine XS.aload X25.here hx rfl (hb hby at_405) rfl rfl ?_
    show Steps p.tables e below (T25.setTop (mkF m 407 #[.val (.int q0), .val (.int q1), .val (.int q2), .val (.int q3), .val (.int nn), .val (.int v0_7), .val (.int xx), .val (.int yy), .val (.ref b1), .val (.ref b2), .val (.int (1 : Int32)), .val (.int rx), .val (.int ry), .val (.int (own_blk v0_7 xx)), .val (.int (own_blk v0_7 yy)), .val (.int (own_beg v0_7 (own_blk v0_7 xx))), .val (.int (own_beg v0_7 (own_blk v0_7 yy))), .val (.int v0_161), .val (.int v0_175), .val (.int tc), .unset, .unset] [(.ref b1)])) _
    refine XS.iconst X25.here hx rfl (hb hby at_407) ?_
    show Steps p.tables e below (T25.setTop (mkF m 408 #[.val (.int q0), .val (.int q1), .val (.int q2), .val (.int q3), .val (.int nn), .val (.int v0_7), .val (.int xx), .val (.int yy), .val (.ref b1), .val (.ref b2), .val (.int (1 : Int32)), .val (.int rx), .val (.int ry), .val (.int (own_blk v0_7 xx)), .val (.int (own_blk v0_7 yy)), .val (.int (own_beg v0_7 (own_blk v0_7 xx))), .val (.int (own_beg v0_7 (own_blk v0_7 yy))), .val (.int v0_161), .val (.int v0_175), .val (.int tc), .unset, .unset] [(.int (3 : Int32)), (.ref b1)])) _
    refine XS.aload X25.here hx rfl (hb hby at_408) rfl rfl ?_
    show Steps p.tables e below (T25.setTop (mkF m 410 #[.val (.int q0), .val (.int q1), .val (.int q2), .val (.int q3), .val (.int nn), .val (.int v0_7), .val (.int xx), .val (.int yy), .val (.ref b1), .val (.ref b2), .val (.int (1 : Int32)), .val (.int rx), .val (.int ry), .val (.int (own_blk v0_7 xx)), .val (.int (own_blk v0_7 yy)), .val (.int (own_beg v0_7 (own_blk v0_7 xx))), .val (.int (own_beg v0_7 (own_blk v0_7 yy))), .val (.int v0_161), .val (.int v0_175), .val (.int tc), .unset, .unset] [(.ref b2), (.int (3 : Int32)), (.ref b1)])) _
    refine XS.iconst X25.here hx rfl (hb hby at_410) ?_
    show Steps p.tables e below (T25.setTop (mkF m 411 #[.val (.int q0), .val (.int q1), .val (.int q2), .val (.int q3), .val (.int nn), .val (.int v0_7), .val (.int xx), .val (.int yy), .val (.ref b1), .val (.ref b2), .val (.int (1 : Int32)), .val (.int rx), .val (.int ry), .val (.int (own_blk v0_7 xx)), .val (.int (own_blk v0_7 yy)), .val (.int (own_beg v0_7 (own_blk v0_7 xx))), .val (.int (own_beg v0_7 (own_blk v0_7 yy))), .val (.int v0_161), .val (.int v0_175), .val (.int tc), .unset, .unset] [(.int (3 : Int32)), (.ref b2), (.int (3 : Int32)), (.ref b1)])) _
    refine XS.iload X25.here hx rfl (hb hby at_411) rfl ?_
    show Steps p.tables e below (T25.setTop (mkF m 413 #[.val (.int q0), .val (.int q1), .val (.int q2), .val (.int q3), .val (.int nn), .val (.int v0_7), .val (.int xx), .val (.int yy), .val (.ref b1), .val (.ref b2), .val (.int (1 : Int32)), .val (.int rx), .val (.int ry), .val (.int (own_blk v0_7 xx)), .val (.int (own_blk v0_7 yy)), .val (.int (own_beg v0_7 (own_blk v0_7 xx))), .val (.int (own_beg v0_7 (own_blk v0_7 yy))), .val (.int v0_161), .val (.int v0_175), .val (.int tc), .unset, .unset] [(.int nn), (.int (3 : Int32)), (.ref b2), (.int (3 : Int32)), (.ref b1)])) _
    refine st26 _ ?_
    show Steps p.tables e below (T26.setTop (mkF m 416 #[.val (.int q0), .val (.int q1), .val (.int q2), .val (.int q3), .val (.int nn), .val (.int v0_7), .val (.int xx), .val (.int yy), .val (.ref b1), .val (.ref b2), .val (.int (1 : Int32)), .val (.int rx), .val (.int ry), .val (.int (own_blk v0_7 xx)), .val (.int (own_blk v0_7 yy)), .val (.int (own_beg v0_7 (own_blk v0_7 xx))), .val (.int (own_beg v0_7 (own_blk v0_7 yy))), .val (.int v0_161), .val (.int v0_175), .val (.int tc), .unset, .unset] [(.int (own_at nn lE (3 : Int32))), (.int (3 : Int32)), (.ref b1)])) _
    refine st28 _ ?_
    show Steps p.tables e below (T28.setTop (mkF m 417 #[.val (.int q0), .val (.int q1), .val (.int q2), .val (.int q3), .val (.int nn), .val (.int v0_7), .val (.int xx), .val (.int yy), .val (.ref b1), .val (.ref b2), .val (.int (1 : Int32)), .val (.int rx), .val (.int ry), .val (.int (own_blk v0_7 xx)), .val (.int (own_blk v0_7 yy)), .val (.int (own_beg v0_7 (own_blk v0_7 xx))), .val (.int (own_beg v0_7 (own_blk v0_7 yy))), .val (.int v0_161), .val (.int v0_175), .val (.int tc), .unset, .unset] [])) _
    refine XS.aload X28.here hx rfl (hb hby at_417) rfl rfl ?_
    show Steps p.tables e below (T28.setTop (mkF m 419 #[.val (.int q0), .val (.int q1), .val (.int q2), .val (.int q3), .val (.int nn), .val (.int v0_7), .val (.int xx), .val (.int yy), .val (.ref b1), .val (.ref b2), .val (.int (1 : Int32)), .val (.int rx), .val (.int ry), .val (.int (own_blk v0_7 xx)), .val (.int (own_blk v0_7 yy)), .val (.int (own_beg v0_7 (own_blk v0_7 xx))), .val (.int (own_beg v0_7 (own_blk v0_7 yy))), .val (.int v0_161), .val (.int v0_175), .val (.int tc), .unset, .unset] [(.ref b1)])) _
    refine XS.iconst X28.here hx rfl (hb hby at_419) ?_
    show Steps p.tables e below (T28.setTop (mkF m 420 #[.val (.int q0), .val (.int q1), .val (.int q2), .val (.int q3), .val (.int nn), .val (.int v0_7), .val (.int xx), .val (.int yy), .val (.ref b1), .val (.ref b2), .val (.int (1 : Int32)), .val (.int rx), .val (.int ry), .val (.int (own_blk v0_7 xx)), .val (.int (own_blk v0_7 yy)), .val (.int (own_beg v0_7 (own_blk v0_7 xx))), .val (.int (own_beg v0_7 (own_blk v0_7 yy))), .val (.int v0_161), .val (.int v0_175), .val (.int tc), .unset, .unset] [(.int (0 : Int32)), (.ref b1)])) _
    refine X28.iaload hx (j := (0 : Int32)) (v := (.int (own_at nn lE (0 : Int32)))) (by rw [e28]; exact Ar_29.1) (State.isArrayOf_alike hZ.alike Ar_29.2.1) Ar_29.2.2 (inb_of Sz_29 ⟨by decide, by decide⟩) (Has.at Hs_29 (inb_of Sz_29 ⟨by decide, by decide⟩) rfl) (g := (mkF m 420 #[.val (.int q0), .val (.int q1), .val (.int q2), .val (.int q3), .val (.int nn), .val (.int v0_7), .val (.int xx), .val (.int yy), .val (.ref b1), .val (.ref b2), .val (.int (1 : Int32)), .val (.int rx), .val (.int ry), .val (.int (own_blk v0_7 xx)), .val (.int (own_blk v0_7 yy)), .val (.int (own_beg v0_7 (own_blk v0_7 xx))), .val (.int (own_beg v0_7 (own_blk v0_7 yy))), .val (.int v0_161), .val (.int v0_175), .val (.int tc), .unset, .unset] [(.int (0 : Int32)), (.ref b1)])) rfl rfl (hb hby at_420) _ ?_
    show Steps p.tables e below (T28.setTop (mkF m 421 #[.val (.int q0), .val (.int q1), .val (.int q2), .val (.int q3), .val (.int nn), .val (.int v0_7), .val (.int xx), .val (.int yy), .val (.ref b1), .val (.ref b2), .val (.int (1 : Int32)), .val (.int rx), .val (.int ry), .val (.int (own_blk v0_7 xx)), .val (.int (own_blk v0_7 yy)), .val (.int (own_beg v0_7 (own_blk v0_7 xx))), .val (.int (own_beg v0_7 (own_blk v0_7 yy))), .val (.int v0_161), .val (.int v0_175), .val (.int tc), .unset, .unset] [(.int (own_at nn lE (0 : Int32)))])) _
    refine XS.iload X28.here hx rfl (hb hby at_421) rfl ?_
    show Steps p.tables e below (T28.setTop (mkF m 423 #[.val (.int q0), .val (.int q1), .val (.int q2), .val (.int q3), .val (.int nn), .val (.int v0_7), .val (.int xx), .val (.int yy), .val (.ref b1), .val (.ref b2), .val (.int (1 : Int32)), .val (.int rx), .val (.int ry), .val (.int (own_blk v0_7 xx)), .val (.int (own_blk v0_7 yy)), .val (.int (own_beg v0_7 (own_blk v0_7 xx))), .val (.int (own_beg v0_7 (own_blk v0_7 yy))), .val (.int v0_161), .val (.int v0_175), .val (.int tc), .unset, .unset] [(.int nn), (.int (own_at nn lE (0 : Int32)))])) _
    refine st31 _ ?_
    show Steps p.tables e below (T31.setTop (mkF m 426 #[.val (.int q0), .val (.int q1), .val (.int q2), .val (.int q3), .val (.int nn), .val (.int v0_7), .val (.int xx), .val (.int yy), .val (.ref b1), .val (.ref b2), .val (.int (1 : Int32)), .val (.int rx), .val (.int ry), .val (.int (own_blk v0_7 xx)), .val (.int (own_blk v0_7 yy)), .val (.int (own_beg v0_7 (own_blk v0_7 xx))), .val (.int (own_beg v0_7 (own_blk v0_7 yy))), .val (.int v0_161), .val (.int v0_175), .val (.int tc), .unset, .unset] [(.int (own_bit (own_at nn lE (0 : Int32)) nn))])) _
    refine XS.aload X31.here hx rfl (hb hby at_426) rfl rfl ?_
    show Steps p.tables e below (T31.setTop (mkF m 428 #[.val (.int q0), .val (.int q1), .val (.int q2), .val (.int q3), .val (.int nn), .val (.int v0_7), .val (.int xx), .val (.int yy), .val (.ref b1), .val (.ref b2), .val (.int (1 : Int32)), .val (.int rx), .val (.int ry), .val (.int (own_blk v0_7 xx)), .val (.int (own_blk v0_7 yy)), .val (.int (own_beg v0_7 (own_blk v0_7 xx))), .val (.int (own_beg v0_7 (own_blk v0_7 yy))), .val (.int v0_161), .val (.int v0_175), .val (.int tc), .unset, .unset] [(.ref b1), (.int (own_bit (own_at nn lE (0 : Int32)) nn))])) _
    refine XS.iconst X31.here hx rfl (hb hby at_428) ?_
    show Steps p.tables e below (T31.setTop (mkF m 429 #[.val (.int q0), .val (.int q1), .val (.int q2), .val (.int q3), .val (.int nn), .val (.int v0_7), .val (.int xx), .val (.int yy), .val (.ref b1), .val (.ref b2), .val (.int (1 : Int32)), .val (.int rx), .val (.int ry), .val (.int (own_blk v0_7 xx)), .val (.int (own_blk v0_7 yy)), .val (.int (own_beg v0_7 (own_blk v0_7 xx))), .val (.int (own_beg v0_7 (own_blk v0_7 yy))), .val (.int v0_161), .val (.int v0_175), .val (.int tc), .unset, .unset] [(.int (1 : Int32)), (.ref b1), (.int (own_bit (own_at nn lE (0 : Int32)) nn))])) _
    refine X31.iaload hx (j := (1 : Int32)) (v := (.int (own_at nn lE (1 : Int32)))) (by rw [e31]; exact Ar_33.1) (State.isArrayOf_alike hZ.alike Ar_33.2.1) Ar_33.2.2 (inb_of Sz_33 ⟨by decide, by decide⟩) (Has.at Hs_33 (inb_of Sz_33 ⟨by decide, by decide⟩) rfl) (g := (mkF m 429 #[.val (.int q0), .val (.int q1), .val (.int q2), .val (.int q3), .val (.int nn), .val (.int v0_7), .val (.int xx), .val (.int yy), .val (.ref b1), .val (.ref b2), .val (.int (1 : Int32)), .val (.int rx), .val (.int ry), .val (.int (own_blk v0_7 xx)), .val (.int (own_blk v0_7 yy)), .val (.int (own_beg v0_7 (own_blk v0_7 xx))), .val (.int (own_beg v0_7 (own_blk v0_7 yy))), .val (.int v0_161), .val (.int v0_175), .val (.int tc), .unset, .unset] [(.int (1 : Int32)), (.ref b1), (.int (own_bit (own_at nn lE (0 : Int32)) nn))])) rfl rfl (hb hby at_429) _ ?_
    show Steps p.tables e below (T31.setTop (mkF m 430 #[.val (.int q0), .val (.int q1), .val (.int q2), .val (.int q3), .val (.int nn), .val (.int v0_7), .val (.int xx), .val (.int yy), .val (.ref b1), .val (.ref b2), .val (.int (1 : Int32)), .val (.int rx), .val (.int ry), .val (.int (own_blk v0_7 xx)), .val (.int (own_blk v0_7 yy)), .val (.int (own_beg v0_7 (own_blk v0_7 xx))), .val (.int (own_beg v0_7 (own_blk v0_7 yy))), .val (.int v0_161), .val (.int v0_175), .val (.int tc), .unset, .unset] [(.int (own_at nn lE (1 : Int32))), (.int (own_bit (own_at nn lE (0 : Int32)) nn))])) _
    refine XS.iload X31.here hx rfl (hb hby at_430) rfl ?_
    show Steps p.tables e below (T31.setTop (mkF m 432 #[.val (.int q0), .val (.int q1), .val (.int q2), .val (.int q3), .val (.int nn), .val (.int v0_7), .val (.int xx), .val (.int yy), .val (.ref b1), .val (.ref b2), .val (.int (1 : Int32)), .val (.int rx), .val (.int ry), .val (.int (own_blk v0_7 xx)), .val (.int (own_blk v0_7 yy)), .val (.int (own_beg v0_7 (own_blk v0_7 xx))), .val (.int (own_beg v0_7 (own_blk v0_7 yy))), .val (.int v0_161), .val (.int v0_175), .val (.int tc), .unset, .unset] [(.int nn), (.int (own_at nn lE (1 : Int32))), (.int (own_bit (own_at nn lE (0 : Int32)) nn))])) _
    refine st34 _ ?_
    show Steps p.tables e below (T34.setTop (mkF m 435 #[.val (.int q0), .val (.int q1), .val (.int q2), .val (.int q3), .val (.int nn), .val (.int v0_7), .val (.int xx), .val (.int yy), .val (.ref b1), .val (.ref b2), .val (.int (1 : Int32)), .val (.int rx), .val (.int ry), .val (.int (own_blk v0_7 xx)), .val (.int (own_blk v0_7 yy)), .val (.int (own_beg v0_7 (own_blk v0_7 xx))), .val (.int (own_beg v0_7 (own_blk v0_7 yy))), .val (.int v0_161), .val (.int v0_175), .val (.int tc), .unset, .unset] [(.int (own_bit (own_at nn lE (1 : Int32)) nn)), (.int (own_bit (own_at nn lE (0 : Int32)) nn))])) _
    refine XS.ior X34.here hx rfl (hb hby at_435) rfl ?_
    show Steps p.tables e below (T34.setTop (mkF m 436 #[.val (.int q0), .val (.int q1), .val (.int q2), .val (.int q3), .val (.int nn), .val (.int v0_7), .val (.int xx), .val (.int yy), .val (.ref b1), .val (.ref b2), .val (.int (1 : Int32)), .val (.int rx), .val (.int ry), .val (.int (own_blk v0_7 xx)), .val (.int (own_blk v0_7 yy)), .val (.int (own_beg v0_7 (own_blk v0_7 xx))), .val (.int (own_beg v0_7 (own_blk v0_7 yy))), .val (.int v0_161), .val (.int v0_175), .val (.int tc), .unset, .unset] [(.int ((own_bit (own_at nn lE (0 : Int32)) nn) ||| (own_bit (own_at nn lE (1 : Int32)) nn)))])) _
    refine XS.aload X34.here hx rfl (hb hby at_436) rfl rfl ?_
    show Steps p.tables e below (T34.setTop (mkF m 438 #[.val (.int q0), .val (.int q1), .val (.int q2), .val (.int q3), .val (.int nn), .val (.int v0_7), .val (.int xx), .val (.int yy), .val (.ref b1), .val (.ref b2), .val (.int (1 : Int32)), .val (.int rx), .val (.int ry), .val (.int (own_blk v0_7 xx)), .val (.int (own_blk v0_7 yy)), .val (.int (own_beg v0_7 (own_blk v0_7 xx))), .val (.int (own_beg v0_7 (own_blk v0_7 yy))), .val (.int v0_161), .val (.int v0_175), .val (.int tc), .unset, .unset] [(.ref b1), (.int ((own_bit (own_at nn lE (0 : Int32)) nn) ||| (own_bit (own_at nn lE (1 : Int32)) nn)))])) _
    refine XS.iconst X34.here hx rfl (hb hby at_438) ?_
    show Steps p.tables e below (T34.setTop (mkF m 439 #[.val (.int q0), .val (.int q1), .val (.int q2), .val (.int q3), .val (.int nn), .val (.int v0_7), .val (.int xx), .val (.int yy), .val (.ref b1), .val (.ref b2), .val (.int (1 : Int32)), .val (.int rx), .val (.int ry), .val (.int (own_blk v0_7 xx)), .val (.int (own_blk v0_7 yy)), .val (.int (own_beg v0_7 (own_blk v0_7 xx))), .val (.int (own_beg v0_7 (own_blk v0_7 yy))), .val (.int v0_161), .val (.int v0_175), .val (.int tc), .unset, .unset] [(.int (2 : Int32)), (.ref b1), (.int ((own_bit (own_at nn lE (0 : Int32)) nn) ||| (own_bit (own_at nn lE (1 : Int32)) nn)))])) _
    refine X34.iaload hx (j := (2 : Int32)) (v := (.int (own_at nn lE (2 : Int32)))) (by rw [e34]; exact Ar_35.1) (State.isArrayOf_alike hZ.alike Ar_35.2.1) Ar_35.2.2 (inb_of Sz_35 ⟨by decide, by decide⟩) (Has.at Hs_35 (inb_of Sz_35 ⟨by decide, by decide⟩) rfl) (g := (mkF m 439 #[.val (.int q0), .val (.int q1), .val (.int q2), .val (.int q3), .val (.int nn), .val (.int v0_7), .val (.int xx), .val (.int yy), .val (.ref b1), .val (.ref b2), .val (.int (1 : Int32)), .val (.int rx), .val (.int ry), .val (.int (own_blk v0_7 xx)), .val (.int (own_blk v0_7 yy)), .val (.int (own_beg v0_7 (own_blk v0_7 xx))), .val (.int (own_beg v0_7 (own_blk v0_7 yy))), .val (.int v0_161), .val (.int v0_175), .val (.int tc), .unset, .unset] [(.int (2 : Int32)), (.ref b1), (.int ((own_bit (own_at nn lE (0 : Int32)) nn) ||| (own_bit (own_at nn lE (1 : Int32)) nn)))])) rfl rfl (hb hby at_439) _ ?_
    show Steps p.tables e below (T34.setTop (mkF m 440 #[.val (.int q0), .val (.int q1), .val (.int q2), .val (.int q3), .val (.int nn), .val (.int v0_7), .val (.int xx), .val (.int yy), .val (.ref b1), .val (.ref b2), .val (.int (1 : Int32)), .val (.int rx), .val (.int ry), .val (.int (own_blk v0_7 xx)), .val (.int (own_blk v0_7 yy)), .val (.int (own_beg v0_7 (own_blk v0_7 xx))), .val (.int (own_beg v0_7 (own_blk v0_7 yy))), .val (.int v0_161), .val (.int v0_175), .val (.int tc), .unset, .unset] [(.int (own_at nn lE (2 : Int32))), (.int ((own_bit (own_at nn lE (0 : Int32)) nn) ||| (own_bit (own_at nn lE (1 : Int32)) nn)))])) _
    refine XS.iload X34.here hx rfl (hb hby at_440) rfl ?_
    show Steps p.tables e below (T34.setTop (mkF m 442 #[.val (.int q0), .val (.int q1), .val (.int q2), .val (.int q3), .val (.int nn), .val (.int v0_7), .val (.int xx), .val (.int yy), .val (.ref b1), .val (.ref b2), .val (.int (1 : Int32)), .val (.int rx), .val (.int ry), .val (.int (own_blk v0_7 xx)), .val (.int (own_blk v0_7 yy)), .val (.int (own_beg v0_7 (own_blk v0_7 xx))), .val (.int (own_beg v0_7 (own_blk v0_7 yy))), .val (.int v0_161), .val (.int v0_175), .val (.int tc), .unset, .unset] [(.int nn), (.int (own_at nn lE (2 : Int32))), (.int ((own_bit (own_at nn lE (0 : Int32)) nn) ||| (own_bit (own_at nn lE (1 : Int32)) nn)))])) _
    refine st36 _ ?_
    show Steps p.tables e below (T36.setTop (mkF m 445 #[.val (.int q0), .val (.int q1), .val (.int q2), .val (.int q3), .val (.int nn), .val (.int v0_7), .val (.int xx), .val (.int yy), .val (.ref b1), .val (.ref b2), .val (.int (1 : Int32)), .val (.int rx), .val (.int ry), .val (.int (own_blk v0_7 xx)), .val (.int (own_blk v0_7 yy)), .val (.int (own_beg v0_7 (own_blk v0_7 xx))), .val (.int (own_beg v0_7 (own_blk v0_7 yy))), .val (.int v0_161), .val (.int v0_175), .val (.int tc), .unset, .unset] [(.int (own_bit (own_at nn lE (2 : Int32)) nn)), (.int ((own_bit (own_at nn lE (0 : Int32)) nn) ||| (own_bit (own_at nn lE (1 : Int32)) nn)))])) _
    refine XS.ior X36.here hx rfl (hb hby at_445) rfl ?_
    show Steps p.tables e below (T36.setTop (mkF m 446 #[.val (.int q0), .val (.int q1), .val (.int q2), .val (.int q3), .val (.int nn), .val (.int v0_7), .val (.int xx), .val (.int yy), .val (.ref b1), .val (.ref b2), .val (.int (1 : Int32)), .val (.int rx), .val (.int ry), .val (.int (own_blk v0_7 xx)), .val (.int (own_blk v0_7 yy)), .val (.int (own_beg v0_7 (own_blk v0_7 xx))), .val (.int (own_beg v0_7 (own_blk v0_7 yy))), .val (.int v0_161), .val (.int v0_175), .val (.int tc), .unset, .unset] [(.int (((own_bit (own_at nn lE (0 : Int32)) nn) ||| (own_bit (own_at nn lE (1 : Int32)) nn)) ||| (own_bit (own_at nn lE (2 : Int32)) nn)))])) _
    refine XS.aload X36.here hx rfl (hb hby at_446) rfl rfl ?_
    show Steps p.tables e below (T36.setTop (mkF m 448 #[.val (.int q0), .val (.int q1), .val (.int q2), .val (.int q3), .val (.int nn), .val (.int v0_7), .val (.int xx), .val (.int yy), .val (.ref b1), .val (.ref b2), .val (.int (1 : Int32)), .val (.int rx), .val (.int ry), .val (.int (own_blk v0_7 xx)), .val (.int (own_blk v0_7 yy)), .val (.int (own_beg v0_7 (own_blk v0_7 xx))), .val (.int (own_beg v0_7 (own_blk v0_7 yy))), .val (.int v0_161), .val (.int v0_175), .val (.int tc), .unset, .unset] [(.ref b1), (.int (((own_bit (own_at nn lE (0 : Int32)) nn) ||| (own_bit (own_at nn lE (1 : Int32)) nn)) ||| (own_bit (own_at nn lE (2 : Int32)) nn)))])) _
    refine XS.iconst X36.here hx rfl (hb hby at_448) ?_
    show Steps p.tables e below (T36.setTop (mkF m 449 #[.val (.int q0), .val (.int q1), .val (.int q2), .val (.int q3), .val (.int nn), .val (.int v0_7), .val (.int xx), .val (.int yy), .val (.ref b1), .val (.ref b2), .val (.int (1 : Int32)), .val (.int rx), .val (.int ry), .val (.int (own_blk v0_7 xx)), .val (.int (own_blk v0_7 yy)), .val (.int (own_beg v0_7 (own_blk v0_7 xx))), .val (.int (own_beg v0_7 (own_blk v0_7 yy))), .val (.int v0_161), .val (.int v0_175), .val (.int tc), .unset, .unset] [(.int (3 : Int32)), (.ref b1), (.int (((own_bit (own_at nn lE (0 : Int32)) nn) ||| (own_bit (own_at nn lE (1 : Int32)) nn)) ||| (own_bit (own_at nn lE (2 : Int32)) nn)))])) _
    refine X36.iaload hx (j := (3 : Int32)) (v := (.int (own_at nn lE (3 : Int32)))) (by rw [e36]; exact Ar_37.1) (State.isArrayOf_alike hZ.alike Ar_37.2.1) Ar_37.2.2 (inb_of Sz_37 ⟨by decide, by decide⟩) (Has.at Hs_37 (inb_of Sz_37 ⟨by decide, by decide⟩) rfl) (g := (mkF m 449 #[.val (.int q0), .val (.int q1), .val (.int q2), .val (.int q3), .val (.int nn), .val (.int v0_7), .val (.int xx), .val (.int yy), .val (.ref b1), .val (.ref b2), .val (.int (1 : Int32)), .val (.int rx), .val (.int ry), .val (.int (own_blk v0_7 xx)), .val (.int (own_blk v0_7 yy)), .val (.int (own_beg v0_7 (own_blk v0_7 xx))), .val (.int (own_beg v0_7 (own_blk v0_7 yy))), .val (.int v0_161), .val (.int v0_175), .val (.int tc), .unset, .unset] [(.int (3 : Int32)), (.ref b1), (.int (((own_bit (own_at nn lE (0 : Int32)) nn) ||| (own_bit (own_at nn lE (1 : Int32)) nn)) ||| (own_bit (own_at nn lE (2 : Int32)) nn)))])) rfl rfl (hb hby at_449) _ ?_
    show Steps p.tables e below (T36.setTop (mkF m 450 #[.val (.int q0), .val (.int q1), .val (.int q2), .val (.int q3), .val (.int nn), .val (.int v0_7), .val (.int xx), .val (.int yy), .val (.ref b1), .val (.ref b2), .val (.int (1 : Int32)), .val (.int rx), .val (.int ry), .val (.int (own_blk v0_7 xx)), .val (.int (own_blk v0_7 yy)), .val (.int (own_beg v0_7 (own_blk v0_7 xx))), .val (.int (own_beg v0_7 (own_blk v0_7 yy))), .val (.int v0_161), .val (.int v0_175), .val (.int tc), .unset, .unset] [(.int (own_at nn lE (3 : Int32))), (.int (((own_bit (own_at nn lE (0 : Int32)) nn) ||| (own_bit (own_at nn lE (1 : Int32)) nn)) ||| (own_bit (own_at nn lE (2 : Int32)) nn)))])) _
    refine XS.iload X36.here hx rfl (hb hby at_450) rfl ?_
    show Steps p.tables e below (T36.setTop (mkF m 452 #[.val (.int q0), .val (.int q1), .val (.int q2), .val (.int q3), .val (.int nn), .val (.int v0_7), .val (.int xx), .val (.int yy), .val (.ref b1), .val (.ref b2), .val (.int (1 : Int32)), .val (.int rx), .val (.int ry), .val (.int (own_blk v0_7 xx)), .val (.int (own_blk v0_7 yy)), .val (.int (own_beg v0_7 (own_blk v0_7 xx))), .val (.int (own_beg v0_7 (own_blk v0_7 yy))), .val (.int v0_161), .val (.int v0_175), .val (.int tc), .unset, .unset] [(.int nn), (.int (own_at nn lE (3 : Int32))), (.int (((own_bit (own_at nn lE (0 : Int32)) nn) ||| (own_bit (own_at nn lE (1 : Int32)) nn)) ||| (own_bit (own_at nn lE (2 : Int32)) nn)))])) _
    refine st38 _ ?_
    show Steps p.tables e below (T38.setTop (mkF m 455 #[.val (.int q0), .val (.int q1), .val (.int q2), .val (.int q3), .val (.int nn), .val (.int v0_7), .val (.int xx), .val (.int yy), .val (.ref b1), .val (.ref b2), .val (.int (1 : Int32)), .val (.int rx), .val (.int ry), .val (.int (own_blk v0_7 xx)), .val (.int (own_blk v0_7 yy)), .val (.int (own_beg v0_7 (own_blk v0_7 xx))), .val (.int (own_beg v0_7 (own_blk v0_7 yy))), .val (.int v0_161), .val (.int v0_175), .val (.int tc), .unset, .unset] [(.int (own_bit (own_at nn lE (3 : Int32)) nn)), (.int (((own_bit (own_at nn lE (0 : Int32)) nn) ||| (own_bit (own_at nn lE (1 : Int32)) nn)) ||| (own_bit (own_at nn lE (2 : Int32)) nn)))])) _
    refine XS.ior X38.here hx rfl (hb hby at_455) rfl ?_
    show Steps p.tables e below (T38.setTop (mkF m 456 #[.val (.int q0), .val (.int q1), .val (.int q2), .val (.int q3), .val (.int nn), .val (.int v0_7), .val (.int xx), .val (.int yy), .val (.ref b1), .val (.ref b2), .val (.int (1 : Int32)), .val (.int rx), .val (.int ry), .val (.int (own_blk v0_7 xx)), .val (.int (own_blk v0_7 yy)), .val (.int (own_beg v0_7 (own_blk v0_7 xx))), .val (.int (own_beg v0_7 (own_blk v0_7 yy))), .val (.int v0_161), .val (.int v0_175), .val (.int tc), .unset, .unset] [(.int ((((own_bit (own_at nn lE (0 : Int32)) nn) ||| (own_bit (own_at nn lE (1 : Int32)) nn)) ||| (own_bit (own_at nn lE (2 : Int32)) nn)) ||| (own_bit (own_at nn lE (3 : Int32)) nn)))])) _
    refine XS.istore X38.here hx rfl (hb hby at_456) rfl (l' := #[.val (.int q0), .val (.int q1), .val (.int q2), .val (.int q3), .val (.int nn), .val (.int v0_7), .val (.int xx), .val (.int yy), .val (.ref b1), .val (.ref b2), .val (.int (1 : Int32)), .val (.int rx), .val (.int ry), .val (.int (own_blk v0_7 xx)), .val (.int (own_blk v0_7 yy)), .val (.int (own_beg v0_7 (own_blk v0_7 xx))), .val (.int (own_beg v0_7 (own_blk v0_7 yy))), .val (.int v0_161), .val (.int v0_175), .val (.int tc), .val (.int ((((own_bit (own_at nn lE (0 : Int32)) nn) ||| (own_bit (own_at nn lE (1 : Int32)) nn)) ||| (own_bit (own_at nn lE (2 : Int32)) nn)) ||| (own_bit (own_at nn lE (3 : Int32)) nn))), .unset]) rfl ?_
    show Steps p.tables e below (T38.setTop (mkF m 458 #[.val (.int q0), .val (.int q1), .val (.int q2), .val (.int q3), .val (.int nn), .val (.int v0_7), .val (.int xx), .val (.int yy), .val (.ref b1), .val (.ref b2), .val (.int (1 : Int32)), .val (.int rx), .val (.int ry), .val (.int (own_blk v0_7 xx)), .val (.int (own_blk v0_7 yy)), .val (.int (own_beg v0_7 (own_blk v0_7 xx))), .val (.int (own_beg v0_7 (own_blk v0_7 yy))), .val (.int v0_161), .val (.int v0_175), .val (.int tc), .val (.int ((((own_bit (own_at nn lE (0 : Int32)) nn) ||| (own_bit (own_at nn lE (1 : Int32)) nn)) ||| (own_bit (own_at nn lE (2 : Int32)) nn)) ||| (own_bit (own_at nn lE (3 : Int32)) nn))), .unset] [])) _
    refine XS.iload X38.here hx rfl (hb hby at_458) rfl ?_
    show Steps p.tables e below (T38.setTop (mkF m 460 #[.val (.int q0), .val (.int q1), .val (.int q2), .val (.int q3), .val (.int nn), .val (.int v0_7), .val (.int xx), .val (.int yy), .val (.ref b1), .val (.ref b2), .val (.int (1 : Int32)), .val (.int rx), .val (.int ry), .val (.int (own_blk v0_7 xx)), .val (.int (own_blk v0_7 yy)), .val (.int (own_beg v0_7 (own_blk v0_7 xx))), .val (.int (own_beg v0_7 (own_blk v0_7 yy))), .val (.int v0_161), .val (.int v0_175), .val (.int tc), .val (.int ((((own_bit (own_at nn lE (0 : Int32)) nn) ||| (own_bit (own_at nn lE (1 : Int32)) nn)) ||| (own_bit (own_at nn lE (2 : Int32)) nn)) ||| (own_bit (own_at nn lE (3 : Int32)) nn))), .unset] [(.int (1 : Int32))])) _
    refine XS.ifNo X38.here hx rfl (hb hby at_460) rfl ((if0 _ _).trans (feq (by decide : ¬ (1 : Int32) = (0 : Int32))).1) ?_
    show Steps p.tables e below (T38.setTop (mkF m 463 #[.val (.int q0), .val (.int q1), .val (.int q2), .val (.int q3), .val (.int nn), .val (.int v0_7), .val (.int xx), .val (.int yy), .val (.ref b1), .val (.ref b2), .val (.int (1 : Int32)), .val (.int rx), .val (.int ry), .val (.int (own_blk v0_7 xx)), .val (.int (own_blk v0_7 yy)), .val (.int (own_beg v0_7 (own_blk v0_7 xx))), .val (.int (own_beg v0_7 (own_blk v0_7 yy))), .val (.int v0_161), .val (.int v0_175), .val (.int tc), .val (.int ((((own_bit (own_at nn lE (0 : Int32)) nn) ||| (own_bit (own_at nn lE (1 : Int32)) nn)) ||| (own_bit (own_at nn lE (2 : Int32)) nn)) ||| (own_bit (own_at nn lE (3 : Int32)) nn))), .unset] [])) _
    refine XS.iload X38.here hx rfl (hb hby at_463) rfl ?_
    show Steps p.tables e below (T38.setTop (mkF m 465 #[.val (.int q0), .val (.int q1), .val (.int q2), .val (.int q3), .val (.int nn), .val (.int v0_7), .val (.int xx), .val (.int yy), .val (.ref b1), .val (.ref b2), .val (.int (1 : Int32)), .val (.int rx), .val (.int ry), .val (.int (own_blk v0_7 xx)), .val (.int (own_blk v0_7 yy)), .val (.int (own_beg v0_7 (own_blk v0_7 xx))), .val (.int (own_beg v0_7 (own_blk v0_7 yy))), .val (.int v0_161), .val (.int v0_175), .val (.int tc), .val (.int ((((own_bit (own_at nn lE (0 : Int32)) nn) ||| (own_bit (own_at nn lE (1 : Int32)) nn)) ||| (own_bit (own_at nn lE (2 : Int32)) nn)) ||| (own_bit (own_at nn lE (3 : Int32)) nn))), .unset] [(.int ((((own_bit (own_at nn lE (0 : Int32)) nn) ||| (own_bit (own_at nn lE (1 : Int32)) nn)) ||| (own_bit (own_at nn lE (2 : Int32)) nn)) ||| (own_bit (own_at nn lE (3 : Int32)) nn)))])) _
    refine XS.iconst X38.here hx rfl (hb hby at_465) ?_
    show Steps p.tables e below (T38.setTop (mkF m 466 #[.val (.int q0), .val (.int q1), .val (.int q2), .val (.int q3), .val (.int nn), .val (.int v0_7), .val (.int xx), .val (.int yy), .val (.ref b1), .val (.ref b2), .val (.int (1 : Int32)), .val (.int rx), .val (.int ry), .val (.int (own_blk v0_7 xx)), .val (.int (own_blk v0_7 yy)), .val (.int (own_beg v0_7 (own_blk v0_7 xx))), .val (.int (own_beg v0_7 (own_blk v0_7 yy))), .val (.int v0_161), .val (.int v0_175), .val (.int tc), .val (.int ((((own_bit (own_at nn lE (0 : Int32)) nn) ||| (own_bit (own_at nn lE (1 : Int32)) nn)) ||| (own_bit (own_at nn lE (2 : Int32)) nn)) ||| (own_bit (own_at nn lE (3 : Int32)) nn))), .unset] [(.int (1 : Int32)), (.int ((((own_bit (own_at nn lE (0 : Int32)) nn) ||| (own_bit (own_at nn lE (1 : Int32)) nn)) ||| (own_bit (own_at nn lE (2 : Int32)) nn)) ||| (own_bit (own_at nn lE (3 : Int32)) nn)))])) _
    refine XS.iload X38.here hx rfl (hb hby at_466) rfl ?_
    show Steps p.tables e below (T38.setTop (mkF m 468 #[.val (.int q0), .val (.int q1), .val (.int q2), .val (.int q3), .val (.int nn), .val (.int v0_7), .val (.int xx), .val (.int yy), .val (.ref b1), .val (.ref b2), .val (.int (1 : Int32)), .val (.int rx), .val (.int ry), .val (.int (own_blk v0_7 xx)), .val (.int (own_blk v0_7 yy)), .val (.int (own_beg v0_7 (own_blk v0_7 xx))), .val (.int (own_beg v0_7 (own_blk v0_7 yy))), .val (.int v0_161), .val (.int v0_175), .val (.int tc), .val (.int ((((own_bit (own_at nn lE (0 : Int32)) nn) ||| (own_bit (own_at nn lE (1 : Int32)) nn)) ||| (own_bit (own_at nn lE (2 : Int32)) nn)) ||| (own_bit (own_at nn lE (3 : Int32)) nn))), .unset] [(.int nn), (.int (1 : Int32)), (.int ((((own_bit (own_at nn lE (0 : Int32)) nn) ||| (own_bit (own_at nn lE (1 : Int32)) nn)) ||| (own_bit (own_at nn lE (2 : Int32)) nn)) ||| (own_bit (own_at nn lE (3 : Int32)) nn)))])) _
    refine XS.ishl X38.here hx rfl (hb hby at_468) rfl ?_
    show Steps p.tables e below (T38.setTop (mkF m 469 #[.val (.int q0), .val (.int q1), .val (.int q2), .val (.int q3), .val (.int nn), .val (.int v0_7), .val (.int xx), .val (.int yy), .val (.ref b1), .val (.ref b2), .val (.int (1 : Int32)), .val (.int rx), .val (.int ry), .val (.int (own_blk v0_7 xx)), .val (.int (own_blk v0_7 yy)), .val (.int (own_beg v0_7 (own_blk v0_7 xx))), .val (.int (own_beg v0_7 (own_blk v0_7 yy))), .val (.int v0_161), .val (.int v0_175), .val (.int tc), .val (.int ((((own_bit (own_at nn lE (0 : Int32)) nn) ||| (own_bit (own_at nn lE (1 : Int32)) nn)) ||| (own_bit (own_at nn lE (2 : Int32)) nn)) ||| (own_bit (own_at nn lE (3 : Int32)) nn))), .unset] [(.int ((1 : Int32) <<< (nn &&& 31))), (.int ((((own_bit (own_at nn lE (0 : Int32)) nn) ||| (own_bit (own_at nn lE (1 : Int32)) nn)) ||| (own_bit (own_at nn lE (2 : Int32)) nn)) ||| (own_bit (own_at nn lE (3 : Int32)) nn)))])) _
    refine XS.iconst X38.here hx rfl (hb hby at_469) ?_
    show Steps p.tables e below (T38.setTop (mkF m 470 #[.val (.int q0), .val (.int q1), .val (.int q2), .val (.int q3), .val (.int nn), .val (.int v0_7), .val (.int xx), .val (.int yy), .val (.ref b1), .val (.ref b2), .val (.int (1 : Int32)), .val (.int rx), .val (.int ry), .val (.int (own_blk v0_7 xx)), .val (.int (own_blk v0_7 yy)), .val (.int (own_beg v0_7 (own_blk v0_7 xx))), .val (.int (own_beg v0_7 (own_blk v0_7 yy))), .val (.int v0_161), .val (.int v0_175), .val (.int tc), .val (.int ((((own_bit (own_at nn lE (0 : Int32)) nn) ||| (own_bit (own_at nn lE (1 : Int32)) nn)) ||| (own_bit (own_at nn lE (2 : Int32)) nn)) ||| (own_bit (own_at nn lE (3 : Int32)) nn))), .unset] [(.int (1 : Int32)), (.int ((1 : Int32) <<< (nn &&& 31))), (.int ((((own_bit (own_at nn lE (0 : Int32)) nn) ||| (own_bit (own_at nn lE (1 : Int32)) nn)) ||| (own_bit (own_at nn lE (2 : Int32)) nn)) ||| (own_bit (own_at nn lE (3 : Int32)) nn)))])) _
    refine XS.isub X38.here hx rfl (hb hby at_470) rfl ?_
    show Steps p.tables e below (T38.setTop (mkF m 471 #[.val (.int q0), .val (.int q1), .val (.int q2), .val (.int q3), .val (.int nn), .val (.int v0_7), .val (.int xx), .val (.int yy), .val (.ref b1), .val (.ref b2), .val (.int (1 : Int32)), .val (.int rx), .val (.int ry), .val (.int (own_blk v0_7 xx)), .val (.int (own_blk v0_7 yy)), .val (.int (own_beg v0_7 (own_blk v0_7 xx))), .val (.int (own_beg v0_7 (own_blk v0_7 yy))), .val (.int v0_161), .val (.int v0_175), .val (.int tc), .val (.int ((((own_bit (own_at nn lE (0 : Int32)) nn) ||| (own_bit (own_at nn lE (1 : Int32)) nn)) ||| (own_bit (own_at nn lE (2 : Int32)) nn)) ||| (own_bit (own_at nn lE (3 : Int32)) nn))), .unset] [(.int (((1 : Int32) <<< (nn &&& 31)) - (1 : Int32))), (.int ((((own_bit (own_at nn lE (0 : Int32)) nn) ||| (own_bit (own_at nn lE (1 : Int32)) nn)) ||| (own_bit (own_at nn lE (2 : Int32)) nn)) ||| (own_bit (own_at nn lE (3 : Int32)) nn)))])) _
    refine XS.icmpNo X38.here hx rfl (hb hby at_471) rfl (teq (f9 : ((((own_bit (own_at nn lE (0 : Int32)) nn) ||| (own_bit (own_at nn lE (1 : Int32)) nn)) ||| (own_bit (own_at nn lE (2 : Int32)) nn)) ||| (own_bit (own_at nn lE (3 : Int32)) nn)) = (((1 : Int32) <<< (nn &&& 31)) - (1 : Int32)))).2 ?_
    show Steps p.tables e below (T38.setTop (mkF m 474 #[.val (.int q0), .val (.int q1), .val (.int q2), .val (.int q3), .val (.int nn), .val (.int v0_7), .val (.int xx), .val (.int yy), .val (.ref b1), .val (.ref b2), .val (.int (1 : Int32)), .val (.int rx), .val (.int ry), .val (.int (own_blk v0_7 xx)), .val (.int (own_blk v0_7 yy)), .val (.int (own_beg v0_7 (own_blk v0_7 xx))), .val (.int (own_beg v0_7 (own_blk v0_7 yy))), .val (.int v0_161), .val (.int v0_175), .val (.int tc), .val (.int ((((own_bit (own_at nn lE (0 : Int32)) nn) ||| (own_bit (own_at nn lE (1 : Int32)) nn)) ||| (own_bit (own_at nn lE (2 : Int32)) nn)) ||| (own_bit (own_at nn lE (3 : Int32)) nn))), .unset] [])) _
    refine XS.iconst X38.here hx rfl (hb hby at_474) ?_
    show Steps p.tables e below (T38.setTop (mkF m 475 #[.val (.int q0), .val (.int q1), .val (.int q2), .val (.int q3), .val (.int nn), .val (.int v0_7), .val (.int xx), .val (.int yy), .val (.ref b1), .val (.ref b2), .val (.int (1 : Int32)), .val (.int rx), .val (.int ry), .val (.int (own_blk v0_7 xx)), .val (.int (own_blk v0_7 yy)), .val (.int (own_beg v0_7 (own_blk v0_7 xx))), .val (.int (own_beg v0_7 (own_blk v0_7 yy))), .val (.int v0_161), .val (.int v0_175), .val (.int tc), .val (.int ((((own_bit (own_at nn lE (0 : Int32)) nn) ||| (own_bit (own_at nn lE (1 : Int32)) nn)) ||| (own_bit (own_at nn lE (2 : Int32)) nn)) ||| (own_bit (own_at nn lE (3 : Int32)) nn))), .unset] [(.int (1 : Int32))])) _
    refine XS.goto X38.here hx rfl (pc0 := 475) (pc' := 479) rfl (hb hby at_475) (by decide) (by decide) ?_
    show Steps p.tables e below (T38.setTop (mkF m 479 #[.val (.int q0), .val (.int q1), .val (.int q2), .val (.int q3), .val (.int nn), .val (.int v0_7), .val (.int xx), .val (.int yy), .val (.ref b1), .val (.ref b2), .val (.int (1 : Int32)), .val (.int rx), .val (.int ry), .val (.int (own_blk v0_7 xx)), .val (.int (own_blk v0_7 yy)), .val (.int (own_beg v0_7 (own_blk v0_7 xx))), .val (.int (own_beg v0_7 (own_blk v0_7 yy))), .val (.int v0_161), .val (.int v0_175), .val (.int tc), .val (.int ((((own_bit (own_at nn lE (0 : Int32)) nn) ||| (own_bit (own_at nn lE (1 : Int32)) nn)) ||| (own_bit (own_at nn lE (2 : Int32)) nn)) ||| (own_bit (own_at nn lE (3 : Int32)) nn))), .unset] [(.int (1 : Int32))])) _
    refine XS.istore X38.here hx rfl (hb hby at_479) rfl (l' := #[.val (.int q0), .val (.int q1), .val (.int q2), .val (.int q3), .val (.int nn), .val (.int v0_7), .val (.int xx), .val (.int yy), .val (.ref b1), .val (.ref b2), .val (.int (1 : Int32)), .val (.int rx), .val (.int ry), .val (.int (own_blk v0_7 xx)), .val (.int (own_blk v0_7 yy)), .val (.int (own_beg v0_7 (own_blk v0_7 xx))), .val (.int (own_beg v0_7 (own_blk v0_7 yy))), .val (.int v0_161), .val (.int v0_175), .val (.int tc), .val (.int ((((own_bit (own_at nn lE (0 : Int32)) nn) ||| (own_bit (own_at nn lE (1 : Int32)) nn)) ||| (own_bit (own_at nn lE (2 : Int32)) nn)) ||| (own_bit (own_at nn lE (3 : Int32)) nn))), .unset]) rfl ?_
    show Steps p.tables e below (T38.setTop (mkF m 481 #[.val (.int q0), .val (.int q1), .val (.int q2), .val (.int q3), .val (.int nn), .val (.int v0_7), .val (.int xx), .val (.int yy), .val (.ref b1), .val (.ref b2), .val (.int (1 : Int32)), .val (.int rx), .val (.int ry), .val (.int (own_blk v0_7 xx)), .val (.int (own_blk v0_7 yy)), .val (.int (own_beg v0_7 (own_blk v0_7 xx))), .val (.int (own_beg v0_7 (own_blk v0_7 yy))), .val (.int v0_161), .val (.int v0_175), .val (.int tc), .val (.int ((((own_bit (own_at nn lE (0 : Int32)) nn) ||| (own_bit (own_at nn lE (1 : Int32)) nn)) ||| (own_bit (own_at nn lE (2 : Int32)) nn)) ||| (own_bit (own_at nn lE (3 : Int32)) nn))), .unset] [])) _
    refine XS.iload X38.here hx rfl (hb hby at_481) rfl ?_
    show Steps p.tables e below (T38.setTop (mkF m 483 #[.val (.int q0), .val (.int q1), .val (.int q2), .val (.int q3), .val (.int nn), .val (.int v0_7), .val (.int xx), .val (.int yy), .val (.ref b1), .val (.ref b2), .val (.int (1 : Int32)), .val (.int rx), .val (.int ry), .val (.int (own_blk v0_7 xx)), .val (.int (own_blk v0_7 yy)), .val (.int (own_beg v0_7 (own_blk v0_7 xx))), .val (.int (own_beg v0_7 (own_blk v0_7 yy))), .val (.int v0_161), .val (.int v0_175), .val (.int tc), .val (.int ((((own_bit (own_at nn lE (0 : Int32)) nn) ||| (own_bit (own_at nn lE (1 : Int32)) nn)) ||| (own_bit (own_at nn lE (2 : Int32)) nn)) ||| (own_bit (own_at nn lE (3 : Int32)) nn))), .unset] [(.int (1 : Int32))])) _
    refine XS.ifNo X38.here hx rfl (hb hby at_483) rfl ((if0 _ _).trans (feq (by decide : ¬ (1 : Int32) = (0 : Int32))).1) ?_
    show Steps p.tables e below (T38.setTop (mkF m 486 #[.val (.int q0), .val (.int q1), .val (.int q2), .val (.int q3), .val (.int nn), .val (.int v0_7), .val (.int xx), .val (.int yy), .val (.ref b1), .val (.ref b2), .val (.int (1 : Int32)), .val (.int rx), .val (.int ry), .val (.int (own_blk v0_7 xx)), .val (.int (own_blk v0_7 yy)), .val (.int (own_beg v0_7 (own_blk v0_7 xx))), .val (.int (own_beg v0_7 (own_blk v0_7 yy))), .val (.int v0_161), .val (.int v0_175), .val (.int tc), .val (.int ((((own_bit (own_at nn lE (0 : Int32)) nn) ||| (own_bit (own_at nn lE (1 : Int32)) nn)) ||| (own_bit (own_at nn lE (2 : Int32)) nn)) ||| (own_bit (own_at nn lE (3 : Int32)) nn))), .unset] [])) _
    refine XS.aload X38.here hx rfl (hb hby at_486) rfl rfl ?_
    show Steps p.tables e below (T38.setTop (mkF m 488 #[.val (.int q0), .val (.int q1), .val (.int q2), .val (.int q3), .val (.int nn), .val (.int v0_7), .val (.int xx), .val (.int yy), .val (.ref b1), .val (.ref b2), .val (.int (1 : Int32)), .val (.int rx), .val (.int ry), .val (.int (own_blk v0_7 xx)), .val (.int (own_blk v0_7 yy)), .val (.int (own_beg v0_7 (own_blk v0_7 xx))), .val (.int (own_beg v0_7 (own_blk v0_7 yy))), .val (.int v0_161), .val (.int v0_175), .val (.int tc), .val (.int ((((own_bit (own_at nn lE (0 : Int32)) nn) ||| (own_bit (own_at nn lE (1 : Int32)) nn)) ||| (own_bit (own_at nn lE (2 : Int32)) nn)) ||| (own_bit (own_at nn lE (3 : Int32)) nn))), .unset] [(.ref b1)])) _
    refine XS.iload X38.here hx rfl (hb hby at_488) rfl ?_
    show Steps p.tables e below (T38.setTop (mkF m 490 #[.val (.int q0), .val (.int q1), .val (.int q2), .val (.int q3), .val (.int nn), .val (.int v0_7), .val (.int xx), .val (.int yy), .val (.ref b1), .val (.ref b2), .val (.int (1 : Int32)), .val (.int rx), .val (.int ry), .val (.int (own_blk v0_7 xx)), .val (.int (own_blk v0_7 yy)), .val (.int (own_beg v0_7 (own_blk v0_7 xx))), .val (.int (own_beg v0_7 (own_blk v0_7 yy))), .val (.int v0_161), .val (.int v0_175), .val (.int tc), .val (.int ((((own_bit (own_at nn lE (0 : Int32)) nn) ||| (own_bit (own_at nn lE (1 : Int32)) nn)) ||| (own_bit (own_at nn lE (2 : Int32)) nn)) ||| (own_bit (own_at nn lE (3 : Int32)) nn))), .unset] [(.int (own_beg v0_7 (own_blk v0_7 xx))), (.ref b1)])) _
    refine X38.iaload hx (j := (own_beg v0_7 (own_blk v0_7 xx))) (v := (.int xx)) (by rw [e38]; exact Ar_39.1) (State.isArrayOf_alike hZ.alike Ar_39.2.1) Ar_39.2.2 (inb_of Sz_39 (own_get_e f10).1) (Has.at Hs_39 (inb_of Sz_39 (own_get_e f10).1) (own_getD (l := [own_at nn lE (0 : Int32), own_at nn lE (1 : Int32), own_at nn lE (2 : Int32), own_at nn lE (3 : Int32)]) (own_get_e f10).2)) (g := (mkF m 490 #[.val (.int q0), .val (.int q1), .val (.int q2), .val (.int q3), .val (.int nn), .val (.int v0_7), .val (.int xx), .val (.int yy), .val (.ref b1), .val (.ref b2), .val (.int (1 : Int32)), .val (.int rx), .val (.int ry), .val (.int (own_blk v0_7 xx)), .val (.int (own_blk v0_7 yy)), .val (.int (own_beg v0_7 (own_blk v0_7 xx))), .val (.int (own_beg v0_7 (own_blk v0_7 yy))), .val (.int v0_161), .val (.int v0_175), .val (.int tc), .val (.int ((((own_bit (own_at nn lE (0 : Int32)) nn) ||| (own_bit (own_at nn lE (1 : Int32)) nn)) ||| (own_bit (own_at nn lE (2 : Int32)) nn)) ||| (own_bit (own_at nn lE (3 : Int32)) nn))), .unset] [(.int (own_beg v0_7 (own_blk v0_7 xx))), (.ref b1)])) rfl rfl (hb hby at_490) _ ?_
    show Steps p.tables e below (T38.setTop (mkF m 491 #[.val (.int q0), .val (.int q1), .val (.int q2), .val (.int q3), .val (.int nn), .val (.int v0_7), .val (.int xx), .val (.int yy), .val (.ref b1), .val (.ref b2), .val (.int (1 : Int32)), .val (.int rx), .val (.int ry), .val (.int (own_blk v0_7 xx)), .val (.int (own_blk v0_7 yy)), .val (.int (own_beg v0_7 (own_blk v0_7 xx))), .val (.int (own_beg v0_7 (own_blk v0_7 yy))), .val (.int v0_161), .val (.int v0_175), .val (.int tc), .val (.int ((((own_bit (own_at nn lE (0 : Int32)) nn) ||| (own_bit (own_at nn lE (1 : Int32)) nn)) ||| (own_bit (own_at nn lE (2 : Int32)) nn)) ||| (own_bit (own_at nn lE (3 : Int32)) nn))), .unset] [(.int xx)])) _
    refine XS.iload X38.here hx rfl (hb hby at_491) rfl ?_
    show Steps p.tables e below (T38.setTop (mkF m 493 #[.val (.int q0), .val (.int q1), .val (.int q2), .val (.int q3), .val (.int nn), .val (.int v0_7), .val (.int xx), .val (.int yy), .val (.ref b1), .val (.ref b2), .val (.int (1 : Int32)), .val (.int rx), .val (.int ry), .val (.int (own_blk v0_7 xx)), .val (.int (own_blk v0_7 yy)), .val (.int (own_beg v0_7 (own_blk v0_7 xx))), .val (.int (own_beg v0_7 (own_blk v0_7 yy))), .val (.int v0_161), .val (.int v0_175), .val (.int tc), .val (.int ((((own_bit (own_at nn lE (0 : Int32)) nn) ||| (own_bit (own_at nn lE (1 : Int32)) nn)) ||| (own_bit (own_at nn lE (2 : Int32)) nn)) ||| (own_bit (own_at nn lE (3 : Int32)) nn))), .unset] [(.int xx), (.int xx)])) _
    refine XS.icmpNo X38.here hx rfl (hb hby at_493) rfl (teq (rfl : xx = xx)).2 ?_
    show Steps p.tables e below (T38.setTop (mkF m 496 #[.val (.int q0), .val (.int q1), .val (.int q2), .val (.int q3), .val (.int nn), .val (.int v0_7), .val (.int xx), .val (.int yy), .val (.ref b1), .val (.ref b2), .val (.int (1 : Int32)), .val (.int rx), .val (.int ry), .val (.int (own_blk v0_7 xx)), .val (.int (own_blk v0_7 yy)), .val (.int (own_beg v0_7 (own_blk v0_7 xx))), .val (.int (own_beg v0_7 (own_blk v0_7 yy))), .val (.int v0_161), .val (.int v0_175), .val (.int tc), .val (.int ((((own_bit (own_at nn lE (0 : Int32)) nn) ||| (own_bit (own_at nn lE (1 : Int32)) nn)) ||| (own_bit (own_at nn lE (2 : Int32)) nn)) ||| (own_bit (own_at nn lE (3 : Int32)) nn))), .unset] [])) _
    refine XS.iconst X38.here hx rfl (hb hby at_496) ?_
    show Steps p.tables e below (T38.setTop (mkF m 497 #[.val (.int q0), .val (.int q1), .val (.int q2), .val (.int q3), .val (.int nn), .val (.int v0_7), .val (.int xx), .val (.int yy), .val (.ref b1), .val (.ref b2), .val (.int (1 : Int32)), .val (.int rx), .val (.int ry), .val (.int (own_blk v0_7 xx)), .val (.int (own_blk v0_7 yy)), .val (.int (own_beg v0_7 (own_blk v0_7 xx))), .val (.int (own_beg v0_7 (own_blk v0_7 yy))), .val (.int v0_161), .val (.int v0_175), .val (.int tc), .val (.int ((((own_bit (own_at nn lE (0 : Int32)) nn) ||| (own_bit (own_at nn lE (1 : Int32)) nn)) ||| (own_bit (own_at nn lE (2 : Int32)) nn)) ||| (own_bit (own_at nn lE (3 : Int32)) nn))), .unset] [(.int (1 : Int32))])) _
    refine XS.goto X38.here hx rfl (pc0 := 497) (pc' := 501) rfl (hb hby at_497) (by decide) (by decide) ?_
    show Steps p.tables e below (T38.setTop (mkF m 501 #[.val (.int q0), .val (.int q1), .val (.int q2), .val (.int q3), .val (.int nn), .val (.int v0_7), .val (.int xx), .val (.int yy), .val (.ref b1), .val (.ref b2), .val (.int (1 : Int32)), .val (.int rx), .val (.int ry), .val (.int (own_blk v0_7 xx)), .val (.int (own_blk v0_7 yy)), .val (.int (own_beg v0_7 (own_blk v0_7 xx))), .val (.int (own_beg v0_7 (own_blk v0_7 yy))), .val (.int v0_161), .val (.int v0_175), .val (.int tc), .val (.int ((((own_bit (own_at nn lE (0 : Int32)) nn) ||| (own_bit (own_at nn lE (1 : Int32)) nn)) ||| (own_bit (own_at nn lE (2 : Int32)) nn)) ||| (own_bit (own_at nn lE (3 : Int32)) nn))), .unset] [(.int (1 : Int32))])) _
    refine XS.istore X38.here hx rfl (hb hby at_501) rfl (l' := #[.val (.int q0), .val (.int q1), .val (.int q2), .val (.int q3), .val (.int nn), .val (.int v0_7), .val (.int xx), .val (.int yy), .val (.ref b1), .val (.ref b2), .val (.int (1 : Int32)), .val (.int rx), .val (.int ry), .val (.int (own_blk v0_7 xx)), .val (.int (own_blk v0_7 yy)), .val (.int (own_beg v0_7 (own_blk v0_7 xx))), .val (.int (own_beg v0_7 (own_blk v0_7 yy))), .val (.int v0_161), .val (.int v0_175), .val (.int tc), .val (.int ((((own_bit (own_at nn lE (0 : Int32)) nn) ||| (own_bit (own_at nn lE (1 : Int32)) nn)) ||| (own_bit (own_at nn lE (2 : Int32)) nn)) ||| (own_bit (own_at nn lE (3 : Int32)) nn))), .unset]) rfl ?_
    show Steps p.tables e below (T38.setTop (mkF m 503 #[.val (.int q0), .val (.int q1), .val (.int q2), .val (.int q3), .val (.int nn), .val (.int v0_7), .val (.int xx), .val (.int yy), .val (.ref b1), .val (.ref b2), .val (.int (1 : Int32)), .val (.int rx), .val (.int ry), .val (.int (own_blk v0_7 xx)), .val (.int (own_blk v0_7 yy)), .val (.int (own_beg v0_7 (own_blk v0_7 xx))), .val (.int (own_beg v0_7 (own_blk v0_7 yy))), .val (.int v0_161), .val (.int v0_175), .val (.int tc), .val (.int ((((own_bit (own_at nn lE (0 : Int32)) nn) ||| (own_bit (own_at nn lE (1 : Int32)) nn)) ||| (own_bit (own_at nn lE (2 : Int32)) nn)) ||| (own_bit (own_at nn lE (3 : Int32)) nn))), .unset] [])) _
    refine sg_503  (.val (.int q0)) (.val (.int q1)) (.val (.int q2)) (.val (.int q3)) (.val (.int nn)) (.val (.int v0_7)) (.val (.int xx)) (yy) (b1) (.val (.ref b2)) (.val (.int rx)) (.val (.int ry)) (.val (.int (own_blk v0_7 xx))) (.val (.int (own_blk v0_7 yy))) (.val (.int (own_beg v0_7 (own_blk v0_7 xx)))) ((own_beg v0_7 (own_blk v0_7 yy))) (v0_161) (v0_175) (.val (.int tc)) (.val (.int ((((own_bit (own_at nn lE (0 : Int32)) nn) ||| (own_bit (own_at nn lE (1 : Int32)) nn)) ||| (own_bit (own_at nn lE (2 : Int32)) nn)) ||| (own_bit (own_at nn lE (3 : Int32)) nn)))) v0_503 hv0_503 X38 hx hZ hw hby hown h28 e38 Cl_40 [own_at nn lE (0 : Int32), own_at nn lE (1 : Int32), own_at nn lE (2 : Int32), own_at nn lE (3 : Int32)] Ar_40 Sz_40 (Hs_40 : Has _ ([own_at nn lE (0 : Int32), own_at nn lE (1 : Int32), own_at nn lE (2 : Int32), own_at nn lE (3 : Int32)].map Value.int) _) f11 ?_
    show Steps p.tables e below (T38.setTop (mkF m 545 #[.val (.int q0), .val (.int q1), .val (.int q2), .val (.int q3), .val (.int nn), .val (.int v0_7), .val (.int xx), .val (.int yy), .val (.ref b1), .val (.ref b2), .val (.int (1 : Int32)), .val (.int rx), .val (.int ry), .val (.int (own_blk v0_7 xx)), .val (.int (own_blk v0_7 yy)), .val (.int (own_beg v0_7 (own_blk v0_7 xx))), .val (.int (own_beg v0_7 (own_blk v0_7 yy))), .val (.int v0_161), .val (.int v0_175), .val (.int tc), .val (.int ((((own_bit (own_at nn lE (0 : Int32)) nn) ||| (own_bit (own_at nn lE (1 : Int32)) nn)) ||| (own_bit (own_at nn lE (2 : Int32)) nn)) ||| (own_bit (own_at nn lE (3 : Int32)) nn))), v0_503] [])) _
    refine XS.iload X38.here hx rfl (hb hby at_545) rfl ?_
    show Steps p.tables e below (T38.setTop (mkF m 547 #[.val (.int q0), .val (.int q1), .val (.int q2), .val (.int q3), .val (.int nn), .val (.int v0_7), .val (.int xx), .val (.int yy), .val (.ref b1), .val (.ref b2), .val (.int (1 : Int32)), .val (.int rx), .val (.int ry), .val (.int (own_blk v0_7 xx)), .val (.int (own_blk v0_7 yy)), .val (.int (own_beg v0_7 (own_blk v0_7 xx))), .val (.int (own_beg v0_7 (own_blk v0_7 yy))), .val (.int v0_161), .val (.int v0_175), .val (.int tc), .val (.int ((((own_bit (own_at nn lE (0 : Int32)) nn) ||| (own_bit (own_at nn lE (1 : Int32)) nn)) ||| (own_bit (own_at nn lE (2 : Int32)) nn)) ||| (own_bit (own_at nn lE (3 : Int32)) nn))), v0_503] [(.int (1 : Int32))])) _
    exact retN X38 hx (t := .boolean) Bd.returns (by simp) (hb hby at_547) hr
  · show Q0 h0 n0 _ T38.heap _
    rw [e38]
    exact ⟨rfl, N38⟩
set_option maxRecDepth 65536 in
set_option maxHeartbeats 40000000 in
theorem comes_1 {Post : Tables → Env → Array Value → State → Outcome → State → Prop} (hpost : ∀ tb e args s v u, (limb_1_1.after args s (.returned v) u = true ∧ limb_1_2.after args s (.returned v) u = true ∧ True) → FrameEnd s (.returned v) u (Jvm.fieldLocs frame_1_writes args s ++ Jvm.arrayLocs frame_1_arrays args s ++ Jvm.staticLocs frame_1_statics s) 32 192 → Post tb e args s (.returned v) u) :
    ArmFor flags0 classFile x code maxLocals ret World_1 tables_1 room_1 Calls_1 rest_1 Pre_1 Post := by
  intro l hfl _ _ p e ha hc hk s m args below hf hA hF happ hP
  obtain ⟨hcalls, hrest, hpre⟩ := hP
  obtain ⟨-, -, -, hnamed, -, -, -, hat⟩ := (Spec.applies_iff hf).mp happ
  obtain ⟨hg, hn⟩ := and_e (Cond.before_iff.mp (show (Jvm.Cond.and given_1 narrow_1).before args s = true from hpre))
  obtain ⟨g1, g2⟩ := and_e hg
  obtain ⟨g3, g4⟩ := and_e g2
  obtain ⟨g5, g6⟩ := and_e g4
  obtain ⟨g7, g8⟩ := and_e g6
  obtain ⟨w0, w1, w2, w3, rfl⟩ : ∃ w0 w1 w2 w3 : Value, args = #[w0, w1, w2, w3] := by
    have hs : args.size = 4 := by simpa [Cond.value, given_1] using g1
    obtain ⟨L⟩ := args
    match L, hs with
    | [w0, w1, w2, w3], _ => exact ⟨w0, w1, w2, w3, rfl⟩
  have hw := fun d (hd : d ∈ tables_1) => atoms_spec (ws := Jvm.Cond.code x code maxLocals ret :: tables_1) hat d (List.mem_cons_of_mem _ hd)
  obtain ⟨i0, ei0⟩ := is_v g3
  obtain rfl : w0 = (.int i0) := Option.some.inj ei0
  obtain ⟨i1, ei1⟩ := is_v g5
  obtain rfl : w1 = (.int i1) := Option.some.inj ei1
  obtain ⟨i2, ei2⟩ := is_v g7
  obtain rfl : w2 = (.int i2) := Option.some.inj ei2
  obtain ⟨i3, ei3⟩ := is_v g8
  obtain rfl : w3 = (.int i3) := Option.some.inj ei3
  obtain ⟨n, o, h1, h2, h3, _, L, rfl, ⟨rfl, N⟩, hq⟩ := rm0 l s _ hw tables_1 i0 i1 i2 i3 s.heap s.heap.size (Nat.le_refl _) p e ha hc hk s m _ below hf ((Spec.applies_iff_loose hf).mp happ).1 ⟨rfl, State.Warmed39.refl s, rfl⟩ trivial
  refine ⟨n, _, h1, h2, h3, hpost _ _ _ _ _ _ ⟨Cond.after_iff.mpr rfl, Cond.after_iff.mpr (eq_i res_at (Term.int_eval (1)) rfl), trivial⟩ ⟨hq.1, hq.2.1, (hq.2.2.sift fun y hy => Or.inr (N y hy)).mono (by decide) (by decide)⟩⟩
theorem main_1_1 : Claimed_1_1 := comes_1 fun _ _ _ _ _ _ h hF => ⟨h.1, hF⟩
theorem main_1_2 : Claimed_1_2 := comes_1 fun _ _ _ _ _ _ h hF => ⟨h.2.1, hF⟩

end Jvm.Pilot.@@N@@
namespace Jvm.Pilot.@@N@@
open Jvm Jvm.ClassFile Sem Op Lib Jvm.Free Jvm.Stand Jvm.Pilot.@@N@@.Jvm.D
/-! MADE BY PROGRAM (witnessworld.py) out of the Statement's table words and the real class files: 9 classes; the members and pool entries that the words name. The judged class is class 1, her method 5. -/
namespace start1
open Jvm.ClassFile
def u (s : String) : CpInfo := .utf8 (stringToUtf16 s)
/-- a pool by its gaps: so many unusable entries, then the entry; so many at the end -/
def gap : Nat → List CpInfo → List CpInfo
  | 0, r => r
  | n + 1, r => .unusable :: gap n r
def poolList (es : List (Nat × CpInfo)) (last : Nat) : List CpInfo := es.foldr (fun e r => gap e.1 (e.2 :: r)) (gap last [])
def pool (es : List (Nat × CpInfo)) (last : Nat) : Array CpInfo := ⟨poolList es last⟩
def fileOf (pool : Array CpInfo) (this : Nat) (attrs : Array Attribute := #[]) (ms : Array MethodInfo := #[]) (fl : Nat := 33) (sup : Nat := 0) (ifs : Array Nat := #[]) (fds : Array FieldInfo := #[]) : ClassFile where
  minorVersion := 0
  majorVersion := 65
  constantPool := pool
  accessFlags := fl
  thisClass := this
  superClass := sup
  interfaces := ifs
  fields := fds
  methods := ms
  attributes := attrs
def plain (name : String) (sup : Option ClassId) : Class where
  name := name
  kind := .ordinary
  loader := none
  accessFlags := 33
  super := sup
  interfaces := #[]
  cf := none
  fields := #[]
  methods := #[]
  instanceTypes := #[]
  staticTypes := #[]
  resolved := #[]
  callSites := []
  init := .initialized
  statics := none
  mirror := none

def pool0 : Array CpInfo := pool [(5, u "<init>"), (0, u "()V"), (1, .class_ 10), (1, u "java/lang/Object")] 113

def k0c0 : Code := { maxStack := 0, maxLocals := 1, code := object_method_1_code, exceptionTable := #[], attributes := #[] }
def k0m0 : Method := { name := "<init>", desc := "()V", sig := { parameters := [], returnType := none }, accessFlags := 1, code := some k0c0 }
/-- java/lang/Object -/
def k0 : Class := { plain "java/lang/Object" none with
  accessFlags := 33
  interfaces := #[]
  cf := some (fileOf pool0 8 #[] #[{ accessFlags := 1, nameIndex := 5, descriptorIndex := 6, attributes := #[] }] 33 0 #[] #[])
  fields := #[]
  methods := #[k0m0]
  instanceTypes := #[]
  staticTypes := #[]
  resolved := Array.replicate 124 none
  statics := none }

def pool1 : Array CpInfo := pool [(2, .class_ 4), (1, u "java/lang/Object"), (0, u "<init>"), (0, u "()V"), (0, .methodref 8 9), (0, .class_ 10), (0, .nameAndType 11 12), (0, u "com/example/yealm/yealm/equiv/RefinablePartition"), (0, u "stateAt"), (0, u "(I)I"), (0, .integer 2147483647), (0, .methodref 8 15), (0, .nameAndType 5 16), (0, u "(I)V"), (0, .methodref 8 18), (0, .nameAndType 19 20), (0, u "mark"), (0, u "(I)Z"), (0, .methodref 8 22), (0, .nameAndType 23 12), (0, u "split"), (0, .methodref 8 25), (0, .nameAndType 26 6), (0, u "forgetTouched"), (0, .methodref 28 29), (0, .class_ 30), (0, .nameAndType 31 32), (0, u "com/example/yealm/yealm/equiv/RefinablePartitionMarkPinLaw"), (0, u "blk"), (0, u "(ZI)I"), (0, .methodref 28 34), (0, .nameAndType 35 32), (0, u "beg"), (0, .methodref 8 37), (0, .nameAndType 38 39), (0, u "getTouchedCount"), (0, u "()I"), (0, .methodref 8 41), (0, .nameAndType 42 12), (0, u "touched"), (0, .methodref 8 44), (0, .nameAndType 45 12), (0, u "markedEnd"), (0, .methodref 28 47), (0, .nameAndType 48 49), (0, u "at"), (0, u "(Lcom/example/yealm/yealm/equiv/RefinablePartition;II)I"), (0, .methodref 28 51), (0, .nameAndType 52 53), (0, u "bit"), (0, u "(II)I"), (3, u "law"), (0, u "(IIII)Z")] 4

def k1m0 : Method := { name := "<init>", desc := "()V", sig := { parameters := [], returnType := none }, accessFlags := 1, code := none }
def k1c1 : Code := { maxStack := 1, maxLocals := 2, code := method_2_code, exceptionTable := #[], attributes := #[] }
def k1m1 : Method := { name := "blk", desc := "(ZI)I", sig := { parameters := [.boolean, .int], returnType := some .int }, accessFlags := 10, code := some k1c1 }
def k1c2 : Code := { maxStack := 2, maxLocals := 2, code := method_3_code, exceptionTable := #[], attributes := #[] }
def k1m2 : Method := { name := "beg", desc := "(ZI)I", sig := { parameters := [.boolean, .int], returnType := some .int }, accessFlags := 10, code := some k1c2 }
def k1c3 : Code := { maxStack := 2, maxLocals := 3, code := method_4_code, exceptionTable := #[], attributes := #[] }
def k1m3 : Method := { name := "at", desc := "(Lcom/example/yealm/yealm/equiv/RefinablePartition;II)I", sig := { parameters := [(.object "com/example/yealm/yealm/equiv/RefinablePartition"), .int, .int], returnType := some .int }, accessFlags := 10, code := some k1c3 }
def k1c4 : Code := { maxStack := 2, maxLocals := 2, code := method_5_code, exceptionTable := #[], attributes := #[] }
def k1m4 : Method := { name := "bit", desc := "(II)I", sig := { parameters := [.int, .int], returnType := some .int }, accessFlags := 10, code := some k1c4 }
def k1c5 : Code := { maxStack := 5, maxLocals := 22, code := code, exceptionTable := #[], attributes := #[] }
def k1m5 : Method := { name := "law", desc := "(IIII)Z", sig := { parameters := [.int, .int, .int, .int], returnType := some .boolean }, accessFlags := 9, code := some k1c5 }
/-- com/example/yealm/yealm/equiv/RefinablePartitionMarkPinLaw -/
def k1 : Class := { plain "com/example/yealm/yealm/equiv/RefinablePartitionMarkPinLaw" (some 0) with
  accessFlags := 49
  interfaces := #[]
  cf := some (fileOf pool1 28 #[] #[{ accessFlags := 1, nameIndex := 5, descriptorIndex := 6, attributes := #[] }, { accessFlags := 10, nameIndex := 31, descriptorIndex := 32, attributes := #[] }, { accessFlags := 10, nameIndex := 35, descriptorIndex := 32, attributes := #[] }, { accessFlags := 10, nameIndex := 48, descriptorIndex := 49, attributes := #[] }, { accessFlags := 10, nameIndex := 52, descriptorIndex := 53, attributes := #[] }, { accessFlags := 9, nameIndex := 57, descriptorIndex := 58, attributes := #[] }] 49 2 #[] #[])
  fields := #[]
  methods := #[k1m0, k1m1, k1m2, k1m3, k1m4, k1m5]
  instanceTypes := #[]
  staticTypes := #[]
  resolved := Array.replicate 63 none
  statics := none }

def pool2 : Array CpInfo := pool [(1, .methodref 2 3), (0, .class_ 4), (0, .nameAndType 5 6), (0, u "java/lang/Object"), (0, u "<init>"), (0, u "()V"), (0, .fieldref 8 9), (0, .class_ 10), (0, .nameAndType 11 12), (0, u "com/example/yealm/yealm/equiv/RefinablePartition"), (0, u "blockCount"), (0, u "I"), (0, .fieldref 8 14), (0, .nameAndType 15 16), (0, u "elements"), (0, u "[I"), (0, .fieldref 8 18), (0, .nameAndType 19 16), (0, u "positions"), (0, .fieldref 8 21), (0, .nameAndType 22 16), (0, u "blockOf"), (0, .fieldref 8 24), (0, .nameAndType 25 16), (0, u "blockBegin"), (0, .fieldref 8 27), (0, .nameAndType 28 16), (0, u "blockEnd"), (0, .fieldref 8 30), (0, .nameAndType 31 16), (0, u "markedEnd"), (0, .fieldref 8 33), (0, .nameAndType 34 16), (0, u "splitFrom"), (0, .fieldref 8 36), (0, .nameAndType 37 16), (0, u "touched"), (0, .fieldref 8 39), (0, .nameAndType 40 12), (0, u "touchedCount"), (0, .methodref 8 42), (0, .nameAndType 43 44), (0, u "newBlock"), (0, u "(III)I"), (2, u "split"), (0, u "(I)I"), (3, u "(I)V"), (9, u "()I"), (3, u "stateAt"), (0, u "mark"), (0, u "(I)Z"), (0, u "getTouchedCount"), (0, u "forgetTouched")] 6

def k2c0 : Code := { maxStack := 3, maxLocals := 3, code := prog_61_method_1_code, exceptionTable := #[], attributes := #[] }
def k2m0 : Method := { name := "<init>", desc := "(I)V", sig := { parameters := [.int], returnType := none }, accessFlags := 0, code := some k2c0 }
def k2c1 : Code := { maxStack := 2, maxLocals := 2, code := prog_61_method_6_code, exceptionTable := #[], attributes := #[] }
def k2m1 : Method := { name := "markedEnd", desc := "(I)I", sig := { parameters := [.int], returnType := some .int }, accessFlags := 0, code := some k2c1 }
def k2c2 : Code := { maxStack := 2, maxLocals := 2, code := prog_61_method_8_code, exceptionTable := #[], attributes := #[] }
def k2m2 : Method := { name := "stateAt", desc := "(I)I", sig := { parameters := [.int], returnType := some .int }, accessFlags := 0, code := some k2c2 }
def k2c3 : Code := { maxStack := 5, maxLocals := 6, code := prog_61_method_10_code, exceptionTable := #[], attributes := #[] }
def k2m3 : Method := { name := "mark", desc := "(I)Z", sig := { parameters := [.int], returnType := some .boolean }, accessFlags := 0, code := some k2c3 }
def k2c4 : Code := { maxStack := 1, maxLocals := 1, code := prog_61_method_11_code, exceptionTable := #[], attributes := #[] }
def k2m4 : Method := { name := "getTouchedCount", desc := "()I", sig := { parameters := [], returnType := some .int }, accessFlags := 0, code := some k2c4 }
def k2c5 : Code := { maxStack := 2, maxLocals := 2, code := prog_61_method_12_code, exceptionTable := #[], attributes := #[] }
def k2m5 : Method := { name := "touched", desc := "(I)I", sig := { parameters := [.int], returnType := some .int }, accessFlags := 0, code := some k2c5 }
def k2c6 : Code := { maxStack := 2, maxLocals := 1, code := prog_61_method_13_code, exceptionTable := #[], attributes := #[] }
def k2m6 : Method := { name := "forgetTouched", desc := "()V", sig := { parameters := [], returnType := none }, accessFlags := 0, code := some k2c6 }
def k2c7 : Code := { maxStack := 4, maxLocals := 4, code := prog_61_method_15_code, exceptionTable := #[], attributes := #[] }
def k2m7 : Method := { name := "split", desc := "(I)I", sig := { parameters := [.int], returnType := some .int }, accessFlags := 0, code := some k2c7 }
def k2c8 : Code := { maxStack := 4, maxLocals := 6, code := prog_61_method_17_code, exceptionTable := #[], attributes := #[] }
def k2m8 : Method := { name := "newBlock", desc := "(III)I", sig := { parameters := [.int, .int, .int], returnType := some .int }, accessFlags := 2, code := some k2c8 }
/-- com/example/yealm/yealm/equiv/RefinablePartition -/
def k2 : Class := { plain "com/example/yealm/yealm/equiv/RefinablePartition" (some 0) with
  accessFlags := 48
  interfaces := #[]
  cf := some (fileOf pool2 8 #[] #[{ accessFlags := 0, nameIndex := 5, descriptorIndex := 52, attributes := #[] }, { accessFlags := 0, nameIndex := 31, descriptorIndex := 48, attributes := #[] }, { accessFlags := 0, nameIndex := 66, descriptorIndex := 48, attributes := #[] }, { accessFlags := 0, nameIndex := 67, descriptorIndex := 68, attributes := #[] }, { accessFlags := 0, nameIndex := 69, descriptorIndex := 62, attributes := #[] }, { accessFlags := 0, nameIndex := 37, descriptorIndex := 48, attributes := #[] }, { accessFlags := 0, nameIndex := 70, descriptorIndex := 6, attributes := #[] }, { accessFlags := 0, nameIndex := 47, descriptorIndex := 48, attributes := #[] }, { accessFlags := 2, nameIndex := 43, descriptorIndex := 44, attributes := #[] }] 48 2 #[] #[{ accessFlags := 18, nameIndex := 15, descriptorIndex := 16, attributes := #[] }, { accessFlags := 18, nameIndex := 19, descriptorIndex := 16, attributes := #[] }, { accessFlags := 18, nameIndex := 22, descriptorIndex := 16, attributes := #[] }, { accessFlags := 18, nameIndex := 25, descriptorIndex := 16, attributes := #[] }, { accessFlags := 18, nameIndex := 28, descriptorIndex := 16, attributes := #[] }, { accessFlags := 18, nameIndex := 31, descriptorIndex := 16, attributes := #[] }, { accessFlags := 2, nameIndex := 11, descriptorIndex := 12, attributes := #[] }, { accessFlags := 18, nameIndex := 34, descriptorIndex := 16, attributes := #[] }, { accessFlags := 18, nameIndex := 37, descriptorIndex := 16, attributes := #[] }, { accessFlags := 2, nameIndex := 40, descriptorIndex := 12, attributes := #[] }])
  fields := #[{ name := "elements", type := (.array .int), accessFlags := 18, slot := 0, constantValue := 0 }, { name := "positions", type := (.array .int), accessFlags := 18, slot := 1, constantValue := 0 }, { name := "blockOf", type := (.array .int), accessFlags := 18, slot := 2, constantValue := 0 }, { name := "blockBegin", type := (.array .int), accessFlags := 18, slot := 3, constantValue := 0 }, { name := "blockEnd", type := (.array .int), accessFlags := 18, slot := 4, constantValue := 0 }, { name := "markedEnd", type := (.array .int), accessFlags := 18, slot := 5, constantValue := 0 }, { name := "blockCount", type := .int, accessFlags := 2, slot := 6, constantValue := 0 }, { name := "splitFrom", type := (.array .int), accessFlags := 18, slot := 7, constantValue := 0 }, { name := "touched", type := (.array .int), accessFlags := 18, slot := 8, constantValue := 0 }, { name := "touchedCount", type := .int, accessFlags := 2, slot := 9, constantValue := 0 }]
  methods := #[k2m0, k2m1, k2m2, k2m3, k2m4, k2m5, k2m6, k2m7, k2m8]
  instanceTypes := #[(.array .int), (.array .int), (.array .int), (.array .int), (.array .int), (.array .int), .int, (.array .int), (.array .int), .int]
  staticTypes := #[]
  resolved := Array.replicate 77 none
  statics := none }

def pool3 : Array CpInfo := pool [(1, u "java/lang/Cloneable"), (0, .class_ 1), (0, u "java/lang/Object"), (0, .class_ 3)] 3

/-- java/lang/Cloneable -/
def k3 : Class := { plain "java/lang/Cloneable" (some 0) with
  accessFlags := 1537
  interfaces := #[]
  cf := some (fileOf pool3 2 #[] #[] 1537 4 #[] #[])
  fields := #[]
  methods := #[]
  instanceTypes := #[]
  staticTypes := #[]
  resolved := Array.replicate 8 none
  statics := none }

def pool4 : Array CpInfo := pool [(1, u "java/io/Serializable"), (0, .class_ 1), (0, u "java/lang/Object"), (0, .class_ 3)] 3

/-- java/io/Serializable -/
def k4 : Class := { plain "java/io/Serializable" (some 0) with
  accessFlags := 1537
  interfaces := #[]
  cf := some (fileOf pool4 2 #[] #[] 1537 4 #[] #[])
  fields := #[]
  methods := #[]
  instanceTypes := #[]
  staticTypes := #[]
  resolved := Array.replicate 8 none
  statics := none }

/-- the primitive byte -/
def k5 : Class := { plain "byte" none with kind := .primitive 'B', accessFlags := 0x411 }
/-- [B -/
def k6 : Class := { plain "[B" (some 0) with kind := .array 5 .byte, interfaces := #[3, 4], accessFlags := 1041 }

/-- the primitive int -/
def k7 : Class := { plain "int" none with kind := .primitive 'I', accessFlags := 0x411 }
/-- [I -/
def k8 : Class := { plain "[I" (some 0) with kind := .array 7 .int, interfaces := #[3, 4], accessFlags := 1041 }

def heap : Heap := #[]
def classes : Array Class := #[k0, k1, k2, k3, k4, k5, k6, k7, k8]
def interned : List (Array UInt16 × Addr) := []
def slotsUsed : Nat := 0
def theMethod : MethodId := ⟨1, 5⟩
def args0 : Array Value := #[.int 5, .int 7, .int 1, .int 2]
def aboutOver (below : List Frame) : State where
  vm := { classes := classes, interned := interned.toArray }
  heap := heap
  slotsUsed := slotsUsed
  threads := #[{ frames := .invoking theMethod args0 :: below }]
def below0 : List Frame := [.native { method := ⟨0, 0⟩, args := #[] }]
def about1 : State := aboutOver below0
def p0 : Program := .bare "" "" ""
def e0 : Env := launch0.env 0 0 0
theorem w_frames : about1.frames = Frame.invoking theMethod args0 :: below0 := rfl
set_option maxRecDepth 65536 in
theorem w_args : argsFit about1.vm theMethod args0 = true := by decide +kernel
set_option maxRecDepth 65536 in
theorem w_heap : heapFits about1 = true := by decide +kernel
set_option maxRecDepth 65536 in
theorem w_runnable : about1.curStatus? = some .runnable := by decide +kernel
set_option maxRecDepth 65536 in
theorem w_alone : about1.alone = true := by decide +kernel
set_option maxRecDepth 65536 in
theorem w_named : about1.methodNamed? x = some theMethod := by decide +kernel
set_option maxRecDepth 65536 in
theorem w_hears : about1.hears theMethod below0 = true := by decide +kernel
set_option maxRecDepth 65536 in
theorem w_ripe : about1.ripe theMethod args0 below0 = true := by decide +kernel
theorem w_running : about1.status = .running := rfl
set_option maxRecDepth 65536 in
theorem w_room : about1.hasRoom e0.platform room_1 = true :=
  launch0.hasRoom_least _ room_1 (by decide +kernel) (by decide +kernel) (by decide +kernel) (by decide +kernel) (by decide +kernel) (by decide +kernel)
theorem allAtoms_all (ts : List Jvm.Cond) (a : Array Jvm.Value) (st : Jvm.State) : (allAtoms ts).before a st = ts.all (fun c => c.before a st) := by
  induction ts with
  | nil => rfl
  | cons c t ih =>
    show (Jvm.Cond.and c (allAtoms t)).before a st = _
    rw [Jvm.Cond.before_and, ih, List.all_cons]
def words1 : List Jvm.Cond := Jvm.Cond.code x code maxLocals ret :: tables_1
/-- a 'code' word, met by the world's own term for the bytes: nothing is compared byte by byte -/
theorem code_word {y : MethodName} {bytes : ByteArray} {mx : Nat} {rt : Option FieldType} {a : Array Value} {s : State} {m : MethodId} {meth : Method} {c : Code} (h1 : s.methodNamed? y = some m) (h2 : s.vm.method? m = some meth) (h3 : meth.code = some c) (h4 : c.code = bytes)
    (h5 : (c.maxLocals == mx && c.exceptionTable.isEmpty && decide (c.maxStack ≤ mostOperands) && decide (meth.sig.returnType = rt) && !meth.locks && decide (parseMethodDescriptor y.desc = some meth.sig)) = true) : (Jvm.Cond.code y bytes mx rt).before a s = true := by
  simp only [Bool.and_eq_true, beq_iff_eq, Bool.not_eq_true', decide_eq_true_eq] at h5
  obtain ⟨⟨⟨⟨⟨g1, g2⟩, g3⟩, g4⟩, g5⟩, g6⟩ := h5
  simp [Cond.before, Cond.holds, Cond.value, h1, h2, h3, h4, g1, g2, g3, g4, g5, g6]
def isCode : Jvm.Cond → Bool
  | .code _ _ _ _ => true
  | _ => false
theorem all_split {L : List Jvm.Cond} {P : Jvm.Cond → Bool} (h1 : L.all (fun c => isCode c || P c) = true) (h2 : ∀ c ∈ L.filter isCode, P c = true) : L.all P = true := by
  refine List.all_eq_true.mpr fun c hc => ?_
  have h := List.all_eq_true.mp h1 c hc
  rcases Bool.eq_false_or_eq_true (isCode c) with hi | hi
  · exact h2 c (List.mem_filter.mpr ⟨hc, hi⟩)
  · simpa [hi] using h
set_option maxRecDepth 65536 in
theorem w_c0 : (Jvm.Cond.code x code maxLocals ret).before args0 about1 = true := code_word (m := ⟨1, 5⟩) (meth := k1m5) (c := k1c5) (by decide +kernel) rfl rfl rfl (by decide +kernel)
set_option maxRecDepth 65536 in
theorem w_c1 : (Jvm.Cond.code ({ cls := "com/example/yealm/yealm/equiv/RefinablePartition", name := "<init>", desc := "(I)V" } : Jvm.MethodName) prog_61_method_1_code (3 : Nat) (Option.none : Option Jvm.ClassFile.FieldType)).before args0 about1 = true := code_word (m := ⟨2, 0⟩) (meth := k2m0) (c := k2c0) (by decide +kernel) rfl rfl rfl (by decide +kernel)
set_option maxRecDepth 65536 in
theorem w_c2 : (Jvm.Cond.code ({ cls := "java/lang/Object", name := "<init>", desc := "()V" } : Jvm.MethodName) object_method_1_code (1 : Nat) (Option.none : Option Jvm.ClassFile.FieldType)).before args0 about1 = true := code_word (m := ⟨0, 0⟩) (meth := k0m0) (c := k0c0) (by decide +kernel) rfl rfl rfl (by decide +kernel)
set_option maxRecDepth 65536 in
theorem w_c3 : (Jvm.Cond.code ({ cls := "com/example/yealm/yealm/equiv/RefinablePartition", name := "mark", desc := "(I)Z" } : Jvm.MethodName) prog_61_method_10_code (6 : Nat) (Option.some Jvm.ClassFile.FieldType.boolean)).before args0 about1 = true := code_word (m := ⟨2, 3⟩) (meth := k2m3) (c := k2c3) (by decide +kernel) rfl rfl rfl (by decide +kernel)
set_option maxRecDepth 65536 in
theorem w_c4 : (Jvm.Cond.code ({ cls := "com/example/yealm/yealm/equiv/RefinablePartitionMarkPinLaw", name := "blk", desc := "(ZI)I" } : Jvm.MethodName) method_2_code (2 : Nat) (Option.some Jvm.ClassFile.FieldType.int)).before args0 about1 = true := code_word (m := ⟨1, 1⟩) (meth := k1m1) (c := k1c1) (by decide +kernel) rfl rfl rfl (by decide +kernel)
set_option maxRecDepth 65536 in
theorem w_c5 : (Jvm.Cond.code ({ cls := "com/example/yealm/yealm/equiv/RefinablePartitionMarkPinLaw", name := "beg", desc := "(ZI)I" } : Jvm.MethodName) method_3_code (2 : Nat) (Option.some Jvm.ClassFile.FieldType.int)).before args0 about1 = true := code_word (m := ⟨1, 2⟩) (meth := k1m2) (c := k1c2) (by decide +kernel) rfl rfl rfl (by decide +kernel)
set_option maxRecDepth 65536 in
theorem w_c6 : (Jvm.Cond.code ({ cls := "com/example/yealm/yealm/equiv/RefinablePartition", name := "getTouchedCount", desc := "()I" } : Jvm.MethodName) prog_61_method_11_code (1 : Nat) (Option.some Jvm.ClassFile.FieldType.int)).before args0 about1 = true := code_word (m := ⟨2, 4⟩) (meth := k2m4) (c := k2c4) (by decide +kernel) rfl rfl rfl (by decide +kernel)
set_option maxRecDepth 65536 in
theorem w_c7 : (Jvm.Cond.code ({ cls := "com/example/yealm/yealm/equiv/RefinablePartition", name := "touched", desc := "(I)I" } : Jvm.MethodName) prog_61_method_12_code (2 : Nat) (Option.some Jvm.ClassFile.FieldType.int)).before args0 about1 = true := code_word (m := ⟨2, 5⟩) (meth := k2m5) (c := k2c5) (by decide +kernel) rfl rfl rfl (by decide +kernel)
set_option maxRecDepth 65536 in
theorem w_c8 : (Jvm.Cond.code ({ cls := "com/example/yealm/yealm/equiv/RefinablePartition", name := "markedEnd", desc := "(I)I" } : Jvm.MethodName) prog_61_method_6_code (2 : Nat) (Option.some Jvm.ClassFile.FieldType.int)).before args0 about1 = true := code_word (m := ⟨2, 1⟩) (meth := k2m1) (c := k2c1) (by decide +kernel) rfl rfl rfl (by decide +kernel)
set_option maxRecDepth 65536 in
theorem w_c9 : (Jvm.Cond.code ({ cls := "com/example/yealm/yealm/equiv/RefinablePartitionMarkPinLaw", name := "at", desc := "(Lcom/example/yealm/yealm/equiv/RefinablePartition;II)I" } : Jvm.MethodName) method_4_code (3 : Nat) (Option.some Jvm.ClassFile.FieldType.int)).before args0 about1 = true := code_word (m := ⟨1, 3⟩) (meth := k1m3) (c := k1c3) (by decide +kernel) rfl rfl rfl (by decide +kernel)
set_option maxRecDepth 65536 in
theorem w_c10 : (Jvm.Cond.code ({ cls := "com/example/yealm/yealm/equiv/RefinablePartition", name := "stateAt", desc := "(I)I" } : Jvm.MethodName) prog_61_method_8_code (2 : Nat) (Option.some Jvm.ClassFile.FieldType.int)).before args0 about1 = true := code_word (m := ⟨2, 2⟩) (meth := k2m2) (c := k2c2) (by decide +kernel) rfl rfl rfl (by decide +kernel)
set_option maxRecDepth 65536 in
theorem w_c11 : (Jvm.Cond.code ({ cls := "com/example/yealm/yealm/equiv/RefinablePartitionMarkPinLaw", name := "bit", desc := "(II)I" } : Jvm.MethodName) method_5_code (2 : Nat) (Option.some Jvm.ClassFile.FieldType.int)).before args0 about1 = true := code_word (m := ⟨1, 4⟩) (meth := k1m4) (c := k1c4) (by decide +kernel) rfl rfl rfl (by decide +kernel)
set_option maxRecDepth 65536 in
theorem w_c12 : (Jvm.Cond.code ({ cls := "com/example/yealm/yealm/equiv/RefinablePartition", name := "split", desc := "(I)I" } : Jvm.MethodName) prog_61_method_15_code (4 : Nat) (Option.some Jvm.ClassFile.FieldType.int)).before args0 about1 = true := code_word (m := ⟨2, 7⟩) (meth := k2m7) (c := k2c7) (by decide +kernel) rfl rfl rfl (by decide +kernel)
set_option maxRecDepth 65536 in
theorem w_c13 : (Jvm.Cond.code ({ cls := "com/example/yealm/yealm/equiv/RefinablePartition", name := "newBlock", desc := "(III)I" } : Jvm.MethodName) prog_61_method_17_code (6 : Nat) (Option.some Jvm.ClassFile.FieldType.int)).before args0 about1 = true := code_word (m := ⟨2, 8⟩) (meth := k2m8) (c := k2c8) (by decide +kernel) rfl rfl rfl (by decide +kernel)
set_option maxRecDepth 65536 in
theorem w_c14 : (Jvm.Cond.code ({ cls := "com/example/yealm/yealm/equiv/RefinablePartition", name := "forgetTouched", desc := "()V" } : Jvm.MethodName) prog_61_method_13_code (1 : Nat) (Option.none : Option Jvm.ClassFile.FieldType)).before args0 about1 = true := code_word (m := ⟨2, 6⟩) (meth := k2m6) (c := k2c6) (by decide +kernel) rfl rfl rfl (by decide +kernel)
def codes1 : List Jvm.Cond := [Jvm.Cond.code x code maxLocals ret, Jvm.Cond.code ({ cls := "com/example/yealm/yealm/equiv/RefinablePartition", name := "<init>", desc := "(I)V" } : Jvm.MethodName) prog_61_method_1_code (3 : Nat) (Option.none : Option Jvm.ClassFile.FieldType), Jvm.Cond.code ({ cls := "java/lang/Object", name := "<init>", desc := "()V" } : Jvm.MethodName) object_method_1_code (1 : Nat) (Option.none : Option Jvm.ClassFile.FieldType), Jvm.Cond.code ({ cls := "com/example/yealm/yealm/equiv/RefinablePartition", name := "mark", desc := "(I)Z" } : Jvm.MethodName) prog_61_method_10_code (6 : Nat) (Option.some Jvm.ClassFile.FieldType.boolean), Jvm.Cond.code ({ cls := "com/example/yealm/yealm/equiv/RefinablePartitionMarkPinLaw", name := "blk", desc := "(ZI)I" } : Jvm.MethodName) method_2_code (2 : Nat) (Option.some Jvm.ClassFile.FieldType.int), Jvm.Cond.code ({ cls := "com/example/yealm/yealm/equiv/RefinablePartitionMarkPinLaw", name := "beg", desc := "(ZI)I" } : Jvm.MethodName) method_3_code (2 : Nat) (Option.some Jvm.ClassFile.FieldType.int), Jvm.Cond.code ({ cls := "com/example/yealm/yealm/equiv/RefinablePartition", name := "getTouchedCount", desc := "()I" } : Jvm.MethodName) prog_61_method_11_code (1 : Nat) (Option.some Jvm.ClassFile.FieldType.int), Jvm.Cond.code ({ cls := "com/example/yealm/yealm/equiv/RefinablePartition", name := "touched", desc := "(I)I" } : Jvm.MethodName) prog_61_method_12_code (2 : Nat) (Option.some Jvm.ClassFile.FieldType.int), Jvm.Cond.code ({ cls := "com/example/yealm/yealm/equiv/RefinablePartition", name := "markedEnd", desc := "(I)I" } : Jvm.MethodName) prog_61_method_6_code (2 : Nat) (Option.some Jvm.ClassFile.FieldType.int), Jvm.Cond.code ({ cls := "com/example/yealm/yealm/equiv/RefinablePartitionMarkPinLaw", name := "at", desc := "(Lcom/example/yealm/yealm/equiv/RefinablePartition;II)I" } : Jvm.MethodName) method_4_code (3 : Nat) (Option.some Jvm.ClassFile.FieldType.int), Jvm.Cond.code ({ cls := "com/example/yealm/yealm/equiv/RefinablePartition", name := "stateAt", desc := "(I)I" } : Jvm.MethodName) prog_61_method_8_code (2 : Nat) (Option.some Jvm.ClassFile.FieldType.int), Jvm.Cond.code ({ cls := "com/example/yealm/yealm/equiv/RefinablePartitionMarkPinLaw", name := "bit", desc := "(II)I" } : Jvm.MethodName) method_5_code (2 : Nat) (Option.some Jvm.ClassFile.FieldType.int), Jvm.Cond.code ({ cls := "com/example/yealm/yealm/equiv/RefinablePartition", name := "split", desc := "(I)I" } : Jvm.MethodName) prog_61_method_15_code (4 : Nat) (Option.some Jvm.ClassFile.FieldType.int), Jvm.Cond.code ({ cls := "com/example/yealm/yealm/equiv/RefinablePartition", name := "newBlock", desc := "(III)I" } : Jvm.MethodName) prog_61_method_17_code (6 : Nat) (Option.some Jvm.ClassFile.FieldType.int), Jvm.Cond.code ({ cls := "com/example/yealm/yealm/equiv/RefinablePartition", name := "forgetTouched", desc := "()V" } : Jvm.MethodName) prog_61_method_13_code (1 : Nat) (Option.none : Option Jvm.ClassFile.FieldType)]
set_option maxRecDepth 65536 in
theorem codes_eq : words1.filter isCode = codes1 := rfl
theorem w_codes : ∀ c ∈ words1.filter isCode, c.before args0 about1 = true := by
  rw [codes_eq]
  intro c hc
  simp only [codes1, List.mem_cons, List.not_mem_nil, or_false] at hc
  rcases hc with rfl | rfl | rfl | rfl | rfl | rfl | rfl | rfl | rfl | rfl | rfl | rfl | rfl | rfl | rfl
  · exact w_c0
  · exact w_c1
  · exact w_c2
  · exact w_c3
  · exact w_c4
  · exact w_c5
  · exact w_c6
  · exact w_c7
  · exact w_c8
  · exact w_c9
  · exact w_c10
  · exact w_c11
  · exact w_c12
  · exact w_c13
  · exact w_c14
set_option maxRecDepth 65536 in
theorem w_t1 : (words1.take 24).all (fun c => isCode c || c.before args0 about1) = true := by decide +kernel
set_option maxRecDepth 65536 in
theorem w_t2 : ((words1.drop 24).take 24).all (fun c => isCode c || c.before args0 about1) = true := by decide +kernel
set_option maxRecDepth 65536 in
theorem w_t3 : (((words1.drop 24).drop 24).take 24).all (fun c => isCode c || c.before args0 about1) = true := by decide +kernel
set_option maxRecDepth 65536 in
theorem w_t4 : (((words1.drop 24).drop 24).drop 24).all (fun c => isCode c || c.before args0 about1) = true := by decide +kernel
theorem w_tables : (allAtoms (Jvm.Cond.code x code maxLocals ret :: tables_1)).before args0 about1 = true := by
  rw [allAtoms_all]
  show words1.all (fun c => c.before args0 about1) = true
  refine all_split ?_ w_codes
  rw [← List.take_append_drop 24 words1, List.all_append, w_t1, ← List.take_append_drop 24 (words1.drop 24), List.all_append, w_t2, ← List.take_append_drop 24 ((words1.drop 24).drop 24), List.all_append, w_t3, w_t4]
  rfl
set_option maxRecDepth 65536 in
theorem w_case : (Jvm.Cond.and given_1 narrow_1).before args0 about1 = true := by decide +kernel
theorem w_applies : (headSpec (Jvm.Cond.code x code maxLocals ret :: tables_1) room_1).applies x e0.platform about1 = true :=
  (Spec.applies_iff w_frames).mpr ⟨w_running, w_runnable, w_alone, w_named, w_hears, w_ripe, w_room, w_tables⟩
theorem atStart : AtStart classFile x code maxLocals ret World_1 tables_1 room_1 Calls_1 rest_1 Pre_1 launch0 p0 e0 about1 theMethod args0 below0 :=
  ⟨lists_1, trivial, launch0.admits_env _ _ _, launch0.least_env, fairChoices_fair.cas, fairChoices_fair.clock, w_frames, w_args, w_heap, w_applies, trivial, trivial, w_case⟩
end start1
theorem witness_1 : WitnessClaimed_1 := ⟨start1.p0, start1.e0, start1.about1, start1.theMethod, start1.args0, start1.below0, start1.atStart⟩
end Jvm.Pilot.@@N@@
