import JvmDerived
import JvmDerived.Pilot.@@N@@Statement
import JvmDerived.Pilot.@@N@@Code
set_option linter.unusedVariables false
set_option linter.unusedSimpArgs false
namespace Jvm.RoadKit
open Sem ClassFile Op Lib Jvm.Stand Jvm.Free Jvm.LawKit
section New
variable {p : Program} {l : Launch} {e : Env} {R : Room} {s : State} {m : MethodId} {args : Array Value} {below : List Frame} {meth : Method} {c : Code} {T : State} {locs : List Loc} {cells slots : Nat}
theorem retI (X : Stand p l e R s m args below meth c T locs cells slots) (hx : p.tables.exec = Jvm.exec) {pc : Nat} {Ls : Array Slot} {z : Int32} {rest : List Value} (hret : meth.sig.returnType = some .int) (hd : decode c.code pc = .ok (.ireturn, 1)) {fs : List Frame}
    (hl : ∀ (f : JFrame) (acts : List Action), f.method = m → f.locked = none → f.entered = [] → (doReturn e (T.setTop f) acts (some (.int z))).1 = T.setFrames fs) : Steps p.tables e below (T.setTop (mkF m pc Ls (.int z :: rest))) (T.setFrames fs) := by
  have hm' : T.vm.method? m = some meth := X.method'
  have hn : narrow .int (.int z) = .int z := rfl
  show Steps p.tables e below (T.setTop { method := m, pc := pc, locals := Ls, stack := _ :: rest, locked := none }) _
  jvm_step X.here [X.here.top, hx, hd, hm', hret, hn]
  first | (intro acts; rw [hl _ acts rfl rfl rfl]) | rw [hl _ _ rfl rfl rfl]
  exact Steps.refl _
end New
end Jvm.RoadKit
namespace Jvm.Pilot.@@N@@
open Jvm Jvm.ClassFile Sem Op Lib Jvm.Free Jvm.Stand Jvm.LawKit Jvm.RoadKit Bundle Jvm.Pilot.@@N@@.Jvm.D

theorem pd_0 : parseMethodDescriptor "()V" = some ⟨[], none⟩ := by decide +kernel
theorem pd_1 : parseMethodDescriptor "(JJIII)V" = some ⟨[.long, .long, .int, .int, .int], none⟩ := by decide +kernel
theorem pd_2 : parseMethodDescriptor "(Lcom/example/tuplewise/tuplewise/store/Part;)Z" = some ⟨[(.object "com/example/tuplewise/tuplewise/store/Part")], some .boolean⟩ := by decide +kernel
def own_same (s r : Int64) (f c m : Int32) (s' r' : Int64) (f' c' m' : Int32) : Int32 := if lcmpW s s' = 0 then (if lcmpW r r' = 0 then (if f = f' then (if c = c' then (if m = m' then 1 else 0) else 0) else 0) else 0) else 0
theorem own_same_iff (s r : Int64) (f c m : Int32) (s' r' : Int64) (f' c' m' : Int32) : own_same s r f c m s' r' f' c' m' = if (s = s' ∧ r = r' ∧ f = f' ∧ c = c' ∧ m = m') then 1 else 0 := by
  unfold own_same
  simp only [lw_eq]
  by_cases h1 : s = s' <;> by_cases h2 : r = r' <;> by_cases h3 : f = f' <;> by_cases h4 : c = c' <;> by_cases h5 : m = m' <;> simp [h1, h2, h3, h4, h5]
theorem own_b {x v : Int32} (h : v = if x = 0 then 0 else 1) : v = 0 ↔ x = 0 := by
  subst h; by_cases q : x = 0 <;> simp [q]
theorem own_xl {b : Int32} {s d v : Int64} (hd : d ≠ 0) (h : v = if b = 0 then s else s ^^^ d) : (s = v ↔ b = 0) := by
  subst h; by_cases q : b = 0
  · simp [q]
  · simp only [q, if_false, iff_false]
    intro e
    apply hd
    have : s ^^^ s = s ^^^ (s ^^^ d) := congrArg (fun z => s ^^^ z) e
    rw [← Int64.xor_assoc, Int64.xor_self, Int64.zero_xor] at this
    exact this.symm
theorem own_xi {b : Int32} {s d v : Int32} (hd : d ≠ 0) (h : v = if b = 0 then s else s ^^^ d) : (s = v ↔ b = 0) := by
  subst h; by_cases q : b = 0
  · simp [q]
  · simp only [q, if_false, iff_false]
    intro e
    apply hd
    have : s ^^^ s = s ^^^ (s ^^^ d) := congrArg (fun z => s ^^^ z) e
    rw [← Int32.xor_assoc, Int32.xor_self, Int32.zero_xor] at this
    exact this.symm
theorem own_of (x : Int32) (n : Nat) (h0 : 0 ≤ x.toInt) (h1 : x.toInt < n) (hn : n < 2147483648) : ∃ k : Fin n, x = Int32.ofNat k.1 := by
  refine ⟨⟨x.toInt.toNat, by omega⟩, ?_⟩
  apply Int32.toInt_inj.mp
  rw [Int32.toInt_ofNat_of_lt (by show x.toInt.toNat < _; omega)]
  show x.toInt = ((x.toInt.toNat : Nat) : Int)
  omega
theorem own_dl : ∀ k : Fin 64, ((1 : Int64) <<< (Int32.ofNat k.1 &&& 0x3f).toInt64) ≠ 0 := by decide +kernel
theorem own_di : ∀ k : Fin 64, ((1 : Int32) <<< ((Int32.ofNat k.1 &&& 31) &&& 31)) ≠ 0 := by decide +kernel
theorem own_bits5 : ∀ k : Fin 32, ((Int32.ofNat k.1 &&& 1 = 0 ∧ Int32.ofNat k.1 &&& 2 = 0 ∧ Int32.ofNat k.1 &&& 4 = 0 ∧ Int32.ofNat k.1 &&& 8 = 0 ∧ Int32.ofNat k.1 &&& 16 = 0) ↔ Int32.ofNat k.1 = 0) := by decide +kernel
theorem own_bits (x : Int32) : (x &&& 1 = 0 ∧ x &&& 2 = 0 ∧ x &&& 4 = 0 ∧ x &&& 8 = 0 ∧ x &&& 16 = 0) ↔ x &&& 31 = 0 := by
  have e := c_mask x 31 5 (by decide) (by decide)
  obtain ⟨k, hk⟩ := own_of (x &&& 31) 32 (by omega) (by omega) (by decide)
  have q1 : x &&& 1 = (x &&& 31) &&& 1 := by rw [Int32.and_assoc]; rfl
  have q2 : x &&& 2 = (x &&& 31) &&& 2 := by rw [Int32.and_assoc]; rfl
  have q3 : x &&& 4 = (x &&& 31) &&& 4 := by rw [Int32.and_assoc]; rfl
  have q4 : x &&& 8 = (x &&& 31) &&& 8 := by rw [Int32.and_assoc]; rfl
  have q5 : x &&& 16 = (x &&& 31) &&& 16 := by rw [Int32.and_assoc]; rfl
  rw [q1, q2, q3, q4, q5, hk]
  exact own_bits5 k
theorem own_shift {x sh : Int32} (h : sh = x &&& 63) : ((1 : Int64) <<< (sh &&& 0x3f).toInt64) ≠ 0 ∧ ((1 : Int32) <<< ((sh &&& 31) &&& 31)) ≠ 0 := by
  have e := c_mask x 63 6 (by decide) (by decide)
  obtain ⟨k, hk⟩ := own_of (x &&& 63) 64 (by omega) (by omega) (by decide)
  rw [h, hk]
  exact ⟨own_dl k, own_di k⟩
theorem own_law {s r dl s' r' : Int64} {f c m f' c' m' sel di b1 b2 b3 b4 b5 ex : Int32} (h1 : b1 = if (sel &&& 1) = 0 then 0 else 1) (h2 : b2 = if (sel &&& 2) = 0 then 0 else 1) (h3 : b3 = if (sel &&& 4) = 0 then 0 else 1) (h4 : b4 = if (sel &&& 8) = 0 then 0 else 1) (h5 : b5 = if (sel &&& 16) = 0 then 0 else 1)
    (hl : dl ≠ 0) (hi : di ≠ 0) (g1 : s' = if b1 = 0 then s else s ^^^ dl) (g2 : r' = if b2 = 0 then r else r ^^^ dl) (g3 : f' = if b3 = 0 then f else f ^^^ di) (g4 : c' = if b4 = 0 then c else c ^^^ di) (g5 : m' = if b5 = 0 then m else m ^^^ di)
    (he : ex = if (sel &&& 31) = 0 then 1 else 0) : own_same s r f c m s' r' f' c' m' = ex ∧ own_same s' r' f' c' m' s r f c m = ex := by
  have k : (s = s' ∧ r = r' ∧ f = f' ∧ c = c' ∧ m = m') ↔ (sel &&& 31) = 0 := by
    rw [own_xl hl g1, own_xl hl g2, own_xi hi g3, own_xi hi g4, own_xi hi g5, own_b h1, own_b h2, own_b h3, own_b h4, own_b h5]
    exact own_bits sel
  have k' : (s' = s ∧ r' = r ∧ f' = f ∧ c' = c ∧ m' = m) ↔ (sel &&& 31) = 0 := by
    rw [← k, eq_comm (a := s'), eq_comm (a := r'), eq_comm (a := f'), eq_comm (a := c'), eq_comm (a := m')]
  rw [own_same_iff, own_same_iff, he]
  by_cases q : (sel &&& 31) = 0
  · rw [if_pos (k.mpr q), if_pos (k'.mpr q), if_pos q]; exact ⟨rfl, rfl⟩
  · rw [if_neg (fun z => q (k.mp z)), if_neg (fun z => q (k'.mp z)), if_neg q]; exact ⟨rfl, rfl⟩
theorem own_refl (s r : Int64) (f c m : Int32) : ¬ own_same s r f c m s r f c m = 0 := by rw [own_same_iff]; simp
theorem d1_0 : decode prog_211_method_1_code 0 = .ok (.aload_n 0, 1) := by decide +kernel
theorem d1_1 : decode prog_211_method_1_code 1 = .ok (.invokespecial 1, 3) := by decide +kernel
theorem d1_4 : decode prog_211_method_1_code 4 = .ok (.aload_n 0, 1) := by decide +kernel
theorem d1_5 : decode prog_211_method_1_code 5 = .ok (.lload_n 1, 1) := by decide +kernel
theorem d1_6 : decode prog_211_method_1_code 6 = .ok (.putfield 7, 3) := by decide +kernel
theorem d1_9 : decode prog_211_method_1_code 9 = .ok (.aload_n 0, 1) := by decide +kernel
theorem d1_10 : decode prog_211_method_1_code 10 = .ok (.lload_n 3, 1) := by decide +kernel
theorem d1_11 : decode prog_211_method_1_code 11 = .ok (.putfield 13, 3) := by decide +kernel
theorem d1_14 : decode prog_211_method_1_code 14 = .ok (.aload_n 0, 1) := by decide +kernel
theorem d1_15 : decode prog_211_method_1_code 15 = .ok (.iload 5, 2) := by decide +kernel
theorem d1_17 : decode prog_211_method_1_code 17 = .ok (.putfield 16, 3) := by decide +kernel
theorem d1_20 : decode prog_211_method_1_code 20 = .ok (.aload_n 0, 1) := by decide +kernel
theorem d1_21 : decode prog_211_method_1_code 21 = .ok (.iload 6, 2) := by decide +kernel
theorem d1_23 : decode prog_211_method_1_code 23 = .ok (.putfield 20, 3) := by decide +kernel
theorem d1_26 : decode prog_211_method_1_code 26 = .ok (.aload_n 0, 1) := by decide +kernel
theorem d1_27 : decode prog_211_method_1_code 27 = .ok (.iload 7, 2) := by decide +kernel
theorem d1_29 : decode prog_211_method_1_code 29 = .ok (.putfield 23, 3) := by decide +kernel
theorem d1_32 : decode prog_211_method_1_code 32 = .ok (.return_, 1) := by decide +kernel
theorem pn_1 : plainName "com/example/tuplewise/tuplewise/store/Part" = true := by first | (simp [plainName, overriddenIn]; done) | decide +kernel
theorem d2_0 : decode jdk_30_method_1_code 0 = .ok (.aload_n 0, 1) := by decide +kernel
theorem d2_1 : decode jdk_30_method_1_code 1 = .ok (.invokespecial 1, 3) := by decide +kernel
theorem d2_4 : decode jdk_30_method_1_code 4 = .ok (.return_, 1) := by decide +kernel
theorem pn_2 : plainName "java/lang/Record" = true := by first | (simp [plainName, overriddenIn]; done) | decide +kernel
theorem d4_0 : decode prog_211_method_2_code 0 = .ok (.aload_n 0, 1) := by decide +kernel
theorem d4_1 : decode prog_211_method_2_code 1 = .ok (.getfield 7, 3) := by decide +kernel
theorem d4_4 : decode prog_211_method_2_code 4 = .ok (.aload_n 1, 1) := by decide +kernel
theorem d4_5 : decode prog_211_method_2_code 5 = .ok (.getfield 7, 3) := by decide +kernel
theorem d4_8 : decode prog_211_method_2_code 8 = .ok (.lcmp, 1) := by decide +kernel
theorem d4_9 : decode prog_211_method_2_code 9 = .ok (.ifCond .ne 52, 3) := by decide +kernel
theorem d4_12 : decode prog_211_method_2_code 12 = .ok (.aload_n 0, 1) := by decide +kernel
theorem d4_13 : decode prog_211_method_2_code 13 = .ok (.getfield 13, 3) := by decide +kernel
theorem d4_16 : decode prog_211_method_2_code 16 = .ok (.aload_n 1, 1) := by decide +kernel
theorem d4_17 : decode prog_211_method_2_code 17 = .ok (.getfield 13, 3) := by decide +kernel
theorem d4_20 : decode prog_211_method_2_code 20 = .ok (.lcmp, 1) := by decide +kernel
theorem d4_21 : decode prog_211_method_2_code 21 = .ok (.ifCond .ne 40, 3) := by decide +kernel
theorem d4_24 : decode prog_211_method_2_code 24 = .ok (.aload_n 0, 1) := by decide +kernel
theorem d4_25 : decode prog_211_method_2_code 25 = .ok (.getfield 16, 3) := by decide +kernel
theorem d4_28 : decode prog_211_method_2_code 28 = .ok (.aload_n 1, 1) := by decide +kernel
theorem d4_29 : decode prog_211_method_2_code 29 = .ok (.getfield 16, 3) := by decide +kernel
theorem d4_32 : decode prog_211_method_2_code 32 = .ok (.if_icmp .ne 29, 3) := by decide +kernel
theorem d4_35 : decode prog_211_method_2_code 35 = .ok (.aload_n 0, 1) := by decide +kernel
theorem d4_36 : decode prog_211_method_2_code 36 = .ok (.getfield 20, 3) := by decide +kernel
theorem d4_39 : decode prog_211_method_2_code 39 = .ok (.aload_n 1, 1) := by decide +kernel
theorem d4_40 : decode prog_211_method_2_code 40 = .ok (.getfield 20, 3) := by decide +kernel
theorem d4_43 : decode prog_211_method_2_code 43 = .ok (.if_icmp .ne 18, 3) := by decide +kernel
theorem d4_46 : decode prog_211_method_2_code 46 = .ok (.aload_n 0, 1) := by decide +kernel
theorem d4_47 : decode prog_211_method_2_code 47 = .ok (.getfield 23, 3) := by decide +kernel
theorem d4_50 : decode prog_211_method_2_code 50 = .ok (.aload_n 1, 1) := by decide +kernel
theorem d4_51 : decode prog_211_method_2_code 51 = .ok (.getfield 23, 3) := by decide +kernel
theorem d4_54 : decode prog_211_method_2_code 54 = .ok (.if_icmp .ne 7, 3) := by decide +kernel
theorem d4_57 : decode prog_211_method_2_code 57 = .ok (.iconst 1, 1) := by decide +kernel
theorem d4_58 : decode prog_211_method_2_code 58 = .ok (.goto 4, 3) := by decide +kernel
theorem d4_61 : decode prog_211_method_2_code 61 = .ok (.iconst 0, 1) := by decide +kernel
theorem d4_62 : decode prog_211_method_2_code 62 = .ok (.ireturn, 1) := by decide +kernel
theorem pn_4 : plainName "com/example/tuplewise/tuplewise/store/Part" = true := by first | (simp [plainName, overriddenIn]; done) | decide +kernel
theorem pn_0 : plainName "com/example/tuplewise/tuplewise/store/PartSameAsPinLaw" = true := by first | (simp [plainName, overriddenIn]; done) | decide +kernel
theorem ef_2 (m : MethodId) (a1 : Addr) : entryFrame m #[(.ref a1)] 1 = mkF m 0 #[.val (.ref a1)] [] := by first | (simp [entryFrame, mkF, argsToLocals, Value.category]; done) | rfl
def Q2 (h0 : Heap) (n0 : Nat) (v : Option Value) (h : Heap) (L : List Loc) : Prop := v = none ∧ Fr n0 L ∧ h = h0
set_option maxRecDepth 65536 in
set_option maxHeartbeats 40000000 in
theorem rm2 (l : Launch) (Z : State) (a0 : Array Value) (hw : ∀ d ∈ tables_1, d.before a0 Z = true) (ws : List Jvm.Cond) (a1 : Addr) (h0 : Heap) (n0 : Nat) (Z0 : n0 ≤ h0.size) :
    MetFree l (⟨"java/lang/Record", "<init>", "()V"⟩ : MethodName) (head1 (Jvm.Cond.code (⟨"java/lang/Record", "<init>", "()V"⟩ : MethodName) jdk_30_method_1_code 1 none :: ws) ({ frames := 1, cells := 0, slots := 0, locals := 12 } : Room)) (fun a U => a = #[(.ref a1)] ∧ Z.Warmed39 U.vm ∧ U.heap = h0) (fun _ _ _ _ _ => True) (fun _ U o U' => ∃ v L, o = .returned v ∧ Q2 h0 n0 v U'.heap L ∧ FrameEnd U o U' L ({ frames := 1, cells := 0, slots := 0, locals := 12 } : Room).cells ({ frames := 1, cells := 0, slots := 0, locals := 12 } : Room).slots) := by
  refine MetFree.of_bodySF (plainFor_of_name pn_2) hisR ?_
  intro p e s m args below meth c s₁ Bd hml0 hP hK
  obtain ⟨rfl, hZ, hh⟩ := hP
  have hx := Bd.exec
  have hby := Bd.bytes
  have hml : c.maxLocals = 1 := hml0
  have hown : s.vm.findClass "java/lang/Record" = some m.cls := findClass_of_methodNamed Bd.named
  have hnm := (name_of_methodNamed Bd.named Bd.method).1
  have X0 : Stand p l e ({ frames := 1, cells := 0, slots := 0, locals := 12 } : Room) s m #[(.ref a1)] below meth c s₁ [] 0 0 := Stand.of_body Bd
  have e0 : s₁.heap = h0 := by rw [← hh, Bd.state]; rfl
  have N0 := Fr.nil n0
  have pre0 : ∀ t, Steps p.tables e below (s₁.setTop (mkF m 0 #[.val (.ref a1)] [])) t → Steps p.tables e below (s₁.setTop (entryFrame m #[(.ref a1)] 1)) t := fun t k => castTop (ef_2 m a1) k
  obtain ⟨T1, X1, e1, st1⟩ := initO X0 hx hZ hown (hw _ (List.mem_of_getElem? (i := 11) rfl)) (hw _ (List.mem_of_getElem? (i := 12) rfl)) (hw _ (List.mem_of_getElem? (i := 13) rfl)) e0 (g := (mkF m 1 #[.val (.ref a1)] [(.ref a1)])) rfl (by rw [hml]; rfl) rfl (hb hby d2_1) (by decide) (W := 0) (by show 2 * 0 + _ ≤ _; exact Nat.le_of_eq rfl) (by decide)
  obtain ⟨fs, hr, hrun, hended, hW, hsame⟩ := X1.leave (v := none) (fun _ => rfl)
  refine ⟨_, _, pre0 _ ?_, hrun, hended, _, _, rfl, ?_, ⟨_, rfl⟩, hW, hsame.mono (by decide) (by decide)⟩
  · show Steps p.tables e below (s₁.setTop (mkF m 0 #[.val (.ref a1)] [])) _
    refine XS.aloadN X0.here hx rfl (hb hby d2_0) rfl rfl ?_
    show Steps p.tables e below (s₁.setTop (mkF m 1 #[.val (.ref a1)] [(.ref a1)])) _
    refine st1 _ ?_
    show Steps p.tables e below (T1.setTop (mkF m 4 #[.val (.ref a1)] [])) _
    exact X1.returnOut hx Bd.returns (hb hby d2_4) hr
  · show Q2 h0 n0 _ T1.heap _
    rw [e1]
    exact ⟨rfl, N0, rfl⟩
theorem ef_1 (m : MethodId) (a1 : Addr) (x1 : Int64) (x2 : Int64) (x3 : Int32) (x4 : Int32) (x5 : Int32) : entryFrame m #[(.ref a1), (.long x1), (.long x2), (.int x3), (.int x4), (.int x5)] 8 = mkF m 0 #[.val (.ref a1), .val (.long x1), .second, .val (.long x2), .second, .val (.int x3), .val (.int x4), .val (.int x5)] [] := by first | (simp [entryFrame, mkF, argsToLocals, Value.category]; done) | rfl
def Q1 (Z : State) (a1 : Addr) (x1 x2 : Int64) (x3 x4 x5 : Int32) (h0 : Heap) (n0 : Nat) (v : Option Value) (h : Heap) (L : List Loc) : Prop := v = none ∧ Fr n0 L ∧ Keep h0 h [a1] ∧ Exa Z h a1 "com/example/tuplewise/tuplewise/store/Part" ∧ Fld Z h a1 "com/example/tuplewise/tuplewise/store/Part" "start" "J" (.long x1) ∧ Fld Z h a1 "com/example/tuplewise/tuplewise/store/Part" "recordsLength" "J" (.long x2) ∧ Fld Z h a1 "com/example/tuplewise/tuplewise/store/Part" "first" "I" (.int x3) ∧ Fld Z h a1 "com/example/tuplewise/tuplewise/store/Part" "count" "I" (.int x4) ∧ Fld Z h a1 "com/example/tuplewise/tuplewise/store/Part" "removed" "I" (.int x5)
set_option maxRecDepth 65536 in
set_option maxHeartbeats 40000000 in
theorem rm1 (l : Launch) (Z : State) (a0 : Array Value) (hw : ∀ d ∈ tables_1, d.before a0 Z = true) (ws : List Jvm.Cond) (a1 : Addr) (x1 x2 : Int64) (x3 x4 x5 : Int32) (u1 u2 u3 u4 u5 : Value) (h0 : Heap) (n0 : Nat) (Z0 : n0 ≤ h0.size) (E_a1 : Exa Z h0 a1 "com/example/tuplewise/tuplewise/store/Part") (g_a1 : n0 ≤ a1) (F_start : Fld Z h0 a1 "com/example/tuplewise/tuplewise/store/Part" "start" "J" u1) (F_recordsLength : Fld Z h0 a1 "com/example/tuplewise/tuplewise/store/Part" "recordsLength" "J" u2) (F_first : Fld Z h0 a1 "com/example/tuplewise/tuplewise/store/Part" "first" "I" u3) (F_count : Fld Z h0 a1 "com/example/tuplewise/tuplewise/store/Part" "count" "I" u4) (F_removed : Fld Z h0 a1 "com/example/tuplewise/tuplewise/store/Part" "removed" "I" u5) :
    MetFree l (⟨"com/example/tuplewise/tuplewise/store/Part", "<init>", "(JJIII)V"⟩ : MethodName) (head1 (Jvm.Cond.code (⟨"com/example/tuplewise/tuplewise/store/Part", "<init>", "(JJIII)V"⟩ : MethodName) prog_211_method_1_code 8 none :: ws) ({ frames := 2, cells := 0, slots := 0, locals := 24 } : Room)) (fun a U => a = #[(.ref a1), (.long x1), (.long x2), (.int x3), (.int x4), (.int x5)] ∧ Z.Warmed39 U.vm ∧ U.heap = h0) (fun _ _ _ _ _ => True) (fun _ U o U' => ∃ v L, o = .returned v ∧ Q1 Z a1 x1 x2 x3 x4 x5 h0 n0 v U'.heap L ∧ FrameEnd U o U' L ({ frames := 2, cells := 0, slots := 0, locals := 24 } : Room).cells ({ frames := 2, cells := 0, slots := 0, locals := 24 } : Room).slots) := by
  refine MetFree.of_bodySF (plainFor_of_name pn_1) hisR ?_
  intro p e s m args below meth c s₁ Bd hml0 hP hK
  obtain ⟨rfl, hZ, hh⟩ := hP
  have hx := Bd.exec
  have hby := Bd.bytes
  have hml : c.maxLocals = 8 := hml0
  have hown : s.vm.findClass "com/example/tuplewise/tuplewise/store/Part" = some m.cls := findClass_of_methodNamed Bd.named
  have hnm := (name_of_methodNamed Bd.named Bd.method).1
  have X0 : Stand p l e ({ frames := 2, cells := 0, slots := 0, locals := 24 } : Room) s m #[(.ref a1), (.long x1), (.long x2), (.int x3), (.int x4), (.int x5)] below meth c s₁ [] 0 0 := Stand.of_body Bd
  have e0 : s₁.heap = h0 := by rw [← hh, Bd.state]; rfl
  have N0 := Fr.nil n0
  have pre0 : ∀ t, Steps p.tables e below (s₁.setTop (mkF m 0 #[.val (.ref a1), .val (.long x1), .second, .val (.long x2), .second, .val (.int x3), .val (.int x4), .val (.int x5)] [])) t → Steps p.tables e below (s₁.setTop (entryFrame m #[(.ref a1), (.long x1), (.long x2), (.int x3), (.int x4), (.int x5)] 8)) t := fun t k => castTop (ef_1 m a1 x1 x2 x3 x4 x5) k
  obtain ⟨_, _, ⟨T1, L1, k1, n1⟩, -, X1, ⟨Lc1, hQ1, l1, y1, z1⟩, st1⟩ := X0.specialBack hx (y := (⟨"java/lang/Record", "<init>", "()V"⟩ : MethodName)) rfl hown (mvT hZ (hw _ (List.mem_of_getElem? (i := 6) rfl))) (mvT hZ (hw _ (List.mem_of_getElem? (i := 7) rfl))) (mvT hZ (hw _ (List.mem_of_getElem? (i := 10) rfl))) (by decide) (backOf (W := 0) (rm2 l Z a0 hw [] a1 h0 n0 Z0) hZ (hw _ (List.mem_of_getElem? (i := 10) rfl)) (hw _ (List.mem_of_getElem? (i := 9) rfl)) (by decide) (by decide)) (g := (mkF m 1 #[.val (.ref a1), .val (.long x1), .second, .val (.long x2), .second, .val (.int x3), .val (.int x4), .val (.int x5)] [(.ref a1)])) rfl (by rw [hml]; rfl) (Steps.refl _) (a := a1) (argsL := []) (rest := []) (lenOf pd_0 rfl) rfl (by show 2 * 0 + _ ≤ _; exact Nat.le_of_eq rfl) (hb hby d1_1) (fun _ _ => ⟨rfl, e0, (by decide : 0 + 0 ≤ _), (by decide : 0 + 0 ≤ _)⟩)
  dsimp only [Pt.U, Pt.locs, Pt.cells, Pt.slots] at X1 l1 y1 z1 st1 hQ1
  subst l1 y1 z1
  obtain ⟨rfl, N1q, e1⟩ := hQ1
  have N1 := Fr.app N0 N1q
  obtain ⟨T2, h2, X2, e2, W2, st2⟩ := putF X1 hx hZ hown (host := "") (Or.inl (hw _ (List.mem_of_getElem? (i := 14) rfl))) Via.refl e1 F_start E_a1 (Or.inr ⟨(hw _ (List.mem_of_getElem? (i := 15) rfl)), rfl, hnm⟩) (hw _ (List.mem_of_getElem? (i := 1) rfl)) (ty := .long) (by decide) rfl rfl (g := (mkF m 6 #[.val (.ref a1), .val (.long x1), .second, .val (.long x2), .second, .val (.int x3), .val (.int x4), .val (.int x5)] [(.long x1), (.ref a1)])) rfl rfl (hb hby d1_6)
  have Fw2 := F_start.same W2
  have N2 := Fr.snoc X2 N1 g_a1
  have fx3 := (F_recordsLength.other W2 (Or.inr (slot_ne (Or.inr (hw _ (List.mem_of_getElem? (i := 17) rfl))) (Or.inr (hw _ (List.mem_of_getElem? (i := 15) rfl))) (by decide) (t := .long) (t' := .long) (by decide) (by decide))))
  obtain ⟨T4, h4, X4, e4, W4, st4⟩ := putF X2 hx hZ hown (host := "") (Or.inl (hw _ (List.mem_of_getElem? (i := 16) rfl))) Via.refl e2 fx3 (E_a1.wr W2) (Or.inr ⟨(hw _ (List.mem_of_getElem? (i := 17) rfl)), rfl, hnm⟩) (hw _ (List.mem_of_getElem? (i := 1) rfl)) (ty := .long) (by decide) rfl rfl (g := (mkF m 11 #[.val (.ref a1), .val (.long x1), .second, .val (.long x2), .second, .val (.int x3), .val (.int x4), .val (.int x5)] [(.long x2), (.ref a1)])) rfl rfl (hb hby d1_11)
  have Fw4 := fx3.same W4
  have N4 := Fr.snoc X4 N2 g_a1
  have fx5 := ((F_first.other W2 (Or.inr (slot_ne (Or.inr (hw _ (List.mem_of_getElem? (i := 19) rfl))) (Or.inr (hw _ (List.mem_of_getElem? (i := 15) rfl))) (by decide) (t := .int) (t' := .long) (by decide) (by decide)))).other W4 (Or.inr (slot_ne (Or.inr (hw _ (List.mem_of_getElem? (i := 19) rfl))) (Or.inr (hw _ (List.mem_of_getElem? (i := 17) rfl))) (by decide) (t := .int) (t' := .long) (by decide) (by decide))))
  obtain ⟨T6, h6, X6, e6, W6, st6⟩ := putF X4 hx hZ hown (host := "") (Or.inl (hw _ (List.mem_of_getElem? (i := 18) rfl))) Via.refl e4 fx5 ((E_a1.wr W2).wr W4) (Or.inr ⟨(hw _ (List.mem_of_getElem? (i := 19) rfl)), rfl, hnm⟩) (hw _ (List.mem_of_getElem? (i := 1) rfl)) (ty := .int) (by decide) rfl rfl (g := (mkF m 17 #[.val (.ref a1), .val (.long x1), .second, .val (.long x2), .second, .val (.int x3), .val (.int x4), .val (.int x5)] [(.int x3), (.ref a1)])) rfl rfl (hb hby d1_17)
  have Fw6 := fx5.same W6
  have N6 := Fr.snoc X6 N4 g_a1
  have fx7 := (((F_count.other W2 (Or.inr (slot_ne (Or.inr (hw _ (List.mem_of_getElem? (i := 21) rfl))) (Or.inr (hw _ (List.mem_of_getElem? (i := 15) rfl))) (by decide) (t := .int) (t' := .long) (by decide) (by decide)))).other W4 (Or.inr (slot_ne (Or.inr (hw _ (List.mem_of_getElem? (i := 21) rfl))) (Or.inr (hw _ (List.mem_of_getElem? (i := 17) rfl))) (by decide) (t := .int) (t' := .long) (by decide) (by decide)))).other W6 (Or.inr (slot_ne (Or.inr (hw _ (List.mem_of_getElem? (i := 21) rfl))) (Or.inr (hw _ (List.mem_of_getElem? (i := 19) rfl))) (by decide) (t := .int) (t' := .int) (by decide) (by decide))))
  obtain ⟨T8, h8, X8, e8, W8, st8⟩ := putF X6 hx hZ hown (host := "") (Or.inl (hw _ (List.mem_of_getElem? (i := 20) rfl))) Via.refl e6 fx7 (((E_a1.wr W2).wr W4).wr W6) (Or.inr ⟨(hw _ (List.mem_of_getElem? (i := 21) rfl)), rfl, hnm⟩) (hw _ (List.mem_of_getElem? (i := 1) rfl)) (ty := .int) (by decide) rfl rfl (g := (mkF m 23 #[.val (.ref a1), .val (.long x1), .second, .val (.long x2), .second, .val (.int x3), .val (.int x4), .val (.int x5)] [(.int x4), (.ref a1)])) rfl rfl (hb hby d1_23)
  have Fw8 := fx7.same W8
  have N8 := Fr.snoc X8 N6 g_a1
  have fx9 := ((((F_removed.other W2 (Or.inr (slot_ne (Or.inr (hw _ (List.mem_of_getElem? (i := 23) rfl))) (Or.inr (hw _ (List.mem_of_getElem? (i := 15) rfl))) (by decide) (t := .int) (t' := .long) (by decide) (by decide)))).other W4 (Or.inr (slot_ne (Or.inr (hw _ (List.mem_of_getElem? (i := 23) rfl))) (Or.inr (hw _ (List.mem_of_getElem? (i := 17) rfl))) (by decide) (t := .int) (t' := .long) (by decide) (by decide)))).other W6 (Or.inr (slot_ne (Or.inr (hw _ (List.mem_of_getElem? (i := 23) rfl))) (Or.inr (hw _ (List.mem_of_getElem? (i := 19) rfl))) (by decide) (t := .int) (t' := .int) (by decide) (by decide)))).other W8 (Or.inr (slot_ne (Or.inr (hw _ (List.mem_of_getElem? (i := 23) rfl))) (Or.inr (hw _ (List.mem_of_getElem? (i := 21) rfl))) (by decide) (t := .int) (t' := .int) (by decide) (by decide))))
  obtain ⟨T10, h10, X10, e10, W10, st10⟩ := putF X8 hx hZ hown (host := "") (Or.inl (hw _ (List.mem_of_getElem? (i := 22) rfl))) Via.refl e8 fx9 ((((E_a1.wr W2).wr W4).wr W6).wr W8) (Or.inr ⟨(hw _ (List.mem_of_getElem? (i := 23) rfl)), rfl, hnm⟩) (hw _ (List.mem_of_getElem? (i := 1) rfl)) (ty := .int) (by decide) rfl rfl (g := (mkF m 29 #[.val (.ref a1), .val (.long x1), .second, .val (.long x2), .second, .val (.int x3), .val (.int x4), .val (.int x5)] [(.int x5), (.ref a1)])) rfl rfl (hb hby d1_29)
  have Fw10 := fx9.same W10
  have N10 := Fr.snoc X10 N8 g_a1
  have fx11 := ((((Fw2.other W4 (Or.inr (slot_ne (Or.inr (hw _ (List.mem_of_getElem? (i := 15) rfl))) (Or.inr (hw _ (List.mem_of_getElem? (i := 17) rfl))) (by decide) (t := .long) (t' := .long) (by decide) (by decide)))).other W6 (Or.inr (slot_ne (Or.inr (hw _ (List.mem_of_getElem? (i := 15) rfl))) (Or.inr (hw _ (List.mem_of_getElem? (i := 19) rfl))) (by decide) (t := .long) (t' := .int) (by decide) (by decide)))).other W8 (Or.inr (slot_ne (Or.inr (hw _ (List.mem_of_getElem? (i := 15) rfl))) (Or.inr (hw _ (List.mem_of_getElem? (i := 21) rfl))) (by decide) (t := .long) (t' := .int) (by decide) (by decide)))).other W10 (Or.inr (slot_ne (Or.inr (hw _ (List.mem_of_getElem? (i := 15) rfl))) (Or.inr (hw _ (List.mem_of_getElem? (i := 23) rfl))) (by decide) (t := .long) (t' := .int) (by decide) (by decide))))
  have fx12 := (((Fw4.other W6 (Or.inr (slot_ne (Or.inr (hw _ (List.mem_of_getElem? (i := 17) rfl))) (Or.inr (hw _ (List.mem_of_getElem? (i := 19) rfl))) (by decide) (t := .long) (t' := .int) (by decide) (by decide)))).other W8 (Or.inr (slot_ne (Or.inr (hw _ (List.mem_of_getElem? (i := 17) rfl))) (Or.inr (hw _ (List.mem_of_getElem? (i := 21) rfl))) (by decide) (t := .long) (t' := .int) (by decide) (by decide)))).other W10 (Or.inr (slot_ne (Or.inr (hw _ (List.mem_of_getElem? (i := 17) rfl))) (Or.inr (hw _ (List.mem_of_getElem? (i := 23) rfl))) (by decide) (t := .long) (t' := .int) (by decide) (by decide))))
  have fx13 := ((Fw6.other W8 (Or.inr (slot_ne (Or.inr (hw _ (List.mem_of_getElem? (i := 19) rfl))) (Or.inr (hw _ (List.mem_of_getElem? (i := 21) rfl))) (by decide) (t := .int) (t' := .int) (by decide) (by decide)))).other W10 (Or.inr (slot_ne (Or.inr (hw _ (List.mem_of_getElem? (i := 19) rfl))) (Or.inr (hw _ (List.mem_of_getElem? (i := 23) rfl))) (by decide) (t := .int) (t' := .int) (by decide) (by decide))))
  have fx14 := (Fw8.other W10 (Or.inr (slot_ne (Or.inr (hw _ (List.mem_of_getElem? (i := 21) rfl))) (Or.inr (hw _ (List.mem_of_getElem? (i := 23) rfl))) (by decide) (t := .int) (t' := .int) (by decide) (by decide))))
  obtain ⟨fs, hr, hrun, hended, hW, hsame⟩ := X10.leave (v := none) (fun _ => rfl)
  refine ⟨_, _, pre0 _ ?_, hrun, hended, _, _, rfl, ?_, ⟨_, rfl⟩, hW, hsame.mono (by decide) (by decide)⟩
  · show Steps p.tables e below (s₁.setTop (mkF m 0 #[.val (.ref a1), .val (.long x1), .second, .val (.long x2), .second, .val (.int x3), .val (.int x4), .val (.int x5)] [])) _
    refine XS.aloadN X0.here hx rfl (hb hby d1_0) rfl rfl ?_
    show Steps p.tables e below (s₁.setTop (mkF m 1 #[.val (.ref a1), .val (.long x1), .second, .val (.long x2), .second, .val (.int x3), .val (.int x4), .val (.int x5)] [(.ref a1)])) _
    refine st1.trans ?_
    show Steps p.tables e below (T1.setTop (mkF m 4 #[.val (.ref a1), .val (.long x1), .second, .val (.long x2), .second, .val (.int x3), .val (.int x4), .val (.int x5)] [])) _
    refine XS.aloadN X1.here hx rfl (hb hby d1_4) rfl rfl ?_
    show Steps p.tables e below (T1.setTop (mkF m 5 #[.val (.ref a1), .val (.long x1), .second, .val (.long x2), .second, .val (.int x3), .val (.int x4), .val (.int x5)] [(.ref a1)])) _
    refine XS.lloadN X1.here hx rfl (hb hby d1_5) rfl ?_
    show Steps p.tables e below (T1.setTop (mkF m 6 #[.val (.ref a1), .val (.long x1), .second, .val (.long x2), .second, .val (.int x3), .val (.int x4), .val (.int x5)] [(.long x1), (.ref a1)])) _
    refine st2 _ ?_
    show Steps p.tables e below (T2.setTop (mkF m 9 #[.val (.ref a1), .val (.long x1), .second, .val (.long x2), .second, .val (.int x3), .val (.int x4), .val (.int x5)] [])) _
    refine XS.aloadN X2.here hx rfl (hb hby d1_9) rfl rfl ?_
    show Steps p.tables e below (T2.setTop (mkF m 10 #[.val (.ref a1), .val (.long x1), .second, .val (.long x2), .second, .val (.int x3), .val (.int x4), .val (.int x5)] [(.ref a1)])) _
    refine XS.lloadN X2.here hx rfl (hb hby d1_10) rfl ?_
    show Steps p.tables e below (T2.setTop (mkF m 11 #[.val (.ref a1), .val (.long x1), .second, .val (.long x2), .second, .val (.int x3), .val (.int x4), .val (.int x5)] [(.long x2), (.ref a1)])) _
    refine st4 _ ?_
    show Steps p.tables e below (T4.setTop (mkF m 14 #[.val (.ref a1), .val (.long x1), .second, .val (.long x2), .second, .val (.int x3), .val (.int x4), .val (.int x5)] [])) _
    refine XS.aloadN X4.here hx rfl (hb hby d1_14) rfl rfl ?_
    show Steps p.tables e below (T4.setTop (mkF m 15 #[.val (.ref a1), .val (.long x1), .second, .val (.long x2), .second, .val (.int x3), .val (.int x4), .val (.int x5)] [(.ref a1)])) _
    refine XS.iload X4.here hx rfl (hb hby d1_15) rfl ?_
    show Steps p.tables e below (T4.setTop (mkF m 17 #[.val (.ref a1), .val (.long x1), .second, .val (.long x2), .second, .val (.int x3), .val (.int x4), .val (.int x5)] [(.int x3), (.ref a1)])) _
    refine st6 _ ?_
    show Steps p.tables e below (T6.setTop (mkF m 20 #[.val (.ref a1), .val (.long x1), .second, .val (.long x2), .second, .val (.int x3), .val (.int x4), .val (.int x5)] [])) _
    refine XS.aloadN X6.here hx rfl (hb hby d1_20) rfl rfl ?_
    show Steps p.tables e below (T6.setTop (mkF m 21 #[.val (.ref a1), .val (.long x1), .second, .val (.long x2), .second, .val (.int x3), .val (.int x4), .val (.int x5)] [(.ref a1)])) _
    refine XS.iload X6.here hx rfl (hb hby d1_21) rfl ?_
    show Steps p.tables e below (T6.setTop (mkF m 23 #[.val (.ref a1), .val (.long x1), .second, .val (.long x2), .second, .val (.int x3), .val (.int x4), .val (.int x5)] [(.int x4), (.ref a1)])) _
    refine st8 _ ?_
    show Steps p.tables e below (T8.setTop (mkF m 26 #[.val (.ref a1), .val (.long x1), .second, .val (.long x2), .second, .val (.int x3), .val (.int x4), .val (.int x5)] [])) _
    refine XS.aloadN X8.here hx rfl (hb hby d1_26) rfl rfl ?_
    show Steps p.tables e below (T8.setTop (mkF m 27 #[.val (.ref a1), .val (.long x1), .second, .val (.long x2), .second, .val (.int x3), .val (.int x4), .val (.int x5)] [(.ref a1)])) _
    refine XS.iload X8.here hx rfl (hb hby d1_27) rfl ?_
    show Steps p.tables e below (T8.setTop (mkF m 29 #[.val (.ref a1), .val (.long x1), .second, .val (.long x2), .second, .val (.int x3), .val (.int x4), .val (.int x5)] [(.int x5), (.ref a1)])) _
    refine st10 _ ?_
    show Steps p.tables e below (T10.setTop (mkF m 32 #[.val (.ref a1), .val (.long x1), .second, .val (.long x2), .second, .val (.int x3), .val (.int x4), .val (.int x5)] [])) _
    exact X10.returnOut hx Bd.returns (hb hby d1_32) hr
  · show Q1 Z a1 x1 x2 x3 x4 x5 h0 n0 _ T10.heap _
    rw [e10]
    exact ⟨rfl, N10, ((((((Keep.refl h0 [a1]).wr W2 (Or.inl (List.mem_of_getElem? (i := 0) rfl))).wr W4 (Or.inl (List.mem_of_getElem? (i := 0) rfl))).wr W6 (Or.inl (List.mem_of_getElem? (i := 0) rfl))).wr W8 (Or.inl (List.mem_of_getElem? (i := 0) rfl))).wr W10 (Or.inl (List.mem_of_getElem? (i := 0) rfl))), (((((E_a1.wr W2).wr W4).wr W6).wr W8).wr W10), fx11, fx12, fx13, fx14, Fw10⟩
theorem ef_4 (m : MethodId) (a1 : Addr) (a2 : Addr) : entryFrame m #[(.ref a1), (.ref a2)] 2 = mkF m 0 #[.val (.ref a1), .val (.ref a2)] [] := by first | (simp [entryFrame, mkF, argsToLocals, Value.category]; done) | rfl
def Q4 (x1 x2 : Int64) (x3 x4 x5 : Int32) (y1 y2 : Int64) (y3 y4 y5 : Int32) (h0 : Heap) (n0 : Nat) (v : Option Value) (h : Heap) (L : List Loc) : Prop := v = some (.int (own_same x1 x2 x3 x4 x5 y1 y2 y3 y4 y5)) ∧ Fr n0 L ∧ h = h0
set_option maxRecDepth 65536 in
set_option maxHeartbeats 40000000 in
theorem rm4 (l : Launch) (Z : State) (a0 : Array Value) (hw : ∀ d ∈ tables_1, d.before a0 Z = true) (ws : List Jvm.Cond) (a1 a2 : Addr) (x1 x2 : Int64) (x3 x4 x5 : Int32) (y1 y2 : Int64) (y3 y4 y5 : Int32) (h0 : Heap) (n0 : Nat) (Z0 : n0 ≤ h0.size) (F_start_a1 : Fld Z h0 a1 "com/example/tuplewise/tuplewise/store/Part" "start" "J" (.long x1)) (F_recordsLength_a1 : Fld Z h0 a1 "com/example/tuplewise/tuplewise/store/Part" "recordsLength" "J" (.long x2)) (F_first_a1 : Fld Z h0 a1 "com/example/tuplewise/tuplewise/store/Part" "first" "I" (.int x3)) (F_count_a1 : Fld Z h0 a1 "com/example/tuplewise/tuplewise/store/Part" "count" "I" (.int x4)) (F_removed_a1 : Fld Z h0 a1 "com/example/tuplewise/tuplewise/store/Part" "removed" "I" (.int x5)) (F_start_a2 : Fld Z h0 a2 "com/example/tuplewise/tuplewise/store/Part" "start" "J" (.long y1)) (F_recordsLength_a2 : Fld Z h0 a2 "com/example/tuplewise/tuplewise/store/Part" "recordsLength" "J" (.long y2)) (F_first_a2 : Fld Z h0 a2 "com/example/tuplewise/tuplewise/store/Part" "first" "I" (.int y3)) (F_count_a2 : Fld Z h0 a2 "com/example/tuplewise/tuplewise/store/Part" "count" "I" (.int y4)) (F_removed_a2 : Fld Z h0 a2 "com/example/tuplewise/tuplewise/store/Part" "removed" "I" (.int y5)) :
    MetFree l (⟨"com/example/tuplewise/tuplewise/store/Part", "sameAs", "(Lcom/example/tuplewise/tuplewise/store/Part;)Z"⟩ : MethodName) (head1 (Jvm.Cond.code (⟨"com/example/tuplewise/tuplewise/store/Part", "sameAs", "(Lcom/example/tuplewise/tuplewise/store/Part;)Z"⟩ : MethodName) prog_211_method_2_code 2 (some .boolean) :: ws) ({ frames := 0, cells := 0, slots := 0, locals := 0 } : Room)) (fun a U => a = #[(.ref a1), (.ref a2)] ∧ Z.Warmed39 U.vm ∧ U.heap = h0) (fun _ _ _ _ _ => True) (fun _ U o U' => ∃ v L, o = .returned v ∧ Q4 x1 x2 x3 x4 x5 y1 y2 y3 y4 y5 h0 n0 v U'.heap L ∧ FrameEnd U o U' L ({ frames := 0, cells := 0, slots := 0, locals := 0 } : Room).cells ({ frames := 0, cells := 0, slots := 0, locals := 0 } : Room).slots) := by
  refine MetFree.of_bodySF (plainFor_of_name pn_4) hisR ?_
  intro p e s m args below meth c s₁ Bd hml0 hP hK
  obtain ⟨rfl, hZ, hh⟩ := hP
  have hx := Bd.exec
  have hby := Bd.bytes
  have hml : c.maxLocals = 2 := hml0
  have hown : s.vm.findClass "com/example/tuplewise/tuplewise/store/Part" = some m.cls := findClass_of_methodNamed Bd.named
  have hnm := (name_of_methodNamed Bd.named Bd.method).1
  have X0 : Stand p l e ({ frames := 0, cells := 0, slots := 0, locals := 0 } : Room) s m #[(.ref a1), (.ref a2)] below meth c s₁ [] 0 0 := Stand.of_body Bd
  have e0 : s₁.heap = h0 := by rw [← hh, Bd.state]; rfl
  have N0 := Fr.nil n0
  have pre0 : ∀ t, Steps p.tables e below (s₁.setTop (mkF m 0 #[.val (.ref a1), .val (.ref a2)] [])) t → Steps p.tables e below (s₁.setTop (entryFrame m #[(.ref a1), (.ref a2)] 2)) t := fun t k => castTop (ef_4 m a1 a2) k
  obtain ⟨T1, X1, e1, st1⟩ := getF X0 hx hZ hown (host := "") (Or.inl (hw _ (List.mem_of_getElem? (i := 14) rfl))) Via.refl e0 F_start_a1 (g := (mkF m 1 #[.val (.ref a1), .val (.ref a2)] [(.ref a1)])) rfl rfl (hb hby d4_1)
  obtain ⟨T2, X2, e2, st2⟩ := getF X1 hx hZ hown (host := "") (Or.inl (hw _ (List.mem_of_getElem? (i := 14) rfl))) Via.refl e1 F_start_a2 (g := (mkF m 5 #[.val (.ref a1), .val (.ref a2)] [(.ref a2), (.long x1)])) rfl rfl (hb hby d4_5)
  by_cases hc9 : (lcmpW x1 y1) = (0 : Int32)
  ·
    obtain ⟨T3, X3, e3, st3⟩ := getF X2 hx hZ hown (host := "") (Or.inl (hw _ (List.mem_of_getElem? (i := 16) rfl))) Via.refl e2 F_recordsLength_a1 (g := (mkF m 13 #[.val (.ref a1), .val (.ref a2)] [(.ref a1)])) rfl rfl (hb hby d4_13)
    obtain ⟨T4, X4, e4, st4⟩ := getF X3 hx hZ hown (host := "") (Or.inl (hw _ (List.mem_of_getElem? (i := 16) rfl))) Via.refl e3 F_recordsLength_a2 (g := (mkF m 17 #[.val (.ref a1), .val (.ref a2)] [(.ref a2), (.long x2)])) rfl rfl (hb hby d4_17)
    by_cases hc21 : (lcmpW x2 y2) = (0 : Int32)
    ·
      obtain ⟨T5, X5, e5, st5⟩ := getF X4 hx hZ hown (host := "") (Or.inl (hw _ (List.mem_of_getElem? (i := 18) rfl))) Via.refl e4 F_first_a1 (g := (mkF m 25 #[.val (.ref a1), .val (.ref a2)] [(.ref a1)])) rfl rfl (hb hby d4_25)
      obtain ⟨T6, X6, e6, st6⟩ := getF X5 hx hZ hown (host := "") (Or.inl (hw _ (List.mem_of_getElem? (i := 18) rfl))) Via.refl e5 F_first_a2 (g := (mkF m 29 #[.val (.ref a1), .val (.ref a2)] [(.ref a2), (.int x3)])) rfl rfl (hb hby d4_29)
      by_cases hc32 : x3 = y3
      ·
        obtain ⟨T7, X7, e7, st7⟩ := getF X6 hx hZ hown (host := "") (Or.inl (hw _ (List.mem_of_getElem? (i := 20) rfl))) Via.refl e6 F_count_a1 (g := (mkF m 36 #[.val (.ref a1), .val (.ref a2)] [(.ref a1)])) rfl rfl (hb hby d4_36)
        obtain ⟨T8, X8, e8, st8⟩ := getF X7 hx hZ hown (host := "") (Or.inl (hw _ (List.mem_of_getElem? (i := 20) rfl))) Via.refl e7 F_count_a2 (g := (mkF m 40 #[.val (.ref a1), .val (.ref a2)] [(.ref a2), (.int x4)])) rfl rfl (hb hby d4_40)
        by_cases hc43 : x4 = y4
        ·
          obtain ⟨T9, X9, e9, st9⟩ := getF X8 hx hZ hown (host := "") (Or.inl (hw _ (List.mem_of_getElem? (i := 22) rfl))) Via.refl e8 F_removed_a1 (g := (mkF m 47 #[.val (.ref a1), .val (.ref a2)] [(.ref a1)])) rfl rfl (hb hby d4_47)
          obtain ⟨T10, X10, e10, st10⟩ := getF X9 hx hZ hown (host := "") (Or.inl (hw _ (List.mem_of_getElem? (i := 22) rfl))) Via.refl e9 F_removed_a2 (g := (mkF m 51 #[.val (.ref a1), .val (.ref a2)] [(.ref a2), (.int x5)])) rfl rfl (hb hby d4_51)
          by_cases hc54 : x5 = y5
          ·
            obtain ⟨fs, hr, hrun, hended, hW, hsame⟩ := X10.leave (v := some (.int (1 : Int32))) (fun h => by rw [Bd.returns] at h; cases h)
            refine ⟨_, _, pre0 _ ?_, hrun, hended, _, _, rfl, ?_, ⟨_, rfl⟩, hW, hsame.mono (by decide) (by decide)⟩
            · show Steps p.tables e below (s₁.setTop (mkF m 0 #[.val (.ref a1), .val (.ref a2)] [])) _
              refine XS.aloadN X0.here hx rfl (hb hby d4_0) rfl rfl ?_
              show Steps p.tables e below (s₁.setTop (mkF m 1 #[.val (.ref a1), .val (.ref a2)] [(.ref a1)])) _
              refine st1 _ ?_
              show Steps p.tables e below (T1.setTop (mkF m 4 #[.val (.ref a1), .val (.ref a2)] [(.long x1)])) _
              refine XS.aloadN X1.here hx rfl (hb hby d4_4) rfl rfl ?_
              show Steps p.tables e below (T1.setTop (mkF m 5 #[.val (.ref a1), .val (.ref a2)] [(.ref a2), (.long x1)])) _
              refine st2 _ ?_
              show Steps p.tables e below (T2.setTop (mkF m 8 #[.val (.ref a1), .val (.ref a2)] [(.long y1), (.long x1)])) _
              refine XS.lcmp X2.here hx rfl (hb hby d4_8) rfl ?_
              show Steps p.tables e below (T2.setTop (mkF m 9 #[.val (.ref a1), .val (.ref a2)] [(.int (lcmpW x1 y1))])) _
              refine XS.ifNo X2.here hx rfl (hb hby d4_9) rfl ((if0 _ _).trans (teq hc9).2) ?_
              show Steps p.tables e below (T2.setTop (mkF m 12 #[.val (.ref a1), .val (.ref a2)] [])) _
              refine XS.aloadN X2.here hx rfl (hb hby d4_12) rfl rfl ?_
              show Steps p.tables e below (T2.setTop (mkF m 13 #[.val (.ref a1), .val (.ref a2)] [(.ref a1)])) _
              refine st3 _ ?_
              show Steps p.tables e below (T3.setTop (mkF m 16 #[.val (.ref a1), .val (.ref a2)] [(.long x2)])) _
              refine XS.aloadN X3.here hx rfl (hb hby d4_16) rfl rfl ?_
              show Steps p.tables e below (T3.setTop (mkF m 17 #[.val (.ref a1), .val (.ref a2)] [(.ref a2), (.long x2)])) _
              refine st4 _ ?_
              show Steps p.tables e below (T4.setTop (mkF m 20 #[.val (.ref a1), .val (.ref a2)] [(.long y2), (.long x2)])) _
              refine XS.lcmp X4.here hx rfl (hb hby d4_20) rfl ?_
              show Steps p.tables e below (T4.setTop (mkF m 21 #[.val (.ref a1), .val (.ref a2)] [(.int (lcmpW x2 y2))])) _
              refine XS.ifNo X4.here hx rfl (hb hby d4_21) rfl ((if0 _ _).trans (teq hc21).2) ?_
              show Steps p.tables e below (T4.setTop (mkF m 24 #[.val (.ref a1), .val (.ref a2)] [])) _
              refine XS.aloadN X4.here hx rfl (hb hby d4_24) rfl rfl ?_
              show Steps p.tables e below (T4.setTop (mkF m 25 #[.val (.ref a1), .val (.ref a2)] [(.ref a1)])) _
              refine st5 _ ?_
              show Steps p.tables e below (T5.setTop (mkF m 28 #[.val (.ref a1), .val (.ref a2)] [(.int x3)])) _
              refine XS.aloadN X5.here hx rfl (hb hby d4_28) rfl rfl ?_
              show Steps p.tables e below (T5.setTop (mkF m 29 #[.val (.ref a1), .val (.ref a2)] [(.ref a2), (.int x3)])) _
              refine st6 _ ?_
              show Steps p.tables e below (T6.setTop (mkF m 32 #[.val (.ref a1), .val (.ref a2)] [(.int y3), (.int x3)])) _
              refine XS.icmpNo X6.here hx rfl (hb hby d4_32) rfl (teq hc32).2 ?_
              show Steps p.tables e below (T6.setTop (mkF m 35 #[.val (.ref a1), .val (.ref a2)] [])) _
              refine XS.aloadN X6.here hx rfl (hb hby d4_35) rfl rfl ?_
              show Steps p.tables e below (T6.setTop (mkF m 36 #[.val (.ref a1), .val (.ref a2)] [(.ref a1)])) _
              refine st7 _ ?_
              show Steps p.tables e below (T7.setTop (mkF m 39 #[.val (.ref a1), .val (.ref a2)] [(.int x4)])) _
              refine XS.aloadN X7.here hx rfl (hb hby d4_39) rfl rfl ?_
              show Steps p.tables e below (T7.setTop (mkF m 40 #[.val (.ref a1), .val (.ref a2)] [(.ref a2), (.int x4)])) _
              refine st8 _ ?_
              show Steps p.tables e below (T8.setTop (mkF m 43 #[.val (.ref a1), .val (.ref a2)] [(.int y4), (.int x4)])) _
              refine XS.icmpNo X8.here hx rfl (hb hby d4_43) rfl (teq hc43).2 ?_
              show Steps p.tables e below (T8.setTop (mkF m 46 #[.val (.ref a1), .val (.ref a2)] [])) _
              refine XS.aloadN X8.here hx rfl (hb hby d4_46) rfl rfl ?_
              show Steps p.tables e below (T8.setTop (mkF m 47 #[.val (.ref a1), .val (.ref a2)] [(.ref a1)])) _
              refine st9 _ ?_
              show Steps p.tables e below (T9.setTop (mkF m 50 #[.val (.ref a1), .val (.ref a2)] [(.int x5)])) _
              refine XS.aloadN X9.here hx rfl (hb hby d4_50) rfl rfl ?_
              show Steps p.tables e below (T9.setTop (mkF m 51 #[.val (.ref a1), .val (.ref a2)] [(.ref a2), (.int x5)])) _
              refine st10 _ ?_
              show Steps p.tables e below (T10.setTop (mkF m 54 #[.val (.ref a1), .val (.ref a2)] [(.int y5), (.int x5)])) _
              refine XS.icmpNo X10.here hx rfl (hb hby d4_54) rfl (teq hc54).2 ?_
              show Steps p.tables e below (T10.setTop (mkF m 57 #[.val (.ref a1), .val (.ref a2)] [])) _
              refine XS.iconst X10.here hx rfl (hb hby d4_57) ?_
              show Steps p.tables e below (T10.setTop (mkF m 58 #[.val (.ref a1), .val (.ref a2)] [(.int (1 : Int32))])) _
              refine XS.goto X10.here hx rfl (pc0 := 58) (pc' := 62) rfl (hb hby d4_58) (by decide) (by decide) ?_
              show Steps p.tables e below (T10.setTop (mkF m 62 #[.val (.ref a1), .val (.ref a2)] [(.int (1 : Int32))])) _
              exact retN X10 hx (t := .boolean) Bd.returns (by simp) (hb hby d4_62) hr
            · show Q4 x1 x2 x3 x4 x5 y1 y2 y3 y4 y5 h0 n0 _ T10.heap _
              rw [e10]
              exact ⟨(by simp only [own_same, if_pos hc9, if_pos hc21, if_pos hc32, if_pos hc43, if_pos hc54]), N0, rfl⟩
          ·
            obtain ⟨fs, hr, hrun, hended, hW, hsame⟩ := X10.leave (v := some (.int (0 : Int32))) (fun h => by rw [Bd.returns] at h; cases h)
            refine ⟨_, _, pre0 _ ?_, hrun, hended, _, _, rfl, ?_, ⟨_, rfl⟩, hW, hsame.mono (by decide) (by decide)⟩
            · show Steps p.tables e below (s₁.setTop (mkF m 0 #[.val (.ref a1), .val (.ref a2)] [])) _
              refine XS.aloadN X0.here hx rfl (hb hby d4_0) rfl rfl ?_
              show Steps p.tables e below (s₁.setTop (mkF m 1 #[.val (.ref a1), .val (.ref a2)] [(.ref a1)])) _
              refine st1 _ ?_
              show Steps p.tables e below (T1.setTop (mkF m 4 #[.val (.ref a1), .val (.ref a2)] [(.long x1)])) _
              refine XS.aloadN X1.here hx rfl (hb hby d4_4) rfl rfl ?_
              show Steps p.tables e below (T1.setTop (mkF m 5 #[.val (.ref a1), .val (.ref a2)] [(.ref a2), (.long x1)])) _
              refine st2 _ ?_
              show Steps p.tables e below (T2.setTop (mkF m 8 #[.val (.ref a1), .val (.ref a2)] [(.long y1), (.long x1)])) _
              refine XS.lcmp X2.here hx rfl (hb hby d4_8) rfl ?_
              show Steps p.tables e below (T2.setTop (mkF m 9 #[.val (.ref a1), .val (.ref a2)] [(.int (lcmpW x1 y1))])) _
              refine XS.ifNo X2.here hx rfl (hb hby d4_9) rfl ((if0 _ _).trans (teq hc9).2) ?_
              show Steps p.tables e below (T2.setTop (mkF m 12 #[.val (.ref a1), .val (.ref a2)] [])) _
              refine XS.aloadN X2.here hx rfl (hb hby d4_12) rfl rfl ?_
              show Steps p.tables e below (T2.setTop (mkF m 13 #[.val (.ref a1), .val (.ref a2)] [(.ref a1)])) _
              refine st3 _ ?_
              show Steps p.tables e below (T3.setTop (mkF m 16 #[.val (.ref a1), .val (.ref a2)] [(.long x2)])) _
              refine XS.aloadN X3.here hx rfl (hb hby d4_16) rfl rfl ?_
              show Steps p.tables e below (T3.setTop (mkF m 17 #[.val (.ref a1), .val (.ref a2)] [(.ref a2), (.long x2)])) _
              refine st4 _ ?_
              show Steps p.tables e below (T4.setTop (mkF m 20 #[.val (.ref a1), .val (.ref a2)] [(.long y2), (.long x2)])) _
              refine XS.lcmp X4.here hx rfl (hb hby d4_20) rfl ?_
              show Steps p.tables e below (T4.setTop (mkF m 21 #[.val (.ref a1), .val (.ref a2)] [(.int (lcmpW x2 y2))])) _
              refine XS.ifNo X4.here hx rfl (hb hby d4_21) rfl ((if0 _ _).trans (teq hc21).2) ?_
              show Steps p.tables e below (T4.setTop (mkF m 24 #[.val (.ref a1), .val (.ref a2)] [])) _
              refine XS.aloadN X4.here hx rfl (hb hby d4_24) rfl rfl ?_
              show Steps p.tables e below (T4.setTop (mkF m 25 #[.val (.ref a1), .val (.ref a2)] [(.ref a1)])) _
              refine st5 _ ?_
              show Steps p.tables e below (T5.setTop (mkF m 28 #[.val (.ref a1), .val (.ref a2)] [(.int x3)])) _
              refine XS.aloadN X5.here hx rfl (hb hby d4_28) rfl rfl ?_
              show Steps p.tables e below (T5.setTop (mkF m 29 #[.val (.ref a1), .val (.ref a2)] [(.ref a2), (.int x3)])) _
              refine st6 _ ?_
              show Steps p.tables e below (T6.setTop (mkF m 32 #[.val (.ref a1), .val (.ref a2)] [(.int y3), (.int x3)])) _
              refine XS.icmpNo X6.here hx rfl (hb hby d4_32) rfl (teq hc32).2 ?_
              show Steps p.tables e below (T6.setTop (mkF m 35 #[.val (.ref a1), .val (.ref a2)] [])) _
              refine XS.aloadN X6.here hx rfl (hb hby d4_35) rfl rfl ?_
              show Steps p.tables e below (T6.setTop (mkF m 36 #[.val (.ref a1), .val (.ref a2)] [(.ref a1)])) _
              refine st7 _ ?_
              show Steps p.tables e below (T7.setTop (mkF m 39 #[.val (.ref a1), .val (.ref a2)] [(.int x4)])) _
              refine XS.aloadN X7.here hx rfl (hb hby d4_39) rfl rfl ?_
              show Steps p.tables e below (T7.setTop (mkF m 40 #[.val (.ref a1), .val (.ref a2)] [(.ref a2), (.int x4)])) _
              refine st8 _ ?_
              show Steps p.tables e below (T8.setTop (mkF m 43 #[.val (.ref a1), .val (.ref a2)] [(.int y4), (.int x4)])) _
              refine XS.icmpNo X8.here hx rfl (hb hby d4_43) rfl (teq hc43).2 ?_
              show Steps p.tables e below (T8.setTop (mkF m 46 #[.val (.ref a1), .val (.ref a2)] [])) _
              refine XS.aloadN X8.here hx rfl (hb hby d4_46) rfl rfl ?_
              show Steps p.tables e below (T8.setTop (mkF m 47 #[.val (.ref a1), .val (.ref a2)] [(.ref a1)])) _
              refine st9 _ ?_
              show Steps p.tables e below (T9.setTop (mkF m 50 #[.val (.ref a1), .val (.ref a2)] [(.int x5)])) _
              refine XS.aloadN X9.here hx rfl (hb hby d4_50) rfl rfl ?_
              show Steps p.tables e below (T9.setTop (mkF m 51 #[.val (.ref a1), .val (.ref a2)] [(.ref a2), (.int x5)])) _
              refine st10 _ ?_
              show Steps p.tables e below (T10.setTop (mkF m 54 #[.val (.ref a1), .val (.ref a2)] [(.int y5), (.int x5)])) _
              refine XS.icmpYes X10.here hx rfl (pc0 := 54) (pc' := 61) rfl (hb hby d4_54) rfl (feq hc54).2 (by decide) (by decide) ?_
              show Steps p.tables e below (T10.setTop (mkF m 61 #[.val (.ref a1), .val (.ref a2)] [])) _
              refine XS.iconst X10.here hx rfl (hb hby d4_61) ?_
              show Steps p.tables e below (T10.setTop (mkF m 62 #[.val (.ref a1), .val (.ref a2)] [(.int (0 : Int32))])) _
              exact retN X10 hx (t := .boolean) Bd.returns (by simp) (hb hby d4_62) hr
            · show Q4 x1 x2 x3 x4 x5 y1 y2 y3 y4 y5 h0 n0 _ T10.heap _
              rw [e10]
              exact ⟨(by simp only [own_same, if_pos hc9, if_pos hc21, if_pos hc32, if_pos hc43, if_neg hc54]), N0, rfl⟩
        ·
          obtain ⟨fs, hr, hrun, hended, hW, hsame⟩ := X8.leave (v := some (.int (0 : Int32))) (fun h => by rw [Bd.returns] at h; cases h)
          refine ⟨_, _, pre0 _ ?_, hrun, hended, _, _, rfl, ?_, ⟨_, rfl⟩, hW, hsame.mono (by decide) (by decide)⟩
          · show Steps p.tables e below (s₁.setTop (mkF m 0 #[.val (.ref a1), .val (.ref a2)] [])) _
            refine XS.aloadN X0.here hx rfl (hb hby d4_0) rfl rfl ?_
            show Steps p.tables e below (s₁.setTop (mkF m 1 #[.val (.ref a1), .val (.ref a2)] [(.ref a1)])) _
            refine st1 _ ?_
            show Steps p.tables e below (T1.setTop (mkF m 4 #[.val (.ref a1), .val (.ref a2)] [(.long x1)])) _
            refine XS.aloadN X1.here hx rfl (hb hby d4_4) rfl rfl ?_
            show Steps p.tables e below (T1.setTop (mkF m 5 #[.val (.ref a1), .val (.ref a2)] [(.ref a2), (.long x1)])) _
            refine st2 _ ?_
            show Steps p.tables e below (T2.setTop (mkF m 8 #[.val (.ref a1), .val (.ref a2)] [(.long y1), (.long x1)])) _
            refine XS.lcmp X2.here hx rfl (hb hby d4_8) rfl ?_
            show Steps p.tables e below (T2.setTop (mkF m 9 #[.val (.ref a1), .val (.ref a2)] [(.int (lcmpW x1 y1))])) _
            refine XS.ifNo X2.here hx rfl (hb hby d4_9) rfl ((if0 _ _).trans (teq hc9).2) ?_
            show Steps p.tables e below (T2.setTop (mkF m 12 #[.val (.ref a1), .val (.ref a2)] [])) _
            refine XS.aloadN X2.here hx rfl (hb hby d4_12) rfl rfl ?_
            show Steps p.tables e below (T2.setTop (mkF m 13 #[.val (.ref a1), .val (.ref a2)] [(.ref a1)])) _
            refine st3 _ ?_
            show Steps p.tables e below (T3.setTop (mkF m 16 #[.val (.ref a1), .val (.ref a2)] [(.long x2)])) _
            refine XS.aloadN X3.here hx rfl (hb hby d4_16) rfl rfl ?_
            show Steps p.tables e below (T3.setTop (mkF m 17 #[.val (.ref a1), .val (.ref a2)] [(.ref a2), (.long x2)])) _
            refine st4 _ ?_
            show Steps p.tables e below (T4.setTop (mkF m 20 #[.val (.ref a1), .val (.ref a2)] [(.long y2), (.long x2)])) _
            refine XS.lcmp X4.here hx rfl (hb hby d4_20) rfl ?_
            show Steps p.tables e below (T4.setTop (mkF m 21 #[.val (.ref a1), .val (.ref a2)] [(.int (lcmpW x2 y2))])) _
            refine XS.ifNo X4.here hx rfl (hb hby d4_21) rfl ((if0 _ _).trans (teq hc21).2) ?_
            show Steps p.tables e below (T4.setTop (mkF m 24 #[.val (.ref a1), .val (.ref a2)] [])) _
            refine XS.aloadN X4.here hx rfl (hb hby d4_24) rfl rfl ?_
            show Steps p.tables e below (T4.setTop (mkF m 25 #[.val (.ref a1), .val (.ref a2)] [(.ref a1)])) _
            refine st5 _ ?_
            show Steps p.tables e below (T5.setTop (mkF m 28 #[.val (.ref a1), .val (.ref a2)] [(.int x3)])) _
            refine XS.aloadN X5.here hx rfl (hb hby d4_28) rfl rfl ?_
            show Steps p.tables e below (T5.setTop (mkF m 29 #[.val (.ref a1), .val (.ref a2)] [(.ref a2), (.int x3)])) _
            refine st6 _ ?_
            show Steps p.tables e below (T6.setTop (mkF m 32 #[.val (.ref a1), .val (.ref a2)] [(.int y3), (.int x3)])) _
            refine XS.icmpNo X6.here hx rfl (hb hby d4_32) rfl (teq hc32).2 ?_
            show Steps p.tables e below (T6.setTop (mkF m 35 #[.val (.ref a1), .val (.ref a2)] [])) _
            refine XS.aloadN X6.here hx rfl (hb hby d4_35) rfl rfl ?_
            show Steps p.tables e below (T6.setTop (mkF m 36 #[.val (.ref a1), .val (.ref a2)] [(.ref a1)])) _
            refine st7 _ ?_
            show Steps p.tables e below (T7.setTop (mkF m 39 #[.val (.ref a1), .val (.ref a2)] [(.int x4)])) _
            refine XS.aloadN X7.here hx rfl (hb hby d4_39) rfl rfl ?_
            show Steps p.tables e below (T7.setTop (mkF m 40 #[.val (.ref a1), .val (.ref a2)] [(.ref a2), (.int x4)])) _
            refine st8 _ ?_
            show Steps p.tables e below (T8.setTop (mkF m 43 #[.val (.ref a1), .val (.ref a2)] [(.int y4), (.int x4)])) _
            refine XS.icmpYes X8.here hx rfl (pc0 := 43) (pc' := 61) rfl (hb hby d4_43) rfl (feq hc43).2 (by decide) (by decide) ?_
            show Steps p.tables e below (T8.setTop (mkF m 61 #[.val (.ref a1), .val (.ref a2)] [])) _
            refine XS.iconst X8.here hx rfl (hb hby d4_61) ?_
            show Steps p.tables e below (T8.setTop (mkF m 62 #[.val (.ref a1), .val (.ref a2)] [(.int (0 : Int32))])) _
            exact retN X8 hx (t := .boolean) Bd.returns (by simp) (hb hby d4_62) hr
          · show Q4 x1 x2 x3 x4 x5 y1 y2 y3 y4 y5 h0 n0 _ T8.heap _
            rw [e8]
            exact ⟨(by simp only [own_same, if_pos hc9, if_pos hc21, if_pos hc32, if_neg hc43]), N0, rfl⟩
      ·
        obtain ⟨fs, hr, hrun, hended, hW, hsame⟩ := X6.leave (v := some (.int (0 : Int32))) (fun h => by rw [Bd.returns] at h; cases h)
        refine ⟨_, _, pre0 _ ?_, hrun, hended, _, _, rfl, ?_, ⟨_, rfl⟩, hW, hsame.mono (by decide) (by decide)⟩
        · show Steps p.tables e below (s₁.setTop (mkF m 0 #[.val (.ref a1), .val (.ref a2)] [])) _
          refine XS.aloadN X0.here hx rfl (hb hby d4_0) rfl rfl ?_
          show Steps p.tables e below (s₁.setTop (mkF m 1 #[.val (.ref a1), .val (.ref a2)] [(.ref a1)])) _
          refine st1 _ ?_
          show Steps p.tables e below (T1.setTop (mkF m 4 #[.val (.ref a1), .val (.ref a2)] [(.long x1)])) _
          refine XS.aloadN X1.here hx rfl (hb hby d4_4) rfl rfl ?_
          show Steps p.tables e below (T1.setTop (mkF m 5 #[.val (.ref a1), .val (.ref a2)] [(.ref a2), (.long x1)])) _
          refine st2 _ ?_
          show Steps p.tables e below (T2.setTop (mkF m 8 #[.val (.ref a1), .val (.ref a2)] [(.long y1), (.long x1)])) _
          refine XS.lcmp X2.here hx rfl (hb hby d4_8) rfl ?_
          show Steps p.tables e below (T2.setTop (mkF m 9 #[.val (.ref a1), .val (.ref a2)] [(.int (lcmpW x1 y1))])) _
          refine XS.ifNo X2.here hx rfl (hb hby d4_9) rfl ((if0 _ _).trans (teq hc9).2) ?_
          show Steps p.tables e below (T2.setTop (mkF m 12 #[.val (.ref a1), .val (.ref a2)] [])) _
          refine XS.aloadN X2.here hx rfl (hb hby d4_12) rfl rfl ?_
          show Steps p.tables e below (T2.setTop (mkF m 13 #[.val (.ref a1), .val (.ref a2)] [(.ref a1)])) _
          refine st3 _ ?_
          show Steps p.tables e below (T3.setTop (mkF m 16 #[.val (.ref a1), .val (.ref a2)] [(.long x2)])) _
          refine XS.aloadN X3.here hx rfl (hb hby d4_16) rfl rfl ?_
          show Steps p.tables e below (T3.setTop (mkF m 17 #[.val (.ref a1), .val (.ref a2)] [(.ref a2), (.long x2)])) _
          refine st4 _ ?_
          show Steps p.tables e below (T4.setTop (mkF m 20 #[.val (.ref a1), .val (.ref a2)] [(.long y2), (.long x2)])) _
          refine XS.lcmp X4.here hx rfl (hb hby d4_20) rfl ?_
          show Steps p.tables e below (T4.setTop (mkF m 21 #[.val (.ref a1), .val (.ref a2)] [(.int (lcmpW x2 y2))])) _
          refine XS.ifNo X4.here hx rfl (hb hby d4_21) rfl ((if0 _ _).trans (teq hc21).2) ?_
          show Steps p.tables e below (T4.setTop (mkF m 24 #[.val (.ref a1), .val (.ref a2)] [])) _
          refine XS.aloadN X4.here hx rfl (hb hby d4_24) rfl rfl ?_
          show Steps p.tables e below (T4.setTop (mkF m 25 #[.val (.ref a1), .val (.ref a2)] [(.ref a1)])) _
          refine st5 _ ?_
          show Steps p.tables e below (T5.setTop (mkF m 28 #[.val (.ref a1), .val (.ref a2)] [(.int x3)])) _
          refine XS.aloadN X5.here hx rfl (hb hby d4_28) rfl rfl ?_
          show Steps p.tables e below (T5.setTop (mkF m 29 #[.val (.ref a1), .val (.ref a2)] [(.ref a2), (.int x3)])) _
          refine st6 _ ?_
          show Steps p.tables e below (T6.setTop (mkF m 32 #[.val (.ref a1), .val (.ref a2)] [(.int y3), (.int x3)])) _
          refine XS.icmpYes X6.here hx rfl (pc0 := 32) (pc' := 61) rfl (hb hby d4_32) rfl (feq hc32).2 (by decide) (by decide) ?_
          show Steps p.tables e below (T6.setTop (mkF m 61 #[.val (.ref a1), .val (.ref a2)] [])) _
          refine XS.iconst X6.here hx rfl (hb hby d4_61) ?_
          show Steps p.tables e below (T6.setTop (mkF m 62 #[.val (.ref a1), .val (.ref a2)] [(.int (0 : Int32))])) _
          exact retN X6 hx (t := .boolean) Bd.returns (by simp) (hb hby d4_62) hr
        · show Q4 x1 x2 x3 x4 x5 y1 y2 y3 y4 y5 h0 n0 _ T6.heap _
          rw [e6]
          exact ⟨(by simp only [own_same, if_pos hc9, if_pos hc21, if_neg hc32]), N0, rfl⟩
    ·
      obtain ⟨fs, hr, hrun, hended, hW, hsame⟩ := X4.leave (v := some (.int (0 : Int32))) (fun h => by rw [Bd.returns] at h; cases h)
      refine ⟨_, _, pre0 _ ?_, hrun, hended, _, _, rfl, ?_, ⟨_, rfl⟩, hW, hsame.mono (by decide) (by decide)⟩
      · show Steps p.tables e below (s₁.setTop (mkF m 0 #[.val (.ref a1), .val (.ref a2)] [])) _
        refine XS.aloadN X0.here hx rfl (hb hby d4_0) rfl rfl ?_
        show Steps p.tables e below (s₁.setTop (mkF m 1 #[.val (.ref a1), .val (.ref a2)] [(.ref a1)])) _
        refine st1 _ ?_
        show Steps p.tables e below (T1.setTop (mkF m 4 #[.val (.ref a1), .val (.ref a2)] [(.long x1)])) _
        refine XS.aloadN X1.here hx rfl (hb hby d4_4) rfl rfl ?_
        show Steps p.tables e below (T1.setTop (mkF m 5 #[.val (.ref a1), .val (.ref a2)] [(.ref a2), (.long x1)])) _
        refine st2 _ ?_
        show Steps p.tables e below (T2.setTop (mkF m 8 #[.val (.ref a1), .val (.ref a2)] [(.long y1), (.long x1)])) _
        refine XS.lcmp X2.here hx rfl (hb hby d4_8) rfl ?_
        show Steps p.tables e below (T2.setTop (mkF m 9 #[.val (.ref a1), .val (.ref a2)] [(.int (lcmpW x1 y1))])) _
        refine XS.ifNo X2.here hx rfl (hb hby d4_9) rfl ((if0 _ _).trans (teq hc9).2) ?_
        show Steps p.tables e below (T2.setTop (mkF m 12 #[.val (.ref a1), .val (.ref a2)] [])) _
        refine XS.aloadN X2.here hx rfl (hb hby d4_12) rfl rfl ?_
        show Steps p.tables e below (T2.setTop (mkF m 13 #[.val (.ref a1), .val (.ref a2)] [(.ref a1)])) _
        refine st3 _ ?_
        show Steps p.tables e below (T3.setTop (mkF m 16 #[.val (.ref a1), .val (.ref a2)] [(.long x2)])) _
        refine XS.aloadN X3.here hx rfl (hb hby d4_16) rfl rfl ?_
        show Steps p.tables e below (T3.setTop (mkF m 17 #[.val (.ref a1), .val (.ref a2)] [(.ref a2), (.long x2)])) _
        refine st4 _ ?_
        show Steps p.tables e below (T4.setTop (mkF m 20 #[.val (.ref a1), .val (.ref a2)] [(.long y2), (.long x2)])) _
        refine XS.lcmp X4.here hx rfl (hb hby d4_20) rfl ?_
        show Steps p.tables e below (T4.setTop (mkF m 21 #[.val (.ref a1), .val (.ref a2)] [(.int (lcmpW x2 y2))])) _
        refine XS.ifYes X4.here hx rfl (pc0 := 21) (pc' := 61) rfl (hb hby d4_21) rfl ((if0 _ _).trans (feq hc21).2) (by decide) (by decide) ?_
        show Steps p.tables e below (T4.setTop (mkF m 61 #[.val (.ref a1), .val (.ref a2)] [])) _
        refine XS.iconst X4.here hx rfl (hb hby d4_61) ?_
        show Steps p.tables e below (T4.setTop (mkF m 62 #[.val (.ref a1), .val (.ref a2)] [(.int (0 : Int32))])) _
        exact retN X4 hx (t := .boolean) Bd.returns (by simp) (hb hby d4_62) hr
      · show Q4 x1 x2 x3 x4 x5 y1 y2 y3 y4 y5 h0 n0 _ T4.heap _
        rw [e4]
        exact ⟨(by simp only [own_same, if_pos hc9, if_neg hc21]), N0, rfl⟩
  ·
    obtain ⟨fs, hr, hrun, hended, hW, hsame⟩ := X2.leave (v := some (.int (0 : Int32))) (fun h => by rw [Bd.returns] at h; cases h)
    refine ⟨_, _, pre0 _ ?_, hrun, hended, _, _, rfl, ?_, ⟨_, rfl⟩, hW, hsame.mono (by decide) (by decide)⟩
    · show Steps p.tables e below (s₁.setTop (mkF m 0 #[.val (.ref a1), .val (.ref a2)] [])) _
      refine XS.aloadN X0.here hx rfl (hb hby d4_0) rfl rfl ?_
      show Steps p.tables e below (s₁.setTop (mkF m 1 #[.val (.ref a1), .val (.ref a2)] [(.ref a1)])) _
      refine st1 _ ?_
      show Steps p.tables e below (T1.setTop (mkF m 4 #[.val (.ref a1), .val (.ref a2)] [(.long x1)])) _
      refine XS.aloadN X1.here hx rfl (hb hby d4_4) rfl rfl ?_
      show Steps p.tables e below (T1.setTop (mkF m 5 #[.val (.ref a1), .val (.ref a2)] [(.ref a2), (.long x1)])) _
      refine st2 _ ?_
      show Steps p.tables e below (T2.setTop (mkF m 8 #[.val (.ref a1), .val (.ref a2)] [(.long y1), (.long x1)])) _
      refine XS.lcmp X2.here hx rfl (hb hby d4_8) rfl ?_
      show Steps p.tables e below (T2.setTop (mkF m 9 #[.val (.ref a1), .val (.ref a2)] [(.int (lcmpW x1 y1))])) _
      refine XS.ifYes X2.here hx rfl (pc0 := 9) (pc' := 61) rfl (hb hby d4_9) rfl ((if0 _ _).trans (feq hc9).2) (by decide) (by decide) ?_
      show Steps p.tables e below (T2.setTop (mkF m 61 #[.val (.ref a1), .val (.ref a2)] [])) _
      refine XS.iconst X2.here hx rfl (hb hby d4_61) ?_
      show Steps p.tables e below (T2.setTop (mkF m 62 #[.val (.ref a1), .val (.ref a2)] [(.int (0 : Int32))])) _
      exact retN X2 hx (t := .boolean) Bd.returns (by simp) (hb hby d4_62) hr
    · show Q4 x1 x2 x3 x4 x5 y1 y2 y3 y4 y5 h0 n0 _ T2.heap _
      rw [e2]
      exact ⟨(by simp only [own_same, if_neg hc9]), N0, rfl⟩
set_option maxRecDepth 65536 in
set_option maxHeartbeats 40000000 in
theorem sg_24 {p : Program} {l : Launch} {e : Env} {R : Room} {s : State} {m : MethodId} {args : Array Value} {below : List Frame} {meth : Method} {c : Code} {T0 : State} {locs : List Loc} {cells slots : Nat} {Z : State} {a0 : Array Value}  (s0 : Slot) (s1 : Slot) (s2 : Slot) (s3 : Slot) (s4 : Slot) (s5 : Slot) (s6 : Slot) (sel : Int32) (s8 : Slot) (s9 : Slot) (s10 : Slot) (s11 : Slot) (s12 : Slot) (s13 : Slot) (s14 : Slot) (s15 : Slot) (s16 : Slot) (s17 : Slot) (s18 : Slot) (s19 : Slot) (v0 : Int32) (hv0 : v0 = (if (sel &&& (1 : Int32)) = (0 : Int32) then (0 : Int32) else (1 : Int32)))
    (X0 : Stand p l e R s m args below meth c T0 locs cells slots) (hx : p.tables.exec = Jvm.exec) (hZ : Z.Warmed39 s.vm) (hw : ∀ d ∈ tables_1, d.before a0 Z = true) (hby : c.code = code) (hown : s.vm.findClass "com/example/tuplewise/tuplewise/store/PartSameAsPinLaw" = some m.cls) {target : State}
    (kt : Steps p.tables e below (T0.setTop (mkF m 36 #[s0, s1, s2, s3, s4, s5, s6, .val (.int sel), s8, s9, s10, s11, s12, s13, s14, s15, s16, s17, s18, s19] [(.int v0)])) target) : Steps p.tables e below (T0.setTop (mkF m 24 #[s0, s1, s2, s3, s4, s5, s6, .val (.int sel), s8, s9, s10, s11, s12, s13, s14, s15, s16, s17, s18, s19] [])) target := by
  by_cases hc28 : (sel &&& (1 : Int32)) = (0 : Int32)
  ·
    simp only [if_pos hc28] at hv0
    rw [hv0] at kt
    show Steps p.tables e below (T0.setTop (mkF m 24 #[s0, s1, s2, s3, s4, s5, s6, .val (.int sel), s8, s9, s10, s11, s12, s13, s14, s15, s16, s17, s18, s19] [])) _
    refine XS.iload X0.here hx rfl (hb hby at_24) rfl ?_
    show Steps p.tables e below (T0.setTop (mkF m 26 #[s0, s1, s2, s3, s4, s5, s6, .val (.int sel), s8, s9, s10, s11, s12, s13, s14, s15, s16, s17, s18, s19] [(.int sel)])) _
    refine XS.iconst X0.here hx rfl (hb hby at_26) ?_
    show Steps p.tables e below (T0.setTop (mkF m 27 #[s0, s1, s2, s3, s4, s5, s6, .val (.int sel), s8, s9, s10, s11, s12, s13, s14, s15, s16, s17, s18, s19] [(.int (1 : Int32)), (.int sel)])) _
    refine XS.iand X0.here hx rfl (hb hby at_27) rfl ?_
    show Steps p.tables e below (T0.setTop (mkF m 28 #[s0, s1, s2, s3, s4, s5, s6, .val (.int sel), s8, s9, s10, s11, s12, s13, s14, s15, s16, s17, s18, s19] [(.int (sel &&& (1 : Int32)))])) _
    refine XS.ifYes X0.here hx rfl (pc0 := 28) (pc' := 35) rfl (hb hby at_28) rfl ((if0 _ _).trans (teq hc28).1) (by decide) (by decide) ?_
    show Steps p.tables e below (T0.setTop (mkF m 35 #[s0, s1, s2, s3, s4, s5, s6, .val (.int sel), s8, s9, s10, s11, s12, s13, s14, s15, s16, s17, s18, s19] [])) _
    refine XS.iconst X0.here hx rfl (hb hby at_35) ?_
    show Steps p.tables e below (T0.setTop (mkF m 36 #[s0, s1, s2, s3, s4, s5, s6, .val (.int sel), s8, s9, s10, s11, s12, s13, s14, s15, s16, s17, s18, s19] [(.int (0 : Int32))])) _
    exact kt
  ·
    simp only [if_neg hc28] at hv0
    rw [hv0] at kt
    show Steps p.tables e below (T0.setTop (mkF m 24 #[s0, s1, s2, s3, s4, s5, s6, .val (.int sel), s8, s9, s10, s11, s12, s13, s14, s15, s16, s17, s18, s19] [])) _
    refine XS.iload X0.here hx rfl (hb hby at_24) rfl ?_
    show Steps p.tables e below (T0.setTop (mkF m 26 #[s0, s1, s2, s3, s4, s5, s6, .val (.int sel), s8, s9, s10, s11, s12, s13, s14, s15, s16, s17, s18, s19] [(.int sel)])) _
    refine XS.iconst X0.here hx rfl (hb hby at_26) ?_
    show Steps p.tables e below (T0.setTop (mkF m 27 #[s0, s1, s2, s3, s4, s5, s6, .val (.int sel), s8, s9, s10, s11, s12, s13, s14, s15, s16, s17, s18, s19] [(.int (1 : Int32)), (.int sel)])) _
    refine XS.iand X0.here hx rfl (hb hby at_27) rfl ?_
    show Steps p.tables e below (T0.setTop (mkF m 28 #[s0, s1, s2, s3, s4, s5, s6, .val (.int sel), s8, s9, s10, s11, s12, s13, s14, s15, s16, s17, s18, s19] [(.int (sel &&& (1 : Int32)))])) _
    refine XS.ifNo X0.here hx rfl (hb hby at_28) rfl ((if0 _ _).trans (feq hc28).1) ?_
    show Steps p.tables e below (T0.setTop (mkF m 31 #[s0, s1, s2, s3, s4, s5, s6, .val (.int sel), s8, s9, s10, s11, s12, s13, s14, s15, s16, s17, s18, s19] [])) _
    refine XS.iconst X0.here hx rfl (hb hby at_31) ?_
    show Steps p.tables e below (T0.setTop (mkF m 32 #[s0, s1, s2, s3, s4, s5, s6, .val (.int sel), s8, s9, s10, s11, s12, s13, s14, s15, s16, s17, s18, s19] [(.int (1 : Int32))])) _
    refine XS.goto X0.here hx rfl (pc0 := 32) (pc' := 36) rfl (hb hby at_32) (by decide) (by decide) ?_
    show Steps p.tables e below (T0.setTop (mkF m 36 #[s0, s1, s2, s3, s4, s5, s6, .val (.int sel), s8, s9, s10, s11, s12, s13, s14, s15, s16, s17, s18, s19] [(.int (1 : Int32))])) _
    exact kt
set_option maxRecDepth 65536 in
set_option maxHeartbeats 40000000 in
theorem sg_38 {p : Program} {l : Launch} {e : Env} {R : Room} {s : State} {m : MethodId} {args : Array Value} {below : List Frame} {meth : Method} {c : Code} {T0 : State} {locs : List Loc} {cells slots : Nat} {Z : State} {a0 : Array Value}  (s0 : Slot) (s1 : Slot) (s2 : Slot) (s3 : Slot) (s4 : Slot) (s5 : Slot) (s6 : Slot) (sel : Int32) (s8 : Slot) (s9 : Slot) (s10 : Slot) (s11 : Slot) (s12 : Slot) (s13 : Slot) (s14 : Slot) (s15 : Slot) (s16 : Slot) (s17 : Slot) (s18 : Slot) (s19 : Slot) (v0 : Int32) (hv0 : v0 = (if (sel &&& (2 : Int32)) = (0 : Int32) then (0 : Int32) else (1 : Int32)))
    (X0 : Stand p l e R s m args below meth c T0 locs cells slots) (hx : p.tables.exec = Jvm.exec) (hZ : Z.Warmed39 s.vm) (hw : ∀ d ∈ tables_1, d.before a0 Z = true) (hby : c.code = code) (hown : s.vm.findClass "com/example/tuplewise/tuplewise/store/PartSameAsPinLaw" = some m.cls) {target : State}
    (kt : Steps p.tables e below (T0.setTop (mkF m 50 #[s0, s1, s2, s3, s4, s5, s6, .val (.int sel), s8, s9, s10, s11, s12, s13, s14, s15, s16, s17, s18, s19] [(.int v0)])) target) : Steps p.tables e below (T0.setTop (mkF m 38 #[s0, s1, s2, s3, s4, s5, s6, .val (.int sel), s8, s9, s10, s11, s12, s13, s14, s15, s16, s17, s18, s19] [])) target := by
  by_cases hc42 : (sel &&& (2 : Int32)) = (0 : Int32)
  ·
    simp only [if_pos hc42] at hv0
    rw [hv0] at kt
    show Steps p.tables e below (T0.setTop (mkF m 38 #[s0, s1, s2, s3, s4, s5, s6, .val (.int sel), s8, s9, s10, s11, s12, s13, s14, s15, s16, s17, s18, s19] [])) _
    refine XS.iload X0.here hx rfl (hb hby at_38) rfl ?_
    show Steps p.tables e below (T0.setTop (mkF m 40 #[s0, s1, s2, s3, s4, s5, s6, .val (.int sel), s8, s9, s10, s11, s12, s13, s14, s15, s16, s17, s18, s19] [(.int sel)])) _
    refine XS.iconst X0.here hx rfl (hb hby at_40) ?_
    show Steps p.tables e below (T0.setTop (mkF m 41 #[s0, s1, s2, s3, s4, s5, s6, .val (.int sel), s8, s9, s10, s11, s12, s13, s14, s15, s16, s17, s18, s19] [(.int (2 : Int32)), (.int sel)])) _
    refine XS.iand X0.here hx rfl (hb hby at_41) rfl ?_
    show Steps p.tables e below (T0.setTop (mkF m 42 #[s0, s1, s2, s3, s4, s5, s6, .val (.int sel), s8, s9, s10, s11, s12, s13, s14, s15, s16, s17, s18, s19] [(.int (sel &&& (2 : Int32)))])) _
    refine XS.ifYes X0.here hx rfl (pc0 := 42) (pc' := 49) rfl (hb hby at_42) rfl ((if0 _ _).trans (teq hc42).1) (by decide) (by decide) ?_
    show Steps p.tables e below (T0.setTop (mkF m 49 #[s0, s1, s2, s3, s4, s5, s6, .val (.int sel), s8, s9, s10, s11, s12, s13, s14, s15, s16, s17, s18, s19] [])) _
    refine XS.iconst X0.here hx rfl (hb hby at_49) ?_
    show Steps p.tables e below (T0.setTop (mkF m 50 #[s0, s1, s2, s3, s4, s5, s6, .val (.int sel), s8, s9, s10, s11, s12, s13, s14, s15, s16, s17, s18, s19] [(.int (0 : Int32))])) _
    exact kt
  ·
    simp only [if_neg hc42] at hv0
    rw [hv0] at kt
    show Steps p.tables e below (T0.setTop (mkF m 38 #[s0, s1, s2, s3, s4, s5, s6, .val (.int sel), s8, s9, s10, s11, s12, s13, s14, s15, s16, s17, s18, s19] [])) _
    refine XS.iload X0.here hx rfl (hb hby at_38) rfl ?_
    show Steps p.tables e below (T0.setTop (mkF m 40 #[s0, s1, s2, s3, s4, s5, s6, .val (.int sel), s8, s9, s10, s11, s12, s13, s14, s15, s16, s17, s18, s19] [(.int sel)])) _
    refine XS.iconst X0.here hx rfl (hb hby at_40) ?_
    show Steps p.tables e below (T0.setTop (mkF m 41 #[s0, s1, s2, s3, s4, s5, s6, .val (.int sel), s8, s9, s10, s11, s12, s13, s14, s15, s16, s17, s18, s19] [(.int (2 : Int32)), (.int sel)])) _
    refine XS.iand X0.here hx rfl (hb hby at_41) rfl ?_
    show Steps p.tables e below (T0.setTop (mkF m 42 #[s0, s1, s2, s3, s4, s5, s6, .val (.int sel), s8, s9, s10, s11, s12, s13, s14, s15, s16, s17, s18, s19] [(.int (sel &&& (2 : Int32)))])) _
    refine XS.ifNo X0.here hx rfl (hb hby at_42) rfl ((if0 _ _).trans (feq hc42).1) ?_
    show Steps p.tables e below (T0.setTop (mkF m 45 #[s0, s1, s2, s3, s4, s5, s6, .val (.int sel), s8, s9, s10, s11, s12, s13, s14, s15, s16, s17, s18, s19] [])) _
    refine XS.iconst X0.here hx rfl (hb hby at_45) ?_
    show Steps p.tables e below (T0.setTop (mkF m 46 #[s0, s1, s2, s3, s4, s5, s6, .val (.int sel), s8, s9, s10, s11, s12, s13, s14, s15, s16, s17, s18, s19] [(.int (1 : Int32))])) _
    refine XS.goto X0.here hx rfl (pc0 := 46) (pc' := 50) rfl (hb hby at_46) (by decide) (by decide) ?_
    show Steps p.tables e below (T0.setTop (mkF m 50 #[s0, s1, s2, s3, s4, s5, s6, .val (.int sel), s8, s9, s10, s11, s12, s13, s14, s15, s16, s17, s18, s19] [(.int (1 : Int32))])) _
    exact kt
set_option maxRecDepth 65536 in
set_option maxHeartbeats 40000000 in
theorem sg_52 {p : Program} {l : Launch} {e : Env} {R : Room} {s : State} {m : MethodId} {args : Array Value} {below : List Frame} {meth : Method} {c : Code} {T0 : State} {locs : List Loc} {cells slots : Nat} {Z : State} {a0 : Array Value}  (s0 : Slot) (s1 : Slot) (s2 : Slot) (s3 : Slot) (s4 : Slot) (s5 : Slot) (s6 : Slot) (sel : Int32) (s8 : Slot) (s9 : Slot) (s10 : Slot) (s11 : Slot) (s12 : Slot) (s13 : Slot) (s14 : Slot) (s15 : Slot) (s16 : Slot) (s17 : Slot) (s18 : Slot) (s19 : Slot) (v0 : Int32) (hv0 : v0 = (if (sel &&& (4 : Int32)) = (0 : Int32) then (0 : Int32) else (1 : Int32)))
    (X0 : Stand p l e R s m args below meth c T0 locs cells slots) (hx : p.tables.exec = Jvm.exec) (hZ : Z.Warmed39 s.vm) (hw : ∀ d ∈ tables_1, d.before a0 Z = true) (hby : c.code = code) (hown : s.vm.findClass "com/example/tuplewise/tuplewise/store/PartSameAsPinLaw" = some m.cls) {target : State}
    (kt : Steps p.tables e below (T0.setTop (mkF m 64 #[s0, s1, s2, s3, s4, s5, s6, .val (.int sel), s8, s9, s10, s11, s12, s13, s14, s15, s16, s17, s18, s19] [(.int v0)])) target) : Steps p.tables e below (T0.setTop (mkF m 52 #[s0, s1, s2, s3, s4, s5, s6, .val (.int sel), s8, s9, s10, s11, s12, s13, s14, s15, s16, s17, s18, s19] [])) target := by
  by_cases hc56 : (sel &&& (4 : Int32)) = (0 : Int32)
  ·
    simp only [if_pos hc56] at hv0
    rw [hv0] at kt
    show Steps p.tables e below (T0.setTop (mkF m 52 #[s0, s1, s2, s3, s4, s5, s6, .val (.int sel), s8, s9, s10, s11, s12, s13, s14, s15, s16, s17, s18, s19] [])) _
    refine XS.iload X0.here hx rfl (hb hby at_52) rfl ?_
    show Steps p.tables e below (T0.setTop (mkF m 54 #[s0, s1, s2, s3, s4, s5, s6, .val (.int sel), s8, s9, s10, s11, s12, s13, s14, s15, s16, s17, s18, s19] [(.int sel)])) _
    refine XS.iconst X0.here hx rfl (hb hby at_54) ?_
    show Steps p.tables e below (T0.setTop (mkF m 55 #[s0, s1, s2, s3, s4, s5, s6, .val (.int sel), s8, s9, s10, s11, s12, s13, s14, s15, s16, s17, s18, s19] [(.int (4 : Int32)), (.int sel)])) _
    refine XS.iand X0.here hx rfl (hb hby at_55) rfl ?_
    show Steps p.tables e below (T0.setTop (mkF m 56 #[s0, s1, s2, s3, s4, s5, s6, .val (.int sel), s8, s9, s10, s11, s12, s13, s14, s15, s16, s17, s18, s19] [(.int (sel &&& (4 : Int32)))])) _
    refine XS.ifYes X0.here hx rfl (pc0 := 56) (pc' := 63) rfl (hb hby at_56) rfl ((if0 _ _).trans (teq hc56).1) (by decide) (by decide) ?_
    show Steps p.tables e below (T0.setTop (mkF m 63 #[s0, s1, s2, s3, s4, s5, s6, .val (.int sel), s8, s9, s10, s11, s12, s13, s14, s15, s16, s17, s18, s19] [])) _
    refine XS.iconst X0.here hx rfl (hb hby at_63) ?_
    show Steps p.tables e below (T0.setTop (mkF m 64 #[s0, s1, s2, s3, s4, s5, s6, .val (.int sel), s8, s9, s10, s11, s12, s13, s14, s15, s16, s17, s18, s19] [(.int (0 : Int32))])) _
    exact kt
  ·
    simp only [if_neg hc56] at hv0
    rw [hv0] at kt
    show Steps p.tables e below (T0.setTop (mkF m 52 #[s0, s1, s2, s3, s4, s5, s6, .val (.int sel), s8, s9, s10, s11, s12, s13, s14, s15, s16, s17, s18, s19] [])) _
    refine XS.iload X0.here hx rfl (hb hby at_52) rfl ?_
    show Steps p.tables e below (T0.setTop (mkF m 54 #[s0, s1, s2, s3, s4, s5, s6, .val (.int sel), s8, s9, s10, s11, s12, s13, s14, s15, s16, s17, s18, s19] [(.int sel)])) _
    refine XS.iconst X0.here hx rfl (hb hby at_54) ?_
    show Steps p.tables e below (T0.setTop (mkF m 55 #[s0, s1, s2, s3, s4, s5, s6, .val (.int sel), s8, s9, s10, s11, s12, s13, s14, s15, s16, s17, s18, s19] [(.int (4 : Int32)), (.int sel)])) _
    refine XS.iand X0.here hx rfl (hb hby at_55) rfl ?_
    show Steps p.tables e below (T0.setTop (mkF m 56 #[s0, s1, s2, s3, s4, s5, s6, .val (.int sel), s8, s9, s10, s11, s12, s13, s14, s15, s16, s17, s18, s19] [(.int (sel &&& (4 : Int32)))])) _
    refine XS.ifNo X0.here hx rfl (hb hby at_56) rfl ((if0 _ _).trans (feq hc56).1) ?_
    show Steps p.tables e below (T0.setTop (mkF m 59 #[s0, s1, s2, s3, s4, s5, s6, .val (.int sel), s8, s9, s10, s11, s12, s13, s14, s15, s16, s17, s18, s19] [])) _
    refine XS.iconst X0.here hx rfl (hb hby at_59) ?_
    show Steps p.tables e below (T0.setTop (mkF m 60 #[s0, s1, s2, s3, s4, s5, s6, .val (.int sel), s8, s9, s10, s11, s12, s13, s14, s15, s16, s17, s18, s19] [(.int (1 : Int32))])) _
    refine XS.goto X0.here hx rfl (pc0 := 60) (pc' := 64) rfl (hb hby at_60) (by decide) (by decide) ?_
    show Steps p.tables e below (T0.setTop (mkF m 64 #[s0, s1, s2, s3, s4, s5, s6, .val (.int sel), s8, s9, s10, s11, s12, s13, s14, s15, s16, s17, s18, s19] [(.int (1 : Int32))])) _
    exact kt
set_option maxRecDepth 65536 in
set_option maxHeartbeats 40000000 in
theorem sg_66 {p : Program} {l : Launch} {e : Env} {R : Room} {s : State} {m : MethodId} {args : Array Value} {below : List Frame} {meth : Method} {c : Code} {T0 : State} {locs : List Loc} {cells slots : Nat} {Z : State} {a0 : Array Value}  (s0 : Slot) (s1 : Slot) (s2 : Slot) (s3 : Slot) (s4 : Slot) (s5 : Slot) (s6 : Slot) (sel : Int32) (s8 : Slot) (s9 : Slot) (s10 : Slot) (s11 : Slot) (s12 : Slot) (s13 : Slot) (s14 : Slot) (s15 : Slot) (s16 : Slot) (s17 : Slot) (s18 : Slot) (s19 : Slot) (v0 : Int32) (hv0 : v0 = (if (sel &&& (8 : Int32)) = (0 : Int32) then (0 : Int32) else (1 : Int32)))
    (X0 : Stand p l e R s m args below meth c T0 locs cells slots) (hx : p.tables.exec = Jvm.exec) (hZ : Z.Warmed39 s.vm) (hw : ∀ d ∈ tables_1, d.before a0 Z = true) (hby : c.code = code) (hown : s.vm.findClass "com/example/tuplewise/tuplewise/store/PartSameAsPinLaw" = some m.cls) {target : State}
    (kt : Steps p.tables e below (T0.setTop (mkF m 79 #[s0, s1, s2, s3, s4, s5, s6, .val (.int sel), s8, s9, s10, s11, s12, s13, s14, s15, s16, s17, s18, s19] [(.int v0)])) target) : Steps p.tables e below (T0.setTop (mkF m 66 #[s0, s1, s2, s3, s4, s5, s6, .val (.int sel), s8, s9, s10, s11, s12, s13, s14, s15, s16, s17, s18, s19] [])) target := by
  by_cases hc71 : (sel &&& (8 : Int32)) = (0 : Int32)
  ·
    simp only [if_pos hc71] at hv0
    rw [hv0] at kt
    show Steps p.tables e below (T0.setTop (mkF m 66 #[s0, s1, s2, s3, s4, s5, s6, .val (.int sel), s8, s9, s10, s11, s12, s13, s14, s15, s16, s17, s18, s19] [])) _
    refine XS.iload X0.here hx rfl (hb hby at_66) rfl ?_
    show Steps p.tables e below (T0.setTop (mkF m 68 #[s0, s1, s2, s3, s4, s5, s6, .val (.int sel), s8, s9, s10, s11, s12, s13, s14, s15, s16, s17, s18, s19] [(.int sel)])) _
    refine XS.bipush X0.here hx rfl (hb hby at_68) ?_
    show Steps p.tables e below (T0.setTop (mkF m 70 #[s0, s1, s2, s3, s4, s5, s6, .val (.int sel), s8, s9, s10, s11, s12, s13, s14, s15, s16, s17, s18, s19] [(.int (8 : Int32)), (.int sel)])) _
    refine XS.iand X0.here hx rfl (hb hby at_70) rfl ?_
    show Steps p.tables e below (T0.setTop (mkF m 71 #[s0, s1, s2, s3, s4, s5, s6, .val (.int sel), s8, s9, s10, s11, s12, s13, s14, s15, s16, s17, s18, s19] [(.int (sel &&& (8 : Int32)))])) _
    refine XS.ifYes X0.here hx rfl (pc0 := 71) (pc' := 78) rfl (hb hby at_71) rfl ((if0 _ _).trans (teq hc71).1) (by decide) (by decide) ?_
    show Steps p.tables e below (T0.setTop (mkF m 78 #[s0, s1, s2, s3, s4, s5, s6, .val (.int sel), s8, s9, s10, s11, s12, s13, s14, s15, s16, s17, s18, s19] [])) _
    refine XS.iconst X0.here hx rfl (hb hby at_78) ?_
    show Steps p.tables e below (T0.setTop (mkF m 79 #[s0, s1, s2, s3, s4, s5, s6, .val (.int sel), s8, s9, s10, s11, s12, s13, s14, s15, s16, s17, s18, s19] [(.int (0 : Int32))])) _
    exact kt
  ·
    simp only [if_neg hc71] at hv0
    rw [hv0] at kt
    show Steps p.tables e below (T0.setTop (mkF m 66 #[s0, s1, s2, s3, s4, s5, s6, .val (.int sel), s8, s9, s10, s11, s12, s13, s14, s15, s16, s17, s18, s19] [])) _
    refine XS.iload X0.here hx rfl (hb hby at_66) rfl ?_
    show Steps p.tables e below (T0.setTop (mkF m 68 #[s0, s1, s2, s3, s4, s5, s6, .val (.int sel), s8, s9, s10, s11, s12, s13, s14, s15, s16, s17, s18, s19] [(.int sel)])) _
    refine XS.bipush X0.here hx rfl (hb hby at_68) ?_
    show Steps p.tables e below (T0.setTop (mkF m 70 #[s0, s1, s2, s3, s4, s5, s6, .val (.int sel), s8, s9, s10, s11, s12, s13, s14, s15, s16, s17, s18, s19] [(.int (8 : Int32)), (.int sel)])) _
    refine XS.iand X0.here hx rfl (hb hby at_70) rfl ?_
    show Steps p.tables e below (T0.setTop (mkF m 71 #[s0, s1, s2, s3, s4, s5, s6, .val (.int sel), s8, s9, s10, s11, s12, s13, s14, s15, s16, s17, s18, s19] [(.int (sel &&& (8 : Int32)))])) _
    refine XS.ifNo X0.here hx rfl (hb hby at_71) rfl ((if0 _ _).trans (feq hc71).1) ?_
    show Steps p.tables e below (T0.setTop (mkF m 74 #[s0, s1, s2, s3, s4, s5, s6, .val (.int sel), s8, s9, s10, s11, s12, s13, s14, s15, s16, s17, s18, s19] [])) _
    refine XS.iconst X0.here hx rfl (hb hby at_74) ?_
    show Steps p.tables e below (T0.setTop (mkF m 75 #[s0, s1, s2, s3, s4, s5, s6, .val (.int sel), s8, s9, s10, s11, s12, s13, s14, s15, s16, s17, s18, s19] [(.int (1 : Int32))])) _
    refine XS.goto X0.here hx rfl (pc0 := 75) (pc' := 79) rfl (hb hby at_75) (by decide) (by decide) ?_
    show Steps p.tables e below (T0.setTop (mkF m 79 #[s0, s1, s2, s3, s4, s5, s6, .val (.int sel), s8, s9, s10, s11, s12, s13, s14, s15, s16, s17, s18, s19] [(.int (1 : Int32))])) _
    exact kt
set_option maxRecDepth 65536 in
set_option maxHeartbeats 40000000 in
theorem sg_81 {p : Program} {l : Launch} {e : Env} {R : Room} {s : State} {m : MethodId} {args : Array Value} {below : List Frame} {meth : Method} {c : Code} {T0 : State} {locs : List Loc} {cells slots : Nat} {Z : State} {a0 : Array Value}  (s0 : Slot) (s1 : Slot) (s2 : Slot) (s3 : Slot) (s4 : Slot) (s5 : Slot) (s6 : Slot) (sel : Int32) (s8 : Slot) (s9 : Slot) (s10 : Slot) (s11 : Slot) (s12 : Slot) (s13 : Slot) (s14 : Slot) (s15 : Slot) (s16 : Slot) (s17 : Slot) (s18 : Slot) (s19 : Slot) (v0 : Int32) (hv0 : v0 = (if (sel &&& (16 : Int32)) = (0 : Int32) then (0 : Int32) else (1 : Int32)))
    (X0 : Stand p l e R s m args below meth c T0 locs cells slots) (hx : p.tables.exec = Jvm.exec) (hZ : Z.Warmed39 s.vm) (hw : ∀ d ∈ tables_1, d.before a0 Z = true) (hby : c.code = code) (hown : s.vm.findClass "com/example/tuplewise/tuplewise/store/PartSameAsPinLaw" = some m.cls) {target : State}
    (kt : Steps p.tables e below (T0.setTop (mkF m 94 #[s0, s1, s2, s3, s4, s5, s6, .val (.int sel), s8, s9, s10, s11, s12, s13, s14, s15, s16, s17, s18, s19] [(.int v0)])) target) : Steps p.tables e below (T0.setTop (mkF m 81 #[s0, s1, s2, s3, s4, s5, s6, .val (.int sel), s8, s9, s10, s11, s12, s13, s14, s15, s16, s17, s18, s19] [])) target := by
  by_cases hc86 : (sel &&& (16 : Int32)) = (0 : Int32)
  ·
    simp only [if_pos hc86] at hv0
    rw [hv0] at kt
    show Steps p.tables e below (T0.setTop (mkF m 81 #[s0, s1, s2, s3, s4, s5, s6, .val (.int sel), s8, s9, s10, s11, s12, s13, s14, s15, s16, s17, s18, s19] [])) _
    refine XS.iload X0.here hx rfl (hb hby at_81) rfl ?_
    show Steps p.tables e below (T0.setTop (mkF m 83 #[s0, s1, s2, s3, s4, s5, s6, .val (.int sel), s8, s9, s10, s11, s12, s13, s14, s15, s16, s17, s18, s19] [(.int sel)])) _
    refine XS.bipush X0.here hx rfl (hb hby at_83) ?_
    show Steps p.tables e below (T0.setTop (mkF m 85 #[s0, s1, s2, s3, s4, s5, s6, .val (.int sel), s8, s9, s10, s11, s12, s13, s14, s15, s16, s17, s18, s19] [(.int (16 : Int32)), (.int sel)])) _
    refine XS.iand X0.here hx rfl (hb hby at_85) rfl ?_
    show Steps p.tables e below (T0.setTop (mkF m 86 #[s0, s1, s2, s3, s4, s5, s6, .val (.int sel), s8, s9, s10, s11, s12, s13, s14, s15, s16, s17, s18, s19] [(.int (sel &&& (16 : Int32)))])) _
    refine XS.ifYes X0.here hx rfl (pc0 := 86) (pc' := 93) rfl (hb hby at_86) rfl ((if0 _ _).trans (teq hc86).1) (by decide) (by decide) ?_
    show Steps p.tables e below (T0.setTop (mkF m 93 #[s0, s1, s2, s3, s4, s5, s6, .val (.int sel), s8, s9, s10, s11, s12, s13, s14, s15, s16, s17, s18, s19] [])) _
    refine XS.iconst X0.here hx rfl (hb hby at_93) ?_
    show Steps p.tables e below (T0.setTop (mkF m 94 #[s0, s1, s2, s3, s4, s5, s6, .val (.int sel), s8, s9, s10, s11, s12, s13, s14, s15, s16, s17, s18, s19] [(.int (0 : Int32))])) _
    exact kt
  ·
    simp only [if_neg hc86] at hv0
    rw [hv0] at kt
    show Steps p.tables e below (T0.setTop (mkF m 81 #[s0, s1, s2, s3, s4, s5, s6, .val (.int sel), s8, s9, s10, s11, s12, s13, s14, s15, s16, s17, s18, s19] [])) _
    refine XS.iload X0.here hx rfl (hb hby at_81) rfl ?_
    show Steps p.tables e below (T0.setTop (mkF m 83 #[s0, s1, s2, s3, s4, s5, s6, .val (.int sel), s8, s9, s10, s11, s12, s13, s14, s15, s16, s17, s18, s19] [(.int sel)])) _
    refine XS.bipush X0.here hx rfl (hb hby at_83) ?_
    show Steps p.tables e below (T0.setTop (mkF m 85 #[s0, s1, s2, s3, s4, s5, s6, .val (.int sel), s8, s9, s10, s11, s12, s13, s14, s15, s16, s17, s18, s19] [(.int (16 : Int32)), (.int sel)])) _
    refine XS.iand X0.here hx rfl (hb hby at_85) rfl ?_
    show Steps p.tables e below (T0.setTop (mkF m 86 #[s0, s1, s2, s3, s4, s5, s6, .val (.int sel), s8, s9, s10, s11, s12, s13, s14, s15, s16, s17, s18, s19] [(.int (sel &&& (16 : Int32)))])) _
    refine XS.ifNo X0.here hx rfl (hb hby at_86) rfl ((if0 _ _).trans (feq hc86).1) ?_
    show Steps p.tables e below (T0.setTop (mkF m 89 #[s0, s1, s2, s3, s4, s5, s6, .val (.int sel), s8, s9, s10, s11, s12, s13, s14, s15, s16, s17, s18, s19] [])) _
    refine XS.iconst X0.here hx rfl (hb hby at_89) ?_
    show Steps p.tables e below (T0.setTop (mkF m 90 #[s0, s1, s2, s3, s4, s5, s6, .val (.int sel), s8, s9, s10, s11, s12, s13, s14, s15, s16, s17, s18, s19] [(.int (1 : Int32))])) _
    refine XS.goto X0.here hx rfl (pc0 := 90) (pc' := 94) rfl (hb hby at_90) (by decide) (by decide) ?_
    show Steps p.tables e below (T0.setTop (mkF m 94 #[s0, s1, s2, s3, s4, s5, s6, .val (.int sel), s8, s9, s10, s11, s12, s13, s14, s15, s16, s17, s18, s19] [(.int (1 : Int32))])) _
    exact kt
set_option maxRecDepth 65536 in
set_option maxHeartbeats 40000000 in
theorem sg_193 {p : Program} {l : Launch} {e : Env} {R : Room} {s : State} {m : MethodId} {args : Array Value} {below : List Frame} {meth : Method} {c : Code} {T0 : State} {locs : List Loc} {cells slots : Nat} {Z : State} {a0 : Array Value}  (s0 : Slot) (s1 : Slot) (s2 : Slot) (s3 : Slot) (s4 : Slot) (s5 : Slot) (s6 : Slot) (sel : Int32) (s8 : Slot) (s9 : Slot) (s10 : Slot) (s11 : Slot) (s12 : Slot) (s13 : Slot) (s14 : Slot) (s15 : Slot) (s16 : Slot) (s17 : Slot) (s18 : Slot) (s19 : Slot) (v0 : Int32) (hv0 : v0 = (if (sel &&& (31 : Int32)) = (0 : Int32) then (1 : Int32) else (0 : Int32)))
    (X0 : Stand p l e R s m args below meth c T0 locs cells slots) (hx : p.tables.exec = Jvm.exec) (hZ : Z.Warmed39 s.vm) (hw : ∀ d ∈ tables_1, d.before a0 Z = true) (hby : c.code = code) (hown : s.vm.findClass "com/example/tuplewise/tuplewise/store/PartSameAsPinLaw" = some m.cls) {target : State}
    (kt : Steps p.tables e below (T0.setTop (mkF m 206 #[s0, s1, s2, s3, s4, s5, s6, .val (.int sel), s8, s9, s10, s11, s12, s13, s14, s15, s16, s17, s18, s19] [(.int v0)])) target) : Steps p.tables e below (T0.setTop (mkF m 193 #[s0, s1, s2, s3, s4, s5, s6, .val (.int sel), s8, s9, s10, s11, s12, s13, s14, s15, s16, s17, s18, s19] [])) target := by
  by_cases hc198 : (sel &&& (31 : Int32)) = (0 : Int32)
  ·
    simp only [if_pos hc198] at hv0
    rw [hv0] at kt
    show Steps p.tables e below (T0.setTop (mkF m 193 #[s0, s1, s2, s3, s4, s5, s6, .val (.int sel), s8, s9, s10, s11, s12, s13, s14, s15, s16, s17, s18, s19] [])) _
    refine XS.iload X0.here hx rfl (hb hby at_193) rfl ?_
    show Steps p.tables e below (T0.setTop (mkF m 195 #[s0, s1, s2, s3, s4, s5, s6, .val (.int sel), s8, s9, s10, s11, s12, s13, s14, s15, s16, s17, s18, s19] [(.int sel)])) _
    refine XS.bipush X0.here hx rfl (hb hby at_195) ?_
    show Steps p.tables e below (T0.setTop (mkF m 197 #[s0, s1, s2, s3, s4, s5, s6, .val (.int sel), s8, s9, s10, s11, s12, s13, s14, s15, s16, s17, s18, s19] [(.int (31 : Int32)), (.int sel)])) _
    refine XS.iand X0.here hx rfl (hb hby at_197) rfl ?_
    show Steps p.tables e below (T0.setTop (mkF m 198 #[s0, s1, s2, s3, s4, s5, s6, .val (.int sel), s8, s9, s10, s11, s12, s13, s14, s15, s16, s17, s18, s19] [(.int (sel &&& (31 : Int32)))])) _
    refine XS.ifNo X0.here hx rfl (hb hby at_198) rfl ((if0 _ _).trans (teq hc198).2) ?_
    show Steps p.tables e below (T0.setTop (mkF m 201 #[s0, s1, s2, s3, s4, s5, s6, .val (.int sel), s8, s9, s10, s11, s12, s13, s14, s15, s16, s17, s18, s19] [])) _
    refine XS.iconst X0.here hx rfl (hb hby at_201) ?_
    show Steps p.tables e below (T0.setTop (mkF m 202 #[s0, s1, s2, s3, s4, s5, s6, .val (.int sel), s8, s9, s10, s11, s12, s13, s14, s15, s16, s17, s18, s19] [(.int (1 : Int32))])) _
    refine XS.goto X0.here hx rfl (pc0 := 202) (pc' := 206) rfl (hb hby at_202) (by decide) (by decide) ?_
    show Steps p.tables e below (T0.setTop (mkF m 206 #[s0, s1, s2, s3, s4, s5, s6, .val (.int sel), s8, s9, s10, s11, s12, s13, s14, s15, s16, s17, s18, s19] [(.int (1 : Int32))])) _
    exact kt
  ·
    simp only [if_neg hc198] at hv0
    rw [hv0] at kt
    show Steps p.tables e below (T0.setTop (mkF m 193 #[s0, s1, s2, s3, s4, s5, s6, .val (.int sel), s8, s9, s10, s11, s12, s13, s14, s15, s16, s17, s18, s19] [])) _
    refine XS.iload X0.here hx rfl (hb hby at_193) rfl ?_
    show Steps p.tables e below (T0.setTop (mkF m 195 #[s0, s1, s2, s3, s4, s5, s6, .val (.int sel), s8, s9, s10, s11, s12, s13, s14, s15, s16, s17, s18, s19] [(.int sel)])) _
    refine XS.bipush X0.here hx rfl (hb hby at_195) ?_
    show Steps p.tables e below (T0.setTop (mkF m 197 #[s0, s1, s2, s3, s4, s5, s6, .val (.int sel), s8, s9, s10, s11, s12, s13, s14, s15, s16, s17, s18, s19] [(.int (31 : Int32)), (.int sel)])) _
    refine XS.iand X0.here hx rfl (hb hby at_197) rfl ?_
    show Steps p.tables e below (T0.setTop (mkF m 198 #[s0, s1, s2, s3, s4, s5, s6, .val (.int sel), s8, s9, s10, s11, s12, s13, s14, s15, s16, s17, s18, s19] [(.int (sel &&& (31 : Int32)))])) _
    refine XS.ifYes X0.here hx rfl (pc0 := 198) (pc' := 205) rfl (hb hby at_198) rfl ((if0 _ _).trans (feq hc198).2) (by decide) (by decide) ?_
    show Steps p.tables e below (T0.setTop (mkF m 205 #[s0, s1, s2, s3, s4, s5, s6, .val (.int sel), s8, s9, s10, s11, s12, s13, s14, s15, s16, s17, s18, s19] [])) _
    refine XS.iconst X0.here hx rfl (hb hby at_205) ?_
    show Steps p.tables e below (T0.setTop (mkF m 206 #[s0, s1, s2, s3, s4, s5, s6, .val (.int sel), s8, s9, s10, s11, s12, s13, s14, s15, s16, s17, s18, s19] [(.int (0 : Int32))])) _
    exact kt
set_option maxRecDepth 65536 in
set_option maxHeartbeats 40000000 in
theorem sg_117 {p : Program} {l : Launch} {e : Env} {R : Room} {s : State} {m : MethodId} {args : Array Value} {below : List Frame} {meth : Method} {c : Code} {T0 : State} {locs : List Loc} {cells slots : Nat} {Z : State} {a0 : Array Value}  (z0 : Int64) (s2 : Slot) (s3 : Slot) (s4 : Slot) (s5 : Slot) (s6 : Slot) (s7 : Slot) (s8 : Slot) (dl : Int64) (s11 : Slot) (bb : Int32) (s13 : Slot) (s14 : Slot) (s15 : Slot) (s16 : Slot) (s17 : Slot) (s18 : Slot) (s19 : Slot) (o1 : Addr) (o0 : Addr) (v0 : Int64) (hv0 : v0 = (if bb = (0 : Int32) then z0 else (z0 ^^^ dl)))
    (X0 : Stand p l e R s m args below meth c T0 locs cells slots) (hx : p.tables.exec = Jvm.exec) (hZ : Z.Warmed39 s.vm) (hw : ∀ d ∈ tables_1, d.before a0 Z = true) (hby : c.code = code) (hown : s.vm.findClass "com/example/tuplewise/tuplewise/store/PartSameAsPinLaw" = some m.cls) {target : State}
    (kt : Steps p.tables e below (T0.setTop (mkF m 130 #[.val (.long z0), .second, s2, s3, s4, s5, s6, s7, s8, .val (.long dl), .second, s11, .val (.int bb), s13, s14, s15, s16, s17, s18, s19] [(.long v0), (.ref o1), (.ref o0)])) target) : Steps p.tables e below (T0.setTop (mkF m 117 #[.val (.long z0), .second, s2, s3, s4, s5, s6, s7, s8, .val (.long dl), .second, s11, .val (.int bb), s13, s14, s15, s16, s17, s18, s19] [(.ref o1), (.ref o0)])) target := by
  by_cases hc119 : bb = (0 : Int32)
  ·
    simp only [if_pos hc119] at hv0
    rw [hv0] at kt
    show Steps p.tables e below (T0.setTop (mkF m 117 #[.val (.long z0), .second, s2, s3, s4, s5, s6, s7, s8, .val (.long dl), .second, s11, .val (.int bb), s13, s14, s15, s16, s17, s18, s19] [(.ref o1), (.ref o0)])) _
    refine XS.iload X0.here hx rfl (hb hby at_117) rfl ?_
    show Steps p.tables e below (T0.setTop (mkF m 119 #[.val (.long z0), .second, s2, s3, s4, s5, s6, s7, s8, .val (.long dl), .second, s11, .val (.int bb), s13, s14, s15, s16, s17, s18, s19] [(.int bb), (.ref o1), (.ref o0)])) _
    refine XS.ifYes X0.here hx rfl (pc0 := 119) (pc' := 129) rfl (hb hby at_119) rfl ((if0 _ _).trans (teq hc119).1) (by decide) (by decide) ?_
    show Steps p.tables e below (T0.setTop (mkF m 129 #[.val (.long z0), .second, s2, s3, s4, s5, s6, s7, s8, .val (.long dl), .second, s11, .val (.int bb), s13, s14, s15, s16, s17, s18, s19] [(.ref o1), (.ref o0)])) _
    refine XS.lloadN X0.here hx rfl (hb hby at_129) rfl ?_
    show Steps p.tables e below (T0.setTop (mkF m 130 #[.val (.long z0), .second, s2, s3, s4, s5, s6, s7, s8, .val (.long dl), .second, s11, .val (.int bb), s13, s14, s15, s16, s17, s18, s19] [(.long z0), (.ref o1), (.ref o0)])) _
    exact kt
  ·
    simp only [if_neg hc119] at hv0
    rw [hv0] at kt
    show Steps p.tables e below (T0.setTop (mkF m 117 #[.val (.long z0), .second, s2, s3, s4, s5, s6, s7, s8, .val (.long dl), .second, s11, .val (.int bb), s13, s14, s15, s16, s17, s18, s19] [(.ref o1), (.ref o0)])) _
    refine XS.iload X0.here hx rfl (hb hby at_117) rfl ?_
    show Steps p.tables e below (T0.setTop (mkF m 119 #[.val (.long z0), .second, s2, s3, s4, s5, s6, s7, s8, .val (.long dl), .second, s11, .val (.int bb), s13, s14, s15, s16, s17, s18, s19] [(.int bb), (.ref o1), (.ref o0)])) _
    refine XS.ifNo X0.here hx rfl (hb hby at_119) rfl ((if0 _ _).trans (feq hc119).1) ?_
    show Steps p.tables e below (T0.setTop (mkF m 122 #[.val (.long z0), .second, s2, s3, s4, s5, s6, s7, s8, .val (.long dl), .second, s11, .val (.int bb), s13, s14, s15, s16, s17, s18, s19] [(.ref o1), (.ref o0)])) _
    refine XS.lloadN X0.here hx rfl (hb hby at_122) rfl ?_
    show Steps p.tables e below (T0.setTop (mkF m 123 #[.val (.long z0), .second, s2, s3, s4, s5, s6, s7, s8, .val (.long dl), .second, s11, .val (.int bb), s13, s14, s15, s16, s17, s18, s19] [(.long z0), (.ref o1), (.ref o0)])) _
    refine XS.lload X0.here hx rfl (hb hby at_123) rfl ?_
    show Steps p.tables e below (T0.setTop (mkF m 125 #[.val (.long z0), .second, s2, s3, s4, s5, s6, s7, s8, .val (.long dl), .second, s11, .val (.int bb), s13, s14, s15, s16, s17, s18, s19] [(.long dl), (.long z0), (.ref o1), (.ref o0)])) _
    refine XS.lxor X0.here hx rfl (hb hby at_125) rfl ?_
    show Steps p.tables e below (T0.setTop (mkF m 126 #[.val (.long z0), .second, s2, s3, s4, s5, s6, s7, s8, .val (.long dl), .second, s11, .val (.int bb), s13, s14, s15, s16, s17, s18, s19] [(.long (z0 ^^^ dl)), (.ref o1), (.ref o0)])) _
    refine XS.goto X0.here hx rfl (pc0 := 126) (pc' := 130) rfl (hb hby at_126) (by decide) (by decide) ?_
    show Steps p.tables e below (T0.setTop (mkF m 130 #[.val (.long z0), .second, s2, s3, s4, s5, s6, s7, s8, .val (.long dl), .second, s11, .val (.int bb), s13, s14, s15, s16, s17, s18, s19] [(.long (z0 ^^^ dl)), (.ref o1), (.ref o0)])) _
    exact kt
set_option maxRecDepth 65536 in
set_option maxHeartbeats 40000000 in
theorem sg_130 {p : Program} {l : Launch} {e : Env} {R : Room} {s : State} {m : MethodId} {args : Array Value} {below : List Frame} {meth : Method} {c : Code} {T0 : State} {locs : List Loc} {cells slots : Nat} {Z : State} {a0 : Array Value}  (s0 : Slot) (s1 : Slot) (z0 : Int64) (s4 : Slot) (s5 : Slot) (s6 : Slot) (s7 : Slot) (s8 : Slot) (dl : Int64) (s11 : Slot) (s12 : Slot) (bb : Int32) (s14 : Slot) (s15 : Slot) (s16 : Slot) (s17 : Slot) (s18 : Slot) (s19 : Slot) (t1 : Int64) (o1 : Addr) (o0 : Addr) (v0 : Int64) (hv0 : v0 = (if bb = (0 : Int32) then z0 else (z0 ^^^ dl)))
    (X0 : Stand p l e R s m args below meth c T0 locs cells slots) (hx : p.tables.exec = Jvm.exec) (hZ : Z.Warmed39 s.vm) (hw : ∀ d ∈ tables_1, d.before a0 Z = true) (hby : c.code = code) (hown : s.vm.findClass "com/example/tuplewise/tuplewise/store/PartSameAsPinLaw" = some m.cls) {target : State}
    (kt : Steps p.tables e below (T0.setTop (mkF m 143 #[s0, s1, .val (.long z0), .second, s4, s5, s6, s7, s8, .val (.long dl), .second, s11, s12, .val (.int bb), s14, s15, s16, s17, s18, s19] [(.long v0), (.long t1), (.ref o1), (.ref o0)])) target) : Steps p.tables e below (T0.setTop (mkF m 130 #[s0, s1, .val (.long z0), .second, s4, s5, s6, s7, s8, .val (.long dl), .second, s11, s12, .val (.int bb), s14, s15, s16, s17, s18, s19] [(.long t1), (.ref o1), (.ref o0)])) target := by
  by_cases hc132 : bb = (0 : Int32)
  ·
    simp only [if_pos hc132] at hv0
    rw [hv0] at kt
    show Steps p.tables e below (T0.setTop (mkF m 130 #[s0, s1, .val (.long z0), .second, s4, s5, s6, s7, s8, .val (.long dl), .second, s11, s12, .val (.int bb), s14, s15, s16, s17, s18, s19] [(.long t1), (.ref o1), (.ref o0)])) _
    refine XS.iload X0.here hx rfl (hb hby at_130) rfl ?_
    show Steps p.tables e below (T0.setTop (mkF m 132 #[s0, s1, .val (.long z0), .second, s4, s5, s6, s7, s8, .val (.long dl), .second, s11, s12, .val (.int bb), s14, s15, s16, s17, s18, s19] [(.int bb), (.long t1), (.ref o1), (.ref o0)])) _
    refine XS.ifYes X0.here hx rfl (pc0 := 132) (pc' := 142) rfl (hb hby at_132) rfl ((if0 _ _).trans (teq hc132).1) (by decide) (by decide) ?_
    show Steps p.tables e below (T0.setTop (mkF m 142 #[s0, s1, .val (.long z0), .second, s4, s5, s6, s7, s8, .val (.long dl), .second, s11, s12, .val (.int bb), s14, s15, s16, s17, s18, s19] [(.long t1), (.ref o1), (.ref o0)])) _
    refine XS.lloadN X0.here hx rfl (hb hby at_142) rfl ?_
    show Steps p.tables e below (T0.setTop (mkF m 143 #[s0, s1, .val (.long z0), .second, s4, s5, s6, s7, s8, .val (.long dl), .second, s11, s12, .val (.int bb), s14, s15, s16, s17, s18, s19] [(.long z0), (.long t1), (.ref o1), (.ref o0)])) _
    exact kt
  ·
    simp only [if_neg hc132] at hv0
    rw [hv0] at kt
    show Steps p.tables e below (T0.setTop (mkF m 130 #[s0, s1, .val (.long z0), .second, s4, s5, s6, s7, s8, .val (.long dl), .second, s11, s12, .val (.int bb), s14, s15, s16, s17, s18, s19] [(.long t1), (.ref o1), (.ref o0)])) _
    refine XS.iload X0.here hx rfl (hb hby at_130) rfl ?_
    show Steps p.tables e below (T0.setTop (mkF m 132 #[s0, s1, .val (.long z0), .second, s4, s5, s6, s7, s8, .val (.long dl), .second, s11, s12, .val (.int bb), s14, s15, s16, s17, s18, s19] [(.int bb), (.long t1), (.ref o1), (.ref o0)])) _
    refine XS.ifNo X0.here hx rfl (hb hby at_132) rfl ((if0 _ _).trans (feq hc132).1) ?_
    show Steps p.tables e below (T0.setTop (mkF m 135 #[s0, s1, .val (.long z0), .second, s4, s5, s6, s7, s8, .val (.long dl), .second, s11, s12, .val (.int bb), s14, s15, s16, s17, s18, s19] [(.long t1), (.ref o1), (.ref o0)])) _
    refine XS.lloadN X0.here hx rfl (hb hby at_135) rfl ?_
    show Steps p.tables e below (T0.setTop (mkF m 136 #[s0, s1, .val (.long z0), .second, s4, s5, s6, s7, s8, .val (.long dl), .second, s11, s12, .val (.int bb), s14, s15, s16, s17, s18, s19] [(.long z0), (.long t1), (.ref o1), (.ref o0)])) _
    refine XS.lload X0.here hx rfl (hb hby at_136) rfl ?_
    show Steps p.tables e below (T0.setTop (mkF m 138 #[s0, s1, .val (.long z0), .second, s4, s5, s6, s7, s8, .val (.long dl), .second, s11, s12, .val (.int bb), s14, s15, s16, s17, s18, s19] [(.long dl), (.long z0), (.long t1), (.ref o1), (.ref o0)])) _
    refine XS.lxor X0.here hx rfl (hb hby at_138) rfl ?_
    show Steps p.tables e below (T0.setTop (mkF m 139 #[s0, s1, .val (.long z0), .second, s4, s5, s6, s7, s8, .val (.long dl), .second, s11, s12, .val (.int bb), s14, s15, s16, s17, s18, s19] [(.long (z0 ^^^ dl)), (.long t1), (.ref o1), (.ref o0)])) _
    refine XS.goto X0.here hx rfl (pc0 := 139) (pc' := 143) rfl (hb hby at_139) (by decide) (by decide) ?_
    show Steps p.tables e below (T0.setTop (mkF m 143 #[s0, s1, .val (.long z0), .second, s4, s5, s6, s7, s8, .val (.long dl), .second, s11, s12, .val (.int bb), s14, s15, s16, s17, s18, s19] [(.long (z0 ^^^ dl)), (.long t1), (.ref o1), (.ref o0)])) _
    exact kt
set_option maxRecDepth 65536 in
set_option maxHeartbeats 40000000 in
theorem sg_143 {p : Program} {l : Launch} {e : Env} {R : Room} {s : State} {m : MethodId} {args : Array Value} {below : List Frame} {meth : Method} {c : Code} {T0 : State} {locs : List Loc} {cells slots : Nat} {Z : State} {a0 : Array Value}  (s0 : Slot) (s1 : Slot) (s2 : Slot) (s3 : Slot) (z0 : Int32) (s5 : Slot) (s6 : Slot) (s7 : Slot) (s8 : Slot) (s9 : Slot) (s10 : Slot) (di : Int32) (s12 : Slot) (s13 : Slot) (bb : Int32) (s15 : Slot) (s16 : Slot) (s17 : Slot) (s18 : Slot) (s19 : Slot) (t2 : Int64) (t1 : Int64) (o1 : Addr) (o0 : Addr) (v0 : Int32) (hv0 : v0 = (if bb = (0 : Int32) then z0 else (z0 ^^^ di)))
    (X0 : Stand p l e R s m args below meth c T0 locs cells slots) (hx : p.tables.exec = Jvm.exec) (hZ : Z.Warmed39 s.vm) (hw : ∀ d ∈ tables_1, d.before a0 Z = true) (hby : c.code = code) (hown : s.vm.findClass "com/example/tuplewise/tuplewise/store/PartSameAsPinLaw" = some m.cls) {target : State}
    (kt : Steps p.tables e below (T0.setTop (mkF m 158 #[s0, s1, s2, s3, .val (.int z0), s5, s6, s7, s8, s9, s10, .val (.int di), s12, s13, .val (.int bb), s15, s16, s17, s18, s19] [(.int v0), (.long t2), (.long t1), (.ref o1), (.ref o0)])) target) : Steps p.tables e below (T0.setTop (mkF m 143 #[s0, s1, s2, s3, .val (.int z0), s5, s6, s7, s8, s9, s10, .val (.int di), s12, s13, .val (.int bb), s15, s16, s17, s18, s19] [(.long t2), (.long t1), (.ref o1), (.ref o0)])) target := by
  by_cases hc145 : bb = (0 : Int32)
  ·
    simp only [if_pos hc145] at hv0
    rw [hv0] at kt
    show Steps p.tables e below (T0.setTop (mkF m 143 #[s0, s1, s2, s3, .val (.int z0), s5, s6, s7, s8, s9, s10, .val (.int di), s12, s13, .val (.int bb), s15, s16, s17, s18, s19] [(.long t2), (.long t1), (.ref o1), (.ref o0)])) _
    refine XS.iload X0.here hx rfl (hb hby at_143) rfl ?_
    show Steps p.tables e below (T0.setTop (mkF m 145 #[s0, s1, s2, s3, .val (.int z0), s5, s6, s7, s8, s9, s10, .val (.int di), s12, s13, .val (.int bb), s15, s16, s17, s18, s19] [(.int bb), (.long t2), (.long t1), (.ref o1), (.ref o0)])) _
    refine XS.ifYes X0.here hx rfl (pc0 := 145) (pc' := 156) rfl (hb hby at_145) rfl ((if0 _ _).trans (teq hc145).1) (by decide) (by decide) ?_
    show Steps p.tables e below (T0.setTop (mkF m 156 #[s0, s1, s2, s3, .val (.int z0), s5, s6, s7, s8, s9, s10, .val (.int di), s12, s13, .val (.int bb), s15, s16, s17, s18, s19] [(.long t2), (.long t1), (.ref o1), (.ref o0)])) _
    refine XS.iload X0.here hx rfl (hb hby at_156) rfl ?_
    show Steps p.tables e below (T0.setTop (mkF m 158 #[s0, s1, s2, s3, .val (.int z0), s5, s6, s7, s8, s9, s10, .val (.int di), s12, s13, .val (.int bb), s15, s16, s17, s18, s19] [(.int z0), (.long t2), (.long t1), (.ref o1), (.ref o0)])) _
    exact kt
  ·
    simp only [if_neg hc145] at hv0
    rw [hv0] at kt
    show Steps p.tables e below (T0.setTop (mkF m 143 #[s0, s1, s2, s3, .val (.int z0), s5, s6, s7, s8, s9, s10, .val (.int di), s12, s13, .val (.int bb), s15, s16, s17, s18, s19] [(.long t2), (.long t1), (.ref o1), (.ref o0)])) _
    refine XS.iload X0.here hx rfl (hb hby at_143) rfl ?_
    show Steps p.tables e below (T0.setTop (mkF m 145 #[s0, s1, s2, s3, .val (.int z0), s5, s6, s7, s8, s9, s10, .val (.int di), s12, s13, .val (.int bb), s15, s16, s17, s18, s19] [(.int bb), (.long t2), (.long t1), (.ref o1), (.ref o0)])) _
    refine XS.ifNo X0.here hx rfl (hb hby at_145) rfl ((if0 _ _).trans (feq hc145).1) ?_
    show Steps p.tables e below (T0.setTop (mkF m 148 #[s0, s1, s2, s3, .val (.int z0), s5, s6, s7, s8, s9, s10, .val (.int di), s12, s13, .val (.int bb), s15, s16, s17, s18, s19] [(.long t2), (.long t1), (.ref o1), (.ref o0)])) _
    refine XS.iload X0.here hx rfl (hb hby at_148) rfl ?_
    show Steps p.tables e below (T0.setTop (mkF m 150 #[s0, s1, s2, s3, .val (.int z0), s5, s6, s7, s8, s9, s10, .val (.int di), s12, s13, .val (.int bb), s15, s16, s17, s18, s19] [(.int z0), (.long t2), (.long t1), (.ref o1), (.ref o0)])) _
    refine XS.iload X0.here hx rfl (hb hby at_150) rfl ?_
    show Steps p.tables e below (T0.setTop (mkF m 152 #[s0, s1, s2, s3, .val (.int z0), s5, s6, s7, s8, s9, s10, .val (.int di), s12, s13, .val (.int bb), s15, s16, s17, s18, s19] [(.int di), (.int z0), (.long t2), (.long t1), (.ref o1), (.ref o0)])) _
    refine XS.ixor X0.here hx rfl (hb hby at_152) rfl ?_
    show Steps p.tables e below (T0.setTop (mkF m 153 #[s0, s1, s2, s3, .val (.int z0), s5, s6, s7, s8, s9, s10, .val (.int di), s12, s13, .val (.int bb), s15, s16, s17, s18, s19] [(.int (z0 ^^^ di)), (.long t2), (.long t1), (.ref o1), (.ref o0)])) _
    refine XS.goto X0.here hx rfl (pc0 := 153) (pc' := 158) rfl (hb hby at_153) (by decide) (by decide) ?_
    show Steps p.tables e below (T0.setTop (mkF m 158 #[s0, s1, s2, s3, .val (.int z0), s5, s6, s7, s8, s9, s10, .val (.int di), s12, s13, .val (.int bb), s15, s16, s17, s18, s19] [(.int (z0 ^^^ di)), (.long t2), (.long t1), (.ref o1), (.ref o0)])) _
    exact kt
set_option maxRecDepth 65536 in
set_option maxHeartbeats 40000000 in
theorem sg_158 {p : Program} {l : Launch} {e : Env} {R : Room} {s : State} {m : MethodId} {args : Array Value} {below : List Frame} {meth : Method} {c : Code} {T0 : State} {locs : List Loc} {cells slots : Nat} {Z : State} {a0 : Array Value}  (s0 : Slot) (s1 : Slot) (s2 : Slot) (s3 : Slot) (s4 : Slot) (z0 : Int32) (s6 : Slot) (s7 : Slot) (s8 : Slot) (s9 : Slot) (s10 : Slot) (di : Int32) (s12 : Slot) (s13 : Slot) (s14 : Slot) (bb : Int32) (s16 : Slot) (s17 : Slot) (s18 : Slot) (s19 : Slot) (t3 : Int32) (t2 : Int64) (t1 : Int64) (o1 : Addr) (o0 : Addr) (v0 : Int32) (hv0 : v0 = (if bb = (0 : Int32) then z0 else (z0 ^^^ di)))
    (X0 : Stand p l e R s m args below meth c T0 locs cells slots) (hx : p.tables.exec = Jvm.exec) (hZ : Z.Warmed39 s.vm) (hw : ∀ d ∈ tables_1, d.before a0 Z = true) (hby : c.code = code) (hown : s.vm.findClass "com/example/tuplewise/tuplewise/store/PartSameAsPinLaw" = some m.cls) {target : State}
    (kt : Steps p.tables e below (T0.setTop (mkF m 173 #[s0, s1, s2, s3, s4, .val (.int z0), s6, s7, s8, s9, s10, .val (.int di), s12, s13, s14, .val (.int bb), s16, s17, s18, s19] [(.int v0), (.int t3), (.long t2), (.long t1), (.ref o1), (.ref o0)])) target) : Steps p.tables e below (T0.setTop (mkF m 158 #[s0, s1, s2, s3, s4, .val (.int z0), s6, s7, s8, s9, s10, .val (.int di), s12, s13, s14, .val (.int bb), s16, s17, s18, s19] [(.int t3), (.long t2), (.long t1), (.ref o1), (.ref o0)])) target := by
  by_cases hc160 : bb = (0 : Int32)
  ·
    simp only [if_pos hc160] at hv0
    rw [hv0] at kt
    show Steps p.tables e below (T0.setTop (mkF m 158 #[s0, s1, s2, s3, s4, .val (.int z0), s6, s7, s8, s9, s10, .val (.int di), s12, s13, s14, .val (.int bb), s16, s17, s18, s19] [(.int t3), (.long t2), (.long t1), (.ref o1), (.ref o0)])) _
    refine XS.iload X0.here hx rfl (hb hby at_158) rfl ?_
    show Steps p.tables e below (T0.setTop (mkF m 160 #[s0, s1, s2, s3, s4, .val (.int z0), s6, s7, s8, s9, s10, .val (.int di), s12, s13, s14, .val (.int bb), s16, s17, s18, s19] [(.int bb), (.int t3), (.long t2), (.long t1), (.ref o1), (.ref o0)])) _
    refine XS.ifYes X0.here hx rfl (pc0 := 160) (pc' := 171) rfl (hb hby at_160) rfl ((if0 _ _).trans (teq hc160).1) (by decide) (by decide) ?_
    show Steps p.tables e below (T0.setTop (mkF m 171 #[s0, s1, s2, s3, s4, .val (.int z0), s6, s7, s8, s9, s10, .val (.int di), s12, s13, s14, .val (.int bb), s16, s17, s18, s19] [(.int t3), (.long t2), (.long t1), (.ref o1), (.ref o0)])) _
    refine XS.iload X0.here hx rfl (hb hby at_171) rfl ?_
    show Steps p.tables e below (T0.setTop (mkF m 173 #[s0, s1, s2, s3, s4, .val (.int z0), s6, s7, s8, s9, s10, .val (.int di), s12, s13, s14, .val (.int bb), s16, s17, s18, s19] [(.int z0), (.int t3), (.long t2), (.long t1), (.ref o1), (.ref o0)])) _
    exact kt
  ·
    simp only [if_neg hc160] at hv0
    rw [hv0] at kt
    show Steps p.tables e below (T0.setTop (mkF m 158 #[s0, s1, s2, s3, s4, .val (.int z0), s6, s7, s8, s9, s10, .val (.int di), s12, s13, s14, .val (.int bb), s16, s17, s18, s19] [(.int t3), (.long t2), (.long t1), (.ref o1), (.ref o0)])) _
    refine XS.iload X0.here hx rfl (hb hby at_158) rfl ?_
    show Steps p.tables e below (T0.setTop (mkF m 160 #[s0, s1, s2, s3, s4, .val (.int z0), s6, s7, s8, s9, s10, .val (.int di), s12, s13, s14, .val (.int bb), s16, s17, s18, s19] [(.int bb), (.int t3), (.long t2), (.long t1), (.ref o1), (.ref o0)])) _
    refine XS.ifNo X0.here hx rfl (hb hby at_160) rfl ((if0 _ _).trans (feq hc160).1) ?_
    show Steps p.tables e below (T0.setTop (mkF m 163 #[s0, s1, s2, s3, s4, .val (.int z0), s6, s7, s8, s9, s10, .val (.int di), s12, s13, s14, .val (.int bb), s16, s17, s18, s19] [(.int t3), (.long t2), (.long t1), (.ref o1), (.ref o0)])) _
    refine XS.iload X0.here hx rfl (hb hby at_163) rfl ?_
    show Steps p.tables e below (T0.setTop (mkF m 165 #[s0, s1, s2, s3, s4, .val (.int z0), s6, s7, s8, s9, s10, .val (.int di), s12, s13, s14, .val (.int bb), s16, s17, s18, s19] [(.int z0), (.int t3), (.long t2), (.long t1), (.ref o1), (.ref o0)])) _
    refine XS.iload X0.here hx rfl (hb hby at_165) rfl ?_
    show Steps p.tables e below (T0.setTop (mkF m 167 #[s0, s1, s2, s3, s4, .val (.int z0), s6, s7, s8, s9, s10, .val (.int di), s12, s13, s14, .val (.int bb), s16, s17, s18, s19] [(.int di), (.int z0), (.int t3), (.long t2), (.long t1), (.ref o1), (.ref o0)])) _
    refine XS.ixor X0.here hx rfl (hb hby at_167) rfl ?_
    show Steps p.tables e below (T0.setTop (mkF m 168 #[s0, s1, s2, s3, s4, .val (.int z0), s6, s7, s8, s9, s10, .val (.int di), s12, s13, s14, .val (.int bb), s16, s17, s18, s19] [(.int (z0 ^^^ di)), (.int t3), (.long t2), (.long t1), (.ref o1), (.ref o0)])) _
    refine XS.goto X0.here hx rfl (pc0 := 168) (pc' := 173) rfl (hb hby at_168) (by decide) (by decide) ?_
    show Steps p.tables e below (T0.setTop (mkF m 173 #[s0, s1, s2, s3, s4, .val (.int z0), s6, s7, s8, s9, s10, .val (.int di), s12, s13, s14, .val (.int bb), s16, s17, s18, s19] [(.int (z0 ^^^ di)), (.int t3), (.long t2), (.long t1), (.ref o1), (.ref o0)])) _
    exact kt
set_option maxRecDepth 65536 in
set_option maxHeartbeats 40000000 in
theorem sg_173 {p : Program} {l : Launch} {e : Env} {R : Room} {s : State} {m : MethodId} {args : Array Value} {below : List Frame} {meth : Method} {c : Code} {T0 : State} {locs : List Loc} {cells slots : Nat} {Z : State} {a0 : Array Value}  (s0 : Slot) (s1 : Slot) (s2 : Slot) (s3 : Slot) (s4 : Slot) (s5 : Slot) (z0 : Int32) (s7 : Slot) (s8 : Slot) (s9 : Slot) (s10 : Slot) (di : Int32) (s12 : Slot) (s13 : Slot) (s14 : Slot) (s15 : Slot) (bb : Int32) (s17 : Slot) (s18 : Slot) (s19 : Slot) (t4 : Int32) (t3 : Int32) (t2 : Int64) (t1 : Int64) (o1 : Addr) (o0 : Addr) (v0 : Int32) (hv0 : v0 = (if bb = (0 : Int32) then z0 else (z0 ^^^ di)))
    (X0 : Stand p l e R s m args below meth c T0 locs cells slots) (hx : p.tables.exec = Jvm.exec) (hZ : Z.Warmed39 s.vm) (hw : ∀ d ∈ tables_1, d.before a0 Z = true) (hby : c.code = code) (hown : s.vm.findClass "com/example/tuplewise/tuplewise/store/PartSameAsPinLaw" = some m.cls) {target : State}
    (kt : Steps p.tables e below (T0.setTop (mkF m 188 #[s0, s1, s2, s3, s4, s5, .val (.int z0), s7, s8, s9, s10, .val (.int di), s12, s13, s14, s15, .val (.int bb), s17, s18, s19] [(.int v0), (.int t4), (.int t3), (.long t2), (.long t1), (.ref o1), (.ref o0)])) target) : Steps p.tables e below (T0.setTop (mkF m 173 #[s0, s1, s2, s3, s4, s5, .val (.int z0), s7, s8, s9, s10, .val (.int di), s12, s13, s14, s15, .val (.int bb), s17, s18, s19] [(.int t4), (.int t3), (.long t2), (.long t1), (.ref o1), (.ref o0)])) target := by
  by_cases hc175 : bb = (0 : Int32)
  ·
    simp only [if_pos hc175] at hv0
    rw [hv0] at kt
    show Steps p.tables e below (T0.setTop (mkF m 173 #[s0, s1, s2, s3, s4, s5, .val (.int z0), s7, s8, s9, s10, .val (.int di), s12, s13, s14, s15, .val (.int bb), s17, s18, s19] [(.int t4), (.int t3), (.long t2), (.long t1), (.ref o1), (.ref o0)])) _
    refine XS.iload X0.here hx rfl (hb hby at_173) rfl ?_
    show Steps p.tables e below (T0.setTop (mkF m 175 #[s0, s1, s2, s3, s4, s5, .val (.int z0), s7, s8, s9, s10, .val (.int di), s12, s13, s14, s15, .val (.int bb), s17, s18, s19] [(.int bb), (.int t4), (.int t3), (.long t2), (.long t1), (.ref o1), (.ref o0)])) _
    refine XS.ifYes X0.here hx rfl (pc0 := 175) (pc' := 186) rfl (hb hby at_175) rfl ((if0 _ _).trans (teq hc175).1) (by decide) (by decide) ?_
    show Steps p.tables e below (T0.setTop (mkF m 186 #[s0, s1, s2, s3, s4, s5, .val (.int z0), s7, s8, s9, s10, .val (.int di), s12, s13, s14, s15, .val (.int bb), s17, s18, s19] [(.int t4), (.int t3), (.long t2), (.long t1), (.ref o1), (.ref o0)])) _
    refine XS.iload X0.here hx rfl (hb hby at_186) rfl ?_
    show Steps p.tables e below (T0.setTop (mkF m 188 #[s0, s1, s2, s3, s4, s5, .val (.int z0), s7, s8, s9, s10, .val (.int di), s12, s13, s14, s15, .val (.int bb), s17, s18, s19] [(.int z0), (.int t4), (.int t3), (.long t2), (.long t1), (.ref o1), (.ref o0)])) _
    exact kt
  ·
    simp only [if_neg hc175] at hv0
    rw [hv0] at kt
    show Steps p.tables e below (T0.setTop (mkF m 173 #[s0, s1, s2, s3, s4, s5, .val (.int z0), s7, s8, s9, s10, .val (.int di), s12, s13, s14, s15, .val (.int bb), s17, s18, s19] [(.int t4), (.int t3), (.long t2), (.long t1), (.ref o1), (.ref o0)])) _
    refine XS.iload X0.here hx rfl (hb hby at_173) rfl ?_
    show Steps p.tables e below (T0.setTop (mkF m 175 #[s0, s1, s2, s3, s4, s5, .val (.int z0), s7, s8, s9, s10, .val (.int di), s12, s13, s14, s15, .val (.int bb), s17, s18, s19] [(.int bb), (.int t4), (.int t3), (.long t2), (.long t1), (.ref o1), (.ref o0)])) _
    refine XS.ifNo X0.here hx rfl (hb hby at_175) rfl ((if0 _ _).trans (feq hc175).1) ?_
    show Steps p.tables e below (T0.setTop (mkF m 178 #[s0, s1, s2, s3, s4, s5, .val (.int z0), s7, s8, s9, s10, .val (.int di), s12, s13, s14, s15, .val (.int bb), s17, s18, s19] [(.int t4), (.int t3), (.long t2), (.long t1), (.ref o1), (.ref o0)])) _
    refine XS.iload X0.here hx rfl (hb hby at_178) rfl ?_
    show Steps p.tables e below (T0.setTop (mkF m 180 #[s0, s1, s2, s3, s4, s5, .val (.int z0), s7, s8, s9, s10, .val (.int di), s12, s13, s14, s15, .val (.int bb), s17, s18, s19] [(.int z0), (.int t4), (.int t3), (.long t2), (.long t1), (.ref o1), (.ref o0)])) _
    refine XS.iload X0.here hx rfl (hb hby at_180) rfl ?_
    show Steps p.tables e below (T0.setTop (mkF m 182 #[s0, s1, s2, s3, s4, s5, .val (.int z0), s7, s8, s9, s10, .val (.int di), s12, s13, s14, s15, .val (.int bb), s17, s18, s19] [(.int di), (.int z0), (.int t4), (.int t3), (.long t2), (.long t1), (.ref o1), (.ref o0)])) _
    refine XS.ixor X0.here hx rfl (hb hby at_182) rfl ?_
    show Steps p.tables e below (T0.setTop (mkF m 183 #[s0, s1, s2, s3, s4, s5, .val (.int z0), s7, s8, s9, s10, .val (.int di), s12, s13, s14, s15, .val (.int bb), s17, s18, s19] [(.int (z0 ^^^ di)), (.int t4), (.int t3), (.long t2), (.long t1), (.ref o1), (.ref o0)])) _
    refine XS.goto X0.here hx rfl (pc0 := 183) (pc' := 188) rfl (hb hby at_183) (by decide) (by decide) ?_
    show Steps p.tables e below (T0.setTop (mkF m 188 #[s0, s1, s2, s3, s4, s5, .val (.int z0), s7, s8, s9, s10, .val (.int di), s12, s13, s14, s15, .val (.int bb), s17, s18, s19] [(.int (z0 ^^^ di)), (.int t4), (.int t3), (.long t2), (.long t1), (.ref o1), (.ref o0)])) _
    exact kt
theorem ef_0 (m : MethodId) (q0 : Int64) (q1 : Int64) (q2 : Int32) (q3 : Int32) (q4 : Int32) (q5 : Int32) : entryFrame m #[(.long q0), (.long q1), (.int q2), (.int q3), (.int q4), (.int q5)] maxLocals = mkF m 0 #[.val (.long q0), .second, .val (.long q1), .second, .val (.int q2), .val (.int q3), .val (.int q4), .val (.int q5), .unset, .unset, .unset, .unset, .unset, .unset, .unset, .unset, .unset, .unset, .unset, .unset] [] := by first | (simp [entryFrame, mkF, argsToLocals, Value.category, maxLocals]; done) | rfl
def Q0 (h0 : Heap) (n0 : Nat) (v : Option Value) (h : Heap) (L : List Loc) : Prop := v = some (.int 1) ∧ Fr n0 L
set_option maxRecDepth 65536 in
set_option maxHeartbeats 40000000 in
theorem rm0 (l : Launch) (Z : State) (a0 : Array Value) (hw : ∀ d ∈ tables_1, d.before a0 Z = true) (ws : List Jvm.Cond) (q0 q1 : Int64) (q2 q3 q4 q5 : Int32) (h0 : Heap) (n0 : Nat) (Z0 : n0 ≤ h0.size) :
    MetFree l x (head1 (Jvm.Cond.code x code maxLocals ret :: ws) room_1) (fun a U => a = #[(.long q0), (.long q1), (.int q2), (.int q3), (.int q4), (.int q5)] ∧ Z.Warmed39 U.vm ∧ U.heap = h0) (fun _ _ _ _ _ => True) (fun _ U o U' => ∃ v L, o = .returned v ∧ Q0 h0 n0 v U'.heap L ∧ FrameEnd U o U' L 2 10) := by
  refine MetFree.of_bodySF (plainFor_of_name pn_0) hisR ?_
  intro p e s m args below meth c s₁ Bd hml0 hP hK
  obtain ⟨rfl, hZ, hh⟩ := hP
  have hx := Bd.exec
  have hby := Bd.bytes
  have hml : c.maxLocals = 20 := hml0
  have hown : s.vm.findClass "com/example/tuplewise/tuplewise/store/PartSameAsPinLaw" = some m.cls := findClass_of_methodNamed Bd.named
  have hnm := (name_of_methodNamed Bd.named Bd.method).1
  have X0 : Stand p l e room_1 s m #[(.long q0), (.long q1), (.int q2), (.int q3), (.int q4), (.int q5)] below meth c s₁ [] 0 0 := Stand.of_body Bd
  have e0 : s₁.heap = h0 := by rw [← hh, Bd.state]; rfl
  have N0 := Fr.nil n0
  have pre0 : ∀ t, Steps p.tables e below (s₁.setTop (mkF m 0 #[.val (.long q0), .second, .val (.long q1), .second, .val (.int q2), .val (.int q3), .val (.int q4), .val (.int q5), .unset, .unset, .unset, .unset, .unset, .unset, .unset, .unset, .unset, .unset, .unset, .unset] [])) t → Steps p.tables e below (s₁.setTop (entryFrame m #[(.long q0), (.long q1), (.int q2), (.int q3), (.int q4), (.int q5)] maxLocals)) t := fun t k => castTop (ef_0 m q0 q1 q2 q3 q4 q5) k
  obtain ⟨sh, hsh⟩ : ∃ z : Int32, z = (((q5.toUInt32 >>> ((5 : Int32) &&& 31).toUInt32).toInt32) &&& (63 : Int32)) := ⟨_, rfl⟩
  obtain ⟨dl, hdl⟩ : ∃ z : Int64, z = ((1 : Int64) <<< (sh &&& 0x3f).toInt64) := ⟨_, rfl⟩
  obtain ⟨di, hdi⟩ : ∃ z : Int32, z = ((1 : Int32) <<< ((sh &&& (31 : Int32)) &&& 31)) := ⟨_, rfl⟩
  obtain ⟨v0_24, hv0_24⟩ : ∃ z : Int32, z = (if (q5 &&& (1 : Int32)) = (0 : Int32) then (0 : Int32) else (1 : Int32)) := ⟨_, rfl⟩
  obtain ⟨v0_38, hv0_38⟩ : ∃ z : Int32, z = (if (q5 &&& (2 : Int32)) = (0 : Int32) then (0 : Int32) else (1 : Int32)) := ⟨_, rfl⟩
  obtain ⟨v0_52, hv0_52⟩ : ∃ z : Int32, z = (if (q5 &&& (4 : Int32)) = (0 : Int32) then (0 : Int32) else (1 : Int32)) := ⟨_, rfl⟩
  obtain ⟨v0_66, hv0_66⟩ : ∃ z : Int32, z = (if (q5 &&& (8 : Int32)) = (0 : Int32) then (0 : Int32) else (1 : Int32)) := ⟨_, rfl⟩
  obtain ⟨v0_81, hv0_81⟩ : ∃ z : Int32, z = (if (q5 &&& (16 : Int32)) = (0 : Int32) then (0 : Int32) else (1 : Int32)) := ⟨_, rfl⟩
  obtain ⟨T1, h1, X1, e1, E1, A1, D1, -, st1⟩ := newO X0 hx hZ hown (hw _ (List.mem_of_getElem? (i := 0) rfl)) (hw _ (List.mem_of_getElem? (i := 1) rfl)) (hw _ (List.mem_of_getElem? (i := 2) rfl)) e0 (g := (mkF m 96 #[.val (.long q0), .second, .val (.long q1), .second, .val (.int q2), .val (.int q3), .val (.int q4), .val (.int q5), .val (.int sh), .val (.long dl), .second, .val (.int di), .val (.int v0_24), .val (.int v0_38), .val (.int v0_52), .val (.int v0_66), .val (.int v0_81), .unset, .unset, .unset] [])) rfl (hb hby at_96) (by decide) (by decide)
  obtain ⟨b1, g1⟩ : ∃ z, z = h0.size := ⟨_, rfl⟩
  rw [← g1] at A1 D1 st1
  have g_b1 : n0 ≤ b1 := Nat.le_trans Z0 (Nat.le_of_eq g1.symm)
  have sz_b1 : h0.size ≤ b1 := Nat.le_trans (Nat.le_refl _) (Nat.le_of_eq g1.symm)
  have E_b1 := A1
  have F_start_b1 : Fld Z h1 b1 "com/example/tuplewise/tuplewise/store/Part" "start" "J" (.long (0 : Int64)) := D1 (Or.inr (hw _ (List.mem_of_getElem? (i := 15) rfl))) (ty := .long) (by decide)
  have F_recordsLength_b1 : Fld Z h1 b1 "com/example/tuplewise/tuplewise/store/Part" "recordsLength" "J" (.long (0 : Int64)) := D1 (Or.inr (hw _ (List.mem_of_getElem? (i := 17) rfl))) (ty := .long) (by decide)
  have F_first_b1 : Fld Z h1 b1 "com/example/tuplewise/tuplewise/store/Part" "first" "I" (.int (0 : Int32)) := D1 (Or.inr (hw _ (List.mem_of_getElem? (i := 19) rfl))) (ty := .int) (by decide)
  have F_count_b1 : Fld Z h1 b1 "com/example/tuplewise/tuplewise/store/Part" "count" "I" (.int (0 : Int32)) := D1 (Or.inr (hw _ (List.mem_of_getElem? (i := 21) rfl))) (ty := .int) (by decide)
  have F_removed_b1 : Fld Z h1 b1 "com/example/tuplewise/tuplewise/store/Part" "removed" "I" (.int (0 : Int32)) := D1 (Or.inr (hw _ (List.mem_of_getElem? (i := 23) rfl))) (ty := .int) (by decide)
  obtain ⟨_, _, ⟨T2, L2, k2, n2⟩, -, X2, ⟨Lc2, hQ2, l2, y2, z2⟩, st2⟩ := X1.specialBack hx (y := (⟨"com/example/tuplewise/tuplewise/store/Part", "<init>", "(JJIII)V"⟩ : MethodName)) rfl hown (mvT hZ (hw _ (List.mem_of_getElem? (i := 3) rfl))) (mvT hZ (hw _ (List.mem_of_getElem? (i := 4) rfl))) (mvT hZ (hw _ (List.mem_of_getElem? (i := 5) rfl))) (by decide) (backOf (W := 1) (rm1 l Z a0 hw [] b1 q0 q1 q2 q3 q4 ((.long (0 : Int64))) ((.long (0 : Int64))) ((.int (0 : Int32))) ((.int (0 : Int32))) ((.int (0 : Int32))) h1 n0 (Nat.le_trans Z0 E1.1) E_b1 g_b1 F_start_b1 F_recordsLength_b1 F_first_b1 F_count_b1 F_removed_b1) hZ (hw _ (List.mem_of_getElem? (i := 5) rfl)) (hw _ (List.mem_of_getElem? (i := 2) rfl)) (by decide) (by decide)) (g := (mkF m 108 #[.val (.long q0), .second, .val (.long q1), .second, .val (.int q2), .val (.int q3), .val (.int q4), .val (.int q5), .val (.int sh), .val (.long dl), .second, .val (.int di), .val (.int v0_24), .val (.int v0_38), .val (.int v0_52), .val (.int v0_66), .val (.int v0_81), .unset, .unset, .unset] [(.int q4), (.int q3), (.int q2), (.long q1), (.long q0), (.ref b1), (.ref b1)])) rfl (by rw [hml]; rfl) (Steps.refl _) (a := b1) (argsL := [(.long q0), (.long q1), (.int q2), (.int q3), (.int q4)]) (rest := [(.ref b1)]) (lenOf pd_1 rfl) rfl (by show 2 * 0 + _ ≤ _; exact Nat.le_of_eq rfl) (hb hby at_108) (fun _ _ => ⟨rfl, e1, (by decide : 1 + 0 ≤ _), (by decide : 5 + 0 ≤ _)⟩)
  dsimp only [Pt.U, Pt.locs, Pt.cells, Pt.slots] at X2 l2 y2 z2 st2 hQ2
  subst l2 y2 z2
  obtain ⟨rfl, N2q, K2, E2, F2_1, F2_2, F2_3, F2_4, F2_5⟩ := hQ2
  have N2 := Fr.app N0 N2q
  obtain ⟨T3, h3, X3, e3, E3, A3, D3, -, st3⟩ := newO X2 hx hZ hown (hw _ (List.mem_of_getElem? (i := 0) rfl)) (hw _ (List.mem_of_getElem? (i := 1) rfl)) (hw _ (List.mem_of_getElem? (i := 2) rfl)) rfl (g := (mkF m 113 #[.val (.long q0), .second, .val (.long q1), .second, .val (.int q2), .val (.int q3), .val (.int q4), .val (.int q5), .val (.int sh), .val (.long dl), .second, .val (.int di), .val (.int v0_24), .val (.int v0_38), .val (.int v0_52), .val (.int v0_66), .val (.int v0_81), .val (.ref b1), .unset, .unset] [])) rfl (hb hby at_113) (by decide) (by decide)
  obtain ⟨b3, g3⟩ : ∃ z, z = T2.heap.size := ⟨_, rfl⟩
  rw [← g3] at A3 D3 st3
  have lt3_b1 : b1 < T2.heap.size := Nat.lt_of_lt_of_le E_b1.lt (Nat.le_trans (Nat.le_refl _) K2.1)
  have ne3_b1 : b1 ≠ b3 := Nat.ne_of_lt (Nat.lt_of_lt_of_le lt3_b1 (Nat.le_of_eq g3.symm))
  have g_b3 : n0 ≤ b3 := Nat.le_trans (Nat.le_trans (Nat.le_trans Z0 E1.1) K2.1) (Nat.le_of_eq g3.symm)
  have sz_b3 : h0.size ≤ b3 := Nat.le_trans (Nat.le_trans (Nat.le_trans (Nat.le_refl _) E1.1) K2.1) (Nat.le_of_eq g3.symm)
  have E_b3 := A3
  have F_start_b3 : Fld Z h3 b3 "com/example/tuplewise/tuplewise/store/Part" "start" "J" (.long (0 : Int64)) := D3 (Or.inr (hw _ (List.mem_of_getElem? (i := 15) rfl))) (ty := .long) (by decide)
  have F_recordsLength_b3 : Fld Z h3 b3 "com/example/tuplewise/tuplewise/store/Part" "recordsLength" "J" (.long (0 : Int64)) := D3 (Or.inr (hw _ (List.mem_of_getElem? (i := 17) rfl))) (ty := .long) (by decide)
  have F_first_b3 : Fld Z h3 b3 "com/example/tuplewise/tuplewise/store/Part" "first" "I" (.int (0 : Int32)) := D3 (Or.inr (hw _ (List.mem_of_getElem? (i := 19) rfl))) (ty := .int) (by decide)
  have F_count_b3 : Fld Z h3 b3 "com/example/tuplewise/tuplewise/store/Part" "count" "I" (.int (0 : Int32)) := D3 (Or.inr (hw _ (List.mem_of_getElem? (i := 21) rfl))) (ty := .int) (by decide)
  have F_removed_b3 : Fld Z h3 b3 "com/example/tuplewise/tuplewise/store/Part" "removed" "I" (.int (0 : Int32)) := D3 (Or.inr (hw _ (List.mem_of_getElem? (i := 23) rfl))) (ty := .int) (by decide)
  obtain ⟨v0_117, hv0_117⟩ : ∃ z : Int64, z = (if v0_24 = (0 : Int32) then q0 else (q0 ^^^ dl)) := ⟨_, rfl⟩
  obtain ⟨v0_130, hv0_130⟩ : ∃ z : Int64, z = (if v0_38 = (0 : Int32) then q1 else (q1 ^^^ dl)) := ⟨_, rfl⟩
  obtain ⟨v0_143, hv0_143⟩ : ∃ z : Int32, z = (if v0_52 = (0 : Int32) then q2 else (q2 ^^^ di)) := ⟨_, rfl⟩
  obtain ⟨v0_158, hv0_158⟩ : ∃ z : Int32, z = (if v0_66 = (0 : Int32) then q3 else (q3 ^^^ di)) := ⟨_, rfl⟩
  obtain ⟨v0_173, hv0_173⟩ : ∃ z : Int32, z = (if v0_81 = (0 : Int32) then q4 else (q4 ^^^ di)) := ⟨_, rfl⟩
  have zz5 : n0 ≤ h3.size := (Nat.le_trans (Nat.le_trans (Nat.le_trans Z0 E1.1) K2.1) E3.1)
  obtain ⟨_, _, ⟨T4, L4, k4, n4⟩, -, X4, ⟨Lc4, hQ4, l4, y4, z4⟩, st4⟩ := X3.specialBack hx (y := (⟨"com/example/tuplewise/tuplewise/store/Part", "<init>", "(JJIII)V"⟩ : MethodName)) rfl hown (mvT hZ (hw _ (List.mem_of_getElem? (i := 3) rfl))) (mvT hZ (hw _ (List.mem_of_getElem? (i := 4) rfl))) (mvT hZ (hw _ (List.mem_of_getElem? (i := 5) rfl))) (by decide) (backOf (W := 1) (rm1 l Z a0 hw [] b3 v0_117 v0_130 v0_143 v0_158 v0_173 ((.long (0 : Int64))) ((.long (0 : Int64))) ((.int (0 : Int32))) ((.int (0 : Int32))) ((.int (0 : Int32))) h3 n0 zz5 E_b3 g_b3 F_start_b3 F_recordsLength_b3 F_first_b3 F_count_b3 F_removed_b3) hZ (hw _ (List.mem_of_getElem? (i := 5) rfl)) (hw _ (List.mem_of_getElem? (i := 2) rfl)) (by decide) (by decide)) (g := (mkF m 188 #[.val (.long q0), .second, .val (.long q1), .second, .val (.int q2), .val (.int q3), .val (.int q4), .val (.int q5), .val (.int sh), .val (.long dl), .second, .val (.int di), .val (.int v0_24), .val (.int v0_38), .val (.int v0_52), .val (.int v0_66), .val (.int v0_81), .val (.ref b1), .unset, .unset] [(.int v0_173), (.int v0_158), (.int v0_143), (.long v0_130), (.long v0_117), (.ref b3), (.ref b3)])) rfl (by rw [hml]; rfl) (Steps.refl _) (a := b3) (argsL := [(.long v0_117), (.long v0_130), (.int v0_143), (.int v0_158), (.int v0_173)]) (rest := [(.ref b3)]) (lenOf pd_1 rfl) rfl (by show 2 * 0 + _ ≤ _; exact Nat.le_of_eq rfl) (hb hby at_188) (fun _ _ => ⟨rfl, e3, (by decide : 2 + 0 ≤ _), (by decide : 10 + 0 ≤ _)⟩)
  dsimp only [Pt.U, Pt.locs, Pt.cells, Pt.slots] at X4 l4 y4 z4 st4 hQ4
  subst l4 y4 z4
  obtain ⟨rfl, N4q, K4, E4, F4_1, F4_2, F4_3, F4_4, F4_5⟩ := hQ4
  have N4 := Fr.app N2 N4q
  obtain ⟨v0_193, hv0_193⟩ : ∃ z : Int32, z = (if (q5 &&& (31 : Int32)) = (0 : Int32) then (1 : Int32) else (0 : Int32)) := ⟨_, rfl⟩
  obtain ⟨cq6, kq6, q6a, q6b, q6c⟩ := isOf hZ rfl ((E2.ext E3).keep K4)
  obtain ⟨_, _, ⟨T6, L6, k6, n6⟩, -, X6, ⟨Lc6, hQ6, l6, y6, z6⟩, st6⟩ := X4.virtualBack hx (y := (⟨"com/example/tuplewise/tuplewise/store/Part", "sameAs", "(Lcom/example/tuplewise/tuplewise/store/Part;)Z"⟩ : MethodName)) (z := (⟨"com/example/tuplewise/tuplewise/store/Part", "sameAs", "(Lcom/example/tuplewise/tuplewise/store/Part;)Z"⟩ : MethodName)) hown (mvT hZ (hw _ (List.mem_of_getElem? (i := 24) rfl))) (mvT hZ (hw _ (List.mem_of_getElem? (i := 25) rfl))) (notFace_of_selects (args := #[]) (mvT hZ (hw _ (List.mem_of_getElem? (i := 27) rfl)))) (mvT hZ (hw _ (List.mem_of_getElem? (i := 27) rfl))) (mvT hZ (hw _ (List.mem_of_getElem? (i := 26) rfl))) (by decide) (backOf (W := 0) (rm4 l Z a0 hw [] b1 b3 q0 q1 q2 q3 q4 v0_117 v0_130 v0_143 v0_158 v0_173 T4.heap n0 (Nat.le_trans zz5 K4.1) ((F2_1.ext E3).keep K4 (ninS ne3_b1 nin0)) ((F2_2.ext E3).keep K4 (ninS ne3_b1 nin0)) ((F2_3.ext E3).keep K4 (ninS ne3_b1 nin0)) ((F2_4.ext E3).keep K4 (ninS ne3_b1 nin0)) ((F2_5.ext E3).keep K4 (ninS ne3_b1 nin0)) F4_1 F4_2 F4_3 F4_4 F4_5) hZ (hw _ (List.mem_of_getElem? (i := 28) rfl)) (hw _ (List.mem_of_getElem? (i := 2) rfl)) (by decide) (by decide)) q6a q6c (g := (mkF m 212 #[.val (.long q0), .second, .val (.long q1), .second, .val (.int q2), .val (.int q3), .val (.int q4), .val (.int q5), .val (.int sh), .val (.long dl), .second, .val (.int di), .val (.int v0_24), .val (.int v0_38), .val (.int v0_52), .val (.int v0_66), .val (.int v0_81), .val (.ref b1), .val (.ref b3), .val (.int v0_193)] [(.ref b3), (.ref b1)])) rfl (by rw [hml]; rfl) (Steps.refl _) (argsL := [(.ref b3)]) (rest := []) (lenOf pd_2 rfl) rfl (by show 2 * 0 + _ ≤ _; exact Nat.le_of_eq rfl) (hb hby at_212) (fun _ _ => ⟨rfl, rfl, (by decide : 2 + 0 ≤ _), (by decide : 10 + 0 ≤ _)⟩)
  dsimp only [Pt.U, Pt.locs, Pt.cells, Pt.slots] at X6 l6 y6 z6 st6 hQ6
  subst l6 y6 z6
  obtain ⟨rfl, N6q, e6⟩ := hQ6
  have N6 := Fr.app N4 N6q
  obtain ⟨cq7, kq7, q7a, q7b, q7c⟩ := isOf hZ e6 E4
  obtain ⟨_, _, ⟨T7, L7, k7, n7⟩, -, X7, ⟨Lc7, hQ7, l7, y7, z7⟩, st7⟩ := X6.virtualBack hx (y := (⟨"com/example/tuplewise/tuplewise/store/Part", "sameAs", "(Lcom/example/tuplewise/tuplewise/store/Part;)Z"⟩ : MethodName)) (z := (⟨"com/example/tuplewise/tuplewise/store/Part", "sameAs", "(Lcom/example/tuplewise/tuplewise/store/Part;)Z"⟩ : MethodName)) hown (mvT hZ (hw _ (List.mem_of_getElem? (i := 24) rfl))) (mvT hZ (hw _ (List.mem_of_getElem? (i := 25) rfl))) (notFace_of_selects (args := #[]) (mvT hZ (hw _ (List.mem_of_getElem? (i := 27) rfl)))) (mvT hZ (hw _ (List.mem_of_getElem? (i := 27) rfl))) (mvT hZ (hw _ (List.mem_of_getElem? (i := 26) rfl))) (by decide) (backOf (W := 0) (rm4 l Z a0 hw [] b3 b1 v0_117 v0_130 v0_143 v0_158 v0_173 q0 q1 q2 q3 q4 T4.heap n0 (Nat.le_trans zz5 K4.1) F4_1 F4_2 F4_3 F4_4 F4_5 ((F2_1.ext E3).keep K4 (ninS ne3_b1 nin0)) ((F2_2.ext E3).keep K4 (ninS ne3_b1 nin0)) ((F2_3.ext E3).keep K4 (ninS ne3_b1 nin0)) ((F2_4.ext E3).keep K4 (ninS ne3_b1 nin0)) ((F2_5.ext E3).keep K4 (ninS ne3_b1 nin0))) hZ (hw _ (List.mem_of_getElem? (i := 28) rfl)) (hw _ (List.mem_of_getElem? (i := 2) rfl)) (by decide) (by decide)) q7a q7c (g := (mkF m 224 #[.val (.long q0), .second, .val (.long q1), .second, .val (.int q2), .val (.int q3), .val (.int q4), .val (.int q5), .val (.int sh), .val (.long dl), .second, .val (.int di), .val (.int v0_24), .val (.int v0_38), .val (.int v0_52), .val (.int v0_66), .val (.int v0_81), .val (.ref b1), .val (.ref b3), .val (.int v0_193)] [(.ref b1), (.ref b3)])) rfl (by rw [hml]; rfl) (Steps.refl _) (argsL := [(.ref b1)]) (rest := []) (lenOf pd_2 rfl) rfl (by show 2 * 0 + _ ≤ _; exact Nat.le_of_eq rfl) (hb hby at_224) (fun _ _ => ⟨rfl, e6, (by decide : 2 + 0 ≤ _), (by decide : 10 + 0 ≤ _)⟩)
  dsimp only [Pt.U, Pt.locs, Pt.cells, Pt.slots] at X7 l7 y7 z7 st7 hQ7
  subst l7 y7 z7
  obtain ⟨rfl, N7q, e7⟩ := hQ7
  have N7 := Fr.app N6 N7q
  obtain ⟨cq8, kq8, q8a, q8b, q8c⟩ := isOf hZ e7 ((E2.ext E3).keep K4)
  obtain ⟨_, _, ⟨T8, L8, k8, n8⟩, -, X8, ⟨Lc8, hQ8, l8, y8, z8⟩, st8⟩ := X7.virtualBack hx (y := (⟨"com/example/tuplewise/tuplewise/store/Part", "sameAs", "(Lcom/example/tuplewise/tuplewise/store/Part;)Z"⟩ : MethodName)) (z := (⟨"com/example/tuplewise/tuplewise/store/Part", "sameAs", "(Lcom/example/tuplewise/tuplewise/store/Part;)Z"⟩ : MethodName)) hown (mvT hZ (hw _ (List.mem_of_getElem? (i := 24) rfl))) (mvT hZ (hw _ (List.mem_of_getElem? (i := 25) rfl))) (notFace_of_selects (args := #[]) (mvT hZ (hw _ (List.mem_of_getElem? (i := 27) rfl)))) (mvT hZ (hw _ (List.mem_of_getElem? (i := 27) rfl))) (mvT hZ (hw _ (List.mem_of_getElem? (i := 26) rfl))) (by decide) (backOf (W := 0) (rm4 l Z a0 hw [] b1 b1 q0 q1 q2 q3 q4 q0 q1 q2 q3 q4 T4.heap n0 (Nat.le_trans zz5 K4.1) ((F2_1.ext E3).keep K4 (ninS ne3_b1 nin0)) ((F2_2.ext E3).keep K4 (ninS ne3_b1 nin0)) ((F2_3.ext E3).keep K4 (ninS ne3_b1 nin0)) ((F2_4.ext E3).keep K4 (ninS ne3_b1 nin0)) ((F2_5.ext E3).keep K4 (ninS ne3_b1 nin0)) ((F2_1.ext E3).keep K4 (ninS ne3_b1 nin0)) ((F2_2.ext E3).keep K4 (ninS ne3_b1 nin0)) ((F2_3.ext E3).keep K4 (ninS ne3_b1 nin0)) ((F2_4.ext E3).keep K4 (ninS ne3_b1 nin0)) ((F2_5.ext E3).keep K4 (ninS ne3_b1 nin0))) hZ (hw _ (List.mem_of_getElem? (i := 28) rfl)) (hw _ (List.mem_of_getElem? (i := 2) rfl)) (by decide) (by decide)) q8a q8c (g := (mkF m 236 #[.val (.long q0), .second, .val (.long q1), .second, .val (.int q2), .val (.int q3), .val (.int q4), .val (.int q5), .val (.int sh), .val (.long dl), .second, .val (.int di), .val (.int v0_24), .val (.int v0_38), .val (.int v0_52), .val (.int v0_66), .val (.int v0_81), .val (.ref b1), .val (.ref b3), .val (.int v0_193)] [(.ref b1), (.ref b1)])) rfl (by rw [hml]; rfl) (Steps.refl _) (argsL := [(.ref b1)]) (rest := []) (lenOf pd_2 rfl) rfl (by show 2 * 0 + _ ≤ _; exact Nat.le_of_eq rfl) (hb hby at_236) (fun _ _ => ⟨rfl, e7, (by decide : 2 + 0 ≤ _), (by decide : 10 + 0 ≤ _)⟩)
  dsimp only [Pt.U, Pt.locs, Pt.cells, Pt.slots] at X8 l8 y8 z8 st8 hQ8
  subst l8 y8 z8
  obtain ⟨rfl, N8q, e8⟩ := hQ8
  have N8 := Fr.app N7 N8q
  obtain ⟨fs, hr, hrun, hended, hW, hsame⟩ := X8.leave (v := some (.int (1 : Int32))) (fun h => by rw [Bd.returns] at h; cases h)
  refine ⟨_, _, pre0 _ ?_, hrun, hended, _, _, rfl, ?_, ⟨_, rfl⟩, hW, hsame.mono (by decide) (by decide)⟩
  · show Steps p.tables e below (s₁.setTop (mkF m 0 #[.val (.long q0), .second, .val (.long q1), .second, .val (.int q2), .val (.int q3), .val (.int q4), .val (.int q5), .unset, .unset, .unset, .unset, .unset, .unset, .unset, .unset, .unset, .unset, .unset, .unset] [])) _
    refine XS.iload X0.here hx rfl (hb hby at_0) rfl ?_
    show Steps p.tables e below (s₁.setTop (mkF m 2 #[.val (.long q0), .second, .val (.long q1), .second, .val (.int q2), .val (.int q3), .val (.int q4), .val (.int q5), .unset, .unset, .unset, .unset, .unset, .unset, .unset, .unset, .unset, .unset, .unset, .unset] [(.int q5)])) _
    refine XS.iconst X0.here hx rfl (hb hby at_2) ?_
    show Steps p.tables e below (s₁.setTop (mkF m 3 #[.val (.long q0), .second, .val (.long q1), .second, .val (.int q2), .val (.int q3), .val (.int q4), .val (.int q5), .unset, .unset, .unset, .unset, .unset, .unset, .unset, .unset, .unset, .unset, .unset, .unset] [(.int (5 : Int32)), (.int q5)])) _
    refine XS.iushr X0.here hx rfl (hb hby at_3) rfl ?_
    show Steps p.tables e below (s₁.setTop (mkF m 4 #[.val (.long q0), .second, .val (.long q1), .second, .val (.int q2), .val (.int q3), .val (.int q4), .val (.int q5), .unset, .unset, .unset, .unset, .unset, .unset, .unset, .unset, .unset, .unset, .unset, .unset] [(.int ((q5.toUInt32 >>> ((5 : Int32) &&& 31).toUInt32).toInt32))])) _
    refine XS.bipush X0.here hx rfl (hb hby at_4) ?_
    show Steps p.tables e below (s₁.setTop (mkF m 6 #[.val (.long q0), .second, .val (.long q1), .second, .val (.int q2), .val (.int q3), .val (.int q4), .val (.int q5), .unset, .unset, .unset, .unset, .unset, .unset, .unset, .unset, .unset, .unset, .unset, .unset] [(.int (63 : Int32)), (.int ((q5.toUInt32 >>> ((5 : Int32) &&& 31).toUInt32).toInt32))])) _
    refine XS.iand X0.here hx rfl (hb hby at_6) rfl ?_
    show Steps p.tables e below (s₁.setTop (mkF m 7 #[.val (.long q0), .second, .val (.long q1), .second, .val (.int q2), .val (.int q3), .val (.int q4), .val (.int q5), .unset, .unset, .unset, .unset, .unset, .unset, .unset, .unset, .unset, .unset, .unset, .unset] [(.int (((q5.toUInt32 >>> ((5 : Int32) &&& 31).toUInt32).toInt32) &&& (63 : Int32)))])) _
    refine XS.istore X0.here hx rfl (hb hby at_7) rfl (l' := #[.val (.long q0), .second, .val (.long q1), .second, .val (.int q2), .val (.int q3), .val (.int q4), .val (.int q5), .val (.int (((q5.toUInt32 >>> ((5 : Int32) &&& 31).toUInt32).toInt32) &&& (63 : Int32))), .unset, .unset, .unset, .unset, .unset, .unset, .unset, .unset, .unset, .unset, .unset]) rfl ?_
    show Steps p.tables e below (s₁.setTop (mkF m 9 #[.val (.long q0), .second, .val (.long q1), .second, .val (.int q2), .val (.int q3), .val (.int q4), .val (.int q5), .val (.int (((q5.toUInt32 >>> ((5 : Int32) &&& 31).toUInt32).toInt32) &&& (63 : Int32))), .unset, .unset, .unset, .unset, .unset, .unset, .unset, .unset, .unset, .unset, .unset] [])) _
    rw [← hsh]
    show Steps p.tables e below (s₁.setTop (mkF m 9 #[.val (.long q0), .second, .val (.long q1), .second, .val (.int q2), .val (.int q3), .val (.int q4), .val (.int q5), .val (.int sh), .unset, .unset, .unset, .unset, .unset, .unset, .unset, .unset, .unset, .unset, .unset] [])) _
    refine XS.lconst X0.here hx rfl (hb hby at_9) ?_
    show Steps p.tables e below (s₁.setTop (mkF m 10 #[.val (.long q0), .second, .val (.long q1), .second, .val (.int q2), .val (.int q3), .val (.int q4), .val (.int q5), .val (.int sh), .unset, .unset, .unset, .unset, .unset, .unset, .unset, .unset, .unset, .unset, .unset] [(.long (1 : Int64))])) _
    refine XS.iload X0.here hx rfl (hb hby at_10) rfl ?_
    show Steps p.tables e below (s₁.setTop (mkF m 12 #[.val (.long q0), .second, .val (.long q1), .second, .val (.int q2), .val (.int q3), .val (.int q4), .val (.int q5), .val (.int sh), .unset, .unset, .unset, .unset, .unset, .unset, .unset, .unset, .unset, .unset, .unset] [(.int sh), (.long (1 : Int64))])) _
    refine XS.lshl X0.here hx rfl (hb hby at_12) rfl ?_
    show Steps p.tables e below (s₁.setTop (mkF m 13 #[.val (.long q0), .second, .val (.long q1), .second, .val (.int q2), .val (.int q3), .val (.int q4), .val (.int q5), .val (.int sh), .unset, .unset, .unset, .unset, .unset, .unset, .unset, .unset, .unset, .unset, .unset] [(.long ((1 : Int64) <<< (sh &&& 0x3f).toInt64))])) _
    refine XS.lstore X0.here hx rfl (hb hby at_13) rfl (l' := #[.val (.long q0), .second, .val (.long q1), .second, .val (.int q2), .val (.int q3), .val (.int q4), .val (.int q5), .val (.int sh), .val (.long ((1 : Int64) <<< (sh &&& 0x3f).toInt64)), .second, .unset, .unset, .unset, .unset, .unset, .unset, .unset, .unset, .unset]) rfl ?_
    show Steps p.tables e below (s₁.setTop (mkF m 15 #[.val (.long q0), .second, .val (.long q1), .second, .val (.int q2), .val (.int q3), .val (.int q4), .val (.int q5), .val (.int sh), .val (.long ((1 : Int64) <<< (sh &&& 0x3f).toInt64)), .second, .unset, .unset, .unset, .unset, .unset, .unset, .unset, .unset, .unset] [])) _
    rw [← hdl]
    show Steps p.tables e below (s₁.setTop (mkF m 15 #[.val (.long q0), .second, .val (.long q1), .second, .val (.int q2), .val (.int q3), .val (.int q4), .val (.int q5), .val (.int sh), .val (.long dl), .second, .unset, .unset, .unset, .unset, .unset, .unset, .unset, .unset, .unset] [])) _
    refine XS.iconst X0.here hx rfl (hb hby at_15) ?_
    show Steps p.tables e below (s₁.setTop (mkF m 16 #[.val (.long q0), .second, .val (.long q1), .second, .val (.int q2), .val (.int q3), .val (.int q4), .val (.int q5), .val (.int sh), .val (.long dl), .second, .unset, .unset, .unset, .unset, .unset, .unset, .unset, .unset, .unset] [(.int (1 : Int32))])) _
    refine XS.iload X0.here hx rfl (hb hby at_16) rfl ?_
    show Steps p.tables e below (s₁.setTop (mkF m 18 #[.val (.long q0), .second, .val (.long q1), .second, .val (.int q2), .val (.int q3), .val (.int q4), .val (.int q5), .val (.int sh), .val (.long dl), .second, .unset, .unset, .unset, .unset, .unset, .unset, .unset, .unset, .unset] [(.int sh), (.int (1 : Int32))])) _
    refine XS.bipush X0.here hx rfl (hb hby at_18) ?_
    show Steps p.tables e below (s₁.setTop (mkF m 20 #[.val (.long q0), .second, .val (.long q1), .second, .val (.int q2), .val (.int q3), .val (.int q4), .val (.int q5), .val (.int sh), .val (.long dl), .second, .unset, .unset, .unset, .unset, .unset, .unset, .unset, .unset, .unset] [(.int (31 : Int32)), (.int sh), (.int (1 : Int32))])) _
    refine XS.iand X0.here hx rfl (hb hby at_20) rfl ?_
    show Steps p.tables e below (s₁.setTop (mkF m 21 #[.val (.long q0), .second, .val (.long q1), .second, .val (.int q2), .val (.int q3), .val (.int q4), .val (.int q5), .val (.int sh), .val (.long dl), .second, .unset, .unset, .unset, .unset, .unset, .unset, .unset, .unset, .unset] [(.int (sh &&& (31 : Int32))), (.int (1 : Int32))])) _
    refine XS.ishl X0.here hx rfl (hb hby at_21) rfl ?_
    show Steps p.tables e below (s₁.setTop (mkF m 22 #[.val (.long q0), .second, .val (.long q1), .second, .val (.int q2), .val (.int q3), .val (.int q4), .val (.int q5), .val (.int sh), .val (.long dl), .second, .unset, .unset, .unset, .unset, .unset, .unset, .unset, .unset, .unset] [(.int ((1 : Int32) <<< ((sh &&& (31 : Int32)) &&& 31)))])) _
    refine XS.istore X0.here hx rfl (hb hby at_22) rfl (l' := #[.val (.long q0), .second, .val (.long q1), .second, .val (.int q2), .val (.int q3), .val (.int q4), .val (.int q5), .val (.int sh), .val (.long dl), .second, .val (.int ((1 : Int32) <<< ((sh &&& (31 : Int32)) &&& 31))), .unset, .unset, .unset, .unset, .unset, .unset, .unset, .unset]) rfl ?_
    show Steps p.tables e below (s₁.setTop (mkF m 24 #[.val (.long q0), .second, .val (.long q1), .second, .val (.int q2), .val (.int q3), .val (.int q4), .val (.int q5), .val (.int sh), .val (.long dl), .second, .val (.int ((1 : Int32) <<< ((sh &&& (31 : Int32)) &&& 31))), .unset, .unset, .unset, .unset, .unset, .unset, .unset, .unset] [])) _
    rw [← hdi]
    show Steps p.tables e below (s₁.setTop (mkF m 24 #[.val (.long q0), .second, .val (.long q1), .second, .val (.int q2), .val (.int q3), .val (.int q4), .val (.int q5), .val (.int sh), .val (.long dl), .second, .val (.int di), .unset, .unset, .unset, .unset, .unset, .unset, .unset, .unset] [])) _
    refine sg_24  (.val (.long q0)) (.second) (.val (.long q1)) (.second) (.val (.int q2)) (.val (.int q3)) (.val (.int q4)) (q5) (.val (.int sh)) (.val (.long dl)) (.second) (.val (.int di)) (.unset) (.unset) (.unset) (.unset) (.unset) (.unset) (.unset) (.unset) v0_24 hv0_24 X0 hx hZ hw hby hown ?_
    show Steps p.tables e below (s₁.setTop (mkF m 36 #[.val (.long q0), .second, .val (.long q1), .second, .val (.int q2), .val (.int q3), .val (.int q4), .val (.int q5), .val (.int sh), .val (.long dl), .second, .val (.int di), .unset, .unset, .unset, .unset, .unset, .unset, .unset, .unset] [(.int v0_24)])) _
    refine XS.istore X0.here hx rfl (hb hby at_36) rfl (l' := #[.val (.long q0), .second, .val (.long q1), .second, .val (.int q2), .val (.int q3), .val (.int q4), .val (.int q5), .val (.int sh), .val (.long dl), .second, .val (.int di), .val (.int v0_24), .unset, .unset, .unset, .unset, .unset, .unset, .unset]) rfl ?_
    show Steps p.tables e below (s₁.setTop (mkF m 38 #[.val (.long q0), .second, .val (.long q1), .second, .val (.int q2), .val (.int q3), .val (.int q4), .val (.int q5), .val (.int sh), .val (.long dl), .second, .val (.int di), .val (.int v0_24), .unset, .unset, .unset, .unset, .unset, .unset, .unset] [])) _
    refine sg_38  (.val (.long q0)) (.second) (.val (.long q1)) (.second) (.val (.int q2)) (.val (.int q3)) (.val (.int q4)) (q5) (.val (.int sh)) (.val (.long dl)) (.second) (.val (.int di)) (.val (.int v0_24)) (.unset) (.unset) (.unset) (.unset) (.unset) (.unset) (.unset) v0_38 hv0_38 X0 hx hZ hw hby hown ?_
    show Steps p.tables e below (s₁.setTop (mkF m 50 #[.val (.long q0), .second, .val (.long q1), .second, .val (.int q2), .val (.int q3), .val (.int q4), .val (.int q5), .val (.int sh), .val (.long dl), .second, .val (.int di), .val (.int v0_24), .unset, .unset, .unset, .unset, .unset, .unset, .unset] [(.int v0_38)])) _
    refine XS.istore X0.here hx rfl (hb hby at_50) rfl (l' := #[.val (.long q0), .second, .val (.long q1), .second, .val (.int q2), .val (.int q3), .val (.int q4), .val (.int q5), .val (.int sh), .val (.long dl), .second, .val (.int di), .val (.int v0_24), .val (.int v0_38), .unset, .unset, .unset, .unset, .unset, .unset]) rfl ?_
    show Steps p.tables e below (s₁.setTop (mkF m 52 #[.val (.long q0), .second, .val (.long q1), .second, .val (.int q2), .val (.int q3), .val (.int q4), .val (.int q5), .val (.int sh), .val (.long dl), .second, .val (.int di), .val (.int v0_24), .val (.int v0_38), .unset, .unset, .unset, .unset, .unset, .unset] [])) _
    refine sg_52  (.val (.long q0)) (.second) (.val (.long q1)) (.second) (.val (.int q2)) (.val (.int q3)) (.val (.int q4)) (q5) (.val (.int sh)) (.val (.long dl)) (.second) (.val (.int di)) (.val (.int v0_24)) (.val (.int v0_38)) (.unset) (.unset) (.unset) (.unset) (.unset) (.unset) v0_52 hv0_52 X0 hx hZ hw hby hown ?_
    show Steps p.tables e below (s₁.setTop (mkF m 64 #[.val (.long q0), .second, .val (.long q1), .second, .val (.int q2), .val (.int q3), .val (.int q4), .val (.int q5), .val (.int sh), .val (.long dl), .second, .val (.int di), .val (.int v0_24), .val (.int v0_38), .unset, .unset, .unset, .unset, .unset, .unset] [(.int v0_52)])) _
    refine XS.istore X0.here hx rfl (hb hby at_64) rfl (l' := #[.val (.long q0), .second, .val (.long q1), .second, .val (.int q2), .val (.int q3), .val (.int q4), .val (.int q5), .val (.int sh), .val (.long dl), .second, .val (.int di), .val (.int v0_24), .val (.int v0_38), .val (.int v0_52), .unset, .unset, .unset, .unset, .unset]) rfl ?_
    show Steps p.tables e below (s₁.setTop (mkF m 66 #[.val (.long q0), .second, .val (.long q1), .second, .val (.int q2), .val (.int q3), .val (.int q4), .val (.int q5), .val (.int sh), .val (.long dl), .second, .val (.int di), .val (.int v0_24), .val (.int v0_38), .val (.int v0_52), .unset, .unset, .unset, .unset, .unset] [])) _
    refine sg_66  (.val (.long q0)) (.second) (.val (.long q1)) (.second) (.val (.int q2)) (.val (.int q3)) (.val (.int q4)) (q5) (.val (.int sh)) (.val (.long dl)) (.second) (.val (.int di)) (.val (.int v0_24)) (.val (.int v0_38)) (.val (.int v0_52)) (.unset) (.unset) (.unset) (.unset) (.unset) v0_66 hv0_66 X0 hx hZ hw hby hown ?_
    show Steps p.tables e below (s₁.setTop (mkF m 79 #[.val (.long q0), .second, .val (.long q1), .second, .val (.int q2), .val (.int q3), .val (.int q4), .val (.int q5), .val (.int sh), .val (.long dl), .second, .val (.int di), .val (.int v0_24), .val (.int v0_38), .val (.int v0_52), .unset, .unset, .unset, .unset, .unset] [(.int v0_66)])) _
    refine XS.istore X0.here hx rfl (hb hby at_79) rfl (l' := #[.val (.long q0), .second, .val (.long q1), .second, .val (.int q2), .val (.int q3), .val (.int q4), .val (.int q5), .val (.int sh), .val (.long dl), .second, .val (.int di), .val (.int v0_24), .val (.int v0_38), .val (.int v0_52), .val (.int v0_66), .unset, .unset, .unset, .unset]) rfl ?_
    show Steps p.tables e below (s₁.setTop (mkF m 81 #[.val (.long q0), .second, .val (.long q1), .second, .val (.int q2), .val (.int q3), .val (.int q4), .val (.int q5), .val (.int sh), .val (.long dl), .second, .val (.int di), .val (.int v0_24), .val (.int v0_38), .val (.int v0_52), .val (.int v0_66), .unset, .unset, .unset, .unset] [])) _
    refine sg_81  (.val (.long q0)) (.second) (.val (.long q1)) (.second) (.val (.int q2)) (.val (.int q3)) (.val (.int q4)) (q5) (.val (.int sh)) (.val (.long dl)) (.second) (.val (.int di)) (.val (.int v0_24)) (.val (.int v0_38)) (.val (.int v0_52)) (.val (.int v0_66)) (.unset) (.unset) (.unset) (.unset) v0_81 hv0_81 X0 hx hZ hw hby hown ?_
    show Steps p.tables e below (s₁.setTop (mkF m 94 #[.val (.long q0), .second, .val (.long q1), .second, .val (.int q2), .val (.int q3), .val (.int q4), .val (.int q5), .val (.int sh), .val (.long dl), .second, .val (.int di), .val (.int v0_24), .val (.int v0_38), .val (.int v0_52), .val (.int v0_66), .unset, .unset, .unset, .unset] [(.int v0_81)])) _
    refine XS.istore X0.here hx rfl (hb hby at_94) rfl (l' := #[.val (.long q0), .second, .val (.long q1), .second, .val (.int q2), .val (.int q3), .val (.int q4), .val (.int q5), .val (.int sh), .val (.long dl), .second, .val (.int di), .val (.int v0_24), .val (.int v0_38), .val (.int v0_52), .val (.int v0_66), .val (.int v0_81), .unset, .unset, .unset]) rfl ?_
    show Steps p.tables e below (s₁.setTop (mkF m 96 #[.val (.long q0), .second, .val (.long q1), .second, .val (.int q2), .val (.int q3), .val (.int q4), .val (.int q5), .val (.int sh), .val (.long dl), .second, .val (.int di), .val (.int v0_24), .val (.int v0_38), .val (.int v0_52), .val (.int v0_66), .val (.int v0_81), .unset, .unset, .unset] [])) _
    refine st1 _ ?_
    show Steps p.tables e below (T1.setTop (mkF m 99 #[.val (.long q0), .second, .val (.long q1), .second, .val (.int q2), .val (.int q3), .val (.int q4), .val (.int q5), .val (.int sh), .val (.long dl), .second, .val (.int di), .val (.int v0_24), .val (.int v0_38), .val (.int v0_52), .val (.int v0_66), .val (.int v0_81), .unset, .unset, .unset] [(.ref b1)])) _
    refine XS.dup X1.here hx rfl (hb hby at_99) rfl rfl ?_
    show Steps p.tables e below (T1.setTop (mkF m 100 #[.val (.long q0), .second, .val (.long q1), .second, .val (.int q2), .val (.int q3), .val (.int q4), .val (.int q5), .val (.int sh), .val (.long dl), .second, .val (.int di), .val (.int v0_24), .val (.int v0_38), .val (.int v0_52), .val (.int v0_66), .val (.int v0_81), .unset, .unset, .unset] [(.ref b1), (.ref b1)])) _
    refine XS.lloadN X1.here hx rfl (hb hby at_100) rfl ?_
    show Steps p.tables e below (T1.setTop (mkF m 101 #[.val (.long q0), .second, .val (.long q1), .second, .val (.int q2), .val (.int q3), .val (.int q4), .val (.int q5), .val (.int sh), .val (.long dl), .second, .val (.int di), .val (.int v0_24), .val (.int v0_38), .val (.int v0_52), .val (.int v0_66), .val (.int v0_81), .unset, .unset, .unset] [(.long q0), (.ref b1), (.ref b1)])) _
    refine XS.lloadN X1.here hx rfl (hb hby at_101) rfl ?_
    show Steps p.tables e below (T1.setTop (mkF m 102 #[.val (.long q0), .second, .val (.long q1), .second, .val (.int q2), .val (.int q3), .val (.int q4), .val (.int q5), .val (.int sh), .val (.long dl), .second, .val (.int di), .val (.int v0_24), .val (.int v0_38), .val (.int v0_52), .val (.int v0_66), .val (.int v0_81), .unset, .unset, .unset] [(.long q1), (.long q0), (.ref b1), (.ref b1)])) _
    refine XS.iload X1.here hx rfl (hb hby at_102) rfl ?_
    show Steps p.tables e below (T1.setTop (mkF m 104 #[.val (.long q0), .second, .val (.long q1), .second, .val (.int q2), .val (.int q3), .val (.int q4), .val (.int q5), .val (.int sh), .val (.long dl), .second, .val (.int di), .val (.int v0_24), .val (.int v0_38), .val (.int v0_52), .val (.int v0_66), .val (.int v0_81), .unset, .unset, .unset] [(.int q2), (.long q1), (.long q0), (.ref b1), (.ref b1)])) _
    refine XS.iload X1.here hx rfl (hb hby at_104) rfl ?_
    show Steps p.tables e below (T1.setTop (mkF m 106 #[.val (.long q0), .second, .val (.long q1), .second, .val (.int q2), .val (.int q3), .val (.int q4), .val (.int q5), .val (.int sh), .val (.long dl), .second, .val (.int di), .val (.int v0_24), .val (.int v0_38), .val (.int v0_52), .val (.int v0_66), .val (.int v0_81), .unset, .unset, .unset] [(.int q3), (.int q2), (.long q1), (.long q0), (.ref b1), (.ref b1)])) _
    refine XS.iload X1.here hx rfl (hb hby at_106) rfl ?_
    show Steps p.tables e below (T1.setTop (mkF m 108 #[.val (.long q0), .second, .val (.long q1), .second, .val (.int q2), .val (.int q3), .val (.int q4), .val (.int q5), .val (.int sh), .val (.long dl), .second, .val (.int di), .val (.int v0_24), .val (.int v0_38), .val (.int v0_52), .val (.int v0_66), .val (.int v0_81), .unset, .unset, .unset] [(.int q4), (.int q3), (.int q2), (.long q1), (.long q0), (.ref b1), (.ref b1)])) _
    refine st2.trans ?_
    show Steps p.tables e below (T2.setTop (mkF m 111 #[.val (.long q0), .second, .val (.long q1), .second, .val (.int q2), .val (.int q3), .val (.int q4), .val (.int q5), .val (.int sh), .val (.long dl), .second, .val (.int di), .val (.int v0_24), .val (.int v0_38), .val (.int v0_52), .val (.int v0_66), .val (.int v0_81), .unset, .unset, .unset] [(.ref b1)])) _
    refine XS.astore X2.here hx rfl (hb hby at_111) rfl rfl (l' := #[.val (.long q0), .second, .val (.long q1), .second, .val (.int q2), .val (.int q3), .val (.int q4), .val (.int q5), .val (.int sh), .val (.long dl), .second, .val (.int di), .val (.int v0_24), .val (.int v0_38), .val (.int v0_52), .val (.int v0_66), .val (.int v0_81), .val (.ref b1), .unset, .unset]) rfl ?_
    show Steps p.tables e below (T2.setTop (mkF m 113 #[.val (.long q0), .second, .val (.long q1), .second, .val (.int q2), .val (.int q3), .val (.int q4), .val (.int q5), .val (.int sh), .val (.long dl), .second, .val (.int di), .val (.int v0_24), .val (.int v0_38), .val (.int v0_52), .val (.int v0_66), .val (.int v0_81), .val (.ref b1), .unset, .unset] [])) _
    refine st3 _ ?_
    show Steps p.tables e below (T3.setTop (mkF m 116 #[.val (.long q0), .second, .val (.long q1), .second, .val (.int q2), .val (.int q3), .val (.int q4), .val (.int q5), .val (.int sh), .val (.long dl), .second, .val (.int di), .val (.int v0_24), .val (.int v0_38), .val (.int v0_52), .val (.int v0_66), .val (.int v0_81), .val (.ref b1), .unset, .unset] [(.ref b3)])) _
    refine XS.dup X3.here hx rfl (hb hby at_116) rfl rfl ?_
    show Steps p.tables e below (T3.setTop (mkF m 117 #[.val (.long q0), .second, .val (.long q1), .second, .val (.int q2), .val (.int q3), .val (.int q4), .val (.int q5), .val (.int sh), .val (.long dl), .second, .val (.int di), .val (.int v0_24), .val (.int v0_38), .val (.int v0_52), .val (.int v0_66), .val (.int v0_81), .val (.ref b1), .unset, .unset] [(.ref b3), (.ref b3)])) _
    refine sg_117  (q0) (.val (.long q1)) (.second) (.val (.int q2)) (.val (.int q3)) (.val (.int q4)) (.val (.int q5)) (.val (.int sh)) (dl) (.val (.int di)) (v0_24) (.val (.int v0_38)) (.val (.int v0_52)) (.val (.int v0_66)) (.val (.int v0_81)) (.val (.ref b1)) (.unset) (.unset) (b3) (b3) v0_117 hv0_117 X3 hx hZ hw hby hown ?_
    show Steps p.tables e below (T3.setTop (mkF m 130 #[.val (.long q0), .second, .val (.long q1), .second, .val (.int q2), .val (.int q3), .val (.int q4), .val (.int q5), .val (.int sh), .val (.long dl), .second, .val (.int di), .val (.int v0_24), .val (.int v0_38), .val (.int v0_52), .val (.int v0_66), .val (.int v0_81), .val (.ref b1), .unset, .unset] [(.long v0_117), (.ref b3), (.ref b3)])) _
    refine sg_130  (.val (.long q0)) (.second) (q1) (.val (.int q2)) (.val (.int q3)) (.val (.int q4)) (.val (.int q5)) (.val (.int sh)) (dl) (.val (.int di)) (.val (.int v0_24)) (v0_38) (.val (.int v0_52)) (.val (.int v0_66)) (.val (.int v0_81)) (.val (.ref b1)) (.unset) (.unset) (v0_117) (b3) (b3) v0_130 hv0_130 X3 hx hZ hw hby hown ?_
    show Steps p.tables e below (T3.setTop (mkF m 143 #[.val (.long q0), .second, .val (.long q1), .second, .val (.int q2), .val (.int q3), .val (.int q4), .val (.int q5), .val (.int sh), .val (.long dl), .second, .val (.int di), .val (.int v0_24), .val (.int v0_38), .val (.int v0_52), .val (.int v0_66), .val (.int v0_81), .val (.ref b1), .unset, .unset] [(.long v0_130), (.long v0_117), (.ref b3), (.ref b3)])) _
    refine sg_143  (.val (.long q0)) (.second) (.val (.long q1)) (.second) (q2) (.val (.int q3)) (.val (.int q4)) (.val (.int q5)) (.val (.int sh)) (.val (.long dl)) (.second) (di) (.val (.int v0_24)) (.val (.int v0_38)) (v0_52) (.val (.int v0_66)) (.val (.int v0_81)) (.val (.ref b1)) (.unset) (.unset) (v0_130) (v0_117) (b3) (b3) v0_143 hv0_143 X3 hx hZ hw hby hown ?_
    show Steps p.tables e below (T3.setTop (mkF m 158 #[.val (.long q0), .second, .val (.long q1), .second, .val (.int q2), .val (.int q3), .val (.int q4), .val (.int q5), .val (.int sh), .val (.long dl), .second, .val (.int di), .val (.int v0_24), .val (.int v0_38), .val (.int v0_52), .val (.int v0_66), .val (.int v0_81), .val (.ref b1), .unset, .unset] [(.int v0_143), (.long v0_130), (.long v0_117), (.ref b3), (.ref b3)])) _
    refine sg_158  (.val (.long q0)) (.second) (.val (.long q1)) (.second) (.val (.int q2)) (q3) (.val (.int q4)) (.val (.int q5)) (.val (.int sh)) (.val (.long dl)) (.second) (di) (.val (.int v0_24)) (.val (.int v0_38)) (.val (.int v0_52)) (v0_66) (.val (.int v0_81)) (.val (.ref b1)) (.unset) (.unset) (v0_143) (v0_130) (v0_117) (b3) (b3) v0_158 hv0_158 X3 hx hZ hw hby hown ?_
    show Steps p.tables e below (T3.setTop (mkF m 173 #[.val (.long q0), .second, .val (.long q1), .second, .val (.int q2), .val (.int q3), .val (.int q4), .val (.int q5), .val (.int sh), .val (.long dl), .second, .val (.int di), .val (.int v0_24), .val (.int v0_38), .val (.int v0_52), .val (.int v0_66), .val (.int v0_81), .val (.ref b1), .unset, .unset] [(.int v0_158), (.int v0_143), (.long v0_130), (.long v0_117), (.ref b3), (.ref b3)])) _
    refine sg_173  (.val (.long q0)) (.second) (.val (.long q1)) (.second) (.val (.int q2)) (.val (.int q3)) (q4) (.val (.int q5)) (.val (.int sh)) (.val (.long dl)) (.second) (di) (.val (.int v0_24)) (.val (.int v0_38)) (.val (.int v0_52)) (.val (.int v0_66)) (v0_81) (.val (.ref b1)) (.unset) (.unset) (v0_158) (v0_143) (v0_130) (v0_117) (b3) (b3) v0_173 hv0_173 X3 hx hZ hw hby hown ?_
    show Steps p.tables e below (T3.setTop (mkF m 188 #[.val (.long q0), .second, .val (.long q1), .second, .val (.int q2), .val (.int q3), .val (.int q4), .val (.int q5), .val (.int sh), .val (.long dl), .second, .val (.int di), .val (.int v0_24), .val (.int v0_38), .val (.int v0_52), .val (.int v0_66), .val (.int v0_81), .val (.ref b1), .unset, .unset] [(.int v0_173), (.int v0_158), (.int v0_143), (.long v0_130), (.long v0_117), (.ref b3), (.ref b3)])) _
    refine st4.trans ?_
    show Steps p.tables e below (T4.setTop (mkF m 191 #[.val (.long q0), .second, .val (.long q1), .second, .val (.int q2), .val (.int q3), .val (.int q4), .val (.int q5), .val (.int sh), .val (.long dl), .second, .val (.int di), .val (.int v0_24), .val (.int v0_38), .val (.int v0_52), .val (.int v0_66), .val (.int v0_81), .val (.ref b1), .unset, .unset] [(.ref b3)])) _
    refine XS.astore X4.here hx rfl (hb hby at_191) rfl rfl (l' := #[.val (.long q0), .second, .val (.long q1), .second, .val (.int q2), .val (.int q3), .val (.int q4), .val (.int q5), .val (.int sh), .val (.long dl), .second, .val (.int di), .val (.int v0_24), .val (.int v0_38), .val (.int v0_52), .val (.int v0_66), .val (.int v0_81), .val (.ref b1), .val (.ref b3), .unset]) rfl ?_
    show Steps p.tables e below (T4.setTop (mkF m 193 #[.val (.long q0), .second, .val (.long q1), .second, .val (.int q2), .val (.int q3), .val (.int q4), .val (.int q5), .val (.int sh), .val (.long dl), .second, .val (.int di), .val (.int v0_24), .val (.int v0_38), .val (.int v0_52), .val (.int v0_66), .val (.int v0_81), .val (.ref b1), .val (.ref b3), .unset] [])) _
    refine sg_193  (.val (.long q0)) (.second) (.val (.long q1)) (.second) (.val (.int q2)) (.val (.int q3)) (.val (.int q4)) (q5) (.val (.int sh)) (.val (.long dl)) (.second) (.val (.int di)) (.val (.int v0_24)) (.val (.int v0_38)) (.val (.int v0_52)) (.val (.int v0_66)) (.val (.int v0_81)) (.val (.ref b1)) (.val (.ref b3)) (.unset) v0_193 hv0_193 X4 hx hZ hw hby hown ?_
    show Steps p.tables e below (T4.setTop (mkF m 206 #[.val (.long q0), .second, .val (.long q1), .second, .val (.int q2), .val (.int q3), .val (.int q4), .val (.int q5), .val (.int sh), .val (.long dl), .second, .val (.int di), .val (.int v0_24), .val (.int v0_38), .val (.int v0_52), .val (.int v0_66), .val (.int v0_81), .val (.ref b1), .val (.ref b3), .unset] [(.int v0_193)])) _
    refine XS.istore X4.here hx rfl (hb hby at_206) rfl (l' := #[.val (.long q0), .second, .val (.long q1), .second, .val (.int q2), .val (.int q3), .val (.int q4), .val (.int q5), .val (.int sh), .val (.long dl), .second, .val (.int di), .val (.int v0_24), .val (.int v0_38), .val (.int v0_52), .val (.int v0_66), .val (.int v0_81), .val (.ref b1), .val (.ref b3), .val (.int v0_193)]) rfl ?_
    show Steps p.tables e below (T4.setTop (mkF m 208 #[.val (.long q0), .second, .val (.long q1), .second, .val (.int q2), .val (.int q3), .val (.int q4), .val (.int q5), .val (.int sh), .val (.long dl), .second, .val (.int di), .val (.int v0_24), .val (.int v0_38), .val (.int v0_52), .val (.int v0_66), .val (.int v0_81), .val (.ref b1), .val (.ref b3), .val (.int v0_193)] [])) _
    refine XS.aload X4.here hx rfl (hb hby at_208) rfl rfl ?_
    show Steps p.tables e below (T4.setTop (mkF m 210 #[.val (.long q0), .second, .val (.long q1), .second, .val (.int q2), .val (.int q3), .val (.int q4), .val (.int q5), .val (.int sh), .val (.long dl), .second, .val (.int di), .val (.int v0_24), .val (.int v0_38), .val (.int v0_52), .val (.int v0_66), .val (.int v0_81), .val (.ref b1), .val (.ref b3), .val (.int v0_193)] [(.ref b1)])) _
    refine XS.aload X4.here hx rfl (hb hby at_210) rfl rfl ?_
    show Steps p.tables e below (T4.setTop (mkF m 212 #[.val (.long q0), .second, .val (.long q1), .second, .val (.int q2), .val (.int q3), .val (.int q4), .val (.int q5), .val (.int sh), .val (.long dl), .second, .val (.int di), .val (.int v0_24), .val (.int v0_38), .val (.int v0_52), .val (.int v0_66), .val (.int v0_81), .val (.ref b1), .val (.ref b3), .val (.int v0_193)] [(.ref b3), (.ref b1)])) _
    refine st6.trans ?_
    show Steps p.tables e below (T6.setTop (mkF m 215 #[.val (.long q0), .second, .val (.long q1), .second, .val (.int q2), .val (.int q3), .val (.int q4), .val (.int q5), .val (.int sh), .val (.long dl), .second, .val (.int di), .val (.int v0_24), .val (.int v0_38), .val (.int v0_52), .val (.int v0_66), .val (.int v0_81), .val (.ref b1), .val (.ref b3), .val (.int v0_193)] [(.int (own_same q0 q1 q2 q3 q4 v0_117 v0_130 v0_143 v0_158 v0_173))])) _
    refine XS.iload X6.here hx rfl (hb hby at_215) rfl ?_
    show Steps p.tables e below (T6.setTop (mkF m 217 #[.val (.long q0), .second, .val (.long q1), .second, .val (.int q2), .val (.int q3), .val (.int q4), .val (.int q5), .val (.int sh), .val (.long dl), .second, .val (.int di), .val (.int v0_24), .val (.int v0_38), .val (.int v0_52), .val (.int v0_66), .val (.int v0_81), .val (.ref b1), .val (.ref b3), .val (.int v0_193)] [(.int v0_193), (.int (own_same q0 q1 q2 q3 q4 v0_117 v0_130 v0_143 v0_158 v0_173))])) _
    refine XS.icmpNo X6.here hx rfl (hb hby at_217) rfl (teq (own_law hv0_24 hv0_38 hv0_52 hv0_66 hv0_81 (hdl ▸ (own_shift hsh).1) (hdi ▸ (own_shift hsh).2) hv0_117 hv0_130 hv0_143 hv0_158 hv0_173 hv0_193).1).2 ?_
    show Steps p.tables e below (T6.setTop (mkF m 220 #[.val (.long q0), .second, .val (.long q1), .second, .val (.int q2), .val (.int q3), .val (.int q4), .val (.int q5), .val (.int sh), .val (.long dl), .second, .val (.int di), .val (.int v0_24), .val (.int v0_38), .val (.int v0_52), .val (.int v0_66), .val (.int v0_81), .val (.ref b1), .val (.ref b3), .val (.int v0_193)] [])) _
    refine XS.aload X6.here hx rfl (hb hby at_220) rfl rfl ?_
    show Steps p.tables e below (T6.setTop (mkF m 222 #[.val (.long q0), .second, .val (.long q1), .second, .val (.int q2), .val (.int q3), .val (.int q4), .val (.int q5), .val (.int sh), .val (.long dl), .second, .val (.int di), .val (.int v0_24), .val (.int v0_38), .val (.int v0_52), .val (.int v0_66), .val (.int v0_81), .val (.ref b1), .val (.ref b3), .val (.int v0_193)] [(.ref b3)])) _
    refine XS.aload X6.here hx rfl (hb hby at_222) rfl rfl ?_
    show Steps p.tables e below (T6.setTop (mkF m 224 #[.val (.long q0), .second, .val (.long q1), .second, .val (.int q2), .val (.int q3), .val (.int q4), .val (.int q5), .val (.int sh), .val (.long dl), .second, .val (.int di), .val (.int v0_24), .val (.int v0_38), .val (.int v0_52), .val (.int v0_66), .val (.int v0_81), .val (.ref b1), .val (.ref b3), .val (.int v0_193)] [(.ref b1), (.ref b3)])) _
    refine st7.trans ?_
    show Steps p.tables e below (T7.setTop (mkF m 227 #[.val (.long q0), .second, .val (.long q1), .second, .val (.int q2), .val (.int q3), .val (.int q4), .val (.int q5), .val (.int sh), .val (.long dl), .second, .val (.int di), .val (.int v0_24), .val (.int v0_38), .val (.int v0_52), .val (.int v0_66), .val (.int v0_81), .val (.ref b1), .val (.ref b3), .val (.int v0_193)] [(.int (own_same v0_117 v0_130 v0_143 v0_158 v0_173 q0 q1 q2 q3 q4))])) _
    refine XS.iload X7.here hx rfl (hb hby at_227) rfl ?_
    show Steps p.tables e below (T7.setTop (mkF m 229 #[.val (.long q0), .second, .val (.long q1), .second, .val (.int q2), .val (.int q3), .val (.int q4), .val (.int q5), .val (.int sh), .val (.long dl), .second, .val (.int di), .val (.int v0_24), .val (.int v0_38), .val (.int v0_52), .val (.int v0_66), .val (.int v0_81), .val (.ref b1), .val (.ref b3), .val (.int v0_193)] [(.int v0_193), (.int (own_same v0_117 v0_130 v0_143 v0_158 v0_173 q0 q1 q2 q3 q4))])) _
    refine XS.icmpNo X7.here hx rfl (hb hby at_229) rfl (teq (own_law hv0_24 hv0_38 hv0_52 hv0_66 hv0_81 (hdl ▸ (own_shift hsh).1) (hdi ▸ (own_shift hsh).2) hv0_117 hv0_130 hv0_143 hv0_158 hv0_173 hv0_193).2).2 ?_
    show Steps p.tables e below (T7.setTop (mkF m 232 #[.val (.long q0), .second, .val (.long q1), .second, .val (.int q2), .val (.int q3), .val (.int q4), .val (.int q5), .val (.int sh), .val (.long dl), .second, .val (.int di), .val (.int v0_24), .val (.int v0_38), .val (.int v0_52), .val (.int v0_66), .val (.int v0_81), .val (.ref b1), .val (.ref b3), .val (.int v0_193)] [])) _
    refine XS.aload X7.here hx rfl (hb hby at_232) rfl rfl ?_
    show Steps p.tables e below (T7.setTop (mkF m 234 #[.val (.long q0), .second, .val (.long q1), .second, .val (.int q2), .val (.int q3), .val (.int q4), .val (.int q5), .val (.int sh), .val (.long dl), .second, .val (.int di), .val (.int v0_24), .val (.int v0_38), .val (.int v0_52), .val (.int v0_66), .val (.int v0_81), .val (.ref b1), .val (.ref b3), .val (.int v0_193)] [(.ref b1)])) _
    refine XS.aload X7.here hx rfl (hb hby at_234) rfl rfl ?_
    show Steps p.tables e below (T7.setTop (mkF m 236 #[.val (.long q0), .second, .val (.long q1), .second, .val (.int q2), .val (.int q3), .val (.int q4), .val (.int q5), .val (.int sh), .val (.long dl), .second, .val (.int di), .val (.int v0_24), .val (.int v0_38), .val (.int v0_52), .val (.int v0_66), .val (.int v0_81), .val (.ref b1), .val (.ref b3), .val (.int v0_193)] [(.ref b1), (.ref b1)])) _
    refine st8.trans ?_
    show Steps p.tables e below (T8.setTop (mkF m 239 #[.val (.long q0), .second, .val (.long q1), .second, .val (.int q2), .val (.int q3), .val (.int q4), .val (.int q5), .val (.int sh), .val (.long dl), .second, .val (.int di), .val (.int v0_24), .val (.int v0_38), .val (.int v0_52), .val (.int v0_66), .val (.int v0_81), .val (.ref b1), .val (.ref b3), .val (.int v0_193)] [(.int (own_same q0 q1 q2 q3 q4 q0 q1 q2 q3 q4))])) _
    refine XS.ifNo X8.here hx rfl (hb hby at_239) rfl ((if0 _ _).trans (feq (own_refl _ _ _ _ _)).1) ?_
    show Steps p.tables e below (T8.setTop (mkF m 242 #[.val (.long q0), .second, .val (.long q1), .second, .val (.int q2), .val (.int q3), .val (.int q4), .val (.int q5), .val (.int sh), .val (.long dl), .second, .val (.int di), .val (.int v0_24), .val (.int v0_38), .val (.int v0_52), .val (.int v0_66), .val (.int v0_81), .val (.ref b1), .val (.ref b3), .val (.int v0_193)] [])) _
    refine XS.iconst X8.here hx rfl (hb hby at_242) ?_
    show Steps p.tables e below (T8.setTop (mkF m 243 #[.val (.long q0), .second, .val (.long q1), .second, .val (.int q2), .val (.int q3), .val (.int q4), .val (.int q5), .val (.int sh), .val (.long dl), .second, .val (.int di), .val (.int v0_24), .val (.int v0_38), .val (.int v0_52), .val (.int v0_66), .val (.int v0_81), .val (.ref b1), .val (.ref b3), .val (.int v0_193)] [(.int (1 : Int32))])) _
    refine XS.goto X8.here hx rfl (pc0 := 243) (pc' := 247) rfl (hb hby at_243) (by decide) (by decide) ?_
    show Steps p.tables e below (T8.setTop (mkF m 247 #[.val (.long q0), .second, .val (.long q1), .second, .val (.int q2), .val (.int q3), .val (.int q4), .val (.int q5), .val (.int sh), .val (.long dl), .second, .val (.int di), .val (.int v0_24), .val (.int v0_38), .val (.int v0_52), .val (.int v0_66), .val (.int v0_81), .val (.ref b1), .val (.ref b3), .val (.int v0_193)] [(.int (1 : Int32))])) _
    exact retN X8 hx (t := .boolean) Bd.returns (by simp) (hb hby at_247) hr
  · show Q0 h0 n0 _ T8.heap _
    rw [e8]
    exact ⟨rfl, N8⟩
set_option maxRecDepth 65536 in
set_option maxHeartbeats 40000000 in
theorem comes_1 {Post : Tables → Env → Array Value → State → Outcome → State → Prop} (hpost : ∀ tb e args s v u, (limb_1_1.after args s (.returned v) u = true ∧ limb_1_2.after args s (.returned v) u = true ∧ True) → FrameEnd s (.returned v) u (Jvm.fieldLocs frame_1_writes args s ++ Jvm.arrayLocs frame_1_arrays args s ++ Jvm.staticLocs frame_1_statics s) 16 128 → Post tb e args s (.returned v) u) :
    ArmFor flags0 classFile x code maxLocals ret World_1 tables_1 room_1 Calls_1 rest_1 Pre_1 Post := by
  intro l hfl _ _ p e ha hc hk s m args below hf hA hF happ hP
  obtain ⟨hcalls, hrest, hpre⟩ := hP
  obtain ⟨-, -, -, hnamed, -, -, -, hat⟩ := (Spec.applies_iff hf).mp happ
  obtain ⟨hg, hn⟩ := and_e (Cond.before_iff.mp (show (Jvm.Cond.and given_1 narrow_1).before args s = true from hpre))
  obtain ⟨g1, g2⟩ := and_e hg
  obtain ⟨g3, g4⟩ := and_e g2
  obtain ⟨g5, g6⟩ := and_e g4
  obtain ⟨g7, g8⟩ := and_e g6
  obtain ⟨g9, g10⟩ := and_e g8
  obtain ⟨g11, g12⟩ := and_e g10
  obtain ⟨w0, w1, w2, w3, w4, w5, rfl⟩ : ∃ w0 w1 w2 w3 w4 w5 : Value, args = #[w0, w1, w2, w3, w4, w5] := by
    have hs : args.size = 6 := by simpa [Cond.value, given_1] using g1
    obtain ⟨L⟩ := args
    match L, hs with
    | [w0, w1, w2, w3, w4, w5], _ => exact ⟨w0, w1, w2, w3, w4, w5, rfl⟩
  have hw := fun d (hd : d ∈ tables_1) => atoms_spec (ws := Jvm.Cond.code x code maxLocals ret :: tables_1) hat d (List.mem_cons_of_mem _ hd)
  obtain ⟨i0, ei0⟩ := isL_v g3
  obtain rfl : w0 = (.long i0) := Option.some.inj ei0
  obtain ⟨i1, ei1⟩ := isL_v g5
  obtain rfl : w1 = (.long i1) := Option.some.inj ei1
  obtain ⟨i2, ei2⟩ := is_v g7
  obtain rfl : w2 = (.int i2) := Option.some.inj ei2
  obtain ⟨i3, ei3⟩ := is_v g9
  obtain rfl : w3 = (.int i3) := Option.some.inj ei3
  obtain ⟨i4, ei4⟩ := is_v g11
  obtain rfl : w4 = (.int i4) := Option.some.inj ei4
  obtain ⟨i5, ei5⟩ := is_v g12
  obtain rfl : w5 = (.int i5) := Option.some.inj ei5
  obtain ⟨n, o, h1, h2, h3, _, L, rfl, ⟨rfl, N⟩, hq⟩ := rm0 l s _ hw tables_1 i0 i1 i2 i3 i4 i5 s.heap s.heap.size (Nat.le_refl _) p e ha hc hk s m _ below hf ((Spec.applies_iff_loose hf).mp happ).1 ⟨rfl, State.Warmed39.refl s, rfl⟩ trivial
  refine ⟨n, _, h1, h2, h3, hpost _ _ _ _ _ _ ⟨Cond.after_iff.mpr rfl, Cond.after_iff.mpr (eq_i res_at (Term.int_eval (1)) rfl), trivial⟩ ⟨hq.1, hq.2.1, (hq.2.2.sift fun y hy => Or.inr (N y hy)).mono (by decide) (by decide)⟩⟩
theorem main_1_1 : Claimed_1_1 := comes_1 fun _ _ _ _ _ _ h hF => ⟨h.1, hF⟩
theorem main_1_2 : Claimed_1_2 := comes_1 fun _ _ _ _ _ _ h hF => ⟨h.2.1, hF⟩

end Jvm.Pilot.@@N@@
namespace Jvm.Pilot.@@N@@
open Jvm Jvm.ClassFile Sem Op Lib Jvm.Free Jvm.Stand Jvm.Pilot.@@N@@.Jvm.D
/-! MADE BY PROGRAM (witnessworld.py) out of the Statement's table words and the real class files: 10 classes; the members and pool entries that the words name. The judged class is class 1, her method 1. -/
namespace start1
open Jvm.ClassFile
def u (s : String) : CpInfo := .utf8 (stringToUtf16 s)
/-- a pool by its gaps: so many unusable entries, then the entry; so many at the end -/
def gap : Nat → List CpInfo → List CpInfo
  | 0, r => r
  | n + 1, r => .unusable :: gap n r
def poolList (es : List (Nat × CpInfo)) (last : Nat) : List CpInfo := es.foldr (fun e r => gap e.1 (e.2 :: r)) (gap last [])
def pool (es : List (Nat × CpInfo)) (last : Nat) : Array CpInfo := ⟨poolList es last⟩
def fileOf (pool : Array CpInfo) (this : Nat) (attrs : Array Attribute := #[]) (ms : Array MethodInfo := #[]) (fl : Nat := 33) (sup : Nat := 0) (ifs : Array Nat := #[]) (fds : Array FieldInfo := #[]) : ClassFile where
  minorVersion := 0
  majorVersion := 65
  constantPool := pool
  accessFlags := fl
  thisClass := this
  superClass := sup
  interfaces := ifs
  fields := fds
  methods := ms
  attributes := attrs
def plain (name : String) (sup : Option ClassId) : Class where
  name := name
  kind := .ordinary
  loader := none
  accessFlags := 33
  super := sup
  interfaces := #[]
  cf := none
  fields := #[]
  methods := #[]
  instanceTypes := #[]
  staticTypes := #[]
  resolved := #[]
  callSites := []
  init := .initialized
  statics := none
  mirror := none

def pool0 : Array CpInfo := pool [(5, u "<init>"), (0, u "()V"), (1, .class_ 10), (1, u "java/lang/Object")] 113

def k0c0 : Code := { maxStack := 0, maxLocals := 1, code := object_method_1_code, exceptionTable := #[], attributes := #[] }
def k0m0 : Method := { name := "<init>", desc := "()V", sig := { parameters := [], returnType := none }, accessFlags := 1, code := some k0c0 }
/-- java/lang/Object -/
def k0 : Class := { plain "java/lang/Object" none with
  accessFlags := 33
  interfaces := #[]
  cf := some (fileOf pool0 8 #[] #[{ accessFlags := 1, nameIndex := 5, descriptorIndex := 6, attributes := #[] }] 33 0 #[] #[])
  fields := #[]
  methods := #[k0m0]
  instanceTypes := #[]
  staticTypes := #[]
  resolved := Array.replicate 124 none
  statics := none }

def pool1 : Array CpInfo := pool [(2, .class_ 4), (1, u "java/lang/Object"), (0, u "<init>"), (0, u "()V"), (0, .class_ 8), (0, u "com/example/tuplewise/tuplewise/store/Part"), (0, .methodref 7 10), (0, .nameAndType 5 11), (0, u "(JJIII)V"), (0, .methodref 7 13), (0, .nameAndType 14 15), (0, u "sameAs"), (0, u "(Lcom/example/tuplewise/tuplewise/store/Part;)Z"), (0, .class_ 17), (0, u "com/example/tuplewise/tuplewise/store/PartSameAsPinLaw"), (2, u "law"), (0, u "(JJIIII)Z")] 3

def k1m0 : Method := { name := "<init>", desc := "()V", sig := { parameters := [], returnType := none }, accessFlags := 1, code := none }
def k1c1 : Code := { maxStack := 10, maxLocals := 20, code := code, exceptionTable := #[], attributes := #[] }
def k1m1 : Method := { name := "law", desc := "(JJIIII)Z", sig := { parameters := [.long, .long, .int, .int, .int, .int], returnType := some .boolean }, accessFlags := 9, code := some k1c1 }
/-- com/example/tuplewise/tuplewise/store/PartSameAsPinLaw -/
def k1 : Class := { plain "com/example/tuplewise/tuplewise/store/PartSameAsPinLaw" (some 0) with
  accessFlags := 49
  interfaces := #[]
  cf := some (fileOf pool1 16 #[] #[{ accessFlags := 1, nameIndex := 5, descriptorIndex := 6, attributes := #[] }, { accessFlags := 9, nameIndex := 20, descriptorIndex := 21, attributes := #[] }] 49 2 #[] #[])
  fields := #[]
  methods := #[k1m0, k1m1]
  instanceTypes := #[]
  staticTypes := #[]
  resolved := Array.replicate 25 none
  statics := none }

def pool2 : Array CpInfo := pool [(1, .methodref 2 3), (0, .class_ 4), (0, .nameAndType 5 6), (0, u "java/lang/Object"), (0, u "<init>"), (0, u "()V"), (0, .class_ 8), (0, u "java/lang/Record")] 13

def k2c0 : Code := { maxStack := 1, maxLocals := 1, code := jdk_30_method_1_code, exceptionTable := #[], attributes := #[] }
def k2m0 : Method := { name := "<init>", desc := "()V", sig := { parameters := [], returnType := none }, accessFlags := 4, code := some k2c0 }
/-- java/lang/Record -/
def k2 : Class := { plain "java/lang/Record" (some 0) with
  accessFlags := 1057
  interfaces := #[]
  cf := some (fileOf pool2 7 #[] #[{ accessFlags := 4, nameIndex := 5, descriptorIndex := 6, attributes := #[] }] 1057 2 #[] #[])
  fields := #[]
  methods := #[k2m0]
  instanceTypes := #[]
  staticTypes := #[]
  resolved := Array.replicate 22 none
  statics := none }

def pool3 : Array CpInfo := pool [(1, .methodref 2 3), (0, .class_ 4), (0, .nameAndType 5 6), (0, u "java/lang/Record"), (0, u "<init>"), (0, u "()V"), (0, .fieldref 8 9), (0, .class_ 10), (0, .nameAndType 11 12), (0, u "com/example/tuplewise/tuplewise/store/Part"), (0, u "start"), (0, u "J"), (0, .fieldref 8 14), (0, .nameAndType 15 12), (0, u "recordsLength"), (0, .fieldref 8 17), (0, .nameAndType 18 19), (0, u "first"), (0, u "I"), (0, .fieldref 8 21), (0, .nameAndType 22 19), (0, u "count"), (0, .fieldref 8 24), (0, .nameAndType 25 19), (0, u "removed"), (66, u "STRIDE"), (2, u "(JJIII)V"), (3, u "sameAs"), (0, u "(Lcom/example/tuplewise/tuplewise/store/Part;)Z")] 39

def k3c0 : Code := { maxStack := 3, maxLocals := 8, code := prog_211_method_1_code, exceptionTable := #[], attributes := #[] }
def k3m0 : Method := { name := "<init>", desc := "(JJIII)V", sig := { parameters := [.long, .long, .int, .int, .int], returnType := none }, accessFlags := 0, code := some k3c0 }
def k3c1 : Code := { maxStack := 4, maxLocals := 2, code := prog_211_method_2_code, exceptionTable := #[], attributes := #[] }
def k3m1 : Method := { name := "sameAs", desc := "(Lcom/example/tuplewise/tuplewise/store/Part;)Z", sig := { parameters := [(.object "com/example/tuplewise/tuplewise/store/Part")], returnType := some .boolean }, accessFlags := 0, code := some k3c1 }
/-- com/example/tuplewise/tuplewise/store/Part -/
def k3 : Class := { plain "com/example/tuplewise/tuplewise/store/Part" (some 2) with
  accessFlags := 48
  interfaces := #[]
  cf := some (fileOf pool3 8 #[] #[{ accessFlags := 0, nameIndex := 5, descriptorIndex := 95, attributes := #[] }, { accessFlags := 0, nameIndex := 99, descriptorIndex := 100, attributes := #[] }] 48 2 #[] #[{ accessFlags := 18, nameIndex := 11, descriptorIndex := 12, attributes := #[] }, { accessFlags := 18, nameIndex := 15, descriptorIndex := 12, attributes := #[] }, { accessFlags := 18, nameIndex := 18, descriptorIndex := 19, attributes := #[] }, { accessFlags := 18, nameIndex := 22, descriptorIndex := 19, attributes := #[] }, { accessFlags := 18, nameIndex := 25, descriptorIndex := 19, attributes := #[] }, { accessFlags := 24, nameIndex := 92, descriptorIndex := 19, attributes := #[] }])
  fields := #[{ name := "start", type := .long, accessFlags := 18, slot := 0, constantValue := 0 }, { name := "recordsLength", type := .long, accessFlags := 18, slot := 1, constantValue := 0 }, { name := "first", type := .int, accessFlags := 18, slot := 2, constantValue := 0 }, { name := "count", type := .int, accessFlags := 18, slot := 3, constantValue := 0 }, { name := "removed", type := .int, accessFlags := 18, slot := 4, constantValue := 0 }, { name := "STRIDE", type := .int, accessFlags := 24, slot := 0, constantValue := 0 }]
  methods := #[k3m0, k3m1]
  instanceTypes := #[.long, .long, .int, .int, .int]
  staticTypes := #[.int]
  resolved := Array.replicate 140 none
  statics := none }

def pool4 : Array CpInfo := pool [(1, u "java/lang/Cloneable"), (0, .class_ 1), (0, u "java/lang/Object"), (0, .class_ 3)] 3

/-- java/lang/Cloneable -/
def k4 : Class := { plain "java/lang/Cloneable" (some 0) with
  accessFlags := 1537
  interfaces := #[]
  cf := some (fileOf pool4 2 #[] #[] 1537 4 #[] #[])
  fields := #[]
  methods := #[]
  instanceTypes := #[]
  staticTypes := #[]
  resolved := Array.replicate 8 none
  statics := none }

def pool5 : Array CpInfo := pool [(1, u "java/io/Serializable"), (0, .class_ 1), (0, u "java/lang/Object"), (0, .class_ 3)] 3

/-- java/io/Serializable -/
def k5 : Class := { plain "java/io/Serializable" (some 0) with
  accessFlags := 1537
  interfaces := #[]
  cf := some (fileOf pool5 2 #[] #[] 1537 4 #[] #[])
  fields := #[]
  methods := #[]
  instanceTypes := #[]
  staticTypes := #[]
  resolved := Array.replicate 8 none
  statics := none }

/-- the primitive byte -/
def k6 : Class := { plain "byte" none with kind := .primitive 'B', accessFlags := 0x411 }
/-- [B -/
def k7 : Class := { plain "[B" (some 0) with kind := .array 6 .byte, interfaces := #[4, 5], accessFlags := 1041 }

/-- the primitive int -/
def k8 : Class := { plain "int" none with kind := .primitive 'I', accessFlags := 0x411 }
/-- [I -/
def k9 : Class := { plain "[I" (some 0) with kind := .array 8 .int, interfaces := #[4, 5], accessFlags := 1041 }

def heap : Heap := #[]
def classes : Array Class := #[k0, k1, k2, k3, k4, k5, k6, k7, k8, k9]
def interned : List (Array UInt16 × Addr) := []
def slotsUsed : Nat := 0
def theMethod : MethodId := ⟨1, 1⟩
def args0 : Array Value := #[.long 5, .long 7, .int 1, .int 2, .int 3, .int 1]
def aboutOver (below : List Frame) : State where
  vm := { classes := classes, interned := interned.toArray }
  heap := heap
  slotsUsed := slotsUsed
  threads := #[{ frames := .invoking theMethod args0 :: below }]
def below0 : List Frame := [.native { method := ⟨0, 0⟩, args := #[] }]
def about1 : State := aboutOver below0
def p0 : Program := .bare "" "" ""
def e0 : Env := launch0.env 0 0 0
theorem w_frames : about1.frames = Frame.invoking theMethod args0 :: below0 := rfl
set_option maxRecDepth 65536 in
theorem w_args : argsFit about1.vm theMethod args0 = true := by decide +kernel
set_option maxRecDepth 65536 in
theorem w_heap : heapFits about1 = true := by decide +kernel
set_option maxRecDepth 65536 in
theorem w_runnable : about1.curStatus? = some .runnable := by decide +kernel
set_option maxRecDepth 65536 in
theorem w_alone : about1.alone = true := by decide +kernel
set_option maxRecDepth 65536 in
theorem w_named : about1.methodNamed? x = some theMethod := by decide +kernel
set_option maxRecDepth 65536 in
theorem w_hears : about1.hears theMethod below0 = true := by decide +kernel
set_option maxRecDepth 65536 in
theorem w_ripe : about1.ripe theMethod args0 below0 = true := by decide +kernel
theorem w_running : about1.status = .running := rfl
set_option maxRecDepth 65536 in
theorem w_room : about1.hasRoom e0.platform room_1 = true :=
  launch0.hasRoom_least _ room_1 (by decide +kernel) (by decide +kernel) (by decide +kernel) (by decide +kernel) (by decide +kernel) (by decide +kernel)
theorem allAtoms_all (ts : List Jvm.Cond) (a : Array Jvm.Value) (st : Jvm.State) : (allAtoms ts).before a st = ts.all (fun c => c.before a st) := by
  induction ts with
  | nil => rfl
  | cons c t ih =>
    show (Jvm.Cond.and c (allAtoms t)).before a st = _
    rw [Jvm.Cond.before_and, ih, List.all_cons]
def words1 : List Jvm.Cond := Jvm.Cond.code x code maxLocals ret :: tables_1
/-- a 'code' word, met by the world's own term for the bytes: nothing is compared byte by byte -/
theorem code_word {y : MethodName} {bytes : ByteArray} {mx : Nat} {rt : Option FieldType} {a : Array Value} {s : State} {m : MethodId} {meth : Method} {c : Code} (h1 : s.methodNamed? y = some m) (h2 : s.vm.method? m = some meth) (h3 : meth.code = some c) (h4 : c.code = bytes)
    (h5 : (c.maxLocals == mx && c.exceptionTable.isEmpty && decide (c.maxStack ≤ mostOperands) && decide (meth.sig.returnType = rt) && !meth.locks && decide (parseMethodDescriptor y.desc = some meth.sig)) = true) : (Jvm.Cond.code y bytes mx rt).before a s = true := by
  simp only [Bool.and_eq_true, beq_iff_eq, Bool.not_eq_true', decide_eq_true_eq] at h5
  obtain ⟨⟨⟨⟨⟨g1, g2⟩, g3⟩, g4⟩, g5⟩, g6⟩ := h5
  simp [Cond.before, Cond.holds, Cond.value, h1, h2, h3, h4, g1, g2, g3, g4, g5, g6]
def isCode : Jvm.Cond → Bool
  | .code _ _ _ _ => true
  | _ => false
theorem all_split {L : List Jvm.Cond} {P : Jvm.Cond → Bool} (h1 : L.all (fun c => isCode c || P c) = true) (h2 : ∀ c ∈ L.filter isCode, P c = true) : L.all P = true := by
  refine List.all_eq_true.mpr fun c hc => ?_
  have h := List.all_eq_true.mp h1 c hc
  rcases Bool.eq_false_or_eq_true (isCode c) with hi | hi
  · exact h2 c (List.mem_filter.mpr ⟨hc, hi⟩)
  · simpa [hi] using h
set_option maxRecDepth 65536 in
theorem w_c0 : (Jvm.Cond.code x code maxLocals ret).before args0 about1 = true := code_word (m := ⟨1, 1⟩) (meth := k1m1) (c := k1c1) (by decide +kernel) rfl rfl rfl (by decide +kernel)
set_option maxRecDepth 65536 in
theorem w_c1 : (Jvm.Cond.code ({ cls := "com/example/tuplewise/tuplewise/store/Part", name := "<init>", desc := "(JJIII)V" } : Jvm.MethodName) prog_211_method_1_code (8 : Nat) (Option.none : Option Jvm.ClassFile.FieldType)).before args0 about1 = true := code_word (m := ⟨3, 0⟩) (meth := k3m0) (c := k3c0) (by decide +kernel) rfl rfl rfl (by decide +kernel)
set_option maxRecDepth 65536 in
theorem w_c2 : (Jvm.Cond.code ({ cls := "java/lang/Record", name := "<init>", desc := "()V" } : Jvm.MethodName) jdk_30_method_1_code (1 : Nat) (Option.none : Option Jvm.ClassFile.FieldType)).before args0 about1 = true := code_word (m := ⟨2, 0⟩) (meth := k2m0) (c := k2c0) (by decide +kernel) rfl rfl rfl (by decide +kernel)
set_option maxRecDepth 65536 in
theorem w_c3 : (Jvm.Cond.code ({ cls := "java/lang/Object", name := "<init>", desc := "()V" } : Jvm.MethodName) object_method_1_code (1 : Nat) (Option.none : Option Jvm.ClassFile.FieldType)).before args0 about1 = true := code_word (m := ⟨0, 0⟩) (meth := k0m0) (c := k0c0) (by decide +kernel) rfl rfl rfl (by decide +kernel)
set_option maxRecDepth 65536 in
theorem w_c4 : (Jvm.Cond.code ({ cls := "com/example/tuplewise/tuplewise/store/Part", name := "sameAs", desc := "(Lcom/example/tuplewise/tuplewise/store/Part;)Z" } : Jvm.MethodName) prog_211_method_2_code (2 : Nat) (Option.some Jvm.ClassFile.FieldType.boolean)).before args0 about1 = true := code_word (m := ⟨3, 1⟩) (meth := k3m1) (c := k3c1) (by decide +kernel) rfl rfl rfl (by decide +kernel)
def codes1 : List Jvm.Cond := [Jvm.Cond.code x code maxLocals ret, Jvm.Cond.code ({ cls := "com/example/tuplewise/tuplewise/store/Part", name := "<init>", desc := "(JJIII)V" } : Jvm.MethodName) prog_211_method_1_code (8 : Nat) (Option.none : Option Jvm.ClassFile.FieldType), Jvm.Cond.code ({ cls := "java/lang/Record", name := "<init>", desc := "()V" } : Jvm.MethodName) jdk_30_method_1_code (1 : Nat) (Option.none : Option Jvm.ClassFile.FieldType), Jvm.Cond.code ({ cls := "java/lang/Object", name := "<init>", desc := "()V" } : Jvm.MethodName) object_method_1_code (1 : Nat) (Option.none : Option Jvm.ClassFile.FieldType), Jvm.Cond.code ({ cls := "com/example/tuplewise/tuplewise/store/Part", name := "sameAs", desc := "(Lcom/example/tuplewise/tuplewise/store/Part;)Z" } : Jvm.MethodName) prog_211_method_2_code (2 : Nat) (Option.some Jvm.ClassFile.FieldType.boolean)]
set_option maxRecDepth 65536 in
theorem codes_eq : words1.filter isCode = codes1 := rfl
theorem w_codes : ∀ c ∈ words1.filter isCode, c.before args0 about1 = true := by
  rw [codes_eq]
  intro c hc
  simp only [codes1, List.mem_cons, List.not_mem_nil, or_false] at hc
  rcases hc with rfl | rfl | rfl | rfl | rfl
  · exact w_c0
  · exact w_c1
  · exact w_c2
  · exact w_c3
  · exact w_c4
set_option maxRecDepth 65536 in
theorem w_t1 : (words1.take 24).all (fun c => isCode c || c.before args0 about1) = true := by decide +kernel
set_option maxRecDepth 65536 in
theorem w_t2 : (words1.drop 24).all (fun c => isCode c || c.before args0 about1) = true := by decide +kernel
theorem w_tables : (allAtoms (Jvm.Cond.code x code maxLocals ret :: tables_1)).before args0 about1 = true := by
  rw [allAtoms_all]
  show words1.all (fun c => c.before args0 about1) = true
  refine all_split ?_ w_codes
  rw [← List.take_append_drop 24 words1, List.all_append, w_t1, w_t2]
  rfl
set_option maxRecDepth 65536 in
theorem w_case : (Jvm.Cond.and given_1 narrow_1).before args0 about1 = true := by decide +kernel
theorem w_applies : (headSpec (Jvm.Cond.code x code maxLocals ret :: tables_1) room_1).applies x e0.platform about1 = true :=
  (Spec.applies_iff w_frames).mpr ⟨w_running, w_runnable, w_alone, w_named, w_hears, w_ripe, w_room, w_tables⟩
theorem atStart : AtStart classFile x code maxLocals ret World_1 tables_1 room_1 Calls_1 rest_1 Pre_1 launch0 p0 e0 about1 theMethod args0 below0 :=
  ⟨lists_1, trivial, launch0.admits_env _ _ _, launch0.least_env, fairChoices_fair.cas, fairChoices_fair.clock, w_frames, w_args, w_heap, w_applies, trivial, trivial, w_case⟩
end start1
theorem witness_1 : WitnessClaimed_1 := ⟨start1.p0, start1.e0, start1.about1, start1.theMethod, start1.args0, start1.below0, start1.atStart⟩
end Jvm.Pilot.@@N@@
