import JvmDerived
import JvmDerived.Pilot.@@N@@Statement
import JvmDerived.Pilot.@@N@@Code
set_option linter.unusedVariables false
set_option linter.unusedSimpArgs false
namespace Jvm.RoadKit
open Sem ClassFile Op Lib Jvm.Stand Jvm.Free Jvm.LawKit
section New
variable {p : Program} {l : Launch} {e : Env} {R : Room} {s : State} {m : MethodId} {args : Array Value} {below : List Frame} {meth : Method} {c : Code} {T : State} {locs : List Loc} {cells slots : Nat}
theorem retI (X : Stand p l e R s m args below meth c T locs cells slots) (hx : p.tables.exec = Jvm.exec) {pc : Nat} {Ls : Array Slot} {z : Int32} {rest : List Value} (hret : meth.sig.returnType = some .int) (hd : decode c.code pc = .ok (.ireturn, 1)) {fs : List Frame}
    (hl : ∀ (f : JFrame) (acts : List Action), f.method = m → f.locked = none → f.entered = [] → (doReturn e (T.setTop f) acts (some (.int z))).1 = T.setFrames fs) : Steps p.tables e below (T.setTop (mkF m pc Ls (.int z :: rest))) (T.setFrames fs) := by
  have hm' : T.vm.method? m = some meth := X.method'
  have hn : narrow .int (.int z) = .int z := rfl
  show Steps p.tables e below (T.setTop { method := m, pc := pc, locals := Ls, stack := _ :: rest, locked := none }) _
  jvm_step X.here [X.here.top, hx, hd, hm', hret, hn]
  first | (intro acts; rw [hl _ acts rfl rfl rfl]) | rw [hl _ _ rfl rfl rfl]
  exact Steps.refl _
end New
end Jvm.RoadKit
namespace Jvm.Pilot.@@N@@
open Jvm Jvm.ClassFile Sem Op Lib Jvm.Free Jvm.Stand Jvm.LawKit Jvm.RoadKit Bundle Jvm.Pilot.@@N@@.Jvm.D
def Av (Z : State) (h : Heap) (a : Addr) (ty : FieldType) (n : Int32) (vs : List Value) (d : Value) : Prop := ∃ k, Arv Z h a k ty n vs d
theorem Av.lt {Z : State} {h : Heap} {a : Addr} {ty : FieldType} {n : Int32} {vs : List Value} {d : Value} (F : Av Z h a ty n vs d) : a < h.size := by obtain ⟨k, F⟩ := F; exact F.lt
theorem Av.ext {Z : State} {h h' : Heap} {a : Addr} {ty : FieldType} {n : Int32} {vs : List Value} {d : Value} (F : Av Z h a ty n vs d) (E : Ext h h') : Av Z h' a ty n vs d := by obtain ⟨k, F⟩ := F; exact ⟨k, F.ext E⟩
theorem Av.other {Z : State} {h h' : Heap} {a b : Addr} {ty : FieldType} {n : Int32} {vs : List Value} {d : Value} {sl : Nat} {v : Value} (F : Av Z h b ty n vs d) (W : Wr h h' a sl v) (q : b ≠ a) : Av Z h' b ty n vs d := by obtain ⟨k, F⟩ := F; exact ⟨k, F.other W q⟩
def Al (Z : State) (h : Heap) (a : Addr) (ty : FieldType) (n : Int32) : Prop := ∃ c : Cell, Arr Z h a c ty ∧ c.slots.size = n.toNatClampNeg ∧ ¬ n < 0
theorem Al.lt {Z : State} {h : Heap} {a : Addr} {ty : FieldType} {n : Int32} (F : Al Z h a ty n) : a < h.size := by obtain ⟨c, A, -⟩ := F; exact A.lt
theorem Al.ext {Z : State} {h h' : Heap} {a : Addr} {ty : FieldType} {n : Int32} (F : Al Z h a ty n) (E : Ext h h') : Al Z h' a ty n := by obtain ⟨c, A, r⟩ := F; exact ⟨c, A.ext E, r⟩
theorem Al.other {Z : State} {h h' : Heap} {a b : Addr} {ty : FieldType} {n : Int32} {sl : Nat} {v : Value} (F : Al Z h b ty n) (W : Wr h h' a sl v) (q : b ≠ a) : Al Z h' b ty n := by obtain ⟨c, A, r⟩ := F; exact ⟨c, A.other W q, r⟩
theorem Al.same {Z : State} {h h' : Heap} {a : Addr} {ty : FieldType} {n : Int32} {sl : Nat} {v : Value} (F : Al Z h a ty n) (W : Wr h h' a sl v) : Al Z h' a ty n := by obtain ⟨c, A, r⟩ := F; exact ⟨_, A.same W, by rw [sz_set]; exact r.1, r.2⟩
theorem Al.keep {Z : State} {h h' : Heap} {a : Addr} {ty : FieldType} {n : Int32} {ws : List Addr} (F : Al Z h a ty n) (K : Keep h h' ws) (q : a ∉ ws) : Al Z h' a ty n := by obtain ⟨c, A, r⟩ := F; exact ⟨c, ⟨K.2.1 a c A.1 q, A.2⟩, r⟩
theorem Av.al {Z : State} {h : Heap} {a : Addr} {ty : FieldType} {n : Int32} {vs : List Value} {d : Value} (F : Av Z h a ty n vs d) : Al Z h a ty n := by obtain ⟨k, c, A, -, r1, r2, -⟩ := F; exact ⟨c, A, r1, r2⟩
theorem Av.keep {Z : State} {h h' : Heap} {a : Addr} {ty : FieldType} {n : Int32} {vs : List Value} {d : Value} {ws : List Addr} (F : Av Z h a ty n vs d) (K : Keep h h' ws) (q : a ∉ ws) : Av Z h' a ty n vs d := by obtain ⟨k, F⟩ := F; exact ⟨k, F.keep K q⟩
abbrev MN1 : MethodName := ⟨"java/util/Set", "of", "()Ljava/util/Set;"⟩
abbrev MN2 : MethodName := ⟨"com/example/unand/unand/model/Lun", "<init>", "(IIJLjava/util/Set;)V"⟩
abbrev MN4 : MethodName := ⟨"java/util/TreeMap", "<init>", "()V"⟩
abbrev MN5 : MethodName := ⟨"java/util/AbstractMap", "<init>", "()V"⟩
abbrev MN6 : MethodName := ⟨"java/util/Set", "copyOf", "(Ljava/util/Collection;)Ljava/util/Set;"⟩
abbrev MN7 : MethodName := ⟨"com/example/unand/unand/model/Lun", "ready", "(J)Z"⟩
abbrev MN8 : MethodName := ⟨"com/example/unand/unand/model/LunReadyPinLaw", "op", "(I)Lcom/example/unand/unand/model/Lun$Operation;"⟩
abbrev MN9 : MethodName := ⟨"com/example/unand/unand/model/Lun", "begin", "(Lcom/example/unand/unand/model/Lun$Operation;JJ)V"⟩
abbrev MN10 : MethodName := ⟨"com/example/unand/unand/model/Lun", "reset", "(JJ)V"⟩
theorem own_eqv {args : Array Value} {s : State} {t : Term} {k : Int32} (h : (Jvm.Cond.eq t (.int k)).value args s none s [] = some true) : t.eval args s none [] s = some (.int k) := by
  cases ht : t.eval args s none [] s with
  | none => simp [Jvm.Cond.value, ht] at h
  | some v => cases v <;> simp [Jvm.Cond.value, ht, Term.eval] at h ⊢; exact h
theorem d1_0 : decode jdk_96_method_17_code 0 = .ok (.getstatic 9, 3) := by decide +kernel
theorem d1_3 : decode jdk_96_method_17_code 3 = .ok (.areturn, 1) := by decide +kernel
theorem pn_java_util_Set : plainName "java/util/Set" = true := by first | (simp [plainName, overriddenIn]; done) | decide +kernel
theorem ef_rm1 (m : MethodId)  : entryFrame m #[] 0 = mkF m 0 #[] [] := by first | (simp [entryFrame, mkF, argsToLocals, Value.category]; done) | rfl
def Q_rm1 (Z : State) (es : Addr) (h0 : Heap) (n0 : Nat) (v : Option Value) (h : Heap) (L : List Loc) : Prop := v = some (.ref es) ∧ Fr n0 L ∧ h = h0
set_option maxRecDepth 65536 in
set_option maxHeartbeats 40000000 in
theorem rm1 (l : Launch) (Z : State) (a0 : Array Value) (hw : ∀ d ∈ tables_1, d.before a0 Z = true) (ws : List Jvm.Cond) (es : Addr) (h0 : Heap) (n0 : Nat) (Z0 : n0 ≤ h0.size) (pf_O : Old Z n0 h0) (pf_S_java_util_ImmutableCollections_EMPTY_SET : Sta Z Z.heap "java/util/ImmutableCollections" "EMPTY_SET" "Ljava/util/ImmutableCollections$SetN;" (.ref es)) :
    MetFree l (⟨"java/util/Set", "of", "()Ljava/util/Set;"⟩ : MethodName) (head1 (Jvm.Cond.code (⟨"java/util/Set", "of", "()Ljava/util/Set;"⟩ : MethodName) jdk_96_method_17_code 0 (some (.object "java/util/Set")) :: ws) ({ frames := 0, cells := 0, slots := 0, locals := 0 } : Room)) (fun a U => a = #[] ∧ Z.Warmed39 U.vm ∧ U.heap = h0) (fun _ _ _ _ _ => True) (fun _ U o U' => ∃ v L, o = .returned v ∧ Q_rm1 Z es h0 n0 v U'.heap L ∧ FrameEnd U o U' L ({ frames := 0, cells := 0, slots := 0, locals := 0 } : Room).cells ({ frames := 0, cells := 0, slots := 0, locals := 0 } : Room).slots) := by
  refine MetFree.of_bodySF (plainFor_of_name pn_java_util_Set) hisR ?_
  intro p e s m args below meth c s₁ Bd hml0 hP hK
  obtain ⟨rfl, hZ, hh⟩ := hP
  have hx := Bd.exec
  have hby := Bd.bytes
  have hml : c.maxLocals = 0 := hml0
  have hown : s.vm.findClass "java/util/Set" = some m.cls := findClass_of_methodNamed Bd.named
  have hnm := (name_of_methodNamed Bd.named Bd.method).1
  have X0 : Stand p l e ({ frames := 0, cells := 0, slots := 0, locals := 0 } : Room) s m #[] below meth c s₁ [] 0 0 := Stand.of_body Bd
  have e0 : s₁.heap = h0 := by rw [← hh, Bd.state]; rfl
  have N0 := Fr.nil n0
  have pre0 : ∀ t, Steps p.tables e below (s₁.setTop (mkF m 0 #[] [])) t → Steps p.tables e below (s₁.setTop (entryFrame m #[] 0)) t := fun t k => castTop (ef_rm1 m ) k
  have wo8 := hw _ (List.mem_of_getElem? (i := 8) rfl)
  obtain ⟨T1, X1, e1, st1⟩ := getS2 X0 hx hZ hown (host := "") (Or.inl wo8) Via.refl e0 (pf_S_java_util_ImmutableCollections_EMPTY_SET.ext pf_O.2) (g := (mkF m 0 #[] [])) rfl (hb hby d1_0)
  obtain ⟨fs, hr, hrun, hended, hW, hsame⟩ := X1.leave (v := some (.ref es)) (fun h => by rw [Bd.returns] at h; cases h)
  refine ⟨_, _, pre0 _ ?_, hrun, hended, _, _, rfl, ?_, ⟨_, rfl⟩, hW, hsame.mono (by decide) (by decide)⟩
  · show Steps p.tables e below (s₁.setTop (mkF m 0 #[] [])) _
    refine st1 _ ?_
    show Steps p.tables e below (T1.setTop (mkF m 3 #[] [(.ref es)])) _
    exact retOut X1 hx Bd.returns rfl (Or.inr (Or.inr (Or.inr (Or.inr ⟨rfl, rfl, rfl⟩)))) (hb hby d1_3) hr
  · show Q_rm1 Z _ h0 n0 _ T1.heap _
    rw [e1]
    exact ⟨rfl, N0, rfl⟩
theorem d5_0 : decode jdk_71_method_1_code 0 = .ok (.aload_n 0, 1) := by decide +kernel
theorem d5_1 : decode jdk_71_method_1_code 1 = .ok (.invokespecial 1, 3) := by decide +kernel
theorem d5_4 : decode jdk_71_method_1_code 4 = .ok (.return_, 1) := by decide +kernel
theorem pn_java_util_AbstractMap : plainName "java/util/AbstractMap" = true := by first | (simp [plainName, overriddenIn]; done) | decide +kernel
theorem ef_rm5 (m : MethodId) (x0 : Addr) : entryFrame m #[(.ref x0)] 1 = mkF m 0 #[rv x0] [] := by first | (simp [entryFrame, mkF, argsToLocals, Value.category]; done) | rfl
def Q_rm5 (Z : State) (a5_0 : Addr) (h0 : Heap) (n0 : Nat) (v : Option Value) (h : Heap) (L : List Loc) : Prop := v = none ∧ Fr n0 L ∧ h = h0
set_option maxRecDepth 65536 in
set_option maxHeartbeats 40000000 in
theorem rm5 (l : Launch) (Z : State) (a0 : Array Value) (hw : ∀ d ∈ tables_1, d.before a0 Z = true) (ws : List Jvm.Cond) (a5_0 : Addr) (h0 : Heap) (n0 : Nat) (Z0 : n0 ≤ h0.size) :
    MetFree l (⟨"java/util/AbstractMap", "<init>", "()V"⟩ : MethodName) (head1 (Jvm.Cond.code (⟨"java/util/AbstractMap", "<init>", "()V"⟩ : MethodName) jdk_71_method_1_code 1 none :: ws) ({ frames := 1, cells := 0, slots := 0, locals := 12 } : Room)) (fun a U => a = #[(.ref a5_0)] ∧ Z.Warmed39 U.vm ∧ U.heap = h0) (fun _ _ _ _ _ => True) (fun _ U o U' => ∃ v L, o = .returned v ∧ Q_rm5 Z a5_0 h0 n0 v U'.heap L ∧ FrameEnd U o U' L ({ frames := 1, cells := 0, slots := 0, locals := 12 } : Room).cells ({ frames := 1, cells := 0, slots := 0, locals := 12 } : Room).slots) := by
  refine MetFree.of_bodySF (plainFor_of_name pn_java_util_AbstractMap) hisR ?_
  intro p e s m args below meth c s₁ Bd hml0 hP hK
  obtain ⟨rfl, hZ, hh⟩ := hP
  have hx := Bd.exec
  have hby := Bd.bytes
  have hml : c.maxLocals = 1 := hml0
  have hown : s.vm.findClass "java/util/AbstractMap" = some m.cls := findClass_of_methodNamed Bd.named
  have hnm := (name_of_methodNamed Bd.named Bd.method).1
  have X0 : Stand p l e ({ frames := 1, cells := 0, slots := 0, locals := 12 } : Room) s m #[(.ref a5_0)] below meth c s₁ [] 0 0 := Stand.of_body Bd
  have e0 : s₁.heap = h0 := by rw [← hh, Bd.state]; rfl
  have N0 := Fr.nil n0
  have pre0 : ∀ t, Steps p.tables e below (s₁.setTop (mkF m 0 #[rv a5_0] [])) t → Steps p.tables e below (s₁.setTop (entryFrame m #[(.ref a5_0)] 1)) t := fun t k => castTop (ef_rm5 m a5_0) k
  have wo14 := hw _ (List.mem_of_getElem? (i := 14) rfl)
  have wo15 := hw _ (List.mem_of_getElem? (i := 15) rfl)
  have wo28 := hw _ (List.mem_of_getElem? (i := 28) rfl)
  obtain ⟨T1, X1, e1, st1⟩ := initO X0 hx hZ hown wo28 wo14 wo15 e0 (g := (mkF m 1 #[rv a5_0] [(.ref a5_0)])) rfl (by rw [hml]; rfl) rfl (hb hby d5_1) (by decide) (W := 0) (by show 2 * 0 + _ ≤ _; exact Nat.le_of_eq rfl) (by decide)
  obtain ⟨fs, hr, hrun, hended, hW, hsame⟩ := X1.leave (v := none) (fun _ => rfl)
  refine ⟨_, _, pre0 _ ?_, hrun, hended, _, _, rfl, ?_, ⟨_, rfl⟩, hW, hsame.mono (by decide) (by decide)⟩
  · show Steps p.tables e below (s₁.setTop (mkF m 0 #[rv a5_0] [])) _
    refine XS.aloadN X0.here hx rfl (hb hby d5_0) rfl rfl ?_
    show Steps p.tables e below (s₁.setTop (mkF m 1 #[rv a5_0] [(.ref a5_0)])) _
    refine st1 _ ?_
    show Steps p.tables e below (T1.setTop (mkF m 4 #[rv a5_0] [])) _
    exact X1.returnOut hx Bd.returns (hb hby d5_4) hr
  · show Q_rm5 Z _ h0 n0 _ T1.heap _
    rw [e1]
    exact ⟨rfl, N0, rfl⟩
theorem d4_0 : decode jdk_2729_method_1_code 0 = .ok (.aload_n 0, 1) := by decide +kernel
theorem pd_1 : parseMethodDescriptor "()V" = some ⟨[], none⟩ := by decide +kernel
theorem d4_1 : decode jdk_2729_method_1_code 1 = .ok (.invokespecial 1, 3) := by decide +kernel
theorem d4_4 : decode jdk_2729_method_1_code 4 = .ok (.aload_n 0, 1) := by decide +kernel
theorem d4_5 : decode jdk_2729_method_1_code 5 = .ok (.iconst 0, 1) := by decide +kernel
theorem d4_6 : decode jdk_2729_method_1_code 6 = .ok (.putfield 7, 3) := by decide +kernel
theorem d4_9 : decode jdk_2729_method_1_code 9 = .ok (.aload_n 0, 1) := by decide +kernel
theorem d4_10 : decode jdk_2729_method_1_code 10 = .ok (.iconst 0, 1) := by decide +kernel
theorem d4_11 : decode jdk_2729_method_1_code 11 = .ok (.putfield 13, 3) := by decide +kernel
theorem d4_14 : decode jdk_2729_method_1_code 14 = .ok (.aload_n 0, 1) := by decide +kernel
theorem d4_15 : decode jdk_2729_method_1_code 15 = .ok (.aconst_null, 1) := by decide +kernel
theorem d4_16 : decode jdk_2729_method_1_code 16 = .ok (.putfield 16, 3) := by decide +kernel
theorem d4_19 : decode jdk_2729_method_1_code 19 = .ok (.return_, 1) := by decide +kernel
theorem pn_java_util_TreeMap : plainName "java/util/TreeMap" = true := by first | (simp [plainName, overriddenIn]; done) | decide +kernel
theorem ef_rm4 (m : MethodId) (x0 : Addr) : entryFrame m #[(.ref x0)] 1 = mkF m 0 #[rv x0] [] := by first | (simp [entryFrame, mkF, argsToLocals, Value.category]; done) | rfl
def Q_rm4 (Z : State) (a4_0 : Addr) (h0 : Heap) (n0 : Nat) (v : Option Value) (h : Heap) (L : List Loc) : Prop := v = none ∧ Fr n0 L ∧ Keep h0 h [a4_0]
set_option maxRecDepth 65536 in
set_option maxHeartbeats 40000000 in
theorem rm4 (l : Launch) (Z : State) (a0 : Array Value) (hw : ∀ d ∈ tables_1, d.before a0 Z = true) (ws : List Jvm.Cond) (a4_0 : Addr) (h0 : Heap) (n0 : Nat) (Z0 : n0 ≤ h0.size) (pf_E_a4_0 : Exa Z h0 a4_0 "java/util/TreeMap") (pf_G_a4_0 : n0 ≤ a4_0) (pf_F_a4_0_size : Fld Z h0 a4_0 "java/util/TreeMap" "size" "I" (.int (0 : Int32))) (pf_F_a4_0_modCount : Fld Z h0 a4_0 "java/util/TreeMap" "modCount" "I" (.int (0 : Int32))) (pf_F_a4_0_comparator : Fld Z h0 a4_0 "java/util/TreeMap" "comparator" "Ljava/util/Comparator;" .null) :
    MetFree l (⟨"java/util/TreeMap", "<init>", "()V"⟩ : MethodName) (head1 (Jvm.Cond.code (⟨"java/util/TreeMap", "<init>", "()V"⟩ : MethodName) jdk_2729_method_1_code 1 none :: ws) ({ frames := 2, cells := 0, slots := 0, locals := 24 } : Room)) (fun a U => a = #[(.ref a4_0)] ∧ Z.Warmed39 U.vm ∧ U.heap = h0) (fun _ _ _ _ _ => True) (fun _ U o U' => ∃ v L, o = .returned v ∧ Q_rm4 Z a4_0 h0 n0 v U'.heap L ∧ FrameEnd U o U' L ({ frames := 2, cells := 0, slots := 0, locals := 24 } : Room).cells ({ frames := 2, cells := 0, slots := 0, locals := 24 } : Room).slots) := by
  refine MetFree.of_bodySF (plainFor_of_name pn_java_util_TreeMap) hisR ?_
  intro p e s m args below meth c s₁ Bd hml0 hP hK
  obtain ⟨rfl, hZ, hh⟩ := hP
  have hx := Bd.exec
  have hby := Bd.bytes
  have hml : c.maxLocals = 1 := hml0
  have hown : s.vm.findClass "java/util/TreeMap" = some m.cls := findClass_of_methodNamed Bd.named
  have hnm := (name_of_methodNamed Bd.named Bd.method).1
  have X0 : Stand p l e ({ frames := 2, cells := 0, slots := 0, locals := 24 } : Room) s m #[(.ref a4_0)] below meth c s₁ [] 0 0 := Stand.of_body Bd
  have e0 : s₁.heap = h0 := by rw [← hh, Bd.state]; rfl
  have N0 := Fr.nil n0
  have pre0 : ∀ t, Steps p.tables e below (s₁.setTop (mkF m 0 #[rv a4_0] [])) t → Steps p.tables e below (s₁.setTop (entryFrame m #[(.ref a4_0)] 1)) t := fun t k => castTop (ef_rm4 m a4_0) k
  have wo17 := hw _ (List.mem_of_getElem? (i := 17) rfl)
  have wo22 := hw _ (List.mem_of_getElem? (i := 22) rfl)
  have wo23 := hw _ (List.mem_of_getElem? (i := 23) rfl)
  have wo26 := hw _ (List.mem_of_getElem? (i := 26) rfl)
  have wo27 := hw _ (List.mem_of_getElem? (i := 27) rfl)
  have wo29 := hw _ (List.mem_of_getElem? (i := 29) rfl)
  have wo30 := hw _ (List.mem_of_getElem? (i := 30) rfl)
  have wo31 := hw _ (List.mem_of_getElem? (i := 31) rfl)
  have wo32 := hw _ (List.mem_of_getElem? (i := 32) rfl)
  have wo33 := hw _ (List.mem_of_getElem? (i := 33) rfl)
  have wo34 := hw _ (List.mem_of_getElem? (i := 34) rfl)
  obtain ⟨_, _, ⟨T1, L1, k1, n1⟩, -, X1, ⟨Lc1, hQ1, l1, y1, z1⟩, st1⟩ := X0.specialBack hx (y := MN5) rfl hown (mvT hZ wo22) (mvT hZ wo23) (mvT hZ wo27) (by decide) (backOf (W := 0) (rm5 l Z a0 hw [] a4_0 h0 n0 Z0 ) hZ wo27 wo26 (by decide) (by decide)) (g := (mkF m 1 #[rv a4_0] [(.ref a4_0)])) rfl (by rw [hml]; rfl) (Steps.refl _) (a := a4_0) (argsL := []) (rest := []) (lenOf pd_1 rfl) rfl (by show 2 * 0 + _ ≤ _; exact Nat.le_of_eq rfl) (hb hby d4_1) (fun _ _ => ⟨rfl, e0, (by decide : 0 + 0 ≤ _), (by decide : 0 + 0 ≤ _)⟩)
  dsimp only [Pt.U, Pt.locs, Pt.cells, Pt.slots] at X1 l1 y1 z1 st1 hQ1
  subst l1 y1 z1
  obtain ⟨rfl, N1q, K1q⟩ := hQ1
  have N2 := Fr.app N0 N1q
  obtain ⟨T3, h3, X3, e3, W3, st3⟩ := putF X1 hx hZ hown (host := "") (Or.inl wo29) Via.refl K1q pf_F_a4_0_size pf_E_a4_0 (Or.inl wo30) wo17 (ty := .int) (by decide) rfl rfl (g := (mkF m 6 #[rv a4_0] [(.int (0 : Int32)), (.ref a4_0)])) rfl rfl (hb hby d4_6)
  have K4 : Keep h0 h3 [a4_0] := (Keep.refl h0 [a4_0]).wr W3 (Or.inl (List.mem_of_getElem? (i := 0) rfl))
  have f5 : Fld Z h3 a4_0 "java/util/TreeMap" "size" "I" (.int (0 : Int32)) := pf_F_a4_0_size.same W3
  have N6 := Fr.snoc X3 N2 pf_G_a4_0
  have f7 := (pf_F_a4_0_modCount.other W3 (Or.inr (slot_ne (Or.inl wo32) (Or.inl wo30) (by decide) (t := .int) (t' := .int) (by decide) (by decide))))
  have f8 := (pf_E_a4_0.wr W3)
  obtain ⟨T9, h9, X9, e9, W9, st9⟩ := putF X3 hx hZ hown (host := "") (Or.inl wo31) Via.refl e3 f7 f8 (Or.inl wo32) wo17 (ty := .int) (by decide) rfl rfl (g := (mkF m 11 #[rv a4_0] [(.int (0 : Int32)), (.ref a4_0)])) rfl rfl (hb hby d4_11)
  have K10 : Keep h0 h9 [a4_0] := (K4).wr W9 (Or.inl (List.mem_of_getElem? (i := 0) rfl))
  have f11 : Fld Z h9 a4_0 "java/util/TreeMap" "modCount" "I" (.int (0 : Int32)) := f7.same W9
  have N12 := Fr.snoc X9 N6 pf_G_a4_0
  have f13 := ((pf_F_a4_0_comparator.other W3 (Or.inr (slot_ne (Or.inr wo34) (Or.inl wo30) (by decide) (t := (.object "java/util/Comparator")) (t' := .int) (by decide) (by decide)))).other W9 (Or.inr (slot_ne (Or.inr wo34) (Or.inl wo32) (by decide) (t := (.object "java/util/Comparator")) (t' := .int) (by decide) (by decide))))
  have f14 := (f8.wr W9)
  obtain ⟨T15, h15, X15, e15, W15, st15⟩ := putF X9 hx hZ hown (host := "") (Or.inl wo33) Via.refl e9 f13 f14 (Or.inr ⟨wo34, rfl, hnm⟩) wo17 (ty := (.object "java/util/Comparator")) (by decide) rfl rfl (g := (mkF m 16 #[rv a4_0] [.null, (.ref a4_0)])) rfl rfl (hb hby d4_16)
  have K16 : Keep h0 h15 [a4_0] := (K10).wr W15 (Or.inl (List.mem_of_getElem? (i := 0) rfl))
  have f17 : Fld Z h15 a4_0 "java/util/TreeMap" "comparator" "Ljava/util/Comparator;" .null := f13.same W15
  have N18 := Fr.snoc X15 N12 pf_G_a4_0
  obtain ⟨fs, hr, hrun, hended, hW, hsame⟩ := X15.leave (v := none) (fun _ => rfl)
  refine ⟨_, _, pre0 _ ?_, hrun, hended, _, _, rfl, ?_, ⟨_, rfl⟩, hW, hsame.mono (by decide) (by decide)⟩
  · show Steps p.tables e below (s₁.setTop (mkF m 0 #[rv a4_0] [])) _
    refine XS.aloadN X0.here hx rfl (hb hby d4_0) rfl rfl ?_
    show Steps p.tables e below (s₁.setTop (mkF m 1 #[rv a4_0] [(.ref a4_0)])) _
    refine st1.trans ?_
    show Steps p.tables e below (T1.setTop (mkF m 4 #[rv a4_0] [])) _
    refine XS.aloadN X1.here hx rfl (hb hby d4_4) rfl rfl ?_
    show Steps p.tables e below (T1.setTop (mkF m 5 #[rv a4_0] [(.ref a4_0)])) _
    refine XS.iconst X1.here hx rfl (hb hby d4_5) ?_
    show Steps p.tables e below (T1.setTop (mkF m 6 #[rv a4_0] [(.int (0 : Int32)), (.ref a4_0)])) _
    refine st3 _ ?_
    show Steps p.tables e below (T3.setTop (mkF m 9 #[rv a4_0] [])) _
    refine XS.aloadN X3.here hx rfl (hb hby d4_9) rfl rfl ?_
    show Steps p.tables e below (T3.setTop (mkF m 10 #[rv a4_0] [(.ref a4_0)])) _
    refine XS.iconst X3.here hx rfl (hb hby d4_10) ?_
    show Steps p.tables e below (T3.setTop (mkF m 11 #[rv a4_0] [(.int (0 : Int32)), (.ref a4_0)])) _
    refine st9 _ ?_
    show Steps p.tables e below (T9.setTop (mkF m 14 #[rv a4_0] [])) _
    refine XS.aloadN X9.here hx rfl (hb hby d4_14) rfl rfl ?_
    show Steps p.tables e below (T9.setTop (mkF m 15 #[rv a4_0] [(.ref a4_0)])) _
    refine XS.aconstNull X9.here hx rfl (hb hby d4_15) ?_
    show Steps p.tables e below (T9.setTop (mkF m 16 #[rv a4_0] [.null, (.ref a4_0)])) _
    refine st15 _ ?_
    show Steps p.tables e below (T15.setTop (mkF m 19 #[rv a4_0] [])) _
    exact X15.returnOut hx Bd.returns (hb hby d4_19) hr
  · show Q_rm4 Z _ h0 n0 _ T15.heap _
    rw [e15]
    exact ⟨rfl, N18, (K16)⟩
theorem d6_0 : decode jdk_96_method_29_code 0 = .ok (.aload_n 0, 1) := by decide +kernel
theorem d6_1 : decode jdk_96_method_29_code 1 = .ok (.instanceof 31, 3) := by decide +kernel
theorem d6_4 : decode jdk_96_method_29_code 4 = .ok (.ifCond .eq 8, 3) := by decide +kernel
theorem d6_7 : decode jdk_96_method_29_code 7 = .ok (.aload_n 0, 1) := by decide +kernel
theorem d6_8 : decode jdk_96_method_29_code 8 = .ok (.checkcast 33, 3) := by decide +kernel
theorem d6_11 : decode jdk_96_method_29_code 11 = .ok (.areturn, 1) := by decide +kernel
theorem ef_rm6 (m : MethodId) (x0 : Addr) : entryFrame m #[(.ref x0)] 1 = mkF m 0 #[rv x0] [] := by first | (simp [entryFrame, mkF, argsToLocals, Value.category]; done) | rfl
def Q_rm6 (Z : State) (a6_0 : Addr) (h0 : Heap) (n0 : Nat) (v : Option Value) (h : Heap) (L : List Loc) : Prop := v = some (.ref a6_0) ∧ Fr n0 L ∧ h = h0
set_option maxRecDepth 65536 in
set_option maxHeartbeats 40000000 in
theorem rm6 (l : Launch) (Z : State) (a0 : Array Value) (hw : ∀ d ∈ tables_1, d.before a0 Z = true) (ws : List Jvm.Cond) (a6_0 : Addr) (h0 : Heap) (n0 : Nat) (Z0 : n0 ≤ h0.size) (pf_E_a6_0 : Exa Z h0 a6_0 "java/util/ImmutableCollections$SetN") :
    MetFree l (⟨"java/util/Set", "copyOf", "(Ljava/util/Collection;)Ljava/util/Set;"⟩ : MethodName) (head1 (Jvm.Cond.code (⟨"java/util/Set", "copyOf", "(Ljava/util/Collection;)Ljava/util/Set;"⟩ : MethodName) jdk_96_method_29_code 1 (some (.object "java/util/Set")) :: ws) ({ frames := 0, cells := 0, slots := 0, locals := 0 } : Room)) (fun a U => a = #[(.ref a6_0)] ∧ Z.Warmed39 U.vm ∧ U.heap = h0) (fun _ _ _ _ _ => True) (fun _ U o U' => ∃ v L, o = .returned v ∧ Q_rm6 Z a6_0 h0 n0 v U'.heap L ∧ FrameEnd U o U' L ({ frames := 0, cells := 0, slots := 0, locals := 0 } : Room).cells ({ frames := 0, cells := 0, slots := 0, locals := 0 } : Room).slots) := by
  refine MetFree.of_bodySF (plainFor_of_name pn_java_util_Set) hisR ?_
  intro p e s m args below meth c s₁ Bd hml0 hP hK
  obtain ⟨rfl, hZ, hh⟩ := hP
  have hx := Bd.exec
  have hby := Bd.bytes
  have hml : c.maxLocals = 1 := hml0
  have hown : s.vm.findClass "java/util/Set" = some m.cls := findClass_of_methodNamed Bd.named
  have hnm := (name_of_methodNamed Bd.named Bd.method).1
  have X0 : Stand p l e ({ frames := 0, cells := 0, slots := 0, locals := 0 } : Room) s m #[(.ref a6_0)] below meth c s₁ [] 0 0 := Stand.of_body Bd
  have e0 : s₁.heap = h0 := by rw [← hh, Bd.state]; rfl
  have N0 := Fr.nil n0
  have pre0 : ∀ t, Steps p.tables e below (s₁.setTop (mkF m 0 #[rv a6_0] [])) t → Steps p.tables e below (s₁.setTop (entryFrame m #[(.ref a6_0)] 1)) t := fun t k => castTop (ef_rm6 m a6_0) k
  have wo51 := hw _ (List.mem_of_getElem? (i := 51) rfl)
  have wo52 := hw _ (List.mem_of_getElem? (i := 52) rfl)
  have wo53 := hw _ (List.mem_of_getElem? (i := 53) rfl)
  have wo54 := hw _ (List.mem_of_getElem? (i := 54) rfl)
  obtain ⟨T1, X1, e1, st1⟩ := instY X0 hx hZ hown wo51 e0 (Ins.of_exa pf_E_a6_0 wo52) (g := (mkF m 1 #[rv a6_0] [(.ref a6_0)])) rfl rfl (hb hby d6_1)
  obtain ⟨T2, X2, e2, st2⟩ := castY X1 hx hZ hown wo53 e1 (Ins.of_exa pf_E_a6_0 wo54) (g := (mkF m 8 #[rv a6_0] [(.ref a6_0)])) rfl rfl (hb hby d6_8)
  obtain ⟨fs, hr, hrun, hended, hW, hsame⟩ := X2.leave (v := some (.ref a6_0)) (fun h => by rw [Bd.returns] at h; cases h)
  refine ⟨_, _, pre0 _ ?_, hrun, hended, _, _, rfl, ?_, ⟨_, rfl⟩, hW, hsame.mono (by decide) (by decide)⟩
  · show Steps p.tables e below (s₁.setTop (mkF m 0 #[rv a6_0] [])) _
    refine XS.aloadN X0.here hx rfl (hb hby d6_0) rfl rfl ?_
    show Steps p.tables e below (s₁.setTop (mkF m 1 #[rv a6_0] [(.ref a6_0)])) _
    refine st1 _ ?_
    show Steps p.tables e below (T1.setTop (mkF m 4 #[rv a6_0] [(.int (1 : Int32))])) _
    refine XS.ifNo X1.here hx rfl (hb hby d6_4) rfl ((if0 _ _).trans (feq (by decide : ¬ ((1 : Int32) = (0 : Int32)))).1) ?_
    show Steps p.tables e below (T1.setTop (mkF m 7 #[rv a6_0] [])) _
    refine XS.aloadN X1.here hx rfl (hb hby d6_7) rfl rfl ?_
    show Steps p.tables e below (T1.setTop (mkF m 8 #[rv a6_0] [(.ref a6_0)])) _
    refine st2 _ ?_
    show Steps p.tables e below (T2.setTop (mkF m 11 #[rv a6_0] [(.ref a6_0)])) _
    exact retOut X2 hx Bd.returns rfl (Or.inr (Or.inr (Or.inr (Or.inr ⟨rfl, rfl, rfl⟩)))) (hb hby d6_11) hr
  · show Q_rm6 Z _ h0 n0 _ T2.heap _
    rw [e2]
    exact ⟨rfl, N0, rfl⟩
theorem d2_0 : decode prog_38_method_1_code 0 = .ok (.aload_n 0, 1) := by decide +kernel
theorem d2_1 : decode prog_38_method_1_code 1 = .ok (.invokespecial 1, 3) := by decide +kernel
theorem d2_4 : decode prog_38_method_1_code 4 = .ok (.aload_n 0, 1) := by decide +kernel
theorem d2_5 : decode prog_38_method_1_code 5 = .ok (.new 7, 3) := by decide +kernel
theorem d2_8 : decode prog_38_method_1_code 8 = .ok (.dup, 1) := by decide +kernel
theorem d2_9 : decode prog_38_method_1_code 9 = .ok (.invokespecial 9, 3) := by decide +kernel
theorem d2_12 : decode prog_38_method_1_code 12 = .ok (.putfield 10, 3) := by decide +kernel
theorem d2_15 : decode prog_38_method_1_code 15 = .ok (.aload_n 0, 1) := by decide +kernel
theorem d2_16 : decode prog_38_method_1_code 16 = .ok (.getstatic 16, 3) := by decide +kernel
theorem d2_19 : decode prog_38_method_1_code 19 = .ok (.putfield 22, 3) := by decide +kernel
theorem d2_22 : decode prog_38_method_1_code 22 = .ok (.aload_n 0, 1) := by decide +kernel
theorem d2_23 : decode prog_38_method_1_code 23 = .ok (.iload_n 1, 1) := by decide +kernel
theorem d2_24 : decode prog_38_method_1_code 24 = .ok (.putfield 25, 3) := by decide +kernel
theorem d2_27 : decode prog_38_method_1_code 27 = .ok (.aload_n 0, 1) := by decide +kernel
theorem d2_28 : decode prog_38_method_1_code 28 = .ok (.iload_n 1, 1) := by decide +kernel
theorem d2_29 : decode prog_38_method_1_code 29 = .ok (.iload_n 2, 1) := by decide +kernel
theorem d2_30 : decode prog_38_method_1_code 30 = .ok (.iadd, 1) := by decide +kernel
theorem d2_31 : decode prog_38_method_1_code 31 = .ok (.putfield 29, 3) := by decide +kernel
theorem d2_34 : decode prog_38_method_1_code 34 = .ok (.aload_n 0, 1) := by decide +kernel
theorem d2_35 : decode prog_38_method_1_code 35 = .ok (.lload_n 3, 1) := by decide +kernel
theorem d2_36 : decode prog_38_method_1_code 36 = .ok (.lconst 1, 1) := by decide +kernel
theorem d2_37 : decode prog_38_method_1_code 37 = .ok (.lsub, 1) := by decide +kernel
theorem d2_38 : decode prog_38_method_1_code 38 = .ok (.putfield 32, 3) := by decide +kernel
theorem d2_41 : decode prog_38_method_1_code 41 = .ok (.aload_n 0, 1) := by decide +kernel
theorem d2_42 : decode prog_38_method_1_code 42 = .ok (.aload 5, 2) := by decide +kernel
theorem pd_7 : parseMethodDescriptor "(Ljava/util/Collection;)Ljava/util/Set;" = some ⟨[(.object "java/util/Collection")], some (.object "java/util/Set")⟩ := by decide +kernel
theorem d2_44 : decode prog_38_method_1_code 44 = .ok (.invokestatic 36, 3) := by decide +kernel
theorem d2_47 : decode prog_38_method_1_code 47 = .ok (.putfield 42, 3) := by decide +kernel
theorem d2_50 : decode prog_38_method_1_code 50 = .ok (.aload_n 0, 1) := by decide +kernel
theorem d2_51 : decode prog_38_method_1_code 51 = .ok (.aload_n 0, 1) := by decide +kernel
theorem d2_52 : decode prog_38_method_1_code 52 = .ok (.getfield 29, 3) := by decide +kernel
theorem d2_55 : decode prog_38_method_1_code 55 = .ok (.newarray .byte, 2) := by decide +kernel
theorem d2_57 : decode prog_38_method_1_code 57 = .ok (.putfield 46, 3) := by decide +kernel
theorem d2_60 : decode prog_38_method_1_code 60 = .ok (.return_, 1) := by decide +kernel
theorem pn_com_example_unand_unand_model_Lun : plainName "com/example/unand/unand/model/Lun" = true := by first | (simp [plainName, overriddenIn]; done) | decide +kernel
theorem ef_rm2 (m : MethodId) (x0 : Addr) (x1 : Int32) (x2 : Int32) (x3 : Int64) (x4 : Addr) : entryFrame m #[(.ref x0), (.int x1), (.int x2), (.long x3), (.ref x4)] 6 = mkF m 0 #[rv x0, iv x1, iv x2, .val (.long x3), .second, rv x4] [] := by first | (simp [entryFrame, mkF, argsToLocals, Value.category]; done) | rfl
def Q_rm2 (Z : State) (a2_0 : Addr) (es : Addr) (s_IDLE : Addr) (h0 : Heap) (n0 : Nat) (v : Option Value) (h : Heap) (L : List Loc) : Prop := v = none ∧ Fr n0 L ∧ Keep h0 h [a2_0] ∧ (Fld Z h a2_0 "com/example/unand/unand/model/Lun" "operation" "Lcom/example/unand/unand/model/Lun$Operation;" (.ref s_IDLE)) ∧ (Fld Z h a2_0 "com/example/unand/unand/model/Lun" "readyAt" "J" (.long (0 : Int64))) ∧ (Fld Z h a2_0 "com/example/unand/unand/model/Lun" "failed" "Z" (.int (0 : Int32))) ∧ (Fld Z h a2_0 "com/example/unand/unand/model/Lun" "outputOpen" "Z" (.int (0 : Int32)))
set_option maxRecDepth 65536 in
set_option maxHeartbeats 40000000 in
theorem rm2 (l : Launch) (Z : State) (a0 : Array Value) (hw : ∀ d ∈ tables_1, d.before a0 Z = true) (ws : List Jvm.Cond) (a2_0 : Addr) (es : Addr) (s_IDLE : Addr) (h0 : Heap) (n0 : Nat) (Z0 : n0 ≤ h0.size) (pf_O : Old Z n0 h0) (pf_S_com_example_unand_unand_model_Lun_Operation_IDLE : Sta Z Z.heap "com/example/unand/unand/model/Lun$Operation" "IDLE" "Lcom/example/unand/unand/model/Lun$Operation;" (.ref s_IDLE)) (pf_E_es : Exa Z h0 es "java/util/ImmutableCollections$SetN") (pf_E_a2_0 : Exa Z h0 a2_0 "com/example/unand/unand/model/Lun") (pf_G_a2_0 : n0 ≤ a2_0) (pf_F_a2_0_programmed : Fld Z h0 a2_0 "com/example/unand/unand/model/Lun" "programmed" "Ljava/util/NavigableMap;" .null) (pf_F_a2_0_operation : Fld Z h0 a2_0 "com/example/unand/unand/model/Lun" "operation" "Lcom/example/unand/unand/model/Lun$Operation;" .null) (pf_F_a2_0_dataBytes : Fld Z h0 a2_0 "com/example/unand/unand/model/Lun" "dataBytes" "I" (.int (0 : Int32))) (pf_F_a2_0_pageBytes : Fld Z h0 a2_0 "com/example/unand/unand/model/Lun" "pageBytes" "I" (.int (0 : Int32))) (pf_F_a2_0_lastPage : Fld Z h0 a2_0 "com/example/unand/unand/model/Lun" "lastPage" "J" (.long (0 : Int64))) (pf_F_a2_0_factoryBadBlocks : Fld Z h0 a2_0 "com/example/unand/unand/model/Lun" "factoryBadBlocks" "Ljava/util/Set;" .null) (pf_F_a2_0_pageRegister : Fld Z h0 a2_0 "com/example/unand/unand/model/Lun" "pageRegister" "[B" .null) (pf_F_a2_0_readyAt : Fld Z h0 a2_0 "com/example/unand/unand/model/Lun" "readyAt" "J" (.long (0 : Int64))) (pf_F_a2_0_failed : Fld Z h0 a2_0 "com/example/unand/unand/model/Lun" "failed" "Z" (.int (0 : Int32))) (pf_F_a2_0_outputOpen : Fld Z h0 a2_0 "com/example/unand/unand/model/Lun" "outputOpen" "Z" (.int (0 : Int32))) :
    MetFree l (⟨"com/example/unand/unand/model/Lun", "<init>", "(IIJLjava/util/Set;)V"⟩ : MethodName) (head1 (Jvm.Cond.code (⟨"com/example/unand/unand/model/Lun", "<init>", "(IIJLjava/util/Set;)V"⟩ : MethodName) prog_38_method_1_code 6 none :: ws) ({ frames := 3, cells := 2, slots := 14, locals := 38 } : Room)) (fun a U => a = #[(.ref a2_0), (.int (4 : Int32)), (.int (1 : Int32)), (.long (2 : Int64)), (.ref es)] ∧ Z.Warmed39 U.vm ∧ U.heap = h0) (fun _ _ _ _ _ => True) (fun _ U o U' => ∃ v L, o = .returned v ∧ Q_rm2 Z a2_0 es s_IDLE h0 n0 v U'.heap L ∧ FrameEnd U o U' L ({ frames := 3, cells := 2, slots := 14, locals := 38 } : Room).cells ({ frames := 3, cells := 2, slots := 14, locals := 38 } : Room).slots) := by
  refine MetFree.of_bodySF (plainFor_of_name pn_com_example_unand_unand_model_Lun) hisR ?_
  intro p e s m args below meth c s₁ Bd hml0 hP hK
  obtain ⟨rfl, hZ, hh⟩ := hP
  have hx := Bd.exec
  have hby := Bd.bytes
  have hml : c.maxLocals = 6 := hml0
  have hown : s.vm.findClass "com/example/unand/unand/model/Lun" = some m.cls := findClass_of_methodNamed Bd.named
  have hnm := (name_of_methodNamed Bd.named Bd.method).1
  have X0 : Stand p l e ({ frames := 3, cells := 2, slots := 14, locals := 38 } : Room) s m #[(.ref a2_0), (.int (4 : Int32)), (.int (1 : Int32)), (.long (2 : Int64)), (.ref es)] below meth c s₁ [] 0 0 := Stand.of_body Bd
  have e0 : s₁.heap = h0 := by rw [← hh, Bd.state]; rfl
  have N0 := Fr.nil n0
  have pre0 : ∀ t, Steps p.tables e below (s₁.setTop (mkF m 0 #[rv a2_0, iv (4 : Int32), iv (1 : Int32), .val (.long (2 : Int64)), .second, rv es] [])) t → Steps p.tables e below (s₁.setTop (entryFrame m #[(.ref a2_0), (.int (4 : Int32)), (.int (1 : Int32)), (.long (2 : Int64)), (.ref es)] 6)) t := fun t k => castTop (ef_rm2 m a2_0 (4 : Int32) (1 : Int32) (2 : Int64) es) k
  have wo1 := hw _ (List.mem_of_getElem? (i := 1) rfl)
  have wo6 := hw _ (List.mem_of_getElem? (i := 6) rfl)
  have wo13 := hw _ (List.mem_of_getElem? (i := 13) rfl)
  have wo14 := hw _ (List.mem_of_getElem? (i := 14) rfl)
  have wo15 := hw _ (List.mem_of_getElem? (i := 15) rfl)
  have wo16 := hw _ (List.mem_of_getElem? (i := 16) rfl)
  have wo17 := hw _ (List.mem_of_getElem? (i := 17) rfl)
  have wo18 := hw _ (List.mem_of_getElem? (i := 18) rfl)
  have wo19 := hw _ (List.mem_of_getElem? (i := 19) rfl)
  have wo20 := hw _ (List.mem_of_getElem? (i := 20) rfl)
  have wo21 := hw _ (List.mem_of_getElem? (i := 21) rfl)
  have wo30 := hw _ (List.mem_of_getElem? (i := 30) rfl)
  have wo32 := hw _ (List.mem_of_getElem? (i := 32) rfl)
  have wo34 := hw _ (List.mem_of_getElem? (i := 34) rfl)
  have wo35 := hw _ (List.mem_of_getElem? (i := 35) rfl)
  have wo36 := hw _ (List.mem_of_getElem? (i := 36) rfl)
  have wo37 := hw _ (List.mem_of_getElem? (i := 37) rfl)
  have wo40 := hw _ (List.mem_of_getElem? (i := 40) rfl)
  have wo41 := hw _ (List.mem_of_getElem? (i := 41) rfl)
  have wo42 := hw _ (List.mem_of_getElem? (i := 42) rfl)
  have wo43 := hw _ (List.mem_of_getElem? (i := 43) rfl)
  have wo44 := hw _ (List.mem_of_getElem? (i := 44) rfl)
  have wo45 := hw _ (List.mem_of_getElem? (i := 45) rfl)
  have wo46 := hw _ (List.mem_of_getElem? (i := 46) rfl)
  have wo47 := hw _ (List.mem_of_getElem? (i := 47) rfl)
  have wo48 := hw _ (List.mem_of_getElem? (i := 48) rfl)
  have wo49 := hw _ (List.mem_of_getElem? (i := 49) rfl)
  have wo50 := hw _ (List.mem_of_getElem? (i := 50) rfl)
  have wo55 := hw _ (List.mem_of_getElem? (i := 55) rfl)
  have wo56 := hw _ (List.mem_of_getElem? (i := 56) rfl)
  have wo57 := hw _ (List.mem_of_getElem? (i := 57) rfl)
  have wo58 := hw _ (List.mem_of_getElem? (i := 58) rfl)
  have wo59 := hw _ (List.mem_of_getElem? (i := 59) rfl)
  have wo67 := hw _ (List.mem_of_getElem? (i := 67) rfl)
  have wo90 := hw _ (List.mem_of_getElem? (i := 90) rfl)
  have wo92 := hw _ (List.mem_of_getElem? (i := 92) rfl)
  obtain ⟨T1, X1, e1, st1⟩ := initO X0 hx hZ hown wo13 wo14 wo15 e0 (g := (mkF m 1 #[rv a2_0, iv (4 : Int32), iv (1 : Int32), .val (.long (2 : Int64)), .second, rv es] [(.ref a2_0)])) rfl (by rw [hml]; rfl) rfl (hb hby d2_1) (by decide) (W := 0) (by show 2 * 0 + _ ≤ _; exact Nat.le_of_eq rfl) (by decide)
  obtain ⟨T2, h2, X2, e2, E2, A2, D2, -, st2⟩ := newO X1 hx hZ hown wo16 wo17 wo18 e1 (g := (mkF m 5 #[rv a2_0, iv (4 : Int32), iv (1 : Int32), .val (.long (2 : Int64)), .second, rv es] [(.ref a2_0)])) rfl (hb hby d2_5) (by decide) (by decide)
  obtain ⟨b2, gg2⟩ : ∃ z, z = h0.size := ⟨_, rfl⟩
  rw [← gg2] at A2 D2 st2
  have ne3 : a2_0 ≠ b2 := Nat.ne_of_lt (Nat.lt_of_lt_of_le pf_E_a2_0.lt (Nat.le_of_eq gg2.symm))
  have ne4 : es ≠ b2 := Nat.ne_of_lt (Nat.lt_of_lt_of_le pf_E_es.lt (Nat.le_of_eq gg2.symm))
  have g5 : n0 ≤ b2 := Nat.le_trans Z0 (Nat.le_of_eq gg2.symm)
  have bz6 : h0.size ≤ b2 := Nat.le_trans (Keep.refl h0 [a2_0]).1 (Nat.le_of_eq gg2.symm)
  have K7 : Keep h0 h2 [a2_0] := (Keep.refl h0 [a2_0]).ext E2
  have f8 : Fld Z h2 b2 "java/util/TreeMap" "size" "I" (.int (0 : Int32)) := D2 (Or.inl wo30) (ty := .int) (by decide)
  have f9 : Fld Z h2 b2 "java/util/TreeMap" "modCount" "I" (.int (0 : Int32)) := D2 (Or.inl wo32) (ty := .int) (by decide)
  have f10 : Fld Z h2 b2 "java/util/TreeMap" "comparator" "Ljava/util/Comparator;" .null := D2 (Or.inr wo34) (ty := (.object "java/util/Comparator")) (by decide)
  have f12 := (Nat.le_trans Z0 E2.1)
  obtain ⟨_, _, ⟨T11, L11, k11, n11⟩, -, X11, ⟨Lc11, hQ11, l11, y11, z11⟩, st11⟩ := X2.specialBack hx (y := MN4) rfl hown (mvT hZ wo19) (mvT hZ wo20) (mvT hZ wo21) (by decide) (backOf (W := 2) (rm4 l Z a0 hw [] b2 h2 n0 f12 A2 g5 f8 f9 f10) hZ wo21 wo18 (by decide) (by decide)) (g := (mkF m 9 #[rv a2_0, iv (4 : Int32), iv (1 : Int32), .val (.long (2 : Int64)), .second, rv es] [(.ref b2), (.ref b2), (.ref a2_0)])) rfl (by rw [hml]; rfl) (Steps.refl _) (a := b2) (argsL := []) (rest := [(.ref b2), (.ref a2_0)]) (lenOf pd_1 rfl) rfl (by show 2 * 0 + _ ≤ _; exact Nat.le_of_eq rfl) (hb hby d2_9) (fun _ _ => ⟨rfl, e2, (by decide : 1 + 0 ≤ _), (by decide : 9 + 0 ≤ _)⟩)
  dsimp only [Pt.U, Pt.locs, Pt.cells, Pt.slots] at X11 l11 y11 z11 st11 hQ11
  subst l11 y11 z11
  obtain ⟨rfl, N11q, K11q⟩ := hQ11
  have N13 := Fr.app N0 N11q
  have K14 : Keep h0 T11.heap [a2_0] := (K7).trans K11q (allS (P := fun x => x ∈ [a2_0] ∨ h0.size ≤ x) (Or.inr bz6) all0)
  have f15 := ((pf_F_a2_0_programmed.ext E2).keep K11q (ninS ne3 nin0))
  have f16 := ((pf_E_a2_0.ext E2).keep K11q)
  obtain ⟨T17, h17, X17, e17, W17, st17⟩ := putF X11 hx hZ hown (host := "") (Or.inl wo35) Via.refl rfl f15 f16 (Or.inr ⟨wo36, rfl, hnm⟩) wo1 (ty := (.object "java/util/NavigableMap")) (by decide) rfl rfl (g := (mkF m 12 #[rv a2_0, iv (4 : Int32), iv (1 : Int32), .val (.long (2 : Int64)), .second, rv es] [(.ref b2), (.ref a2_0)])) rfl rfl (hb hby d2_12)
  have K18 : Keep h0 h17 [a2_0] := (K14).wr W17 (Or.inl (List.mem_of_getElem? (i := 0) rfl))
  have f19 : Fld Z h17 a2_0 "com/example/unand/unand/model/Lun" "programmed" "Ljava/util/NavigableMap;" (.ref b2) := f15.same W17
  have N20 := Fr.snoc X17 N13 pf_G_a2_0
  have f21 := (((pf_O.ext E2).keep K11q (allS g5 all0)).wr W17 pf_G_a2_0)
  obtain ⟨T22, X22, e22, st22⟩ := getS2 X17 hx hZ hown (host := "") (Or.inl wo37) Via.refl e17 (pf_S_com_example_unand_unand_model_Lun_Operation_IDLE.ext f21.2) (g := (mkF m 16 #[rv a2_0, iv (4 : Int32), iv (1 : Int32), .val (.long (2 : Int64)), .second, rv es] [(.ref a2_0)])) rfl (hb hby d2_16)
  have f23 := (((pf_F_a2_0_operation.ext E2).keep K11q (ninS ne3 nin0)).other W17 (Or.inr (slot_ne (Or.inl wo41) (Or.inr wo36) (by decide) (t := (.object "com/example/unand/unand/model/Lun$Operation")) (t' := (.object "java/util/NavigableMap")) (by decide) (by decide))))
  have f24 := (f16.wr W17)
  obtain ⟨T25, h25, X25, e25, W25, st25⟩ := putF X22 hx hZ hown (host := "") (Or.inl wo40) Via.refl e22 f23 f24 (Or.inl wo41) wo1 (ty := (.object "com/example/unand/unand/model/Lun$Operation")) (by decide) rfl rfl (g := (mkF m 19 #[rv a2_0, iv (4 : Int32), iv (1 : Int32), .val (.long (2 : Int64)), .second, rv es] [(.ref s_IDLE), (.ref a2_0)])) rfl rfl (hb hby d2_19)
  have K26 : Keep h0 h25 [a2_0] := (K18).wr W25 (Or.inl (List.mem_of_getElem? (i := 0) rfl))
  have f27 : Fld Z h25 a2_0 "com/example/unand/unand/model/Lun" "operation" "Lcom/example/unand/unand/model/Lun$Operation;" (.ref s_IDLE) := f23.same W25
  have N28 := Fr.snoc X25 N20 pf_G_a2_0
  have f29 := ((((pf_F_a2_0_dataBytes.ext E2).keep K11q (ninS ne3 nin0)).other W17 (Or.inr (slot_ne (Or.inr wo43) (Or.inr wo36) (by decide) (t := .int) (t' := (.object "java/util/NavigableMap")) (by decide) (by decide)))).other W25 (Or.inr (slot_ne (Or.inr wo43) (Or.inl wo41) (by decide) (t := .int) (t' := (.object "com/example/unand/unand/model/Lun$Operation")) (by decide) (by decide))))
  have f30 := (f24.wr W25)
  obtain ⟨T31, h31, X31, e31, W31, st31⟩ := putF X25 hx hZ hown (host := "") (Or.inl wo42) Via.refl e25 f29 f30 (Or.inr ⟨wo43, rfl, hnm⟩) wo1 (ty := .int) (by decide) rfl rfl (g := (mkF m 24 #[rv a2_0, iv (4 : Int32), iv (1 : Int32), .val (.long (2 : Int64)), .second, rv es] [(.int (4 : Int32)), (.ref a2_0)])) rfl rfl (hb hby d2_24)
  have K32 : Keep h0 h31 [a2_0] := (K26).wr W31 (Or.inl (List.mem_of_getElem? (i := 0) rfl))
  have f33 : Fld Z h31 a2_0 "com/example/unand/unand/model/Lun" "dataBytes" "I" (.int (4 : Int32)) := f29.same W31
  have N34 := Fr.snoc X31 N28 pf_G_a2_0
  have f35 := (((((pf_F_a2_0_pageBytes.ext E2).keep K11q (ninS ne3 nin0)).other W17 (Or.inr (slot_ne (Or.inr wo45) (Or.inr wo36) (by decide) (t := .int) (t' := (.object "java/util/NavigableMap")) (by decide) (by decide)))).other W25 (Or.inr (slot_ne (Or.inr wo45) (Or.inl wo41) (by decide) (t := .int) (t' := (.object "com/example/unand/unand/model/Lun$Operation")) (by decide) (by decide)))).other W31 (Or.inr (slot_ne (Or.inr wo45) (Or.inr wo43) (by decide) (t := .int) (t' := .int) (by decide) (by decide))))
  have f36 := (f30.wr W31)
  obtain ⟨T37, h37, X37, e37, W37, st37⟩ := putF X31 hx hZ hown (host := "") (Or.inl wo44) Via.refl e31 f35 f36 (Or.inr ⟨wo45, rfl, hnm⟩) wo1 (ty := .int) (by decide) rfl rfl (g := (mkF m 31 #[rv a2_0, iv (4 : Int32), iv (1 : Int32), .val (.long (2 : Int64)), .second, rv es] [(.int (5 : Int32)), (.ref a2_0)])) rfl rfl (hb hby d2_31)
  have K38 : Keep h0 h37 [a2_0] := (K32).wr W37 (Or.inl (List.mem_of_getElem? (i := 0) rfl))
  have f39 : Fld Z h37 a2_0 "com/example/unand/unand/model/Lun" "pageBytes" "I" (.int (5 : Int32)) := f35.same W37
  have N40 := Fr.snoc X37 N34 pf_G_a2_0
  have f41 := ((((((pf_F_a2_0_lastPage.ext E2).keep K11q (ninS ne3 nin0)).other W17 (Or.inr (slot_ne (Or.inr wo47) (Or.inr wo36) (by decide) (t := .long) (t' := (.object "java/util/NavigableMap")) (by decide) (by decide)))).other W25 (Or.inr (slot_ne (Or.inr wo47) (Or.inl wo41) (by decide) (t := .long) (t' := (.object "com/example/unand/unand/model/Lun$Operation")) (by decide) (by decide)))).other W31 (Or.inr (slot_ne (Or.inr wo47) (Or.inr wo43) (by decide) (t := .long) (t' := .int) (by decide) (by decide)))).other W37 (Or.inr (slot_ne (Or.inr wo47) (Or.inr wo45) (by decide) (t := .long) (t' := .int) (by decide) (by decide))))
  have f42 := (f36.wr W37)
  obtain ⟨T43, h43, X43, e43, W43, st43⟩ := putF X37 hx hZ hown (host := "") (Or.inl wo46) Via.refl e37 f41 f42 (Or.inr ⟨wo47, rfl, hnm⟩) wo1 (ty := .long) (by decide) rfl rfl (g := (mkF m 38 #[rv a2_0, iv (4 : Int32), iv (1 : Int32), .val (.long (2 : Int64)), .second, rv es] [(.long (1 : Int64)), (.ref a2_0)])) rfl rfl (hb hby d2_38)
  have K44 : Keep h0 h43 [a2_0] := (K38).wr W43 (Or.inl (List.mem_of_getElem? (i := 0) rfl))
  have f45 : Fld Z h43 a2_0 "com/example/unand/unand/model/Lun" "lastPage" "J" (.long (1 : Int64)) := f41.same W43
  have N46 := Fr.snoc X43 N40 pf_G_a2_0
  have f47 := (((((((pf_E_es.ext E2).keep K11q).wr W17).wr W25).wr W31).wr W37).wr W43)
  have f49 := (Nat.le_trans (Nat.le_trans (Nat.le_trans (Nat.le_trans (Nat.le_trans (Nat.le_trans f12 K11q.1) (Keep.of_wr W17).1) (Keep.of_wr W25).1) (Keep.of_wr W31).1) (Keep.of_wr W37).1) (Keep.of_wr W43).1)
  obtain ⟨_, _, ⟨T48, L48, k48, n48⟩, -, X48, ⟨Lc48, hQ48, l48, y48, z48⟩, st48⟩ := Jvm.LawKit.callS X43 hx (y := MN6) hown (mvT hZ wo48) (mvT hZ wo49) (mvT hZ wo6) (mvT hZ wo50) (by decide) (backOf (W := 1) (rm6 l Z a0 hw [] es h43 n0 f49 f47) hZ wo50 wo6 (by decide) (by decide)) (g := (mkF m 44 #[rv a2_0, iv (4 : Int32), iv (1 : Int32), .val (.long (2 : Int64)), .second, rv es] [(.ref es), (.ref a2_0)])) rfl (by rw [hml]; rfl) (argsL := [(.ref es)]) (rest := [(.ref a2_0)]) (lenOf pd_7 rfl) rfl (by show 2 * 0 + _ ≤ _; exact Nat.le_of_eq rfl) (hb hby d2_44) (fun _ _ => ⟨rfl, e43, (by decide : 1 + 0 ≤ _), (by decide : 9 + 0 ≤ _)⟩)
  dsimp only [Pt.U, Pt.locs, Pt.cells, Pt.slots] at X48 l48 y48 z48 st48 hQ48
  subst l48 y48 z48
  obtain ⟨rfl, N48q, K48q⟩ := hQ48
  have N50 := Fr.app N46 N48q
  have f51 := (((((((pf_F_a2_0_factoryBadBlocks.ext E2).keep K11q (ninS ne3 nin0)).other W17 (Or.inr (slot_ne (Or.inr wo56) (Or.inr wo36) (by decide) (t := (.object "java/util/Set")) (t' := (.object "java/util/NavigableMap")) (by decide) (by decide)))).other W25 (Or.inr (slot_ne (Or.inr wo56) (Or.inl wo41) (by decide) (t := (.object "java/util/Set")) (t' := (.object "com/example/unand/unand/model/Lun$Operation")) (by decide) (by decide)))).other W31 (Or.inr (slot_ne (Or.inr wo56) (Or.inr wo43) (by decide) (t := (.object "java/util/Set")) (t' := .int) (by decide) (by decide)))).other W37 (Or.inr (slot_ne (Or.inr wo56) (Or.inr wo45) (by decide) (t := (.object "java/util/Set")) (t' := .int) (by decide) (by decide)))).other W43 (Or.inr (slot_ne (Or.inr wo56) (Or.inr wo47) (by decide) (t := (.object "java/util/Set")) (t' := .long) (by decide) (by decide))))
  have f52 := (f42.wr W43)
  obtain ⟨T53, h53, X53, e53, W53, st53⟩ := putF X48 hx hZ hown (host := "") (Or.inl wo55) Via.refl K48q f51 f52 (Or.inr ⟨wo56, rfl, hnm⟩) wo1 (ty := (.object "java/util/Set")) (by decide) rfl rfl (g := (mkF m 47 #[rv a2_0, iv (4 : Int32), iv (1 : Int32), .val (.long (2 : Int64)), .second, rv es] [(.ref es), (.ref a2_0)])) rfl rfl (hb hby d2_47)
  have K54 : Keep h0 h53 [a2_0] := (K44).wr W53 (Or.inl (List.mem_of_getElem? (i := 0) rfl))
  have f55 : Fld Z h53 a2_0 "com/example/unand/unand/model/Lun" "factoryBadBlocks" "Ljava/util/Set;" (.ref es) := f51.same W53
  have N56 := Fr.snoc X53 N50 pf_G_a2_0
  have f57 := ((f39.other W43 (Or.inr (slot_ne (Or.inr wo45) (Or.inr wo47) (by decide) (t := .int) (t' := .long) (by decide) (by decide)))).other W53 (Or.inr (slot_ne (Or.inr wo45) (Or.inr wo56) (by decide) (t := .int) (t' := (.object "java/util/Set")) (by decide) (by decide))))
  obtain ⟨T58, X58, e58, st58⟩ := getF X53 hx hZ hown (host := "") (Or.inl wo44) Via.refl e53 f57 (g := (mkF m 52 #[rv a2_0, iv (4 : Int32), iv (1 : Int32), .val (.long (2 : Int64)), .second, rv es] [(.ref a2_0), (.ref a2_0)])) rfl rfl (hb hby d2_52)
  obtain ⟨T59, h59, k59, X59, e59, E59, A59, st59⟩ := newP (aty := .byte) X58 hx hZ wo57 e58 (g := (mkF m 55 #[rv a2_0, iv (4 : Int32), iv (1 : Int32), .val (.long (2 : Int64)), .second, rv es] [(.int (5 : Int32)), (.ref a2_0)])) rfl (hb hby d2_55) rfl (by decide) (cap := 5) (by decide) (by decide) (by decide) (by decide)
  obtain ⟨b59, gg59⟩ : ∃ z, z = h53.size := ⟨_, rfl⟩
  rw [← gg59] at A59 st59
  have f60 := (f52.wr W53)
  have ne61 : a2_0 ≠ b59 := Nat.ne_of_lt (Nat.lt_of_lt_of_le f60.lt (Nat.le_of_eq gg59.symm))
  have f62 := (f47.wr W53)
  have ne63 : es ≠ b59 := Nat.ne_of_lt (Nat.lt_of_lt_of_le f62.lt (Nat.le_of_eq gg59.symm))
  have f64 := (((((((A2.keep K11q).wr W17).wr W25).wr W31).wr W37).wr W43).wr W53)
  have ne65 : b2 ≠ b59 := Nat.ne_of_lt (Nat.lt_of_lt_of_le f64.lt (Nat.le_of_eq gg59.symm))
  have f67 := (Nat.le_trans f49 (Keep.of_wr W53).1)
  have g66 : n0 ≤ b59 := Nat.le_trans f67 (Nat.le_of_eq gg59.symm)
  have bz68 : h0.size ≤ b59 := Nat.le_trans (K54).1 (Nat.le_of_eq gg59.symm)
  have K70 : Keep h0 h59 [a2_0] := (K54).ext E59
  have f69 : Av Z h59 b59 .byte (5 : Int32) [(.int (0 : Int32)), (.int (0 : Int32)), (.int (0 : Int32)), (.int (0 : Int32)), (.int (0 : Int32))] (.int (0 : Int32)) := ⟨_, (Arv.new A59 (by decide)).pad (pad_rep [] (.int (0 : Int32)) 5)⟩
  have f71 := (((((((((pf_F_a2_0_pageRegister.ext E2).keep K11q (ninS ne3 nin0)).other W17 (Or.inr (slot_ne (Or.inr wo59) (Or.inr wo36) (by decide) (t := (.array .byte)) (t' := (.object "java/util/NavigableMap")) (by decide) (by decide)))).other W25 (Or.inr (slot_ne (Or.inr wo59) (Or.inl wo41) (by decide) (t := (.array .byte)) (t' := (.object "com/example/unand/unand/model/Lun$Operation")) (by decide) (by decide)))).other W31 (Or.inr (slot_ne (Or.inr wo59) (Or.inr wo43) (by decide) (t := (.array .byte)) (t' := .int) (by decide) (by decide)))).other W37 (Or.inr (slot_ne (Or.inr wo59) (Or.inr wo45) (by decide) (t := (.array .byte)) (t' := .int) (by decide) (by decide)))).other W43 (Or.inr (slot_ne (Or.inr wo59) (Or.inr wo47) (by decide) (t := (.array .byte)) (t' := .long) (by decide) (by decide)))).other W53 (Or.inr (slot_ne (Or.inr wo59) (Or.inr wo56) (by decide) (t := (.array .byte)) (t' := (.object "java/util/Set")) (by decide) (by decide)))).ext E59)
  have f72 := (f60.ext E59)
  obtain ⟨T73, h73, X73, e73, W73, st73⟩ := putF X59 hx hZ hown (host := "") (Or.inl wo58) Via.refl e59 f71 f72 (Or.inr ⟨wo59, rfl, hnm⟩) wo1 (ty := (.array .byte)) (by decide) rfl rfl (g := (mkF m 57 #[rv a2_0, iv (4 : Int32), iv (1 : Int32), .val (.long (2 : Int64)), .second, rv es] [(.ref b59), (.ref a2_0)])) rfl rfl (hb hby d2_57)
  have K74 : Keep h0 h73 [a2_0] := (K70).wr W73 (Or.inl (List.mem_of_getElem? (i := 0) rfl))
  have f75 : Fld Z h73 a2_0 "com/example/unand/unand/model/Lun" "pageRegister" "[B" (.ref b59) := f71.same W73
  have N76 := Fr.snoc X73 N56 pf_G_a2_0
  have f77 := ((((((f27.other W31 (Or.inr (slot_ne (Or.inl wo41) (Or.inr wo43) (by decide) (t := (.object "com/example/unand/unand/model/Lun$Operation")) (t' := .int) (by decide) (by decide)))).other W37 (Or.inr (slot_ne (Or.inl wo41) (Or.inr wo45) (by decide) (t := (.object "com/example/unand/unand/model/Lun$Operation")) (t' := .int) (by decide) (by decide)))).other W43 (Or.inr (slot_ne (Or.inl wo41) (Or.inr wo47) (by decide) (t := (.object "com/example/unand/unand/model/Lun$Operation")) (t' := .long) (by decide) (by decide)))).other W53 (Or.inr (slot_ne (Or.inl wo41) (Or.inr wo56) (by decide) (t := (.object "com/example/unand/unand/model/Lun$Operation")) (t' := (.object "java/util/Set")) (by decide) (by decide)))).ext E59).other W73 (Or.inr (slot_ne (Or.inl wo41) (Or.inr wo59) (by decide) (t := (.object "com/example/unand/unand/model/Lun$Operation")) (t' := (.array .byte)) (by decide) (by decide))))
  have f78 := ((((((((((pf_F_a2_0_readyAt.ext E2).keep K11q (ninS ne3 nin0)).other W17 (Or.inr (slot_ne (Or.inl wo67) (Or.inr wo36) (by decide) (t := .long) (t' := (.object "java/util/NavigableMap")) (by decide) (by decide)))).other W25 (Or.inr (slot_ne (Or.inl wo67) (Or.inl wo41) (by decide) (t := .long) (t' := (.object "com/example/unand/unand/model/Lun$Operation")) (by decide) (by decide)))).other W31 (Or.inr (slot_ne (Or.inl wo67) (Or.inr wo43) (by decide) (t := .long) (t' := .int) (by decide) (by decide)))).other W37 (Or.inr (slot_ne (Or.inl wo67) (Or.inr wo45) (by decide) (t := .long) (t' := .int) (by decide) (by decide)))).other W43 (Or.inr (slot_ne (Or.inl wo67) (Or.inr wo47) (by decide) (t := .long) (t' := .long) (by decide) (by decide)))).other W53 (Or.inr (slot_ne (Or.inl wo67) (Or.inr wo56) (by decide) (t := .long) (t' := (.object "java/util/Set")) (by decide) (by decide)))).ext E59).other W73 (Or.inr (slot_ne (Or.inl wo67) (Or.inr wo59) (by decide) (t := .long) (t' := (.array .byte)) (by decide) (by decide))))
  have f79 := ((((((((((pf_F_a2_0_failed.ext E2).keep K11q (ninS ne3 nin0)).other W17 (Or.inr (slot_ne (Or.inl wo90) (Or.inr wo36) (by decide) (t := .boolean) (t' := (.object "java/util/NavigableMap")) (by decide) (by decide)))).other W25 (Or.inr (slot_ne (Or.inl wo90) (Or.inl wo41) (by decide) (t := .boolean) (t' := (.object "com/example/unand/unand/model/Lun$Operation")) (by decide) (by decide)))).other W31 (Or.inr (slot_ne (Or.inl wo90) (Or.inr wo43) (by decide) (t := .boolean) (t' := .int) (by decide) (by decide)))).other W37 (Or.inr (slot_ne (Or.inl wo90) (Or.inr wo45) (by decide) (t := .boolean) (t' := .int) (by decide) (by decide)))).other W43 (Or.inr (slot_ne (Or.inl wo90) (Or.inr wo47) (by decide) (t := .boolean) (t' := .long) (by decide) (by decide)))).other W53 (Or.inr (slot_ne (Or.inl wo90) (Or.inr wo56) (by decide) (t := .boolean) (t' := (.object "java/util/Set")) (by decide) (by decide)))).ext E59).other W73 (Or.inr (slot_ne (Or.inl wo90) (Or.inr wo59) (by decide) (t := .boolean) (t' := (.array .byte)) (by decide) (by decide))))
  have f80 := ((((((((((pf_F_a2_0_outputOpen.ext E2).keep K11q (ninS ne3 nin0)).other W17 (Or.inr (slot_ne (Or.inl wo92) (Or.inr wo36) (by decide) (t := .boolean) (t' := (.object "java/util/NavigableMap")) (by decide) (by decide)))).other W25 (Or.inr (slot_ne (Or.inl wo92) (Or.inl wo41) (by decide) (t := .boolean) (t' := (.object "com/example/unand/unand/model/Lun$Operation")) (by decide) (by decide)))).other W31 (Or.inr (slot_ne (Or.inl wo92) (Or.inr wo43) (by decide) (t := .boolean) (t' := .int) (by decide) (by decide)))).other W37 (Or.inr (slot_ne (Or.inl wo92) (Or.inr wo45) (by decide) (t := .boolean) (t' := .int) (by decide) (by decide)))).other W43 (Or.inr (slot_ne (Or.inl wo92) (Or.inr wo47) (by decide) (t := .boolean) (t' := .long) (by decide) (by decide)))).other W53 (Or.inr (slot_ne (Or.inl wo92) (Or.inr wo56) (by decide) (t := .boolean) (t' := (.object "java/util/Set")) (by decide) (by decide)))).ext E59).other W73 (Or.inr (slot_ne (Or.inl wo92) (Or.inr wo59) (by decide) (t := .boolean) (t' := (.array .byte)) (by decide) (by decide))))
  obtain ⟨fs, hr, hrun, hended, hW, hsame⟩ := X73.leave (v := none) (fun _ => rfl)
  refine ⟨_, _, pre0 _ ?_, hrun, hended, _, _, rfl, ?_, ⟨_, rfl⟩, hW, hsame.mono (by decide) (by decide)⟩
  · show Steps p.tables e below (s₁.setTop (mkF m 0 #[rv a2_0, iv (4 : Int32), iv (1 : Int32), .val (.long (2 : Int64)), .second, rv es] [])) _
    refine XS.aloadN X0.here hx rfl (hb hby d2_0) rfl rfl ?_
    show Steps p.tables e below (s₁.setTop (mkF m 1 #[rv a2_0, iv (4 : Int32), iv (1 : Int32), .val (.long (2 : Int64)), .second, rv es] [(.ref a2_0)])) _
    refine st1 _ ?_
    show Steps p.tables e below (T1.setTop (mkF m 4 #[rv a2_0, iv (4 : Int32), iv (1 : Int32), .val (.long (2 : Int64)), .second, rv es] [])) _
    refine XS.aloadN X1.here hx rfl (hb hby d2_4) rfl rfl ?_
    show Steps p.tables e below (T1.setTop (mkF m 5 #[rv a2_0, iv (4 : Int32), iv (1 : Int32), .val (.long (2 : Int64)), .second, rv es] [(.ref a2_0)])) _
    refine st2 _ ?_
    show Steps p.tables e below (T2.setTop (mkF m 8 #[rv a2_0, iv (4 : Int32), iv (1 : Int32), .val (.long (2 : Int64)), .second, rv es] [(.ref b2), (.ref a2_0)])) _
    refine XS.dup X2.here hx rfl (hb hby d2_8) rfl rfl ?_
    show Steps p.tables e below (T2.setTop (mkF m 9 #[rv a2_0, iv (4 : Int32), iv (1 : Int32), .val (.long (2 : Int64)), .second, rv es] [(.ref b2), (.ref b2), (.ref a2_0)])) _
    refine st11.trans ?_
    show Steps p.tables e below (T11.setTop (mkF m 12 #[rv a2_0, iv (4 : Int32), iv (1 : Int32), .val (.long (2 : Int64)), .second, rv es] [(.ref b2), (.ref a2_0)])) _
    refine st17 _ ?_
    show Steps p.tables e below (T17.setTop (mkF m 15 #[rv a2_0, iv (4 : Int32), iv (1 : Int32), .val (.long (2 : Int64)), .second, rv es] [])) _
    refine XS.aloadN X17.here hx rfl (hb hby d2_15) rfl rfl ?_
    show Steps p.tables e below (T17.setTop (mkF m 16 #[rv a2_0, iv (4 : Int32), iv (1 : Int32), .val (.long (2 : Int64)), .second, rv es] [(.ref a2_0)])) _
    refine st22 _ ?_
    show Steps p.tables e below (T22.setTop (mkF m 19 #[rv a2_0, iv (4 : Int32), iv (1 : Int32), .val (.long (2 : Int64)), .second, rv es] [(.ref s_IDLE), (.ref a2_0)])) _
    refine st25 _ ?_
    show Steps p.tables e below (T25.setTop (mkF m 22 #[rv a2_0, iv (4 : Int32), iv (1 : Int32), .val (.long (2 : Int64)), .second, rv es] [])) _
    refine XS.aloadN X25.here hx rfl (hb hby d2_22) rfl rfl ?_
    show Steps p.tables e below (T25.setTop (mkF m 23 #[rv a2_0, iv (4 : Int32), iv (1 : Int32), .val (.long (2 : Int64)), .second, rv es] [(.ref a2_0)])) _
    refine XS.iloadN X25.here hx rfl (hb hby d2_23) rfl ?_
    show Steps p.tables e below (T25.setTop (mkF m 24 #[rv a2_0, iv (4 : Int32), iv (1 : Int32), .val (.long (2 : Int64)), .second, rv es] [(.int (4 : Int32)), (.ref a2_0)])) _
    refine st31 _ ?_
    show Steps p.tables e below (T31.setTop (mkF m 27 #[rv a2_0, iv (4 : Int32), iv (1 : Int32), .val (.long (2 : Int64)), .second, rv es] [])) _
    refine XS.aloadN X31.here hx rfl (hb hby d2_27) rfl rfl ?_
    show Steps p.tables e below (T31.setTop (mkF m 28 #[rv a2_0, iv (4 : Int32), iv (1 : Int32), .val (.long (2 : Int64)), .second, rv es] [(.ref a2_0)])) _
    refine XS.iloadN X31.here hx rfl (hb hby d2_28) rfl ?_
    show Steps p.tables e below (T31.setTop (mkF m 29 #[rv a2_0, iv (4 : Int32), iv (1 : Int32), .val (.long (2 : Int64)), .second, rv es] [(.int (4 : Int32)), (.ref a2_0)])) _
    refine XS.iloadN X31.here hx rfl (hb hby d2_29) rfl ?_
    show Steps p.tables e below (T31.setTop (mkF m 30 #[rv a2_0, iv (4 : Int32), iv (1 : Int32), .val (.long (2 : Int64)), .second, rv es] [(.int (1 : Int32)), (.int (4 : Int32)), (.ref a2_0)])) _
    refine XS.iadd X31.here hx rfl (hb hby d2_30) rfl ?_
    show Steps p.tables e below (T31.setTop (mkF m 31 #[rv a2_0, iv (4 : Int32), iv (1 : Int32), .val (.long (2 : Int64)), .second, rv es] [(.int (5 : Int32)), (.ref a2_0)])) _
    refine st37 _ ?_
    show Steps p.tables e below (T37.setTop (mkF m 34 #[rv a2_0, iv (4 : Int32), iv (1 : Int32), .val (.long (2 : Int64)), .second, rv es] [])) _
    refine XS.aloadN X37.here hx rfl (hb hby d2_34) rfl rfl ?_
    show Steps p.tables e below (T37.setTop (mkF m 35 #[rv a2_0, iv (4 : Int32), iv (1 : Int32), .val (.long (2 : Int64)), .second, rv es] [(.ref a2_0)])) _
    refine XS.lloadN X37.here hx rfl (hb hby d2_35) rfl ?_
    show Steps p.tables e below (T37.setTop (mkF m 36 #[rv a2_0, iv (4 : Int32), iv (1 : Int32), .val (.long (2 : Int64)), .second, rv es] [(.long (2 : Int64)), (.ref a2_0)])) _
    refine XS.lconst X37.here hx rfl (hb hby d2_36) ?_
    show Steps p.tables e below (T37.setTop (mkF m 37 #[rv a2_0, iv (4 : Int32), iv (1 : Int32), .val (.long (2 : Int64)), .second, rv es] [(.long (1 : Int64)), (.long (2 : Int64)), (.ref a2_0)])) _
    refine XS.lsub X37.here hx rfl (hb hby d2_37) rfl ?_
    show Steps p.tables e below (T37.setTop (mkF m 38 #[rv a2_0, iv (4 : Int32), iv (1 : Int32), .val (.long (2 : Int64)), .second, rv es] [(.long (1 : Int64)), (.ref a2_0)])) _
    refine st43 _ ?_
    show Steps p.tables e below (T43.setTop (mkF m 41 #[rv a2_0, iv (4 : Int32), iv (1 : Int32), .val (.long (2 : Int64)), .second, rv es] [])) _
    refine XS.aloadN X43.here hx rfl (hb hby d2_41) rfl rfl ?_
    show Steps p.tables e below (T43.setTop (mkF m 42 #[rv a2_0, iv (4 : Int32), iv (1 : Int32), .val (.long (2 : Int64)), .second, rv es] [(.ref a2_0)])) _
    refine XS.aload X43.here hx rfl (hb hby d2_42) rfl rfl ?_
    show Steps p.tables e below (T43.setTop (mkF m 44 #[rv a2_0, iv (4 : Int32), iv (1 : Int32), .val (.long (2 : Int64)), .second, rv es] [(.ref es), (.ref a2_0)])) _
    refine st48 _ ?_
    show Steps p.tables e below (T48.setTop (mkF m 47 #[rv a2_0, iv (4 : Int32), iv (1 : Int32), .val (.long (2 : Int64)), .second, rv es] [(.ref es), (.ref a2_0)])) _
    refine st53 _ ?_
    show Steps p.tables e below (T53.setTop (mkF m 50 #[rv a2_0, iv (4 : Int32), iv (1 : Int32), .val (.long (2 : Int64)), .second, rv es] [])) _
    refine XS.aloadN X53.here hx rfl (hb hby d2_50) rfl rfl ?_
    show Steps p.tables e below (T53.setTop (mkF m 51 #[rv a2_0, iv (4 : Int32), iv (1 : Int32), .val (.long (2 : Int64)), .second, rv es] [(.ref a2_0)])) _
    refine XS.aloadN X53.here hx rfl (hb hby d2_51) rfl rfl ?_
    show Steps p.tables e below (T53.setTop (mkF m 52 #[rv a2_0, iv (4 : Int32), iv (1 : Int32), .val (.long (2 : Int64)), .second, rv es] [(.ref a2_0), (.ref a2_0)])) _
    refine st58 _ ?_
    show Steps p.tables e below (T58.setTop (mkF m 55 #[rv a2_0, iv (4 : Int32), iv (1 : Int32), .val (.long (2 : Int64)), .second, rv es] [(.int (5 : Int32)), (.ref a2_0)])) _
    refine st59 _ ?_
    show Steps p.tables e below (T59.setTop (mkF m 57 #[rv a2_0, iv (4 : Int32), iv (1 : Int32), .val (.long (2 : Int64)), .second, rv es] [(.ref b59), (.ref a2_0)])) _
    refine st73 _ ?_
    show Steps p.tables e below (T73.setTop (mkF m 60 #[rv a2_0, iv (4 : Int32), iv (1 : Int32), .val (.long (2 : Int64)), .second, rv es] [])) _
    exact X73.returnOut hx Bd.returns (hb hby d2_60) hr
  · show Q_rm2 Z _ _ _ h0 n0 _ T73.heap _
    rw [e73]
    exact ⟨rfl, N76, (K74), f77, f78, f79, f80⟩
theorem d7_0 : decode prog_38_method_6_code 0 = .ok (.lload_n 1, 1) := by decide +kernel
theorem d7_1 : decode prog_38_method_6_code 1 = .ok (.aload_n 0, 1) := by decide +kernel
theorem d7_2 : decode prog_38_method_6_code 2 = .ok (.getfield 50, 3) := by decide +kernel
theorem d7_5 : decode prog_38_method_6_code 5 = .ok (.lcmp, 1) := by decide +kernel
theorem d7_6 : decode prog_38_method_6_code 6 = .ok (.ifCond .lt 7, 3) := by decide +kernel
theorem d7_13 : decode prog_38_method_6_code 13 = .ok (.iconst 0, 1) := by decide +kernel
theorem d7_14 : decode prog_38_method_6_code 14 = .ok (.ireturn, 1) := by decide +kernel
theorem d7_9 : decode prog_38_method_6_code 9 = .ok (.iconst 1, 1) := by decide +kernel
theorem d7_10 : decode prog_38_method_6_code 10 = .ok (.goto 4, 3) := by decide +kernel
theorem ef_rm7 (m : MethodId) (x0 : Addr) (x1 : Int64) : entryFrame m #[(.ref x0), (.long x1)] 3 = mkF m 0 #[rv x0, .val (.long x1), .second] [] := by first | (simp [entryFrame, mkF, argsToLocals, Value.category]; done) | rfl
def Q_rm7 (Z : State) (a7_0 : Addr) (nw : Int64) (rd : Int64) (h0 : Heap) (n0 : Nat) (v : Option Value) (h : Heap) (L : List Loc) : Prop := v = some (.int (if (lcmpW nw rd) < (0 : Int32) then (0 : Int32) else (1 : Int32))) ∧ Fr n0 L ∧ h = h0
set_option maxRecDepth 65536 in
set_option maxHeartbeats 40000000 in
theorem rm7 (l : Launch) (Z : State) (a0 : Array Value) (hw : ∀ d ∈ tables_1, d.before a0 Z = true) (ws : List Jvm.Cond) (a7_0 : Addr) (nw : Int64) (rd : Int64) (h0 : Heap) (n0 : Nat) (Z0 : n0 ≤ h0.size) (pf_F_a7_0_readyAt : Fld Z h0 a7_0 "com/example/unand/unand/model/Lun" "readyAt" "J" (.long rd)) :
    MetFree l (⟨"com/example/unand/unand/model/Lun", "ready", "(J)Z"⟩ : MethodName) (head1 (Jvm.Cond.code (⟨"com/example/unand/unand/model/Lun", "ready", "(J)Z"⟩ : MethodName) prog_38_method_6_code 3 (some .boolean) :: ws) ({ frames := 0, cells := 0, slots := 0, locals := 0 } : Room)) (fun a U => a = #[(.ref a7_0), (.long nw)] ∧ Z.Warmed39 U.vm ∧ U.heap = h0) (fun _ _ _ _ _ => True) (fun _ U o U' => ∃ v L, o = .returned v ∧ Q_rm7 Z a7_0 nw rd h0 n0 v U'.heap L ∧ FrameEnd U o U' L ({ frames := 0, cells := 0, slots := 0, locals := 0 } : Room).cells ({ frames := 0, cells := 0, slots := 0, locals := 0 } : Room).slots) := by
  refine MetFree.of_bodySF (plainFor_of_name pn_com_example_unand_unand_model_Lun) hisR ?_
  intro p e s m args below meth c s₁ Bd hml0 hP hK
  obtain ⟨rfl, hZ, hh⟩ := hP
  have hx := Bd.exec
  have hby := Bd.bytes
  have hml : c.maxLocals = 3 := hml0
  have hown : s.vm.findClass "com/example/unand/unand/model/Lun" = some m.cls := findClass_of_methodNamed Bd.named
  have hnm := (name_of_methodNamed Bd.named Bd.method).1
  have X0 : Stand p l e ({ frames := 0, cells := 0, slots := 0, locals := 0 } : Room) s m #[(.ref a7_0), (.long nw)] below meth c s₁ [] 0 0 := Stand.of_body Bd
  have e0 : s₁.heap = h0 := by rw [← hh, Bd.state]; rfl
  have N0 := Fr.nil n0
  have pre0 : ∀ t, Steps p.tables e below (s₁.setTop (mkF m 0 #[rv a7_0, .val (.long nw), .second] [])) t → Steps p.tables e below (s₁.setTop (entryFrame m #[(.ref a7_0), (.long nw)] 3)) t := fun t k => castTop (ef_rm7 m a7_0 nw) k
  have wo66 := hw _ (List.mem_of_getElem? (i := 66) rfl)
  obtain ⟨T1, X1, e1, st1⟩ := getF X0 hx hZ hown (host := "") (Or.inl wo66) Via.refl e0 pf_F_a7_0_readyAt (g := (mkF m 2 #[rv a7_0, .val (.long nw), .second] [(.ref a7_0), (.long nw)])) rfl rfl (hb hby d7_2)
  have pre3 : ∀ t, Steps p.tables e below (T1.setTop (mkF m 6 #[rv a7_0, .val (.long nw), .second] [(.int (lcmpW nw rd))])) t → Steps p.tables e below (s₁.setTop (entryFrame m #[(.ref a7_0), (.long nw)] 3)) t := by
    intro t_ k_
    refine pre0 _ ?_
    show Steps p.tables e below (s₁.setTop (mkF m 0 #[rv a7_0, .val (.long nw), .second] [])) _
    refine XS.lloadN X0.here hx rfl (hb hby d7_0) rfl ?_
    show Steps p.tables e below (s₁.setTop (mkF m 1 #[rv a7_0, .val (.long nw), .second] [(.long nw)])) _
    refine XS.aloadN X0.here hx rfl (hb hby d7_1) rfl rfl ?_
    show Steps p.tables e below (s₁.setTop (mkF m 2 #[rv a7_0, .val (.long nw), .second] [(.ref a7_0), (.long nw)])) _
    refine st1 _ ?_
    show Steps p.tables e below (T1.setTop (mkF m 5 #[rv a7_0, .val (.long nw), .second] [(.long rd), (.long nw)])) _
    refine XS.lcmp X1.here hx rfl (hb hby d7_5) rfl ?_
    exact k_
  by_cases hc6_2 : (lcmpW nw rd) < (0 : Int32)
  · skip
    obtain ⟨fs, hr, hrun, hended, hW, hsame⟩ := X1.leave (v := some (.int (0 : Int32))) (fun h => by rw [Bd.returns] at h; cases h)
    refine ⟨_, _, pre3 _ ?_, hrun, hended, _, _, rfl, ?_, ⟨_, rfl⟩, hW, hsame.mono (by decide) (by decide)⟩
    · show Steps p.tables e below (T1.setTop (mkF m 6 #[rv a7_0, .val (.long nw), .second] [(.int (lcmpW nw rd))])) _
      refine XS.ifYes X1.here hx rfl (pc0 := 6) (pc' := 13) rfl (hb hby d7_6) rfl ((if0 _ _).trans (tlt hc6_2).1) (by decide) (by decide) ?_
      show Steps p.tables e below (T1.setTop (mkF m 13 #[rv a7_0, .val (.long nw), .second] [])) _
      refine XS.iconst X1.here hx rfl (hb hby d7_13) ?_
      show Steps p.tables e below (T1.setTop (mkF m 14 #[rv a7_0, .val (.long nw), .second] [(.int (0 : Int32))])) _
      exact retN X1 hx (t := .boolean) Bd.returns (by simp) (hb hby d7_14) hr
    · show Q_rm7 Z _ _ _ h0 n0 _ T1.heap _
      rw [e1]
      exact ⟨(by first | rfl | (simp [*]; done) | (simp_all; done)), N0, rfl⟩
  · skip
    obtain ⟨fs, hr, hrun, hended, hW, hsame⟩ := X1.leave (v := some (.int (1 : Int32))) (fun h => by rw [Bd.returns] at h; cases h)
    refine ⟨_, _, pre3 _ ?_, hrun, hended, _, _, rfl, ?_, ⟨_, rfl⟩, hW, hsame.mono (by decide) (by decide)⟩
    · show Steps p.tables e below (T1.setTop (mkF m 6 #[rv a7_0, .val (.long nw), .second] [(.int (lcmpW nw rd))])) _
      refine XS.ifNo X1.here hx rfl (hb hby d7_6) rfl ((if0 _ _).trans (flt hc6_2).1) ?_
      show Steps p.tables e below (T1.setTop (mkF m 9 #[rv a7_0, .val (.long nw), .second] [])) _
      refine XS.iconst X1.here hx rfl (hb hby d7_9) ?_
      show Steps p.tables e below (T1.setTop (mkF m 10 #[rv a7_0, .val (.long nw), .second] [(.int (1 : Int32))])) _
      refine XS.goto X1.here hx rfl (pc0 := 10) (pc' := 14) rfl (hb hby d7_10) (by decide) (by decide) ?_
      show Steps p.tables e below (T1.setTop (mkF m 14 #[rv a7_0, .val (.long nw), .second] [(.int (1 : Int32))])) _
      exact retN X1 hx (t := .boolean) Bd.returns (by simp) (hb hby d7_14) hr
    · show Q_rm7 Z _ _ _ h0 n0 _ T1.heap _
      rw [e1]
      exact ⟨(by first | rfl | (simp [*]; done) | (simp_all; done)), N0, rfl⟩
theorem d8_0 : decode method_2_code 0 = .ok (.iload_n 0, 1) := by decide +kernel
theorem d8_1 : decode method_2_code 1 = .ok (.ifCond .ne 7, 3) := by decide +kernel
theorem d8_4 : decode method_2_code 4 = .ok (.getstatic 7, 3) := by decide +kernel
theorem d8_7 : decode method_2_code 7 = .ok (.areturn, 1) := by decide +kernel
theorem d8_8 : decode method_2_code 8 = .ok (.iload_n 0, 1) := by decide +kernel
theorem d8_9 : decode method_2_code 9 = .ok (.iconst 1, 1) := by decide +kernel
theorem d8_10 : decode method_2_code 10 = .ok (.if_icmp .ne 7, 3) := by decide +kernel
theorem d8_13 : decode method_2_code 13 = .ok (.getstatic 13, 3) := by decide +kernel
theorem d8_16 : decode method_2_code 16 = .ok (.areturn, 1) := by decide +kernel
theorem d8_17 : decode method_2_code 17 = .ok (.iload_n 0, 1) := by decide +kernel
theorem d8_18 : decode method_2_code 18 = .ok (.iconst 2, 1) := by decide +kernel
theorem d8_19 : decode method_2_code 19 = .ok (.if_icmp .ne 7, 3) := by decide +kernel
theorem d8_22 : decode method_2_code 22 = .ok (.getstatic 16, 3) := by decide +kernel
theorem d8_25 : decode method_2_code 25 = .ok (.areturn, 1) := by decide +kernel
theorem d8_26 : decode method_2_code 26 = .ok (.iload_n 0, 1) := by decide +kernel
theorem d8_27 : decode method_2_code 27 = .ok (.iconst 3, 1) := by decide +kernel
theorem d8_28 : decode method_2_code 28 = .ok (.if_icmp .ne 7, 3) := by decide +kernel
theorem d8_31 : decode method_2_code 31 = .ok (.getstatic 19, 3) := by decide +kernel
theorem d8_34 : decode method_2_code 34 = .ok (.areturn, 1) := by decide +kernel
theorem d8_35 : decode method_2_code 35 = .ok (.getstatic 22, 3) := by decide +kernel
theorem d8_38 : decode method_2_code 38 = .ok (.areturn, 1) := by decide +kernel
theorem pn_com_example_unand_unand_model_LunReadyPinLaw : plainName "com/example/unand/unand/model/LunReadyPinLaw" = true := by first | (simp [plainName, overriddenIn]; done) | decide +kernel
theorem ef_rm8 (m : MethodId) (x0 : Int32) : entryFrame m #[(.int x0)] 1 = mkF m 0 #[iv x0] [] := by first | (simp [entryFrame, mkF, argsToLocals, Value.category]; done) | rfl
def Q_rm8 (Z : State) (p8_0 : Int32) (s_IDLE : Addr) (s_PROGRAM : Addr) (s_RESET : Addr) (s_ERASE : Addr) (s_READ : Addr) (h0 : Heap) (n0 : Nat) (v : Option Value) (h : Heap) (L : List Loc) : Prop := ∃ (ob : Addr), v = some (.ref ob) ∧ Fr n0 L ∧ h = h0
set_option maxRecDepth 65536 in
set_option maxHeartbeats 40000000 in
theorem rm8 (l : Launch) (Z : State) (a0 : Array Value) (hw : ∀ d ∈ tables_1, d.before a0 Z = true) (ws : List Jvm.Cond) (p8_0 : Int32) (s_IDLE : Addr) (s_PROGRAM : Addr) (s_RESET : Addr) (s_ERASE : Addr) (s_READ : Addr) (h0 : Heap) (n0 : Nat) (Z0 : n0 ≤ h0.size) (pf_O : Old Z n0 h0) (pf_S_com_example_unand_unand_model_Lun_Operation_IDLE : Sta Z Z.heap "com/example/unand/unand/model/Lun$Operation" "IDLE" "Lcom/example/unand/unand/model/Lun$Operation;" (.ref s_IDLE)) (pf_S_com_example_unand_unand_model_Lun_Operation_PROGRAM : Sta Z Z.heap "com/example/unand/unand/model/Lun$Operation" "PROGRAM" "Lcom/example/unand/unand/model/Lun$Operation;" (.ref s_PROGRAM)) (pf_S_com_example_unand_unand_model_Lun_Operation_RESET : Sta Z Z.heap "com/example/unand/unand/model/Lun$Operation" "RESET" "Lcom/example/unand/unand/model/Lun$Operation;" (.ref s_RESET)) (pf_S_com_example_unand_unand_model_Lun_Operation_ERASE : Sta Z Z.heap "com/example/unand/unand/model/Lun$Operation" "ERASE" "Lcom/example/unand/unand/model/Lun$Operation;" (.ref s_ERASE)) (pf_S_com_example_unand_unand_model_Lun_Operation_READ : Sta Z Z.heap "com/example/unand/unand/model/Lun$Operation" "READ" "Lcom/example/unand/unand/model/Lun$Operation;" (.ref s_READ)) :
    MetFree l (⟨"com/example/unand/unand/model/LunReadyPinLaw", "op", "(I)Lcom/example/unand/unand/model/Lun$Operation;"⟩ : MethodName) (head1 (Jvm.Cond.code (⟨"com/example/unand/unand/model/LunReadyPinLaw", "op", "(I)Lcom/example/unand/unand/model/Lun$Operation;"⟩ : MethodName) method_2_code 1 (some (.object "com/example/unand/unand/model/Lun$Operation")) :: ws) ({ frames := 0, cells := 0, slots := 0, locals := 0 } : Room)) (fun a U => a = #[(.int p8_0)] ∧ Z.Warmed39 U.vm ∧ U.heap = h0) (fun _ _ _ _ _ => True) (fun _ U o U' => ∃ v L, o = .returned v ∧ Q_rm8 Z p8_0 s_IDLE s_PROGRAM s_RESET s_ERASE s_READ h0 n0 v U'.heap L ∧ FrameEnd U o U' L ({ frames := 0, cells := 0, slots := 0, locals := 0 } : Room).cells ({ frames := 0, cells := 0, slots := 0, locals := 0 } : Room).slots) := by
  refine MetFree.of_bodySF (plainFor_of_name pn_com_example_unand_unand_model_LunReadyPinLaw) hisR ?_
  intro p e s m args below meth c s₁ Bd hml0 hP hK
  obtain ⟨rfl, hZ, hh⟩ := hP
  have hx := Bd.exec
  have hby := Bd.bytes
  have hml : c.maxLocals = 1 := hml0
  have hown : s.vm.findClass "com/example/unand/unand/model/LunReadyPinLaw" = some m.cls := findClass_of_methodNamed Bd.named
  have hnm := (name_of_methodNamed Bd.named Bd.method).1
  have X0 : Stand p l e ({ frames := 0, cells := 0, slots := 0, locals := 0 } : Room) s m #[(.int p8_0)] below meth c s₁ [] 0 0 := Stand.of_body Bd
  have e0 : s₁.heap = h0 := by rw [← hh, Bd.state]; rfl
  have N0 := Fr.nil n0
  have pre0 : ∀ t, Steps p.tables e below (s₁.setTop (mkF m 0 #[iv p8_0] [])) t → Steps p.tables e below (s₁.setTop (entryFrame m #[(.int p8_0)] 1)) t := fun t k => castTop (ef_rm8 m p8_0) k
  have wo72 := hw _ (List.mem_of_getElem? (i := 72) rfl)
  have wo79 := hw _ (List.mem_of_getElem? (i := 79) rfl)
  have wo94 := hw _ (List.mem_of_getElem? (i := 94) rfl)
  have wo95 := hw _ (List.mem_of_getElem? (i := 95) rfl)
  have wo97 := hw _ (List.mem_of_getElem? (i := 97) rfl)
  have pre2 : ∀ t, Steps p.tables e below (s₁.setTop (mkF m 1 #[iv p8_0] [(.int p8_0)])) t → Steps p.tables e below (s₁.setTop (entryFrame m #[(.int p8_0)] 1)) t := by
    intro t_ k_
    refine pre0 _ ?_
    show Steps p.tables e below (s₁.setTop (mkF m 0 #[iv p8_0] [])) _
    refine XS.iloadN X0.here hx rfl (hb hby d8_0) rfl ?_
    exact k_
  by_cases hc1_1 : p8_0 = (0 : Int32)
  · skip
    obtain ⟨T3, X3, e3, st3⟩ := getS2 X0 hx hZ hown (host := "") (Or.inl wo72) Via.refl e0 (pf_S_com_example_unand_unand_model_Lun_Operation_IDLE.ext pf_O.2) (g := (mkF m 4 #[iv p8_0] [])) rfl (hb hby d8_4)
    obtain ⟨fs, hr, hrun, hended, hW, hsame⟩ := X3.leave (v := some (.ref s_IDLE)) (fun h => by rw [Bd.returns] at h; cases h)
    refine ⟨_, _, pre2 _ ?_, hrun, hended, _, _, rfl, ?_, ⟨_, rfl⟩, hW, hsame.mono (by decide) (by decide)⟩
    · show Steps p.tables e below (s₁.setTop (mkF m 1 #[iv p8_0] [(.int p8_0)])) _
      refine XS.ifNo X0.here hx rfl (hb hby d8_1) rfl ((if0 _ _).trans (teq hc1_1).2) ?_
      show Steps p.tables e below (s₁.setTop (mkF m 4 #[iv p8_0] [])) _
      refine st3 _ ?_
      show Steps p.tables e below (T3.setTop (mkF m 7 #[iv p8_0] [(.ref s_IDLE)])) _
      exact retOut X3 hx Bd.returns rfl (Or.inr (Or.inr (Or.inr (Or.inr ⟨rfl, rfl, rfl⟩)))) (hb hby d8_7) hr
    · show Q_rm8 Z _ _ _ _ _ _ h0 n0 _ T3.heap _
      rw [e3]
      exact ⟨s_IDLE, rfl, N0, rfl⟩
  · skip
    have pre5 : ∀ t, Steps p.tables e below (s₁.setTop (mkF m 10 #[iv p8_0] [(.int (1 : Int32)), (.int p8_0)])) t → Steps p.tables e below (s₁.setTop (entryFrame m #[(.int p8_0)] 1)) t := by
      intro t_ k_
      refine pre2 _ ?_
      show Steps p.tables e below (s₁.setTop (mkF m 1 #[iv p8_0] [(.int p8_0)])) _
      refine XS.ifYes X0.here hx rfl (pc0 := 1) (pc' := 8) rfl (hb hby d8_1) rfl ((if0 _ _).trans (feq hc1_1).2) (by decide) (by decide) ?_
      show Steps p.tables e below (s₁.setTop (mkF m 8 #[iv p8_0] [])) _
      refine XS.iloadN X0.here hx rfl (hb hby d8_8) rfl ?_
      show Steps p.tables e below (s₁.setTop (mkF m 9 #[iv p8_0] [(.int p8_0)])) _
      refine XS.iconst X0.here hx rfl (hb hby d8_9) ?_
      exact k_
    by_cases hc10_4 : p8_0 = (1 : Int32)
    · skip
      obtain ⟨T6, X6, e6, st6⟩ := getS2 X0 hx hZ hown (host := "") (Or.inl wo97) Via.refl e0 (pf_S_com_example_unand_unand_model_Lun_Operation_READ.ext pf_O.2) (g := (mkF m 13 #[iv p8_0] [])) rfl (hb hby d8_13)
      obtain ⟨fs, hr, hrun, hended, hW, hsame⟩ := X6.leave (v := some (.ref s_READ)) (fun h => by rw [Bd.returns] at h; cases h)
      refine ⟨_, _, pre5 _ ?_, hrun, hended, _, _, rfl, ?_, ⟨_, rfl⟩, hW, hsame.mono (by decide) (by decide)⟩
      · show Steps p.tables e below (s₁.setTop (mkF m 10 #[iv p8_0] [(.int (1 : Int32)), (.int p8_0)])) _
        refine XS.icmpNo X0.here hx rfl (hb hby d8_10) rfl (teq hc10_4).2 ?_
        show Steps p.tables e below (s₁.setTop (mkF m 13 #[iv p8_0] [])) _
        refine st6 _ ?_
        show Steps p.tables e below (T6.setTop (mkF m 16 #[iv p8_0] [(.ref s_READ)])) _
        exact retOut X6 hx Bd.returns rfl (Or.inr (Or.inr (Or.inr (Or.inr ⟨rfl, rfl, rfl⟩)))) (hb hby d8_16) hr
      · show Q_rm8 Z _ _ _ _ _ _ h0 n0 _ T6.heap _
        rw [e6]
        exact ⟨s_READ, rfl, N0, rfl⟩
    · skip
      have pre8 : ∀ t, Steps p.tables e below (s₁.setTop (mkF m 19 #[iv p8_0] [(.int (2 : Int32)), (.int p8_0)])) t → Steps p.tables e below (s₁.setTop (entryFrame m #[(.int p8_0)] 1)) t := by
        intro t_ k_
        refine pre5 _ ?_
        show Steps p.tables e below (s₁.setTop (mkF m 10 #[iv p8_0] [(.int (1 : Int32)), (.int p8_0)])) _
        refine XS.icmpYes X0.here hx rfl (pc0 := 10) (pc' := 17) rfl (hb hby d8_10) rfl (feq hc10_4).2 (by decide) (by decide) ?_
        show Steps p.tables e below (s₁.setTop (mkF m 17 #[iv p8_0] [])) _
        refine XS.iloadN X0.here hx rfl (hb hby d8_17) rfl ?_
        show Steps p.tables e below (s₁.setTop (mkF m 18 #[iv p8_0] [(.int p8_0)])) _
        refine XS.iconst X0.here hx rfl (hb hby d8_18) ?_
        exact k_
      by_cases hc19_7 : p8_0 = (2 : Int32)
      · skip
        obtain ⟨T9, X9, e9, st9⟩ := getS2 X0 hx hZ hown (host := "") (Or.inl wo79) Via.refl e0 (pf_S_com_example_unand_unand_model_Lun_Operation_PROGRAM.ext pf_O.2) (g := (mkF m 22 #[iv p8_0] [])) rfl (hb hby d8_22)
        obtain ⟨fs, hr, hrun, hended, hW, hsame⟩ := X9.leave (v := some (.ref s_PROGRAM)) (fun h => by rw [Bd.returns] at h; cases h)
        refine ⟨_, _, pre8 _ ?_, hrun, hended, _, _, rfl, ?_, ⟨_, rfl⟩, hW, hsame.mono (by decide) (by decide)⟩
        · show Steps p.tables e below (s₁.setTop (mkF m 19 #[iv p8_0] [(.int (2 : Int32)), (.int p8_0)])) _
          refine XS.icmpNo X0.here hx rfl (hb hby d8_19) rfl (teq hc19_7).2 ?_
          show Steps p.tables e below (s₁.setTop (mkF m 22 #[iv p8_0] [])) _
          refine st9 _ ?_
          show Steps p.tables e below (T9.setTop (mkF m 25 #[iv p8_0] [(.ref s_PROGRAM)])) _
          exact retOut X9 hx Bd.returns rfl (Or.inr (Or.inr (Or.inr (Or.inr ⟨rfl, rfl, rfl⟩)))) (hb hby d8_25) hr
        · show Q_rm8 Z _ _ _ _ _ _ h0 n0 _ T9.heap _
          rw [e9]
          exact ⟨s_PROGRAM, rfl, N0, rfl⟩
      · skip
        have pre11 : ∀ t, Steps p.tables e below (s₁.setTop (mkF m 28 #[iv p8_0] [(.int (3 : Int32)), (.int p8_0)])) t → Steps p.tables e below (s₁.setTop (entryFrame m #[(.int p8_0)] 1)) t := by
          intro t_ k_
          refine pre8 _ ?_
          show Steps p.tables e below (s₁.setTop (mkF m 19 #[iv p8_0] [(.int (2 : Int32)), (.int p8_0)])) _
          refine XS.icmpYes X0.here hx rfl (pc0 := 19) (pc' := 26) rfl (hb hby d8_19) rfl (feq hc19_7).2 (by decide) (by decide) ?_
          show Steps p.tables e below (s₁.setTop (mkF m 26 #[iv p8_0] [])) _
          refine XS.iloadN X0.here hx rfl (hb hby d8_26) rfl ?_
          show Steps p.tables e below (s₁.setTop (mkF m 27 #[iv p8_0] [(.int p8_0)])) _
          refine XS.iconst X0.here hx rfl (hb hby d8_27) ?_
          exact k_
        by_cases hc28_10 : p8_0 = (3 : Int32)
        · skip
          obtain ⟨T12, X12, e12, st12⟩ := getS2 X0 hx hZ hown (host := "") (Or.inl wo95) Via.refl e0 (pf_S_com_example_unand_unand_model_Lun_Operation_ERASE.ext pf_O.2) (g := (mkF m 31 #[iv p8_0] [])) rfl (hb hby d8_31)
          obtain ⟨fs, hr, hrun, hended, hW, hsame⟩ := X12.leave (v := some (.ref s_ERASE)) (fun h => by rw [Bd.returns] at h; cases h)
          refine ⟨_, _, pre11 _ ?_, hrun, hended, _, _, rfl, ?_, ⟨_, rfl⟩, hW, hsame.mono (by decide) (by decide)⟩
          · show Steps p.tables e below (s₁.setTop (mkF m 28 #[iv p8_0] [(.int (3 : Int32)), (.int p8_0)])) _
            refine XS.icmpNo X0.here hx rfl (hb hby d8_28) rfl (teq hc28_10).2 ?_
            show Steps p.tables e below (s₁.setTop (mkF m 31 #[iv p8_0] [])) _
            refine st12 _ ?_
            show Steps p.tables e below (T12.setTop (mkF m 34 #[iv p8_0] [(.ref s_ERASE)])) _
            exact retOut X12 hx Bd.returns rfl (Or.inr (Or.inr (Or.inr (Or.inr ⟨rfl, rfl, rfl⟩)))) (hb hby d8_34) hr
          · show Q_rm8 Z _ _ _ _ _ _ h0 n0 _ T12.heap _
            rw [e12]
            exact ⟨s_ERASE, rfl, N0, rfl⟩
        · skip
          obtain ⟨T13, X13, e13, st13⟩ := getS2 X0 hx hZ hown (host := "") (Or.inl wo94) Via.refl e0 (pf_S_com_example_unand_unand_model_Lun_Operation_RESET.ext pf_O.2) (g := (mkF m 35 #[iv p8_0] [])) rfl (hb hby d8_35)
          obtain ⟨fs, hr, hrun, hended, hW, hsame⟩ := X13.leave (v := some (.ref s_RESET)) (fun h => by rw [Bd.returns] at h; cases h)
          refine ⟨_, _, pre11 _ ?_, hrun, hended, _, _, rfl, ?_, ⟨_, rfl⟩, hW, hsame.mono (by decide) (by decide)⟩
          · show Steps p.tables e below (s₁.setTop (mkF m 28 #[iv p8_0] [(.int (3 : Int32)), (.int p8_0)])) _
            refine XS.icmpYes X0.here hx rfl (pc0 := 28) (pc' := 35) rfl (hb hby d8_28) rfl (feq hc28_10).2 (by decide) (by decide) ?_
            show Steps p.tables e below (s₁.setTop (mkF m 35 #[iv p8_0] [])) _
            refine st13 _ ?_
            show Steps p.tables e below (T13.setTop (mkF m 38 #[iv p8_0] [(.ref s_RESET)])) _
            exact retOut X13 hx Bd.returns rfl (Or.inr (Or.inr (Or.inr (Or.inr ⟨rfl, rfl, rfl⟩)))) (hb hby d8_38) hr
          · show Q_rm8 Z _ _ _ _ _ _ h0 n0 _ T13.heap _
            rw [e13]
            exact ⟨s_RESET, rfl, N0, rfl⟩
theorem d9_0 : decode prog_38_method_2_code 0 = .ok (.aload_n 0, 1) := by decide +kernel
theorem d9_1 : decode prog_38_method_2_code 1 = .ok (.aload_n 1, 1) := by decide +kernel
theorem d9_2 : decode prog_38_method_2_code 2 = .ok (.putfield 22, 3) := by decide +kernel
theorem d9_5 : decode prog_38_method_2_code 5 = .ok (.aload_n 0, 1) := by decide +kernel
theorem d9_6 : decode prog_38_method_2_code 6 = .ok (.lload_n 2, 1) := by decide +kernel
theorem d9_7 : decode prog_38_method_2_code 7 = .ok (.lload 4, 2) := by decide +kernel
theorem d9_9 : decode prog_38_method_2_code 9 = .ok (.ladd, 1) := by decide +kernel
theorem d9_10 : decode prog_38_method_2_code 10 = .ok (.putfield 50, 3) := by decide +kernel
theorem d9_13 : decode prog_38_method_2_code 13 = .ok (.return_, 1) := by decide +kernel
theorem ef_rm9 (m : MethodId) (x0 : Addr) (x1 : Addr) (x2 : Int64) (x3 : Int64) : entryFrame m #[(.ref x0), (.ref x1), (.long x2), (.long x3)] 6 = mkF m 0 #[rv x0, rv x1, .val (.long x2), .second, .val (.long x3), .second] [] := by first | (simp [entryFrame, mkF, argsToLocals, Value.category]; done) | rfl
def Q_rm9 (Z : State) (a9_0 : Addr) (ob : Addr) (sa : Int64) (du : Int64) (oo : Addr) (ra : Int64) (fa : Int32) (oo2 : Int32) (h0 : Heap) (n0 : Nat) (v : Option Value) (h : Heap) (L : List Loc) : Prop := v = none ∧ Fr n0 L ∧ Keep h0 h [a9_0] ∧ (Fld Z h a9_0 "com/example/unand/unand/model/Lun" "operation" "Lcom/example/unand/unand/model/Lun$Operation;" (.ref ob)) ∧ (Fld Z h a9_0 "com/example/unand/unand/model/Lun" "readyAt" "J" (.long (sa + du))) ∧ (Fld Z h a9_0 "com/example/unand/unand/model/Lun" "failed" "Z" (.int fa)) ∧ (Fld Z h a9_0 "com/example/unand/unand/model/Lun" "outputOpen" "Z" (.int oo2))
set_option maxRecDepth 65536 in
set_option maxHeartbeats 40000000 in
theorem rm9 (l : Launch) (Z : State) (a0 : Array Value) (hw : ∀ d ∈ tables_1, d.before a0 Z = true) (ws : List Jvm.Cond) (a9_0 : Addr) (ob : Addr) (sa : Int64) (du : Int64) (oo : Addr) (ra : Int64) (fa : Int32) (oo2 : Int32) (h0 : Heap) (n0 : Nat) (Z0 : n0 ≤ h0.size) (pf_E_a9_0 : Exa Z h0 a9_0 "com/example/unand/unand/model/Lun") (pf_G_a9_0 : n0 ≤ a9_0) (pf_F_a9_0_operation : Fld Z h0 a9_0 "com/example/unand/unand/model/Lun" "operation" "Lcom/example/unand/unand/model/Lun$Operation;" (.ref oo)) (pf_F_a9_0_readyAt : Fld Z h0 a9_0 "com/example/unand/unand/model/Lun" "readyAt" "J" (.long ra)) (pf_F_a9_0_failed : Fld Z h0 a9_0 "com/example/unand/unand/model/Lun" "failed" "Z" (.int fa)) (pf_F_a9_0_outputOpen : Fld Z h0 a9_0 "com/example/unand/unand/model/Lun" "outputOpen" "Z" (.int oo2)) :
    MetFree l (⟨"com/example/unand/unand/model/Lun", "begin", "(Lcom/example/unand/unand/model/Lun$Operation;JJ)V"⟩ : MethodName) (head1 (Jvm.Cond.code (⟨"com/example/unand/unand/model/Lun", "begin", "(Lcom/example/unand/unand/model/Lun$Operation;JJ)V"⟩ : MethodName) prog_38_method_2_code 6 none :: ws) ({ frames := 0, cells := 0, slots := 0, locals := 0 } : Room)) (fun a U => a = #[(.ref a9_0), (.ref ob), (.long sa), (.long du)] ∧ Z.Warmed39 U.vm ∧ U.heap = h0) (fun _ _ _ _ _ => True) (fun _ U o U' => ∃ v L, o = .returned v ∧ Q_rm9 Z a9_0 ob sa du oo ra fa oo2 h0 n0 v U'.heap L ∧ FrameEnd U o U' L ({ frames := 0, cells := 0, slots := 0, locals := 0 } : Room).cells ({ frames := 0, cells := 0, slots := 0, locals := 0 } : Room).slots) := by
  refine MetFree.of_bodySF (plainFor_of_name pn_com_example_unand_unand_model_Lun) hisR ?_
  intro p e s m args below meth c s₁ Bd hml0 hP hK
  obtain ⟨rfl, hZ, hh⟩ := hP
  have hx := Bd.exec
  have hby := Bd.bytes
  have hml : c.maxLocals = 6 := hml0
  have hown : s.vm.findClass "com/example/unand/unand/model/Lun" = some m.cls := findClass_of_methodNamed Bd.named
  have hnm := (name_of_methodNamed Bd.named Bd.method).1
  have X0 : Stand p l e ({ frames := 0, cells := 0, slots := 0, locals := 0 } : Room) s m #[(.ref a9_0), (.ref ob), (.long sa), (.long du)] below meth c s₁ [] 0 0 := Stand.of_body Bd
  have e0 : s₁.heap = h0 := by rw [← hh, Bd.state]; rfl
  have N0 := Fr.nil n0
  have pre0 : ∀ t, Steps p.tables e below (s₁.setTop (mkF m 0 #[rv a9_0, rv ob, .val (.long sa), .second, .val (.long du), .second] [])) t → Steps p.tables e below (s₁.setTop (entryFrame m #[(.ref a9_0), (.ref ob), (.long sa), (.long du)] 6)) t := fun t k => castTop (ef_rm9 m a9_0 ob sa du) k
  have wo1 := hw _ (List.mem_of_getElem? (i := 1) rfl)
  have wo40 := hw _ (List.mem_of_getElem? (i := 40) rfl)
  have wo41 := hw _ (List.mem_of_getElem? (i := 41) rfl)
  have wo66 := hw _ (List.mem_of_getElem? (i := 66) rfl)
  have wo67 := hw _ (List.mem_of_getElem? (i := 67) rfl)
  have wo90 := hw _ (List.mem_of_getElem? (i := 90) rfl)
  have wo92 := hw _ (List.mem_of_getElem? (i := 92) rfl)
  obtain ⟨T1, h1, X1, e1, W1, st1⟩ := putF X0 hx hZ hown (host := "") (Or.inl wo40) Via.refl e0 pf_F_a9_0_operation pf_E_a9_0 (Or.inl wo41) wo1 (ty := (.object "com/example/unand/unand/model/Lun$Operation")) (by decide) rfl rfl (g := (mkF m 2 #[rv a9_0, rv ob, .val (.long sa), .second, .val (.long du), .second] [(.ref ob), (.ref a9_0)])) rfl rfl (hb hby d9_2)
  have K2 : Keep h0 h1 [a9_0] := (Keep.refl h0 [a9_0]).wr W1 (Or.inl (List.mem_of_getElem? (i := 0) rfl))
  have f3 : Fld Z h1 a9_0 "com/example/unand/unand/model/Lun" "operation" "Lcom/example/unand/unand/model/Lun$Operation;" (.ref ob) := pf_F_a9_0_operation.same W1
  have N4 := Fr.snoc X1 N0 pf_G_a9_0
  have f5 := (pf_F_a9_0_readyAt.other W1 (Or.inr (slot_ne (Or.inl wo67) (Or.inl wo41) (by decide) (t := .long) (t' := (.object "com/example/unand/unand/model/Lun$Operation")) (by decide) (by decide))))
  have f6 := (pf_E_a9_0.wr W1)
  obtain ⟨T7, h7, X7, e7, W7, st7⟩ := putF X1 hx hZ hown (host := "") (Or.inl wo66) Via.refl e1 f5 f6 (Or.inl wo67) wo1 (ty := .long) (by decide) rfl rfl (g := (mkF m 10 #[rv a9_0, rv ob, .val (.long sa), .second, .val (.long du), .second] [(.long (sa + du)), (.ref a9_0)])) rfl rfl (hb hby d9_10)
  have K8 : Keep h0 h7 [a9_0] := (K2).wr W7 (Or.inl (List.mem_of_getElem? (i := 0) rfl))
  have f9 : Fld Z h7 a9_0 "com/example/unand/unand/model/Lun" "readyAt" "J" (.long (sa + du)) := f5.same W7
  have N10 := Fr.snoc X7 N4 pf_G_a9_0
  have f11 := (f3.other W7 (Or.inr (slot_ne (Or.inl wo41) (Or.inl wo67) (by decide) (t := (.object "com/example/unand/unand/model/Lun$Operation")) (t' := .long) (by decide) (by decide))))
  have f12 := ((pf_F_a9_0_failed.other W1 (Or.inr (slot_ne (Or.inl wo90) (Or.inl wo41) (by decide) (t := .boolean) (t' := (.object "com/example/unand/unand/model/Lun$Operation")) (by decide) (by decide)))).other W7 (Or.inr (slot_ne (Or.inl wo90) (Or.inl wo67) (by decide) (t := .boolean) (t' := .long) (by decide) (by decide))))
  have f13 := ((pf_F_a9_0_outputOpen.other W1 (Or.inr (slot_ne (Or.inl wo92) (Or.inl wo41) (by decide) (t := .boolean) (t' := (.object "com/example/unand/unand/model/Lun$Operation")) (by decide) (by decide)))).other W7 (Or.inr (slot_ne (Or.inl wo92) (Or.inl wo67) (by decide) (t := .boolean) (t' := .long) (by decide) (by decide))))
  obtain ⟨fs, hr, hrun, hended, hW, hsame⟩ := X7.leave (v := none) (fun _ => rfl)
  refine ⟨_, _, pre0 _ ?_, hrun, hended, _, _, rfl, ?_, ⟨_, rfl⟩, hW, hsame.mono (by decide) (by decide)⟩
  · show Steps p.tables e below (s₁.setTop (mkF m 0 #[rv a9_0, rv ob, .val (.long sa), .second, .val (.long du), .second] [])) _
    refine XS.aloadN X0.here hx rfl (hb hby d9_0) rfl rfl ?_
    show Steps p.tables e below (s₁.setTop (mkF m 1 #[rv a9_0, rv ob, .val (.long sa), .second, .val (.long du), .second] [(.ref a9_0)])) _
    refine XS.aloadN X0.here hx rfl (hb hby d9_1) rfl rfl ?_
    show Steps p.tables e below (s₁.setTop (mkF m 2 #[rv a9_0, rv ob, .val (.long sa), .second, .val (.long du), .second] [(.ref ob), (.ref a9_0)])) _
    refine st1 _ ?_
    show Steps p.tables e below (T1.setTop (mkF m 5 #[rv a9_0, rv ob, .val (.long sa), .second, .val (.long du), .second] [])) _
    refine XS.aloadN X1.here hx rfl (hb hby d9_5) rfl rfl ?_
    show Steps p.tables e below (T1.setTop (mkF m 6 #[rv a9_0, rv ob, .val (.long sa), .second, .val (.long du), .second] [(.ref a9_0)])) _
    refine XS.lloadN X1.here hx rfl (hb hby d9_6) rfl ?_
    show Steps p.tables e below (T1.setTop (mkF m 7 #[rv a9_0, rv ob, .val (.long sa), .second, .val (.long du), .second] [(.long sa), (.ref a9_0)])) _
    refine XS.lload X1.here hx rfl (hb hby d9_7) rfl ?_
    show Steps p.tables e below (T1.setTop (mkF m 9 #[rv a9_0, rv ob, .val (.long sa), .second, .val (.long du), .second] [(.long du), (.long sa), (.ref a9_0)])) _
    refine XS.ladd X1.here hx rfl (hb hby d9_9) rfl ?_
    show Steps p.tables e below (T1.setTop (mkF m 10 #[rv a9_0, rv ob, .val (.long sa), .second, .val (.long du), .second] [(.long (sa + du)), (.ref a9_0)])) _
    refine st7 _ ?_
    show Steps p.tables e below (T7.setTop (mkF m 13 #[rv a9_0, rv ob, .val (.long sa), .second, .val (.long du), .second] [])) _
    exact X7.returnOut hx Bd.returns (hb hby d9_13) hr
  · show Q_rm9 Z _ _ _ _ _ _ _ _ h0 n0 _ T7.heap _
    rw [e7]
    exact ⟨rfl, N10, (K8), f11, f9, f12, f13⟩
theorem d10_0 : decode prog_38_method_3_code 0 = .ok (.aload_n 0, 1) := by decide +kernel
theorem d10_1 : decode prog_38_method_3_code 1 = .ok (.getstatic 53, 3) := by decide +kernel
theorem d10_4 : decode prog_38_method_3_code 4 = .ok (.lload_n 1, 1) := by decide +kernel
theorem d10_5 : decode prog_38_method_3_code 5 = .ok (.lload_n 3, 1) := by decide +kernel
theorem pd_6 : parseMethodDescriptor "(Lcom/example/unand/unand/model/Lun$Operation;JJ)V" = some ⟨[(.object "com/example/unand/unand/model/Lun$Operation"), .long, .long], none⟩ := by decide +kernel
theorem d10_6 : decode prog_38_method_3_code 6 = .ok (.invokevirtual 56, 3) := by decide +kernel
theorem d10_9 : decode prog_38_method_3_code 9 = .ok (.aload_n 0, 1) := by decide +kernel
theorem d10_10 : decode prog_38_method_3_code 10 = .ok (.iconst 0, 1) := by decide +kernel
theorem d10_11 : decode prog_38_method_3_code 11 = .ok (.putfield 60, 3) := by decide +kernel
theorem d10_14 : decode prog_38_method_3_code 14 = .ok (.aload_n 0, 1) := by decide +kernel
theorem d10_15 : decode prog_38_method_3_code 15 = .ok (.iconst 0, 1) := by decide +kernel
theorem d10_16 : decode prog_38_method_3_code 16 = .ok (.putfield 64, 3) := by decide +kernel
theorem d10_19 : decode prog_38_method_3_code 19 = .ok (.return_, 1) := by decide +kernel
theorem ef_rm10 (m : MethodId) (x0 : Addr) (x1 : Int64) (x2 : Int64) : entryFrame m #[(.ref x0), (.long x1), (.long x2)] 5 = mkF m 0 #[rv x0, .val (.long x1), .second, .val (.long x2), .second] [] := by first | (simp [entryFrame, mkF, argsToLocals, Value.category]; done) | rfl
def Q_rm10 (Z : State) (a10_0 : Addr) (sa : Int64) (du : Int64) (s_RESET : Addr) (oo : Addr) (ra : Int64) (fa : Int32) (oo2 : Int32) (h0 : Heap) (n0 : Nat) (v : Option Value) (h : Heap) (L : List Loc) : Prop := v = none ∧ Fr n0 L ∧ Keep h0 h [a10_0] ∧ (Fld Z h a10_0 "com/example/unand/unand/model/Lun" "readyAt" "J" (.long (sa + du)))
set_option maxRecDepth 65536 in
set_option maxHeartbeats 40000000 in
theorem rm10 (l : Launch) (Z : State) (a0 : Array Value) (hw : ∀ d ∈ tables_1, d.before a0 Z = true) (ws : List Jvm.Cond) (a10_0 : Addr) (sa : Int64) (du : Int64) (s_RESET : Addr) (oo : Addr) (ra : Int64) (fa : Int32) (oo2 : Int32) (h0 : Heap) (n0 : Nat) (Z0 : n0 ≤ h0.size) (pf_O : Old Z n0 h0) (pf_S_com_example_unand_unand_model_Lun_Operation_RESET : Sta Z Z.heap "com/example/unand/unand/model/Lun$Operation" "RESET" "Lcom/example/unand/unand/model/Lun$Operation;" (.ref s_RESET)) (pf_E_a10_0 : Exa Z h0 a10_0 "com/example/unand/unand/model/Lun") (pf_G_a10_0 : n0 ≤ a10_0) (pf_F_a10_0_operation : Fld Z h0 a10_0 "com/example/unand/unand/model/Lun" "operation" "Lcom/example/unand/unand/model/Lun$Operation;" (.ref oo)) (pf_F_a10_0_readyAt : Fld Z h0 a10_0 "com/example/unand/unand/model/Lun" "readyAt" "J" (.long ra)) (pf_F_a10_0_failed : Fld Z h0 a10_0 "com/example/unand/unand/model/Lun" "failed" "Z" (.int fa)) (pf_F_a10_0_outputOpen : Fld Z h0 a10_0 "com/example/unand/unand/model/Lun" "outputOpen" "Z" (.int oo2)) :
    MetFree l (⟨"com/example/unand/unand/model/Lun", "reset", "(JJ)V"⟩ : MethodName) (head1 (Jvm.Cond.code (⟨"com/example/unand/unand/model/Lun", "reset", "(JJ)V"⟩ : MethodName) prog_38_method_3_code 5 none :: ws) ({ frames := 1, cells := 0, slots := 0, locals := 17 } : Room)) (fun a U => a = #[(.ref a10_0), (.long sa), (.long du)] ∧ Z.Warmed39 U.vm ∧ U.heap = h0) (fun _ _ _ _ _ => True) (fun _ U o U' => ∃ v L, o = .returned v ∧ Q_rm10 Z a10_0 sa du s_RESET oo ra fa oo2 h0 n0 v U'.heap L ∧ FrameEnd U o U' L ({ frames := 1, cells := 0, slots := 0, locals := 17 } : Room).cells ({ frames := 1, cells := 0, slots := 0, locals := 17 } : Room).slots) := by
  refine MetFree.of_bodySF (plainFor_of_name pn_com_example_unand_unand_model_Lun) hisR ?_
  intro p e s m args below meth c s₁ Bd hml0 hP hK
  obtain ⟨rfl, hZ, hh⟩ := hP
  have hx := Bd.exec
  have hby := Bd.bytes
  have hml : c.maxLocals = 5 := hml0
  have hown : s.vm.findClass "com/example/unand/unand/model/Lun" = some m.cls := findClass_of_methodNamed Bd.named
  have hnm := (name_of_methodNamed Bd.named Bd.method).1
  have X0 : Stand p l e ({ frames := 1, cells := 0, slots := 0, locals := 17 } : Room) s m #[(.ref a10_0), (.long sa), (.long du)] below meth c s₁ [] 0 0 := Stand.of_body Bd
  have e0 : s₁.heap = h0 := by rw [← hh, Bd.state]; rfl
  have N0 := Fr.nil n0
  have pre0 : ∀ t, Steps p.tables e below (s₁.setTop (mkF m 0 #[rv a10_0, .val (.long sa), .second, .val (.long du), .second] [])) t → Steps p.tables e below (s₁.setTop (entryFrame m #[(.ref a10_0), (.long sa), (.long du)] 5)) t := fun t k => castTop (ef_rm10 m a10_0 sa du) k
  have wo1 := hw _ (List.mem_of_getElem? (i := 1) rfl)
  have wo2 := hw _ (List.mem_of_getElem? (i := 2) rfl)
  have wo67 := hw _ (List.mem_of_getElem? (i := 67) rfl)
  have wo74 := hw _ (List.mem_of_getElem? (i := 74) rfl)
  have wo75 := hw _ (List.mem_of_getElem? (i := 75) rfl)
  have wo76 := hw _ (List.mem_of_getElem? (i := 76) rfl)
  have wo77 := hw _ (List.mem_of_getElem? (i := 77) rfl)
  have wo86 := hw _ (List.mem_of_getElem? (i := 86) rfl)
  have wo88 := hw _ (List.mem_of_getElem? (i := 88) rfl)
  have wo89 := hw _ (List.mem_of_getElem? (i := 89) rfl)
  have wo90 := hw _ (List.mem_of_getElem? (i := 90) rfl)
  have wo91 := hw _ (List.mem_of_getElem? (i := 91) rfl)
  have wo92 := hw _ (List.mem_of_getElem? (i := 92) rfl)
  obtain ⟨T1, X1, e1, st1⟩ := getS2 X0 hx hZ hown (host := "") (Or.inl wo86) Via.refl e0 (pf_S_com_example_unand_unand_model_Lun_Operation_RESET.ext pf_O.2) (g := (mkF m 1 #[rv a10_0, .val (.long sa), .second, .val (.long du), .second] [(.ref a10_0)])) rfl (hb hby d10_1)
  obtain ⟨cq2, kq2, q2a, q2b, q2c⟩ := isOf hZ e1 pf_E_a10_0
  obtain ⟨_, _, ⟨T2, L2, k2, n2⟩, -, X2, ⟨Lc2, hQ2, l2, y2, z2⟩, st2⟩ := X1.virtualBack hx (y := MN9) (z := MN9) hown (mvT hZ wo88) (mvT hZ wo74) (notFace_of_selects (args := #[]) (mvT hZ wo76)) (mvT hZ wo76) (mvT hZ wo75) (by decide) (backOf (W := 0) (rm9 l Z a0 hw [] a10_0 s_RESET sa du oo ra fa oo2 h0 n0 Z0 pf_E_a10_0 pf_G_a10_0 pf_F_a10_0_operation pf_F_a10_0_readyAt pf_F_a10_0_failed pf_F_a10_0_outputOpen) hZ wo77 wo2 (by decide) (by decide)) q2a q2c (g := (mkF m 6 #[rv a10_0, .val (.long sa), .second, .val (.long du), .second] [(.long du), (.long sa), (.ref s_RESET), (.ref a10_0)])) rfl (by rw [hml]; rfl) (Steps.refl _) (argsL := [(.ref s_RESET), (.long sa), (.long du)]) (rest := []) (lenOf pd_6 rfl) rfl (by show 2 * 0 + _ ≤ _; exact Nat.le_of_eq rfl) (hb hby d10_6) (fun _ _ => ⟨rfl, e1, (by decide : 0 + 0 ≤ _), (by decide : 0 + 0 ≤ _)⟩)
  dsimp only [Pt.U, Pt.locs, Pt.cells, Pt.slots] at X2 l2 y2 z2 st2 hQ2
  subst l2 y2 z2
  obtain ⟨rfl, N2q, K2q, hq2_0, hq2_1, hq2_2, hq2_3⟩ := hQ2
  have N3 := Fr.app N0 N2q
  have K4 : Keep h0 T2.heap [a10_0] := (Keep.refl h0 [a10_0]).trans K2q (allS (P := fun x => x ∈ [a10_0] ∨ h0.size ≤ x) (Or.inl (List.mem_of_getElem? (i := 0) rfl)) all0)
  have f5 := (pf_E_a10_0.keep K2q)
  obtain ⟨T6, h6, X6, e6, W6, st6⟩ := putFN X2 hx hZ hown wo89 Via.refl rfl hq2_2 f5 (Or.inl wo90) wo1 (ty := .boolean) (v' := (.int (0 : Int32))) (by decide) rfl (by first | rfl | exact fits_nar_bool _) (g := (mkF m 11 #[rv a10_0, .val (.long sa), .second, .val (.long du), .second] [(.int (0 : Int32)), (.ref a10_0)])) rfl rfl (hb hby d10_11)
  have K7 : Keep h0 h6 [a10_0] := (K4).wr W6 (Or.inl (List.mem_of_getElem? (i := 0) rfl))
  have f8 : Fld Z h6 a10_0 "com/example/unand/unand/model/Lun" "failed" "Z" (.int (0 : Int32)) := hq2_2.same W6
  have N9 := Fr.snoc X6 N3 pf_G_a10_0
  have f10 := (hq2_3.other W6 (Or.inr (slot_ne (Or.inl wo92) (Or.inl wo90) (by decide) (t := .boolean) (t' := .boolean) (by decide) (by decide))))
  have f11 := (f5.wr W6)
  obtain ⟨T12, h12, X12, e12, W12, st12⟩ := putFN X6 hx hZ hown wo91 Via.refl e6 f10 f11 (Or.inl wo92) wo1 (ty := .boolean) (v' := (.int (0 : Int32))) (by decide) rfl (by first | rfl | exact fits_nar_bool _) (g := (mkF m 16 #[rv a10_0, .val (.long sa), .second, .val (.long du), .second] [(.int (0 : Int32)), (.ref a10_0)])) rfl rfl (hb hby d10_16)
  have K13 : Keep h0 h12 [a10_0] := (K7).wr W12 (Or.inl (List.mem_of_getElem? (i := 0) rfl))
  have f14 : Fld Z h12 a10_0 "com/example/unand/unand/model/Lun" "outputOpen" "Z" (.int (0 : Int32)) := f10.same W12
  have N15 := Fr.snoc X12 N9 pf_G_a10_0
  have f16 := ((hq2_1.other W6 (Or.inr (slot_ne (Or.inl wo67) (Or.inl wo90) (by decide) (t := .long) (t' := .boolean) (by decide) (by decide)))).other W12 (Or.inr (slot_ne (Or.inl wo67) (Or.inl wo92) (by decide) (t := .long) (t' := .boolean) (by decide) (by decide))))
  obtain ⟨fs, hr, hrun, hended, hW, hsame⟩ := X12.leave (v := none) (fun _ => rfl)
  refine ⟨_, _, pre0 _ ?_, hrun, hended, _, _, rfl, ?_, ⟨_, rfl⟩, hW, hsame.mono (by decide) (by decide)⟩
  · show Steps p.tables e below (s₁.setTop (mkF m 0 #[rv a10_0, .val (.long sa), .second, .val (.long du), .second] [])) _
    refine XS.aloadN X0.here hx rfl (hb hby d10_0) rfl rfl ?_
    show Steps p.tables e below (s₁.setTop (mkF m 1 #[rv a10_0, .val (.long sa), .second, .val (.long du), .second] [(.ref a10_0)])) _
    refine st1 _ ?_
    show Steps p.tables e below (T1.setTop (mkF m 4 #[rv a10_0, .val (.long sa), .second, .val (.long du), .second] [(.ref s_RESET), (.ref a10_0)])) _
    refine XS.lloadN X1.here hx rfl (hb hby d10_4) rfl ?_
    show Steps p.tables e below (T1.setTop (mkF m 5 #[rv a10_0, .val (.long sa), .second, .val (.long du), .second] [(.long sa), (.ref s_RESET), (.ref a10_0)])) _
    refine XS.lloadN X1.here hx rfl (hb hby d10_5) rfl ?_
    show Steps p.tables e below (T1.setTop (mkF m 6 #[rv a10_0, .val (.long sa), .second, .val (.long du), .second] [(.long du), (.long sa), (.ref s_RESET), (.ref a10_0)])) _
    refine st2.trans ?_
    show Steps p.tables e below (T2.setTop (mkF m 9 #[rv a10_0, .val (.long sa), .second, .val (.long du), .second] [])) _
    refine XS.aloadN X2.here hx rfl (hb hby d10_9) rfl rfl ?_
    show Steps p.tables e below (T2.setTop (mkF m 10 #[rv a10_0, .val (.long sa), .second, .val (.long du), .second] [(.ref a10_0)])) _
    refine XS.iconst X2.here hx rfl (hb hby d10_10) ?_
    show Steps p.tables e below (T2.setTop (mkF m 11 #[rv a10_0, .val (.long sa), .second, .val (.long du), .second] [(.int (0 : Int32)), (.ref a10_0)])) _
    refine st6 _ ?_
    show Steps p.tables e below (T6.setTop (mkF m 14 #[rv a10_0, .val (.long sa), .second, .val (.long du), .second] [])) _
    refine XS.aloadN X6.here hx rfl (hb hby d10_14) rfl rfl ?_
    show Steps p.tables e below (T6.setTop (mkF m 15 #[rv a10_0, .val (.long sa), .second, .val (.long du), .second] [(.ref a10_0)])) _
    refine XS.iconst X6.here hx rfl (hb hby d10_15) ?_
    show Steps p.tables e below (T6.setTop (mkF m 16 #[rv a10_0, .val (.long sa), .second, .val (.long du), .second] [(.int (0 : Int32)), (.ref a10_0)])) _
    refine st12 _ ?_
    show Steps p.tables e below (T12.setTop (mkF m 19 #[rv a10_0, .val (.long sa), .second, .val (.long du), .second] [])) _
    exact X12.returnOut hx Bd.returns (hb hby d10_19) hr
  · show Q_rm10 Z _ _ _ _ _ _ _ _ h0 n0 _ T12.heap _
    rw [e12]
    exact ⟨rfl, N15, (K13), f16⟩
theorem own_mx (t : Int64) : 0 ≤ (t &&& (9223372036854775807 : Int64)).toInt := by
  have e := c_maskL t 9223372036854775807 63 (by decide) (by decide)
  omega
theorem own_sd (t : Int64) : 0 ≤ (t &&& (2305843009213693951 : Int64)).toInt ∧ (t &&& (2305843009213693951 : Int64)).toInt < 2305843009213693952 := by
  have e := c_maskL t 2305843009213693951 61 (by decide) (by decide)
  omega
theorem own_r3 (t : Int64) : -2 ≤ (t % (3 : Int64)).toInt ∧ (t % (3 : Int64)).toInt ≤ 2 := by
  have e := c_lrem t 3 3 (by decide)
  rw [lrem_mod] at e
  have := rng64 t
  by_cases h : 0 ≤ t.toInt
  · have := e.1 h; omega
  · have := e.2 (by omega); omega
theorem own_add (s d : Int64) (hs : 0 ≤ s.toInt ∧ s.toInt < 2305843009213693952) (hd : 0 ≤ d.toInt ∧ d.toInt < 2305843009213693952) : (s + d).toInt = s.toInt + d.toInt := by
  have q := c_ladd s d
  have q2 := rng64 (s + d)
  omega
theorem own_add3 (x y : Int64) (hx : 0 ≤ x.toInt ∧ x.toInt < 4611686018427387904) (hy : -2 ≤ y.toInt ∧ y.toInt ≤ 2) : (x + y).toInt = x.toInt + y.toInt := by
  have q := c_ladd x y
  have q2 := rng64 (x + y)
  omega
theorem own_fin (n s d : Int64) (hn : -2 ≤ n.toInt) (hs : 0 ≤ s.toInt ∧ s.toInt < 2305843009213693952) (hd : 0 ≤ d.toInt ∧ d.toInt < 2305843009213693952) : ((lcmpW (n - s) d) < (0 : Int32)) ↔ ((lcmpW n (s + d)) < (0 : Int32)) := by
  rw [lw_lt, lw_lt, Int64.lt_iff_toInt_lt, Int64.lt_iff_toInt_lt, own_add s d hs hd]
  have q := c_lsub n s
  have q2 := rng64 (n - s)
  have q3 := rng64 n
  omega
theorem own_nn (n : Int64) (h : 0 ≤ n.toInt) : ¬ ((lcmpW n (0 : Int64)) < (0 : Int32)) := by
  rw [lw_lt, Int64.lt_iff_toInt_lt]
  simp only [Int64.reduceToInt]
  omega
theorem pd_0 : parseMethodDescriptor "()Ljava/util/Set;" = some ⟨[], some (.object "java/util/Set")⟩ := by decide +kernel
theorem pd_3 : parseMethodDescriptor "(IIJLjava/util/Set;)V" = some ⟨[.int, .int, .long, (.object "java/util/Set")], none⟩ := by decide +kernel
theorem pd_4 : parseMethodDescriptor "(J)Z" = some ⟨[.long], some .boolean⟩ := by decide +kernel
theorem pd_2 : parseMethodDescriptor "(I)Lcom/example/unand/unand/model/Lun$Operation;" = some ⟨[.int], some (.object "com/example/unand/unand/model/Lun$Operation")⟩ := by decide +kernel
theorem pd_5 : parseMethodDescriptor "(JJ)V" = some ⟨[.long, .long], none⟩ := by decide +kernel
theorem ef_rm0 (m : MethodId) (x0 : Int64) (x1 : Int64) (x2 : Int64) (x3 : Int64) (x4 : Int64) (x5 : Int32) : entryFrame m #[(.long x0), (.long x1), (.long x2), (.long x3), (.long x4), (.int x5)] maxLocals = mkF m 0 #[.val (.long x0), .second, .val (.long x1), .second, .val (.long x2), .second, .val (.long x3), .second, .val (.long x4), .second, iv x5, .unset, .unset, .unset, .unset, .unset, .unset, .unset, .unset, .unset, .unset, .unset] [] := by first | (simp [entryFrame, mkF, argsToLocals, Value.category, maxLocals]; done) | rfl
def Q_rm0 (Z : State) (q0_0 : Int64) (q0_1 : Int64) (q0_2 : Int64) (q0_3 : Int64) (q0_4 : Int64) (p0_5 : Int32) (s_IDLE : Addr) (s_PROGRAM : Addr) (s_RESET : Addr) (s_ERASE : Addr) (s_READ : Addr) (es : Addr) (h0 : Heap) (n0 : Nat) (v : Option Value) (h : Heap) (L : List Loc) : Prop := v = some (.int (1 : Int32)) ∧ Fr n0 L ∧ Keep h0 h []
set_option maxRecDepth 65536 in
set_option maxHeartbeats 40000000 in
theorem rm0 (l : Launch) (Z : State) (a0 : Array Value) (hw : ∀ d ∈ tables_1, d.before a0 Z = true) (ws : List Jvm.Cond) (q0_0 : Int64) (q0_1 : Int64) (q0_2 : Int64) (q0_3 : Int64) (q0_4 : Int64) (p0_5 : Int32) (s_IDLE : Addr) (s_PROGRAM : Addr) (s_RESET : Addr) (s_ERASE : Addr) (s_READ : Addr) (es : Addr) (h0 : Heap) (n0 : Nat) (Z0 : n0 ≤ h0.size) (pf_O : Old Z n0 h0) (pf_S_com_example_unand_unand_model_Lun_Operation_IDLE : Sta Z Z.heap "com/example/unand/unand/model/Lun$Operation" "IDLE" "Lcom/example/unand/unand/model/Lun$Operation;" (.ref s_IDLE)) (pf_E_s_IDLE : Exa Z h0 s_IDLE "com/example/unand/unand/model/Lun$Operation") (pf_S_com_example_unand_unand_model_Lun_Operation_PROGRAM : Sta Z Z.heap "com/example/unand/unand/model/Lun$Operation" "PROGRAM" "Lcom/example/unand/unand/model/Lun$Operation;" (.ref s_PROGRAM)) (pf_E_s_PROGRAM : Exa Z h0 s_PROGRAM "com/example/unand/unand/model/Lun$Operation") (pf_S_com_example_unand_unand_model_Lun_Operation_RESET : Sta Z Z.heap "com/example/unand/unand/model/Lun$Operation" "RESET" "Lcom/example/unand/unand/model/Lun$Operation;" (.ref s_RESET)) (pf_E_s_RESET : Exa Z h0 s_RESET "com/example/unand/unand/model/Lun$Operation") (pf_S_com_example_unand_unand_model_Lun_Operation_ERASE : Sta Z Z.heap "com/example/unand/unand/model/Lun$Operation" "ERASE" "Lcom/example/unand/unand/model/Lun$Operation;" (.ref s_ERASE)) (pf_E_s_ERASE : Exa Z h0 s_ERASE "com/example/unand/unand/model/Lun$Operation") (pf_S_com_example_unand_unand_model_Lun_Operation_READ : Sta Z Z.heap "com/example/unand/unand/model/Lun$Operation" "READ" "Lcom/example/unand/unand/model/Lun$Operation;" (.ref s_READ)) (pf_E_s_READ : Exa Z h0 s_READ "com/example/unand/unand/model/Lun$Operation") (pf_S_java_util_ImmutableCollections_EMPTY_SET : Sta Z Z.heap "java/util/ImmutableCollections" "EMPTY_SET" "Ljava/util/ImmutableCollections$SetN;" (.ref es)) (pf_E_es : Exa Z h0 es "java/util/ImmutableCollections$SetN") :
    MetFree l x (head1 (Jvm.Cond.code x code maxLocals ret :: ws) room_1) (fun a U => a = #[(.long q0_0), (.long q0_1), (.long q0_2), (.long q0_3), (.long q0_4), (.int p0_5)] ∧ Z.Warmed39 U.vm ∧ U.heap = h0) (fun _ _ _ _ _ => True) (fun _ U o U' => ∃ v L, o = .returned v ∧ Q_rm0 Z q0_0 q0_1 q0_2 q0_3 q0_4 p0_5 s_IDLE s_PROGRAM s_RESET s_ERASE s_READ es h0 n0 v U'.heap L ∧ FrameEnd U o U' L room_1.cells room_1.slots) := by
  refine MetFree.of_bodySF (plainFor_of_name pn_com_example_unand_unand_model_LunReadyPinLaw) hisR ?_
  intro p e s m args below meth c s₁ Bd hml0 hP hK
  obtain ⟨rfl, hZ, hh⟩ := hP
  have hx := Bd.exec
  have hby := Bd.bytes
  have hml : c.maxLocals = 22 := hml0
  have hown : s.vm.findClass "com/example/unand/unand/model/LunReadyPinLaw" = some m.cls := findClass_of_methodNamed Bd.named
  have hnm := (name_of_methodNamed Bd.named Bd.method).1
  have X0 : Stand p l e room_1 s m #[(.long q0_0), (.long q0_1), (.long q0_2), (.long q0_3), (.long q0_4), (.int p0_5)] below meth c s₁ [] 0 0 := Stand.of_body Bd
  have e0 : s₁.heap = h0 := by rw [← hh, Bd.state]; rfl
  have N0 := Fr.nil n0
  have pre0 : ∀ t, Steps p.tables e below (s₁.setTop (mkF m 0 #[.val (.long q0_0), .second, .val (.long q0_1), .second, .val (.long q0_2), .second, .val (.long q0_3), .second, .val (.long q0_4), .second, iv p0_5, .unset, .unset, .unset, .unset, .unset, .unset, .unset, .unset, .unset, .unset, .unset] [])) t → Steps p.tables e below (s₁.setTop (entryFrame m #[(.long q0_0), (.long q0_1), (.long q0_2), (.long q0_3), (.long q0_4), (.int p0_5)] maxLocals)) t := fun t k => castTop (ef_rm0 m q0_0 q0_1 q0_2 q0_3 q0_4 p0_5) k
  have wo0 := hw _ (List.mem_of_getElem? (i := 0) rfl)
  have wo1 := hw _ (List.mem_of_getElem? (i := 1) rfl)
  have wo2 := hw _ (List.mem_of_getElem? (i := 2) rfl)
  have wo3 := hw _ (List.mem_of_getElem? (i := 3) rfl)
  have wo4 := hw _ (List.mem_of_getElem? (i := 4) rfl)
  have wo5 := hw _ (List.mem_of_getElem? (i := 5) rfl)
  have wo6 := hw _ (List.mem_of_getElem? (i := 6) rfl)
  have wo7 := hw _ (List.mem_of_getElem? (i := 7) rfl)
  have wo10 := hw _ (List.mem_of_getElem? (i := 10) rfl)
  have wo11 := hw _ (List.mem_of_getElem? (i := 11) rfl)
  have wo12 := hw _ (List.mem_of_getElem? (i := 12) rfl)
  have wo36 := hw _ (List.mem_of_getElem? (i := 36) rfl)
  have wo41 := hw _ (List.mem_of_getElem? (i := 41) rfl)
  have wo43 := hw _ (List.mem_of_getElem? (i := 43) rfl)
  have wo45 := hw _ (List.mem_of_getElem? (i := 45) rfl)
  have wo47 := hw _ (List.mem_of_getElem? (i := 47) rfl)
  have wo56 := hw _ (List.mem_of_getElem? (i := 56) rfl)
  have wo59 := hw _ (List.mem_of_getElem? (i := 59) rfl)
  have wo60 := hw _ (List.mem_of_getElem? (i := 60) rfl)
  have wo61 := hw _ (List.mem_of_getElem? (i := 61) rfl)
  have wo62 := hw _ (List.mem_of_getElem? (i := 62) rfl)
  have wo63 := hw _ (List.mem_of_getElem? (i := 63) rfl)
  have wo64 := hw _ (List.mem_of_getElem? (i := 64) rfl)
  have wo65 := hw _ (List.mem_of_getElem? (i := 65) rfl)
  have wo67 := hw _ (List.mem_of_getElem? (i := 67) rfl)
  have wo68 := hw _ (List.mem_of_getElem? (i := 68) rfl)
  have wo69 := hw _ (List.mem_of_getElem? (i := 69) rfl)
  have wo70 := hw _ (List.mem_of_getElem? (i := 70) rfl)
  have wo71 := hw _ (List.mem_of_getElem? (i := 71) rfl)
  have wo73 := hw _ (List.mem_of_getElem? (i := 73) rfl)
  have wo74 := hw _ (List.mem_of_getElem? (i := 74) rfl)
  have wo75 := hw _ (List.mem_of_getElem? (i := 75) rfl)
  have wo76 := hw _ (List.mem_of_getElem? (i := 76) rfl)
  have wo77 := hw _ (List.mem_of_getElem? (i := 77) rfl)
  have wo78 := hw _ (List.mem_of_getElem? (i := 78) rfl)
  have wo81 := hw _ (List.mem_of_getElem? (i := 81) rfl)
  have wo82 := hw _ (List.mem_of_getElem? (i := 82) rfl)
  have wo83 := hw _ (List.mem_of_getElem? (i := 83) rfl)
  have wo84 := hw _ (List.mem_of_getElem? (i := 84) rfl)
  have wo85 := hw _ (List.mem_of_getElem? (i := 85) rfl)
  have wo90 := hw _ (List.mem_of_getElem? (i := 90) rfl)
  have wo92 := hw _ (List.mem_of_getElem? (i := 92) rfl)
  have wo93 := hw _ (List.mem_of_getElem? (i := 93) rfl)
  obtain ⟨T1, h1, X1, e1, E1, A1, D1, -, st1⟩ := newO X0 hx hZ hown wo0 wo1 wo2 e0 (g := (mkF m 0 #[.val (.long q0_0), .second, .val (.long q0_1), .second, .val (.long q0_2), .second, .val (.long q0_3), .second, .val (.long q0_4), .second, iv p0_5, .unset, .unset, .unset, .unset, .unset, .unset, .unset, .unset, .unset, .unset, .unset] [])) rfl (hb hby at_0) (by decide) (by decide)
  obtain ⟨b1, gg1⟩ : ∃ z, z = h0.size := ⟨_, rfl⟩
  rw [← gg1] at A1 D1 st1
  have ne2 : s_IDLE ≠ b1 := Nat.ne_of_lt (Nat.lt_of_lt_of_le pf_E_s_IDLE.lt (Nat.le_of_eq gg1.symm))
  have ne3 : s_PROGRAM ≠ b1 := Nat.ne_of_lt (Nat.lt_of_lt_of_le pf_E_s_PROGRAM.lt (Nat.le_of_eq gg1.symm))
  have ne4 : s_RESET ≠ b1 := Nat.ne_of_lt (Nat.lt_of_lt_of_le pf_E_s_RESET.lt (Nat.le_of_eq gg1.symm))
  have ne5 : s_ERASE ≠ b1 := Nat.ne_of_lt (Nat.lt_of_lt_of_le pf_E_s_ERASE.lt (Nat.le_of_eq gg1.symm))
  have ne6 : s_READ ≠ b1 := Nat.ne_of_lt (Nat.lt_of_lt_of_le pf_E_s_READ.lt (Nat.le_of_eq gg1.symm))
  have ne7 : es ≠ b1 := Nat.ne_of_lt (Nat.lt_of_lt_of_le pf_E_es.lt (Nat.le_of_eq gg1.symm))
  have g8 : n0 ≤ b1 := Nat.le_trans Z0 (Nat.le_of_eq gg1.symm)
  have bz9 : h0.size ≤ b1 := Nat.le_trans (Keep.refl h0 []).1 (Nat.le_of_eq gg1.symm)
  have K10 : Keep h0 h1 [] := (Keep.refl h0 []).ext E1
  have f11 : Fld Z h1 b1 "com/example/unand/unand/model/Lun" "programmed" "Ljava/util/NavigableMap;" .null := D1 (Or.inr wo36) (ty := (.object "java/util/NavigableMap")) (by decide)
  have f12 : Fld Z h1 b1 "com/example/unand/unand/model/Lun" "operation" "Lcom/example/unand/unand/model/Lun$Operation;" .null := D1 (Or.inl wo41) (ty := (.object "com/example/unand/unand/model/Lun$Operation")) (by decide)
  have f13 : Fld Z h1 b1 "com/example/unand/unand/model/Lun" "dataBytes" "I" (.int (0 : Int32)) := D1 (Or.inr wo43) (ty := .int) (by decide)
  have f14 : Fld Z h1 b1 "com/example/unand/unand/model/Lun" "pageBytes" "I" (.int (0 : Int32)) := D1 (Or.inr wo45) (ty := .int) (by decide)
  have f15 : Fld Z h1 b1 "com/example/unand/unand/model/Lun" "lastPage" "J" (.long (0 : Int64)) := D1 (Or.inr wo47) (ty := .long) (by decide)
  have f16 : Fld Z h1 b1 "com/example/unand/unand/model/Lun" "factoryBadBlocks" "Ljava/util/Set;" .null := D1 (Or.inr wo56) (ty := (.object "java/util/Set")) (by decide)
  have f17 : Fld Z h1 b1 "com/example/unand/unand/model/Lun" "pageRegister" "[B" .null := D1 (Or.inr wo59) (ty := (.array .byte)) (by decide)
  have f18 : Fld Z h1 b1 "com/example/unand/unand/model/Lun" "readyAt" "J" (.long (0 : Int64)) := D1 (Or.inl wo67) (ty := .long) (by decide)
  have f19 : Fld Z h1 b1 "com/example/unand/unand/model/Lun" "failed" "Z" (.int (0 : Int32)) := D1 (Or.inl wo90) (ty := .boolean) (by decide)
  have f20 : Fld Z h1 b1 "com/example/unand/unand/model/Lun" "outputOpen" "Z" (.int (0 : Int32)) := D1 (Or.inl wo92) (ty := .boolean) (by decide)
  have f21 := (pf_O.ext E1)
  have f23 := (Nat.le_trans Z0 E1.1)
  obtain ⟨_, _, ⟨T22, L22, k22, n22⟩, -, X22, ⟨Lc22, hQ22, l22, y22, z22⟩, st22⟩ := Jvm.LawKit.callS X1 hx (y := MN1) hown (mvT hZ wo4) (mvT hZ wo5) (mvT hZ wo6) (mvT hZ wo7) (by decide) (backOf (W := 6) (rm1 l Z a0 hw [] es h1 n0 f23 f21 pf_S_java_util_ImmutableCollections_EMPTY_SET) hZ wo7 wo6 (by decide) (by decide)) (g := (mkF m 9 #[.val (.long q0_0), .second, .val (.long q0_1), .second, .val (.long q0_2), .second, .val (.long q0_3), .second, .val (.long q0_4), .second, iv p0_5, .unset, .unset, .unset, .unset, .unset, .unset, .unset, .unset, .unset, .unset, .unset] [(.long (2 : Int64)), (.int (1 : Int32)), (.int (4 : Int32)), (.ref b1), (.ref b1)])) rfl (by rw [hml]; rfl) (argsL := []) (rest := [(.long (2 : Int64)), (.int (1 : Int32)), (.int (4 : Int32)), (.ref b1), (.ref b1)]) (lenOf pd_0 rfl) rfl (by show 2 * 0 + _ ≤ _; exact Nat.le_of_eq rfl) (hb hby at_9) (fun _ _ => ⟨rfl, e1, (by decide : 1 + 0 ≤ _), (by decide : 11 + 0 ≤ _)⟩)
  dsimp only [Pt.U, Pt.locs, Pt.cells, Pt.slots] at X22 l22 y22 z22 st22 hQ22
  subst l22 y22 z22
  obtain ⟨rfl, N22q, K22q⟩ := hQ22
  have N24 := Fr.app N0 N22q
  have f25 := (pf_E_es.ext E1)
  obtain ⟨_, _, ⟨T26, L26, k26, n26⟩, -, X26, ⟨Lc26, hQ26, l26, y26, z26⟩, st26⟩ := X22.specialBack hx (y := MN2) rfl hown (mvT hZ wo10) (mvT hZ wo11) (mvT hZ wo12) (by decide) (backOf (W := 1) (rm2 l Z a0 hw [] b1 es s_IDLE h1 n0 f23 f21 pf_S_com_example_unand_unand_model_Lun_Operation_IDLE f25 A1 g8 f11 f12 f13 f14 f15 f16 f17 f18 f19 f20) hZ wo12 wo2 (by decide) (by decide)) (g := (mkF m 12 #[.val (.long q0_0), .second, .val (.long q0_1), .second, .val (.long q0_2), .second, .val (.long q0_3), .second, .val (.long q0_4), .second, iv p0_5, .unset, .unset, .unset, .unset, .unset, .unset, .unset, .unset, .unset, .unset, .unset] [(.ref es), (.long (2 : Int64)), (.int (1 : Int32)), (.int (4 : Int32)), (.ref b1), (.ref b1)])) rfl (by rw [hml]; rfl) (Steps.refl _) (a := b1) (argsL := [(.int (4 : Int32)), (.int (1 : Int32)), (.long (2 : Int64)), (.ref es)]) (rest := [(.ref b1)]) (lenOf pd_3 rfl) rfl (by show 2 * 0 + _ ≤ _; exact Nat.le_of_eq rfl) (hb hby at_12) (fun _ _ => ⟨rfl, K22q, (by decide : 1 + 2 ≤ _), (by decide : 11 + 14 ≤ _)⟩)
  dsimp only [Pt.U, Pt.locs, Pt.cells, Pt.slots] at X26 l26 y26 z26 st26 hQ26
  subst l26 y26 z26
  obtain ⟨rfl, N26q, K26q, hq26_0, hq26_1, hq26_2, hq26_3⟩ := hQ26
  have N27 := Fr.app N24 N26q
  have K28 : Keep h0 T26.heap [] := (K10).trans K26q (allS (P := fun x => x ∈ [] ∨ h0.size ≤ x) (Or.inr bz9) all0)
  have f30 := (Nat.le_trans f23 K26q.1)
  have f31 := (A1.keep K26q)
  obtain ⟨cq29, kq29, q29a, q29b, q29c⟩ := isOf hZ rfl f31
  obtain ⟨_, _, ⟨T29, L29, k29, n29⟩, -, X29, ⟨Lc29, hQ29, l29, y29, z29⟩, st29⟩ := X26.virtualBack hx (y := MN7) (z := MN7) hown (mvT hZ wo61) (mvT hZ wo62) (notFace_of_selects (args := #[]) (mvT hZ wo64)) (mvT hZ wo64) (mvT hZ wo63) (by decide) (backOf (W := 0) (rm7 l Z a0 hw [] b1 (q0_2 &&& (9223372036854775807 : Int64)) (0 : Int64) (T26.heap) n0 f30 hq26_1) hZ wo65 wo2 (by decide) (by decide)) q29a q29c (g := (mkF m 25 #[.val (.long q0_0), .second, .val (.long q0_1), .second, .val (.long q0_2), .second, .val (.long q0_3), .second, .val (.long q0_4), .second, iv p0_5, rv b1, .unset, .unset, .unset, .unset, .unset, .unset, .unset, .unset, .unset, .unset] [(.long (q0_2 &&& (9223372036854775807 : Int64))), (.ref b1)])) rfl (by rw [hml]; rfl) (Steps.refl _) (argsL := [(.long (q0_2 &&& (9223372036854775807 : Int64)))]) (rest := []) (lenOf pd_4 rfl) rfl (by show 2 * 0 + _ ≤ _; exact Nat.le_of_eq rfl) (hb hby at_25) (fun _ _ => ⟨rfl, rfl, (by decide : 3 + 0 ≤ _), (by decide : 25 + 0 ≤ _)⟩)
  dsimp only [Pt.U, Pt.locs, Pt.cells, Pt.slots] at X29 l29 y29 z29 st29 hQ29
  subst l29 y29 z29
  obtain ⟨rfl, N29q, K29q⟩ := hQ29
  have N32 := Fr.app N27 N29q
  have q33 : (if (lcmpW (q0_2 &&& (9223372036854775807 : Int64)) (0 : Int64)) < (0 : Int32) then (0 : Int32) else (1 : Int32)) = (1 : Int32) := if_neg (own_nn _ (own_mx _))
  have f34 := (f21.keep K26q (allS g8 all0))
  obtain ⟨_, _, ⟨T35, L35, k35, n35⟩, -, X35, ⟨Lc35, hQ35, l35, y35, z35⟩, st35⟩ := Jvm.LawKit.callS X29 hx (y := MN8) hown (mvT hZ wo68) (mvT hZ wo69) (mvT hZ wo70) (mvT hZ wo71) (by decide) (backOf (W := 1) (rm8 l Z a0 hw [] ((((p0_5.toUInt32 >>> ((8 : Int32) &&& 31).toUInt32).toInt32) &&& (7 : Int32)) % (5 : Int32)) s_IDLE s_PROGRAM s_RESET s_ERASE s_READ (T26.heap) n0 f30 f34 pf_S_com_example_unand_unand_model_Lun_Operation_IDLE pf_S_com_example_unand_unand_model_Lun_Operation_PROGRAM pf_S_com_example_unand_unand_model_Lun_Operation_RESET pf_S_com_example_unand_unand_model_Lun_Operation_ERASE pf_S_com_example_unand_unand_model_Lun_Operation_READ) hZ wo71 wo70 (by decide) (by decide)) (g := (mkF m 42 #[.val (.long q0_0), .second, .val (.long q0_1), .second, .val (.long q0_2), .second, .val (.long q0_3), .second, .val (.long q0_4), .second, iv p0_5, rv b1, iv (1 : Int32), .unset, .unset, .unset, .unset, .unset, .unset, .unset, .unset, .unset] [(.int ((((p0_5.toUInt32 >>> ((8 : Int32) &&& 31).toUInt32).toInt32) &&& (7 : Int32)) % (5 : Int32))), (.ref b1)])) rfl (by rw [hml]; rfl) (argsL := [(.int ((((p0_5.toUInt32 >>> ((8 : Int32) &&& 31).toUInt32).toInt32) &&& (7 : Int32)) % (5 : Int32)))]) (rest := [(.ref b1)]) (lenOf pd_2 rfl) rfl (by show 2 * 0 + _ ≤ _; exact Nat.le_of_eq rfl) (hb hby at_42) (fun _ _ => ⟨rfl, K29q, (by decide : 3 + 0 ≤ _), (by decide : 25 + 0 ≤ _)⟩)
  dsimp only [Pt.U, Pt.locs, Pt.cells, Pt.slots] at X35 l35 y35 z35 st35 hQ35
  subst l35 y35 z35
  obtain ⟨ob_35, rfl, N35q, K35q⟩ := hQ35
  have N36 := Fr.app N32 N35q
  obtain ⟨cq37, kq37, q37a, q37b, q37c⟩ := isOf hZ K35q f31
  obtain ⟨_, _, ⟨T37, L37, k37, n37⟩, -, X37, ⟨Lc37, hQ37, l37, y37, z37⟩, st37⟩ := X35.virtualBack hx (y := MN9) (z := MN9) hown (mvT hZ wo73) (mvT hZ wo74) (notFace_of_selects (args := #[]) (mvT hZ wo76)) (mvT hZ wo76) (mvT hZ wo75) (by decide) (backOf (W := 0) (rm9 l Z a0 hw [] b1 ob_35 q0_3 q0_4 s_IDLE (0 : Int64) (0 : Int32) (0 : Int32) (T26.heap) n0 f30 f31 g8 hq26_0 hq26_1 hq26_2 hq26_3) hZ wo77 wo2 (by decide) (by decide)) q37a q37c (g := (mkF m 49 #[.val (.long q0_0), .second, .val (.long q0_1), .second, .val (.long q0_2), .second, .val (.long q0_3), .second, .val (.long q0_4), .second, iv p0_5, rv b1, iv (1 : Int32), .unset, .unset, .unset, .unset, .unset, .unset, .unset, .unset, .unset] [(.long q0_4), (.long q0_3), (.ref ob_35), (.ref b1)])) rfl (by rw [hml]; rfl) (Steps.refl _) (argsL := [(.ref ob_35), (.long q0_3), (.long q0_4)]) (rest := []) (lenOf pd_6 rfl) rfl (by show 2 * 0 + _ ≤ _; exact Nat.le_of_eq rfl) (hb hby at_49) (fun _ _ => ⟨rfl, K35q, (by decide : 3 + 0 ≤ _), (by decide : 25 + 0 ≤ _)⟩)
  dsimp only [Pt.U, Pt.locs, Pt.cells, Pt.slots] at X37 l37 y37 z37 st37 hQ37
  subst l37 y37 z37
  obtain ⟨rfl, N37q, K37q, hq37_0, hq37_1, hq37_2, hq37_3⟩ := hQ37
  have N38 := Fr.app N36 N37q
  have K39 : Keep h0 T37.heap [] := (K28).trans K37q (allS (P := fun x => x ∈ [] ∨ h0.size ≤ x) (Or.inr bz9) all0)
  obtain ⟨sta, h_sta⟩ : ∃ z : Int64, z = (q0_0 &&& (2305843009213693951 : Int64)) := ⟨_, rfl⟩
  have hst : 0 ≤ sta.toInt ∧ sta.toInt < 2305843009213693952 := by rw [h_sta]; exact own_sd _
  obtain ⟨dur, h_dur⟩ : ∃ z : Int64, z = (q0_1 &&& (2305843009213693951 : Int64)) := ⟨_, rfl⟩
  have hdu : 0 ≤ dur.toInt ∧ dur.toInt < 2305843009213693952 := by rw [h_dur]; exact own_sd _
  have pre41 : ∀ t, Steps p.tables e below (T37.setTop (mkF m 71 #[.val (.long q0_0), .second, .val (.long q0_1), .second, .val (.long q0_2), .second, .val (.long q0_3), .second, .val (.long q0_4), .second, iv p0_5, rv b1, iv (1 : Int32), .val (.long sta), .second, .val (.long dur), .second, .unset, .unset, .unset, .unset, .unset] [(.int (p0_5 &&& (8 : Int32)))])) t → Steps p.tables e below (s₁.setTop (entryFrame m #[(.long q0_0), (.long q0_1), (.long q0_2), (.long q0_3), (.long q0_4), (.int p0_5)] maxLocals)) t := by
    intro t_ k_
    refine pre0 _ ?_
    show Steps p.tables e below (s₁.setTop (mkF m 0 #[.val (.long q0_0), .second, .val (.long q0_1), .second, .val (.long q0_2), .second, .val (.long q0_3), .second, .val (.long q0_4), .second, iv p0_5, .unset, .unset, .unset, .unset, .unset, .unset, .unset, .unset, .unset, .unset, .unset] [])) _
    refine st1 _ ?_
    show Steps p.tables e below (T1.setTop (mkF m 3 #[.val (.long q0_0), .second, .val (.long q0_1), .second, .val (.long q0_2), .second, .val (.long q0_3), .second, .val (.long q0_4), .second, iv p0_5, .unset, .unset, .unset, .unset, .unset, .unset, .unset, .unset, .unset, .unset, .unset] [(.ref b1)])) _
    refine XS.dup X1.here hx rfl (hb hby at_3) rfl rfl ?_
    show Steps p.tables e below (T1.setTop (mkF m 4 #[.val (.long q0_0), .second, .val (.long q0_1), .second, .val (.long q0_2), .second, .val (.long q0_3), .second, .val (.long q0_4), .second, iv p0_5, .unset, .unset, .unset, .unset, .unset, .unset, .unset, .unset, .unset, .unset, .unset] [(.ref b1), (.ref b1)])) _
    refine XS.iconst X1.here hx rfl (hb hby at_4) ?_
    show Steps p.tables e below (T1.setTop (mkF m 5 #[.val (.long q0_0), .second, .val (.long q0_1), .second, .val (.long q0_2), .second, .val (.long q0_3), .second, .val (.long q0_4), .second, iv p0_5, .unset, .unset, .unset, .unset, .unset, .unset, .unset, .unset, .unset, .unset, .unset] [(.int (4 : Int32)), (.ref b1), (.ref b1)])) _
    refine XS.iconst X1.here hx rfl (hb hby at_5) ?_
    show Steps p.tables e below (T1.setTop (mkF m 6 #[.val (.long q0_0), .second, .val (.long q0_1), .second, .val (.long q0_2), .second, .val (.long q0_3), .second, .val (.long q0_4), .second, iv p0_5, .unset, .unset, .unset, .unset, .unset, .unset, .unset, .unset, .unset, .unset, .unset] [(.int (1 : Int32)), (.int (4 : Int32)), (.ref b1), (.ref b1)])) _
    refine X1.ldc2Long hx hown (mvT hZ wo3) (g := (mkF m 6 #[.val (.long q0_0), .second, .val (.long q0_1), .second, .val (.long q0_2), .second, .val (.long q0_3), .second, .val (.long q0_4), .second, iv p0_5, .unset, .unset, .unset, .unset, .unset, .unset, .unset, .unset, .unset, .unset, .unset] [(.int (1 : Int32)), (.int (4 : Int32)), (.ref b1), (.ref b1)])) rfl (hb hby at_6) _ ?_
    show Steps p.tables e below (T1.setTop (mkF m 9 #[.val (.long q0_0), .second, .val (.long q0_1), .second, .val (.long q0_2), .second, .val (.long q0_3), .second, .val (.long q0_4), .second, iv p0_5, .unset, .unset, .unset, .unset, .unset, .unset, .unset, .unset, .unset, .unset, .unset] [(.long (2 : Int64)), (.int (1 : Int32)), (.int (4 : Int32)), (.ref b1), (.ref b1)])) _
    refine st22 _ ?_
    show Steps p.tables e below (T22.setTop (mkF m 12 #[.val (.long q0_0), .second, .val (.long q0_1), .second, .val (.long q0_2), .second, .val (.long q0_3), .second, .val (.long q0_4), .second, iv p0_5, .unset, .unset, .unset, .unset, .unset, .unset, .unset, .unset, .unset, .unset, .unset] [(.ref es), (.long (2 : Int64)), (.int (1 : Int32)), (.int (4 : Int32)), (.ref b1), (.ref b1)])) _
    refine st26.trans ?_
    show Steps p.tables e below (T26.setTop (mkF m 15 #[.val (.long q0_0), .second, .val (.long q0_1), .second, .val (.long q0_2), .second, .val (.long q0_3), .second, .val (.long q0_4), .second, iv p0_5, .unset, .unset, .unset, .unset, .unset, .unset, .unset, .unset, .unset, .unset, .unset] [(.ref b1)])) _
    refine XS.astore X26.here hx rfl (hb hby at_15) rfl rfl (l' := #[.val (.long q0_0), .second, .val (.long q0_1), .second, .val (.long q0_2), .second, .val (.long q0_3), .second, .val (.long q0_4), .second, iv p0_5, rv b1, .unset, .unset, .unset, .unset, .unset, .unset, .unset, .unset, .unset, .unset]) rfl ?_
    show Steps p.tables e below (T26.setTop (mkF m 17 #[.val (.long q0_0), .second, .val (.long q0_1), .second, .val (.long q0_2), .second, .val (.long q0_3), .second, .val (.long q0_4), .second, iv p0_5, rv b1, .unset, .unset, .unset, .unset, .unset, .unset, .unset, .unset, .unset, .unset] [])) _
    refine XS.aload X26.here hx rfl (hb hby at_17) rfl rfl ?_
    show Steps p.tables e below (T26.setTop (mkF m 19 #[.val (.long q0_0), .second, .val (.long q0_1), .second, .val (.long q0_2), .second, .val (.long q0_3), .second, .val (.long q0_4), .second, iv p0_5, rv b1, .unset, .unset, .unset, .unset, .unset, .unset, .unset, .unset, .unset, .unset] [(.ref b1)])) _
    refine XS.lload X26.here hx rfl (hb hby at_19) rfl ?_
    show Steps p.tables e below (T26.setTop (mkF m 21 #[.val (.long q0_0), .second, .val (.long q0_1), .second, .val (.long q0_2), .second, .val (.long q0_3), .second, .val (.long q0_4), .second, iv p0_5, rv b1, .unset, .unset, .unset, .unset, .unset, .unset, .unset, .unset, .unset, .unset] [(.long q0_2), (.ref b1)])) _
    refine X26.ldc2Long hx hown (mvT hZ wo60) (g := (mkF m 21 #[.val (.long q0_0), .second, .val (.long q0_1), .second, .val (.long q0_2), .second, .val (.long q0_3), .second, .val (.long q0_4), .second, iv p0_5, rv b1, .unset, .unset, .unset, .unset, .unset, .unset, .unset, .unset, .unset, .unset] [(.long q0_2), (.ref b1)])) rfl (hb hby at_21) _ ?_
    show Steps p.tables e below (T26.setTop (mkF m 24 #[.val (.long q0_0), .second, .val (.long q0_1), .second, .val (.long q0_2), .second, .val (.long q0_3), .second, .val (.long q0_4), .second, iv p0_5, rv b1, .unset, .unset, .unset, .unset, .unset, .unset, .unset, .unset, .unset, .unset] [(.long (9223372036854775807 : Int64)), (.long q0_2), (.ref b1)])) _
    refine XS.land X26.here hx rfl (hb hby at_24) rfl ?_
    show Steps p.tables e below (T26.setTop (mkF m 25 #[.val (.long q0_0), .second, .val (.long q0_1), .second, .val (.long q0_2), .second, .val (.long q0_3), .second, .val (.long q0_4), .second, iv p0_5, rv b1, .unset, .unset, .unset, .unset, .unset, .unset, .unset, .unset, .unset, .unset] [(.long (q0_2 &&& (9223372036854775807 : Int64))), (.ref b1)])) _
    refine st29.trans ?_
    rw [q33]
    show Steps p.tables e below (T29.setTop (mkF m 28 #[.val (.long q0_0), .second, .val (.long q0_1), .second, .val (.long q0_2), .second, .val (.long q0_3), .second, .val (.long q0_4), .second, iv p0_5, rv b1, .unset, .unset, .unset, .unset, .unset, .unset, .unset, .unset, .unset, .unset] [(.int (1 : Int32))])) _
    show Steps p.tables e below (T29.setTop (mkF m 28 #[.val (.long q0_0), .second, .val (.long q0_1), .second, .val (.long q0_2), .second, .val (.long q0_3), .second, .val (.long q0_4), .second, iv p0_5, rv b1, .unset, .unset, .unset, .unset, .unset, .unset, .unset, .unset, .unset, .unset] [(.int (1 : Int32))])) _
    refine XS.istore X29.here hx rfl (hb hby at_28) rfl (l' := #[.val (.long q0_0), .second, .val (.long q0_1), .second, .val (.long q0_2), .second, .val (.long q0_3), .second, .val (.long q0_4), .second, iv p0_5, rv b1, iv (1 : Int32), .unset, .unset, .unset, .unset, .unset, .unset, .unset, .unset, .unset]) rfl ?_
    show Steps p.tables e below (T29.setTop (mkF m 30 #[.val (.long q0_0), .second, .val (.long q0_1), .second, .val (.long q0_2), .second, .val (.long q0_3), .second, .val (.long q0_4), .second, iv p0_5, rv b1, iv (1 : Int32), .unset, .unset, .unset, .unset, .unset, .unset, .unset, .unset, .unset] [])) _
    refine XS.aload X29.here hx rfl (hb hby at_30) rfl rfl ?_
    show Steps p.tables e below (T29.setTop (mkF m 32 #[.val (.long q0_0), .second, .val (.long q0_1), .second, .val (.long q0_2), .second, .val (.long q0_3), .second, .val (.long q0_4), .second, iv p0_5, rv b1, iv (1 : Int32), .unset, .unset, .unset, .unset, .unset, .unset, .unset, .unset, .unset] [(.ref b1)])) _
    refine XS.iload X29.here hx rfl (hb hby at_32) rfl ?_
    show Steps p.tables e below (T29.setTop (mkF m 34 #[.val (.long q0_0), .second, .val (.long q0_1), .second, .val (.long q0_2), .second, .val (.long q0_3), .second, .val (.long q0_4), .second, iv p0_5, rv b1, iv (1 : Int32), .unset, .unset, .unset, .unset, .unset, .unset, .unset, .unset, .unset] [(.int p0_5), (.ref b1)])) _
    refine XS.bipush X29.here hx rfl (hb hby at_34) ?_
    show Steps p.tables e below (T29.setTop (mkF m 36 #[.val (.long q0_0), .second, .val (.long q0_1), .second, .val (.long q0_2), .second, .val (.long q0_3), .second, .val (.long q0_4), .second, iv p0_5, rv b1, iv (1 : Int32), .unset, .unset, .unset, .unset, .unset, .unset, .unset, .unset, .unset] [(.int (8 : Int32)), (.int p0_5), (.ref b1)])) _
    refine XS.iushr X29.here hx rfl (hb hby at_36) rfl ?_
    show Steps p.tables e below (T29.setTop (mkF m 37 #[.val (.long q0_0), .second, .val (.long q0_1), .second, .val (.long q0_2), .second, .val (.long q0_3), .second, .val (.long q0_4), .second, iv p0_5, rv b1, iv (1 : Int32), .unset, .unset, .unset, .unset, .unset, .unset, .unset, .unset, .unset] [(.int ((p0_5.toUInt32 >>> ((8 : Int32) &&& 31).toUInt32).toInt32)), (.ref b1)])) _
    refine XS.bipush X29.here hx rfl (hb hby at_37) ?_
    show Steps p.tables e below (T29.setTop (mkF m 39 #[.val (.long q0_0), .second, .val (.long q0_1), .second, .val (.long q0_2), .second, .val (.long q0_3), .second, .val (.long q0_4), .second, iv p0_5, rv b1, iv (1 : Int32), .unset, .unset, .unset, .unset, .unset, .unset, .unset, .unset, .unset] [(.int (7 : Int32)), (.int ((p0_5.toUInt32 >>> ((8 : Int32) &&& 31).toUInt32).toInt32)), (.ref b1)])) _
    refine XS.iand X29.here hx rfl (hb hby at_39) rfl ?_
    show Steps p.tables e below (T29.setTop (mkF m 40 #[.val (.long q0_0), .second, .val (.long q0_1), .second, .val (.long q0_2), .second, .val (.long q0_3), .second, .val (.long q0_4), .second, iv p0_5, rv b1, iv (1 : Int32), .unset, .unset, .unset, .unset, .unset, .unset, .unset, .unset, .unset] [(.int (((p0_5.toUInt32 >>> ((8 : Int32) &&& 31).toUInt32).toInt32) &&& (7 : Int32))), (.ref b1)])) _
    refine XS.iconst X29.here hx rfl (hb hby at_40) ?_
    show Steps p.tables e below (T29.setTop (mkF m 41 #[.val (.long q0_0), .second, .val (.long q0_1), .second, .val (.long q0_2), .second, .val (.long q0_3), .second, .val (.long q0_4), .second, iv p0_5, rv b1, iv (1 : Int32), .unset, .unset, .unset, .unset, .unset, .unset, .unset, .unset, .unset] [(.int (5 : Int32)), (.int (((p0_5.toUInt32 >>> ((8 : Int32) &&& 31).toUInt32).toInt32) &&& (7 : Int32))), (.ref b1)])) _
    refine iremM (g := (mkF m 41 #[.val (.long q0_0), .second, .val (.long q0_1), .second, .val (.long q0_2), .second, .val (.long q0_3), .second, .val (.long q0_4), .second, iv p0_5, rv b1, iv (1 : Int32), .unset, .unset, .unset, .unset, .unset, .unset, .unset, .unset, .unset] [(.int (5 : Int32)), (.int (((p0_5.toUInt32 >>> ((8 : Int32) &&& 31).toUInt32).toInt32) &&& (7 : Int32))), (.ref b1)])) X29 hx rfl (hb hby at_41) rfl (by decide) ?_
    show Steps p.tables e below (T29.setTop (mkF m 42 #[.val (.long q0_0), .second, .val (.long q0_1), .second, .val (.long q0_2), .second, .val (.long q0_3), .second, .val (.long q0_4), .second, iv p0_5, rv b1, iv (1 : Int32), .unset, .unset, .unset, .unset, .unset, .unset, .unset, .unset, .unset] [(.int ((((p0_5.toUInt32 >>> ((8 : Int32) &&& 31).toUInt32).toInt32) &&& (7 : Int32)) % (5 : Int32))), (.ref b1)])) _
    refine st35 _ ?_
    show Steps p.tables e below (T35.setTop (mkF m 45 #[.val (.long q0_0), .second, .val (.long q0_1), .second, .val (.long q0_2), .second, .val (.long q0_3), .second, .val (.long q0_4), .second, iv p0_5, rv b1, iv (1 : Int32), .unset, .unset, .unset, .unset, .unset, .unset, .unset, .unset, .unset] [(.ref ob_35), (.ref b1)])) _
    refine XS.lload X35.here hx rfl (hb hby at_45) rfl ?_
    show Steps p.tables e below (T35.setTop (mkF m 47 #[.val (.long q0_0), .second, .val (.long q0_1), .second, .val (.long q0_2), .second, .val (.long q0_3), .second, .val (.long q0_4), .second, iv p0_5, rv b1, iv (1 : Int32), .unset, .unset, .unset, .unset, .unset, .unset, .unset, .unset, .unset] [(.long q0_3), (.ref ob_35), (.ref b1)])) _
    refine XS.lload X35.here hx rfl (hb hby at_47) rfl ?_
    show Steps p.tables e below (T35.setTop (mkF m 49 #[.val (.long q0_0), .second, .val (.long q0_1), .second, .val (.long q0_2), .second, .val (.long q0_3), .second, .val (.long q0_4), .second, iv p0_5, rv b1, iv (1 : Int32), .unset, .unset, .unset, .unset, .unset, .unset, .unset, .unset, .unset] [(.long q0_4), (.long q0_3), (.ref ob_35), (.ref b1)])) _
    refine st37.trans ?_
    show Steps p.tables e below (T37.setTop (mkF m 52 #[.val (.long q0_0), .second, .val (.long q0_1), .second, .val (.long q0_2), .second, .val (.long q0_3), .second, .val (.long q0_4), .second, iv p0_5, rv b1, iv (1 : Int32), .unset, .unset, .unset, .unset, .unset, .unset, .unset, .unset, .unset] [])) _
    refine XS.lloadN X37.here hx rfl (hb hby at_52) rfl ?_
    show Steps p.tables e below (T37.setTop (mkF m 53 #[.val (.long q0_0), .second, .val (.long q0_1), .second, .val (.long q0_2), .second, .val (.long q0_3), .second, .val (.long q0_4), .second, iv p0_5, rv b1, iv (1 : Int32), .unset, .unset, .unset, .unset, .unset, .unset, .unset, .unset, .unset] [(.long q0_0)])) _
    refine X37.ldc2Long hx hown (mvT hZ wo78) (g := (mkF m 53 #[.val (.long q0_0), .second, .val (.long q0_1), .second, .val (.long q0_2), .second, .val (.long q0_3), .second, .val (.long q0_4), .second, iv p0_5, rv b1, iv (1 : Int32), .unset, .unset, .unset, .unset, .unset, .unset, .unset, .unset, .unset] [(.long q0_0)])) rfl (hb hby at_53) _ ?_
    show Steps p.tables e below (T37.setTop (mkF m 56 #[.val (.long q0_0), .second, .val (.long q0_1), .second, .val (.long q0_2), .second, .val (.long q0_3), .second, .val (.long q0_4), .second, iv p0_5, rv b1, iv (1 : Int32), .unset, .unset, .unset, .unset, .unset, .unset, .unset, .unset, .unset] [(.long (2305843009213693951 : Int64)), (.long q0_0)])) _
    refine XS.land X37.here hx rfl (hb hby at_56) rfl ?_
    show Steps p.tables e below (T37.setTop (mkF m 57 #[.val (.long q0_0), .second, .val (.long q0_1), .second, .val (.long q0_2), .second, .val (.long q0_3), .second, .val (.long q0_4), .second, iv p0_5, rv b1, iv (1 : Int32), .unset, .unset, .unset, .unset, .unset, .unset, .unset, .unset, .unset] [(.long (q0_0 &&& (2305843009213693951 : Int64)))])) _
    refine XS.lstore X37.here hx rfl (hb hby at_57) rfl (l' := #[.val (.long q0_0), .second, .val (.long q0_1), .second, .val (.long q0_2), .second, .val (.long q0_3), .second, .val (.long q0_4), .second, iv p0_5, rv b1, iv (1 : Int32), .val (.long (q0_0 &&& (2305843009213693951 : Int64))), .second, .unset, .unset, .unset, .unset, .unset, .unset, .unset]) rfl ?_
    show Steps p.tables e below (T37.setTop (mkF m 59 #[.val (.long q0_0), .second, .val (.long q0_1), .second, .val (.long q0_2), .second, .val (.long q0_3), .second, .val (.long q0_4), .second, iv p0_5, rv b1, iv (1 : Int32), .val (.long (q0_0 &&& (2305843009213693951 : Int64))), .second, .unset, .unset, .unset, .unset, .unset, .unset, .unset] [])) _
    refine XS.lloadN X37.here hx rfl (hb hby at_59) rfl ?_
    show Steps p.tables e below (T37.setTop (mkF m 60 #[.val (.long q0_0), .second, .val (.long q0_1), .second, .val (.long q0_2), .second, .val (.long q0_3), .second, .val (.long q0_4), .second, iv p0_5, rv b1, iv (1 : Int32), .val (.long (q0_0 &&& (2305843009213693951 : Int64))), .second, .unset, .unset, .unset, .unset, .unset, .unset, .unset] [(.long q0_1)])) _
    refine X37.ldc2Long hx hown (mvT hZ wo78) (g := (mkF m 60 #[.val (.long q0_0), .second, .val (.long q0_1), .second, .val (.long q0_2), .second, .val (.long q0_3), .second, .val (.long q0_4), .second, iv p0_5, rv b1, iv (1 : Int32), .val (.long (q0_0 &&& (2305843009213693951 : Int64))), .second, .unset, .unset, .unset, .unset, .unset, .unset, .unset] [(.long q0_1)])) rfl (hb hby at_60) _ ?_
    show Steps p.tables e below (T37.setTop (mkF m 63 #[.val (.long q0_0), .second, .val (.long q0_1), .second, .val (.long q0_2), .second, .val (.long q0_3), .second, .val (.long q0_4), .second, iv p0_5, rv b1, iv (1 : Int32), .val (.long (q0_0 &&& (2305843009213693951 : Int64))), .second, .unset, .unset, .unset, .unset, .unset, .unset, .unset] [(.long (2305843009213693951 : Int64)), (.long q0_1)])) _
    refine XS.land X37.here hx rfl (hb hby at_63) rfl ?_
    show Steps p.tables e below (T37.setTop (mkF m 64 #[.val (.long q0_0), .second, .val (.long q0_1), .second, .val (.long q0_2), .second, .val (.long q0_3), .second, .val (.long q0_4), .second, iv p0_5, rv b1, iv (1 : Int32), .val (.long (q0_0 &&& (2305843009213693951 : Int64))), .second, .unset, .unset, .unset, .unset, .unset, .unset, .unset] [(.long (q0_1 &&& (2305843009213693951 : Int64)))])) _
    refine XS.lstore X37.here hx rfl (hb hby at_64) rfl (l' := #[.val (.long q0_0), .second, .val (.long q0_1), .second, .val (.long q0_2), .second, .val (.long q0_3), .second, .val (.long q0_4), .second, iv p0_5, rv b1, iv (1 : Int32), .val (.long (q0_0 &&& (2305843009213693951 : Int64))), .second, .val (.long (q0_1 &&& (2305843009213693951 : Int64))), .second, .unset, .unset, .unset, .unset, .unset]) rfl ?_
    rw [← h_sta]
    show Steps p.tables e below (T37.setTop (mkF m 66 #[.val (.long q0_0), .second, .val (.long q0_1), .second, .val (.long q0_2), .second, .val (.long q0_3), .second, .val (.long q0_4), .second, iv p0_5, rv b1, iv (1 : Int32), .val (.long sta), .second, .val (.long (q0_1 &&& (2305843009213693951 : Int64))), .second, .unset, .unset, .unset, .unset, .unset] [])) _
    rw [← h_dur]
    show Steps p.tables e below (T37.setTop (mkF m 66 #[.val (.long q0_0), .second, .val (.long q0_1), .second, .val (.long q0_2), .second, .val (.long q0_3), .second, .val (.long q0_4), .second, iv p0_5, rv b1, iv (1 : Int32), .val (.long sta), .second, .val (.long dur), .second, .unset, .unset, .unset, .unset, .unset] [])) _
    show Steps p.tables e below (T37.setTop (mkF m 66 #[.val (.long q0_0), .second, .val (.long q0_1), .second, .val (.long q0_2), .second, .val (.long q0_3), .second, .val (.long q0_4), .second, iv p0_5, rv b1, iv (1 : Int32), .val (.long sta), .second, .val (.long dur), .second, .unset, .unset, .unset, .unset, .unset] [])) _
    refine XS.iload X37.here hx rfl (hb hby at_66) rfl ?_
    show Steps p.tables e below (T37.setTop (mkF m 68 #[.val (.long q0_0), .second, .val (.long q0_1), .second, .val (.long q0_2), .second, .val (.long q0_3), .second, .val (.long q0_4), .second, iv p0_5, rv b1, iv (1 : Int32), .val (.long sta), .second, .val (.long dur), .second, .unset, .unset, .unset, .unset, .unset] [(.int p0_5)])) _
    refine XS.bipush X37.here hx rfl (hb hby at_68) ?_
    show Steps p.tables e below (T37.setTop (mkF m 70 #[.val (.long q0_0), .second, .val (.long q0_1), .second, .val (.long q0_2), .second, .val (.long q0_3), .second, .val (.long q0_4), .second, iv p0_5, rv b1, iv (1 : Int32), .val (.long sta), .second, .val (.long dur), .second, .unset, .unset, .unset, .unset, .unset] [(.int (8 : Int32)), (.int p0_5)])) _
    refine XS.iand X37.here hx rfl (hb hby at_70) rfl ?_
    exact k_
  by_cases hc71_40 : (p0_5 &&& (8 : Int32)) = (0 : Int32)
  · skip
    have f42 := (f34.keep K37q (allS g8 all0))
    have f44 := (Nat.le_trans f30 K37q.1)
    obtain ⟨_, _, ⟨T43, L43, k43, n43⟩, -, X43, ⟨Lc43, hQ43, l43, y43, z43⟩, st43⟩ := Jvm.LawKit.callS X37 hx (y := MN8) hown (mvT hZ wo68) (mvT hZ wo69) (mvT hZ wo70) (mvT hZ wo71) (by decide) (backOf (W := 1) (rm8 l Z a0 hw [] ((p0_5 &&& (7 : Int32)) % (5 : Int32)) s_IDLE s_PROGRAM s_RESET s_ERASE s_READ (T37.heap) n0 f44 f42 pf_S_com_example_unand_unand_model_Lun_Operation_IDLE pf_S_com_example_unand_unand_model_Lun_Operation_PROGRAM pf_S_com_example_unand_unand_model_Lun_Operation_RESET pf_S_com_example_unand_unand_model_Lun_Operation_ERASE pf_S_com_example_unand_unand_model_Lun_Operation_READ) hZ wo71 wo70 (by decide) (by decide)) (g := (mkF m 95 #[.val (.long q0_0), .second, .val (.long q0_1), .second, .val (.long q0_2), .second, .val (.long q0_3), .second, .val (.long q0_4), .second, iv p0_5, rv b1, iv (1 : Int32), .val (.long sta), .second, .val (.long dur), .second, .unset, .unset, .unset, .unset, .unset] [(.int ((p0_5 &&& (7 : Int32)) % (5 : Int32))), (.ref b1)])) rfl (by rw [hml]; rfl) (argsL := [(.int ((p0_5 &&& (7 : Int32)) % (5 : Int32)))]) (rest := [(.ref b1)]) (lenOf pd_2 rfl) rfl (by show 2 * 0 + _ ≤ _; exact Nat.le_of_eq rfl) (hb hby at_95) (fun _ _ => ⟨rfl, rfl, (by decide : 3 + 0 ≤ _), (by decide : 25 + 0 ≤ _)⟩)
    dsimp only [Pt.U, Pt.locs, Pt.cells, Pt.slots] at X43 l43 y43 z43 st43 hQ43
    subst l43 y43 z43
    obtain ⟨ob_43, rfl, N43q, K43q⟩ := hQ43
    have N45 := Fr.app N38 N43q
    have f46 := (f31.keep K37q)
    obtain ⟨cq47, kq47, q47a, q47b, q47c⟩ := isOf hZ K43q f46
    obtain ⟨_, _, ⟨T47, L47, k47, n47⟩, -, X47, ⟨Lc47, hQ47, l47, y47, z47⟩, st47⟩ := X43.virtualBack hx (y := MN9) (z := MN9) hown (mvT hZ wo73) (mvT hZ wo74) (notFace_of_selects (args := #[]) (mvT hZ wo76)) (mvT hZ wo76) (mvT hZ wo75) (by decide) (backOf (W := 0) (rm9 l Z a0 hw [] b1 ob_43 sta dur ob_35 (q0_3 + q0_4) (0 : Int32) (0 : Int32) (T37.heap) n0 f44 f46 g8 hq37_0 hq37_1 hq37_2 hq37_3) hZ wo77 wo2 (by decide) (by decide)) q47a q47c (g := (mkF m 102 #[.val (.long q0_0), .second, .val (.long q0_1), .second, .val (.long q0_2), .second, .val (.long q0_3), .second, .val (.long q0_4), .second, iv p0_5, rv b1, iv (1 : Int32), .val (.long sta), .second, .val (.long dur), .second, .unset, .unset, .unset, .unset, .unset] [(.long dur), (.long sta), (.ref ob_43), (.ref b1)])) rfl (by rw [hml]; rfl) (Steps.refl _) (argsL := [(.ref ob_43), (.long sta), (.long dur)]) (rest := []) (lenOf pd_6 rfl) rfl (by show 2 * 0 + _ ≤ _; exact Nat.le_of_eq rfl) (hb hby at_102) (fun _ _ => ⟨rfl, K43q, (by decide : 3 + 0 ≤ _), (by decide : 25 + 0 ≤ _)⟩)
    dsimp only [Pt.U, Pt.locs, Pt.cells, Pt.slots] at X47 l47 y47 z47 st47 hQ47
    subst l47 y47 z47
    obtain ⟨rfl, N47q, K47q, hq47_0, hq47_1, hq47_2, hq47_3⟩ := hQ47
    have N48 := Fr.app N45 N47q
    have K49 : Keep h0 T47.heap [] := (K39).trans K47q (allS (P := fun x => x ∈ [] ∨ h0.size ≤ x) (Or.inr bz9) all0)
    have pre51 : ∀ t, Steps p.tables e below (T47.setTop (mkF m 110 #[.val (.long q0_0), .second, .val (.long q0_1), .second, .val (.long q0_2), .second, .val (.long q0_3), .second, .val (.long q0_4), .second, iv p0_5, rv b1, iv (1 : Int32), .val (.long sta), .second, .val (.long dur), .second, .unset, .unset, .unset, .unset, .unset] [(.int (p0_5 &&& (16 : Int32)))])) t → Steps p.tables e below (s₁.setTop (entryFrame m #[(.long q0_0), (.long q0_1), (.long q0_2), (.long q0_3), (.long q0_4), (.int p0_5)] maxLocals)) t := by
      intro t_ k_
      refine pre41 _ ?_
      show Steps p.tables e below (T37.setTop (mkF m 71 #[.val (.long q0_0), .second, .val (.long q0_1), .second, .val (.long q0_2), .second, .val (.long q0_3), .second, .val (.long q0_4), .second, iv p0_5, rv b1, iv (1 : Int32), .val (.long sta), .second, .val (.long dur), .second, .unset, .unset, .unset, .unset, .unset] [(.int (p0_5 &&& (8 : Int32)))])) _
      refine XS.ifYes X37.here hx rfl (pc0 := 71) (pc' := 86) rfl (hb hby at_71) rfl ((if0 _ _).trans (teq hc71_40).1) (by decide) (by decide) ?_
      show Steps p.tables e below (T37.setTop (mkF m 86 #[.val (.long q0_0), .second, .val (.long q0_1), .second, .val (.long q0_2), .second, .val (.long q0_3), .second, .val (.long q0_4), .second, iv p0_5, rv b1, iv (1 : Int32), .val (.long sta), .second, .val (.long dur), .second, .unset, .unset, .unset, .unset, .unset] [])) _
      refine XS.aload X37.here hx rfl (hb hby at_86) rfl rfl ?_
      show Steps p.tables e below (T37.setTop (mkF m 88 #[.val (.long q0_0), .second, .val (.long q0_1), .second, .val (.long q0_2), .second, .val (.long q0_3), .second, .val (.long q0_4), .second, iv p0_5, rv b1, iv (1 : Int32), .val (.long sta), .second, .val (.long dur), .second, .unset, .unset, .unset, .unset, .unset] [(.ref b1)])) _
      refine XS.iload X37.here hx rfl (hb hby at_88) rfl ?_
      show Steps p.tables e below (T37.setTop (mkF m 90 #[.val (.long q0_0), .second, .val (.long q0_1), .second, .val (.long q0_2), .second, .val (.long q0_3), .second, .val (.long q0_4), .second, iv p0_5, rv b1, iv (1 : Int32), .val (.long sta), .second, .val (.long dur), .second, .unset, .unset, .unset, .unset, .unset] [(.int p0_5), (.ref b1)])) _
      refine XS.bipush X37.here hx rfl (hb hby at_90) ?_
      show Steps p.tables e below (T37.setTop (mkF m 92 #[.val (.long q0_0), .second, .val (.long q0_1), .second, .val (.long q0_2), .second, .val (.long q0_3), .second, .val (.long q0_4), .second, iv p0_5, rv b1, iv (1 : Int32), .val (.long sta), .second, .val (.long dur), .second, .unset, .unset, .unset, .unset, .unset] [(.int (7 : Int32)), (.int p0_5), (.ref b1)])) _
      refine XS.iand X37.here hx rfl (hb hby at_92) rfl ?_
      show Steps p.tables e below (T37.setTop (mkF m 93 #[.val (.long q0_0), .second, .val (.long q0_1), .second, .val (.long q0_2), .second, .val (.long q0_3), .second, .val (.long q0_4), .second, iv p0_5, rv b1, iv (1 : Int32), .val (.long sta), .second, .val (.long dur), .second, .unset, .unset, .unset, .unset, .unset] [(.int (p0_5 &&& (7 : Int32))), (.ref b1)])) _
      refine XS.iconst X37.here hx rfl (hb hby at_93) ?_
      show Steps p.tables e below (T37.setTop (mkF m 94 #[.val (.long q0_0), .second, .val (.long q0_1), .second, .val (.long q0_2), .second, .val (.long q0_3), .second, .val (.long q0_4), .second, iv p0_5, rv b1, iv (1 : Int32), .val (.long sta), .second, .val (.long dur), .second, .unset, .unset, .unset, .unset, .unset] [(.int (5 : Int32)), (.int (p0_5 &&& (7 : Int32))), (.ref b1)])) _
      refine iremM (g := (mkF m 94 #[.val (.long q0_0), .second, .val (.long q0_1), .second, .val (.long q0_2), .second, .val (.long q0_3), .second, .val (.long q0_4), .second, iv p0_5, rv b1, iv (1 : Int32), .val (.long sta), .second, .val (.long dur), .second, .unset, .unset, .unset, .unset, .unset] [(.int (5 : Int32)), (.int (p0_5 &&& (7 : Int32))), (.ref b1)])) X37 hx rfl (hb hby at_94) rfl (by decide) ?_
      show Steps p.tables e below (T37.setTop (mkF m 95 #[.val (.long q0_0), .second, .val (.long q0_1), .second, .val (.long q0_2), .second, .val (.long q0_3), .second, .val (.long q0_4), .second, iv p0_5, rv b1, iv (1 : Int32), .val (.long sta), .second, .val (.long dur), .second, .unset, .unset, .unset, .unset, .unset] [(.int ((p0_5 &&& (7 : Int32)) % (5 : Int32))), (.ref b1)])) _
      refine st43 _ ?_
      show Steps p.tables e below (T43.setTop (mkF m 98 #[.val (.long q0_0), .second, .val (.long q0_1), .second, .val (.long q0_2), .second, .val (.long q0_3), .second, .val (.long q0_4), .second, iv p0_5, rv b1, iv (1 : Int32), .val (.long sta), .second, .val (.long dur), .second, .unset, .unset, .unset, .unset, .unset] [(.ref ob_43), (.ref b1)])) _
      refine XS.lload X43.here hx rfl (hb hby at_98) rfl ?_
      show Steps p.tables e below (T43.setTop (mkF m 100 #[.val (.long q0_0), .second, .val (.long q0_1), .second, .val (.long q0_2), .second, .val (.long q0_3), .second, .val (.long q0_4), .second, iv p0_5, rv b1, iv (1 : Int32), .val (.long sta), .second, .val (.long dur), .second, .unset, .unset, .unset, .unset, .unset] [(.long sta), (.ref ob_43), (.ref b1)])) _
      refine XS.lload X43.here hx rfl (hb hby at_100) rfl ?_
      show Steps p.tables e below (T43.setTop (mkF m 102 #[.val (.long q0_0), .second, .val (.long q0_1), .second, .val (.long q0_2), .second, .val (.long q0_3), .second, .val (.long q0_4), .second, iv p0_5, rv b1, iv (1 : Int32), .val (.long sta), .second, .val (.long dur), .second, .unset, .unset, .unset, .unset, .unset] [(.long dur), (.long sta), (.ref ob_43), (.ref b1)])) _
      refine st47.trans ?_
      show Steps p.tables e below (T47.setTop (mkF m 105 #[.val (.long q0_0), .second, .val (.long q0_1), .second, .val (.long q0_2), .second, .val (.long q0_3), .second, .val (.long q0_4), .second, iv p0_5, rv b1, iv (1 : Int32), .val (.long sta), .second, .val (.long dur), .second, .unset, .unset, .unset, .unset, .unset] [])) _
      refine XS.iload X47.here hx rfl (hb hby at_105) rfl ?_
      show Steps p.tables e below (T47.setTop (mkF m 107 #[.val (.long q0_0), .second, .val (.long q0_1), .second, .val (.long q0_2), .second, .val (.long q0_3), .second, .val (.long q0_4), .second, iv p0_5, rv b1, iv (1 : Int32), .val (.long sta), .second, .val (.long dur), .second, .unset, .unset, .unset, .unset, .unset] [(.int p0_5)])) _
      refine XS.bipush X47.here hx rfl (hb hby at_107) ?_
      show Steps p.tables e below (T47.setTop (mkF m 109 #[.val (.long q0_0), .second, .val (.long q0_1), .second, .val (.long q0_2), .second, .val (.long q0_3), .second, .val (.long q0_4), .second, iv p0_5, rv b1, iv (1 : Int32), .val (.long sta), .second, .val (.long dur), .second, .unset, .unset, .unset, .unset, .unset] [(.int (16 : Int32)), (.int p0_5)])) _
      refine XS.iand X47.here hx rfl (hb hby at_109) rfl ?_
      exact k_
    by_cases hc110_50 : (p0_5 &&& (16 : Int32)) = (0 : Int32)
    · skip
      obtain ⟨nw, h_nw⟩ : ∃ z : Int64, z = (q0_2 &&& (9223372036854775807 : Int64)) := ⟨_, rfl⟩
      have hnow : -2 ≤ nw.toInt := by rw [h_nw]; have q := own_mx q0_2; omega
      have pre53 : ∀ t, Steps p.tables e below (T47.setTop (mkF m 146 #[.val (.long q0_0), .second, .val (.long q0_1), .second, .val (.long q0_2), .second, .val (.long q0_3), .second, .val (.long q0_4), .second, iv p0_5, rv b1, iv (1 : Int32), .val (.long sta), .second, .val (.long dur), .second, .val (.long nw), .second, .unset, .unset, .unset] [(.int (lcmpW (nw - sta) dur))])) t → Steps p.tables e below (s₁.setTop (entryFrame m #[(.long q0_0), (.long q0_1), (.long q0_2), (.long q0_3), (.long q0_4), (.int p0_5)] maxLocals)) t := by
        intro t_ k_
        refine pre51 _ ?_
        show Steps p.tables e below (T47.setTop (mkF m 110 #[.val (.long q0_0), .second, .val (.long q0_1), .second, .val (.long q0_2), .second, .val (.long q0_3), .second, .val (.long q0_4), .second, iv p0_5, rv b1, iv (1 : Int32), .val (.long sta), .second, .val (.long dur), .second, .unset, .unset, .unset, .unset, .unset] [(.int (p0_5 &&& (16 : Int32)))])) _
        refine XS.ifYes X47.here hx rfl (pc0 := 110) (pc' := 130) rfl (hb hby at_110) rfl ((if0 _ _).trans (teq hc110_50).1) (by decide) (by decide) ?_
        show Steps p.tables e below (T47.setTop (mkF m 130 #[.val (.long q0_0), .second, .val (.long q0_1), .second, .val (.long q0_2), .second, .val (.long q0_3), .second, .val (.long q0_4), .second, iv p0_5, rv b1, iv (1 : Int32), .val (.long sta), .second, .val (.long dur), .second, .unset, .unset, .unset, .unset, .unset] [])) _
        refine XS.lload X47.here hx rfl (hb hby at_130) rfl ?_
        show Steps p.tables e below (T47.setTop (mkF m 132 #[.val (.long q0_0), .second, .val (.long q0_1), .second, .val (.long q0_2), .second, .val (.long q0_3), .second, .val (.long q0_4), .second, iv p0_5, rv b1, iv (1 : Int32), .val (.long sta), .second, .val (.long dur), .second, .unset, .unset, .unset, .unset, .unset] [(.long q0_2)])) _
        refine X47.ldc2Long hx hown (mvT hZ wo60) (g := (mkF m 132 #[.val (.long q0_0), .second, .val (.long q0_1), .second, .val (.long q0_2), .second, .val (.long q0_3), .second, .val (.long q0_4), .second, iv p0_5, rv b1, iv (1 : Int32), .val (.long sta), .second, .val (.long dur), .second, .unset, .unset, .unset, .unset, .unset] [(.long q0_2)])) rfl (hb hby at_132) _ ?_
        show Steps p.tables e below (T47.setTop (mkF m 135 #[.val (.long q0_0), .second, .val (.long q0_1), .second, .val (.long q0_2), .second, .val (.long q0_3), .second, .val (.long q0_4), .second, iv p0_5, rv b1, iv (1 : Int32), .val (.long sta), .second, .val (.long dur), .second, .unset, .unset, .unset, .unset, .unset] [(.long (9223372036854775807 : Int64)), (.long q0_2)])) _
        refine XS.land X47.here hx rfl (hb hby at_135) rfl ?_
        show Steps p.tables e below (T47.setTop (mkF m 136 #[.val (.long q0_0), .second, .val (.long q0_1), .second, .val (.long q0_2), .second, .val (.long q0_3), .second, .val (.long q0_4), .second, iv p0_5, rv b1, iv (1 : Int32), .val (.long sta), .second, .val (.long dur), .second, .unset, .unset, .unset, .unset, .unset] [(.long (q0_2 &&& (9223372036854775807 : Int64)))])) _
        refine XS.lstore X47.here hx rfl (hb hby at_136) rfl (l' := #[.val (.long q0_0), .second, .val (.long q0_1), .second, .val (.long q0_2), .second, .val (.long q0_3), .second, .val (.long q0_4), .second, iv p0_5, rv b1, iv (1 : Int32), .val (.long sta), .second, .val (.long dur), .second, .val (.long (q0_2 &&& (9223372036854775807 : Int64))), .second, .unset, .unset, .unset]) rfl ?_
        rw [← h_nw]
        show Steps p.tables e below (T47.setTop (mkF m 138 #[.val (.long q0_0), .second, .val (.long q0_1), .second, .val (.long q0_2), .second, .val (.long q0_3), .second, .val (.long q0_4), .second, iv p0_5, rv b1, iv (1 : Int32), .val (.long sta), .second, .val (.long dur), .second, .val (.long nw), .second, .unset, .unset, .unset] [])) _
        show Steps p.tables e below (T47.setTop (mkF m 138 #[.val (.long q0_0), .second, .val (.long q0_1), .second, .val (.long q0_2), .second, .val (.long q0_3), .second, .val (.long q0_4), .second, iv p0_5, rv b1, iv (1 : Int32), .val (.long sta), .second, .val (.long dur), .second, .val (.long nw), .second, .unset, .unset, .unset] [])) _
        refine XS.lload X47.here hx rfl (hb hby at_138) rfl ?_
        show Steps p.tables e below (T47.setTop (mkF m 140 #[.val (.long q0_0), .second, .val (.long q0_1), .second, .val (.long q0_2), .second, .val (.long q0_3), .second, .val (.long q0_4), .second, iv p0_5, rv b1, iv (1 : Int32), .val (.long sta), .second, .val (.long dur), .second, .val (.long nw), .second, .unset, .unset, .unset] [(.long nw)])) _
        refine XS.lload X47.here hx rfl (hb hby at_140) rfl ?_
        show Steps p.tables e below (T47.setTop (mkF m 142 #[.val (.long q0_0), .second, .val (.long q0_1), .second, .val (.long q0_2), .second, .val (.long q0_3), .second, .val (.long q0_4), .second, iv p0_5, rv b1, iv (1 : Int32), .val (.long sta), .second, .val (.long dur), .second, .val (.long nw), .second, .unset, .unset, .unset] [(.long sta), (.long nw)])) _
        refine XS.lsub X47.here hx rfl (hb hby at_142) rfl ?_
        show Steps p.tables e below (T47.setTop (mkF m 143 #[.val (.long q0_0), .second, .val (.long q0_1), .second, .val (.long q0_2), .second, .val (.long q0_3), .second, .val (.long q0_4), .second, iv p0_5, rv b1, iv (1 : Int32), .val (.long sta), .second, .val (.long dur), .second, .val (.long nw), .second, .unset, .unset, .unset] [(.long (nw - sta))])) _
        refine XS.lload X47.here hx rfl (hb hby at_143) rfl ?_
        show Steps p.tables e below (T47.setTop (mkF m 145 #[.val (.long q0_0), .second, .val (.long q0_1), .second, .val (.long q0_2), .second, .val (.long q0_3), .second, .val (.long q0_4), .second, iv p0_5, rv b1, iv (1 : Int32), .val (.long sta), .second, .val (.long dur), .second, .val (.long nw), .second, .unset, .unset, .unset] [(.long dur), (.long (nw - sta))])) _
        refine XS.lcmp X47.here hx rfl (hb hby at_145) rfl ?_
        exact k_
      by_cases hc146_52 : (lcmpW (nw - sta) dur) < (0 : Int32)
      · skip
        have f55 := (Nat.le_trans f44 K47q.1)
        have f56 := (f46.keep K47q)
        obtain ⟨cq54, kq54, q54a, q54b, q54c⟩ := isOf hZ rfl f56
        obtain ⟨_, _, ⟨T54, L54, k54, n54⟩, -, X54, ⟨Lc54, hQ54, l54, y54, z54⟩, st54⟩ := X47.virtualBack hx (y := MN7) (z := MN7) hown (mvT hZ wo61) (mvT hZ wo62) (notFace_of_selects (args := #[]) (mvT hZ wo64)) (mvT hZ wo64) (mvT hZ wo63) (by decide) (backOf (W := 0) (rm7 l Z a0 hw [] b1 nw (sta + dur) (T47.heap) n0 f55 hq47_1) hZ wo65 wo2 (by decide) (by decide)) q54a q54c (g := (mkF m 160 #[.val (.long q0_0), .second, .val (.long q0_1), .second, .val (.long q0_2), .second, .val (.long q0_3), .second, .val (.long q0_4), .second, iv p0_5, rv b1, iv (1 : Int32), .val (.long sta), .second, .val (.long dur), .second, .val (.long nw), .second, iv (0 : Int32), .unset, .unset] [(.long nw), (.ref b1)])) rfl (by rw [hml]; rfl) (Steps.refl _) (argsL := [(.long nw)]) (rest := []) (lenOf pd_4 rfl) rfl (by show 2 * 0 + _ ≤ _; exact Nat.le_of_eq rfl) (hb hby at_160) (fun _ _ => ⟨rfl, rfl, (by decide : 3 + 0 ≤ _), (by decide : 25 + 0 ≤ _)⟩)
        dsimp only [Pt.U, Pt.locs, Pt.cells, Pt.slots] at X54 l54 y54 z54 st54 hQ54
        subst l54 y54 z54
        obtain ⟨rfl, N54q, K54q⟩ := hQ54
        have N57 := Fr.app N48 N54q
        have q58 : (if (lcmpW nw (sta + dur)) < (0 : Int32) then (0 : Int32) else (1 : Int32)) = (0 : Int32) := if_pos ((own_fin _ _ _ hnow hst hdu).mp hc146_52)
        obtain ⟨cq59, kq59, q59a, q59b, q59c⟩ := isOf hZ K54q f56
        obtain ⟨_, _, ⟨T59, L59, k59, n59⟩, -, X59, ⟨Lc59, hQ59, l59, y59, z59⟩, st59⟩ := X54.virtualBack hx (y := MN7) (z := MN7) hown (mvT hZ wo61) (mvT hZ wo62) (notFace_of_selects (args := #[]) (mvT hZ wo64)) (mvT hZ wo64) (mvT hZ wo63) (by decide) (backOf (W := 0) (rm7 l Z a0 hw [] b1 nw (sta + dur) (T47.heap) n0 f55 hq47_1) hZ wo65 wo2 (by decide) (by decide)) q59a q59c (g := (mkF m 169 #[.val (.long q0_0), .second, .val (.long q0_1), .second, .val (.long q0_2), .second, .val (.long q0_3), .second, .val (.long q0_4), .second, iv p0_5, rv b1, iv (1 : Int32), .val (.long sta), .second, .val (.long dur), .second, .val (.long nw), .second, iv (0 : Int32), iv (0 : Int32), .unset] [(.long nw), (.ref b1)])) rfl (by rw [hml]; rfl) (Steps.refl _) (argsL := [(.long nw)]) (rest := []) (lenOf pd_4 rfl) rfl (by show 2 * 0 + _ ≤ _; exact Nat.le_of_eq rfl) (hb hby at_169) (fun _ _ => ⟨rfl, K54q, (by decide : 3 + 0 ≤ _), (by decide : 25 + 0 ≤ _)⟩)
        dsimp only [Pt.U, Pt.locs, Pt.cells, Pt.slots] at X59 l59 y59 z59 st59 hQ59
        subst l59 y59 z59
        obtain ⟨rfl, N59q, K59q⟩ := hQ59
        have N60 := Fr.app N57 N59q
        have q61 : (if (lcmpW nw (sta + dur)) < (0 : Int32) then (0 : Int32) else (1 : Int32)) = (0 : Int32) := if_pos ((own_fin _ _ _ hnow hst hdu).mp hc146_52)
        obtain ⟨fs, hr, hrun, hended, hW, hsame⟩ := X59.leave (v := some (.int (1 : Int32))) (fun h => by rw [Bd.returns] at h; cases h)
        refine ⟨_, _, pre53 _ ?_, hrun, hended, _, _, rfl, ?_, ⟨_, rfl⟩, hW, hsame.mono (by decide) (by decide)⟩
        · show Steps p.tables e below (T47.setTop (mkF m 146 #[.val (.long q0_0), .second, .val (.long q0_1), .second, .val (.long q0_2), .second, .val (.long q0_3), .second, .val (.long q0_4), .second, iv p0_5, rv b1, iv (1 : Int32), .val (.long sta), .second, .val (.long dur), .second, .val (.long nw), .second, .unset, .unset, .unset] [(.int (lcmpW (nw - sta) dur))])) _
          refine XS.ifYes X47.here hx rfl (pc0 := 146) (pc' := 153) rfl (hb hby at_146) rfl ((if0 _ _).trans (tlt hc146_52).1) (by decide) (by decide) ?_
          show Steps p.tables e below (T47.setTop (mkF m 153 #[.val (.long q0_0), .second, .val (.long q0_1), .second, .val (.long q0_2), .second, .val (.long q0_3), .second, .val (.long q0_4), .second, iv p0_5, rv b1, iv (1 : Int32), .val (.long sta), .second, .val (.long dur), .second, .val (.long nw), .second, .unset, .unset, .unset] [])) _
          refine XS.iconst X47.here hx rfl (hb hby at_153) ?_
          show Steps p.tables e below (T47.setTop (mkF m 154 #[.val (.long q0_0), .second, .val (.long q0_1), .second, .val (.long q0_2), .second, .val (.long q0_3), .second, .val (.long q0_4), .second, iv p0_5, rv b1, iv (1 : Int32), .val (.long sta), .second, .val (.long dur), .second, .val (.long nw), .second, .unset, .unset, .unset] [(.int (0 : Int32))])) _
          refine XS.istore X47.here hx rfl (hb hby at_154) rfl (l' := #[.val (.long q0_0), .second, .val (.long q0_1), .second, .val (.long q0_2), .second, .val (.long q0_3), .second, .val (.long q0_4), .second, iv p0_5, rv b1, iv (1 : Int32), .val (.long sta), .second, .val (.long dur), .second, .val (.long nw), .second, iv (0 : Int32), .unset, .unset]) rfl ?_
          show Steps p.tables e below (T47.setTop (mkF m 156 #[.val (.long q0_0), .second, .val (.long q0_1), .second, .val (.long q0_2), .second, .val (.long q0_3), .second, .val (.long q0_4), .second, iv p0_5, rv b1, iv (1 : Int32), .val (.long sta), .second, .val (.long dur), .second, .val (.long nw), .second, iv (0 : Int32), .unset, .unset] [])) _
          refine XS.aload X47.here hx rfl (hb hby at_156) rfl rfl ?_
          show Steps p.tables e below (T47.setTop (mkF m 158 #[.val (.long q0_0), .second, .val (.long q0_1), .second, .val (.long q0_2), .second, .val (.long q0_3), .second, .val (.long q0_4), .second, iv p0_5, rv b1, iv (1 : Int32), .val (.long sta), .second, .val (.long dur), .second, .val (.long nw), .second, iv (0 : Int32), .unset, .unset] [(.ref b1)])) _
          refine XS.lload X47.here hx rfl (hb hby at_158) rfl ?_
          show Steps p.tables e below (T47.setTop (mkF m 160 #[.val (.long q0_0), .second, .val (.long q0_1), .second, .val (.long q0_2), .second, .val (.long q0_3), .second, .val (.long q0_4), .second, iv p0_5, rv b1, iv (1 : Int32), .val (.long sta), .second, .val (.long dur), .second, .val (.long nw), .second, iv (0 : Int32), .unset, .unset] [(.long nw), (.ref b1)])) _
          refine st54.trans ?_
          rw [q58]
          show Steps p.tables e below (T54.setTop (mkF m 163 #[.val (.long q0_0), .second, .val (.long q0_1), .second, .val (.long q0_2), .second, .val (.long q0_3), .second, .val (.long q0_4), .second, iv p0_5, rv b1, iv (1 : Int32), .val (.long sta), .second, .val (.long dur), .second, .val (.long nw), .second, iv (0 : Int32), .unset, .unset] [(.int (0 : Int32))])) _
          show Steps p.tables e below (T54.setTop (mkF m 163 #[.val (.long q0_0), .second, .val (.long q0_1), .second, .val (.long q0_2), .second, .val (.long q0_3), .second, .val (.long q0_4), .second, iv p0_5, rv b1, iv (1 : Int32), .val (.long sta), .second, .val (.long dur), .second, .val (.long nw), .second, iv (0 : Int32), .unset, .unset] [(.int (0 : Int32))])) _
          refine XS.istore X54.here hx rfl (hb hby at_163) rfl (l' := #[.val (.long q0_0), .second, .val (.long q0_1), .second, .val (.long q0_2), .second, .val (.long q0_3), .second, .val (.long q0_4), .second, iv p0_5, rv b1, iv (1 : Int32), .val (.long sta), .second, .val (.long dur), .second, .val (.long nw), .second, iv (0 : Int32), iv (0 : Int32), .unset]) rfl ?_
          show Steps p.tables e below (T54.setTop (mkF m 165 #[.val (.long q0_0), .second, .val (.long q0_1), .second, .val (.long q0_2), .second, .val (.long q0_3), .second, .val (.long q0_4), .second, iv p0_5, rv b1, iv (1 : Int32), .val (.long sta), .second, .val (.long dur), .second, .val (.long nw), .second, iv (0 : Int32), iv (0 : Int32), .unset] [])) _
          refine XS.aload X54.here hx rfl (hb hby at_165) rfl rfl ?_
          show Steps p.tables e below (T54.setTop (mkF m 167 #[.val (.long q0_0), .second, .val (.long q0_1), .second, .val (.long q0_2), .second, .val (.long q0_3), .second, .val (.long q0_4), .second, iv p0_5, rv b1, iv (1 : Int32), .val (.long sta), .second, .val (.long dur), .second, .val (.long nw), .second, iv (0 : Int32), iv (0 : Int32), .unset] [(.ref b1)])) _
          refine XS.lload X54.here hx rfl (hb hby at_167) rfl ?_
          show Steps p.tables e below (T54.setTop (mkF m 169 #[.val (.long q0_0), .second, .val (.long q0_1), .second, .val (.long q0_2), .second, .val (.long q0_3), .second, .val (.long q0_4), .second, iv p0_5, rv b1, iv (1 : Int32), .val (.long sta), .second, .val (.long dur), .second, .val (.long nw), .second, iv (0 : Int32), iv (0 : Int32), .unset] [(.long nw), (.ref b1)])) _
          refine st59.trans ?_
          rw [q61]
          show Steps p.tables e below (T59.setTop (mkF m 172 #[.val (.long q0_0), .second, .val (.long q0_1), .second, .val (.long q0_2), .second, .val (.long q0_3), .second, .val (.long q0_4), .second, iv p0_5, rv b1, iv (1 : Int32), .val (.long sta), .second, .val (.long dur), .second, .val (.long nw), .second, iv (0 : Int32), iv (0 : Int32), .unset] [(.int (0 : Int32))])) _
          show Steps p.tables e below (T59.setTop (mkF m 172 #[.val (.long q0_0), .second, .val (.long q0_1), .second, .val (.long q0_2), .second, .val (.long q0_3), .second, .val (.long q0_4), .second, iv p0_5, rv b1, iv (1 : Int32), .val (.long sta), .second, .val (.long dur), .second, .val (.long nw), .second, iv (0 : Int32), iv (0 : Int32), .unset] [(.int (0 : Int32))])) _
          refine XS.istore X59.here hx rfl (hb hby at_172) rfl (l' := #[.val (.long q0_0), .second, .val (.long q0_1), .second, .val (.long q0_2), .second, .val (.long q0_3), .second, .val (.long q0_4), .second, iv p0_5, rv b1, iv (1 : Int32), .val (.long sta), .second, .val (.long dur), .second, .val (.long nw), .second, iv (0 : Int32), iv (0 : Int32), iv (0 : Int32)]) rfl ?_
          show Steps p.tables e below (T59.setTop (mkF m 174 #[.val (.long q0_0), .second, .val (.long q0_1), .second, .val (.long q0_2), .second, .val (.long q0_3), .second, .val (.long q0_4), .second, iv p0_5, rv b1, iv (1 : Int32), .val (.long sta), .second, .val (.long dur), .second, .val (.long nw), .second, iv (0 : Int32), iv (0 : Int32), iv (0 : Int32)] [])) _
          refine XS.iload X59.here hx rfl (hb hby at_174) rfl ?_
          show Steps p.tables e below (T59.setTop (mkF m 176 #[.val (.long q0_0), .second, .val (.long q0_1), .second, .val (.long q0_2), .second, .val (.long q0_3), .second, .val (.long q0_4), .second, iv p0_5, rv b1, iv (1 : Int32), .val (.long sta), .second, .val (.long dur), .second, .val (.long nw), .second, iv (0 : Int32), iv (0 : Int32), iv (0 : Int32)] [(.int (1 : Int32))])) _
          refine XS.ifNo X59.here hx rfl (hb hby at_176) rfl ((if0 _ _).trans (feq (by decide : ¬ ((1 : Int32) = (0 : Int32)))).1) ?_
          show Steps p.tables e below (T59.setTop (mkF m 179 #[.val (.long q0_0), .second, .val (.long q0_1), .second, .val (.long q0_2), .second, .val (.long q0_3), .second, .val (.long q0_4), .second, iv p0_5, rv b1, iv (1 : Int32), .val (.long sta), .second, .val (.long dur), .second, .val (.long nw), .second, iv (0 : Int32), iv (0 : Int32), iv (0 : Int32)] [])) _
          refine XS.iload X59.here hx rfl (hb hby at_179) rfl ?_
          show Steps p.tables e below (T59.setTop (mkF m 181 #[.val (.long q0_0), .second, .val (.long q0_1), .second, .val (.long q0_2), .second, .val (.long q0_3), .second, .val (.long q0_4), .second, iv p0_5, rv b1, iv (1 : Int32), .val (.long sta), .second, .val (.long dur), .second, .val (.long nw), .second, iv (0 : Int32), iv (0 : Int32), iv (0 : Int32)] [(.int (0 : Int32))])) _
          refine XS.iload X59.here hx rfl (hb hby at_181) rfl ?_
          show Steps p.tables e below (T59.setTop (mkF m 183 #[.val (.long q0_0), .second, .val (.long q0_1), .second, .val (.long q0_2), .second, .val (.long q0_3), .second, .val (.long q0_4), .second, iv p0_5, rv b1, iv (1 : Int32), .val (.long sta), .second, .val (.long dur), .second, .val (.long nw), .second, iv (0 : Int32), iv (0 : Int32), iv (0 : Int32)] [(.int (0 : Int32)), (.int (0 : Int32))])) _
          refine XS.icmpNo X59.here hx rfl (hb hby at_183) rfl (teq (by decide : (0 : Int32) = (0 : Int32))).2 ?_
          show Steps p.tables e below (T59.setTop (mkF m 186 #[.val (.long q0_0), .second, .val (.long q0_1), .second, .val (.long q0_2), .second, .val (.long q0_3), .second, .val (.long q0_4), .second, iv p0_5, rv b1, iv (1 : Int32), .val (.long sta), .second, .val (.long dur), .second, .val (.long nw), .second, iv (0 : Int32), iv (0 : Int32), iv (0 : Int32)] [])) _
          refine XS.iload X59.here hx rfl (hb hby at_186) rfl ?_
          show Steps p.tables e below (T59.setTop (mkF m 188 #[.val (.long q0_0), .second, .val (.long q0_1), .second, .val (.long q0_2), .second, .val (.long q0_3), .second, .val (.long q0_4), .second, iv p0_5, rv b1, iv (1 : Int32), .val (.long sta), .second, .val (.long dur), .second, .val (.long nw), .second, iv (0 : Int32), iv (0 : Int32), iv (0 : Int32)] [(.int (0 : Int32))])) _
          refine XS.iload X59.here hx rfl (hb hby at_188) rfl ?_
          show Steps p.tables e below (T59.setTop (mkF m 190 #[.val (.long q0_0), .second, .val (.long q0_1), .second, .val (.long q0_2), .second, .val (.long q0_3), .second, .val (.long q0_4), .second, iv p0_5, rv b1, iv (1 : Int32), .val (.long sta), .second, .val (.long dur), .second, .val (.long nw), .second, iv (0 : Int32), iv (0 : Int32), iv (0 : Int32)] [(.int (0 : Int32)), (.int (0 : Int32))])) _
          refine XS.icmpNo X59.here hx rfl (hb hby at_190) rfl (teq (by decide : (0 : Int32) = (0 : Int32))).2 ?_
          show Steps p.tables e below (T59.setTop (mkF m 193 #[.val (.long q0_0), .second, .val (.long q0_1), .second, .val (.long q0_2), .second, .val (.long q0_3), .second, .val (.long q0_4), .second, iv p0_5, rv b1, iv (1 : Int32), .val (.long sta), .second, .val (.long dur), .second, .val (.long nw), .second, iv (0 : Int32), iv (0 : Int32), iv (0 : Int32)] [])) _
          refine XS.iconst X59.here hx rfl (hb hby at_193) ?_
          show Steps p.tables e below (T59.setTop (mkF m 194 #[.val (.long q0_0), .second, .val (.long q0_1), .second, .val (.long q0_2), .second, .val (.long q0_3), .second, .val (.long q0_4), .second, iv p0_5, rv b1, iv (1 : Int32), .val (.long sta), .second, .val (.long dur), .second, .val (.long nw), .second, iv (0 : Int32), iv (0 : Int32), iv (0 : Int32)] [(.int (1 : Int32))])) _
          refine XS.goto X59.here hx rfl (pc0 := 194) (pc' := 198) rfl (hb hby at_194) (by decide) (by decide) ?_
          show Steps p.tables e below (T59.setTop (mkF m 198 #[.val (.long q0_0), .second, .val (.long q0_1), .second, .val (.long q0_2), .second, .val (.long q0_3), .second, .val (.long q0_4), .second, iv p0_5, rv b1, iv (1 : Int32), .val (.long sta), .second, .val (.long dur), .second, .val (.long nw), .second, iv (0 : Int32), iv (0 : Int32), iv (0 : Int32)] [(.int (1 : Int32))])) _
          exact retN X59 hx (t := .boolean) Bd.returns (by simp) (hb hby at_198) hr
        · show Q_rm0 Z _ _ _ _ _ _ _ _ _ _ _ _ h0 n0 _ T59.heap _
          rw [K59q]
          exact ⟨rfl, N60, (K49)⟩
      · skip
        have f63 := (Nat.le_trans f44 K47q.1)
        have f64 := (f46.keep K47q)
        obtain ⟨cq62, kq62, q62a, q62b, q62c⟩ := isOf hZ rfl f64
        obtain ⟨_, _, ⟨T62, L62, k62, n62⟩, -, X62, ⟨Lc62, hQ62, l62, y62, z62⟩, st62⟩ := X47.virtualBack hx (y := MN7) (z := MN7) hown (mvT hZ wo61) (mvT hZ wo62) (notFace_of_selects (args := #[]) (mvT hZ wo64)) (mvT hZ wo64) (mvT hZ wo63) (by decide) (backOf (W := 0) (rm7 l Z a0 hw [] b1 nw (sta + dur) (T47.heap) n0 f63 hq47_1) hZ wo65 wo2 (by decide) (by decide)) q62a q62c (g := (mkF m 160 #[.val (.long q0_0), .second, .val (.long q0_1), .second, .val (.long q0_2), .second, .val (.long q0_3), .second, .val (.long q0_4), .second, iv p0_5, rv b1, iv (1 : Int32), .val (.long sta), .second, .val (.long dur), .second, .val (.long nw), .second, iv (1 : Int32), .unset, .unset] [(.long nw), (.ref b1)])) rfl (by rw [hml]; rfl) (Steps.refl _) (argsL := [(.long nw)]) (rest := []) (lenOf pd_4 rfl) rfl (by show 2 * 0 + _ ≤ _; exact Nat.le_of_eq rfl) (hb hby at_160) (fun _ _ => ⟨rfl, rfl, (by decide : 3 + 0 ≤ _), (by decide : 25 + 0 ≤ _)⟩)
        dsimp only [Pt.U, Pt.locs, Pt.cells, Pt.slots] at X62 l62 y62 z62 st62 hQ62
        subst l62 y62 z62
        obtain ⟨rfl, N62q, K62q⟩ := hQ62
        have N65 := Fr.app N48 N62q
        have q66 : (if (lcmpW nw (sta + dur)) < (0 : Int32) then (0 : Int32) else (1 : Int32)) = (1 : Int32) := if_neg (fun q => hc146_52 ((own_fin _ _ _ hnow hst hdu).mpr q))
        obtain ⟨cq67, kq67, q67a, q67b, q67c⟩ := isOf hZ K62q f64
        obtain ⟨_, _, ⟨T67, L67, k67, n67⟩, -, X67, ⟨Lc67, hQ67, l67, y67, z67⟩, st67⟩ := X62.virtualBack hx (y := MN7) (z := MN7) hown (mvT hZ wo61) (mvT hZ wo62) (notFace_of_selects (args := #[]) (mvT hZ wo64)) (mvT hZ wo64) (mvT hZ wo63) (by decide) (backOf (W := 0) (rm7 l Z a0 hw [] b1 nw (sta + dur) (T47.heap) n0 f63 hq47_1) hZ wo65 wo2 (by decide) (by decide)) q67a q67c (g := (mkF m 169 #[.val (.long q0_0), .second, .val (.long q0_1), .second, .val (.long q0_2), .second, .val (.long q0_3), .second, .val (.long q0_4), .second, iv p0_5, rv b1, iv (1 : Int32), .val (.long sta), .second, .val (.long dur), .second, .val (.long nw), .second, iv (1 : Int32), iv (1 : Int32), .unset] [(.long nw), (.ref b1)])) rfl (by rw [hml]; rfl) (Steps.refl _) (argsL := [(.long nw)]) (rest := []) (lenOf pd_4 rfl) rfl (by show 2 * 0 + _ ≤ _; exact Nat.le_of_eq rfl) (hb hby at_169) (fun _ _ => ⟨rfl, K62q, (by decide : 3 + 0 ≤ _), (by decide : 25 + 0 ≤ _)⟩)
        dsimp only [Pt.U, Pt.locs, Pt.cells, Pt.slots] at X67 l67 y67 z67 st67 hQ67
        subst l67 y67 z67
        obtain ⟨rfl, N67q, K67q⟩ := hQ67
        have N68 := Fr.app N65 N67q
        have q69 : (if (lcmpW nw (sta + dur)) < (0 : Int32) then (0 : Int32) else (1 : Int32)) = (1 : Int32) := if_neg (fun q => hc146_52 ((own_fin _ _ _ hnow hst hdu).mpr q))
        obtain ⟨fs, hr, hrun, hended, hW, hsame⟩ := X67.leave (v := some (.int (1 : Int32))) (fun h => by rw [Bd.returns] at h; cases h)
        refine ⟨_, _, pre53 _ ?_, hrun, hended, _, _, rfl, ?_, ⟨_, rfl⟩, hW, hsame.mono (by decide) (by decide)⟩
        · show Steps p.tables e below (T47.setTop (mkF m 146 #[.val (.long q0_0), .second, .val (.long q0_1), .second, .val (.long q0_2), .second, .val (.long q0_3), .second, .val (.long q0_4), .second, iv p0_5, rv b1, iv (1 : Int32), .val (.long sta), .second, .val (.long dur), .second, .val (.long nw), .second, .unset, .unset, .unset] [(.int (lcmpW (nw - sta) dur))])) _
          refine XS.ifNo X47.here hx rfl (hb hby at_146) rfl ((if0 _ _).trans (flt hc146_52).1) ?_
          show Steps p.tables e below (T47.setTop (mkF m 149 #[.val (.long q0_0), .second, .val (.long q0_1), .second, .val (.long q0_2), .second, .val (.long q0_3), .second, .val (.long q0_4), .second, iv p0_5, rv b1, iv (1 : Int32), .val (.long sta), .second, .val (.long dur), .second, .val (.long nw), .second, .unset, .unset, .unset] [])) _
          refine XS.iconst X47.here hx rfl (hb hby at_149) ?_
          show Steps p.tables e below (T47.setTop (mkF m 150 #[.val (.long q0_0), .second, .val (.long q0_1), .second, .val (.long q0_2), .second, .val (.long q0_3), .second, .val (.long q0_4), .second, iv p0_5, rv b1, iv (1 : Int32), .val (.long sta), .second, .val (.long dur), .second, .val (.long nw), .second, .unset, .unset, .unset] [(.int (1 : Int32))])) _
          refine XS.goto X47.here hx rfl (pc0 := 150) (pc' := 154) rfl (hb hby at_150) (by decide) (by decide) ?_
          show Steps p.tables e below (T47.setTop (mkF m 154 #[.val (.long q0_0), .second, .val (.long q0_1), .second, .val (.long q0_2), .second, .val (.long q0_3), .second, .val (.long q0_4), .second, iv p0_5, rv b1, iv (1 : Int32), .val (.long sta), .second, .val (.long dur), .second, .val (.long nw), .second, .unset, .unset, .unset] [(.int (1 : Int32))])) _
          refine XS.istore X47.here hx rfl (hb hby at_154) rfl (l' := #[.val (.long q0_0), .second, .val (.long q0_1), .second, .val (.long q0_2), .second, .val (.long q0_3), .second, .val (.long q0_4), .second, iv p0_5, rv b1, iv (1 : Int32), .val (.long sta), .second, .val (.long dur), .second, .val (.long nw), .second, iv (1 : Int32), .unset, .unset]) rfl ?_
          show Steps p.tables e below (T47.setTop (mkF m 156 #[.val (.long q0_0), .second, .val (.long q0_1), .second, .val (.long q0_2), .second, .val (.long q0_3), .second, .val (.long q0_4), .second, iv p0_5, rv b1, iv (1 : Int32), .val (.long sta), .second, .val (.long dur), .second, .val (.long nw), .second, iv (1 : Int32), .unset, .unset] [])) _
          refine XS.aload X47.here hx rfl (hb hby at_156) rfl rfl ?_
          show Steps p.tables e below (T47.setTop (mkF m 158 #[.val (.long q0_0), .second, .val (.long q0_1), .second, .val (.long q0_2), .second, .val (.long q0_3), .second, .val (.long q0_4), .second, iv p0_5, rv b1, iv (1 : Int32), .val (.long sta), .second, .val (.long dur), .second, .val (.long nw), .second, iv (1 : Int32), .unset, .unset] [(.ref b1)])) _
          refine XS.lload X47.here hx rfl (hb hby at_158) rfl ?_
          show Steps p.tables e below (T47.setTop (mkF m 160 #[.val (.long q0_0), .second, .val (.long q0_1), .second, .val (.long q0_2), .second, .val (.long q0_3), .second, .val (.long q0_4), .second, iv p0_5, rv b1, iv (1 : Int32), .val (.long sta), .second, .val (.long dur), .second, .val (.long nw), .second, iv (1 : Int32), .unset, .unset] [(.long nw), (.ref b1)])) _
          refine st62.trans ?_
          rw [q66]
          show Steps p.tables e below (T62.setTop (mkF m 163 #[.val (.long q0_0), .second, .val (.long q0_1), .second, .val (.long q0_2), .second, .val (.long q0_3), .second, .val (.long q0_4), .second, iv p0_5, rv b1, iv (1 : Int32), .val (.long sta), .second, .val (.long dur), .second, .val (.long nw), .second, iv (1 : Int32), .unset, .unset] [(.int (1 : Int32))])) _
          show Steps p.tables e below (T62.setTop (mkF m 163 #[.val (.long q0_0), .second, .val (.long q0_1), .second, .val (.long q0_2), .second, .val (.long q0_3), .second, .val (.long q0_4), .second, iv p0_5, rv b1, iv (1 : Int32), .val (.long sta), .second, .val (.long dur), .second, .val (.long nw), .second, iv (1 : Int32), .unset, .unset] [(.int (1 : Int32))])) _
          refine XS.istore X62.here hx rfl (hb hby at_163) rfl (l' := #[.val (.long q0_0), .second, .val (.long q0_1), .second, .val (.long q0_2), .second, .val (.long q0_3), .second, .val (.long q0_4), .second, iv p0_5, rv b1, iv (1 : Int32), .val (.long sta), .second, .val (.long dur), .second, .val (.long nw), .second, iv (1 : Int32), iv (1 : Int32), .unset]) rfl ?_
          show Steps p.tables e below (T62.setTop (mkF m 165 #[.val (.long q0_0), .second, .val (.long q0_1), .second, .val (.long q0_2), .second, .val (.long q0_3), .second, .val (.long q0_4), .second, iv p0_5, rv b1, iv (1 : Int32), .val (.long sta), .second, .val (.long dur), .second, .val (.long nw), .second, iv (1 : Int32), iv (1 : Int32), .unset] [])) _
          refine XS.aload X62.here hx rfl (hb hby at_165) rfl rfl ?_
          show Steps p.tables e below (T62.setTop (mkF m 167 #[.val (.long q0_0), .second, .val (.long q0_1), .second, .val (.long q0_2), .second, .val (.long q0_3), .second, .val (.long q0_4), .second, iv p0_5, rv b1, iv (1 : Int32), .val (.long sta), .second, .val (.long dur), .second, .val (.long nw), .second, iv (1 : Int32), iv (1 : Int32), .unset] [(.ref b1)])) _
          refine XS.lload X62.here hx rfl (hb hby at_167) rfl ?_
          show Steps p.tables e below (T62.setTop (mkF m 169 #[.val (.long q0_0), .second, .val (.long q0_1), .second, .val (.long q0_2), .second, .val (.long q0_3), .second, .val (.long q0_4), .second, iv p0_5, rv b1, iv (1 : Int32), .val (.long sta), .second, .val (.long dur), .second, .val (.long nw), .second, iv (1 : Int32), iv (1 : Int32), .unset] [(.long nw), (.ref b1)])) _
          refine st67.trans ?_
          rw [q69]
          show Steps p.tables e below (T67.setTop (mkF m 172 #[.val (.long q0_0), .second, .val (.long q0_1), .second, .val (.long q0_2), .second, .val (.long q0_3), .second, .val (.long q0_4), .second, iv p0_5, rv b1, iv (1 : Int32), .val (.long sta), .second, .val (.long dur), .second, .val (.long nw), .second, iv (1 : Int32), iv (1 : Int32), .unset] [(.int (1 : Int32))])) _
          show Steps p.tables e below (T67.setTop (mkF m 172 #[.val (.long q0_0), .second, .val (.long q0_1), .second, .val (.long q0_2), .second, .val (.long q0_3), .second, .val (.long q0_4), .second, iv p0_5, rv b1, iv (1 : Int32), .val (.long sta), .second, .val (.long dur), .second, .val (.long nw), .second, iv (1 : Int32), iv (1 : Int32), .unset] [(.int (1 : Int32))])) _
          refine XS.istore X67.here hx rfl (hb hby at_172) rfl (l' := #[.val (.long q0_0), .second, .val (.long q0_1), .second, .val (.long q0_2), .second, .val (.long q0_3), .second, .val (.long q0_4), .second, iv p0_5, rv b1, iv (1 : Int32), .val (.long sta), .second, .val (.long dur), .second, .val (.long nw), .second, iv (1 : Int32), iv (1 : Int32), iv (1 : Int32)]) rfl ?_
          show Steps p.tables e below (T67.setTop (mkF m 174 #[.val (.long q0_0), .second, .val (.long q0_1), .second, .val (.long q0_2), .second, .val (.long q0_3), .second, .val (.long q0_4), .second, iv p0_5, rv b1, iv (1 : Int32), .val (.long sta), .second, .val (.long dur), .second, .val (.long nw), .second, iv (1 : Int32), iv (1 : Int32), iv (1 : Int32)] [])) _
          refine XS.iload X67.here hx rfl (hb hby at_174) rfl ?_
          show Steps p.tables e below (T67.setTop (mkF m 176 #[.val (.long q0_0), .second, .val (.long q0_1), .second, .val (.long q0_2), .second, .val (.long q0_3), .second, .val (.long q0_4), .second, iv p0_5, rv b1, iv (1 : Int32), .val (.long sta), .second, .val (.long dur), .second, .val (.long nw), .second, iv (1 : Int32), iv (1 : Int32), iv (1 : Int32)] [(.int (1 : Int32))])) _
          refine XS.ifNo X67.here hx rfl (hb hby at_176) rfl ((if0 _ _).trans (feq (by decide : ¬ ((1 : Int32) = (0 : Int32)))).1) ?_
          show Steps p.tables e below (T67.setTop (mkF m 179 #[.val (.long q0_0), .second, .val (.long q0_1), .second, .val (.long q0_2), .second, .val (.long q0_3), .second, .val (.long q0_4), .second, iv p0_5, rv b1, iv (1 : Int32), .val (.long sta), .second, .val (.long dur), .second, .val (.long nw), .second, iv (1 : Int32), iv (1 : Int32), iv (1 : Int32)] [])) _
          refine XS.iload X67.here hx rfl (hb hby at_179) rfl ?_
          show Steps p.tables e below (T67.setTop (mkF m 181 #[.val (.long q0_0), .second, .val (.long q0_1), .second, .val (.long q0_2), .second, .val (.long q0_3), .second, .val (.long q0_4), .second, iv p0_5, rv b1, iv (1 : Int32), .val (.long sta), .second, .val (.long dur), .second, .val (.long nw), .second, iv (1 : Int32), iv (1 : Int32), iv (1 : Int32)] [(.int (1 : Int32))])) _
          refine XS.iload X67.here hx rfl (hb hby at_181) rfl ?_
          show Steps p.tables e below (T67.setTop (mkF m 183 #[.val (.long q0_0), .second, .val (.long q0_1), .second, .val (.long q0_2), .second, .val (.long q0_3), .second, .val (.long q0_4), .second, iv p0_5, rv b1, iv (1 : Int32), .val (.long sta), .second, .val (.long dur), .second, .val (.long nw), .second, iv (1 : Int32), iv (1 : Int32), iv (1 : Int32)] [(.int (1 : Int32)), (.int (1 : Int32))])) _
          refine XS.icmpNo X67.here hx rfl (hb hby at_183) rfl (teq (by decide : (1 : Int32) = (1 : Int32))).2 ?_
          show Steps p.tables e below (T67.setTop (mkF m 186 #[.val (.long q0_0), .second, .val (.long q0_1), .second, .val (.long q0_2), .second, .val (.long q0_3), .second, .val (.long q0_4), .second, iv p0_5, rv b1, iv (1 : Int32), .val (.long sta), .second, .val (.long dur), .second, .val (.long nw), .second, iv (1 : Int32), iv (1 : Int32), iv (1 : Int32)] [])) _
          refine XS.iload X67.here hx rfl (hb hby at_186) rfl ?_
          show Steps p.tables e below (T67.setTop (mkF m 188 #[.val (.long q0_0), .second, .val (.long q0_1), .second, .val (.long q0_2), .second, .val (.long q0_3), .second, .val (.long q0_4), .second, iv p0_5, rv b1, iv (1 : Int32), .val (.long sta), .second, .val (.long dur), .second, .val (.long nw), .second, iv (1 : Int32), iv (1 : Int32), iv (1 : Int32)] [(.int (1 : Int32))])) _
          refine XS.iload X67.here hx rfl (hb hby at_188) rfl ?_
          show Steps p.tables e below (T67.setTop (mkF m 190 #[.val (.long q0_0), .second, .val (.long q0_1), .second, .val (.long q0_2), .second, .val (.long q0_3), .second, .val (.long q0_4), .second, iv p0_5, rv b1, iv (1 : Int32), .val (.long sta), .second, .val (.long dur), .second, .val (.long nw), .second, iv (1 : Int32), iv (1 : Int32), iv (1 : Int32)] [(.int (1 : Int32)), (.int (1 : Int32))])) _
          refine XS.icmpNo X67.here hx rfl (hb hby at_190) rfl (teq (by decide : (1 : Int32) = (1 : Int32))).2 ?_
          show Steps p.tables e below (T67.setTop (mkF m 193 #[.val (.long q0_0), .second, .val (.long q0_1), .second, .val (.long q0_2), .second, .val (.long q0_3), .second, .val (.long q0_4), .second, iv p0_5, rv b1, iv (1 : Int32), .val (.long sta), .second, .val (.long dur), .second, .val (.long nw), .second, iv (1 : Int32), iv (1 : Int32), iv (1 : Int32)] [])) _
          refine XS.iconst X67.here hx rfl (hb hby at_193) ?_
          show Steps p.tables e below (T67.setTop (mkF m 194 #[.val (.long q0_0), .second, .val (.long q0_1), .second, .val (.long q0_2), .second, .val (.long q0_3), .second, .val (.long q0_4), .second, iv p0_5, rv b1, iv (1 : Int32), .val (.long sta), .second, .val (.long dur), .second, .val (.long nw), .second, iv (1 : Int32), iv (1 : Int32), iv (1 : Int32)] [(.int (1 : Int32))])) _
          refine XS.goto X67.here hx rfl (pc0 := 194) (pc' := 198) rfl (hb hby at_194) (by decide) (by decide) ?_
          show Steps p.tables e below (T67.setTop (mkF m 198 #[.val (.long q0_0), .second, .val (.long q0_1), .second, .val (.long q0_2), .second, .val (.long q0_3), .second, .val (.long q0_4), .second, iv p0_5, rv b1, iv (1 : Int32), .val (.long sta), .second, .val (.long dur), .second, .val (.long nw), .second, iv (1 : Int32), iv (1 : Int32), iv (1 : Int32)] [(.int (1 : Int32))])) _
          exact retN X67 hx (t := .boolean) Bd.returns (by simp) (hb hby at_198) hr
        · show Q_rm0 Z _ _ _ _ _ _ _ _ _ _ _ _ h0 n0 _ T67.heap _
          rw [K67q]
          exact ⟨rfl, N68, (K49)⟩
    · skip
      obtain ⟨nw, h_nw⟩ : ∃ z : Int64, z = ((sta + dur) + (q0_2 % (3 : Int64))) := ⟨_, rfl⟩
      have hnow : -2 ≤ nw.toInt := by rw [h_nw]; have q := own_add sta dur hst hdu; have q3 := own_r3 q0_2; have q2 := own_add3 (sta + dur) (q0_2 % (3 : Int64)) (by omega) q3; omega
      have pre71 : ∀ t, Steps p.tables e below (T47.setTop (mkF m 146 #[.val (.long q0_0), .second, .val (.long q0_1), .second, .val (.long q0_2), .second, .val (.long q0_3), .second, .val (.long q0_4), .second, iv p0_5, rv b1, iv (1 : Int32), .val (.long sta), .second, .val (.long dur), .second, .val (.long nw), .second, .unset, .unset, .unset] [(.int (lcmpW (nw - sta) dur))])) t → Steps p.tables e below (s₁.setTop (entryFrame m #[(.long q0_0), (.long q0_1), (.long q0_2), (.long q0_3), (.long q0_4), (.int p0_5)] maxLocals)) t := by
        intro t_ k_
        refine pre51 _ ?_
        show Steps p.tables e below (T47.setTop (mkF m 110 #[.val (.long q0_0), .second, .val (.long q0_1), .second, .val (.long q0_2), .second, .val (.long q0_3), .second, .val (.long q0_4), .second, iv p0_5, rv b1, iv (1 : Int32), .val (.long sta), .second, .val (.long dur), .second, .unset, .unset, .unset, .unset, .unset] [(.int (p0_5 &&& (16 : Int32)))])) _
        refine XS.ifNo X47.here hx rfl (hb hby at_110) rfl ((if0 _ _).trans (feq hc110_50).1) ?_
        show Steps p.tables e below (T47.setTop (mkF m 113 #[.val (.long q0_0), .second, .val (.long q0_1), .second, .val (.long q0_2), .second, .val (.long q0_3), .second, .val (.long q0_4), .second, iv p0_5, rv b1, iv (1 : Int32), .val (.long sta), .second, .val (.long dur), .second, .unset, .unset, .unset, .unset, .unset] [])) _
        refine XS.lload X47.here hx rfl (hb hby at_113) rfl ?_
        show Steps p.tables e below (T47.setTop (mkF m 115 #[.val (.long q0_0), .second, .val (.long q0_1), .second, .val (.long q0_2), .second, .val (.long q0_3), .second, .val (.long q0_4), .second, iv p0_5, rv b1, iv (1 : Int32), .val (.long sta), .second, .val (.long dur), .second, .unset, .unset, .unset, .unset, .unset] [(.long sta)])) _
        refine XS.lload X47.here hx rfl (hb hby at_115) rfl ?_
        show Steps p.tables e below (T47.setTop (mkF m 117 #[.val (.long q0_0), .second, .val (.long q0_1), .second, .val (.long q0_2), .second, .val (.long q0_3), .second, .val (.long q0_4), .second, iv p0_5, rv b1, iv (1 : Int32), .val (.long sta), .second, .val (.long dur), .second, .unset, .unset, .unset, .unset, .unset] [(.long dur), (.long sta)])) _
        refine XS.ladd X47.here hx rfl (hb hby at_117) rfl ?_
        show Steps p.tables e below (T47.setTop (mkF m 118 #[.val (.long q0_0), .second, .val (.long q0_1), .second, .val (.long q0_2), .second, .val (.long q0_3), .second, .val (.long q0_4), .second, iv p0_5, rv b1, iv (1 : Int32), .val (.long sta), .second, .val (.long dur), .second, .unset, .unset, .unset, .unset, .unset] [(.long (sta + dur))])) _
        refine XS.lload X47.here hx rfl (hb hby at_118) rfl ?_
        show Steps p.tables e below (T47.setTop (mkF m 120 #[.val (.long q0_0), .second, .val (.long q0_1), .second, .val (.long q0_2), .second, .val (.long q0_3), .second, .val (.long q0_4), .second, iv p0_5, rv b1, iv (1 : Int32), .val (.long sta), .second, .val (.long dur), .second, .unset, .unset, .unset, .unset, .unset] [(.long q0_2), (.long (sta + dur))])) _
        refine X47.ldc2Long hx hown (mvT hZ wo93) (g := (mkF m 120 #[.val (.long q0_0), .second, .val (.long q0_1), .second, .val (.long q0_2), .second, .val (.long q0_3), .second, .val (.long q0_4), .second, iv p0_5, rv b1, iv (1 : Int32), .val (.long sta), .second, .val (.long dur), .second, .unset, .unset, .unset, .unset, .unset] [(.long q0_2), (.long (sta + dur))])) rfl (hb hby at_120) _ ?_
        show Steps p.tables e below (T47.setTop (mkF m 123 #[.val (.long q0_0), .second, .val (.long q0_1), .second, .val (.long q0_2), .second, .val (.long q0_3), .second, .val (.long q0_4), .second, iv p0_5, rv b1, iv (1 : Int32), .val (.long sta), .second, .val (.long dur), .second, .unset, .unset, .unset, .unset, .unset] [(.long (3 : Int64)), (.long q0_2), (.long (sta + dur))])) _
        refine XS.lrem X47.here hx rfl (hb hby at_123) rfl (by decide) ?_
        rw [lrem_mod]
        show Steps p.tables e below (T47.setTop (mkF m 124 #[.val (.long q0_0), .second, .val (.long q0_1), .second, .val (.long q0_2), .second, .val (.long q0_3), .second, .val (.long q0_4), .second, iv p0_5, rv b1, iv (1 : Int32), .val (.long sta), .second, .val (.long dur), .second, .unset, .unset, .unset, .unset, .unset] [(.long (q0_2 % (3 : Int64))), (.long (sta + dur))])) _
        refine XS.ladd X47.here hx rfl (hb hby at_124) rfl ?_
        show Steps p.tables e below (T47.setTop (mkF m 125 #[.val (.long q0_0), .second, .val (.long q0_1), .second, .val (.long q0_2), .second, .val (.long q0_3), .second, .val (.long q0_4), .second, iv p0_5, rv b1, iv (1 : Int32), .val (.long sta), .second, .val (.long dur), .second, .unset, .unset, .unset, .unset, .unset] [(.long ((sta + dur) + (q0_2 % (3 : Int64))))])) _
        refine XS.lstore X47.here hx rfl (hb hby at_125) rfl (l' := #[.val (.long q0_0), .second, .val (.long q0_1), .second, .val (.long q0_2), .second, .val (.long q0_3), .second, .val (.long q0_4), .second, iv p0_5, rv b1, iv (1 : Int32), .val (.long sta), .second, .val (.long dur), .second, .val (.long ((sta + dur) + (q0_2 % (3 : Int64)))), .second, .unset, .unset, .unset]) rfl ?_
        show Steps p.tables e below (T47.setTop (mkF m 127 #[.val (.long q0_0), .second, .val (.long q0_1), .second, .val (.long q0_2), .second, .val (.long q0_3), .second, .val (.long q0_4), .second, iv p0_5, rv b1, iv (1 : Int32), .val (.long sta), .second, .val (.long dur), .second, .val (.long ((sta + dur) + (q0_2 % (3 : Int64)))), .second, .unset, .unset, .unset] [])) _
        refine XS.goto X47.here hx rfl (pc0 := 127) (pc' := 138) rfl (hb hby at_127) (by decide) (by decide) ?_
        rw [← h_nw]
        show Steps p.tables e below (T47.setTop (mkF m 138 #[.val (.long q0_0), .second, .val (.long q0_1), .second, .val (.long q0_2), .second, .val (.long q0_3), .second, .val (.long q0_4), .second, iv p0_5, rv b1, iv (1 : Int32), .val (.long sta), .second, .val (.long dur), .second, .val (.long nw), .second, .unset, .unset, .unset] [])) _
        show Steps p.tables e below (T47.setTop (mkF m 138 #[.val (.long q0_0), .second, .val (.long q0_1), .second, .val (.long q0_2), .second, .val (.long q0_3), .second, .val (.long q0_4), .second, iv p0_5, rv b1, iv (1 : Int32), .val (.long sta), .second, .val (.long dur), .second, .val (.long nw), .second, .unset, .unset, .unset] [])) _
        refine XS.lload X47.here hx rfl (hb hby at_138) rfl ?_
        show Steps p.tables e below (T47.setTop (mkF m 140 #[.val (.long q0_0), .second, .val (.long q0_1), .second, .val (.long q0_2), .second, .val (.long q0_3), .second, .val (.long q0_4), .second, iv p0_5, rv b1, iv (1 : Int32), .val (.long sta), .second, .val (.long dur), .second, .val (.long nw), .second, .unset, .unset, .unset] [(.long nw)])) _
        refine XS.lload X47.here hx rfl (hb hby at_140) rfl ?_
        show Steps p.tables e below (T47.setTop (mkF m 142 #[.val (.long q0_0), .second, .val (.long q0_1), .second, .val (.long q0_2), .second, .val (.long q0_3), .second, .val (.long q0_4), .second, iv p0_5, rv b1, iv (1 : Int32), .val (.long sta), .second, .val (.long dur), .second, .val (.long nw), .second, .unset, .unset, .unset] [(.long sta), (.long nw)])) _
        refine XS.lsub X47.here hx rfl (hb hby at_142) rfl ?_
        show Steps p.tables e below (T47.setTop (mkF m 143 #[.val (.long q0_0), .second, .val (.long q0_1), .second, .val (.long q0_2), .second, .val (.long q0_3), .second, .val (.long q0_4), .second, iv p0_5, rv b1, iv (1 : Int32), .val (.long sta), .second, .val (.long dur), .second, .val (.long nw), .second, .unset, .unset, .unset] [(.long (nw - sta))])) _
        refine XS.lload X47.here hx rfl (hb hby at_143) rfl ?_
        show Steps p.tables e below (T47.setTop (mkF m 145 #[.val (.long q0_0), .second, .val (.long q0_1), .second, .val (.long q0_2), .second, .val (.long q0_3), .second, .val (.long q0_4), .second, iv p0_5, rv b1, iv (1 : Int32), .val (.long sta), .second, .val (.long dur), .second, .val (.long nw), .second, .unset, .unset, .unset] [(.long dur), (.long (nw - sta))])) _
        refine XS.lcmp X47.here hx rfl (hb hby at_145) rfl ?_
        exact k_
      by_cases hc146_70 : (lcmpW (nw - sta) dur) < (0 : Int32)
      · skip
        have f73 := (Nat.le_trans f44 K47q.1)
        have f74 := (f46.keep K47q)
        obtain ⟨cq72, kq72, q72a, q72b, q72c⟩ := isOf hZ rfl f74
        obtain ⟨_, _, ⟨T72, L72, k72, n72⟩, -, X72, ⟨Lc72, hQ72, l72, y72, z72⟩, st72⟩ := X47.virtualBack hx (y := MN7) (z := MN7) hown (mvT hZ wo61) (mvT hZ wo62) (notFace_of_selects (args := #[]) (mvT hZ wo64)) (mvT hZ wo64) (mvT hZ wo63) (by decide) (backOf (W := 0) (rm7 l Z a0 hw [] b1 nw (sta + dur) (T47.heap) n0 f73 hq47_1) hZ wo65 wo2 (by decide) (by decide)) q72a q72c (g := (mkF m 160 #[.val (.long q0_0), .second, .val (.long q0_1), .second, .val (.long q0_2), .second, .val (.long q0_3), .second, .val (.long q0_4), .second, iv p0_5, rv b1, iv (1 : Int32), .val (.long sta), .second, .val (.long dur), .second, .val (.long nw), .second, iv (0 : Int32), .unset, .unset] [(.long nw), (.ref b1)])) rfl (by rw [hml]; rfl) (Steps.refl _) (argsL := [(.long nw)]) (rest := []) (lenOf pd_4 rfl) rfl (by show 2 * 0 + _ ≤ _; exact Nat.le_of_eq rfl) (hb hby at_160) (fun _ _ => ⟨rfl, rfl, (by decide : 3 + 0 ≤ _), (by decide : 25 + 0 ≤ _)⟩)
        dsimp only [Pt.U, Pt.locs, Pt.cells, Pt.slots] at X72 l72 y72 z72 st72 hQ72
        subst l72 y72 z72
        obtain ⟨rfl, N72q, K72q⟩ := hQ72
        have N75 := Fr.app N48 N72q
        have q76 : (if (lcmpW nw (sta + dur)) < (0 : Int32) then (0 : Int32) else (1 : Int32)) = (0 : Int32) := if_pos ((own_fin _ _ _ hnow hst hdu).mp hc146_70)
        obtain ⟨cq77, kq77, q77a, q77b, q77c⟩ := isOf hZ K72q f74
        obtain ⟨_, _, ⟨T77, L77, k77, n77⟩, -, X77, ⟨Lc77, hQ77, l77, y77, z77⟩, st77⟩ := X72.virtualBack hx (y := MN7) (z := MN7) hown (mvT hZ wo61) (mvT hZ wo62) (notFace_of_selects (args := #[]) (mvT hZ wo64)) (mvT hZ wo64) (mvT hZ wo63) (by decide) (backOf (W := 0) (rm7 l Z a0 hw [] b1 nw (sta + dur) (T47.heap) n0 f73 hq47_1) hZ wo65 wo2 (by decide) (by decide)) q77a q77c (g := (mkF m 169 #[.val (.long q0_0), .second, .val (.long q0_1), .second, .val (.long q0_2), .second, .val (.long q0_3), .second, .val (.long q0_4), .second, iv p0_5, rv b1, iv (1 : Int32), .val (.long sta), .second, .val (.long dur), .second, .val (.long nw), .second, iv (0 : Int32), iv (0 : Int32), .unset] [(.long nw), (.ref b1)])) rfl (by rw [hml]; rfl) (Steps.refl _) (argsL := [(.long nw)]) (rest := []) (lenOf pd_4 rfl) rfl (by show 2 * 0 + _ ≤ _; exact Nat.le_of_eq rfl) (hb hby at_169) (fun _ _ => ⟨rfl, K72q, (by decide : 3 + 0 ≤ _), (by decide : 25 + 0 ≤ _)⟩)
        dsimp only [Pt.U, Pt.locs, Pt.cells, Pt.slots] at X77 l77 y77 z77 st77 hQ77
        subst l77 y77 z77
        obtain ⟨rfl, N77q, K77q⟩ := hQ77
        have N78 := Fr.app N75 N77q
        have q79 : (if (lcmpW nw (sta + dur)) < (0 : Int32) then (0 : Int32) else (1 : Int32)) = (0 : Int32) := if_pos ((own_fin _ _ _ hnow hst hdu).mp hc146_70)
        obtain ⟨fs, hr, hrun, hended, hW, hsame⟩ := X77.leave (v := some (.int (1 : Int32))) (fun h => by rw [Bd.returns] at h; cases h)
        refine ⟨_, _, pre71 _ ?_, hrun, hended, _, _, rfl, ?_, ⟨_, rfl⟩, hW, hsame.mono (by decide) (by decide)⟩
        · show Steps p.tables e below (T47.setTop (mkF m 146 #[.val (.long q0_0), .second, .val (.long q0_1), .second, .val (.long q0_2), .second, .val (.long q0_3), .second, .val (.long q0_4), .second, iv p0_5, rv b1, iv (1 : Int32), .val (.long sta), .second, .val (.long dur), .second, .val (.long nw), .second, .unset, .unset, .unset] [(.int (lcmpW (nw - sta) dur))])) _
          refine XS.ifYes X47.here hx rfl (pc0 := 146) (pc' := 153) rfl (hb hby at_146) rfl ((if0 _ _).trans (tlt hc146_70).1) (by decide) (by decide) ?_
          show Steps p.tables e below (T47.setTop (mkF m 153 #[.val (.long q0_0), .second, .val (.long q0_1), .second, .val (.long q0_2), .second, .val (.long q0_3), .second, .val (.long q0_4), .second, iv p0_5, rv b1, iv (1 : Int32), .val (.long sta), .second, .val (.long dur), .second, .val (.long nw), .second, .unset, .unset, .unset] [])) _
          refine XS.iconst X47.here hx rfl (hb hby at_153) ?_
          show Steps p.tables e below (T47.setTop (mkF m 154 #[.val (.long q0_0), .second, .val (.long q0_1), .second, .val (.long q0_2), .second, .val (.long q0_3), .second, .val (.long q0_4), .second, iv p0_5, rv b1, iv (1 : Int32), .val (.long sta), .second, .val (.long dur), .second, .val (.long nw), .second, .unset, .unset, .unset] [(.int (0 : Int32))])) _
          refine XS.istore X47.here hx rfl (hb hby at_154) rfl (l' := #[.val (.long q0_0), .second, .val (.long q0_1), .second, .val (.long q0_2), .second, .val (.long q0_3), .second, .val (.long q0_4), .second, iv p0_5, rv b1, iv (1 : Int32), .val (.long sta), .second, .val (.long dur), .second, .val (.long nw), .second, iv (0 : Int32), .unset, .unset]) rfl ?_
          show Steps p.tables e below (T47.setTop (mkF m 156 #[.val (.long q0_0), .second, .val (.long q0_1), .second, .val (.long q0_2), .second, .val (.long q0_3), .second, .val (.long q0_4), .second, iv p0_5, rv b1, iv (1 : Int32), .val (.long sta), .second, .val (.long dur), .second, .val (.long nw), .second, iv (0 : Int32), .unset, .unset] [])) _
          refine XS.aload X47.here hx rfl (hb hby at_156) rfl rfl ?_
          show Steps p.tables e below (T47.setTop (mkF m 158 #[.val (.long q0_0), .second, .val (.long q0_1), .second, .val (.long q0_2), .second, .val (.long q0_3), .second, .val (.long q0_4), .second, iv p0_5, rv b1, iv (1 : Int32), .val (.long sta), .second, .val (.long dur), .second, .val (.long nw), .second, iv (0 : Int32), .unset, .unset] [(.ref b1)])) _
          refine XS.lload X47.here hx rfl (hb hby at_158) rfl ?_
          show Steps p.tables e below (T47.setTop (mkF m 160 #[.val (.long q0_0), .second, .val (.long q0_1), .second, .val (.long q0_2), .second, .val (.long q0_3), .second, .val (.long q0_4), .second, iv p0_5, rv b1, iv (1 : Int32), .val (.long sta), .second, .val (.long dur), .second, .val (.long nw), .second, iv (0 : Int32), .unset, .unset] [(.long nw), (.ref b1)])) _
          refine st72.trans ?_
          rw [q76]
          show Steps p.tables e below (T72.setTop (mkF m 163 #[.val (.long q0_0), .second, .val (.long q0_1), .second, .val (.long q0_2), .second, .val (.long q0_3), .second, .val (.long q0_4), .second, iv p0_5, rv b1, iv (1 : Int32), .val (.long sta), .second, .val (.long dur), .second, .val (.long nw), .second, iv (0 : Int32), .unset, .unset] [(.int (0 : Int32))])) _
          show Steps p.tables e below (T72.setTop (mkF m 163 #[.val (.long q0_0), .second, .val (.long q0_1), .second, .val (.long q0_2), .second, .val (.long q0_3), .second, .val (.long q0_4), .second, iv p0_5, rv b1, iv (1 : Int32), .val (.long sta), .second, .val (.long dur), .second, .val (.long nw), .second, iv (0 : Int32), .unset, .unset] [(.int (0 : Int32))])) _
          refine XS.istore X72.here hx rfl (hb hby at_163) rfl (l' := #[.val (.long q0_0), .second, .val (.long q0_1), .second, .val (.long q0_2), .second, .val (.long q0_3), .second, .val (.long q0_4), .second, iv p0_5, rv b1, iv (1 : Int32), .val (.long sta), .second, .val (.long dur), .second, .val (.long nw), .second, iv (0 : Int32), iv (0 : Int32), .unset]) rfl ?_
          show Steps p.tables e below (T72.setTop (mkF m 165 #[.val (.long q0_0), .second, .val (.long q0_1), .second, .val (.long q0_2), .second, .val (.long q0_3), .second, .val (.long q0_4), .second, iv p0_5, rv b1, iv (1 : Int32), .val (.long sta), .second, .val (.long dur), .second, .val (.long nw), .second, iv (0 : Int32), iv (0 : Int32), .unset] [])) _
          refine XS.aload X72.here hx rfl (hb hby at_165) rfl rfl ?_
          show Steps p.tables e below (T72.setTop (mkF m 167 #[.val (.long q0_0), .second, .val (.long q0_1), .second, .val (.long q0_2), .second, .val (.long q0_3), .second, .val (.long q0_4), .second, iv p0_5, rv b1, iv (1 : Int32), .val (.long sta), .second, .val (.long dur), .second, .val (.long nw), .second, iv (0 : Int32), iv (0 : Int32), .unset] [(.ref b1)])) _
          refine XS.lload X72.here hx rfl (hb hby at_167) rfl ?_
          show Steps p.tables e below (T72.setTop (mkF m 169 #[.val (.long q0_0), .second, .val (.long q0_1), .second, .val (.long q0_2), .second, .val (.long q0_3), .second, .val (.long q0_4), .second, iv p0_5, rv b1, iv (1 : Int32), .val (.long sta), .second, .val (.long dur), .second, .val (.long nw), .second, iv (0 : Int32), iv (0 : Int32), .unset] [(.long nw), (.ref b1)])) _
          refine st77.trans ?_
          rw [q79]
          show Steps p.tables e below (T77.setTop (mkF m 172 #[.val (.long q0_0), .second, .val (.long q0_1), .second, .val (.long q0_2), .second, .val (.long q0_3), .second, .val (.long q0_4), .second, iv p0_5, rv b1, iv (1 : Int32), .val (.long sta), .second, .val (.long dur), .second, .val (.long nw), .second, iv (0 : Int32), iv (0 : Int32), .unset] [(.int (0 : Int32))])) _
          show Steps p.tables e below (T77.setTop (mkF m 172 #[.val (.long q0_0), .second, .val (.long q0_1), .second, .val (.long q0_2), .second, .val (.long q0_3), .second, .val (.long q0_4), .second, iv p0_5, rv b1, iv (1 : Int32), .val (.long sta), .second, .val (.long dur), .second, .val (.long nw), .second, iv (0 : Int32), iv (0 : Int32), .unset] [(.int (0 : Int32))])) _
          refine XS.istore X77.here hx rfl (hb hby at_172) rfl (l' := #[.val (.long q0_0), .second, .val (.long q0_1), .second, .val (.long q0_2), .second, .val (.long q0_3), .second, .val (.long q0_4), .second, iv p0_5, rv b1, iv (1 : Int32), .val (.long sta), .second, .val (.long dur), .second, .val (.long nw), .second, iv (0 : Int32), iv (0 : Int32), iv (0 : Int32)]) rfl ?_
          show Steps p.tables e below (T77.setTop (mkF m 174 #[.val (.long q0_0), .second, .val (.long q0_1), .second, .val (.long q0_2), .second, .val (.long q0_3), .second, .val (.long q0_4), .second, iv p0_5, rv b1, iv (1 : Int32), .val (.long sta), .second, .val (.long dur), .second, .val (.long nw), .second, iv (0 : Int32), iv (0 : Int32), iv (0 : Int32)] [])) _
          refine XS.iload X77.here hx rfl (hb hby at_174) rfl ?_
          show Steps p.tables e below (T77.setTop (mkF m 176 #[.val (.long q0_0), .second, .val (.long q0_1), .second, .val (.long q0_2), .second, .val (.long q0_3), .second, .val (.long q0_4), .second, iv p0_5, rv b1, iv (1 : Int32), .val (.long sta), .second, .val (.long dur), .second, .val (.long nw), .second, iv (0 : Int32), iv (0 : Int32), iv (0 : Int32)] [(.int (1 : Int32))])) _
          refine XS.ifNo X77.here hx rfl (hb hby at_176) rfl ((if0 _ _).trans (feq (by decide : ¬ ((1 : Int32) = (0 : Int32)))).1) ?_
          show Steps p.tables e below (T77.setTop (mkF m 179 #[.val (.long q0_0), .second, .val (.long q0_1), .second, .val (.long q0_2), .second, .val (.long q0_3), .second, .val (.long q0_4), .second, iv p0_5, rv b1, iv (1 : Int32), .val (.long sta), .second, .val (.long dur), .second, .val (.long nw), .second, iv (0 : Int32), iv (0 : Int32), iv (0 : Int32)] [])) _
          refine XS.iload X77.here hx rfl (hb hby at_179) rfl ?_
          show Steps p.tables e below (T77.setTop (mkF m 181 #[.val (.long q0_0), .second, .val (.long q0_1), .second, .val (.long q0_2), .second, .val (.long q0_3), .second, .val (.long q0_4), .second, iv p0_5, rv b1, iv (1 : Int32), .val (.long sta), .second, .val (.long dur), .second, .val (.long nw), .second, iv (0 : Int32), iv (0 : Int32), iv (0 : Int32)] [(.int (0 : Int32))])) _
          refine XS.iload X77.here hx rfl (hb hby at_181) rfl ?_
          show Steps p.tables e below (T77.setTop (mkF m 183 #[.val (.long q0_0), .second, .val (.long q0_1), .second, .val (.long q0_2), .second, .val (.long q0_3), .second, .val (.long q0_4), .second, iv p0_5, rv b1, iv (1 : Int32), .val (.long sta), .second, .val (.long dur), .second, .val (.long nw), .second, iv (0 : Int32), iv (0 : Int32), iv (0 : Int32)] [(.int (0 : Int32)), (.int (0 : Int32))])) _
          refine XS.icmpNo X77.here hx rfl (hb hby at_183) rfl (teq (by decide : (0 : Int32) = (0 : Int32))).2 ?_
          show Steps p.tables e below (T77.setTop (mkF m 186 #[.val (.long q0_0), .second, .val (.long q0_1), .second, .val (.long q0_2), .second, .val (.long q0_3), .second, .val (.long q0_4), .second, iv p0_5, rv b1, iv (1 : Int32), .val (.long sta), .second, .val (.long dur), .second, .val (.long nw), .second, iv (0 : Int32), iv (0 : Int32), iv (0 : Int32)] [])) _
          refine XS.iload X77.here hx rfl (hb hby at_186) rfl ?_
          show Steps p.tables e below (T77.setTop (mkF m 188 #[.val (.long q0_0), .second, .val (.long q0_1), .second, .val (.long q0_2), .second, .val (.long q0_3), .second, .val (.long q0_4), .second, iv p0_5, rv b1, iv (1 : Int32), .val (.long sta), .second, .val (.long dur), .second, .val (.long nw), .second, iv (0 : Int32), iv (0 : Int32), iv (0 : Int32)] [(.int (0 : Int32))])) _
          refine XS.iload X77.here hx rfl (hb hby at_188) rfl ?_
          show Steps p.tables e below (T77.setTop (mkF m 190 #[.val (.long q0_0), .second, .val (.long q0_1), .second, .val (.long q0_2), .second, .val (.long q0_3), .second, .val (.long q0_4), .second, iv p0_5, rv b1, iv (1 : Int32), .val (.long sta), .second, .val (.long dur), .second, .val (.long nw), .second, iv (0 : Int32), iv (0 : Int32), iv (0 : Int32)] [(.int (0 : Int32)), (.int (0 : Int32))])) _
          refine XS.icmpNo X77.here hx rfl (hb hby at_190) rfl (teq (by decide : (0 : Int32) = (0 : Int32))).2 ?_
          show Steps p.tables e below (T77.setTop (mkF m 193 #[.val (.long q0_0), .second, .val (.long q0_1), .second, .val (.long q0_2), .second, .val (.long q0_3), .second, .val (.long q0_4), .second, iv p0_5, rv b1, iv (1 : Int32), .val (.long sta), .second, .val (.long dur), .second, .val (.long nw), .second, iv (0 : Int32), iv (0 : Int32), iv (0 : Int32)] [])) _
          refine XS.iconst X77.here hx rfl (hb hby at_193) ?_
          show Steps p.tables e below (T77.setTop (mkF m 194 #[.val (.long q0_0), .second, .val (.long q0_1), .second, .val (.long q0_2), .second, .val (.long q0_3), .second, .val (.long q0_4), .second, iv p0_5, rv b1, iv (1 : Int32), .val (.long sta), .second, .val (.long dur), .second, .val (.long nw), .second, iv (0 : Int32), iv (0 : Int32), iv (0 : Int32)] [(.int (1 : Int32))])) _
          refine XS.goto X77.here hx rfl (pc0 := 194) (pc' := 198) rfl (hb hby at_194) (by decide) (by decide) ?_
          show Steps p.tables e below (T77.setTop (mkF m 198 #[.val (.long q0_0), .second, .val (.long q0_1), .second, .val (.long q0_2), .second, .val (.long q0_3), .second, .val (.long q0_4), .second, iv p0_5, rv b1, iv (1 : Int32), .val (.long sta), .second, .val (.long dur), .second, .val (.long nw), .second, iv (0 : Int32), iv (0 : Int32), iv (0 : Int32)] [(.int (1 : Int32))])) _
          exact retN X77 hx (t := .boolean) Bd.returns (by simp) (hb hby at_198) hr
        · show Q_rm0 Z _ _ _ _ _ _ _ _ _ _ _ _ h0 n0 _ T77.heap _
          rw [K77q]
          exact ⟨rfl, N78, (K49)⟩
      · skip
        have f81 := (Nat.le_trans f44 K47q.1)
        have f82 := (f46.keep K47q)
        obtain ⟨cq80, kq80, q80a, q80b, q80c⟩ := isOf hZ rfl f82
        obtain ⟨_, _, ⟨T80, L80, k80, n80⟩, -, X80, ⟨Lc80, hQ80, l80, y80, z80⟩, st80⟩ := X47.virtualBack hx (y := MN7) (z := MN7) hown (mvT hZ wo61) (mvT hZ wo62) (notFace_of_selects (args := #[]) (mvT hZ wo64)) (mvT hZ wo64) (mvT hZ wo63) (by decide) (backOf (W := 0) (rm7 l Z a0 hw [] b1 nw (sta + dur) (T47.heap) n0 f81 hq47_1) hZ wo65 wo2 (by decide) (by decide)) q80a q80c (g := (mkF m 160 #[.val (.long q0_0), .second, .val (.long q0_1), .second, .val (.long q0_2), .second, .val (.long q0_3), .second, .val (.long q0_4), .second, iv p0_5, rv b1, iv (1 : Int32), .val (.long sta), .second, .val (.long dur), .second, .val (.long nw), .second, iv (1 : Int32), .unset, .unset] [(.long nw), (.ref b1)])) rfl (by rw [hml]; rfl) (Steps.refl _) (argsL := [(.long nw)]) (rest := []) (lenOf pd_4 rfl) rfl (by show 2 * 0 + _ ≤ _; exact Nat.le_of_eq rfl) (hb hby at_160) (fun _ _ => ⟨rfl, rfl, (by decide : 3 + 0 ≤ _), (by decide : 25 + 0 ≤ _)⟩)
        dsimp only [Pt.U, Pt.locs, Pt.cells, Pt.slots] at X80 l80 y80 z80 st80 hQ80
        subst l80 y80 z80
        obtain ⟨rfl, N80q, K80q⟩ := hQ80
        have N83 := Fr.app N48 N80q
        have q84 : (if (lcmpW nw (sta + dur)) < (0 : Int32) then (0 : Int32) else (1 : Int32)) = (1 : Int32) := if_neg (fun q => hc146_70 ((own_fin _ _ _ hnow hst hdu).mpr q))
        obtain ⟨cq85, kq85, q85a, q85b, q85c⟩ := isOf hZ K80q f82
        obtain ⟨_, _, ⟨T85, L85, k85, n85⟩, -, X85, ⟨Lc85, hQ85, l85, y85, z85⟩, st85⟩ := X80.virtualBack hx (y := MN7) (z := MN7) hown (mvT hZ wo61) (mvT hZ wo62) (notFace_of_selects (args := #[]) (mvT hZ wo64)) (mvT hZ wo64) (mvT hZ wo63) (by decide) (backOf (W := 0) (rm7 l Z a0 hw [] b1 nw (sta + dur) (T47.heap) n0 f81 hq47_1) hZ wo65 wo2 (by decide) (by decide)) q85a q85c (g := (mkF m 169 #[.val (.long q0_0), .second, .val (.long q0_1), .second, .val (.long q0_2), .second, .val (.long q0_3), .second, .val (.long q0_4), .second, iv p0_5, rv b1, iv (1 : Int32), .val (.long sta), .second, .val (.long dur), .second, .val (.long nw), .second, iv (1 : Int32), iv (1 : Int32), .unset] [(.long nw), (.ref b1)])) rfl (by rw [hml]; rfl) (Steps.refl _) (argsL := [(.long nw)]) (rest := []) (lenOf pd_4 rfl) rfl (by show 2 * 0 + _ ≤ _; exact Nat.le_of_eq rfl) (hb hby at_169) (fun _ _ => ⟨rfl, K80q, (by decide : 3 + 0 ≤ _), (by decide : 25 + 0 ≤ _)⟩)
        dsimp only [Pt.U, Pt.locs, Pt.cells, Pt.slots] at X85 l85 y85 z85 st85 hQ85
        subst l85 y85 z85
        obtain ⟨rfl, N85q, K85q⟩ := hQ85
        have N86 := Fr.app N83 N85q
        have q87 : (if (lcmpW nw (sta + dur)) < (0 : Int32) then (0 : Int32) else (1 : Int32)) = (1 : Int32) := if_neg (fun q => hc146_70 ((own_fin _ _ _ hnow hst hdu).mpr q))
        obtain ⟨fs, hr, hrun, hended, hW, hsame⟩ := X85.leave (v := some (.int (1 : Int32))) (fun h => by rw [Bd.returns] at h; cases h)
        refine ⟨_, _, pre71 _ ?_, hrun, hended, _, _, rfl, ?_, ⟨_, rfl⟩, hW, hsame.mono (by decide) (by decide)⟩
        · show Steps p.tables e below (T47.setTop (mkF m 146 #[.val (.long q0_0), .second, .val (.long q0_1), .second, .val (.long q0_2), .second, .val (.long q0_3), .second, .val (.long q0_4), .second, iv p0_5, rv b1, iv (1 : Int32), .val (.long sta), .second, .val (.long dur), .second, .val (.long nw), .second, .unset, .unset, .unset] [(.int (lcmpW (nw - sta) dur))])) _
          refine XS.ifNo X47.here hx rfl (hb hby at_146) rfl ((if0 _ _).trans (flt hc146_70).1) ?_
          show Steps p.tables e below (T47.setTop (mkF m 149 #[.val (.long q0_0), .second, .val (.long q0_1), .second, .val (.long q0_2), .second, .val (.long q0_3), .second, .val (.long q0_4), .second, iv p0_5, rv b1, iv (1 : Int32), .val (.long sta), .second, .val (.long dur), .second, .val (.long nw), .second, .unset, .unset, .unset] [])) _
          refine XS.iconst X47.here hx rfl (hb hby at_149) ?_
          show Steps p.tables e below (T47.setTop (mkF m 150 #[.val (.long q0_0), .second, .val (.long q0_1), .second, .val (.long q0_2), .second, .val (.long q0_3), .second, .val (.long q0_4), .second, iv p0_5, rv b1, iv (1 : Int32), .val (.long sta), .second, .val (.long dur), .second, .val (.long nw), .second, .unset, .unset, .unset] [(.int (1 : Int32))])) _
          refine XS.goto X47.here hx rfl (pc0 := 150) (pc' := 154) rfl (hb hby at_150) (by decide) (by decide) ?_
          show Steps p.tables e below (T47.setTop (mkF m 154 #[.val (.long q0_0), .second, .val (.long q0_1), .second, .val (.long q0_2), .second, .val (.long q0_3), .second, .val (.long q0_4), .second, iv p0_5, rv b1, iv (1 : Int32), .val (.long sta), .second, .val (.long dur), .second, .val (.long nw), .second, .unset, .unset, .unset] [(.int (1 : Int32))])) _
          refine XS.istore X47.here hx rfl (hb hby at_154) rfl (l' := #[.val (.long q0_0), .second, .val (.long q0_1), .second, .val (.long q0_2), .second, .val (.long q0_3), .second, .val (.long q0_4), .second, iv p0_5, rv b1, iv (1 : Int32), .val (.long sta), .second, .val (.long dur), .second, .val (.long nw), .second, iv (1 : Int32), .unset, .unset]) rfl ?_
          show Steps p.tables e below (T47.setTop (mkF m 156 #[.val (.long q0_0), .second, .val (.long q0_1), .second, .val (.long q0_2), .second, .val (.long q0_3), .second, .val (.long q0_4), .second, iv p0_5, rv b1, iv (1 : Int32), .val (.long sta), .second, .val (.long dur), .second, .val (.long nw), .second, iv (1 : Int32), .unset, .unset] [])) _
          refine XS.aload X47.here hx rfl (hb hby at_156) rfl rfl ?_
          show Steps p.tables e below (T47.setTop (mkF m 158 #[.val (.long q0_0), .second, .val (.long q0_1), .second, .val (.long q0_2), .second, .val (.long q0_3), .second, .val (.long q0_4), .second, iv p0_5, rv b1, iv (1 : Int32), .val (.long sta), .second, .val (.long dur), .second, .val (.long nw), .second, iv (1 : Int32), .unset, .unset] [(.ref b1)])) _
          refine XS.lload X47.here hx rfl (hb hby at_158) rfl ?_
          show Steps p.tables e below (T47.setTop (mkF m 160 #[.val (.long q0_0), .second, .val (.long q0_1), .second, .val (.long q0_2), .second, .val (.long q0_3), .second, .val (.long q0_4), .second, iv p0_5, rv b1, iv (1 : Int32), .val (.long sta), .second, .val (.long dur), .second, .val (.long nw), .second, iv (1 : Int32), .unset, .unset] [(.long nw), (.ref b1)])) _
          refine st80.trans ?_
          rw [q84]
          show Steps p.tables e below (T80.setTop (mkF m 163 #[.val (.long q0_0), .second, .val (.long q0_1), .second, .val (.long q0_2), .second, .val (.long q0_3), .second, .val (.long q0_4), .second, iv p0_5, rv b1, iv (1 : Int32), .val (.long sta), .second, .val (.long dur), .second, .val (.long nw), .second, iv (1 : Int32), .unset, .unset] [(.int (1 : Int32))])) _
          show Steps p.tables e below (T80.setTop (mkF m 163 #[.val (.long q0_0), .second, .val (.long q0_1), .second, .val (.long q0_2), .second, .val (.long q0_3), .second, .val (.long q0_4), .second, iv p0_5, rv b1, iv (1 : Int32), .val (.long sta), .second, .val (.long dur), .second, .val (.long nw), .second, iv (1 : Int32), .unset, .unset] [(.int (1 : Int32))])) _
          refine XS.istore X80.here hx rfl (hb hby at_163) rfl (l' := #[.val (.long q0_0), .second, .val (.long q0_1), .second, .val (.long q0_2), .second, .val (.long q0_3), .second, .val (.long q0_4), .second, iv p0_5, rv b1, iv (1 : Int32), .val (.long sta), .second, .val (.long dur), .second, .val (.long nw), .second, iv (1 : Int32), iv (1 : Int32), .unset]) rfl ?_
          show Steps p.tables e below (T80.setTop (mkF m 165 #[.val (.long q0_0), .second, .val (.long q0_1), .second, .val (.long q0_2), .second, .val (.long q0_3), .second, .val (.long q0_4), .second, iv p0_5, rv b1, iv (1 : Int32), .val (.long sta), .second, .val (.long dur), .second, .val (.long nw), .second, iv (1 : Int32), iv (1 : Int32), .unset] [])) _
          refine XS.aload X80.here hx rfl (hb hby at_165) rfl rfl ?_
          show Steps p.tables e below (T80.setTop (mkF m 167 #[.val (.long q0_0), .second, .val (.long q0_1), .second, .val (.long q0_2), .second, .val (.long q0_3), .second, .val (.long q0_4), .second, iv p0_5, rv b1, iv (1 : Int32), .val (.long sta), .second, .val (.long dur), .second, .val (.long nw), .second, iv (1 : Int32), iv (1 : Int32), .unset] [(.ref b1)])) _
          refine XS.lload X80.here hx rfl (hb hby at_167) rfl ?_
          show Steps p.tables e below (T80.setTop (mkF m 169 #[.val (.long q0_0), .second, .val (.long q0_1), .second, .val (.long q0_2), .second, .val (.long q0_3), .second, .val (.long q0_4), .second, iv p0_5, rv b1, iv (1 : Int32), .val (.long sta), .second, .val (.long dur), .second, .val (.long nw), .second, iv (1 : Int32), iv (1 : Int32), .unset] [(.long nw), (.ref b1)])) _
          refine st85.trans ?_
          rw [q87]
          show Steps p.tables e below (T85.setTop (mkF m 172 #[.val (.long q0_0), .second, .val (.long q0_1), .second, .val (.long q0_2), .second, .val (.long q0_3), .second, .val (.long q0_4), .second, iv p0_5, rv b1, iv (1 : Int32), .val (.long sta), .second, .val (.long dur), .second, .val (.long nw), .second, iv (1 : Int32), iv (1 : Int32), .unset] [(.int (1 : Int32))])) _
          show Steps p.tables e below (T85.setTop (mkF m 172 #[.val (.long q0_0), .second, .val (.long q0_1), .second, .val (.long q0_2), .second, .val (.long q0_3), .second, .val (.long q0_4), .second, iv p0_5, rv b1, iv (1 : Int32), .val (.long sta), .second, .val (.long dur), .second, .val (.long nw), .second, iv (1 : Int32), iv (1 : Int32), .unset] [(.int (1 : Int32))])) _
          refine XS.istore X85.here hx rfl (hb hby at_172) rfl (l' := #[.val (.long q0_0), .second, .val (.long q0_1), .second, .val (.long q0_2), .second, .val (.long q0_3), .second, .val (.long q0_4), .second, iv p0_5, rv b1, iv (1 : Int32), .val (.long sta), .second, .val (.long dur), .second, .val (.long nw), .second, iv (1 : Int32), iv (1 : Int32), iv (1 : Int32)]) rfl ?_
          show Steps p.tables e below (T85.setTop (mkF m 174 #[.val (.long q0_0), .second, .val (.long q0_1), .second, .val (.long q0_2), .second, .val (.long q0_3), .second, .val (.long q0_4), .second, iv p0_5, rv b1, iv (1 : Int32), .val (.long sta), .second, .val (.long dur), .second, .val (.long nw), .second, iv (1 : Int32), iv (1 : Int32), iv (1 : Int32)] [])) _
          refine XS.iload X85.here hx rfl (hb hby at_174) rfl ?_
          show Steps p.tables e below (T85.setTop (mkF m 176 #[.val (.long q0_0), .second, .val (.long q0_1), .second, .val (.long q0_2), .second, .val (.long q0_3), .second, .val (.long q0_4), .second, iv p0_5, rv b1, iv (1 : Int32), .val (.long sta), .second, .val (.long dur), .second, .val (.long nw), .second, iv (1 : Int32), iv (1 : Int32), iv (1 : Int32)] [(.int (1 : Int32))])) _
          refine XS.ifNo X85.here hx rfl (hb hby at_176) rfl ((if0 _ _).trans (feq (by decide : ¬ ((1 : Int32) = (0 : Int32)))).1) ?_
          show Steps p.tables e below (T85.setTop (mkF m 179 #[.val (.long q0_0), .second, .val (.long q0_1), .second, .val (.long q0_2), .second, .val (.long q0_3), .second, .val (.long q0_4), .second, iv p0_5, rv b1, iv (1 : Int32), .val (.long sta), .second, .val (.long dur), .second, .val (.long nw), .second, iv (1 : Int32), iv (1 : Int32), iv (1 : Int32)] [])) _
          refine XS.iload X85.here hx rfl (hb hby at_179) rfl ?_
          show Steps p.tables e below (T85.setTop (mkF m 181 #[.val (.long q0_0), .second, .val (.long q0_1), .second, .val (.long q0_2), .second, .val (.long q0_3), .second, .val (.long q0_4), .second, iv p0_5, rv b1, iv (1 : Int32), .val (.long sta), .second, .val (.long dur), .second, .val (.long nw), .second, iv (1 : Int32), iv (1 : Int32), iv (1 : Int32)] [(.int (1 : Int32))])) _
          refine XS.iload X85.here hx rfl (hb hby at_181) rfl ?_
          show Steps p.tables e below (T85.setTop (mkF m 183 #[.val (.long q0_0), .second, .val (.long q0_1), .second, .val (.long q0_2), .second, .val (.long q0_3), .second, .val (.long q0_4), .second, iv p0_5, rv b1, iv (1 : Int32), .val (.long sta), .second, .val (.long dur), .second, .val (.long nw), .second, iv (1 : Int32), iv (1 : Int32), iv (1 : Int32)] [(.int (1 : Int32)), (.int (1 : Int32))])) _
          refine XS.icmpNo X85.here hx rfl (hb hby at_183) rfl (teq (by decide : (1 : Int32) = (1 : Int32))).2 ?_
          show Steps p.tables e below (T85.setTop (mkF m 186 #[.val (.long q0_0), .second, .val (.long q0_1), .second, .val (.long q0_2), .second, .val (.long q0_3), .second, .val (.long q0_4), .second, iv p0_5, rv b1, iv (1 : Int32), .val (.long sta), .second, .val (.long dur), .second, .val (.long nw), .second, iv (1 : Int32), iv (1 : Int32), iv (1 : Int32)] [])) _
          refine XS.iload X85.here hx rfl (hb hby at_186) rfl ?_
          show Steps p.tables e below (T85.setTop (mkF m 188 #[.val (.long q0_0), .second, .val (.long q0_1), .second, .val (.long q0_2), .second, .val (.long q0_3), .second, .val (.long q0_4), .second, iv p0_5, rv b1, iv (1 : Int32), .val (.long sta), .second, .val (.long dur), .second, .val (.long nw), .second, iv (1 : Int32), iv (1 : Int32), iv (1 : Int32)] [(.int (1 : Int32))])) _
          refine XS.iload X85.here hx rfl (hb hby at_188) rfl ?_
          show Steps p.tables e below (T85.setTop (mkF m 190 #[.val (.long q0_0), .second, .val (.long q0_1), .second, .val (.long q0_2), .second, .val (.long q0_3), .second, .val (.long q0_4), .second, iv p0_5, rv b1, iv (1 : Int32), .val (.long sta), .second, .val (.long dur), .second, .val (.long nw), .second, iv (1 : Int32), iv (1 : Int32), iv (1 : Int32)] [(.int (1 : Int32)), (.int (1 : Int32))])) _
          refine XS.icmpNo X85.here hx rfl (hb hby at_190) rfl (teq (by decide : (1 : Int32) = (1 : Int32))).2 ?_
          show Steps p.tables e below (T85.setTop (mkF m 193 #[.val (.long q0_0), .second, .val (.long q0_1), .second, .val (.long q0_2), .second, .val (.long q0_3), .second, .val (.long q0_4), .second, iv p0_5, rv b1, iv (1 : Int32), .val (.long sta), .second, .val (.long dur), .second, .val (.long nw), .second, iv (1 : Int32), iv (1 : Int32), iv (1 : Int32)] [])) _
          refine XS.iconst X85.here hx rfl (hb hby at_193) ?_
          show Steps p.tables e below (T85.setTop (mkF m 194 #[.val (.long q0_0), .second, .val (.long q0_1), .second, .val (.long q0_2), .second, .val (.long q0_3), .second, .val (.long q0_4), .second, iv p0_5, rv b1, iv (1 : Int32), .val (.long sta), .second, .val (.long dur), .second, .val (.long nw), .second, iv (1 : Int32), iv (1 : Int32), iv (1 : Int32)] [(.int (1 : Int32))])) _
          refine XS.goto X85.here hx rfl (pc0 := 194) (pc' := 198) rfl (hb hby at_194) (by decide) (by decide) ?_
          show Steps p.tables e below (T85.setTop (mkF m 198 #[.val (.long q0_0), .second, .val (.long q0_1), .second, .val (.long q0_2), .second, .val (.long q0_3), .second, .val (.long q0_4), .second, iv p0_5, rv b1, iv (1 : Int32), .val (.long sta), .second, .val (.long dur), .second, .val (.long nw), .second, iv (1 : Int32), iv (1 : Int32), iv (1 : Int32)] [(.int (1 : Int32))])) _
          exact retN X85 hx (t := .boolean) Bd.returns (by simp) (hb hby at_198) hr
        · show Q_rm0 Z _ _ _ _ _ _ _ _ _ _ _ _ h0 n0 _ T85.heap _
          rw [K85q]
          exact ⟨rfl, N86, (K49)⟩
  · skip
    have f88 := (f34.keep K37q (allS g8 all0))
    have f89 := (f31.keep K37q)
    have f91 := (Nat.le_trans f30 K37q.1)
    obtain ⟨cq90, kq90, q90a, q90b, q90c⟩ := isOf hZ rfl f89
    obtain ⟨_, _, ⟨T90, L90, k90, n90⟩, -, X90, ⟨Lc90, hQ90, l90, y90, z90⟩, st90⟩ := X37.virtualBack hx (y := MN10) (z := MN10) hown (mvT hZ wo81) (mvT hZ wo82) (notFace_of_selects (args := #[]) (mvT hZ wo84)) (mvT hZ wo84) (mvT hZ wo83) (by decide) (backOf (W := 0) (rm10 l Z a0 hw [] b1 sta dur s_RESET ob_35 (q0_3 + q0_4) (0 : Int32) (0 : Int32) (T37.heap) n0 f91 f88 pf_S_com_example_unand_unand_model_Lun_Operation_RESET f89 g8 hq37_0 hq37_1 hq37_2 hq37_3) hZ wo85 wo2 (by decide) (by decide)) q90a q90c (g := (mkF m 80 #[.val (.long q0_0), .second, .val (.long q0_1), .second, .val (.long q0_2), .second, .val (.long q0_3), .second, .val (.long q0_4), .second, iv p0_5, rv b1, iv (1 : Int32), .val (.long sta), .second, .val (.long dur), .second, .unset, .unset, .unset, .unset, .unset] [(.long dur), (.long sta), (.ref b1)])) rfl (by rw [hml]; rfl) (Steps.refl _) (argsL := [(.long sta), (.long dur)]) (rest := []) (lenOf pd_5 rfl) rfl (by show 2 * 0 + _ ≤ _; exact Nat.le_of_eq rfl) (hb hby at_80) (fun _ _ => ⟨rfl, rfl, (by decide : 3 + 0 ≤ _), (by decide : 25 + 0 ≤ _)⟩)
    dsimp only [Pt.U, Pt.locs, Pt.cells, Pt.slots] at X90 l90 y90 z90 st90 hQ90
    subst l90 y90 z90
    obtain ⟨rfl, N90q, K90q, hq90_0⟩ := hQ90
    have N92 := Fr.app N38 N90q
    have K93 : Keep h0 T90.heap [] := (K39).trans K90q (allS (P := fun x => x ∈ [] ∨ h0.size ≤ x) (Or.inr bz9) all0)
    have pre95 : ∀ t, Steps p.tables e below (T90.setTop (mkF m 110 #[.val (.long q0_0), .second, .val (.long q0_1), .second, .val (.long q0_2), .second, .val (.long q0_3), .second, .val (.long q0_4), .second, iv p0_5, rv b1, iv (1 : Int32), .val (.long sta), .second, .val (.long dur), .second, .unset, .unset, .unset, .unset, .unset] [(.int (p0_5 &&& (16 : Int32)))])) t → Steps p.tables e below (s₁.setTop (entryFrame m #[(.long q0_0), (.long q0_1), (.long q0_2), (.long q0_3), (.long q0_4), (.int p0_5)] maxLocals)) t := by
      intro t_ k_
      refine pre41 _ ?_
      show Steps p.tables e below (T37.setTop (mkF m 71 #[.val (.long q0_0), .second, .val (.long q0_1), .second, .val (.long q0_2), .second, .val (.long q0_3), .second, .val (.long q0_4), .second, iv p0_5, rv b1, iv (1 : Int32), .val (.long sta), .second, .val (.long dur), .second, .unset, .unset, .unset, .unset, .unset] [(.int (p0_5 &&& (8 : Int32)))])) _
      refine XS.ifNo X37.here hx rfl (hb hby at_71) rfl ((if0 _ _).trans (feq hc71_40).1) ?_
      show Steps p.tables e below (T37.setTop (mkF m 74 #[.val (.long q0_0), .second, .val (.long q0_1), .second, .val (.long q0_2), .second, .val (.long q0_3), .second, .val (.long q0_4), .second, iv p0_5, rv b1, iv (1 : Int32), .val (.long sta), .second, .val (.long dur), .second, .unset, .unset, .unset, .unset, .unset] [])) _
      refine XS.aload X37.here hx rfl (hb hby at_74) rfl rfl ?_
      show Steps p.tables e below (T37.setTop (mkF m 76 #[.val (.long q0_0), .second, .val (.long q0_1), .second, .val (.long q0_2), .second, .val (.long q0_3), .second, .val (.long q0_4), .second, iv p0_5, rv b1, iv (1 : Int32), .val (.long sta), .second, .val (.long dur), .second, .unset, .unset, .unset, .unset, .unset] [(.ref b1)])) _
      refine XS.lload X37.here hx rfl (hb hby at_76) rfl ?_
      show Steps p.tables e below (T37.setTop (mkF m 78 #[.val (.long q0_0), .second, .val (.long q0_1), .second, .val (.long q0_2), .second, .val (.long q0_3), .second, .val (.long q0_4), .second, iv p0_5, rv b1, iv (1 : Int32), .val (.long sta), .second, .val (.long dur), .second, .unset, .unset, .unset, .unset, .unset] [(.long sta), (.ref b1)])) _
      refine XS.lload X37.here hx rfl (hb hby at_78) rfl ?_
      show Steps p.tables e below (T37.setTop (mkF m 80 #[.val (.long q0_0), .second, .val (.long q0_1), .second, .val (.long q0_2), .second, .val (.long q0_3), .second, .val (.long q0_4), .second, iv p0_5, rv b1, iv (1 : Int32), .val (.long sta), .second, .val (.long dur), .second, .unset, .unset, .unset, .unset, .unset] [(.long dur), (.long sta), (.ref b1)])) _
      refine st90.trans ?_
      show Steps p.tables e below (T90.setTop (mkF m 83 #[.val (.long q0_0), .second, .val (.long q0_1), .second, .val (.long q0_2), .second, .val (.long q0_3), .second, .val (.long q0_4), .second, iv p0_5, rv b1, iv (1 : Int32), .val (.long sta), .second, .val (.long dur), .second, .unset, .unset, .unset, .unset, .unset] [])) _
      refine XS.goto X90.here hx rfl (pc0 := 83) (pc' := 105) rfl (hb hby at_83) (by decide) (by decide) ?_
      show Steps p.tables e below (T90.setTop (mkF m 105 #[.val (.long q0_0), .second, .val (.long q0_1), .second, .val (.long q0_2), .second, .val (.long q0_3), .second, .val (.long q0_4), .second, iv p0_5, rv b1, iv (1 : Int32), .val (.long sta), .second, .val (.long dur), .second, .unset, .unset, .unset, .unset, .unset] [])) _
      refine XS.iload X90.here hx rfl (hb hby at_105) rfl ?_
      show Steps p.tables e below (T90.setTop (mkF m 107 #[.val (.long q0_0), .second, .val (.long q0_1), .second, .val (.long q0_2), .second, .val (.long q0_3), .second, .val (.long q0_4), .second, iv p0_5, rv b1, iv (1 : Int32), .val (.long sta), .second, .val (.long dur), .second, .unset, .unset, .unset, .unset, .unset] [(.int p0_5)])) _
      refine XS.bipush X90.here hx rfl (hb hby at_107) ?_
      show Steps p.tables e below (T90.setTop (mkF m 109 #[.val (.long q0_0), .second, .val (.long q0_1), .second, .val (.long q0_2), .second, .val (.long q0_3), .second, .val (.long q0_4), .second, iv p0_5, rv b1, iv (1 : Int32), .val (.long sta), .second, .val (.long dur), .second, .unset, .unset, .unset, .unset, .unset] [(.int (16 : Int32)), (.int p0_5)])) _
      refine XS.iand X90.here hx rfl (hb hby at_109) rfl ?_
      exact k_
    by_cases hc110_94 : (p0_5 &&& (16 : Int32)) = (0 : Int32)
    · skip
      obtain ⟨nw, h_nw⟩ : ∃ z : Int64, z = (q0_2 &&& (9223372036854775807 : Int64)) := ⟨_, rfl⟩
      have hnow : -2 ≤ nw.toInt := by rw [h_nw]; have q := own_mx q0_2; omega
      have pre97 : ∀ t, Steps p.tables e below (T90.setTop (mkF m 146 #[.val (.long q0_0), .second, .val (.long q0_1), .second, .val (.long q0_2), .second, .val (.long q0_3), .second, .val (.long q0_4), .second, iv p0_5, rv b1, iv (1 : Int32), .val (.long sta), .second, .val (.long dur), .second, .val (.long nw), .second, .unset, .unset, .unset] [(.int (lcmpW (nw - sta) dur))])) t → Steps p.tables e below (s₁.setTop (entryFrame m #[(.long q0_0), (.long q0_1), (.long q0_2), (.long q0_3), (.long q0_4), (.int p0_5)] maxLocals)) t := by
        intro t_ k_
        refine pre95 _ ?_
        show Steps p.tables e below (T90.setTop (mkF m 110 #[.val (.long q0_0), .second, .val (.long q0_1), .second, .val (.long q0_2), .second, .val (.long q0_3), .second, .val (.long q0_4), .second, iv p0_5, rv b1, iv (1 : Int32), .val (.long sta), .second, .val (.long dur), .second, .unset, .unset, .unset, .unset, .unset] [(.int (p0_5 &&& (16 : Int32)))])) _
        refine XS.ifYes X90.here hx rfl (pc0 := 110) (pc' := 130) rfl (hb hby at_110) rfl ((if0 _ _).trans (teq hc110_94).1) (by decide) (by decide) ?_
        show Steps p.tables e below (T90.setTop (mkF m 130 #[.val (.long q0_0), .second, .val (.long q0_1), .second, .val (.long q0_2), .second, .val (.long q0_3), .second, .val (.long q0_4), .second, iv p0_5, rv b1, iv (1 : Int32), .val (.long sta), .second, .val (.long dur), .second, .unset, .unset, .unset, .unset, .unset] [])) _
        refine XS.lload X90.here hx rfl (hb hby at_130) rfl ?_
        show Steps p.tables e below (T90.setTop (mkF m 132 #[.val (.long q0_0), .second, .val (.long q0_1), .second, .val (.long q0_2), .second, .val (.long q0_3), .second, .val (.long q0_4), .second, iv p0_5, rv b1, iv (1 : Int32), .val (.long sta), .second, .val (.long dur), .second, .unset, .unset, .unset, .unset, .unset] [(.long q0_2)])) _
        refine X90.ldc2Long hx hown (mvT hZ wo60) (g := (mkF m 132 #[.val (.long q0_0), .second, .val (.long q0_1), .second, .val (.long q0_2), .second, .val (.long q0_3), .second, .val (.long q0_4), .second, iv p0_5, rv b1, iv (1 : Int32), .val (.long sta), .second, .val (.long dur), .second, .unset, .unset, .unset, .unset, .unset] [(.long q0_2)])) rfl (hb hby at_132) _ ?_
        show Steps p.tables e below (T90.setTop (mkF m 135 #[.val (.long q0_0), .second, .val (.long q0_1), .second, .val (.long q0_2), .second, .val (.long q0_3), .second, .val (.long q0_4), .second, iv p0_5, rv b1, iv (1 : Int32), .val (.long sta), .second, .val (.long dur), .second, .unset, .unset, .unset, .unset, .unset] [(.long (9223372036854775807 : Int64)), (.long q0_2)])) _
        refine XS.land X90.here hx rfl (hb hby at_135) rfl ?_
        show Steps p.tables e below (T90.setTop (mkF m 136 #[.val (.long q0_0), .second, .val (.long q0_1), .second, .val (.long q0_2), .second, .val (.long q0_3), .second, .val (.long q0_4), .second, iv p0_5, rv b1, iv (1 : Int32), .val (.long sta), .second, .val (.long dur), .second, .unset, .unset, .unset, .unset, .unset] [(.long (q0_2 &&& (9223372036854775807 : Int64)))])) _
        refine XS.lstore X90.here hx rfl (hb hby at_136) rfl (l' := #[.val (.long q0_0), .second, .val (.long q0_1), .second, .val (.long q0_2), .second, .val (.long q0_3), .second, .val (.long q0_4), .second, iv p0_5, rv b1, iv (1 : Int32), .val (.long sta), .second, .val (.long dur), .second, .val (.long (q0_2 &&& (9223372036854775807 : Int64))), .second, .unset, .unset, .unset]) rfl ?_
        rw [← h_nw]
        show Steps p.tables e below (T90.setTop (mkF m 138 #[.val (.long q0_0), .second, .val (.long q0_1), .second, .val (.long q0_2), .second, .val (.long q0_3), .second, .val (.long q0_4), .second, iv p0_5, rv b1, iv (1 : Int32), .val (.long sta), .second, .val (.long dur), .second, .val (.long nw), .second, .unset, .unset, .unset] [])) _
        show Steps p.tables e below (T90.setTop (mkF m 138 #[.val (.long q0_0), .second, .val (.long q0_1), .second, .val (.long q0_2), .second, .val (.long q0_3), .second, .val (.long q0_4), .second, iv p0_5, rv b1, iv (1 : Int32), .val (.long sta), .second, .val (.long dur), .second, .val (.long nw), .second, .unset, .unset, .unset] [])) _
        refine XS.lload X90.here hx rfl (hb hby at_138) rfl ?_
        show Steps p.tables e below (T90.setTop (mkF m 140 #[.val (.long q0_0), .second, .val (.long q0_1), .second, .val (.long q0_2), .second, .val (.long q0_3), .second, .val (.long q0_4), .second, iv p0_5, rv b1, iv (1 : Int32), .val (.long sta), .second, .val (.long dur), .second, .val (.long nw), .second, .unset, .unset, .unset] [(.long nw)])) _
        refine XS.lload X90.here hx rfl (hb hby at_140) rfl ?_
        show Steps p.tables e below (T90.setTop (mkF m 142 #[.val (.long q0_0), .second, .val (.long q0_1), .second, .val (.long q0_2), .second, .val (.long q0_3), .second, .val (.long q0_4), .second, iv p0_5, rv b1, iv (1 : Int32), .val (.long sta), .second, .val (.long dur), .second, .val (.long nw), .second, .unset, .unset, .unset] [(.long sta), (.long nw)])) _
        refine XS.lsub X90.here hx rfl (hb hby at_142) rfl ?_
        show Steps p.tables e below (T90.setTop (mkF m 143 #[.val (.long q0_0), .second, .val (.long q0_1), .second, .val (.long q0_2), .second, .val (.long q0_3), .second, .val (.long q0_4), .second, iv p0_5, rv b1, iv (1 : Int32), .val (.long sta), .second, .val (.long dur), .second, .val (.long nw), .second, .unset, .unset, .unset] [(.long (nw - sta))])) _
        refine XS.lload X90.here hx rfl (hb hby at_143) rfl ?_
        show Steps p.tables e below (T90.setTop (mkF m 145 #[.val (.long q0_0), .second, .val (.long q0_1), .second, .val (.long q0_2), .second, .val (.long q0_3), .second, .val (.long q0_4), .second, iv p0_5, rv b1, iv (1 : Int32), .val (.long sta), .second, .val (.long dur), .second, .val (.long nw), .second, .unset, .unset, .unset] [(.long dur), (.long (nw - sta))])) _
        refine XS.lcmp X90.here hx rfl (hb hby at_145) rfl ?_
        exact k_
      by_cases hc146_96 : (lcmpW (nw - sta) dur) < (0 : Int32)
      · skip
        have f99 := (Nat.le_trans f91 K90q.1)
        have f100 := (f89.keep K90q)
        obtain ⟨cq98, kq98, q98a, q98b, q98c⟩ := isOf hZ rfl f100
        obtain ⟨_, _, ⟨T98, L98, k98, n98⟩, -, X98, ⟨Lc98, hQ98, l98, y98, z98⟩, st98⟩ := X90.virtualBack hx (y := MN7) (z := MN7) hown (mvT hZ wo61) (mvT hZ wo62) (notFace_of_selects (args := #[]) (mvT hZ wo64)) (mvT hZ wo64) (mvT hZ wo63) (by decide) (backOf (W := 0) (rm7 l Z a0 hw [] b1 nw (sta + dur) (T90.heap) n0 f99 hq90_0) hZ wo65 wo2 (by decide) (by decide)) q98a q98c (g := (mkF m 160 #[.val (.long q0_0), .second, .val (.long q0_1), .second, .val (.long q0_2), .second, .val (.long q0_3), .second, .val (.long q0_4), .second, iv p0_5, rv b1, iv (1 : Int32), .val (.long sta), .second, .val (.long dur), .second, .val (.long nw), .second, iv (0 : Int32), .unset, .unset] [(.long nw), (.ref b1)])) rfl (by rw [hml]; rfl) (Steps.refl _) (argsL := [(.long nw)]) (rest := []) (lenOf pd_4 rfl) rfl (by show 2 * 0 + _ ≤ _; exact Nat.le_of_eq rfl) (hb hby at_160) (fun _ _ => ⟨rfl, rfl, (by decide : 3 + 0 ≤ _), (by decide : 25 + 0 ≤ _)⟩)
        dsimp only [Pt.U, Pt.locs, Pt.cells, Pt.slots] at X98 l98 y98 z98 st98 hQ98
        subst l98 y98 z98
        obtain ⟨rfl, N98q, K98q⟩ := hQ98
        have N101 := Fr.app N92 N98q
        have q102 : (if (lcmpW nw (sta + dur)) < (0 : Int32) then (0 : Int32) else (1 : Int32)) = (0 : Int32) := if_pos ((own_fin _ _ _ hnow hst hdu).mp hc146_96)
        obtain ⟨cq103, kq103, q103a, q103b, q103c⟩ := isOf hZ K98q f100
        obtain ⟨_, _, ⟨T103, L103, k103, n103⟩, -, X103, ⟨Lc103, hQ103, l103, y103, z103⟩, st103⟩ := X98.virtualBack hx (y := MN7) (z := MN7) hown (mvT hZ wo61) (mvT hZ wo62) (notFace_of_selects (args := #[]) (mvT hZ wo64)) (mvT hZ wo64) (mvT hZ wo63) (by decide) (backOf (W := 0) (rm7 l Z a0 hw [] b1 nw (sta + dur) (T90.heap) n0 f99 hq90_0) hZ wo65 wo2 (by decide) (by decide)) q103a q103c (g := (mkF m 169 #[.val (.long q0_0), .second, .val (.long q0_1), .second, .val (.long q0_2), .second, .val (.long q0_3), .second, .val (.long q0_4), .second, iv p0_5, rv b1, iv (1 : Int32), .val (.long sta), .second, .val (.long dur), .second, .val (.long nw), .second, iv (0 : Int32), iv (0 : Int32), .unset] [(.long nw), (.ref b1)])) rfl (by rw [hml]; rfl) (Steps.refl _) (argsL := [(.long nw)]) (rest := []) (lenOf pd_4 rfl) rfl (by show 2 * 0 + _ ≤ _; exact Nat.le_of_eq rfl) (hb hby at_169) (fun _ _ => ⟨rfl, K98q, (by decide : 3 + 0 ≤ _), (by decide : 25 + 0 ≤ _)⟩)
        dsimp only [Pt.U, Pt.locs, Pt.cells, Pt.slots] at X103 l103 y103 z103 st103 hQ103
        subst l103 y103 z103
        obtain ⟨rfl, N103q, K103q⟩ := hQ103
        have N104 := Fr.app N101 N103q
        have q105 : (if (lcmpW nw (sta + dur)) < (0 : Int32) then (0 : Int32) else (1 : Int32)) = (0 : Int32) := if_pos ((own_fin _ _ _ hnow hst hdu).mp hc146_96)
        obtain ⟨fs, hr, hrun, hended, hW, hsame⟩ := X103.leave (v := some (.int (1 : Int32))) (fun h => by rw [Bd.returns] at h; cases h)
        refine ⟨_, _, pre97 _ ?_, hrun, hended, _, _, rfl, ?_, ⟨_, rfl⟩, hW, hsame.mono (by decide) (by decide)⟩
        · show Steps p.tables e below (T90.setTop (mkF m 146 #[.val (.long q0_0), .second, .val (.long q0_1), .second, .val (.long q0_2), .second, .val (.long q0_3), .second, .val (.long q0_4), .second, iv p0_5, rv b1, iv (1 : Int32), .val (.long sta), .second, .val (.long dur), .second, .val (.long nw), .second, .unset, .unset, .unset] [(.int (lcmpW (nw - sta) dur))])) _
          refine XS.ifYes X90.here hx rfl (pc0 := 146) (pc' := 153) rfl (hb hby at_146) rfl ((if0 _ _).trans (tlt hc146_96).1) (by decide) (by decide) ?_
          show Steps p.tables e below (T90.setTop (mkF m 153 #[.val (.long q0_0), .second, .val (.long q0_1), .second, .val (.long q0_2), .second, .val (.long q0_3), .second, .val (.long q0_4), .second, iv p0_5, rv b1, iv (1 : Int32), .val (.long sta), .second, .val (.long dur), .second, .val (.long nw), .second, .unset, .unset, .unset] [])) _
          refine XS.iconst X90.here hx rfl (hb hby at_153) ?_
          show Steps p.tables e below (T90.setTop (mkF m 154 #[.val (.long q0_0), .second, .val (.long q0_1), .second, .val (.long q0_2), .second, .val (.long q0_3), .second, .val (.long q0_4), .second, iv p0_5, rv b1, iv (1 : Int32), .val (.long sta), .second, .val (.long dur), .second, .val (.long nw), .second, .unset, .unset, .unset] [(.int (0 : Int32))])) _
          refine XS.istore X90.here hx rfl (hb hby at_154) rfl (l' := #[.val (.long q0_0), .second, .val (.long q0_1), .second, .val (.long q0_2), .second, .val (.long q0_3), .second, .val (.long q0_4), .second, iv p0_5, rv b1, iv (1 : Int32), .val (.long sta), .second, .val (.long dur), .second, .val (.long nw), .second, iv (0 : Int32), .unset, .unset]) rfl ?_
          show Steps p.tables e below (T90.setTop (mkF m 156 #[.val (.long q0_0), .second, .val (.long q0_1), .second, .val (.long q0_2), .second, .val (.long q0_3), .second, .val (.long q0_4), .second, iv p0_5, rv b1, iv (1 : Int32), .val (.long sta), .second, .val (.long dur), .second, .val (.long nw), .second, iv (0 : Int32), .unset, .unset] [])) _
          refine XS.aload X90.here hx rfl (hb hby at_156) rfl rfl ?_
          show Steps p.tables e below (T90.setTop (mkF m 158 #[.val (.long q0_0), .second, .val (.long q0_1), .second, .val (.long q0_2), .second, .val (.long q0_3), .second, .val (.long q0_4), .second, iv p0_5, rv b1, iv (1 : Int32), .val (.long sta), .second, .val (.long dur), .second, .val (.long nw), .second, iv (0 : Int32), .unset, .unset] [(.ref b1)])) _
          refine XS.lload X90.here hx rfl (hb hby at_158) rfl ?_
          show Steps p.tables e below (T90.setTop (mkF m 160 #[.val (.long q0_0), .second, .val (.long q0_1), .second, .val (.long q0_2), .second, .val (.long q0_3), .second, .val (.long q0_4), .second, iv p0_5, rv b1, iv (1 : Int32), .val (.long sta), .second, .val (.long dur), .second, .val (.long nw), .second, iv (0 : Int32), .unset, .unset] [(.long nw), (.ref b1)])) _
          refine st98.trans ?_
          rw [q102]
          show Steps p.tables e below (T98.setTop (mkF m 163 #[.val (.long q0_0), .second, .val (.long q0_1), .second, .val (.long q0_2), .second, .val (.long q0_3), .second, .val (.long q0_4), .second, iv p0_5, rv b1, iv (1 : Int32), .val (.long sta), .second, .val (.long dur), .second, .val (.long nw), .second, iv (0 : Int32), .unset, .unset] [(.int (0 : Int32))])) _
          show Steps p.tables e below (T98.setTop (mkF m 163 #[.val (.long q0_0), .second, .val (.long q0_1), .second, .val (.long q0_2), .second, .val (.long q0_3), .second, .val (.long q0_4), .second, iv p0_5, rv b1, iv (1 : Int32), .val (.long sta), .second, .val (.long dur), .second, .val (.long nw), .second, iv (0 : Int32), .unset, .unset] [(.int (0 : Int32))])) _
          refine XS.istore X98.here hx rfl (hb hby at_163) rfl (l' := #[.val (.long q0_0), .second, .val (.long q0_1), .second, .val (.long q0_2), .second, .val (.long q0_3), .second, .val (.long q0_4), .second, iv p0_5, rv b1, iv (1 : Int32), .val (.long sta), .second, .val (.long dur), .second, .val (.long nw), .second, iv (0 : Int32), iv (0 : Int32), .unset]) rfl ?_
          show Steps p.tables e below (T98.setTop (mkF m 165 #[.val (.long q0_0), .second, .val (.long q0_1), .second, .val (.long q0_2), .second, .val (.long q0_3), .second, .val (.long q0_4), .second, iv p0_5, rv b1, iv (1 : Int32), .val (.long sta), .second, .val (.long dur), .second, .val (.long nw), .second, iv (0 : Int32), iv (0 : Int32), .unset] [])) _
          refine XS.aload X98.here hx rfl (hb hby at_165) rfl rfl ?_
          show Steps p.tables e below (T98.setTop (mkF m 167 #[.val (.long q0_0), .second, .val (.long q0_1), .second, .val (.long q0_2), .second, .val (.long q0_3), .second, .val (.long q0_4), .second, iv p0_5, rv b1, iv (1 : Int32), .val (.long sta), .second, .val (.long dur), .second, .val (.long nw), .second, iv (0 : Int32), iv (0 : Int32), .unset] [(.ref b1)])) _
          refine XS.lload X98.here hx rfl (hb hby at_167) rfl ?_
          show Steps p.tables e below (T98.setTop (mkF m 169 #[.val (.long q0_0), .second, .val (.long q0_1), .second, .val (.long q0_2), .second, .val (.long q0_3), .second, .val (.long q0_4), .second, iv p0_5, rv b1, iv (1 : Int32), .val (.long sta), .second, .val (.long dur), .second, .val (.long nw), .second, iv (0 : Int32), iv (0 : Int32), .unset] [(.long nw), (.ref b1)])) _
          refine st103.trans ?_
          rw [q105]
          show Steps p.tables e below (T103.setTop (mkF m 172 #[.val (.long q0_0), .second, .val (.long q0_1), .second, .val (.long q0_2), .second, .val (.long q0_3), .second, .val (.long q0_4), .second, iv p0_5, rv b1, iv (1 : Int32), .val (.long sta), .second, .val (.long dur), .second, .val (.long nw), .second, iv (0 : Int32), iv (0 : Int32), .unset] [(.int (0 : Int32))])) _
          show Steps p.tables e below (T103.setTop (mkF m 172 #[.val (.long q0_0), .second, .val (.long q0_1), .second, .val (.long q0_2), .second, .val (.long q0_3), .second, .val (.long q0_4), .second, iv p0_5, rv b1, iv (1 : Int32), .val (.long sta), .second, .val (.long dur), .second, .val (.long nw), .second, iv (0 : Int32), iv (0 : Int32), .unset] [(.int (0 : Int32))])) _
          refine XS.istore X103.here hx rfl (hb hby at_172) rfl (l' := #[.val (.long q0_0), .second, .val (.long q0_1), .second, .val (.long q0_2), .second, .val (.long q0_3), .second, .val (.long q0_4), .second, iv p0_5, rv b1, iv (1 : Int32), .val (.long sta), .second, .val (.long dur), .second, .val (.long nw), .second, iv (0 : Int32), iv (0 : Int32), iv (0 : Int32)]) rfl ?_
          show Steps p.tables e below (T103.setTop (mkF m 174 #[.val (.long q0_0), .second, .val (.long q0_1), .second, .val (.long q0_2), .second, .val (.long q0_3), .second, .val (.long q0_4), .second, iv p0_5, rv b1, iv (1 : Int32), .val (.long sta), .second, .val (.long dur), .second, .val (.long nw), .second, iv (0 : Int32), iv (0 : Int32), iv (0 : Int32)] [])) _
          refine XS.iload X103.here hx rfl (hb hby at_174) rfl ?_
          show Steps p.tables e below (T103.setTop (mkF m 176 #[.val (.long q0_0), .second, .val (.long q0_1), .second, .val (.long q0_2), .second, .val (.long q0_3), .second, .val (.long q0_4), .second, iv p0_5, rv b1, iv (1 : Int32), .val (.long sta), .second, .val (.long dur), .second, .val (.long nw), .second, iv (0 : Int32), iv (0 : Int32), iv (0 : Int32)] [(.int (1 : Int32))])) _
          refine XS.ifNo X103.here hx rfl (hb hby at_176) rfl ((if0 _ _).trans (feq (by decide : ¬ ((1 : Int32) = (0 : Int32)))).1) ?_
          show Steps p.tables e below (T103.setTop (mkF m 179 #[.val (.long q0_0), .second, .val (.long q0_1), .second, .val (.long q0_2), .second, .val (.long q0_3), .second, .val (.long q0_4), .second, iv p0_5, rv b1, iv (1 : Int32), .val (.long sta), .second, .val (.long dur), .second, .val (.long nw), .second, iv (0 : Int32), iv (0 : Int32), iv (0 : Int32)] [])) _
          refine XS.iload X103.here hx rfl (hb hby at_179) rfl ?_
          show Steps p.tables e below (T103.setTop (mkF m 181 #[.val (.long q0_0), .second, .val (.long q0_1), .second, .val (.long q0_2), .second, .val (.long q0_3), .second, .val (.long q0_4), .second, iv p0_5, rv b1, iv (1 : Int32), .val (.long sta), .second, .val (.long dur), .second, .val (.long nw), .second, iv (0 : Int32), iv (0 : Int32), iv (0 : Int32)] [(.int (0 : Int32))])) _
          refine XS.iload X103.here hx rfl (hb hby at_181) rfl ?_
          show Steps p.tables e below (T103.setTop (mkF m 183 #[.val (.long q0_0), .second, .val (.long q0_1), .second, .val (.long q0_2), .second, .val (.long q0_3), .second, .val (.long q0_4), .second, iv p0_5, rv b1, iv (1 : Int32), .val (.long sta), .second, .val (.long dur), .second, .val (.long nw), .second, iv (0 : Int32), iv (0 : Int32), iv (0 : Int32)] [(.int (0 : Int32)), (.int (0 : Int32))])) _
          refine XS.icmpNo X103.here hx rfl (hb hby at_183) rfl (teq (by decide : (0 : Int32) = (0 : Int32))).2 ?_
          show Steps p.tables e below (T103.setTop (mkF m 186 #[.val (.long q0_0), .second, .val (.long q0_1), .second, .val (.long q0_2), .second, .val (.long q0_3), .second, .val (.long q0_4), .second, iv p0_5, rv b1, iv (1 : Int32), .val (.long sta), .second, .val (.long dur), .second, .val (.long nw), .second, iv (0 : Int32), iv (0 : Int32), iv (0 : Int32)] [])) _
          refine XS.iload X103.here hx rfl (hb hby at_186) rfl ?_
          show Steps p.tables e below (T103.setTop (mkF m 188 #[.val (.long q0_0), .second, .val (.long q0_1), .second, .val (.long q0_2), .second, .val (.long q0_3), .second, .val (.long q0_4), .second, iv p0_5, rv b1, iv (1 : Int32), .val (.long sta), .second, .val (.long dur), .second, .val (.long nw), .second, iv (0 : Int32), iv (0 : Int32), iv (0 : Int32)] [(.int (0 : Int32))])) _
          refine XS.iload X103.here hx rfl (hb hby at_188) rfl ?_
          show Steps p.tables e below (T103.setTop (mkF m 190 #[.val (.long q0_0), .second, .val (.long q0_1), .second, .val (.long q0_2), .second, .val (.long q0_3), .second, .val (.long q0_4), .second, iv p0_5, rv b1, iv (1 : Int32), .val (.long sta), .second, .val (.long dur), .second, .val (.long nw), .second, iv (0 : Int32), iv (0 : Int32), iv (0 : Int32)] [(.int (0 : Int32)), (.int (0 : Int32))])) _
          refine XS.icmpNo X103.here hx rfl (hb hby at_190) rfl (teq (by decide : (0 : Int32) = (0 : Int32))).2 ?_
          show Steps p.tables e below (T103.setTop (mkF m 193 #[.val (.long q0_0), .second, .val (.long q0_1), .second, .val (.long q0_2), .second, .val (.long q0_3), .second, .val (.long q0_4), .second, iv p0_5, rv b1, iv (1 : Int32), .val (.long sta), .second, .val (.long dur), .second, .val (.long nw), .second, iv (0 : Int32), iv (0 : Int32), iv (0 : Int32)] [])) _
          refine XS.iconst X103.here hx rfl (hb hby at_193) ?_
          show Steps p.tables e below (T103.setTop (mkF m 194 #[.val (.long q0_0), .second, .val (.long q0_1), .second, .val (.long q0_2), .second, .val (.long q0_3), .second, .val (.long q0_4), .second, iv p0_5, rv b1, iv (1 : Int32), .val (.long sta), .second, .val (.long dur), .second, .val (.long nw), .second, iv (0 : Int32), iv (0 : Int32), iv (0 : Int32)] [(.int (1 : Int32))])) _
          refine XS.goto X103.here hx rfl (pc0 := 194) (pc' := 198) rfl (hb hby at_194) (by decide) (by decide) ?_
          show Steps p.tables e below (T103.setTop (mkF m 198 #[.val (.long q0_0), .second, .val (.long q0_1), .second, .val (.long q0_2), .second, .val (.long q0_3), .second, .val (.long q0_4), .second, iv p0_5, rv b1, iv (1 : Int32), .val (.long sta), .second, .val (.long dur), .second, .val (.long nw), .second, iv (0 : Int32), iv (0 : Int32), iv (0 : Int32)] [(.int (1 : Int32))])) _
          exact retN X103 hx (t := .boolean) Bd.returns (by simp) (hb hby at_198) hr
        · show Q_rm0 Z _ _ _ _ _ _ _ _ _ _ _ _ h0 n0 _ T103.heap _
          rw [K103q]
          exact ⟨rfl, N104, (K93)⟩
      · skip
        have f107 := (Nat.le_trans f91 K90q.1)
        have f108 := (f89.keep K90q)
        obtain ⟨cq106, kq106, q106a, q106b, q106c⟩ := isOf hZ rfl f108
        obtain ⟨_, _, ⟨T106, L106, k106, n106⟩, -, X106, ⟨Lc106, hQ106, l106, y106, z106⟩, st106⟩ := X90.virtualBack hx (y := MN7) (z := MN7) hown (mvT hZ wo61) (mvT hZ wo62) (notFace_of_selects (args := #[]) (mvT hZ wo64)) (mvT hZ wo64) (mvT hZ wo63) (by decide) (backOf (W := 0) (rm7 l Z a0 hw [] b1 nw (sta + dur) (T90.heap) n0 f107 hq90_0) hZ wo65 wo2 (by decide) (by decide)) q106a q106c (g := (mkF m 160 #[.val (.long q0_0), .second, .val (.long q0_1), .second, .val (.long q0_2), .second, .val (.long q0_3), .second, .val (.long q0_4), .second, iv p0_5, rv b1, iv (1 : Int32), .val (.long sta), .second, .val (.long dur), .second, .val (.long nw), .second, iv (1 : Int32), .unset, .unset] [(.long nw), (.ref b1)])) rfl (by rw [hml]; rfl) (Steps.refl _) (argsL := [(.long nw)]) (rest := []) (lenOf pd_4 rfl) rfl (by show 2 * 0 + _ ≤ _; exact Nat.le_of_eq rfl) (hb hby at_160) (fun _ _ => ⟨rfl, rfl, (by decide : 3 + 0 ≤ _), (by decide : 25 + 0 ≤ _)⟩)
        dsimp only [Pt.U, Pt.locs, Pt.cells, Pt.slots] at X106 l106 y106 z106 st106 hQ106
        subst l106 y106 z106
        obtain ⟨rfl, N106q, K106q⟩ := hQ106
        have N109 := Fr.app N92 N106q
        have q110 : (if (lcmpW nw (sta + dur)) < (0 : Int32) then (0 : Int32) else (1 : Int32)) = (1 : Int32) := if_neg (fun q => hc146_96 ((own_fin _ _ _ hnow hst hdu).mpr q))
        obtain ⟨cq111, kq111, q111a, q111b, q111c⟩ := isOf hZ K106q f108
        obtain ⟨_, _, ⟨T111, L111, k111, n111⟩, -, X111, ⟨Lc111, hQ111, l111, y111, z111⟩, st111⟩ := X106.virtualBack hx (y := MN7) (z := MN7) hown (mvT hZ wo61) (mvT hZ wo62) (notFace_of_selects (args := #[]) (mvT hZ wo64)) (mvT hZ wo64) (mvT hZ wo63) (by decide) (backOf (W := 0) (rm7 l Z a0 hw [] b1 nw (sta + dur) (T90.heap) n0 f107 hq90_0) hZ wo65 wo2 (by decide) (by decide)) q111a q111c (g := (mkF m 169 #[.val (.long q0_0), .second, .val (.long q0_1), .second, .val (.long q0_2), .second, .val (.long q0_3), .second, .val (.long q0_4), .second, iv p0_5, rv b1, iv (1 : Int32), .val (.long sta), .second, .val (.long dur), .second, .val (.long nw), .second, iv (1 : Int32), iv (1 : Int32), .unset] [(.long nw), (.ref b1)])) rfl (by rw [hml]; rfl) (Steps.refl _) (argsL := [(.long nw)]) (rest := []) (lenOf pd_4 rfl) rfl (by show 2 * 0 + _ ≤ _; exact Nat.le_of_eq rfl) (hb hby at_169) (fun _ _ => ⟨rfl, K106q, (by decide : 3 + 0 ≤ _), (by decide : 25 + 0 ≤ _)⟩)
        dsimp only [Pt.U, Pt.locs, Pt.cells, Pt.slots] at X111 l111 y111 z111 st111 hQ111
        subst l111 y111 z111
        obtain ⟨rfl, N111q, K111q⟩ := hQ111
        have N112 := Fr.app N109 N111q
        have q113 : (if (lcmpW nw (sta + dur)) < (0 : Int32) then (0 : Int32) else (1 : Int32)) = (1 : Int32) := if_neg (fun q => hc146_96 ((own_fin _ _ _ hnow hst hdu).mpr q))
        obtain ⟨fs, hr, hrun, hended, hW, hsame⟩ := X111.leave (v := some (.int (1 : Int32))) (fun h => by rw [Bd.returns] at h; cases h)
        refine ⟨_, _, pre97 _ ?_, hrun, hended, _, _, rfl, ?_, ⟨_, rfl⟩, hW, hsame.mono (by decide) (by decide)⟩
        · show Steps p.tables e below (T90.setTop (mkF m 146 #[.val (.long q0_0), .second, .val (.long q0_1), .second, .val (.long q0_2), .second, .val (.long q0_3), .second, .val (.long q0_4), .second, iv p0_5, rv b1, iv (1 : Int32), .val (.long sta), .second, .val (.long dur), .second, .val (.long nw), .second, .unset, .unset, .unset] [(.int (lcmpW (nw - sta) dur))])) _
          refine XS.ifNo X90.here hx rfl (hb hby at_146) rfl ((if0 _ _).trans (flt hc146_96).1) ?_
          show Steps p.tables e below (T90.setTop (mkF m 149 #[.val (.long q0_0), .second, .val (.long q0_1), .second, .val (.long q0_2), .second, .val (.long q0_3), .second, .val (.long q0_4), .second, iv p0_5, rv b1, iv (1 : Int32), .val (.long sta), .second, .val (.long dur), .second, .val (.long nw), .second, .unset, .unset, .unset] [])) _
          refine XS.iconst X90.here hx rfl (hb hby at_149) ?_
          show Steps p.tables e below (T90.setTop (mkF m 150 #[.val (.long q0_0), .second, .val (.long q0_1), .second, .val (.long q0_2), .second, .val (.long q0_3), .second, .val (.long q0_4), .second, iv p0_5, rv b1, iv (1 : Int32), .val (.long sta), .second, .val (.long dur), .second, .val (.long nw), .second, .unset, .unset, .unset] [(.int (1 : Int32))])) _
          refine XS.goto X90.here hx rfl (pc0 := 150) (pc' := 154) rfl (hb hby at_150) (by decide) (by decide) ?_
          show Steps p.tables e below (T90.setTop (mkF m 154 #[.val (.long q0_0), .second, .val (.long q0_1), .second, .val (.long q0_2), .second, .val (.long q0_3), .second, .val (.long q0_4), .second, iv p0_5, rv b1, iv (1 : Int32), .val (.long sta), .second, .val (.long dur), .second, .val (.long nw), .second, .unset, .unset, .unset] [(.int (1 : Int32))])) _
          refine XS.istore X90.here hx rfl (hb hby at_154) rfl (l' := #[.val (.long q0_0), .second, .val (.long q0_1), .second, .val (.long q0_2), .second, .val (.long q0_3), .second, .val (.long q0_4), .second, iv p0_5, rv b1, iv (1 : Int32), .val (.long sta), .second, .val (.long dur), .second, .val (.long nw), .second, iv (1 : Int32), .unset, .unset]) rfl ?_
          show Steps p.tables e below (T90.setTop (mkF m 156 #[.val (.long q0_0), .second, .val (.long q0_1), .second, .val (.long q0_2), .second, .val (.long q0_3), .second, .val (.long q0_4), .second, iv p0_5, rv b1, iv (1 : Int32), .val (.long sta), .second, .val (.long dur), .second, .val (.long nw), .second, iv (1 : Int32), .unset, .unset] [])) _
          refine XS.aload X90.here hx rfl (hb hby at_156) rfl rfl ?_
          show Steps p.tables e below (T90.setTop (mkF m 158 #[.val (.long q0_0), .second, .val (.long q0_1), .second, .val (.long q0_2), .second, .val (.long q0_3), .second, .val (.long q0_4), .second, iv p0_5, rv b1, iv (1 : Int32), .val (.long sta), .second, .val (.long dur), .second, .val (.long nw), .second, iv (1 : Int32), .unset, .unset] [(.ref b1)])) _
          refine XS.lload X90.here hx rfl (hb hby at_158) rfl ?_
          show Steps p.tables e below (T90.setTop (mkF m 160 #[.val (.long q0_0), .second, .val (.long q0_1), .second, .val (.long q0_2), .second, .val (.long q0_3), .second, .val (.long q0_4), .second, iv p0_5, rv b1, iv (1 : Int32), .val (.long sta), .second, .val (.long dur), .second, .val (.long nw), .second, iv (1 : Int32), .unset, .unset] [(.long nw), (.ref b1)])) _
          refine st106.trans ?_
          rw [q110]
          show Steps p.tables e below (T106.setTop (mkF m 163 #[.val (.long q0_0), .second, .val (.long q0_1), .second, .val (.long q0_2), .second, .val (.long q0_3), .second, .val (.long q0_4), .second, iv p0_5, rv b1, iv (1 : Int32), .val (.long sta), .second, .val (.long dur), .second, .val (.long nw), .second, iv (1 : Int32), .unset, .unset] [(.int (1 : Int32))])) _
          show Steps p.tables e below (T106.setTop (mkF m 163 #[.val (.long q0_0), .second, .val (.long q0_1), .second, .val (.long q0_2), .second, .val (.long q0_3), .second, .val (.long q0_4), .second, iv p0_5, rv b1, iv (1 : Int32), .val (.long sta), .second, .val (.long dur), .second, .val (.long nw), .second, iv (1 : Int32), .unset, .unset] [(.int (1 : Int32))])) _
          refine XS.istore X106.here hx rfl (hb hby at_163) rfl (l' := #[.val (.long q0_0), .second, .val (.long q0_1), .second, .val (.long q0_2), .second, .val (.long q0_3), .second, .val (.long q0_4), .second, iv p0_5, rv b1, iv (1 : Int32), .val (.long sta), .second, .val (.long dur), .second, .val (.long nw), .second, iv (1 : Int32), iv (1 : Int32), .unset]) rfl ?_
          show Steps p.tables e below (T106.setTop (mkF m 165 #[.val (.long q0_0), .second, .val (.long q0_1), .second, .val (.long q0_2), .second, .val (.long q0_3), .second, .val (.long q0_4), .second, iv p0_5, rv b1, iv (1 : Int32), .val (.long sta), .second, .val (.long dur), .second, .val (.long nw), .second, iv (1 : Int32), iv (1 : Int32), .unset] [])) _
          refine XS.aload X106.here hx rfl (hb hby at_165) rfl rfl ?_
          show Steps p.tables e below (T106.setTop (mkF m 167 #[.val (.long q0_0), .second, .val (.long q0_1), .second, .val (.long q0_2), .second, .val (.long q0_3), .second, .val (.long q0_4), .second, iv p0_5, rv b1, iv (1 : Int32), .val (.long sta), .second, .val (.long dur), .second, .val (.long nw), .second, iv (1 : Int32), iv (1 : Int32), .unset] [(.ref b1)])) _
          refine XS.lload X106.here hx rfl (hb hby at_167) rfl ?_
          show Steps p.tables e below (T106.setTop (mkF m 169 #[.val (.long q0_0), .second, .val (.long q0_1), .second, .val (.long q0_2), .second, .val (.long q0_3), .second, .val (.long q0_4), .second, iv p0_5, rv b1, iv (1 : Int32), .val (.long sta), .second, .val (.long dur), .second, .val (.long nw), .second, iv (1 : Int32), iv (1 : Int32), .unset] [(.long nw), (.ref b1)])) _
          refine st111.trans ?_
          rw [q113]
          show Steps p.tables e below (T111.setTop (mkF m 172 #[.val (.long q0_0), .second, .val (.long q0_1), .second, .val (.long q0_2), .second, .val (.long q0_3), .second, .val (.long q0_4), .second, iv p0_5, rv b1, iv (1 : Int32), .val (.long sta), .second, .val (.long dur), .second, .val (.long nw), .second, iv (1 : Int32), iv (1 : Int32), .unset] [(.int (1 : Int32))])) _
          show Steps p.tables e below (T111.setTop (mkF m 172 #[.val (.long q0_0), .second, .val (.long q0_1), .second, .val (.long q0_2), .second, .val (.long q0_3), .second, .val (.long q0_4), .second, iv p0_5, rv b1, iv (1 : Int32), .val (.long sta), .second, .val (.long dur), .second, .val (.long nw), .second, iv (1 : Int32), iv (1 : Int32), .unset] [(.int (1 : Int32))])) _
          refine XS.istore X111.here hx rfl (hb hby at_172) rfl (l' := #[.val (.long q0_0), .second, .val (.long q0_1), .second, .val (.long q0_2), .second, .val (.long q0_3), .second, .val (.long q0_4), .second, iv p0_5, rv b1, iv (1 : Int32), .val (.long sta), .second, .val (.long dur), .second, .val (.long nw), .second, iv (1 : Int32), iv (1 : Int32), iv (1 : Int32)]) rfl ?_
          show Steps p.tables e below (T111.setTop (mkF m 174 #[.val (.long q0_0), .second, .val (.long q0_1), .second, .val (.long q0_2), .second, .val (.long q0_3), .second, .val (.long q0_4), .second, iv p0_5, rv b1, iv (1 : Int32), .val (.long sta), .second, .val (.long dur), .second, .val (.long nw), .second, iv (1 : Int32), iv (1 : Int32), iv (1 : Int32)] [])) _
          refine XS.iload X111.here hx rfl (hb hby at_174) rfl ?_
          show Steps p.tables e below (T111.setTop (mkF m 176 #[.val (.long q0_0), .second, .val (.long q0_1), .second, .val (.long q0_2), .second, .val (.long q0_3), .second, .val (.long q0_4), .second, iv p0_5, rv b1, iv (1 : Int32), .val (.long sta), .second, .val (.long dur), .second, .val (.long nw), .second, iv (1 : Int32), iv (1 : Int32), iv (1 : Int32)] [(.int (1 : Int32))])) _
          refine XS.ifNo X111.here hx rfl (hb hby at_176) rfl ((if0 _ _).trans (feq (by decide : ¬ ((1 : Int32) = (0 : Int32)))).1) ?_
          show Steps p.tables e below (T111.setTop (mkF m 179 #[.val (.long q0_0), .second, .val (.long q0_1), .second, .val (.long q0_2), .second, .val (.long q0_3), .second, .val (.long q0_4), .second, iv p0_5, rv b1, iv (1 : Int32), .val (.long sta), .second, .val (.long dur), .second, .val (.long nw), .second, iv (1 : Int32), iv (1 : Int32), iv (1 : Int32)] [])) _
          refine XS.iload X111.here hx rfl (hb hby at_179) rfl ?_
          show Steps p.tables e below (T111.setTop (mkF m 181 #[.val (.long q0_0), .second, .val (.long q0_1), .second, .val (.long q0_2), .second, .val (.long q0_3), .second, .val (.long q0_4), .second, iv p0_5, rv b1, iv (1 : Int32), .val (.long sta), .second, .val (.long dur), .second, .val (.long nw), .second, iv (1 : Int32), iv (1 : Int32), iv (1 : Int32)] [(.int (1 : Int32))])) _
          refine XS.iload X111.here hx rfl (hb hby at_181) rfl ?_
          show Steps p.tables e below (T111.setTop (mkF m 183 #[.val (.long q0_0), .second, .val (.long q0_1), .second, .val (.long q0_2), .second, .val (.long q0_3), .second, .val (.long q0_4), .second, iv p0_5, rv b1, iv (1 : Int32), .val (.long sta), .second, .val (.long dur), .second, .val (.long nw), .second, iv (1 : Int32), iv (1 : Int32), iv (1 : Int32)] [(.int (1 : Int32)), (.int (1 : Int32))])) _
          refine XS.icmpNo X111.here hx rfl (hb hby at_183) rfl (teq (by decide : (1 : Int32) = (1 : Int32))).2 ?_
          show Steps p.tables e below (T111.setTop (mkF m 186 #[.val (.long q0_0), .second, .val (.long q0_1), .second, .val (.long q0_2), .second, .val (.long q0_3), .second, .val (.long q0_4), .second, iv p0_5, rv b1, iv (1 : Int32), .val (.long sta), .second, .val (.long dur), .second, .val (.long nw), .second, iv (1 : Int32), iv (1 : Int32), iv (1 : Int32)] [])) _
          refine XS.iload X111.here hx rfl (hb hby at_186) rfl ?_
          show Steps p.tables e below (T111.setTop (mkF m 188 #[.val (.long q0_0), .second, .val (.long q0_1), .second, .val (.long q0_2), .second, .val (.long q0_3), .second, .val (.long q0_4), .second, iv p0_5, rv b1, iv (1 : Int32), .val (.long sta), .second, .val (.long dur), .second, .val (.long nw), .second, iv (1 : Int32), iv (1 : Int32), iv (1 : Int32)] [(.int (1 : Int32))])) _
          refine XS.iload X111.here hx rfl (hb hby at_188) rfl ?_
          show Steps p.tables e below (T111.setTop (mkF m 190 #[.val (.long q0_0), .second, .val (.long q0_1), .second, .val (.long q0_2), .second, .val (.long q0_3), .second, .val (.long q0_4), .second, iv p0_5, rv b1, iv (1 : Int32), .val (.long sta), .second, .val (.long dur), .second, .val (.long nw), .second, iv (1 : Int32), iv (1 : Int32), iv (1 : Int32)] [(.int (1 : Int32)), (.int (1 : Int32))])) _
          refine XS.icmpNo X111.here hx rfl (hb hby at_190) rfl (teq (by decide : (1 : Int32) = (1 : Int32))).2 ?_
          show Steps p.tables e below (T111.setTop (mkF m 193 #[.val (.long q0_0), .second, .val (.long q0_1), .second, .val (.long q0_2), .second, .val (.long q0_3), .second, .val (.long q0_4), .second, iv p0_5, rv b1, iv (1 : Int32), .val (.long sta), .second, .val (.long dur), .second, .val (.long nw), .second, iv (1 : Int32), iv (1 : Int32), iv (1 : Int32)] [])) _
          refine XS.iconst X111.here hx rfl (hb hby at_193) ?_
          show Steps p.tables e below (T111.setTop (mkF m 194 #[.val (.long q0_0), .second, .val (.long q0_1), .second, .val (.long q0_2), .second, .val (.long q0_3), .second, .val (.long q0_4), .second, iv p0_5, rv b1, iv (1 : Int32), .val (.long sta), .second, .val (.long dur), .second, .val (.long nw), .second, iv (1 : Int32), iv (1 : Int32), iv (1 : Int32)] [(.int (1 : Int32))])) _
          refine XS.goto X111.here hx rfl (pc0 := 194) (pc' := 198) rfl (hb hby at_194) (by decide) (by decide) ?_
          show Steps p.tables e below (T111.setTop (mkF m 198 #[.val (.long q0_0), .second, .val (.long q0_1), .second, .val (.long q0_2), .second, .val (.long q0_3), .second, .val (.long q0_4), .second, iv p0_5, rv b1, iv (1 : Int32), .val (.long sta), .second, .val (.long dur), .second, .val (.long nw), .second, iv (1 : Int32), iv (1 : Int32), iv (1 : Int32)] [(.int (1 : Int32))])) _
          exact retN X111 hx (t := .boolean) Bd.returns (by simp) (hb hby at_198) hr
        · show Q_rm0 Z _ _ _ _ _ _ _ _ _ _ _ _ h0 n0 _ T111.heap _
          rw [K111q]
          exact ⟨rfl, N112, (K93)⟩
    · skip
      obtain ⟨nw, h_nw⟩ : ∃ z : Int64, z = ((sta + dur) + (q0_2 % (3 : Int64))) := ⟨_, rfl⟩
      have hnow : -2 ≤ nw.toInt := by rw [h_nw]; have q := own_add sta dur hst hdu; have q3 := own_r3 q0_2; have q2 := own_add3 (sta + dur) (q0_2 % (3 : Int64)) (by omega) q3; omega
      have pre115 : ∀ t, Steps p.tables e below (T90.setTop (mkF m 146 #[.val (.long q0_0), .second, .val (.long q0_1), .second, .val (.long q0_2), .second, .val (.long q0_3), .second, .val (.long q0_4), .second, iv p0_5, rv b1, iv (1 : Int32), .val (.long sta), .second, .val (.long dur), .second, .val (.long nw), .second, .unset, .unset, .unset] [(.int (lcmpW (nw - sta) dur))])) t → Steps p.tables e below (s₁.setTop (entryFrame m #[(.long q0_0), (.long q0_1), (.long q0_2), (.long q0_3), (.long q0_4), (.int p0_5)] maxLocals)) t := by
        intro t_ k_
        refine pre95 _ ?_
        show Steps p.tables e below (T90.setTop (mkF m 110 #[.val (.long q0_0), .second, .val (.long q0_1), .second, .val (.long q0_2), .second, .val (.long q0_3), .second, .val (.long q0_4), .second, iv p0_5, rv b1, iv (1 : Int32), .val (.long sta), .second, .val (.long dur), .second, .unset, .unset, .unset, .unset, .unset] [(.int (p0_5 &&& (16 : Int32)))])) _
        refine XS.ifNo X90.here hx rfl (hb hby at_110) rfl ((if0 _ _).trans (feq hc110_94).1) ?_
        show Steps p.tables e below (T90.setTop (mkF m 113 #[.val (.long q0_0), .second, .val (.long q0_1), .second, .val (.long q0_2), .second, .val (.long q0_3), .second, .val (.long q0_4), .second, iv p0_5, rv b1, iv (1 : Int32), .val (.long sta), .second, .val (.long dur), .second, .unset, .unset, .unset, .unset, .unset] [])) _
        refine XS.lload X90.here hx rfl (hb hby at_113) rfl ?_
        show Steps p.tables e below (T90.setTop (mkF m 115 #[.val (.long q0_0), .second, .val (.long q0_1), .second, .val (.long q0_2), .second, .val (.long q0_3), .second, .val (.long q0_4), .second, iv p0_5, rv b1, iv (1 : Int32), .val (.long sta), .second, .val (.long dur), .second, .unset, .unset, .unset, .unset, .unset] [(.long sta)])) _
        refine XS.lload X90.here hx rfl (hb hby at_115) rfl ?_
        show Steps p.tables e below (T90.setTop (mkF m 117 #[.val (.long q0_0), .second, .val (.long q0_1), .second, .val (.long q0_2), .second, .val (.long q0_3), .second, .val (.long q0_4), .second, iv p0_5, rv b1, iv (1 : Int32), .val (.long sta), .second, .val (.long dur), .second, .unset, .unset, .unset, .unset, .unset] [(.long dur), (.long sta)])) _
        refine XS.ladd X90.here hx rfl (hb hby at_117) rfl ?_
        show Steps p.tables e below (T90.setTop (mkF m 118 #[.val (.long q0_0), .second, .val (.long q0_1), .second, .val (.long q0_2), .second, .val (.long q0_3), .second, .val (.long q0_4), .second, iv p0_5, rv b1, iv (1 : Int32), .val (.long sta), .second, .val (.long dur), .second, .unset, .unset, .unset, .unset, .unset] [(.long (sta + dur))])) _
        refine XS.lload X90.here hx rfl (hb hby at_118) rfl ?_
        show Steps p.tables e below (T90.setTop (mkF m 120 #[.val (.long q0_0), .second, .val (.long q0_1), .second, .val (.long q0_2), .second, .val (.long q0_3), .second, .val (.long q0_4), .second, iv p0_5, rv b1, iv (1 : Int32), .val (.long sta), .second, .val (.long dur), .second, .unset, .unset, .unset, .unset, .unset] [(.long q0_2), (.long (sta + dur))])) _
        refine X90.ldc2Long hx hown (mvT hZ wo93) (g := (mkF m 120 #[.val (.long q0_0), .second, .val (.long q0_1), .second, .val (.long q0_2), .second, .val (.long q0_3), .second, .val (.long q0_4), .second, iv p0_5, rv b1, iv (1 : Int32), .val (.long sta), .second, .val (.long dur), .second, .unset, .unset, .unset, .unset, .unset] [(.long q0_2), (.long (sta + dur))])) rfl (hb hby at_120) _ ?_
        show Steps p.tables e below (T90.setTop (mkF m 123 #[.val (.long q0_0), .second, .val (.long q0_1), .second, .val (.long q0_2), .second, .val (.long q0_3), .second, .val (.long q0_4), .second, iv p0_5, rv b1, iv (1 : Int32), .val (.long sta), .second, .val (.long dur), .second, .unset, .unset, .unset, .unset, .unset] [(.long (3 : Int64)), (.long q0_2), (.long (sta + dur))])) _
        refine XS.lrem X90.here hx rfl (hb hby at_123) rfl (by decide) ?_
        rw [lrem_mod]
        show Steps p.tables e below (T90.setTop (mkF m 124 #[.val (.long q0_0), .second, .val (.long q0_1), .second, .val (.long q0_2), .second, .val (.long q0_3), .second, .val (.long q0_4), .second, iv p0_5, rv b1, iv (1 : Int32), .val (.long sta), .second, .val (.long dur), .second, .unset, .unset, .unset, .unset, .unset] [(.long (q0_2 % (3 : Int64))), (.long (sta + dur))])) _
        refine XS.ladd X90.here hx rfl (hb hby at_124) rfl ?_
        show Steps p.tables e below (T90.setTop (mkF m 125 #[.val (.long q0_0), .second, .val (.long q0_1), .second, .val (.long q0_2), .second, .val (.long q0_3), .second, .val (.long q0_4), .second, iv p0_5, rv b1, iv (1 : Int32), .val (.long sta), .second, .val (.long dur), .second, .unset, .unset, .unset, .unset, .unset] [(.long ((sta + dur) + (q0_2 % (3 : Int64))))])) _
        refine XS.lstore X90.here hx rfl (hb hby at_125) rfl (l' := #[.val (.long q0_0), .second, .val (.long q0_1), .second, .val (.long q0_2), .second, .val (.long q0_3), .second, .val (.long q0_4), .second, iv p0_5, rv b1, iv (1 : Int32), .val (.long sta), .second, .val (.long dur), .second, .val (.long ((sta + dur) + (q0_2 % (3 : Int64)))), .second, .unset, .unset, .unset]) rfl ?_
        show Steps p.tables e below (T90.setTop (mkF m 127 #[.val (.long q0_0), .second, .val (.long q0_1), .second, .val (.long q0_2), .second, .val (.long q0_3), .second, .val (.long q0_4), .second, iv p0_5, rv b1, iv (1 : Int32), .val (.long sta), .second, .val (.long dur), .second, .val (.long ((sta + dur) + (q0_2 % (3 : Int64)))), .second, .unset, .unset, .unset] [])) _
        refine XS.goto X90.here hx rfl (pc0 := 127) (pc' := 138) rfl (hb hby at_127) (by decide) (by decide) ?_
        rw [← h_nw]
        show Steps p.tables e below (T90.setTop (mkF m 138 #[.val (.long q0_0), .second, .val (.long q0_1), .second, .val (.long q0_2), .second, .val (.long q0_3), .second, .val (.long q0_4), .second, iv p0_5, rv b1, iv (1 : Int32), .val (.long sta), .second, .val (.long dur), .second, .val (.long nw), .second, .unset, .unset, .unset] [])) _
        show Steps p.tables e below (T90.setTop (mkF m 138 #[.val (.long q0_0), .second, .val (.long q0_1), .second, .val (.long q0_2), .second, .val (.long q0_3), .second, .val (.long q0_4), .second, iv p0_5, rv b1, iv (1 : Int32), .val (.long sta), .second, .val (.long dur), .second, .val (.long nw), .second, .unset, .unset, .unset] [])) _
        refine XS.lload X90.here hx rfl (hb hby at_138) rfl ?_
        show Steps p.tables e below (T90.setTop (mkF m 140 #[.val (.long q0_0), .second, .val (.long q0_1), .second, .val (.long q0_2), .second, .val (.long q0_3), .second, .val (.long q0_4), .second, iv p0_5, rv b1, iv (1 : Int32), .val (.long sta), .second, .val (.long dur), .second, .val (.long nw), .second, .unset, .unset, .unset] [(.long nw)])) _
        refine XS.lload X90.here hx rfl (hb hby at_140) rfl ?_
        show Steps p.tables e below (T90.setTop (mkF m 142 #[.val (.long q0_0), .second, .val (.long q0_1), .second, .val (.long q0_2), .second, .val (.long q0_3), .second, .val (.long q0_4), .second, iv p0_5, rv b1, iv (1 : Int32), .val (.long sta), .second, .val (.long dur), .second, .val (.long nw), .second, .unset, .unset, .unset] [(.long sta), (.long nw)])) _
        refine XS.lsub X90.here hx rfl (hb hby at_142) rfl ?_
        show Steps p.tables e below (T90.setTop (mkF m 143 #[.val (.long q0_0), .second, .val (.long q0_1), .second, .val (.long q0_2), .second, .val (.long q0_3), .second, .val (.long q0_4), .second, iv p0_5, rv b1, iv (1 : Int32), .val (.long sta), .second, .val (.long dur), .second, .val (.long nw), .second, .unset, .unset, .unset] [(.long (nw - sta))])) _
        refine XS.lload X90.here hx rfl (hb hby at_143) rfl ?_
        show Steps p.tables e below (T90.setTop (mkF m 145 #[.val (.long q0_0), .second, .val (.long q0_1), .second, .val (.long q0_2), .second, .val (.long q0_3), .second, .val (.long q0_4), .second, iv p0_5, rv b1, iv (1 : Int32), .val (.long sta), .second, .val (.long dur), .second, .val (.long nw), .second, .unset, .unset, .unset] [(.long dur), (.long (nw - sta))])) _
        refine XS.lcmp X90.here hx rfl (hb hby at_145) rfl ?_
        exact k_
      by_cases hc146_114 : (lcmpW (nw - sta) dur) < (0 : Int32)
      · skip
        have f117 := (Nat.le_trans f91 K90q.1)
        have f118 := (f89.keep K90q)
        obtain ⟨cq116, kq116, q116a, q116b, q116c⟩ := isOf hZ rfl f118
        obtain ⟨_, _, ⟨T116, L116, k116, n116⟩, -, X116, ⟨Lc116, hQ116, l116, y116, z116⟩, st116⟩ := X90.virtualBack hx (y := MN7) (z := MN7) hown (mvT hZ wo61) (mvT hZ wo62) (notFace_of_selects (args := #[]) (mvT hZ wo64)) (mvT hZ wo64) (mvT hZ wo63) (by decide) (backOf (W := 0) (rm7 l Z a0 hw [] b1 nw (sta + dur) (T90.heap) n0 f117 hq90_0) hZ wo65 wo2 (by decide) (by decide)) q116a q116c (g := (mkF m 160 #[.val (.long q0_0), .second, .val (.long q0_1), .second, .val (.long q0_2), .second, .val (.long q0_3), .second, .val (.long q0_4), .second, iv p0_5, rv b1, iv (1 : Int32), .val (.long sta), .second, .val (.long dur), .second, .val (.long nw), .second, iv (0 : Int32), .unset, .unset] [(.long nw), (.ref b1)])) rfl (by rw [hml]; rfl) (Steps.refl _) (argsL := [(.long nw)]) (rest := []) (lenOf pd_4 rfl) rfl (by show 2 * 0 + _ ≤ _; exact Nat.le_of_eq rfl) (hb hby at_160) (fun _ _ => ⟨rfl, rfl, (by decide : 3 + 0 ≤ _), (by decide : 25 + 0 ≤ _)⟩)
        dsimp only [Pt.U, Pt.locs, Pt.cells, Pt.slots] at X116 l116 y116 z116 st116 hQ116
        subst l116 y116 z116
        obtain ⟨rfl, N116q, K116q⟩ := hQ116
        have N119 := Fr.app N92 N116q
        have q120 : (if (lcmpW nw (sta + dur)) < (0 : Int32) then (0 : Int32) else (1 : Int32)) = (0 : Int32) := if_pos ((own_fin _ _ _ hnow hst hdu).mp hc146_114)
        obtain ⟨cq121, kq121, q121a, q121b, q121c⟩ := isOf hZ K116q f118
        obtain ⟨_, _, ⟨T121, L121, k121, n121⟩, -, X121, ⟨Lc121, hQ121, l121, y121, z121⟩, st121⟩ := X116.virtualBack hx (y := MN7) (z := MN7) hown (mvT hZ wo61) (mvT hZ wo62) (notFace_of_selects (args := #[]) (mvT hZ wo64)) (mvT hZ wo64) (mvT hZ wo63) (by decide) (backOf (W := 0) (rm7 l Z a0 hw [] b1 nw (sta + dur) (T90.heap) n0 f117 hq90_0) hZ wo65 wo2 (by decide) (by decide)) q121a q121c (g := (mkF m 169 #[.val (.long q0_0), .second, .val (.long q0_1), .second, .val (.long q0_2), .second, .val (.long q0_3), .second, .val (.long q0_4), .second, iv p0_5, rv b1, iv (1 : Int32), .val (.long sta), .second, .val (.long dur), .second, .val (.long nw), .second, iv (0 : Int32), iv (0 : Int32), .unset] [(.long nw), (.ref b1)])) rfl (by rw [hml]; rfl) (Steps.refl _) (argsL := [(.long nw)]) (rest := []) (lenOf pd_4 rfl) rfl (by show 2 * 0 + _ ≤ _; exact Nat.le_of_eq rfl) (hb hby at_169) (fun _ _ => ⟨rfl, K116q, (by decide : 3 + 0 ≤ _), (by decide : 25 + 0 ≤ _)⟩)
        dsimp only [Pt.U, Pt.locs, Pt.cells, Pt.slots] at X121 l121 y121 z121 st121 hQ121
        subst l121 y121 z121
        obtain ⟨rfl, N121q, K121q⟩ := hQ121
        have N122 := Fr.app N119 N121q
        have q123 : (if (lcmpW nw (sta + dur)) < (0 : Int32) then (0 : Int32) else (1 : Int32)) = (0 : Int32) := if_pos ((own_fin _ _ _ hnow hst hdu).mp hc146_114)
        obtain ⟨fs, hr, hrun, hended, hW, hsame⟩ := X121.leave (v := some (.int (1 : Int32))) (fun h => by rw [Bd.returns] at h; cases h)
        refine ⟨_, _, pre115 _ ?_, hrun, hended, _, _, rfl, ?_, ⟨_, rfl⟩, hW, hsame.mono (by decide) (by decide)⟩
        · show Steps p.tables e below (T90.setTop (mkF m 146 #[.val (.long q0_0), .second, .val (.long q0_1), .second, .val (.long q0_2), .second, .val (.long q0_3), .second, .val (.long q0_4), .second, iv p0_5, rv b1, iv (1 : Int32), .val (.long sta), .second, .val (.long dur), .second, .val (.long nw), .second, .unset, .unset, .unset] [(.int (lcmpW (nw - sta) dur))])) _
          refine XS.ifYes X90.here hx rfl (pc0 := 146) (pc' := 153) rfl (hb hby at_146) rfl ((if0 _ _).trans (tlt hc146_114).1) (by decide) (by decide) ?_
          show Steps p.tables e below (T90.setTop (mkF m 153 #[.val (.long q0_0), .second, .val (.long q0_1), .second, .val (.long q0_2), .second, .val (.long q0_3), .second, .val (.long q0_4), .second, iv p0_5, rv b1, iv (1 : Int32), .val (.long sta), .second, .val (.long dur), .second, .val (.long nw), .second, .unset, .unset, .unset] [])) _
          refine XS.iconst X90.here hx rfl (hb hby at_153) ?_
          show Steps p.tables e below (T90.setTop (mkF m 154 #[.val (.long q0_0), .second, .val (.long q0_1), .second, .val (.long q0_2), .second, .val (.long q0_3), .second, .val (.long q0_4), .second, iv p0_5, rv b1, iv (1 : Int32), .val (.long sta), .second, .val (.long dur), .second, .val (.long nw), .second, .unset, .unset, .unset] [(.int (0 : Int32))])) _
          refine XS.istore X90.here hx rfl (hb hby at_154) rfl (l' := #[.val (.long q0_0), .second, .val (.long q0_1), .second, .val (.long q0_2), .second, .val (.long q0_3), .second, .val (.long q0_4), .second, iv p0_5, rv b1, iv (1 : Int32), .val (.long sta), .second, .val (.long dur), .second, .val (.long nw), .second, iv (0 : Int32), .unset, .unset]) rfl ?_
          show Steps p.tables e below (T90.setTop (mkF m 156 #[.val (.long q0_0), .second, .val (.long q0_1), .second, .val (.long q0_2), .second, .val (.long q0_3), .second, .val (.long q0_4), .second, iv p0_5, rv b1, iv (1 : Int32), .val (.long sta), .second, .val (.long dur), .second, .val (.long nw), .second, iv (0 : Int32), .unset, .unset] [])) _
          refine XS.aload X90.here hx rfl (hb hby at_156) rfl rfl ?_
          show Steps p.tables e below (T90.setTop (mkF m 158 #[.val (.long q0_0), .second, .val (.long q0_1), .second, .val (.long q0_2), .second, .val (.long q0_3), .second, .val (.long q0_4), .second, iv p0_5, rv b1, iv (1 : Int32), .val (.long sta), .second, .val (.long dur), .second, .val (.long nw), .second, iv (0 : Int32), .unset, .unset] [(.ref b1)])) _
          refine XS.lload X90.here hx rfl (hb hby at_158) rfl ?_
          show Steps p.tables e below (T90.setTop (mkF m 160 #[.val (.long q0_0), .second, .val (.long q0_1), .second, .val (.long q0_2), .second, .val (.long q0_3), .second, .val (.long q0_4), .second, iv p0_5, rv b1, iv (1 : Int32), .val (.long sta), .second, .val (.long dur), .second, .val (.long nw), .second, iv (0 : Int32), .unset, .unset] [(.long nw), (.ref b1)])) _
          refine st116.trans ?_
          rw [q120]
          show Steps p.tables e below (T116.setTop (mkF m 163 #[.val (.long q0_0), .second, .val (.long q0_1), .second, .val (.long q0_2), .second, .val (.long q0_3), .second, .val (.long q0_4), .second, iv p0_5, rv b1, iv (1 : Int32), .val (.long sta), .second, .val (.long dur), .second, .val (.long nw), .second, iv (0 : Int32), .unset, .unset] [(.int (0 : Int32))])) _
          show Steps p.tables e below (T116.setTop (mkF m 163 #[.val (.long q0_0), .second, .val (.long q0_1), .second, .val (.long q0_2), .second, .val (.long q0_3), .second, .val (.long q0_4), .second, iv p0_5, rv b1, iv (1 : Int32), .val (.long sta), .second, .val (.long dur), .second, .val (.long nw), .second, iv (0 : Int32), .unset, .unset] [(.int (0 : Int32))])) _
          refine XS.istore X116.here hx rfl (hb hby at_163) rfl (l' := #[.val (.long q0_0), .second, .val (.long q0_1), .second, .val (.long q0_2), .second, .val (.long q0_3), .second, .val (.long q0_4), .second, iv p0_5, rv b1, iv (1 : Int32), .val (.long sta), .second, .val (.long dur), .second, .val (.long nw), .second, iv (0 : Int32), iv (0 : Int32), .unset]) rfl ?_
          show Steps p.tables e below (T116.setTop (mkF m 165 #[.val (.long q0_0), .second, .val (.long q0_1), .second, .val (.long q0_2), .second, .val (.long q0_3), .second, .val (.long q0_4), .second, iv p0_5, rv b1, iv (1 : Int32), .val (.long sta), .second, .val (.long dur), .second, .val (.long nw), .second, iv (0 : Int32), iv (0 : Int32), .unset] [])) _
          refine XS.aload X116.here hx rfl (hb hby at_165) rfl rfl ?_
          show Steps p.tables e below (T116.setTop (mkF m 167 #[.val (.long q0_0), .second, .val (.long q0_1), .second, .val (.long q0_2), .second, .val (.long q0_3), .second, .val (.long q0_4), .second, iv p0_5, rv b1, iv (1 : Int32), .val (.long sta), .second, .val (.long dur), .second, .val (.long nw), .second, iv (0 : Int32), iv (0 : Int32), .unset] [(.ref b1)])) _
          refine XS.lload X116.here hx rfl (hb hby at_167) rfl ?_
          show Steps p.tables e below (T116.setTop (mkF m 169 #[.val (.long q0_0), .second, .val (.long q0_1), .second, .val (.long q0_2), .second, .val (.long q0_3), .second, .val (.long q0_4), .second, iv p0_5, rv b1, iv (1 : Int32), .val (.long sta), .second, .val (.long dur), .second, .val (.long nw), .second, iv (0 : Int32), iv (0 : Int32), .unset] [(.long nw), (.ref b1)])) _
          refine st121.trans ?_
          rw [q123]
          show Steps p.tables e below (T121.setTop (mkF m 172 #[.val (.long q0_0), .second, .val (.long q0_1), .second, .val (.long q0_2), .second, .val (.long q0_3), .second, .val (.long q0_4), .second, iv p0_5, rv b1, iv (1 : Int32), .val (.long sta), .second, .val (.long dur), .second, .val (.long nw), .second, iv (0 : Int32), iv (0 : Int32), .unset] [(.int (0 : Int32))])) _
          show Steps p.tables e below (T121.setTop (mkF m 172 #[.val (.long q0_0), .second, .val (.long q0_1), .second, .val (.long q0_2), .second, .val (.long q0_3), .second, .val (.long q0_4), .second, iv p0_5, rv b1, iv (1 : Int32), .val (.long sta), .second, .val (.long dur), .second, .val (.long nw), .second, iv (0 : Int32), iv (0 : Int32), .unset] [(.int (0 : Int32))])) _
          refine XS.istore X121.here hx rfl (hb hby at_172) rfl (l' := #[.val (.long q0_0), .second, .val (.long q0_1), .second, .val (.long q0_2), .second, .val (.long q0_3), .second, .val (.long q0_4), .second, iv p0_5, rv b1, iv (1 : Int32), .val (.long sta), .second, .val (.long dur), .second, .val (.long nw), .second, iv (0 : Int32), iv (0 : Int32), iv (0 : Int32)]) rfl ?_
          show Steps p.tables e below (T121.setTop (mkF m 174 #[.val (.long q0_0), .second, .val (.long q0_1), .second, .val (.long q0_2), .second, .val (.long q0_3), .second, .val (.long q0_4), .second, iv p0_5, rv b1, iv (1 : Int32), .val (.long sta), .second, .val (.long dur), .second, .val (.long nw), .second, iv (0 : Int32), iv (0 : Int32), iv (0 : Int32)] [])) _
          refine XS.iload X121.here hx rfl (hb hby at_174) rfl ?_
          show Steps p.tables e below (T121.setTop (mkF m 176 #[.val (.long q0_0), .second, .val (.long q0_1), .second, .val (.long q0_2), .second, .val (.long q0_3), .second, .val (.long q0_4), .second, iv p0_5, rv b1, iv (1 : Int32), .val (.long sta), .second, .val (.long dur), .second, .val (.long nw), .second, iv (0 : Int32), iv (0 : Int32), iv (0 : Int32)] [(.int (1 : Int32))])) _
          refine XS.ifNo X121.here hx rfl (hb hby at_176) rfl ((if0 _ _).trans (feq (by decide : ¬ ((1 : Int32) = (0 : Int32)))).1) ?_
          show Steps p.tables e below (T121.setTop (mkF m 179 #[.val (.long q0_0), .second, .val (.long q0_1), .second, .val (.long q0_2), .second, .val (.long q0_3), .second, .val (.long q0_4), .second, iv p0_5, rv b1, iv (1 : Int32), .val (.long sta), .second, .val (.long dur), .second, .val (.long nw), .second, iv (0 : Int32), iv (0 : Int32), iv (0 : Int32)] [])) _
          refine XS.iload X121.here hx rfl (hb hby at_179) rfl ?_
          show Steps p.tables e below (T121.setTop (mkF m 181 #[.val (.long q0_0), .second, .val (.long q0_1), .second, .val (.long q0_2), .second, .val (.long q0_3), .second, .val (.long q0_4), .second, iv p0_5, rv b1, iv (1 : Int32), .val (.long sta), .second, .val (.long dur), .second, .val (.long nw), .second, iv (0 : Int32), iv (0 : Int32), iv (0 : Int32)] [(.int (0 : Int32))])) _
          refine XS.iload X121.here hx rfl (hb hby at_181) rfl ?_
          show Steps p.tables e below (T121.setTop (mkF m 183 #[.val (.long q0_0), .second, .val (.long q0_1), .second, .val (.long q0_2), .second, .val (.long q0_3), .second, .val (.long q0_4), .second, iv p0_5, rv b1, iv (1 : Int32), .val (.long sta), .second, .val (.long dur), .second, .val (.long nw), .second, iv (0 : Int32), iv (0 : Int32), iv (0 : Int32)] [(.int (0 : Int32)), (.int (0 : Int32))])) _
          refine XS.icmpNo X121.here hx rfl (hb hby at_183) rfl (teq (by decide : (0 : Int32) = (0 : Int32))).2 ?_
          show Steps p.tables e below (T121.setTop (mkF m 186 #[.val (.long q0_0), .second, .val (.long q0_1), .second, .val (.long q0_2), .second, .val (.long q0_3), .second, .val (.long q0_4), .second, iv p0_5, rv b1, iv (1 : Int32), .val (.long sta), .second, .val (.long dur), .second, .val (.long nw), .second, iv (0 : Int32), iv (0 : Int32), iv (0 : Int32)] [])) _
          refine XS.iload X121.here hx rfl (hb hby at_186) rfl ?_
          show Steps p.tables e below (T121.setTop (mkF m 188 #[.val (.long q0_0), .second, .val (.long q0_1), .second, .val (.long q0_2), .second, .val (.long q0_3), .second, .val (.long q0_4), .second, iv p0_5, rv b1, iv (1 : Int32), .val (.long sta), .second, .val (.long dur), .second, .val (.long nw), .second, iv (0 : Int32), iv (0 : Int32), iv (0 : Int32)] [(.int (0 : Int32))])) _
          refine XS.iload X121.here hx rfl (hb hby at_188) rfl ?_
          show Steps p.tables e below (T121.setTop (mkF m 190 #[.val (.long q0_0), .second, .val (.long q0_1), .second, .val (.long q0_2), .second, .val (.long q0_3), .second, .val (.long q0_4), .second, iv p0_5, rv b1, iv (1 : Int32), .val (.long sta), .second, .val (.long dur), .second, .val (.long nw), .second, iv (0 : Int32), iv (0 : Int32), iv (0 : Int32)] [(.int (0 : Int32)), (.int (0 : Int32))])) _
          refine XS.icmpNo X121.here hx rfl (hb hby at_190) rfl (teq (by decide : (0 : Int32) = (0 : Int32))).2 ?_
          show Steps p.tables e below (T121.setTop (mkF m 193 #[.val (.long q0_0), .second, .val (.long q0_1), .second, .val (.long q0_2), .second, .val (.long q0_3), .second, .val (.long q0_4), .second, iv p0_5, rv b1, iv (1 : Int32), .val (.long sta), .second, .val (.long dur), .second, .val (.long nw), .second, iv (0 : Int32), iv (0 : Int32), iv (0 : Int32)] [])) _
          refine XS.iconst X121.here hx rfl (hb hby at_193) ?_
          show Steps p.tables e below (T121.setTop (mkF m 194 #[.val (.long q0_0), .second, .val (.long q0_1), .second, .val (.long q0_2), .second, .val (.long q0_3), .second, .val (.long q0_4), .second, iv p0_5, rv b1, iv (1 : Int32), .val (.long sta), .second, .val (.long dur), .second, .val (.long nw), .second, iv (0 : Int32), iv (0 : Int32), iv (0 : Int32)] [(.int (1 : Int32))])) _
          refine XS.goto X121.here hx rfl (pc0 := 194) (pc' := 198) rfl (hb hby at_194) (by decide) (by decide) ?_
          show Steps p.tables e below (T121.setTop (mkF m 198 #[.val (.long q0_0), .second, .val (.long q0_1), .second, .val (.long q0_2), .second, .val (.long q0_3), .second, .val (.long q0_4), .second, iv p0_5, rv b1, iv (1 : Int32), .val (.long sta), .second, .val (.long dur), .second, .val (.long nw), .second, iv (0 : Int32), iv (0 : Int32), iv (0 : Int32)] [(.int (1 : Int32))])) _
          exact retN X121 hx (t := .boolean) Bd.returns (by simp) (hb hby at_198) hr
        · show Q_rm0 Z _ _ _ _ _ _ _ _ _ _ _ _ h0 n0 _ T121.heap _
          rw [K121q]
          exact ⟨rfl, N122, (K93)⟩
      · skip
        have f125 := (Nat.le_trans f91 K90q.1)
        have f126 := (f89.keep K90q)
        obtain ⟨cq124, kq124, q124a, q124b, q124c⟩ := isOf hZ rfl f126
        obtain ⟨_, _, ⟨T124, L124, k124, n124⟩, -, X124, ⟨Lc124, hQ124, l124, y124, z124⟩, st124⟩ := X90.virtualBack hx (y := MN7) (z := MN7) hown (mvT hZ wo61) (mvT hZ wo62) (notFace_of_selects (args := #[]) (mvT hZ wo64)) (mvT hZ wo64) (mvT hZ wo63) (by decide) (backOf (W := 0) (rm7 l Z a0 hw [] b1 nw (sta + dur) (T90.heap) n0 f125 hq90_0) hZ wo65 wo2 (by decide) (by decide)) q124a q124c (g := (mkF m 160 #[.val (.long q0_0), .second, .val (.long q0_1), .second, .val (.long q0_2), .second, .val (.long q0_3), .second, .val (.long q0_4), .second, iv p0_5, rv b1, iv (1 : Int32), .val (.long sta), .second, .val (.long dur), .second, .val (.long nw), .second, iv (1 : Int32), .unset, .unset] [(.long nw), (.ref b1)])) rfl (by rw [hml]; rfl) (Steps.refl _) (argsL := [(.long nw)]) (rest := []) (lenOf pd_4 rfl) rfl (by show 2 * 0 + _ ≤ _; exact Nat.le_of_eq rfl) (hb hby at_160) (fun _ _ => ⟨rfl, rfl, (by decide : 3 + 0 ≤ _), (by decide : 25 + 0 ≤ _)⟩)
        dsimp only [Pt.U, Pt.locs, Pt.cells, Pt.slots] at X124 l124 y124 z124 st124 hQ124
        subst l124 y124 z124
        obtain ⟨rfl, N124q, K124q⟩ := hQ124
        have N127 := Fr.app N92 N124q
        have q128 : (if (lcmpW nw (sta + dur)) < (0 : Int32) then (0 : Int32) else (1 : Int32)) = (1 : Int32) := if_neg (fun q => hc146_114 ((own_fin _ _ _ hnow hst hdu).mpr q))
        obtain ⟨cq129, kq129, q129a, q129b, q129c⟩ := isOf hZ K124q f126
        obtain ⟨_, _, ⟨T129, L129, k129, n129⟩, -, X129, ⟨Lc129, hQ129, l129, y129, z129⟩, st129⟩ := X124.virtualBack hx (y := MN7) (z := MN7) hown (mvT hZ wo61) (mvT hZ wo62) (notFace_of_selects (args := #[]) (mvT hZ wo64)) (mvT hZ wo64) (mvT hZ wo63) (by decide) (backOf (W := 0) (rm7 l Z a0 hw [] b1 nw (sta + dur) (T90.heap) n0 f125 hq90_0) hZ wo65 wo2 (by decide) (by decide)) q129a q129c (g := (mkF m 169 #[.val (.long q0_0), .second, .val (.long q0_1), .second, .val (.long q0_2), .second, .val (.long q0_3), .second, .val (.long q0_4), .second, iv p0_5, rv b1, iv (1 : Int32), .val (.long sta), .second, .val (.long dur), .second, .val (.long nw), .second, iv (1 : Int32), iv (1 : Int32), .unset] [(.long nw), (.ref b1)])) rfl (by rw [hml]; rfl) (Steps.refl _) (argsL := [(.long nw)]) (rest := []) (lenOf pd_4 rfl) rfl (by show 2 * 0 + _ ≤ _; exact Nat.le_of_eq rfl) (hb hby at_169) (fun _ _ => ⟨rfl, K124q, (by decide : 3 + 0 ≤ _), (by decide : 25 + 0 ≤ _)⟩)
        dsimp only [Pt.U, Pt.locs, Pt.cells, Pt.slots] at X129 l129 y129 z129 st129 hQ129
        subst l129 y129 z129
        obtain ⟨rfl, N129q, K129q⟩ := hQ129
        have N130 := Fr.app N127 N129q
        have q131 : (if (lcmpW nw (sta + dur)) < (0 : Int32) then (0 : Int32) else (1 : Int32)) = (1 : Int32) := if_neg (fun q => hc146_114 ((own_fin _ _ _ hnow hst hdu).mpr q))
        obtain ⟨fs, hr, hrun, hended, hW, hsame⟩ := X129.leave (v := some (.int (1 : Int32))) (fun h => by rw [Bd.returns] at h; cases h)
        refine ⟨_, _, pre115 _ ?_, hrun, hended, _, _, rfl, ?_, ⟨_, rfl⟩, hW, hsame.mono (by decide) (by decide)⟩
        · show Steps p.tables e below (T90.setTop (mkF m 146 #[.val (.long q0_0), .second, .val (.long q0_1), .second, .val (.long q0_2), .second, .val (.long q0_3), .second, .val (.long q0_4), .second, iv p0_5, rv b1, iv (1 : Int32), .val (.long sta), .second, .val (.long dur), .second, .val (.long nw), .second, .unset, .unset, .unset] [(.int (lcmpW (nw - sta) dur))])) _
          refine XS.ifNo X90.here hx rfl (hb hby at_146) rfl ((if0 _ _).trans (flt hc146_114).1) ?_
          show Steps p.tables e below (T90.setTop (mkF m 149 #[.val (.long q0_0), .second, .val (.long q0_1), .second, .val (.long q0_2), .second, .val (.long q0_3), .second, .val (.long q0_4), .second, iv p0_5, rv b1, iv (1 : Int32), .val (.long sta), .second, .val (.long dur), .second, .val (.long nw), .second, .unset, .unset, .unset] [])) _
          refine XS.iconst X90.here hx rfl (hb hby at_149) ?_
          show Steps p.tables e below (T90.setTop (mkF m 150 #[.val (.long q0_0), .second, .val (.long q0_1), .second, .val (.long q0_2), .second, .val (.long q0_3), .second, .val (.long q0_4), .second, iv p0_5, rv b1, iv (1 : Int32), .val (.long sta), .second, .val (.long dur), .second, .val (.long nw), .second, .unset, .unset, .unset] [(.int (1 : Int32))])) _
          refine XS.goto X90.here hx rfl (pc0 := 150) (pc' := 154) rfl (hb hby at_150) (by decide) (by decide) ?_
          show Steps p.tables e below (T90.setTop (mkF m 154 #[.val (.long q0_0), .second, .val (.long q0_1), .second, .val (.long q0_2), .second, .val (.long q0_3), .second, .val (.long q0_4), .second, iv p0_5, rv b1, iv (1 : Int32), .val (.long sta), .second, .val (.long dur), .second, .val (.long nw), .second, .unset, .unset, .unset] [(.int (1 : Int32))])) _
          refine XS.istore X90.here hx rfl (hb hby at_154) rfl (l' := #[.val (.long q0_0), .second, .val (.long q0_1), .second, .val (.long q0_2), .second, .val (.long q0_3), .second, .val (.long q0_4), .second, iv p0_5, rv b1, iv (1 : Int32), .val (.long sta), .second, .val (.long dur), .second, .val (.long nw), .second, iv (1 : Int32), .unset, .unset]) rfl ?_
          show Steps p.tables e below (T90.setTop (mkF m 156 #[.val (.long q0_0), .second, .val (.long q0_1), .second, .val (.long q0_2), .second, .val (.long q0_3), .second, .val (.long q0_4), .second, iv p0_5, rv b1, iv (1 : Int32), .val (.long sta), .second, .val (.long dur), .second, .val (.long nw), .second, iv (1 : Int32), .unset, .unset] [])) _
          refine XS.aload X90.here hx rfl (hb hby at_156) rfl rfl ?_
          show Steps p.tables e below (T90.setTop (mkF m 158 #[.val (.long q0_0), .second, .val (.long q0_1), .second, .val (.long q0_2), .second, .val (.long q0_3), .second, .val (.long q0_4), .second, iv p0_5, rv b1, iv (1 : Int32), .val (.long sta), .second, .val (.long dur), .second, .val (.long nw), .second, iv (1 : Int32), .unset, .unset] [(.ref b1)])) _
          refine XS.lload X90.here hx rfl (hb hby at_158) rfl ?_
          show Steps p.tables e below (T90.setTop (mkF m 160 #[.val (.long q0_0), .second, .val (.long q0_1), .second, .val (.long q0_2), .second, .val (.long q0_3), .second, .val (.long q0_4), .second, iv p0_5, rv b1, iv (1 : Int32), .val (.long sta), .second, .val (.long dur), .second, .val (.long nw), .second, iv (1 : Int32), .unset, .unset] [(.long nw), (.ref b1)])) _
          refine st124.trans ?_
          rw [q128]
          show Steps p.tables e below (T124.setTop (mkF m 163 #[.val (.long q0_0), .second, .val (.long q0_1), .second, .val (.long q0_2), .second, .val (.long q0_3), .second, .val (.long q0_4), .second, iv p0_5, rv b1, iv (1 : Int32), .val (.long sta), .second, .val (.long dur), .second, .val (.long nw), .second, iv (1 : Int32), .unset, .unset] [(.int (1 : Int32))])) _
          show Steps p.tables e below (T124.setTop (mkF m 163 #[.val (.long q0_0), .second, .val (.long q0_1), .second, .val (.long q0_2), .second, .val (.long q0_3), .second, .val (.long q0_4), .second, iv p0_5, rv b1, iv (1 : Int32), .val (.long sta), .second, .val (.long dur), .second, .val (.long nw), .second, iv (1 : Int32), .unset, .unset] [(.int (1 : Int32))])) _
          refine XS.istore X124.here hx rfl (hb hby at_163) rfl (l' := #[.val (.long q0_0), .second, .val (.long q0_1), .second, .val (.long q0_2), .second, .val (.long q0_3), .second, .val (.long q0_4), .second, iv p0_5, rv b1, iv (1 : Int32), .val (.long sta), .second, .val (.long dur), .second, .val (.long nw), .second, iv (1 : Int32), iv (1 : Int32), .unset]) rfl ?_
          show Steps p.tables e below (T124.setTop (mkF m 165 #[.val (.long q0_0), .second, .val (.long q0_1), .second, .val (.long q0_2), .second, .val (.long q0_3), .second, .val (.long q0_4), .second, iv p0_5, rv b1, iv (1 : Int32), .val (.long sta), .second, .val (.long dur), .second, .val (.long nw), .second, iv (1 : Int32), iv (1 : Int32), .unset] [])) _
          refine XS.aload X124.here hx rfl (hb hby at_165) rfl rfl ?_
          show Steps p.tables e below (T124.setTop (mkF m 167 #[.val (.long q0_0), .second, .val (.long q0_1), .second, .val (.long q0_2), .second, .val (.long q0_3), .second, .val (.long q0_4), .second, iv p0_5, rv b1, iv (1 : Int32), .val (.long sta), .second, .val (.long dur), .second, .val (.long nw), .second, iv (1 : Int32), iv (1 : Int32), .unset] [(.ref b1)])) _
          refine XS.lload X124.here hx rfl (hb hby at_167) rfl ?_
          show Steps p.tables e below (T124.setTop (mkF m 169 #[.val (.long q0_0), .second, .val (.long q0_1), .second, .val (.long q0_2), .second, .val (.long q0_3), .second, .val (.long q0_4), .second, iv p0_5, rv b1, iv (1 : Int32), .val (.long sta), .second, .val (.long dur), .second, .val (.long nw), .second, iv (1 : Int32), iv (1 : Int32), .unset] [(.long nw), (.ref b1)])) _
          refine st129.trans ?_
          rw [q131]
          show Steps p.tables e below (T129.setTop (mkF m 172 #[.val (.long q0_0), .second, .val (.long q0_1), .second, .val (.long q0_2), .second, .val (.long q0_3), .second, .val (.long q0_4), .second, iv p0_5, rv b1, iv (1 : Int32), .val (.long sta), .second, .val (.long dur), .second, .val (.long nw), .second, iv (1 : Int32), iv (1 : Int32), .unset] [(.int (1 : Int32))])) _
          show Steps p.tables e below (T129.setTop (mkF m 172 #[.val (.long q0_0), .second, .val (.long q0_1), .second, .val (.long q0_2), .second, .val (.long q0_3), .second, .val (.long q0_4), .second, iv p0_5, rv b1, iv (1 : Int32), .val (.long sta), .second, .val (.long dur), .second, .val (.long nw), .second, iv (1 : Int32), iv (1 : Int32), .unset] [(.int (1 : Int32))])) _
          refine XS.istore X129.here hx rfl (hb hby at_172) rfl (l' := #[.val (.long q0_0), .second, .val (.long q0_1), .second, .val (.long q0_2), .second, .val (.long q0_3), .second, .val (.long q0_4), .second, iv p0_5, rv b1, iv (1 : Int32), .val (.long sta), .second, .val (.long dur), .second, .val (.long nw), .second, iv (1 : Int32), iv (1 : Int32), iv (1 : Int32)]) rfl ?_
          show Steps p.tables e below (T129.setTop (mkF m 174 #[.val (.long q0_0), .second, .val (.long q0_1), .second, .val (.long q0_2), .second, .val (.long q0_3), .second, .val (.long q0_4), .second, iv p0_5, rv b1, iv (1 : Int32), .val (.long sta), .second, .val (.long dur), .second, .val (.long nw), .second, iv (1 : Int32), iv (1 : Int32), iv (1 : Int32)] [])) _
          refine XS.iload X129.here hx rfl (hb hby at_174) rfl ?_
          show Steps p.tables e below (T129.setTop (mkF m 176 #[.val (.long q0_0), .second, .val (.long q0_1), .second, .val (.long q0_2), .second, .val (.long q0_3), .second, .val (.long q0_4), .second, iv p0_5, rv b1, iv (1 : Int32), .val (.long sta), .second, .val (.long dur), .second, .val (.long nw), .second, iv (1 : Int32), iv (1 : Int32), iv (1 : Int32)] [(.int (1 : Int32))])) _
          refine XS.ifNo X129.here hx rfl (hb hby at_176) rfl ((if0 _ _).trans (feq (by decide : ¬ ((1 : Int32) = (0 : Int32)))).1) ?_
          show Steps p.tables e below (T129.setTop (mkF m 179 #[.val (.long q0_0), .second, .val (.long q0_1), .second, .val (.long q0_2), .second, .val (.long q0_3), .second, .val (.long q0_4), .second, iv p0_5, rv b1, iv (1 : Int32), .val (.long sta), .second, .val (.long dur), .second, .val (.long nw), .second, iv (1 : Int32), iv (1 : Int32), iv (1 : Int32)] [])) _
          refine XS.iload X129.here hx rfl (hb hby at_179) rfl ?_
          show Steps p.tables e below (T129.setTop (mkF m 181 #[.val (.long q0_0), .second, .val (.long q0_1), .second, .val (.long q0_2), .second, .val (.long q0_3), .second, .val (.long q0_4), .second, iv p0_5, rv b1, iv (1 : Int32), .val (.long sta), .second, .val (.long dur), .second, .val (.long nw), .second, iv (1 : Int32), iv (1 : Int32), iv (1 : Int32)] [(.int (1 : Int32))])) _
          refine XS.iload X129.here hx rfl (hb hby at_181) rfl ?_
          show Steps p.tables e below (T129.setTop (mkF m 183 #[.val (.long q0_0), .second, .val (.long q0_1), .second, .val (.long q0_2), .second, .val (.long q0_3), .second, .val (.long q0_4), .second, iv p0_5, rv b1, iv (1 : Int32), .val (.long sta), .second, .val (.long dur), .second, .val (.long nw), .second, iv (1 : Int32), iv (1 : Int32), iv (1 : Int32)] [(.int (1 : Int32)), (.int (1 : Int32))])) _
          refine XS.icmpNo X129.here hx rfl (hb hby at_183) rfl (teq (by decide : (1 : Int32) = (1 : Int32))).2 ?_
          show Steps p.tables e below (T129.setTop (mkF m 186 #[.val (.long q0_0), .second, .val (.long q0_1), .second, .val (.long q0_2), .second, .val (.long q0_3), .second, .val (.long q0_4), .second, iv p0_5, rv b1, iv (1 : Int32), .val (.long sta), .second, .val (.long dur), .second, .val (.long nw), .second, iv (1 : Int32), iv (1 : Int32), iv (1 : Int32)] [])) _
          refine XS.iload X129.here hx rfl (hb hby at_186) rfl ?_
          show Steps p.tables e below (T129.setTop (mkF m 188 #[.val (.long q0_0), .second, .val (.long q0_1), .second, .val (.long q0_2), .second, .val (.long q0_3), .second, .val (.long q0_4), .second, iv p0_5, rv b1, iv (1 : Int32), .val (.long sta), .second, .val (.long dur), .second, .val (.long nw), .second, iv (1 : Int32), iv (1 : Int32), iv (1 : Int32)] [(.int (1 : Int32))])) _
          refine XS.iload X129.here hx rfl (hb hby at_188) rfl ?_
          show Steps p.tables e below (T129.setTop (mkF m 190 #[.val (.long q0_0), .second, .val (.long q0_1), .second, .val (.long q0_2), .second, .val (.long q0_3), .second, .val (.long q0_4), .second, iv p0_5, rv b1, iv (1 : Int32), .val (.long sta), .second, .val (.long dur), .second, .val (.long nw), .second, iv (1 : Int32), iv (1 : Int32), iv (1 : Int32)] [(.int (1 : Int32)), (.int (1 : Int32))])) _
          refine XS.icmpNo X129.here hx rfl (hb hby at_190) rfl (teq (by decide : (1 : Int32) = (1 : Int32))).2 ?_
          show Steps p.tables e below (T129.setTop (mkF m 193 #[.val (.long q0_0), .second, .val (.long q0_1), .second, .val (.long q0_2), .second, .val (.long q0_3), .second, .val (.long q0_4), .second, iv p0_5, rv b1, iv (1 : Int32), .val (.long sta), .second, .val (.long dur), .second, .val (.long nw), .second, iv (1 : Int32), iv (1 : Int32), iv (1 : Int32)] [])) _
          refine XS.iconst X129.here hx rfl (hb hby at_193) ?_
          show Steps p.tables e below (T129.setTop (mkF m 194 #[.val (.long q0_0), .second, .val (.long q0_1), .second, .val (.long q0_2), .second, .val (.long q0_3), .second, .val (.long q0_4), .second, iv p0_5, rv b1, iv (1 : Int32), .val (.long sta), .second, .val (.long dur), .second, .val (.long nw), .second, iv (1 : Int32), iv (1 : Int32), iv (1 : Int32)] [(.int (1 : Int32))])) _
          refine XS.goto X129.here hx rfl (pc0 := 194) (pc' := 198) rfl (hb hby at_194) (by decide) (by decide) ?_
          show Steps p.tables e below (T129.setTop (mkF m 198 #[.val (.long q0_0), .second, .val (.long q0_1), .second, .val (.long q0_2), .second, .val (.long q0_3), .second, .val (.long q0_4), .second, iv p0_5, rv b1, iv (1 : Int32), .val (.long sta), .second, .val (.long dur), .second, .val (.long nw), .second, iv (1 : Int32), iv (1 : Int32), iv (1 : Int32)] [(.int (1 : Int32))])) _
          exact retN X129 hx (t := .boolean) Bd.returns (by simp) (hb hby at_198) hr
        · show Q_rm0 Z _ _ _ _ _ _ _ _ _ _ _ _ h0 n0 _ T129.heap _
          rw [K129q]
          exact ⟨rfl, N130, (K93)⟩
set_option maxRecDepth 65536 in
set_option maxHeartbeats 40000000 in
theorem comes_1 {Post : Tables → Env → Array Value → State → Outcome → State → Prop} (hpost : ∀ tb e args s v u, (limb_1_1.after args s (.returned v) u = true ∧ limb_1_2.after args s (.returned v) u = true ∧ True) → FrameEnd s (.returned v) u (Jvm.fieldLocs frame_1_writes args s ++ Jvm.arrayLocs frame_1_arrays args s ++ Jvm.staticLocs frame_1_statics s) 16 128 → Post tb e args s (.returned v) u) :
    ArmFor flags0 classFile x code maxLocals ret World_1 tables_1 room_1 Calls_1 rest_1 Pre_1 Post := by
  intro l hfl _ _ p e ha hc hk s m args below hf hA hF happ hP
  obtain ⟨hcalls, hrest, hpre⟩ := hP
  obtain ⟨-, -, -, hnamed, -, -, -, hat⟩ := (Spec.applies_iff hf).mp happ
  obtain ⟨hg, hn⟩ := and_e (Cond.before_iff.mp (show (Jvm.Cond.and given_1 narrow_1).before args s = true from hpre))
  obtain ⟨g1, g2⟩ := and_e hg
  obtain ⟨g3, g4⟩ := and_e g2
  obtain ⟨g5, g6⟩ := and_e g4
  obtain ⟨g7, g8⟩ := and_e g6
  obtain ⟨g9, g10⟩ := and_e g8
  obtain ⟨g11, g12⟩ := and_e g10
  obtain ⟨w0, w1, w2, w3, w4, w5, rfl⟩ : ∃ w0 w1 w2 w3 w4 w5 : Value, args = #[w0, w1, w2, w3, w4, w5] := by
    have hs : args.size = 6 := by simpa [Cond.value, given_1] using g1
    obtain ⟨L⟩ := args
    match L, hs with
    | [w0, w1, w2, w3, w4, w5], _ => exact ⟨w0, w1, w2, w3, w4, w5, rfl⟩
  have hw := fun d (hd : d ∈ tables_1) => atoms_spec (ws := Jvm.Cond.code x code maxLocals ret :: tables_1) hat d (List.mem_cons_of_mem _ hd)
  have hfit : Fit s := fun {y c} hc i hi => by
    obtain ⟨ha, rfl⟩ := Array.getElem?_eq_some_iff.mp hc
    have q := List.all_eq_true.mp ((Array.all_eq_true_iff_forall_mem.mp hF) _ (Array.getElem_mem ha)) i (List.mem_range.mpr hi)
    simpa [Array.getElem?_eq_getElem hi] using q
  obtain ⟨hsets, hown0⟩ := atoms_of _ (rest_1_c_eq ▸ (show rest_1_c.before _ s = true from hrest))
  have hr0 := Cond.before_iff.mp hown0
  obtain ⟨i0, ei0⟩ := isL_v g3
  obtain rfl : w0 = (.long i0) := Option.some.inj ei0
  obtain ⟨i1, ei1⟩ := isL_v g5
  obtain rfl : w1 = (.long i1) := Option.some.inj ei1
  obtain ⟨i2, ei2⟩ := isL_v g7
  obtain rfl : w2 = (.long i2) := Option.some.inj ei2
  obtain ⟨i3, ei3⟩ := isL_v g9
  obtain rfl : w3 = (.long i3) := Option.some.inj ei3
  obtain ⟨i4, ei4⟩ := isL_v g11
  obtain rfl : w4 = (.long i4) := Option.some.inj ei4
  obtain ⟨i5, ei5⟩ := is_v g12
  obtain rfl : w5 = (.int i5) := Option.some.inj ei5
  obtain ⟨hn1a, hn1b⟩ := and_e hn
  obtain ⟨hn2a, hn2b⟩ := and_e hn1b
  obtain ⟨hn3a, hn3b⟩ := and_e hn2b
  obtain ⟨hn4a, hn4b⟩ := and_e hn3b
  obtain ⟨s_IDLE, es_IDLE⟩ := exa_v hn1a
  have Ss_IDLE : Sta s s.heap "com/example/unand/unand/model/Lun$Operation" "IDLE" "Lcom/example/unand/unand/model/Lun$Operation;" (.ref s_IDLE) := Sta.start es_IDLE (Or.inr ⟨(hw _ (List.mem_of_getElem? (i := 38) rfl)), (hw _ (List.mem_of_getElem? (i := 39) rfl))⟩)
  have Es_IDLE := Exa.start es_IDLE hn1a
  obtain ⟨s_PROGRAM, es_PROGRAM⟩ := exa_v hn2a
  have Ss_PROGRAM : Sta s s.heap "com/example/unand/unand/model/Lun$Operation" "PROGRAM" "Lcom/example/unand/unand/model/Lun$Operation;" (.ref s_PROGRAM) := Sta.start es_PROGRAM (Or.inr ⟨(hw _ (List.mem_of_getElem? (i := 38) rfl)), (hw _ (List.mem_of_getElem? (i := 80) rfl))⟩)
  have Es_PROGRAM := Exa.start es_PROGRAM hn2a
  obtain ⟨s_RESET, es_RESET⟩ := exa_v hn3a
  have Ss_RESET : Sta s s.heap "com/example/unand/unand/model/Lun$Operation" "RESET" "Lcom/example/unand/unand/model/Lun$Operation;" (.ref s_RESET) := Sta.start es_RESET (Or.inr ⟨(hw _ (List.mem_of_getElem? (i := 38) rfl)), (hw _ (List.mem_of_getElem? (i := 87) rfl))⟩)
  have Es_RESET := Exa.start es_RESET hn3a
  obtain ⟨s_ERASE, es_ERASE⟩ := exa_v hn4a
  have Ss_ERASE : Sta s s.heap "com/example/unand/unand/model/Lun$Operation" "ERASE" "Lcom/example/unand/unand/model/Lun$Operation;" (.ref s_ERASE) := Sta.start es_ERASE (Or.inr ⟨(hw _ (List.mem_of_getElem? (i := 38) rfl)), (hw _ (List.mem_of_getElem? (i := 96) rfl))⟩)
  have Es_ERASE := Exa.start es_ERASE hn4a
  obtain ⟨s_READ, es_READ⟩ := exa_v hn4b
  have Ss_READ : Sta s s.heap "com/example/unand/unand/model/Lun$Operation" "READ" "Lcom/example/unand/unand/model/Lun$Operation;" (.ref s_READ) := Sta.start es_READ (Or.inr ⟨(hw _ (List.mem_of_getElem? (i := 38) rfl)), (hw _ (List.mem_of_getElem? (i := 98) rfl))⟩)
  have Es_READ := Exa.start es_READ hn4b
  obtain ⟨es, ees⟩ := exa_v (Cond.before_iff.mp (hsets _ (List.mem_of_getElem? (i := 2) rfl)))
  have Ses : Sta s s.heap "java/util/ImmutableCollections" "EMPTY_SET" "Ljava/util/ImmutableCollections$SetN;" (.ref es) := Sta.start ees (Or.inl (hsets _ (List.mem_of_getElem? (i := 1) rfl)))
  have Ees := Exa.start ees (Cond.before_iff.mp (hsets _ (List.mem_of_getElem? (i := 2) rfl)))
  obtain ⟨n, o, h1, h2, h3, _, L, rfl, ⟨rfl, N, -⟩, hq⟩ := rm0 l s _ hw tables_1 i0 i1 i2 i3 i4 i5 s_IDLE s_PROGRAM s_RESET s_ERASE s_READ es s.heap s.heap.size (Nat.le_refl _) (Old.start s) Ss_IDLE Es_IDLE Ss_PROGRAM Es_PROGRAM Ss_RESET Es_RESET Ss_ERASE Es_ERASE Ss_READ Es_READ Ses Ees p e ha hc hk s m _ below hf ((Spec.applies_iff_loose hf).mp happ).1 ⟨rfl, State.Warmed39.refl s, rfl⟩ trivial
  refine ⟨n, _, h1, h2, h3, hpost _ _ _ _ _ _ ⟨Cond.after_iff.mpr rfl, Cond.after_iff.mpr (eq_i res_at (Term.int_eval (1)) rfl), trivial⟩ ⟨hq.1, hq.2.1, (hq.2.2.sift fun y hy => Or.inr (N y hy)).mono (by decide) (by decide)⟩⟩
theorem main_1_1 : Claimed_1_1 := comes_1 fun _ _ _ _ _ _ h hF => ⟨h.1, hF⟩
theorem main_1_2 : Claimed_1_2 := comes_1 fun _ _ _ _ _ _ h hF => ⟨h.2.1, hF⟩
end Jvm.Pilot.@@N@@
namespace Jvm.Pilot.@@N@@
open Jvm Jvm.ClassFile Sem Op Lib Jvm.Free Jvm.Stand Jvm.Pilot.@@N@@.Jvm.D
/-! MADE BY PROGRAM (witnessworld.py) out of the Statement's table words and the real class files: 28 classes; the members and pool entries that the words name. The judged class is class 1, her method 2. -/
namespace start1
open Jvm.ClassFile
def u (s : String) : CpInfo := .utf8 (stringToUtf16 s)
/-- a pool by its gaps: so many unusable entries, then the entry; so many at the end -/
def gap : Nat → List CpInfo → List CpInfo
  | 0, r => r
  | n + 1, r => .unusable :: gap n r
def poolList (es : List (Nat × CpInfo)) (last : Nat) : List CpInfo := es.foldr (fun e r => gap e.1 (e.2 :: r)) (gap last [])
def pool (es : List (Nat × CpInfo)) (last : Nat) : Array CpInfo := ⟨poolList es last⟩
def fileOf (pool : Array CpInfo) (this : Nat) (attrs : Array Attribute := #[]) (ms : Array MethodInfo := #[]) (fl : Nat := 33) (sup : Nat := 0) (ifs : Array Nat := #[]) (fds : Array FieldInfo := #[]) : ClassFile where
  minorVersion := 0
  majorVersion := 65
  constantPool := pool
  accessFlags := fl
  thisClass := this
  superClass := sup
  interfaces := ifs
  fields := fds
  methods := ms
  attributes := attrs
def plain (name : String) (sup : Option ClassId) : Class where
  name := name
  kind := .ordinary
  loader := none
  accessFlags := 33
  super := sup
  interfaces := #[]
  cf := none
  fields := #[]
  methods := #[]
  instanceTypes := #[]
  staticTypes := #[]
  resolved := #[]
  callSites := []
  init := .initialized
  statics := none
  mirror := none

def pool0 : Array CpInfo := pool [(5, u "<init>"), (0, u "()V"), (1, .class_ 10), (1, u "java/lang/Object")] 113

def k0c0 : Code := { maxStack := 0, maxLocals := 1, code := object_method_1_code, exceptionTable := #[], attributes := #[] }
def k0m0 : Method := { name := "<init>", desc := "()V", sig := { parameters := [], returnType := none }, accessFlags := 1, code := some k0c0 }
/-- java/lang/Object -/
def k0 : Class := { plain "java/lang/Object" none with
  accessFlags := 33
  interfaces := #[]
  cf := some (fileOf pool0 8 #[] #[{ accessFlags := 1, nameIndex := 5, descriptorIndex := 6, attributes := #[] }] 33 0 #[] #[])
  fields := #[]
  methods := #[k0m0]
  instanceTypes := #[]
  staticTypes := #[]
  resolved := Array.replicate 124 none
  statics := none }

def pool1 : Array CpInfo := pool [(2, .class_ 4), (1, u "java/lang/Object"), (0, u "<init>"), (0, u "()V"), (0, .fieldref 8 9), (0, .class_ 10), (0, .nameAndType 11 12), (0, u "com/example/unand/unand/model/Lun$Operation"), (0, u "IDLE"), (0, u "Lcom/example/unand/unand/model/Lun$Operation;"), (0, .fieldref 8 14), (0, .nameAndType 15 12), (0, u "READ"), (0, .fieldref 8 17), (0, .nameAndType 18 12), (0, u "PROGRAM"), (0, .fieldref 8 20), (0, .nameAndType 21 12), (0, u "ERASE"), (0, .fieldref 8 23), (0, .nameAndType 24 12), (0, u "RESET"), (0, .class_ 26), (0, u "com/example/unand/unand/model/Lun"), (0, .long 2), (1, .interfaceMethodref 30 31), (0, .class_ 32), (0, .nameAndType 33 34), (0, u "java/util/Set"), (0, u "of"), (0, u "()Ljava/util/Set;"), (0, .methodref 25 36), (0, .nameAndType 5 37), (0, u "(IIJLjava/util/Set;)V"), (2, .long 9223372036854775807), (1, .methodref 25 43), (0, .nameAndType 44 45), (0, u "ready"), (0, u "(J)Z"), (0, .methodref 47 48), (0, .class_ 49), (0, .nameAndType 50 51), (0, u "com/example/unand/unand/model/LunReadyPinLaw"), (0, u "op"), (0, u "(I)Lcom/example/unand/unand/model/Lun$Operation;"), (0, .methodref 25 53), (0, .nameAndType 54 55), (0, u "begin"), (0, u "(Lcom/example/unand/unand/model/Lun$Operation;JJ)V"), (0, .long 2305843009213693951), (1, .methodref 25 59), (0, .nameAndType 60 61), (0, u "reset"), (0, u "(JJ)V"), (0, .long 3), (4, u "law"), (0, u "(JJJJJI)Z")] 4

def k1m0 : Method := { name := "<init>", desc := "()V", sig := { parameters := [], returnType := none }, accessFlags := 1, code := none }
def k1c1 : Code := { maxStack := 2, maxLocals := 1, code := method_2_code, exceptionTable := #[], attributes := #[] }
def k1m1 : Method := { name := "op", desc := "(I)Lcom/example/unand/unand/model/Lun$Operation;", sig := { parameters := [.int], returnType := some (.object "com/example/unand/unand/model/Lun$Operation") }, accessFlags := 10, code := some k1c1 }
def k1c2 : Code := { maxStack := 7, maxLocals := 22, code := code, exceptionTable := #[], attributes := #[] }
def k1m2 : Method := { name := "law", desc := "(JJJJJI)Z", sig := { parameters := [.long, .long, .long, .long, .long, .int], returnType := some .boolean }, accessFlags := 9, code := some k1c2 }
/-- com/example/unand/unand/model/LunReadyPinLaw -/
def k1 : Class := { plain "com/example/unand/unand/model/LunReadyPinLaw" (some 0) with
  accessFlags := 49
  interfaces := #[]
  cf := some (fileOf pool1 47 #[] #[{ accessFlags := 1, nameIndex := 5, descriptorIndex := 6, attributes := #[] }, { accessFlags := 10, nameIndex := 50, descriptorIndex := 51, attributes := #[] }, { accessFlags := 9, nameIndex := 67, descriptorIndex := 68, attributes := #[] }] 49 2 #[] #[])
  fields := #[]
  methods := #[k1m0, k1m1, k1m2]
  instanceTypes := #[]
  staticTypes := #[]
  resolved := Array.replicate 73 none
  statics := none }

def pool2 : Array CpInfo := pool [(1, .methodref 2 3), (0, .class_ 4), (0, .nameAndType 5 6), (0, u "java/lang/Object"), (0, u "<init>"), (0, u "()V"), (0, .class_ 8), (0, u "java/util/TreeMap"), (0, .methodref 7 3), (0, .fieldref 11 12), (0, .class_ 13), (0, .nameAndType 14 15), (0, u "com/example/unand/unand/model/Lun"), (0, u "programmed"), (0, u "Ljava/util/NavigableMap;"), (0, .fieldref 17 18), (0, .class_ 19), (0, .nameAndType 20 21), (0, u "com/example/unand/unand/model/Lun$Operation"), (0, u "IDLE"), (0, u "Lcom/example/unand/unand/model/Lun$Operation;"), (0, .fieldref 11 23), (0, .nameAndType 24 21), (0, u "operation"), (0, .fieldref 11 26), (0, .nameAndType 27 28), (0, u "dataBytes"), (0, u "I"), (0, .fieldref 11 30), (0, .nameAndType 31 28), (0, u "pageBytes"), (0, .fieldref 11 33), (0, .nameAndType 34 35), (0, u "lastPage"), (0, u "J"), (0, .interfaceMethodref 37 38), (0, .class_ 39), (0, .nameAndType 40 41), (0, u "java/util/Set"), (0, u "copyOf"), (0, u "(Ljava/util/Collection;)Ljava/util/Set;"), (0, .fieldref 11 43), (0, .nameAndType 44 45), (0, u "factoryBadBlocks"), (0, u "Ljava/util/Set;"), (0, .fieldref 11 47), (0, .nameAndType 48 49), (0, u "pageRegister"), (0, u "[B"), (0, .fieldref 11 51), (0, .nameAndType 52 35), (0, u "readyAt"), (0, .fieldref 17 54), (0, .nameAndType 55 21), (0, u "RESET"), (0, .methodref 11 57), (0, .nameAndType 58 59), (0, u "begin"), (0, u "(Lcom/example/unand/unand/model/Lun$Operation;JJ)V"), (0, .fieldref 11 61), (0, .nameAndType 62 63), (0, u "failed"), (0, u "Z"), (0, .fieldref 11 65), (0, .nameAndType 66 63), (0, u "outputOpen"), (2, u "ready"), (0, u "(J)Z"), (12, u "outputColumn"), (16, .class_ 101), (0, u "com/example/unand/unand/model/Lun$Page"), (115, u "NONE_PROGRAMMED"), (1, u "ERASED"), (0, u "B"), (1, u "FACTORY_MARK"), (1, u "STATUS_RDY"), (1, u "STATUS_ARDY"), (1, u "STATUS_FAIL"), (4, u "(IIJLjava/util/Set;)V"), (3, u "reset"), (0, u "(JJ)V")] 79

def k2c0 : Code := { maxStack := 5, maxLocals := 6, code := prog_38_method_1_code, exceptionTable := #[], attributes := #[] }
def k2m0 : Method := { name := "<init>", desc := "(IIJLjava/util/Set;)V", sig := { parameters := [.int, .int, .long, (.object "java/util/Set")], returnType := none }, accessFlags := 0, code := some k2c0 }
def k2c1 : Code := { maxStack := 5, maxLocals := 6, code := prog_38_method_2_code, exceptionTable := #[], attributes := #[] }
def k2m1 : Method := { name := "begin", desc := "(Lcom/example/unand/unand/model/Lun$Operation;JJ)V", sig := { parameters := [(.object "com/example/unand/unand/model/Lun$Operation"), .long, .long], returnType := none }, accessFlags := 0, code := some k2c1 }
def k2c2 : Code := { maxStack := 6, maxLocals := 5, code := prog_38_method_3_code, exceptionTable := #[], attributes := #[] }
def k2m2 : Method := { name := "reset", desc := "(JJ)V", sig := { parameters := [.long, .long], returnType := none }, accessFlags := 0, code := some k2c2 }
def k2c3 : Code := { maxStack := 4, maxLocals := 3, code := prog_38_method_6_code, exceptionTable := #[], attributes := #[] }
def k2m3 : Method := { name := "ready", desc := "(J)Z", sig := { parameters := [.long], returnType := some .boolean }, accessFlags := 0, code := some k2c3 }
/-- com/example/unand/unand/model/Lun -/
def k2 : Class := { plain "com/example/unand/unand/model/Lun" (some 0) with
  accessFlags := 48
  interfaces := #[]
  cf := some (fileOf pool2 11 #[.nestMembers #[100, 17]] #[{ accessFlags := 0, nameIndex := 5, descriptorIndex := 233, attributes := #[] }, { accessFlags := 0, nameIndex := 58, descriptorIndex := 59, attributes := #[] }, { accessFlags := 0, nameIndex := 237, descriptorIndex := 238, attributes := #[] }, { accessFlags := 0, nameIndex := 69, descriptorIndex := 70, attributes := #[] }] 48 2 #[] #[{ accessFlags := 24, nameIndex := 217, descriptorIndex := 35, attributes := #[] }, { accessFlags := 26, nameIndex := 219, descriptorIndex := 220, attributes := #[] }, { accessFlags := 26, nameIndex := 222, descriptorIndex := 220, attributes := #[] }, { accessFlags := 26, nameIndex := 224, descriptorIndex := 28, attributes := #[] }, { accessFlags := 26, nameIndex := 226, descriptorIndex := 28, attributes := #[] }, { accessFlags := 26, nameIndex := 228, descriptorIndex := 28, attributes := #[] }, { accessFlags := 18, nameIndex := 27, descriptorIndex := 28, attributes := #[] }, { accessFlags := 18, nameIndex := 31, descriptorIndex := 28, attributes := #[] }, { accessFlags := 18, nameIndex := 34, descriptorIndex := 35, attributes := #[] }, { accessFlags := 18, nameIndex := 44, descriptorIndex := 45, attributes := #[] }, { accessFlags := 18, nameIndex := 48, descriptorIndex := 49, attributes := #[] }, { accessFlags := 18, nameIndex := 14, descriptorIndex := 15, attributes := #[] }, { accessFlags := 2, nameIndex := 24, descriptorIndex := 21, attributes := #[] }, { accessFlags := 2, nameIndex := 52, descriptorIndex := 35, attributes := #[] }, { accessFlags := 2, nameIndex := 66, descriptorIndex := 63, attributes := #[] }, { accessFlags := 2, nameIndex := 83, descriptorIndex := 28, attributes := #[] }, { accessFlags := 2, nameIndex := 62, descriptorIndex := 63, attributes := #[] }])
  fields := #[{ name := "NONE_PROGRAMMED", type := .long, accessFlags := 24, slot := 0, constantValue := 0 }, { name := "ERASED", type := .byte, accessFlags := 26, slot := 1, constantValue := 0 }, { name := "FACTORY_MARK", type := .byte, accessFlags := 26, slot := 2, constantValue := 0 }, { name := "STATUS_RDY", type := .int, accessFlags := 26, slot := 3, constantValue := 0 }, { name := "STATUS_ARDY", type := .int, accessFlags := 26, slot := 4, constantValue := 0 }, { name := "STATUS_FAIL", type := .int, accessFlags := 26, slot := 5, constantValue := 0 }, { name := "dataBytes", type := .int, accessFlags := 18, slot := 0, constantValue := 0 }, { name := "pageBytes", type := .int, accessFlags := 18, slot := 1, constantValue := 0 }, { name := "lastPage", type := .long, accessFlags := 18, slot := 2, constantValue := 0 }, { name := "factoryBadBlocks", type := (.object "java/util/Set"), accessFlags := 18, slot := 3, constantValue := 0 }, { name := "pageRegister", type := (.array .byte), accessFlags := 18, slot := 4, constantValue := 0 }, { name := "programmed", type := (.object "java/util/NavigableMap"), accessFlags := 18, slot := 5, constantValue := 0 }, { name := "operation", type := (.object "com/example/unand/unand/model/Lun$Operation"), accessFlags := 2, slot := 6, constantValue := 0 }, { name := "readyAt", type := .long, accessFlags := 2, slot := 7, constantValue := 0 }, { name := "outputOpen", type := .boolean, accessFlags := 2, slot := 8, constantValue := 0 }, { name := "outputColumn", type := .int, accessFlags := 2, slot := 9, constantValue := 0 }, { name := "failed", type := .boolean, accessFlags := 2, slot := 10, constantValue := 0 }]
  methods := #[k2m0, k2m1, k2m2, k2m3]
  instanceTypes := #[.int, .int, .long, (.object "java/util/Set"), (.array .byte), (.object "java/util/NavigableMap"), (.object "com/example/unand/unand/model/Lun$Operation"), .long, .boolean, .int, .boolean]
  staticTypes := #[.long, .byte, .byte, .int, .int, .int]
  resolved := Array.replicate 318 none
  statics := none }

def pool3 : Array CpInfo := pool [(8, .class_ 10), (1, u "java/lang/Iterable"), (24, .class_ 36), (0, u "java/lang/Object")] 25

/-- java/lang/Iterable -/
def k3 : Class := { plain "java/lang/Iterable" (some 0) with
  accessFlags := 1537
  interfaces := #[]
  cf := some (fileOf pool3 8 #[] #[] 1537 35 #[] #[])
  fields := #[]
  methods := #[]
  instanceTypes := #[]
  staticTypes := #[]
  resolved := Array.replicate 62 none
  statics := none }

def pool4 : Array CpInfo := pool [(10, .class_ 12), (1, u "java/util/Collection"), (47, .class_ 61), (0, u "java/lang/Object"), (0, .class_ 63), (0, u "java/lang/Iterable")] 51

/-- java/util/Collection -/
def k4 : Class := { plain "java/util/Collection" (some 0) with
  accessFlags := 1537
  interfaces := #[3]
  cf := some (fileOf pool4 10 #[] #[] 1537 60 #[62] #[])
  fields := #[]
  methods := #[]
  instanceTypes := #[]
  staticTypes := #[]
  resolved := Array.replicate 115 none
  statics := none }

def pool5 : Array CpInfo := pool [(9, .fieldref 10 11), (0, .class_ 12), (0, .nameAndType 13 14), (0, u "java/util/ImmutableCollections"), (0, u "EMPTY_SET"), (0, u "Ljava/util/ImmutableCollections$SetN;"), (11, .class_ 27), (0, u "java/lang/Object"), (3, .class_ 32), (0, u "java/util/ImmutableCollections$AbstractImmutableSet"), (0, .class_ 34), (0, u "java/util/Set"), (1, .class_ 38), (1, u "java/util/Collection"), (4, u "of"), (0, u "()Ljava/util/Set;"), (86, u "copyOf"), (0, u "(Ljava/util/Collection;)Ljava/util/Set;")] 11

def k5c0 : Code := { maxStack := 1, maxLocals := 0, code := jdk_96_method_17_code, exceptionTable := #[], attributes := #[] }
def k5m0 : Method := { name := "of", desc := "()Ljava/util/Set;", sig := { parameters := [], returnType := some (.object "java/util/Set") }, accessFlags := 9, code := some k5c0 }
def k5c1 : Code := { maxStack := 3, maxLocals := 1, code := jdk_96_method_29_code, exceptionTable := #[], attributes := #[] }
def k5m1 : Method := { name := "copyOf", desc := "(Ljava/util/Collection;)Ljava/util/Set;", sig := { parameters := [(.object "java/util/Collection")], returnType := some (.object "java/util/Set") }, accessFlags := 9, code := some k5c1 }
/-- java/util/Set -/
def k5 : Class := { plain "java/util/Set" (some 0) with
  accessFlags := 1537
  interfaces := #[4]
  cf := some (fileOf pool5 33 #[] #[{ accessFlags := 9, nameIndex := 43, descriptorIndex := 44, attributes := #[] }, { accessFlags := 9, nameIndex := 131, descriptorIndex := 132, attributes := #[] }] 1537 26 #[36] #[])
  fields := #[]
  methods := #[k5m0, k5m1]
  instanceTypes := #[]
  staticTypes := #[]
  resolved := Array.replicate 144 none
  statics := none }

def pool6 : Array CpInfo := pool [(2, .class_ 4), (1, u "java/lang/Object"), (0, u "<init>"), (0, u "()V"), (3, .class_ 11), (0, u "java/util/ImmutableCollections$List12"), (0, .class_ 13), (0, u "java/util/ImmutableCollections$ListN"), (3, u "Z"), (29, .class_ 49), (1, u "java/util/ImmutableCollections"), (0, u "$assertionsDisabled"), (5, u "[Ljava/lang/Object;"), (5, u "EMPTY_LIST"), (0, u "Ljava/util/ImmutableCollections$ListN;"), (8, u "EMPTY_LIST_NULLS"), (22, u "SALT32L"), (0, u "J"), (2, u "REVERSE"), (6, u "archivedObjects"), (2, u "EMPTY"), (0, u "Ljava/lang/Object;"), (0, .class_ 112), (0, u "java/util/ImmutableCollections$SetN"), (5, u "EMPTY_SET"), (0, u "Ljava/util/ImmutableCollections$SetN;"), (0, .class_ 121), (0, u "java/util/ImmutableCollections$MapN"), (3, u "EMPTY_MAP"), (0, u "Ljava/util/ImmutableCollections$MapN;"), (4, u "EXPAND_FACTOR"), (0, u "I"), (36, .class_ 170), (0, u "java/util/ImmutableCollections$MapN$MapNIterator"), (0, .class_ 172), (0, u "java/util/ImmutableCollections$MapN$1"), (0, .class_ 174), (0, u "java/util/ImmutableCollections$Map1"), (0, .class_ 176), (0, u "java/util/ImmutableCollections$AbstractImmutableMap"), (0, .class_ 178), (0, u "java/util/ImmutableCollections$SetN$SetNIterator"), (0, .class_ 180), (0, u "java/util/ImmutableCollections$Set12"), (0, .class_ 182), (0, u "java/util/ImmutableCollections$Set12$1"), (0, .class_ 184), (0, u "java/util/ImmutableCollections$AbstractImmutableSet"), (0, .class_ 186), (0, u "java/util/ImmutableCollections$SubList"), (0, .class_ 188), (0, u "java/util/ImmutableCollections$ListItr"), (0, .class_ 190), (0, u "java/util/ImmutableCollections$AbstractImmutableList"), (0, .class_ 192), (0, u "java/util/ImmutableCollections$AbstractImmutableCollection"), (0, .class_ 194), (0, u "java/util/ImmutableCollections$Access"), (0, .class_ 196), (0, u "java/util/ImmutableCollections$Access$1")] 16

def k6m0 : Method := { name := "<init>", desc := "()V", sig := { parameters := [], returnType := none }, accessFlags := 2, code := none }
/-- java/util/ImmutableCollections -/
def k6 : Class := { plain "java/util/ImmutableCollections" (some 0) with
  accessFlags := 32
  interfaces := #[]
  cf := some (fileOf pool6 47 #[.nestMembers #[120, 169, 171, 173, 175, 111, 177, 179, 181, 183, 12, 10, 185, 187, 189, 191, 193, 195]] #[{ accessFlags := 2, nameIndex := 5, descriptorIndex := 6, attributes := #[] }] 32 2 #[] #[{ accessFlags := 26, nameIndex := 95, descriptorIndex := 96, attributes := #[] }, { accessFlags := 26, nameIndex := 99, descriptorIndex := 17, attributes := #[] }, { accessFlags := 10, nameIndex := 106, descriptorIndex := 56, attributes := #[] }, { accessFlags := 26, nameIndex := 109, descriptorIndex := 110, attributes := #[] }, { accessFlags := 24, nameIndex := 62, descriptorIndex := 63, attributes := #[] }, { accessFlags := 24, nameIndex := 72, descriptorIndex := 63, attributes := #[] }, { accessFlags := 24, nameIndex := 118, descriptorIndex := 119, attributes := #[] }, { accessFlags := 24, nameIndex := 125, descriptorIndex := 126, attributes := #[] }, { accessFlags := 24, nameIndex := 131, descriptorIndex := 132, attributes := #[] }, { accessFlags := 4120, nameIndex := 50, descriptorIndex := 17, attributes := #[] }])
  fields := #[{ name := "SALT32L", type := .long, accessFlags := 26, slot := 0, constantValue := 0 }, { name := "REVERSE", type := .boolean, accessFlags := 26, slot := 1, constantValue := 0 }, { name := "archivedObjects", type := (.array (.object "java/lang/Object")), accessFlags := 10, slot := 2, constantValue := 0 }, { name := "EMPTY", type := (.object "java/lang/Object"), accessFlags := 26, slot := 3, constantValue := 0 }, { name := "EMPTY_LIST", type := (.object "java/util/ImmutableCollections$ListN"), accessFlags := 24, slot := 4, constantValue := 0 }, { name := "EMPTY_LIST_NULLS", type := (.object "java/util/ImmutableCollections$ListN"), accessFlags := 24, slot := 5, constantValue := 0 }, { name := "EMPTY_SET", type := (.object "java/util/ImmutableCollections$SetN"), accessFlags := 24, slot := 6, constantValue := 0 }, { name := "EMPTY_MAP", type := (.object "java/util/ImmutableCollections$MapN"), accessFlags := 24, slot := 7, constantValue := 0 }, { name := "EXPAND_FACTOR", type := .int, accessFlags := 24, slot := 8, constantValue := 0 }, { name := "$assertionsDisabled", type := .boolean, accessFlags := 4120, slot := 9, constantValue := 0 }]
  methods := #[k6m0]
  instanceTypes := #[]
  staticTypes := #[.long, .boolean, (.array (.object "java/lang/Object")), (.object "java/lang/Object"), (.object "java/util/ImmutableCollections$ListN"), (.object "java/util/ImmutableCollections$ListN"), (.object "java/util/ImmutableCollections$SetN"), (.object "java/util/ImmutableCollections$MapN"), .int, .boolean]
  resolved := Array.replicate 213 none
  statics := some 0 }

def pool7 : Array CpInfo := pool [(2, .class_ 4), (1, u "java/util/Map"), (31, .class_ 37), (0, u "java/util/Map$Entry"), (55, .class_ 94), (0, u "java/lang/Object")] 168

/-- java/util/Map -/
def k7 : Class := { plain "java/util/Map" (some 0) with
  accessFlags := 1537
  interfaces := #[]
  cf := some (fileOf pool7 2 #[.nestMembers #[36]] #[] 1537 93 #[] #[])
  fields := #[]
  methods := #[]
  instanceTypes := #[]
  staticTypes := #[]
  resolved := Array.replicate 263 none
  statics := none }

def pool8 : Array CpInfo := pool [(1, .methodref 2 3), (0, .class_ 4), (0, .nameAndType 5 6), (0, u "java/lang/Object"), (0, u "<init>"), (0, u "()V"), (1, .class_ 10), (1, u "java/util/AbstractMap"), (42, .class_ 54), (0, u "java/util/Map"), (9, u "keySet"), (0, u "Ljava/util/Set;"), (0, .class_ 67), (0, u "java/util/AbstractMap$1"), (5, u "values"), (0, u "Ljava/util/Collection;"), (0, .class_ 76), (0, u "java/util/AbstractMap$2"), (104, .class_ 182), (0, u "java/util/AbstractMap$ViewCollection"), (0, .class_ 184), (0, u "java/util/AbstractMap$SimpleImmutableEntry"), (0, .class_ 186), (0, u "java/util/AbstractMap$SimpleEntry"), (0, .class_ 188), (0, u "java/util/AbstractMap$2$1"), (0, .class_ 190), (0, u "java/util/AbstractMap$1$1")] 5

def k8c0 : Code := { maxStack := 1, maxLocals := 1, code := jdk_71_method_1_code, exceptionTable := #[], attributes := #[] }
def k8m0 : Method := { name := "<init>", desc := "()V", sig := { parameters := [], returnType := none }, accessFlags := 4, code := some k8c0 }
/-- java/util/AbstractMap -/
def k8 : Class := { plain "java/util/AbstractMap" (some 0) with
  accessFlags := 1057
  interfaces := #[7]
  cf := some (fileOf pool8 8 #[.nestMembers #[181, 183, 185, 75, 187, 66, 189]] #[{ accessFlags := 4, nameIndex := 5, descriptorIndex := 6, attributes := #[] }] 1057 2 #[53] #[{ accessFlags := 128, nameIndex := 64, descriptorIndex := 65, attributes := #[] }, { accessFlags := 128, nameIndex := 73, descriptorIndex := 74, attributes := #[] }])
  fields := #[{ name := "keySet", type := (.object "java/util/Set"), accessFlags := 128, slot := 0, constantValue := 0 }, { name := "values", type := (.object "java/util/Collection"), accessFlags := 128, slot := 1, constantValue := 0 }]
  methods := #[k8m0]
  instanceTypes := #[(.object "java/util/Set"), (.object "java/util/Collection")]
  staticTypes := #[]
  resolved := Array.replicate 196 none
  statics := none }

def pool9 : Array CpInfo := pool [(2, .class_ 4), (1, u "java/util/SequencedMap"), (38, .class_ 44), (0, u "java/util/SequencedMap$1SeqKeySet"), (3, .class_ 49), (0, u "java/util/SequencedMap$1SeqValues"), (1, .class_ 52), (0, u "java/util/SequencedMap$1SeqEntrySet"), (1, .class_ 55), (0, u "java/lang/Object"), (0, .class_ 57), (0, u "java/util/Map")] 48

/-- java/util/SequencedMap -/
def k9 : Class := { plain "java/util/SequencedMap" (some 0) with
  accessFlags := 1537
  interfaces := #[7]
  cf := some (fileOf pool9 2 #[.nestMembers #[51, 48, 43]] #[] 1537 54 #[56] #[])
  fields := #[]
  methods := #[]
  instanceTypes := #[]
  staticTypes := #[]
  resolved := Array.replicate 106 none
  statics := none }

def pool10 : Array CpInfo := pool [(14, .class_ 16), (1, u "java/util/SortedMap"), (2, .class_ 20), (0, u "java/lang/Object"), (0, .class_ 22), (0, u "java/util/SequencedMap")] 50

/-- java/util/SortedMap -/
def k10 : Class := { plain "java/util/SortedMap" (some 0) with
  accessFlags := 1537
  interfaces := #[9]
  cf := some (fileOf pool10 14 #[] #[] 1537 19 #[21] #[])
  fields := #[]
  methods := #[]
  instanceTypes := #[]
  staticTypes := #[]
  resolved := Array.replicate 73 none
  statics := none }

def pool11 : Array CpInfo := pool [(2, .class_ 4), (1, u "java/util/NavigableMap"), (5, .class_ 11), (0, u "java/lang/Object"), (0, .class_ 13), (0, u "java/util/SortedMap")] 53

/-- java/util/NavigableMap -/
def k11 : Class := { plain "java/util/NavigableMap" (some 0) with
  accessFlags := 1537
  interfaces := #[10]
  cf := some (fileOf pool11 2 #[] #[] 1537 10 #[12] #[])
  fields := #[]
  methods := #[]
  instanceTypes := #[]
  staticTypes := #[]
  resolved := Array.replicate 67 none
  statics := none }

def pool12 : Array CpInfo := pool [(1, .class_ 2), (0, u "java/lang/Cloneable"), (0, .class_ 4), (0, u "java/lang/Object")] 2

/-- java/lang/Cloneable -/
def k12 : Class := { plain "java/lang/Cloneable" (some 0) with
  accessFlags := 1537
  interfaces := #[]
  cf := some (fileOf pool12 1 #[] #[] 1537 3 #[] #[])
  fields := #[]
  methods := #[]
  instanceTypes := #[]
  staticTypes := #[]
  resolved := Array.replicate 7 none
  statics := none }

def pool13 : Array CpInfo := pool [(1, .class_ 2), (0, u "java/io/Serializable"), (0, .class_ 4), (0, u "java/lang/Object")] 2

/-- java/io/Serializable -/
def k13 : Class := { plain "java/io/Serializable" (some 0) with
  accessFlags := 1537
  interfaces := #[]
  cf := some (fileOf pool13 1 #[] #[] 1537 3 #[] #[])
  fields := #[]
  methods := #[]
  instanceTypes := #[]
  staticTypes := #[]
  resolved := Array.replicate 7 none
  statics := none }

def pool14 : Array CpInfo := pool [(1, .methodref 2 3), (0, .class_ 4), (0, .nameAndType 5 6), (0, u "java/util/AbstractMap"), (0, u "<init>"), (0, u "()V"), (0, .fieldref 8 9), (0, .class_ 10), (0, .nameAndType 11 12), (0, u "java/util/TreeMap"), (0, u "size"), (0, u "I"), (0, .fieldref 8 14), (0, .nameAndType 15 12), (0, u "modCount"), (0, .fieldref 8 17), (0, .nameAndType 18 19), (0, u "comparator"), (0, u "Ljava/util/Comparator;"), (14, u "entrySet"), (24, .class_ 61), (1, u "java/util/TreeMap$Entry"), (1, u "Ljava/lang/Object;"), (39, u "root"), (0, u "Ljava/util/TreeMap$Entry;"), (85, u "Ljava/util/TreeMap$EntrySet;"), (2, u "navigableKeySet"), (0, u "Ljava/util/TreeMap$KeySet;"), (2, u "descendingMap"), (0, u "Ljava/util/NavigableMap;"), (23, .class_ 223), (0, u "java/util/TreeMap$KeySet"), (7, .class_ 232), (0, u "java/util/NavigableMap"), (4, .class_ 238), (0, u "java/util/TreeMap$Values"), (3, .class_ 243), (0, u "java/util/TreeMap$EntrySet"), (1, .class_ 246), (0, u "java/util/TreeMap$DescendingSubMap"), (3, .class_ 251), (0, u "java/util/TreeMap$AscendingSubMap"), (17, .class_ 270), (0, u "java/util/TreeMap$KeyIterator"), (3, .class_ 275), (0, u "java/util/TreeMap$DescendingKeyIterator"), (17, u "Z"), (94, .class_ 389), (0, u "java/util/TreeMap$NavigableSubMap"), (1, .class_ 392), (0, u "java/util/TreeMap$KeySpliterator"), (3, .class_ 397), (0, u "java/util/TreeMap$DescendingKeySpliterator"), (4, u "UNBOUNDED"), (0, .class_ 404), (0, u "java/lang/Cloneable"), (0, .class_ 406), (0, u "java/io/Serializable"), (6, u "RED"), (2, u "BLACK"), (1, u "serialVersionUID"), (0, u "J"), (214, .class_ 635), (0, u "java/util/TreeMap$EntrySpliterator"), (0, .class_ 637), (0, u "java/util/TreeMap$ValueSpliterator"), (0, .class_ 639), (0, u "java/util/TreeMap$TreeMapSpliterator"), (0, .class_ 641), (0, u "java/util/TreeMap$SubMap"), (0, .class_ 643), (0, u "java/util/TreeMap$DescendingSubMap$DescendingEntrySetView"), (0, .class_ 645), (0, u "java/util/TreeMap$AscendingSubMap$AscendingEntrySetView"), (0, .class_ 647), (0, u "java/util/TreeMap$NavigableSubMap$DescendingSubMapKeyIterator"), (0, .class_ 649), (0, u "java/util/TreeMap$NavigableSubMap$SubMapKeyIterator"), (0, .class_ 651), (0, u "java/util/TreeMap$NavigableSubMap$DescendingSubMapEntryIterator"), (0, .class_ 653), (0, u "java/util/TreeMap$NavigableSubMap$SubMapEntryIterator"), (0, .class_ 655), (0, u "java/util/TreeMap$NavigableSubMap$SubMapIterator"), (0, .class_ 657), (0, u "java/util/TreeMap$NavigableSubMap$EntrySetView"), (0, .class_ 659), (0, u "java/util/TreeMap$ValueIterator"), (0, .class_ 661), (0, u "java/util/TreeMap$EntryIterator"), (0, .class_ 663), (0, u "java/util/TreeMap$PrivateEntryIterator")] 28

def k14c0 : Code := { maxStack := 2, maxLocals := 1, code := jdk_2729_method_1_code, exceptionTable := #[], attributes := #[] }
def k14m0 : Method := { name := "<init>", desc := "()V", sig := { parameters := [], returnType := none }, accessFlags := 1, code := some k14c0 }
/-- java/util/TreeMap -/
def k14 : Class := { plain "java/util/TreeMap" (some 8) with
  accessFlags := 33
  interfaces := #[11, 12, 13]
  cf := some (fileOf pool14 8 #[.nestMembers #[634, 636, 396, 391, 638, 59, 640, 245, 642, 250, 644, 388, 646, 648, 650, 652, 654, 656, 274, 269, 658, 660, 662, 222, 242, 237]] #[{ accessFlags := 1, nameIndex := 5, descriptorIndex := 6, attributes := #[] }] 33 2 #[231, 403, 405] #[{ accessFlags := 18, nameIndex := 18, descriptorIndex := 19, attributes := #[] }, { accessFlags := 130, nameIndex := 103, descriptorIndex := 104, attributes := #[] }, { accessFlags := 130, nameIndex := 11, descriptorIndex := 12, attributes := #[] }, { accessFlags := 130, nameIndex := 15, descriptorIndex := 12, attributes := #[] }, { accessFlags := 130, nameIndex := 34, descriptorIndex := 190, attributes := #[] }, { accessFlags := 130, nameIndex := 193, descriptorIndex := 194, attributes := #[] }, { accessFlags := 130, nameIndex := 197, descriptorIndex := 198, attributes := #[] }, { accessFlags := 26, nameIndex := 402, descriptorIndex := 63, attributes := #[] }, { accessFlags := 26, nameIndex := 413, descriptorIndex := 293, attributes := #[] }, { accessFlags := 26, nameIndex := 416, descriptorIndex := 293, attributes := #[] }, { accessFlags := 26, nameIndex := 418, descriptorIndex := 419, attributes := #[] }])
  fields := #[{ name := "comparator", type := (.object "java/util/Comparator"), accessFlags := 18, slot := 2, constantValue := 0 }, { name := "root", type := (.object "java/util/TreeMap$Entry"), accessFlags := 130, slot := 3, constantValue := 0 }, { name := "size", type := .int, accessFlags := 130, slot := 4, constantValue := 0 }, { name := "modCount", type := .int, accessFlags := 130, slot := 5, constantValue := 0 }, { name := "entrySet", type := (.object "java/util/TreeMap$EntrySet"), accessFlags := 130, slot := 6, constantValue := 0 }, { name := "navigableKeySet", type := (.object "java/util/TreeMap$KeySet"), accessFlags := 130, slot := 7, constantValue := 0 }, { name := "descendingMap", type := (.object "java/util/NavigableMap"), accessFlags := 130, slot := 8, constantValue := 0 }, { name := "UNBOUNDED", type := (.object "java/lang/Object"), accessFlags := 26, slot := 0, constantValue := 0 }, { name := "RED", type := .boolean, accessFlags := 26, slot := 1, constantValue := 0 }, { name := "BLACK", type := .boolean, accessFlags := 26, slot := 2, constantValue := 0 }, { name := "serialVersionUID", type := .long, accessFlags := 26, slot := 3, constantValue := 0 }]
  methods := #[k14m0]
  instanceTypes := #[(.object "java/util/Set"), (.object "java/util/Collection"), (.object "java/util/Comparator"), (.object "java/util/TreeMap$Entry"), .int, .int, (.object "java/util/TreeMap$EntrySet"), (.object "java/util/TreeMap$KeySet"), (.object "java/util/NavigableMap")]
  staticTypes := #[(.object "java/lang/Object"), .boolean, .boolean, .long]
  resolved := Array.replicate 692 none
  statics := none }

def pool15 : Array CpInfo := pool [(1, .class_ 2), (0, u "java/lang/constant/Constable"), (0, .class_ 4), (0, u "java/lang/Object")] 6

/-- java/lang/constant/Constable -/
def k15 : Class := { plain "java/lang/constant/Constable" (some 0) with
  accessFlags := 1537
  interfaces := #[]
  cf := some (fileOf pool15 1 #[] #[] 1537 3 #[] #[])
  fields := #[]
  methods := #[]
  instanceTypes := #[]
  staticTypes := #[]
  resolved := Array.replicate 11 none
  statics := none }

def pool16 : Array CpInfo := pool [(1, .class_ 2), (0, u "java/lang/Comparable"), (0, .class_ 4), (0, u "java/lang/Object")] 7

/-- java/lang/Comparable -/
def k16 : Class := { plain "java/lang/Comparable" (some 0) with
  accessFlags := 1537
  interfaces := #[]
  cf := some (fileOf pool16 1 #[] #[] 1537 3 #[] #[])
  fields := #[]
  methods := #[]
  instanceTypes := #[]
  staticTypes := #[]
  resolved := Array.replicate 12 none
  statics := none }

def pool17 : Array CpInfo := pool [(2, .class_ 4), (1, u "java/lang/Enum"), (0, u "name"), (0, u "Ljava/lang/String;"), (2, u "ordinal"), (0, u "I"), (1, .class_ 14), (1, u "java/lang/Object"), (4, u "hash"), (86, .class_ 108), (1, u "java/lang/Enum$EnumDesc"), (2, .class_ 112), (0, u "java/lang/constant/Constable"), (0, .class_ 114), (0, u "java/lang/Comparable"), (0, .class_ 116), (0, u "java/io/Serializable")] 87

/-- java/lang/Enum -/
def k17 : Class := { plain "java/lang/Enum" (some 0) with
  accessFlags := 1057
  interfaces := #[15, 16, 13]
  cf := some (fileOf pool17 2 #[.nestMembers #[106]] #[] 1057 12 #[111, 113, 115] #[{ accessFlags := 18, nameIndex := 5, descriptorIndex := 6, attributes := #[] }, { accessFlags := 18, nameIndex := 9, descriptorIndex := 10, attributes := #[] }, { accessFlags := 2, nameIndex := 19, descriptorIndex := 10, attributes := #[] }])
  fields := #[{ name := "name", type := (.object "java/lang/String"), accessFlags := 18, slot := 0, constantValue := 0 }, { name := "ordinal", type := .int, accessFlags := 18, slot := 1, constantValue := 0 }, { name := "hash", type := .int, accessFlags := 2, slot := 2, constantValue := 0 }]
  methods := #[]
  instanceTypes := #[(.object "java/lang/String"), .int, .int]
  staticTypes := #[]
  resolved := Array.replicate 204 none
  statics := none }

def pool18 : Array CpInfo := pool [(1, .class_ 2), (0, u "com/example/unand/unand/model/Lun$Operation"), (2, u "IDLE"), (0, u "Lcom/example/unand/unand/model/Lun$Operation;"), (2, u "READ"), (2, u "PROGRAM"), (2, u "ERASE"), (2, u "RESET"), (2, u "$VALUES"), (0, u "[Lcom/example/unand/unand/model/Lun$Operation;"), (6, .class_ 31), (1, u "java/lang/Enum"), (8, u "resetNanoseconds"), (0, u "J"), (32, .class_ 75), (0, u "com/example/unand/unand/model/Lun")] 2

/-- com/example/unand/unand/model/Lun$Operation -/
def k18 : Class := { plain "com/example/unand/unand/model/Lun$Operation" (some 17) with
  accessFlags := 16432
  interfaces := #[]
  cf := some (fileOf pool18 1 #[.nestHost 74] #[] 16432 29 #[] #[{ accessFlags := 16409, nameIndex := 5, descriptorIndex := 6, attributes := #[] }, { accessFlags := 16409, nameIndex := 9, descriptorIndex := 6, attributes := #[] }, { accessFlags := 16409, nameIndex := 12, descriptorIndex := 6, attributes := #[] }, { accessFlags := 16409, nameIndex := 15, descriptorIndex := 6, attributes := #[] }, { accessFlags := 16409, nameIndex := 18, descriptorIndex := 6, attributes := #[] }, { accessFlags := 18, nameIndex := 40, descriptorIndex := 41, attributes := #[] }, { accessFlags := 4122, nameIndex := 21, descriptorIndex := 22, attributes := #[] }])
  fields := #[{ name := "IDLE", type := (.object "com/example/unand/unand/model/Lun$Operation"), accessFlags := 16409, slot := 0, constantValue := 0 }, { name := "READ", type := (.object "com/example/unand/unand/model/Lun$Operation"), accessFlags := 16409, slot := 1, constantValue := 0 }, { name := "PROGRAM", type := (.object "com/example/unand/unand/model/Lun$Operation"), accessFlags := 16409, slot := 2, constantValue := 0 }, { name := "ERASE", type := (.object "com/example/unand/unand/model/Lun$Operation"), accessFlags := 16409, slot := 3, constantValue := 0 }, { name := "RESET", type := (.object "com/example/unand/unand/model/Lun$Operation"), accessFlags := 16409, slot := 4, constantValue := 0 }, { name := "resetNanoseconds", type := .long, accessFlags := 18, slot := 3, constantValue := 0 }, { name := "$VALUES", type := (.array (.object "com/example/unand/unand/model/Lun$Operation")), accessFlags := 4122, slot := 5, constantValue := 0 }]
  methods := #[]
  instanceTypes := #[(.object "java/lang/String"), .int, .int, .long]
  staticTypes := #[(.object "com/example/unand/unand/model/Lun$Operation"), (.object "com/example/unand/unand/model/Lun$Operation"), (.object "com/example/unand/unand/model/Lun$Operation"), (.object "com/example/unand/unand/model/Lun$Operation"), (.object "com/example/unand/unand/model/Lun$Operation"), (.array (.object "com/example/unand/unand/model/Lun$Operation"))]
  resolved := Array.replicate 78 none
  statics := some 1 }

def pool19 : Array CpInfo := pool [(2, .class_ 4), (1, u "java/lang/Object"), (0, u "<init>"), (0, u "()V"), (1, .class_ 10), (1, u "java/util/AbstractCollection"), (66, .class_ 78), (0, u "java/util/Collection")] 81

def k19m0 : Method := { name := "<init>", desc := "()V", sig := { parameters := [], returnType := none }, accessFlags := 4, code := none }
/-- java/util/AbstractCollection -/
def k19 : Class := { plain "java/util/AbstractCollection" (some 0) with
  accessFlags := 1057
  interfaces := #[4]
  cf := some (fileOf pool19 8 #[] #[{ accessFlags := 4, nameIndex := 5, descriptorIndex := 6, attributes := #[] }] 1057 2 #[77] #[])
  fields := #[]
  methods := #[k19m0]
  instanceTypes := #[]
  staticTypes := #[]
  resolved := Array.replicate 160 none
  statics := none }

def pool20 : Array CpInfo := pool [(2, .class_ 4), (1, u "java/util/AbstractCollection"), (0, u "<init>"), (0, u "()V"), (1, .class_ 10), (1, u "java/util/ImmutableCollections"), (2, .class_ 14), (0, u "java/util/ImmutableCollections$AbstractImmutableCollection")] 41

def k20m0 : Method := { name := "<init>", desc := "()V", sig := { parameters := [], returnType := none }, accessFlags := 0, code := none }
/-- java/util/ImmutableCollections$AbstractImmutableCollection -/
def k20 : Class := { plain "java/util/ImmutableCollections$AbstractImmutableCollection" (some 19) with
  accessFlags := 1056
  interfaces := #[]
  cf := some (fileOf pool20 13 #[.nestHost 8] #[{ accessFlags := 0, nameIndex := 5, descriptorIndex := 6, attributes := #[] }] 1056 2 #[] #[])
  fields := #[]
  methods := #[k20m0]
  instanceTypes := #[]
  staticTypes := #[]
  resolved := Array.replicate 56 none
  statics := none }

def pool21 : Array CpInfo := pool [(2, .class_ 4), (1, u "java/util/ImmutableCollections$AbstractImmutableCollection"), (0, u "<init>"), (0, u "()V"), (0, .class_ 8), (0, u "java/util/Set"), (7, .class_ 17), (0, u "java/util/ImmutableCollections$AbstractImmutableSet"), (43, .class_ 62), (0, u "java/util/ImmutableCollections")] 3

def k21m0 : Method := { name := "<init>", desc := "()V", sig := { parameters := [], returnType := none }, accessFlags := 0, code := none }
/-- java/util/ImmutableCollections$AbstractImmutableSet -/
def k21 : Class := { plain "java/util/ImmutableCollections$AbstractImmutableSet" (some 20) with
  accessFlags := 1056
  interfaces := #[5]
  cf := some (fileOf pool21 16 #[.nestHost 61] #[{ accessFlags := 0, nameIndex := 5, descriptorIndex := 6, attributes := #[] }] 1056 2 #[7] #[])
  fields := #[]
  methods := #[k21m0]
  instanceTypes := #[]
  staticTypes := #[]
  resolved := Array.replicate 66 none
  statics := none }

def pool22 : Array CpInfo := pool [(1, .class_ 2), (0, u "java/util/ImmutableCollections"), (1, .class_ 6), (1, u "java/util/ImmutableCollections$AbstractImmutableSet"), (3, .class_ 12), (1, u "java/util/ImmutableCollections$SetN"), (0, u "size"), (0, u "I"), (4, u "elements"), (0, u "[Ljava/lang/Object;"), (86, .class_ 108), (0, u "java/io/Serializable")] 59

/-- java/util/ImmutableCollections$SetN -/
def k22 : Class := { plain "java/util/ImmutableCollections$SetN" (some 21) with
  accessFlags := 48
  interfaces := #[13]
  cf := some (fileOf pool22 10 #[.nestHost 1] #[] 48 4 #[107] #[{ accessFlags := 16, nameIndex := 19, descriptorIndex := 20, attributes := #[] }, { accessFlags := 16, nameIndex := 13, descriptorIndex := 14, attributes := #[] }])
  fields := #[{ name := "elements", type := (.array (.object "java/lang/Object")), accessFlags := 16, slot := 0, constantValue := 0 }, { name := "size", type := .int, accessFlags := 16, slot := 1, constantValue := 0 }]
  methods := #[]
  instanceTypes := #[(.array (.object "java/lang/Object")), .int]
  staticTypes := #[]
  resolved := Array.replicate 168 none
  statics := none }

/-- the primitive byte -/
def k23 : Class := { plain "byte" none with kind := .primitive 'B', accessFlags := 0x411 }
/-- [B -/
def k24 : Class := { plain "[B" (some 0) with kind := .array 23 .byte, interfaces := #[12, 13], accessFlags := 1041 }

/-- the primitive int -/
def k25 : Class := { plain "int" none with kind := .primitive 'I', accessFlags := 0x411 }
/-- [I -/
def k26 : Class := { plain "[I" (some 0) with kind := .array 25 .int, interfaces := #[12, 13], accessFlags := 1041 }

/-- [Ljava/lang/Object; -/
def k27 : Class := { plain "[Ljava/lang/Object;" (some 0) with kind := .array 0 (.object "java/lang/Object"), interfaces := #[12, 13], accessFlags := 1041 }

def heap : Heap := #[{ cls := 6, slots := #[.long 0, .int 0, .null, .null, .null, .null, .ref 8, .null, .int 0, .int 0], vm := .statics 6 },
  { cls := 18, slots := #[.ref 3, .ref 4, .ref 5, .ref 6, .ref 7, .null], vm := .statics 18 },
  { cls := 27, slots := #[], vm := .none },
  { cls := 18, slots := #[.null, .int 0, .int 0, .long 0], vm := .none },
  { cls := 18, slots := #[.null, .int 1, .int 0, .long 0], vm := .none },
  { cls := 18, slots := #[.null, .int 2, .int 0, .long 0], vm := .none },
  { cls := 18, slots := #[.null, .int 3, .int 0, .long 0], vm := .none },
  { cls := 18, slots := #[.null, .int 4, .int 0, .long 0], vm := .none },
  { cls := 22, slots := #[.ref 2, .int 0], vm := .none }]
def classes : Array Class := #[k0, k1, k2, k3, k4, k5, k6, k7, k8, k9, k10, k11, k12, k13, k14, k15, k16, k17, k18, k19, k20, k21, k22, k23, k24, k25, k26, k27]
def interned : List (Array UInt16 × Addr) := []
def slotsUsed : Nat := 38
def theMethod : MethodId := ⟨1, 2⟩
def args0 : Array Value := #[.long 1, .long 2, .long 3, .long 4, .long 5, .int 6]
def aboutOver (below : List Frame) : State where
  vm := { classes := classes, interned := interned.toArray }
  heap := heap
  slotsUsed := slotsUsed
  threads := #[{ frames := .invoking theMethod args0 :: below }]
def below0 : List Frame := [.native { method := ⟨0, 0⟩, args := #[] }]
def about1 : State := aboutOver below0
def p0 : Program := .bare "" "" ""
def e0 : Env := launch0.env 0 0 0
theorem w_frames : about1.frames = Frame.invoking theMethod args0 :: below0 := rfl
set_option maxRecDepth 65536 in
theorem w_args : argsFit about1.vm theMethod args0 = true := by decide +kernel
set_option maxRecDepth 65536 in
theorem w_heap : heapFits about1 = true := by decide +kernel
set_option maxRecDepth 65536 in
theorem w_runnable : about1.curStatus? = some .runnable := by decide +kernel
set_option maxRecDepth 65536 in
theorem w_alone : about1.alone = true := by decide +kernel
set_option maxRecDepth 65536 in
theorem w_named : about1.methodNamed? x = some theMethod := by decide +kernel
set_option maxRecDepth 65536 in
theorem w_hears : about1.hears theMethod below0 = true := by decide +kernel
set_option maxRecDepth 65536 in
theorem w_ripe : about1.ripe theMethod args0 below0 = true := by decide +kernel
theorem w_running : about1.status = .running := rfl
set_option maxRecDepth 65536 in
theorem w_room : about1.hasRoom e0.platform room_1 = true :=
  launch0.hasRoom_least _ room_1 (by decide +kernel) (by decide +kernel) (by decide +kernel) (by decide +kernel) (by decide +kernel) (by decide +kernel)
theorem allAtoms_all (ts : List Jvm.Cond) (a : Array Jvm.Value) (st : Jvm.State) : (allAtoms ts).before a st = ts.all (fun c => c.before a st) := by
  induction ts with
  | nil => rfl
  | cons c t ih =>
    show (Jvm.Cond.and c (allAtoms t)).before a st = _
    rw [Jvm.Cond.before_and, ih, List.all_cons]
def words1 : List Jvm.Cond := Jvm.Cond.code x code maxLocals ret :: tables_1
/-- a 'code' word, met by the world's own term for the bytes: nothing is compared byte by byte -/
theorem code_word {y : MethodName} {bytes : ByteArray} {mx : Nat} {rt : Option FieldType} {a : Array Value} {s : State} {m : MethodId} {meth : Method} {c : Code} (h1 : s.methodNamed? y = some m) (h2 : s.vm.method? m = some meth) (h3 : meth.code = some c) (h4 : c.code = bytes)
    (h5 : (c.maxLocals == mx && c.exceptionTable.isEmpty && decide (c.maxStack ≤ mostOperands) && decide (meth.sig.returnType = rt) && !meth.locks && decide (parseMethodDescriptor y.desc = some meth.sig)) = true) : (Jvm.Cond.code y bytes mx rt).before a s = true := by
  simp only [Bool.and_eq_true, beq_iff_eq, Bool.not_eq_true', decide_eq_true_eq] at h5
  obtain ⟨⟨⟨⟨⟨g1, g2⟩, g3⟩, g4⟩, g5⟩, g6⟩ := h5
  simp [Cond.before, Cond.holds, Cond.value, h1, h2, h3, h4, g1, g2, g3, g4, g5, g6]
def isCode : Jvm.Cond → Bool
  | .code _ _ _ _ => true
  | _ => false
theorem all_split {L : List Jvm.Cond} {P : Jvm.Cond → Bool} (h1 : L.all (fun c => isCode c || P c) = true) (h2 : ∀ c ∈ L.filter isCode, P c = true) : L.all P = true := by
  refine List.all_eq_true.mpr fun c hc => ?_
  have h := List.all_eq_true.mp h1 c hc
  rcases Bool.eq_false_or_eq_true (isCode c) with hi | hi
  · exact h2 c (List.mem_filter.mpr ⟨hc, hi⟩)
  · simpa [hi] using h
set_option maxRecDepth 65536 in
theorem w_c0 : (Jvm.Cond.code x code maxLocals ret).before args0 about1 = true := code_word (m := ⟨1, 2⟩) (meth := k1m2) (c := k1c2) (by decide +kernel) rfl rfl rfl (by decide +kernel)
set_option maxRecDepth 65536 in
theorem w_c1 : (Jvm.Cond.code ({ cls := "java/util/Set", name := "of", desc := "()Ljava/util/Set;" } : Jvm.MethodName) jdk_96_method_17_code (0 : Nat) (Option.some (Jvm.ClassFile.FieldType.object "java/util/Set"))).before args0 about1 = true := code_word (m := ⟨5, 0⟩) (meth := k5m0) (c := k5c0) (by decide +kernel) rfl rfl rfl (by decide +kernel)
set_option maxRecDepth 65536 in
theorem w_c2 : (Jvm.Cond.code ({ cls := "com/example/unand/unand/model/Lun", name := "<init>", desc := "(IIJLjava/util/Set;)V" } : Jvm.MethodName) prog_38_method_1_code (6 : Nat) (Option.none : Option Jvm.ClassFile.FieldType)).before args0 about1 = true := code_word (m := ⟨2, 0⟩) (meth := k2m0) (c := k2c0) (by decide +kernel) rfl rfl rfl (by decide +kernel)
set_option maxRecDepth 65536 in
theorem w_c3 : (Jvm.Cond.code ({ cls := "java/lang/Object", name := "<init>", desc := "()V" } : Jvm.MethodName) object_method_1_code (1 : Nat) (Option.none : Option Jvm.ClassFile.FieldType)).before args0 about1 = true := code_word (m := ⟨0, 0⟩) (meth := k0m0) (c := k0c0) (by decide +kernel) rfl rfl rfl (by decide +kernel)
set_option maxRecDepth 65536 in
theorem w_c4 : (Jvm.Cond.code ({ cls := "java/util/TreeMap", name := "<init>", desc := "()V" } : Jvm.MethodName) jdk_2729_method_1_code (1 : Nat) (Option.none : Option Jvm.ClassFile.FieldType)).before args0 about1 = true := code_word (m := ⟨14, 0⟩) (meth := k14m0) (c := k14c0) (by decide +kernel) rfl rfl rfl (by decide +kernel)
set_option maxRecDepth 65536 in
theorem w_c5 : (Jvm.Cond.code ({ cls := "java/util/AbstractMap", name := "<init>", desc := "()V" } : Jvm.MethodName) jdk_71_method_1_code (1 : Nat) (Option.none : Option Jvm.ClassFile.FieldType)).before args0 about1 = true := code_word (m := ⟨8, 0⟩) (meth := k8m0) (c := k8c0) (by decide +kernel) rfl rfl rfl (by decide +kernel)
set_option maxRecDepth 65536 in
theorem w_c6 : (Jvm.Cond.code ({ cls := "java/util/Set", name := "copyOf", desc := "(Ljava/util/Collection;)Ljava/util/Set;" } : Jvm.MethodName) jdk_96_method_29_code (1 : Nat) (Option.some (Jvm.ClassFile.FieldType.object "java/util/Set"))).before args0 about1 = true := code_word (m := ⟨5, 1⟩) (meth := k5m1) (c := k5c1) (by decide +kernel) rfl rfl rfl (by decide +kernel)
set_option maxRecDepth 65536 in
theorem w_c7 : (Jvm.Cond.code ({ cls := "com/example/unand/unand/model/Lun", name := "ready", desc := "(J)Z" } : Jvm.MethodName) prog_38_method_6_code (3 : Nat) (Option.some Jvm.ClassFile.FieldType.boolean)).before args0 about1 = true := code_word (m := ⟨2, 3⟩) (meth := k2m3) (c := k2c3) (by decide +kernel) rfl rfl rfl (by decide +kernel)
set_option maxRecDepth 65536 in
theorem w_c8 : (Jvm.Cond.code ({ cls := "com/example/unand/unand/model/LunReadyPinLaw", name := "op", desc := "(I)Lcom/example/unand/unand/model/Lun$Operation;" } : Jvm.MethodName) method_2_code (1 : Nat) (Option.some (Jvm.ClassFile.FieldType.object "com/example/unand/unand/model/Lun$Operation"))).before args0 about1 = true := code_word (m := ⟨1, 1⟩) (meth := k1m1) (c := k1c1) (by decide +kernel) rfl rfl rfl (by decide +kernel)
set_option maxRecDepth 65536 in
theorem w_c9 : (Jvm.Cond.code ({ cls := "com/example/unand/unand/model/Lun", name := "begin", desc := "(Lcom/example/unand/unand/model/Lun$Operation;JJ)V" } : Jvm.MethodName) prog_38_method_2_code (6 : Nat) (Option.none : Option Jvm.ClassFile.FieldType)).before args0 about1 = true := code_word (m := ⟨2, 1⟩) (meth := k2m1) (c := k2c1) (by decide +kernel) rfl rfl rfl (by decide +kernel)
set_option maxRecDepth 65536 in
theorem w_c10 : (Jvm.Cond.code ({ cls := "com/example/unand/unand/model/Lun", name := "reset", desc := "(JJ)V" } : Jvm.MethodName) prog_38_method_3_code (5 : Nat) (Option.none : Option Jvm.ClassFile.FieldType)).before args0 about1 = true := code_word (m := ⟨2, 2⟩) (meth := k2m2) (c := k2c2) (by decide +kernel) rfl rfl rfl (by decide +kernel)
def codes1 : List Jvm.Cond := [Jvm.Cond.code x code maxLocals ret, Jvm.Cond.code ({ cls := "java/util/Set", name := "of", desc := "()Ljava/util/Set;" } : Jvm.MethodName) jdk_96_method_17_code (0 : Nat) (Option.some (Jvm.ClassFile.FieldType.object "java/util/Set")), Jvm.Cond.code ({ cls := "com/example/unand/unand/model/Lun", name := "<init>", desc := "(IIJLjava/util/Set;)V" } : Jvm.MethodName) prog_38_method_1_code (6 : Nat) (Option.none : Option Jvm.ClassFile.FieldType), Jvm.Cond.code ({ cls := "java/lang/Object", name := "<init>", desc := "()V" } : Jvm.MethodName) object_method_1_code (1 : Nat) (Option.none : Option Jvm.ClassFile.FieldType), Jvm.Cond.code ({ cls := "java/util/TreeMap", name := "<init>", desc := "()V" } : Jvm.MethodName) jdk_2729_method_1_code (1 : Nat) (Option.none : Option Jvm.ClassFile.FieldType), Jvm.Cond.code ({ cls := "java/util/AbstractMap", name := "<init>", desc := "()V" } : Jvm.MethodName) jdk_71_method_1_code (1 : Nat) (Option.none : Option Jvm.ClassFile.FieldType), Jvm.Cond.code ({ cls := "java/util/Set", name := "copyOf", desc := "(Ljava/util/Collection;)Ljava/util/Set;" } : Jvm.MethodName) jdk_96_method_29_code (1 : Nat) (Option.some (Jvm.ClassFile.FieldType.object "java/util/Set")), Jvm.Cond.code ({ cls := "com/example/unand/unand/model/Lun", name := "ready", desc := "(J)Z" } : Jvm.MethodName) prog_38_method_6_code (3 : Nat) (Option.some Jvm.ClassFile.FieldType.boolean), Jvm.Cond.code ({ cls := "com/example/unand/unand/model/LunReadyPinLaw", name := "op", desc := "(I)Lcom/example/unand/unand/model/Lun$Operation;" } : Jvm.MethodName) method_2_code (1 : Nat) (Option.some (Jvm.ClassFile.FieldType.object "com/example/unand/unand/model/Lun$Operation")), Jvm.Cond.code ({ cls := "com/example/unand/unand/model/Lun", name := "begin", desc := "(Lcom/example/unand/unand/model/Lun$Operation;JJ)V" } : Jvm.MethodName) prog_38_method_2_code (6 : Nat) (Option.none : Option Jvm.ClassFile.FieldType), Jvm.Cond.code ({ cls := "com/example/unand/unand/model/Lun", name := "reset", desc := "(JJ)V" } : Jvm.MethodName) prog_38_method_3_code (5 : Nat) (Option.none : Option Jvm.ClassFile.FieldType)]
set_option maxRecDepth 65536 in
theorem codes_eq : words1.filter isCode = codes1 := rfl
theorem w_codes : ∀ c ∈ words1.filter isCode, c.before args0 about1 = true := by
  rw [codes_eq]
  intro c hc
  simp only [codes1, List.mem_cons, List.not_mem_nil, or_false] at hc
  rcases hc with rfl | rfl | rfl | rfl | rfl | rfl | rfl | rfl | rfl | rfl | rfl
  · exact w_c0
  · exact w_c1
  · exact w_c2
  · exact w_c3
  · exact w_c4
  · exact w_c5
  · exact w_c6
  · exact w_c7
  · exact w_c8
  · exact w_c9
  · exact w_c10
set_option maxRecDepth 65536 in
theorem w_t1 : (words1.take 24).all (fun c => isCode c || c.before args0 about1) = true := by decide +kernel
set_option maxRecDepth 65536 in
theorem w_t2 : ((words1.drop 24).take 24).all (fun c => isCode c || c.before args0 about1) = true := by decide +kernel
set_option maxRecDepth 65536 in
theorem w_t3 : (((words1.drop 24).drop 24).take 24).all (fun c => isCode c || c.before args0 about1) = true := by decide +kernel
set_option maxRecDepth 65536 in
theorem w_t4 : ((((words1.drop 24).drop 24).drop 24).take 24).all (fun c => isCode c || c.before args0 about1) = true := by decide +kernel
set_option maxRecDepth 65536 in
theorem w_t5 : ((((words1.drop 24).drop 24).drop 24).drop 24).all (fun c => isCode c || c.before args0 about1) = true := by decide +kernel
theorem w_tables : (allAtoms (Jvm.Cond.code x code maxLocals ret :: tables_1)).before args0 about1 = true := by
  rw [allAtoms_all]
  show words1.all (fun c => c.before args0 about1) = true
  refine all_split ?_ w_codes
  rw [← List.take_append_drop 24 words1, List.all_append, w_t1, ← List.take_append_drop 24 (words1.drop 24), List.all_append, w_t2, ← List.take_append_drop 24 ((words1.drop 24).drop 24), List.all_append, w_t3, ← List.take_append_drop 24 (((words1.drop 24).drop 24).drop 24), List.all_append, w_t4, w_t5]
  rfl
set_option maxRecDepth 65536 in
theorem w_rest : rest_1_c.before args0 about1 = true := by decide +kernel
set_option maxRecDepth 65536 in
theorem w_case : (Jvm.Cond.and given_1 narrow_1).before args0 about1 = true := by decide +kernel
theorem w_applies : (headSpec (Jvm.Cond.code x code maxLocals ret :: tables_1) room_1).applies x e0.platform about1 = true :=
  (Spec.applies_iff w_frames).mpr ⟨w_running, w_runnable, w_alone, w_named, w_hears, w_ripe, w_room, w_tables⟩
theorem atStart : AtStart classFile x code maxLocals ret World_1 tables_1 room_1 Calls_1 rest_1 Pre_1 launch0 p0 e0 about1 theMethod args0 below0 :=
  ⟨lists_1, trivial, launch0.admits_env _ _ _, launch0.least_env, fairChoices_fair.cas, fairChoices_fair.clock, w_frames, w_args, w_heap, w_applies, trivial, w_rest, w_case⟩
end start1
theorem witness_1 : WitnessClaimed_1 := ⟨start1.p0, start1.e0, start1.about1, start1.theMethod, start1.args0, start1.below0, start1.atStart⟩
end Jvm.Pilot.@@N@@
