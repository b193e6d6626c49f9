import JvmDerived
import JvmDerived.Pilot.@@N@@Statement
import JvmDerived.Pilot.@@N@@Code
set_option linter.unusedVariables false
set_option linter.unusedSimpArgs false
namespace Jvm.RoadKit
open Sem ClassFile Op Lib Jvm.Stand Jvm.Free Jvm.LawKit
section New
variable {p : Program} {l : Launch} {e : Env} {R : Room} {s : State} {m : MethodId} {args : Array Value} {below : List Frame} {meth : Method} {c : Code} {T : State} {locs : List Loc} {cells slots : Nat}
theorem retI (X : Stand p l e R s m args below meth c T locs cells slots) (hx : p.tables.exec = Jvm.exec) {pc : Nat} {Ls : Array Slot} {z : Int32} {rest : List Value} (hret : meth.sig.returnType = some .int) (hd : decode c.code pc = .ok (.ireturn, 1)) {fs : List Frame}
    (hl : ∀ (f : JFrame) (acts : List Action), f.method = m → f.locked = none → f.entered = [] → (doReturn e (T.setTop f) acts (some (.int z))).1 = T.setFrames fs) : Steps p.tables e below (T.setTop (mkF m pc Ls (.int z :: rest))) (T.setFrames fs) := by
  have hm' : T.vm.method? m = some meth := X.method'
  have hn : narrow .int (.int z) = .int z := rfl
  show Steps p.tables e below (T.setTop { method := m, pc := pc, locals := Ls, stack := _ :: rest, locked := none }) _
  jvm_step X.here [X.here.top, hx, hd, hm', hret, hn]
  first | (intro acts; rw [hl _ acts rfl rfl rfl]) | rw [hl _ _ rfl rfl rfl]
  exact Steps.refl _
end New
end Jvm.RoadKit
namespace Jvm.Pilot.@@N@@
open Jvm Jvm.ClassFile Sem Op Lib Jvm.Free Jvm.Stand Jvm.LawKit Jvm.RoadKit Bundle Jvm.Pilot.@@N@@.Jvm.D
def Av (Z : State) (h : Heap) (a : Addr) (ty : FieldType) (n : Int32) (vs : List Value) (d : Value) : Prop := ∃ k, Arv Z h a k ty n vs d
theorem Av.lt {Z : State} {h : Heap} {a : Addr} {ty : FieldType} {n : Int32} {vs : List Value} {d : Value} (F : Av Z h a ty n vs d) : a < h.size := by obtain ⟨k, F⟩ := F; exact F.lt
theorem Av.ext {Z : State} {h h' : Heap} {a : Addr} {ty : FieldType} {n : Int32} {vs : List Value} {d : Value} (F : Av Z h a ty n vs d) (E : Ext h h') : Av Z h' a ty n vs d := by obtain ⟨k, F⟩ := F; exact ⟨k, F.ext E⟩
theorem Av.other {Z : State} {h h' : Heap} {a b : Addr} {ty : FieldType} {n : Int32} {vs : List Value} {d : Value} {sl : Nat} {v : Value} (F : Av Z h b ty n vs d) (W : Wr h h' a sl v) (q : b ≠ a) : Av Z h' b ty n vs d := by obtain ⟨k, F⟩ := F; exact ⟨k, F.other W q⟩
def Al (Z : State) (h : Heap) (a : Addr) (ty : FieldType) (n : Int32) : Prop := ∃ c : Cell, Arr Z h a c ty ∧ c.slots.size = n.toNatClampNeg ∧ ¬ n < 0
theorem Al.lt {Z : State} {h : Heap} {a : Addr} {ty : FieldType} {n : Int32} (F : Al Z h a ty n) : a < h.size := by obtain ⟨c, A, -⟩ := F; exact A.lt
theorem Al.ext {Z : State} {h h' : Heap} {a : Addr} {ty : FieldType} {n : Int32} (F : Al Z h a ty n) (E : Ext h h') : Al Z h' a ty n := by obtain ⟨c, A, r⟩ := F; exact ⟨c, A.ext E, r⟩
theorem Al.other {Z : State} {h h' : Heap} {a b : Addr} {ty : FieldType} {n : Int32} {sl : Nat} {v : Value} (F : Al Z h b ty n) (W : Wr h h' a sl v) (q : b ≠ a) : Al Z h' b ty n := by obtain ⟨c, A, r⟩ := F; exact ⟨c, A.other W q, r⟩
theorem Al.same {Z : State} {h h' : Heap} {a : Addr} {ty : FieldType} {n : Int32} {sl : Nat} {v : Value} (F : Al Z h a ty n) (W : Wr h h' a sl v) : Al Z h' a ty n := by obtain ⟨c, A, r⟩ := F; exact ⟨_, A.same W, by rw [sz_set]; exact r.1, r.2⟩
theorem Al.keep {Z : State} {h h' : Heap} {a : Addr} {ty : FieldType} {n : Int32} {ws : List Addr} (F : Al Z h a ty n) (K : Keep h h' ws) (q : a ∉ ws) : Al Z h' a ty n := by obtain ⟨c, A, r⟩ := F; exact ⟨c, ⟨K.2.1 a c A.1 q, A.2⟩, r⟩
theorem Av.al {Z : State} {h : Heap} {a : Addr} {ty : FieldType} {n : Int32} {vs : List Value} {d : Value} (F : Av Z h a ty n vs d) : Al Z h a ty n := by obtain ⟨k, c, A, -, r1, r2, -⟩ := F; exact ⟨c, A, r1, r2⟩
theorem Av.keep {Z : State} {h h' : Heap} {a : Addr} {ty : FieldType} {n : Int32} {vs : List Value} {d : Value} {ws : List Addr} (F : Av Z h a ty n vs d) (K : Keep h h' ws) (q : a ∉ ws) : Av Z h' a ty n vs d := by obtain ⟨k, F⟩ := F; exact ⟨k, F.keep K q⟩
abbrev MN1 : MethodName := ⟨"com/example/dido/dido/keys/KeyOrderReversedPinLaw", "pick", "(I)Lcom/example/dido/dido/keys/ColumnField$KeyOrder;"⟩
abbrev MN2 : MethodName := ⟨"com/example/dido/dido/keys/ColumnField$KeyOrder", "reversed", "()Lcom/example/dido/dido/keys/ColumnField$KeyOrder;"⟩
abbrev MN3 : MethodName := ⟨"java/lang/Enum", "ordinal", "()I"⟩
theorem own_eqv {args : Array Value} {s : State} {t : Term} {k : Int32} (h : (Jvm.Cond.eq t (.int k)).value args s none s [] = some true) : t.eval args s none [] s = some (.int k) := by
  cases ht : t.eval args s none [] s with
  | none => simp [Jvm.Cond.value, ht] at h
  | some v => cases v <;> simp [Jvm.Cond.value, ht, Term.eval] at h ⊢; exact h
theorem own_mod3 (x : Int32) : ((x &&& (2147483647 : Int32)) % (3 : Int32)) = 0 ∨ ((x &&& (2147483647 : Int32)) % (3 : Int32)) = 1 ∨ ((x &&& (2147483647 : Int32)) % (3 : Int32)) = 2 := by
  have h0 := c_mask x 2147483647 31 (by decide) (by decide)
  have h := (c_iremV (x &&& 2147483647) 3).1 (by omega) (by decide)
  have h1 := h.1
  have h2 := h.2.1
  simp only [← Int32.toInt_inj, Int32.reduceToInt] at *
  omega
theorem d3_0 : decode jdk_37_method_2_code 0 = .ok (.aload_n 0, 1) := by decide +kernel
theorem d3_1 : decode jdk_37_method_2_code 1 = .ok (.getfield 7, 3) := by decide +kernel
theorem d3_4 : decode jdk_37_method_2_code 4 = .ok (.ireturn, 1) := by decide +kernel
theorem pn_java_lang_Enum : plainName "java/lang/Enum" = true := by first | (simp [plainName, overriddenIn]; done) | decide +kernel
theorem ef_rm3 (m : MethodId) (x0 : Addr) : entryFrame m #[(.ref x0)] 1 = mkF m 0 #[rv x0] [] := by first | (simp [entryFrame, mkF, argsToLocals, Value.category]; done) | rfl
def Q_rm3 (Z : State) (a3_0 : Addr) (od : Int32) (h0 : Heap) (n0 : Nat) (v : Option Value) (h : Heap) (L : List Loc) : Prop := v = some (.int od) ∧ Fr n0 L ∧ h = h0
set_option maxRecDepth 65536 in
set_option maxHeartbeats 40000000 in
theorem rm3 (l : Launch) (Z : State) (a0 : Array Value) (hw : ∀ d ∈ tables_1, d.before a0 Z = true) (ws : List Jvm.Cond) (a3_0 : Addr) (od : Int32) (h0 : Heap) (n0 : Nat) (Z0 : n0 ≤ h0.size) (pf_F_a3_0_ordinal : Fld Z h0 a3_0 "java/lang/Enum" "ordinal" "I" (.int od)) :
    MetFree l (⟨"java/lang/Enum", "ordinal", "()I"⟩ : MethodName) (head1 (Jvm.Cond.code (⟨"java/lang/Enum", "ordinal", "()I"⟩ : MethodName) jdk_37_method_2_code 1 (some .int) :: ws) ({ frames := 0, cells := 0, slots := 0, locals := 0 } : Room)) (fun a U => a = #[(.ref a3_0)] ∧ Z.Warmed39 U.vm ∧ U.heap = h0) (fun _ _ _ _ _ => True) (fun _ U o U' => ∃ v L, o = .returned v ∧ Q_rm3 Z a3_0 od h0 n0 v U'.heap L ∧ FrameEnd U o U' L ({ frames := 0, cells := 0, slots := 0, locals := 0 } : Room).cells ({ frames := 0, cells := 0, slots := 0, locals := 0 } : Room).slots) := by
  refine MetFree.of_bodySF (plainFor_of_name pn_java_lang_Enum) hisR ?_
  intro p e s m args below meth c s₁ Bd hml0 hP hK
  obtain ⟨rfl, hZ, hh⟩ := hP
  have hx := Bd.exec
  have hby := Bd.bytes
  have hml : c.maxLocals = 1 := hml0
  have hown : s.vm.findClass "java/lang/Enum" = some m.cls := findClass_of_methodNamed Bd.named
  have hnm := (name_of_methodNamed Bd.named Bd.method).1
  have X0 : Stand p l e ({ frames := 0, cells := 0, slots := 0, locals := 0 } : Room) s m #[(.ref a3_0)] below meth c s₁ [] 0 0 := Stand.of_body Bd
  have e0 : s₁.heap = h0 := by rw [← hh, Bd.state]; rfl
  have N0 := Fr.nil n0
  have pre0 : ∀ t, Steps p.tables e below (s₁.setTop (mkF m 0 #[rv a3_0] [])) t → Steps p.tables e below (s₁.setTop (entryFrame m #[(.ref a3_0)] 1)) t := fun t k => castTop (ef_rm3 m a3_0) k
  have wo20 := hw _ (List.mem_of_getElem? (i := 20) rfl)
  obtain ⟨T1, X1, e1, st1⟩ := getF X0 hx hZ hown (host := "") (Or.inl wo20) Via.refl e0 pf_F_a3_0_ordinal (g := (mkF m 1 #[rv a3_0] [(.ref a3_0)])) rfl rfl (hb hby d3_1)
  obtain ⟨fs, hr, hrun, hended, hW, hsame⟩ := X1.leave (v := some (.int od)) (fun h => by rw [Bd.returns] at h; cases h)
  refine ⟨_, _, pre0 _ ?_, hrun, hended, _, _, rfl, ?_, ⟨_, rfl⟩, hW, hsame.mono (by decide) (by decide)⟩
  · show Steps p.tables e below (s₁.setTop (mkF m 0 #[rv a3_0] [])) _
    refine XS.aloadN X0.here hx rfl (hb hby d3_0) rfl rfl ?_
    show Steps p.tables e below (s₁.setTop (mkF m 1 #[rv a3_0] [(.ref a3_0)])) _
    refine st1 _ ?_
    show Steps p.tables e below (T1.setTop (mkF m 4 #[rv a3_0] [(.int od)])) _
    exact retI X1 hx Bd.returns (hb hby d3_4) hr
  · show Q_rm3 Z _ _ h0 n0 _ T1.heap _
    rw [e1]
    exact ⟨rfl, N0, rfl⟩
theorem d2_0 : decode prog_4_method_4_code 0 = .ok (.aload_n 0, 1) := by decide +kernel
theorem pd_0 : parseMethodDescriptor "()I" = some ⟨[], some .int⟩ := by decide +kernel
theorem d2_1 : decode prog_4_method_4_code 1 = .ok (.invokevirtual 32, 3) := by decide +kernel
theorem d2_4 : decode prog_4_method_4_code 4 = .ok (.tableswitch 28 0 2 #[38, 44, 50], 28) := by decide +kernel
theorem d2_42 : decode prog_4_method_4_code 42 = .ok (.getstatic 7, 3) := by decide +kernel
theorem d2_45 : decode prog_4_method_4_code 45 = .ok (.goto 12, 3) := by decide +kernel
theorem d2_57 : decode prog_4_method_4_code 57 = .ok (.areturn, 1) := by decide +kernel
theorem pn_com_example_dido_dido_keys_ColumnField_KeyOrder : plainName "com/example/dido/dido/keys/ColumnField$KeyOrder" = true := by first | (simp [plainName, overriddenIn]; done) | decide +kernel
theorem ef_rm_rev0 (m : MethodId) (x0 : Addr) : entryFrame m #[(.ref x0)] 1 = mkF m 0 #[rv x0] [] := by first | (simp [entryFrame, mkF, argsToLocals, Value.category]; done) | rfl
def Q_rm_rev0 (Z : State) (a2_0 : Addr) (s_ASCENDING : Addr) (s_DESCENDING : Addr) (s_UNORDERED : Addr) (h0 : Heap) (n0 : Nat) (v : Option Value) (h : Heap) (L : List Loc) : Prop := v = some (.ref s_DESCENDING) ∧ Fr n0 L ∧ h = h0
set_option maxRecDepth 65536 in
set_option maxHeartbeats 40000000 in
theorem rm_rev0 (l : Launch) (Z : State) (a0 : Array Value) (hw : ∀ d ∈ tables_1, d.before a0 Z = true) (ws : List Jvm.Cond) (a2_0 : Addr) (s_ASCENDING : Addr) (s_DESCENDING : Addr) (s_UNORDERED : Addr) (h0 : Heap) (n0 : Nat) (Z0 : n0 ≤ h0.size) (pf_O : Old Z n0 h0) (pf_S_com_example_dido_dido_keys_ColumnField_KeyOrder_ASCENDING : Sta Z Z.heap "com/example/dido/dido/keys/ColumnField$KeyOrder" "ASCENDING" "Lcom/example/dido/dido/keys/ColumnField$KeyOrder;" (.ref s_ASCENDING)) (pf_S_com_example_dido_dido_keys_ColumnField_KeyOrder_DESCENDING : Sta Z Z.heap "com/example/dido/dido/keys/ColumnField$KeyOrder" "DESCENDING" "Lcom/example/dido/dido/keys/ColumnField$KeyOrder;" (.ref s_DESCENDING)) (pf_S_com_example_dido_dido_keys_ColumnField_KeyOrder_UNORDERED : Sta Z Z.heap "com/example/dido/dido/keys/ColumnField$KeyOrder" "UNORDERED" "Lcom/example/dido/dido/keys/ColumnField$KeyOrder;" (.ref s_UNORDERED)) (pf_E_a2_0 : Exa Z h0 a2_0 "com/example/dido/dido/keys/ColumnField$KeyOrder") (pf_F_a2_0_ordinal : Fld Z h0 a2_0 "java/lang/Enum" "ordinal" "I" (.int (0 : Int32))) :
    MetFree l (⟨"com/example/dido/dido/keys/ColumnField$KeyOrder", "reversed", "()Lcom/example/dido/dido/keys/ColumnField$KeyOrder;"⟩ : MethodName) (head1 (Jvm.Cond.code (⟨"com/example/dido/dido/keys/ColumnField$KeyOrder", "reversed", "()Lcom/example/dido/dido/keys/ColumnField$KeyOrder;"⟩ : MethodName) prog_4_method_4_code 1 (some (.object "com/example/dido/dido/keys/ColumnField$KeyOrder")) :: ws) ({ frames := 1, cells := 0, slots := 0, locals := 12 } : Room)) (fun a U => a = #[(.ref a2_0)] ∧ Z.Warmed39 U.vm ∧ U.heap = h0) (fun _ _ _ _ _ => True) (fun _ U o U' => ∃ v L, o = .returned v ∧ Q_rm_rev0 Z a2_0 s_ASCENDING s_DESCENDING s_UNORDERED h0 n0 v U'.heap L ∧ FrameEnd U o U' L ({ frames := 1, cells := 0, slots := 0, locals := 12 } : Room).cells ({ frames := 1, cells := 0, slots := 0, locals := 12 } : Room).slots) := by
  refine MetFree.of_bodySF (plainFor_of_name pn_com_example_dido_dido_keys_ColumnField_KeyOrder) hisR ?_
  intro p e s m args below meth c s₁ Bd hml0 hP hK
  obtain ⟨rfl, hZ, hh⟩ := hP
  have hx := Bd.exec
  have hby := Bd.bytes
  have hml : c.maxLocals = 1 := hml0
  have hown : s.vm.findClass "com/example/dido/dido/keys/ColumnField$KeyOrder" = some m.cls := findClass_of_methodNamed Bd.named
  have hnm := (name_of_methodNamed Bd.named Bd.method).1
  have X0 : Stand p l e ({ frames := 1, cells := 0, slots := 0, locals := 12 } : Room) s m #[(.ref a2_0)] below meth c s₁ [] 0 0 := Stand.of_body Bd
  have e0 : s₁.heap = h0 := by rw [← hh, Bd.state]; rfl
  have N0 := Fr.nil n0
  have pre0 : ∀ t, Steps p.tables e below (s₁.setTop (mkF m 0 #[rv a2_0] [])) t → Steps p.tables e below (s₁.setTop (entryFrame m #[(.ref a2_0)] 1)) t := fun t k => castTop (ef_rm_rev0 m a2_0) k
  have wo13 := hw _ (List.mem_of_getElem? (i := 13) rfl)
  have wo14 := hw _ (List.mem_of_getElem? (i := 14) rfl)
  have wo15 := hw _ (List.mem_of_getElem? (i := 15) rfl)
  have wo16 := hw _ (List.mem_of_getElem? (i := 16) rfl)
  have wo17 := hw _ (List.mem_of_getElem? (i := 17) rfl)
  have wo18 := hw _ (List.mem_of_getElem? (i := 18) rfl)
  have wo19 := hw _ (List.mem_of_getElem? (i := 19) rfl)
  have wo22 := hw _ (List.mem_of_getElem? (i := 22) rfl)
  obtain ⟨cq1, kq1, q1a, q1b, q1c⟩ := isOf hZ e0 pf_E_a2_0
  obtain ⟨_, _, ⟨T1, L1, k1, n1⟩, -, X1, ⟨Lc1, hQ1, l1, y1, z1⟩, st1⟩ := X0.virtualBackUp hx (x := (⟨"com/example/dido/dido/keys/ColumnField$KeyOrder", "ordinal", "()I"⟩ : MethodName)) (y := MN3) hown (mvT hZ wo13) (mvT hZ wo14) (mvT hZ wo15) (by decide) (mvT hZ wo17) (mvT hZ wo16) (backOf (W := 0) (rm3 l Z a0 hw [] a2_0 (0 : Int32) h0 n0 Z0 pf_F_a2_0_ordinal) hZ wo19 wo18 (by decide) (by decide)) q1a q1c (g := (mkF m 1 #[rv a2_0] [(.ref a2_0)])) rfl (by rw [hml]; rfl) (Steps.refl _) (argsL := []) (rest := []) (lenOf pd_0 rfl) rfl (by show 2 * 0 + _ ≤ _; exact Nat.le_of_eq rfl) (hb hby d2_1) (fun _ _ => ⟨rfl, e0, (by decide : 0 + 0 ≤ _), (by decide : 0 + 0 ≤ _)⟩)
  dsimp only [Pt.U, Pt.locs, Pt.cells, Pt.slots] at X1 l1 y1 z1 st1 hQ1
  subst l1 y1 z1
  obtain ⟨rfl, N1q, K1q⟩ := hQ1
  have N2 := Fr.app N0 N1q
  obtain ⟨T3, X3, e3, st3⟩ := getS2 X1 hx hZ hown (host := "") (Or.inl wo22) Via.refl K1q (pf_S_com_example_dido_dido_keys_ColumnField_KeyOrder_DESCENDING.ext pf_O.2) (g := (mkF m 42 #[rv a2_0] [])) rfl (hb hby d2_42)
  obtain ⟨fs, hr, hrun, hended, hW, hsame⟩ := X3.leave (v := some (.ref s_DESCENDING)) (fun h => by rw [Bd.returns] at h; cases h)
  refine ⟨_, _, pre0 _ ?_, hrun, hended, _, _, rfl, ?_, ⟨_, rfl⟩, hW, hsame.mono (by decide) (by decide)⟩
  · show Steps p.tables e below (s₁.setTop (mkF m 0 #[rv a2_0] [])) _
    refine XS.aloadN X0.here hx rfl (hb hby d2_0) rfl rfl ?_
    show Steps p.tables e below (s₁.setTop (mkF m 1 #[rv a2_0] [(.ref a2_0)])) _
    refine st1.trans ?_
    show Steps p.tables e below (T1.setTop (mkF m 4 #[rv a2_0] [(.int (0 : Int32))])) _
    refine XS.tswIn X1.here hx rfl (pc0 := 4) (pc' := 42) rfl (hb hby d2_4) rfl (by decide) (o := 38) rfl (by decide) (by decide) ?_
    show Steps p.tables e below (T1.setTop (mkF m 42 #[rv a2_0] [])) _
    refine st3 _ ?_
    show Steps p.tables e below (T3.setTop (mkF m 45 #[rv a2_0] [(.ref s_DESCENDING)])) _
    refine XS.goto X3.here hx rfl (pc0 := 45) (pc' := 57) rfl (hb hby d2_45) (by decide) (by decide) ?_
    show Steps p.tables e below (T3.setTop (mkF m 57 #[rv a2_0] [(.ref s_DESCENDING)])) _
    exact retOut X3 hx Bd.returns rfl (Or.inr (Or.inr (Or.inr (Or.inr ⟨rfl, rfl, rfl⟩)))) (hb hby d2_57) hr
  · show Q_rm_rev0 Z _ _ _ _ h0 n0 _ T3.heap _
    rw [e3]
    exact ⟨rfl, N2, rfl⟩
theorem d2_48 : decode prog_4_method_4_code 48 = .ok (.getstatic 3, 3) := by decide +kernel
theorem d2_51 : decode prog_4_method_4_code 51 = .ok (.goto 6, 3) := by decide +kernel
theorem ef_rm_rev1 (m : MethodId) (x0 : Addr) : entryFrame m #[(.ref x0)] 1 = mkF m 0 #[rv x0] [] := by first | (simp [entryFrame, mkF, argsToLocals, Value.category]; done) | rfl
def Q_rm_rev1 (Z : State) (a2_0 : Addr) (s_ASCENDING : Addr) (s_DESCENDING : Addr) (s_UNORDERED : Addr) (h0 : Heap) (n0 : Nat) (v : Option Value) (h : Heap) (L : List Loc) : Prop := v = some (.ref s_ASCENDING) ∧ Fr n0 L ∧ h = h0
set_option maxRecDepth 65536 in
set_option maxHeartbeats 40000000 in
theorem rm_rev1 (l : Launch) (Z : State) (a0 : Array Value) (hw : ∀ d ∈ tables_1, d.before a0 Z = true) (ws : List Jvm.Cond) (a2_0 : Addr) (s_ASCENDING : Addr) (s_DESCENDING : Addr) (s_UNORDERED : Addr) (h0 : Heap) (n0 : Nat) (Z0 : n0 ≤ h0.size) (pf_O : Old Z n0 h0) (pf_S_com_example_dido_dido_keys_ColumnField_KeyOrder_ASCENDING : Sta Z Z.heap "com/example/dido/dido/keys/ColumnField$KeyOrder" "ASCENDING" "Lcom/example/dido/dido/keys/ColumnField$KeyOrder;" (.ref s_ASCENDING)) (pf_S_com_example_dido_dido_keys_ColumnField_KeyOrder_DESCENDING : Sta Z Z.heap "com/example/dido/dido/keys/ColumnField$KeyOrder" "DESCENDING" "Lcom/example/dido/dido/keys/ColumnField$KeyOrder;" (.ref s_DESCENDING)) (pf_S_com_example_dido_dido_keys_ColumnField_KeyOrder_UNORDERED : Sta Z Z.heap "com/example/dido/dido/keys/ColumnField$KeyOrder" "UNORDERED" "Lcom/example/dido/dido/keys/ColumnField$KeyOrder;" (.ref s_UNORDERED)) (pf_E_a2_0 : Exa Z h0 a2_0 "com/example/dido/dido/keys/ColumnField$KeyOrder") (pf_F_a2_0_ordinal : Fld Z h0 a2_0 "java/lang/Enum" "ordinal" "I" (.int (1 : Int32))) :
    MetFree l (⟨"com/example/dido/dido/keys/ColumnField$KeyOrder", "reversed", "()Lcom/example/dido/dido/keys/ColumnField$KeyOrder;"⟩ : MethodName) (head1 (Jvm.Cond.code (⟨"com/example/dido/dido/keys/ColumnField$KeyOrder", "reversed", "()Lcom/example/dido/dido/keys/ColumnField$KeyOrder;"⟩ : MethodName) prog_4_method_4_code 1 (some (.object "com/example/dido/dido/keys/ColumnField$KeyOrder")) :: ws) ({ frames := 1, cells := 0, slots := 0, locals := 12 } : Room)) (fun a U => a = #[(.ref a2_0)] ∧ Z.Warmed39 U.vm ∧ U.heap = h0) (fun _ _ _ _ _ => True) (fun _ U o U' => ∃ v L, o = .returned v ∧ Q_rm_rev1 Z a2_0 s_ASCENDING s_DESCENDING s_UNORDERED h0 n0 v U'.heap L ∧ FrameEnd U o U' L ({ frames := 1, cells := 0, slots := 0, locals := 12 } : Room).cells ({ frames := 1, cells := 0, slots := 0, locals := 12 } : Room).slots) := by
  refine MetFree.of_bodySF (plainFor_of_name pn_com_example_dido_dido_keys_ColumnField_KeyOrder) hisR ?_
  intro p e s m args below meth c s₁ Bd hml0 hP hK
  obtain ⟨rfl, hZ, hh⟩ := hP
  have hx := Bd.exec
  have hby := Bd.bytes
  have hml : c.maxLocals = 1 := hml0
  have hown : s.vm.findClass "com/example/dido/dido/keys/ColumnField$KeyOrder" = some m.cls := findClass_of_methodNamed Bd.named
  have hnm := (name_of_methodNamed Bd.named Bd.method).1
  have X0 : Stand p l e ({ frames := 1, cells := 0, slots := 0, locals := 12 } : Room) s m #[(.ref a2_0)] below meth c s₁ [] 0 0 := Stand.of_body Bd
  have e0 : s₁.heap = h0 := by rw [← hh, Bd.state]; rfl
  have N0 := Fr.nil n0
  have pre0 : ∀ t, Steps p.tables e below (s₁.setTop (mkF m 0 #[rv a2_0] [])) t → Steps p.tables e below (s₁.setTop (entryFrame m #[(.ref a2_0)] 1)) t := fun t k => castTop (ef_rm_rev1 m a2_0) k
  have wo13 := hw _ (List.mem_of_getElem? (i := 13) rfl)
  have wo14 := hw _ (List.mem_of_getElem? (i := 14) rfl)
  have wo15 := hw _ (List.mem_of_getElem? (i := 15) rfl)
  have wo16 := hw _ (List.mem_of_getElem? (i := 16) rfl)
  have wo17 := hw _ (List.mem_of_getElem? (i := 17) rfl)
  have wo18 := hw _ (List.mem_of_getElem? (i := 18) rfl)
  have wo19 := hw _ (List.mem_of_getElem? (i := 19) rfl)
  have wo24 := hw _ (List.mem_of_getElem? (i := 24) rfl)
  obtain ⟨cq1, kq1, q1a, q1b, q1c⟩ := isOf hZ e0 pf_E_a2_0
  obtain ⟨_, _, ⟨T1, L1, k1, n1⟩, -, X1, ⟨Lc1, hQ1, l1, y1, z1⟩, st1⟩ := X0.virtualBackUp hx (x := (⟨"com/example/dido/dido/keys/ColumnField$KeyOrder", "ordinal", "()I"⟩ : MethodName)) (y := MN3) hown (mvT hZ wo13) (mvT hZ wo14) (mvT hZ wo15) (by decide) (mvT hZ wo17) (mvT hZ wo16) (backOf (W := 0) (rm3 l Z a0 hw [] a2_0 (1 : Int32) h0 n0 Z0 pf_F_a2_0_ordinal) hZ wo19 wo18 (by decide) (by decide)) q1a q1c (g := (mkF m 1 #[rv a2_0] [(.ref a2_0)])) rfl (by rw [hml]; rfl) (Steps.refl _) (argsL := []) (rest := []) (lenOf pd_0 rfl) rfl (by show 2 * 0 + _ ≤ _; exact Nat.le_of_eq rfl) (hb hby d2_1) (fun _ _ => ⟨rfl, e0, (by decide : 0 + 0 ≤ _), (by decide : 0 + 0 ≤ _)⟩)
  dsimp only [Pt.U, Pt.locs, Pt.cells, Pt.slots] at X1 l1 y1 z1 st1 hQ1
  subst l1 y1 z1
  obtain ⟨rfl, N1q, K1q⟩ := hQ1
  have N2 := Fr.app N0 N1q
  obtain ⟨T3, X3, e3, st3⟩ := getS2 X1 hx hZ hown (host := "") (Or.inl wo24) Via.refl K1q (pf_S_com_example_dido_dido_keys_ColumnField_KeyOrder_ASCENDING.ext pf_O.2) (g := (mkF m 48 #[rv a2_0] [])) rfl (hb hby d2_48)
  obtain ⟨fs, hr, hrun, hended, hW, hsame⟩ := X3.leave (v := some (.ref s_ASCENDING)) (fun h => by rw [Bd.returns] at h; cases h)
  refine ⟨_, _, pre0 _ ?_, hrun, hended, _, _, rfl, ?_, ⟨_, rfl⟩, hW, hsame.mono (by decide) (by decide)⟩
  · show Steps p.tables e below (s₁.setTop (mkF m 0 #[rv a2_0] [])) _
    refine XS.aloadN X0.here hx rfl (hb hby d2_0) rfl rfl ?_
    show Steps p.tables e below (s₁.setTop (mkF m 1 #[rv a2_0] [(.ref a2_0)])) _
    refine st1.trans ?_
    show Steps p.tables e below (T1.setTop (mkF m 4 #[rv a2_0] [(.int (1 : Int32))])) _
    refine XS.tswIn X1.here hx rfl (pc0 := 4) (pc' := 48) rfl (hb hby d2_4) rfl (by decide) (o := 44) rfl (by decide) (by decide) ?_
    show Steps p.tables e below (T1.setTop (mkF m 48 #[rv a2_0] [])) _
    refine st3 _ ?_
    show Steps p.tables e below (T3.setTop (mkF m 51 #[rv a2_0] [(.ref s_ASCENDING)])) _
    refine XS.goto X3.here hx rfl (pc0 := 51) (pc' := 57) rfl (hb hby d2_51) (by decide) (by decide) ?_
    show Steps p.tables e below (T3.setTop (mkF m 57 #[rv a2_0] [(.ref s_ASCENDING)])) _
    exact retOut X3 hx Bd.returns rfl (Or.inr (Or.inr (Or.inr (Or.inr ⟨rfl, rfl, rfl⟩)))) (hb hby d2_57) hr
  · show Q_rm_rev1 Z _ _ _ _ h0 n0 _ T3.heap _
    rw [e3]
    exact ⟨rfl, N2, rfl⟩
theorem d2_54 : decode prog_4_method_4_code 54 = .ok (.getstatic 10, 3) := by decide +kernel
theorem ef_rm_rev2 (m : MethodId) (x0 : Addr) : entryFrame m #[(.ref x0)] 1 = mkF m 0 #[rv x0] [] := by first | (simp [entryFrame, mkF, argsToLocals, Value.category]; done) | rfl
def Q_rm_rev2 (Z : State) (a2_0 : Addr) (s_ASCENDING : Addr) (s_DESCENDING : Addr) (s_UNORDERED : Addr) (h0 : Heap) (n0 : Nat) (v : Option Value) (h : Heap) (L : List Loc) : Prop := v = some (.ref s_UNORDERED) ∧ Fr n0 L ∧ h = h0
set_option maxRecDepth 65536 in
set_option maxHeartbeats 40000000 in
theorem rm_rev2 (l : Launch) (Z : State) (a0 : Array Value) (hw : ∀ d ∈ tables_1, d.before a0 Z = true) (ws : List Jvm.Cond) (a2_0 : Addr) (s_ASCENDING : Addr) (s_DESCENDING : Addr) (s_UNORDERED : Addr) (h0 : Heap) (n0 : Nat) (Z0 : n0 ≤ h0.size) (pf_O : Old Z n0 h0) (pf_S_com_example_dido_dido_keys_ColumnField_KeyOrder_ASCENDING : Sta Z Z.heap "com/example/dido/dido/keys/ColumnField$KeyOrder" "ASCENDING" "Lcom/example/dido/dido/keys/ColumnField$KeyOrder;" (.ref s_ASCENDING)) (pf_S_com_example_dido_dido_keys_ColumnField_KeyOrder_DESCENDING : Sta Z Z.heap "com/example/dido/dido/keys/ColumnField$KeyOrder" "DESCENDING" "Lcom/example/dido/dido/keys/ColumnField$KeyOrder;" (.ref s_DESCENDING)) (pf_S_com_example_dido_dido_keys_ColumnField_KeyOrder_UNORDERED : Sta Z Z.heap "com/example/dido/dido/keys/ColumnField$KeyOrder" "UNORDERED" "Lcom/example/dido/dido/keys/ColumnField$KeyOrder;" (.ref s_UNORDERED)) (pf_E_a2_0 : Exa Z h0 a2_0 "com/example/dido/dido/keys/ColumnField$KeyOrder") (pf_F_a2_0_ordinal : Fld Z h0 a2_0 "java/lang/Enum" "ordinal" "I" (.int (2 : Int32))) :
    MetFree l (⟨"com/example/dido/dido/keys/ColumnField$KeyOrder", "reversed", "()Lcom/example/dido/dido/keys/ColumnField$KeyOrder;"⟩ : MethodName) (head1 (Jvm.Cond.code (⟨"com/example/dido/dido/keys/ColumnField$KeyOrder", "reversed", "()Lcom/example/dido/dido/keys/ColumnField$KeyOrder;"⟩ : MethodName) prog_4_method_4_code 1 (some (.object "com/example/dido/dido/keys/ColumnField$KeyOrder")) :: ws) ({ frames := 1, cells := 0, slots := 0, locals := 12 } : Room)) (fun a U => a = #[(.ref a2_0)] ∧ Z.Warmed39 U.vm ∧ U.heap = h0) (fun _ _ _ _ _ => True) (fun _ U o U' => ∃ v L, o = .returned v ∧ Q_rm_rev2 Z a2_0 s_ASCENDING s_DESCENDING s_UNORDERED h0 n0 v U'.heap L ∧ FrameEnd U o U' L ({ frames := 1, cells := 0, slots := 0, locals := 12 } : Room).cells ({ frames := 1, cells := 0, slots := 0, locals := 12 } : Room).slots) := by
  refine MetFree.of_bodySF (plainFor_of_name pn_com_example_dido_dido_keys_ColumnField_KeyOrder) hisR ?_
  intro p e s m args below meth c s₁ Bd hml0 hP hK
  obtain ⟨rfl, hZ, hh⟩ := hP
  have hx := Bd.exec
  have hby := Bd.bytes
  have hml : c.maxLocals = 1 := hml0
  have hown : s.vm.findClass "com/example/dido/dido/keys/ColumnField$KeyOrder" = some m.cls := findClass_of_methodNamed Bd.named
  have hnm := (name_of_methodNamed Bd.named Bd.method).1
  have X0 : Stand p l e ({ frames := 1, cells := 0, slots := 0, locals := 12 } : Room) s m #[(.ref a2_0)] below meth c s₁ [] 0 0 := Stand.of_body Bd
  have e0 : s₁.heap = h0 := by rw [← hh, Bd.state]; rfl
  have N0 := Fr.nil n0
  have pre0 : ∀ t, Steps p.tables e below (s₁.setTop (mkF m 0 #[rv a2_0] [])) t → Steps p.tables e below (s₁.setTop (entryFrame m #[(.ref a2_0)] 1)) t := fun t k => castTop (ef_rm_rev2 m a2_0) k
  have wo13 := hw _ (List.mem_of_getElem? (i := 13) rfl)
  have wo14 := hw _ (List.mem_of_getElem? (i := 14) rfl)
  have wo15 := hw _ (List.mem_of_getElem? (i := 15) rfl)
  have wo16 := hw _ (List.mem_of_getElem? (i := 16) rfl)
  have wo17 := hw _ (List.mem_of_getElem? (i := 17) rfl)
  have wo18 := hw _ (List.mem_of_getElem? (i := 18) rfl)
  have wo19 := hw _ (List.mem_of_getElem? (i := 19) rfl)
  have wo27 := hw _ (List.mem_of_getElem? (i := 27) rfl)
  obtain ⟨cq1, kq1, q1a, q1b, q1c⟩ := isOf hZ e0 pf_E_a2_0
  obtain ⟨_, _, ⟨T1, L1, k1, n1⟩, -, X1, ⟨Lc1, hQ1, l1, y1, z1⟩, st1⟩ := X0.virtualBackUp hx (x := (⟨"com/example/dido/dido/keys/ColumnField$KeyOrder", "ordinal", "()I"⟩ : MethodName)) (y := MN3) hown (mvT hZ wo13) (mvT hZ wo14) (mvT hZ wo15) (by decide) (mvT hZ wo17) (mvT hZ wo16) (backOf (W := 0) (rm3 l Z a0 hw [] a2_0 (2 : Int32) h0 n0 Z0 pf_F_a2_0_ordinal) hZ wo19 wo18 (by decide) (by decide)) q1a q1c (g := (mkF m 1 #[rv a2_0] [(.ref a2_0)])) rfl (by rw [hml]; rfl) (Steps.refl _) (argsL := []) (rest := []) (lenOf pd_0 rfl) rfl (by show 2 * 0 + _ ≤ _; exact Nat.le_of_eq rfl) (hb hby d2_1) (fun _ _ => ⟨rfl, e0, (by decide : 0 + 0 ≤ _), (by decide : 0 + 0 ≤ _)⟩)
  dsimp only [Pt.U, Pt.locs, Pt.cells, Pt.slots] at X1 l1 y1 z1 st1 hQ1
  subst l1 y1 z1
  obtain ⟨rfl, N1q, K1q⟩ := hQ1
  have N2 := Fr.app N0 N1q
  obtain ⟨T3, X3, e3, st3⟩ := getS2 X1 hx hZ hown (host := "") (Or.inl wo27) Via.refl K1q (pf_S_com_example_dido_dido_keys_ColumnField_KeyOrder_UNORDERED.ext pf_O.2) (g := (mkF m 54 #[rv a2_0] [])) rfl (hb hby d2_54)
  obtain ⟨fs, hr, hrun, hended, hW, hsame⟩ := X3.leave (v := some (.ref s_UNORDERED)) (fun h => by rw [Bd.returns] at h; cases h)
  refine ⟨_, _, pre0 _ ?_, hrun, hended, _, _, rfl, ?_, ⟨_, rfl⟩, hW, hsame.mono (by decide) (by decide)⟩
  · show Steps p.tables e below (s₁.setTop (mkF m 0 #[rv a2_0] [])) _
    refine XS.aloadN X0.here hx rfl (hb hby d2_0) rfl rfl ?_
    show Steps p.tables e below (s₁.setTop (mkF m 1 #[rv a2_0] [(.ref a2_0)])) _
    refine st1.trans ?_
    show Steps p.tables e below (T1.setTop (mkF m 4 #[rv a2_0] [(.int (2 : Int32))])) _
    refine XS.tswIn X1.here hx rfl (pc0 := 4) (pc' := 54) rfl (hb hby d2_4) rfl (by decide) (o := 50) rfl (by decide) (by decide) ?_
    show Steps p.tables e below (T1.setTop (mkF m 54 #[rv a2_0] [])) _
    refine st3 _ ?_
    show Steps p.tables e below (T3.setTop (mkF m 57 #[rv a2_0] [(.ref s_UNORDERED)])) _
    exact retOut X3 hx Bd.returns rfl (Or.inr (Or.inr (Or.inr (Or.inr ⟨rfl, rfl, rfl⟩)))) (hb hby d2_57) hr
  · show Q_rm_rev2 Z _ _ _ _ h0 n0 _ T3.heap _
    rw [e3]
    exact ⟨rfl, N2, rfl⟩
theorem d1_0 : decode method_2_code 0 = .ok (.iload_n 0, 1) := by decide +kernel
theorem d1_1 : decode method_2_code 1 = .ok (.ldc 7, 2) := by decide +kernel
theorem d1_3 : decode method_2_code 3 = .ok (.iand, 1) := by decide +kernel
theorem d1_4 : decode method_2_code 4 = .ok (.iconst 3, 1) := by decide +kernel
theorem d1_5 : decode method_2_code 5 = .ok (.irem, 1) := by decide +kernel
theorem d1_6 : decode method_2_code 6 = .ok (.istore_n 1, 1) := by decide +kernel
theorem d1_7 : decode method_2_code 7 = .ok (.iload_n 1, 1) := by decide +kernel
theorem d1_8 : decode method_2_code 8 = .ok (.ifCond .ne 7, 3) := by decide +kernel
theorem d1_11 : decode method_2_code 11 = .ok (.getstatic 8, 3) := by decide +kernel
theorem d1_14 : decode method_2_code 14 = .ok (.areturn, 1) := by decide +kernel
theorem pn_com_example_dido_dido_keys_KeyOrderReversedPinLaw : plainName "com/example/dido/dido/keys/KeyOrderReversedPinLaw" = true := by first | (simp [plainName, overriddenIn]; done) | decide +kernel
theorem ef_rm_pick0 (m : MethodId) (x0 : Int32) : entryFrame m #[(.int x0)] 2 = mkF m 0 #[iv x0, .unset] [] := by first | (simp [entryFrame, mkF, argsToLocals, Value.category]; done) | rfl
def Q_rm_pick0 (Z : State) (p1_0 : Int32) (s_ASCENDING : Addr) (s_DESCENDING : Addr) (s_UNORDERED : Addr) (h0 : Heap) (n0 : Nat) (v : Option Value) (h : Heap) (L : List Loc) : Prop := v = some (.ref s_ASCENDING) ∧ Fr n0 L ∧ h = h0
set_option maxRecDepth 65536 in
set_option maxHeartbeats 40000000 in
theorem rm_pick0 (l : Launch) (Z : State) (a0 : Array Value) (hw : ∀ d ∈ tables_1, d.before a0 Z = true) (ws : List Jvm.Cond) (p1_0 : Int32) (s_ASCENDING : Addr) (s_DESCENDING : Addr) (s_UNORDERED : Addr) (h0 : Heap) (n0 : Nat) (Z0 : n0 ≤ h0.size) (pf_O : Old Z n0 h0) (pf_S_com_example_dido_dido_keys_ColumnField_KeyOrder_ASCENDING : Sta Z Z.heap "com/example/dido/dido/keys/ColumnField$KeyOrder" "ASCENDING" "Lcom/example/dido/dido/keys/ColumnField$KeyOrder;" (.ref s_ASCENDING)) (pf_S_com_example_dido_dido_keys_ColumnField_KeyOrder_DESCENDING : Sta Z Z.heap "com/example/dido/dido/keys/ColumnField$KeyOrder" "DESCENDING" "Lcom/example/dido/dido/keys/ColumnField$KeyOrder;" (.ref s_DESCENDING)) (pf_S_com_example_dido_dido_keys_ColumnField_KeyOrder_UNORDERED : Sta Z Z.heap "com/example/dido/dido/keys/ColumnField$KeyOrder" "UNORDERED" "Lcom/example/dido/dido/keys/ColumnField$KeyOrder;" (.ref s_UNORDERED)) (hp : ((p1_0 &&& (2147483647 : Int32)) % (3 : Int32)) = (0 : Int32)) :
    MetFree l (⟨"com/example/dido/dido/keys/KeyOrderReversedPinLaw", "pick", "(I)Lcom/example/dido/dido/keys/ColumnField$KeyOrder;"⟩ : MethodName) (head1 (Jvm.Cond.code (⟨"com/example/dido/dido/keys/KeyOrderReversedPinLaw", "pick", "(I)Lcom/example/dido/dido/keys/ColumnField$KeyOrder;"⟩ : MethodName) method_2_code 2 (some (.object "com/example/dido/dido/keys/ColumnField$KeyOrder")) :: ws) ({ frames := 0, cells := 0, slots := 0, locals := 0 } : Room)) (fun a U => a = #[(.int p1_0)] ∧ Z.Warmed39 U.vm ∧ U.heap = h0) (fun _ _ _ _ _ => True) (fun _ U o U' => ∃ v L, o = .returned v ∧ Q_rm_pick0 Z p1_0 s_ASCENDING s_DESCENDING s_UNORDERED h0 n0 v U'.heap L ∧ FrameEnd U o U' L ({ frames := 0, cells := 0, slots := 0, locals := 0 } : Room).cells ({ frames := 0, cells := 0, slots := 0, locals := 0 } : Room).slots) := by
  refine MetFree.of_bodySF (plainFor_of_name pn_com_example_dido_dido_keys_KeyOrderReversedPinLaw) hisR ?_
  intro p e s m args below meth c s₁ Bd hml0 hP hK
  obtain ⟨rfl, hZ, hh⟩ := hP
  have hx := Bd.exec
  have hby := Bd.bytes
  have hml : c.maxLocals = 2 := hml0
  have hown : s.vm.findClass "com/example/dido/dido/keys/KeyOrderReversedPinLaw" = some m.cls := findClass_of_methodNamed Bd.named
  have hnm := (name_of_methodNamed Bd.named Bd.method).1
  have X0 : Stand p l e ({ frames := 0, cells := 0, slots := 0, locals := 0 } : Room) s m #[(.int p1_0)] below meth c s₁ [] 0 0 := Stand.of_body Bd
  have e0 : s₁.heap = h0 := by rw [← hh, Bd.state]; rfl
  have N0 := Fr.nil n0
  have pre0 : ∀ t, Steps p.tables e below (s₁.setTop (mkF m 0 #[iv p1_0, .unset] [])) t → Steps p.tables e below (s₁.setTop (entryFrame m #[(.int p1_0)] 2)) t := fun t k => castTop (ef_rm_pick0 m p1_0) k
  have wo4 := hw _ (List.mem_of_getElem? (i := 4) rfl)
  have wo5 := hw _ (List.mem_of_getElem? (i := 5) rfl)
  have q1 : ((p1_0 &&& (2147483647 : Int32)) % (3 : Int32)) = (0 : Int32) := hp
  obtain ⟨T2, X2, e2, st2⟩ := getS2 X0 hx hZ hown (host := "") (Or.inl wo5) Via.refl e0 (pf_S_com_example_dido_dido_keys_ColumnField_KeyOrder_ASCENDING.ext pf_O.2) (g := (mkF m 11 #[iv p1_0, iv (0 : Int32)] [])) rfl (hb hby d1_11)
  obtain ⟨fs, hr, hrun, hended, hW, hsame⟩ := X2.leave (v := some (.ref s_ASCENDING)) (fun h => by rw [Bd.returns] at h; cases h)
  refine ⟨_, _, pre0 _ ?_, hrun, hended, _, _, rfl, ?_, ⟨_, rfl⟩, hW, hsame.mono (by decide) (by decide)⟩
  · show Steps p.tables e below (s₁.setTop (mkF m 0 #[iv p1_0, .unset] [])) _
    refine XS.iloadN X0.here hx rfl (hb hby d1_0) rfl ?_
    show Steps p.tables e below (s₁.setTop (mkF m 1 #[iv p1_0, .unset] [(.int p1_0)])) _
    refine X0.ldcInt hx hown (mvT hZ wo4) (g := (mkF m 1 #[iv p1_0, .unset] [(.int p1_0)])) rfl (hb hby d1_1) _ ?_
    show Steps p.tables e below (s₁.setTop (mkF m 3 #[iv p1_0, .unset] [(.int (2147483647 : Int32)), (.int p1_0)])) _
    refine XS.iand X0.here hx rfl (hb hby d1_3) rfl ?_
    show Steps p.tables e below (s₁.setTop (mkF m 4 #[iv p1_0, .unset] [(.int (p1_0 &&& (2147483647 : Int32)))])) _
    refine XS.iconst X0.here hx rfl (hb hby d1_4) ?_
    show Steps p.tables e below (s₁.setTop (mkF m 5 #[iv p1_0, .unset] [(.int (3 : Int32)), (.int (p1_0 &&& (2147483647 : Int32)))])) _
    refine iremM (g := (mkF m 5 #[iv p1_0, .unset] [(.int (3 : Int32)), (.int (p1_0 &&& (2147483647 : Int32)))])) X0 hx rfl (hb hby d1_5) rfl (by decide) ?_
    show Steps p.tables e below (s₁.setTop (mkF m 6 #[iv p1_0, .unset] [(.int ((p1_0 &&& (2147483647 : Int32)) % (3 : Int32)))])) _
    refine XS.istoreN X0.here hx rfl (hb hby d1_6) rfl (l' := #[iv p1_0, iv ((p1_0 &&& (2147483647 : Int32)) % (3 : Int32))]) rfl ?_
    rw [q1]
    show Steps p.tables e below (s₁.setTop (mkF m 7 #[iv p1_0, iv (0 : Int32)] [])) _
    show Steps p.tables e below (s₁.setTop (mkF m 7 #[iv p1_0, iv (0 : Int32)] [])) _
    refine XS.iloadN X0.here hx rfl (hb hby d1_7) rfl ?_
    show Steps p.tables e below (s₁.setTop (mkF m 8 #[iv p1_0, iv (0 : Int32)] [(.int (0 : Int32))])) _
    refine XS.ifNo X0.here hx rfl (hb hby d1_8) rfl ((if0 _ _).trans (teq (by decide : (0 : Int32) = (0 : Int32))).2) ?_
    show Steps p.tables e below (s₁.setTop (mkF m 11 #[iv p1_0, iv (0 : Int32)] [])) _
    refine st2 _ ?_
    show Steps p.tables e below (T2.setTop (mkF m 14 #[iv p1_0, iv (0 : Int32)] [(.ref s_ASCENDING)])) _
    exact retOut X2 hx Bd.returns rfl (Or.inr (Or.inr (Or.inr (Or.inr ⟨rfl, rfl, rfl⟩)))) (hb hby d1_14) hr
  · show Q_rm_pick0 Z _ _ _ _ h0 n0 _ T2.heap _
    rw [e2]
    exact ⟨rfl, N0, rfl⟩
theorem d1_15 : decode method_2_code 15 = .ok (.iload_n 1, 1) := by decide +kernel
theorem d1_16 : decode method_2_code 16 = .ok (.iconst 1, 1) := by decide +kernel
theorem d1_17 : decode method_2_code 17 = .ok (.if_icmp .ne 7, 3) := by decide +kernel
theorem d1_20 : decode method_2_code 20 = .ok (.getstatic 14, 3) := by decide +kernel
theorem d1_23 : decode method_2_code 23 = .ok (.areturn, 1) := by decide +kernel
theorem ef_rm_pick1 (m : MethodId) (x0 : Int32) : entryFrame m #[(.int x0)] 2 = mkF m 0 #[iv x0, .unset] [] := by first | (simp [entryFrame, mkF, argsToLocals, Value.category]; done) | rfl
def Q_rm_pick1 (Z : State) (p1_0 : Int32) (s_ASCENDING : Addr) (s_DESCENDING : Addr) (s_UNORDERED : Addr) (h0 : Heap) (n0 : Nat) (v : Option Value) (h : Heap) (L : List Loc) : Prop := v = some (.ref s_DESCENDING) ∧ Fr n0 L ∧ h = h0
set_option maxRecDepth 65536 in
set_option maxHeartbeats 40000000 in
theorem rm_pick1 (l : Launch) (Z : State) (a0 : Array Value) (hw : ∀ d ∈ tables_1, d.before a0 Z = true) (ws : List Jvm.Cond) (p1_0 : Int32) (s_ASCENDING : Addr) (s_DESCENDING : Addr) (s_UNORDERED : Addr) (h0 : Heap) (n0 : Nat) (Z0 : n0 ≤ h0.size) (pf_O : Old Z n0 h0) (pf_S_com_example_dido_dido_keys_ColumnField_KeyOrder_ASCENDING : Sta Z Z.heap "com/example/dido/dido/keys/ColumnField$KeyOrder" "ASCENDING" "Lcom/example/dido/dido/keys/ColumnField$KeyOrder;" (.ref s_ASCENDING)) (pf_S_com_example_dido_dido_keys_ColumnField_KeyOrder_DESCENDING : Sta Z Z.heap "com/example/dido/dido/keys/ColumnField$KeyOrder" "DESCENDING" "Lcom/example/dido/dido/keys/ColumnField$KeyOrder;" (.ref s_DESCENDING)) (pf_S_com_example_dido_dido_keys_ColumnField_KeyOrder_UNORDERED : Sta Z Z.heap "com/example/dido/dido/keys/ColumnField$KeyOrder" "UNORDERED" "Lcom/example/dido/dido/keys/ColumnField$KeyOrder;" (.ref s_UNORDERED)) (hp : ((p1_0 &&& (2147483647 : Int32)) % (3 : Int32)) = (1 : Int32)) :
    MetFree l (⟨"com/example/dido/dido/keys/KeyOrderReversedPinLaw", "pick", "(I)Lcom/example/dido/dido/keys/ColumnField$KeyOrder;"⟩ : MethodName) (head1 (Jvm.Cond.code (⟨"com/example/dido/dido/keys/KeyOrderReversedPinLaw", "pick", "(I)Lcom/example/dido/dido/keys/ColumnField$KeyOrder;"⟩ : MethodName) method_2_code 2 (some (.object "com/example/dido/dido/keys/ColumnField$KeyOrder")) :: ws) ({ frames := 0, cells := 0, slots := 0, locals := 0 } : Room)) (fun a U => a = #[(.int p1_0)] ∧ Z.Warmed39 U.vm ∧ U.heap = h0) (fun _ _ _ _ _ => True) (fun _ U o U' => ∃ v L, o = .returned v ∧ Q_rm_pick1 Z p1_0 s_ASCENDING s_DESCENDING s_UNORDERED h0 n0 v U'.heap L ∧ FrameEnd U o U' L ({ frames := 0, cells := 0, slots := 0, locals := 0 } : Room).cells ({ frames := 0, cells := 0, slots := 0, locals := 0 } : Room).slots) := by
  refine MetFree.of_bodySF (plainFor_of_name pn_com_example_dido_dido_keys_KeyOrderReversedPinLaw) hisR ?_
  intro p e s m args below meth c s₁ Bd hml0 hP hK
  obtain ⟨rfl, hZ, hh⟩ := hP
  have hx := Bd.exec
  have hby := Bd.bytes
  have hml : c.maxLocals = 2 := hml0
  have hown : s.vm.findClass "com/example/dido/dido/keys/KeyOrderReversedPinLaw" = some m.cls := findClass_of_methodNamed Bd.named
  have hnm := (name_of_methodNamed Bd.named Bd.method).1
  have X0 : Stand p l e ({ frames := 0, cells := 0, slots := 0, locals := 0 } : Room) s m #[(.int p1_0)] below meth c s₁ [] 0 0 := Stand.of_body Bd
  have e0 : s₁.heap = h0 := by rw [← hh, Bd.state]; rfl
  have N0 := Fr.nil n0
  have pre0 : ∀ t, Steps p.tables e below (s₁.setTop (mkF m 0 #[iv p1_0, .unset] [])) t → Steps p.tables e below (s₁.setTop (entryFrame m #[(.int p1_0)] 2)) t := fun t k => castTop (ef_rm_pick1 m p1_0) k
  have wo4 := hw _ (List.mem_of_getElem? (i := 4) rfl)
  have wo28 := hw _ (List.mem_of_getElem? (i := 28) rfl)
  have q1 : ((p1_0 &&& (2147483647 : Int32)) % (3 : Int32)) = (1 : Int32) := hp
  obtain ⟨T2, X2, e2, st2⟩ := getS2 X0 hx hZ hown (host := "") (Or.inl wo28) Via.refl e0 (pf_S_com_example_dido_dido_keys_ColumnField_KeyOrder_DESCENDING.ext pf_O.2) (g := (mkF m 20 #[iv p1_0, iv (1 : Int32)] [])) rfl (hb hby d1_20)
  obtain ⟨fs, hr, hrun, hended, hW, hsame⟩ := X2.leave (v := some (.ref s_DESCENDING)) (fun h => by rw [Bd.returns] at h; cases h)
  refine ⟨_, _, pre0 _ ?_, hrun, hended, _, _, rfl, ?_, ⟨_, rfl⟩, hW, hsame.mono (by decide) (by decide)⟩
  · show Steps p.tables e below (s₁.setTop (mkF m 0 #[iv p1_0, .unset] [])) _
    refine XS.iloadN X0.here hx rfl (hb hby d1_0) rfl ?_
    show Steps p.tables e below (s₁.setTop (mkF m 1 #[iv p1_0, .unset] [(.int p1_0)])) _
    refine X0.ldcInt hx hown (mvT hZ wo4) (g := (mkF m 1 #[iv p1_0, .unset] [(.int p1_0)])) rfl (hb hby d1_1) _ ?_
    show Steps p.tables e below (s₁.setTop (mkF m 3 #[iv p1_0, .unset] [(.int (2147483647 : Int32)), (.int p1_0)])) _
    refine XS.iand X0.here hx rfl (hb hby d1_3) rfl ?_
    show Steps p.tables e below (s₁.setTop (mkF m 4 #[iv p1_0, .unset] [(.int (p1_0 &&& (2147483647 : Int32)))])) _
    refine XS.iconst X0.here hx rfl (hb hby d1_4) ?_
    show Steps p.tables e below (s₁.setTop (mkF m 5 #[iv p1_0, .unset] [(.int (3 : Int32)), (.int (p1_0 &&& (2147483647 : Int32)))])) _
    refine iremM (g := (mkF m 5 #[iv p1_0, .unset] [(.int (3 : Int32)), (.int (p1_0 &&& (2147483647 : Int32)))])) X0 hx rfl (hb hby d1_5) rfl (by decide) ?_
    show Steps p.tables e below (s₁.setTop (mkF m 6 #[iv p1_0, .unset] [(.int ((p1_0 &&& (2147483647 : Int32)) % (3 : Int32)))])) _
    refine XS.istoreN X0.here hx rfl (hb hby d1_6) rfl (l' := #[iv p1_0, iv ((p1_0 &&& (2147483647 : Int32)) % (3 : Int32))]) rfl ?_
    rw [q1]
    show Steps p.tables e below (s₁.setTop (mkF m 7 #[iv p1_0, iv (1 : Int32)] [])) _
    show Steps p.tables e below (s₁.setTop (mkF m 7 #[iv p1_0, iv (1 : Int32)] [])) _
    refine XS.iloadN X0.here hx rfl (hb hby d1_7) rfl ?_
    show Steps p.tables e below (s₁.setTop (mkF m 8 #[iv p1_0, iv (1 : Int32)] [(.int (1 : Int32))])) _
    refine XS.ifYes X0.here hx rfl (pc0 := 8) (pc' := 15) rfl (hb hby d1_8) rfl ((if0 _ _).trans (feq (by decide : ¬ ((1 : Int32) = (0 : Int32)))).2) (by decide) (by decide) ?_
    show Steps p.tables e below (s₁.setTop (mkF m 15 #[iv p1_0, iv (1 : Int32)] [])) _
    refine XS.iloadN X0.here hx rfl (hb hby d1_15) rfl ?_
    show Steps p.tables e below (s₁.setTop (mkF m 16 #[iv p1_0, iv (1 : Int32)] [(.int (1 : Int32))])) _
    refine XS.iconst X0.here hx rfl (hb hby d1_16) ?_
    show Steps p.tables e below (s₁.setTop (mkF m 17 #[iv p1_0, iv (1 : Int32)] [(.int (1 : Int32)), (.int (1 : Int32))])) _
    refine XS.icmpNo X0.here hx rfl (hb hby d1_17) rfl (teq (by decide : (1 : Int32) = (1 : Int32))).2 ?_
    show Steps p.tables e below (s₁.setTop (mkF m 20 #[iv p1_0, iv (1 : Int32)] [])) _
    refine st2 _ ?_
    show Steps p.tables e below (T2.setTop (mkF m 23 #[iv p1_0, iv (1 : Int32)] [(.ref s_DESCENDING)])) _
    exact retOut X2 hx Bd.returns rfl (Or.inr (Or.inr (Or.inr (Or.inr ⟨rfl, rfl, rfl⟩)))) (hb hby d1_23) hr
  · show Q_rm_pick1 Z _ _ _ _ h0 n0 _ T2.heap _
    rw [e2]
    exact ⟨rfl, N0, rfl⟩
theorem d1_24 : decode method_2_code 24 = .ok (.getstatic 17, 3) := by decide +kernel
theorem d1_27 : decode method_2_code 27 = .ok (.areturn, 1) := by decide +kernel
theorem ef_rm_pick2 (m : MethodId) (x0 : Int32) : entryFrame m #[(.int x0)] 2 = mkF m 0 #[iv x0, .unset] [] := by first | (simp [entryFrame, mkF, argsToLocals, Value.category]; done) | rfl
def Q_rm_pick2 (Z : State) (p1_0 : Int32) (s_ASCENDING : Addr) (s_DESCENDING : Addr) (s_UNORDERED : Addr) (h0 : Heap) (n0 : Nat) (v : Option Value) (h : Heap) (L : List Loc) : Prop := v = some (.ref s_UNORDERED) ∧ Fr n0 L ∧ h = h0
set_option maxRecDepth 65536 in
set_option maxHeartbeats 40000000 in
theorem rm_pick2 (l : Launch) (Z : State) (a0 : Array Value) (hw : ∀ d ∈ tables_1, d.before a0 Z = true) (ws : List Jvm.Cond) (p1_0 : Int32) (s_ASCENDING : Addr) (s_DESCENDING : Addr) (s_UNORDERED : Addr) (h0 : Heap) (n0 : Nat) (Z0 : n0 ≤ h0.size) (pf_O : Old Z n0 h0) (pf_S_com_example_dido_dido_keys_ColumnField_KeyOrder_ASCENDING : Sta Z Z.heap "com/example/dido/dido/keys/ColumnField$KeyOrder" "ASCENDING" "Lcom/example/dido/dido/keys/ColumnField$KeyOrder;" (.ref s_ASCENDING)) (pf_S_com_example_dido_dido_keys_ColumnField_KeyOrder_DESCENDING : Sta Z Z.heap "com/example/dido/dido/keys/ColumnField$KeyOrder" "DESCENDING" "Lcom/example/dido/dido/keys/ColumnField$KeyOrder;" (.ref s_DESCENDING)) (pf_S_com_example_dido_dido_keys_ColumnField_KeyOrder_UNORDERED : Sta Z Z.heap "com/example/dido/dido/keys/ColumnField$KeyOrder" "UNORDERED" "Lcom/example/dido/dido/keys/ColumnField$KeyOrder;" (.ref s_UNORDERED)) (hp : ((p1_0 &&& (2147483647 : Int32)) % (3 : Int32)) = (2 : Int32)) :
    MetFree l (⟨"com/example/dido/dido/keys/KeyOrderReversedPinLaw", "pick", "(I)Lcom/example/dido/dido/keys/ColumnField$KeyOrder;"⟩ : MethodName) (head1 (Jvm.Cond.code (⟨"com/example/dido/dido/keys/KeyOrderReversedPinLaw", "pick", "(I)Lcom/example/dido/dido/keys/ColumnField$KeyOrder;"⟩ : MethodName) method_2_code 2 (some (.object "com/example/dido/dido/keys/ColumnField$KeyOrder")) :: ws) ({ frames := 0, cells := 0, slots := 0, locals := 0 } : Room)) (fun a U => a = #[(.int p1_0)] ∧ Z.Warmed39 U.vm ∧ U.heap = h0) (fun _ _ _ _ _ => True) (fun _ U o U' => ∃ v L, o = .returned v ∧ Q_rm_pick2 Z p1_0 s_ASCENDING s_DESCENDING s_UNORDERED h0 n0 v U'.heap L ∧ FrameEnd U o U' L ({ frames := 0, cells := 0, slots := 0, locals := 0 } : Room).cells ({ frames := 0, cells := 0, slots := 0, locals := 0 } : Room).slots) := by
  refine MetFree.of_bodySF (plainFor_of_name pn_com_example_dido_dido_keys_KeyOrderReversedPinLaw) hisR ?_
  intro p e s m args below meth c s₁ Bd hml0 hP hK
  obtain ⟨rfl, hZ, hh⟩ := hP
  have hx := Bd.exec
  have hby := Bd.bytes
  have hml : c.maxLocals = 2 := hml0
  have hown : s.vm.findClass "com/example/dido/dido/keys/KeyOrderReversedPinLaw" = some m.cls := findClass_of_methodNamed Bd.named
  have hnm := (name_of_methodNamed Bd.named Bd.method).1
  have X0 : Stand p l e ({ frames := 0, cells := 0, slots := 0, locals := 0 } : Room) s m #[(.int p1_0)] below meth c s₁ [] 0 0 := Stand.of_body Bd
  have e0 : s₁.heap = h0 := by rw [← hh, Bd.state]; rfl
  have N0 := Fr.nil n0
  have pre0 : ∀ t, Steps p.tables e below (s₁.setTop (mkF m 0 #[iv p1_0, .unset] [])) t → Steps p.tables e below (s₁.setTop (entryFrame m #[(.int p1_0)] 2)) t := fun t k => castTop (ef_rm_pick2 m p1_0) k
  have wo4 := hw _ (List.mem_of_getElem? (i := 4) rfl)
  have wo25 := hw _ (List.mem_of_getElem? (i := 25) rfl)
  have q1 : ((p1_0 &&& (2147483647 : Int32)) % (3 : Int32)) = (2 : Int32) := hp
  obtain ⟨T2, X2, e2, st2⟩ := getS2 X0 hx hZ hown (host := "") (Or.inl wo25) Via.refl e0 (pf_S_com_example_dido_dido_keys_ColumnField_KeyOrder_UNORDERED.ext pf_O.2) (g := (mkF m 24 #[iv p1_0, iv (2 : Int32)] [])) rfl (hb hby d1_24)
  obtain ⟨fs, hr, hrun, hended, hW, hsame⟩ := X2.leave (v := some (.ref s_UNORDERED)) (fun h => by rw [Bd.returns] at h; cases h)
  refine ⟨_, _, pre0 _ ?_, hrun, hended, _, _, rfl, ?_, ⟨_, rfl⟩, hW, hsame.mono (by decide) (by decide)⟩
  · show Steps p.tables e below (s₁.setTop (mkF m 0 #[iv p1_0, .unset] [])) _
    refine XS.iloadN X0.here hx rfl (hb hby d1_0) rfl ?_
    show Steps p.tables e below (s₁.setTop (mkF m 1 #[iv p1_0, .unset] [(.int p1_0)])) _
    refine X0.ldcInt hx hown (mvT hZ wo4) (g := (mkF m 1 #[iv p1_0, .unset] [(.int p1_0)])) rfl (hb hby d1_1) _ ?_
    show Steps p.tables e below (s₁.setTop (mkF m 3 #[iv p1_0, .unset] [(.int (2147483647 : Int32)), (.int p1_0)])) _
    refine XS.iand X0.here hx rfl (hb hby d1_3) rfl ?_
    show Steps p.tables e below (s₁.setTop (mkF m 4 #[iv p1_0, .unset] [(.int (p1_0 &&& (2147483647 : Int32)))])) _
    refine XS.iconst X0.here hx rfl (hb hby d1_4) ?_
    show Steps p.tables e below (s₁.setTop (mkF m 5 #[iv p1_0, .unset] [(.int (3 : Int32)), (.int (p1_0 &&& (2147483647 : Int32)))])) _
    refine iremM (g := (mkF m 5 #[iv p1_0, .unset] [(.int (3 : Int32)), (.int (p1_0 &&& (2147483647 : Int32)))])) X0 hx rfl (hb hby d1_5) rfl (by decide) ?_
    show Steps p.tables e below (s₁.setTop (mkF m 6 #[iv p1_0, .unset] [(.int ((p1_0 &&& (2147483647 : Int32)) % (3 : Int32)))])) _
    refine XS.istoreN X0.here hx rfl (hb hby d1_6) rfl (l' := #[iv p1_0, iv ((p1_0 &&& (2147483647 : Int32)) % (3 : Int32))]) rfl ?_
    rw [q1]
    show Steps p.tables e below (s₁.setTop (mkF m 7 #[iv p1_0, iv (2 : Int32)] [])) _
    show Steps p.tables e below (s₁.setTop (mkF m 7 #[iv p1_0, iv (2 : Int32)] [])) _
    refine XS.iloadN X0.here hx rfl (hb hby d1_7) rfl ?_
    show Steps p.tables e below (s₁.setTop (mkF m 8 #[iv p1_0, iv (2 : Int32)] [(.int (2 : Int32))])) _
    refine XS.ifYes X0.here hx rfl (pc0 := 8) (pc' := 15) rfl (hb hby d1_8) rfl ((if0 _ _).trans (feq (by decide : ¬ ((2 : Int32) = (0 : Int32)))).2) (by decide) (by decide) ?_
    show Steps p.tables e below (s₁.setTop (mkF m 15 #[iv p1_0, iv (2 : Int32)] [])) _
    refine XS.iloadN X0.here hx rfl (hb hby d1_15) rfl ?_
    show Steps p.tables e below (s₁.setTop (mkF m 16 #[iv p1_0, iv (2 : Int32)] [(.int (2 : Int32))])) _
    refine XS.iconst X0.here hx rfl (hb hby d1_16) ?_
    show Steps p.tables e below (s₁.setTop (mkF m 17 #[iv p1_0, iv (2 : Int32)] [(.int (1 : Int32)), (.int (2 : Int32))])) _
    refine XS.icmpYes X0.here hx rfl (pc0 := 17) (pc' := 24) rfl (hb hby d1_17) rfl (feq (by decide : ¬ ((2 : Int32) = (1 : Int32)))).2 (by decide) (by decide) ?_
    show Steps p.tables e below (s₁.setTop (mkF m 24 #[iv p1_0, iv (2 : Int32)] [])) _
    refine st2 _ ?_
    show Steps p.tables e below (T2.setTop (mkF m 27 #[iv p1_0, iv (2 : Int32)] [(.ref s_UNORDERED)])) _
    exact retOut X2 hx Bd.returns rfl (Or.inr (Or.inr (Or.inr (Or.inr ⟨rfl, rfl, rfl⟩)))) (hb hby d1_27) hr
  · show Q_rm_pick2 Z _ _ _ _ h0 n0 _ T2.heap _
    rw [e2]
    exact ⟨rfl, N0, rfl⟩
theorem pd_2 : parseMethodDescriptor "(I)Lcom/example/dido/dido/keys/ColumnField$KeyOrder;" = some ⟨[.int], some (.object "com/example/dido/dido/keys/ColumnField$KeyOrder")⟩ := by decide +kernel
theorem pd_1 : parseMethodDescriptor "()Lcom/example/dido/dido/keys/ColumnField$KeyOrder;" = some ⟨[], some (.object "com/example/dido/dido/keys/ColumnField$KeyOrder")⟩ := by decide +kernel
theorem ef_rm0 (m : MethodId) (x0 : Int32) : entryFrame m #[(.int x0)] maxLocals = mkF m 0 #[iv x0, .unset, .unset, .unset, .unset, .unset, .unset, .unset] [] := by first | (simp [entryFrame, mkF, argsToLocals, Value.category, maxLocals]; done) | rfl
def Q_rm0 (Z : State) (p0_0 : Int32) (s_ASCENDING : Addr) (s_DESCENDING : Addr) (s_UNORDERED : Addr) (h0 : Heap) (n0 : Nat) (v : Option Value) (h : Heap) (L : List Loc) : Prop := v = some (.int (1 : Int32)) ∧ Fr n0 L ∧ Keep h0 h []
set_option maxRecDepth 65536 in
set_option maxHeartbeats 40000000 in
theorem rm0 (l : Launch) (Z : State) (a0 : Array Value) (hw : ∀ d ∈ tables_1, d.before a0 Z = true) (ws : List Jvm.Cond) (p0_0 : Int32) (s_ASCENDING : Addr) (s_DESCENDING : Addr) (s_UNORDERED : Addr) (h0 : Heap) (n0 : Nat) (Z0 : n0 ≤ h0.size) (pf_O : Old Z n0 h0) (pf_S_com_example_dido_dido_keys_ColumnField_KeyOrder_ASCENDING : Sta Z Z.heap "com/example/dido/dido/keys/ColumnField$KeyOrder" "ASCENDING" "Lcom/example/dido/dido/keys/ColumnField$KeyOrder;" (.ref s_ASCENDING)) (pf_E_s_ASCENDING : Exa Z h0 s_ASCENDING "com/example/dido/dido/keys/ColumnField$KeyOrder") (pf_F_s_ASCENDING_ordinal : Fld Z h0 s_ASCENDING "java/lang/Enum" "ordinal" "I" (.int (0 : Int32))) (pf_S_com_example_dido_dido_keys_ColumnField_KeyOrder_DESCENDING : Sta Z Z.heap "com/example/dido/dido/keys/ColumnField$KeyOrder" "DESCENDING" "Lcom/example/dido/dido/keys/ColumnField$KeyOrder;" (.ref s_DESCENDING)) (pf_E_s_DESCENDING : Exa Z h0 s_DESCENDING "com/example/dido/dido/keys/ColumnField$KeyOrder") (pf_F_s_DESCENDING_ordinal : Fld Z h0 s_DESCENDING "java/lang/Enum" "ordinal" "I" (.int (1 : Int32))) (pf_S_com_example_dido_dido_keys_ColumnField_KeyOrder_UNORDERED : Sta Z Z.heap "com/example/dido/dido/keys/ColumnField$KeyOrder" "UNORDERED" "Lcom/example/dido/dido/keys/ColumnField$KeyOrder;" (.ref s_UNORDERED)) (pf_E_s_UNORDERED : Exa Z h0 s_UNORDERED "com/example/dido/dido/keys/ColumnField$KeyOrder") (pf_F_s_UNORDERED_ordinal : Fld Z h0 s_UNORDERED "java/lang/Enum" "ordinal" "I" (.int (2 : Int32))) :
    MetFree l x (head1 (Jvm.Cond.code x code maxLocals ret :: ws) room_1) (fun a U => a = #[(.int p0_0)] ∧ Z.Warmed39 U.vm ∧ U.heap = h0) (fun _ _ _ _ _ => True) (fun _ U o U' => ∃ v L, o = .returned v ∧ Q_rm0 Z p0_0 s_ASCENDING s_DESCENDING s_UNORDERED h0 n0 v U'.heap L ∧ FrameEnd U o U' L room_1.cells room_1.slots) := by
  refine MetFree.of_bodySF (plainFor_of_name pn_com_example_dido_dido_keys_KeyOrderReversedPinLaw) hisR ?_
  intro p e s m args below meth c s₁ Bd hml0 hP hK
  obtain ⟨rfl, hZ, hh⟩ := hP
  have hx := Bd.exec
  have hby := Bd.bytes
  have hml : c.maxLocals = 8 := hml0
  have hown : s.vm.findClass "com/example/dido/dido/keys/KeyOrderReversedPinLaw" = some m.cls := findClass_of_methodNamed Bd.named
  have hnm := (name_of_methodNamed Bd.named Bd.method).1
  have X0 : Stand p l e room_1 s m #[(.int p0_0)] below meth c s₁ [] 0 0 := Stand.of_body Bd
  have e0 : s₁.heap = h0 := by rw [← hh, Bd.state]; rfl
  have N0 := Fr.nil n0
  have pre0 : ∀ t, Steps p.tables e below (s₁.setTop (mkF m 0 #[iv p0_0, .unset, .unset, .unset, .unset, .unset, .unset, .unset] [])) t → Steps p.tables e below (s₁.setTop (entryFrame m #[(.int p0_0)] maxLocals)) t := fun t k => castTop (ef_rm0 m p0_0) k
  have wo0 := hw _ (List.mem_of_getElem? (i := 0) rfl)
  have wo1 := hw _ (List.mem_of_getElem? (i := 1) rfl)
  have wo2 := hw _ (List.mem_of_getElem? (i := 2) rfl)
  have wo3 := hw _ (List.mem_of_getElem? (i := 3) rfl)
  have wo6 := hw _ (List.mem_of_getElem? (i := 6) rfl)
  have wo8 := hw _ (List.mem_of_getElem? (i := 8) rfl)
  have wo9 := hw _ (List.mem_of_getElem? (i := 9) rfl)
  have wo10 := hw _ (List.mem_of_getElem? (i := 10) rfl)
  have wo11 := hw _ (List.mem_of_getElem? (i := 11) rfl)
  have wo12 := hw _ (List.mem_of_getElem? (i := 12) rfl)
  have wo25 := hw _ (List.mem_of_getElem? (i := 25) rfl)
  have ne1 : s_ASCENDING ≠ s_DESCENDING := Fld.ne pf_F_s_ASCENDING_ordinal pf_F_s_DESCENDING_ordinal (fun q => absurd (Value.int.inj q) (by decide))
  have ne2 : s_ASCENDING ≠ s_UNORDERED := Fld.ne pf_F_s_ASCENDING_ordinal pf_F_s_UNORDERED_ordinal (fun q => absurd (Value.int.inj q) (by decide))
  have ne3 : s_DESCENDING ≠ s_UNORDERED := Fld.ne pf_F_s_DESCENDING_ordinal pf_F_s_UNORDERED_ordinal (fun q => absurd (Value.int.inj q) (by decide))
  rcases own_mod3 p0_0 with hp | hp | hp
  · skip
    obtain ⟨_, _, ⟨T4, L4, k4, n4⟩, -, X4, ⟨Lc4, hQ4, l4, y4, z4⟩, st4⟩ := Jvm.LawKit.callS X0 hx (y := MN1) hown (mvT hZ wo0) (mvT hZ wo1) (mvT hZ wo2) (mvT hZ wo3) (by decide) (backOf (W := 0) (rm_pick0 l Z a0 hw [] p0_0 s_ASCENDING s_DESCENDING s_UNORDERED h0 n0 Z0 pf_O pf_S_com_example_dido_dido_keys_ColumnField_KeyOrder_ASCENDING pf_S_com_example_dido_dido_keys_ColumnField_KeyOrder_DESCENDING pf_S_com_example_dido_dido_keys_ColumnField_KeyOrder_UNORDERED (hp : ((p0_0 &&& (2147483647 : Int32)) % (3 : Int32)) = (0 : Int32))) hZ wo3 wo2 (by decide) (by decide)) (g := (mkF m 1 #[iv p0_0, .unset, .unset, .unset, .unset, .unset, .unset, .unset] [(.int p0_0)])) rfl (by rw [hml]; rfl) (argsL := [(.int p0_0)]) (rest := []) (lenOf pd_2 rfl) rfl (by show 2 * 0 + _ ≤ _; exact Nat.le_of_eq rfl) (hb hby at_1) (fun _ _ => ⟨rfl, e0, (by decide : 0 + 0 ≤ _), (by decide : 0 + 0 ≤ _)⟩)
    dsimp only [Pt.U, Pt.locs, Pt.cells, Pt.slots] at X4 l4 y4 z4 st4 hQ4
    subst l4 y4 z4
    obtain ⟨rfl, N4q, K4q⟩ := hQ4
    have N5 := Fr.app N0 N4q
    obtain ⟨cq6, kq6, q6a, q6b, q6c⟩ := isOf hZ K4q pf_E_s_ASCENDING
    obtain ⟨_, _, ⟨T6, L6, k6, n6⟩, -, X6, ⟨Lc6, hQ6, l6, y6, z6⟩, st6⟩ := X4.virtualBack hx (y := MN2) (z := MN2) hown (mvT hZ wo8) (mvT hZ wo9) (notFace_of_selects (args := #[]) (mvT hZ wo11)) (mvT hZ wo11) (mvT hZ wo10) (by decide) (backOf (W := 0) (rm_rev0 l Z a0 hw [] s_ASCENDING s_ASCENDING s_DESCENDING s_UNORDERED h0 n0 Z0 pf_O pf_S_com_example_dido_dido_keys_ColumnField_KeyOrder_ASCENDING pf_S_com_example_dido_dido_keys_ColumnField_KeyOrder_DESCENDING pf_S_com_example_dido_dido_keys_ColumnField_KeyOrder_UNORDERED pf_E_s_ASCENDING pf_F_s_ASCENDING_ordinal) hZ wo12 wo6 (by decide) (by decide)) q6a q6c (g := (mkF m 6 #[iv p0_0, rv s_ASCENDING, .unset, .unset, .unset, .unset, .unset, .unset] [(.ref s_ASCENDING)])) rfl (by rw [hml]; rfl) (Steps.refl _) (argsL := []) (rest := []) (lenOf pd_1 rfl) rfl (by show 2 * 0 + _ ≤ _; exact Nat.le_of_eq rfl) (hb hby at_6) (fun _ _ => ⟨rfl, K4q, (by decide : 0 + 0 ≤ _), (by decide : 0 + 0 ≤ _)⟩)
    dsimp only [Pt.U, Pt.locs, Pt.cells, Pt.slots] at X6 l6 y6 z6 st6 hQ6
    subst l6 y6 z6
    obtain ⟨rfl, N6q, K6q⟩ := hQ6
    have N7 := Fr.app N5 N6q
    obtain ⟨cq8, kq8, q8a, q8b, q8c⟩ := isOf hZ K6q pf_E_s_DESCENDING
    obtain ⟨_, _, ⟨T8, L8, k8, n8⟩, -, X8, ⟨Lc8, hQ8, l8, y8, z8⟩, st8⟩ := X6.virtualBack hx (y := MN2) (z := MN2) hown (mvT hZ wo8) (mvT hZ wo9) (notFace_of_selects (args := #[]) (mvT hZ wo11)) (mvT hZ wo11) (mvT hZ wo10) (by decide) (backOf (W := 0) (rm_rev1 l Z a0 hw [] s_DESCENDING s_ASCENDING s_DESCENDING s_UNORDERED h0 n0 Z0 pf_O pf_S_com_example_dido_dido_keys_ColumnField_KeyOrder_ASCENDING pf_S_com_example_dido_dido_keys_ColumnField_KeyOrder_DESCENDING pf_S_com_example_dido_dido_keys_ColumnField_KeyOrder_UNORDERED pf_E_s_DESCENDING pf_F_s_DESCENDING_ordinal) hZ wo12 wo6 (by decide) (by decide)) q8a q8c (g := (mkF m 17 #[iv p0_0, rv s_ASCENDING, rv s_DESCENDING, .unset, .unset, .unset, .unset, .unset] [(.ref s_DESCENDING)])) rfl (by rw [hml]; rfl) (Steps.refl _) (argsL := []) (rest := []) (lenOf pd_1 rfl) rfl (by show 2 * 0 + _ ≤ _; exact Nat.le_of_eq rfl) (hb hby at_17) (fun _ _ => ⟨rfl, K6q, (by decide : 0 + 0 ≤ _), (by decide : 0 + 0 ≤ _)⟩)
    dsimp only [Pt.U, Pt.locs, Pt.cells, Pt.slots] at X8 l8 y8 z8 st8 hQ8
    subst l8 y8 z8
    obtain ⟨rfl, N8q, K8q⟩ := hQ8
    have N9 := Fr.app N7 N8q
    obtain ⟨T10, X10, e10, st10⟩ := getS2 X8 hx hZ hown (host := "") (Or.inl wo25) Via.refl K8q (pf_S_com_example_dido_dido_keys_ColumnField_KeyOrder_UNORDERED.ext pf_O.2) (g := (mkF m 22 #[iv p0_0, rv s_ASCENDING, rv s_DESCENDING, rv s_ASCENDING, .unset, .unset, .unset, .unset] [(.ref s_ASCENDING)])) rfl (hb hby at_22)
    obtain ⟨T11, X11, e11, st11⟩ := getS2 X10 hx hZ hown (host := "") (Or.inl wo25) Via.refl e10 (pf_S_com_example_dido_dido_keys_ColumnField_KeyOrder_UNORDERED.ext pf_O.2) (g := (mkF m 70 #[iv p0_0, rv s_ASCENDING, rv s_DESCENDING, rv s_ASCENDING, iv (0 : Int32), iv (1 : Int32), iv (1 : Int32), .unset] [(.ref s_DESCENDING)])) rfl (hb hby at_70)
    obtain ⟨fs, hr, hrun, hended, hW, hsame⟩ := X11.leave (v := some (.int (1 : Int32))) (fun h => by rw [Bd.returns] at h; cases h)
    refine ⟨_, _, pre0 _ ?_, hrun, hended, _, _, rfl, ?_, ⟨_, rfl⟩, hW, hsame.mono (by decide) (by decide)⟩
    · show Steps p.tables e below (s₁.setTop (mkF m 0 #[iv p0_0, .unset, .unset, .unset, .unset, .unset, .unset, .unset] [])) _
      refine XS.iloadN X0.here hx rfl (hb hby at_0) rfl ?_
      show Steps p.tables e below (s₁.setTop (mkF m 1 #[iv p0_0, .unset, .unset, .unset, .unset, .unset, .unset, .unset] [(.int p0_0)])) _
      refine st4 _ ?_
      show Steps p.tables e below (T4.setTop (mkF m 4 #[iv p0_0, .unset, .unset, .unset, .unset, .unset, .unset, .unset] [(.ref s_ASCENDING)])) _
      refine XS.astoreN X4.here hx rfl (hb hby at_4) rfl rfl (l' := #[iv p0_0, rv s_ASCENDING, .unset, .unset, .unset, .unset, .unset, .unset]) rfl ?_
      show Steps p.tables e below (T4.setTop (mkF m 5 #[iv p0_0, rv s_ASCENDING, .unset, .unset, .unset, .unset, .unset, .unset] [])) _
      refine XS.aloadN X4.here hx rfl (hb hby at_5) rfl rfl ?_
      show Steps p.tables e below (T4.setTop (mkF m 6 #[iv p0_0, rv s_ASCENDING, .unset, .unset, .unset, .unset, .unset, .unset] [(.ref s_ASCENDING)])) _
      refine st6.trans ?_
      show Steps p.tables e below (T6.setTop (mkF m 9 #[iv p0_0, rv s_ASCENDING, .unset, .unset, .unset, .unset, .unset, .unset] [(.ref s_DESCENDING)])) _
      refine XS.astoreN X6.here hx rfl (hb hby at_9) rfl rfl (l' := #[iv p0_0, rv s_ASCENDING, rv s_DESCENDING, .unset, .unset, .unset, .unset, .unset]) rfl ?_
      show Steps p.tables e below (T6.setTop (mkF m 10 #[iv p0_0, rv s_ASCENDING, rv s_DESCENDING, .unset, .unset, .unset, .unset, .unset] [])) _
      refine XS.aloadN X6.here hx rfl (hb hby at_10) rfl rfl ?_
      show Steps p.tables e below (T6.setTop (mkF m 11 #[iv p0_0, rv s_ASCENDING, rv s_DESCENDING, .unset, .unset, .unset, .unset, .unset] [(.ref s_DESCENDING)])) _
      refine XS.ifnonnullYes X6.here hx rfl (pc0 := 11) (pc' := 16) rfl (hb hby at_11) rfl (by decide) (by decide) ?_
      show Steps p.tables e below (T6.setTop (mkF m 16 #[iv p0_0, rv s_ASCENDING, rv s_DESCENDING, .unset, .unset, .unset, .unset, .unset] [])) _
      refine XS.aloadN X6.here hx rfl (hb hby at_16) rfl rfl ?_
      show Steps p.tables e below (T6.setTop (mkF m 17 #[iv p0_0, rv s_ASCENDING, rv s_DESCENDING, .unset, .unset, .unset, .unset, .unset] [(.ref s_DESCENDING)])) _
      refine st8.trans ?_
      show Steps p.tables e below (T8.setTop (mkF m 20 #[iv p0_0, rv s_ASCENDING, rv s_DESCENDING, .unset, .unset, .unset, .unset, .unset] [(.ref s_ASCENDING)])) _
      refine XS.astoreN X8.here hx rfl (hb hby at_20) rfl rfl (l' := #[iv p0_0, rv s_ASCENDING, rv s_DESCENDING, rv s_ASCENDING, .unset, .unset, .unset, .unset]) rfl ?_
      show Steps p.tables e below (T8.setTop (mkF m 21 #[iv p0_0, rv s_ASCENDING, rv s_DESCENDING, rv s_ASCENDING, .unset, .unset, .unset, .unset] [])) _
      refine XS.aloadN X8.here hx rfl (hb hby at_21) rfl rfl ?_
      show Steps p.tables e below (T8.setTop (mkF m 22 #[iv p0_0, rv s_ASCENDING, rv s_DESCENDING, rv s_ASCENDING, .unset, .unset, .unset, .unset] [(.ref s_ASCENDING)])) _
      refine st10 _ ?_
      show Steps p.tables e below (T10.setTop (mkF m 25 #[iv p0_0, rv s_ASCENDING, rv s_DESCENDING, rv s_ASCENDING, .unset, .unset, .unset, .unset] [(.ref s_UNORDERED), (.ref s_ASCENDING)])) _
      refine Jvm.RoadKit.acmp (g := (mkF m 25 #[iv p0_0, rv s_ASCENDING, rv s_DESCENDING, rv s_ASCENDING, .unset, .unset, .unset, .unset] [(.ref s_UNORDERED), (.ref s_ASCENDING)])) X10 hx rfl rfl rfl (pc0 := 25) (pc' := 32) (same := false) rfl (hb hby at_25) rfl (decide_eq_false fun q => ne2 (Value.ref.inj q)) (by decide) (by decide) ?_
      show Steps p.tables e below (T10.setTop (mkF m 32 #[iv p0_0, rv s_ASCENDING, rv s_DESCENDING, rv s_ASCENDING, .unset, .unset, .unset, .unset] [])) _
      refine XS.iconst X10.here hx rfl (hb hby at_32) ?_
      show Steps p.tables e below (T10.setTop (mkF m 33 #[iv p0_0, rv s_ASCENDING, rv s_DESCENDING, rv s_ASCENDING, .unset, .unset, .unset, .unset] [(.int (0 : Int32))])) _
      refine XS.istore X10.here hx rfl (hb hby at_33) rfl (l' := #[iv p0_0, rv s_ASCENDING, rv s_DESCENDING, rv s_ASCENDING, iv (0 : Int32), .unset, .unset, .unset]) rfl ?_
      show Steps p.tables e below (T10.setTop (mkF m 35 #[iv p0_0, rv s_ASCENDING, rv s_DESCENDING, rv s_ASCENDING, iv (0 : Int32), .unset, .unset, .unset] [])) _
      refine XS.aloadN X10.here hx rfl (hb hby at_35) rfl rfl ?_
      show Steps p.tables e below (T10.setTop (mkF m 36 #[iv p0_0, rv s_ASCENDING, rv s_DESCENDING, rv s_ASCENDING, iv (0 : Int32), .unset, .unset, .unset] [(.ref s_ASCENDING)])) _
      refine XS.aloadN X10.here hx rfl (hb hby at_36) rfl rfl ?_
      show Steps p.tables e below (T10.setTop (mkF m 37 #[iv p0_0, rv s_ASCENDING, rv s_DESCENDING, rv s_ASCENDING, iv (0 : Int32), .unset, .unset, .unset] [(.ref s_ASCENDING), (.ref s_ASCENDING)])) _
      refine Jvm.RoadKit.acmp (g := (mkF m 37 #[iv p0_0, rv s_ASCENDING, rv s_DESCENDING, rv s_ASCENDING, iv (0 : Int32), .unset, .unset, .unset] [(.ref s_ASCENDING), (.ref s_ASCENDING)])) X10 hx rfl rfl rfl (pc0 := 37) (pc' := 40) (same := true) rfl (hb hby at_37) rfl (decide_eq_true rfl) (by decide) (by decide) ?_
      show Steps p.tables e below (T10.setTop (mkF m 40 #[iv p0_0, rv s_ASCENDING, rv s_DESCENDING, rv s_ASCENDING, iv (0 : Int32), .unset, .unset, .unset] [])) _
      refine XS.iconst X10.here hx rfl (hb hby at_40) ?_
      show Steps p.tables e below (T10.setTop (mkF m 41 #[iv p0_0, rv s_ASCENDING, rv s_DESCENDING, rv s_ASCENDING, iv (0 : Int32), .unset, .unset, .unset] [(.int (1 : Int32))])) _
      refine XS.goto X10.here hx rfl (pc0 := 41) (pc' := 45) rfl (hb hby at_41) (by decide) (by decide) ?_
      show Steps p.tables e below (T10.setTop (mkF m 45 #[iv p0_0, rv s_ASCENDING, rv s_DESCENDING, rv s_ASCENDING, iv (0 : Int32), .unset, .unset, .unset] [(.int (1 : Int32))])) _
      refine XS.istore X10.here hx rfl (hb hby at_45) rfl (l' := #[iv p0_0, rv s_ASCENDING, rv s_DESCENDING, rv s_ASCENDING, iv (0 : Int32), iv (1 : Int32), .unset, .unset]) rfl ?_
      show Steps p.tables e below (T10.setTop (mkF m 47 #[iv p0_0, rv s_ASCENDING, rv s_DESCENDING, rv s_ASCENDING, iv (0 : Int32), iv (1 : Int32), .unset, .unset] [])) _
      refine XS.aloadN X10.here hx rfl (hb hby at_47) rfl rfl ?_
      show Steps p.tables e below (T10.setTop (mkF m 48 #[iv p0_0, rv s_ASCENDING, rv s_DESCENDING, rv s_ASCENDING, iv (0 : Int32), iv (1 : Int32), .unset, .unset] [(.ref s_DESCENDING)])) _
      refine XS.aloadN X10.here hx rfl (hb hby at_48) rfl rfl ?_
      show Steps p.tables e below (T10.setTop (mkF m 49 #[iv p0_0, rv s_ASCENDING, rv s_DESCENDING, rv s_ASCENDING, iv (0 : Int32), iv (1 : Int32), .unset, .unset] [(.ref s_ASCENDING), (.ref s_DESCENDING)])) _
      refine Jvm.RoadKit.acmp (g := (mkF m 49 #[iv p0_0, rv s_ASCENDING, rv s_DESCENDING, rv s_ASCENDING, iv (0 : Int32), iv (1 : Int32), .unset, .unset] [(.ref s_ASCENDING), (.ref s_DESCENDING)])) X10 hx rfl rfl rfl (pc0 := 49) (pc' := 56) (same := false) rfl (hb hby at_49) rfl (decide_eq_false fun q => (Ne.symm ne1) (Value.ref.inj q)) (by decide) (by decide) ?_
      show Steps p.tables e below (T10.setTop (mkF m 56 #[iv p0_0, rv s_ASCENDING, rv s_DESCENDING, rv s_ASCENDING, iv (0 : Int32), iv (1 : Int32), .unset, .unset] [])) _
      refine XS.iconst X10.here hx rfl (hb hby at_56) ?_
      show Steps p.tables e below (T10.setTop (mkF m 57 #[iv p0_0, rv s_ASCENDING, rv s_DESCENDING, rv s_ASCENDING, iv (0 : Int32), iv (1 : Int32), .unset, .unset] [(.int (0 : Int32))])) _
      refine XS.iload X10.here hx rfl (hb hby at_57) rfl ?_
      show Steps p.tables e below (T10.setTop (mkF m 59 #[iv p0_0, rv s_ASCENDING, rv s_DESCENDING, rv s_ASCENDING, iv (0 : Int32), iv (1 : Int32), .unset, .unset] [(.int (0 : Int32)), (.int (0 : Int32))])) _
      refine XS.icmpNo X10.here hx rfl (hb hby at_59) rfl (teq (by decide : (0 : Int32) = (0 : Int32))).2 ?_
      show Steps p.tables e below (T10.setTop (mkF m 62 #[iv p0_0, rv s_ASCENDING, rv s_DESCENDING, rv s_ASCENDING, iv (0 : Int32), iv (1 : Int32), .unset, .unset] [])) _
      refine XS.iconst X10.here hx rfl (hb hby at_62) ?_
      show Steps p.tables e below (T10.setTop (mkF m 63 #[iv p0_0, rv s_ASCENDING, rv s_DESCENDING, rv s_ASCENDING, iv (0 : Int32), iv (1 : Int32), .unset, .unset] [(.int (1 : Int32))])) _
      refine XS.goto X10.here hx rfl (pc0 := 63) (pc' := 67) rfl (hb hby at_63) (by decide) (by decide) ?_
      show Steps p.tables e below (T10.setTop (mkF m 67 #[iv p0_0, rv s_ASCENDING, rv s_DESCENDING, rv s_ASCENDING, iv (0 : Int32), iv (1 : Int32), .unset, .unset] [(.int (1 : Int32))])) _
      refine XS.istore X10.here hx rfl (hb hby at_67) rfl (l' := #[iv p0_0, rv s_ASCENDING, rv s_DESCENDING, rv s_ASCENDING, iv (0 : Int32), iv (1 : Int32), iv (1 : Int32), .unset]) rfl ?_
      show Steps p.tables e below (T10.setTop (mkF m 69 #[iv p0_0, rv s_ASCENDING, rv s_DESCENDING, rv s_ASCENDING, iv (0 : Int32), iv (1 : Int32), iv (1 : Int32), .unset] [])) _
      refine XS.aloadN X10.here hx rfl (hb hby at_69) rfl rfl ?_
      show Steps p.tables e below (T10.setTop (mkF m 70 #[iv p0_0, rv s_ASCENDING, rv s_DESCENDING, rv s_ASCENDING, iv (0 : Int32), iv (1 : Int32), iv (1 : Int32), .unset] [(.ref s_DESCENDING)])) _
      refine st11 _ ?_
      show Steps p.tables e below (T11.setTop (mkF m 73 #[iv p0_0, rv s_ASCENDING, rv s_DESCENDING, rv s_ASCENDING, iv (0 : Int32), iv (1 : Int32), iv (1 : Int32), .unset] [(.ref s_UNORDERED), (.ref s_DESCENDING)])) _
      refine Jvm.RoadKit.acmp (g := (mkF m 73 #[iv p0_0, rv s_ASCENDING, rv s_DESCENDING, rv s_ASCENDING, iv (0 : Int32), iv (1 : Int32), iv (1 : Int32), .unset] [(.ref s_UNORDERED), (.ref s_DESCENDING)])) X11 hx rfl rfl rfl (pc0 := 73) (pc' := 80) (same := false) rfl (hb hby at_73) rfl (decide_eq_false fun q => ne3 (Value.ref.inj q)) (by decide) (by decide) ?_
      show Steps p.tables e below (T11.setTop (mkF m 80 #[iv p0_0, rv s_ASCENDING, rv s_DESCENDING, rv s_ASCENDING, iv (0 : Int32), iv (1 : Int32), iv (1 : Int32), .unset] [])) _
      refine XS.iconst X11.here hx rfl (hb hby at_80) ?_
      show Steps p.tables e below (T11.setTop (mkF m 81 #[iv p0_0, rv s_ASCENDING, rv s_DESCENDING, rv s_ASCENDING, iv (0 : Int32), iv (1 : Int32), iv (1 : Int32), .unset] [(.int (0 : Int32))])) _
      refine XS.iload X11.here hx rfl (hb hby at_81) rfl ?_
      show Steps p.tables e below (T11.setTop (mkF m 83 #[iv p0_0, rv s_ASCENDING, rv s_DESCENDING, rv s_ASCENDING, iv (0 : Int32), iv (1 : Int32), iv (1 : Int32), .unset] [(.int (0 : Int32)), (.int (0 : Int32))])) _
      refine XS.icmpNo X11.here hx rfl (hb hby at_83) rfl (teq (by decide : (0 : Int32) = (0 : Int32))).2 ?_
      show Steps p.tables e below (T11.setTop (mkF m 86 #[iv p0_0, rv s_ASCENDING, rv s_DESCENDING, rv s_ASCENDING, iv (0 : Int32), iv (1 : Int32), iv (1 : Int32), .unset] [])) _
      refine XS.iconst X11.here hx rfl (hb hby at_86) ?_
      show Steps p.tables e below (T11.setTop (mkF m 87 #[iv p0_0, rv s_ASCENDING, rv s_DESCENDING, rv s_ASCENDING, iv (0 : Int32), iv (1 : Int32), iv (1 : Int32), .unset] [(.int (1 : Int32))])) _
      refine XS.goto X11.here hx rfl (pc0 := 87) (pc' := 91) rfl (hb hby at_87) (by decide) (by decide) ?_
      show Steps p.tables e below (T11.setTop (mkF m 91 #[iv p0_0, rv s_ASCENDING, rv s_DESCENDING, rv s_ASCENDING, iv (0 : Int32), iv (1 : Int32), iv (1 : Int32), .unset] [(.int (1 : Int32))])) _
      refine XS.istore X11.here hx rfl (hb hby at_91) rfl (l' := #[iv p0_0, rv s_ASCENDING, rv s_DESCENDING, rv s_ASCENDING, iv (0 : Int32), iv (1 : Int32), iv (1 : Int32), iv (1 : Int32)]) rfl ?_
      show Steps p.tables e below (T11.setTop (mkF m 93 #[iv p0_0, rv s_ASCENDING, rv s_DESCENDING, rv s_ASCENDING, iv (0 : Int32), iv (1 : Int32), iv (1 : Int32), iv (1 : Int32)] [])) _
      refine XS.iload X11.here hx rfl (hb hby at_93) rfl ?_
      show Steps p.tables e below (T11.setTop (mkF m 95 #[iv p0_0, rv s_ASCENDING, rv s_DESCENDING, rv s_ASCENDING, iv (0 : Int32), iv (1 : Int32), iv (1 : Int32), iv (1 : Int32)] [(.int (1 : Int32))])) _
      refine XS.ifNo X11.here hx rfl (hb hby at_95) rfl ((if0 _ _).trans (feq (by decide : ¬ ((1 : Int32) = (0 : Int32)))).1) ?_
      show Steps p.tables e below (T11.setTop (mkF m 98 #[iv p0_0, rv s_ASCENDING, rv s_DESCENDING, rv s_ASCENDING, iv (0 : Int32), iv (1 : Int32), iv (1 : Int32), iv (1 : Int32)] [])) _
      refine XS.iload X11.here hx rfl (hb hby at_98) rfl ?_
      show Steps p.tables e below (T11.setTop (mkF m 100 #[iv p0_0, rv s_ASCENDING, rv s_DESCENDING, rv s_ASCENDING, iv (0 : Int32), iv (1 : Int32), iv (1 : Int32), iv (1 : Int32)] [(.int (1 : Int32))])) _
      refine XS.ifNo X11.here hx rfl (hb hby at_100) rfl ((if0 _ _).trans (feq (by decide : ¬ ((1 : Int32) = (0 : Int32)))).1) ?_
      show Steps p.tables e below (T11.setTop (mkF m 103 #[iv p0_0, rv s_ASCENDING, rv s_DESCENDING, rv s_ASCENDING, iv (0 : Int32), iv (1 : Int32), iv (1 : Int32), iv (1 : Int32)] [])) _
      refine XS.iload X11.here hx rfl (hb hby at_103) rfl ?_
      show Steps p.tables e below (T11.setTop (mkF m 105 #[iv p0_0, rv s_ASCENDING, rv s_DESCENDING, rv s_ASCENDING, iv (0 : Int32), iv (1 : Int32), iv (1 : Int32), iv (1 : Int32)] [(.int (1 : Int32))])) _
      refine XS.ifNo X11.here hx rfl (hb hby at_105) rfl ((if0 _ _).trans (feq (by decide : ¬ ((1 : Int32) = (0 : Int32)))).1) ?_
      show Steps p.tables e below (T11.setTop (mkF m 108 #[iv p0_0, rv s_ASCENDING, rv s_DESCENDING, rv s_ASCENDING, iv (0 : Int32), iv (1 : Int32), iv (1 : Int32), iv (1 : Int32)] [])) _
      refine XS.iconst X11.here hx rfl (hb hby at_108) ?_
      show Steps p.tables e below (T11.setTop (mkF m 109 #[iv p0_0, rv s_ASCENDING, rv s_DESCENDING, rv s_ASCENDING, iv (0 : Int32), iv (1 : Int32), iv (1 : Int32), iv (1 : Int32)] [(.int (1 : Int32))])) _
      refine XS.goto X11.here hx rfl (pc0 := 109) (pc' := 113) rfl (hb hby at_109) (by decide) (by decide) ?_
      show Steps p.tables e below (T11.setTop (mkF m 113 #[iv p0_0, rv s_ASCENDING, rv s_DESCENDING, rv s_ASCENDING, iv (0 : Int32), iv (1 : Int32), iv (1 : Int32), iv (1 : Int32)] [(.int (1 : Int32))])) _
      exact retN X11 hx (t := .boolean) Bd.returns (by simp) (hb hby at_113) hr
    · show Q_rm0 Z _ _ _ _ h0 n0 _ T11.heap _
      rw [e11]
      exact ⟨rfl, N9, (Keep.refl h0 [])⟩
  · skip
    obtain ⟨_, _, ⟨T12, L12, k12, n12⟩, -, X12, ⟨Lc12, hQ12, l12, y12, z12⟩, st12⟩ := Jvm.LawKit.callS X0 hx (y := MN1) hown (mvT hZ wo0) (mvT hZ wo1) (mvT hZ wo2) (mvT hZ wo3) (by decide) (backOf (W := 0) (rm_pick1 l Z a0 hw [] p0_0 s_ASCENDING s_DESCENDING s_UNORDERED h0 n0 Z0 pf_O pf_S_com_example_dido_dido_keys_ColumnField_KeyOrder_ASCENDING pf_S_com_example_dido_dido_keys_ColumnField_KeyOrder_DESCENDING pf_S_com_example_dido_dido_keys_ColumnField_KeyOrder_UNORDERED (hp : ((p0_0 &&& (2147483647 : Int32)) % (3 : Int32)) = (1 : Int32))) hZ wo3 wo2 (by decide) (by decide)) (g := (mkF m 1 #[iv p0_0, .unset, .unset, .unset, .unset, .unset, .unset, .unset] [(.int p0_0)])) rfl (by rw [hml]; rfl) (argsL := [(.int p0_0)]) (rest := []) (lenOf pd_2 rfl) rfl (by show 2 * 0 + _ ≤ _; exact Nat.le_of_eq rfl) (hb hby at_1) (fun _ _ => ⟨rfl, e0, (by decide : 0 + 0 ≤ _), (by decide : 0 + 0 ≤ _)⟩)
    dsimp only [Pt.U, Pt.locs, Pt.cells, Pt.slots] at X12 l12 y12 z12 st12 hQ12
    subst l12 y12 z12
    obtain ⟨rfl, N12q, K12q⟩ := hQ12
    have N13 := Fr.app N0 N12q
    obtain ⟨cq14, kq14, q14a, q14b, q14c⟩ := isOf hZ K12q pf_E_s_DESCENDING
    obtain ⟨_, _, ⟨T14, L14, k14, n14⟩, -, X14, ⟨Lc14, hQ14, l14, y14, z14⟩, st14⟩ := X12.virtualBack hx (y := MN2) (z := MN2) hown (mvT hZ wo8) (mvT hZ wo9) (notFace_of_selects (args := #[]) (mvT hZ wo11)) (mvT hZ wo11) (mvT hZ wo10) (by decide) (backOf (W := 0) (rm_rev1 l Z a0 hw [] s_DESCENDING s_ASCENDING s_DESCENDING s_UNORDERED h0 n0 Z0 pf_O pf_S_com_example_dido_dido_keys_ColumnField_KeyOrder_ASCENDING pf_S_com_example_dido_dido_keys_ColumnField_KeyOrder_DESCENDING pf_S_com_example_dido_dido_keys_ColumnField_KeyOrder_UNORDERED pf_E_s_DESCENDING pf_F_s_DESCENDING_ordinal) hZ wo12 wo6 (by decide) (by decide)) q14a q14c (g := (mkF m 6 #[iv p0_0, rv s_DESCENDING, .unset, .unset, .unset, .unset, .unset, .unset] [(.ref s_DESCENDING)])) rfl (by rw [hml]; rfl) (Steps.refl _) (argsL := []) (rest := []) (lenOf pd_1 rfl) rfl (by show 2 * 0 + _ ≤ _; exact Nat.le_of_eq rfl) (hb hby at_6) (fun _ _ => ⟨rfl, K12q, (by decide : 0 + 0 ≤ _), (by decide : 0 + 0 ≤ _)⟩)
    dsimp only [Pt.U, Pt.locs, Pt.cells, Pt.slots] at X14 l14 y14 z14 st14 hQ14
    subst l14 y14 z14
    obtain ⟨rfl, N14q, K14q⟩ := hQ14
    have N15 := Fr.app N13 N14q
    obtain ⟨cq16, kq16, q16a, q16b, q16c⟩ := isOf hZ K14q pf_E_s_ASCENDING
    obtain ⟨_, _, ⟨T16, L16, k16, n16⟩, -, X16, ⟨Lc16, hQ16, l16, y16, z16⟩, st16⟩ := X14.virtualBack hx (y := MN2) (z := MN2) hown (mvT hZ wo8) (mvT hZ wo9) (notFace_of_selects (args := #[]) (mvT hZ wo11)) (mvT hZ wo11) (mvT hZ wo10) (by decide) (backOf (W := 0) (rm_rev0 l Z a0 hw [] s_ASCENDING s_ASCENDING s_DESCENDING s_UNORDERED h0 n0 Z0 pf_O pf_S_com_example_dido_dido_keys_ColumnField_KeyOrder_ASCENDING pf_S_com_example_dido_dido_keys_ColumnField_KeyOrder_DESCENDING pf_S_com_example_dido_dido_keys_ColumnField_KeyOrder_UNORDERED pf_E_s_ASCENDING pf_F_s_ASCENDING_ordinal) hZ wo12 wo6 (by decide) (by decide)) q16a q16c (g := (mkF m 17 #[iv p0_0, rv s_DESCENDING, rv s_ASCENDING, .unset, .unset, .unset, .unset, .unset] [(.ref s_ASCENDING)])) rfl (by rw [hml]; rfl) (Steps.refl _) (argsL := []) (rest := []) (lenOf pd_1 rfl) rfl (by show 2 * 0 + _ ≤ _; exact Nat.le_of_eq rfl) (hb hby at_17) (fun _ _ => ⟨rfl, K14q, (by decide : 0 + 0 ≤ _), (by decide : 0 + 0 ≤ _)⟩)
    dsimp only [Pt.U, Pt.locs, Pt.cells, Pt.slots] at X16 l16 y16 z16 st16 hQ16
    subst l16 y16 z16
    obtain ⟨rfl, N16q, K16q⟩ := hQ16
    have N17 := Fr.app N15 N16q
    obtain ⟨T18, X18, e18, st18⟩ := getS2 X16 hx hZ hown (host := "") (Or.inl wo25) Via.refl K16q (pf_S_com_example_dido_dido_keys_ColumnField_KeyOrder_UNORDERED.ext pf_O.2) (g := (mkF m 22 #[iv p0_0, rv s_DESCENDING, rv s_ASCENDING, rv s_DESCENDING, .unset, .unset, .unset, .unset] [(.ref s_DESCENDING)])) rfl (hb hby at_22)
    obtain ⟨T19, X19, e19, st19⟩ := getS2 X18 hx hZ hown (host := "") (Or.inl wo25) Via.refl e18 (pf_S_com_example_dido_dido_keys_ColumnField_KeyOrder_UNORDERED.ext pf_O.2) (g := (mkF m 70 #[iv p0_0, rv s_DESCENDING, rv s_ASCENDING, rv s_DESCENDING, iv (0 : Int32), iv (1 : Int32), iv (1 : Int32), .unset] [(.ref s_ASCENDING)])) rfl (hb hby at_70)
    obtain ⟨fs, hr, hrun, hended, hW, hsame⟩ := X19.leave (v := some (.int (1 : Int32))) (fun h => by rw [Bd.returns] at h; cases h)
    refine ⟨_, _, pre0 _ ?_, hrun, hended, _, _, rfl, ?_, ⟨_, rfl⟩, hW, hsame.mono (by decide) (by decide)⟩
    · show Steps p.tables e below (s₁.setTop (mkF m 0 #[iv p0_0, .unset, .unset, .unset, .unset, .unset, .unset, .unset] [])) _
      refine XS.iloadN X0.here hx rfl (hb hby at_0) rfl ?_
      show Steps p.tables e below (s₁.setTop (mkF m 1 #[iv p0_0, .unset, .unset, .unset, .unset, .unset, .unset, .unset] [(.int p0_0)])) _
      refine st12 _ ?_
      show Steps p.tables e below (T12.setTop (mkF m 4 #[iv p0_0, .unset, .unset, .unset, .unset, .unset, .unset, .unset] [(.ref s_DESCENDING)])) _
      refine XS.astoreN X12.here hx rfl (hb hby at_4) rfl rfl (l' := #[iv p0_0, rv s_DESCENDING, .unset, .unset, .unset, .unset, .unset, .unset]) rfl ?_
      show Steps p.tables e below (T12.setTop (mkF m 5 #[iv p0_0, rv s_DESCENDING, .unset, .unset, .unset, .unset, .unset, .unset] [])) _
      refine XS.aloadN X12.here hx rfl (hb hby at_5) rfl rfl ?_
      show Steps p.tables e below (T12.setTop (mkF m 6 #[iv p0_0, rv s_DESCENDING, .unset, .unset, .unset, .unset, .unset, .unset] [(.ref s_DESCENDING)])) _
      refine st14.trans ?_
      show Steps p.tables e below (T14.setTop (mkF m 9 #[iv p0_0, rv s_DESCENDING, .unset, .unset, .unset, .unset, .unset, .unset] [(.ref s_ASCENDING)])) _
      refine XS.astoreN X14.here hx rfl (hb hby at_9) rfl rfl (l' := #[iv p0_0, rv s_DESCENDING, rv s_ASCENDING, .unset, .unset, .unset, .unset, .unset]) rfl ?_
      show Steps p.tables e below (T14.setTop (mkF m 10 #[iv p0_0, rv s_DESCENDING, rv s_ASCENDING, .unset, .unset, .unset, .unset, .unset] [])) _
      refine XS.aloadN X14.here hx rfl (hb hby at_10) rfl rfl ?_
      show Steps p.tables e below (T14.setTop (mkF m 11 #[iv p0_0, rv s_DESCENDING, rv s_ASCENDING, .unset, .unset, .unset, .unset, .unset] [(.ref s_ASCENDING)])) _
      refine XS.ifnonnullYes X14.here hx rfl (pc0 := 11) (pc' := 16) rfl (hb hby at_11) rfl (by decide) (by decide) ?_
      show Steps p.tables e below (T14.setTop (mkF m 16 #[iv p0_0, rv s_DESCENDING, rv s_ASCENDING, .unset, .unset, .unset, .unset, .unset] [])) _
      refine XS.aloadN X14.here hx rfl (hb hby at_16) rfl rfl ?_
      show Steps p.tables e below (T14.setTop (mkF m 17 #[iv p0_0, rv s_DESCENDING, rv s_ASCENDING, .unset, .unset, .unset, .unset, .unset] [(.ref s_ASCENDING)])) _
      refine st16.trans ?_
      show Steps p.tables e below (T16.setTop (mkF m 20 #[iv p0_0, rv s_DESCENDING, rv s_ASCENDING, .unset, .unset, .unset, .unset, .unset] [(.ref s_DESCENDING)])) _
      refine XS.astoreN X16.here hx rfl (hb hby at_20) rfl rfl (l' := #[iv p0_0, rv s_DESCENDING, rv s_ASCENDING, rv s_DESCENDING, .unset, .unset, .unset, .unset]) rfl ?_
      show Steps p.tables e below (T16.setTop (mkF m 21 #[iv p0_0, rv s_DESCENDING, rv s_ASCENDING, rv s_DESCENDING, .unset, .unset, .unset, .unset] [])) _
      refine XS.aloadN X16.here hx rfl (hb hby at_21) rfl rfl ?_
      show Steps p.tables e below (T16.setTop (mkF m 22 #[iv p0_0, rv s_DESCENDING, rv s_ASCENDING, rv s_DESCENDING, .unset, .unset, .unset, .unset] [(.ref s_DESCENDING)])) _
      refine st18 _ ?_
      show Steps p.tables e below (T18.setTop (mkF m 25 #[iv p0_0, rv s_DESCENDING, rv s_ASCENDING, rv s_DESCENDING, .unset, .unset, .unset, .unset] [(.ref s_UNORDERED), (.ref s_DESCENDING)])) _
      refine Jvm.RoadKit.acmp (g := (mkF m 25 #[iv p0_0, rv s_DESCENDING, rv s_ASCENDING, rv s_DESCENDING, .unset, .unset, .unset, .unset] [(.ref s_UNORDERED), (.ref s_DESCENDING)])) X18 hx rfl rfl rfl (pc0 := 25) (pc' := 32) (same := false) rfl (hb hby at_25) rfl (decide_eq_false fun q => ne3 (Value.ref.inj q)) (by decide) (by decide) ?_
      show Steps p.tables e below (T18.setTop (mkF m 32 #[iv p0_0, rv s_DESCENDING, rv s_ASCENDING, rv s_DESCENDING, .unset, .unset, .unset, .unset] [])) _
      refine XS.iconst X18.here hx rfl (hb hby at_32) ?_
      show Steps p.tables e below (T18.setTop (mkF m 33 #[iv p0_0, rv s_DESCENDING, rv s_ASCENDING, rv s_DESCENDING, .unset, .unset, .unset, .unset] [(.int (0 : Int32))])) _
      refine XS.istore X18.here hx rfl (hb hby at_33) rfl (l' := #[iv p0_0, rv s_DESCENDING, rv s_ASCENDING, rv s_DESCENDING, iv (0 : Int32), .unset, .unset, .unset]) rfl ?_
      show Steps p.tables e below (T18.setTop (mkF m 35 #[iv p0_0, rv s_DESCENDING, rv s_ASCENDING, rv s_DESCENDING, iv (0 : Int32), .unset, .unset, .unset] [])) _
      refine XS.aloadN X18.here hx rfl (hb hby at_35) rfl rfl ?_
      show Steps p.tables e below (T18.setTop (mkF m 36 #[iv p0_0, rv s_DESCENDING, rv s_ASCENDING, rv s_DESCENDING, iv (0 : Int32), .unset, .unset, .unset] [(.ref s_DESCENDING)])) _
      refine XS.aloadN X18.here hx rfl (hb hby at_36) rfl rfl ?_
      show Steps p.tables e below (T18.setTop (mkF m 37 #[iv p0_0, rv s_DESCENDING, rv s_ASCENDING, rv s_DESCENDING, iv (0 : Int32), .unset, .unset, .unset] [(.ref s_DESCENDING), (.ref s_DESCENDING)])) _
      refine Jvm.RoadKit.acmp (g := (mkF m 37 #[iv p0_0, rv s_DESCENDING, rv s_ASCENDING, rv s_DESCENDING, iv (0 : Int32), .unset, .unset, .unset] [(.ref s_DESCENDING), (.ref s_DESCENDING)])) X18 hx rfl rfl rfl (pc0 := 37) (pc' := 40) (same := true) rfl (hb hby at_37) rfl (decide_eq_true rfl) (by decide) (by decide) ?_
      show Steps p.tables e below (T18.setTop (mkF m 40 #[iv p0_0, rv s_DESCENDING, rv s_ASCENDING, rv s_DESCENDING, iv (0 : Int32), .unset, .unset, .unset] [])) _
      refine XS.iconst X18.here hx rfl (hb hby at_40) ?_
      show Steps p.tables e below (T18.setTop (mkF m 41 #[iv p0_0, rv s_DESCENDING, rv s_ASCENDING, rv s_DESCENDING, iv (0 : Int32), .unset, .unset, .unset] [(.int (1 : Int32))])) _
      refine XS.goto X18.here hx rfl (pc0 := 41) (pc' := 45) rfl (hb hby at_41) (by decide) (by decide) ?_
      show Steps p.tables e below (T18.setTop (mkF m 45 #[iv p0_0, rv s_DESCENDING, rv s_ASCENDING, rv s_DESCENDING, iv (0 : Int32), .unset, .unset, .unset] [(.int (1 : Int32))])) _
      refine XS.istore X18.here hx rfl (hb hby at_45) rfl (l' := #[iv p0_0, rv s_DESCENDING, rv s_ASCENDING, rv s_DESCENDING, iv (0 : Int32), iv (1 : Int32), .unset, .unset]) rfl ?_
      show Steps p.tables e below (T18.setTop (mkF m 47 #[iv p0_0, rv s_DESCENDING, rv s_ASCENDING, rv s_DESCENDING, iv (0 : Int32), iv (1 : Int32), .unset, .unset] [])) _
      refine XS.aloadN X18.here hx rfl (hb hby at_47) rfl rfl ?_
      show Steps p.tables e below (T18.setTop (mkF m 48 #[iv p0_0, rv s_DESCENDING, rv s_ASCENDING, rv s_DESCENDING, iv (0 : Int32), iv (1 : Int32), .unset, .unset] [(.ref s_ASCENDING)])) _
      refine XS.aloadN X18.here hx rfl (hb hby at_48) rfl rfl ?_
      show Steps p.tables e below (T18.setTop (mkF m 49 #[iv p0_0, rv s_DESCENDING, rv s_ASCENDING, rv s_DESCENDING, iv (0 : Int32), iv (1 : Int32), .unset, .unset] [(.ref s_DESCENDING), (.ref s_ASCENDING)])) _
      refine Jvm.RoadKit.acmp (g := (mkF m 49 #[iv p0_0, rv s_DESCENDING, rv s_ASCENDING, rv s_DESCENDING, iv (0 : Int32), iv (1 : Int32), .unset, .unset] [(.ref s_DESCENDING), (.ref s_ASCENDING)])) X18 hx rfl rfl rfl (pc0 := 49) (pc' := 56) (same := false) rfl (hb hby at_49) rfl (decide_eq_false fun q => ne1 (Value.ref.inj q)) (by decide) (by decide) ?_
      show Steps p.tables e below (T18.setTop (mkF m 56 #[iv p0_0, rv s_DESCENDING, rv s_ASCENDING, rv s_DESCENDING, iv (0 : Int32), iv (1 : Int32), .unset, .unset] [])) _
      refine XS.iconst X18.here hx rfl (hb hby at_56) ?_
      show Steps p.tables e below (T18.setTop (mkF m 57 #[iv p0_0, rv s_DESCENDING, rv s_ASCENDING, rv s_DESCENDING, iv (0 : Int32), iv (1 : Int32), .unset, .unset] [(.int (0 : Int32))])) _
      refine XS.iload X18.here hx rfl (hb hby at_57) rfl ?_
      show Steps p.tables e below (T18.setTop (mkF m 59 #[iv p0_0, rv s_DESCENDING, rv s_ASCENDING, rv s_DESCENDING, iv (0 : Int32), iv (1 : Int32), .unset, .unset] [(.int (0 : Int32)), (.int (0 : Int32))])) _
      refine XS.icmpNo X18.here hx rfl (hb hby at_59) rfl (teq (by decide : (0 : Int32) = (0 : Int32))).2 ?_
      show Steps p.tables e below (T18.setTop (mkF m 62 #[iv p0_0, rv s_DESCENDING, rv s_ASCENDING, rv s_DESCENDING, iv (0 : Int32), iv (1 : Int32), .unset, .unset] [])) _
      refine XS.iconst X18.here hx rfl (hb hby at_62) ?_
      show Steps p.tables e below (T18.setTop (mkF m 63 #[iv p0_0, rv s_DESCENDING, rv s_ASCENDING, rv s_DESCENDING, iv (0 : Int32), iv (1 : Int32), .unset, .unset] [(.int (1 : Int32))])) _
      refine XS.goto X18.here hx rfl (pc0 := 63) (pc' := 67) rfl (hb hby at_63) (by decide) (by decide) ?_
      show Steps p.tables e below (T18.setTop (mkF m 67 #[iv p0_0, rv s_DESCENDING, rv s_ASCENDING, rv s_DESCENDING, iv (0 : Int32), iv (1 : Int32), .unset, .unset] [(.int (1 : Int32))])) _
      refine XS.istore X18.here hx rfl (hb hby at_67) rfl (l' := #[iv p0_0, rv s_DESCENDING, rv s_ASCENDING, rv s_DESCENDING, iv (0 : Int32), iv (1 : Int32), iv (1 : Int32), .unset]) rfl ?_
      show Steps p.tables e below (T18.setTop (mkF m 69 #[iv p0_0, rv s_DESCENDING, rv s_ASCENDING, rv s_DESCENDING, iv (0 : Int32), iv (1 : Int32), iv (1 : Int32), .unset] [])) _
      refine XS.aloadN X18.here hx rfl (hb hby at_69) rfl rfl ?_
      show Steps p.tables e below (T18.setTop (mkF m 70 #[iv p0_0, rv s_DESCENDING, rv s_ASCENDING, rv s_DESCENDING, iv (0 : Int32), iv (1 : Int32), iv (1 : Int32), .unset] [(.ref s_ASCENDING)])) _
      refine st19 _ ?_
      show Steps p.tables e below (T19.setTop (mkF m 73 #[iv p0_0, rv s_DESCENDING, rv s_ASCENDING, rv s_DESCENDING, iv (0 : Int32), iv (1 : Int32), iv (1 : Int32), .unset] [(.ref s_UNORDERED), (.ref s_ASCENDING)])) _
      refine Jvm.RoadKit.acmp (g := (mkF m 73 #[iv p0_0, rv s_DESCENDING, rv s_ASCENDING, rv s_DESCENDING, iv (0 : Int32), iv (1 : Int32), iv (1 : Int32), .unset] [(.ref s_UNORDERED), (.ref s_ASCENDING)])) X19 hx rfl rfl rfl (pc0 := 73) (pc' := 80) (same := false) rfl (hb hby at_73) rfl (decide_eq_false fun q => ne2 (Value.ref.inj q)) (by decide) (by decide) ?_
      show Steps p.tables e below (T19.setTop (mkF m 80 #[iv p0_0, rv s_DESCENDING, rv s_ASCENDING, rv s_DESCENDING, iv (0 : Int32), iv (1 : Int32), iv (1 : Int32), .unset] [])) _
      refine XS.iconst X19.here hx rfl (hb hby at_80) ?_
      show Steps p.tables e below (T19.setTop (mkF m 81 #[iv p0_0, rv s_DESCENDING, rv s_ASCENDING, rv s_DESCENDING, iv (0 : Int32), iv (1 : Int32), iv (1 : Int32), .unset] [(.int (0 : Int32))])) _
      refine XS.iload X19.here hx rfl (hb hby at_81) rfl ?_
      show Steps p.tables e below (T19.setTop (mkF m 83 #[iv p0_0, rv s_DESCENDING, rv s_ASCENDING, rv s_DESCENDING, iv (0 : Int32), iv (1 : Int32), iv (1 : Int32), .unset] [(.int (0 : Int32)), (.int (0 : Int32))])) _
      refine XS.icmpNo X19.here hx rfl (hb hby at_83) rfl (teq (by decide : (0 : Int32) = (0 : Int32))).2 ?_
      show Steps p.tables e below (T19.setTop (mkF m 86 #[iv p0_0, rv s_DESCENDING, rv s_ASCENDING, rv s_DESCENDING, iv (0 : Int32), iv (1 : Int32), iv (1 : Int32), .unset] [])) _
      refine XS.iconst X19.here hx rfl (hb hby at_86) ?_
      show Steps p.tables e below (T19.setTop (mkF m 87 #[iv p0_0, rv s_DESCENDING, rv s_ASCENDING, rv s_DESCENDING, iv (0 : Int32), iv (1 : Int32), iv (1 : Int32), .unset] [(.int (1 : Int32))])) _
      refine XS.goto X19.here hx rfl (pc0 := 87) (pc' := 91) rfl (hb hby at_87) (by decide) (by decide) ?_
      show Steps p.tables e below (T19.setTop (mkF m 91 #[iv p0_0, rv s_DESCENDING, rv s_ASCENDING, rv s_DESCENDING, iv (0 : Int32), iv (1 : Int32), iv (1 : Int32), .unset] [(.int (1 : Int32))])) _
      refine XS.istore X19.here hx rfl (hb hby at_91) rfl (l' := #[iv p0_0, rv s_DESCENDING, rv s_ASCENDING, rv s_DESCENDING, iv (0 : Int32), iv (1 : Int32), iv (1 : Int32), iv (1 : Int32)]) rfl ?_
      show Steps p.tables e below (T19.setTop (mkF m 93 #[iv p0_0, rv s_DESCENDING, rv s_ASCENDING, rv s_DESCENDING, iv (0 : Int32), iv (1 : Int32), iv (1 : Int32), iv (1 : Int32)] [])) _
      refine XS.iload X19.here hx rfl (hb hby at_93) rfl ?_
      show Steps p.tables e below (T19.setTop (mkF m 95 #[iv p0_0, rv s_DESCENDING, rv s_ASCENDING, rv s_DESCENDING, iv (0 : Int32), iv (1 : Int32), iv (1 : Int32), iv (1 : Int32)] [(.int (1 : Int32))])) _
      refine XS.ifNo X19.here hx rfl (hb hby at_95) rfl ((if0 _ _).trans (feq (by decide : ¬ ((1 : Int32) = (0 : Int32)))).1) ?_
      show Steps p.tables e below (T19.setTop (mkF m 98 #[iv p0_0, rv s_DESCENDING, rv s_ASCENDING, rv s_DESCENDING, iv (0 : Int32), iv (1 : Int32), iv (1 : Int32), iv (1 : Int32)] [])) _
      refine XS.iload X19.here hx rfl (hb hby at_98) rfl ?_
      show Steps p.tables e below (T19.setTop (mkF m 100 #[iv p0_0, rv s_DESCENDING, rv s_ASCENDING, rv s_DESCENDING, iv (0 : Int32), iv (1 : Int32), iv (1 : Int32), iv (1 : Int32)] [(.int (1 : Int32))])) _
      refine XS.ifNo X19.here hx rfl (hb hby at_100) rfl ((if0 _ _).trans (feq (by decide : ¬ ((1 : Int32) = (0 : Int32)))).1) ?_
      show Steps p.tables e below (T19.setTop (mkF m 103 #[iv p0_0, rv s_DESCENDING, rv s_ASCENDING, rv s_DESCENDING, iv (0 : Int32), iv (1 : Int32), iv (1 : Int32), iv (1 : Int32)] [])) _
      refine XS.iload X19.here hx rfl (hb hby at_103) rfl ?_
      show Steps p.tables e below (T19.setTop (mkF m 105 #[iv p0_0, rv s_DESCENDING, rv s_ASCENDING, rv s_DESCENDING, iv (0 : Int32), iv (1 : Int32), iv (1 : Int32), iv (1 : Int32)] [(.int (1 : Int32))])) _
      refine XS.ifNo X19.here hx rfl (hb hby at_105) rfl ((if0 _ _).trans (feq (by decide : ¬ ((1 : Int32) = (0 : Int32)))).1) ?_
      show Steps p.tables e below (T19.setTop (mkF m 108 #[iv p0_0, rv s_DESCENDING, rv s_ASCENDING, rv s_DESCENDING, iv (0 : Int32), iv (1 : Int32), iv (1 : Int32), iv (1 : Int32)] [])) _
      refine XS.iconst X19.here hx rfl (hb hby at_108) ?_
      show Steps p.tables e below (T19.setTop (mkF m 109 #[iv p0_0, rv s_DESCENDING, rv s_ASCENDING, rv s_DESCENDING, iv (0 : Int32), iv (1 : Int32), iv (1 : Int32), iv (1 : Int32)] [(.int (1 : Int32))])) _
      refine XS.goto X19.here hx rfl (pc0 := 109) (pc' := 113) rfl (hb hby at_109) (by decide) (by decide) ?_
      show Steps p.tables e below (T19.setTop (mkF m 113 #[iv p0_0, rv s_DESCENDING, rv s_ASCENDING, rv s_DESCENDING, iv (0 : Int32), iv (1 : Int32), iv (1 : Int32), iv (1 : Int32)] [(.int (1 : Int32))])) _
      exact retN X19 hx (t := .boolean) Bd.returns (by simp) (hb hby at_113) hr
    · show Q_rm0 Z _ _ _ _ h0 n0 _ T19.heap _
      rw [e19]
      exact ⟨rfl, N17, (Keep.refl h0 [])⟩
  · skip
    obtain ⟨_, _, ⟨T20, L20, k20, n20⟩, -, X20, ⟨Lc20, hQ20, l20, y20, z20⟩, st20⟩ := Jvm.LawKit.callS X0 hx (y := MN1) hown (mvT hZ wo0) (mvT hZ wo1) (mvT hZ wo2) (mvT hZ wo3) (by decide) (backOf (W := 0) (rm_pick2 l Z a0 hw [] p0_0 s_ASCENDING s_DESCENDING s_UNORDERED h0 n0 Z0 pf_O pf_S_com_example_dido_dido_keys_ColumnField_KeyOrder_ASCENDING pf_S_com_example_dido_dido_keys_ColumnField_KeyOrder_DESCENDING pf_S_com_example_dido_dido_keys_ColumnField_KeyOrder_UNORDERED (hp : ((p0_0 &&& (2147483647 : Int32)) % (3 : Int32)) = (2 : Int32))) hZ wo3 wo2 (by decide) (by decide)) (g := (mkF m 1 #[iv p0_0, .unset, .unset, .unset, .unset, .unset, .unset, .unset] [(.int p0_0)])) rfl (by rw [hml]; rfl) (argsL := [(.int p0_0)]) (rest := []) (lenOf pd_2 rfl) rfl (by show 2 * 0 + _ ≤ _; exact Nat.le_of_eq rfl) (hb hby at_1) (fun _ _ => ⟨rfl, e0, (by decide : 0 + 0 ≤ _), (by decide : 0 + 0 ≤ _)⟩)
    dsimp only [Pt.U, Pt.locs, Pt.cells, Pt.slots] at X20 l20 y20 z20 st20 hQ20
    subst l20 y20 z20
    obtain ⟨rfl, N20q, K20q⟩ := hQ20
    have N21 := Fr.app N0 N20q
    obtain ⟨cq22, kq22, q22a, q22b, q22c⟩ := isOf hZ K20q pf_E_s_UNORDERED
    obtain ⟨_, _, ⟨T22, L22, k22, n22⟩, -, X22, ⟨Lc22, hQ22, l22, y22, z22⟩, st22⟩ := X20.virtualBack hx (y := MN2) (z := MN2) hown (mvT hZ wo8) (mvT hZ wo9) (notFace_of_selects (args := #[]) (mvT hZ wo11)) (mvT hZ wo11) (mvT hZ wo10) (by decide) (backOf (W := 0) (rm_rev2 l Z a0 hw [] s_UNORDERED s_ASCENDING s_DESCENDING s_UNORDERED h0 n0 Z0 pf_O pf_S_com_example_dido_dido_keys_ColumnField_KeyOrder_ASCENDING pf_S_com_example_dido_dido_keys_ColumnField_KeyOrder_DESCENDING pf_S_com_example_dido_dido_keys_ColumnField_KeyOrder_UNORDERED pf_E_s_UNORDERED pf_F_s_UNORDERED_ordinal) hZ wo12 wo6 (by decide) (by decide)) q22a q22c (g := (mkF m 6 #[iv p0_0, rv s_UNORDERED, .unset, .unset, .unset, .unset, .unset, .unset] [(.ref s_UNORDERED)])) rfl (by rw [hml]; rfl) (Steps.refl _) (argsL := []) (rest := []) (lenOf pd_1 rfl) rfl (by show 2 * 0 + _ ≤ _; exact Nat.le_of_eq rfl) (hb hby at_6) (fun _ _ => ⟨rfl, K20q, (by decide : 0 + 0 ≤ _), (by decide : 0 + 0 ≤ _)⟩)
    dsimp only [Pt.U, Pt.locs, Pt.cells, Pt.slots] at X22 l22 y22 z22 st22 hQ22
    subst l22 y22 z22
    obtain ⟨rfl, N22q, K22q⟩ := hQ22
    have N23 := Fr.app N21 N22q
    obtain ⟨cq24, kq24, q24a, q24b, q24c⟩ := isOf hZ K22q pf_E_s_UNORDERED
    obtain ⟨_, _, ⟨T24, L24, k24, n24⟩, -, X24, ⟨Lc24, hQ24, l24, y24, z24⟩, st24⟩ := X22.virtualBack hx (y := MN2) (z := MN2) hown (mvT hZ wo8) (mvT hZ wo9) (notFace_of_selects (args := #[]) (mvT hZ wo11)) (mvT hZ wo11) (mvT hZ wo10) (by decide) (backOf (W := 0) (rm_rev2 l Z a0 hw [] s_UNORDERED s_ASCENDING s_DESCENDING s_UNORDERED h0 n0 Z0 pf_O pf_S_com_example_dido_dido_keys_ColumnField_KeyOrder_ASCENDING pf_S_com_example_dido_dido_keys_ColumnField_KeyOrder_DESCENDING pf_S_com_example_dido_dido_keys_ColumnField_KeyOrder_UNORDERED pf_E_s_UNORDERED pf_F_s_UNORDERED_ordinal) hZ wo12 wo6 (by decide) (by decide)) q24a q24c (g := (mkF m 17 #[iv p0_0, rv s_UNORDERED, rv s_UNORDERED, .unset, .unset, .unset, .unset, .unset] [(.ref s_UNORDERED)])) rfl (by rw [hml]; rfl) (Steps.refl _) (argsL := []) (rest := []) (lenOf pd_1 rfl) rfl (by show 2 * 0 + _ ≤ _; exact Nat.le_of_eq rfl) (hb hby at_17) (fun _ _ => ⟨rfl, K22q, (by decide : 0 + 0 ≤ _), (by decide : 0 + 0 ≤ _)⟩)
    dsimp only [Pt.U, Pt.locs, Pt.cells, Pt.slots] at X24 l24 y24 z24 st24 hQ24
    subst l24 y24 z24
    obtain ⟨rfl, N24q, K24q⟩ := hQ24
    have N25 := Fr.app N23 N24q
    obtain ⟨T26, X26, e26, st26⟩ := getS2 X24 hx hZ hown (host := "") (Or.inl wo25) Via.refl K24q (pf_S_com_example_dido_dido_keys_ColumnField_KeyOrder_UNORDERED.ext pf_O.2) (g := (mkF m 22 #[iv p0_0, rv s_UNORDERED, rv s_UNORDERED, rv s_UNORDERED, .unset, .unset, .unset, .unset] [(.ref s_UNORDERED)])) rfl (hb hby at_22)
    obtain ⟨T27, X27, e27, st27⟩ := getS2 X26 hx hZ hown (host := "") (Or.inl wo25) Via.refl e26 (pf_S_com_example_dido_dido_keys_ColumnField_KeyOrder_UNORDERED.ext pf_O.2) (g := (mkF m 70 #[iv p0_0, rv s_UNORDERED, rv s_UNORDERED, rv s_UNORDERED, iv (1 : Int32), iv (1 : Int32), iv (1 : Int32), .unset] [(.ref s_UNORDERED)])) rfl (hb hby at_70)
    obtain ⟨fs, hr, hrun, hended, hW, hsame⟩ := X27.leave (v := some (.int (1 : Int32))) (fun h => by rw [Bd.returns] at h; cases h)
    refine ⟨_, _, pre0 _ ?_, hrun, hended, _, _, rfl, ?_, ⟨_, rfl⟩, hW, hsame.mono (by decide) (by decide)⟩
    · show Steps p.tables e below (s₁.setTop (mkF m 0 #[iv p0_0, .unset, .unset, .unset, .unset, .unset, .unset, .unset] [])) _
      refine XS.iloadN X0.here hx rfl (hb hby at_0) rfl ?_
      show Steps p.tables e below (s₁.setTop (mkF m 1 #[iv p0_0, .unset, .unset, .unset, .unset, .unset, .unset, .unset] [(.int p0_0)])) _
      refine st20 _ ?_
      show Steps p.tables e below (T20.setTop (mkF m 4 #[iv p0_0, .unset, .unset, .unset, .unset, .unset, .unset, .unset] [(.ref s_UNORDERED)])) _
      refine XS.astoreN X20.here hx rfl (hb hby at_4) rfl rfl (l' := #[iv p0_0, rv s_UNORDERED, .unset, .unset, .unset, .unset, .unset, .unset]) rfl ?_
      show Steps p.tables e below (T20.setTop (mkF m 5 #[iv p0_0, rv s_UNORDERED, .unset, .unset, .unset, .unset, .unset, .unset] [])) _
      refine XS.aloadN X20.here hx rfl (hb hby at_5) rfl rfl ?_
      show Steps p.tables e below (T20.setTop (mkF m 6 #[iv p0_0, rv s_UNORDERED, .unset, .unset, .unset, .unset, .unset, .unset] [(.ref s_UNORDERED)])) _
      refine st22.trans ?_
      show Steps p.tables e below (T22.setTop (mkF m 9 #[iv p0_0, rv s_UNORDERED, .unset, .unset, .unset, .unset, .unset, .unset] [(.ref s_UNORDERED)])) _
      refine XS.astoreN X22.here hx rfl (hb hby at_9) rfl rfl (l' := #[iv p0_0, rv s_UNORDERED, rv s_UNORDERED, .unset, .unset, .unset, .unset, .unset]) rfl ?_
      show Steps p.tables e below (T22.setTop (mkF m 10 #[iv p0_0, rv s_UNORDERED, rv s_UNORDERED, .unset, .unset, .unset, .unset, .unset] [])) _
      refine XS.aloadN X22.here hx rfl (hb hby at_10) rfl rfl ?_
      show Steps p.tables e below (T22.setTop (mkF m 11 #[iv p0_0, rv s_UNORDERED, rv s_UNORDERED, .unset, .unset, .unset, .unset, .unset] [(.ref s_UNORDERED)])) _
      refine XS.ifnonnullYes X22.here hx rfl (pc0 := 11) (pc' := 16) rfl (hb hby at_11) rfl (by decide) (by decide) ?_
      show Steps p.tables e below (T22.setTop (mkF m 16 #[iv p0_0, rv s_UNORDERED, rv s_UNORDERED, .unset, .unset, .unset, .unset, .unset] [])) _
      refine XS.aloadN X22.here hx rfl (hb hby at_16) rfl rfl ?_
      show Steps p.tables e below (T22.setTop (mkF m 17 #[iv p0_0, rv s_UNORDERED, rv s_UNORDERED, .unset, .unset, .unset, .unset, .unset] [(.ref s_UNORDERED)])) _
      refine st24.trans ?_
      show Steps p.tables e below (T24.setTop (mkF m 20 #[iv p0_0, rv s_UNORDERED, rv s_UNORDERED, .unset, .unset, .unset, .unset, .unset] [(.ref s_UNORDERED)])) _
      refine XS.astoreN X24.here hx rfl (hb hby at_20) rfl rfl (l' := #[iv p0_0, rv s_UNORDERED, rv s_UNORDERED, rv s_UNORDERED, .unset, .unset, .unset, .unset]) rfl ?_
      show Steps p.tables e below (T24.setTop (mkF m 21 #[iv p0_0, rv s_UNORDERED, rv s_UNORDERED, rv s_UNORDERED, .unset, .unset, .unset, .unset] [])) _
      refine XS.aloadN X24.here hx rfl (hb hby at_21) rfl rfl ?_
      show Steps p.tables e below (T24.setTop (mkF m 22 #[iv p0_0, rv s_UNORDERED, rv s_UNORDERED, rv s_UNORDERED, .unset, .unset, .unset, .unset] [(.ref s_UNORDERED)])) _
      refine st26 _ ?_
      show Steps p.tables e below (T26.setTop (mkF m 25 #[iv p0_0, rv s_UNORDERED, rv s_UNORDERED, rv s_UNORDERED, .unset, .unset, .unset, .unset] [(.ref s_UNORDERED), (.ref s_UNORDERED)])) _
      refine Jvm.RoadKit.acmp (g := (mkF m 25 #[iv p0_0, rv s_UNORDERED, rv s_UNORDERED, rv s_UNORDERED, .unset, .unset, .unset, .unset] [(.ref s_UNORDERED), (.ref s_UNORDERED)])) X26 hx rfl rfl rfl (pc0 := 25) (pc' := 28) (same := true) rfl (hb hby at_25) rfl (decide_eq_true rfl) (by decide) (by decide) ?_
      show Steps p.tables e below (T26.setTop (mkF m 28 #[iv p0_0, rv s_UNORDERED, rv s_UNORDERED, rv s_UNORDERED, .unset, .unset, .unset, .unset] [])) _
      refine XS.iconst X26.here hx rfl (hb hby at_28) ?_
      show Steps p.tables e below (T26.setTop (mkF m 29 #[iv p0_0, rv s_UNORDERED, rv s_UNORDERED, rv s_UNORDERED, .unset, .unset, .unset, .unset] [(.int (1 : Int32))])) _
      refine XS.goto X26.here hx rfl (pc0 := 29) (pc' := 33) rfl (hb hby at_29) (by decide) (by decide) ?_
      show Steps p.tables e below (T26.setTop (mkF m 33 #[iv p0_0, rv s_UNORDERED, rv s_UNORDERED, rv s_UNORDERED, .unset, .unset, .unset, .unset] [(.int (1 : Int32))])) _
      refine XS.istore X26.here hx rfl (hb hby at_33) rfl (l' := #[iv p0_0, rv s_UNORDERED, rv s_UNORDERED, rv s_UNORDERED, iv (1 : Int32), .unset, .unset, .unset]) rfl ?_
      show Steps p.tables e below (T26.setTop (mkF m 35 #[iv p0_0, rv s_UNORDERED, rv s_UNORDERED, rv s_UNORDERED, iv (1 : Int32), .unset, .unset, .unset] [])) _
      refine XS.aloadN X26.here hx rfl (hb hby at_35) rfl rfl ?_
      show Steps p.tables e below (T26.setTop (mkF m 36 #[iv p0_0, rv s_UNORDERED, rv s_UNORDERED, rv s_UNORDERED, iv (1 : Int32), .unset, .unset, .unset] [(.ref s_UNORDERED)])) _
      refine XS.aloadN X26.here hx rfl (hb hby at_36) rfl rfl ?_
      show Steps p.tables e below (T26.setTop (mkF m 37 #[iv p0_0, rv s_UNORDERED, rv s_UNORDERED, rv s_UNORDERED, iv (1 : Int32), .unset, .unset, .unset] [(.ref s_UNORDERED), (.ref s_UNORDERED)])) _
      refine Jvm.RoadKit.acmp (g := (mkF m 37 #[iv p0_0, rv s_UNORDERED, rv s_UNORDERED, rv s_UNORDERED, iv (1 : Int32), .unset, .unset, .unset] [(.ref s_UNORDERED), (.ref s_UNORDERED)])) X26 hx rfl rfl rfl (pc0 := 37) (pc' := 40) (same := true) rfl (hb hby at_37) rfl (decide_eq_true rfl) (by decide) (by decide) ?_
      show Steps p.tables e below (T26.setTop (mkF m 40 #[iv p0_0, rv s_UNORDERED, rv s_UNORDERED, rv s_UNORDERED, iv (1 : Int32), .unset, .unset, .unset] [])) _
      refine XS.iconst X26.here hx rfl (hb hby at_40) ?_
      show Steps p.tables e below (T26.setTop (mkF m 41 #[iv p0_0, rv s_UNORDERED, rv s_UNORDERED, rv s_UNORDERED, iv (1 : Int32), .unset, .unset, .unset] [(.int (1 : Int32))])) _
      refine XS.goto X26.here hx rfl (pc0 := 41) (pc' := 45) rfl (hb hby at_41) (by decide) (by decide) ?_
      show Steps p.tables e below (T26.setTop (mkF m 45 #[iv p0_0, rv s_UNORDERED, rv s_UNORDERED, rv s_UNORDERED, iv (1 : Int32), .unset, .unset, .unset] [(.int (1 : Int32))])) _
      refine XS.istore X26.here hx rfl (hb hby at_45) rfl (l' := #[iv p0_0, rv s_UNORDERED, rv s_UNORDERED, rv s_UNORDERED, iv (1 : Int32), iv (1 : Int32), .unset, .unset]) rfl ?_
      show Steps p.tables e below (T26.setTop (mkF m 47 #[iv p0_0, rv s_UNORDERED, rv s_UNORDERED, rv s_UNORDERED, iv (1 : Int32), iv (1 : Int32), .unset, .unset] [])) _
      refine XS.aloadN X26.here hx rfl (hb hby at_47) rfl rfl ?_
      show Steps p.tables e below (T26.setTop (mkF m 48 #[iv p0_0, rv s_UNORDERED, rv s_UNORDERED, rv s_UNORDERED, iv (1 : Int32), iv (1 : Int32), .unset, .unset] [(.ref s_UNORDERED)])) _
      refine XS.aloadN X26.here hx rfl (hb hby at_48) rfl rfl ?_
      show Steps p.tables e below (T26.setTop (mkF m 49 #[iv p0_0, rv s_UNORDERED, rv s_UNORDERED, rv s_UNORDERED, iv (1 : Int32), iv (1 : Int32), .unset, .unset] [(.ref s_UNORDERED), (.ref s_UNORDERED)])) _
      refine Jvm.RoadKit.acmp (g := (mkF m 49 #[iv p0_0, rv s_UNORDERED, rv s_UNORDERED, rv s_UNORDERED, iv (1 : Int32), iv (1 : Int32), .unset, .unset] [(.ref s_UNORDERED), (.ref s_UNORDERED)])) X26 hx rfl rfl rfl (pc0 := 49) (pc' := 52) (same := true) rfl (hb hby at_49) rfl (decide_eq_true rfl) (by decide) (by decide) ?_
      show Steps p.tables e below (T26.setTop (mkF m 52 #[iv p0_0, rv s_UNORDERED, rv s_UNORDERED, rv s_UNORDERED, iv (1 : Int32), iv (1 : Int32), .unset, .unset] [])) _
      refine XS.iconst X26.here hx rfl (hb hby at_52) ?_
      show Steps p.tables e below (T26.setTop (mkF m 53 #[iv p0_0, rv s_UNORDERED, rv s_UNORDERED, rv s_UNORDERED, iv (1 : Int32), iv (1 : Int32), .unset, .unset] [(.int (1 : Int32))])) _
      refine XS.goto X26.here hx rfl (pc0 := 53) (pc' := 57) rfl (hb hby at_53) (by decide) (by decide) ?_
      show Steps p.tables e below (T26.setTop (mkF m 57 #[iv p0_0, rv s_UNORDERED, rv s_UNORDERED, rv s_UNORDERED, iv (1 : Int32), iv (1 : Int32), .unset, .unset] [(.int (1 : Int32))])) _
      refine XS.iload X26.here hx rfl (hb hby at_57) rfl ?_
      show Steps p.tables e below (T26.setTop (mkF m 59 #[iv p0_0, rv s_UNORDERED, rv s_UNORDERED, rv s_UNORDERED, iv (1 : Int32), iv (1 : Int32), .unset, .unset] [(.int (1 : Int32)), (.int (1 : Int32))])) _
      refine XS.icmpNo X26.here hx rfl (hb hby at_59) rfl (teq (by decide : (1 : Int32) = (1 : Int32))).2 ?_
      show Steps p.tables e below (T26.setTop (mkF m 62 #[iv p0_0, rv s_UNORDERED, rv s_UNORDERED, rv s_UNORDERED, iv (1 : Int32), iv (1 : Int32), .unset, .unset] [])) _
      refine XS.iconst X26.here hx rfl (hb hby at_62) ?_
      show Steps p.tables e below (T26.setTop (mkF m 63 #[iv p0_0, rv s_UNORDERED, rv s_UNORDERED, rv s_UNORDERED, iv (1 : Int32), iv (1 : Int32), .unset, .unset] [(.int (1 : Int32))])) _
      refine XS.goto X26.here hx rfl (pc0 := 63) (pc' := 67) rfl (hb hby at_63) (by decide) (by decide) ?_
      show Steps p.tables e below (T26.setTop (mkF m 67 #[iv p0_0, rv s_UNORDERED, rv s_UNORDERED, rv s_UNORDERED, iv (1 : Int32), iv (1 : Int32), .unset, .unset] [(.int (1 : Int32))])) _
      refine XS.istore X26.here hx rfl (hb hby at_67) rfl (l' := #[iv p0_0, rv s_UNORDERED, rv s_UNORDERED, rv s_UNORDERED, iv (1 : Int32), iv (1 : Int32), iv (1 : Int32), .unset]) rfl ?_
      show Steps p.tables e below (T26.setTop (mkF m 69 #[iv p0_0, rv s_UNORDERED, rv s_UNORDERED, rv s_UNORDERED, iv (1 : Int32), iv (1 : Int32), iv (1 : Int32), .unset] [])) _
      refine XS.aloadN X26.here hx rfl (hb hby at_69) rfl rfl ?_
      show Steps p.tables e below (T26.setTop (mkF m 70 #[iv p0_0, rv s_UNORDERED, rv s_UNORDERED, rv s_UNORDERED, iv (1 : Int32), iv (1 : Int32), iv (1 : Int32), .unset] [(.ref s_UNORDERED)])) _
      refine st27 _ ?_
      show Steps p.tables e below (T27.setTop (mkF m 73 #[iv p0_0, rv s_UNORDERED, rv s_UNORDERED, rv s_UNORDERED, iv (1 : Int32), iv (1 : Int32), iv (1 : Int32), .unset] [(.ref s_UNORDERED), (.ref s_UNORDERED)])) _
      refine Jvm.RoadKit.acmp (g := (mkF m 73 #[iv p0_0, rv s_UNORDERED, rv s_UNORDERED, rv s_UNORDERED, iv (1 : Int32), iv (1 : Int32), iv (1 : Int32), .unset] [(.ref s_UNORDERED), (.ref s_UNORDERED)])) X27 hx rfl rfl rfl (pc0 := 73) (pc' := 76) (same := true) rfl (hb hby at_73) rfl (decide_eq_true rfl) (by decide) (by decide) ?_
      show Steps p.tables e below (T27.setTop (mkF m 76 #[iv p0_0, rv s_UNORDERED, rv s_UNORDERED, rv s_UNORDERED, iv (1 : Int32), iv (1 : Int32), iv (1 : Int32), .unset] [])) _
      refine XS.iconst X27.here hx rfl (hb hby at_76) ?_
      show Steps p.tables e below (T27.setTop (mkF m 77 #[iv p0_0, rv s_UNORDERED, rv s_UNORDERED, rv s_UNORDERED, iv (1 : Int32), iv (1 : Int32), iv (1 : Int32), .unset] [(.int (1 : Int32))])) _
      refine XS.goto X27.here hx rfl (pc0 := 77) (pc' := 81) rfl (hb hby at_77) (by decide) (by decide) ?_
      show Steps p.tables e below (T27.setTop (mkF m 81 #[iv p0_0, rv s_UNORDERED, rv s_UNORDERED, rv s_UNORDERED, iv (1 : Int32), iv (1 : Int32), iv (1 : Int32), .unset] [(.int (1 : Int32))])) _
      refine XS.iload X27.here hx rfl (hb hby at_81) rfl ?_
      show Steps p.tables e below (T27.setTop (mkF m 83 #[iv p0_0, rv s_UNORDERED, rv s_UNORDERED, rv s_UNORDERED, iv (1 : Int32), iv (1 : Int32), iv (1 : Int32), .unset] [(.int (1 : Int32)), (.int (1 : Int32))])) _
      refine XS.icmpNo X27.here hx rfl (hb hby at_83) rfl (teq (by decide : (1 : Int32) = (1 : Int32))).2 ?_
      show Steps p.tables e below (T27.setTop (mkF m 86 #[iv p0_0, rv s_UNORDERED, rv s_UNORDERED, rv s_UNORDERED, iv (1 : Int32), iv (1 : Int32), iv (1 : Int32), .unset] [])) _
      refine XS.iconst X27.here hx rfl (hb hby at_86) ?_
      show Steps p.tables e below (T27.setTop (mkF m 87 #[iv p0_0, rv s_UNORDERED, rv s_UNORDERED, rv s_UNORDERED, iv (1 : Int32), iv (1 : Int32), iv (1 : Int32), .unset] [(.int (1 : Int32))])) _
      refine XS.goto X27.here hx rfl (pc0 := 87) (pc' := 91) rfl (hb hby at_87) (by decide) (by decide) ?_
      show Steps p.tables e below (T27.setTop (mkF m 91 #[iv p0_0, rv s_UNORDERED, rv s_UNORDERED, rv s_UNORDERED, iv (1 : Int32), iv (1 : Int32), iv (1 : Int32), .unset] [(.int (1 : Int32))])) _
      refine XS.istore X27.here hx rfl (hb hby at_91) rfl (l' := #[iv p0_0, rv s_UNORDERED, rv s_UNORDERED, rv s_UNORDERED, iv (1 : Int32), iv (1 : Int32), iv (1 : Int32), iv (1 : Int32)]) rfl ?_
      show Steps p.tables e below (T27.setTop (mkF m 93 #[iv p0_0, rv s_UNORDERED, rv s_UNORDERED, rv s_UNORDERED, iv (1 : Int32), iv (1 : Int32), iv (1 : Int32), iv (1 : Int32)] [])) _
      refine XS.iload X27.here hx rfl (hb hby at_93) rfl ?_
      show Steps p.tables e below (T27.setTop (mkF m 95 #[iv p0_0, rv s_UNORDERED, rv s_UNORDERED, rv s_UNORDERED, iv (1 : Int32), iv (1 : Int32), iv (1 : Int32), iv (1 : Int32)] [(.int (1 : Int32))])) _
      refine XS.ifNo X27.here hx rfl (hb hby at_95) rfl ((if0 _ _).trans (feq (by decide : ¬ ((1 : Int32) = (0 : Int32)))).1) ?_
      show Steps p.tables e below (T27.setTop (mkF m 98 #[iv p0_0, rv s_UNORDERED, rv s_UNORDERED, rv s_UNORDERED, iv (1 : Int32), iv (1 : Int32), iv (1 : Int32), iv (1 : Int32)] [])) _
      refine XS.iload X27.here hx rfl (hb hby at_98) rfl ?_
      show Steps p.tables e below (T27.setTop (mkF m 100 #[iv p0_0, rv s_UNORDERED, rv s_UNORDERED, rv s_UNORDERED, iv (1 : Int32), iv (1 : Int32), iv (1 : Int32), iv (1 : Int32)] [(.int (1 : Int32))])) _
      refine XS.ifNo X27.here hx rfl (hb hby at_100) rfl ((if0 _ _).trans (feq (by decide : ¬ ((1 : Int32) = (0 : Int32)))).1) ?_
      show Steps p.tables e below (T27.setTop (mkF m 103 #[iv p0_0, rv s_UNORDERED, rv s_UNORDERED, rv s_UNORDERED, iv (1 : Int32), iv (1 : Int32), iv (1 : Int32), iv (1 : Int32)] [])) _
      refine XS.iload X27.here hx rfl (hb hby at_103) rfl ?_
      show Steps p.tables e below (T27.setTop (mkF m 105 #[iv p0_0, rv s_UNORDERED, rv s_UNORDERED, rv s_UNORDERED, iv (1 : Int32), iv (1 : Int32), iv (1 : Int32), iv (1 : Int32)] [(.int (1 : Int32))])) _
      refine XS.ifNo X27.here hx rfl (hb hby at_105) rfl ((if0 _ _).trans (feq (by decide : ¬ ((1 : Int32) = (0 : Int32)))).1) ?_
      show Steps p.tables e below (T27.setTop (mkF m 108 #[iv p0_0, rv s_UNORDERED, rv s_UNORDERED, rv s_UNORDERED, iv (1 : Int32), iv (1 : Int32), iv (1 : Int32), iv (1 : Int32)] [])) _
      refine XS.iconst X27.here hx rfl (hb hby at_108) ?_
      show Steps p.tables e below (T27.setTop (mkF m 109 #[iv p0_0, rv s_UNORDERED, rv s_UNORDERED, rv s_UNORDERED, iv (1 : Int32), iv (1 : Int32), iv (1 : Int32), iv (1 : Int32)] [(.int (1 : Int32))])) _
      refine XS.goto X27.here hx rfl (pc0 := 109) (pc' := 113) rfl (hb hby at_109) (by decide) (by decide) ?_
      show Steps p.tables e below (T27.setTop (mkF m 113 #[iv p0_0, rv s_UNORDERED, rv s_UNORDERED, rv s_UNORDERED, iv (1 : Int32), iv (1 : Int32), iv (1 : Int32), iv (1 : Int32)] [(.int (1 : Int32))])) _
      exact retN X27 hx (t := .boolean) Bd.returns (by simp) (hb hby at_113) hr
    · show Q_rm0 Z _ _ _ _ h0 n0 _ T27.heap _
      rw [e27]
      exact ⟨rfl, N25, (Keep.refl h0 [])⟩
set_option maxRecDepth 65536 in
set_option maxHeartbeats 40000000 in
theorem comes_1 {Post : Tables → Env → Array Value → State → Outcome → State → Prop} (hpost : ∀ tb e args s v u, (limb_1_1.after args s (.returned v) u = true ∧ limb_1_2.after args s (.returned v) u = true ∧ True) → FrameEnd s (.returned v) u (Jvm.fieldLocs frame_1_writes args s ++ Jvm.arrayLocs frame_1_arrays args s ++ Jvm.staticLocs frame_1_statics s) 0 0 → Post tb e args s (.returned v) u) :
    ArmFor flags0 classFile x code maxLocals ret World_1 tables_1 room_1 Calls_1 rest_1 Pre_1 Post := by
  intro l hfl _ _ p e ha hc hk s m args below hf hA hF happ hP
  obtain ⟨hcalls, hrest, hpre⟩ := hP
  obtain ⟨-, -, -, hnamed, -, -, -, hat⟩ := (Spec.applies_iff hf).mp happ
  obtain ⟨hg, hn⟩ := and_e (Cond.before_iff.mp (show (Jvm.Cond.and given_1 narrow_1).before args s = true from hpre))
  obtain ⟨g1, g2⟩ := and_e hg
  obtain ⟨w0, rfl⟩ : ∃ w0 : Value, args = #[w0] := by
    have hs : args.size = 1 := by simpa [Cond.value, given_1] using g1
    obtain ⟨L⟩ := args
    match L, hs with
    | [w0], _ => exact ⟨w0, rfl⟩
  have hw := fun d (hd : d ∈ tables_1) => atoms_spec (ws := Jvm.Cond.code x code maxLocals ret :: tables_1) hat d (List.mem_cons_of_mem _ hd)
  have hfit : Fit s := fun {y c} hc i hi => by
    obtain ⟨ha, rfl⟩ := Array.getElem?_eq_some_iff.mp hc
    have q := List.all_eq_true.mp ((Array.all_eq_true_iff_forall_mem.mp hF) _ (Array.getElem_mem ha)) i (List.mem_range.mpr hi)
    simpa [Array.getElem?_eq_getElem hi] using q
  obtain ⟨i0, ei0⟩ := is_v g2
  obtain rfl : w0 = (.int i0) := Option.some.inj ei0
  obtain ⟨hn1a, hn1b⟩ := and_e hn
  obtain ⟨hn2a, hn2b⟩ := and_e hn1b
  obtain ⟨hn3a, hn3b⟩ := and_e hn2b
  obtain ⟨hn4a, hn4b⟩ := and_e hn3b
  obtain ⟨hn5a, hn5b⟩ := and_e hn4b
  obtain ⟨s_ASCENDING, es_ASCENDING⟩ := exa_v hn1a
  have Ss_ASCENDING : Sta s s.heap "com/example/dido/dido/keys/ColumnField$KeyOrder" "ASCENDING" "Lcom/example/dido/dido/keys/ColumnField$KeyOrder;" (.ref s_ASCENDING) := Sta.start es_ASCENDING (Or.inr ⟨(hw _ (List.mem_of_getElem? (i := 6) rfl)), (hw _ (List.mem_of_getElem? (i := 7) rfl))⟩)
  have Es_ASCENDING := Exa.start es_ASCENDING hn1a
  have vs_ASCENDING := own_eqv hn2a
  rw [fld_at es_ASCENDING] at vs_ASCENDING
  have Fs_ASCENDING := Fld.start vs_ASCENDING
  obtain ⟨s_DESCENDING, es_DESCENDING⟩ := exa_v hn3a
  have Ss_DESCENDING : Sta s s.heap "com/example/dido/dido/keys/ColumnField$KeyOrder" "DESCENDING" "Lcom/example/dido/dido/keys/ColumnField$KeyOrder;" (.ref s_DESCENDING) := Sta.start es_DESCENDING (Or.inr ⟨(hw _ (List.mem_of_getElem? (i := 6) rfl)), (hw _ (List.mem_of_getElem? (i := 23) rfl))⟩)
  have Es_DESCENDING := Exa.start es_DESCENDING hn3a
  have vs_DESCENDING := own_eqv hn4a
  rw [fld_at es_DESCENDING] at vs_DESCENDING
  have Fs_DESCENDING := Fld.start vs_DESCENDING
  obtain ⟨s_UNORDERED, es_UNORDERED⟩ := exa_v hn5a
  have Ss_UNORDERED : Sta s s.heap "com/example/dido/dido/keys/ColumnField$KeyOrder" "UNORDERED" "Lcom/example/dido/dido/keys/ColumnField$KeyOrder;" (.ref s_UNORDERED) := Sta.start es_UNORDERED (Or.inr ⟨(hw _ (List.mem_of_getElem? (i := 6) rfl)), (hw _ (List.mem_of_getElem? (i := 26) rfl))⟩)
  have Es_UNORDERED := Exa.start es_UNORDERED hn5a
  have vs_UNORDERED := own_eqv hn5b
  rw [fld_at es_UNORDERED] at vs_UNORDERED
  have Fs_UNORDERED := Fld.start vs_UNORDERED
  obtain ⟨n, o, h1, h2, h3, _, L, rfl, ⟨rfl, N, -⟩, hq⟩ := rm0 l s _ hw tables_1 i0 s_ASCENDING s_DESCENDING s_UNORDERED s.heap s.heap.size (Nat.le_refl _) (Old.start s) Ss_ASCENDING Es_ASCENDING Fs_ASCENDING Ss_DESCENDING Es_DESCENDING Fs_DESCENDING Ss_UNORDERED Es_UNORDERED Fs_UNORDERED p e ha hc hk s m _ below hf ((Spec.applies_iff_loose hf).mp happ).1 ⟨rfl, State.Warmed39.refl s, rfl⟩ trivial
  refine ⟨n, _, h1, h2, h3, hpost _ _ _ _ _ _ ⟨Cond.after_iff.mpr rfl, Cond.after_iff.mpr (eq_i res_at (Term.int_eval (1)) rfl), trivial⟩ ⟨hq.1, hq.2.1, (hq.2.2.sift fun y hy => Or.inr (N y hy)).mono (by decide) (by decide)⟩⟩
theorem main_1_1 : Claimed_1_1 := comes_1 fun _ _ _ _ _ _ h hF => ⟨h.1, hF⟩
theorem main_1_2 : Claimed_1_2 := comes_1 fun _ _ _ _ _ _ h hF => ⟨h.2.1, hF⟩
end Jvm.Pilot.@@N@@
namespace Jvm.Pilot.@@N@@
open Jvm Jvm.ClassFile Sem Op Lib Jvm.Free Jvm.Stand Jvm.Pilot.@@N@@.Jvm.D
/-! MADE BY PROGRAM (witnessworld.py) out of the Statement's table words and the real class files: 12 classes; the members and pool entries that the words name. The judged class is class 1, her method 2. -/
namespace start1
open Jvm.ClassFile
def u (s : String) : CpInfo := .utf8 (stringToUtf16 s)
/-- a pool by its gaps: so many unusable entries, then the entry; so many at the end -/
def gap : Nat → List CpInfo → List CpInfo
  | 0, r => r
  | n + 1, r => .unusable :: gap n r
def poolList (es : List (Nat × CpInfo)) (last : Nat) : List CpInfo := es.foldr (fun e r => gap e.1 (e.2 :: r)) (gap last [])
def pool (es : List (Nat × CpInfo)) (last : Nat) : Array CpInfo := ⟨poolList es last⟩
def fileOf (pool : Array CpInfo) (this : Nat) (attrs : Array Attribute := #[]) (ms : Array MethodInfo := #[]) (fl : Nat := 33) (sup : Nat := 0) (ifs : Array Nat := #[]) (fds : Array FieldInfo := #[]) : ClassFile where
  minorVersion := 0
  majorVersion := 65
  constantPool := pool
  accessFlags := fl
  thisClass := this
  superClass := sup
  interfaces := ifs
  fields := fds
  methods := ms
  attributes := attrs
def plain (name : String) (sup : Option ClassId) : Class where
  name := name
  kind := .ordinary
  loader := none
  accessFlags := 33
  super := sup
  interfaces := #[]
  cf := none
  fields := #[]
  methods := #[]
  instanceTypes := #[]
  staticTypes := #[]
  resolved := #[]
  callSites := []
  init := .initialized
  statics := none
  mirror := none

def pool0 : Array CpInfo := pool [(5, u "<init>"), (0, u "()V"), (1, .class_ 10), (1, u "java/lang/Object")] 113

def k0m0 : Method := { name := "<init>", desc := "()V", sig := { parameters := [], returnType := none }, accessFlags := 1, code := none }
/-- java/lang/Object -/
def k0 : Class := { plain "java/lang/Object" none with
  accessFlags := 33
  interfaces := #[]
  cf := some (fileOf pool0 8 #[] #[{ accessFlags := 1, nameIndex := 5, descriptorIndex := 6, attributes := #[] }] 33 0 #[] #[])
  fields := #[]
  methods := #[k0m0]
  instanceTypes := #[]
  staticTypes := #[]
  resolved := Array.replicate 124 none
  statics := none }

def pool1 : Array CpInfo := pool [(2, .class_ 4), (1, u "java/lang/Object"), (0, u "<init>"), (0, u "()V"), (0, .integer 2147483647), (0, .fieldref 9 10), (0, .class_ 11), (0, .nameAndType 12 13), (0, u "com/example/dido/dido/keys/ColumnField$KeyOrder"), (0, u "ASCENDING"), (0, u "Lcom/example/dido/dido/keys/ColumnField$KeyOrder;"), (0, .fieldref 9 15), (0, .nameAndType 16 13), (0, u "DESCENDING"), (0, .fieldref 9 18), (0, .nameAndType 19 13), (0, u "UNORDERED"), (0, .methodref 21 22), (0, .class_ 23), (0, .nameAndType 24 25), (0, u "com/example/dido/dido/keys/KeyOrderReversedPinLaw"), (0, u "pick"), (0, u "(I)Lcom/example/dido/dido/keys/ColumnField$KeyOrder;"), (0, .methodref 9 27), (0, .nameAndType 28 29), (0, u "reversed"), (0, u "()Lcom/example/dido/dido/keys/ColumnField$KeyOrder;"), (3, u "law"), (0, u "(I)Z")] 6

def k1m0 : Method := { name := "<init>", desc := "()V", sig := { parameters := [], returnType := none }, accessFlags := 2, code := none }
def k1c1 : Code := { maxStack := 2, maxLocals := 2, code := method_2_code, exceptionTable := #[], attributes := #[] }
def k1m1 : Method := { name := "pick", desc := "(I)Lcom/example/dido/dido/keys/ColumnField$KeyOrder;", sig := { parameters := [.int], returnType := some (.object "com/example/dido/dido/keys/ColumnField$KeyOrder") }, accessFlags := 10, code := some k1c1 }
def k1c2 : Code := { maxStack := 2, maxLocals := 8, code := code, exceptionTable := #[], attributes := #[] }
def k1m2 : Method := { name := "law", desc := "(I)Z", sig := { parameters := [.int], returnType := some .boolean }, accessFlags := 9, code := some k1c2 }
/-- com/example/dido/dido/keys/KeyOrderReversedPinLaw -/
def k1 : Class := { plain "com/example/dido/dido/keys/KeyOrderReversedPinLaw" (some 0) with
  accessFlags := 49
  interfaces := #[]
  cf := some (fileOf pool1 21 #[] #[{ accessFlags := 2, nameIndex := 5, descriptorIndex := 6, attributes := #[] }, { accessFlags := 10, nameIndex := 24, descriptorIndex := 25, attributes := #[] }, { accessFlags := 9, nameIndex := 33, descriptorIndex := 34, attributes := #[] }] 49 2 #[] #[])
  fields := #[]
  methods := #[k1m0, k1m1, k1m2]
  instanceTypes := #[]
  staticTypes := #[]
  resolved := Array.replicate 41 none
  statics := none }

def pool2 : Array CpInfo := pool [(1, .class_ 2), (0, u "java/lang/constant/Constable"), (0, .class_ 4), (0, u "java/lang/Object")] 6

/-- java/lang/constant/Constable -/
def k2 : Class := { plain "java/lang/constant/Constable" (some 0) with
  accessFlags := 1537
  interfaces := #[]
  cf := some (fileOf pool2 1 #[] #[] 1537 3 #[] #[])
  fields := #[]
  methods := #[]
  instanceTypes := #[]
  staticTypes := #[]
  resolved := Array.replicate 11 none
  statics := none }

def pool3 : Array CpInfo := pool [(1, .class_ 2), (0, u "java/lang/Comparable"), (0, .class_ 4), (0, u "java/lang/Object")] 7

/-- java/lang/Comparable -/
def k3 : Class := { plain "java/lang/Comparable" (some 0) with
  accessFlags := 1537
  interfaces := #[]
  cf := some (fileOf pool3 1 #[] #[] 1537 3 #[] #[])
  fields := #[]
  methods := #[]
  instanceTypes := #[]
  staticTypes := #[]
  resolved := Array.replicate 12 none
  statics := none }

def pool4 : Array CpInfo := pool [(1, .class_ 2), (0, u "java/io/Serializable"), (0, .class_ 4), (0, u "java/lang/Object")] 2

/-- java/io/Serializable -/
def k4 : Class := { plain "java/io/Serializable" (some 0) with
  accessFlags := 1537
  interfaces := #[]
  cf := some (fileOf pool4 1 #[] #[] 1537 3 #[] #[])
  fields := #[]
  methods := #[]
  instanceTypes := #[]
  staticTypes := #[]
  resolved := Array.replicate 7 none
  statics := none }

def pool5 : Array CpInfo := pool [(2, .class_ 4), (1, u "java/lang/Enum"), (0, u "name"), (0, u "Ljava/lang/String;"), (0, .fieldref 2 8), (0, .nameAndType 9 10), (0, u "ordinal"), (0, u "I"), (1, .class_ 14), (1, u "java/lang/Object"), (4, u "hash"), (86, .class_ 108), (1, u "java/lang/Enum$EnumDesc"), (2, .class_ 112), (0, u "java/lang/constant/Constable"), (0, .class_ 114), (0, u "java/lang/Comparable"), (0, .class_ 116), (0, u "java/io/Serializable"), (9, u "()I")] 77

def k5c0 : Code := { maxStack := 1, maxLocals := 1, code := jdk_37_method_2_code, exceptionTable := #[], attributes := #[] }
def k5m0 : Method := { name := "ordinal", desc := "()I", sig := { parameters := [], returnType := some .int }, accessFlags := 17, code := some k5c0 }
/-- java/lang/Enum -/
def k5 : Class := { plain "java/lang/Enum" (some 0) with
  accessFlags := 1057
  interfaces := #[2, 3, 4]
  cf := some (fileOf pool5 2 #[.nestMembers #[106]] #[{ accessFlags := 17, nameIndex := 9, descriptorIndex := 126, attributes := #[] }] 1057 12 #[111, 113, 115] #[{ accessFlags := 18, nameIndex := 5, descriptorIndex := 6, attributes := #[] }, { accessFlags := 18, nameIndex := 9, descriptorIndex := 10, attributes := #[] }, { accessFlags := 2, nameIndex := 19, descriptorIndex := 10, attributes := #[] }])
  fields := #[{ name := "name", type := (.object "java/lang/String"), accessFlags := 18, slot := 0, constantValue := 0 }, { name := "ordinal", type := .int, accessFlags := 18, slot := 1, constantValue := 0 }, { name := "hash", type := .int, accessFlags := 2, slot := 2, constantValue := 0 }]
  methods := #[k5m0]
  instanceTypes := #[(.object "java/lang/String"), .int, .int]
  staticTypes := #[]
  resolved := Array.replicate 204 none
  statics := none }

def pool6 : Array CpInfo := pool [(1, .class_ 2), (0, u "com/example/dido/dido/keys/ColumnField$KeyOrder"), (0, .fieldref 1 4), (0, .nameAndType 5 6), (0, u "ASCENDING"), (0, u "Lcom/example/dido/dido/keys/ColumnField$KeyOrder;"), (0, .fieldref 1 8), (0, .nameAndType 9 6), (0, u "DESCENDING"), (0, .fieldref 1 11), (0, .nameAndType 12 6), (0, u "UNORDERED"), (2, u "$VALUES"), (0, u "[Lcom/example/dido/dido/keys/ColumnField$KeyOrder;"), (6, .class_ 25), (1, u "java/lang/Enum"), (6, .methodref 1 33), (0, .nameAndType 34 35), (0, u "ordinal"), (0, u "()I"), (20, u "reversed"), (0, u "()Lcom/example/dido/dido/keys/ColumnField$KeyOrder;"), (6, .class_ 65), (0, u "com/example/dido/dido/keys/ColumnField")] 2

def k6c0 : Code := { maxStack := 4, maxLocals := 1, code := prog_4_method_4_code, exceptionTable := #[], attributes := #[] }
def k6m0 : Method := { name := "reversed", desc := "()Lcom/example/dido/dido/keys/ColumnField$KeyOrder;", sig := { parameters := [], returnType := some (.object "com/example/dido/dido/keys/ColumnField$KeyOrder") }, accessFlags := 0, code := some k6c0 }
/-- com/example/dido/dido/keys/ColumnField$KeyOrder -/
def k6 : Class := { plain "com/example/dido/dido/keys/ColumnField$KeyOrder" (some 5) with
  accessFlags := 16433
  interfaces := #[]
  cf := some (fileOf pool6 1 #[.nestHost 64] #[{ accessFlags := 0, nameIndex := 56, descriptorIndex := 57, attributes := #[] }] 16433 23 #[] #[{ accessFlags := 16409, nameIndex := 5, descriptorIndex := 6, attributes := #[] }, { accessFlags := 16409, nameIndex := 9, descriptorIndex := 6, attributes := #[] }, { accessFlags := 16409, nameIndex := 12, descriptorIndex := 6, attributes := #[] }, { accessFlags := 4122, nameIndex := 15, descriptorIndex := 16, attributes := #[] }])
  fields := #[{ name := "ASCENDING", type := (.object "com/example/dido/dido/keys/ColumnField$KeyOrder"), accessFlags := 16409, slot := 0, constantValue := 0 }, { name := "DESCENDING", type := (.object "com/example/dido/dido/keys/ColumnField$KeyOrder"), accessFlags := 16409, slot := 1, constantValue := 0 }, { name := "UNORDERED", type := (.object "com/example/dido/dido/keys/ColumnField$KeyOrder"), accessFlags := 16409, slot := 2, constantValue := 0 }, { name := "$VALUES", type := (.array (.object "com/example/dido/dido/keys/ColumnField$KeyOrder")), accessFlags := 4122, slot := 3, constantValue := 0 }]
  methods := #[k6m0]
  instanceTypes := #[(.object "java/lang/String"), .int, .int]
  staticTypes := #[(.object "com/example/dido/dido/keys/ColumnField$KeyOrder"), (.object "com/example/dido/dido/keys/ColumnField$KeyOrder"), (.object "com/example/dido/dido/keys/ColumnField$KeyOrder"), (.array (.object "com/example/dido/dido/keys/ColumnField$KeyOrder"))]
  resolved := Array.replicate 68 none
  statics := some 0 }

def pool7 : Array CpInfo := pool [(1, u "java/lang/Cloneable"), (0, .class_ 1), (0, u "java/lang/Object"), (0, .class_ 3)] 3

/-- java/lang/Cloneable -/
def k7 : Class := { plain "java/lang/Cloneable" (some 0) with
  accessFlags := 1537
  interfaces := #[]
  cf := some (fileOf pool7 2 #[] #[] 1537 4 #[] #[])
  fields := #[]
  methods := #[]
  instanceTypes := #[]
  staticTypes := #[]
  resolved := Array.replicate 8 none
  statics := none }

/-- the primitive byte -/
def k8 : Class := { plain "byte" none with kind := .primitive 'B', accessFlags := 0x411 }
/-- [B -/
def k9 : Class := { plain "[B" (some 0) with kind := .array 8 .byte, interfaces := #[7, 4], accessFlags := 1041 }

/-- the primitive int -/
def k10 : Class := { plain "int" none with kind := .primitive 'I', accessFlags := 0x411 }
/-- [I -/
def k11 : Class := { plain "[I" (some 0) with kind := .array 10 .int, interfaces := #[7, 4], accessFlags := 1041 }

def heap : Heap := #[{ cls := 6, slots := #[.ref 1, .ref 2, .ref 3, .null], vm := .statics 6 },
  { cls := 6, slots := #[.null, .int 0, .int 0], vm := .none },
  { cls := 6, slots := #[.null, .int 1, .int 0], vm := .none },
  { cls := 6, slots := #[.null, .int 2, .int 0], vm := .none }]
def classes : Array Class := #[k0, k1, k2, k3, k4, k5, k6, k7, k8, k9, k10, k11]
def interned : List (Array UInt16 × Addr) := []
def slotsUsed : Nat := 13
def theMethod : MethodId := ⟨1, 2⟩
def args0 : Array Value := #[.int 5]
def aboutOver (below : List Frame) : State where
  vm := { classes := classes, interned := interned.toArray }
  heap := heap
  slotsUsed := slotsUsed
  threads := #[{ frames := .invoking theMethod args0 :: below }]
def below0 : List Frame := [.native { method := ⟨0, 0⟩, args := #[] }]
def about1 : State := aboutOver below0
def p0 : Program := .bare "" "" ""
def e0 : Env := launch0.env 0 0 0
theorem w_frames : about1.frames = Frame.invoking theMethod args0 :: below0 := rfl
set_option maxRecDepth 65536 in
theorem w_args : argsFit about1.vm theMethod args0 = true := by decide +kernel
set_option maxRecDepth 65536 in
theorem w_heap : heapFits about1 = true := by decide +kernel
set_option maxRecDepth 65536 in
theorem w_runnable : about1.curStatus? = some .runnable := by decide +kernel
set_option maxRecDepth 65536 in
theorem w_alone : about1.alone = true := by decide +kernel
set_option maxRecDepth 65536 in
theorem w_named : about1.methodNamed? x = some theMethod := by decide +kernel
set_option maxRecDepth 65536 in
theorem w_hears : about1.hears theMethod below0 = true := by decide +kernel
set_option maxRecDepth 65536 in
theorem w_ripe : about1.ripe theMethod args0 below0 = true := by decide +kernel
theorem w_running : about1.status = .running := rfl
set_option maxRecDepth 65536 in
theorem w_room : about1.hasRoom e0.platform room_1 = true :=
  launch0.hasRoom_least _ room_1 (by decide +kernel) (by decide +kernel) (by decide +kernel) (by decide +kernel) (by decide +kernel) (by decide +kernel)
theorem allAtoms_all (ts : List Jvm.Cond) (a : Array Jvm.Value) (st : Jvm.State) : (allAtoms ts).before a st = ts.all (fun c => c.before a st) := by
  induction ts with
  | nil => rfl
  | cons c t ih =>
    show (Jvm.Cond.and c (allAtoms t)).before a st = _
    rw [Jvm.Cond.before_and, ih, List.all_cons]
def words1 : List Jvm.Cond := Jvm.Cond.code x code maxLocals ret :: tables_1
/-- a 'code' word, met by the world's own term for the bytes: nothing is compared byte by byte -/
theorem code_word {y : MethodName} {bytes : ByteArray} {mx : Nat} {rt : Option FieldType} {a : Array Value} {s : State} {m : MethodId} {meth : Method} {c : Code} (h1 : s.methodNamed? y = some m) (h2 : s.vm.method? m = some meth) (h3 : meth.code = some c) (h4 : c.code = bytes)
    (h5 : (c.maxLocals == mx && c.exceptionTable.isEmpty && decide (c.maxStack ≤ mostOperands) && decide (meth.sig.returnType = rt) && !meth.locks && decide (parseMethodDescriptor y.desc = some meth.sig)) = true) : (Jvm.Cond.code y bytes mx rt).before a s = true := by
  simp only [Bool.and_eq_true, beq_iff_eq, Bool.not_eq_true', decide_eq_true_eq] at h5
  obtain ⟨⟨⟨⟨⟨g1, g2⟩, g3⟩, g4⟩, g5⟩, g6⟩ := h5
  simp [Cond.before, Cond.holds, Cond.value, h1, h2, h3, h4, g1, g2, g3, g4, g5, g6]
def isCode : Jvm.Cond → Bool
  | .code _ _ _ _ => true
  | _ => false
theorem all_split {L : List Jvm.Cond} {P : Jvm.Cond → Bool} (h1 : L.all (fun c => isCode c || P c) = true) (h2 : ∀ c ∈ L.filter isCode, P c = true) : L.all P = true := by
  refine List.all_eq_true.mpr fun c hc => ?_
  have h := List.all_eq_true.mp h1 c hc
  rcases Bool.eq_false_or_eq_true (isCode c) with hi | hi
  · exact h2 c (List.mem_filter.mpr ⟨hc, hi⟩)
  · simpa [hi] using h
set_option maxRecDepth 65536 in
theorem w_c0 : (Jvm.Cond.code x code maxLocals ret).before args0 about1 = true := code_word (m := ⟨1, 2⟩) (meth := k1m2) (c := k1c2) (by decide +kernel) rfl rfl rfl (by decide +kernel)
set_option maxRecDepth 65536 in
theorem w_c1 : (Jvm.Cond.code ({ cls := "com/example/dido/dido/keys/KeyOrderReversedPinLaw", name := "pick", desc := "(I)Lcom/example/dido/dido/keys/ColumnField$KeyOrder;" } : Jvm.MethodName) method_2_code (2 : Nat) (Option.some (Jvm.ClassFile.FieldType.object "com/example/dido/dido/keys/ColumnField$KeyOrder"))).before args0 about1 = true := code_word (m := ⟨1, 1⟩) (meth := k1m1) (c := k1c1) (by decide +kernel) rfl rfl rfl (by decide +kernel)
set_option maxRecDepth 65536 in
theorem w_c2 : (Jvm.Cond.code ({ cls := "com/example/dido/dido/keys/ColumnField$KeyOrder", name := "reversed", desc := "()Lcom/example/dido/dido/keys/ColumnField$KeyOrder;" } : Jvm.MethodName) prog_4_method_4_code (1 : Nat) (Option.some (Jvm.ClassFile.FieldType.object "com/example/dido/dido/keys/ColumnField$KeyOrder"))).before args0 about1 = true := code_word (m := ⟨6, 0⟩) (meth := k6m0) (c := k6c0) (by decide +kernel) rfl rfl rfl (by decide +kernel)
set_option maxRecDepth 65536 in
theorem w_c3 : (Jvm.Cond.code ({ cls := "java/lang/Enum", name := "ordinal", desc := "()I" } : Jvm.MethodName) jdk_37_method_2_code (1 : Nat) (Option.some Jvm.ClassFile.FieldType.int)).before args0 about1 = true := code_word (m := ⟨5, 0⟩) (meth := k5m0) (c := k5c0) (by decide +kernel) rfl rfl rfl (by decide +kernel)
def codes1 : List Jvm.Cond := [Jvm.Cond.code x code maxLocals ret, Jvm.Cond.code ({ cls := "com/example/dido/dido/keys/KeyOrderReversedPinLaw", name := "pick", desc := "(I)Lcom/example/dido/dido/keys/ColumnField$KeyOrder;" } : Jvm.MethodName) method_2_code (2 : Nat) (Option.some (Jvm.ClassFile.FieldType.object "com/example/dido/dido/keys/ColumnField$KeyOrder")), Jvm.Cond.code ({ cls := "com/example/dido/dido/keys/ColumnField$KeyOrder", name := "reversed", desc := "()Lcom/example/dido/dido/keys/ColumnField$KeyOrder;" } : Jvm.MethodName) prog_4_method_4_code (1 : Nat) (Option.some (Jvm.ClassFile.FieldType.object "com/example/dido/dido/keys/ColumnField$KeyOrder")), Jvm.Cond.code ({ cls := "java/lang/Enum", name := "ordinal", desc := "()I" } : Jvm.MethodName) jdk_37_method_2_code (1 : Nat) (Option.some Jvm.ClassFile.FieldType.int)]
set_option maxRecDepth 65536 in
theorem codes_eq : words1.filter isCode = codes1 := rfl
theorem w_codes : ∀ c ∈ words1.filter isCode, c.before args0 about1 = true := by
  rw [codes_eq]
  intro c hc
  simp only [codes1, List.mem_cons, List.not_mem_nil, or_false] at hc
  rcases hc with rfl | rfl | rfl | rfl
  · exact w_c0
  · exact w_c1
  · exact w_c2
  · exact w_c3
set_option maxRecDepth 65536 in
theorem w_t1 : (words1.take 24).all (fun c => isCode c || c.before args0 about1) = true := by decide +kernel
set_option maxRecDepth 65536 in
theorem w_t2 : (words1.drop 24).all (fun c => isCode c || c.before args0 about1) = true := by decide +kernel
theorem w_tables : (allAtoms (Jvm.Cond.code x code maxLocals ret :: tables_1)).before args0 about1 = true := by
  rw [allAtoms_all]
  show words1.all (fun c => c.before args0 about1) = true
  refine all_split ?_ w_codes
  rw [← List.take_append_drop 24 words1, List.all_append, w_t1, w_t2]
  rfl
set_option maxRecDepth 65536 in
theorem w_case : (Jvm.Cond.and given_1 narrow_1).before args0 about1 = true := by decide +kernel
theorem w_applies : (headSpec (Jvm.Cond.code x code maxLocals ret :: tables_1) room_1).applies x e0.platform about1 = true :=
  (Spec.applies_iff w_frames).mpr ⟨w_running, w_runnable, w_alone, w_named, w_hears, w_ripe, w_room, w_tables⟩
theorem atStart : AtStart classFile x code maxLocals ret World_1 tables_1 room_1 Calls_1 rest_1 Pre_1 launch0 p0 e0 about1 theMethod args0 below0 :=
  ⟨lists_1, trivial, launch0.admits_env _ _ _, launch0.least_env, fairChoices_fair.cas, fairChoices_fair.clock, w_frames, w_args, w_heap, w_applies, trivial, trivial, w_case⟩
end start1
theorem witness_1 : WitnessClaimed_1 := ⟨start1.p0, start1.e0, start1.about1, start1.theMethod, start1.args0, start1.below0, start1.atStart⟩
end Jvm.Pilot.@@N@@
