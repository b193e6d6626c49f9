import JvmDerived
import JvmDerived.Pilot.@@N@@Statement
import JvmDerived.Pilot.@@N@@Code
set_option linter.unusedVariables false
set_option linter.unusedSimpArgs false
namespace Jvm.RoadKit
open Sem ClassFile Op Lib Jvm.Stand Jvm.Free Jvm.LawKit
section New
variable {p : Program} {l : Launch} {e : Env} {R : Room} {s : State} {m : MethodId} {args : Array Value} {below : List Frame} {meth : Method} {c : Code} {T : State} {locs : List Loc} {cells slots : Nat}
theorem retI (X : Stand p l e R s m args below meth c T locs cells slots) (hx : p.tables.exec = Jvm.exec) {pc : Nat} {Ls : Array Slot} {z : Int32} {rest : List Value} (hret : meth.sig.returnType = some .int) (hd : decode c.code pc = .ok (.ireturn, 1)) {fs : List Frame}
    (hl : ∀ (f : JFrame) (acts : List Action), f.method = m → f.locked = none → f.entered = [] → (doReturn e (T.setTop f) acts (some (.int z))).1 = T.setFrames fs) : Steps p.tables e below (T.setTop (mkF m pc Ls (.int z :: rest))) (T.setFrames fs) := by
  have hm' : T.vm.method? m = some meth := X.method'
  have hn : narrow .int (.int z) = .int z := rfl
  show Steps p.tables e below (T.setTop { method := m, pc := pc, locals := Ls, stack := _ :: rest, locked := none }) _
  jvm_step X.here [X.here.top, hx, hd, hm', hret, hn]
  first | (intro acts; rw [hl _ acts rfl rfl rfl]) | rw [hl _ _ rfl rfl rfl]
  exact Steps.refl _
end New
end Jvm.RoadKit
namespace Jvm.Pilot.@@N@@
open Jvm Jvm.ClassFile Sem Op Lib Jvm.Free Jvm.Stand Jvm.LawKit Jvm.RoadKit Bundle Jvm.Pilot.@@N@@.Jvm.D
def Av (Z : State) (h : Heap) (a : Addr) (ty : FieldType) (n : Int32) (vs : List Value) (d : Value) : Prop := ∃ k, Arv Z h a k ty n vs d
theorem Av.lt {Z : State} {h : Heap} {a : Addr} {ty : FieldType} {n : Int32} {vs : List Value} {d : Value} (F : Av Z h a ty n vs d) : a < h.size := by obtain ⟨k, F⟩ := F; exact F.lt
theorem Av.ext {Z : State} {h h' : Heap} {a : Addr} {ty : FieldType} {n : Int32} {vs : List Value} {d : Value} (F : Av Z h a ty n vs d) (E : Ext h h') : Av Z h' a ty n vs d := by obtain ⟨k, F⟩ := F; exact ⟨k, F.ext E⟩
theorem Av.other {Z : State} {h h' : Heap} {a b : Addr} {ty : FieldType} {n : Int32} {vs : List Value} {d : Value} {sl : Nat} {v : Value} (F : Av Z h b ty n vs d) (W : Wr h h' a sl v) (q : b ≠ a) : Av Z h' b ty n vs d := by obtain ⟨k, F⟩ := F; exact ⟨k, F.other W q⟩
def Al (Z : State) (h : Heap) (a : Addr) (ty : FieldType) (n : Int32) : Prop := ∃ c : Cell, Arr Z h a c ty ∧ c.slots.size = n.toNatClampNeg ∧ ¬ n < 0
theorem Al.lt {Z : State} {h : Heap} {a : Addr} {ty : FieldType} {n : Int32} (F : Al Z h a ty n) : a < h.size := by obtain ⟨c, A, -⟩ := F; exact A.lt
theorem Al.ext {Z : State} {h h' : Heap} {a : Addr} {ty : FieldType} {n : Int32} (F : Al Z h a ty n) (E : Ext h h') : Al Z h' a ty n := by obtain ⟨c, A, r⟩ := F; exact ⟨c, A.ext E, r⟩
theorem Al.other {Z : State} {h h' : Heap} {a b : Addr} {ty : FieldType} {n : Int32} {sl : Nat} {v : Value} (F : Al Z h b ty n) (W : Wr h h' a sl v) (q : b ≠ a) : Al Z h' b ty n := by obtain ⟨c, A, r⟩ := F; exact ⟨c, A.other W q, r⟩
theorem Al.same {Z : State} {h h' : Heap} {a : Addr} {ty : FieldType} {n : Int32} {sl : Nat} {v : Value} (F : Al Z h a ty n) (W : Wr h h' a sl v) : Al Z h' a ty n := by obtain ⟨c, A, r⟩ := F; exact ⟨_, A.same W, by rw [sz_set]; exact r.1, r.2⟩
theorem Al.keep {Z : State} {h h' : Heap} {a : Addr} {ty : FieldType} {n : Int32} {ws : List Addr} (F : Al Z h a ty n) (K : Keep h h' ws) (q : a ∉ ws) : Al Z h' a ty n := by obtain ⟨c, A, r⟩ := F; exact ⟨c, ⟨K.2.1 a c A.1 q, A.2⟩, r⟩
theorem Av.al {Z : State} {h : Heap} {a : Addr} {ty : FieldType} {n : Int32} {vs : List Value} {d : Value} (F : Av Z h a ty n vs d) : Al Z h a ty n := by obtain ⟨k, c, A, -, r1, r2, -⟩ := F; exact ⟨c, A, r1, r2⟩
theorem Av.keep {Z : State} {h h' : Heap} {a : Addr} {ty : FieldType} {n : Int32} {vs : List Value} {d : Value} {ws : List Addr} (F : Av Z h a ty n vs d) (K : Keep h h' ws) (q : a ∉ ws) : Av Z h' a ty n vs d := by obtain ⟨k, F⟩ := F; exact ⟨k, F.keep K q⟩
abbrev MN1 : MethodName := ⟨"com/example/unand/unand/model/AddressCycles", "<init>", "(II)V"⟩
abbrev MN2 : MethodName := ⟨"com/example/unand/unand/model/AddressCycles", "<init>", "(IIZ)V"⟩
abbrev MN4 : MethodName := ⟨"com/example/unand/unand/model/AddressCycles", "complete", "()Z"⟩
abbrev MN5 : MethodName := ⟨"com/example/unand/unand/model/AddressCycles", "take", "(B)V"⟩
abbrev MN6 : MethodName := ⟨"java/lang/Math", "min", "(II)I"⟩
abbrev MN7 : MethodName := ⟨"java/lang/Byte", "toUnsignedInt", "(B)I"⟩
theorem own_mod (x y : Int32) (hy : 0 < y.toInt) : 0 ≤ ((x &&& 2147483647) % y).toInt ∧ ((x &&& 2147483647) % y).toInt < y.toInt := by
  have h0 := c_mask x 2147483647 31 (by decide) (by decide)
  have h := (c_iremV (x &&& 2147483647) y).1 (by omega) hy
  exact ⟨h.1, h.2.1⟩
theorem own_mod3 (x : Int32) : 0 ≤ ((x &&& 2147483647) % 3).toInt ∧ ((x &&& 2147483647) % 3).toInt < 3 := own_mod x 3 (by decide)
theorem own_sum (c r : Int32) (hc : 0 ≤ c.toInt ∧ c.toInt < 3) (hr : 0 ≤ r.toInt ∧ r.toInt < 3) : (c + r).toInt = c.toInt + r.toInt := by
  have q := c_iadd c r
  have q2 := rng32 (c + r)
  omega
theorem own_suc (x : Int32) (h1 : 0 ≤ x.toInt) (h2 : x.toInt < 100) : (x + 1).toInt = x.toInt + 1 := by
  have q := c_iadd x 1
  have q2 := rng32 (x + 1)
  simp only [Int32.reduceToInt] at q
  omega
theorem own_nz (x : Int32) (h : 0 < x.toInt) : x ≠ (0 : Int32) := fun q => by subst q; revert h; decide
theorem own_lt2 (k a b : Int32) (h : k < a) (hab : a.toInt ≤ b.toInt) : k < b := by rw [Int32.lt_iff_toInt_lt] at *; omega
theorem own_kn (k n a b : Int32) (hk : k.toInt < n.toInt + 1) (h : n = a) (hab : a.toInt + 1 ≤ b.toInt) : k < b := by subst h; rw [Int32.lt_iff_toInt_lt] at *; omega
theorem d6_0 : decode jdk_29_method_69_code 0 = .ok (.iload_n 0, 1) := by decide +kernel
theorem d6_1 : decode jdk_29_method_69_code 1 = .ok (.iload_n 1, 1) := by decide +kernel
theorem d6_2 : decode jdk_29_method_69_code 2 = .ok (.if_icmp .gt 7, 3) := by decide +kernel
theorem d6_9 : decode jdk_29_method_69_code 9 = .ok (.iload_n 1, 1) := by decide +kernel
theorem d6_10 : decode jdk_29_method_69_code 10 = .ok (.ireturn, 1) := by decide +kernel
theorem d6_5 : decode jdk_29_method_69_code 5 = .ok (.iload_n 0, 1) := by decide +kernel
theorem d6_6 : decode jdk_29_method_69_code 6 = .ok (.goto 4, 3) := by decide +kernel
theorem ef_rm6 (m : MethodId) (x0 : Int32) (x1 : Int32) : entryFrame m #[(.int x0), (.int x1)] 2 = mkF m 0 #[iv x0, iv x1] [] := by first | (simp [entryFrame, mkF, argsToLocals, Value.category]; done) | rfl
def Q_rm6 (Z : State) (p6_0 : Int32) (p6_1 : Int32) (h0 : Heap) (n0 : Nat) (v : Option Value) (h : Heap) (L : List Loc) : Prop := v = some (.int (if p6_1 < p6_0 then p6_1 else p6_0)) ∧ Fr n0 L ∧ h = h0
set_option maxRecDepth 65536 in
set_option maxHeartbeats 40000000 in
theorem rm6 (l : Launch) (Z : State) (a0 : Array Value) (hw : ∀ d ∈ tables_1, d.before a0 Z = true) (ws : List Jvm.Cond) (p6_0 : Int32) (p6_1 : Int32) (h0 : Heap) (n0 : Nat) (Z0 : n0 ≤ h0.size) :
    MetFree l (⟨"java/lang/Math", "min", "(II)I"⟩ : MethodName) (head1 (Jvm.Cond.code (⟨"java/lang/Math", "min", "(II)I"⟩ : MethodName) jdk_29_method_69_code 2 (some .int) :: ws) ({ frames := 0, cells := 0, slots := 0, locals := 0 } : Room)) (fun a U => a = #[(.int p6_0), (.int p6_1)] ∧ Z.Warmed39 U.vm ∧ U.heap = h0) (fun _ _ _ _ _ => True) (fun _ U o U' => ∃ v L, o = .returned v ∧ Q_rm6 Z p6_0 p6_1 h0 n0 v U'.heap L ∧ FrameEnd U o U' L ({ frames := 0, cells := 0, slots := 0, locals := 0 } : Room).cells ({ frames := 0, cells := 0, slots := 0, locals := 0 } : Room).slots) := by
  refine MetFree.of_bodySF (Jvm.Free.JP.mathPlain rfl (by decide +kernel)) hisR ?_
  intro p e s m args below meth c s₁ Bd hml0 hP hK
  obtain ⟨rfl, hZ, hh⟩ := hP
  have hx := Bd.exec
  have hby := Bd.bytes
  have hml : c.maxLocals = 2 := hml0
  have hown : s.vm.findClass "java/lang/Math" = some m.cls := findClass_of_methodNamed Bd.named
  have hnm := (name_of_methodNamed Bd.named Bd.method).1
  have X0 : Stand p l e ({ frames := 0, cells := 0, slots := 0, locals := 0 } : Room) s m #[(.int p6_0), (.int p6_1)] below meth c s₁ [] 0 0 := Stand.of_body Bd
  have e0 : s₁.heap = h0 := by rw [← hh, Bd.state]; rfl
  have N0 := Fr.nil n0
  have pre0 : ∀ t, Steps p.tables e below (s₁.setTop (mkF m 0 #[iv p6_0, iv p6_1] [])) t → Steps p.tables e below (s₁.setTop (entryFrame m #[(.int p6_0), (.int p6_1)] 2)) t := fun t k => castTop (ef_rm6 m p6_0 p6_1) k
  have pre2 : ∀ t, Steps p.tables e below (s₁.setTop (mkF m 2 #[iv p6_0, iv p6_1] [(.int p6_1), (.int p6_0)])) t → Steps p.tables e below (s₁.setTop (entryFrame m #[(.int p6_0), (.int p6_1)] 2)) t := by
    intro t_ k_
    refine pre0 _ ?_
    show Steps p.tables e below (s₁.setTop (mkF m 0 #[iv p6_0, iv p6_1] [])) _
    refine XS.iloadN X0.here hx rfl (hb hby d6_0) rfl ?_
    show Steps p.tables e below (s₁.setTop (mkF m 1 #[iv p6_0, iv p6_1] [(.int p6_0)])) _
    refine XS.iloadN X0.here hx rfl (hb hby d6_1) rfl ?_
    exact k_
  by_cases hc2_1 : p6_1 < p6_0
  · skip
    obtain ⟨fs, hr, hrun, hended, hW, hsame⟩ := X0.leave (v := some (.int p6_1)) (fun h => by rw [Bd.returns] at h; cases h)
    refine ⟨_, _, pre2 _ ?_, hrun, hended, _, _, rfl, ?_, ⟨_, rfl⟩, hW, hsame.mono (by decide) (by decide)⟩
    · show Steps p.tables e below (s₁.setTop (mkF m 2 #[iv p6_0, iv p6_1] [(.int p6_1), (.int p6_0)])) _
      refine XS.icmpYes X0.here hx rfl (pc0 := 2) (pc' := 9) rfl (hb hby d6_2) rfl (tlt hc2_1).2.2.1 (by decide) (by decide) ?_
      show Steps p.tables e below (s₁.setTop (mkF m 9 #[iv p6_0, iv p6_1] [])) _
      refine XS.iloadN X0.here hx rfl (hb hby d6_9) rfl ?_
      show Steps p.tables e below (s₁.setTop (mkF m 10 #[iv p6_0, iv p6_1] [(.int p6_1)])) _
      exact retI X0 hx Bd.returns (hb hby d6_10) hr
    · show Q_rm6 Z _ _ h0 n0 _ s₁.heap _
      rw [e0]
      exact ⟨(by first | rfl | (simp [*]; done) | (simp_all; done)), N0, rfl⟩
  · skip
    obtain ⟨fs, hr, hrun, hended, hW, hsame⟩ := X0.leave (v := some (.int p6_0)) (fun h => by rw [Bd.returns] at h; cases h)
    refine ⟨_, _, pre2 _ ?_, hrun, hended, _, _, rfl, ?_, ⟨_, rfl⟩, hW, hsame.mono (by decide) (by decide)⟩
    · show Steps p.tables e below (s₁.setTop (mkF m 2 #[iv p6_0, iv p6_1] [(.int p6_1), (.int p6_0)])) _
      refine XS.icmpNo X0.here hx rfl (hb hby d6_2) rfl (flt hc2_1).2.2.1 ?_
      show Steps p.tables e below (s₁.setTop (mkF m 5 #[iv p6_0, iv p6_1] [])) _
      refine XS.iloadN X0.here hx rfl (hb hby d6_5) rfl ?_
      show Steps p.tables e below (s₁.setTop (mkF m 6 #[iv p6_0, iv p6_1] [(.int p6_0)])) _
      refine XS.goto X0.here hx rfl (pc0 := 6) (pc' := 10) rfl (hb hby d6_6) (by decide) (by decide) ?_
      show Steps p.tables e below (s₁.setTop (mkF m 10 #[iv p6_0, iv p6_1] [(.int p6_0)])) _
      exact retI X0 hx Bd.returns (hb hby d6_10) hr
    · show Q_rm6 Z _ _ h0 n0 _ s₁.heap _
      rw [e0]
      exact ⟨(by first | rfl | (simp [*]; done) | (simp_all; done)), N0, rfl⟩
theorem d7_0 : decode jdk_2056_method_24_code 0 = .ok (.iload_n 0, 1) := by decide +kernel
theorem d7_1 : decode jdk_2056_method_24_code 1 = .ok (.sipush 255, 3) := by decide +kernel
theorem d7_4 : decode jdk_2056_method_24_code 4 = .ok (.iand, 1) := by decide +kernel
theorem d7_5 : decode jdk_2056_method_24_code 5 = .ok (.ireturn, 1) := by decide +kernel
theorem pn_java_lang_Byte : plainName "java/lang/Byte" = true := by first | (simp [plainName, overriddenIn]; done) | decide +kernel
theorem ef_rm7 (m : MethodId) (x0 : Int32) : entryFrame m #[(.int x0)] 1 = mkF m 0 #[iv x0] [] := by first | (simp [entryFrame, mkF, argsToLocals, Value.category]; done) | rfl
def Q_rm7 (Z : State) (p7_0 : Int32) (h0 : Heap) (n0 : Nat) (v : Option Value) (h : Heap) (L : List Loc) : Prop := v = some (.int (p7_0 &&& (255 : Int32))) ∧ Fr n0 L ∧ h = h0
set_option maxRecDepth 65536 in
set_option maxHeartbeats 40000000 in
theorem rm7 (l : Launch) (Z : State) (a0 : Array Value) (hw : ∀ d ∈ tables_1, d.before a0 Z = true) (ws : List Jvm.Cond) (p7_0 : Int32) (h0 : Heap) (n0 : Nat) (Z0 : n0 ≤ h0.size) :
    MetFree l (⟨"java/lang/Byte", "toUnsignedInt", "(B)I"⟩ : MethodName) (head1 (Jvm.Cond.code (⟨"java/lang/Byte", "toUnsignedInt", "(B)I"⟩ : MethodName) jdk_2056_method_24_code 1 (some .int) :: ws) ({ frames := 0, cells := 0, slots := 0, locals := 0 } : Room)) (fun a U => a = #[(.int p7_0)] ∧ Z.Warmed39 U.vm ∧ U.heap = h0) (fun _ _ _ _ _ => True) (fun _ U o U' => ∃ v L, o = .returned v ∧ Q_rm7 Z p7_0 h0 n0 v U'.heap L ∧ FrameEnd U o U' L ({ frames := 0, cells := 0, slots := 0, locals := 0 } : Room).cells ({ frames := 0, cells := 0, slots := 0, locals := 0 } : Room).slots) := by
  refine MetFree.of_bodySF (plainFor_of_name pn_java_lang_Byte) hisR ?_
  intro p e s m args below meth c s₁ Bd hml0 hP hK
  obtain ⟨rfl, hZ, hh⟩ := hP
  have hx := Bd.exec
  have hby := Bd.bytes
  have hml : c.maxLocals = 1 := hml0
  have hown : s.vm.findClass "java/lang/Byte" = some m.cls := findClass_of_methodNamed Bd.named
  have hnm := (name_of_methodNamed Bd.named Bd.method).1
  have X0 : Stand p l e ({ frames := 0, cells := 0, slots := 0, locals := 0 } : Room) s m #[(.int p7_0)] below meth c s₁ [] 0 0 := Stand.of_body Bd
  have e0 : s₁.heap = h0 := by rw [← hh, Bd.state]; rfl
  have N0 := Fr.nil n0
  have pre0 : ∀ t, Steps p.tables e below (s₁.setTop (mkF m 0 #[iv p7_0] [])) t → Steps p.tables e below (s₁.setTop (entryFrame m #[(.int p7_0)] 1)) t := fun t k => castTop (ef_rm7 m p7_0) k
  obtain ⟨fs, hr, hrun, hended, hW, hsame⟩ := X0.leave (v := some (.int (p7_0 &&& (255 : Int32)))) (fun h => by rw [Bd.returns] at h; cases h)
  refine ⟨_, _, pre0 _ ?_, hrun, hended, _, _, rfl, ?_, ⟨_, rfl⟩, hW, hsame.mono (by decide) (by decide)⟩
  · show Steps p.tables e below (s₁.setTop (mkF m 0 #[iv p7_0] [])) _
    refine XS.iloadN X0.here hx rfl (hb hby d7_0) rfl ?_
    show Steps p.tables e below (s₁.setTop (mkF m 1 #[iv p7_0] [(.int p7_0)])) _
    refine XS.sipush X0.here hx rfl (hb hby d7_1) ?_
    show Steps p.tables e below (s₁.setTop (mkF m 4 #[iv p7_0] [(.int (255 : Int32)), (.int p7_0)])) _
    refine XS.iand X0.here hx rfl (hb hby d7_4) rfl ?_
    show Steps p.tables e below (s₁.setTop (mkF m 5 #[iv p7_0] [(.int (p7_0 &&& (255 : Int32)))])) _
    exact retI X0 hx Bd.returns (hb hby d7_5) hr
  · show Q_rm7 Z _ h0 n0 _ s₁.heap _
    rw [e0]
    exact ⟨rfl, N0, rfl⟩
theorem own_cap (n : Int32) (h : n.toInt < 3) : n.toNatClampNeg ≤ 2 := by
  show n.toInt.toNat ≤ 2
  omega
theorem d2_0 : decode prog_31_method_2_code 0 = .ok (.aload_n 0, 1) := by decide +kernel
theorem d2_1 : decode prog_31_method_2_code 1 = .ok (.invokespecial 7, 3) := by decide +kernel
theorem d2_4 : decode prog_31_method_2_code 4 = .ok (.aload_n 0, 1) := by decide +kernel
theorem d2_5 : decode prog_31_method_2_code 5 = .ok (.iload_n 1, 1) := by decide +kernel
theorem d2_6 : decode prog_31_method_2_code 6 = .ok (.putfield 12, 3) := by decide +kernel
theorem d2_9 : decode prog_31_method_2_code 9 = .ok (.aload_n 0, 1) := by decide +kernel
theorem d2_10 : decode prog_31_method_2_code 10 = .ok (.iload_n 2, 1) := by decide +kernel
theorem d2_11 : decode prog_31_method_2_code 11 = .ok (.newarray .byte, 2) := by decide +kernel
theorem d2_13 : decode prog_31_method_2_code 13 = .ok (.putfield 16, 3) := by decide +kernel
theorem d2_16 : decode prog_31_method_2_code 16 = .ok (.aload_n 0, 1) := by decide +kernel
theorem d2_17 : decode prog_31_method_2_code 17 = .ok (.iload_n 3, 1) := by decide +kernel
theorem d2_18 : decode prog_31_method_2_code 18 = .ok (.putfield 20, 3) := by decide +kernel
theorem d2_21 : decode prog_31_method_2_code 21 = .ok (.return_, 1) := by decide +kernel
theorem pn_com_example_unand_unand_model_AddressCycles : plainName "com/example/unand/unand/model/AddressCycles" = true := by first | (simp [plainName, overriddenIn]; done) | decide +kernel
theorem ef_rm2 (m : MethodId) (x0 : Addr) (x1 : Int32) (x2 : Int32) (x3 : Int32) : entryFrame m #[(.ref x0), (.int x1), (.int x2), (.int x3)] 4 = mkF m 0 #[rv x0, iv x1, iv x2, iv x3] [] := by first | (simp [entryFrame, mkF, argsToLocals, Value.category]; done) | rfl
def Q_rm2 (Z : State) (a2_0 : Addr) (p2_1 : Int32) (p2_2 : Int32) (h0 : Heap) (n0 : Nat) (v : Option Value) (h : Heap) (L : List Loc) : Prop := ∃ (rw : Addr), v = none ∧ Fr n0 L ∧ Keep h0 h [a2_0] ∧ (h0.size ≤ rw) ∧ (Al Z h rw .byte p2_2) ∧ (Fld Z h a2_0 "com/example/unand/unand/model/AddressCycles" "columnCycles" "I" (.int p2_1)) ∧ (Fld Z h a2_0 "com/example/unand/unand/model/AddressCycles" "row" "[B" (.ref rw)) ∧ (Fld Z h a2_0 "com/example/unand/unand/model/AddressCycles" "single" "Z" (.int (0 : Int32))) ∧ (Fld Z h a2_0 "com/example/unand/unand/model/AddressCycles" "taken" "I" (.int (0 : Int32))) ∧ (Fld Z h a2_0 "com/example/unand/unand/model/AddressCycles" "column" "J" (.long (0 : Int64)))
set_option maxRecDepth 65536 in
set_option maxHeartbeats 40000000 in
theorem rm2 (l : Launch) (Z : State) (a0 : Array Value) (hw : ∀ d ∈ tables_1, d.before a0 Z = true) (ws : List Jvm.Cond) (a2_0 : Addr) (p2_1 : Int32) (p2_2 : Int32) (h0 : Heap) (n0 : Nat) (Z0 : n0 ≤ h0.size) (pf_E_a2_0 : Exa Z h0 a2_0 "com/example/unand/unand/model/AddressCycles") (pf_G_a2_0 : n0 ≤ a2_0) (pf_F_a2_0_columnCycles : Fld Z h0 a2_0 "com/example/unand/unand/model/AddressCycles" "columnCycles" "I" (.int (0 : Int32))) (pf_F_a2_0_row : Fld Z h0 a2_0 "com/example/unand/unand/model/AddressCycles" "row" "[B" .null) (pf_F_a2_0_single : Fld Z h0 a2_0 "com/example/unand/unand/model/AddressCycles" "single" "Z" (.int (0 : Int32))) (pf_F_a2_0_taken : Fld Z h0 a2_0 "com/example/unand/unand/model/AddressCycles" "taken" "I" (.int (0 : Int32))) (pf_F_a2_0_column : Fld Z h0 a2_0 "com/example/unand/unand/model/AddressCycles" "column" "J" (.long (0 : Int64))) (pneg : ¬ p2_2 < 0) (pcap : p2_2.toInt < 3) :
    MetFree l (⟨"com/example/unand/unand/model/AddressCycles", "<init>", "(IIZ)V"⟩ : MethodName) (head1 (Jvm.Cond.code (⟨"com/example/unand/unand/model/AddressCycles", "<init>", "(IIZ)V"⟩ : MethodName) prog_31_method_2_code 4 none :: ws) ({ frames := 1, cells := 1, slots := 2, locals := 12 } : Room)) (fun a U => a = #[(.ref a2_0), (.int p2_1), (.int p2_2), (.int (0 : Int32))] ∧ Z.Warmed39 U.vm ∧ U.heap = h0) (fun _ _ _ _ _ => True) (fun _ U o U' => ∃ v L, o = .returned v ∧ Q_rm2 Z a2_0 p2_1 p2_2 h0 n0 v U'.heap L ∧ FrameEnd U o U' L ({ frames := 1, cells := 1, slots := 2, locals := 12 } : Room).cells ({ frames := 1, cells := 1, slots := 2, locals := 12 } : Room).slots) := by
  refine MetFree.of_bodySF (plainFor_of_name pn_com_example_unand_unand_model_AddressCycles) hisR ?_
  intro p e s m args below meth c s₁ Bd hml0 hP hK
  obtain ⟨rfl, hZ, hh⟩ := hP
  have hx := Bd.exec
  have hby := Bd.bytes
  have hml : c.maxLocals = 4 := hml0
  have hown : s.vm.findClass "com/example/unand/unand/model/AddressCycles" = some m.cls := findClass_of_methodNamed Bd.named
  have hnm := (name_of_methodNamed Bd.named Bd.method).1
  have X0 : Stand p l e ({ frames := 1, cells := 1, slots := 2, locals := 12 } : Room) s m #[(.ref a2_0), (.int p2_1), (.int p2_2), (.int (0 : Int32))] below meth c s₁ [] 0 0 := Stand.of_body Bd
  have e0 : s₁.heap = h0 := by rw [← hh, Bd.state]; rfl
  have N0 := Fr.nil n0
  have pre0 : ∀ t, Steps p.tables e below (s₁.setTop (mkF m 0 #[rv a2_0, iv p2_1, iv p2_2, iv (0 : Int32)] [])) t → Steps p.tables e below (s₁.setTop (entryFrame m #[(.ref a2_0), (.int p2_1), (.int p2_2), (.int (0 : Int32))] 4)) t := fun t k => castTop (ef_rm2 m a2_0 p2_1 p2_2 (0 : Int32)) k
  have wo2 := hw _ (List.mem_of_getElem? (i := 2) rfl)
  have wo10 := hw _ (List.mem_of_getElem? (i := 10) rfl)
  have wo11 := hw _ (List.mem_of_getElem? (i := 11) rfl)
  have wo12 := hw _ (List.mem_of_getElem? (i := 12) rfl)
  have wo13 := hw _ (List.mem_of_getElem? (i := 13) rfl)
  have wo14 := hw _ (List.mem_of_getElem? (i := 14) rfl)
  have wo15 := hw _ (List.mem_of_getElem? (i := 15) rfl)
  have wo16 := hw _ (List.mem_of_getElem? (i := 16) rfl)
  have wo17 := hw _ (List.mem_of_getElem? (i := 17) rfl)
  have wo18 := hw _ (List.mem_of_getElem? (i := 18) rfl)
  have wo19 := hw _ (List.mem_of_getElem? (i := 19) rfl)
  have wo26 := hw _ (List.mem_of_getElem? (i := 26) rfl)
  have wo37 := hw _ (List.mem_of_getElem? (i := 37) rfl)
  obtain ⟨T1, X1, e1, st1⟩ := initO X0 hx hZ hown wo10 wo11 wo12 e0 (g := (mkF m 1 #[rv a2_0, iv p2_1, iv p2_2, iv (0 : Int32)] [(.ref a2_0)])) rfl (by rw [hml]; rfl) rfl (hb hby d2_1) (by decide) (W := 0) (by show 2 * 0 + _ ≤ _; exact Nat.le_of_eq rfl) (by decide)
  obtain ⟨T2, h2, X2, e2, W2, st2⟩ := putF X1 hx hZ hown (host := "") (Or.inl wo13) Via.refl e1 pf_F_a2_0_columnCycles pf_E_a2_0 (Or.inr ⟨wo14, rfl, hnm⟩) wo2 (ty := .int) (by decide) rfl rfl (g := (mkF m 6 #[rv a2_0, iv p2_1, iv p2_2, iv (0 : Int32)] [(.int p2_1), (.ref a2_0)])) rfl rfl (hb hby d2_6)
  have K3 : Keep h0 h2 [a2_0] := (Keep.refl h0 [a2_0]).wr W2 (Or.inl (List.mem_of_getElem? (i := 0) rfl))
  have f4 : Fld Z h2 a2_0 "com/example/unand/unand/model/AddressCycles" "columnCycles" "I" (.int p2_1) := pf_F_a2_0_columnCycles.same W2
  have N5 := Fr.snoc X2 N0 pf_G_a2_0
  obtain ⟨T6, h6, k6, X6, e6, E6, A6, st6⟩ := newP (aty := .byte) X2 hx hZ wo15 e2 (g := (mkF m 11 #[rv a2_0, iv p2_1, iv p2_2, iv (0 : Int32)] [(.int p2_2), (.ref a2_0)])) rfl (hb hby d2_11) rfl pneg (cap := 2) (own_cap _ pcap) (by decide) (by decide) (by decide)
  obtain ⟨b6, gg6⟩ : ∃ z, z = h2.size := ⟨_, rfl⟩
  rw [← gg6] at A6 st6
  have f7 := (pf_E_a2_0.wr W2)
  have ne8 : a2_0 ≠ b6 := Nat.ne_of_lt (Nat.lt_of_lt_of_le f7.lt (Nat.le_of_eq gg6.symm))
  have f10 := (Nat.le_trans Z0 (Keep.of_wr W2).1)
  have g9 : n0 ≤ b6 := Nat.le_trans f10 (Nat.le_of_eq gg6.symm)
  have bz11 : h0.size ≤ b6 := Nat.le_trans (K3).1 (Nat.le_of_eq gg6.symm)
  have K13 : Keep h0 h6 [a2_0] := (K3).ext E6
  have f12 : Al Z h6 b6 .byte p2_2 := ⟨_, A6, sz_new _ _ _, pneg⟩
  have f14 := ((pf_F_a2_0_row.other W2 (Or.inr (slot_ne (Or.inr wo17) (Or.inr wo14) (by decide) (t := (.array .byte)) (t' := .int) (by decide) (by decide)))).ext E6)
  have f15 := (f7.ext E6)
  obtain ⟨T16, h16, X16, e16, W16, st16⟩ := putF X6 hx hZ hown (host := "") (Or.inl wo16) Via.refl e6 f14 f15 (Or.inr ⟨wo17, rfl, hnm⟩) wo2 (ty := (.array .byte)) (by decide) rfl rfl (g := (mkF m 13 #[rv a2_0, iv p2_1, iv p2_2, iv (0 : Int32)] [(.ref b6), (.ref a2_0)])) rfl rfl (hb hby d2_13)
  have K17 : Keep h0 h16 [a2_0] := (K13).wr W16 (Or.inl (List.mem_of_getElem? (i := 0) rfl))
  have f18 : Fld Z h16 a2_0 "com/example/unand/unand/model/AddressCycles" "row" "[B" (.ref b6) := f14.same W16
  have N19 := Fr.snoc X16 N5 pf_G_a2_0
  have f20 := (((pf_F_a2_0_single.other W2 (Or.inr (slot_ne (Or.inr wo19) (Or.inr wo14) (by decide) (t := .boolean) (t' := .int) (by decide) (by decide)))).ext E6).other W16 (Or.inr (slot_ne (Or.inr wo19) (Or.inr wo17) (by decide) (t := .boolean) (t' := (.array .byte)) (by decide) (by decide))))
  have f21 := (f15.wr W16)
  obtain ⟨T22, h22, X22, e22, W22, st22⟩ := putFN X16 hx hZ hown wo18 Via.refl e16 f20 f21 (Or.inr ⟨wo19, rfl, hnm⟩) wo2 (ty := .boolean) (v' := (.int (0 : Int32))) (by decide) rfl (by first | rfl | exact fits_nar_bool _) (g := (mkF m 18 #[rv a2_0, iv p2_1, iv p2_2, iv (0 : Int32)] [(.int (0 : Int32)), (.ref a2_0)])) rfl rfl (hb hby d2_18)
  have K23 : Keep h0 h22 [a2_0] := (K17).wr W22 (Or.inl (List.mem_of_getElem? (i := 0) rfl))
  have f24 : Fld Z h22 a2_0 "com/example/unand/unand/model/AddressCycles" "single" "Z" (.int (0 : Int32)) := f20.same W22
  have N25 := Fr.snoc X22 N19 pf_G_a2_0
  have f26 := ((f12.other W16 (Ne.symm ne8)).other W22 (Ne.symm ne8))
  have f27 := (((f4.ext E6).other W16 (Or.inr (slot_ne (Or.inr wo14) (Or.inr wo17) (by decide) (t := .int) (t' := (.array .byte)) (by decide) (by decide)))).other W22 (Or.inr (slot_ne (Or.inr wo14) (Or.inr wo19) (by decide) (t := .int) (t' := .boolean) (by decide) (by decide))))
  have f28 := (f18.other W22 (Or.inr (slot_ne (Or.inr wo17) (Or.inr wo19) (by decide) (t := (.array .byte)) (t' := .boolean) (by decide) (by decide))))
  have f29 := ((((pf_F_a2_0_taken.other W2 (Or.inr (slot_ne (Or.inl wo26) (Or.inr wo14) (by decide) (t := .int) (t' := .int) (by decide) (by decide)))).ext E6).other W16 (Or.inr (slot_ne (Or.inl wo26) (Or.inr wo17) (by decide) (t := .int) (t' := (.array .byte)) (by decide) (by decide)))).other W22 (Or.inr (slot_ne (Or.inl wo26) (Or.inr wo19) (by decide) (t := .int) (t' := .boolean) (by decide) (by decide))))
  have f30 := ((((pf_F_a2_0_column.other W2 (Or.inr (slot_ne (Or.inl wo37) (Or.inr wo14) (by decide) (t := .long) (t' := .int) (by decide) (by decide)))).ext E6).other W16 (Or.inr (slot_ne (Or.inl wo37) (Or.inr wo17) (by decide) (t := .long) (t' := (.array .byte)) (by decide) (by decide)))).other W22 (Or.inr (slot_ne (Or.inl wo37) (Or.inr wo19) (by decide) (t := .long) (t' := .boolean) (by decide) (by decide))))
  obtain ⟨fs, hr, hrun, hended, hW, hsame⟩ := X22.leave (v := none) (fun _ => rfl)
  refine ⟨_, _, pre0 _ ?_, hrun, hended, _, _, rfl, ?_, ⟨_, rfl⟩, hW, hsame.mono (by decide) (by decide)⟩
  · show Steps p.tables e below (s₁.setTop (mkF m 0 #[rv a2_0, iv p2_1, iv p2_2, iv (0 : Int32)] [])) _
    refine XS.aloadN X0.here hx rfl (hb hby d2_0) rfl rfl ?_
    show Steps p.tables e below (s₁.setTop (mkF m 1 #[rv a2_0, iv p2_1, iv p2_2, iv (0 : Int32)] [(.ref a2_0)])) _
    refine st1 _ ?_
    show Steps p.tables e below (T1.setTop (mkF m 4 #[rv a2_0, iv p2_1, iv p2_2, iv (0 : Int32)] [])) _
    refine XS.aloadN X1.here hx rfl (hb hby d2_4) rfl rfl ?_
    show Steps p.tables e below (T1.setTop (mkF m 5 #[rv a2_0, iv p2_1, iv p2_2, iv (0 : Int32)] [(.ref a2_0)])) _
    refine XS.iloadN X1.here hx rfl (hb hby d2_5) rfl ?_
    show Steps p.tables e below (T1.setTop (mkF m 6 #[rv a2_0, iv p2_1, iv p2_2, iv (0 : Int32)] [(.int p2_1), (.ref a2_0)])) _
    refine st2 _ ?_
    show Steps p.tables e below (T2.setTop (mkF m 9 #[rv a2_0, iv p2_1, iv p2_2, iv (0 : Int32)] [])) _
    refine XS.aloadN X2.here hx rfl (hb hby d2_9) rfl rfl ?_
    show Steps p.tables e below (T2.setTop (mkF m 10 #[rv a2_0, iv p2_1, iv p2_2, iv (0 : Int32)] [(.ref a2_0)])) _
    refine XS.iloadN X2.here hx rfl (hb hby d2_10) rfl ?_
    show Steps p.tables e below (T2.setTop (mkF m 11 #[rv a2_0, iv p2_1, iv p2_2, iv (0 : Int32)] [(.int p2_2), (.ref a2_0)])) _
    refine st6 _ ?_
    show Steps p.tables e below (T6.setTop (mkF m 13 #[rv a2_0, iv p2_1, iv p2_2, iv (0 : Int32)] [(.ref b6), (.ref a2_0)])) _
    refine st16 _ ?_
    show Steps p.tables e below (T16.setTop (mkF m 16 #[rv a2_0, iv p2_1, iv p2_2, iv (0 : Int32)] [])) _
    refine XS.aloadN X16.here hx rfl (hb hby d2_16) rfl rfl ?_
    show Steps p.tables e below (T16.setTop (mkF m 17 #[rv a2_0, iv p2_1, iv p2_2, iv (0 : Int32)] [(.ref a2_0)])) _
    refine XS.iloadN X16.here hx rfl (hb hby d2_17) rfl ?_
    show Steps p.tables e below (T16.setTop (mkF m 18 #[rv a2_0, iv p2_1, iv p2_2, iv (0 : Int32)] [(.int (0 : Int32)), (.ref a2_0)])) _
    refine st22 _ ?_
    show Steps p.tables e below (T22.setTop (mkF m 21 #[rv a2_0, iv p2_1, iv p2_2, iv (0 : Int32)] [])) _
    exact X22.returnOut hx Bd.returns (hb hby d2_21) hr
  · show Q_rm2 Z _ _ _ h0 n0 _ T22.heap _
    rw [e22]
    exact ⟨b6, rfl, N25, (K23), bz11, f26, f27, f28, f24, f29, f30⟩
theorem d1_0 : decode prog_31_method_1_code 0 = .ok (.aload_n 0, 1) := by decide +kernel
theorem d1_1 : decode prog_31_method_1_code 1 = .ok (.iload_n 1, 1) := by decide +kernel
theorem d1_2 : decode prog_31_method_1_code 2 = .ok (.iload_n 2, 1) := by decide +kernel
theorem d1_3 : decode prog_31_method_1_code 3 = .ok (.iconst 0, 1) := by decide +kernel
theorem pd_6 : parseMethodDescriptor "(IIZ)V" = some ⟨[.int, .int, .boolean], none⟩ := by decide +kernel
theorem d1_4 : decode prog_31_method_1_code 4 = .ok (.invokespecial 1, 3) := by decide +kernel
theorem d1_7 : decode prog_31_method_1_code 7 = .ok (.return_, 1) := by decide +kernel
theorem ef_rm1 (m : MethodId) (x0 : Addr) (x1 : Int32) (x2 : Int32) : entryFrame m #[(.ref x0), (.int x1), (.int x2)] 3 = mkF m 0 #[rv x0, iv x1, iv x2] [] := by first | (simp [entryFrame, mkF, argsToLocals, Value.category]; done) | rfl
def Q_rm1 (Z : State) (a1_0 : Addr) (p1_1 : Int32) (p1_2 : Int32) (h0 : Heap) (n0 : Nat) (v : Option Value) (h : Heap) (L : List Loc) : Prop := ∃ (rw : Addr), v = none ∧ Fr n0 L ∧ Keep h0 h [a1_0] ∧ (h0.size ≤ rw) ∧ (Al Z h rw .byte p1_2) ∧ (Fld Z h a1_0 "com/example/unand/unand/model/AddressCycles" "columnCycles" "I" (.int p1_1)) ∧ (Fld Z h a1_0 "com/example/unand/unand/model/AddressCycles" "row" "[B" (.ref rw)) ∧ (Fld Z h a1_0 "com/example/unand/unand/model/AddressCycles" "single" "Z" (.int (0 : Int32))) ∧ (Fld Z h a1_0 "com/example/unand/unand/model/AddressCycles" "taken" "I" (.int (0 : Int32))) ∧ (Fld Z h a1_0 "com/example/unand/unand/model/AddressCycles" "column" "J" (.long (0 : Int64)))
set_option maxRecDepth 65536 in
set_option maxHeartbeats 40000000 in
theorem rm1 (l : Launch) (Z : State) (a0 : Array Value) (hw : ∀ d ∈ tables_1, d.before a0 Z = true) (ws : List Jvm.Cond) (a1_0 : Addr) (p1_1 : Int32) (p1_2 : Int32) (h0 : Heap) (n0 : Nat) (Z0 : n0 ≤ h0.size) (pf_E_a1_0 : Exa Z h0 a1_0 "com/example/unand/unand/model/AddressCycles") (pf_G_a1_0 : n0 ≤ a1_0) (pf_F_a1_0_columnCycles : Fld Z h0 a1_0 "com/example/unand/unand/model/AddressCycles" "columnCycles" "I" (.int (0 : Int32))) (pf_F_a1_0_row : Fld Z h0 a1_0 "com/example/unand/unand/model/AddressCycles" "row" "[B" .null) (pf_F_a1_0_single : Fld Z h0 a1_0 "com/example/unand/unand/model/AddressCycles" "single" "Z" (.int (0 : Int32))) (pf_F_a1_0_taken : Fld Z h0 a1_0 "com/example/unand/unand/model/AddressCycles" "taken" "I" (.int (0 : Int32))) (pf_F_a1_0_column : Fld Z h0 a1_0 "com/example/unand/unand/model/AddressCycles" "column" "J" (.long (0 : Int64))) (pneg : ¬ p1_2 < 0) (pcap : p1_2.toInt < 3) :
    MetFree l (⟨"com/example/unand/unand/model/AddressCycles", "<init>", "(II)V"⟩ : MethodName) (head1 (Jvm.Cond.code (⟨"com/example/unand/unand/model/AddressCycles", "<init>", "(II)V"⟩ : MethodName) prog_31_method_1_code 3 none :: ws) ({ frames := 2, cells := 1, slots := 2, locals := 27 } : Room)) (fun a U => a = #[(.ref a1_0), (.int p1_1), (.int p1_2)] ∧ Z.Warmed39 U.vm ∧ U.heap = h0) (fun _ _ _ _ _ => True) (fun _ U o U' => ∃ v L, o = .returned v ∧ Q_rm1 Z a1_0 p1_1 p1_2 h0 n0 v U'.heap L ∧ FrameEnd U o U' L ({ frames := 2, cells := 1, slots := 2, locals := 27 } : Room).cells ({ frames := 2, cells := 1, slots := 2, locals := 27 } : Room).slots) := by
  refine MetFree.of_bodySF (plainFor_of_name pn_com_example_unand_unand_model_AddressCycles) hisR ?_
  intro p e s m args below meth c s₁ Bd hml0 hP hK
  obtain ⟨rfl, hZ, hh⟩ := hP
  have hx := Bd.exec
  have hby := Bd.bytes
  have hml : c.maxLocals = 3 := hml0
  have hown : s.vm.findClass "com/example/unand/unand/model/AddressCycles" = some m.cls := findClass_of_methodNamed Bd.named
  have hnm := (name_of_methodNamed Bd.named Bd.method).1
  have X0 : Stand p l e ({ frames := 2, cells := 1, slots := 2, locals := 27 } : Room) s m #[(.ref a1_0), (.int p1_1), (.int p1_2)] below meth c s₁ [] 0 0 := Stand.of_body Bd
  have e0 : s₁.heap = h0 := by rw [← hh, Bd.state]; rfl
  have N0 := Fr.nil n0
  have pre0 : ∀ t, Steps p.tables e below (s₁.setTop (mkF m 0 #[rv a1_0, iv p1_1, iv p1_2] [])) t → Steps p.tables e below (s₁.setTop (entryFrame m #[(.ref a1_0), (.int p1_1), (.int p1_2)] 3)) t := fun t k => castTop (ef_rm1 m a1_0 p1_1 p1_2) k
  have wo3 := hw _ (List.mem_of_getElem? (i := 3) rfl)
  have wo7 := hw _ (List.mem_of_getElem? (i := 7) rfl)
  have wo8 := hw _ (List.mem_of_getElem? (i := 8) rfl)
  have wo9 := hw _ (List.mem_of_getElem? (i := 9) rfl)
  obtain ⟨_, _, ⟨T1, L1, k1, n1⟩, -, X1, ⟨Lc1, hQ1, l1, y1, z1⟩, st1⟩ := X0.specialBack hx (y := MN2) rfl hown (mvT hZ wo7) (mvT hZ wo8) (mvT hZ wo9) (by decide) (backOf (W := 0) (rm2 l Z a0 hw [] a1_0 p1_1 p1_2 h0 n0 Z0 pf_E_a1_0 pf_G_a1_0 pf_F_a1_0_columnCycles pf_F_a1_0_row pf_F_a1_0_single pf_F_a1_0_taken pf_F_a1_0_column (pneg : ¬ p1_2 < 0) (pcap : p1_2.toInt < 3)) hZ wo9 wo3 (by decide) (by decide)) (g := (mkF m 4 #[rv a1_0, iv p1_1, iv p1_2] [(.int (0 : Int32)), (.int p1_2), (.int p1_1), (.ref a1_0)])) rfl (by rw [hml]; rfl) (Steps.refl _) (a := a1_0) (argsL := [(.int p1_1), (.int p1_2), (.int (0 : Int32))]) (rest := []) (lenOf pd_6 rfl) rfl (by show 2 * 0 + _ ≤ _; exact Nat.le_of_eq rfl) (hb hby d1_4) (fun _ _ => ⟨rfl, e0, (by decide : 0 + 1 ≤ _), (by decide : 0 + 2 ≤ _)⟩)
  dsimp only [Pt.U, Pt.locs, Pt.cells, Pt.slots] at X1 l1 y1 z1 st1 hQ1
  subst l1 y1 z1
  obtain ⟨rw_1, rfl, N1q, K1q, hq1_0, hq1_1, hq1_2, hq1_3, hq1_4, hq1_5, hq1_6⟩ := hQ1
  have N2 := Fr.app N0 N1q
  have ne3 : a1_0 ≠ rw_1 := Nat.ne_of_lt (Nat.lt_of_lt_of_le pf_E_a1_0.lt hq1_0)
  have g4 : n0 ≤ rw_1 := Nat.le_trans Z0 hq1_0
  have bz5 : h0.size ≤ rw_1 := Nat.le_trans (Keep.refl h0 [a1_0]).1 hq1_0
  have K6 : Keep h0 T1.heap [a1_0] := (Keep.refl h0 [a1_0]).trans K1q (allS (P := fun x => x ∈ [a1_0] ∨ h0.size ≤ x) (Or.inl (List.mem_of_getElem? (i := 0) rfl)) all0)
  obtain ⟨fs, hr, hrun, hended, hW, hsame⟩ := X1.leave (v := none) (fun _ => rfl)
  refine ⟨_, _, pre0 _ ?_, hrun, hended, _, _, rfl, ?_, ⟨_, rfl⟩, hW, hsame.mono (by decide) (by decide)⟩
  · show Steps p.tables e below (s₁.setTop (mkF m 0 #[rv a1_0, iv p1_1, iv p1_2] [])) _
    refine XS.aloadN X0.here hx rfl (hb hby d1_0) rfl rfl ?_
    show Steps p.tables e below (s₁.setTop (mkF m 1 #[rv a1_0, iv p1_1, iv p1_2] [(.ref a1_0)])) _
    refine XS.iloadN X0.here hx rfl (hb hby d1_1) rfl ?_
    show Steps p.tables e below (s₁.setTop (mkF m 2 #[rv a1_0, iv p1_1, iv p1_2] [(.int p1_1), (.ref a1_0)])) _
    refine XS.iloadN X0.here hx rfl (hb hby d1_2) rfl ?_
    show Steps p.tables e below (s₁.setTop (mkF m 3 #[rv a1_0, iv p1_1, iv p1_2] [(.int p1_2), (.int p1_1), (.ref a1_0)])) _
    refine XS.iconst X0.here hx rfl (hb hby d1_3) ?_
    show Steps p.tables e below (s₁.setTop (mkF m 4 #[rv a1_0, iv p1_1, iv p1_2] [(.int (0 : Int32)), (.int p1_2), (.int p1_1), (.ref a1_0)])) _
    refine st1.trans ?_
    show Steps p.tables e below (T1.setTop (mkF m 7 #[rv a1_0, iv p1_1, iv p1_2] [])) _
    exact X1.returnOut hx Bd.returns (hb hby d1_7) hr
  · show Q_rm1 Z _ _ _ h0 n0 _ T1.heap _
    exact ⟨rw_1, rfl, N2, (K6), bz5, hq1_1, hq1_2, hq1_3, hq1_4, hq1_5, hq1_6⟩
theorem d4_0 : decode prog_31_method_4_code 0 = .ok (.aload_n 0, 1) := by decide +kernel
theorem d4_1 : decode prog_31_method_4_code 1 = .ok (.getfield 24, 3) := by decide +kernel
theorem d4_4 : decode prog_31_method_4_code 4 = .ok (.aload_n 0, 1) := by decide +kernel
theorem d4_5 : decode prog_31_method_4_code 5 = .ok (.getfield 12, 3) := by decide +kernel
theorem d4_8 : decode prog_31_method_4_code 8 = .ok (.aload_n 0, 1) := by decide +kernel
theorem d4_9 : decode prog_31_method_4_code 9 = .ok (.getfield 16, 3) := by decide +kernel
theorem d4_12 : decode prog_31_method_4_code 12 = .ok (.arraylength, 1) := by decide +kernel
theorem d4_13 : decode prog_31_method_4_code 13 = .ok (.iadd, 1) := by decide +kernel
theorem d4_14 : decode prog_31_method_4_code 14 = .ok (.if_icmp .ne 7, 3) := by decide +kernel
theorem d4_17 : decode prog_31_method_4_code 17 = .ok (.iconst 1, 1) := by decide +kernel
theorem d4_18 : decode prog_31_method_4_code 18 = .ok (.goto 4, 3) := by decide +kernel
theorem d4_22 : decode prog_31_method_4_code 22 = .ok (.ireturn, 1) := by decide +kernel
theorem d4_21 : decode prog_31_method_4_code 21 = .ok (.iconst 0, 1) := by decide +kernel
theorem ef_rm4 (m : MethodId) (x0 : Addr) : entryFrame m #[(.ref x0)] 1 = mkF m 0 #[rv x0] [] := by first | (simp [entryFrame, mkF, argsToLocals, Value.category]; done) | rfl
def Q_rm4 (Z : State) (a4_0 : Addr) (tk : Int32) (cc : Int32) (rw : Addr) (ln : Int32) (h0 : Heap) (n0 : Nat) (v : Option Value) (h : Heap) (L : List Loc) : Prop := v = some (.int (if tk = (cc + ln) then (1 : Int32) else (0 : Int32))) ∧ Fr n0 L ∧ h = h0
set_option maxRecDepth 65536 in
set_option maxHeartbeats 40000000 in
theorem rm4 (l : Launch) (Z : State) (a0 : Array Value) (hw : ∀ d ∈ tables_1, d.before a0 Z = true) (ws : List Jvm.Cond) (a4_0 : Addr) (tk : Int32) (cc : Int32) (rw : Addr) (ln : Int32) (h0 : Heap) (n0 : Nat) (Z0 : n0 ≤ h0.size) (pf_F_a4_0_taken : Fld Z h0 a4_0 "com/example/unand/unand/model/AddressCycles" "taken" "I" (.int tk)) (pf_F_a4_0_columnCycles : Fld Z h0 a4_0 "com/example/unand/unand/model/AddressCycles" "columnCycles" "I" (.int cc)) (pf_F_a4_0_row : Fld Z h0 a4_0 "com/example/unand/unand/model/AddressCycles" "row" "[B" (.ref rw)) (pf_L_rw : Al Z h0 rw .byte ln) :
    MetFree l (⟨"com/example/unand/unand/model/AddressCycles", "complete", "()Z"⟩ : MethodName) (head1 (Jvm.Cond.code (⟨"com/example/unand/unand/model/AddressCycles", "complete", "()Z"⟩ : MethodName) prog_31_method_4_code 1 (some .boolean) :: ws) ({ frames := 0, cells := 0, slots := 0, locals := 0 } : Room)) (fun a U => a = #[(.ref a4_0)] ∧ Z.Warmed39 U.vm ∧ U.heap = h0) (fun _ _ _ _ _ => True) (fun _ U o U' => ∃ v L, o = .returned v ∧ Q_rm4 Z a4_0 tk cc rw ln h0 n0 v U'.heap L ∧ FrameEnd U o U' L ({ frames := 0, cells := 0, slots := 0, locals := 0 } : Room).cells ({ frames := 0, cells := 0, slots := 0, locals := 0 } : Room).slots) := by
  refine MetFree.of_bodySF (plainFor_of_name pn_com_example_unand_unand_model_AddressCycles) hisR ?_
  intro p e s m args below meth c s₁ Bd hml0 hP hK
  obtain ⟨rfl, hZ, hh⟩ := hP
  have hx := Bd.exec
  have hby := Bd.bytes
  have hml : c.maxLocals = 1 := hml0
  have hown : s.vm.findClass "com/example/unand/unand/model/AddressCycles" = some m.cls := findClass_of_methodNamed Bd.named
  have hnm := (name_of_methodNamed Bd.named Bd.method).1
  have X0 : Stand p l e ({ frames := 0, cells := 0, slots := 0, locals := 0 } : Room) s m #[(.ref a4_0)] below meth c s₁ [] 0 0 := Stand.of_body Bd
  have e0 : s₁.heap = h0 := by rw [← hh, Bd.state]; rfl
  have N0 := Fr.nil n0
  have pre0 : ∀ t, Steps p.tables e below (s₁.setTop (mkF m 0 #[rv a4_0] [])) t → Steps p.tables e below (s₁.setTop (entryFrame m #[(.ref a4_0)] 1)) t := fun t k => castTop (ef_rm4 m a4_0) k
  have wo13 := hw _ (List.mem_of_getElem? (i := 13) rfl)
  have wo16 := hw _ (List.mem_of_getElem? (i := 16) rfl)
  have wo25 := hw _ (List.mem_of_getElem? (i := 25) rfl)
  obtain ⟨T1, X1, e1, st1⟩ := getF X0 hx hZ hown (host := "") (Or.inl wo25) Via.refl e0 pf_F_a4_0_taken (g := (mkF m 1 #[rv a4_0] [(.ref a4_0)])) rfl rfl (hb hby d4_1)
  obtain ⟨T2, X2, e2, st2⟩ := getF X1 hx hZ hown (host := "") (Or.inl wo13) Via.refl e1 pf_F_a4_0_columnCycles (g := (mkF m 5 #[rv a4_0] [(.ref a4_0), (.int tk)])) rfl rfl (hb hby d4_5)
  obtain ⟨T3, X3, e3, st3⟩ := getF X2 hx hZ hown (host := "") (Or.inl wo16) Via.refl e2 pf_F_a4_0_row (g := (mkF m 9 #[rv a4_0] [(.ref a4_0), (.int cc), (.int tk)])) rfl rfl (hb hby d4_9)
  obtain ⟨cl4, Ar4, Sz4, Nn4⟩ := id pf_L_rw
  have pre6 : ∀ t, Steps p.tables e below (T3.setTop (mkF m 14 #[rv a4_0] [(.int (cc + ln)), (.int tk)])) t → Steps p.tables e below (s₁.setTop (entryFrame m #[(.ref a4_0)] 1)) t := by
    intro t_ k_
    refine pre0 _ ?_
    show Steps p.tables e below (s₁.setTop (mkF m 0 #[rv a4_0] [])) _
    refine XS.aloadN X0.here hx rfl (hb hby d4_0) rfl rfl ?_
    show Steps p.tables e below (s₁.setTop (mkF m 1 #[rv a4_0] [(.ref a4_0)])) _
    refine st1 _ ?_
    show Steps p.tables e below (T1.setTop (mkF m 4 #[rv a4_0] [(.int tk)])) _
    refine XS.aloadN X1.here hx rfl (hb hby d4_4) rfl rfl ?_
    show Steps p.tables e below (T1.setTop (mkF m 5 #[rv a4_0] [(.ref a4_0), (.int tk)])) _
    refine st2 _ ?_
    show Steps p.tables e below (T2.setTop (mkF m 8 #[rv a4_0] [(.int cc), (.int tk)])) _
    refine XS.aloadN X2.here hx rfl (hb hby d4_8) rfl rfl ?_
    show Steps p.tables e below (T2.setTop (mkF m 9 #[rv a4_0] [(.ref a4_0), (.int cc), (.int tk)])) _
    refine st3 _ ?_
    show Steps p.tables e below (T3.setTop (mkF m 12 #[rv a4_0] [(.ref rw), (.int cc), (.int tk)])) _
    refine X3.arraylength hx (by rw [e3]; exact Ar4.1) (State.isArrayOf_alike hZ.alike Ar4.2.1) (g := (mkF m 12 #[rv a4_0] [(.ref rw), (.int cc), (.int tk)])) rfl rfl (hb hby d4_12) _ ?_
    rw [len_of Sz4 Nn4]
    show Steps p.tables e below (T3.setTop (mkF m 13 #[rv a4_0] [(.int ln), (.int cc), (.int tk)])) _
    refine XS.iadd X3.here hx rfl (hb hby d4_13) rfl ?_
    exact k_
  by_cases hc14_5 : tk = (cc + ln)
  · skip
    obtain ⟨fs, hr, hrun, hended, hW, hsame⟩ := X3.leave (v := some (.int (1 : Int32))) (fun h => by rw [Bd.returns] at h; cases h)
    refine ⟨_, _, pre6 _ ?_, hrun, hended, _, _, rfl, ?_, ⟨_, rfl⟩, hW, hsame.mono (by decide) (by decide)⟩
    · show Steps p.tables e below (T3.setTop (mkF m 14 #[rv a4_0] [(.int (cc + ln)), (.int tk)])) _
      refine XS.icmpNo X3.here hx rfl (hb hby d4_14) rfl (teq hc14_5).2 ?_
      show Steps p.tables e below (T3.setTop (mkF m 17 #[rv a4_0] [])) _
      refine XS.iconst X3.here hx rfl (hb hby d4_17) ?_
      show Steps p.tables e below (T3.setTop (mkF m 18 #[rv a4_0] [(.int (1 : Int32))])) _
      refine XS.goto X3.here hx rfl (pc0 := 18) (pc' := 22) rfl (hb hby d4_18) (by decide) (by decide) ?_
      show Steps p.tables e below (T3.setTop (mkF m 22 #[rv a4_0] [(.int (1 : Int32))])) _
      exact retN X3 hx (t := .boolean) Bd.returns (by simp) (hb hby d4_22) hr
    · show Q_rm4 Z _ _ _ _ _ h0 n0 _ T3.heap _
      rw [e3]
      exact ⟨(by first | rfl | (simp [*]; done) | (simp_all; done)), N0, rfl⟩
  · skip
    obtain ⟨fs, hr, hrun, hended, hW, hsame⟩ := X3.leave (v := some (.int (0 : Int32))) (fun h => by rw [Bd.returns] at h; cases h)
    refine ⟨_, _, pre6 _ ?_, hrun, hended, _, _, rfl, ?_, ⟨_, rfl⟩, hW, hsame.mono (by decide) (by decide)⟩
    · show Steps p.tables e below (T3.setTop (mkF m 14 #[rv a4_0] [(.int (cc + ln)), (.int tk)])) _
      refine XS.icmpYes X3.here hx rfl (pc0 := 14) (pc' := 21) rfl (hb hby d4_14) rfl (feq hc14_5).2 (by decide) (by decide) ?_
      show Steps p.tables e below (T3.setTop (mkF m 21 #[rv a4_0] [])) _
      refine XS.iconst X3.here hx rfl (hb hby d4_21) ?_
      show Steps p.tables e below (T3.setTop (mkF m 22 #[rv a4_0] [(.int (0 : Int32))])) _
      exact retN X3 hx (t := .boolean) Bd.returns (by simp) (hb hby d4_22) hr
    · show Q_rm4 Z _ _ _ _ _ h0 n0 _ T3.heap _
      rw [e3]
      exact ⟨(by first | rfl | (simp [*]; done) | (simp_all; done)), N0, rfl⟩
theorem d5_0 : decode prog_31_method_6_code 0 = .ok (.aload_n 0, 1) := by decide +kernel
theorem d5_1 : decode prog_31_method_6_code 1 = .ok (.getfield 24, 3) := by decide +kernel
theorem d5_4 : decode prog_31_method_6_code 4 = .ok (.aload_n 0, 1) := by decide +kernel
theorem d5_5 : decode prog_31_method_6_code 5 = .ok (.getfield 12, 3) := by decide +kernel
theorem d5_8 : decode prog_31_method_6_code 8 = .ok (.if_icmp .ge 34, 3) := by decide +kernel
theorem d5_11 : decode prog_31_method_6_code 11 = .ok (.bipush 8, 2) := by decide +kernel
theorem d5_13 : decode prog_31_method_6_code 13 = .ok (.aload_n 0, 1) := by decide +kernel
theorem d5_14 : decode prog_31_method_6_code 14 = .ok (.getfield 24, 3) := by decide +kernel
theorem d5_17 : decode prog_31_method_6_code 17 = .ok (.iconst 4, 1) := by decide +kernel
theorem pd_4 : parseMethodDescriptor "(II)I" = some ⟨[.int, .int], some .int⟩ := by decide +kernel
theorem d5_18 : decode prog_31_method_6_code 18 = .ok (.invokestatic 31, 3) := by decide +kernel
theorem d5_21 : decode prog_31_method_6_code 21 = .ok (.imul, 1) := by decide +kernel
theorem d5_22 : decode prog_31_method_6_code 22 = .ok (.istore_n 2, 1) := by decide +kernel
theorem d5_23 : decode prog_31_method_6_code 23 = .ok (.aload_n 0, 1) := by decide +kernel
theorem d5_24 : decode prog_31_method_6_code 24 = .ok (.dup, 1) := by decide +kernel
theorem d5_25 : decode prog_31_method_6_code 25 = .ok (.getfield 37, 3) := by decide +kernel
theorem d5_28 : decode prog_31_method_6_code 28 = .ok (.iload_n 1, 1) := by decide +kernel
theorem pd_2 : parseMethodDescriptor "(B)I" = some ⟨[.byte], some .int⟩ := by decide +kernel
theorem d5_29 : decode prog_31_method_6_code 29 = .ok (.invokestatic 41, 3) := by decide +kernel
theorem d5_32 : decode prog_31_method_6_code 32 = .ok (.i2l, 1) := by decide +kernel
theorem d5_33 : decode prog_31_method_6_code 33 = .ok (.iload_n 2, 1) := by decide +kernel
theorem d5_34 : decode prog_31_method_6_code 34 = .ok (.lshl, 1) := by decide +kernel
theorem d5_35 : decode prog_31_method_6_code 35 = .ok (.ladd, 1) := by decide +kernel
theorem d5_36 : decode prog_31_method_6_code 36 = .ok (.putfield 37, 3) := by decide +kernel
theorem d5_39 : decode prog_31_method_6_code 39 = .ok (.goto 18, 3) := by decide +kernel
theorem d5_57 : decode prog_31_method_6_code 57 = .ok (.aload_n 0, 1) := by decide +kernel
theorem d5_58 : decode prog_31_method_6_code 58 = .ok (.dup, 1) := by decide +kernel
theorem d5_59 : decode prog_31_method_6_code 59 = .ok (.getfield 24, 3) := by decide +kernel
theorem d5_62 : decode prog_31_method_6_code 62 = .ok (.iconst 1, 1) := by decide +kernel
theorem d5_63 : decode prog_31_method_6_code 63 = .ok (.iadd, 1) := by decide +kernel
theorem d5_64 : decode prog_31_method_6_code 64 = .ok (.putfield 24, 3) := by decide +kernel
theorem d5_67 : decode prog_31_method_6_code 67 = .ok (.return_, 1) := by decide +kernel
theorem d5_42 : decode prog_31_method_6_code 42 = .ok (.aload_n 0, 1) := by decide +kernel
theorem d5_43 : decode prog_31_method_6_code 43 = .ok (.getfield 16, 3) := by decide +kernel
theorem d5_46 : decode prog_31_method_6_code 46 = .ok (.aload_n 0, 1) := by decide +kernel
theorem d5_47 : decode prog_31_method_6_code 47 = .ok (.getfield 24, 3) := by decide +kernel
theorem d5_50 : decode prog_31_method_6_code 50 = .ok (.aload_n 0, 1) := by decide +kernel
theorem d5_51 : decode prog_31_method_6_code 51 = .ok (.getfield 12, 3) := by decide +kernel
theorem d5_54 : decode prog_31_method_6_code 54 = .ok (.isub, 1) := by decide +kernel
theorem d5_55 : decode prog_31_method_6_code 55 = .ok (.iload_n 1, 1) := by decide +kernel
theorem d5_56 : decode prog_31_method_6_code 56 = .ok (.bastore, 1) := by decide +kernel
theorem ef_rm_take (m : MethodId) (x0 : Addr) (x1 : Int32) : entryFrame m #[(.ref x0), (.int x1)] 3 = mkF m 0 #[rv x0, iv x1, .unset] [] := by first | (simp [entryFrame, mkF, argsToLocals, Value.category]; done) | rfl
def Q_rm_take (Z : State) (a5_0 : Addr) (pv : Int32) (tk : Int32) (cc : Int32) (rw : Addr) (ln : Int32) (co : Int64) (h0 : Heap) (n0 : Nat) (v : Option Value) (h : Heap) (L : List Loc) : Prop := ∃ (cx : Int64), v = none ∧ Fr n0 L ∧ Keep h0 h [a5_0, rw] ∧ (Fld Z h a5_0 "com/example/unand/unand/model/AddressCycles" "taken" "I" (.int (tk + (1 : Int32)))) ∧ (Fld Z h a5_0 "com/example/unand/unand/model/AddressCycles" "columnCycles" "I" (.int cc)) ∧ (Fld Z h a5_0 "com/example/unand/unand/model/AddressCycles" "row" "[B" (.ref rw)) ∧ (Al Z h rw .byte ln) ∧ (Fld Z h a5_0 "com/example/unand/unand/model/AddressCycles" "column" "J" (.long cx))
set_option maxRecDepth 65536 in
set_option maxHeartbeats 40000000 in
theorem rm_take (l : Launch) (Z : State) (a0 : Array Value) (hw : ∀ d ∈ tables_1, d.before a0 Z = true) (ws : List Jvm.Cond) (a5_0 : Addr) (pv : Int32) (tk : Int32) (cc : Int32) (rw : Addr) (ln : Int32) (co : Int64) (h0 : Heap) (n0 : Nat) (Z0 : n0 ≤ h0.size) (pf_E_a5_0 : Exa Z h0 a5_0 "com/example/unand/unand/model/AddressCycles") (pf_G_a5_0 : n0 ≤ a5_0) (pf_G_rw : n0 ≤ rw) (pf_NE_a5_0_rw : a5_0 ≠ rw) (pf_F_a5_0_taken : Fld Z h0 a5_0 "com/example/unand/unand/model/AddressCycles" "taken" "I" (.int tk)) (pf_F_a5_0_columnCycles : Fld Z h0 a5_0 "com/example/unand/unand/model/AddressCycles" "columnCycles" "I" (.int cc)) (pf_F_a5_0_row : Fld Z h0 a5_0 "com/example/unand/unand/model/AddressCycles" "row" "[B" (.ref rw)) (pf_L_rw : Al Z h0 rw .byte ln) (pf_F_a5_0_column : Fld Z h0 a5_0 "com/example/unand/unand/model/AddressCycles" "column" "J" (.long co)) (hin : ¬ (tk < cc) → ¬ ((tk - cc) < 0) ∧ (tk - cc) < ln) :
    MetFree l (⟨"com/example/unand/unand/model/AddressCycles", "take", "(B)V"⟩ : MethodName) (head1 (Jvm.Cond.code (⟨"com/example/unand/unand/model/AddressCycles", "take", "(B)V"⟩ : MethodName) prog_31_method_6_code 3 none :: ws) ({ frames := 1, cells := 0, slots := 0, locals := 15 } : Room)) (fun a U => a = #[(.ref a5_0), (.int pv)] ∧ Z.Warmed39 U.vm ∧ U.heap = h0) (fun _ _ _ _ _ => True) (fun _ U o U' => ∃ v L, o = .returned v ∧ Q_rm_take Z a5_0 pv tk cc rw ln co h0 n0 v U'.heap L ∧ FrameEnd U o U' L ({ frames := 1, cells := 0, slots := 0, locals := 15 } : Room).cells ({ frames := 1, cells := 0, slots := 0, locals := 15 } : Room).slots) := by
  refine MetFree.of_bodySF (plainFor_of_name pn_com_example_unand_unand_model_AddressCycles) hisR ?_
  intro p e s m args below meth c s₁ Bd hml0 hP hK
  obtain ⟨rfl, hZ, hh⟩ := hP
  have hx := Bd.exec
  have hby := Bd.bytes
  have hml : c.maxLocals = 3 := hml0
  have hown : s.vm.findClass "com/example/unand/unand/model/AddressCycles" = some m.cls := findClass_of_methodNamed Bd.named
  have hnm := (name_of_methodNamed Bd.named Bd.method).1
  have X0 : Stand p l e ({ frames := 1, cells := 0, slots := 0, locals := 15 } : Room) s m #[(.ref a5_0), (.int pv)] below meth c s₁ [] 0 0 := Stand.of_body Bd
  have e0 : s₁.heap = h0 := by rw [← hh, Bd.state]; rfl
  have N0 := Fr.nil n0
  have pre0 : ∀ t, Steps p.tables e below (s₁.setTop (mkF m 0 #[rv a5_0, iv pv, .unset] [])) t → Steps p.tables e below (s₁.setTop (entryFrame m #[(.ref a5_0), (.int pv)] 3)) t := fun t k => castTop (ef_rm_take m a5_0 pv) k
  have wo2 := hw _ (List.mem_of_getElem? (i := 2) rfl)
  have wo13 := hw _ (List.mem_of_getElem? (i := 13) rfl)
  have wo14 := hw _ (List.mem_of_getElem? (i := 14) rfl)
  have wo16 := hw _ (List.mem_of_getElem? (i := 16) rfl)
  have wo17 := hw _ (List.mem_of_getElem? (i := 17) rfl)
  have wo25 := hw _ (List.mem_of_getElem? (i := 25) rfl)
  have wo26 := hw _ (List.mem_of_getElem? (i := 26) rfl)
  have wo32 := hw _ (List.mem_of_getElem? (i := 32) rfl)
  have wo33 := hw _ (List.mem_of_getElem? (i := 33) rfl)
  have wo34 := hw _ (List.mem_of_getElem? (i := 34) rfl)
  have wo35 := hw _ (List.mem_of_getElem? (i := 35) rfl)
  have wo36 := hw _ (List.mem_of_getElem? (i := 36) rfl)
  have wo37 := hw _ (List.mem_of_getElem? (i := 37) rfl)
  have wo38 := hw _ (List.mem_of_getElem? (i := 38) rfl)
  have wo39 := hw _ (List.mem_of_getElem? (i := 39) rfl)
  have wo40 := hw _ (List.mem_of_getElem? (i := 40) rfl)
  have wo41 := hw _ (List.mem_of_getElem? (i := 41) rfl)
  obtain ⟨T1, X1, e1, st1⟩ := getF X0 hx hZ hown (host := "") (Or.inl wo25) Via.refl e0 pf_F_a5_0_taken (g := (mkF m 1 #[rv a5_0, iv pv, .unset] [(.ref a5_0)])) rfl rfl (hb hby d5_1)
  obtain ⟨T2, X2, e2, st2⟩ := getF X1 hx hZ hown (host := "") (Or.inl wo13) Via.refl e1 pf_F_a5_0_columnCycles (g := (mkF m 5 #[rv a5_0, iv pv, .unset] [(.ref a5_0), (.int tk)])) rfl rfl (hb hby d5_5)
  have pre4 : ∀ t, Steps p.tables e below (T2.setTop (mkF m 8 #[rv a5_0, iv pv, .unset] [(.int cc), (.int tk)])) t → Steps p.tables e below (s₁.setTop (entryFrame m #[(.ref a5_0), (.int pv)] 3)) t := by
    intro t_ k_
    refine pre0 _ ?_
    show Steps p.tables e below (s₁.setTop (mkF m 0 #[rv a5_0, iv pv, .unset] [])) _
    refine XS.aloadN X0.here hx rfl (hb hby d5_0) rfl rfl ?_
    show Steps p.tables e below (s₁.setTop (mkF m 1 #[rv a5_0, iv pv, .unset] [(.ref a5_0)])) _
    refine st1 _ ?_
    show Steps p.tables e below (T1.setTop (mkF m 4 #[rv a5_0, iv pv, .unset] [(.int tk)])) _
    refine XS.aloadN X1.here hx rfl (hb hby d5_4) rfl rfl ?_
    show Steps p.tables e below (T1.setTop (mkF m 5 #[rv a5_0, iv pv, .unset] [(.ref a5_0), (.int tk)])) _
    refine st2 _ ?_
    exact k_
  by_cases hc8_3 : tk < cc
  · skip
    obtain ⟨T5, X5, e5, st5⟩ := getF X2 hx hZ hown (host := "") (Or.inl wo25) Via.refl e2 pf_F_a5_0_taken (g := (mkF m 14 #[rv a5_0, iv pv, .unset] [(.ref a5_0), (.int (8 : Int32))])) rfl rfl (hb hby d5_14)
    obtain ⟨_, _, ⟨T6, L6, k6, n6⟩, -, X6, ⟨Lc6, hQ6, l6, y6, z6⟩, st6⟩ := Jvm.LawKit.callS X5 hx (y := MN6) hown (mvT hZ wo32) (mvT hZ wo33) (mvT hZ wo34) (mvT hZ wo35) (by decide) (backOf (W := 1) (rm6 l Z a0 hw [] tk (4 : Int32) h0 n0 Z0 ) hZ wo35 wo34 (by decide) (by decide)) (g := (mkF m 18 #[rv a5_0, iv pv, .unset] [(.int (4 : Int32)), (.int tk), (.int (8 : Int32))])) rfl (by rw [hml]; rfl) (argsL := [(.int tk), (.int (4 : Int32))]) (rest := [(.int (8 : Int32))]) (lenOf pd_4 rfl) rfl (by show 2 * 0 + _ ≤ _; exact Nat.le_of_eq rfl) (hb hby d5_18) (fun _ _ => ⟨rfl, e5, (by decide : 0 + 0 ≤ _), (by decide : 0 + 0 ≤ _)⟩)
    dsimp only [Pt.U, Pt.locs, Pt.cells, Pt.slots] at X6 l6 y6 z6 st6 hQ6
    subst l6 y6 z6
    obtain ⟨rfl, N6q, K6q⟩ := hQ6
    have N7 := Fr.app N0 N6q
    obtain ⟨T8, X8, e8, st8⟩ := getF X6 hx hZ hown (host := "") (Or.inl wo36) Via.refl K6q pf_F_a5_0_column (g := (mkF m 25 #[rv a5_0, iv pv, iv ((8 : Int32) * (if (4 : Int32) < tk then (4 : Int32) else tk))] [(.ref a5_0), (.ref a5_0)])) rfl rfl (hb hby d5_25)
    obtain ⟨_, _, ⟨T9, L9, k9, n9⟩, -, X9, ⟨Lc9, hQ9, l9, y9, z9⟩, st9⟩ := Jvm.LawKit.callS X8 hx (y := MN7) hown (mvT hZ wo38) (mvT hZ wo39) (mvT hZ wo40) (mvT hZ wo41) (by decide) (backOf (W := 3) (rm7 l Z a0 hw [] pv h0 n0 Z0 ) hZ wo41 wo40 (by decide) (by decide)) (g := (mkF m 29 #[rv a5_0, iv pv, iv ((8 : Int32) * (if (4 : Int32) < tk then (4 : Int32) else tk))] [(.int pv), (.long co), (.ref a5_0)])) rfl (by rw [hml]; rfl) (argsL := [(.int pv)]) (rest := [(.long co), (.ref a5_0)]) (lenOf pd_2 rfl) rfl (by show 2 * 0 + _ ≤ _; exact Nat.le_of_eq rfl) (hb hby d5_29) (fun _ _ => ⟨rfl, e8, (by decide : 0 + 0 ≤ _), (by decide : 0 + 0 ≤ _)⟩)
    dsimp only [Pt.U, Pt.locs, Pt.cells, Pt.slots] at X9 l9 y9 z9 st9 hQ9
    subst l9 y9 z9
    obtain ⟨rfl, N9q, K9q⟩ := hQ9
    have N10 := Fr.app N7 N9q
    obtain ⟨T11, h11, X11, e11, W11, st11⟩ := putF X9 hx hZ hown (host := "") (Or.inl wo36) Via.refl K9q pf_F_a5_0_column pf_E_a5_0 (Or.inl wo37) wo2 (ty := .long) (by decide) rfl rfl (g := (mkF m 36 #[rv a5_0, iv pv, iv ((8 : Int32) * (if (4 : Int32) < tk then (4 : Int32) else tk))] [(.long (co + (((pv &&& (255 : Int32)).toInt64) <<< (((8 : Int32) * (if (4 : Int32) < tk then (4 : Int32) else tk)) &&& 0x3f).toInt64))), (.ref a5_0)])) rfl rfl (hb hby d5_36)
    have K12 : Keep h0 h11 [a5_0, rw] := (Keep.refl h0 [a5_0, rw]).wr W11 (Or.inl (List.mem_of_getElem? (i := 0) rfl))
    have f13 : Fld Z h11 a5_0 "com/example/unand/unand/model/AddressCycles" "column" "J" (.long (co + (((pv &&& (255 : Int32)).toInt64) <<< (((8 : Int32) * (if (4 : Int32) < tk then (4 : Int32) else tk)) &&& 0x3f).toInt64))) := pf_F_a5_0_column.same W11
    have N14 := Fr.snoc X11 N10 pf_G_a5_0
    have f15 := (pf_F_a5_0_taken.other W11 (Or.inr (slot_ne (Or.inl wo26) (Or.inl wo37) (by decide) (t := .int) (t' := .long) (by decide) (by decide))))
    obtain ⟨T16, X16, e16, st16⟩ := getF X11 hx hZ hown (host := "") (Or.inl wo25) Via.refl e11 f15 (g := (mkF m 59 #[rv a5_0, iv pv, iv ((8 : Int32) * (if (4 : Int32) < tk then (4 : Int32) else tk))] [(.ref a5_0), (.ref a5_0)])) rfl rfl (hb hby d5_59)
    have f17 := (pf_E_a5_0.wr W11)
    obtain ⟨T18, h18, X18, e18, W18, st18⟩ := putF X16 hx hZ hown (host := "") (Or.inl wo25) Via.refl e16 f15 f17 (Or.inl wo26) wo2 (ty := .int) (by decide) rfl rfl (g := (mkF m 64 #[rv a5_0, iv pv, iv ((8 : Int32) * (if (4 : Int32) < tk then (4 : Int32) else tk))] [(.int (tk + (1 : Int32))), (.ref a5_0)])) rfl rfl (hb hby d5_64)
    have K19 : Keep h0 h18 [a5_0, rw] := (K12).wr W18 (Or.inl (List.mem_of_getElem? (i := 0) rfl))
    have f20 : Fld Z h18 a5_0 "com/example/unand/unand/model/AddressCycles" "taken" "I" (.int (tk + (1 : Int32))) := f15.same W18
    have N21 := Fr.snoc X18 N14 pf_G_a5_0
    have f22 := ((pf_F_a5_0_columnCycles.other W11 (Or.inr (slot_ne (Or.inr wo14) (Or.inl wo37) (by decide) (t := .int) (t' := .long) (by decide) (by decide)))).other W18 (Or.inr (slot_ne (Or.inr wo14) (Or.inl wo26) (by decide) (t := .int) (t' := .int) (by decide) (by decide))))
    have f23 := ((pf_F_a5_0_row.other W11 (Or.inr (slot_ne (Or.inr wo17) (Or.inl wo37) (by decide) (t := (.array .byte)) (t' := .long) (by decide) (by decide)))).other W18 (Or.inr (slot_ne (Or.inr wo17) (Or.inl wo26) (by decide) (t := (.array .byte)) (t' := .int) (by decide) (by decide))))
    have f24 := ((pf_L_rw.other W11 (Ne.symm pf_NE_a5_0_rw)).other W18 (Ne.symm pf_NE_a5_0_rw))
    have f25 := (f13.other W18 (Or.inr (slot_ne (Or.inl wo37) (Or.inl wo26) (by decide) (t := .long) (t' := .int) (by decide) (by decide))))
    obtain ⟨fs, hr, hrun, hended, hW, hsame⟩ := X18.leave (v := none) (fun _ => rfl)
    refine ⟨_, _, pre4 _ ?_, hrun, hended, _, _, rfl, ?_, ⟨_, rfl⟩, hW, hsame.mono (by decide) (by decide)⟩
    · show Steps p.tables e below (T2.setTop (mkF m 8 #[rv a5_0, iv pv, .unset] [(.int cc), (.int tk)])) _
      refine XS.icmpNo X2.here hx rfl (hb hby d5_8) rfl (tlt hc8_3).2.1 ?_
      show Steps p.tables e below (T2.setTop (mkF m 11 #[rv a5_0, iv pv, .unset] [])) _
      refine XS.bipush X2.here hx rfl (hb hby d5_11) ?_
      show Steps p.tables e below (T2.setTop (mkF m 13 #[rv a5_0, iv pv, .unset] [(.int (8 : Int32))])) _
      refine XS.aloadN X2.here hx rfl (hb hby d5_13) rfl rfl ?_
      show Steps p.tables e below (T2.setTop (mkF m 14 #[rv a5_0, iv pv, .unset] [(.ref a5_0), (.int (8 : Int32))])) _
      refine st5 _ ?_
      show Steps p.tables e below (T5.setTop (mkF m 17 #[rv a5_0, iv pv, .unset] [(.int tk), (.int (8 : Int32))])) _
      refine XS.iconst X5.here hx rfl (hb hby d5_17) ?_
      show Steps p.tables e below (T5.setTop (mkF m 18 #[rv a5_0, iv pv, .unset] [(.int (4 : Int32)), (.int tk), (.int (8 : Int32))])) _
      refine st6 _ ?_
      show Steps p.tables e below (T6.setTop (mkF m 21 #[rv a5_0, iv pv, .unset] [(.int (if (4 : Int32) < tk then (4 : Int32) else tk)), (.int (8 : Int32))])) _
      refine XS.imul X6.here hx rfl (hb hby d5_21) rfl ?_
      show Steps p.tables e below (T6.setTop (mkF m 22 #[rv a5_0, iv pv, .unset] [(.int ((8 : Int32) * (if (4 : Int32) < tk then (4 : Int32) else tk)))])) _
      refine XS.istoreN X6.here hx rfl (hb hby d5_22) rfl (l' := #[rv a5_0, iv pv, iv ((8 : Int32) * (if (4 : Int32) < tk then (4 : Int32) else tk))]) rfl ?_
      show Steps p.tables e below (T6.setTop (mkF m 23 #[rv a5_0, iv pv, iv ((8 : Int32) * (if (4 : Int32) < tk then (4 : Int32) else tk))] [])) _
      refine XS.aloadN X6.here hx rfl (hb hby d5_23) rfl rfl ?_
      show Steps p.tables e below (T6.setTop (mkF m 24 #[rv a5_0, iv pv, iv ((8 : Int32) * (if (4 : Int32) < tk then (4 : Int32) else tk))] [(.ref a5_0)])) _
      refine XS.dup X6.here hx rfl (hb hby d5_24) rfl rfl ?_
      show Steps p.tables e below (T6.setTop (mkF m 25 #[rv a5_0, iv pv, iv ((8 : Int32) * (if (4 : Int32) < tk then (4 : Int32) else tk))] [(.ref a5_0), (.ref a5_0)])) _
      refine st8 _ ?_
      show Steps p.tables e below (T8.setTop (mkF m 28 #[rv a5_0, iv pv, iv ((8 : Int32) * (if (4 : Int32) < tk then (4 : Int32) else tk))] [(.long co), (.ref a5_0)])) _
      refine XS.iloadN X8.here hx rfl (hb hby d5_28) rfl ?_
      show Steps p.tables e below (T8.setTop (mkF m 29 #[rv a5_0, iv pv, iv ((8 : Int32) * (if (4 : Int32) < tk then (4 : Int32) else tk))] [(.int pv), (.long co), (.ref a5_0)])) _
      refine st9 _ ?_
      show Steps p.tables e below (T9.setTop (mkF m 32 #[rv a5_0, iv pv, iv ((8 : Int32) * (if (4 : Int32) < tk then (4 : Int32) else tk))] [(.int (pv &&& (255 : Int32))), (.long co), (.ref a5_0)])) _
      refine XS.i2l X9.here hx rfl (hb hby d5_32) rfl ?_
      show Steps p.tables e below (T9.setTop (mkF m 33 #[rv a5_0, iv pv, iv ((8 : Int32) * (if (4 : Int32) < tk then (4 : Int32) else tk))] [(.long ((pv &&& (255 : Int32)).toInt64)), (.long co), (.ref a5_0)])) _
      refine XS.iloadN X9.here hx rfl (hb hby d5_33) rfl ?_
      show Steps p.tables e below (T9.setTop (mkF m 34 #[rv a5_0, iv pv, iv ((8 : Int32) * (if (4 : Int32) < tk then (4 : Int32) else tk))] [(.int ((8 : Int32) * (if (4 : Int32) < tk then (4 : Int32) else tk))), (.long ((pv &&& (255 : Int32)).toInt64)), (.long co), (.ref a5_0)])) _
      refine XS.lshl X9.here hx rfl (hb hby d5_34) rfl ?_
      show Steps p.tables e below (T9.setTop (mkF m 35 #[rv a5_0, iv pv, iv ((8 : Int32) * (if (4 : Int32) < tk then (4 : Int32) else tk))] [(.long (((pv &&& (255 : Int32)).toInt64) <<< (((8 : Int32) * (if (4 : Int32) < tk then (4 : Int32) else tk)) &&& 0x3f).toInt64)), (.long co), (.ref a5_0)])) _
      refine XS.ladd X9.here hx rfl (hb hby d5_35) rfl ?_
      show Steps p.tables e below (T9.setTop (mkF m 36 #[rv a5_0, iv pv, iv ((8 : Int32) * (if (4 : Int32) < tk then (4 : Int32) else tk))] [(.long (co + (((pv &&& (255 : Int32)).toInt64) <<< (((8 : Int32) * (if (4 : Int32) < tk then (4 : Int32) else tk)) &&& 0x3f).toInt64))), (.ref a5_0)])) _
      refine st11 _ ?_
      show Steps p.tables e below (T11.setTop (mkF m 39 #[rv a5_0, iv pv, iv ((8 : Int32) * (if (4 : Int32) < tk then (4 : Int32) else tk))] [])) _
      refine XS.goto X11.here hx rfl (pc0 := 39) (pc' := 57) rfl (hb hby d5_39) (by decide) (by decide) ?_
      show Steps p.tables e below (T11.setTop (mkF m 57 #[rv a5_0, iv pv, iv ((8 : Int32) * (if (4 : Int32) < tk then (4 : Int32) else tk))] [])) _
      refine XS.aloadN X11.here hx rfl (hb hby d5_57) rfl rfl ?_
      show Steps p.tables e below (T11.setTop (mkF m 58 #[rv a5_0, iv pv, iv ((8 : Int32) * (if (4 : Int32) < tk then (4 : Int32) else tk))] [(.ref a5_0)])) _
      refine XS.dup X11.here hx rfl (hb hby d5_58) rfl rfl ?_
      show Steps p.tables e below (T11.setTop (mkF m 59 #[rv a5_0, iv pv, iv ((8 : Int32) * (if (4 : Int32) < tk then (4 : Int32) else tk))] [(.ref a5_0), (.ref a5_0)])) _
      refine st16 _ ?_
      show Steps p.tables e below (T16.setTop (mkF m 62 #[rv a5_0, iv pv, iv ((8 : Int32) * (if (4 : Int32) < tk then (4 : Int32) else tk))] [(.int tk), (.ref a5_0)])) _
      refine XS.iconst X16.here hx rfl (hb hby d5_62) ?_
      show Steps p.tables e below (T16.setTop (mkF m 63 #[rv a5_0, iv pv, iv ((8 : Int32) * (if (4 : Int32) < tk then (4 : Int32) else tk))] [(.int (1 : Int32)), (.int tk), (.ref a5_0)])) _
      refine XS.iadd X16.here hx rfl (hb hby d5_63) rfl ?_
      show Steps p.tables e below (T16.setTop (mkF m 64 #[rv a5_0, iv pv, iv ((8 : Int32) * (if (4 : Int32) < tk then (4 : Int32) else tk))] [(.int (tk + (1 : Int32))), (.ref a5_0)])) _
      refine st18 _ ?_
      show Steps p.tables e below (T18.setTop (mkF m 67 #[rv a5_0, iv pv, iv ((8 : Int32) * (if (4 : Int32) < tk then (4 : Int32) else tk))] [])) _
      exact X18.returnOut hx Bd.returns (hb hby d5_67) hr
    · show Q_rm_take Z _ _ _ _ _ _ _ h0 n0 _ T18.heap _
      rw [e18]
      exact ⟨(co + (((pv &&& (255 : Int32)).toInt64) <<< (((8 : Int32) * (if (4 : Int32) < tk then (4 : Int32) else tk)) &&& 0x3f).toInt64)), rfl, N21, (K19), f20, f22, f23, f24, f25⟩
  · skip
    obtain ⟨T26, X26, e26, st26⟩ := getF X2 hx hZ hown (host := "") (Or.inl wo16) Via.refl e2 pf_F_a5_0_row (g := (mkF m 43 #[rv a5_0, iv pv, .unset] [(.ref a5_0)])) rfl rfl (hb hby d5_43)
    obtain ⟨T27, X27, e27, st27⟩ := getF X26 hx hZ hown (host := "") (Or.inl wo25) Via.refl e26 pf_F_a5_0_taken (g := (mkF m 47 #[rv a5_0, iv pv, .unset] [(.ref a5_0), (.ref rw)])) rfl rfl (hb hby d5_47)
    obtain ⟨T28, X28, e28, st28⟩ := getF X27 hx hZ hown (host := "") (Or.inl wo13) Via.refl e27 pf_F_a5_0_columnCycles (g := (mkF m 51 #[rv a5_0, iv pv, .unset] [(.ref a5_0), (.int tk), (.ref rw)])) rfl rfl (hb hby d5_51)
    obtain ⟨cl29, Ar29, Sz29, Nn29⟩ := id pf_L_rw
    have hin30 : ¬ ((tk - cc) < 0 ∨ cl29.slots.size ≤ ((tk - cc)).toNatClampNeg) := inb_of Sz29 (hin hc8_3)
    obtain ⟨T31, h31, X31, e31, W31, st31⟩ := stB X28 hx hZ e28 Ar29 (j := (tk - cc)) hin30 (g := (mkF m 56 #[rv a5_0, iv pv, .unset] [(.int pv), (.int (tk - cc)), (.ref rw)])) rfl rfl (hb hby d5_56)
    have K32 : Keep h0 h31 [a5_0, rw] := (Keep.refl h0 [a5_0, rw]).wr W31 (Or.inl (List.mem_of_getElem? (i := 1) rfl))
    have f33 : Al Z h31 rw .byte ln := Al.same ⟨cl29, Ar29, Sz29, Nn29⟩ W31
    have N34 := Fr.snoc X31 N0 pf_G_rw
    have f35 := (pf_F_a5_0_taken.other W31 (Or.inl pf_NE_a5_0_rw))
    obtain ⟨T36, X36, e36, st36⟩ := getF X31 hx hZ hown (host := "") (Or.inl wo25) Via.refl e31 f35 (g := (mkF m 59 #[rv a5_0, iv pv, .unset] [(.ref a5_0), (.ref a5_0)])) rfl rfl (hb hby d5_59)
    have f37 := (pf_E_a5_0.wr W31)
    obtain ⟨T38, h38, X38, e38, W38, st38⟩ := putF X36 hx hZ hown (host := "") (Or.inl wo25) Via.refl e36 f35 f37 (Or.inl wo26) wo2 (ty := .int) (by decide) rfl rfl (g := (mkF m 64 #[rv a5_0, iv pv, .unset] [(.int (tk + (1 : Int32))), (.ref a5_0)])) rfl rfl (hb hby d5_64)
    have K39 : Keep h0 h38 [a5_0, rw] := (K32).wr W38 (Or.inl (List.mem_of_getElem? (i := 0) rfl))
    have f40 : Fld Z h38 a5_0 "com/example/unand/unand/model/AddressCycles" "taken" "I" (.int (tk + (1 : Int32))) := f35.same W38
    have N41 := Fr.snoc X38 N34 pf_G_a5_0
    have f42 := ((pf_F_a5_0_columnCycles.other W31 (Or.inl pf_NE_a5_0_rw)).other W38 (Or.inr (slot_ne (Or.inr wo14) (Or.inl wo26) (by decide) (t := .int) (t' := .int) (by decide) (by decide))))
    have f43 := ((pf_F_a5_0_row.other W31 (Or.inl pf_NE_a5_0_rw)).other W38 (Or.inr (slot_ne (Or.inr wo17) (Or.inl wo26) (by decide) (t := (.array .byte)) (t' := .int) (by decide) (by decide))))
    have f44 := (f33.other W38 (Ne.symm pf_NE_a5_0_rw))
    have f45 := ((pf_F_a5_0_column.other W31 (Or.inl pf_NE_a5_0_rw)).other W38 (Or.inr (slot_ne (Or.inl wo37) (Or.inl wo26) (by decide) (t := .long) (t' := .int) (by decide) (by decide))))
    obtain ⟨fs, hr, hrun, hended, hW, hsame⟩ := X38.leave (v := none) (fun _ => rfl)
    refine ⟨_, _, pre4 _ ?_, hrun, hended, _, _, rfl, ?_, ⟨_, rfl⟩, hW, hsame.mono (by decide) (by decide)⟩
    · show Steps p.tables e below (T2.setTop (mkF m 8 #[rv a5_0, iv pv, .unset] [(.int cc), (.int tk)])) _
      refine XS.icmpYes X2.here hx rfl (pc0 := 8) (pc' := 42) rfl (hb hby d5_8) rfl (flt hc8_3).2.1 (by decide) (by decide) ?_
      show Steps p.tables e below (T2.setTop (mkF m 42 #[rv a5_0, iv pv, .unset] [])) _
      refine XS.aloadN X2.here hx rfl (hb hby d5_42) rfl rfl ?_
      show Steps p.tables e below (T2.setTop (mkF m 43 #[rv a5_0, iv pv, .unset] [(.ref a5_0)])) _
      refine st26 _ ?_
      show Steps p.tables e below (T26.setTop (mkF m 46 #[rv a5_0, iv pv, .unset] [(.ref rw)])) _
      refine XS.aloadN X26.here hx rfl (hb hby d5_46) rfl rfl ?_
      show Steps p.tables e below (T26.setTop (mkF m 47 #[rv a5_0, iv pv, .unset] [(.ref a5_0), (.ref rw)])) _
      refine st27 _ ?_
      show Steps p.tables e below (T27.setTop (mkF m 50 #[rv a5_0, iv pv, .unset] [(.int tk), (.ref rw)])) _
      refine XS.aloadN X27.here hx rfl (hb hby d5_50) rfl rfl ?_
      show Steps p.tables e below (T27.setTop (mkF m 51 #[rv a5_0, iv pv, .unset] [(.ref a5_0), (.int tk), (.ref rw)])) _
      refine st28 _ ?_
      show Steps p.tables e below (T28.setTop (mkF m 54 #[rv a5_0, iv pv, .unset] [(.int cc), (.int tk), (.ref rw)])) _
      refine XS.isub X28.here hx rfl (hb hby d5_54) rfl ?_
      show Steps p.tables e below (T28.setTop (mkF m 55 #[rv a5_0, iv pv, .unset] [(.int (tk - cc)), (.ref rw)])) _
      refine XS.iloadN X28.here hx rfl (hb hby d5_55) rfl ?_
      show Steps p.tables e below (T28.setTop (mkF m 56 #[rv a5_0, iv pv, .unset] [(.int pv), (.int (tk - cc)), (.ref rw)])) _
      refine st31 _ ?_
      show Steps p.tables e below (T31.setTop (mkF m 57 #[rv a5_0, iv pv, .unset] [])) _
      refine XS.aloadN X31.here hx rfl (hb hby d5_57) rfl rfl ?_
      show Steps p.tables e below (T31.setTop (mkF m 58 #[rv a5_0, iv pv, .unset] [(.ref a5_0)])) _
      refine XS.dup X31.here hx rfl (hb hby d5_58) rfl rfl ?_
      show Steps p.tables e below (T31.setTop (mkF m 59 #[rv a5_0, iv pv, .unset] [(.ref a5_0), (.ref a5_0)])) _
      refine st36 _ ?_
      show Steps p.tables e below (T36.setTop (mkF m 62 #[rv a5_0, iv pv, .unset] [(.int tk), (.ref a5_0)])) _
      refine XS.iconst X36.here hx rfl (hb hby d5_62) ?_
      show Steps p.tables e below (T36.setTop (mkF m 63 #[rv a5_0, iv pv, .unset] [(.int (1 : Int32)), (.int tk), (.ref a5_0)])) _
      refine XS.iadd X36.here hx rfl (hb hby d5_63) rfl ?_
      show Steps p.tables e below (T36.setTop (mkF m 64 #[rv a5_0, iv pv, .unset] [(.int (tk + (1 : Int32))), (.ref a5_0)])) _
      refine st38 _ ?_
      show Steps p.tables e below (T38.setTop (mkF m 67 #[rv a5_0, iv pv, .unset] [])) _
      exact X38.returnOut hx Bd.returns (hb hby d5_67) hr
    · show Q_rm_take Z _ _ _ _ _ _ _ h0 n0 _ T38.heap _
      rw [e38]
      exact ⟨co, rfl, N41, (K39), f40, f42, f43, f44, f45⟩
theorem own_in (c r n k t : Int32) (hc : 0 ≤ c.toInt ∧ c.toInt < 3) (hr : 0 ≤ r.toInt ∧ r.toInt < 3) (hn : n.toInt = c.toInt + r.toInt) (hk : 0 ≤ k.toInt ∧ k.toInt < n.toInt + 1) (ht : 0 ≤ t.toInt ∧ t.toInt < 100) (h : ¬ k < t + 1) : ¬ (t < c) → ¬ ((t - c) < 0) ∧ (t - c) < r := by
  intro q
  have q1 := c_isub t c
  have q2 := rng32 (t - c)
  have q3 := own_suc t ht.1 ht.2
  simp only [Int32.lt_iff_toInt_lt, Int32.reduceToInt] at *
  omega
theorem pd_5 : parseMethodDescriptor "(II)V" = some ⟨[.int, .int], none⟩ := by decide +kernel
theorem pd_1 : parseMethodDescriptor "()Z" = some ⟨[], some .boolean⟩ := by decide +kernel
theorem pd_3 : parseMethodDescriptor "(B)V" = some ⟨[.byte], none⟩ := by decide +kernel
theorem pn_com_example_unand_unand_model_AddressCyclesCompletePinLaw : plainName "com/example/unand/unand/model/AddressCyclesCompletePinLaw" = true := by first | (simp [plainName, overriddenIn]; done) | decide +kernel
theorem ef_rm0 (m : MethodId) (x0 : Int32) (x1 : Int32) (x2 : Int32) (x3 : Int32) : entryFrame m #[(.int x0), (.int x1), (.int x2), (.int x3)] maxLocals = mkF m 0 #[iv x0, iv x1, iv x2, iv x3, .unset, .unset, .unset, .unset, .unset, .unset] [] := by first | (simp [entryFrame, mkF, argsToLocals, Value.category, maxLocals]; done) | rfl
def Q_rm0 (Z : State) (p0_0 : Int32) (p0_1 : Int32) (p0_2 : Int32) (p0_3 : Int32) (h0 : Heap) (n0 : Nat) (v : Option Value) (h : Heap) (L : List Loc) : Prop := v = some (.int (1 : Int32)) ∧ Fr n0 L ∧ Keep h0 h []
set_option maxRecDepth 65536 in
set_option maxHeartbeats 40000000 in
theorem rm0 (l : Launch) (Z : State) (a0 : Array Value) (hw : ∀ d ∈ tables_1, d.before a0 Z = true) (ws : List Jvm.Cond) (p0_0 : Int32) (p0_1 : Int32) (p0_2 : Int32) (p0_3 : Int32) (h0 : Heap) (n0 : Nat) (Z0 : n0 ≤ h0.size) :
    MetFree l x (head1 (Jvm.Cond.code x code maxLocals ret :: ws) room_1) (fun a U => a = #[(.int p0_0), (.int p0_1), (.int p0_2), (.int p0_3)] ∧ Z.Warmed39 U.vm ∧ U.heap = h0) (fun _ _ _ _ _ => True) (fun _ U o U' => ∃ v L, o = .returned v ∧ Q_rm0 Z p0_0 p0_1 p0_2 p0_3 h0 n0 v U'.heap L ∧ FrameEnd U o U' L room_1.cells room_1.slots) := by
  refine MetFree.of_bodySF (plainFor_of_name pn_com_example_unand_unand_model_AddressCyclesCompletePinLaw) hisR ?_
  intro p e s m args below meth c s₁ Bd hml0 hP hK
  obtain ⟨rfl, hZ, hh⟩ := hP
  have hx := Bd.exec
  have hby := Bd.bytes
  have hml : c.maxLocals = 10 := hml0
  have hown : s.vm.findClass "com/example/unand/unand/model/AddressCyclesCompletePinLaw" = some m.cls := findClass_of_methodNamed Bd.named
  have hnm := (name_of_methodNamed Bd.named Bd.method).1
  have X0 : Stand p l e room_1 s m #[(.int p0_0), (.int p0_1), (.int p0_2), (.int p0_3)] below meth c s₁ [] 0 0 := Stand.of_body Bd
  have e0 : s₁.heap = h0 := by rw [← hh, Bd.state]; rfl
  have N0 := Fr.nil n0
  have pre0 : ∀ t, Steps p.tables e below (s₁.setTop (mkF m 0 #[iv p0_0, iv p0_1, iv p0_2, iv p0_3, .unset, .unset, .unset, .unset, .unset, .unset] [])) t → Steps p.tables e below (s₁.setTop (entryFrame m #[(.int p0_0), (.int p0_1), (.int p0_2), (.int p0_3)] maxLocals)) t := fun t k => castTop (ef_rm0 m p0_0 p0_1 p0_2 p0_3) k
  have wo0 := hw _ (List.mem_of_getElem? (i := 0) rfl)
  have wo1 := hw _ (List.mem_of_getElem? (i := 1) rfl)
  have wo2 := hw _ (List.mem_of_getElem? (i := 2) rfl)
  have wo3 := hw _ (List.mem_of_getElem? (i := 3) rfl)
  have wo4 := hw _ (List.mem_of_getElem? (i := 4) rfl)
  have wo5 := hw _ (List.mem_of_getElem? (i := 5) rfl)
  have wo6 := hw _ (List.mem_of_getElem? (i := 6) rfl)
  have wo14 := hw _ (List.mem_of_getElem? (i := 14) rfl)
  have wo17 := hw _ (List.mem_of_getElem? (i := 17) rfl)
  have wo19 := hw _ (List.mem_of_getElem? (i := 19) rfl)
  have wo20 := hw _ (List.mem_of_getElem? (i := 20) rfl)
  have wo21 := hw _ (List.mem_of_getElem? (i := 21) rfl)
  have wo22 := hw _ (List.mem_of_getElem? (i := 22) rfl)
  have wo23 := hw _ (List.mem_of_getElem? (i := 23) rfl)
  have wo24 := hw _ (List.mem_of_getElem? (i := 24) rfl)
  have wo26 := hw _ (List.mem_of_getElem? (i := 26) rfl)
  have wo27 := hw _ (List.mem_of_getElem? (i := 27) rfl)
  have wo28 := hw _ (List.mem_of_getElem? (i := 28) rfl)
  have wo29 := hw _ (List.mem_of_getElem? (i := 29) rfl)
  have wo30 := hw _ (List.mem_of_getElem? (i := 30) rfl)
  have wo31 := hw _ (List.mem_of_getElem? (i := 31) rfl)
  have wo37 := hw _ (List.mem_of_getElem? (i := 37) rfl)
  obtain ⟨c, h_c⟩ : ∃ z : Int32, z = ((p0_0 &&& (2147483647 : Int32)) % (3 : Int32)) := ⟨_, rfl⟩
  have hc : 0 ≤ c.toInt ∧ c.toInt < 3 := by rw [h_c]; exact own_mod3 _
  obtain ⟨r, h_r⟩ : ∃ z : Int32, z = ((p0_1 &&& (2147483647 : Int32)) % (3 : Int32)) := ⟨_, rfl⟩
  have hr : 0 ≤ r.toInt ∧ r.toInt < 3 := by rw [h_r]; exact own_mod3 _
  obtain ⟨n, h_n⟩ : ∃ z : Int32, z = (c + r) := ⟨_, rfl⟩
  have hn : n.toInt = c.toInt + r.toInt := by rw [h_n]; exact own_sum c r hc hr
  have hn1 : (n + (1 : Int32)).toInt = n.toInt + 1 := own_suc n (by omega) (by omega)
  have hnz : (n + (1 : Int32)) ≠ (0 : Int32) := own_nz _ (by omega)
  obtain ⟨k, h_k⟩ : ∃ z : Int32, z = ((p0_2 &&& (2147483647 : Int32)) % (n + (1 : Int32))) := ⟨_, rfl⟩
  have hk : 0 ≤ k.toInt ∧ k.toInt < n.toInt + 1 := by rw [h_k, ← hn1]; exact own_mod _ _ (by omega)
  have hrn : ¬ r < 0 := by simp only [Int32.lt_iff_toInt_lt, Int32.reduceToInt]; omega
  obtain ⟨T1, h1, X1, e1, E1, A1, D1, -, st1⟩ := newO X0 hx hZ hown wo1 wo2 wo3 e0 (g := (mkF m 34 #[iv p0_0, iv p0_1, iv p0_2, iv p0_3, iv c, iv r, iv n, iv k, .unset, .unset] [])) rfl (hb hby at_34) (by decide) (by decide)
  obtain ⟨b1, gg1⟩ : ∃ z, z = h0.size := ⟨_, rfl⟩
  rw [← gg1] at A1 D1 st1
  have g2 : n0 ≤ b1 := Nat.le_trans Z0 (Nat.le_of_eq gg1.symm)
  have bz3 : h0.size ≤ b1 := Nat.le_trans (Keep.refl h0 []).1 (Nat.le_of_eq gg1.symm)
  have K4 : Keep h0 h1 [] := (Keep.refl h0 []).ext E1
  have f5 : Fld Z h1 b1 "com/example/unand/unand/model/AddressCycles" "columnCycles" "I" (.int (0 : Int32)) := D1 (Or.inr wo14) (ty := .int) (by decide)
  have f6 : Fld Z h1 b1 "com/example/unand/unand/model/AddressCycles" "row" "[B" .null := D1 (Or.inr wo17) (ty := (.array .byte)) (by decide)
  have f7 : Fld Z h1 b1 "com/example/unand/unand/model/AddressCycles" "single" "Z" (.int (0 : Int32)) := D1 (Or.inr wo19) (ty := .boolean) (by decide)
  have f8 : Fld Z h1 b1 "com/example/unand/unand/model/AddressCycles" "taken" "I" (.int (0 : Int32)) := D1 (Or.inl wo26) (ty := .int) (by decide)
  have f9 : Fld Z h1 b1 "com/example/unand/unand/model/AddressCycles" "column" "J" (.long (0 : Int64)) := D1 (Or.inl wo37) (ty := .long) (by decide)
  have f11 := (Nat.le_trans Z0 E1.1)
  obtain ⟨_, _, ⟨T10, L10, k10, n10⟩, -, X10, ⟨Lc10, hQ10, l10, y10, z10⟩, st10⟩ := X1.specialBack hx (y := MN1) rfl hown (mvT hZ wo4) (mvT hZ wo5) (mvT hZ wo6) (by decide) (backOf (W := 1) (rm1 l Z a0 hw [] b1 c r h1 n0 f11 A1 g2 f5 f6 f7 f8 f9 (hrn : ¬ r < 0) (hr.2 : r.toInt < 3)) hZ wo6 wo3 (by decide) (by decide)) (g := (mkF m 42 #[iv p0_0, iv p0_1, iv p0_2, iv p0_3, iv c, iv r, iv n, iv k, .unset, .unset] [(.int r), (.int c), (.ref b1), (.ref b1)])) rfl (by rw [hml]; rfl) (Steps.refl _) (a := b1) (argsL := [(.int c), (.int r)]) (rest := [(.ref b1)]) (lenOf pd_5 rfl) rfl (by show 2 * 0 + _ ≤ _; exact Nat.le_of_eq rfl) (hb hby at_42) (fun _ _ => ⟨rfl, e1, (by decide : 1 + 1 ≤ _), (by decide : 5 + 2 ≤ _)⟩)
  dsimp only [Pt.U, Pt.locs, Pt.cells, Pt.slots] at X10 l10 y10 z10 st10 hQ10
  subst l10 y10 z10
  obtain ⟨rw_10, rfl, N10q, K10q, hq10_0, hq10_1, hq10_2, hq10_3, hq10_4, hq10_5, hq10_6⟩ := hQ10
  have N12 := Fr.app N0 N10q
  have ne13 : b1 ≠ rw_10 := Nat.ne_of_lt (Nat.lt_of_lt_of_le A1.lt hq10_0)
  have g14 : n0 ≤ rw_10 := Nat.le_trans f11 hq10_0
  have bz15 : h0.size ≤ rw_10 := Nat.le_trans (K4).1 hq10_0
  have K16 : Keep h0 T10.heap [] := (K4).trans K10q (allS (P := fun x => x ∈ [] ∨ h0.size ≤ x) (Or.inr bz3) all0)
  have f18 := (Nat.le_trans f11 K10q.1)
  have f19 := (A1.keep K10q)
  obtain ⟨cq17, kq17, q17a, q17b, q17c⟩ := isOf hZ rfl f19
  obtain ⟨_, _, ⟨T17, L17, k17, n17⟩, -, X17, ⟨Lc17, hQ17, l17, y17, z17⟩, st17⟩ := X10.virtualBack hx (y := MN4) (z := MN4) hown (mvT hZ wo20) (mvT hZ wo21) (notFace_of_selects (args := #[]) (mvT hZ wo23)) (mvT hZ wo23) (mvT hZ wo22) (by decide) (backOf (W := 0) (rm4 l Z a0 hw [] b1 (0 : Int32) c rw_10 r (T10.heap) n0 f18 hq10_5 hq10_2 hq10_3 hq10_1) hZ wo24 wo3 (by decide) (by decide)) q17a q17c (g := (mkF m 49 #[iv p0_0, iv p0_1, iv p0_2, iv p0_3, iv c, iv r, iv n, iv k, rv b1, .unset] [(.ref b1)])) rfl (by rw [hml]; rfl) (Steps.refl _) (argsL := []) (rest := []) (lenOf pd_1 rfl) rfl (by show 2 * 0 + _ ≤ _; exact Nat.le_of_eq rfl) (hb hby at_49) (fun _ _ => ⟨rfl, rfl, (by decide : 2 + 0 ≤ _), (by decide : 7 + 0 ≤ _)⟩)
  dsimp only [Pt.U, Pt.locs, Pt.cells, Pt.slots] at X17 l17 y17 z17 st17 hQ17
  subst l17 y17 z17
  obtain ⟨rfl, N17q, K17q⟩ := hQ17
  have N20 := Fr.app N12 N17q
  have q21 : (c + r) = n := h_n.symm
  have pre23 : ∀ t, Steps p.tables e below (T17.setTop (mkF m 54 #[iv p0_0, iv p0_1, iv p0_2, iv p0_3, iv c, iv r, iv n, iv k, rv b1, .unset] [(.int n), (.int (if (0 : Int32) = n then (1 : Int32) else (0 : Int32)))])) t → Steps p.tables e below (s₁.setTop (entryFrame m #[(.int p0_0), (.int p0_1), (.int p0_2), (.int p0_3)] maxLocals)) t := by
    intro t_ k_
    refine pre0 _ ?_
    show Steps p.tables e below (s₁.setTop (mkF m 0 #[iv p0_0, iv p0_1, iv p0_2, iv p0_3, .unset, .unset, .unset, .unset, .unset, .unset] [])) _
    refine XS.iloadN X0.here hx rfl (hb hby at_0) rfl ?_
    show Steps p.tables e below (s₁.setTop (mkF m 1 #[iv p0_0, iv p0_1, iv p0_2, iv p0_3, .unset, .unset, .unset, .unset, .unset, .unset] [(.int p0_0)])) _
    refine X0.ldcInt hx hown (mvT hZ wo0) (g := (mkF m 1 #[iv p0_0, iv p0_1, iv p0_2, iv p0_3, .unset, .unset, .unset, .unset, .unset, .unset] [(.int p0_0)])) rfl (hb hby at_1) _ ?_
    show Steps p.tables e below (s₁.setTop (mkF m 3 #[iv p0_0, iv p0_1, iv p0_2, iv p0_3, .unset, .unset, .unset, .unset, .unset, .unset] [(.int (2147483647 : Int32)), (.int p0_0)])) _
    refine XS.iand X0.here hx rfl (hb hby at_3) rfl ?_
    show Steps p.tables e below (s₁.setTop (mkF m 4 #[iv p0_0, iv p0_1, iv p0_2, iv p0_3, .unset, .unset, .unset, .unset, .unset, .unset] [(.int (p0_0 &&& (2147483647 : Int32)))])) _
    refine XS.iconst X0.here hx rfl (hb hby at_4) ?_
    show Steps p.tables e below (s₁.setTop (mkF m 5 #[iv p0_0, iv p0_1, iv p0_2, iv p0_3, .unset, .unset, .unset, .unset, .unset, .unset] [(.int (3 : Int32)), (.int (p0_0 &&& (2147483647 : Int32)))])) _
    refine iremM (g := (mkF m 5 #[iv p0_0, iv p0_1, iv p0_2, iv p0_3, .unset, .unset, .unset, .unset, .unset, .unset] [(.int (3 : Int32)), (.int (p0_0 &&& (2147483647 : Int32)))])) X0 hx rfl (hb hby at_5) rfl (by decide) ?_
    show Steps p.tables e below (s₁.setTop (mkF m 6 #[iv p0_0, iv p0_1, iv p0_2, iv p0_3, .unset, .unset, .unset, .unset, .unset, .unset] [(.int ((p0_0 &&& (2147483647 : Int32)) % (3 : Int32)))])) _
    refine XS.istore X0.here hx rfl (hb hby at_6) rfl (l' := #[iv p0_0, iv p0_1, iv p0_2, iv p0_3, iv ((p0_0 &&& (2147483647 : Int32)) % (3 : Int32)), .unset, .unset, .unset, .unset, .unset]) rfl ?_
    rw [← h_c]
    show Steps p.tables e below (s₁.setTop (mkF m 8 #[iv p0_0, iv p0_1, iv p0_2, iv p0_3, iv c, .unset, .unset, .unset, .unset, .unset] [])) _
    show Steps p.tables e below (s₁.setTop (mkF m 8 #[iv p0_0, iv p0_1, iv p0_2, iv p0_3, iv c, .unset, .unset, .unset, .unset, .unset] [])) _
    refine XS.iloadN X0.here hx rfl (hb hby at_8) rfl ?_
    show Steps p.tables e below (s₁.setTop (mkF m 9 #[iv p0_0, iv p0_1, iv p0_2, iv p0_3, iv c, .unset, .unset, .unset, .unset, .unset] [(.int p0_1)])) _
    refine X0.ldcInt hx hown (mvT hZ wo0) (g := (mkF m 9 #[iv p0_0, iv p0_1, iv p0_2, iv p0_3, iv c, .unset, .unset, .unset, .unset, .unset] [(.int p0_1)])) rfl (hb hby at_9) _ ?_
    show Steps p.tables e below (s₁.setTop (mkF m 11 #[iv p0_0, iv p0_1, iv p0_2, iv p0_3, iv c, .unset, .unset, .unset, .unset, .unset] [(.int (2147483647 : Int32)), (.int p0_1)])) _
    refine XS.iand X0.here hx rfl (hb hby at_11) rfl ?_
    show Steps p.tables e below (s₁.setTop (mkF m 12 #[iv p0_0, iv p0_1, iv p0_2, iv p0_3, iv c, .unset, .unset, .unset, .unset, .unset] [(.int (p0_1 &&& (2147483647 : Int32)))])) _
    refine XS.iconst X0.here hx rfl (hb hby at_12) ?_
    show Steps p.tables e below (s₁.setTop (mkF m 13 #[iv p0_0, iv p0_1, iv p0_2, iv p0_3, iv c, .unset, .unset, .unset, .unset, .unset] [(.int (3 : Int32)), (.int (p0_1 &&& (2147483647 : Int32)))])) _
    refine iremM (g := (mkF m 13 #[iv p0_0, iv p0_1, iv p0_2, iv p0_3, iv c, .unset, .unset, .unset, .unset, .unset] [(.int (3 : Int32)), (.int (p0_1 &&& (2147483647 : Int32)))])) X0 hx rfl (hb hby at_13) rfl (by decide) ?_
    show Steps p.tables e below (s₁.setTop (mkF m 14 #[iv p0_0, iv p0_1, iv p0_2, iv p0_3, iv c, .unset, .unset, .unset, .unset, .unset] [(.int ((p0_1 &&& (2147483647 : Int32)) % (3 : Int32)))])) _
    refine XS.istore X0.here hx rfl (hb hby at_14) rfl (l' := #[iv p0_0, iv p0_1, iv p0_2, iv p0_3, iv c, iv ((p0_1 &&& (2147483647 : Int32)) % (3 : Int32)), .unset, .unset, .unset, .unset]) rfl ?_
    rw [← h_r]
    show Steps p.tables e below (s₁.setTop (mkF m 16 #[iv p0_0, iv p0_1, iv p0_2, iv p0_3, iv c, iv r, .unset, .unset, .unset, .unset] [])) _
    show Steps p.tables e below (s₁.setTop (mkF m 16 #[iv p0_0, iv p0_1, iv p0_2, iv p0_3, iv c, iv r, .unset, .unset, .unset, .unset] [])) _
    refine XS.iload X0.here hx rfl (hb hby at_16) rfl ?_
    show Steps p.tables e below (s₁.setTop (mkF m 18 #[iv p0_0, iv p0_1, iv p0_2, iv p0_3, iv c, iv r, .unset, .unset, .unset, .unset] [(.int c)])) _
    refine XS.iload X0.here hx rfl (hb hby at_18) rfl ?_
    show Steps p.tables e below (s₁.setTop (mkF m 20 #[iv p0_0, iv p0_1, iv p0_2, iv p0_3, iv c, iv r, .unset, .unset, .unset, .unset] [(.int r), (.int c)])) _
    refine XS.iadd X0.here hx rfl (hb hby at_20) rfl ?_
    show Steps p.tables e below (s₁.setTop (mkF m 21 #[iv p0_0, iv p0_1, iv p0_2, iv p0_3, iv c, iv r, .unset, .unset, .unset, .unset] [(.int (c + r))])) _
    refine XS.istore X0.here hx rfl (hb hby at_21) rfl (l' := #[iv p0_0, iv p0_1, iv p0_2, iv p0_3, iv c, iv r, iv (c + r), .unset, .unset, .unset]) rfl ?_
    rw [← h_n]
    show Steps p.tables e below (s₁.setTop (mkF m 23 #[iv p0_0, iv p0_1, iv p0_2, iv p0_3, iv c, iv r, iv n, .unset, .unset, .unset] [])) _
    show Steps p.tables e below (s₁.setTop (mkF m 23 #[iv p0_0, iv p0_1, iv p0_2, iv p0_3, iv c, iv r, iv n, .unset, .unset, .unset] [])) _
    refine XS.iloadN X0.here hx rfl (hb hby at_23) rfl ?_
    show Steps p.tables e below (s₁.setTop (mkF m 24 #[iv p0_0, iv p0_1, iv p0_2, iv p0_3, iv c, iv r, iv n, .unset, .unset, .unset] [(.int p0_2)])) _
    refine X0.ldcInt hx hown (mvT hZ wo0) (g := (mkF m 24 #[iv p0_0, iv p0_1, iv p0_2, iv p0_3, iv c, iv r, iv n, .unset, .unset, .unset] [(.int p0_2)])) rfl (hb hby at_24) _ ?_
    show Steps p.tables e below (s₁.setTop (mkF m 26 #[iv p0_0, iv p0_1, iv p0_2, iv p0_3, iv c, iv r, iv n, .unset, .unset, .unset] [(.int (2147483647 : Int32)), (.int p0_2)])) _
    refine XS.iand X0.here hx rfl (hb hby at_26) rfl ?_
    show Steps p.tables e below (s₁.setTop (mkF m 27 #[iv p0_0, iv p0_1, iv p0_2, iv p0_3, iv c, iv r, iv n, .unset, .unset, .unset] [(.int (p0_2 &&& (2147483647 : Int32)))])) _
    refine XS.iload X0.here hx rfl (hb hby at_27) rfl ?_
    show Steps p.tables e below (s₁.setTop (mkF m 29 #[iv p0_0, iv p0_1, iv p0_2, iv p0_3, iv c, iv r, iv n, .unset, .unset, .unset] [(.int n), (.int (p0_2 &&& (2147483647 : Int32)))])) _
    refine XS.iconst X0.here hx rfl (hb hby at_29) ?_
    show Steps p.tables e below (s₁.setTop (mkF m 30 #[iv p0_0, iv p0_1, iv p0_2, iv p0_3, iv c, iv r, iv n, .unset, .unset, .unset] [(.int (1 : Int32)), (.int n), (.int (p0_2 &&& (2147483647 : Int32)))])) _
    refine XS.iadd X0.here hx rfl (hb hby at_30) rfl ?_
    show Steps p.tables e below (s₁.setTop (mkF m 31 #[iv p0_0, iv p0_1, iv p0_2, iv p0_3, iv c, iv r, iv n, .unset, .unset, .unset] [(.int (n + (1 : Int32))), (.int (p0_2 &&& (2147483647 : Int32)))])) _
    refine iremM (g := (mkF m 31 #[iv p0_0, iv p0_1, iv p0_2, iv p0_3, iv c, iv r, iv n, .unset, .unset, .unset] [(.int (n + (1 : Int32))), (.int (p0_2 &&& (2147483647 : Int32)))])) X0 hx rfl (hb hby at_31) rfl hnz ?_
    show Steps p.tables e below (s₁.setTop (mkF m 32 #[iv p0_0, iv p0_1, iv p0_2, iv p0_3, iv c, iv r, iv n, .unset, .unset, .unset] [(.int ((p0_2 &&& (2147483647 : Int32)) % (n + (1 : Int32))))])) _
    refine XS.istore X0.here hx rfl (hb hby at_32) rfl (l' := #[iv p0_0, iv p0_1, iv p0_2, iv p0_3, iv c, iv r, iv n, iv ((p0_2 &&& (2147483647 : Int32)) % (n + (1 : Int32))), .unset, .unset]) rfl ?_
    rw [← h_k]
    show Steps p.tables e below (s₁.setTop (mkF m 34 #[iv p0_0, iv p0_1, iv p0_2, iv p0_3, iv c, iv r, iv n, iv k, .unset, .unset] [])) _
    show Steps p.tables e below (s₁.setTop (mkF m 34 #[iv p0_0, iv p0_1, iv p0_2, iv p0_3, iv c, iv r, iv n, iv k, .unset, .unset] [])) _
    refine st1 _ ?_
    show Steps p.tables e below (T1.setTop (mkF m 37 #[iv p0_0, iv p0_1, iv p0_2, iv p0_3, iv c, iv r, iv n, iv k, .unset, .unset] [(.ref b1)])) _
    refine XS.dup X1.here hx rfl (hb hby at_37) rfl rfl ?_
    show Steps p.tables e below (T1.setTop (mkF m 38 #[iv p0_0, iv p0_1, iv p0_2, iv p0_3, iv c, iv r, iv n, iv k, .unset, .unset] [(.ref b1), (.ref b1)])) _
    refine XS.iload X1.here hx rfl (hb hby at_38) rfl ?_
    show Steps p.tables e below (T1.setTop (mkF m 40 #[iv p0_0, iv p0_1, iv p0_2, iv p0_3, iv c, iv r, iv n, iv k, .unset, .unset] [(.int c), (.ref b1), (.ref b1)])) _
    refine XS.iload X1.here hx rfl (hb hby at_40) rfl ?_
    show Steps p.tables e below (T1.setTop (mkF m 42 #[iv p0_0, iv p0_1, iv p0_2, iv p0_3, iv c, iv r, iv n, iv k, .unset, .unset] [(.int r), (.int c), (.ref b1), (.ref b1)])) _
    refine st10.trans ?_
    show Steps p.tables e below (T10.setTop (mkF m 45 #[iv p0_0, iv p0_1, iv p0_2, iv p0_3, iv c, iv r, iv n, iv k, .unset, .unset] [(.ref b1)])) _
    refine XS.astore X10.here hx rfl (hb hby at_45) rfl rfl (l' := #[iv p0_0, iv p0_1, iv p0_2, iv p0_3, iv c, iv r, iv n, iv k, rv b1, .unset]) rfl ?_
    show Steps p.tables e below (T10.setTop (mkF m 47 #[iv p0_0, iv p0_1, iv p0_2, iv p0_3, iv c, iv r, iv n, iv k, rv b1, .unset] [])) _
    refine XS.aload X10.here hx rfl (hb hby at_47) rfl rfl ?_
    show Steps p.tables e below (T10.setTop (mkF m 49 #[iv p0_0, iv p0_1, iv p0_2, iv p0_3, iv c, iv r, iv n, iv k, rv b1, .unset] [(.ref b1)])) _
    refine st17.trans ?_
    rw [q21]
    show Steps p.tables e below (T17.setTop (mkF m 52 #[iv p0_0, iv p0_1, iv p0_2, iv p0_3, iv c, iv r, iv n, iv k, rv b1, .unset] [(.int (if (0 : Int32) = n then (1 : Int32) else (0 : Int32)))])) _
    show Steps p.tables e below (T17.setTop (mkF m 52 #[iv p0_0, iv p0_1, iv p0_2, iv p0_3, iv c, iv r, iv n, iv k, rv b1, .unset] [(.int (if (0 : Int32) = n then (1 : Int32) else (0 : Int32)))])) _
    refine XS.iload X17.here hx rfl (hb hby at_52) rfl ?_
    exact k_
  by_cases hc54_22 : n = (0 : Int32)
  · skip
    have hc24 : (if (0 : Int32) = n then (1 : Int32) else (0 : Int32)) = (1 : Int32) := if_pos hc54_22.symm
    have hc25 : k < (1 : Int32) := own_kn k n _ _ hk.2 hc54_22 (by decide)
    have hc26 : k < (2 : Int32) := own_lt2 _ _ _ hc25 (by decide)
    have hc27 : k < (3 : Int32) := own_lt2 _ _ _ hc25 (by decide)
    have hc28 : k < (4 : Int32) := own_lt2 _ _ _ hc25 (by decide)
    obtain ⟨fs, hr, hrun, hended, hW, hsame⟩ := X17.leave (v := some (.int (1 : Int32))) (fun h => by rw [Bd.returns] at h; cases h)
    refine ⟨_, _, pre23 _ ?_, hrun, hended, _, _, rfl, ?_, ⟨_, rfl⟩, hW, hsame.mono (by decide) (by decide)⟩
    · show Steps p.tables e below (T17.setTop (mkF m 54 #[iv p0_0, iv p0_1, iv p0_2, iv p0_3, iv c, iv r, iv n, iv k, rv b1, .unset] [(.int n), (.int (if (0 : Int32) = n then (1 : Int32) else (0 : Int32)))])) _
      refine XS.ifNo X17.here hx rfl (hb hby at_54) rfl ((if0 _ _).trans (teq hc54_22).2) ?_
      show Steps p.tables e below (T17.setTop (mkF m 57 #[iv p0_0, iv p0_1, iv p0_2, iv p0_3, iv c, iv r, iv n, iv k, rv b1, .unset] [(.int (if (0 : Int32) = n then (1 : Int32) else (0 : Int32)))])) _
      refine XS.iconst X17.here hx rfl (hb hby at_57) ?_
      show Steps p.tables e below (T17.setTop (mkF m 58 #[iv p0_0, iv p0_1, iv p0_2, iv p0_3, iv c, iv r, iv n, iv k, rv b1, .unset] [(.int (1 : Int32)), (.int (if (0 : Int32) = n then (1 : Int32) else (0 : Int32)))])) _
      refine XS.goto X17.here hx rfl (pc0 := 58) (pc' := 62) rfl (hb hby at_58) (by decide) (by decide) ?_
      show Steps p.tables e below (T17.setTop (mkF m 62 #[iv p0_0, iv p0_1, iv p0_2, iv p0_3, iv c, iv r, iv n, iv k, rv b1, .unset] [(.int (1 : Int32)), (.int (if (0 : Int32) = n then (1 : Int32) else (0 : Int32)))])) _
      refine XS.icmpNo X17.here hx rfl (hb hby at_62) rfl (teq hc24).2 ?_
      show Steps p.tables e below (T17.setTop (mkF m 65 #[iv p0_0, iv p0_1, iv p0_2, iv p0_3, iv c, iv r, iv n, iv k, rv b1, .unset] [])) _
      refine XS.iconst X17.here hx rfl (hb hby at_65) ?_
      show Steps p.tables e below (T17.setTop (mkF m 66 #[iv p0_0, iv p0_1, iv p0_2, iv p0_3, iv c, iv r, iv n, iv k, rv b1, .unset] [(.int (1 : Int32))])) _
      refine XS.goto X17.here hx rfl (pc0 := 66) (pc' := 70) rfl (hb hby at_66) (by decide) (by decide) ?_
      show Steps p.tables e below (T17.setTop (mkF m 70 #[iv p0_0, iv p0_1, iv p0_2, iv p0_3, iv c, iv r, iv n, iv k, rv b1, .unset] [(.int (1 : Int32))])) _
      refine XS.istore X17.here hx rfl (hb hby at_70) rfl (l' := #[iv p0_0, iv p0_1, iv p0_2, iv p0_3, iv c, iv r, iv n, iv k, rv b1, iv (1 : Int32)]) rfl ?_
      show Steps p.tables e below (T17.setTop (mkF m 72 #[iv p0_0, iv p0_1, iv p0_2, iv p0_3, iv c, iv r, iv n, iv k, rv b1, iv (1 : Int32)] [])) _
      refine XS.iload X17.here hx rfl (hb hby at_72) rfl ?_
      show Steps p.tables e below (T17.setTop (mkF m 74 #[iv p0_0, iv p0_1, iv p0_2, iv p0_3, iv c, iv r, iv n, iv k, rv b1, iv (1 : Int32)] [(.int k)])) _
      refine XS.iconst X17.here hx rfl (hb hby at_74) ?_
      show Steps p.tables e below (T17.setTop (mkF m 75 #[iv p0_0, iv p0_1, iv p0_2, iv p0_3, iv c, iv r, iv n, iv k, rv b1, iv (1 : Int32)] [(.int (1 : Int32)), (.int k)])) _
      refine XS.icmpYes X17.here hx rfl (pc0 := 75) (pc' := 116) rfl (hb hby at_75) rfl (tlt hc25).1 (by decide) (by decide) ?_
      show Steps p.tables e below (T17.setTop (mkF m 116 #[iv p0_0, iv p0_1, iv p0_2, iv p0_3, iv c, iv r, iv n, iv k, rv b1, iv (1 : Int32)] [])) _
      refine XS.iload X17.here hx rfl (hb hby at_116) rfl ?_
      show Steps p.tables e below (T17.setTop (mkF m 118 #[iv p0_0, iv p0_1, iv p0_2, iv p0_3, iv c, iv r, iv n, iv k, rv b1, iv (1 : Int32)] [(.int k)])) _
      refine XS.iconst X17.here hx rfl (hb hby at_118) ?_
      show Steps p.tables e below (T17.setTop (mkF m 119 #[iv p0_0, iv p0_1, iv p0_2, iv p0_3, iv c, iv r, iv n, iv k, rv b1, iv (1 : Int32)] [(.int (2 : Int32)), (.int k)])) _
      refine XS.icmpYes X17.here hx rfl (pc0 := 119) (pc' := 163) rfl (hb hby at_119) rfl (tlt hc26).1 (by decide) (by decide) ?_
      show Steps p.tables e below (T17.setTop (mkF m 163 #[iv p0_0, iv p0_1, iv p0_2, iv p0_3, iv c, iv r, iv n, iv k, rv b1, iv (1 : Int32)] [])) _
      refine XS.iload X17.here hx rfl (hb hby at_163) rfl ?_
      show Steps p.tables e below (T17.setTop (mkF m 165 #[iv p0_0, iv p0_1, iv p0_2, iv p0_3, iv c, iv r, iv n, iv k, rv b1, iv (1 : Int32)] [(.int k)])) _
      refine XS.iconst X17.here hx rfl (hb hby at_165) ?_
      show Steps p.tables e below (T17.setTop (mkF m 166 #[iv p0_0, iv p0_1, iv p0_2, iv p0_3, iv c, iv r, iv n, iv k, rv b1, iv (1 : Int32)] [(.int (3 : Int32)), (.int k)])) _
      refine XS.icmpYes X17.here hx rfl (pc0 := 166) (pc' := 210) rfl (hb hby at_166) rfl (tlt hc27).1 (by decide) (by decide) ?_
      show Steps p.tables e below (T17.setTop (mkF m 210 #[iv p0_0, iv p0_1, iv p0_2, iv p0_3, iv c, iv r, iv n, iv k, rv b1, iv (1 : Int32)] [])) _
      refine XS.iload X17.here hx rfl (hb hby at_210) rfl ?_
      show Steps p.tables e below (T17.setTop (mkF m 212 #[iv p0_0, iv p0_1, iv p0_2, iv p0_3, iv c, iv r, iv n, iv k, rv b1, iv (1 : Int32)] [(.int k)])) _
      refine XS.iconst X17.here hx rfl (hb hby at_212) ?_
      show Steps p.tables e below (T17.setTop (mkF m 213 #[iv p0_0, iv p0_1, iv p0_2, iv p0_3, iv c, iv r, iv n, iv k, rv b1, iv (1 : Int32)] [(.int (4 : Int32)), (.int k)])) _
      refine XS.icmpYes X17.here hx rfl (pc0 := 213) (pc' := 257) rfl (hb hby at_213) rfl (tlt hc28).1 (by decide) (by decide) ?_
      show Steps p.tables e below (T17.setTop (mkF m 257 #[iv p0_0, iv p0_1, iv p0_2, iv p0_3, iv c, iv r, iv n, iv k, rv b1, iv (1 : Int32)] [])) _
      refine XS.iload X17.here hx rfl (hb hby at_257) rfl ?_
      show Steps p.tables e below (T17.setTop (mkF m 259 #[iv p0_0, iv p0_1, iv p0_2, iv p0_3, iv c, iv r, iv n, iv k, rv b1, iv (1 : Int32)] [(.int (1 : Int32))])) _
      exact retN X17 hx (t := .boolean) Bd.returns (by simp) (hb hby at_259) hr
    · show Q_rm0 Z _ _ _ _ h0 n0 _ T17.heap _
      rw [K17q]
      exact ⟨rfl, N20, (K16)⟩
  · skip
    have hc29 : (if (0 : Int32) = n then (1 : Int32) else (0 : Int32)) = (0 : Int32) := if_neg (Ne.symm hc54_22)
    have pre31 : ∀ t, Steps p.tables e below (T17.setTop (mkF m 75 #[iv p0_0, iv p0_1, iv p0_2, iv p0_3, iv c, iv r, iv n, iv k, rv b1, iv (1 : Int32)] [(.int (1 : Int32)), (.int k)])) t → Steps p.tables e below (s₁.setTop (entryFrame m #[(.int p0_0), (.int p0_1), (.int p0_2), (.int p0_3)] maxLocals)) t := by
      intro t_ k_
      refine pre23 _ ?_
      show Steps p.tables e below (T17.setTop (mkF m 54 #[iv p0_0, iv p0_1, iv p0_2, iv p0_3, iv c, iv r, iv n, iv k, rv b1, .unset] [(.int n), (.int (if (0 : Int32) = n then (1 : Int32) else (0 : Int32)))])) _
      refine XS.ifYes X17.here hx rfl (pc0 := 54) (pc' := 61) rfl (hb hby at_54) rfl ((if0 _ _).trans (feq hc54_22).2) (by decide) (by decide) ?_
      show Steps p.tables e below (T17.setTop (mkF m 61 #[iv p0_0, iv p0_1, iv p0_2, iv p0_3, iv c, iv r, iv n, iv k, rv b1, .unset] [(.int (if (0 : Int32) = n then (1 : Int32) else (0 : Int32)))])) _
      refine XS.iconst X17.here hx rfl (hb hby at_61) ?_
      show Steps p.tables e below (T17.setTop (mkF m 62 #[iv p0_0, iv p0_1, iv p0_2, iv p0_3, iv c, iv r, iv n, iv k, rv b1, .unset] [(.int (0 : Int32)), (.int (if (0 : Int32) = n then (1 : Int32) else (0 : Int32)))])) _
      refine XS.icmpNo X17.here hx rfl (hb hby at_62) rfl (teq hc29).2 ?_
      show Steps p.tables e below (T17.setTop (mkF m 65 #[iv p0_0, iv p0_1, iv p0_2, iv p0_3, iv c, iv r, iv n, iv k, rv b1, .unset] [])) _
      refine XS.iconst X17.here hx rfl (hb hby at_65) ?_
      show Steps p.tables e below (T17.setTop (mkF m 66 #[iv p0_0, iv p0_1, iv p0_2, iv p0_3, iv c, iv r, iv n, iv k, rv b1, .unset] [(.int (1 : Int32))])) _
      refine XS.goto X17.here hx rfl (pc0 := 66) (pc' := 70) rfl (hb hby at_66) (by decide) (by decide) ?_
      show Steps p.tables e below (T17.setTop (mkF m 70 #[iv p0_0, iv p0_1, iv p0_2, iv p0_3, iv c, iv r, iv n, iv k, rv b1, .unset] [(.int (1 : Int32))])) _
      refine XS.istore X17.here hx rfl (hb hby at_70) rfl (l' := #[iv p0_0, iv p0_1, iv p0_2, iv p0_3, iv c, iv r, iv n, iv k, rv b1, iv (1 : Int32)]) rfl ?_
      show Steps p.tables e below (T17.setTop (mkF m 72 #[iv p0_0, iv p0_1, iv p0_2, iv p0_3, iv c, iv r, iv n, iv k, rv b1, iv (1 : Int32)] [])) _
      refine XS.iload X17.here hx rfl (hb hby at_72) rfl ?_
      show Steps p.tables e below (T17.setTop (mkF m 74 #[iv p0_0, iv p0_1, iv p0_2, iv p0_3, iv c, iv r, iv n, iv k, rv b1, iv (1 : Int32)] [(.int k)])) _
      refine XS.iconst X17.here hx rfl (hb hby at_74) ?_
      exact k_
    by_cases hc75_30 : k < (1 : Int32)
    · skip
      have hc32 : k < (2 : Int32) := own_lt2 _ _ _ hc75_30 (by decide)
      have hc33 : k < (3 : Int32) := own_lt2 _ _ _ hc75_30 (by decide)
      have hc34 : k < (4 : Int32) := own_lt2 _ _ _ hc75_30 (by decide)
      obtain ⟨fs, hr, hrun, hended, hW, hsame⟩ := X17.leave (v := some (.int (1 : Int32))) (fun h => by rw [Bd.returns] at h; cases h)
      refine ⟨_, _, pre31 _ ?_, hrun, hended, _, _, rfl, ?_, ⟨_, rfl⟩, hW, hsame.mono (by decide) (by decide)⟩
      · show Steps p.tables e below (T17.setTop (mkF m 75 #[iv p0_0, iv p0_1, iv p0_2, iv p0_3, iv c, iv r, iv n, iv k, rv b1, iv (1 : Int32)] [(.int (1 : Int32)), (.int k)])) _
        refine XS.icmpYes X17.here hx rfl (pc0 := 75) (pc' := 116) rfl (hb hby at_75) rfl (tlt hc75_30).1 (by decide) (by decide) ?_
        show Steps p.tables e below (T17.setTop (mkF m 116 #[iv p0_0, iv p0_1, iv p0_2, iv p0_3, iv c, iv r, iv n, iv k, rv b1, iv (1 : Int32)] [])) _
        refine XS.iload X17.here hx rfl (hb hby at_116) rfl ?_
        show Steps p.tables e below (T17.setTop (mkF m 118 #[iv p0_0, iv p0_1, iv p0_2, iv p0_3, iv c, iv r, iv n, iv k, rv b1, iv (1 : Int32)] [(.int k)])) _
        refine XS.iconst X17.here hx rfl (hb hby at_118) ?_
        show Steps p.tables e below (T17.setTop (mkF m 119 #[iv p0_0, iv p0_1, iv p0_2, iv p0_3, iv c, iv r, iv n, iv k, rv b1, iv (1 : Int32)] [(.int (2 : Int32)), (.int k)])) _
        refine XS.icmpYes X17.here hx rfl (pc0 := 119) (pc' := 163) rfl (hb hby at_119) rfl (tlt hc32).1 (by decide) (by decide) ?_
        show Steps p.tables e below (T17.setTop (mkF m 163 #[iv p0_0, iv p0_1, iv p0_2, iv p0_3, iv c, iv r, iv n, iv k, rv b1, iv (1 : Int32)] [])) _
        refine XS.iload X17.here hx rfl (hb hby at_163) rfl ?_
        show Steps p.tables e below (T17.setTop (mkF m 165 #[iv p0_0, iv p0_1, iv p0_2, iv p0_3, iv c, iv r, iv n, iv k, rv b1, iv (1 : Int32)] [(.int k)])) _
        refine XS.iconst X17.here hx rfl (hb hby at_165) ?_
        show Steps p.tables e below (T17.setTop (mkF m 166 #[iv p0_0, iv p0_1, iv p0_2, iv p0_3, iv c, iv r, iv n, iv k, rv b1, iv (1 : Int32)] [(.int (3 : Int32)), (.int k)])) _
        refine XS.icmpYes X17.here hx rfl (pc0 := 166) (pc' := 210) rfl (hb hby at_166) rfl (tlt hc33).1 (by decide) (by decide) ?_
        show Steps p.tables e below (T17.setTop (mkF m 210 #[iv p0_0, iv p0_1, iv p0_2, iv p0_3, iv c, iv r, iv n, iv k, rv b1, iv (1 : Int32)] [])) _
        refine XS.iload X17.here hx rfl (hb hby at_210) rfl ?_
        show Steps p.tables e below (T17.setTop (mkF m 212 #[iv p0_0, iv p0_1, iv p0_2, iv p0_3, iv c, iv r, iv n, iv k, rv b1, iv (1 : Int32)] [(.int k)])) _
        refine XS.iconst X17.here hx rfl (hb hby at_212) ?_
        show Steps p.tables e below (T17.setTop (mkF m 213 #[iv p0_0, iv p0_1, iv p0_2, iv p0_3, iv c, iv r, iv n, iv k, rv b1, iv (1 : Int32)] [(.int (4 : Int32)), (.int k)])) _
        refine XS.icmpYes X17.here hx rfl (pc0 := 213) (pc' := 257) rfl (hb hby at_213) rfl (tlt hc34).1 (by decide) (by decide) ?_
        show Steps p.tables e below (T17.setTop (mkF m 257 #[iv p0_0, iv p0_1, iv p0_2, iv p0_3, iv c, iv r, iv n, iv k, rv b1, iv (1 : Int32)] [])) _
        refine XS.iload X17.here hx rfl (hb hby at_257) rfl ?_
        show Steps p.tables e below (T17.setTop (mkF m 259 #[iv p0_0, iv p0_1, iv p0_2, iv p0_3, iv c, iv r, iv n, iv k, rv b1, iv (1 : Int32)] [(.int (1 : Int32))])) _
        exact retN X17 hx (t := .boolean) Bd.returns (by simp) (hb hby at_259) hr
      · show Q_rm0 Z _ _ _ _ h0 n0 _ T17.heap _
        rw [K17q]
        exact ⟨rfl, N20, (K16)⟩
    · skip
      obtain ⟨cq35, kq35, q35a, q35b, q35c⟩ := isOf hZ K17q f19
      obtain ⟨_, _, ⟨T35, L35, k35, n35⟩, -, X35, ⟨Lc35, hQ35, l35, y35, z35⟩, st35⟩ := X17.virtualBack hx (y := MN5) (z := MN5) hown (mvT hZ wo27) (mvT hZ wo28) (notFace_of_selects (args := #[]) (mvT hZ wo30)) (mvT hZ wo30) (mvT hZ wo29) (by decide) (backOf (W := 0) (rm_take l Z a0 hw [] b1 (p0_3.toInt8.toInt32) (0 : Int32) c rw_10 r (0 : Int64) (T10.heap) n0 f18 f19 g2 g14 ne13 hq10_5 hq10_2 hq10_3 hq10_1 hq10_6 (own_in c r n k (0 : Int32) hc hr hn hk (by decide) hc75_30 : ¬ ((0 : Int32) < c) → ¬ (((0 : Int32) - c) < 0) ∧ ((0 : Int32) - c) < r)) hZ wo31 wo3 (by decide) (by decide)) q35a q35c (g := (mkF m 82 #[iv p0_0, iv p0_1, iv p0_2, iv p0_3, iv c, iv r, iv n, iv k, rv b1, iv (1 : Int32)] [(.int (p0_3.toInt8.toInt32)), (.ref b1)])) rfl (by rw [hml]; rfl) (Steps.refl _) (argsL := [(.int (p0_3.toInt8.toInt32))]) (rest := []) (lenOf pd_3 rfl) rfl (by show 2 * 0 + _ ≤ _; exact Nat.le_of_eq rfl) (hb hby at_82) (fun _ _ => ⟨rfl, K17q, (by decide : 2 + 0 ≤ _), (by decide : 7 + 0 ≤ _)⟩)
      dsimp only [Pt.U, Pt.locs, Pt.cells, Pt.slots] at X35 l35 y35 z35 st35 hQ35
      subst l35 y35 z35
      obtain ⟨cx_35, rfl, N35q, K35q, hq35_0, hq35_1, hq35_2, hq35_3, hq35_4⟩ := hQ35
      have N36 := Fr.app N20 N35q
      have K37 : Keep h0 T35.heap [] := (K16).trans K35q (allS (P := fun x => x ∈ [] ∨ h0.size ≤ x) (Or.inr bz3) (allS (P := fun x => x ∈ [] ∨ h0.size ≤ x) (Or.inr bz15) all0))
      have f38 : Fld Z T35.heap b1 "com/example/unand/unand/model/AddressCycles" "taken" "I" (.int (1 : Int32)) := hq35_0
      have f40 := (Nat.le_trans f18 K35q.1)
      have f41 := (f19.keep K35q)
      obtain ⟨cq39, kq39, q39a, q39b, q39c⟩ := isOf hZ rfl f41
      obtain ⟨_, _, ⟨T39, L39, k39, n39⟩, -, X39, ⟨Lc39, hQ39, l39, y39, z39⟩, st39⟩ := X35.virtualBack hx (y := MN4) (z := MN4) hown (mvT hZ wo20) (mvT hZ wo21) (notFace_of_selects (args := #[]) (mvT hZ wo23)) (mvT hZ wo23) (mvT hZ wo22) (by decide) (backOf (W := 0) (rm4 l Z a0 hw [] b1 (1 : Int32) c rw_10 r (T35.heap) n0 f40 f38 hq35_1 hq35_2 hq35_3) hZ wo24 wo3 (by decide) (by decide)) q39a q39c (g := (mkF m 92 #[iv p0_0, iv p0_1, iv p0_2, iv p0_3, iv c, iv r, iv n, iv k, rv b1, iv (1 : Int32)] [(.ref b1)])) rfl (by rw [hml]; rfl) (Steps.refl _) (argsL := []) (rest := []) (lenOf pd_1 rfl) rfl (by show 2 * 0 + _ ≤ _; exact Nat.le_of_eq rfl) (hb hby at_92) (fun _ _ => ⟨rfl, rfl, (by decide : 2 + 0 ≤ _), (by decide : 7 + 0 ≤ _)⟩)
      dsimp only [Pt.U, Pt.locs, Pt.cells, Pt.slots] at X39 l39 y39 z39 st39 hQ39
      subst l39 y39 z39
      obtain ⟨rfl, N39q, K39q⟩ := hQ39
      have N42 := Fr.app N36 N39q
      have q43 : (c + r) = n := h_n.symm
      have pre45 : ∀ t, Steps p.tables e below (T39.setTop (mkF m 98 #[iv p0_0, iv p0_1, iv p0_2, iv p0_3, iv c, iv r, iv n, iv k, rv b1, iv (1 : Int32)] [(.int (1 : Int32)), (.int n), (.int (if (1 : Int32) = n then (1 : Int32) else (0 : Int32)))])) t → Steps p.tables e below (s₁.setTop (entryFrame m #[(.int p0_0), (.int p0_1), (.int p0_2), (.int p0_3)] maxLocals)) t := by
        intro t_ k_
        refine pre31 _ ?_
        show Steps p.tables e below (T17.setTop (mkF m 75 #[iv p0_0, iv p0_1, iv p0_2, iv p0_3, iv c, iv r, iv n, iv k, rv b1, iv (1 : Int32)] [(.int (1 : Int32)), (.int k)])) _
        refine XS.icmpNo X17.here hx rfl (hb hby at_75) rfl (flt hc75_30).1 ?_
        show Steps p.tables e below (T17.setTop (mkF m 78 #[iv p0_0, iv p0_1, iv p0_2, iv p0_3, iv c, iv r, iv n, iv k, rv b1, iv (1 : Int32)] [])) _
        refine XS.aload X17.here hx rfl (hb hby at_78) rfl rfl ?_
        show Steps p.tables e below (T17.setTop (mkF m 80 #[iv p0_0, iv p0_1, iv p0_2, iv p0_3, iv c, iv r, iv n, iv k, rv b1, iv (1 : Int32)] [(.ref b1)])) _
        refine XS.iloadN X17.here hx rfl (hb hby at_80) rfl ?_
        show Steps p.tables e below (T17.setTop (mkF m 81 #[iv p0_0, iv p0_1, iv p0_2, iv p0_3, iv c, iv r, iv n, iv k, rv b1, iv (1 : Int32)] [(.int p0_3), (.ref b1)])) _
        refine XS.i2b X17.here hx rfl (hb hby at_81) rfl ?_
        show Steps p.tables e below (T17.setTop (mkF m 82 #[iv p0_0, iv p0_1, iv p0_2, iv p0_3, iv c, iv r, iv n, iv k, rv b1, iv (1 : Int32)] [(.int (p0_3.toInt8.toInt32)), (.ref b1)])) _
        refine st35.trans ?_
        show Steps p.tables e below (T35.setTop (mkF m 85 #[iv p0_0, iv p0_1, iv p0_2, iv p0_3, iv c, iv r, iv n, iv k, rv b1, iv (1 : Int32)] [])) _
        refine XS.iload X35.here hx rfl (hb hby at_85) rfl ?_
        show Steps p.tables e below (T35.setTop (mkF m 87 #[iv p0_0, iv p0_1, iv p0_2, iv p0_3, iv c, iv r, iv n, iv k, rv b1, iv (1 : Int32)] [(.int (1 : Int32))])) _
        refine XS.ifNo X35.here hx rfl (hb hby at_87) rfl ((if0 _ _).trans (feq (by decide : ¬ ((1 : Int32) = (0 : Int32)))).1) ?_
        show Steps p.tables e below (T35.setTop (mkF m 90 #[iv p0_0, iv p0_1, iv p0_2, iv p0_3, iv c, iv r, iv n, iv k, rv b1, iv (1 : Int32)] [])) _
        refine XS.aload X35.here hx rfl (hb hby at_90) rfl rfl ?_
        show Steps p.tables e below (T35.setTop (mkF m 92 #[iv p0_0, iv p0_1, iv p0_2, iv p0_3, iv c, iv r, iv n, iv k, rv b1, iv (1 : Int32)] [(.ref b1)])) _
        refine st39.trans ?_
        rw [q43]
        show Steps p.tables e below (T39.setTop (mkF m 95 #[iv p0_0, iv p0_1, iv p0_2, iv p0_3, iv c, iv r, iv n, iv k, rv b1, iv (1 : Int32)] [(.int (if (1 : Int32) = n then (1 : Int32) else (0 : Int32)))])) _
        show Steps p.tables e below (T39.setTop (mkF m 95 #[iv p0_0, iv p0_1, iv p0_2, iv p0_3, iv c, iv r, iv n, iv k, rv b1, iv (1 : Int32)] [(.int (if (1 : Int32) = n then (1 : Int32) else (0 : Int32)))])) _
        refine XS.iload X39.here hx rfl (hb hby at_95) rfl ?_
        show Steps p.tables e below (T39.setTop (mkF m 97 #[iv p0_0, iv p0_1, iv p0_2, iv p0_3, iv c, iv r, iv n, iv k, rv b1, iv (1 : Int32)] [(.int n), (.int (if (1 : Int32) = n then (1 : Int32) else (0 : Int32)))])) _
        refine XS.iconst X39.here hx rfl (hb hby at_97) ?_
        exact k_
      by_cases hc98_44 : n = (1 : Int32)
      · skip
        have hc46 : (if (1 : Int32) = n then (1 : Int32) else (0 : Int32)) = (1 : Int32) := if_pos hc98_44.symm
        have hc47 : k < (2 : Int32) := own_kn k n _ _ hk.2 hc98_44 (by decide)
        have hc48 : k < (3 : Int32) := own_lt2 _ _ _ hc47 (by decide)
        have hc49 : k < (4 : Int32) := own_lt2 _ _ _ hc47 (by decide)
        obtain ⟨fs, hr, hrun, hended, hW, hsame⟩ := X39.leave (v := some (.int (1 : Int32))) (fun h => by rw [Bd.returns] at h; cases h)
        refine ⟨_, _, pre45 _ ?_, hrun, hended, _, _, rfl, ?_, ⟨_, rfl⟩, hW, hsame.mono (by decide) (by decide)⟩
        · show Steps p.tables e below (T39.setTop (mkF m 98 #[iv p0_0, iv p0_1, iv p0_2, iv p0_3, iv c, iv r, iv n, iv k, rv b1, iv (1 : Int32)] [(.int (1 : Int32)), (.int n), (.int (if (1 : Int32) = n then (1 : Int32) else (0 : Int32)))])) _
          refine XS.icmpNo X39.here hx rfl (hb hby at_98) rfl (teq hc98_44).2 ?_
          show Steps p.tables e below (T39.setTop (mkF m 101 #[iv p0_0, iv p0_1, iv p0_2, iv p0_3, iv c, iv r, iv n, iv k, rv b1, iv (1 : Int32)] [(.int (if (1 : Int32) = n then (1 : Int32) else (0 : Int32)))])) _
          refine XS.iconst X39.here hx rfl (hb hby at_101) ?_
          show Steps p.tables e below (T39.setTop (mkF m 102 #[iv p0_0, iv p0_1, iv p0_2, iv p0_3, iv c, iv r, iv n, iv k, rv b1, iv (1 : Int32)] [(.int (1 : Int32)), (.int (if (1 : Int32) = n then (1 : Int32) else (0 : Int32)))])) _
          refine XS.goto X39.here hx rfl (pc0 := 102) (pc' := 106) rfl (hb hby at_102) (by decide) (by decide) ?_
          show Steps p.tables e below (T39.setTop (mkF m 106 #[iv p0_0, iv p0_1, iv p0_2, iv p0_3, iv c, iv r, iv n, iv k, rv b1, iv (1 : Int32)] [(.int (1 : Int32)), (.int (if (1 : Int32) = n then (1 : Int32) else (0 : Int32)))])) _
          refine XS.icmpNo X39.here hx rfl (hb hby at_106) rfl (teq hc46).2 ?_
          show Steps p.tables e below (T39.setTop (mkF m 109 #[iv p0_0, iv p0_1, iv p0_2, iv p0_3, iv c, iv r, iv n, iv k, rv b1, iv (1 : Int32)] [])) _
          refine XS.iconst X39.here hx rfl (hb hby at_109) ?_
          show Steps p.tables e below (T39.setTop (mkF m 110 #[iv p0_0, iv p0_1, iv p0_2, iv p0_3, iv c, iv r, iv n, iv k, rv b1, iv (1 : Int32)] [(.int (1 : Int32))])) _
          refine XS.goto X39.here hx rfl (pc0 := 110) (pc' := 114) rfl (hb hby at_110) (by decide) (by decide) ?_
          show Steps p.tables e below (T39.setTop (mkF m 114 #[iv p0_0, iv p0_1, iv p0_2, iv p0_3, iv c, iv r, iv n, iv k, rv b1, iv (1 : Int32)] [(.int (1 : Int32))])) _
          refine XS.istore X39.here hx rfl (hb hby at_114) rfl (l' := #[iv p0_0, iv p0_1, iv p0_2, iv p0_3, iv c, iv r, iv n, iv k, rv b1, iv (1 : Int32)]) rfl ?_
          show Steps p.tables e below (T39.setTop (mkF m 116 #[iv p0_0, iv p0_1, iv p0_2, iv p0_3, iv c, iv r, iv n, iv k, rv b1, iv (1 : Int32)] [])) _
          refine XS.iload X39.here hx rfl (hb hby at_116) rfl ?_
          show Steps p.tables e below (T39.setTop (mkF m 118 #[iv p0_0, iv p0_1, iv p0_2, iv p0_3, iv c, iv r, iv n, iv k, rv b1, iv (1 : Int32)] [(.int k)])) _
          refine XS.iconst X39.here hx rfl (hb hby at_118) ?_
          show Steps p.tables e below (T39.setTop (mkF m 119 #[iv p0_0, iv p0_1, iv p0_2, iv p0_3, iv c, iv r, iv n, iv k, rv b1, iv (1 : Int32)] [(.int (2 : Int32)), (.int k)])) _
          refine XS.icmpYes X39.here hx rfl (pc0 := 119) (pc' := 163) rfl (hb hby at_119) rfl (tlt hc47).1 (by decide) (by decide) ?_
          show Steps p.tables e below (T39.setTop (mkF m 163 #[iv p0_0, iv p0_1, iv p0_2, iv p0_3, iv c, iv r, iv n, iv k, rv b1, iv (1 : Int32)] [])) _
          refine XS.iload X39.here hx rfl (hb hby at_163) rfl ?_
          show Steps p.tables e below (T39.setTop (mkF m 165 #[iv p0_0, iv p0_1, iv p0_2, iv p0_3, iv c, iv r, iv n, iv k, rv b1, iv (1 : Int32)] [(.int k)])) _
          refine XS.iconst X39.here hx rfl (hb hby at_165) ?_
          show Steps p.tables e below (T39.setTop (mkF m 166 #[iv p0_0, iv p0_1, iv p0_2, iv p0_3, iv c, iv r, iv n, iv k, rv b1, iv (1 : Int32)] [(.int (3 : Int32)), (.int k)])) _
          refine XS.icmpYes X39.here hx rfl (pc0 := 166) (pc' := 210) rfl (hb hby at_166) rfl (tlt hc48).1 (by decide) (by decide) ?_
          show Steps p.tables e below (T39.setTop (mkF m 210 #[iv p0_0, iv p0_1, iv p0_2, iv p0_3, iv c, iv r, iv n, iv k, rv b1, iv (1 : Int32)] [])) _
          refine XS.iload X39.here hx rfl (hb hby at_210) rfl ?_
          show Steps p.tables e below (T39.setTop (mkF m 212 #[iv p0_0, iv p0_1, iv p0_2, iv p0_3, iv c, iv r, iv n, iv k, rv b1, iv (1 : Int32)] [(.int k)])) _
          refine XS.iconst X39.here hx rfl (hb hby at_212) ?_
          show Steps p.tables e below (T39.setTop (mkF m 213 #[iv p0_0, iv p0_1, iv p0_2, iv p0_3, iv c, iv r, iv n, iv k, rv b1, iv (1 : Int32)] [(.int (4 : Int32)), (.int k)])) _
          refine XS.icmpYes X39.here hx rfl (pc0 := 213) (pc' := 257) rfl (hb hby at_213) rfl (tlt hc49).1 (by decide) (by decide) ?_
          show Steps p.tables e below (T39.setTop (mkF m 257 #[iv p0_0, iv p0_1, iv p0_2, iv p0_3, iv c, iv r, iv n, iv k, rv b1, iv (1 : Int32)] [])) _
          refine XS.iload X39.here hx rfl (hb hby at_257) rfl ?_
          show Steps p.tables e below (T39.setTop (mkF m 259 #[iv p0_0, iv p0_1, iv p0_2, iv p0_3, iv c, iv r, iv n, iv k, rv b1, iv (1 : Int32)] [(.int (1 : Int32))])) _
          exact retN X39 hx (t := .boolean) Bd.returns (by simp) (hb hby at_259) hr
        · show Q_rm0 Z _ _ _ _ h0 n0 _ T39.heap _
          rw [K39q]
          exact ⟨rfl, N42, (K37)⟩
      · skip
        have hc50 : (if (1 : Int32) = n then (1 : Int32) else (0 : Int32)) = (0 : Int32) := if_neg (Ne.symm hc98_44)
        have pre52 : ∀ t, Steps p.tables e below (T39.setTop (mkF m 119 #[iv p0_0, iv p0_1, iv p0_2, iv p0_3, iv c, iv r, iv n, iv k, rv b1, iv (1 : Int32)] [(.int (2 : Int32)), (.int k)])) t → Steps p.tables e below (s₁.setTop (entryFrame m #[(.int p0_0), (.int p0_1), (.int p0_2), (.int p0_3)] maxLocals)) t := by
          intro t_ k_
          refine pre45 _ ?_
          show Steps p.tables e below (T39.setTop (mkF m 98 #[iv p0_0, iv p0_1, iv p0_2, iv p0_3, iv c, iv r, iv n, iv k, rv b1, iv (1 : Int32)] [(.int (1 : Int32)), (.int n), (.int (if (1 : Int32) = n then (1 : Int32) else (0 : Int32)))])) _
          refine XS.icmpYes X39.here hx rfl (pc0 := 98) (pc' := 105) rfl (hb hby at_98) rfl (feq hc98_44).2 (by decide) (by decide) ?_
          show Steps p.tables e below (T39.setTop (mkF m 105 #[iv p0_0, iv p0_1, iv p0_2, iv p0_3, iv c, iv r, iv n, iv k, rv b1, iv (1 : Int32)] [(.int (if (1 : Int32) = n then (1 : Int32) else (0 : Int32)))])) _
          refine XS.iconst X39.here hx rfl (hb hby at_105) ?_
          show Steps p.tables e below (T39.setTop (mkF m 106 #[iv p0_0, iv p0_1, iv p0_2, iv p0_3, iv c, iv r, iv n, iv k, rv b1, iv (1 : Int32)] [(.int (0 : Int32)), (.int (if (1 : Int32) = n then (1 : Int32) else (0 : Int32)))])) _
          refine XS.icmpNo X39.here hx rfl (hb hby at_106) rfl (teq hc50).2 ?_
          show Steps p.tables e below (T39.setTop (mkF m 109 #[iv p0_0, iv p0_1, iv p0_2, iv p0_3, iv c, iv r, iv n, iv k, rv b1, iv (1 : Int32)] [])) _
          refine XS.iconst X39.here hx rfl (hb hby at_109) ?_
          show Steps p.tables e below (T39.setTop (mkF m 110 #[iv p0_0, iv p0_1, iv p0_2, iv p0_3, iv c, iv r, iv n, iv k, rv b1, iv (1 : Int32)] [(.int (1 : Int32))])) _
          refine XS.goto X39.here hx rfl (pc0 := 110) (pc' := 114) rfl (hb hby at_110) (by decide) (by decide) ?_
          show Steps p.tables e below (T39.setTop (mkF m 114 #[iv p0_0, iv p0_1, iv p0_2, iv p0_3, iv c, iv r, iv n, iv k, rv b1, iv (1 : Int32)] [(.int (1 : Int32))])) _
          refine XS.istore X39.here hx rfl (hb hby at_114) rfl (l' := #[iv p0_0, iv p0_1, iv p0_2, iv p0_3, iv c, iv r, iv n, iv k, rv b1, iv (1 : Int32)]) rfl ?_
          show Steps p.tables e below (T39.setTop (mkF m 116 #[iv p0_0, iv p0_1, iv p0_2, iv p0_3, iv c, iv r, iv n, iv k, rv b1, iv (1 : Int32)] [])) _
          refine XS.iload X39.here hx rfl (hb hby at_116) rfl ?_
          show Steps p.tables e below (T39.setTop (mkF m 118 #[iv p0_0, iv p0_1, iv p0_2, iv p0_3, iv c, iv r, iv n, iv k, rv b1, iv (1 : Int32)] [(.int k)])) _
          refine XS.iconst X39.here hx rfl (hb hby at_118) ?_
          exact k_
        by_cases hc119_51 : k < (2 : Int32)
        · skip
          have hc53 : k < (3 : Int32) := own_lt2 _ _ _ hc119_51 (by decide)
          have hc54 : k < (4 : Int32) := own_lt2 _ _ _ hc119_51 (by decide)
          obtain ⟨fs, hr, hrun, hended, hW, hsame⟩ := X39.leave (v := some (.int (1 : Int32))) (fun h => by rw [Bd.returns] at h; cases h)
          refine ⟨_, _, pre52 _ ?_, hrun, hended, _, _, rfl, ?_, ⟨_, rfl⟩, hW, hsame.mono (by decide) (by decide)⟩
          · show Steps p.tables e below (T39.setTop (mkF m 119 #[iv p0_0, iv p0_1, iv p0_2, iv p0_3, iv c, iv r, iv n, iv k, rv b1, iv (1 : Int32)] [(.int (2 : Int32)), (.int k)])) _
            refine XS.icmpYes X39.here hx rfl (pc0 := 119) (pc' := 163) rfl (hb hby at_119) rfl (tlt hc119_51).1 (by decide) (by decide) ?_
            show Steps p.tables e below (T39.setTop (mkF m 163 #[iv p0_0, iv p0_1, iv p0_2, iv p0_3, iv c, iv r, iv n, iv k, rv b1, iv (1 : Int32)] [])) _
            refine XS.iload X39.here hx rfl (hb hby at_163) rfl ?_
            show Steps p.tables e below (T39.setTop (mkF m 165 #[iv p0_0, iv p0_1, iv p0_2, iv p0_3, iv c, iv r, iv n, iv k, rv b1, iv (1 : Int32)] [(.int k)])) _
            refine XS.iconst X39.here hx rfl (hb hby at_165) ?_
            show Steps p.tables e below (T39.setTop (mkF m 166 #[iv p0_0, iv p0_1, iv p0_2, iv p0_3, iv c, iv r, iv n, iv k, rv b1, iv (1 : Int32)] [(.int (3 : Int32)), (.int k)])) _
            refine XS.icmpYes X39.here hx rfl (pc0 := 166) (pc' := 210) rfl (hb hby at_166) rfl (tlt hc53).1 (by decide) (by decide) ?_
            show Steps p.tables e below (T39.setTop (mkF m 210 #[iv p0_0, iv p0_1, iv p0_2, iv p0_3, iv c, iv r, iv n, iv k, rv b1, iv (1 : Int32)] [])) _
            refine XS.iload X39.here hx rfl (hb hby at_210) rfl ?_
            show Steps p.tables e below (T39.setTop (mkF m 212 #[iv p0_0, iv p0_1, iv p0_2, iv p0_3, iv c, iv r, iv n, iv k, rv b1, iv (1 : Int32)] [(.int k)])) _
            refine XS.iconst X39.here hx rfl (hb hby at_212) ?_
            show Steps p.tables e below (T39.setTop (mkF m 213 #[iv p0_0, iv p0_1, iv p0_2, iv p0_3, iv c, iv r, iv n, iv k, rv b1, iv (1 : Int32)] [(.int (4 : Int32)), (.int k)])) _
            refine XS.icmpYes X39.here hx rfl (pc0 := 213) (pc' := 257) rfl (hb hby at_213) rfl (tlt hc54).1 (by decide) (by decide) ?_
            show Steps p.tables e below (T39.setTop (mkF m 257 #[iv p0_0, iv p0_1, iv p0_2, iv p0_3, iv c, iv r, iv n, iv k, rv b1, iv (1 : Int32)] [])) _
            refine XS.iload X39.here hx rfl (hb hby at_257) rfl ?_
            show Steps p.tables e below (T39.setTop (mkF m 259 #[iv p0_0, iv p0_1, iv p0_2, iv p0_3, iv c, iv r, iv n, iv k, rv b1, iv (1 : Int32)] [(.int (1 : Int32))])) _
            exact retN X39 hx (t := .boolean) Bd.returns (by simp) (hb hby at_259) hr
          · show Q_rm0 Z _ _ _ _ h0 n0 _ T39.heap _
            rw [K39q]
            exact ⟨rfl, N42, (K37)⟩
        · skip
          obtain ⟨cq55, kq55, q55a, q55b, q55c⟩ := isOf hZ K39q f41
          obtain ⟨_, _, ⟨T55, L55, k55, n55⟩, -, X55, ⟨Lc55, hQ55, l55, y55, z55⟩, st55⟩ := X39.virtualBack hx (y := MN5) (z := MN5) hown (mvT hZ wo27) (mvT hZ wo28) (notFace_of_selects (args := #[]) (mvT hZ wo30)) (mvT hZ wo30) (mvT hZ wo29) (by decide) (backOf (W := 0) (rm_take l Z a0 hw [] b1 (((p0_3.toUInt32 >>> ((8 : Int32) &&& 31).toUInt32).toInt32).toInt8.toInt32) (1 : Int32) c rw_10 r cx_35 (T35.heap) n0 f40 f41 g2 g14 ne13 f38 hq35_1 hq35_2 hq35_3 hq35_4 (own_in c r n k (1 : Int32) hc hr hn hk (by decide) hc119_51 : ¬ ((1 : Int32) < c) → ¬ (((1 : Int32) - c) < 0) ∧ ((1 : Int32) - c) < r)) hZ wo31 wo3 (by decide) (by decide)) q55a q55c (g := (mkF m 129 #[iv p0_0, iv p0_1, iv p0_2, iv p0_3, iv c, iv r, iv n, iv k, rv b1, iv (1 : Int32)] [(.int (((p0_3.toUInt32 >>> ((8 : Int32) &&& 31).toUInt32).toInt32).toInt8.toInt32)), (.ref b1)])) rfl (by rw [hml]; rfl) (Steps.refl _) (argsL := [(.int (((p0_3.toUInt32 >>> ((8 : Int32) &&& 31).toUInt32).toInt32).toInt8.toInt32))]) (rest := []) (lenOf pd_3 rfl) rfl (by show 2 * 0 + _ ≤ _; exact Nat.le_of_eq rfl) (hb hby at_129) (fun _ _ => ⟨rfl, K39q, (by decide : 2 + 0 ≤ _), (by decide : 7 + 0 ≤ _)⟩)
          dsimp only [Pt.U, Pt.locs, Pt.cells, Pt.slots] at X55 l55 y55 z55 st55 hQ55
          subst l55 y55 z55
          obtain ⟨cx_55, rfl, N55q, K55q, hq55_0, hq55_1, hq55_2, hq55_3, hq55_4⟩ := hQ55
          have N56 := Fr.app N42 N55q
          have K57 : Keep h0 T55.heap [] := (K37).trans K55q (allS (P := fun x => x ∈ [] ∨ h0.size ≤ x) (Or.inr bz3) (allS (P := fun x => x ∈ [] ∨ h0.size ≤ x) (Or.inr bz15) all0))
          have f58 : Fld Z T55.heap b1 "com/example/unand/unand/model/AddressCycles" "taken" "I" (.int (2 : Int32)) := hq55_0
          have f60 := (Nat.le_trans f40 K55q.1)
          have f61 := (f41.keep K55q)
          obtain ⟨cq59, kq59, q59a, q59b, q59c⟩ := isOf hZ rfl f61
          obtain ⟨_, _, ⟨T59, L59, k59, n59⟩, -, X59, ⟨Lc59, hQ59, l59, y59, z59⟩, st59⟩ := X55.virtualBack hx (y := MN4) (z := MN4) hown (mvT hZ wo20) (mvT hZ wo21) (notFace_of_selects (args := #[]) (mvT hZ wo23)) (mvT hZ wo23) (mvT hZ wo22) (by decide) (backOf (W := 0) (rm4 l Z a0 hw [] b1 (2 : Int32) c rw_10 r (T55.heap) n0 f60 f58 hq55_1 hq55_2 hq55_3) hZ wo24 wo3 (by decide) (by decide)) q59a q59c (g := (mkF m 139 #[iv p0_0, iv p0_1, iv p0_2, iv p0_3, iv c, iv r, iv n, iv k, rv b1, iv (1 : Int32)] [(.ref b1)])) rfl (by rw [hml]; rfl) (Steps.refl _) (argsL := []) (rest := []) (lenOf pd_1 rfl) rfl (by show 2 * 0 + _ ≤ _; exact Nat.le_of_eq rfl) (hb hby at_139) (fun _ _ => ⟨rfl, rfl, (by decide : 2 + 0 ≤ _), (by decide : 7 + 0 ≤ _)⟩)
          dsimp only [Pt.U, Pt.locs, Pt.cells, Pt.slots] at X59 l59 y59 z59 st59 hQ59
          subst l59 y59 z59
          obtain ⟨rfl, N59q, K59q⟩ := hQ59
          have N62 := Fr.app N56 N59q
          have q63 : (c + r) = n := h_n.symm
          have pre65 : ∀ t, Steps p.tables e below (T59.setTop (mkF m 145 #[iv p0_0, iv p0_1, iv p0_2, iv p0_3, iv c, iv r, iv n, iv k, rv b1, iv (1 : Int32)] [(.int (2 : Int32)), (.int n), (.int (if (2 : Int32) = n then (1 : Int32) else (0 : Int32)))])) t → Steps p.tables e below (s₁.setTop (entryFrame m #[(.int p0_0), (.int p0_1), (.int p0_2), (.int p0_3)] maxLocals)) t := by
            intro t_ k_
            refine pre52 _ ?_
            show Steps p.tables e below (T39.setTop (mkF m 119 #[iv p0_0, iv p0_1, iv p0_2, iv p0_3, iv c, iv r, iv n, iv k, rv b1, iv (1 : Int32)] [(.int (2 : Int32)), (.int k)])) _
            refine XS.icmpNo X39.here hx rfl (hb hby at_119) rfl (flt hc119_51).1 ?_
            show Steps p.tables e below (T39.setTop (mkF m 122 #[iv p0_0, iv p0_1, iv p0_2, iv p0_3, iv c, iv r, iv n, iv k, rv b1, iv (1 : Int32)] [])) _
            refine XS.aload X39.here hx rfl (hb hby at_122) rfl rfl ?_
            show Steps p.tables e below (T39.setTop (mkF m 124 #[iv p0_0, iv p0_1, iv p0_2, iv p0_3, iv c, iv r, iv n, iv k, rv b1, iv (1 : Int32)] [(.ref b1)])) _
            refine XS.iloadN X39.here hx rfl (hb hby at_124) rfl ?_
            show Steps p.tables e below (T39.setTop (mkF m 125 #[iv p0_0, iv p0_1, iv p0_2, iv p0_3, iv c, iv r, iv n, iv k, rv b1, iv (1 : Int32)] [(.int p0_3), (.ref b1)])) _
            refine XS.bipush X39.here hx rfl (hb hby at_125) ?_
            show Steps p.tables e below (T39.setTop (mkF m 127 #[iv p0_0, iv p0_1, iv p0_2, iv p0_3, iv c, iv r, iv n, iv k, rv b1, iv (1 : Int32)] [(.int (8 : Int32)), (.int p0_3), (.ref b1)])) _
            refine XS.iushr X39.here hx rfl (hb hby at_127) rfl ?_
            show Steps p.tables e below (T39.setTop (mkF m 128 #[iv p0_0, iv p0_1, iv p0_2, iv p0_3, iv c, iv r, iv n, iv k, rv b1, iv (1 : Int32)] [(.int ((p0_3.toUInt32 >>> ((8 : Int32) &&& 31).toUInt32).toInt32)), (.ref b1)])) _
            refine XS.i2b X39.here hx rfl (hb hby at_128) rfl ?_
            show Steps p.tables e below (T39.setTop (mkF m 129 #[iv p0_0, iv p0_1, iv p0_2, iv p0_3, iv c, iv r, iv n, iv k, rv b1, iv (1 : Int32)] [(.int (((p0_3.toUInt32 >>> ((8 : Int32) &&& 31).toUInt32).toInt32).toInt8.toInt32)), (.ref b1)])) _
            refine st55.trans ?_
            show Steps p.tables e below (T55.setTop (mkF m 132 #[iv p0_0, iv p0_1, iv p0_2, iv p0_3, iv c, iv r, iv n, iv k, rv b1, iv (1 : Int32)] [])) _
            refine XS.iload X55.here hx rfl (hb hby at_132) rfl ?_
            show Steps p.tables e below (T55.setTop (mkF m 134 #[iv p0_0, iv p0_1, iv p0_2, iv p0_3, iv c, iv r, iv n, iv k, rv b1, iv (1 : Int32)] [(.int (1 : Int32))])) _
            refine XS.ifNo X55.here hx rfl (hb hby at_134) rfl ((if0 _ _).trans (feq (by decide : ¬ ((1 : Int32) = (0 : Int32)))).1) ?_
            show Steps p.tables e below (T55.setTop (mkF m 137 #[iv p0_0, iv p0_1, iv p0_2, iv p0_3, iv c, iv r, iv n, iv k, rv b1, iv (1 : Int32)] [])) _
            refine XS.aload X55.here hx rfl (hb hby at_137) rfl rfl ?_
            show Steps p.tables e below (T55.setTop (mkF m 139 #[iv p0_0, iv p0_1, iv p0_2, iv p0_3, iv c, iv r, iv n, iv k, rv b1, iv (1 : Int32)] [(.ref b1)])) _
            refine st59.trans ?_
            rw [q63]
            show Steps p.tables e below (T59.setTop (mkF m 142 #[iv p0_0, iv p0_1, iv p0_2, iv p0_3, iv c, iv r, iv n, iv k, rv b1, iv (1 : Int32)] [(.int (if (2 : Int32) = n then (1 : Int32) else (0 : Int32)))])) _
            show Steps p.tables e below (T59.setTop (mkF m 142 #[iv p0_0, iv p0_1, iv p0_2, iv p0_3, iv c, iv r, iv n, iv k, rv b1, iv (1 : Int32)] [(.int (if (2 : Int32) = n then (1 : Int32) else (0 : Int32)))])) _
            refine XS.iload X59.here hx rfl (hb hby at_142) rfl ?_
            show Steps p.tables e below (T59.setTop (mkF m 144 #[iv p0_0, iv p0_1, iv p0_2, iv p0_3, iv c, iv r, iv n, iv k, rv b1, iv (1 : Int32)] [(.int n), (.int (if (2 : Int32) = n then (1 : Int32) else (0 : Int32)))])) _
            refine XS.iconst X59.here hx rfl (hb hby at_144) ?_
            exact k_
          by_cases hc145_64 : n = (2 : Int32)
          · skip
            have hc66 : (if (2 : Int32) = n then (1 : Int32) else (0 : Int32)) = (1 : Int32) := if_pos hc145_64.symm
            have hc67 : k < (3 : Int32) := own_kn k n _ _ hk.2 hc145_64 (by decide)
            have hc68 : k < (4 : Int32) := own_lt2 _ _ _ hc67 (by decide)
            obtain ⟨fs, hr, hrun, hended, hW, hsame⟩ := X59.leave (v := some (.int (1 : Int32))) (fun h => by rw [Bd.returns] at h; cases h)
            refine ⟨_, _, pre65 _ ?_, hrun, hended, _, _, rfl, ?_, ⟨_, rfl⟩, hW, hsame.mono (by decide) (by decide)⟩
            · show Steps p.tables e below (T59.setTop (mkF m 145 #[iv p0_0, iv p0_1, iv p0_2, iv p0_3, iv c, iv r, iv n, iv k, rv b1, iv (1 : Int32)] [(.int (2 : Int32)), (.int n), (.int (if (2 : Int32) = n then (1 : Int32) else (0 : Int32)))])) _
              refine XS.icmpNo X59.here hx rfl (hb hby at_145) rfl (teq hc145_64).2 ?_
              show Steps p.tables e below (T59.setTop (mkF m 148 #[iv p0_0, iv p0_1, iv p0_2, iv p0_3, iv c, iv r, iv n, iv k, rv b1, iv (1 : Int32)] [(.int (if (2 : Int32) = n then (1 : Int32) else (0 : Int32)))])) _
              refine XS.iconst X59.here hx rfl (hb hby at_148) ?_
              show Steps p.tables e below (T59.setTop (mkF m 149 #[iv p0_0, iv p0_1, iv p0_2, iv p0_3, iv c, iv r, iv n, iv k, rv b1, iv (1 : Int32)] [(.int (1 : Int32)), (.int (if (2 : Int32) = n then (1 : Int32) else (0 : Int32)))])) _
              refine XS.goto X59.here hx rfl (pc0 := 149) (pc' := 153) rfl (hb hby at_149) (by decide) (by decide) ?_
              show Steps p.tables e below (T59.setTop (mkF m 153 #[iv p0_0, iv p0_1, iv p0_2, iv p0_3, iv c, iv r, iv n, iv k, rv b1, iv (1 : Int32)] [(.int (1 : Int32)), (.int (if (2 : Int32) = n then (1 : Int32) else (0 : Int32)))])) _
              refine XS.icmpNo X59.here hx rfl (hb hby at_153) rfl (teq hc66).2 ?_
              show Steps p.tables e below (T59.setTop (mkF m 156 #[iv p0_0, iv p0_1, iv p0_2, iv p0_3, iv c, iv r, iv n, iv k, rv b1, iv (1 : Int32)] [])) _
              refine XS.iconst X59.here hx rfl (hb hby at_156) ?_
              show Steps p.tables e below (T59.setTop (mkF m 157 #[iv p0_0, iv p0_1, iv p0_2, iv p0_3, iv c, iv r, iv n, iv k, rv b1, iv (1 : Int32)] [(.int (1 : Int32))])) _
              refine XS.goto X59.here hx rfl (pc0 := 157) (pc' := 161) rfl (hb hby at_157) (by decide) (by decide) ?_
              show Steps p.tables e below (T59.setTop (mkF m 161 #[iv p0_0, iv p0_1, iv p0_2, iv p0_3, iv c, iv r, iv n, iv k, rv b1, iv (1 : Int32)] [(.int (1 : Int32))])) _
              refine XS.istore X59.here hx rfl (hb hby at_161) rfl (l' := #[iv p0_0, iv p0_1, iv p0_2, iv p0_3, iv c, iv r, iv n, iv k, rv b1, iv (1 : Int32)]) rfl ?_
              show Steps p.tables e below (T59.setTop (mkF m 163 #[iv p0_0, iv p0_1, iv p0_2, iv p0_3, iv c, iv r, iv n, iv k, rv b1, iv (1 : Int32)] [])) _
              refine XS.iload X59.here hx rfl (hb hby at_163) rfl ?_
              show Steps p.tables e below (T59.setTop (mkF m 165 #[iv p0_0, iv p0_1, iv p0_2, iv p0_3, iv c, iv r, iv n, iv k, rv b1, iv (1 : Int32)] [(.int k)])) _
              refine XS.iconst X59.here hx rfl (hb hby at_165) ?_
              show Steps p.tables e below (T59.setTop (mkF m 166 #[iv p0_0, iv p0_1, iv p0_2, iv p0_3, iv c, iv r, iv n, iv k, rv b1, iv (1 : Int32)] [(.int (3 : Int32)), (.int k)])) _
              refine XS.icmpYes X59.here hx rfl (pc0 := 166) (pc' := 210) rfl (hb hby at_166) rfl (tlt hc67).1 (by decide) (by decide) ?_
              show Steps p.tables e below (T59.setTop (mkF m 210 #[iv p0_0, iv p0_1, iv p0_2, iv p0_3, iv c, iv r, iv n, iv k, rv b1, iv (1 : Int32)] [])) _
              refine XS.iload X59.here hx rfl (hb hby at_210) rfl ?_
              show Steps p.tables e below (T59.setTop (mkF m 212 #[iv p0_0, iv p0_1, iv p0_2, iv p0_3, iv c, iv r, iv n, iv k, rv b1, iv (1 : Int32)] [(.int k)])) _
              refine XS.iconst X59.here hx rfl (hb hby at_212) ?_
              show Steps p.tables e below (T59.setTop (mkF m 213 #[iv p0_0, iv p0_1, iv p0_2, iv p0_3, iv c, iv r, iv n, iv k, rv b1, iv (1 : Int32)] [(.int (4 : Int32)), (.int k)])) _
              refine XS.icmpYes X59.here hx rfl (pc0 := 213) (pc' := 257) rfl (hb hby at_213) rfl (tlt hc68).1 (by decide) (by decide) ?_
              show Steps p.tables e below (T59.setTop (mkF m 257 #[iv p0_0, iv p0_1, iv p0_2, iv p0_3, iv c, iv r, iv n, iv k, rv b1, iv (1 : Int32)] [])) _
              refine XS.iload X59.here hx rfl (hb hby at_257) rfl ?_
              show Steps p.tables e below (T59.setTop (mkF m 259 #[iv p0_0, iv p0_1, iv p0_2, iv p0_3, iv c, iv r, iv n, iv k, rv b1, iv (1 : Int32)] [(.int (1 : Int32))])) _
              exact retN X59 hx (t := .boolean) Bd.returns (by simp) (hb hby at_259) hr
            · show Q_rm0 Z _ _ _ _ h0 n0 _ T59.heap _
              rw [K59q]
              exact ⟨rfl, N62, (K57)⟩
          · skip
            have hc69 : (if (2 : Int32) = n then (1 : Int32) else (0 : Int32)) = (0 : Int32) := if_neg (Ne.symm hc145_64)
            have pre71 : ∀ t, Steps p.tables e below (T59.setTop (mkF m 166 #[iv p0_0, iv p0_1, iv p0_2, iv p0_3, iv c, iv r, iv n, iv k, rv b1, iv (1 : Int32)] [(.int (3 : Int32)), (.int k)])) t → Steps p.tables e below (s₁.setTop (entryFrame m #[(.int p0_0), (.int p0_1), (.int p0_2), (.int p0_3)] maxLocals)) t := by
              intro t_ k_
              refine pre65 _ ?_
              show Steps p.tables e below (T59.setTop (mkF m 145 #[iv p0_0, iv p0_1, iv p0_2, iv p0_3, iv c, iv r, iv n, iv k, rv b1, iv (1 : Int32)] [(.int (2 : Int32)), (.int n), (.int (if (2 : Int32) = n then (1 : Int32) else (0 : Int32)))])) _
              refine XS.icmpYes X59.here hx rfl (pc0 := 145) (pc' := 152) rfl (hb hby at_145) rfl (feq hc145_64).2 (by decide) (by decide) ?_
              show Steps p.tables e below (T59.setTop (mkF m 152 #[iv p0_0, iv p0_1, iv p0_2, iv p0_3, iv c, iv r, iv n, iv k, rv b1, iv (1 : Int32)] [(.int (if (2 : Int32) = n then (1 : Int32) else (0 : Int32)))])) _
              refine XS.iconst X59.here hx rfl (hb hby at_152) ?_
              show Steps p.tables e below (T59.setTop (mkF m 153 #[iv p0_0, iv p0_1, iv p0_2, iv p0_3, iv c, iv r, iv n, iv k, rv b1, iv (1 : Int32)] [(.int (0 : Int32)), (.int (if (2 : Int32) = n then (1 : Int32) else (0 : Int32)))])) _
              refine XS.icmpNo X59.here hx rfl (hb hby at_153) rfl (teq hc69).2 ?_
              show Steps p.tables e below (T59.setTop (mkF m 156 #[iv p0_0, iv p0_1, iv p0_2, iv p0_3, iv c, iv r, iv n, iv k, rv b1, iv (1 : Int32)] [])) _
              refine XS.iconst X59.here hx rfl (hb hby at_156) ?_
              show Steps p.tables e below (T59.setTop (mkF m 157 #[iv p0_0, iv p0_1, iv p0_2, iv p0_3, iv c, iv r, iv n, iv k, rv b1, iv (1 : Int32)] [(.int (1 : Int32))])) _
              refine XS.goto X59.here hx rfl (pc0 := 157) (pc' := 161) rfl (hb hby at_157) (by decide) (by decide) ?_
              show Steps p.tables e below (T59.setTop (mkF m 161 #[iv p0_0, iv p0_1, iv p0_2, iv p0_3, iv c, iv r, iv n, iv k, rv b1, iv (1 : Int32)] [(.int (1 : Int32))])) _
              refine XS.istore X59.here hx rfl (hb hby at_161) rfl (l' := #[iv p0_0, iv p0_1, iv p0_2, iv p0_3, iv c, iv r, iv n, iv k, rv b1, iv (1 : Int32)]) rfl ?_
              show Steps p.tables e below (T59.setTop (mkF m 163 #[iv p0_0, iv p0_1, iv p0_2, iv p0_3, iv c, iv r, iv n, iv k, rv b1, iv (1 : Int32)] [])) _
              refine XS.iload X59.here hx rfl (hb hby at_163) rfl ?_
              show Steps p.tables e below (T59.setTop (mkF m 165 #[iv p0_0, iv p0_1, iv p0_2, iv p0_3, iv c, iv r, iv n, iv k, rv b1, iv (1 : Int32)] [(.int k)])) _
              refine XS.iconst X59.here hx rfl (hb hby at_165) ?_
              exact k_
            by_cases hc166_70 : k < (3 : Int32)
            · skip
              have hc72 : k < (4 : Int32) := own_lt2 _ _ _ hc166_70 (by decide)
              obtain ⟨fs, hr, hrun, hended, hW, hsame⟩ := X59.leave (v := some (.int (1 : Int32))) (fun h => by rw [Bd.returns] at h; cases h)
              refine ⟨_, _, pre71 _ ?_, hrun, hended, _, _, rfl, ?_, ⟨_, rfl⟩, hW, hsame.mono (by decide) (by decide)⟩
              · show Steps p.tables e below (T59.setTop (mkF m 166 #[iv p0_0, iv p0_1, iv p0_2, iv p0_3, iv c, iv r, iv n, iv k, rv b1, iv (1 : Int32)] [(.int (3 : Int32)), (.int k)])) _
                refine XS.icmpYes X59.here hx rfl (pc0 := 166) (pc' := 210) rfl (hb hby at_166) rfl (tlt hc166_70).1 (by decide) (by decide) ?_
                show Steps p.tables e below (T59.setTop (mkF m 210 #[iv p0_0, iv p0_1, iv p0_2, iv p0_3, iv c, iv r, iv n, iv k, rv b1, iv (1 : Int32)] [])) _
                refine XS.iload X59.here hx rfl (hb hby at_210) rfl ?_
                show Steps p.tables e below (T59.setTop (mkF m 212 #[iv p0_0, iv p0_1, iv p0_2, iv p0_3, iv c, iv r, iv n, iv k, rv b1, iv (1 : Int32)] [(.int k)])) _
                refine XS.iconst X59.here hx rfl (hb hby at_212) ?_
                show Steps p.tables e below (T59.setTop (mkF m 213 #[iv p0_0, iv p0_1, iv p0_2, iv p0_3, iv c, iv r, iv n, iv k, rv b1, iv (1 : Int32)] [(.int (4 : Int32)), (.int k)])) _
                refine XS.icmpYes X59.here hx rfl (pc0 := 213) (pc' := 257) rfl (hb hby at_213) rfl (tlt hc72).1 (by decide) (by decide) ?_
                show Steps p.tables e below (T59.setTop (mkF m 257 #[iv p0_0, iv p0_1, iv p0_2, iv p0_3, iv c, iv r, iv n, iv k, rv b1, iv (1 : Int32)] [])) _
                refine XS.iload X59.here hx rfl (hb hby at_257) rfl ?_
                show Steps p.tables e below (T59.setTop (mkF m 259 #[iv p0_0, iv p0_1, iv p0_2, iv p0_3, iv c, iv r, iv n, iv k, rv b1, iv (1 : Int32)] [(.int (1 : Int32))])) _
                exact retN X59 hx (t := .boolean) Bd.returns (by simp) (hb hby at_259) hr
              · show Q_rm0 Z _ _ _ _ h0 n0 _ T59.heap _
                rw [K59q]
                exact ⟨rfl, N62, (K57)⟩
            · skip
              obtain ⟨cq73, kq73, q73a, q73b, q73c⟩ := isOf hZ K59q f61
              obtain ⟨_, _, ⟨T73, L73, k73, n73⟩, -, X73, ⟨Lc73, hQ73, l73, y73, z73⟩, st73⟩ := X59.virtualBack hx (y := MN5) (z := MN5) hown (mvT hZ wo27) (mvT hZ wo28) (notFace_of_selects (args := #[]) (mvT hZ wo30)) (mvT hZ wo30) (mvT hZ wo29) (by decide) (backOf (W := 0) (rm_take l Z a0 hw [] b1 (((p0_3.toUInt32 >>> ((16 : Int32) &&& 31).toUInt32).toInt32).toInt8.toInt32) (2 : Int32) c rw_10 r cx_55 (T55.heap) n0 f60 f61 g2 g14 ne13 f58 hq55_1 hq55_2 hq55_3 hq55_4 (own_in c r n k (2 : Int32) hc hr hn hk (by decide) hc166_70 : ¬ ((2 : Int32) < c) → ¬ (((2 : Int32) - c) < 0) ∧ ((2 : Int32) - c) < r)) hZ wo31 wo3 (by decide) (by decide)) q73a q73c (g := (mkF m 176 #[iv p0_0, iv p0_1, iv p0_2, iv p0_3, iv c, iv r, iv n, iv k, rv b1, iv (1 : Int32)] [(.int (((p0_3.toUInt32 >>> ((16 : Int32) &&& 31).toUInt32).toInt32).toInt8.toInt32)), (.ref b1)])) rfl (by rw [hml]; rfl) (Steps.refl _) (argsL := [(.int (((p0_3.toUInt32 >>> ((16 : Int32) &&& 31).toUInt32).toInt32).toInt8.toInt32))]) (rest := []) (lenOf pd_3 rfl) rfl (by show 2 * 0 + _ ≤ _; exact Nat.le_of_eq rfl) (hb hby at_176) (fun _ _ => ⟨rfl, K59q, (by decide : 2 + 0 ≤ _), (by decide : 7 + 0 ≤ _)⟩)
              dsimp only [Pt.U, Pt.locs, Pt.cells, Pt.slots] at X73 l73 y73 z73 st73 hQ73
              subst l73 y73 z73
              obtain ⟨cx_73, rfl, N73q, K73q, hq73_0, hq73_1, hq73_2, hq73_3, hq73_4⟩ := hQ73
              have N74 := Fr.app N62 N73q
              have K75 : Keep h0 T73.heap [] := (K57).trans K73q (allS (P := fun x => x ∈ [] ∨ h0.size ≤ x) (Or.inr bz3) (allS (P := fun x => x ∈ [] ∨ h0.size ≤ x) (Or.inr bz15) all0))
              have f76 : Fld Z T73.heap b1 "com/example/unand/unand/model/AddressCycles" "taken" "I" (.int (3 : Int32)) := hq73_0
              have f78 := (Nat.le_trans f60 K73q.1)
              have f79 := (f61.keep K73q)
              obtain ⟨cq77, kq77, q77a, q77b, q77c⟩ := isOf hZ rfl f79
              obtain ⟨_, _, ⟨T77, L77, k77, n77⟩, -, X77, ⟨Lc77, hQ77, l77, y77, z77⟩, st77⟩ := X73.virtualBack hx (y := MN4) (z := MN4) hown (mvT hZ wo20) (mvT hZ wo21) (notFace_of_selects (args := #[]) (mvT hZ wo23)) (mvT hZ wo23) (mvT hZ wo22) (by decide) (backOf (W := 0) (rm4 l Z a0 hw [] b1 (3 : Int32) c rw_10 r (T73.heap) n0 f78 f76 hq73_1 hq73_2 hq73_3) hZ wo24 wo3 (by decide) (by decide)) q77a q77c (g := (mkF m 186 #[iv p0_0, iv p0_1, iv p0_2, iv p0_3, iv c, iv r, iv n, iv k, rv b1, iv (1 : Int32)] [(.ref b1)])) rfl (by rw [hml]; rfl) (Steps.refl _) (argsL := []) (rest := []) (lenOf pd_1 rfl) rfl (by show 2 * 0 + _ ≤ _; exact Nat.le_of_eq rfl) (hb hby at_186) (fun _ _ => ⟨rfl, rfl, (by decide : 2 + 0 ≤ _), (by decide : 7 + 0 ≤ _)⟩)
              dsimp only [Pt.U, Pt.locs, Pt.cells, Pt.slots] at X77 l77 y77 z77 st77 hQ77
              subst l77 y77 z77
              obtain ⟨rfl, N77q, K77q⟩ := hQ77
              have N80 := Fr.app N74 N77q
              have q81 : (c + r) = n := h_n.symm
              have pre83 : ∀ t, Steps p.tables e below (T77.setTop (mkF m 192 #[iv p0_0, iv p0_1, iv p0_2, iv p0_3, iv c, iv r, iv n, iv k, rv b1, iv (1 : Int32)] [(.int (3 : Int32)), (.int n), (.int (if (3 : Int32) = n then (1 : Int32) else (0 : Int32)))])) t → Steps p.tables e below (s₁.setTop (entryFrame m #[(.int p0_0), (.int p0_1), (.int p0_2), (.int p0_3)] maxLocals)) t := by
                intro t_ k_
                refine pre71 _ ?_
                show Steps p.tables e below (T59.setTop (mkF m 166 #[iv p0_0, iv p0_1, iv p0_2, iv p0_3, iv c, iv r, iv n, iv k, rv b1, iv (1 : Int32)] [(.int (3 : Int32)), (.int k)])) _
                refine XS.icmpNo X59.here hx rfl (hb hby at_166) rfl (flt hc166_70).1 ?_
                show Steps p.tables e below (T59.setTop (mkF m 169 #[iv p0_0, iv p0_1, iv p0_2, iv p0_3, iv c, iv r, iv n, iv k, rv b1, iv (1 : Int32)] [])) _
                refine XS.aload X59.here hx rfl (hb hby at_169) rfl rfl ?_
                show Steps p.tables e below (T59.setTop (mkF m 171 #[iv p0_0, iv p0_1, iv p0_2, iv p0_3, iv c, iv r, iv n, iv k, rv b1, iv (1 : Int32)] [(.ref b1)])) _
                refine XS.iloadN X59.here hx rfl (hb hby at_171) rfl ?_
                show Steps p.tables e below (T59.setTop (mkF m 172 #[iv p0_0, iv p0_1, iv p0_2, iv p0_3, iv c, iv r, iv n, iv k, rv b1, iv (1 : Int32)] [(.int p0_3), (.ref b1)])) _
                refine XS.bipush X59.here hx rfl (hb hby at_172) ?_
                show Steps p.tables e below (T59.setTop (mkF m 174 #[iv p0_0, iv p0_1, iv p0_2, iv p0_3, iv c, iv r, iv n, iv k, rv b1, iv (1 : Int32)] [(.int (16 : Int32)), (.int p0_3), (.ref b1)])) _
                refine XS.iushr X59.here hx rfl (hb hby at_174) rfl ?_
                show Steps p.tables e below (T59.setTop (mkF m 175 #[iv p0_0, iv p0_1, iv p0_2, iv p0_3, iv c, iv r, iv n, iv k, rv b1, iv (1 : Int32)] [(.int ((p0_3.toUInt32 >>> ((16 : Int32) &&& 31).toUInt32).toInt32)), (.ref b1)])) _
                refine XS.i2b X59.here hx rfl (hb hby at_175) rfl ?_
                show Steps p.tables e below (T59.setTop (mkF m 176 #[iv p0_0, iv p0_1, iv p0_2, iv p0_3, iv c, iv r, iv n, iv k, rv b1, iv (1 : Int32)] [(.int (((p0_3.toUInt32 >>> ((16 : Int32) &&& 31).toUInt32).toInt32).toInt8.toInt32)), (.ref b1)])) _
                refine st73.trans ?_
                show Steps p.tables e below (T73.setTop (mkF m 179 #[iv p0_0, iv p0_1, iv p0_2, iv p0_3, iv c, iv r, iv n, iv k, rv b1, iv (1 : Int32)] [])) _
                refine XS.iload X73.here hx rfl (hb hby at_179) rfl ?_
                show Steps p.tables e below (T73.setTop (mkF m 181 #[iv p0_0, iv p0_1, iv p0_2, iv p0_3, iv c, iv r, iv n, iv k, rv b1, iv (1 : Int32)] [(.int (1 : Int32))])) _
                refine XS.ifNo X73.here hx rfl (hb hby at_181) rfl ((if0 _ _).trans (feq (by decide : ¬ ((1 : Int32) = (0 : Int32)))).1) ?_
                show Steps p.tables e below (T73.setTop (mkF m 184 #[iv p0_0, iv p0_1, iv p0_2, iv p0_3, iv c, iv r, iv n, iv k, rv b1, iv (1 : Int32)] [])) _
                refine XS.aload X73.here hx rfl (hb hby at_184) rfl rfl ?_
                show Steps p.tables e below (T73.setTop (mkF m 186 #[iv p0_0, iv p0_1, iv p0_2, iv p0_3, iv c, iv r, iv n, iv k, rv b1, iv (1 : Int32)] [(.ref b1)])) _
                refine st77.trans ?_
                rw [q81]
                show Steps p.tables e below (T77.setTop (mkF m 189 #[iv p0_0, iv p0_1, iv p0_2, iv p0_3, iv c, iv r, iv n, iv k, rv b1, iv (1 : Int32)] [(.int (if (3 : Int32) = n then (1 : Int32) else (0 : Int32)))])) _
                show Steps p.tables e below (T77.setTop (mkF m 189 #[iv p0_0, iv p0_1, iv p0_2, iv p0_3, iv c, iv r, iv n, iv k, rv b1, iv (1 : Int32)] [(.int (if (3 : Int32) = n then (1 : Int32) else (0 : Int32)))])) _
                refine XS.iload X77.here hx rfl (hb hby at_189) rfl ?_
                show Steps p.tables e below (T77.setTop (mkF m 191 #[iv p0_0, iv p0_1, iv p0_2, iv p0_3, iv c, iv r, iv n, iv k, rv b1, iv (1 : Int32)] [(.int n), (.int (if (3 : Int32) = n then (1 : Int32) else (0 : Int32)))])) _
                refine XS.iconst X77.here hx rfl (hb hby at_191) ?_
                exact k_
              by_cases hc192_82 : n = (3 : Int32)
              · skip
                have hc84 : (if (3 : Int32) = n then (1 : Int32) else (0 : Int32)) = (1 : Int32) := if_pos hc192_82.symm
                have hc85 : k < (4 : Int32) := own_kn k n _ _ hk.2 hc192_82 (by decide)
                obtain ⟨fs, hr, hrun, hended, hW, hsame⟩ := X77.leave (v := some (.int (1 : Int32))) (fun h => by rw [Bd.returns] at h; cases h)
                refine ⟨_, _, pre83 _ ?_, hrun, hended, _, _, rfl, ?_, ⟨_, rfl⟩, hW, hsame.mono (by decide) (by decide)⟩
                · show Steps p.tables e below (T77.setTop (mkF m 192 #[iv p0_0, iv p0_1, iv p0_2, iv p0_3, iv c, iv r, iv n, iv k, rv b1, iv (1 : Int32)] [(.int (3 : Int32)), (.int n), (.int (if (3 : Int32) = n then (1 : Int32) else (0 : Int32)))])) _
                  refine XS.icmpNo X77.here hx rfl (hb hby at_192) rfl (teq hc192_82).2 ?_
                  show Steps p.tables e below (T77.setTop (mkF m 195 #[iv p0_0, iv p0_1, iv p0_2, iv p0_3, iv c, iv r, iv n, iv k, rv b1, iv (1 : Int32)] [(.int (if (3 : Int32) = n then (1 : Int32) else (0 : Int32)))])) _
                  refine XS.iconst X77.here hx rfl (hb hby at_195) ?_
                  show Steps p.tables e below (T77.setTop (mkF m 196 #[iv p0_0, iv p0_1, iv p0_2, iv p0_3, iv c, iv r, iv n, iv k, rv b1, iv (1 : Int32)] [(.int (1 : Int32)), (.int (if (3 : Int32) = n then (1 : Int32) else (0 : Int32)))])) _
                  refine XS.goto X77.here hx rfl (pc0 := 196) (pc' := 200) rfl (hb hby at_196) (by decide) (by decide) ?_
                  show Steps p.tables e below (T77.setTop (mkF m 200 #[iv p0_0, iv p0_1, iv p0_2, iv p0_3, iv c, iv r, iv n, iv k, rv b1, iv (1 : Int32)] [(.int (1 : Int32)), (.int (if (3 : Int32) = n then (1 : Int32) else (0 : Int32)))])) _
                  refine XS.icmpNo X77.here hx rfl (hb hby at_200) rfl (teq hc84).2 ?_
                  show Steps p.tables e below (T77.setTop (mkF m 203 #[iv p0_0, iv p0_1, iv p0_2, iv p0_3, iv c, iv r, iv n, iv k, rv b1, iv (1 : Int32)] [])) _
                  refine XS.iconst X77.here hx rfl (hb hby at_203) ?_
                  show Steps p.tables e below (T77.setTop (mkF m 204 #[iv p0_0, iv p0_1, iv p0_2, iv p0_3, iv c, iv r, iv n, iv k, rv b1, iv (1 : Int32)] [(.int (1 : Int32))])) _
                  refine XS.goto X77.here hx rfl (pc0 := 204) (pc' := 208) rfl (hb hby at_204) (by decide) (by decide) ?_
                  show Steps p.tables e below (T77.setTop (mkF m 208 #[iv p0_0, iv p0_1, iv p0_2, iv p0_3, iv c, iv r, iv n, iv k, rv b1, iv (1 : Int32)] [(.int (1 : Int32))])) _
                  refine XS.istore X77.here hx rfl (hb hby at_208) rfl (l' := #[iv p0_0, iv p0_1, iv p0_2, iv p0_3, iv c, iv r, iv n, iv k, rv b1, iv (1 : Int32)]) rfl ?_
                  show Steps p.tables e below (T77.setTop (mkF m 210 #[iv p0_0, iv p0_1, iv p0_2, iv p0_3, iv c, iv r, iv n, iv k, rv b1, iv (1 : Int32)] [])) _
                  refine XS.iload X77.here hx rfl (hb hby at_210) rfl ?_
                  show Steps p.tables e below (T77.setTop (mkF m 212 #[iv p0_0, iv p0_1, iv p0_2, iv p0_3, iv c, iv r, iv n, iv k, rv b1, iv (1 : Int32)] [(.int k)])) _
                  refine XS.iconst X77.here hx rfl (hb hby at_212) ?_
                  show Steps p.tables e below (T77.setTop (mkF m 213 #[iv p0_0, iv p0_1, iv p0_2, iv p0_3, iv c, iv r, iv n, iv k, rv b1, iv (1 : Int32)] [(.int (4 : Int32)), (.int k)])) _
                  refine XS.icmpYes X77.here hx rfl (pc0 := 213) (pc' := 257) rfl (hb hby at_213) rfl (tlt hc85).1 (by decide) (by decide) ?_
                  show Steps p.tables e below (T77.setTop (mkF m 257 #[iv p0_0, iv p0_1, iv p0_2, iv p0_3, iv c, iv r, iv n, iv k, rv b1, iv (1 : Int32)] [])) _
                  refine XS.iload X77.here hx rfl (hb hby at_257) rfl ?_
                  show Steps p.tables e below (T77.setTop (mkF m 259 #[iv p0_0, iv p0_1, iv p0_2, iv p0_3, iv c, iv r, iv n, iv k, rv b1, iv (1 : Int32)] [(.int (1 : Int32))])) _
                  exact retN X77 hx (t := .boolean) Bd.returns (by simp) (hb hby at_259) hr
                · show Q_rm0 Z _ _ _ _ h0 n0 _ T77.heap _
                  rw [K77q]
                  exact ⟨rfl, N80, (K75)⟩
              · skip
                have hc86 : (if (3 : Int32) = n then (1 : Int32) else (0 : Int32)) = (0 : Int32) := if_neg (Ne.symm hc192_82)
                have pre88 : ∀ t, Steps p.tables e below (T77.setTop (mkF m 213 #[iv p0_0, iv p0_1, iv p0_2, iv p0_3, iv c, iv r, iv n, iv k, rv b1, iv (1 : Int32)] [(.int (4 : Int32)), (.int k)])) t → Steps p.tables e below (s₁.setTop (entryFrame m #[(.int p0_0), (.int p0_1), (.int p0_2), (.int p0_3)] maxLocals)) t := by
                  intro t_ k_
                  refine pre83 _ ?_
                  show Steps p.tables e below (T77.setTop (mkF m 192 #[iv p0_0, iv p0_1, iv p0_2, iv p0_3, iv c, iv r, iv n, iv k, rv b1, iv (1 : Int32)] [(.int (3 : Int32)), (.int n), (.int (if (3 : Int32) = n then (1 : Int32) else (0 : Int32)))])) _
                  refine XS.icmpYes X77.here hx rfl (pc0 := 192) (pc' := 199) rfl (hb hby at_192) rfl (feq hc192_82).2 (by decide) (by decide) ?_
                  show Steps p.tables e below (T77.setTop (mkF m 199 #[iv p0_0, iv p0_1, iv p0_2, iv p0_3, iv c, iv r, iv n, iv k, rv b1, iv (1 : Int32)] [(.int (if (3 : Int32) = n then (1 : Int32) else (0 : Int32)))])) _
                  refine XS.iconst X77.here hx rfl (hb hby at_199) ?_
                  show Steps p.tables e below (T77.setTop (mkF m 200 #[iv p0_0, iv p0_1, iv p0_2, iv p0_3, iv c, iv r, iv n, iv k, rv b1, iv (1 : Int32)] [(.int (0 : Int32)), (.int (if (3 : Int32) = n then (1 : Int32) else (0 : Int32)))])) _
                  refine XS.icmpNo X77.here hx rfl (hb hby at_200) rfl (teq hc86).2 ?_
                  show Steps p.tables e below (T77.setTop (mkF m 203 #[iv p0_0, iv p0_1, iv p0_2, iv p0_3, iv c, iv r, iv n, iv k, rv b1, iv (1 : Int32)] [])) _
                  refine XS.iconst X77.here hx rfl (hb hby at_203) ?_
                  show Steps p.tables e below (T77.setTop (mkF m 204 #[iv p0_0, iv p0_1, iv p0_2, iv p0_3, iv c, iv r, iv n, iv k, rv b1, iv (1 : Int32)] [(.int (1 : Int32))])) _
                  refine XS.goto X77.here hx rfl (pc0 := 204) (pc' := 208) rfl (hb hby at_204) (by decide) (by decide) ?_
                  show Steps p.tables e below (T77.setTop (mkF m 208 #[iv p0_0, iv p0_1, iv p0_2, iv p0_3, iv c, iv r, iv n, iv k, rv b1, iv (1 : Int32)] [(.int (1 : Int32))])) _
                  refine XS.istore X77.here hx rfl (hb hby at_208) rfl (l' := #[iv p0_0, iv p0_1, iv p0_2, iv p0_3, iv c, iv r, iv n, iv k, rv b1, iv (1 : Int32)]) rfl ?_
                  show Steps p.tables e below (T77.setTop (mkF m 210 #[iv p0_0, iv p0_1, iv p0_2, iv p0_3, iv c, iv r, iv n, iv k, rv b1, iv (1 : Int32)] [])) _
                  refine XS.iload X77.here hx rfl (hb hby at_210) rfl ?_
                  show Steps p.tables e below (T77.setTop (mkF m 212 #[iv p0_0, iv p0_1, iv p0_2, iv p0_3, iv c, iv r, iv n, iv k, rv b1, iv (1 : Int32)] [(.int k)])) _
                  refine XS.iconst X77.here hx rfl (hb hby at_212) ?_
                  exact k_
                by_cases hc213_87 : k < (4 : Int32)
                · skip
                  obtain ⟨fs, hr, hrun, hended, hW, hsame⟩ := X77.leave (v := some (.int (1 : Int32))) (fun h => by rw [Bd.returns] at h; cases h)
                  refine ⟨_, _, pre88 _ ?_, hrun, hended, _, _, rfl, ?_, ⟨_, rfl⟩, hW, hsame.mono (by decide) (by decide)⟩
                  · show Steps p.tables e below (T77.setTop (mkF m 213 #[iv p0_0, iv p0_1, iv p0_2, iv p0_3, iv c, iv r, iv n, iv k, rv b1, iv (1 : Int32)] [(.int (4 : Int32)), (.int k)])) _
                    refine XS.icmpYes X77.here hx rfl (pc0 := 213) (pc' := 257) rfl (hb hby at_213) rfl (tlt hc213_87).1 (by decide) (by decide) ?_
                    show Steps p.tables e below (T77.setTop (mkF m 257 #[iv p0_0, iv p0_1, iv p0_2, iv p0_3, iv c, iv r, iv n, iv k, rv b1, iv (1 : Int32)] [])) _
                    refine XS.iload X77.here hx rfl (hb hby at_257) rfl ?_
                    show Steps p.tables e below (T77.setTop (mkF m 259 #[iv p0_0, iv p0_1, iv p0_2, iv p0_3, iv c, iv r, iv n, iv k, rv b1, iv (1 : Int32)] [(.int (1 : Int32))])) _
                    exact retN X77 hx (t := .boolean) Bd.returns (by simp) (hb hby at_259) hr
                  · show Q_rm0 Z _ _ _ _ h0 n0 _ T77.heap _
                    rw [K77q]
                    exact ⟨rfl, N80, (K75)⟩
                · skip
                  obtain ⟨cq89, kq89, q89a, q89b, q89c⟩ := isOf hZ K77q f79
                  obtain ⟨_, _, ⟨T89, L89, k89, n89⟩, -, X89, ⟨Lc89, hQ89, l89, y89, z89⟩, st89⟩ := X77.virtualBack hx (y := MN5) (z := MN5) hown (mvT hZ wo27) (mvT hZ wo28) (notFace_of_selects (args := #[]) (mvT hZ wo30)) (mvT hZ wo30) (mvT hZ wo29) (by decide) (backOf (W := 0) (rm_take l Z a0 hw [] b1 (((p0_3.toUInt32 >>> ((24 : Int32) &&& 31).toUInt32).toInt32).toInt8.toInt32) (3 : Int32) c rw_10 r cx_73 (T73.heap) n0 f78 f79 g2 g14 ne13 f76 hq73_1 hq73_2 hq73_3 hq73_4 (own_in c r n k (3 : Int32) hc hr hn hk (by decide) hc213_87 : ¬ ((3 : Int32) < c) → ¬ (((3 : Int32) - c) < 0) ∧ ((3 : Int32) - c) < r)) hZ wo31 wo3 (by decide) (by decide)) q89a q89c (g := (mkF m 223 #[iv p0_0, iv p0_1, iv p0_2, iv p0_3, iv c, iv r, iv n, iv k, rv b1, iv (1 : Int32)] [(.int (((p0_3.toUInt32 >>> ((24 : Int32) &&& 31).toUInt32).toInt32).toInt8.toInt32)), (.ref b1)])) rfl (by rw [hml]; rfl) (Steps.refl _) (argsL := [(.int (((p0_3.toUInt32 >>> ((24 : Int32) &&& 31).toUInt32).toInt32).toInt8.toInt32))]) (rest := []) (lenOf pd_3 rfl) rfl (by show 2 * 0 + _ ≤ _; exact Nat.le_of_eq rfl) (hb hby at_223) (fun _ _ => ⟨rfl, K77q, (by decide : 2 + 0 ≤ _), (by decide : 7 + 0 ≤ _)⟩)
                  dsimp only [Pt.U, Pt.locs, Pt.cells, Pt.slots] at X89 l89 y89 z89 st89 hQ89
                  subst l89 y89 z89
                  obtain ⟨cx_89, rfl, N89q, K89q, hq89_0, hq89_1, hq89_2, hq89_3, hq89_4⟩ := hQ89
                  have N90 := Fr.app N80 N89q
                  have K91 : Keep h0 T89.heap [] := (K75).trans K89q (allS (P := fun x => x ∈ [] ∨ h0.size ≤ x) (Or.inr bz3) (allS (P := fun x => x ∈ [] ∨ h0.size ≤ x) (Or.inr bz15) all0))
                  have f92 : Fld Z T89.heap b1 "com/example/unand/unand/model/AddressCycles" "taken" "I" (.int (4 : Int32)) := hq89_0
                  have f94 := (Nat.le_trans f78 K89q.1)
                  have f95 := (f79.keep K89q)
                  obtain ⟨cq93, kq93, q93a, q93b, q93c⟩ := isOf hZ rfl f95
                  obtain ⟨_, _, ⟨T93, L93, k93, n93⟩, -, X93, ⟨Lc93, hQ93, l93, y93, z93⟩, st93⟩ := X89.virtualBack hx (y := MN4) (z := MN4) hown (mvT hZ wo20) (mvT hZ wo21) (notFace_of_selects (args := #[]) (mvT hZ wo23)) (mvT hZ wo23) (mvT hZ wo22) (by decide) (backOf (W := 0) (rm4 l Z a0 hw [] b1 (4 : Int32) c rw_10 r (T89.heap) n0 f94 f92 hq89_1 hq89_2 hq89_3) hZ wo24 wo3 (by decide) (by decide)) q93a q93c (g := (mkF m 233 #[iv p0_0, iv p0_1, iv p0_2, iv p0_3, iv c, iv r, iv n, iv k, rv b1, iv (1 : Int32)] [(.ref b1)])) rfl (by rw [hml]; rfl) (Steps.refl _) (argsL := []) (rest := []) (lenOf pd_1 rfl) rfl (by show 2 * 0 + _ ≤ _; exact Nat.le_of_eq rfl) (hb hby at_233) (fun _ _ => ⟨rfl, rfl, (by decide : 2 + 0 ≤ _), (by decide : 7 + 0 ≤ _)⟩)
                  dsimp only [Pt.U, Pt.locs, Pt.cells, Pt.slots] at X93 l93 y93 z93 st93 hQ93
                  subst l93 y93 z93
                  obtain ⟨rfl, N93q, K93q⟩ := hQ93
                  have N96 := Fr.app N90 N93q
                  have q97 : (c + r) = n := h_n.symm
                  have pre99 : ∀ t, Steps p.tables e below (T93.setTop (mkF m 239 #[iv p0_0, iv p0_1, iv p0_2, iv p0_3, iv c, iv r, iv n, iv k, rv b1, iv (1 : Int32)] [(.int (4 : Int32)), (.int n), (.int (if (4 : Int32) = n then (1 : Int32) else (0 : Int32)))])) t → Steps p.tables e below (s₁.setTop (entryFrame m #[(.int p0_0), (.int p0_1), (.int p0_2), (.int p0_3)] maxLocals)) t := by
                    intro t_ k_
                    refine pre88 _ ?_
                    show Steps p.tables e below (T77.setTop (mkF m 213 #[iv p0_0, iv p0_1, iv p0_2, iv p0_3, iv c, iv r, iv n, iv k, rv b1, iv (1 : Int32)] [(.int (4 : Int32)), (.int k)])) _
                    refine XS.icmpNo X77.here hx rfl (hb hby at_213) rfl (flt hc213_87).1 ?_
                    show Steps p.tables e below (T77.setTop (mkF m 216 #[iv p0_0, iv p0_1, iv p0_2, iv p0_3, iv c, iv r, iv n, iv k, rv b1, iv (1 : Int32)] [])) _
                    refine XS.aload X77.here hx rfl (hb hby at_216) rfl rfl ?_
                    show Steps p.tables e below (T77.setTop (mkF m 218 #[iv p0_0, iv p0_1, iv p0_2, iv p0_3, iv c, iv r, iv n, iv k, rv b1, iv (1 : Int32)] [(.ref b1)])) _
                    refine XS.iloadN X77.here hx rfl (hb hby at_218) rfl ?_
                    show Steps p.tables e below (T77.setTop (mkF m 219 #[iv p0_0, iv p0_1, iv p0_2, iv p0_3, iv c, iv r, iv n, iv k, rv b1, iv (1 : Int32)] [(.int p0_3), (.ref b1)])) _
                    refine XS.bipush X77.here hx rfl (hb hby at_219) ?_
                    show Steps p.tables e below (T77.setTop (mkF m 221 #[iv p0_0, iv p0_1, iv p0_2, iv p0_3, iv c, iv r, iv n, iv k, rv b1, iv (1 : Int32)] [(.int (24 : Int32)), (.int p0_3), (.ref b1)])) _
                    refine XS.iushr X77.here hx rfl (hb hby at_221) rfl ?_
                    show Steps p.tables e below (T77.setTop (mkF m 222 #[iv p0_0, iv p0_1, iv p0_2, iv p0_3, iv c, iv r, iv n, iv k, rv b1, iv (1 : Int32)] [(.int ((p0_3.toUInt32 >>> ((24 : Int32) &&& 31).toUInt32).toInt32)), (.ref b1)])) _
                    refine XS.i2b X77.here hx rfl (hb hby at_222) rfl ?_
                    show Steps p.tables e below (T77.setTop (mkF m 223 #[iv p0_0, iv p0_1, iv p0_2, iv p0_3, iv c, iv r, iv n, iv k, rv b1, iv (1 : Int32)] [(.int (((p0_3.toUInt32 >>> ((24 : Int32) &&& 31).toUInt32).toInt32).toInt8.toInt32)), (.ref b1)])) _
                    refine st89.trans ?_
                    show Steps p.tables e below (T89.setTop (mkF m 226 #[iv p0_0, iv p0_1, iv p0_2, iv p0_3, iv c, iv r, iv n, iv k, rv b1, iv (1 : Int32)] [])) _
                    refine XS.iload X89.here hx rfl (hb hby at_226) rfl ?_
                    show Steps p.tables e below (T89.setTop (mkF m 228 #[iv p0_0, iv p0_1, iv p0_2, iv p0_3, iv c, iv r, iv n, iv k, rv b1, iv (1 : Int32)] [(.int (1 : Int32))])) _
                    refine XS.ifNo X89.here hx rfl (hb hby at_228) rfl ((if0 _ _).trans (feq (by decide : ¬ ((1 : Int32) = (0 : Int32)))).1) ?_
                    show Steps p.tables e below (T89.setTop (mkF m 231 #[iv p0_0, iv p0_1, iv p0_2, iv p0_3, iv c, iv r, iv n, iv k, rv b1, iv (1 : Int32)] [])) _
                    refine XS.aload X89.here hx rfl (hb hby at_231) rfl rfl ?_
                    show Steps p.tables e below (T89.setTop (mkF m 233 #[iv p0_0, iv p0_1, iv p0_2, iv p0_3, iv c, iv r, iv n, iv k, rv b1, iv (1 : Int32)] [(.ref b1)])) _
                    refine st93.trans ?_
                    rw [q97]
                    show Steps p.tables e below (T93.setTop (mkF m 236 #[iv p0_0, iv p0_1, iv p0_2, iv p0_3, iv c, iv r, iv n, iv k, rv b1, iv (1 : Int32)] [(.int (if (4 : Int32) = n then (1 : Int32) else (0 : Int32)))])) _
                    show Steps p.tables e below (T93.setTop (mkF m 236 #[iv p0_0, iv p0_1, iv p0_2, iv p0_3, iv c, iv r, iv n, iv k, rv b1, iv (1 : Int32)] [(.int (if (4 : Int32) = n then (1 : Int32) else (0 : Int32)))])) _
                    refine XS.iload X93.here hx rfl (hb hby at_236) rfl ?_
                    show Steps p.tables e below (T93.setTop (mkF m 238 #[iv p0_0, iv p0_1, iv p0_2, iv p0_3, iv c, iv r, iv n, iv k, rv b1, iv (1 : Int32)] [(.int n), (.int (if (4 : Int32) = n then (1 : Int32) else (0 : Int32)))])) _
                    refine XS.iconst X93.here hx rfl (hb hby at_238) ?_
                    exact k_
                  by_cases hc239_98 : n = (4 : Int32)
                  · skip
                    have hc100 : (if (4 : Int32) = n then (1 : Int32) else (0 : Int32)) = (1 : Int32) := if_pos hc239_98.symm
                    obtain ⟨fs, hr, hrun, hended, hW, hsame⟩ := X93.leave (v := some (.int (1 : Int32))) (fun h => by rw [Bd.returns] at h; cases h)
                    refine ⟨_, _, pre99 _ ?_, hrun, hended, _, _, rfl, ?_, ⟨_, rfl⟩, hW, hsame.mono (by decide) (by decide)⟩
                    · show Steps p.tables e below (T93.setTop (mkF m 239 #[iv p0_0, iv p0_1, iv p0_2, iv p0_3, iv c, iv r, iv n, iv k, rv b1, iv (1 : Int32)] [(.int (4 : Int32)), (.int n), (.int (if (4 : Int32) = n then (1 : Int32) else (0 : Int32)))])) _
                      refine XS.icmpNo X93.here hx rfl (hb hby at_239) rfl (teq hc239_98).2 ?_
                      show Steps p.tables e below (T93.setTop (mkF m 242 #[iv p0_0, iv p0_1, iv p0_2, iv p0_3, iv c, iv r, iv n, iv k, rv b1, iv (1 : Int32)] [(.int (if (4 : Int32) = n then (1 : Int32) else (0 : Int32)))])) _
                      refine XS.iconst X93.here hx rfl (hb hby at_242) ?_
                      show Steps p.tables e below (T93.setTop (mkF m 243 #[iv p0_0, iv p0_1, iv p0_2, iv p0_3, iv c, iv r, iv n, iv k, rv b1, iv (1 : Int32)] [(.int (1 : Int32)), (.int (if (4 : Int32) = n then (1 : Int32) else (0 : Int32)))])) _
                      refine XS.goto X93.here hx rfl (pc0 := 243) (pc' := 247) rfl (hb hby at_243) (by decide) (by decide) ?_
                      show Steps p.tables e below (T93.setTop (mkF m 247 #[iv p0_0, iv p0_1, iv p0_2, iv p0_3, iv c, iv r, iv n, iv k, rv b1, iv (1 : Int32)] [(.int (1 : Int32)), (.int (if (4 : Int32) = n then (1 : Int32) else (0 : Int32)))])) _
                      refine XS.icmpNo X93.here hx rfl (hb hby at_247) rfl (teq hc100).2 ?_
                      show Steps p.tables e below (T93.setTop (mkF m 250 #[iv p0_0, iv p0_1, iv p0_2, iv p0_3, iv c, iv r, iv n, iv k, rv b1, iv (1 : Int32)] [])) _
                      refine XS.iconst X93.here hx rfl (hb hby at_250) ?_
                      show Steps p.tables e below (T93.setTop (mkF m 251 #[iv p0_0, iv p0_1, iv p0_2, iv p0_3, iv c, iv r, iv n, iv k, rv b1, iv (1 : Int32)] [(.int (1 : Int32))])) _
                      refine XS.goto X93.here hx rfl (pc0 := 251) (pc' := 255) rfl (hb hby at_251) (by decide) (by decide) ?_
                      show Steps p.tables e below (T93.setTop (mkF m 255 #[iv p0_0, iv p0_1, iv p0_2, iv p0_3, iv c, iv r, iv n, iv k, rv b1, iv (1 : Int32)] [(.int (1 : Int32))])) _
                      refine XS.istore X93.here hx rfl (hb hby at_255) rfl (l' := #[iv p0_0, iv p0_1, iv p0_2, iv p0_3, iv c, iv r, iv n, iv k, rv b1, iv (1 : Int32)]) rfl ?_
                      show Steps p.tables e below (T93.setTop (mkF m 257 #[iv p0_0, iv p0_1, iv p0_2, iv p0_3, iv c, iv r, iv n, iv k, rv b1, iv (1 : Int32)] [])) _
                      refine XS.iload X93.here hx rfl (hb hby at_257) rfl ?_
                      show Steps p.tables e below (T93.setTop (mkF m 259 #[iv p0_0, iv p0_1, iv p0_2, iv p0_3, iv c, iv r, iv n, iv k, rv b1, iv (1 : Int32)] [(.int (1 : Int32))])) _
                      exact retN X93 hx (t := .boolean) Bd.returns (by simp) (hb hby at_259) hr
                    · show Q_rm0 Z _ _ _ _ h0 n0 _ T93.heap _
                      rw [K93q]
                      exact ⟨rfl, N96, (K91)⟩
                  · skip
                    have hc101 : (if (4 : Int32) = n then (1 : Int32) else (0 : Int32)) = (0 : Int32) := if_neg (Ne.symm hc239_98)
                    obtain ⟨fs, hr, hrun, hended, hW, hsame⟩ := X93.leave (v := some (.int (1 : Int32))) (fun h => by rw [Bd.returns] at h; cases h)
                    refine ⟨_, _, pre99 _ ?_, hrun, hended, _, _, rfl, ?_, ⟨_, rfl⟩, hW, hsame.mono (by decide) (by decide)⟩
                    · show Steps p.tables e below (T93.setTop (mkF m 239 #[iv p0_0, iv p0_1, iv p0_2, iv p0_3, iv c, iv r, iv n, iv k, rv b1, iv (1 : Int32)] [(.int (4 : Int32)), (.int n), (.int (if (4 : Int32) = n then (1 : Int32) else (0 : Int32)))])) _
                      refine XS.icmpYes X93.here hx rfl (pc0 := 239) (pc' := 246) rfl (hb hby at_239) rfl (feq hc239_98).2 (by decide) (by decide) ?_
                      show Steps p.tables e below (T93.setTop (mkF m 246 #[iv p0_0, iv p0_1, iv p0_2, iv p0_3, iv c, iv r, iv n, iv k, rv b1, iv (1 : Int32)] [(.int (if (4 : Int32) = n then (1 : Int32) else (0 : Int32)))])) _
                      refine XS.iconst X93.here hx rfl (hb hby at_246) ?_
                      show Steps p.tables e below (T93.setTop (mkF m 247 #[iv p0_0, iv p0_1, iv p0_2, iv p0_3, iv c, iv r, iv n, iv k, rv b1, iv (1 : Int32)] [(.int (0 : Int32)), (.int (if (4 : Int32) = n then (1 : Int32) else (0 : Int32)))])) _
                      refine XS.icmpNo X93.here hx rfl (hb hby at_247) rfl (teq hc101).2 ?_
                      show Steps p.tables e below (T93.setTop (mkF m 250 #[iv p0_0, iv p0_1, iv p0_2, iv p0_3, iv c, iv r, iv n, iv k, rv b1, iv (1 : Int32)] [])) _
                      refine XS.iconst X93.here hx rfl (hb hby at_250) ?_
                      show Steps p.tables e below (T93.setTop (mkF m 251 #[iv p0_0, iv p0_1, iv p0_2, iv p0_3, iv c, iv r, iv n, iv k, rv b1, iv (1 : Int32)] [(.int (1 : Int32))])) _
                      refine XS.goto X93.here hx rfl (pc0 := 251) (pc' := 255) rfl (hb hby at_251) (by decide) (by decide) ?_
                      show Steps p.tables e below (T93.setTop (mkF m 255 #[iv p0_0, iv p0_1, iv p0_2, iv p0_3, iv c, iv r, iv n, iv k, rv b1, iv (1 : Int32)] [(.int (1 : Int32))])) _
                      refine XS.istore X93.here hx rfl (hb hby at_255) rfl (l' := #[iv p0_0, iv p0_1, iv p0_2, iv p0_3, iv c, iv r, iv n, iv k, rv b1, iv (1 : Int32)]) rfl ?_
                      show Steps p.tables e below (T93.setTop (mkF m 257 #[iv p0_0, iv p0_1, iv p0_2, iv p0_3, iv c, iv r, iv n, iv k, rv b1, iv (1 : Int32)] [])) _
                      refine XS.iload X93.here hx rfl (hb hby at_257) rfl ?_
                      show Steps p.tables e below (T93.setTop (mkF m 259 #[iv p0_0, iv p0_1, iv p0_2, iv p0_3, iv c, iv r, iv n, iv k, rv b1, iv (1 : Int32)] [(.int (1 : Int32))])) _
                      exact retN X93 hx (t := .boolean) Bd.returns (by simp) (hb hby at_259) hr
                    · show Q_rm0 Z _ _ _ _ h0 n0 _ T93.heap _
                      rw [K93q]
                      exact ⟨rfl, N96, (K91)⟩
set_option maxRecDepth 65536 in
set_option maxHeartbeats 40000000 in
theorem comes_1 {Post : Tables → Env → Array Value → State → Outcome → State → Prop} (hpost : ∀ tb e args s v u, (limb_1_1.after args s (.returned v) u = true ∧ limb_1_2.after args s (.returned v) u = true ∧ True) → FrameEnd s (.returned v) u (Jvm.fieldLocs frame_1_writes args s ++ Jvm.arrayLocs frame_1_arrays args s ++ Jvm.staticLocs frame_1_statics s) 16 128 → Post tb e args s (.returned v) u) :
    ArmFor flags0 classFile x code maxLocals ret World_1 tables_1 room_1 Calls_1 rest_1 Pre_1 Post := by
  intro l hfl _ _ p e ha hc hk s m args below hf hA hF happ hP
  obtain ⟨hcalls, hrest, hpre⟩ := hP
  obtain ⟨-, -, -, hnamed, -, -, -, hat⟩ := (Spec.applies_iff hf).mp happ
  obtain ⟨hg, hn⟩ := and_e (Cond.before_iff.mp (show (Jvm.Cond.and given_1 narrow_1).before args s = true from hpre))
  obtain ⟨g1, g2⟩ := and_e hg
  obtain ⟨g3, g4⟩ := and_e g2
  obtain ⟨g5, g6⟩ := and_e g4
  obtain ⟨g7, g8⟩ := and_e g6
  obtain ⟨w0, w1, w2, w3, rfl⟩ : ∃ w0 w1 w2 w3 : Value, args = #[w0, w1, w2, w3] := by
    have hs : args.size = 4 := by simpa [Cond.value, given_1] using g1
    obtain ⟨L⟩ := args
    match L, hs with
    | [w0, w1, w2, w3], _ => exact ⟨w0, w1, w2, w3, rfl⟩
  have hw := fun d (hd : d ∈ tables_1) => atoms_spec (ws := Jvm.Cond.code x code maxLocals ret :: tables_1) hat d (List.mem_cons_of_mem _ hd)
  have hfit : Fit s := fun {y c} hc i hi => by
    obtain ⟨ha, rfl⟩ := Array.getElem?_eq_some_iff.mp hc
    have q := List.all_eq_true.mp ((Array.all_eq_true_iff_forall_mem.mp hF) _ (Array.getElem_mem ha)) i (List.mem_range.mpr hi)
    simpa [Array.getElem?_eq_getElem hi] using q
  obtain ⟨i0, ei0⟩ := is_v g3
  obtain rfl : w0 = (.int i0) := Option.some.inj ei0
  obtain ⟨i1, ei1⟩ := is_v g5
  obtain rfl : w1 = (.int i1) := Option.some.inj ei1
  obtain ⟨i2, ei2⟩ := is_v g7
  obtain rfl : w2 = (.int i2) := Option.some.inj ei2
  obtain ⟨i3, ei3⟩ := is_v g8
  obtain rfl : w3 = (.int i3) := Option.some.inj ei3
  obtain ⟨n, o, h1, h2, h3, _, L, rfl, ⟨rfl, N, -⟩, hq⟩ := rm0 l s _ hw tables_1 i0 i1 i2 i3 s.heap s.heap.size (Nat.le_refl _)  p e ha hc hk s m _ below hf ((Spec.applies_iff_loose hf).mp happ).1 ⟨rfl, State.Warmed39.refl s, rfl⟩ trivial
  refine ⟨n, _, h1, h2, h3, hpost _ _ _ _ _ _ ⟨Cond.after_iff.mpr rfl, Cond.after_iff.mpr (eq_i res_at (Term.int_eval (1)) rfl), trivial⟩ ⟨hq.1, hq.2.1, (hq.2.2.sift fun y hy => Or.inr (N y hy)).mono (by decide) (by decide)⟩⟩
theorem main_1_1 : Claimed_1_1 := comes_1 fun _ _ _ _ _ _ h hF => ⟨h.1, hF⟩
theorem main_1_2 : Claimed_1_2 := comes_1 fun _ _ _ _ _ _ h hF => ⟨h.2.1, hF⟩
end Jvm.Pilot.@@N@@
namespace Jvm.Pilot.@@N@@
open Jvm Jvm.ClassFile Sem Op Lib Jvm.Free Jvm.Stand Jvm.Pilot.@@N@@.Jvm.D
/-! MADE BY PROGRAM (witnessworld.py) out of the Statement's table words and the real class files: 14 classes; the members and pool entries that the words name. The judged class is class 1, her method 1. -/
namespace start1
open Jvm.ClassFile
def u (s : String) : CpInfo := .utf8 (stringToUtf16 s)
/-- a pool by its gaps: so many unusable entries, then the entry; so many at the end -/
def gap : Nat → List CpInfo → List CpInfo
  | 0, r => r
  | n + 1, r => .unusable :: gap n r
def poolList (es : List (Nat × CpInfo)) (last : Nat) : List CpInfo := es.foldr (fun e r => gap e.1 (e.2 :: r)) (gap last [])
def pool (es : List (Nat × CpInfo)) (last : Nat) : Array CpInfo := ⟨poolList es last⟩
def fileOf (pool : Array CpInfo) (this : Nat) (attrs : Array Attribute := #[]) (ms : Array MethodInfo := #[]) (fl : Nat := 33) (sup : Nat := 0) (ifs : Array Nat := #[]) (fds : Array FieldInfo := #[]) : ClassFile where
  minorVersion := 0
  majorVersion := 65
  constantPool := pool
  accessFlags := fl
  thisClass := this
  superClass := sup
  interfaces := ifs
  fields := fds
  methods := ms
  attributes := attrs
def plain (name : String) (sup : Option ClassId) : Class where
  name := name
  kind := .ordinary
  loader := none
  accessFlags := 33
  super := sup
  interfaces := #[]
  cf := none
  fields := #[]
  methods := #[]
  instanceTypes := #[]
  staticTypes := #[]
  resolved := #[]
  callSites := []
  init := .initialized
  statics := none
  mirror := none

def pool0 : Array CpInfo := pool [(5, u "<init>"), (0, u "()V"), (1, .class_ 10), (1, u "java/lang/Object")] 113

def k0c0 : Code := { maxStack := 0, maxLocals := 1, code := object_method_1_code, exceptionTable := #[], attributes := #[] }
def k0m0 : Method := { name := "<init>", desc := "()V", sig := { parameters := [], returnType := none }, accessFlags := 1, code := some k0c0 }
/-- java/lang/Object -/
def k0 : Class := { plain "java/lang/Object" none with
  accessFlags := 33
  interfaces := #[]
  cf := some (fileOf pool0 8 #[] #[{ accessFlags := 1, nameIndex := 5, descriptorIndex := 6, attributes := #[] }] 33 0 #[] #[])
  fields := #[]
  methods := #[k0m0]
  instanceTypes := #[]
  staticTypes := #[]
  resolved := Array.replicate 124 none
  statics := none }

def pool1 : Array CpInfo := pool [(2, .class_ 4), (1, u "java/lang/Object"), (0, u "<init>"), (0, u "()V"), (0, .integer 2147483647), (0, .class_ 9), (0, u "com/example/unand/unand/model/AddressCycles"), (0, .methodref 8 11), (0, .nameAndType 5 12), (0, u "(II)V"), (0, .methodref 8 14), (0, .nameAndType 15 16), (0, u "complete"), (0, u "()Z"), (0, .methodref 8 18), (0, .nameAndType 19 20), (0, u "take"), (0, u "(B)V"), (0, .class_ 22), (0, u "com/example/unand/unand/model/AddressCyclesCompletePinLaw"), (2, u "law"), (0, u "(IIII)Z")] 3

def k1m0 : Method := { name := "<init>", desc := "()V", sig := { parameters := [], returnType := none }, accessFlags := 1, code := none }
def k1c1 : Code := { maxStack := 4, maxLocals := 10, code := code, exceptionTable := #[], attributes := #[] }
def k1m1 : Method := { name := "law", desc := "(IIII)Z", sig := { parameters := [.int, .int, .int, .int], returnType := some .boolean }, accessFlags := 9, code := some k1c1 }
/-- com/example/unand/unand/model/AddressCyclesCompletePinLaw -/
def k1 : Class := { plain "com/example/unand/unand/model/AddressCyclesCompletePinLaw" (some 0) with
  accessFlags := 49
  interfaces := #[]
  cf := some (fileOf pool1 21 #[] #[{ accessFlags := 1, nameIndex := 5, descriptorIndex := 6, attributes := #[] }, { accessFlags := 9, nameIndex := 25, descriptorIndex := 26, attributes := #[] }] 49 2 #[] #[])
  fields := #[]
  methods := #[k1m0, k1m1]
  instanceTypes := #[]
  staticTypes := #[]
  resolved := Array.replicate 30 none
  statics := none }

def pool2 : Array CpInfo := pool [(1, .methodref 2 3), (0, .class_ 4), (0, .nameAndType 5 6), (0, u "com/example/unand/unand/model/AddressCycles"), (0, u "<init>"), (0, u "(IIZ)V"), (0, .methodref 8 9), (0, .class_ 10), (0, .nameAndType 5 11), (0, u "java/lang/Object"), (0, u "()V"), (0, .fieldref 2 13), (0, .nameAndType 14 15), (0, u "columnCycles"), (0, u "I"), (0, .fieldref 2 17), (0, .nameAndType 18 19), (0, u "row"), (0, u "[B"), (0, .fieldref 2 21), (0, .nameAndType 22 23), (0, u "single"), (0, u "Z"), (0, .fieldref 2 25), (0, .nameAndType 26 15), (0, u "taken"), (0, .class_ 28), (0, u "java/lang/Byte"), (2, .methodref 32 33), (0, .class_ 34), (0, .nameAndType 35 36), (0, u "java/lang/Math"), (0, u "min"), (0, u "(II)I"), (0, .fieldref 2 38), (0, .nameAndType 39 40), (0, u "column"), (0, u "J"), (0, .methodref 27 42), (0, .nameAndType 43 44), (0, u "toUnsignedInt"), (0, u "(B)I"), (25, u "(II)V"), (3, u "complete"), (0, u "()Z"), (2, u "take"), (0, u "(B)V")] 31

def k2c0 : Code := { maxStack := 4, maxLocals := 3, code := prog_31_method_1_code, exceptionTable := #[], attributes := #[] }
def k2m0 : Method := { name := "<init>", desc := "(II)V", sig := { parameters := [.int, .int], returnType := none }, accessFlags := 0, code := some k2c0 }
def k2c1 : Code := { maxStack := 2, maxLocals := 4, code := prog_31_method_2_code, exceptionTable := #[], attributes := #[] }
def k2m1 : Method := { name := "<init>", desc := "(IIZ)V", sig := { parameters := [.int, .int, .boolean], returnType := none }, accessFlags := 2, code := some k2c1 }
def k2c2 : Code := { maxStack := 3, maxLocals := 1, code := prog_31_method_4_code, exceptionTable := #[], attributes := #[] }
def k2m2 : Method := { name := "complete", desc := "()Z", sig := { parameters := [], returnType := some .boolean }, accessFlags := 0, code := some k2c2 }
def k2c3 : Code := { maxStack := 6, maxLocals := 3, code := prog_31_method_6_code, exceptionTable := #[], attributes := #[] }
def k2m3 : Method := { name := "take", desc := "(B)V", sig := { parameters := [.byte], returnType := none }, accessFlags := 0, code := some k2c3 }
/-- com/example/unand/unand/model/AddressCycles -/
def k2 : Class := { plain "com/example/unand/unand/model/AddressCycles" (some 0) with
  accessFlags := 48
  interfaces := #[]
  cf := some (fileOf pool2 2 #[] #[{ accessFlags := 0, nameIndex := 5, descriptorIndex := 70, attributes := #[] }, { accessFlags := 2, nameIndex := 5, descriptorIndex := 6, attributes := #[] }, { accessFlags := 0, nameIndex := 74, descriptorIndex := 75, attributes := #[] }, { accessFlags := 0, nameIndex := 78, descriptorIndex := 79, attributes := #[] }] 48 8 #[] #[{ accessFlags := 18, nameIndex := 14, descriptorIndex := 15, attributes := #[] }, { accessFlags := 18, nameIndex := 18, descriptorIndex := 19, attributes := #[] }, { accessFlags := 18, nameIndex := 22, descriptorIndex := 23, attributes := #[] }, { accessFlags := 2, nameIndex := 39, descriptorIndex := 40, attributes := #[] }, { accessFlags := 2, nameIndex := 26, descriptorIndex := 15, attributes := #[] }])
  fields := #[{ name := "columnCycles", type := .int, accessFlags := 18, slot := 0, constantValue := 0 }, { name := "row", type := (.array .byte), accessFlags := 18, slot := 1, constantValue := 0 }, { name := "single", type := .boolean, accessFlags := 18, slot := 2, constantValue := 0 }, { name := "column", type := .long, accessFlags := 2, slot := 3, constantValue := 0 }, { name := "taken", type := .int, accessFlags := 2, slot := 4, constantValue := 0 }]
  methods := #[k2m0, k2m1, k2m2, k2m3]
  instanceTypes := #[.int, (.array .byte), .boolean, .long, .int]
  staticTypes := #[]
  resolved := Array.replicate 111 none
  statics := none }

def pool3 : Array CpInfo := pool [(1, .class_ 2), (0, u "java/lang/Math"), (1, .class_ 6), (1, u "java/lang/Object"), (0, u "<init>"), (0, u "()V"), (89, .class_ 100), (1, u "java/lang/Math$RandomNumberGeneratorHolder"), (71, u "negativeZeroFloatBits"), (0, u "J"), (2, u "negativeZeroDoubleBits"), (24, u "min"), (43, u "$assertionsDisabled"), (0, u "Z"), (88, u "(II)I"), (2, u "twoToTheDoubleScaleDown"), (0, u "D"), (4, u "twoToTheDoubleScaleUp"), (9, u "E"), (3, u "PI"), (2, u "TAU"), (2, u "DEGREES_TO_RADIANS"), (0, u "RADIANS_TO_DEGREES")] 94

def k3m0 : Method := { name := "<init>", desc := "()V", sig := { parameters := [], returnType := none }, accessFlags := 2, code := none }
def k3c1 : Code := { maxStack := 2, maxLocals := 2, code := jdk_29_method_69_code, exceptionTable := #[], attributes := #[] }
def k3m1 : Method := { name := "min", desc := "(II)I", sig := { parameters := [.int, .int], returnType := some .int }, accessFlags := 9, code := some k3c1 }
/-- java/lang/Math -/
def k3 : Class := { plain "java/lang/Math" (some 0) with
  accessFlags := 49
  interfaces := #[]
  cf := some (fileOf pool3 1 #[.nestMembers #[98]] #[{ accessFlags := 2, nameIndex := 7, descriptorIndex := 8, attributes := #[] }, { accessFlags := 9, nameIndex := 201, descriptorIndex := 335, attributes := #[] }] 49 4 #[] #[{ accessFlags := 25, nameIndex := 354, descriptorIndex := 339, attributes := #[] }, { accessFlags := 25, nameIndex := 358, descriptorIndex := 339, attributes := #[] }, { accessFlags := 25, nameIndex := 361, descriptorIndex := 339, attributes := #[] }, { accessFlags := 26, nameIndex := 364, descriptorIndex := 339, attributes := #[] }, { accessFlags := 26, nameIndex := 365, descriptorIndex := 339, attributes := #[] }, { accessFlags := 26, nameIndex := 172, descriptorIndex := 173, attributes := #[] }, { accessFlags := 26, nameIndex := 176, descriptorIndex := 173, attributes := #[] }, { accessFlags := 8, nameIndex := 344, descriptorIndex := 339, attributes := #[] }, { accessFlags := 8, nameIndex := 338, descriptorIndex := 339, attributes := #[] }, { accessFlags := 4120, nameIndex := 245, descriptorIndex := 246, attributes := #[] }])
  fields := #[{ name := "E", type := .double, accessFlags := 25, slot := 0, constantValue := 0 }, { name := "PI", type := .double, accessFlags := 25, slot := 1, constantValue := 0 }, { name := "TAU", type := .double, accessFlags := 25, slot := 2, constantValue := 0 }, { name := "DEGREES_TO_RADIANS", type := .double, accessFlags := 26, slot := 3, constantValue := 0 }, { name := "RADIANS_TO_DEGREES", type := .double, accessFlags := 26, slot := 4, constantValue := 0 }, { name := "negativeZeroFloatBits", type := .long, accessFlags := 26, slot := 5, constantValue := 0 }, { name := "negativeZeroDoubleBits", type := .long, accessFlags := 26, slot := 6, constantValue := 0 }, { name := "twoToTheDoubleScaleUp", type := .double, accessFlags := 8, slot := 7, constantValue := 0 }, { name := "twoToTheDoubleScaleDown", type := .double, accessFlags := 8, slot := 8, constantValue := 0 }, { name := "$assertionsDisabled", type := .boolean, accessFlags := 4120, slot := 9, constantValue := 0 }]
  methods := #[k3m0, k3m1]
  instanceTypes := #[]
  staticTypes := #[.double, .double, .double, .double, .double, .long, .long, .double, .double, .boolean]
  resolved := Array.replicate 460 none
  statics := none }

def pool4 : Array CpInfo := pool [(1, .class_ 2), (0, u "java/io/Serializable"), (0, .class_ 4), (0, u "java/lang/Object")] 2

/-- java/io/Serializable -/
def k4 : Class := { plain "java/io/Serializable" (some 0) with
  accessFlags := 1537
  interfaces := #[]
  cf := some (fileOf pool4 1 #[] #[] 1537 3 #[] #[])
  fields := #[]
  methods := #[]
  instanceTypes := #[]
  staticTypes := #[]
  resolved := Array.replicate 7 none
  statics := none }

def pool5 : Array CpInfo := pool [(2, .class_ 4), (1, u "java/lang/Object"), (0, u "<init>"), (0, u "()V"), (1, .class_ 10), (1, u "java/lang/Number"), (2, .class_ 14), (0, u "java/io/Serializable"), (0, u "serialVersionUID"), (0, u "J")] 20

def k5m0 : Method := { name := "<init>", desc := "()V", sig := { parameters := [], returnType := none }, accessFlags := 1, code := none }
/-- java/lang/Number -/
def k5 : Class := { plain "java/lang/Number" (some 0) with
  accessFlags := 1057
  interfaces := #[4]
  cf := some (fileOf pool5 8 #[] #[{ accessFlags := 1, nameIndex := 5, descriptorIndex := 6, attributes := #[] }] 1057 2 #[13] #[{ accessFlags := 26, nameIndex := 15, descriptorIndex := 16, attributes := #[] }])
  fields := #[{ name := "serialVersionUID", type := .long, accessFlags := 26, slot := 0, constantValue := 0 }]
  methods := #[k5m0]
  instanceTypes := #[]
  staticTypes := #[.long]
  resolved := Array.replicate 37 none
  statics := none }

def pool6 : Array CpInfo := pool [(1, .class_ 2), (0, u "java/lang/Comparable"), (0, .class_ 4), (0, u "java/lang/Object")] 7

/-- java/lang/Comparable -/
def k6 : Class := { plain "java/lang/Comparable" (some 0) with
  accessFlags := 1537
  interfaces := #[]
  cf := some (fileOf pool6 1 #[] #[] 1537 3 #[] #[])
  fields := #[]
  methods := #[]
  instanceTypes := #[]
  staticTypes := #[]
  resolved := Array.replicate 12 none
  statics := none }

def pool7 : Array CpInfo := pool [(1, .class_ 2), (0, u "java/lang/constant/Constable"), (0, .class_ 4), (0, u "java/lang/Object")] 6

/-- java/lang/constant/Constable -/
def k7 : Class := { plain "java/lang/constant/Constable" (some 0) with
  accessFlags := 1537
  interfaces := #[]
  cf := some (fileOf pool7 1 #[] #[] 1537 3 #[] #[])
  fields := #[]
  methods := #[]
  instanceTypes := #[]
  staticTypes := #[]
  resolved := Array.replicate 11 none
  statics := none }

def pool8 : Array CpInfo := pool [(1, .class_ 2), (0, u "java/lang/Byte"), (41, .class_ 46), (1, u "java/lang/Byte$ByteCache"), (51, .class_ 99), (0, u "java/lang/Number"), (2, u "value"), (0, u "B"), (3, u "(B)I"), (10, u "toUnsignedInt"), (16, u "TYPE"), (0, u "Ljava/lang/Class;"), (0, .class_ 138), (0, u "java/lang/Comparable"), (0, .class_ 140), (0, u "java/lang/constant/Constable"), (0, u "MIN_VALUE"), (2, u "MAX_VALUE"), (3, u "SIZE"), (0, u "I"), (1, u "BYTES"), (1, u "serialVersionUID"), (0, u "J")] 58

def k8c0 : Code := { maxStack := 2, maxLocals := 1, code := jdk_2056_method_24_code, exceptionTable := #[], attributes := #[] }
def k8m0 : Method := { name := "toUnsignedInt", desc := "(B)I", sig := { parameters := [.byte], returnType := some .int }, accessFlags := 9, code := some k8c0 }
/-- java/lang/Byte -/
def k8 : Class := { plain "java/lang/Byte" (some 5) with
  accessFlags := 49
  interfaces := #[6, 7]
  cf := some (fileOf pool8 1 #[.nestMembers #[44]] #[{ accessFlags := 9, nameIndex := 118, descriptorIndex := 107, attributes := #[] }] 49 98 #[137, 139] #[{ accessFlags := 25, nameIndex := 141, descriptorIndex := 103, attributes := #[] }, { accessFlags := 25, nameIndex := 144, descriptorIndex := 103, attributes := #[] }, { accessFlags := 25, nameIndex := 135, descriptorIndex := 136, attributes := #[] }, { accessFlags := 18, nameIndex := 102, descriptorIndex := 103, attributes := #[] }, { accessFlags := 25, nameIndex := 148, descriptorIndex := 149, attributes := #[] }, { accessFlags := 25, nameIndex := 151, descriptorIndex := 149, attributes := #[] }, { accessFlags := 26, nameIndex := 153, descriptorIndex := 154, attributes := #[] }])
  fields := #[{ name := "MIN_VALUE", type := .byte, accessFlags := 25, slot := 0, constantValue := 0 }, { name := "MAX_VALUE", type := .byte, accessFlags := 25, slot := 1, constantValue := 0 }, { name := "TYPE", type := (.object "java/lang/Class"), accessFlags := 25, slot := 2, constantValue := 0 }, { name := "value", type := .byte, accessFlags := 18, slot := 0, constantValue := 0 }, { name := "SIZE", type := .int, accessFlags := 25, slot := 3, constantValue := 0 }, { name := "BYTES", type := .int, accessFlags := 25, slot := 4, constantValue := 0 }, { name := "serialVersionUID", type := .long, accessFlags := 26, slot := 5, constantValue := 0 }]
  methods := #[k8m0]
  instanceTypes := #[.byte]
  staticTypes := #[.byte, .byte, (.object "java/lang/Class"), .int, .int, .long]
  resolved := Array.replicate 213 none
  statics := none }

def pool9 : Array CpInfo := pool [(1, u "java/lang/Cloneable"), (0, .class_ 1), (0, u "java/lang/Object"), (0, .class_ 3)] 3

/-- java/lang/Cloneable -/
def k9 : Class := { plain "java/lang/Cloneable" (some 0) with
  accessFlags := 1537
  interfaces := #[]
  cf := some (fileOf pool9 2 #[] #[] 1537 4 #[] #[])
  fields := #[]
  methods := #[]
  instanceTypes := #[]
  staticTypes := #[]
  resolved := Array.replicate 8 none
  statics := none }

/-- the primitive byte -/
def k10 : Class := { plain "byte" none with kind := .primitive 'B', accessFlags := 0x411 }
/-- [B -/
def k11 : Class := { plain "[B" (some 0) with kind := .array 10 .byte, interfaces := #[9, 4], accessFlags := 1041 }

/-- the primitive int -/
def k12 : Class := { plain "int" none with kind := .primitive 'I', accessFlags := 0x411 }
/-- [I -/
def k13 : Class := { plain "[I" (some 0) with kind := .array 12 .int, interfaces := #[9, 4], accessFlags := 1041 }

def heap : Heap := #[]
def classes : Array Class := #[k0, k1, k2, k3, k4, k5, k6, k7, k8, k9, k10, k11, k12, k13]
def interned : List (Array UInt16 × Addr) := []
def slotsUsed : Nat := 0
def theMethod : MethodId := ⟨1, 1⟩
def args0 : Array Value := #[.int 1, .int 2, .int 3, .int 4]
def aboutOver (below : List Frame) : State where
  vm := { classes := classes, interned := interned.toArray }
  heap := heap
  slotsUsed := slotsUsed
  threads := #[{ frames := .invoking theMethod args0 :: below }]
def below0 : List Frame := [.native { method := ⟨0, 0⟩, args := #[] }]
def about1 : State := aboutOver below0
def p0 : Program := .bare "" "" ""
def e0 : Env := launch0.env 0 0 0
theorem w_frames : about1.frames = Frame.invoking theMethod args0 :: below0 := rfl
set_option maxRecDepth 65536 in
theorem w_args : argsFit about1.vm theMethod args0 = true := by decide +kernel
set_option maxRecDepth 65536 in
theorem w_heap : heapFits about1 = true := by decide +kernel
set_option maxRecDepth 65536 in
theorem w_runnable : about1.curStatus? = some .runnable := by decide +kernel
set_option maxRecDepth 65536 in
theorem w_alone : about1.alone = true := by decide +kernel
set_option maxRecDepth 65536 in
theorem w_named : about1.methodNamed? x = some theMethod := by decide +kernel
set_option maxRecDepth 65536 in
theorem w_hears : about1.hears theMethod below0 = true := by decide +kernel
set_option maxRecDepth 65536 in
theorem w_ripe : about1.ripe theMethod args0 below0 = true := by decide +kernel
theorem w_running : about1.status = .running := rfl
set_option maxRecDepth 65536 in
theorem w_room : about1.hasRoom e0.platform room_1 = true :=
  launch0.hasRoom_least _ room_1 (by decide +kernel) (by decide +kernel) (by decide +kernel) (by decide +kernel) (by decide +kernel) (by decide +kernel)
theorem allAtoms_all (ts : List Jvm.Cond) (a : Array Jvm.Value) (st : Jvm.State) : (allAtoms ts).before a st = ts.all (fun c => c.before a st) := by
  induction ts with
  | nil => rfl
  | cons c t ih =>
    show (Jvm.Cond.and c (allAtoms t)).before a st = _
    rw [Jvm.Cond.before_and, ih, List.all_cons]
def words1 : List Jvm.Cond := Jvm.Cond.code x code maxLocals ret :: tables_1
/-- a 'code' word, met by the world's own term for the bytes: nothing is compared byte by byte -/
theorem code_word {y : MethodName} {bytes : ByteArray} {mx : Nat} {rt : Option FieldType} {a : Array Value} {s : State} {m : MethodId} {meth : Method} {c : Code} (h1 : s.methodNamed? y = some m) (h2 : s.vm.method? m = some meth) (h3 : meth.code = some c) (h4 : c.code = bytes)
    (h5 : (c.maxLocals == mx && c.exceptionTable.isEmpty && decide (c.maxStack ≤ mostOperands) && decide (meth.sig.returnType = rt) && !meth.locks && decide (parseMethodDescriptor y.desc = some meth.sig)) = true) : (Jvm.Cond.code y bytes mx rt).before a s = true := by
  simp only [Bool.and_eq_true, beq_iff_eq, Bool.not_eq_true', decide_eq_true_eq] at h5
  obtain ⟨⟨⟨⟨⟨g1, g2⟩, g3⟩, g4⟩, g5⟩, g6⟩ := h5
  simp [Cond.before, Cond.holds, Cond.value, h1, h2, h3, h4, g1, g2, g3, g4, g5, g6]
def isCode : Jvm.Cond → Bool
  | .code _ _ _ _ => true
  | _ => false
theorem all_split {L : List Jvm.Cond} {P : Jvm.Cond → Bool} (h1 : L.all (fun c => isCode c || P c) = true) (h2 : ∀ c ∈ L.filter isCode, P c = true) : L.all P = true := by
  refine List.all_eq_true.mpr fun c hc => ?_
  have h := List.all_eq_true.mp h1 c hc
  rcases Bool.eq_false_or_eq_true (isCode c) with hi | hi
  · exact h2 c (List.mem_filter.mpr ⟨hc, hi⟩)
  · simpa [hi] using h
set_option maxRecDepth 65536 in
theorem w_c0 : (Jvm.Cond.code x code maxLocals ret).before args0 about1 = true := code_word (m := ⟨1, 1⟩) (meth := k1m1) (c := k1c1) (by decide +kernel) rfl rfl rfl (by decide +kernel)
set_option maxRecDepth 65536 in
theorem w_c1 : (Jvm.Cond.code ({ cls := "com/example/unand/unand/model/AddressCycles", name := "<init>", desc := "(II)V" } : Jvm.MethodName) prog_31_method_1_code (3 : Nat) (Option.none : Option Jvm.ClassFile.FieldType)).before args0 about1 = true := code_word (m := ⟨2, 0⟩) (meth := k2m0) (c := k2c0) (by decide +kernel) rfl rfl rfl (by decide +kernel)
set_option maxRecDepth 65536 in
theorem w_c2 : (Jvm.Cond.code ({ cls := "com/example/unand/unand/model/AddressCycles", name := "<init>", desc := "(IIZ)V" } : Jvm.MethodName) prog_31_method_2_code (4 : Nat) (Option.none : Option Jvm.ClassFile.FieldType)).before args0 about1 = true := code_word (m := ⟨2, 1⟩) (meth := k2m1) (c := k2c1) (by decide +kernel) rfl rfl rfl (by decide +kernel)
set_option maxRecDepth 65536 in
theorem w_c3 : (Jvm.Cond.code ({ cls := "java/lang/Object", name := "<init>", desc := "()V" } : Jvm.MethodName) object_method_1_code (1 : Nat) (Option.none : Option Jvm.ClassFile.FieldType)).before args0 about1 = true := code_word (m := ⟨0, 0⟩) (meth := k0m0) (c := k0c0) (by decide +kernel) rfl rfl rfl (by decide +kernel)
set_option maxRecDepth 65536 in
theorem w_c4 : (Jvm.Cond.code ({ cls := "com/example/unand/unand/model/AddressCycles", name := "complete", desc := "()Z" } : Jvm.MethodName) prog_31_method_4_code (1 : Nat) (Option.some Jvm.ClassFile.FieldType.boolean)).before args0 about1 = true := code_word (m := ⟨2, 2⟩) (meth := k2m2) (c := k2c2) (by decide +kernel) rfl rfl rfl (by decide +kernel)
set_option maxRecDepth 65536 in
theorem w_c5 : (Jvm.Cond.code ({ cls := "com/example/unand/unand/model/AddressCycles", name := "take", desc := "(B)V" } : Jvm.MethodName) prog_31_method_6_code (3 : Nat) (Option.none : Option Jvm.ClassFile.FieldType)).before args0 about1 = true := code_word (m := ⟨2, 3⟩) (meth := k2m3) (c := k2c3) (by decide +kernel) rfl rfl rfl (by decide +kernel)
set_option maxRecDepth 65536 in
theorem w_c6 : (Jvm.Cond.code ({ cls := "java/lang/Math", name := "min", desc := "(II)I" } : Jvm.MethodName) jdk_29_method_69_code (2 : Nat) (Option.some Jvm.ClassFile.FieldType.int)).before args0 about1 = true := code_word (m := ⟨3, 1⟩) (meth := k3m1) (c := k3c1) (by decide +kernel) rfl rfl rfl (by decide +kernel)
set_option maxRecDepth 65536 in
theorem w_c7 : (Jvm.Cond.code ({ cls := "java/lang/Byte", name := "toUnsignedInt", desc := "(B)I" } : Jvm.MethodName) jdk_2056_method_24_code (1 : Nat) (Option.some Jvm.ClassFile.FieldType.int)).before args0 about1 = true := code_word (m := ⟨8, 0⟩) (meth := k8m0) (c := k8c0) (by decide +kernel) rfl rfl rfl (by decide +kernel)
def codes1 : List Jvm.Cond := [Jvm.Cond.code x code maxLocals ret, Jvm.Cond.code ({ cls := "com/example/unand/unand/model/AddressCycles", name := "<init>", desc := "(II)V" } : Jvm.MethodName) prog_31_method_1_code (3 : Nat) (Option.none : Option Jvm.ClassFile.FieldType), Jvm.Cond.code ({ cls := "com/example/unand/unand/model/AddressCycles", name := "<init>", desc := "(IIZ)V" } : Jvm.MethodName) prog_31_method_2_code (4 : Nat) (Option.none : Option Jvm.ClassFile.FieldType), Jvm.Cond.code ({ cls := "java/lang/Object", name := "<init>", desc := "()V" } : Jvm.MethodName) object_method_1_code (1 : Nat) (Option.none : Option Jvm.ClassFile.FieldType), Jvm.Cond.code ({ cls := "com/example/unand/unand/model/AddressCycles", name := "complete", desc := "()Z" } : Jvm.MethodName) prog_31_method_4_code (1 : Nat) (Option.some Jvm.ClassFile.FieldType.boolean), Jvm.Cond.code ({ cls := "com/example/unand/unand/model/AddressCycles", name := "take", desc := "(B)V" } : Jvm.MethodName) prog_31_method_6_code (3 : Nat) (Option.none : Option Jvm.ClassFile.FieldType), Jvm.Cond.code ({ cls := "java/lang/Math", name := "min", desc := "(II)I" } : Jvm.MethodName) jdk_29_method_69_code (2 : Nat) (Option.some Jvm.ClassFile.FieldType.int), Jvm.Cond.code ({ cls := "java/lang/Byte", name := "toUnsignedInt", desc := "(B)I" } : Jvm.MethodName) jdk_2056_method_24_code (1 : Nat) (Option.some Jvm.ClassFile.FieldType.int)]
set_option maxRecDepth 65536 in
theorem codes_eq : words1.filter isCode = codes1 := rfl
theorem w_codes : ∀ c ∈ words1.filter isCode, c.before args0 about1 = true := by
  rw [codes_eq]
  intro c hc
  simp only [codes1, List.mem_cons, List.not_mem_nil, or_false] at hc
  rcases hc with rfl | rfl | rfl | rfl | rfl | rfl | rfl | rfl
  · exact w_c0
  · exact w_c1
  · exact w_c2
  · exact w_c3
  · exact w_c4
  · exact w_c5
  · exact w_c6
  · exact w_c7
set_option maxRecDepth 65536 in
theorem w_t1 : (words1.take 24).all (fun c => isCode c || c.before args0 about1) = true := by decide +kernel
set_option maxRecDepth 65536 in
theorem w_t2 : (words1.drop 24).all (fun c => isCode c || c.before args0 about1) = true := by decide +kernel
theorem w_tables : (allAtoms (Jvm.Cond.code x code maxLocals ret :: tables_1)).before args0 about1 = true := by
  rw [allAtoms_all]
  show words1.all (fun c => c.before args0 about1) = true
  refine all_split ?_ w_codes
  rw [← List.take_append_drop 24 words1, List.all_append, w_t1, w_t2]
  rfl
set_option maxRecDepth 65536 in
theorem w_case : (Jvm.Cond.and given_1 narrow_1).before args0 about1 = true := by decide +kernel
theorem w_applies : (headSpec (Jvm.Cond.code x code maxLocals ret :: tables_1) room_1).applies x e0.platform about1 = true :=
  (Spec.applies_iff w_frames).mpr ⟨w_running, w_runnable, w_alone, w_named, w_hears, w_ripe, w_room, w_tables⟩
theorem atStart : AtStart classFile x code maxLocals ret World_1 tables_1 room_1 Calls_1 rest_1 Pre_1 launch0 p0 e0 about1 theMethod args0 below0 :=
  ⟨lists_1, trivial, launch0.admits_env _ _ _, launch0.least_env, fairChoices_fair.cas, fairChoices_fair.clock, w_frames, w_args, w_heap, w_applies, trivial, trivial, w_case⟩
end start1
theorem witness_1 : WitnessClaimed_1 := ⟨start1.p0, start1.e0, start1.about1, start1.theMethod, start1.args0, start1.below0, start1.atStart⟩
end Jvm.Pilot.@@N@@
