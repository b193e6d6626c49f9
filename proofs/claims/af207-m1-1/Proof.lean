import JvmDerived
import JvmDerived.Pilot.@@N@@Statement
import JvmDerived.Pilot.@@N@@Code
set_option linter.unusedVariables false
set_option linter.unusedSimpArgs false
namespace Jvm.RoadKit
open Sem ClassFile Op Lib Jvm.Stand Jvm.Free Jvm.LawKit
section New
variable {p : Program} {l : Launch} {e : Env} {R : Room} {s : State} {m : MethodId} {args : Array Value} {below : List Frame} {meth : Method} {c : Code} {T : State} {locs : List Loc} {cells slots : Nat}
theorem retI (X : Stand p l e R s m args below meth c T locs cells slots) (hx : p.tables.exec = Jvm.exec) {pc : Nat} {Ls : Array Slot} {z : Int32} {rest : List Value} (hret : meth.sig.returnType = some .int) (hd : decode c.code pc = .ok (.ireturn, 1)) {fs : List Frame}
    (hl : ∀ (f : JFrame) (acts : List Action), f.method = m → f.locked = none → f.entered = [] → (doReturn e (T.setTop f) acts (some (.int z))).1 = T.setFrames fs) : Steps p.tables e below (T.setTop (mkF m pc Ls (.int z :: rest))) (T.setFrames fs) := by
  have hm' : T.vm.method? m = some meth := X.method'
  have hn : narrow .int (.int z) = .int z := rfl
  show Steps p.tables e below (T.setTop { method := m, pc := pc, locals := Ls, stack := _ :: rest, locked := none }) _
  jvm_step X.here [X.here.top, hx, hd, hm', hret, hn]
  first | (intro acts; rw [hl _ acts rfl rfl rfl]) | rw [hl _ _ rfl rfl rfl]
  exact Steps.refl _
end New
end Jvm.RoadKit
namespace Jvm.Pilot.@@N@@
open Jvm Jvm.ClassFile Sem Op Lib Jvm.Free Jvm.Stand Jvm.LawKit Jvm.RoadKit Bundle Jvm.Pilot.@@N@@.Jvm.D
def Av (Z : State) (h : Heap) (a : Addr) (ty : FieldType) (n : Int32) (vs : List Value) (d : Value) : Prop := ∃ k, Arv Z h a k ty n vs d
theorem Av.lt {Z : State} {h : Heap} {a : Addr} {ty : FieldType} {n : Int32} {vs : List Value} {d : Value} (F : Av Z h a ty n vs d) : a < h.size := by obtain ⟨k, F⟩ := F; exact F.lt
theorem Av.ext {Z : State} {h h' : Heap} {a : Addr} {ty : FieldType} {n : Int32} {vs : List Value} {d : Value} (F : Av Z h a ty n vs d) (E : Ext h h') : Av Z h' a ty n vs d := by obtain ⟨k, F⟩ := F; exact ⟨k, F.ext E⟩
theorem Av.other {Z : State} {h h' : Heap} {a b : Addr} {ty : FieldType} {n : Int32} {vs : List Value} {d : Value} {sl : Nat} {v : Value} (F : Av Z h b ty n vs d) (W : Wr h h' a sl v) (q : b ≠ a) : Av Z h' b ty n vs d := by obtain ⟨k, F⟩ := F; exact ⟨k, F.other W q⟩
def Al (Z : State) (h : Heap) (a : Addr) (ty : FieldType) (n : Int32) : Prop := ∃ c : Cell, Arr Z h a c ty ∧ c.slots.size = n.toNatClampNeg ∧ ¬ n < 0
theorem Al.lt {Z : State} {h : Heap} {a : Addr} {ty : FieldType} {n : Int32} (F : Al Z h a ty n) : a < h.size := by obtain ⟨c, A, -⟩ := F; exact A.lt
theorem Al.ext {Z : State} {h h' : Heap} {a : Addr} {ty : FieldType} {n : Int32} (F : Al Z h a ty n) (E : Ext h h') : Al Z h' a ty n := by obtain ⟨c, A, r⟩ := F; exact ⟨c, A.ext E, r⟩
theorem Al.other {Z : State} {h h' : Heap} {a b : Addr} {ty : FieldType} {n : Int32} {sl : Nat} {v : Value} (F : Al Z h b ty n) (W : Wr h h' a sl v) (q : b ≠ a) : Al Z h' b ty n := by obtain ⟨c, A, r⟩ := F; exact ⟨c, A.other W q, r⟩
theorem Al.same {Z : State} {h h' : Heap} {a : Addr} {ty : FieldType} {n : Int32} {sl : Nat} {v : Value} (F : Al Z h a ty n) (W : Wr h h' a sl v) : Al Z h' a ty n := by obtain ⟨c, A, r⟩ := F; exact ⟨_, A.same W, by rw [sz_set]; exact r.1, r.2⟩
theorem Al.keep {Z : State} {h h' : Heap} {a : Addr} {ty : FieldType} {n : Int32} {ws : List Addr} (F : Al Z h a ty n) (K : Keep h h' ws) (q : a ∉ ws) : Al Z h' a ty n := by obtain ⟨c, A, r⟩ := F; exact ⟨c, ⟨K.2.1 a c A.1 q, A.2⟩, r⟩
theorem Av.al {Z : State} {h : Heap} {a : Addr} {ty : FieldType} {n : Int32} {vs : List Value} {d : Value} (F : Av Z h a ty n vs d) : Al Z h a ty n := by obtain ⟨k, c, A, -, r1, r2, -⟩ := F; exact ⟨c, A, r1, r2⟩
theorem Av.keep {Z : State} {h h' : Heap} {a : Addr} {ty : FieldType} {n : Int32} {vs : List Value} {d : Value} {ws : List Addr} (F : Av Z h a ty n vs d) (K : Keep h h' ws) (q : a ∉ ws) : Av Z h' a ty n vs d := by obtain ⟨k, F⟩ := F; exact ⟨k, F.keep K q⟩
abbrev MN1 : MethodName := ⟨"java/lang/Math", "max", "(II)I"⟩
abbrev MN2 : MethodName := ⟨"com/example/arbiter/bench/Workload", "<init>", "(II)V"⟩
abbrev MN4 : MethodName := ⟨"com/example/arbiter/bench/Workload", "assigned", "(I)[I"⟩
theorem own_f (u r : Int32) (hu : 0 ≤ u.toInt) (hr : 0 < r.toInt) : ((u.toInt64) - (((u.toInt64) / (r.toInt64)) * (r.toInt64))) = (u % r).toInt64 := by
  rw [lrem_mod]
  apply Int64.toInt_inj.mp
  rw [Int64.toInt_mod, c_i2l, c_i2l, c_i2l, Int32.toInt_mod]
theorem own_m (u r : Int) (hu : 0 ≤ u) (hr : 0 < r) : (7 * (u % r) + 3) % r = (7 * u + 3) % r := by
  rw [Int.add_emod, Int.mul_emod, Int.emod_emod_of_dvd u (Int.dvd_refl r), ← Int.mul_emod, ← Int.add_emod]
theorem own_l (x : Int32) (h : 0 ≤ x.toInt) : (((7 : Int64) * (x.toInt64)) + (3 : Int64)).toInt = 7 * x.toInt + 3 := by
  have q1 := c_ladd ((7 : Int64) * (x.toInt64)) 3
  have q2 := c_lmul 7 (x.toInt64)
  have q3 := rng64 (((7 : Int64) * (x.toInt64)) + (3 : Int64))
  have q4 := rng64 ((7 : Int64) * (x.toInt64))
  have q5 := rng32 x
  rw [c_i2l] at q2
  simp only [Int64.reduceToInt] at *
  omega
theorem own_s (u r : Int32) (hu : 0 ≤ u.toInt) (hr : 0 < r.toInt) : ((((7 : Int64) * ((u % r).toInt64)) + (3 : Int64)) % (r.toInt64)) = (((((7 : Int64) * (u.toInt64)) + (3 : Int64)) % (r.toInt64)).toInt32).toInt64 := by
  have hm := (c_iremV u r).1 hu hr
  have e1 := own_l u hu
  have e2 := own_l (u % r) hm.1
  have em : (u % r).toInt = u.toInt % r.toInt := by rw [Int32.toInt_mod, Int.tmod_eq_emod_of_nonneg hu]
  have t1 : ((((7 : Int64) * (u.toInt64)) + (3 : Int64)) % (r.toInt64)).toInt = (7 * u.toInt + 3) % r.toInt := by rw [Int64.toInt_mod, e1, c_i2l, Int.tmod_eq_emod_of_nonneg (by omega)]
  have t2 : ((((7 : Int64) * ((u % r).toInt64)) + (3 : Int64)) % (r.toInt64)).toInt = (7 * u.toInt + 3) % r.toInt := by rw [Int64.toInt_mod, e2, c_i2l, Int.tmod_eq_emod_of_nonneg (by omega), em, own_m _ _ hu hr]
  have b1 := Int.emod_nonneg (7 * u.toInt + 3) (b := r.toInt) (by omega)
  have b2 := Int.emod_lt_of_pos (7 * u.toInt + 3) hr
  have b3 := rng32 r
  apply Int64.toInt_inj.mp
  rw [c_i2l, t2]
  have q := c_l2i ((((7 : Int64) * (u.toInt64)) + (3 : Int64)) % (r.toInt64))
  have q2 := rng32 (((((7 : Int64) * (u.toInt64)) + (3 : Int64)) % (r.toInt64)).toInt32)
  rw [t1] at q
  omega
theorem own_z (r : Int32) (hr : 0 < r.toInt) : r ≠ (0 : Int32) := fun q => by subst q; revert hr; decide
theorem own_zl (r : Int32) (hr : 0 < r.toInt) : (r.toInt64) ≠ (0 : Int64) := fun q => by
  have : (r.toInt64).toInt = 0 := by rw [q]; rfl
  rw [c_i2l] at this; omega
theorem own_r1 (x : Int32) : 0 < ((x &&& 7) + 1).toInt := by
  have q := c_mask x 7 3 (by decide) (by decide)
  have q1 := c_iadd (x &&& 7) 1
  have q2 := rng32 ((x &&& 7) + 1)
  simp only [Int32.reduceToInt] at *
  omega
theorem own_r2 (x : Int32) : 0 < (if (1 : Int32) < x then x else 1).toInt := by
  split
  · rename_i h; rw [Int32.lt_iff_toInt_lt] at h; simp only [Int32.reduceToInt] at h; omega
  · decide
theorem own_u (x : Int32) : 0 ≤ (x &&& 2147483647).toInt := by
  have q := c_mask x 2147483647 31 (by decide) (by decide)
  omega
theorem own_i2l (x y : Int32) : (x.toInt64 = y.toInt64) ↔ x = y := ⟨fun h => Int32.toInt_inj.mp (by rw [← c_i2l x, ← c_i2l y, h]), fun h => by rw [h]⟩
theorem own_lc (x y : Int32) : (lcmpW (x.toInt64) (y.toInt64)) = (0 : Int32) ↔ x = y := (lw_eq _ _).trans (own_i2l x y)
theorem d1_0 : decode jdk_29_method_65_code 0 = .ok (.iload_n 0, 1) := by decide +kernel
theorem d1_1 : decode jdk_29_method_65_code 1 = .ok (.iload_n 1, 1) := by decide +kernel
theorem d1_2 : decode jdk_29_method_65_code 2 = .ok (.if_icmp .lt 7, 3) := by decide +kernel
theorem d1_9 : decode jdk_29_method_65_code 9 = .ok (.iload_n 1, 1) := by decide +kernel
theorem d1_10 : decode jdk_29_method_65_code 10 = .ok (.ireturn, 1) := by decide +kernel
theorem d1_5 : decode jdk_29_method_65_code 5 = .ok (.iload_n 0, 1) := by decide +kernel
theorem d1_6 : decode jdk_29_method_65_code 6 = .ok (.goto 4, 3) := by decide +kernel
theorem ef_rm1 (m : MethodId) (x0 : Int32) (x1 : Int32) : entryFrame m #[(.int x0), (.int x1)] 2 = mkF m 0 #[iv x0, iv x1] [] := by first | (simp [entryFrame, mkF, argsToLocals, Value.category]; done) | rfl
def Q_rm1 (Z : State) (p1_0 : Int32) (p1_1 : Int32) (h0 : Heap) (n0 : Nat) (v : Option Value) (h : Heap) (L : List Loc) : Prop := v = some (.int (if p1_0 < p1_1 then p1_1 else p1_0)) ∧ Fr n0 L ∧ h = h0
set_option maxRecDepth 65536 in
set_option maxHeartbeats 40000000 in
theorem rm1 (l : Launch) (Z : State) (a0 : Array Value) (hw : ∀ d ∈ tables_1, d.before a0 Z = true) (ws : List Jvm.Cond) (p1_0 : Int32) (p1_1 : Int32) (h0 : Heap) (n0 : Nat) (Z0 : n0 ≤ h0.size) :
    MetFree l (⟨"java/lang/Math", "max", "(II)I"⟩ : MethodName) (head1 (Jvm.Cond.code (⟨"java/lang/Math", "max", "(II)I"⟩ : MethodName) jdk_29_method_65_code 2 (some .int) :: ws) ({ frames := 0, cells := 0, slots := 0, locals := 0 } : Room)) (fun a U => a = #[(.int p1_0), (.int p1_1)] ∧ Z.Warmed39 U.vm ∧ U.heap = h0) (fun _ _ _ _ _ => True) (fun _ U o U' => ∃ v L, o = .returned v ∧ Q_rm1 Z p1_0 p1_1 h0 n0 v U'.heap L ∧ FrameEnd U o U' L ({ frames := 0, cells := 0, slots := 0, locals := 0 } : Room).cells ({ frames := 0, cells := 0, slots := 0, locals := 0 } : Room).slots) := by
  refine MetFree.of_bodySF (Jvm.Free.JP.mathPlain rfl (by decide +kernel)) hisR ?_
  intro p e s m args below meth c s₁ Bd hml0 hP hK
  obtain ⟨rfl, hZ, hh⟩ := hP
  have hx := Bd.exec
  have hby := Bd.bytes
  have hml : c.maxLocals = 2 := hml0
  have hown : s.vm.findClass "java/lang/Math" = some m.cls := findClass_of_methodNamed Bd.named
  have hnm := (name_of_methodNamed Bd.named Bd.method).1
  have X0 : Stand p l e ({ frames := 0, cells := 0, slots := 0, locals := 0 } : Room) s m #[(.int p1_0), (.int p1_1)] below meth c s₁ [] 0 0 := Stand.of_body Bd
  have e0 : s₁.heap = h0 := by rw [← hh, Bd.state]; rfl
  have N0 := Fr.nil n0
  have pre0 : ∀ t, Steps p.tables e below (s₁.setTop (mkF m 0 #[iv p1_0, iv p1_1] [])) t → Steps p.tables e below (s₁.setTop (entryFrame m #[(.int p1_0), (.int p1_1)] 2)) t := fun t k => castTop (ef_rm1 m p1_0 p1_1) k
  have pre2 : ∀ t, Steps p.tables e below (s₁.setTop (mkF m 2 #[iv p1_0, iv p1_1] [(.int p1_1), (.int p1_0)])) t → Steps p.tables e below (s₁.setTop (entryFrame m #[(.int p1_0), (.int p1_1)] 2)) t := by
    intro t_ k_
    refine pre0 _ ?_
    show Steps p.tables e below (s₁.setTop (mkF m 0 #[iv p1_0, iv p1_1] [])) _
    refine XS.iloadN X0.here hx rfl (hb hby d1_0) rfl ?_
    show Steps p.tables e below (s₁.setTop (mkF m 1 #[iv p1_0, iv p1_1] [(.int p1_0)])) _
    refine XS.iloadN X0.here hx rfl (hb hby d1_1) rfl ?_
    exact k_
  by_cases hc2_1 : p1_0 < p1_1
  · skip
    obtain ⟨fs, hr, hrun, hended, hW, hsame⟩ := X0.leave (v := some (.int p1_1)) (fun h => by rw [Bd.returns] at h; cases h)
    refine ⟨_, _, pre2 _ ?_, hrun, hended, _, _, rfl, ?_, ⟨_, rfl⟩, hW, hsame.mono (by decide) (by decide)⟩
    · show Steps p.tables e below (s₁.setTop (mkF m 2 #[iv p1_0, iv p1_1] [(.int p1_1), (.int p1_0)])) _
      refine XS.icmpYes X0.here hx rfl (pc0 := 2) (pc' := 9) rfl (hb hby d1_2) rfl (tlt hc2_1).1 (by decide) (by decide) ?_
      show Steps p.tables e below (s₁.setTop (mkF m 9 #[iv p1_0, iv p1_1] [])) _
      refine XS.iloadN X0.here hx rfl (hb hby d1_9) rfl ?_
      show Steps p.tables e below (s₁.setTop (mkF m 10 #[iv p1_0, iv p1_1] [(.int p1_1)])) _
      exact retI X0 hx Bd.returns (hb hby d1_10) hr
    · show Q_rm1 Z _ _ h0 n0 _ s₁.heap _
      rw [e0]
      exact ⟨(by first | rfl | (simp [*]; done) | (simp_all; done)), N0, rfl⟩
  · skip
    obtain ⟨fs, hr, hrun, hended, hW, hsame⟩ := X0.leave (v := some (.int p1_0)) (fun h => by rw [Bd.returns] at h; cases h)
    refine ⟨_, _, pre2 _ ?_, hrun, hended, _, _, rfl, ?_, ⟨_, rfl⟩, hW, hsame.mono (by decide) (by decide)⟩
    · show Steps p.tables e below (s₁.setTop (mkF m 2 #[iv p1_0, iv p1_1] [(.int p1_1), (.int p1_0)])) _
      refine XS.icmpNo X0.here hx rfl (hb hby d1_2) rfl (flt hc2_1).1 ?_
      show Steps p.tables e below (s₁.setTop (mkF m 5 #[iv p1_0, iv p1_1] [])) _
      refine XS.iloadN X0.here hx rfl (hb hby d1_5) rfl ?_
      show Steps p.tables e below (s₁.setTop (mkF m 6 #[iv p1_0, iv p1_1] [(.int p1_0)])) _
      refine XS.goto X0.here hx rfl (pc0 := 6) (pc' := 10) rfl (hb hby d1_6) (by decide) (by decide) ?_
      show Steps p.tables e below (s₁.setTop (mkF m 10 #[iv p1_0, iv p1_1] [(.int p1_0)])) _
      exact retI X0 hx Bd.returns (hb hby d1_10) hr
    · show Q_rm1 Z _ _ h0 n0 _ s₁.heap _
      rw [e0]
      exact ⟨(by first | rfl | (simp [*]; done) | (simp_all; done)), N0, rfl⟩
theorem d2_0 : decode prog_61_method_1_code 0 = .ok (.aload_n 0, 1) := by decide +kernel
theorem d2_1 : decode prog_61_method_1_code 1 = .ok (.invokespecial 1, 3) := by decide +kernel
theorem d2_4 : decode prog_61_method_1_code 4 = .ok (.iload_n 1, 1) := by decide +kernel
theorem d2_5 : decode prog_61_method_1_code 5 = .ok (.iconst 1, 1) := by decide +kernel
theorem d2_6 : decode prog_61_method_1_code 6 = .ok (.if_icmp .lt 8, 3) := by decide +kernel
theorem d2_9 : decode prog_61_method_1_code 9 = .ok (.iload_n 2, 1) := by decide +kernel
theorem d2_10 : decode prog_61_method_1_code 10 = .ok (.iconst 1, 1) := by decide +kernel
theorem d2_11 : decode prog_61_method_1_code 11 = .ok (.if_icmp .ge 13, 3) := by decide +kernel
theorem d2_24 : decode prog_61_method_1_code 24 = .ok (.aload_n 0, 1) := by decide +kernel
theorem d2_25 : decode prog_61_method_1_code 25 = .ok (.iload_n 1, 1) := by decide +kernel
theorem d2_26 : decode prog_61_method_1_code 26 = .ok (.putfield 14, 3) := by decide +kernel
theorem d2_29 : decode prog_61_method_1_code 29 = .ok (.aload_n 0, 1) := by decide +kernel
theorem d2_30 : decode prog_61_method_1_code 30 = .ok (.iload_n 2, 1) := by decide +kernel
theorem d2_31 : decode prog_61_method_1_code 31 = .ok (.putfield 20, 3) := by decide +kernel
theorem d2_34 : decode prog_61_method_1_code 34 = .ok (.return_, 1) := by decide +kernel
theorem pn_com_example_arbiter_bench_Workload : plainName "com/example/arbiter/bench/Workload" = true := by first | (simp [plainName, overriddenIn]; done) | decide +kernel
theorem ef_rm2 (m : MethodId) (x0 : Addr) (x1 : Int32) (x2 : Int32) : entryFrame m #[(.ref x0), (.int x1), (.int x2)] 3 = mkF m 0 #[rv x0, iv x1, iv x2] [] := by first | (simp [entryFrame, mkF, argsToLocals, Value.category]; done) | rfl
def Q_rm2 (Z : State) (a2_0 : Addr) (ro : Int32) (h0 : Heap) (n0 : Nat) (v : Option Value) (h : Heap) (L : List Loc) : Prop := v = none ∧ Fr n0 L ∧ Keep h0 h [a2_0] ∧ (Fld Z h a2_0 "com/example/arbiter/bench/Workload" "roles" "I" (.int ro))
set_option maxRecDepth 65536 in
set_option maxHeartbeats 40000000 in
theorem rm2 (l : Launch) (Z : State) (a0 : Array Value) (hw : ∀ d ∈ tables_1, d.before a0 Z = true) (ws : List Jvm.Cond) (a2_0 : Addr) (ro : Int32) (h0 : Heap) (n0 : Nat) (Z0 : n0 ≤ h0.size) (pf_E_a2_0 : Exa Z h0 a2_0 "com/example/arbiter/bench/Workload") (pf_G_a2_0 : n0 ≤ a2_0) (pf_F_a2_0_roles : Fld Z h0 a2_0 "com/example/arbiter/bench/Workload" "roles" "I" (.int (0 : Int32))) (pf_F_a2_0_users : Fld Z h0 a2_0 "com/example/arbiter/bench/Workload" "users" "I" (.int (0 : Int32))) (hro : ¬ (ro < (1 : Int32))) :
    MetFree l (⟨"com/example/arbiter/bench/Workload", "<init>", "(II)V"⟩ : MethodName) (head1 (Jvm.Cond.code (⟨"com/example/arbiter/bench/Workload", "<init>", "(II)V"⟩ : MethodName) prog_61_method_1_code 3 none :: ws) ({ frames := 1, cells := 0, slots := 0, locals := 12 } : Room)) (fun a U => a = #[(.ref a2_0), (.int ro), (.int (1 : Int32))] ∧ Z.Warmed39 U.vm ∧ U.heap = h0) (fun _ _ _ _ _ => True) (fun _ U o U' => ∃ v L, o = .returned v ∧ Q_rm2 Z a2_0 ro h0 n0 v U'.heap L ∧ FrameEnd U o U' L ({ frames := 1, cells := 0, slots := 0, locals := 12 } : Room).cells ({ frames := 1, cells := 0, slots := 0, locals := 12 } : Room).slots) := by
  refine MetFree.of_bodySF (plainFor_of_name pn_com_example_arbiter_bench_Workload) hisR ?_
  intro p e s m args below meth c s₁ Bd hml0 hP hK
  obtain ⟨rfl, hZ, hh⟩ := hP
  have hx := Bd.exec
  have hby := Bd.bytes
  have hml : c.maxLocals = 3 := hml0
  have hown : s.vm.findClass "com/example/arbiter/bench/Workload" = some m.cls := findClass_of_methodNamed Bd.named
  have hnm := (name_of_methodNamed Bd.named Bd.method).1
  have X0 : Stand p l e ({ frames := 1, cells := 0, slots := 0, locals := 12 } : Room) s m #[(.ref a2_0), (.int ro), (.int (1 : Int32))] below meth c s₁ [] 0 0 := Stand.of_body Bd
  have e0 : s₁.heap = h0 := by rw [← hh, Bd.state]; rfl
  have N0 := Fr.nil n0
  have pre0 : ∀ t, Steps p.tables e below (s₁.setTop (mkF m 0 #[rv a2_0, iv ro, iv (1 : Int32)] [])) t → Steps p.tables e below (s₁.setTop (entryFrame m #[(.ref a2_0), (.int ro), (.int (1 : Int32))] 3)) t := fun t k => castTop (ef_rm2 m a2_0 ro (1 : Int32)) k
  have wo6 := hw _ (List.mem_of_getElem? (i := 6) rfl)
  have wo11 := hw _ (List.mem_of_getElem? (i := 11) rfl)
  have wo12 := hw _ (List.mem_of_getElem? (i := 12) rfl)
  have wo13 := hw _ (List.mem_of_getElem? (i := 13) rfl)
  have wo14 := hw _ (List.mem_of_getElem? (i := 14) rfl)
  have wo15 := hw _ (List.mem_of_getElem? (i := 15) rfl)
  have wo16 := hw _ (List.mem_of_getElem? (i := 16) rfl)
  have wo17 := hw _ (List.mem_of_getElem? (i := 17) rfl)
  obtain ⟨T1, X1, e1, st1⟩ := initO X0 hx hZ hown wo11 wo12 wo13 e0 (g := (mkF m 1 #[rv a2_0, iv ro, iv (1 : Int32)] [(.ref a2_0)])) rfl (by rw [hml]; rfl) rfl (hb hby d2_1) (by decide) (W := 0) (by show 2 * 0 + _ ≤ _; exact Nat.le_of_eq rfl) (by decide)
  obtain ⟨T2, h2, X2, e2, W2, st2⟩ := putF X1 hx hZ hown (host := "") (Or.inl wo14) Via.refl e1 pf_F_a2_0_roles pf_E_a2_0 (Or.inr ⟨wo15, rfl, hnm⟩) wo6 (ty := .int) (by decide) rfl rfl (g := (mkF m 26 #[rv a2_0, iv ro, iv (1 : Int32)] [(.int ro), (.ref a2_0)])) rfl rfl (hb hby d2_26)
  have K3 : Keep h0 h2 [a2_0] := (Keep.refl h0 [a2_0]).wr W2 (Or.inl (List.mem_of_getElem? (i := 0) rfl))
  have f4 : Fld Z h2 a2_0 "com/example/arbiter/bench/Workload" "roles" "I" (.int ro) := pf_F_a2_0_roles.same W2
  have N5 := Fr.snoc X2 N0 pf_G_a2_0
  have f6 := (pf_F_a2_0_users.other W2 (Or.inr (slot_ne (Or.inr wo17) (Or.inr wo15) (by decide) (t := .int) (t' := .int) (by decide) (by decide))))
  have f7 := (pf_E_a2_0.wr W2)
  obtain ⟨T8, h8, X8, e8, W8, st8⟩ := putF X2 hx hZ hown (host := "") (Or.inl wo16) Via.refl e2 f6 f7 (Or.inr ⟨wo17, rfl, hnm⟩) wo6 (ty := .int) (by decide) rfl rfl (g := (mkF m 31 #[rv a2_0, iv ro, iv (1 : Int32)] [(.int (1 : Int32)), (.ref a2_0)])) rfl rfl (hb hby d2_31)
  have K9 : Keep h0 h8 [a2_0] := (K3).wr W8 (Or.inl (List.mem_of_getElem? (i := 0) rfl))
  have f10 : Fld Z h8 a2_0 "com/example/arbiter/bench/Workload" "users" "I" (.int (1 : Int32)) := f6.same W8
  have N11 := Fr.snoc X8 N5 pf_G_a2_0
  have f12 := (f4.other W8 (Or.inr (slot_ne (Or.inr wo15) (Or.inr wo17) (by decide) (t := .int) (t' := .int) (by decide) (by decide))))
  obtain ⟨fs, hr, hrun, hended, hW, hsame⟩ := X8.leave (v := none) (fun _ => rfl)
  refine ⟨_, _, pre0 _ ?_, hrun, hended, _, _, rfl, ?_, ⟨_, rfl⟩, hW, hsame.mono (by decide) (by decide)⟩
  · show Steps p.tables e below (s₁.setTop (mkF m 0 #[rv a2_0, iv ro, iv (1 : Int32)] [])) _
    refine XS.aloadN X0.here hx rfl (hb hby d2_0) rfl rfl ?_
    show Steps p.tables e below (s₁.setTop (mkF m 1 #[rv a2_0, iv ro, iv (1 : Int32)] [(.ref a2_0)])) _
    refine st1 _ ?_
    show Steps p.tables e below (T1.setTop (mkF m 4 #[rv a2_0, iv ro, iv (1 : Int32)] [])) _
    refine XS.iloadN X1.here hx rfl (hb hby d2_4) rfl ?_
    show Steps p.tables e below (T1.setTop (mkF m 5 #[rv a2_0, iv ro, iv (1 : Int32)] [(.int ro)])) _
    refine XS.iconst X1.here hx rfl (hb hby d2_5) ?_
    show Steps p.tables e below (T1.setTop (mkF m 6 #[rv a2_0, iv ro, iv (1 : Int32)] [(.int (1 : Int32)), (.int ro)])) _
    refine XS.icmpNo X1.here hx rfl (hb hby d2_6) rfl (flt hro).1 ?_
    show Steps p.tables e below (T1.setTop (mkF m 9 #[rv a2_0, iv ro, iv (1 : Int32)] [])) _
    refine XS.iloadN X1.here hx rfl (hb hby d2_9) rfl ?_
    show Steps p.tables e below (T1.setTop (mkF m 10 #[rv a2_0, iv ro, iv (1 : Int32)] [(.int (1 : Int32))])) _
    refine XS.iconst X1.here hx rfl (hb hby d2_10) ?_
    show Steps p.tables e below (T1.setTop (mkF m 11 #[rv a2_0, iv ro, iv (1 : Int32)] [(.int (1 : Int32)), (.int (1 : Int32))])) _
    refine XS.icmpYes X1.here hx rfl (pc0 := 11) (pc' := 24) rfl (hb hby d2_11) rfl (flt (by decide : ¬ ((1 : Int32) < (1 : Int32)))).2.1 (by decide) (by decide) ?_
    show Steps p.tables e below (T1.setTop (mkF m 24 #[rv a2_0, iv ro, iv (1 : Int32)] [])) _
    refine XS.aloadN X1.here hx rfl (hb hby d2_24) rfl rfl ?_
    show Steps p.tables e below (T1.setTop (mkF m 25 #[rv a2_0, iv ro, iv (1 : Int32)] [(.ref a2_0)])) _
    refine XS.iloadN X1.here hx rfl (hb hby d2_25) rfl ?_
    show Steps p.tables e below (T1.setTop (mkF m 26 #[rv a2_0, iv ro, iv (1 : Int32)] [(.int ro), (.ref a2_0)])) _
    refine st2 _ ?_
    show Steps p.tables e below (T2.setTop (mkF m 29 #[rv a2_0, iv ro, iv (1 : Int32)] [])) _
    refine XS.aloadN X2.here hx rfl (hb hby d2_29) rfl rfl ?_
    show Steps p.tables e below (T2.setTop (mkF m 30 #[rv a2_0, iv ro, iv (1 : Int32)] [(.ref a2_0)])) _
    refine XS.iloadN X2.here hx rfl (hb hby d2_30) rfl ?_
    show Steps p.tables e below (T2.setTop (mkF m 31 #[rv a2_0, iv ro, iv (1 : Int32)] [(.int (1 : Int32)), (.ref a2_0)])) _
    refine st8 _ ?_
    show Steps p.tables e below (T8.setTop (mkF m 34 #[rv a2_0, iv ro, iv (1 : Int32)] [])) _
    exact X8.returnOut hx Bd.returns (hb hby d2_34) hr
  · show Q_rm2 Z _ _ h0 n0 _ T8.heap _
    rw [e8]
    exact ⟨rfl, N11, (K9), f12⟩
theorem d4_0 : decode prog_61_method_14_code 0 = .ok (.iload_n 1, 1) := by decide +kernel
theorem d4_1 : decode prog_61_method_14_code 1 = .ok (.aload_n 0, 1) := by decide +kernel
theorem d4_2 : decode prog_61_method_14_code 2 = .ok (.getfield 14, 3) := by decide +kernel
theorem d4_5 : decode prog_61_method_14_code 5 = .ok (.irem, 1) := by decide +kernel
theorem d4_6 : decode prog_61_method_14_code 6 = .ok (.istore_n 2, 1) := by decide +kernel
theorem d4_7 : decode prog_61_method_14_code 7 = .ok (.ldc2_w 53, 3) := by decide +kernel
theorem d4_10 : decode prog_61_method_14_code 10 = .ok (.iload_n 1, 1) := by decide +kernel
theorem d4_11 : decode prog_61_method_14_code 11 = .ok (.i2l, 1) := by decide +kernel
theorem d4_12 : decode prog_61_method_14_code 12 = .ok (.lmul, 1) := by decide +kernel
theorem d4_13 : decode prog_61_method_14_code 13 = .ok (.ldc2_w 55, 3) := by decide +kernel
theorem d4_16 : decode prog_61_method_14_code 16 = .ok (.ladd, 1) := by decide +kernel
theorem d4_17 : decode prog_61_method_14_code 17 = .ok (.aload_n 0, 1) := by decide +kernel
theorem d4_18 : decode prog_61_method_14_code 18 = .ok (.getfield 14, 3) := by decide +kernel
theorem d4_21 : decode prog_61_method_14_code 21 = .ok (.i2l, 1) := by decide +kernel
theorem d4_22 : decode prog_61_method_14_code 22 = .ok (.lrem, 1) := by decide +kernel
theorem d4_23 : decode prog_61_method_14_code 23 = .ok (.l2i, 1) := by decide +kernel
theorem d4_24 : decode prog_61_method_14_code 24 = .ok (.istore_n 3, 1) := by decide +kernel
theorem d4_25 : decode prog_61_method_14_code 25 = .ok (.iconst 2, 1) := by decide +kernel
theorem d4_26 : decode prog_61_method_14_code 26 = .ok (.newarray .int, 2) := by decide +kernel
theorem d4_28 : decode prog_61_method_14_code 28 = .ok (.dup, 1) := by decide +kernel
theorem d4_29 : decode prog_61_method_14_code 29 = .ok (.iconst 0, 1) := by decide +kernel
theorem d4_30 : decode prog_61_method_14_code 30 = .ok (.iload_n 2, 1) := by decide +kernel
theorem d4_31 : decode prog_61_method_14_code 31 = .ok (.iastore, 1) := by decide +kernel
theorem d4_32 : decode prog_61_method_14_code 32 = .ok (.dup, 1) := by decide +kernel
theorem d4_33 : decode prog_61_method_14_code 33 = .ok (.iconst 1, 1) := by decide +kernel
theorem d4_34 : decode prog_61_method_14_code 34 = .ok (.iload_n 3, 1) := by decide +kernel
theorem d4_35 : decode prog_61_method_14_code 35 = .ok (.iastore, 1) := by decide +kernel
theorem d4_36 : decode prog_61_method_14_code 36 = .ok (.astore 4, 2) := by decide +kernel
theorem d4_38 : decode prog_61_method_14_code 38 = .ok (.iload_n 2, 1) := by decide +kernel
theorem d4_39 : decode prog_61_method_14_code 39 = .ok (.iload_n 3, 1) := by decide +kernel
theorem d4_40 : decode prog_61_method_14_code 40 = .ok (.if_icmp .ne 12, 3) := by decide +kernel
theorem d4_43 : decode prog_61_method_14_code 43 = .ok (.iconst 1, 1) := by decide +kernel
theorem d4_44 : decode prog_61_method_14_code 44 = .ok (.newarray .int, 2) := by decide +kernel
theorem d4_46 : decode prog_61_method_14_code 46 = .ok (.dup, 1) := by decide +kernel
theorem d4_47 : decode prog_61_method_14_code 47 = .ok (.iconst 0, 1) := by decide +kernel
theorem d4_48 : decode prog_61_method_14_code 48 = .ok (.iload_n 2, 1) := by decide +kernel
theorem d4_49 : decode prog_61_method_14_code 49 = .ok (.iastore, 1) := by decide +kernel
theorem d4_50 : decode prog_61_method_14_code 50 = .ok (.astore 4, 2) := by decide +kernel
theorem d4_52 : decode prog_61_method_14_code 52 = .ok (.aload 4, 2) := by decide +kernel
theorem d4_54 : decode prog_61_method_14_code 54 = .ok (.areturn, 1) := by decide +kernel
theorem ef_rm_eq (m : MethodId) (x0 : Addr) (x1 : Int32) : entryFrame m #[(.ref x0), (.int x1)] 5 = mkF m 0 #[rv x0, iv x1, .unset, .unset, .unset] [] := by first | (simp [entryFrame, mkF, argsToLocals, Value.category]; done) | rfl
def Q_rm_eq (Z : State) (a4_0 : Addr) (us : Int32) (rl : Int32) (h0 : Heap) (n0 : Nat) (v : Option Value) (h : Heap) (L : List Loc) : Prop := ∃ (b : Addr), v = some (.ref b) ∧ Fr n0 L ∧ Keep h0 h [] ∧ (h0.size ≤ b) ∧ (Av Z h b .int (1 : Int32) [(.int (us % rl))] (.int (0 : Int32)))
set_option maxRecDepth 65536 in
set_option maxHeartbeats 40000000 in
theorem rm_eq (l : Launch) (Z : State) (a0 : Array Value) (hw : ∀ d ∈ tables_1, d.before a0 Z = true) (ws : List Jvm.Cond) (a4_0 : Addr) (us : Int32) (rl : Int32) (h0 : Heap) (n0 : Nat) (Z0 : n0 ≤ h0.size) (pf_F_a4_0_roles : Fld Z h0 a4_0 "com/example/arbiter/bench/Workload" "roles" "I" (.int rl)) (hz : rl ≠ (0 : Int32)) (hzl : (rl.toInt64) ≠ (0 : Int64)) (hq : (us % rl) = (((((7 : Int64) * (us.toInt64)) + (3 : Int64)) % (rl.toInt64)).toInt32)) :
    MetFree l (⟨"com/example/arbiter/bench/Workload", "assigned", "(I)[I"⟩ : MethodName) (head1 (Jvm.Cond.code (⟨"com/example/arbiter/bench/Workload", "assigned", "(I)[I"⟩ : MethodName) prog_61_method_14_code 5 (some (.array .int)) :: ws) ({ frames := 0, cells := 2, slots := 3, locals := 0 } : Room)) (fun a U => a = #[(.ref a4_0), (.int us)] ∧ Z.Warmed39 U.vm ∧ U.heap = h0) (fun _ _ _ _ _ => True) (fun _ U o U' => ∃ v L, o = .returned v ∧ Q_rm_eq Z a4_0 us rl h0 n0 v U'.heap L ∧ FrameEnd U o U' L ({ frames := 0, cells := 2, slots := 3, locals := 0 } : Room).cells ({ frames := 0, cells := 2, slots := 3, locals := 0 } : Room).slots) := by
  refine MetFree.of_bodySF (plainFor_of_name pn_com_example_arbiter_bench_Workload) hisR ?_
  intro p e s m args below meth c s₁ Bd hml0 hP hK
  obtain ⟨rfl, hZ, hh⟩ := hP
  have hx := Bd.exec
  have hby := Bd.bytes
  have hml : c.maxLocals = 5 := hml0
  have hown : s.vm.findClass "com/example/arbiter/bench/Workload" = some m.cls := findClass_of_methodNamed Bd.named
  have hnm := (name_of_methodNamed Bd.named Bd.method).1
  have X0 : Stand p l e ({ frames := 0, cells := 2, slots := 3, locals := 0 } : Room) s m #[(.ref a4_0), (.int us)] below meth c s₁ [] 0 0 := Stand.of_body Bd
  have e0 : s₁.heap = h0 := by rw [← hh, Bd.state]; rfl
  have N0 := Fr.nil n0
  have pre0 : ∀ t, Steps p.tables e below (s₁.setTop (mkF m 0 #[rv a4_0, iv us, .unset, .unset, .unset] [])) t → Steps p.tables e below (s₁.setTop (entryFrame m #[(.ref a4_0), (.int us)] 5)) t := fun t k => castTop (ef_rm_eq m a4_0 us) k
  have wo14 := hw _ (List.mem_of_getElem? (i := 14) rfl)
  have wo23 := hw _ (List.mem_of_getElem? (i := 23) rfl)
  have wo24 := hw _ (List.mem_of_getElem? (i := 24) rfl)
  have wo25 := hw _ (List.mem_of_getElem? (i := 25) rfl)
  obtain ⟨T1, X1, e1, st1⟩ := getF X0 hx hZ hown (host := "") (Or.inl wo14) Via.refl e0 pf_F_a4_0_roles (g := (mkF m 2 #[rv a4_0, iv us, .unset, .unset, .unset] [(.ref a4_0), (.int us)])) rfl rfl (hb hby d4_2)
  obtain ⟨T2, X2, e2, st2⟩ := getF X1 hx hZ hown (host := "") (Or.inl wo14) Via.refl e1 pf_F_a4_0_roles (g := (mkF m 18 #[rv a4_0, iv us, iv (us % rl), .unset, .unset] [(.ref a4_0), (.long (((7 : Int64) * (us.toInt64)) + (3 : Int64)))])) rfl rfl (hb hby d4_18)
  obtain ⟨T3, h3, k3, X3, e3, E3, A3, st3⟩ := newP (aty := .int) X2 hx hZ wo25 e2 (g := (mkF m 26 #[rv a4_0, iv us, iv (us % rl), iv (((((7 : Int64) * (us.toInt64)) + (3 : Int64)) % (rl.toInt64)).toInt32), .unset] [(.int (2 : Int32))])) rfl (hb hby d4_26) rfl (by decide) (cap := 2) (by decide) (by decide) (by decide) (by decide)
  obtain ⟨b3, gg3⟩ : ∃ z, z = h0.size := ⟨_, rfl⟩
  rw [← gg3] at A3 st3
  have ne4 : a4_0 ≠ b3 := Nat.ne_of_lt (Nat.lt_of_lt_of_le pf_F_a4_0_roles.lt (Nat.le_of_eq gg3.symm))
  have g5 : n0 ≤ b3 := Nat.le_trans Z0 (Nat.le_of_eq gg3.symm)
  have bz6 : h0.size ≤ b3 := Nat.le_trans (Keep.refl h0 []).1 (Nat.le_of_eq gg3.symm)
  have K8 : Keep h0 h3 [] := (Keep.refl h0 []).ext E3
  have f7 : Av Z h3 b3 .int (2 : Int32) [(.int (0 : Int32)), (.int (0 : Int32))] (.int (0 : Int32)) := ⟨_, (Arv.new A3 (by decide)).pad (pad_rep [] (.int (0 : Int32)) 2)⟩
  obtain ⟨kk9, cl9, Ar9, qq9, Sz9, Nn9, Hs9, Gf9⟩ := id f7
  have hin10 : ¬ ((0 : Int32) < 0 ∨ cl9.slots.size ≤ ((0 : Int32)).toNatClampNeg) := inb_of Sz9 ⟨by decide, by decide⟩
  obtain ⟨T11, h11, X11, e11, W11, st11⟩ := stI X3 hx hZ e3 Ar9 (j := (0 : Int32)) hin10 (g := (mkF m 31 #[rv a4_0, iv us, iv (us % rl), iv (((((7 : Int64) * (us.toInt64)) + (3 : Int64)) % (rl.toInt64)).toInt32), .unset] [(.int (us % rl)), (.int (0 : Int32)), (.ref b3), (.ref b3)])) rfl rfl (hb hby d4_31)
  have K12 : Keep h0 h11 [] := (K8).wr W11 (Or.inr bz6)
  have f13 : Av Z h11 b3 .int (2 : Int32) [(.int (us % rl)), (.int (0 : Int32))] (.int (0 : Int32)) := ⟨_, Arv.set Ar9 qq9 Sz9 Nn9 Hs9 Gf9 rfl W11 0 rfl (Nat.le_of_ble_eq_true rfl)⟩
  have N14 := Fr.snoc X11 N0 g5
  obtain ⟨kk15, cl15, Ar15, qq15, Sz15, Nn15, Hs15, Gf15⟩ := id f13
  have hin16 : ¬ ((1 : Int32) < 0 ∨ cl15.slots.size ≤ ((1 : Int32)).toNatClampNeg) := inb_of Sz15 ⟨by decide, by decide⟩
  obtain ⟨T17, h17, X17, e17, W17, st17⟩ := stI X11 hx hZ e11 Ar15 (j := (1 : Int32)) hin16 (g := (mkF m 35 #[rv a4_0, iv us, iv (us % rl), iv (((((7 : Int64) * (us.toInt64)) + (3 : Int64)) % (rl.toInt64)).toInt32), .unset] [(.int (((((7 : Int64) * (us.toInt64)) + (3 : Int64)) % (rl.toInt64)).toInt32)), (.int (1 : Int32)), (.ref b3), (.ref b3)])) rfl rfl (hb hby d4_35)
  have K18 : Keep h0 h17 [] := (K12).wr W17 (Or.inr bz6)
  have f19 : Av Z h17 b3 .int (2 : Int32) [(.int (us % rl)), (.int (((((7 : Int64) * (us.toInt64)) + (3 : Int64)) % (rl.toInt64)).toInt32))] (.int (0 : Int32)) := ⟨_, Arv.set Ar15 qq15 Sz15 Nn15 Hs15 Gf15 rfl W17 1 rfl (Nat.le_of_ble_eq_true rfl)⟩
  have N20 := Fr.snoc X17 N14 g5
  obtain ⟨T21, h21, k21, X21, e21, E21, A21, st21⟩ := newP (aty := .int) X17 hx hZ wo25 e17 (g := (mkF m 44 #[rv a4_0, iv us, iv (us % rl), iv (((((7 : Int64) * (us.toInt64)) + (3 : Int64)) % (rl.toInt64)).toInt32), rv b3] [(.int (1 : Int32))])) rfl (hb hby d4_44) rfl (by decide) (cap := 1) (by decide) (by decide) (by decide) (by decide)
  obtain ⟨b21, gg21⟩ : ∃ z, z = h17.size := ⟨_, rfl⟩
  rw [← gg21] at A21 st21
  have f22 := (((pf_F_a4_0_roles.ext E3).other W11 (Or.inl ne4)).other W17 (Or.inl ne4))
  have ne23 : a4_0 ≠ b21 := Nat.ne_of_lt (Nat.lt_of_lt_of_le f22.lt (Nat.le_of_eq gg21.symm))
  have ne24 : b3 ≠ b21 := Nat.ne_of_lt (Nat.lt_of_lt_of_le f19.lt (Nat.le_of_eq gg21.symm))
  have f26 := (Nat.le_trans (Nat.le_trans (Nat.le_trans Z0 E3.1) (Keep.of_wr W11).1) (Keep.of_wr W17).1)
  have g25 : n0 ≤ b21 := Nat.le_trans f26 (Nat.le_of_eq gg21.symm)
  have bz27 : h0.size ≤ b21 := Nat.le_trans (K18).1 (Nat.le_of_eq gg21.symm)
  have K29 : Keep h0 h21 [] := (K18).ext E21
  have f28 : Av Z h21 b21 .int (1 : Int32) [(.int (0 : Int32))] (.int (0 : Int32)) := ⟨_, (Arv.new A21 (by decide)).pad (pad_rep [] (.int (0 : Int32)) 1)⟩
  obtain ⟨kk30, cl30, Ar30, qq30, Sz30, Nn30, Hs30, Gf30⟩ := id f28
  have hin31 : ¬ ((0 : Int32) < 0 ∨ cl30.slots.size ≤ ((0 : Int32)).toNatClampNeg) := inb_of Sz30 ⟨by decide, by decide⟩
  obtain ⟨T32, h32, X32, e32, W32, st32⟩ := stI X21 hx hZ e21 Ar30 (j := (0 : Int32)) hin31 (g := (mkF m 49 #[rv a4_0, iv us, iv (us % rl), iv (((((7 : Int64) * (us.toInt64)) + (3 : Int64)) % (rl.toInt64)).toInt32), rv b3] [(.int (us % rl)), (.int (0 : Int32)), (.ref b21), (.ref b21)])) rfl rfl (hb hby d4_49)
  have K33 : Keep h0 h32 [] := (K29).wr W32 (Or.inr bz27)
  have f34 : Av Z h32 b21 .int (1 : Int32) [(.int (us % rl))] (.int (0 : Int32)) := ⟨_, Arv.set Ar30 qq30 Sz30 Nn30 Hs30 Gf30 rfl W32 0 rfl (Nat.le_of_ble_eq_true rfl)⟩
  have N35 := Fr.snoc X32 N20 g25
  obtain ⟨fs, hr, hrun, hended, hW, hsame⟩ := X32.leave (v := some (.ref b21)) (fun h => by rw [Bd.returns] at h; cases h)
  refine ⟨_, _, pre0 _ ?_, hrun, hended, _, _, rfl, ?_, ⟨_, rfl⟩, hW, hsame.mono (by decide) (by decide)⟩
  · show Steps p.tables e below (s₁.setTop (mkF m 0 #[rv a4_0, iv us, .unset, .unset, .unset] [])) _
    refine XS.iloadN X0.here hx rfl (hb hby d4_0) rfl ?_
    show Steps p.tables e below (s₁.setTop (mkF m 1 #[rv a4_0, iv us, .unset, .unset, .unset] [(.int us)])) _
    refine XS.aloadN X0.here hx rfl (hb hby d4_1) rfl rfl ?_
    show Steps p.tables e below (s₁.setTop (mkF m 2 #[rv a4_0, iv us, .unset, .unset, .unset] [(.ref a4_0), (.int us)])) _
    refine st1 _ ?_
    show Steps p.tables e below (T1.setTop (mkF m 5 #[rv a4_0, iv us, .unset, .unset, .unset] [(.int rl), (.int us)])) _
    refine iremM (g := (mkF m 5 #[rv a4_0, iv us, .unset, .unset, .unset] [(.int rl), (.int us)])) X1 hx rfl (hb hby d4_5) rfl hz ?_
    show Steps p.tables e below (T1.setTop (mkF m 6 #[rv a4_0, iv us, .unset, .unset, .unset] [(.int (us % rl))])) _
    refine XS.istoreN X1.here hx rfl (hb hby d4_6) rfl (l' := #[rv a4_0, iv us, iv (us % rl), .unset, .unset]) rfl ?_
    show Steps p.tables e below (T1.setTop (mkF m 7 #[rv a4_0, iv us, iv (us % rl), .unset, .unset] [])) _
    refine X1.ldc2Long hx hown (mvT hZ wo23) (g := (mkF m 7 #[rv a4_0, iv us, iv (us % rl), .unset, .unset] [])) rfl (hb hby d4_7) _ ?_
    show Steps p.tables e below (T1.setTop (mkF m 10 #[rv a4_0, iv us, iv (us % rl), .unset, .unset] [(.long (7 : Int64))])) _
    refine XS.iloadN X1.here hx rfl (hb hby d4_10) rfl ?_
    show Steps p.tables e below (T1.setTop (mkF m 11 #[rv a4_0, iv us, iv (us % rl), .unset, .unset] [(.int us), (.long (7 : Int64))])) _
    refine XS.i2l X1.here hx rfl (hb hby d4_11) rfl ?_
    show Steps p.tables e below (T1.setTop (mkF m 12 #[rv a4_0, iv us, iv (us % rl), .unset, .unset] [(.long (us.toInt64)), (.long (7 : Int64))])) _
    refine XS.lmul X1.here hx rfl (hb hby d4_12) rfl ?_
    show Steps p.tables e below (T1.setTop (mkF m 13 #[rv a4_0, iv us, iv (us % rl), .unset, .unset] [(.long ((7 : Int64) * (us.toInt64)))])) _
    refine X1.ldc2Long hx hown (mvT hZ wo24) (g := (mkF m 13 #[rv a4_0, iv us, iv (us % rl), .unset, .unset] [(.long ((7 : Int64) * (us.toInt64)))])) rfl (hb hby d4_13) _ ?_
    show Steps p.tables e below (T1.setTop (mkF m 16 #[rv a4_0, iv us, iv (us % rl), .unset, .unset] [(.long (3 : Int64)), (.long ((7 : Int64) * (us.toInt64)))])) _
    refine XS.ladd X1.here hx rfl (hb hby d4_16) rfl ?_
    show Steps p.tables e below (T1.setTop (mkF m 17 #[rv a4_0, iv us, iv (us % rl), .unset, .unset] [(.long (((7 : Int64) * (us.toInt64)) + (3 : Int64)))])) _
    refine XS.aloadN X1.here hx rfl (hb hby d4_17) rfl rfl ?_
    show Steps p.tables e below (T1.setTop (mkF m 18 #[rv a4_0, iv us, iv (us % rl), .unset, .unset] [(.ref a4_0), (.long (((7 : Int64) * (us.toInt64)) + (3 : Int64)))])) _
    refine st2 _ ?_
    show Steps p.tables e below (T2.setTop (mkF m 21 #[rv a4_0, iv us, iv (us % rl), .unset, .unset] [(.int rl), (.long (((7 : Int64) * (us.toInt64)) + (3 : Int64)))])) _
    refine XS.i2l X2.here hx rfl (hb hby d4_21) rfl ?_
    show Steps p.tables e below (T2.setTop (mkF m 22 #[rv a4_0, iv us, iv (us % rl), .unset, .unset] [(.long (rl.toInt64)), (.long (((7 : Int64) * (us.toInt64)) + (3 : Int64)))])) _
    refine XS.lrem X2.here hx rfl (hb hby d4_22) rfl hzl ?_
    rw [lrem_mod]
    show Steps p.tables e below (T2.setTop (mkF m 23 #[rv a4_0, iv us, iv (us % rl), .unset, .unset] [(.long ((((7 : Int64) * (us.toInt64)) + (3 : Int64)) % (rl.toInt64)))])) _
    refine XS.l2i X2.here hx rfl (hb hby d4_23) rfl ?_
    show Steps p.tables e below (T2.setTop (mkF m 24 #[rv a4_0, iv us, iv (us % rl), .unset, .unset] [(.int (((((7 : Int64) * (us.toInt64)) + (3 : Int64)) % (rl.toInt64)).toInt32))])) _
    refine XS.istoreN X2.here hx rfl (hb hby d4_24) rfl (l' := #[rv a4_0, iv us, iv (us % rl), iv (((((7 : Int64) * (us.toInt64)) + (3 : Int64)) % (rl.toInt64)).toInt32), .unset]) rfl ?_
    show Steps p.tables e below (T2.setTop (mkF m 25 #[rv a4_0, iv us, iv (us % rl), iv (((((7 : Int64) * (us.toInt64)) + (3 : Int64)) % (rl.toInt64)).toInt32), .unset] [])) _
    refine XS.iconst X2.here hx rfl (hb hby d4_25) ?_
    show Steps p.tables e below (T2.setTop (mkF m 26 #[rv a4_0, iv us, iv (us % rl), iv (((((7 : Int64) * (us.toInt64)) + (3 : Int64)) % (rl.toInt64)).toInt32), .unset] [(.int (2 : Int32))])) _
    refine st3 _ ?_
    show Steps p.tables e below (T3.setTop (mkF m 28 #[rv a4_0, iv us, iv (us % rl), iv (((((7 : Int64) * (us.toInt64)) + (3 : Int64)) % (rl.toInt64)).toInt32), .unset] [(.ref b3)])) _
    refine XS.dup X3.here hx rfl (hb hby d4_28) rfl rfl ?_
    show Steps p.tables e below (T3.setTop (mkF m 29 #[rv a4_0, iv us, iv (us % rl), iv (((((7 : Int64) * (us.toInt64)) + (3 : Int64)) % (rl.toInt64)).toInt32), .unset] [(.ref b3), (.ref b3)])) _
    refine XS.iconst X3.here hx rfl (hb hby d4_29) ?_
    show Steps p.tables e below (T3.setTop (mkF m 30 #[rv a4_0, iv us, iv (us % rl), iv (((((7 : Int64) * (us.toInt64)) + (3 : Int64)) % (rl.toInt64)).toInt32), .unset] [(.int (0 : Int32)), (.ref b3), (.ref b3)])) _
    refine XS.iloadN X3.here hx rfl (hb hby d4_30) rfl ?_
    show Steps p.tables e below (T3.setTop (mkF m 31 #[rv a4_0, iv us, iv (us % rl), iv (((((7 : Int64) * (us.toInt64)) + (3 : Int64)) % (rl.toInt64)).toInt32), .unset] [(.int (us % rl)), (.int (0 : Int32)), (.ref b3), (.ref b3)])) _
    refine st11 _ ?_
    show Steps p.tables e below (T11.setTop (mkF m 32 #[rv a4_0, iv us, iv (us % rl), iv (((((7 : Int64) * (us.toInt64)) + (3 : Int64)) % (rl.toInt64)).toInt32), .unset] [(.ref b3)])) _
    refine XS.dup X11.here hx rfl (hb hby d4_32) rfl rfl ?_
    show Steps p.tables e below (T11.setTop (mkF m 33 #[rv a4_0, iv us, iv (us % rl), iv (((((7 : Int64) * (us.toInt64)) + (3 : Int64)) % (rl.toInt64)).toInt32), .unset] [(.ref b3), (.ref b3)])) _
    refine XS.iconst X11.here hx rfl (hb hby d4_33) ?_
    show Steps p.tables e below (T11.setTop (mkF m 34 #[rv a4_0, iv us, iv (us % rl), iv (((((7 : Int64) * (us.toInt64)) + (3 : Int64)) % (rl.toInt64)).toInt32), .unset] [(.int (1 : Int32)), (.ref b3), (.ref b3)])) _
    refine XS.iloadN X11.here hx rfl (hb hby d4_34) rfl ?_
    show Steps p.tables e below (T11.setTop (mkF m 35 #[rv a4_0, iv us, iv (us % rl), iv (((((7 : Int64) * (us.toInt64)) + (3 : Int64)) % (rl.toInt64)).toInt32), .unset] [(.int (((((7 : Int64) * (us.toInt64)) + (3 : Int64)) % (rl.toInt64)).toInt32)), (.int (1 : Int32)), (.ref b3), (.ref b3)])) _
    refine st17 _ ?_
    show Steps p.tables e below (T17.setTop (mkF m 36 #[rv a4_0, iv us, iv (us % rl), iv (((((7 : Int64) * (us.toInt64)) + (3 : Int64)) % (rl.toInt64)).toInt32), .unset] [(.ref b3)])) _
    refine XS.astore X17.here hx rfl (hb hby d4_36) rfl rfl (l' := #[rv a4_0, iv us, iv (us % rl), iv (((((7 : Int64) * (us.toInt64)) + (3 : Int64)) % (rl.toInt64)).toInt32), rv b3]) rfl ?_
    show Steps p.tables e below (T17.setTop (mkF m 38 #[rv a4_0, iv us, iv (us % rl), iv (((((7 : Int64) * (us.toInt64)) + (3 : Int64)) % (rl.toInt64)).toInt32), rv b3] [])) _
    refine XS.iloadN X17.here hx rfl (hb hby d4_38) rfl ?_
    show Steps p.tables e below (T17.setTop (mkF m 39 #[rv a4_0, iv us, iv (us % rl), iv (((((7 : Int64) * (us.toInt64)) + (3 : Int64)) % (rl.toInt64)).toInt32), rv b3] [(.int (us % rl))])) _
    refine XS.iloadN X17.here hx rfl (hb hby d4_39) rfl ?_
    show Steps p.tables e below (T17.setTop (mkF m 40 #[rv a4_0, iv us, iv (us % rl), iv (((((7 : Int64) * (us.toInt64)) + (3 : Int64)) % (rl.toInt64)).toInt32), rv b3] [(.int (((((7 : Int64) * (us.toInt64)) + (3 : Int64)) % (rl.toInt64)).toInt32)), (.int (us % rl))])) _
    refine XS.icmpNo X17.here hx rfl (hb hby d4_40) rfl (teq hq).2 ?_
    show Steps p.tables e below (T17.setTop (mkF m 43 #[rv a4_0, iv us, iv (us % rl), iv (((((7 : Int64) * (us.toInt64)) + (3 : Int64)) % (rl.toInt64)).toInt32), rv b3] [])) _
    refine XS.iconst X17.here hx rfl (hb hby d4_43) ?_
    show Steps p.tables e below (T17.setTop (mkF m 44 #[rv a4_0, iv us, iv (us % rl), iv (((((7 : Int64) * (us.toInt64)) + (3 : Int64)) % (rl.toInt64)).toInt32), rv b3] [(.int (1 : Int32))])) _
    refine st21 _ ?_
    show Steps p.tables e below (T21.setTop (mkF m 46 #[rv a4_0, iv us, iv (us % rl), iv (((((7 : Int64) * (us.toInt64)) + (3 : Int64)) % (rl.toInt64)).toInt32), rv b3] [(.ref b21)])) _
    refine XS.dup X21.here hx rfl (hb hby d4_46) rfl rfl ?_
    show Steps p.tables e below (T21.setTop (mkF m 47 #[rv a4_0, iv us, iv (us % rl), iv (((((7 : Int64) * (us.toInt64)) + (3 : Int64)) % (rl.toInt64)).toInt32), rv b3] [(.ref b21), (.ref b21)])) _
    refine XS.iconst X21.here hx rfl (hb hby d4_47) ?_
    show Steps p.tables e below (T21.setTop (mkF m 48 #[rv a4_0, iv us, iv (us % rl), iv (((((7 : Int64) * (us.toInt64)) + (3 : Int64)) % (rl.toInt64)).toInt32), rv b3] [(.int (0 : Int32)), (.ref b21), (.ref b21)])) _
    refine XS.iloadN X21.here hx rfl (hb hby d4_48) rfl ?_
    show Steps p.tables e below (T21.setTop (mkF m 49 #[rv a4_0, iv us, iv (us % rl), iv (((((7 : Int64) * (us.toInt64)) + (3 : Int64)) % (rl.toInt64)).toInt32), rv b3] [(.int (us % rl)), (.int (0 : Int32)), (.ref b21), (.ref b21)])) _
    refine st32 _ ?_
    show Steps p.tables e below (T32.setTop (mkF m 50 #[rv a4_0, iv us, iv (us % rl), iv (((((7 : Int64) * (us.toInt64)) + (3 : Int64)) % (rl.toInt64)).toInt32), rv b3] [(.ref b21)])) _
    refine XS.astore X32.here hx rfl (hb hby d4_50) rfl rfl (l' := #[rv a4_0, iv us, iv (us % rl), iv (((((7 : Int64) * (us.toInt64)) + (3 : Int64)) % (rl.toInt64)).toInt32), rv b21]) rfl ?_
    show Steps p.tables e below (T32.setTop (mkF m 52 #[rv a4_0, iv us, iv (us % rl), iv (((((7 : Int64) * (us.toInt64)) + (3 : Int64)) % (rl.toInt64)).toInt32), rv b21] [])) _
    refine XS.aload X32.here hx rfl (hb hby d4_52) rfl rfl ?_
    show Steps p.tables e below (T32.setTop (mkF m 54 #[rv a4_0, iv us, iv (us % rl), iv (((((7 : Int64) * (us.toInt64)) + (3 : Int64)) % (rl.toInt64)).toInt32), rv b21] [(.ref b21)])) _
    exact retOut X32 hx Bd.returns rfl (Or.inr (Or.inr (Or.inr (Or.inr ⟨rfl, rfl, rfl⟩)))) (hb hby d4_54) hr
  · show Q_rm_eq Z _ _ _ h0 n0 _ T32.heap _
    rw [e32]
    exact ⟨b21, rfl, N35, (K33), bz27, f34⟩
theorem ef_rm_ne (m : MethodId) (x0 : Addr) (x1 : Int32) : entryFrame m #[(.ref x0), (.int x1)] 5 = mkF m 0 #[rv x0, iv x1, .unset, .unset, .unset] [] := by first | (simp [entryFrame, mkF, argsToLocals, Value.category]; done) | rfl
def Q_rm_ne (Z : State) (a4_0 : Addr) (us : Int32) (rl : Int32) (h0 : Heap) (n0 : Nat) (v : Option Value) (h : Heap) (L : List Loc) : Prop := ∃ (b : Addr), v = some (.ref b) ∧ Fr n0 L ∧ Keep h0 h [] ∧ (h0.size ≤ b) ∧ (Av Z h b .int (2 : Int32) [(.int (us % rl)), (.int (((((7 : Int64) * (us.toInt64)) + (3 : Int64)) % (rl.toInt64)).toInt32))] (.int (0 : Int32)))
set_option maxRecDepth 65536 in
set_option maxHeartbeats 40000000 in
theorem rm_ne (l : Launch) (Z : State) (a0 : Array Value) (hw : ∀ d ∈ tables_1, d.before a0 Z = true) (ws : List Jvm.Cond) (a4_0 : Addr) (us : Int32) (rl : Int32) (h0 : Heap) (n0 : Nat) (Z0 : n0 ≤ h0.size) (pf_F_a4_0_roles : Fld Z h0 a4_0 "com/example/arbiter/bench/Workload" "roles" "I" (.int rl)) (hz : rl ≠ (0 : Int32)) (hzl : (rl.toInt64) ≠ (0 : Int64)) (hq : ¬ ((us % rl) = (((((7 : Int64) * (us.toInt64)) + (3 : Int64)) % (rl.toInt64)).toInt32))) :
    MetFree l (⟨"com/example/arbiter/bench/Workload", "assigned", "(I)[I"⟩ : MethodName) (head1 (Jvm.Cond.code (⟨"com/example/arbiter/bench/Workload", "assigned", "(I)[I"⟩ : MethodName) prog_61_method_14_code 5 (some (.array .int)) :: ws) ({ frames := 0, cells := 1, slots := 2, locals := 0 } : Room)) (fun a U => a = #[(.ref a4_0), (.int us)] ∧ Z.Warmed39 U.vm ∧ U.heap = h0) (fun _ _ _ _ _ => True) (fun _ U o U' => ∃ v L, o = .returned v ∧ Q_rm_ne Z a4_0 us rl h0 n0 v U'.heap L ∧ FrameEnd U o U' L ({ frames := 0, cells := 1, slots := 2, locals := 0 } : Room).cells ({ frames := 0, cells := 1, slots := 2, locals := 0 } : Room).slots) := by
  refine MetFree.of_bodySF (plainFor_of_name pn_com_example_arbiter_bench_Workload) hisR ?_
  intro p e s m args below meth c s₁ Bd hml0 hP hK
  obtain ⟨rfl, hZ, hh⟩ := hP
  have hx := Bd.exec
  have hby := Bd.bytes
  have hml : c.maxLocals = 5 := hml0
  have hown : s.vm.findClass "com/example/arbiter/bench/Workload" = some m.cls := findClass_of_methodNamed Bd.named
  have hnm := (name_of_methodNamed Bd.named Bd.method).1
  have X0 : Stand p l e ({ frames := 0, cells := 1, slots := 2, locals := 0 } : Room) s m #[(.ref a4_0), (.int us)] below meth c s₁ [] 0 0 := Stand.of_body Bd
  have e0 : s₁.heap = h0 := by rw [← hh, Bd.state]; rfl
  have N0 := Fr.nil n0
  have pre0 : ∀ t, Steps p.tables e below (s₁.setTop (mkF m 0 #[rv a4_0, iv us, .unset, .unset, .unset] [])) t → Steps p.tables e below (s₁.setTop (entryFrame m #[(.ref a4_0), (.int us)] 5)) t := fun t k => castTop (ef_rm_ne m a4_0 us) k
  have wo14 := hw _ (List.mem_of_getElem? (i := 14) rfl)
  have wo23 := hw _ (List.mem_of_getElem? (i := 23) rfl)
  have wo24 := hw _ (List.mem_of_getElem? (i := 24) rfl)
  have wo25 := hw _ (List.mem_of_getElem? (i := 25) rfl)
  obtain ⟨T1, X1, e1, st1⟩ := getF X0 hx hZ hown (host := "") (Or.inl wo14) Via.refl e0 pf_F_a4_0_roles (g := (mkF m 2 #[rv a4_0, iv us, .unset, .unset, .unset] [(.ref a4_0), (.int us)])) rfl rfl (hb hby d4_2)
  obtain ⟨T2, X2, e2, st2⟩ := getF X1 hx hZ hown (host := "") (Or.inl wo14) Via.refl e1 pf_F_a4_0_roles (g := (mkF m 18 #[rv a4_0, iv us, iv (us % rl), .unset, .unset] [(.ref a4_0), (.long (((7 : Int64) * (us.toInt64)) + (3 : Int64)))])) rfl rfl (hb hby d4_18)
  obtain ⟨T3, h3, k3, X3, e3, E3, A3, st3⟩ := newP (aty := .int) X2 hx hZ wo25 e2 (g := (mkF m 26 #[rv a4_0, iv us, iv (us % rl), iv (((((7 : Int64) * (us.toInt64)) + (3 : Int64)) % (rl.toInt64)).toInt32), .unset] [(.int (2 : Int32))])) rfl (hb hby d4_26) rfl (by decide) (cap := 2) (by decide) (by decide) (by decide) (by decide)
  obtain ⟨b3, gg3⟩ : ∃ z, z = h0.size := ⟨_, rfl⟩
  rw [← gg3] at A3 st3
  have ne4 : a4_0 ≠ b3 := Nat.ne_of_lt (Nat.lt_of_lt_of_le pf_F_a4_0_roles.lt (Nat.le_of_eq gg3.symm))
  have g5 : n0 ≤ b3 := Nat.le_trans Z0 (Nat.le_of_eq gg3.symm)
  have bz6 : h0.size ≤ b3 := Nat.le_trans (Keep.refl h0 []).1 (Nat.le_of_eq gg3.symm)
  have K8 : Keep h0 h3 [] := (Keep.refl h0 []).ext E3
  have f7 : Av Z h3 b3 .int (2 : Int32) [(.int (0 : Int32)), (.int (0 : Int32))] (.int (0 : Int32)) := ⟨_, (Arv.new A3 (by decide)).pad (pad_rep [] (.int (0 : Int32)) 2)⟩
  obtain ⟨kk9, cl9, Ar9, qq9, Sz9, Nn9, Hs9, Gf9⟩ := id f7
  have hin10 : ¬ ((0 : Int32) < 0 ∨ cl9.slots.size ≤ ((0 : Int32)).toNatClampNeg) := inb_of Sz9 ⟨by decide, by decide⟩
  obtain ⟨T11, h11, X11, e11, W11, st11⟩ := stI X3 hx hZ e3 Ar9 (j := (0 : Int32)) hin10 (g := (mkF m 31 #[rv a4_0, iv us, iv (us % rl), iv (((((7 : Int64) * (us.toInt64)) + (3 : Int64)) % (rl.toInt64)).toInt32), .unset] [(.int (us % rl)), (.int (0 : Int32)), (.ref b3), (.ref b3)])) rfl rfl (hb hby d4_31)
  have K12 : Keep h0 h11 [] := (K8).wr W11 (Or.inr bz6)
  have f13 : Av Z h11 b3 .int (2 : Int32) [(.int (us % rl)), (.int (0 : Int32))] (.int (0 : Int32)) := ⟨_, Arv.set Ar9 qq9 Sz9 Nn9 Hs9 Gf9 rfl W11 0 rfl (Nat.le_of_ble_eq_true rfl)⟩
  have N14 := Fr.snoc X11 N0 g5
  obtain ⟨kk15, cl15, Ar15, qq15, Sz15, Nn15, Hs15, Gf15⟩ := id f13
  have hin16 : ¬ ((1 : Int32) < 0 ∨ cl15.slots.size ≤ ((1 : Int32)).toNatClampNeg) := inb_of Sz15 ⟨by decide, by decide⟩
  obtain ⟨T17, h17, X17, e17, W17, st17⟩ := stI X11 hx hZ e11 Ar15 (j := (1 : Int32)) hin16 (g := (mkF m 35 #[rv a4_0, iv us, iv (us % rl), iv (((((7 : Int64) * (us.toInt64)) + (3 : Int64)) % (rl.toInt64)).toInt32), .unset] [(.int (((((7 : Int64) * (us.toInt64)) + (3 : Int64)) % (rl.toInt64)).toInt32)), (.int (1 : Int32)), (.ref b3), (.ref b3)])) rfl rfl (hb hby d4_35)
  have K18 : Keep h0 h17 [] := (K12).wr W17 (Or.inr bz6)
  have f19 : Av Z h17 b3 .int (2 : Int32) [(.int (us % rl)), (.int (((((7 : Int64) * (us.toInt64)) + (3 : Int64)) % (rl.toInt64)).toInt32))] (.int (0 : Int32)) := ⟨_, Arv.set Ar15 qq15 Sz15 Nn15 Hs15 Gf15 rfl W17 1 rfl (Nat.le_of_ble_eq_true rfl)⟩
  have N20 := Fr.snoc X17 N14 g5
  obtain ⟨fs, hr, hrun, hended, hW, hsame⟩ := X17.leave (v := some (.ref b3)) (fun h => by rw [Bd.returns] at h; cases h)
  refine ⟨_, _, pre0 _ ?_, hrun, hended, _, _, rfl, ?_, ⟨_, rfl⟩, hW, hsame.mono (by decide) (by decide)⟩
  · show Steps p.tables e below (s₁.setTop (mkF m 0 #[rv a4_0, iv us, .unset, .unset, .unset] [])) _
    refine XS.iloadN X0.here hx rfl (hb hby d4_0) rfl ?_
    show Steps p.tables e below (s₁.setTop (mkF m 1 #[rv a4_0, iv us, .unset, .unset, .unset] [(.int us)])) _
    refine XS.aloadN X0.here hx rfl (hb hby d4_1) rfl rfl ?_
    show Steps p.tables e below (s₁.setTop (mkF m 2 #[rv a4_0, iv us, .unset, .unset, .unset] [(.ref a4_0), (.int us)])) _
    refine st1 _ ?_
    show Steps p.tables e below (T1.setTop (mkF m 5 #[rv a4_0, iv us, .unset, .unset, .unset] [(.int rl), (.int us)])) _
    refine iremM (g := (mkF m 5 #[rv a4_0, iv us, .unset, .unset, .unset] [(.int rl), (.int us)])) X1 hx rfl (hb hby d4_5) rfl hz ?_
    show Steps p.tables e below (T1.setTop (mkF m 6 #[rv a4_0, iv us, .unset, .unset, .unset] [(.int (us % rl))])) _
    refine XS.istoreN X1.here hx rfl (hb hby d4_6) rfl (l' := #[rv a4_0, iv us, iv (us % rl), .unset, .unset]) rfl ?_
    show Steps p.tables e below (T1.setTop (mkF m 7 #[rv a4_0, iv us, iv (us % rl), .unset, .unset] [])) _
    refine X1.ldc2Long hx hown (mvT hZ wo23) (g := (mkF m 7 #[rv a4_0, iv us, iv (us % rl), .unset, .unset] [])) rfl (hb hby d4_7) _ ?_
    show Steps p.tables e below (T1.setTop (mkF m 10 #[rv a4_0, iv us, iv (us % rl), .unset, .unset] [(.long (7 : Int64))])) _
    refine XS.iloadN X1.here hx rfl (hb hby d4_10) rfl ?_
    show Steps p.tables e below (T1.setTop (mkF m 11 #[rv a4_0, iv us, iv (us % rl), .unset, .unset] [(.int us), (.long (7 : Int64))])) _
    refine XS.i2l X1.here hx rfl (hb hby d4_11) rfl ?_
    show Steps p.tables e below (T1.setTop (mkF m 12 #[rv a4_0, iv us, iv (us % rl), .unset, .unset] [(.long (us.toInt64)), (.long (7 : Int64))])) _
    refine XS.lmul X1.here hx rfl (hb hby d4_12) rfl ?_
    show Steps p.tables e below (T1.setTop (mkF m 13 #[rv a4_0, iv us, iv (us % rl), .unset, .unset] [(.long ((7 : Int64) * (us.toInt64)))])) _
    refine X1.ldc2Long hx hown (mvT hZ wo24) (g := (mkF m 13 #[rv a4_0, iv us, iv (us % rl), .unset, .unset] [(.long ((7 : Int64) * (us.toInt64)))])) rfl (hb hby d4_13) _ ?_
    show Steps p.tables e below (T1.setTop (mkF m 16 #[rv a4_0, iv us, iv (us % rl), .unset, .unset] [(.long (3 : Int64)), (.long ((7 : Int64) * (us.toInt64)))])) _
    refine XS.ladd X1.here hx rfl (hb hby d4_16) rfl ?_
    show Steps p.tables e below (T1.setTop (mkF m 17 #[rv a4_0, iv us, iv (us % rl), .unset, .unset] [(.long (((7 : Int64) * (us.toInt64)) + (3 : Int64)))])) _
    refine XS.aloadN X1.here hx rfl (hb hby d4_17) rfl rfl ?_
    show Steps p.tables e below (T1.setTop (mkF m 18 #[rv a4_0, iv us, iv (us % rl), .unset, .unset] [(.ref a4_0), (.long (((7 : Int64) * (us.toInt64)) + (3 : Int64)))])) _
    refine st2 _ ?_
    show Steps p.tables e below (T2.setTop (mkF m 21 #[rv a4_0, iv us, iv (us % rl), .unset, .unset] [(.int rl), (.long (((7 : Int64) * (us.toInt64)) + (3 : Int64)))])) _
    refine XS.i2l X2.here hx rfl (hb hby d4_21) rfl ?_
    show Steps p.tables e below (T2.setTop (mkF m 22 #[rv a4_0, iv us, iv (us % rl), .unset, .unset] [(.long (rl.toInt64)), (.long (((7 : Int64) * (us.toInt64)) + (3 : Int64)))])) _
    refine XS.lrem X2.here hx rfl (hb hby d4_22) rfl hzl ?_
    rw [lrem_mod]
    show Steps p.tables e below (T2.setTop (mkF m 23 #[rv a4_0, iv us, iv (us % rl), .unset, .unset] [(.long ((((7 : Int64) * (us.toInt64)) + (3 : Int64)) % (rl.toInt64)))])) _
    refine XS.l2i X2.here hx rfl (hb hby d4_23) rfl ?_
    show Steps p.tables e below (T2.setTop (mkF m 24 #[rv a4_0, iv us, iv (us % rl), .unset, .unset] [(.int (((((7 : Int64) * (us.toInt64)) + (3 : Int64)) % (rl.toInt64)).toInt32))])) _
    refine XS.istoreN X2.here hx rfl (hb hby d4_24) rfl (l' := #[rv a4_0, iv us, iv (us % rl), iv (((((7 : Int64) * (us.toInt64)) + (3 : Int64)) % (rl.toInt64)).toInt32), .unset]) rfl ?_
    show Steps p.tables e below (T2.setTop (mkF m 25 #[rv a4_0, iv us, iv (us % rl), iv (((((7 : Int64) * (us.toInt64)) + (3 : Int64)) % (rl.toInt64)).toInt32), .unset] [])) _
    refine XS.iconst X2.here hx rfl (hb hby d4_25) ?_
    show Steps p.tables e below (T2.setTop (mkF m 26 #[rv a4_0, iv us, iv (us % rl), iv (((((7 : Int64) * (us.toInt64)) + (3 : Int64)) % (rl.toInt64)).toInt32), .unset] [(.int (2 : Int32))])) _
    refine st3 _ ?_
    show Steps p.tables e below (T3.setTop (mkF m 28 #[rv a4_0, iv us, iv (us % rl), iv (((((7 : Int64) * (us.toInt64)) + (3 : Int64)) % (rl.toInt64)).toInt32), .unset] [(.ref b3)])) _
    refine XS.dup X3.here hx rfl (hb hby d4_28) rfl rfl ?_
    show Steps p.tables e below (T3.setTop (mkF m 29 #[rv a4_0, iv us, iv (us % rl), iv (((((7 : Int64) * (us.toInt64)) + (3 : Int64)) % (rl.toInt64)).toInt32), .unset] [(.ref b3), (.ref b3)])) _
    refine XS.iconst X3.here hx rfl (hb hby d4_29) ?_
    show Steps p.tables e below (T3.setTop (mkF m 30 #[rv a4_0, iv us, iv (us % rl), iv (((((7 : Int64) * (us.toInt64)) + (3 : Int64)) % (rl.toInt64)).toInt32), .unset] [(.int (0 : Int32)), (.ref b3), (.ref b3)])) _
    refine XS.iloadN X3.here hx rfl (hb hby d4_30) rfl ?_
    show Steps p.tables e below (T3.setTop (mkF m 31 #[rv a4_0, iv us, iv (us % rl), iv (((((7 : Int64) * (us.toInt64)) + (3 : Int64)) % (rl.toInt64)).toInt32), .unset] [(.int (us % rl)), (.int (0 : Int32)), (.ref b3), (.ref b3)])) _
    refine st11 _ ?_
    show Steps p.tables e below (T11.setTop (mkF m 32 #[rv a4_0, iv us, iv (us % rl), iv (((((7 : Int64) * (us.toInt64)) + (3 : Int64)) % (rl.toInt64)).toInt32), .unset] [(.ref b3)])) _
    refine XS.dup X11.here hx rfl (hb hby d4_32) rfl rfl ?_
    show Steps p.tables e below (T11.setTop (mkF m 33 #[rv a4_0, iv us, iv (us % rl), iv (((((7 : Int64) * (us.toInt64)) + (3 : Int64)) % (rl.toInt64)).toInt32), .unset] [(.ref b3), (.ref b3)])) _
    refine XS.iconst X11.here hx rfl (hb hby d4_33) ?_
    show Steps p.tables e below (T11.setTop (mkF m 34 #[rv a4_0, iv us, iv (us % rl), iv (((((7 : Int64) * (us.toInt64)) + (3 : Int64)) % (rl.toInt64)).toInt32), .unset] [(.int (1 : Int32)), (.ref b3), (.ref b3)])) _
    refine XS.iloadN X11.here hx rfl (hb hby d4_34) rfl ?_
    show Steps p.tables e below (T11.setTop (mkF m 35 #[rv a4_0, iv us, iv (us % rl), iv (((((7 : Int64) * (us.toInt64)) + (3 : Int64)) % (rl.toInt64)).toInt32), .unset] [(.int (((((7 : Int64) * (us.toInt64)) + (3 : Int64)) % (rl.toInt64)).toInt32)), (.int (1 : Int32)), (.ref b3), (.ref b3)])) _
    refine st17 _ ?_
    show Steps p.tables e below (T17.setTop (mkF m 36 #[rv a4_0, iv us, iv (us % rl), iv (((((7 : Int64) * (us.toInt64)) + (3 : Int64)) % (rl.toInt64)).toInt32), .unset] [(.ref b3)])) _
    refine XS.astore X17.here hx rfl (hb hby d4_36) rfl rfl (l' := #[rv a4_0, iv us, iv (us % rl), iv (((((7 : Int64) * (us.toInt64)) + (3 : Int64)) % (rl.toInt64)).toInt32), rv b3]) rfl ?_
    show Steps p.tables e below (T17.setTop (mkF m 38 #[rv a4_0, iv us, iv (us % rl), iv (((((7 : Int64) * (us.toInt64)) + (3 : Int64)) % (rl.toInt64)).toInt32), rv b3] [])) _
    refine XS.iloadN X17.here hx rfl (hb hby d4_38) rfl ?_
    show Steps p.tables e below (T17.setTop (mkF m 39 #[rv a4_0, iv us, iv (us % rl), iv (((((7 : Int64) * (us.toInt64)) + (3 : Int64)) % (rl.toInt64)).toInt32), rv b3] [(.int (us % rl))])) _
    refine XS.iloadN X17.here hx rfl (hb hby d4_39) rfl ?_
    show Steps p.tables e below (T17.setTop (mkF m 40 #[rv a4_0, iv us, iv (us % rl), iv (((((7 : Int64) * (us.toInt64)) + (3 : Int64)) % (rl.toInt64)).toInt32), rv b3] [(.int (((((7 : Int64) * (us.toInt64)) + (3 : Int64)) % (rl.toInt64)).toInt32)), (.int (us % rl))])) _
    refine XS.icmpYes X17.here hx rfl (pc0 := 40) (pc' := 52) rfl (hb hby d4_40) rfl (feq hq).2 (by decide) (by decide) ?_
    show Steps p.tables e below (T17.setTop (mkF m 52 #[rv a4_0, iv us, iv (us % rl), iv (((((7 : Int64) * (us.toInt64)) + (3 : Int64)) % (rl.toInt64)).toInt32), rv b3] [])) _
    refine XS.aload X17.here hx rfl (hb hby d4_52) rfl rfl ?_
    show Steps p.tables e below (T17.setTop (mkF m 54 #[rv a4_0, iv us, iv (us % rl), iv (((((7 : Int64) * (us.toInt64)) + (3 : Int64)) % (rl.toInt64)).toInt32), rv b3] [(.ref b3)])) _
    exact retOut X17 hx Bd.returns rfl (Or.inr (Or.inr (Or.inr (Or.inr ⟨rfl, rfl, rfl⟩)))) (hb hby d4_54) hr
  · show Q_rm_ne Z _ _ _ h0 n0 _ T17.heap _
    rw [e17]
    exact ⟨b3, rfl, N20, (K18), bz6, f19⟩
theorem pd_2 : parseMethodDescriptor "(II)I" = some ⟨[.int, .int], some .int⟩ := by decide +kernel
theorem pd_3 : parseMethodDescriptor "(II)V" = some ⟨[.int, .int], none⟩ := by decide +kernel
theorem pd_1 : parseMethodDescriptor "(I)[I" = some ⟨[.int], some (.array .int)⟩ := by decide +kernel
theorem pn_com_example_arbiter_bench_WorkloadAssignedPinLaw : plainName "com/example/arbiter/bench/WorkloadAssignedPinLaw" = true := by first | (simp [plainName, overriddenIn]; done) | decide +kernel
theorem ef_rm0 (m : MethodId) (x0 : Int32) (x1 : Int32) (x2 : Int32) : entryFrame m #[(.int x0), (.int x1), (.int x2)] maxLocals = mkF m 0 #[iv x0, iv x1, iv x2, .unset, .unset, .unset, .unset, .unset, .unset, .unset, .unset, .unset, .unset] [] := by first | (simp [entryFrame, mkF, argsToLocals, Value.category, maxLocals]; done) | rfl
def Q_rm0 (Z : State) (p0_0 : Int32) (p0_1 : Int32) (p0_2 : Int32) (h0 : Heap) (n0 : Nat) (v : Option Value) (h : Heap) (L : List Loc) : Prop := v = some (.int (1 : Int32)) ∧ Fr n0 L ∧ Keep h0 h []
set_option maxRecDepth 65536 in
set_option maxHeartbeats 40000000 in
theorem rm0 (l : Launch) (Z : State) (a0 : Array Value) (hw : ∀ d ∈ tables_1, d.before a0 Z = true) (ws : List Jvm.Cond) (p0_0 : Int32) (p0_1 : Int32) (p0_2 : Int32) (h0 : Heap) (n0 : Nat) (Z0 : n0 ≤ h0.size) :
    MetFree l x (head1 (Jvm.Cond.code x code maxLocals ret :: ws) room_1) (fun a U => a = #[(.int p0_0), (.int p0_1), (.int p0_2)] ∧ Z.Warmed39 U.vm ∧ U.heap = h0) (fun _ _ _ _ _ => True) (fun _ U o U' => ∃ v L, o = .returned v ∧ Q_rm0 Z p0_0 p0_1 p0_2 h0 n0 v U'.heap L ∧ FrameEnd U o U' L room_1.cells room_1.slots) := by
  refine MetFree.of_bodySF (plainFor_of_name pn_com_example_arbiter_bench_WorkloadAssignedPinLaw) hisR ?_
  intro p e s m args below meth c s₁ Bd hml0 hP hK
  obtain ⟨rfl, hZ, hh⟩ := hP
  have hx := Bd.exec
  have hby := Bd.bytes
  have hml : c.maxLocals = 13 := hml0
  have hown : s.vm.findClass "com/example/arbiter/bench/WorkloadAssignedPinLaw" = some m.cls := findClass_of_methodNamed Bd.named
  have hnm := (name_of_methodNamed Bd.named Bd.method).1
  have X0 : Stand p l e room_1 s m #[(.int p0_0), (.int p0_1), (.int p0_2)] below meth c s₁ [] 0 0 := Stand.of_body Bd
  have e0 : s₁.heap = h0 := by rw [← hh, Bd.state]; rfl
  have N0 := Fr.nil n0
  have pre0 : ∀ t, Steps p.tables e below (s₁.setTop (mkF m 0 #[iv p0_0, iv p0_1, iv p0_2, .unset, .unset, .unset, .unset, .unset, .unset, .unset, .unset, .unset, .unset] [])) t → Steps p.tables e below (s₁.setTop (entryFrame m #[(.int p0_0), (.int p0_1), (.int p0_2)] maxLocals)) t := fun t k => castTop (ef_rm0 m p0_0 p0_1 p0_2) k
  have wo0 := hw _ (List.mem_of_getElem? (i := 0) rfl)
  have wo1 := hw _ (List.mem_of_getElem? (i := 1) rfl)
  have wo2 := hw _ (List.mem_of_getElem? (i := 2) rfl)
  have wo3 := hw _ (List.mem_of_getElem? (i := 3) rfl)
  have wo4 := hw _ (List.mem_of_getElem? (i := 4) rfl)
  have wo5 := hw _ (List.mem_of_getElem? (i := 5) rfl)
  have wo6 := hw _ (List.mem_of_getElem? (i := 6) rfl)
  have wo7 := hw _ (List.mem_of_getElem? (i := 7) rfl)
  have wo8 := hw _ (List.mem_of_getElem? (i := 8) rfl)
  have wo9 := hw _ (List.mem_of_getElem? (i := 9) rfl)
  have wo10 := hw _ (List.mem_of_getElem? (i := 10) rfl)
  have wo15 := hw _ (List.mem_of_getElem? (i := 15) rfl)
  have wo17 := hw _ (List.mem_of_getElem? (i := 17) rfl)
  have wo18 := hw _ (List.mem_of_getElem? (i := 18) rfl)
  have wo19 := hw _ (List.mem_of_getElem? (i := 19) rfl)
  have wo20 := hw _ (List.mem_of_getElem? (i := 20) rfl)
  have wo21 := hw _ (List.mem_of_getElem? (i := 21) rfl)
  have wo22 := hw _ (List.mem_of_getElem? (i := 22) rfl)
  have wo26 := hw _ (List.mem_of_getElem? (i := 26) rfl)
  have wo27 := hw _ (List.mem_of_getElem? (i := 27) rfl)
  obtain ⟨us, h_us⟩ : ∃ z : Int32, z = (p0_0 &&& (2147483647 : Int32)) := ⟨_, rfl⟩
  have hu : 0 ≤ us.toInt := by rw [h_us]; exact own_u _
  have pre2 : ∀ t, Steps p.tables e below (s₁.setTop (mkF m 8 #[iv p0_0, iv p0_1, iv p0_2, iv us, .unset, .unset, .unset, .unset, .unset, .unset, .unset, .unset, .unset] [(.int (p0_2 &&& (1 : Int32)))])) t → Steps p.tables e below (s₁.setTop (entryFrame m #[(.int p0_0), (.int p0_1), (.int p0_2)] maxLocals)) t := by
    intro t_ k_
    refine pre0 _ ?_
    show Steps p.tables e below (s₁.setTop (mkF m 0 #[iv p0_0, iv p0_1, iv p0_2, .unset, .unset, .unset, .unset, .unset, .unset, .unset, .unset, .unset, .unset] [])) _
    refine XS.iloadN X0.here hx rfl (hb hby at_0) rfl ?_
    show Steps p.tables e below (s₁.setTop (mkF m 1 #[iv p0_0, iv p0_1, iv p0_2, .unset, .unset, .unset, .unset, .unset, .unset, .unset, .unset, .unset, .unset] [(.int p0_0)])) _
    refine X0.ldcInt hx hown (mvT hZ wo0) (g := (mkF m 1 #[iv p0_0, iv p0_1, iv p0_2, .unset, .unset, .unset, .unset, .unset, .unset, .unset, .unset, .unset, .unset] [(.int p0_0)])) rfl (hb hby at_1) _ ?_
    show Steps p.tables e below (s₁.setTop (mkF m 3 #[iv p0_0, iv p0_1, iv p0_2, .unset, .unset, .unset, .unset, .unset, .unset, .unset, .unset, .unset, .unset] [(.int (2147483647 : Int32)), (.int p0_0)])) _
    refine XS.iand X0.here hx rfl (hb hby at_3) rfl ?_
    show Steps p.tables e below (s₁.setTop (mkF m 4 #[iv p0_0, iv p0_1, iv p0_2, .unset, .unset, .unset, .unset, .unset, .unset, .unset, .unset, .unset, .unset] [(.int (p0_0 &&& (2147483647 : Int32)))])) _
    refine XS.istoreN X0.here hx rfl (hb hby at_4) rfl (l' := #[iv p0_0, iv p0_1, iv p0_2, iv (p0_0 &&& (2147483647 : Int32)), .unset, .unset, .unset, .unset, .unset, .unset, .unset, .unset, .unset]) rfl ?_
    rw [← h_us]
    show Steps p.tables e below (s₁.setTop (mkF m 5 #[iv p0_0, iv p0_1, iv p0_2, iv us, .unset, .unset, .unset, .unset, .unset, .unset, .unset, .unset, .unset] [])) _
    show Steps p.tables e below (s₁.setTop (mkF m 5 #[iv p0_0, iv p0_1, iv p0_2, iv us, .unset, .unset, .unset, .unset, .unset, .unset, .unset, .unset, .unset] [])) _
    refine XS.iloadN X0.here hx rfl (hb hby at_5) rfl ?_
    show Steps p.tables e below (s₁.setTop (mkF m 6 #[iv p0_0, iv p0_1, iv p0_2, iv us, .unset, .unset, .unset, .unset, .unset, .unset, .unset, .unset, .unset] [(.int p0_2)])) _
    refine XS.iconst X0.here hx rfl (hb hby at_6) ?_
    show Steps p.tables e below (s₁.setTop (mkF m 7 #[iv p0_0, iv p0_1, iv p0_2, iv us, .unset, .unset, .unset, .unset, .unset, .unset, .unset, .unset, .unset] [(.int (1 : Int32)), (.int p0_2)])) _
    refine XS.iand X0.here hx rfl (hb hby at_7) rfl ?_
    exact k_
  by_cases hc8_1 : (p0_2 &&& (1 : Int32)) = (0 : Int32)
  · skip
    obtain ⟨_, _, ⟨T3, L3, k3, n3⟩, -, X3, ⟨Lc3, hQ3, l3, y3, z3⟩, st3⟩ := Jvm.LawKit.callS X0 hx (y := MN1) hown (mvT hZ wo1) (mvT hZ wo2) (mvT hZ wo3) (mvT hZ wo4) (by decide) (backOf (W := 0) (rm1 l Z a0 hw [] (1 : Int32) (p0_1 &&& (2147483647 : Int32)) h0 n0 Z0 ) hZ wo4 wo3 (by decide) (by decide)) (g := (mkF m 27 #[iv p0_0, iv p0_1, iv p0_2, iv us, .unset, .unset, .unset, .unset, .unset, .unset, .unset, .unset, .unset] [(.int (p0_1 &&& (2147483647 : Int32))), (.int (1 : Int32))])) rfl (by rw [hml]; rfl) (argsL := [(.int (1 : Int32)), (.int (p0_1 &&& (2147483647 : Int32)))]) (rest := []) (lenOf pd_2 rfl) rfl (by show 2 * 0 + _ ≤ _; exact Nat.le_of_eq rfl) (hb hby at_27) (fun _ _ => ⟨rfl, e0, (by decide : 0 + 0 ≤ _), (by decide : 0 + 0 ≤ _)⟩)
    dsimp only [Pt.U, Pt.locs, Pt.cells, Pt.slots] at X3 l3 y3 z3 st3 hQ3
    subst l3 y3 z3
    obtain ⟨rfl, N3q, K3q⟩ := hQ3
    have N4 := Fr.app N0 N3q
    obtain ⟨rl, h_rl⟩ : ∃ z : Int32, z = (if (1 : Int32) < (p0_1 &&& (2147483647 : Int32)) then (p0_1 &&& (2147483647 : Int32)) else (1 : Int32)) := ⟨_, rfl⟩
    have hr : 0 < rl.toInt := by rw [h_rl]; first | exact own_r1 _ | exact own_r2 _
    have hz : rl ≠ (0 : Int32) := own_z rl hr
    have hzl : (rl.toInt64) ≠ (0 : Int64) := own_zl rl hr
    have hro : ¬ (rl < (1 : Int32)) := by rw [Int32.lt_iff_toInt_lt]; simp only [Int32.reduceToInt]; omega
    obtain ⟨T5, h5, X5, e5, E5, A5, D5, -, st5⟩ := newO X3 hx hZ hown wo5 wo6 wo7 K3q (g := (mkF m 32 #[iv p0_0, iv p0_1, iv p0_2, iv us, iv rl, .unset, .unset, .unset, .unset, .unset, .unset, .unset, .unset] [])) rfl (hb hby at_32) (by decide) (by decide)
    obtain ⟨b5, gg5⟩ : ∃ z, z = h0.size := ⟨_, rfl⟩
    rw [← gg5] at A5 D5 st5
    have g6 : n0 ≤ b5 := Nat.le_trans Z0 (Nat.le_of_eq gg5.symm)
    have bz7 : h0.size ≤ b5 := Nat.le_trans (Keep.refl h0 []).1 (Nat.le_of_eq gg5.symm)
    have K8 : Keep h0 h5 [] := (Keep.refl h0 []).ext E5
    have f9 : Fld Z h5 b5 "com/example/arbiter/bench/Workload" "roles" "I" (.int (0 : Int32)) := D5 (Or.inr wo15) (ty := .int) (by decide)
    have f10 : Fld Z h5 b5 "com/example/arbiter/bench/Workload" "users" "I" (.int (0 : Int32)) := D5 (Or.inr wo17) (ty := .int) (by decide)
    have f12 := (Nat.le_trans Z0 E5.1)
    obtain ⟨_, _, ⟨T11, L11, k11, n11⟩, -, X11, ⟨Lc11, hQ11, l11, y11, z11⟩, st11⟩ := X5.specialBack hx (y := MN2) rfl hown (mvT hZ wo8) (mvT hZ wo9) (mvT hZ wo10) (by decide) (backOf (W := 1) (rm2 l Z a0 hw [] b5 rl h5 n0 f12 A5 g6 f9 f10 (by first | decide | assumption | omega : ¬ (rl < (1 : Int32)))) hZ wo10 wo7 (by decide) (by decide)) (g := (mkF m 39 #[iv p0_0, iv p0_1, iv p0_2, iv us, iv rl, .unset, .unset, .unset, .unset, .unset, .unset, .unset, .unset] [(.int (1 : Int32)), (.int rl), (.ref b5), (.ref b5)])) rfl (by rw [hml]; rfl) (Steps.refl _) (a := b5) (argsL := [(.int rl), (.int (1 : Int32))]) (rest := [(.ref b5)]) (lenOf pd_3 rfl) rfl (by show 2 * 0 + _ ≤ _; exact Nat.le_of_eq rfl) (hb hby at_39) (fun _ _ => ⟨rfl, e5, (by decide : 1 + 0 ≤ _), (by decide : 2 + 0 ≤ _)⟩)
    dsimp only [Pt.U, Pt.locs, Pt.cells, Pt.slots] at X11 l11 y11 z11 st11 hQ11
    subst l11 y11 z11
    obtain ⟨rfl, N11q, K11q, hq11_0⟩ := hQ11
    have N13 := Fr.app N4 N11q
    have K14 : Keep h0 T11.heap [] := (K8).trans K11q (allS (P := fun x => x ∈ [] ∨ h0.size ≤ x) (Or.inr bz7) all0)
    have pre15 : ∀ t, Steps p.tables e below (T11.setTop (mkF m 47 #[iv p0_0, iv p0_1, iv p0_2, iv us, iv rl, rv b5, .unset, .unset, .unset, .unset, .unset, .unset, .unset] [(.int us), (.ref b5)])) t → Steps p.tables e below (s₁.setTop (entryFrame m #[(.int p0_0), (.int p0_1), (.int p0_2)] maxLocals)) t := by
      intro t_ k_
      refine pre2 _ ?_
      show Steps p.tables e below (s₁.setTop (mkF m 8 #[iv p0_0, iv p0_1, iv p0_2, iv us, .unset, .unset, .unset, .unset, .unset, .unset, .unset, .unset, .unset] [(.int (p0_2 &&& (1 : Int32)))])) _
      refine XS.ifYes X0.here hx rfl (pc0 := 8) (pc' := 22) rfl (hb hby at_8) rfl ((if0 _ _).trans (teq hc8_1).1) (by decide) (by decide) ?_
      show Steps p.tables e below (s₁.setTop (mkF m 22 #[iv p0_0, iv p0_1, iv p0_2, iv us, .unset, .unset, .unset, .unset, .unset, .unset, .unset, .unset, .unset] [])) _
      refine XS.iconst X0.here hx rfl (hb hby at_22) ?_
      show Steps p.tables e below (s₁.setTop (mkF m 23 #[iv p0_0, iv p0_1, iv p0_2, iv us, .unset, .unset, .unset, .unset, .unset, .unset, .unset, .unset, .unset] [(.int (1 : Int32))])) _
      refine XS.iloadN X0.here hx rfl (hb hby at_23) rfl ?_
      show Steps p.tables e below (s₁.setTop (mkF m 24 #[iv p0_0, iv p0_1, iv p0_2, iv us, .unset, .unset, .unset, .unset, .unset, .unset, .unset, .unset, .unset] [(.int p0_1), (.int (1 : Int32))])) _
      refine X0.ldcInt hx hown (mvT hZ wo0) (g := (mkF m 24 #[iv p0_0, iv p0_1, iv p0_2, iv us, .unset, .unset, .unset, .unset, .unset, .unset, .unset, .unset, .unset] [(.int p0_1), (.int (1 : Int32))])) rfl (hb hby at_24) _ ?_
      show Steps p.tables e below (s₁.setTop (mkF m 26 #[iv p0_0, iv p0_1, iv p0_2, iv us, .unset, .unset, .unset, .unset, .unset, .unset, .unset, .unset, .unset] [(.int (2147483647 : Int32)), (.int p0_1), (.int (1 : Int32))])) _
      refine XS.iand X0.here hx rfl (hb hby at_26) rfl ?_
      show Steps p.tables e below (s₁.setTop (mkF m 27 #[iv p0_0, iv p0_1, iv p0_2, iv us, .unset, .unset, .unset, .unset, .unset, .unset, .unset, .unset, .unset] [(.int (p0_1 &&& (2147483647 : Int32))), (.int (1 : Int32))])) _
      refine st3 _ ?_
      show Steps p.tables e below (T3.setTop (mkF m 30 #[iv p0_0, iv p0_1, iv p0_2, iv us, .unset, .unset, .unset, .unset, .unset, .unset, .unset, .unset, .unset] [(.int (if (1 : Int32) < (p0_1 &&& (2147483647 : Int32)) then (p0_1 &&& (2147483647 : Int32)) else (1 : Int32)))])) _
      refine XS.istore X3.here hx rfl (hb hby at_30) rfl (l' := #[iv p0_0, iv p0_1, iv p0_2, iv us, iv (if (1 : Int32) < (p0_1 &&& (2147483647 : Int32)) then (p0_1 &&& (2147483647 : Int32)) else (1 : Int32)), .unset, .unset, .unset, .unset, .unset, .unset, .unset, .unset]) rfl ?_
      rw [← h_rl]
      show Steps p.tables e below (T3.setTop (mkF m 32 #[iv p0_0, iv p0_1, iv p0_2, iv us, iv rl, .unset, .unset, .unset, .unset, .unset, .unset, .unset, .unset] [])) _
      show Steps p.tables e below (T3.setTop (mkF m 32 #[iv p0_0, iv p0_1, iv p0_2, iv us, iv rl, .unset, .unset, .unset, .unset, .unset, .unset, .unset, .unset] [])) _
      refine st5 _ ?_
      show Steps p.tables e below (T5.setTop (mkF m 35 #[iv p0_0, iv p0_1, iv p0_2, iv us, iv rl, .unset, .unset, .unset, .unset, .unset, .unset, .unset, .unset] [(.ref b5)])) _
      refine XS.dup X5.here hx rfl (hb hby at_35) rfl rfl ?_
      show Steps p.tables e below (T5.setTop (mkF m 36 #[iv p0_0, iv p0_1, iv p0_2, iv us, iv rl, .unset, .unset, .unset, .unset, .unset, .unset, .unset, .unset] [(.ref b5), (.ref b5)])) _
      refine XS.iload X5.here hx rfl (hb hby at_36) rfl ?_
      show Steps p.tables e below (T5.setTop (mkF m 38 #[iv p0_0, iv p0_1, iv p0_2, iv us, iv rl, .unset, .unset, .unset, .unset, .unset, .unset, .unset, .unset] [(.int rl), (.ref b5), (.ref b5)])) _
      refine XS.iconst X5.here hx rfl (hb hby at_38) ?_
      show Steps p.tables e below (T5.setTop (mkF m 39 #[iv p0_0, iv p0_1, iv p0_2, iv us, iv rl, .unset, .unset, .unset, .unset, .unset, .unset, .unset, .unset] [(.int (1 : Int32)), (.int rl), (.ref b5), (.ref b5)])) _
      refine st11.trans ?_
      show Steps p.tables e below (T11.setTop (mkF m 42 #[iv p0_0, iv p0_1, iv p0_2, iv us, iv rl, .unset, .unset, .unset, .unset, .unset, .unset, .unset, .unset] [(.ref b5)])) _
      refine XS.astore X11.here hx rfl (hb hby at_42) rfl rfl (l' := #[iv p0_0, iv p0_1, iv p0_2, iv us, iv rl, rv b5, .unset, .unset, .unset, .unset, .unset, .unset, .unset]) rfl ?_
      show Steps p.tables e below (T11.setTop (mkF m 44 #[iv p0_0, iv p0_1, iv p0_2, iv us, iv rl, rv b5, .unset, .unset, .unset, .unset, .unset, .unset, .unset] [])) _
      refine XS.aload X11.here hx rfl (hb hby at_44) rfl rfl ?_
      show Steps p.tables e below (T11.setTop (mkF m 46 #[iv p0_0, iv p0_1, iv p0_2, iv us, iv rl, rv b5, .unset, .unset, .unset, .unset, .unset, .unset, .unset] [(.ref b5)])) _
      refine XS.iloadN X11.here hx rfl (hb hby at_46) rfl ?_
      exact k_
    by_cases hb16 : (us % rl) = (((((7 : Int64) * (us.toInt64)) + (3 : Int64)) % (rl.toInt64)).toInt32)
    · skip
      have f18 := (Nat.le_trans f12 K11q.1)
      have f19 := (A5.keep K11q)
      obtain ⟨cq17, kq17, q17a, q17b, q17c⟩ := isOf hZ rfl f19
      obtain ⟨_, _, ⟨T17, L17, k17, n17⟩, -, X17, ⟨Lc17, hQ17, l17, y17, z17⟩, st17⟩ := X11.virtualBack hx (y := MN4) (z := MN4) hown (mvT hZ wo18) (mvT hZ wo19) (notFace_of_selects (args := #[]) (mvT hZ wo21)) (mvT hZ wo21) (mvT hZ wo20) (by decide) (backOf (W := 0) (rm_eq l Z a0 hw [] b5 us rl (T11.heap) n0 f18 hq11_0 (hz : rl ≠ (0 : Int32)) (hzl : (rl.toInt64) ≠ (0 : Int64)) (hb16 : (us % rl) = (((((7 : Int64) * (us.toInt64)) + (3 : Int64)) % (rl.toInt64)).toInt32))) hZ wo22 wo7 (by decide) (by decide)) q17a q17c (g := (mkF m 47 #[iv p0_0, iv p0_1, iv p0_2, iv us, iv rl, rv b5, .unset, .unset, .unset, .unset, .unset, .unset, .unset] [(.int us), (.ref b5)])) rfl (by rw [hml]; rfl) (Steps.refl _) (argsL := [(.int us)]) (rest := []) (lenOf pd_1 rfl) rfl (by show 2 * 0 + _ ≤ _; exact Nat.le_of_eq rfl) (hb hby at_47) (fun _ _ => ⟨rfl, rfl, (by decide : 1 + 2 ≤ _), (by decide : 2 + 3 ≤ _)⟩)
      dsimp only [Pt.U, Pt.locs, Pt.cells, Pt.slots] at X17 l17 y17 z17 st17 hQ17
      subst l17 y17 z17
      obtain ⟨b_17, rfl, N17q, K17q, hq17_0, hq17_1⟩ := hQ17
      have N20 := Fr.app N13 N17q
      have ne21 : b5 ≠ b_17 := Nat.ne_of_lt (Nat.lt_of_lt_of_le f19.lt hq17_0)
      have g22 : n0 ≤ b_17 := Nat.le_trans f18 hq17_0
      have bz23 : h0.size ≤ b_17 := Nat.le_trans (K14).1 hq17_0
      have K24 : Keep h0 T17.heap [] := (K14).trans K17q all0
      have q25 : ((us.toInt64) - (((us.toInt64) / (rl.toInt64)) * (rl.toInt64))) = ((us % rl).toInt64) := own_f us rl hu hr
      have q26 : ((((7 : Int64) * ((us % rl).toInt64)) + (3 : Int64)) % (rl.toInt64)) = ((((((7 : Int64) * (us.toInt64)) + (3 : Int64)) % (rl.toInt64)).toInt32).toInt64) := own_s us rl hu hr
      have hc27 : (lcmpW ((us % rl).toInt64) ((((((7 : Int64) * (us.toInt64)) + (3 : Int64)) % (rl.toInt64)).toInt32).toInt64)) = (0 : Int32) := (own_lc _ _).mpr hb16
      obtain ⟨kk28, cl28, Ar28, qq28, Sz28, Nn28, Hs28, Gf28⟩ := id hq17_1
      obtain ⟨kk29, cl29, Ar29, qq29, Sz29, Nn29, Hs29, Gf29⟩ := id hq17_1
      have hin30 : ¬ ((0 : Int32) < 0 ∨ cl29.slots.size ≤ ((0 : Int32)).toNatClampNeg) := inb_of Sz29 ⟨by decide, by decide⟩
      have hat31 : cl29.slots[((0 : Int32)).toNatClampNeg]? = some (.int (us % rl)) := Has.at Hs29 hin30 rfl
      have hc32 : (lcmpW ((us % rl).toInt64) ((us % rl).toInt64)) = (0 : Int32) := (lw_eq _ _).mpr rfl
      obtain ⟨fs, hr, hrun, hended, hW, hsame⟩ := X17.leave (v := some (.int (1 : Int32))) (fun h => by rw [Bd.returns] at h; cases h)
      refine ⟨_, _, pre15 _ ?_, hrun, hended, _, _, rfl, ?_, ⟨_, rfl⟩, hW, hsame.mono (by decide) (by decide)⟩
      · show Steps p.tables e below (T11.setTop (mkF m 47 #[iv p0_0, iv p0_1, iv p0_2, iv us, iv rl, rv b5, .unset, .unset, .unset, .unset, .unset, .unset, .unset] [(.int us), (.ref b5)])) _
        refine st17.trans ?_
        show Steps p.tables e below (T17.setTop (mkF m 50 #[iv p0_0, iv p0_1, iv p0_2, iv us, iv rl, rv b5, .unset, .unset, .unset, .unset, .unset, .unset, .unset] [(.ref b_17)])) _
        refine XS.astore X17.here hx rfl (hb hby at_50) rfl rfl (l' := #[iv p0_0, iv p0_1, iv p0_2, iv us, iv rl, rv b5, rv b_17, .unset, .unset, .unset, .unset, .unset, .unset]) rfl ?_
        show Steps p.tables e below (T17.setTop (mkF m 52 #[iv p0_0, iv p0_1, iv p0_2, iv us, iv rl, rv b5, rv b_17, .unset, .unset, .unset, .unset, .unset, .unset] [])) _
        refine XS.aload X17.here hx rfl (hb hby at_52) rfl rfl ?_
        show Steps p.tables e below (T17.setTop (mkF m 54 #[iv p0_0, iv p0_1, iv p0_2, iv us, iv rl, rv b5, rv b_17, .unset, .unset, .unset, .unset, .unset, .unset] [(.ref b_17)])) _
        refine XS.ifnonnullYes X17.here hx rfl (pc0 := 54) (pc' := 59) rfl (hb hby at_54) rfl (by decide) (by decide) ?_
        show Steps p.tables e below (T17.setTop (mkF m 59 #[iv p0_0, iv p0_1, iv p0_2, iv us, iv rl, rv b5, rv b_17, .unset, .unset, .unset, .unset, .unset, .unset] [])) _
        refine XS.iload X17.here hx rfl (hb hby at_59) rfl ?_
        show Steps p.tables e below (T17.setTop (mkF m 61 #[iv p0_0, iv p0_1, iv p0_2, iv us, iv rl, rv b5, rv b_17, .unset, .unset, .unset, .unset, .unset, .unset] [(.int rl)])) _
        refine XS.i2l X17.here hx rfl (hb hby at_61) rfl ?_
        show Steps p.tables e below (T17.setTop (mkF m 62 #[iv p0_0, iv p0_1, iv p0_2, iv us, iv rl, rv b5, rv b_17, .unset, .unset, .unset, .unset, .unset, .unset] [(.long (rl.toInt64))])) _
        refine XS.lstore X17.here hx rfl (hb hby at_62) rfl (l' := #[iv p0_0, iv p0_1, iv p0_2, iv us, iv rl, rv b5, rv b_17, .val (.long (rl.toInt64)), .second, .unset, .unset, .unset, .unset]) rfl ?_
        show Steps p.tables e below (T17.setTop (mkF m 64 #[iv p0_0, iv p0_1, iv p0_2, iv us, iv rl, rv b5, rv b_17, .val (.long (rl.toInt64)), .second, .unset, .unset, .unset, .unset] [])) _
        refine XS.iloadN X17.here hx rfl (hb hby at_64) rfl ?_
        show Steps p.tables e below (T17.setTop (mkF m 65 #[iv p0_0, iv p0_1, iv p0_2, iv us, iv rl, rv b5, rv b_17, .val (.long (rl.toInt64)), .second, .unset, .unset, .unset, .unset] [(.int us)])) _
        refine XS.i2l X17.here hx rfl (hb hby at_65) rfl ?_
        show Steps p.tables e below (T17.setTop (mkF m 66 #[iv p0_0, iv p0_1, iv p0_2, iv us, iv rl, rv b5, rv b_17, .val (.long (rl.toInt64)), .second, .unset, .unset, .unset, .unset] [(.long (us.toInt64))])) _
        refine XS.iloadN X17.here hx rfl (hb hby at_66) rfl ?_
        show Steps p.tables e below (T17.setTop (mkF m 67 #[iv p0_0, iv p0_1, iv p0_2, iv us, iv rl, rv b5, rv b_17, .val (.long (rl.toInt64)), .second, .unset, .unset, .unset, .unset] [(.int us), (.long (us.toInt64))])) _
        refine XS.i2l X17.here hx rfl (hb hby at_67) rfl ?_
        show Steps p.tables e below (T17.setTop (mkF m 68 #[iv p0_0, iv p0_1, iv p0_2, iv us, iv rl, rv b5, rv b_17, .val (.long (rl.toInt64)), .second, .unset, .unset, .unset, .unset] [(.long (us.toInt64)), (.long (us.toInt64))])) _
        refine XS.lload X17.here hx rfl (hb hby at_68) rfl ?_
        show Steps p.tables e below (T17.setTop (mkF m 70 #[iv p0_0, iv p0_1, iv p0_2, iv us, iv rl, rv b5, rv b_17, .val (.long (rl.toInt64)), .second, .unset, .unset, .unset, .unset] [(.long (rl.toInt64)), (.long (us.toInt64)), (.long (us.toInt64))])) _
        refine XS.ldiv X17.here hx rfl (hb hby at_70) rfl hzl ?_
        show Steps p.tables e below (T17.setTop (mkF m 71 #[iv p0_0, iv p0_1, iv p0_2, iv us, iv rl, rv b5, rv b_17, .val (.long (rl.toInt64)), .second, .unset, .unset, .unset, .unset] [(.long ((us.toInt64) / (rl.toInt64))), (.long (us.toInt64))])) _
        refine XS.lload X17.here hx rfl (hb hby at_71) rfl ?_
        show Steps p.tables e below (T17.setTop (mkF m 73 #[iv p0_0, iv p0_1, iv p0_2, iv us, iv rl, rv b5, rv b_17, .val (.long (rl.toInt64)), .second, .unset, .unset, .unset, .unset] [(.long (rl.toInt64)), (.long ((us.toInt64) / (rl.toInt64))), (.long (us.toInt64))])) _
        refine XS.lmul X17.here hx rfl (hb hby at_73) rfl ?_
        show Steps p.tables e below (T17.setTop (mkF m 74 #[iv p0_0, iv p0_1, iv p0_2, iv us, iv rl, rv b5, rv b_17, .val (.long (rl.toInt64)), .second, .unset, .unset, .unset, .unset] [(.long (((us.toInt64) / (rl.toInt64)) * (rl.toInt64))), (.long (us.toInt64))])) _
        refine XS.lsub X17.here hx rfl (hb hby at_74) rfl ?_
        rw [q25]
        show Steps p.tables e below (T17.setTop (mkF m 75 #[iv p0_0, iv p0_1, iv p0_2, iv us, iv rl, rv b5, rv b_17, .val (.long (rl.toInt64)), .second, .unset, .unset, .unset, .unset] [(.long ((us % rl).toInt64))])) _
        show Steps p.tables e below (T17.setTop (mkF m 75 #[iv p0_0, iv p0_1, iv p0_2, iv us, iv rl, rv b5, rv b_17, .val (.long (rl.toInt64)), .second, .unset, .unset, .unset, .unset] [(.long ((us % rl).toInt64))])) _
        refine XS.lstore X17.here hx rfl (hb hby at_75) rfl (l' := #[iv p0_0, iv p0_1, iv p0_2, iv us, iv rl, rv b5, rv b_17, .val (.long (rl.toInt64)), .second, .val (.long ((us % rl).toInt64)), .second, .unset, .unset]) rfl ?_
        show Steps p.tables e below (T17.setTop (mkF m 77 #[iv p0_0, iv p0_1, iv p0_2, iv us, iv rl, rv b5, rv b_17, .val (.long (rl.toInt64)), .second, .val (.long ((us % rl).toInt64)), .second, .unset, .unset] [])) _
        refine X17.ldc2Long hx hown (mvT hZ wo26) (g := (mkF m 77 #[iv p0_0, iv p0_1, iv p0_2, iv us, iv rl, rv b5, rv b_17, .val (.long (rl.toInt64)), .second, .val (.long ((us % rl).toInt64)), .second, .unset, .unset] [])) rfl (hb hby at_77) _ ?_
        show Steps p.tables e below (T17.setTop (mkF m 80 #[iv p0_0, iv p0_1, iv p0_2, iv us, iv rl, rv b5, rv b_17, .val (.long (rl.toInt64)), .second, .val (.long ((us % rl).toInt64)), .second, .unset, .unset] [(.long (7 : Int64))])) _
        refine XS.lload X17.here hx rfl (hb hby at_80) rfl ?_
        show Steps p.tables e below (T17.setTop (mkF m 82 #[iv p0_0, iv p0_1, iv p0_2, iv us, iv rl, rv b5, rv b_17, .val (.long (rl.toInt64)), .second, .val (.long ((us % rl).toInt64)), .second, .unset, .unset] [(.long ((us % rl).toInt64)), (.long (7 : Int64))])) _
        refine XS.lmul X17.here hx rfl (hb hby at_82) rfl ?_
        show Steps p.tables e below (T17.setTop (mkF m 83 #[iv p0_0, iv p0_1, iv p0_2, iv us, iv rl, rv b5, rv b_17, .val (.long (rl.toInt64)), .second, .val (.long ((us % rl).toInt64)), .second, .unset, .unset] [(.long ((7 : Int64) * ((us % rl).toInt64)))])) _
        refine X17.ldc2Long hx hown (mvT hZ wo27) (g := (mkF m 83 #[iv p0_0, iv p0_1, iv p0_2, iv us, iv rl, rv b5, rv b_17, .val (.long (rl.toInt64)), .second, .val (.long ((us % rl).toInt64)), .second, .unset, .unset] [(.long ((7 : Int64) * ((us % rl).toInt64)))])) rfl (hb hby at_83) _ ?_
        show Steps p.tables e below (T17.setTop (mkF m 86 #[iv p0_0, iv p0_1, iv p0_2, iv us, iv rl, rv b5, rv b_17, .val (.long (rl.toInt64)), .second, .val (.long ((us % rl).toInt64)), .second, .unset, .unset] [(.long (3 : Int64)), (.long ((7 : Int64) * ((us % rl).toInt64)))])) _
        refine XS.ladd X17.here hx rfl (hb hby at_86) rfl ?_
        show Steps p.tables e below (T17.setTop (mkF m 87 #[iv p0_0, iv p0_1, iv p0_2, iv us, iv rl, rv b5, rv b_17, .val (.long (rl.toInt64)), .second, .val (.long ((us % rl).toInt64)), .second, .unset, .unset] [(.long (((7 : Int64) * ((us % rl).toInt64)) + (3 : Int64)))])) _
        refine XS.lload X17.here hx rfl (hb hby at_87) rfl ?_
        show Steps p.tables e below (T17.setTop (mkF m 89 #[iv p0_0, iv p0_1, iv p0_2, iv us, iv rl, rv b5, rv b_17, .val (.long (rl.toInt64)), .second, .val (.long ((us % rl).toInt64)), .second, .unset, .unset] [(.long (rl.toInt64)), (.long (((7 : Int64) * ((us % rl).toInt64)) + (3 : Int64)))])) _
        refine XS.lrem X17.here hx rfl (hb hby at_89) rfl hzl ?_
        rw [lrem_mod]
        rw [q26]
        show Steps p.tables e below (T17.setTop (mkF m 90 #[iv p0_0, iv p0_1, iv p0_2, iv us, iv rl, rv b5, rv b_17, .val (.long (rl.toInt64)), .second, .val (.long ((us % rl).toInt64)), .second, .unset, .unset] [(.long ((((((7 : Int64) * (us.toInt64)) + (3 : Int64)) % (rl.toInt64)).toInt32).toInt64))])) _
        show Steps p.tables e below (T17.setTop (mkF m 90 #[iv p0_0, iv p0_1, iv p0_2, iv us, iv rl, rv b5, rv b_17, .val (.long (rl.toInt64)), .second, .val (.long ((us % rl).toInt64)), .second, .unset, .unset] [(.long ((((((7 : Int64) * (us.toInt64)) + (3 : Int64)) % (rl.toInt64)).toInt32).toInt64))])) _
        refine XS.lstore X17.here hx rfl (hb hby at_90) rfl (l' := #[iv p0_0, iv p0_1, iv p0_2, iv us, iv rl, rv b5, rv b_17, .val (.long (rl.toInt64)), .second, .val (.long ((us % rl).toInt64)), .second, .val (.long ((((((7 : Int64) * (us.toInt64)) + (3 : Int64)) % (rl.toInt64)).toInt32).toInt64)), .second]) rfl ?_
        show Steps p.tables e below (T17.setTop (mkF m 92 #[iv p0_0, iv p0_1, iv p0_2, iv us, iv rl, rv b5, rv b_17, .val (.long (rl.toInt64)), .second, .val (.long ((us % rl).toInt64)), .second, .val (.long ((((((7 : Int64) * (us.toInt64)) + (3 : Int64)) % (rl.toInt64)).toInt32).toInt64)), .second] [])) _
        refine XS.lload X17.here hx rfl (hb hby at_92) rfl ?_
        show Steps p.tables e below (T17.setTop (mkF m 94 #[iv p0_0, iv p0_1, iv p0_2, iv us, iv rl, rv b5, rv b_17, .val (.long (rl.toInt64)), .second, .val (.long ((us % rl).toInt64)), .second, .val (.long ((((((7 : Int64) * (us.toInt64)) + (3 : Int64)) % (rl.toInt64)).toInt32).toInt64)), .second] [(.long ((us % rl).toInt64))])) _
        refine XS.lload X17.here hx rfl (hb hby at_94) rfl ?_
        show Steps p.tables e below (T17.setTop (mkF m 96 #[iv p0_0, iv p0_1, iv p0_2, iv us, iv rl, rv b5, rv b_17, .val (.long (rl.toInt64)), .second, .val (.long ((us % rl).toInt64)), .second, .val (.long ((((((7 : Int64) * (us.toInt64)) + (3 : Int64)) % (rl.toInt64)).toInt32).toInt64)), .second] [(.long ((((((7 : Int64) * (us.toInt64)) + (3 : Int64)) % (rl.toInt64)).toInt32).toInt64)), (.long ((us % rl).toInt64))])) _
        refine XS.lcmp X17.here hx rfl (hb hby at_96) rfl ?_
        show Steps p.tables e below (T17.setTop (mkF m 97 #[iv p0_0, iv p0_1, iv p0_2, iv us, iv rl, rv b5, rv b_17, .val (.long (rl.toInt64)), .second, .val (.long ((us % rl).toInt64)), .second, .val (.long ((((((7 : Int64) * (us.toInt64)) + (3 : Int64)) % (rl.toInt64)).toInt32).toInt64)), .second] [(.int (lcmpW ((us % rl).toInt64) ((((((7 : Int64) * (us.toInt64)) + (3 : Int64)) % (rl.toInt64)).toInt32).toInt64)))])) _
        refine XS.ifNo X17.here hx rfl (hb hby at_97) rfl ((if0 _ _).trans (teq hc27).2) ?_
        show Steps p.tables e below (T17.setTop (mkF m 100 #[iv p0_0, iv p0_1, iv p0_2, iv us, iv rl, rv b5, rv b_17, .val (.long (rl.toInt64)), .second, .val (.long ((us % rl).toInt64)), .second, .val (.long ((((((7 : Int64) * (us.toInt64)) + (3 : Int64)) % (rl.toInt64)).toInt32).toInt64)), .second] [])) _
        refine XS.aload X17.here hx rfl (hb hby at_100) rfl rfl ?_
        show Steps p.tables e below (T17.setTop (mkF m 102 #[iv p0_0, iv p0_1, iv p0_2, iv us, iv rl, rv b5, rv b_17, .val (.long (rl.toInt64)), .second, .val (.long ((us % rl).toInt64)), .second, .val (.long ((((((7 : Int64) * (us.toInt64)) + (3 : Int64)) % (rl.toInt64)).toInt32).toInt64)), .second] [(.ref b_17)])) _
        refine X17.arraylength hx (Ar28.1) (State.isArrayOf_alike hZ.alike Ar28.2.1) (g := (mkF m 102 #[iv p0_0, iv p0_1, iv p0_2, iv us, iv rl, rv b5, rv b_17, .val (.long (rl.toInt64)), .second, .val (.long ((us % rl).toInt64)), .second, .val (.long ((((((7 : Int64) * (us.toInt64)) + (3 : Int64)) % (rl.toInt64)).toInt32).toInt64)), .second] [(.ref b_17)])) rfl rfl (hb hby at_102) _ ?_
        rw [len_of Sz28 Nn28]
        show Steps p.tables e below (T17.setTop (mkF m 103 #[iv p0_0, iv p0_1, iv p0_2, iv us, iv rl, rv b5, rv b_17, .val (.long (rl.toInt64)), .second, .val (.long ((us % rl).toInt64)), .second, .val (.long ((((((7 : Int64) * (us.toInt64)) + (3 : Int64)) % (rl.toInt64)).toInt32).toInt64)), .second] [(.int (1 : Int32))])) _
        refine XS.iconst X17.here hx rfl (hb hby at_103) ?_
        show Steps p.tables e below (T17.setTop (mkF m 104 #[iv p0_0, iv p0_1, iv p0_2, iv us, iv rl, rv b5, rv b_17, .val (.long (rl.toInt64)), .second, .val (.long ((us % rl).toInt64)), .second, .val (.long ((((((7 : Int64) * (us.toInt64)) + (3 : Int64)) % (rl.toInt64)).toInt32).toInt64)), .second] [(.int (1 : Int32)), (.int (1 : Int32))])) _
        refine XS.icmpNo X17.here hx rfl (hb hby at_104) rfl (teq (by decide : (1 : Int32) = (1 : Int32))).2 ?_
        show Steps p.tables e below (T17.setTop (mkF m 107 #[iv p0_0, iv p0_1, iv p0_2, iv us, iv rl, rv b5, rv b_17, .val (.long (rl.toInt64)), .second, .val (.long ((us % rl).toInt64)), .second, .val (.long ((((((7 : Int64) * (us.toInt64)) + (3 : Int64)) % (rl.toInt64)).toInt32).toInt64)), .second] [])) _
        refine XS.aload X17.here hx rfl (hb hby at_107) rfl rfl ?_
        show Steps p.tables e below (T17.setTop (mkF m 109 #[iv p0_0, iv p0_1, iv p0_2, iv us, iv rl, rv b5, rv b_17, .val (.long (rl.toInt64)), .second, .val (.long ((us % rl).toInt64)), .second, .val (.long ((((((7 : Int64) * (us.toInt64)) + (3 : Int64)) % (rl.toInt64)).toInt32).toInt64)), .second] [(.ref b_17)])) _
        refine XS.iconst X17.here hx rfl (hb hby at_109) ?_
        show Steps p.tables e below (T17.setTop (mkF m 110 #[iv p0_0, iv p0_1, iv p0_2, iv us, iv rl, rv b5, rv b_17, .val (.long (rl.toInt64)), .second, .val (.long ((us % rl).toInt64)), .second, .val (.long ((((((7 : Int64) * (us.toInt64)) + (3 : Int64)) % (rl.toInt64)).toInt32).toInt64)), .second] [(.int (0 : Int32)), (.ref b_17)])) _
        refine X17.iaload hx (j := (0 : Int32)) (v := (.int (us % rl))) (Ar29.1) (State.isArrayOf_alike hZ.alike Ar29.2.1) Ar29.2.2 hin30 hat31 (g := (mkF m 110 #[iv p0_0, iv p0_1, iv p0_2, iv us, iv rl, rv b5, rv b_17, .val (.long (rl.toInt64)), .second, .val (.long ((us % rl).toInt64)), .second, .val (.long ((((((7 : Int64) * (us.toInt64)) + (3 : Int64)) % (rl.toInt64)).toInt32).toInt64)), .second] [(.int (0 : Int32)), (.ref b_17)])) rfl rfl (hb hby at_110) _ ?_
        show Steps p.tables e below (T17.setTop (mkF m 111 #[iv p0_0, iv p0_1, iv p0_2, iv us, iv rl, rv b5, rv b_17, .val (.long (rl.toInt64)), .second, .val (.long ((us % rl).toInt64)), .second, .val (.long ((((((7 : Int64) * (us.toInt64)) + (3 : Int64)) % (rl.toInt64)).toInt32).toInt64)), .second] [(.int (us % rl))])) _
        refine XS.i2l X17.here hx rfl (hb hby at_111) rfl ?_
        show Steps p.tables e below (T17.setTop (mkF m 112 #[iv p0_0, iv p0_1, iv p0_2, iv us, iv rl, rv b5, rv b_17, .val (.long (rl.toInt64)), .second, .val (.long ((us % rl).toInt64)), .second, .val (.long ((((((7 : Int64) * (us.toInt64)) + (3 : Int64)) % (rl.toInt64)).toInt32).toInt64)), .second] [(.long ((us % rl).toInt64))])) _
        refine XS.lload X17.here hx rfl (hb hby at_112) rfl ?_
        show Steps p.tables e below (T17.setTop (mkF m 114 #[iv p0_0, iv p0_1, iv p0_2, iv us, iv rl, rv b5, rv b_17, .val (.long (rl.toInt64)), .second, .val (.long ((us % rl).toInt64)), .second, .val (.long ((((((7 : Int64) * (us.toInt64)) + (3 : Int64)) % (rl.toInt64)).toInt32).toInt64)), .second] [(.long ((us % rl).toInt64)), (.long ((us % rl).toInt64))])) _
        refine XS.lcmp X17.here hx rfl (hb hby at_114) rfl ?_
        show Steps p.tables e below (T17.setTop (mkF m 115 #[iv p0_0, iv p0_1, iv p0_2, iv us, iv rl, rv b5, rv b_17, .val (.long (rl.toInt64)), .second, .val (.long ((us % rl).toInt64)), .second, .val (.long ((((((7 : Int64) * (us.toInt64)) + (3 : Int64)) % (rl.toInt64)).toInt32).toInt64)), .second] [(.int (lcmpW ((us % rl).toInt64) ((us % rl).toInt64)))])) _
        refine XS.ifNo X17.here hx rfl (hb hby at_115) rfl ((if0 _ _).trans (teq hc32).2) ?_
        show Steps p.tables e below (T17.setTop (mkF m 118 #[iv p0_0, iv p0_1, iv p0_2, iv us, iv rl, rv b5, rv b_17, .val (.long (rl.toInt64)), .second, .val (.long ((us % rl).toInt64)), .second, .val (.long ((((((7 : Int64) * (us.toInt64)) + (3 : Int64)) % (rl.toInt64)).toInt32).toInt64)), .second] [])) _
        refine XS.iconst X17.here hx rfl (hb hby at_118) ?_
        show Steps p.tables e below (T17.setTop (mkF m 119 #[iv p0_0, iv p0_1, iv p0_2, iv us, iv rl, rv b5, rv b_17, .val (.long (rl.toInt64)), .second, .val (.long ((us % rl).toInt64)), .second, .val (.long ((((((7 : Int64) * (us.toInt64)) + (3 : Int64)) % (rl.toInt64)).toInt32).toInt64)), .second] [(.int (1 : Int32))])) _
        refine XS.goto X17.here hx rfl (pc0 := 119) (pc' := 123) rfl (hb hby at_119) (by decide) (by decide) ?_
        show Steps p.tables e below (T17.setTop (mkF m 123 #[iv p0_0, iv p0_1, iv p0_2, iv us, iv rl, rv b5, rv b_17, .val (.long (rl.toInt64)), .second, .val (.long ((us % rl).toInt64)), .second, .val (.long ((((((7 : Int64) * (us.toInt64)) + (3 : Int64)) % (rl.toInt64)).toInt32).toInt64)), .second] [(.int (1 : Int32))])) _
        exact retN X17 hx (t := .boolean) Bd.returns (by simp) (hb hby at_123) hr
      · show Q_rm0 Z _ _ _ h0 n0 _ T17.heap _
        exact ⟨rfl, N20, (K24)⟩
    · skip
      have f34 := (Nat.le_trans f12 K11q.1)
      have f35 := (A5.keep K11q)
      obtain ⟨cq33, kq33, q33a, q33b, q33c⟩ := isOf hZ rfl f35
      obtain ⟨_, _, ⟨T33, L33, k33, n33⟩, -, X33, ⟨Lc33, hQ33, l33, y33, z33⟩, st33⟩ := X11.virtualBack hx (y := MN4) (z := MN4) hown (mvT hZ wo18) (mvT hZ wo19) (notFace_of_selects (args := #[]) (mvT hZ wo21)) (mvT hZ wo21) (mvT hZ wo20) (by decide) (backOf (W := 0) (rm_ne l Z a0 hw [] b5 us rl (T11.heap) n0 f34 hq11_0 (hz : rl ≠ (0 : Int32)) (hzl : (rl.toInt64) ≠ (0 : Int64)) (hb16 : ¬ ((us % rl) = (((((7 : Int64) * (us.toInt64)) + (3 : Int64)) % (rl.toInt64)).toInt32)))) hZ wo22 wo7 (by decide) (by decide)) q33a q33c (g := (mkF m 47 #[iv p0_0, iv p0_1, iv p0_2, iv us, iv rl, rv b5, .unset, .unset, .unset, .unset, .unset, .unset, .unset] [(.int us), (.ref b5)])) rfl (by rw [hml]; rfl) (Steps.refl _) (argsL := [(.int us)]) (rest := []) (lenOf pd_1 rfl) rfl (by show 2 * 0 + _ ≤ _; exact Nat.le_of_eq rfl) (hb hby at_47) (fun _ _ => ⟨rfl, rfl, (by decide : 1 + 1 ≤ _), (by decide : 2 + 2 ≤ _)⟩)
      dsimp only [Pt.U, Pt.locs, Pt.cells, Pt.slots] at X33 l33 y33 z33 st33 hQ33
      subst l33 y33 z33
      obtain ⟨b_33, rfl, N33q, K33q, hq33_0, hq33_1⟩ := hQ33
      have N36 := Fr.app N13 N33q
      have ne37 : b5 ≠ b_33 := Nat.ne_of_lt (Nat.lt_of_lt_of_le f35.lt hq33_0)
      have g38 : n0 ≤ b_33 := Nat.le_trans f34 hq33_0
      have bz39 : h0.size ≤ b_33 := Nat.le_trans (K14).1 hq33_0
      have K40 : Keep h0 T33.heap [] := (K14).trans K33q all0
      have q41 : ((us.toInt64) - (((us.toInt64) / (rl.toInt64)) * (rl.toInt64))) = ((us % rl).toInt64) := own_f us rl hu hr
      have q42 : ((((7 : Int64) * ((us % rl).toInt64)) + (3 : Int64)) % (rl.toInt64)) = ((((((7 : Int64) * (us.toInt64)) + (3 : Int64)) % (rl.toInt64)).toInt32).toInt64) := own_s us rl hu hr
      have hc43 : ¬ ((lcmpW ((us % rl).toInt64) ((((((7 : Int64) * (us.toInt64)) + (3 : Int64)) % (rl.toInt64)).toInt32).toInt64)) = (0 : Int32)) := fun q => hb16 ((own_lc _ _).mp q)
      obtain ⟨kk44, cl44, Ar44, qq44, Sz44, Nn44, Hs44, Gf44⟩ := id hq33_1
      obtain ⟨kk45, cl45, Ar45, qq45, Sz45, Nn45, Hs45, Gf45⟩ := id hq33_1
      have hin46 : ¬ ((0 : Int32) < 0 ∨ cl45.slots.size ≤ ((0 : Int32)).toNatClampNeg) := inb_of Sz45 ⟨by decide, by decide⟩
      have hat47 : cl45.slots[((0 : Int32)).toNatClampNeg]? = some (.int (us % rl)) := Has.at Hs45 hin46 rfl
      have hc48 : (lcmpW ((us % rl).toInt64) ((us % rl).toInt64)) = (0 : Int32) := (lw_eq _ _).mpr rfl
      obtain ⟨kk49, cl49, Ar49, qq49, Sz49, Nn49, Hs49, Gf49⟩ := id hq33_1
      have hin50 : ¬ ((1 : Int32) < 0 ∨ cl49.slots.size ≤ ((1 : Int32)).toNatClampNeg) := inb_of Sz49 ⟨by decide, by decide⟩
      have hat51 : cl49.slots[((1 : Int32)).toNatClampNeg]? = some (.int (((((7 : Int64) * (us.toInt64)) + (3 : Int64)) % (rl.toInt64)).toInt32)) := Has.at Hs49 hin50 rfl
      have hc52 : (lcmpW ((((((7 : Int64) * (us.toInt64)) + (3 : Int64)) % (rl.toInt64)).toInt32).toInt64) ((((((7 : Int64) * (us.toInt64)) + (3 : Int64)) % (rl.toInt64)).toInt32).toInt64)) = (0 : Int32) := (lw_eq _ _).mpr rfl
      obtain ⟨fs, hr, hrun, hended, hW, hsame⟩ := X33.leave (v := some (.int (1 : Int32))) (fun h => by rw [Bd.returns] at h; cases h)
      refine ⟨_, _, pre15 _ ?_, hrun, hended, _, _, rfl, ?_, ⟨_, rfl⟩, hW, hsame.mono (by decide) (by decide)⟩
      · show Steps p.tables e below (T11.setTop (mkF m 47 #[iv p0_0, iv p0_1, iv p0_2, iv us, iv rl, rv b5, .unset, .unset, .unset, .unset, .unset, .unset, .unset] [(.int us), (.ref b5)])) _
        refine st33.trans ?_
        show Steps p.tables e below (T33.setTop (mkF m 50 #[iv p0_0, iv p0_1, iv p0_2, iv us, iv rl, rv b5, .unset, .unset, .unset, .unset, .unset, .unset, .unset] [(.ref b_33)])) _
        refine XS.astore X33.here hx rfl (hb hby at_50) rfl rfl (l' := #[iv p0_0, iv p0_1, iv p0_2, iv us, iv rl, rv b5, rv b_33, .unset, .unset, .unset, .unset, .unset, .unset]) rfl ?_
        show Steps p.tables e below (T33.setTop (mkF m 52 #[iv p0_0, iv p0_1, iv p0_2, iv us, iv rl, rv b5, rv b_33, .unset, .unset, .unset, .unset, .unset, .unset] [])) _
        refine XS.aload X33.here hx rfl (hb hby at_52) rfl rfl ?_
        show Steps p.tables e below (T33.setTop (mkF m 54 #[iv p0_0, iv p0_1, iv p0_2, iv us, iv rl, rv b5, rv b_33, .unset, .unset, .unset, .unset, .unset, .unset] [(.ref b_33)])) _
        refine XS.ifnonnullYes X33.here hx rfl (pc0 := 54) (pc' := 59) rfl (hb hby at_54) rfl (by decide) (by decide) ?_
        show Steps p.tables e below (T33.setTop (mkF m 59 #[iv p0_0, iv p0_1, iv p0_2, iv us, iv rl, rv b5, rv b_33, .unset, .unset, .unset, .unset, .unset, .unset] [])) _
        refine XS.iload X33.here hx rfl (hb hby at_59) rfl ?_
        show Steps p.tables e below (T33.setTop (mkF m 61 #[iv p0_0, iv p0_1, iv p0_2, iv us, iv rl, rv b5, rv b_33, .unset, .unset, .unset, .unset, .unset, .unset] [(.int rl)])) _
        refine XS.i2l X33.here hx rfl (hb hby at_61) rfl ?_
        show Steps p.tables e below (T33.setTop (mkF m 62 #[iv p0_0, iv p0_1, iv p0_2, iv us, iv rl, rv b5, rv b_33, .unset, .unset, .unset, .unset, .unset, .unset] [(.long (rl.toInt64))])) _
        refine XS.lstore X33.here hx rfl (hb hby at_62) rfl (l' := #[iv p0_0, iv p0_1, iv p0_2, iv us, iv rl, rv b5, rv b_33, .val (.long (rl.toInt64)), .second, .unset, .unset, .unset, .unset]) rfl ?_
        show Steps p.tables e below (T33.setTop (mkF m 64 #[iv p0_0, iv p0_1, iv p0_2, iv us, iv rl, rv b5, rv b_33, .val (.long (rl.toInt64)), .second, .unset, .unset, .unset, .unset] [])) _
        refine XS.iloadN X33.here hx rfl (hb hby at_64) rfl ?_
        show Steps p.tables e below (T33.setTop (mkF m 65 #[iv p0_0, iv p0_1, iv p0_2, iv us, iv rl, rv b5, rv b_33, .val (.long (rl.toInt64)), .second, .unset, .unset, .unset, .unset] [(.int us)])) _
        refine XS.i2l X33.here hx rfl (hb hby at_65) rfl ?_
        show Steps p.tables e below (T33.setTop (mkF m 66 #[iv p0_0, iv p0_1, iv p0_2, iv us, iv rl, rv b5, rv b_33, .val (.long (rl.toInt64)), .second, .unset, .unset, .unset, .unset] [(.long (us.toInt64))])) _
        refine XS.iloadN X33.here hx rfl (hb hby at_66) rfl ?_
        show Steps p.tables e below (T33.setTop (mkF m 67 #[iv p0_0, iv p0_1, iv p0_2, iv us, iv rl, rv b5, rv b_33, .val (.long (rl.toInt64)), .second, .unset, .unset, .unset, .unset] [(.int us), (.long (us.toInt64))])) _
        refine XS.i2l X33.here hx rfl (hb hby at_67) rfl ?_
        show Steps p.tables e below (T33.setTop (mkF m 68 #[iv p0_0, iv p0_1, iv p0_2, iv us, iv rl, rv b5, rv b_33, .val (.long (rl.toInt64)), .second, .unset, .unset, .unset, .unset] [(.long (us.toInt64)), (.long (us.toInt64))])) _
        refine XS.lload X33.here hx rfl (hb hby at_68) rfl ?_
        show Steps p.tables e below (T33.setTop (mkF m 70 #[iv p0_0, iv p0_1, iv p0_2, iv us, iv rl, rv b5, rv b_33, .val (.long (rl.toInt64)), .second, .unset, .unset, .unset, .unset] [(.long (rl.toInt64)), (.long (us.toInt64)), (.long (us.toInt64))])) _
        refine XS.ldiv X33.here hx rfl (hb hby at_70) rfl hzl ?_
        show Steps p.tables e below (T33.setTop (mkF m 71 #[iv p0_0, iv p0_1, iv p0_2, iv us, iv rl, rv b5, rv b_33, .val (.long (rl.toInt64)), .second, .unset, .unset, .unset, .unset] [(.long ((us.toInt64) / (rl.toInt64))), (.long (us.toInt64))])) _
        refine XS.lload X33.here hx rfl (hb hby at_71) rfl ?_
        show Steps p.tables e below (T33.setTop (mkF m 73 #[iv p0_0, iv p0_1, iv p0_2, iv us, iv rl, rv b5, rv b_33, .val (.long (rl.toInt64)), .second, .unset, .unset, .unset, .unset] [(.long (rl.toInt64)), (.long ((us.toInt64) / (rl.toInt64))), (.long (us.toInt64))])) _
        refine XS.lmul X33.here hx rfl (hb hby at_73) rfl ?_
        show Steps p.tables e below (T33.setTop (mkF m 74 #[iv p0_0, iv p0_1, iv p0_2, iv us, iv rl, rv b5, rv b_33, .val (.long (rl.toInt64)), .second, .unset, .unset, .unset, .unset] [(.long (((us.toInt64) / (rl.toInt64)) * (rl.toInt64))), (.long (us.toInt64))])) _
        refine XS.lsub X33.here hx rfl (hb hby at_74) rfl ?_
        rw [q41]
        show Steps p.tables e below (T33.setTop (mkF m 75 #[iv p0_0, iv p0_1, iv p0_2, iv us, iv rl, rv b5, rv b_33, .val (.long (rl.toInt64)), .second, .unset, .unset, .unset, .unset] [(.long ((us % rl).toInt64))])) _
        show Steps p.tables e below (T33.setTop (mkF m 75 #[iv p0_0, iv p0_1, iv p0_2, iv us, iv rl, rv b5, rv b_33, .val (.long (rl.toInt64)), .second, .unset, .unset, .unset, .unset] [(.long ((us % rl).toInt64))])) _
        refine XS.lstore X33.here hx rfl (hb hby at_75) rfl (l' := #[iv p0_0, iv p0_1, iv p0_2, iv us, iv rl, rv b5, rv b_33, .val (.long (rl.toInt64)), .second, .val (.long ((us % rl).toInt64)), .second, .unset, .unset]) rfl ?_
        show Steps p.tables e below (T33.setTop (mkF m 77 #[iv p0_0, iv p0_1, iv p0_2, iv us, iv rl, rv b5, rv b_33, .val (.long (rl.toInt64)), .second, .val (.long ((us % rl).toInt64)), .second, .unset, .unset] [])) _
        refine X33.ldc2Long hx hown (mvT hZ wo26) (g := (mkF m 77 #[iv p0_0, iv p0_1, iv p0_2, iv us, iv rl, rv b5, rv b_33, .val (.long (rl.toInt64)), .second, .val (.long ((us % rl).toInt64)), .second, .unset, .unset] [])) rfl (hb hby at_77) _ ?_
        show Steps p.tables e below (T33.setTop (mkF m 80 #[iv p0_0, iv p0_1, iv p0_2, iv us, iv rl, rv b5, rv b_33, .val (.long (rl.toInt64)), .second, .val (.long ((us % rl).toInt64)), .second, .unset, .unset] [(.long (7 : Int64))])) _
        refine XS.lload X33.here hx rfl (hb hby at_80) rfl ?_
        show Steps p.tables e below (T33.setTop (mkF m 82 #[iv p0_0, iv p0_1, iv p0_2, iv us, iv rl, rv b5, rv b_33, .val (.long (rl.toInt64)), .second, .val (.long ((us % rl).toInt64)), .second, .unset, .unset] [(.long ((us % rl).toInt64)), (.long (7 : Int64))])) _
        refine XS.lmul X33.here hx rfl (hb hby at_82) rfl ?_
        show Steps p.tables e below (T33.setTop (mkF m 83 #[iv p0_0, iv p0_1, iv p0_2, iv us, iv rl, rv b5, rv b_33, .val (.long (rl.toInt64)), .second, .val (.long ((us % rl).toInt64)), .second, .unset, .unset] [(.long ((7 : Int64) * ((us % rl).toInt64)))])) _
        refine X33.ldc2Long hx hown (mvT hZ wo27) (g := (mkF m 83 #[iv p0_0, iv p0_1, iv p0_2, iv us, iv rl, rv b5, rv b_33, .val (.long (rl.toInt64)), .second, .val (.long ((us % rl).toInt64)), .second, .unset, .unset] [(.long ((7 : Int64) * ((us % rl).toInt64)))])) rfl (hb hby at_83) _ ?_
        show Steps p.tables e below (T33.setTop (mkF m 86 #[iv p0_0, iv p0_1, iv p0_2, iv us, iv rl, rv b5, rv b_33, .val (.long (rl.toInt64)), .second, .val (.long ((us % rl).toInt64)), .second, .unset, .unset] [(.long (3 : Int64)), (.long ((7 : Int64) * ((us % rl).toInt64)))])) _
        refine XS.ladd X33.here hx rfl (hb hby at_86) rfl ?_
        show Steps p.tables e below (T33.setTop (mkF m 87 #[iv p0_0, iv p0_1, iv p0_2, iv us, iv rl, rv b5, rv b_33, .val (.long (rl.toInt64)), .second, .val (.long ((us % rl).toInt64)), .second, .unset, .unset] [(.long (((7 : Int64) * ((us % rl).toInt64)) + (3 : Int64)))])) _
        refine XS.lload X33.here hx rfl (hb hby at_87) rfl ?_
        show Steps p.tables e below (T33.setTop (mkF m 89 #[iv p0_0, iv p0_1, iv p0_2, iv us, iv rl, rv b5, rv b_33, .val (.long (rl.toInt64)), .second, .val (.long ((us % rl).toInt64)), .second, .unset, .unset] [(.long (rl.toInt64)), (.long (((7 : Int64) * ((us % rl).toInt64)) + (3 : Int64)))])) _
        refine XS.lrem X33.here hx rfl (hb hby at_89) rfl hzl ?_
        rw [lrem_mod]
        rw [q42]
        show Steps p.tables e below (T33.setTop (mkF m 90 #[iv p0_0, iv p0_1, iv p0_2, iv us, iv rl, rv b5, rv b_33, .val (.long (rl.toInt64)), .second, .val (.long ((us % rl).toInt64)), .second, .unset, .unset] [(.long ((((((7 : Int64) * (us.toInt64)) + (3 : Int64)) % (rl.toInt64)).toInt32).toInt64))])) _
        show Steps p.tables e below (T33.setTop (mkF m 90 #[iv p0_0, iv p0_1, iv p0_2, iv us, iv rl, rv b5, rv b_33, .val (.long (rl.toInt64)), .second, .val (.long ((us % rl).toInt64)), .second, .unset, .unset] [(.long ((((((7 : Int64) * (us.toInt64)) + (3 : Int64)) % (rl.toInt64)).toInt32).toInt64))])) _
        refine XS.lstore X33.here hx rfl (hb hby at_90) rfl (l' := #[iv p0_0, iv p0_1, iv p0_2, iv us, iv rl, rv b5, rv b_33, .val (.long (rl.toInt64)), .second, .val (.long ((us % rl).toInt64)), .second, .val (.long ((((((7 : Int64) * (us.toInt64)) + (3 : Int64)) % (rl.toInt64)).toInt32).toInt64)), .second]) rfl ?_
        show Steps p.tables e below (T33.setTop (mkF m 92 #[iv p0_0, iv p0_1, iv p0_2, iv us, iv rl, rv b5, rv b_33, .val (.long (rl.toInt64)), .second, .val (.long ((us % rl).toInt64)), .second, .val (.long ((((((7 : Int64) * (us.toInt64)) + (3 : Int64)) % (rl.toInt64)).toInt32).toInt64)), .second] [])) _
        refine XS.lload X33.here hx rfl (hb hby at_92) rfl ?_
        show Steps p.tables e below (T33.setTop (mkF m 94 #[iv p0_0, iv p0_1, iv p0_2, iv us, iv rl, rv b5, rv b_33, .val (.long (rl.toInt64)), .second, .val (.long ((us % rl).toInt64)), .second, .val (.long ((((((7 : Int64) * (us.toInt64)) + (3 : Int64)) % (rl.toInt64)).toInt32).toInt64)), .second] [(.long ((us % rl).toInt64))])) _
        refine XS.lload X33.here hx rfl (hb hby at_94) rfl ?_
        show Steps p.tables e below (T33.setTop (mkF m 96 #[iv p0_0, iv p0_1, iv p0_2, iv us, iv rl, rv b5, rv b_33, .val (.long (rl.toInt64)), .second, .val (.long ((us % rl).toInt64)), .second, .val (.long ((((((7 : Int64) * (us.toInt64)) + (3 : Int64)) % (rl.toInt64)).toInt32).toInt64)), .second] [(.long ((((((7 : Int64) * (us.toInt64)) + (3 : Int64)) % (rl.toInt64)).toInt32).toInt64)), (.long ((us % rl).toInt64))])) _
        refine XS.lcmp X33.here hx rfl (hb hby at_96) rfl ?_
        show Steps p.tables e below (T33.setTop (mkF m 97 #[iv p0_0, iv p0_1, iv p0_2, iv us, iv rl, rv b5, rv b_33, .val (.long (rl.toInt64)), .second, .val (.long ((us % rl).toInt64)), .second, .val (.long ((((((7 : Int64) * (us.toInt64)) + (3 : Int64)) % (rl.toInt64)).toInt32).toInt64)), .second] [(.int (lcmpW ((us % rl).toInt64) ((((((7 : Int64) * (us.toInt64)) + (3 : Int64)) % (rl.toInt64)).toInt32).toInt64)))])) _
        refine XS.ifYes X33.here hx rfl (pc0 := 97) (pc' := 124) rfl (hb hby at_97) rfl ((if0 _ _).trans (feq hc43).2) (by decide) (by decide) ?_
        show Steps p.tables e below (T33.setTop (mkF m 124 #[iv p0_0, iv p0_1, iv p0_2, iv us, iv rl, rv b5, rv b_33, .val (.long (rl.toInt64)), .second, .val (.long ((us % rl).toInt64)), .second, .val (.long ((((((7 : Int64) * (us.toInt64)) + (3 : Int64)) % (rl.toInt64)).toInt32).toInt64)), .second] [])) _
        refine XS.aload X33.here hx rfl (hb hby at_124) rfl rfl ?_
        show Steps p.tables e below (T33.setTop (mkF m 126 #[iv p0_0, iv p0_1, iv p0_2, iv us, iv rl, rv b5, rv b_33, .val (.long (rl.toInt64)), .second, .val (.long ((us % rl).toInt64)), .second, .val (.long ((((((7 : Int64) * (us.toInt64)) + (3 : Int64)) % (rl.toInt64)).toInt32).toInt64)), .second] [(.ref b_33)])) _
        refine X33.arraylength hx (Ar44.1) (State.isArrayOf_alike hZ.alike Ar44.2.1) (g := (mkF m 126 #[iv p0_0, iv p0_1, iv p0_2, iv us, iv rl, rv b5, rv b_33, .val (.long (rl.toInt64)), .second, .val (.long ((us % rl).toInt64)), .second, .val (.long ((((((7 : Int64) * (us.toInt64)) + (3 : Int64)) % (rl.toInt64)).toInt32).toInt64)), .second] [(.ref b_33)])) rfl rfl (hb hby at_126) _ ?_
        rw [len_of Sz44 Nn44]
        show Steps p.tables e below (T33.setTop (mkF m 127 #[iv p0_0, iv p0_1, iv p0_2, iv us, iv rl, rv b5, rv b_33, .val (.long (rl.toInt64)), .second, .val (.long ((us % rl).toInt64)), .second, .val (.long ((((((7 : Int64) * (us.toInt64)) + (3 : Int64)) % (rl.toInt64)).toInt32).toInt64)), .second] [(.int (2 : Int32))])) _
        refine XS.iconst X33.here hx rfl (hb hby at_127) ?_
        show Steps p.tables e below (T33.setTop (mkF m 128 #[iv p0_0, iv p0_1, iv p0_2, iv us, iv rl, rv b5, rv b_33, .val (.long (rl.toInt64)), .second, .val (.long ((us % rl).toInt64)), .second, .val (.long ((((((7 : Int64) * (us.toInt64)) + (3 : Int64)) % (rl.toInt64)).toInt32).toInt64)), .second] [(.int (2 : Int32)), (.int (2 : Int32))])) _
        refine XS.icmpNo X33.here hx rfl (hb hby at_128) rfl (teq (by decide : (2 : Int32) = (2 : Int32))).2 ?_
        show Steps p.tables e below (T33.setTop (mkF m 131 #[iv p0_0, iv p0_1, iv p0_2, iv us, iv rl, rv b5, rv b_33, .val (.long (rl.toInt64)), .second, .val (.long ((us % rl).toInt64)), .second, .val (.long ((((((7 : Int64) * (us.toInt64)) + (3 : Int64)) % (rl.toInt64)).toInt32).toInt64)), .second] [])) _
        refine XS.aload X33.here hx rfl (hb hby at_131) rfl rfl ?_
        show Steps p.tables e below (T33.setTop (mkF m 133 #[iv p0_0, iv p0_1, iv p0_2, iv us, iv rl, rv b5, rv b_33, .val (.long (rl.toInt64)), .second, .val (.long ((us % rl).toInt64)), .second, .val (.long ((((((7 : Int64) * (us.toInt64)) + (3 : Int64)) % (rl.toInt64)).toInt32).toInt64)), .second] [(.ref b_33)])) _
        refine XS.iconst X33.here hx rfl (hb hby at_133) ?_
        show Steps p.tables e below (T33.setTop (mkF m 134 #[iv p0_0, iv p0_1, iv p0_2, iv us, iv rl, rv b5, rv b_33, .val (.long (rl.toInt64)), .second, .val (.long ((us % rl).toInt64)), .second, .val (.long ((((((7 : Int64) * (us.toInt64)) + (3 : Int64)) % (rl.toInt64)).toInt32).toInt64)), .second] [(.int (0 : Int32)), (.ref b_33)])) _
        refine X33.iaload hx (j := (0 : Int32)) (v := (.int (us % rl))) (Ar45.1) (State.isArrayOf_alike hZ.alike Ar45.2.1) Ar45.2.2 hin46 hat47 (g := (mkF m 134 #[iv p0_0, iv p0_1, iv p0_2, iv us, iv rl, rv b5, rv b_33, .val (.long (rl.toInt64)), .second, .val (.long ((us % rl).toInt64)), .second, .val (.long ((((((7 : Int64) * (us.toInt64)) + (3 : Int64)) % (rl.toInt64)).toInt32).toInt64)), .second] [(.int (0 : Int32)), (.ref b_33)])) rfl rfl (hb hby at_134) _ ?_
        show Steps p.tables e below (T33.setTop (mkF m 135 #[iv p0_0, iv p0_1, iv p0_2, iv us, iv rl, rv b5, rv b_33, .val (.long (rl.toInt64)), .second, .val (.long ((us % rl).toInt64)), .second, .val (.long ((((((7 : Int64) * (us.toInt64)) + (3 : Int64)) % (rl.toInt64)).toInt32).toInt64)), .second] [(.int (us % rl))])) _
        refine XS.i2l X33.here hx rfl (hb hby at_135) rfl ?_
        show Steps p.tables e below (T33.setTop (mkF m 136 #[iv p0_0, iv p0_1, iv p0_2, iv us, iv rl, rv b5, rv b_33, .val (.long (rl.toInt64)), .second, .val (.long ((us % rl).toInt64)), .second, .val (.long ((((((7 : Int64) * (us.toInt64)) + (3 : Int64)) % (rl.toInt64)).toInt32).toInt64)), .second] [(.long ((us % rl).toInt64))])) _
        refine XS.lload X33.here hx rfl (hb hby at_136) rfl ?_
        show Steps p.tables e below (T33.setTop (mkF m 138 #[iv p0_0, iv p0_1, iv p0_2, iv us, iv rl, rv b5, rv b_33, .val (.long (rl.toInt64)), .second, .val (.long ((us % rl).toInt64)), .second, .val (.long ((((((7 : Int64) * (us.toInt64)) + (3 : Int64)) % (rl.toInt64)).toInt32).toInt64)), .second] [(.long ((us % rl).toInt64)), (.long ((us % rl).toInt64))])) _
        refine XS.lcmp X33.here hx rfl (hb hby at_138) rfl ?_
        show Steps p.tables e below (T33.setTop (mkF m 139 #[iv p0_0, iv p0_1, iv p0_2, iv us, iv rl, rv b5, rv b_33, .val (.long (rl.toInt64)), .second, .val (.long ((us % rl).toInt64)), .second, .val (.long ((((((7 : Int64) * (us.toInt64)) + (3 : Int64)) % (rl.toInt64)).toInt32).toInt64)), .second] [(.int (lcmpW ((us % rl).toInt64) ((us % rl).toInt64)))])) _
        refine XS.ifNo X33.here hx rfl (hb hby at_139) rfl ((if0 _ _).trans (teq hc48).2) ?_
        show Steps p.tables e below (T33.setTop (mkF m 142 #[iv p0_0, iv p0_1, iv p0_2, iv us, iv rl, rv b5, rv b_33, .val (.long (rl.toInt64)), .second, .val (.long ((us % rl).toInt64)), .second, .val (.long ((((((7 : Int64) * (us.toInt64)) + (3 : Int64)) % (rl.toInt64)).toInt32).toInt64)), .second] [])) _
        refine XS.aload X33.here hx rfl (hb hby at_142) rfl rfl ?_
        show Steps p.tables e below (T33.setTop (mkF m 144 #[iv p0_0, iv p0_1, iv p0_2, iv us, iv rl, rv b5, rv b_33, .val (.long (rl.toInt64)), .second, .val (.long ((us % rl).toInt64)), .second, .val (.long ((((((7 : Int64) * (us.toInt64)) + (3 : Int64)) % (rl.toInt64)).toInt32).toInt64)), .second] [(.ref b_33)])) _
        refine XS.iconst X33.here hx rfl (hb hby at_144) ?_
        show Steps p.tables e below (T33.setTop (mkF m 145 #[iv p0_0, iv p0_1, iv p0_2, iv us, iv rl, rv b5, rv b_33, .val (.long (rl.toInt64)), .second, .val (.long ((us % rl).toInt64)), .second, .val (.long ((((((7 : Int64) * (us.toInt64)) + (3 : Int64)) % (rl.toInt64)).toInt32).toInt64)), .second] [(.int (1 : Int32)), (.ref b_33)])) _
        refine X33.iaload hx (j := (1 : Int32)) (v := (.int (((((7 : Int64) * (us.toInt64)) + (3 : Int64)) % (rl.toInt64)).toInt32))) (Ar49.1) (State.isArrayOf_alike hZ.alike Ar49.2.1) Ar49.2.2 hin50 hat51 (g := (mkF m 145 #[iv p0_0, iv p0_1, iv p0_2, iv us, iv rl, rv b5, rv b_33, .val (.long (rl.toInt64)), .second, .val (.long ((us % rl).toInt64)), .second, .val (.long ((((((7 : Int64) * (us.toInt64)) + (3 : Int64)) % (rl.toInt64)).toInt32).toInt64)), .second] [(.int (1 : Int32)), (.ref b_33)])) rfl rfl (hb hby at_145) _ ?_
        show Steps p.tables e below (T33.setTop (mkF m 146 #[iv p0_0, iv p0_1, iv p0_2, iv us, iv rl, rv b5, rv b_33, .val (.long (rl.toInt64)), .second, .val (.long ((us % rl).toInt64)), .second, .val (.long ((((((7 : Int64) * (us.toInt64)) + (3 : Int64)) % (rl.toInt64)).toInt32).toInt64)), .second] [(.int (((((7 : Int64) * (us.toInt64)) + (3 : Int64)) % (rl.toInt64)).toInt32))])) _
        refine XS.i2l X33.here hx rfl (hb hby at_146) rfl ?_
        show Steps p.tables e below (T33.setTop (mkF m 147 #[iv p0_0, iv p0_1, iv p0_2, iv us, iv rl, rv b5, rv b_33, .val (.long (rl.toInt64)), .second, .val (.long ((us % rl).toInt64)), .second, .val (.long ((((((7 : Int64) * (us.toInt64)) + (3 : Int64)) % (rl.toInt64)).toInt32).toInt64)), .second] [(.long ((((((7 : Int64) * (us.toInt64)) + (3 : Int64)) % (rl.toInt64)).toInt32).toInt64))])) _
        refine XS.lload X33.here hx rfl (hb hby at_147) rfl ?_
        show Steps p.tables e below (T33.setTop (mkF m 149 #[iv p0_0, iv p0_1, iv p0_2, iv us, iv rl, rv b5, rv b_33, .val (.long (rl.toInt64)), .second, .val (.long ((us % rl).toInt64)), .second, .val (.long ((((((7 : Int64) * (us.toInt64)) + (3 : Int64)) % (rl.toInt64)).toInt32).toInt64)), .second] [(.long ((((((7 : Int64) * (us.toInt64)) + (3 : Int64)) % (rl.toInt64)).toInt32).toInt64)), (.long ((((((7 : Int64) * (us.toInt64)) + (3 : Int64)) % (rl.toInt64)).toInt32).toInt64))])) _
        refine XS.lcmp X33.here hx rfl (hb hby at_149) rfl ?_
        show Steps p.tables e below (T33.setTop (mkF m 150 #[iv p0_0, iv p0_1, iv p0_2, iv us, iv rl, rv b5, rv b_33, .val (.long (rl.toInt64)), .second, .val (.long ((us % rl).toInt64)), .second, .val (.long ((((((7 : Int64) * (us.toInt64)) + (3 : Int64)) % (rl.toInt64)).toInt32).toInt64)), .second] [(.int (lcmpW ((((((7 : Int64) * (us.toInt64)) + (3 : Int64)) % (rl.toInt64)).toInt32).toInt64) ((((((7 : Int64) * (us.toInt64)) + (3 : Int64)) % (rl.toInt64)).toInt32).toInt64)))])) _
        refine XS.ifNo X33.here hx rfl (hb hby at_150) rfl ((if0 _ _).trans (teq hc52).2) ?_
        show Steps p.tables e below (T33.setTop (mkF m 153 #[iv p0_0, iv p0_1, iv p0_2, iv us, iv rl, rv b5, rv b_33, .val (.long (rl.toInt64)), .second, .val (.long ((us % rl).toInt64)), .second, .val (.long ((((((7 : Int64) * (us.toInt64)) + (3 : Int64)) % (rl.toInt64)).toInt32).toInt64)), .second] [])) _
        refine XS.iconst X33.here hx rfl (hb hby at_153) ?_
        show Steps p.tables e below (T33.setTop (mkF m 154 #[iv p0_0, iv p0_1, iv p0_2, iv us, iv rl, rv b5, rv b_33, .val (.long (rl.toInt64)), .second, .val (.long ((us % rl).toInt64)), .second, .val (.long ((((((7 : Int64) * (us.toInt64)) + (3 : Int64)) % (rl.toInt64)).toInt32).toInt64)), .second] [(.int (1 : Int32))])) _
        refine XS.goto X33.here hx rfl (pc0 := 154) (pc' := 158) rfl (hb hby at_154) (by decide) (by decide) ?_
        show Steps p.tables e below (T33.setTop (mkF m 158 #[iv p0_0, iv p0_1, iv p0_2, iv us, iv rl, rv b5, rv b_33, .val (.long (rl.toInt64)), .second, .val (.long ((us % rl).toInt64)), .second, .val (.long ((((((7 : Int64) * (us.toInt64)) + (3 : Int64)) % (rl.toInt64)).toInt32).toInt64)), .second] [(.int (1 : Int32))])) _
        exact retN X33 hx (t := .boolean) Bd.returns (by simp) (hb hby at_158) hr
      · show Q_rm0 Z _ _ _ h0 n0 _ T33.heap _
        exact ⟨rfl, N36, (K40)⟩
  · skip
    obtain ⟨rl, h_rl⟩ : ∃ z : Int32, z = ((p0_1 &&& (7 : Int32)) + (1 : Int32)) := ⟨_, rfl⟩
    have hr : 0 < rl.toInt := by rw [h_rl]; first | exact own_r1 _ | exact own_r2 _
    have hz : rl ≠ (0 : Int32) := own_z rl hr
    have hzl : (rl.toInt64) ≠ (0 : Int64) := own_zl rl hr
    have hro : ¬ (rl < (1 : Int32)) := by rw [Int32.lt_iff_toInt_lt]; simp only [Int32.reduceToInt]; omega
    obtain ⟨T53, h53, X53, e53, E53, A53, D53, -, st53⟩ := newO X0 hx hZ hown wo5 wo6 wo7 e0 (g := (mkF m 32 #[iv p0_0, iv p0_1, iv p0_2, iv us, iv rl, .unset, .unset, .unset, .unset, .unset, .unset, .unset, .unset] [])) rfl (hb hby at_32) (by decide) (by decide)
    obtain ⟨b53, gg53⟩ : ∃ z, z = h0.size := ⟨_, rfl⟩
    rw [← gg53] at A53 D53 st53
    have g54 : n0 ≤ b53 := Nat.le_trans Z0 (Nat.le_of_eq gg53.symm)
    have bz55 : h0.size ≤ b53 := Nat.le_trans (Keep.refl h0 []).1 (Nat.le_of_eq gg53.symm)
    have K56 : Keep h0 h53 [] := (Keep.refl h0 []).ext E53
    have f57 : Fld Z h53 b53 "com/example/arbiter/bench/Workload" "roles" "I" (.int (0 : Int32)) := D53 (Or.inr wo15) (ty := .int) (by decide)
    have f58 : Fld Z h53 b53 "com/example/arbiter/bench/Workload" "users" "I" (.int (0 : Int32)) := D53 (Or.inr wo17) (ty := .int) (by decide)
    have f60 := (Nat.le_trans Z0 E53.1)
    obtain ⟨_, _, ⟨T59, L59, k59, n59⟩, -, X59, ⟨Lc59, hQ59, l59, y59, z59⟩, st59⟩ := X53.specialBack hx (y := MN2) rfl hown (mvT hZ wo8) (mvT hZ wo9) (mvT hZ wo10) (by decide) (backOf (W := 1) (rm2 l Z a0 hw [] b53 rl h53 n0 f60 A53 g54 f57 f58 (by first | decide | assumption | omega : ¬ (rl < (1 : Int32)))) hZ wo10 wo7 (by decide) (by decide)) (g := (mkF m 39 #[iv p0_0, iv p0_1, iv p0_2, iv us, iv rl, .unset, .unset, .unset, .unset, .unset, .unset, .unset, .unset] [(.int (1 : Int32)), (.int rl), (.ref b53), (.ref b53)])) rfl (by rw [hml]; rfl) (Steps.refl _) (a := b53) (argsL := [(.int rl), (.int (1 : Int32))]) (rest := [(.ref b53)]) (lenOf pd_3 rfl) rfl (by show 2 * 0 + _ ≤ _; exact Nat.le_of_eq rfl) (hb hby at_39) (fun _ _ => ⟨rfl, e53, (by decide : 1 + 0 ≤ _), (by decide : 2 + 0 ≤ _)⟩)
    dsimp only [Pt.U, Pt.locs, Pt.cells, Pt.slots] at X59 l59 y59 z59 st59 hQ59
    subst l59 y59 z59
    obtain ⟨rfl, N59q, K59q, hq59_0⟩ := hQ59
    have N61 := Fr.app N0 N59q
    have K62 : Keep h0 T59.heap [] := (K56).trans K59q (allS (P := fun x => x ∈ [] ∨ h0.size ≤ x) (Or.inr bz55) all0)
    have pre63 : ∀ t, Steps p.tables e below (T59.setTop (mkF m 47 #[iv p0_0, iv p0_1, iv p0_2, iv us, iv rl, rv b53, .unset, .unset, .unset, .unset, .unset, .unset, .unset] [(.int us), (.ref b53)])) t → Steps p.tables e below (s₁.setTop (entryFrame m #[(.int p0_0), (.int p0_1), (.int p0_2)] maxLocals)) t := by
      intro t_ k_
      refine pre2 _ ?_
      show Steps p.tables e below (s₁.setTop (mkF m 8 #[iv p0_0, iv p0_1, iv p0_2, iv us, .unset, .unset, .unset, .unset, .unset, .unset, .unset, .unset, .unset] [(.int (p0_2 &&& (1 : Int32)))])) _
      refine XS.ifNo X0.here hx rfl (hb hby at_8) rfl ((if0 _ _).trans (feq hc8_1).1) ?_
      show Steps p.tables e below (s₁.setTop (mkF m 11 #[iv p0_0, iv p0_1, iv p0_2, iv us, .unset, .unset, .unset, .unset, .unset, .unset, .unset, .unset, .unset] [])) _
      refine XS.iloadN X0.here hx rfl (hb hby at_11) rfl ?_
      show Steps p.tables e below (s₁.setTop (mkF m 12 #[iv p0_0, iv p0_1, iv p0_2, iv us, .unset, .unset, .unset, .unset, .unset, .unset, .unset, .unset, .unset] [(.int p0_1)])) _
      refine XS.bipush X0.here hx rfl (hb hby at_12) ?_
      show Steps p.tables e below (s₁.setTop (mkF m 14 #[iv p0_0, iv p0_1, iv p0_2, iv us, .unset, .unset, .unset, .unset, .unset, .unset, .unset, .unset, .unset] [(.int (7 : Int32)), (.int p0_1)])) _
      refine XS.iand X0.here hx rfl (hb hby at_14) rfl ?_
      show Steps p.tables e below (s₁.setTop (mkF m 15 #[iv p0_0, iv p0_1, iv p0_2, iv us, .unset, .unset, .unset, .unset, .unset, .unset, .unset, .unset, .unset] [(.int (p0_1 &&& (7 : Int32)))])) _
      refine XS.iconst X0.here hx rfl (hb hby at_15) ?_
      show Steps p.tables e below (s₁.setTop (mkF m 16 #[iv p0_0, iv p0_1, iv p0_2, iv us, .unset, .unset, .unset, .unset, .unset, .unset, .unset, .unset, .unset] [(.int (1 : Int32)), (.int (p0_1 &&& (7 : Int32)))])) _
      refine XS.iadd X0.here hx rfl (hb hby at_16) rfl ?_
      show Steps p.tables e below (s₁.setTop (mkF m 17 #[iv p0_0, iv p0_1, iv p0_2, iv us, .unset, .unset, .unset, .unset, .unset, .unset, .unset, .unset, .unset] [(.int ((p0_1 &&& (7 : Int32)) + (1 : Int32)))])) _
      refine XS.istore X0.here hx rfl (hb hby at_17) rfl (l' := #[iv p0_0, iv p0_1, iv p0_2, iv us, iv ((p0_1 &&& (7 : Int32)) + (1 : Int32)), .unset, .unset, .unset, .unset, .unset, .unset, .unset, .unset]) rfl ?_
      show Steps p.tables e below (s₁.setTop (mkF m 19 #[iv p0_0, iv p0_1, iv p0_2, iv us, iv ((p0_1 &&& (7 : Int32)) + (1 : Int32)), .unset, .unset, .unset, .unset, .unset, .unset, .unset, .unset] [])) _
      refine XS.goto X0.here hx rfl (pc0 := 19) (pc' := 32) rfl (hb hby at_19) (by decide) (by decide) ?_
      rw [← h_rl]
      show Steps p.tables e below (s₁.setTop (mkF m 32 #[iv p0_0, iv p0_1, iv p0_2, iv us, iv rl, .unset, .unset, .unset, .unset, .unset, .unset, .unset, .unset] [])) _
      show Steps p.tables e below (s₁.setTop (mkF m 32 #[iv p0_0, iv p0_1, iv p0_2, iv us, iv rl, .unset, .unset, .unset, .unset, .unset, .unset, .unset, .unset] [])) _
      refine st53 _ ?_
      show Steps p.tables e below (T53.setTop (mkF m 35 #[iv p0_0, iv p0_1, iv p0_2, iv us, iv rl, .unset, .unset, .unset, .unset, .unset, .unset, .unset, .unset] [(.ref b53)])) _
      refine XS.dup X53.here hx rfl (hb hby at_35) rfl rfl ?_
      show Steps p.tables e below (T53.setTop (mkF m 36 #[iv p0_0, iv p0_1, iv p0_2, iv us, iv rl, .unset, .unset, .unset, .unset, .unset, .unset, .unset, .unset] [(.ref b53), (.ref b53)])) _
      refine XS.iload X53.here hx rfl (hb hby at_36) rfl ?_
      show Steps p.tables e below (T53.setTop (mkF m 38 #[iv p0_0, iv p0_1, iv p0_2, iv us, iv rl, .unset, .unset, .unset, .unset, .unset, .unset, .unset, .unset] [(.int rl), (.ref b53), (.ref b53)])) _
      refine XS.iconst X53.here hx rfl (hb hby at_38) ?_
      show Steps p.tables e below (T53.setTop (mkF m 39 #[iv p0_0, iv p0_1, iv p0_2, iv us, iv rl, .unset, .unset, .unset, .unset, .unset, .unset, .unset, .unset] [(.int (1 : Int32)), (.int rl), (.ref b53), (.ref b53)])) _
      refine st59.trans ?_
      show Steps p.tables e below (T59.setTop (mkF m 42 #[iv p0_0, iv p0_1, iv p0_2, iv us, iv rl, .unset, .unset, .unset, .unset, .unset, .unset, .unset, .unset] [(.ref b53)])) _
      refine XS.astore X59.here hx rfl (hb hby at_42) rfl rfl (l' := #[iv p0_0, iv p0_1, iv p0_2, iv us, iv rl, rv b53, .unset, .unset, .unset, .unset, .unset, .unset, .unset]) rfl ?_
      show Steps p.tables e below (T59.setTop (mkF m 44 #[iv p0_0, iv p0_1, iv p0_2, iv us, iv rl, rv b53, .unset, .unset, .unset, .unset, .unset, .unset, .unset] [])) _
      refine XS.aload X59.here hx rfl (hb hby at_44) rfl rfl ?_
      show Steps p.tables e below (T59.setTop (mkF m 46 #[iv p0_0, iv p0_1, iv p0_2, iv us, iv rl, rv b53, .unset, .unset, .unset, .unset, .unset, .unset, .unset] [(.ref b53)])) _
      refine XS.iloadN X59.here hx rfl (hb hby at_46) rfl ?_
      exact k_
    by_cases hb64 : (us % rl) = (((((7 : Int64) * (us.toInt64)) + (3 : Int64)) % (rl.toInt64)).toInt32)
    · skip
      have f66 := (Nat.le_trans f60 K59q.1)
      have f67 := (A53.keep K59q)
      obtain ⟨cq65, kq65, q65a, q65b, q65c⟩ := isOf hZ rfl f67
      obtain ⟨_, _, ⟨T65, L65, k65, n65⟩, -, X65, ⟨Lc65, hQ65, l65, y65, z65⟩, st65⟩ := X59.virtualBack hx (y := MN4) (z := MN4) hown (mvT hZ wo18) (mvT hZ wo19) (notFace_of_selects (args := #[]) (mvT hZ wo21)) (mvT hZ wo21) (mvT hZ wo20) (by decide) (backOf (W := 0) (rm_eq l Z a0 hw [] b53 us rl (T59.heap) n0 f66 hq59_0 (hz : rl ≠ (0 : Int32)) (hzl : (rl.toInt64) ≠ (0 : Int64)) (hb64 : (us % rl) = (((((7 : Int64) * (us.toInt64)) + (3 : Int64)) % (rl.toInt64)).toInt32))) hZ wo22 wo7 (by decide) (by decide)) q65a q65c (g := (mkF m 47 #[iv p0_0, iv p0_1, iv p0_2, iv us, iv rl, rv b53, .unset, .unset, .unset, .unset, .unset, .unset, .unset] [(.int us), (.ref b53)])) rfl (by rw [hml]; rfl) (Steps.refl _) (argsL := [(.int us)]) (rest := []) (lenOf pd_1 rfl) rfl (by show 2 * 0 + _ ≤ _; exact Nat.le_of_eq rfl) (hb hby at_47) (fun _ _ => ⟨rfl, rfl, (by decide : 1 + 2 ≤ _), (by decide : 2 + 3 ≤ _)⟩)
      dsimp only [Pt.U, Pt.locs, Pt.cells, Pt.slots] at X65 l65 y65 z65 st65 hQ65
      subst l65 y65 z65
      obtain ⟨b_65, rfl, N65q, K65q, hq65_0, hq65_1⟩ := hQ65
      have N68 := Fr.app N61 N65q
      have ne69 : b53 ≠ b_65 := Nat.ne_of_lt (Nat.lt_of_lt_of_le f67.lt hq65_0)
      have g70 : n0 ≤ b_65 := Nat.le_trans f66 hq65_0
      have bz71 : h0.size ≤ b_65 := Nat.le_trans (K62).1 hq65_0
      have K72 : Keep h0 T65.heap [] := (K62).trans K65q all0
      have q73 : ((us.toInt64) - (((us.toInt64) / (rl.toInt64)) * (rl.toInt64))) = ((us % rl).toInt64) := own_f us rl hu hr
      have q74 : ((((7 : Int64) * ((us % rl).toInt64)) + (3 : Int64)) % (rl.toInt64)) = ((((((7 : Int64) * (us.toInt64)) + (3 : Int64)) % (rl.toInt64)).toInt32).toInt64) := own_s us rl hu hr
      have hc75 : (lcmpW ((us % rl).toInt64) ((((((7 : Int64) * (us.toInt64)) + (3 : Int64)) % (rl.toInt64)).toInt32).toInt64)) = (0 : Int32) := (own_lc _ _).mpr hb64
      obtain ⟨kk76, cl76, Ar76, qq76, Sz76, Nn76, Hs76, Gf76⟩ := id hq65_1
      obtain ⟨kk77, cl77, Ar77, qq77, Sz77, Nn77, Hs77, Gf77⟩ := id hq65_1
      have hin78 : ¬ ((0 : Int32) < 0 ∨ cl77.slots.size ≤ ((0 : Int32)).toNatClampNeg) := inb_of Sz77 ⟨by decide, by decide⟩
      have hat79 : cl77.slots[((0 : Int32)).toNatClampNeg]? = some (.int (us % rl)) := Has.at Hs77 hin78 rfl
      have hc80 : (lcmpW ((us % rl).toInt64) ((us % rl).toInt64)) = (0 : Int32) := (lw_eq _ _).mpr rfl
      obtain ⟨fs, hr, hrun, hended, hW, hsame⟩ := X65.leave (v := some (.int (1 : Int32))) (fun h => by rw [Bd.returns] at h; cases h)
      refine ⟨_, _, pre63 _ ?_, hrun, hended, _, _, rfl, ?_, ⟨_, rfl⟩, hW, hsame.mono (by decide) (by decide)⟩
      · show Steps p.tables e below (T59.setTop (mkF m 47 #[iv p0_0, iv p0_1, iv p0_2, iv us, iv rl, rv b53, .unset, .unset, .unset, .unset, .unset, .unset, .unset] [(.int us), (.ref b53)])) _
        refine st65.trans ?_
        show Steps p.tables e below (T65.setTop (mkF m 50 #[iv p0_0, iv p0_1, iv p0_2, iv us, iv rl, rv b53, .unset, .unset, .unset, .unset, .unset, .unset, .unset] [(.ref b_65)])) _
        refine XS.astore X65.here hx rfl (hb hby at_50) rfl rfl (l' := #[iv p0_0, iv p0_1, iv p0_2, iv us, iv rl, rv b53, rv b_65, .unset, .unset, .unset, .unset, .unset, .unset]) rfl ?_
        show Steps p.tables e below (T65.setTop (mkF m 52 #[iv p0_0, iv p0_1, iv p0_2, iv us, iv rl, rv b53, rv b_65, .unset, .unset, .unset, .unset, .unset, .unset] [])) _
        refine XS.aload X65.here hx rfl (hb hby at_52) rfl rfl ?_
        show Steps p.tables e below (T65.setTop (mkF m 54 #[iv p0_0, iv p0_1, iv p0_2, iv us, iv rl, rv b53, rv b_65, .unset, .unset, .unset, .unset, .unset, .unset] [(.ref b_65)])) _
        refine XS.ifnonnullYes X65.here hx rfl (pc0 := 54) (pc' := 59) rfl (hb hby at_54) rfl (by decide) (by decide) ?_
        show Steps p.tables e below (T65.setTop (mkF m 59 #[iv p0_0, iv p0_1, iv p0_2, iv us, iv rl, rv b53, rv b_65, .unset, .unset, .unset, .unset, .unset, .unset] [])) _
        refine XS.iload X65.here hx rfl (hb hby at_59) rfl ?_
        show Steps p.tables e below (T65.setTop (mkF m 61 #[iv p0_0, iv p0_1, iv p0_2, iv us, iv rl, rv b53, rv b_65, .unset, .unset, .unset, .unset, .unset, .unset] [(.int rl)])) _
        refine XS.i2l X65.here hx rfl (hb hby at_61) rfl ?_
        show Steps p.tables e below (T65.setTop (mkF m 62 #[iv p0_0, iv p0_1, iv p0_2, iv us, iv rl, rv b53, rv b_65, .unset, .unset, .unset, .unset, .unset, .unset] [(.long (rl.toInt64))])) _
        refine XS.lstore X65.here hx rfl (hb hby at_62) rfl (l' := #[iv p0_0, iv p0_1, iv p0_2, iv us, iv rl, rv b53, rv b_65, .val (.long (rl.toInt64)), .second, .unset, .unset, .unset, .unset]) rfl ?_
        show Steps p.tables e below (T65.setTop (mkF m 64 #[iv p0_0, iv p0_1, iv p0_2, iv us, iv rl, rv b53, rv b_65, .val (.long (rl.toInt64)), .second, .unset, .unset, .unset, .unset] [])) _
        refine XS.iloadN X65.here hx rfl (hb hby at_64) rfl ?_
        show Steps p.tables e below (T65.setTop (mkF m 65 #[iv p0_0, iv p0_1, iv p0_2, iv us, iv rl, rv b53, rv b_65, .val (.long (rl.toInt64)), .second, .unset, .unset, .unset, .unset] [(.int us)])) _
        refine XS.i2l X65.here hx rfl (hb hby at_65) rfl ?_
        show Steps p.tables e below (T65.setTop (mkF m 66 #[iv p0_0, iv p0_1, iv p0_2, iv us, iv rl, rv b53, rv b_65, .val (.long (rl.toInt64)), .second, .unset, .unset, .unset, .unset] [(.long (us.toInt64))])) _
        refine XS.iloadN X65.here hx rfl (hb hby at_66) rfl ?_
        show Steps p.tables e below (T65.setTop (mkF m 67 #[iv p0_0, iv p0_1, iv p0_2, iv us, iv rl, rv b53, rv b_65, .val (.long (rl.toInt64)), .second, .unset, .unset, .unset, .unset] [(.int us), (.long (us.toInt64))])) _
        refine XS.i2l X65.here hx rfl (hb hby at_67) rfl ?_
        show Steps p.tables e below (T65.setTop (mkF m 68 #[iv p0_0, iv p0_1, iv p0_2, iv us, iv rl, rv b53, rv b_65, .val (.long (rl.toInt64)), .second, .unset, .unset, .unset, .unset] [(.long (us.toInt64)), (.long (us.toInt64))])) _
        refine XS.lload X65.here hx rfl (hb hby at_68) rfl ?_
        show Steps p.tables e below (T65.setTop (mkF m 70 #[iv p0_0, iv p0_1, iv p0_2, iv us, iv rl, rv b53, rv b_65, .val (.long (rl.toInt64)), .second, .unset, .unset, .unset, .unset] [(.long (rl.toInt64)), (.long (us.toInt64)), (.long (us.toInt64))])) _
        refine XS.ldiv X65.here hx rfl (hb hby at_70) rfl hzl ?_
        show Steps p.tables e below (T65.setTop (mkF m 71 #[iv p0_0, iv p0_1, iv p0_2, iv us, iv rl, rv b53, rv b_65, .val (.long (rl.toInt64)), .second, .unset, .unset, .unset, .unset] [(.long ((us.toInt64) / (rl.toInt64))), (.long (us.toInt64))])) _
        refine XS.lload X65.here hx rfl (hb hby at_71) rfl ?_
        show Steps p.tables e below (T65.setTop (mkF m 73 #[iv p0_0, iv p0_1, iv p0_2, iv us, iv rl, rv b53, rv b_65, .val (.long (rl.toInt64)), .second, .unset, .unset, .unset, .unset] [(.long (rl.toInt64)), (.long ((us.toInt64) / (rl.toInt64))), (.long (us.toInt64))])) _
        refine XS.lmul X65.here hx rfl (hb hby at_73) rfl ?_
        show Steps p.tables e below (T65.setTop (mkF m 74 #[iv p0_0, iv p0_1, iv p0_2, iv us, iv rl, rv b53, rv b_65, .val (.long (rl.toInt64)), .second, .unset, .unset, .unset, .unset] [(.long (((us.toInt64) / (rl.toInt64)) * (rl.toInt64))), (.long (us.toInt64))])) _
        refine XS.lsub X65.here hx rfl (hb hby at_74) rfl ?_
        rw [q73]
        show Steps p.tables e below (T65.setTop (mkF m 75 #[iv p0_0, iv p0_1, iv p0_2, iv us, iv rl, rv b53, rv b_65, .val (.long (rl.toInt64)), .second, .unset, .unset, .unset, .unset] [(.long ((us % rl).toInt64))])) _
        show Steps p.tables e below (T65.setTop (mkF m 75 #[iv p0_0, iv p0_1, iv p0_2, iv us, iv rl, rv b53, rv b_65, .val (.long (rl.toInt64)), .second, .unset, .unset, .unset, .unset] [(.long ((us % rl).toInt64))])) _
        refine XS.lstore X65.here hx rfl (hb hby at_75) rfl (l' := #[iv p0_0, iv p0_1, iv p0_2, iv us, iv rl, rv b53, rv b_65, .val (.long (rl.toInt64)), .second, .val (.long ((us % rl).toInt64)), .second, .unset, .unset]) rfl ?_
        show Steps p.tables e below (T65.setTop (mkF m 77 #[iv p0_0, iv p0_1, iv p0_2, iv us, iv rl, rv b53, rv b_65, .val (.long (rl.toInt64)), .second, .val (.long ((us % rl).toInt64)), .second, .unset, .unset] [])) _
        refine X65.ldc2Long hx hown (mvT hZ wo26) (g := (mkF m 77 #[iv p0_0, iv p0_1, iv p0_2, iv us, iv rl, rv b53, rv b_65, .val (.long (rl.toInt64)), .second, .val (.long ((us % rl).toInt64)), .second, .unset, .unset] [])) rfl (hb hby at_77) _ ?_
        show Steps p.tables e below (T65.setTop (mkF m 80 #[iv p0_0, iv p0_1, iv p0_2, iv us, iv rl, rv b53, rv b_65, .val (.long (rl.toInt64)), .second, .val (.long ((us % rl).toInt64)), .second, .unset, .unset] [(.long (7 : Int64))])) _
        refine XS.lload X65.here hx rfl (hb hby at_80) rfl ?_
        show Steps p.tables e below (T65.setTop (mkF m 82 #[iv p0_0, iv p0_1, iv p0_2, iv us, iv rl, rv b53, rv b_65, .val (.long (rl.toInt64)), .second, .val (.long ((us % rl).toInt64)), .second, .unset, .unset] [(.long ((us % rl).toInt64)), (.long (7 : Int64))])) _
        refine XS.lmul X65.here hx rfl (hb hby at_82) rfl ?_
        show Steps p.tables e below (T65.setTop (mkF m 83 #[iv p0_0, iv p0_1, iv p0_2, iv us, iv rl, rv b53, rv b_65, .val (.long (rl.toInt64)), .second, .val (.long ((us % rl).toInt64)), .second, .unset, .unset] [(.long ((7 : Int64) * ((us % rl).toInt64)))])) _
        refine X65.ldc2Long hx hown (mvT hZ wo27) (g := (mkF m 83 #[iv p0_0, iv p0_1, iv p0_2, iv us, iv rl, rv b53, rv b_65, .val (.long (rl.toInt64)), .second, .val (.long ((us % rl).toInt64)), .second, .unset, .unset] [(.long ((7 : Int64) * ((us % rl).toInt64)))])) rfl (hb hby at_83) _ ?_
        show Steps p.tables e below (T65.setTop (mkF m 86 #[iv p0_0, iv p0_1, iv p0_2, iv us, iv rl, rv b53, rv b_65, .val (.long (rl.toInt64)), .second, .val (.long ((us % rl).toInt64)), .second, .unset, .unset] [(.long (3 : Int64)), (.long ((7 : Int64) * ((us % rl).toInt64)))])) _
        refine XS.ladd X65.here hx rfl (hb hby at_86) rfl ?_
        show Steps p.tables e below (T65.setTop (mkF m 87 #[iv p0_0, iv p0_1, iv p0_2, iv us, iv rl, rv b53, rv b_65, .val (.long (rl.toInt64)), .second, .val (.long ((us % rl).toInt64)), .second, .unset, .unset] [(.long (((7 : Int64) * ((us % rl).toInt64)) + (3 : Int64)))])) _
        refine XS.lload X65.here hx rfl (hb hby at_87) rfl ?_
        show Steps p.tables e below (T65.setTop (mkF m 89 #[iv p0_0, iv p0_1, iv p0_2, iv us, iv rl, rv b53, rv b_65, .val (.long (rl.toInt64)), .second, .val (.long ((us % rl).toInt64)), .second, .unset, .unset] [(.long (rl.toInt64)), (.long (((7 : Int64) * ((us % rl).toInt64)) + (3 : Int64)))])) _
        refine XS.lrem X65.here hx rfl (hb hby at_89) rfl hzl ?_
        rw [lrem_mod]
        rw [q74]
        show Steps p.tables e below (T65.setTop (mkF m 90 #[iv p0_0, iv p0_1, iv p0_2, iv us, iv rl, rv b53, rv b_65, .val (.long (rl.toInt64)), .second, .val (.long ((us % rl).toInt64)), .second, .unset, .unset] [(.long ((((((7 : Int64) * (us.toInt64)) + (3 : Int64)) % (rl.toInt64)).toInt32).toInt64))])) _
        show Steps p.tables e below (T65.setTop (mkF m 90 #[iv p0_0, iv p0_1, iv p0_2, iv us, iv rl, rv b53, rv b_65, .val (.long (rl.toInt64)), .second, .val (.long ((us % rl).toInt64)), .second, .unset, .unset] [(.long ((((((7 : Int64) * (us.toInt64)) + (3 : Int64)) % (rl.toInt64)).toInt32).toInt64))])) _
        refine XS.lstore X65.here hx rfl (hb hby at_90) rfl (l' := #[iv p0_0, iv p0_1, iv p0_2, iv us, iv rl, rv b53, rv b_65, .val (.long (rl.toInt64)), .second, .val (.long ((us % rl).toInt64)), .second, .val (.long ((((((7 : Int64) * (us.toInt64)) + (3 : Int64)) % (rl.toInt64)).toInt32).toInt64)), .second]) rfl ?_
        show Steps p.tables e below (T65.setTop (mkF m 92 #[iv p0_0, iv p0_1, iv p0_2, iv us, iv rl, rv b53, rv b_65, .val (.long (rl.toInt64)), .second, .val (.long ((us % rl).toInt64)), .second, .val (.long ((((((7 : Int64) * (us.toInt64)) + (3 : Int64)) % (rl.toInt64)).toInt32).toInt64)), .second] [])) _
        refine XS.lload X65.here hx rfl (hb hby at_92) rfl ?_
        show Steps p.tables e below (T65.setTop (mkF m 94 #[iv p0_0, iv p0_1, iv p0_2, iv us, iv rl, rv b53, rv b_65, .val (.long (rl.toInt64)), .second, .val (.long ((us % rl).toInt64)), .second, .val (.long ((((((7 : Int64) * (us.toInt64)) + (3 : Int64)) % (rl.toInt64)).toInt32).toInt64)), .second] [(.long ((us % rl).toInt64))])) _
        refine XS.lload X65.here hx rfl (hb hby at_94) rfl ?_
        show Steps p.tables e below (T65.setTop (mkF m 96 #[iv p0_0, iv p0_1, iv p0_2, iv us, iv rl, rv b53, rv b_65, .val (.long (rl.toInt64)), .second, .val (.long ((us % rl).toInt64)), .second, .val (.long ((((((7 : Int64) * (us.toInt64)) + (3 : Int64)) % (rl.toInt64)).toInt32).toInt64)), .second] [(.long ((((((7 : Int64) * (us.toInt64)) + (3 : Int64)) % (rl.toInt64)).toInt32).toInt64)), (.long ((us % rl).toInt64))])) _
        refine XS.lcmp X65.here hx rfl (hb hby at_96) rfl ?_
        show Steps p.tables e below (T65.setTop (mkF m 97 #[iv p0_0, iv p0_1, iv p0_2, iv us, iv rl, rv b53, rv b_65, .val (.long (rl.toInt64)), .second, .val (.long ((us % rl).toInt64)), .second, .val (.long ((((((7 : Int64) * (us.toInt64)) + (3 : Int64)) % (rl.toInt64)).toInt32).toInt64)), .second] [(.int (lcmpW ((us % rl).toInt64) ((((((7 : Int64) * (us.toInt64)) + (3 : Int64)) % (rl.toInt64)).toInt32).toInt64)))])) _
        refine XS.ifNo X65.here hx rfl (hb hby at_97) rfl ((if0 _ _).trans (teq hc75).2) ?_
        show Steps p.tables e below (T65.setTop (mkF m 100 #[iv p0_0, iv p0_1, iv p0_2, iv us, iv rl, rv b53, rv b_65, .val (.long (rl.toInt64)), .second, .val (.long ((us % rl).toInt64)), .second, .val (.long ((((((7 : Int64) * (us.toInt64)) + (3 : Int64)) % (rl.toInt64)).toInt32).toInt64)), .second] [])) _
        refine XS.aload X65.here hx rfl (hb hby at_100) rfl rfl ?_
        show Steps p.tables e below (T65.setTop (mkF m 102 #[iv p0_0, iv p0_1, iv p0_2, iv us, iv rl, rv b53, rv b_65, .val (.long (rl.toInt64)), .second, .val (.long ((us % rl).toInt64)), .second, .val (.long ((((((7 : Int64) * (us.toInt64)) + (3 : Int64)) % (rl.toInt64)).toInt32).toInt64)), .second] [(.ref b_65)])) _
        refine X65.arraylength hx (Ar76.1) (State.isArrayOf_alike hZ.alike Ar76.2.1) (g := (mkF m 102 #[iv p0_0, iv p0_1, iv p0_2, iv us, iv rl, rv b53, rv b_65, .val (.long (rl.toInt64)), .second, .val (.long ((us % rl).toInt64)), .second, .val (.long ((((((7 : Int64) * (us.toInt64)) + (3 : Int64)) % (rl.toInt64)).toInt32).toInt64)), .second] [(.ref b_65)])) rfl rfl (hb hby at_102) _ ?_
        rw [len_of Sz76 Nn76]
        show Steps p.tables e below (T65.setTop (mkF m 103 #[iv p0_0, iv p0_1, iv p0_2, iv us, iv rl, rv b53, rv b_65, .val (.long (rl.toInt64)), .second, .val (.long ((us % rl).toInt64)), .second, .val (.long ((((((7 : Int64) * (us.toInt64)) + (3 : Int64)) % (rl.toInt64)).toInt32).toInt64)), .second] [(.int (1 : Int32))])) _
        refine XS.iconst X65.here hx rfl (hb hby at_103) ?_
        show Steps p.tables e below (T65.setTop (mkF m 104 #[iv p0_0, iv p0_1, iv p0_2, iv us, iv rl, rv b53, rv b_65, .val (.long (rl.toInt64)), .second, .val (.long ((us % rl).toInt64)), .second, .val (.long ((((((7 : Int64) * (us.toInt64)) + (3 : Int64)) % (rl.toInt64)).toInt32).toInt64)), .second] [(.int (1 : Int32)), (.int (1 : Int32))])) _
        refine XS.icmpNo X65.here hx rfl (hb hby at_104) rfl (teq (by decide : (1 : Int32) = (1 : Int32))).2 ?_
        show Steps p.tables e below (T65.setTop (mkF m 107 #[iv p0_0, iv p0_1, iv p0_2, iv us, iv rl, rv b53, rv b_65, .val (.long (rl.toInt64)), .second, .val (.long ((us % rl).toInt64)), .second, .val (.long ((((((7 : Int64) * (us.toInt64)) + (3 : Int64)) % (rl.toInt64)).toInt32).toInt64)), .second] [])) _
        refine XS.aload X65.here hx rfl (hb hby at_107) rfl rfl ?_
        show Steps p.tables e below (T65.setTop (mkF m 109 #[iv p0_0, iv p0_1, iv p0_2, iv us, iv rl, rv b53, rv b_65, .val (.long (rl.toInt64)), .second, .val (.long ((us % rl).toInt64)), .second, .val (.long ((((((7 : Int64) * (us.toInt64)) + (3 : Int64)) % (rl.toInt64)).toInt32).toInt64)), .second] [(.ref b_65)])) _
        refine XS.iconst X65.here hx rfl (hb hby at_109) ?_
        show Steps p.tables e below (T65.setTop (mkF m 110 #[iv p0_0, iv p0_1, iv p0_2, iv us, iv rl, rv b53, rv b_65, .val (.long (rl.toInt64)), .second, .val (.long ((us % rl).toInt64)), .second, .val (.long ((((((7 : Int64) * (us.toInt64)) + (3 : Int64)) % (rl.toInt64)).toInt32).toInt64)), .second] [(.int (0 : Int32)), (.ref b_65)])) _
        refine X65.iaload hx (j := (0 : Int32)) (v := (.int (us % rl))) (Ar77.1) (State.isArrayOf_alike hZ.alike Ar77.2.1) Ar77.2.2 hin78 hat79 (g := (mkF m 110 #[iv p0_0, iv p0_1, iv p0_2, iv us, iv rl, rv b53, rv b_65, .val (.long (rl.toInt64)), .second, .val (.long ((us % rl).toInt64)), .second, .val (.long ((((((7 : Int64) * (us.toInt64)) + (3 : Int64)) % (rl.toInt64)).toInt32).toInt64)), .second] [(.int (0 : Int32)), (.ref b_65)])) rfl rfl (hb hby at_110) _ ?_
        show Steps p.tables e below (T65.setTop (mkF m 111 #[iv p0_0, iv p0_1, iv p0_2, iv us, iv rl, rv b53, rv b_65, .val (.long (rl.toInt64)), .second, .val (.long ((us % rl).toInt64)), .second, .val (.long ((((((7 : Int64) * (us.toInt64)) + (3 : Int64)) % (rl.toInt64)).toInt32).toInt64)), .second] [(.int (us % rl))])) _
        refine XS.i2l X65.here hx rfl (hb hby at_111) rfl ?_
        show Steps p.tables e below (T65.setTop (mkF m 112 #[iv p0_0, iv p0_1, iv p0_2, iv us, iv rl, rv b53, rv b_65, .val (.long (rl.toInt64)), .second, .val (.long ((us % rl).toInt64)), .second, .val (.long ((((((7 : Int64) * (us.toInt64)) + (3 : Int64)) % (rl.toInt64)).toInt32).toInt64)), .second] [(.long ((us % rl).toInt64))])) _
        refine XS.lload X65.here hx rfl (hb hby at_112) rfl ?_
        show Steps p.tables e below (T65.setTop (mkF m 114 #[iv p0_0, iv p0_1, iv p0_2, iv us, iv rl, rv b53, rv b_65, .val (.long (rl.toInt64)), .second, .val (.long ((us % rl).toInt64)), .second, .val (.long ((((((7 : Int64) * (us.toInt64)) + (3 : Int64)) % (rl.toInt64)).toInt32).toInt64)), .second] [(.long ((us % rl).toInt64)), (.long ((us % rl).toInt64))])) _
        refine XS.lcmp X65.here hx rfl (hb hby at_114) rfl ?_
        show Steps p.tables e below (T65.setTop (mkF m 115 #[iv p0_0, iv p0_1, iv p0_2, iv us, iv rl, rv b53, rv b_65, .val (.long (rl.toInt64)), .second, .val (.long ((us % rl).toInt64)), .second, .val (.long ((((((7 : Int64) * (us.toInt64)) + (3 : Int64)) % (rl.toInt64)).toInt32).toInt64)), .second] [(.int (lcmpW ((us % rl).toInt64) ((us % rl).toInt64)))])) _
        refine XS.ifNo X65.here hx rfl (hb hby at_115) rfl ((if0 _ _).trans (teq hc80).2) ?_
        show Steps p.tables e below (T65.setTop (mkF m 118 #[iv p0_0, iv p0_1, iv p0_2, iv us, iv rl, rv b53, rv b_65, .val (.long (rl.toInt64)), .second, .val (.long ((us % rl).toInt64)), .second, .val (.long ((((((7 : Int64) * (us.toInt64)) + (3 : Int64)) % (rl.toInt64)).toInt32).toInt64)), .second] [])) _
        refine XS.iconst X65.here hx rfl (hb hby at_118) ?_
        show Steps p.tables e below (T65.setTop (mkF m 119 #[iv p0_0, iv p0_1, iv p0_2, iv us, iv rl, rv b53, rv b_65, .val (.long (rl.toInt64)), .second, .val (.long ((us % rl).toInt64)), .second, .val (.long ((((((7 : Int64) * (us.toInt64)) + (3 : Int64)) % (rl.toInt64)).toInt32).toInt64)), .second] [(.int (1 : Int32))])) _
        refine XS.goto X65.here hx rfl (pc0 := 119) (pc' := 123) rfl (hb hby at_119) (by decide) (by decide) ?_
        show Steps p.tables e below (T65.setTop (mkF m 123 #[iv p0_0, iv p0_1, iv p0_2, iv us, iv rl, rv b53, rv b_65, .val (.long (rl.toInt64)), .second, .val (.long ((us % rl).toInt64)), .second, .val (.long ((((((7 : Int64) * (us.toInt64)) + (3 : Int64)) % (rl.toInt64)).toInt32).toInt64)), .second] [(.int (1 : Int32))])) _
        exact retN X65 hx (t := .boolean) Bd.returns (by simp) (hb hby at_123) hr
      · show Q_rm0 Z _ _ _ h0 n0 _ T65.heap _
        exact ⟨rfl, N68, (K72)⟩
    · skip
      have f82 := (Nat.le_trans f60 K59q.1)
      have f83 := (A53.keep K59q)
      obtain ⟨cq81, kq81, q81a, q81b, q81c⟩ := isOf hZ rfl f83
      obtain ⟨_, _, ⟨T81, L81, k81, n81⟩, -, X81, ⟨Lc81, hQ81, l81, y81, z81⟩, st81⟩ := X59.virtualBack hx (y := MN4) (z := MN4) hown (mvT hZ wo18) (mvT hZ wo19) (notFace_of_selects (args := #[]) (mvT hZ wo21)) (mvT hZ wo21) (mvT hZ wo20) (by decide) (backOf (W := 0) (rm_ne l Z a0 hw [] b53 us rl (T59.heap) n0 f82 hq59_0 (hz : rl ≠ (0 : Int32)) (hzl : (rl.toInt64) ≠ (0 : Int64)) (hb64 : ¬ ((us % rl) = (((((7 : Int64) * (us.toInt64)) + (3 : Int64)) % (rl.toInt64)).toInt32)))) hZ wo22 wo7 (by decide) (by decide)) q81a q81c (g := (mkF m 47 #[iv p0_0, iv p0_1, iv p0_2, iv us, iv rl, rv b53, .unset, .unset, .unset, .unset, .unset, .unset, .unset] [(.int us), (.ref b53)])) rfl (by rw [hml]; rfl) (Steps.refl _) (argsL := [(.int us)]) (rest := []) (lenOf pd_1 rfl) rfl (by show 2 * 0 + _ ≤ _; exact Nat.le_of_eq rfl) (hb hby at_47) (fun _ _ => ⟨rfl, rfl, (by decide : 1 + 1 ≤ _), (by decide : 2 + 2 ≤ _)⟩)
      dsimp only [Pt.U, Pt.locs, Pt.cells, Pt.slots] at X81 l81 y81 z81 st81 hQ81
      subst l81 y81 z81
      obtain ⟨b_81, rfl, N81q, K81q, hq81_0, hq81_1⟩ := hQ81
      have N84 := Fr.app N61 N81q
      have ne85 : b53 ≠ b_81 := Nat.ne_of_lt (Nat.lt_of_lt_of_le f83.lt hq81_0)
      have g86 : n0 ≤ b_81 := Nat.le_trans f82 hq81_0
      have bz87 : h0.size ≤ b_81 := Nat.le_trans (K62).1 hq81_0
      have K88 : Keep h0 T81.heap [] := (K62).trans K81q all0
      have q89 : ((us.toInt64) - (((us.toInt64) / (rl.toInt64)) * (rl.toInt64))) = ((us % rl).toInt64) := own_f us rl hu hr
      have q90 : ((((7 : Int64) * ((us % rl).toInt64)) + (3 : Int64)) % (rl.toInt64)) = ((((((7 : Int64) * (us.toInt64)) + (3 : Int64)) % (rl.toInt64)).toInt32).toInt64) := own_s us rl hu hr
      have hc91 : ¬ ((lcmpW ((us % rl).toInt64) ((((((7 : Int64) * (us.toInt64)) + (3 : Int64)) % (rl.toInt64)).toInt32).toInt64)) = (0 : Int32)) := fun q => hb64 ((own_lc _ _).mp q)
      obtain ⟨kk92, cl92, Ar92, qq92, Sz92, Nn92, Hs92, Gf92⟩ := id hq81_1
      obtain ⟨kk93, cl93, Ar93, qq93, Sz93, Nn93, Hs93, Gf93⟩ := id hq81_1
      have hin94 : ¬ ((0 : Int32) < 0 ∨ cl93.slots.size ≤ ((0 : Int32)).toNatClampNeg) := inb_of Sz93 ⟨by decide, by decide⟩
      have hat95 : cl93.slots[((0 : Int32)).toNatClampNeg]? = some (.int (us % rl)) := Has.at Hs93 hin94 rfl
      have hc96 : (lcmpW ((us % rl).toInt64) ((us % rl).toInt64)) = (0 : Int32) := (lw_eq _ _).mpr rfl
      obtain ⟨kk97, cl97, Ar97, qq97, Sz97, Nn97, Hs97, Gf97⟩ := id hq81_1
      have hin98 : ¬ ((1 : Int32) < 0 ∨ cl97.slots.size ≤ ((1 : Int32)).toNatClampNeg) := inb_of Sz97 ⟨by decide, by decide⟩
      have hat99 : cl97.slots[((1 : Int32)).toNatClampNeg]? = some (.int (((((7 : Int64) * (us.toInt64)) + (3 : Int64)) % (rl.toInt64)).toInt32)) := Has.at Hs97 hin98 rfl
      have hc100 : (lcmpW ((((((7 : Int64) * (us.toInt64)) + (3 : Int64)) % (rl.toInt64)).toInt32).toInt64) ((((((7 : Int64) * (us.toInt64)) + (3 : Int64)) % (rl.toInt64)).toInt32).toInt64)) = (0 : Int32) := (lw_eq _ _).mpr rfl
      obtain ⟨fs, hr, hrun, hended, hW, hsame⟩ := X81.leave (v := some (.int (1 : Int32))) (fun h => by rw [Bd.returns] at h; cases h)
      refine ⟨_, _, pre63 _ ?_, hrun, hended, _, _, rfl, ?_, ⟨_, rfl⟩, hW, hsame.mono (by decide) (by decide)⟩
      · show Steps p.tables e below (T59.setTop (mkF m 47 #[iv p0_0, iv p0_1, iv p0_2, iv us, iv rl, rv b53, .unset, .unset, .unset, .unset, .unset, .unset, .unset] [(.int us), (.ref b53)])) _
        refine st81.trans ?_
        show Steps p.tables e below (T81.setTop (mkF m 50 #[iv p0_0, iv p0_1, iv p0_2, iv us, iv rl, rv b53, .unset, .unset, .unset, .unset, .unset, .unset, .unset] [(.ref b_81)])) _
        refine XS.astore X81.here hx rfl (hb hby at_50) rfl rfl (l' := #[iv p0_0, iv p0_1, iv p0_2, iv us, iv rl, rv b53, rv b_81, .unset, .unset, .unset, .unset, .unset, .unset]) rfl ?_
        show Steps p.tables e below (T81.setTop (mkF m 52 #[iv p0_0, iv p0_1, iv p0_2, iv us, iv rl, rv b53, rv b_81, .unset, .unset, .unset, .unset, .unset, .unset] [])) _
        refine XS.aload X81.here hx rfl (hb hby at_52) rfl rfl ?_
        show Steps p.tables e below (T81.setTop (mkF m 54 #[iv p0_0, iv p0_1, iv p0_2, iv us, iv rl, rv b53, rv b_81, .unset, .unset, .unset, .unset, .unset, .unset] [(.ref b_81)])) _
        refine XS.ifnonnullYes X81.here hx rfl (pc0 := 54) (pc' := 59) rfl (hb hby at_54) rfl (by decide) (by decide) ?_
        show Steps p.tables e below (T81.setTop (mkF m 59 #[iv p0_0, iv p0_1, iv p0_2, iv us, iv rl, rv b53, rv b_81, .unset, .unset, .unset, .unset, .unset, .unset] [])) _
        refine XS.iload X81.here hx rfl (hb hby at_59) rfl ?_
        show Steps p.tables e below (T81.setTop (mkF m 61 #[iv p0_0, iv p0_1, iv p0_2, iv us, iv rl, rv b53, rv b_81, .unset, .unset, .unset, .unset, .unset, .unset] [(.int rl)])) _
        refine XS.i2l X81.here hx rfl (hb hby at_61) rfl ?_
        show Steps p.tables e below (T81.setTop (mkF m 62 #[iv p0_0, iv p0_1, iv p0_2, iv us, iv rl, rv b53, rv b_81, .unset, .unset, .unset, .unset, .unset, .unset] [(.long (rl.toInt64))])) _
        refine XS.lstore X81.here hx rfl (hb hby at_62) rfl (l' := #[iv p0_0, iv p0_1, iv p0_2, iv us, iv rl, rv b53, rv b_81, .val (.long (rl.toInt64)), .second, .unset, .unset, .unset, .unset]) rfl ?_
        show Steps p.tables e below (T81.setTop (mkF m 64 #[iv p0_0, iv p0_1, iv p0_2, iv us, iv rl, rv b53, rv b_81, .val (.long (rl.toInt64)), .second, .unset, .unset, .unset, .unset] [])) _
        refine XS.iloadN X81.here hx rfl (hb hby at_64) rfl ?_
        show Steps p.tables e below (T81.setTop (mkF m 65 #[iv p0_0, iv p0_1, iv p0_2, iv us, iv rl, rv b53, rv b_81, .val (.long (rl.toInt64)), .second, .unset, .unset, .unset, .unset] [(.int us)])) _
        refine XS.i2l X81.here hx rfl (hb hby at_65) rfl ?_
        show Steps p.tables e below (T81.setTop (mkF m 66 #[iv p0_0, iv p0_1, iv p0_2, iv us, iv rl, rv b53, rv b_81, .val (.long (rl.toInt64)), .second, .unset, .unset, .unset, .unset] [(.long (us.toInt64))])) _
        refine XS.iloadN X81.here hx rfl (hb hby at_66) rfl ?_
        show Steps p.tables e below (T81.setTop (mkF m 67 #[iv p0_0, iv p0_1, iv p0_2, iv us, iv rl, rv b53, rv b_81, .val (.long (rl.toInt64)), .second, .unset, .unset, .unset, .unset] [(.int us), (.long (us.toInt64))])) _
        refine XS.i2l X81.here hx rfl (hb hby at_67) rfl ?_
        show Steps p.tables e below (T81.setTop (mkF m 68 #[iv p0_0, iv p0_1, iv p0_2, iv us, iv rl, rv b53, rv b_81, .val (.long (rl.toInt64)), .second, .unset, .unset, .unset, .unset] [(.long (us.toInt64)), (.long (us.toInt64))])) _
        refine XS.lload X81.here hx rfl (hb hby at_68) rfl ?_
        show Steps p.tables e below (T81.setTop (mkF m 70 #[iv p0_0, iv p0_1, iv p0_2, iv us, iv rl, rv b53, rv b_81, .val (.long (rl.toInt64)), .second, .unset, .unset, .unset, .unset] [(.long (rl.toInt64)), (.long (us.toInt64)), (.long (us.toInt64))])) _
        refine XS.ldiv X81.here hx rfl (hb hby at_70) rfl hzl ?_
        show Steps p.tables e below (T81.setTop (mkF m 71 #[iv p0_0, iv p0_1, iv p0_2, iv us, iv rl, rv b53, rv b_81, .val (.long (rl.toInt64)), .second, .unset, .unset, .unset, .unset] [(.long ((us.toInt64) / (rl.toInt64))), (.long (us.toInt64))])) _
        refine XS.lload X81.here hx rfl (hb hby at_71) rfl ?_
        show Steps p.tables e below (T81.setTop (mkF m 73 #[iv p0_0, iv p0_1, iv p0_2, iv us, iv rl, rv b53, rv b_81, .val (.long (rl.toInt64)), .second, .unset, .unset, .unset, .unset] [(.long (rl.toInt64)), (.long ((us.toInt64) / (rl.toInt64))), (.long (us.toInt64))])) _
        refine XS.lmul X81.here hx rfl (hb hby at_73) rfl ?_
        show Steps p.tables e below (T81.setTop (mkF m 74 #[iv p0_0, iv p0_1, iv p0_2, iv us, iv rl, rv b53, rv b_81, .val (.long (rl.toInt64)), .second, .unset, .unset, .unset, .unset] [(.long (((us.toInt64) / (rl.toInt64)) * (rl.toInt64))), (.long (us.toInt64))])) _
        refine XS.lsub X81.here hx rfl (hb hby at_74) rfl ?_
        rw [q89]
        show Steps p.tables e below (T81.setTop (mkF m 75 #[iv p0_0, iv p0_1, iv p0_2, iv us, iv rl, rv b53, rv b_81, .val (.long (rl.toInt64)), .second, .unset, .unset, .unset, .unset] [(.long ((us % rl).toInt64))])) _
        show Steps p.tables e below (T81.setTop (mkF m 75 #[iv p0_0, iv p0_1, iv p0_2, iv us, iv rl, rv b53, rv b_81, .val (.long (rl.toInt64)), .second, .unset, .unset, .unset, .unset] [(.long ((us % rl).toInt64))])) _
        refine XS.lstore X81.here hx rfl (hb hby at_75) rfl (l' := #[iv p0_0, iv p0_1, iv p0_2, iv us, iv rl, rv b53, rv b_81, .val (.long (rl.toInt64)), .second, .val (.long ((us % rl).toInt64)), .second, .unset, .unset]) rfl ?_
        show Steps p.tables e below (T81.setTop (mkF m 77 #[iv p0_0, iv p0_1, iv p0_2, iv us, iv rl, rv b53, rv b_81, .val (.long (rl.toInt64)), .second, .val (.long ((us % rl).toInt64)), .second, .unset, .unset] [])) _
        refine X81.ldc2Long hx hown (mvT hZ wo26) (g := (mkF m 77 #[iv p0_0, iv p0_1, iv p0_2, iv us, iv rl, rv b53, rv b_81, .val (.long (rl.toInt64)), .second, .val (.long ((us % rl).toInt64)), .second, .unset, .unset] [])) rfl (hb hby at_77) _ ?_
        show Steps p.tables e below (T81.setTop (mkF m 80 #[iv p0_0, iv p0_1, iv p0_2, iv us, iv rl, rv b53, rv b_81, .val (.long (rl.toInt64)), .second, .val (.long ((us % rl).toInt64)), .second, .unset, .unset] [(.long (7 : Int64))])) _
        refine XS.lload X81.here hx rfl (hb hby at_80) rfl ?_
        show Steps p.tables e below (T81.setTop (mkF m 82 #[iv p0_0, iv p0_1, iv p0_2, iv us, iv rl, rv b53, rv b_81, .val (.long (rl.toInt64)), .second, .val (.long ((us % rl).toInt64)), .second, .unset, .unset] [(.long ((us % rl).toInt64)), (.long (7 : Int64))])) _
        refine XS.lmul X81.here hx rfl (hb hby at_82) rfl ?_
        show Steps p.tables e below (T81.setTop (mkF m 83 #[iv p0_0, iv p0_1, iv p0_2, iv us, iv rl, rv b53, rv b_81, .val (.long (rl.toInt64)), .second, .val (.long ((us % rl).toInt64)), .second, .unset, .unset] [(.long ((7 : Int64) * ((us % rl).toInt64)))])) _
        refine X81.ldc2Long hx hown (mvT hZ wo27) (g := (mkF m 83 #[iv p0_0, iv p0_1, iv p0_2, iv us, iv rl, rv b53, rv b_81, .val (.long (rl.toInt64)), .second, .val (.long ((us % rl).toInt64)), .second, .unset, .unset] [(.long ((7 : Int64) * ((us % rl).toInt64)))])) rfl (hb hby at_83) _ ?_
        show Steps p.tables e below (T81.setTop (mkF m 86 #[iv p0_0, iv p0_1, iv p0_2, iv us, iv rl, rv b53, rv b_81, .val (.long (rl.toInt64)), .second, .val (.long ((us % rl).toInt64)), .second, .unset, .unset] [(.long (3 : Int64)), (.long ((7 : Int64) * ((us % rl).toInt64)))])) _
        refine XS.ladd X81.here hx rfl (hb hby at_86) rfl ?_
        show Steps p.tables e below (T81.setTop (mkF m 87 #[iv p0_0, iv p0_1, iv p0_2, iv us, iv rl, rv b53, rv b_81, .val (.long (rl.toInt64)), .second, .val (.long ((us % rl).toInt64)), .second, .unset, .unset] [(.long (((7 : Int64) * ((us % rl).toInt64)) + (3 : Int64)))])) _
        refine XS.lload X81.here hx rfl (hb hby at_87) rfl ?_
        show Steps p.tables e below (T81.setTop (mkF m 89 #[iv p0_0, iv p0_1, iv p0_2, iv us, iv rl, rv b53, rv b_81, .val (.long (rl.toInt64)), .second, .val (.long ((us % rl).toInt64)), .second, .unset, .unset] [(.long (rl.toInt64)), (.long (((7 : Int64) * ((us % rl).toInt64)) + (3 : Int64)))])) _
        refine XS.lrem X81.here hx rfl (hb hby at_89) rfl hzl ?_
        rw [lrem_mod]
        rw [q90]
        show Steps p.tables e below (T81.setTop (mkF m 90 #[iv p0_0, iv p0_1, iv p0_2, iv us, iv rl, rv b53, rv b_81, .val (.long (rl.toInt64)), .second, .val (.long ((us % rl).toInt64)), .second, .unset, .unset] [(.long ((((((7 : Int64) * (us.toInt64)) + (3 : Int64)) % (rl.toInt64)).toInt32).toInt64))])) _
        show Steps p.tables e below (T81.setTop (mkF m 90 #[iv p0_0, iv p0_1, iv p0_2, iv us, iv rl, rv b53, rv b_81, .val (.long (rl.toInt64)), .second, .val (.long ((us % rl).toInt64)), .second, .unset, .unset] [(.long ((((((7 : Int64) * (us.toInt64)) + (3 : Int64)) % (rl.toInt64)).toInt32).toInt64))])) _
        refine XS.lstore X81.here hx rfl (hb hby at_90) rfl (l' := #[iv p0_0, iv p0_1, iv p0_2, iv us, iv rl, rv b53, rv b_81, .val (.long (rl.toInt64)), .second, .val (.long ((us % rl).toInt64)), .second, .val (.long ((((((7 : Int64) * (us.toInt64)) + (3 : Int64)) % (rl.toInt64)).toInt32).toInt64)), .second]) rfl ?_
        show Steps p.tables e below (T81.setTop (mkF m 92 #[iv p0_0, iv p0_1, iv p0_2, iv us, iv rl, rv b53, rv b_81, .val (.long (rl.toInt64)), .second, .val (.long ((us % rl).toInt64)), .second, .val (.long ((((((7 : Int64) * (us.toInt64)) + (3 : Int64)) % (rl.toInt64)).toInt32).toInt64)), .second] [])) _
        refine XS.lload X81.here hx rfl (hb hby at_92) rfl ?_
        show Steps p.tables e below (T81.setTop (mkF m 94 #[iv p0_0, iv p0_1, iv p0_2, iv us, iv rl, rv b53, rv b_81, .val (.long (rl.toInt64)), .second, .val (.long ((us % rl).toInt64)), .second, .val (.long ((((((7 : Int64) * (us.toInt64)) + (3 : Int64)) % (rl.toInt64)).toInt32).toInt64)), .second] [(.long ((us % rl).toInt64))])) _
        refine XS.lload X81.here hx rfl (hb hby at_94) rfl ?_
        show Steps p.tables e below (T81.setTop (mkF m 96 #[iv p0_0, iv p0_1, iv p0_2, iv us, iv rl, rv b53, rv b_81, .val (.long (rl.toInt64)), .second, .val (.long ((us % rl).toInt64)), .second, .val (.long ((((((7 : Int64) * (us.toInt64)) + (3 : Int64)) % (rl.toInt64)).toInt32).toInt64)), .second] [(.long ((((((7 : Int64) * (us.toInt64)) + (3 : Int64)) % (rl.toInt64)).toInt32).toInt64)), (.long ((us % rl).toInt64))])) _
        refine XS.lcmp X81.here hx rfl (hb hby at_96) rfl ?_
        show Steps p.tables e below (T81.setTop (mkF m 97 #[iv p0_0, iv p0_1, iv p0_2, iv us, iv rl, rv b53, rv b_81, .val (.long (rl.toInt64)), .second, .val (.long ((us % rl).toInt64)), .second, .val (.long ((((((7 : Int64) * (us.toInt64)) + (3 : Int64)) % (rl.toInt64)).toInt32).toInt64)), .second] [(.int (lcmpW ((us % rl).toInt64) ((((((7 : Int64) * (us.toInt64)) + (3 : Int64)) % (rl.toInt64)).toInt32).toInt64)))])) _
        refine XS.ifYes X81.here hx rfl (pc0 := 97) (pc' := 124) rfl (hb hby at_97) rfl ((if0 _ _).trans (feq hc91).2) (by decide) (by decide) ?_
        show Steps p.tables e below (T81.setTop (mkF m 124 #[iv p0_0, iv p0_1, iv p0_2, iv us, iv rl, rv b53, rv b_81, .val (.long (rl.toInt64)), .second, .val (.long ((us % rl).toInt64)), .second, .val (.long ((((((7 : Int64) * (us.toInt64)) + (3 : Int64)) % (rl.toInt64)).toInt32).toInt64)), .second] [])) _
        refine XS.aload X81.here hx rfl (hb hby at_124) rfl rfl ?_
        show Steps p.tables e below (T81.setTop (mkF m 126 #[iv p0_0, iv p0_1, iv p0_2, iv us, iv rl, rv b53, rv b_81, .val (.long (rl.toInt64)), .second, .val (.long ((us % rl).toInt64)), .second, .val (.long ((((((7 : Int64) * (us.toInt64)) + (3 : Int64)) % (rl.toInt64)).toInt32).toInt64)), .second] [(.ref b_81)])) _
        refine X81.arraylength hx (Ar92.1) (State.isArrayOf_alike hZ.alike Ar92.2.1) (g := (mkF m 126 #[iv p0_0, iv p0_1, iv p0_2, iv us, iv rl, rv b53, rv b_81, .val (.long (rl.toInt64)), .second, .val (.long ((us % rl).toInt64)), .second, .val (.long ((((((7 : Int64) * (us.toInt64)) + (3 : Int64)) % (rl.toInt64)).toInt32).toInt64)), .second] [(.ref b_81)])) rfl rfl (hb hby at_126) _ ?_
        rw [len_of Sz92 Nn92]
        show Steps p.tables e below (T81.setTop (mkF m 127 #[iv p0_0, iv p0_1, iv p0_2, iv us, iv rl, rv b53, rv b_81, .val (.long (rl.toInt64)), .second, .val (.long ((us % rl).toInt64)), .second, .val (.long ((((((7 : Int64) * (us.toInt64)) + (3 : Int64)) % (rl.toInt64)).toInt32).toInt64)), .second] [(.int (2 : Int32))])) _
        refine XS.iconst X81.here hx rfl (hb hby at_127) ?_
        show Steps p.tables e below (T81.setTop (mkF m 128 #[iv p0_0, iv p0_1, iv p0_2, iv us, iv rl, rv b53, rv b_81, .val (.long (rl.toInt64)), .second, .val (.long ((us % rl).toInt64)), .second, .val (.long ((((((7 : Int64) * (us.toInt64)) + (3 : Int64)) % (rl.toInt64)).toInt32).toInt64)), .second] [(.int (2 : Int32)), (.int (2 : Int32))])) _
        refine XS.icmpNo X81.here hx rfl (hb hby at_128) rfl (teq (by decide : (2 : Int32) = (2 : Int32))).2 ?_
        show Steps p.tables e below (T81.setTop (mkF m 131 #[iv p0_0, iv p0_1, iv p0_2, iv us, iv rl, rv b53, rv b_81, .val (.long (rl.toInt64)), .second, .val (.long ((us % rl).toInt64)), .second, .val (.long ((((((7 : Int64) * (us.toInt64)) + (3 : Int64)) % (rl.toInt64)).toInt32).toInt64)), .second] [])) _
        refine XS.aload X81.here hx rfl (hb hby at_131) rfl rfl ?_
        show Steps p.tables e below (T81.setTop (mkF m 133 #[iv p0_0, iv p0_1, iv p0_2, iv us, iv rl, rv b53, rv b_81, .val (.long (rl.toInt64)), .second, .val (.long ((us % rl).toInt64)), .second, .val (.long ((((((7 : Int64) * (us.toInt64)) + (3 : Int64)) % (rl.toInt64)).toInt32).toInt64)), .second] [(.ref b_81)])) _
        refine XS.iconst X81.here hx rfl (hb hby at_133) ?_
        show Steps p.tables e below (T81.setTop (mkF m 134 #[iv p0_0, iv p0_1, iv p0_2, iv us, iv rl, rv b53, rv b_81, .val (.long (rl.toInt64)), .second, .val (.long ((us % rl).toInt64)), .second, .val (.long ((((((7 : Int64) * (us.toInt64)) + (3 : Int64)) % (rl.toInt64)).toInt32).toInt64)), .second] [(.int (0 : Int32)), (.ref b_81)])) _
        refine X81.iaload hx (j := (0 : Int32)) (v := (.int (us % rl))) (Ar93.1) (State.isArrayOf_alike hZ.alike Ar93.2.1) Ar93.2.2 hin94 hat95 (g := (mkF m 134 #[iv p0_0, iv p0_1, iv p0_2, iv us, iv rl, rv b53, rv b_81, .val (.long (rl.toInt64)), .second, .val (.long ((us % rl).toInt64)), .second, .val (.long ((((((7 : Int64) * (us.toInt64)) + (3 : Int64)) % (rl.toInt64)).toInt32).toInt64)), .second] [(.int (0 : Int32)), (.ref b_81)])) rfl rfl (hb hby at_134) _ ?_
        show Steps p.tables e below (T81.setTop (mkF m 135 #[iv p0_0, iv p0_1, iv p0_2, iv us, iv rl, rv b53, rv b_81, .val (.long (rl.toInt64)), .second, .val (.long ((us % rl).toInt64)), .second, .val (.long ((((((7 : Int64) * (us.toInt64)) + (3 : Int64)) % (rl.toInt64)).toInt32).toInt64)), .second] [(.int (us % rl))])) _
        refine XS.i2l X81.here hx rfl (hb hby at_135) rfl ?_
        show Steps p.tables e below (T81.setTop (mkF m 136 #[iv p0_0, iv p0_1, iv p0_2, iv us, iv rl, rv b53, rv b_81, .val (.long (rl.toInt64)), .second, .val (.long ((us % rl).toInt64)), .second, .val (.long ((((((7 : Int64) * (us.toInt64)) + (3 : Int64)) % (rl.toInt64)).toInt32).toInt64)), .second] [(.long ((us % rl).toInt64))])) _
        refine XS.lload X81.here hx rfl (hb hby at_136) rfl ?_
        show Steps p.tables e below (T81.setTop (mkF m 138 #[iv p0_0, iv p0_1, iv p0_2, iv us, iv rl, rv b53, rv b_81, .val (.long (rl.toInt64)), .second, .val (.long ((us % rl).toInt64)), .second, .val (.long ((((((7 : Int64) * (us.toInt64)) + (3 : Int64)) % (rl.toInt64)).toInt32).toInt64)), .second] [(.long ((us % rl).toInt64)), (.long ((us % rl).toInt64))])) _
        refine XS.lcmp X81.here hx rfl (hb hby at_138) rfl ?_
        show Steps p.tables e below (T81.setTop (mkF m 139 #[iv p0_0, iv p0_1, iv p0_2, iv us, iv rl, rv b53, rv b_81, .val (.long (rl.toInt64)), .second, .val (.long ((us % rl).toInt64)), .second, .val (.long ((((((7 : Int64) * (us.toInt64)) + (3 : Int64)) % (rl.toInt64)).toInt32).toInt64)), .second] [(.int (lcmpW ((us % rl).toInt64) ((us % rl).toInt64)))])) _
        refine XS.ifNo X81.here hx rfl (hb hby at_139) rfl ((if0 _ _).trans (teq hc96).2) ?_
        show Steps p.tables e below (T81.setTop (mkF m 142 #[iv p0_0, iv p0_1, iv p0_2, iv us, iv rl, rv b53, rv b_81, .val (.long (rl.toInt64)), .second, .val (.long ((us % rl).toInt64)), .second, .val (.long ((((((7 : Int64) * (us.toInt64)) + (3 : Int64)) % (rl.toInt64)).toInt32).toInt64)), .second] [])) _
        refine XS.aload X81.here hx rfl (hb hby at_142) rfl rfl ?_
        show Steps p.tables e below (T81.setTop (mkF m 144 #[iv p0_0, iv p0_1, iv p0_2, iv us, iv rl, rv b53, rv b_81, .val (.long (rl.toInt64)), .second, .val (.long ((us % rl).toInt64)), .second, .val (.long ((((((7 : Int64) * (us.toInt64)) + (3 : Int64)) % (rl.toInt64)).toInt32).toInt64)), .second] [(.ref b_81)])) _
        refine XS.iconst X81.here hx rfl (hb hby at_144) ?_
        show Steps p.tables e below (T81.setTop (mkF m 145 #[iv p0_0, iv p0_1, iv p0_2, iv us, iv rl, rv b53, rv b_81, .val (.long (rl.toInt64)), .second, .val (.long ((us % rl).toInt64)), .second, .val (.long ((((((7 : Int64) * (us.toInt64)) + (3 : Int64)) % (rl.toInt64)).toInt32).toInt64)), .second] [(.int (1 : Int32)), (.ref b_81)])) _
        refine X81.iaload hx (j := (1 : Int32)) (v := (.int (((((7 : Int64) * (us.toInt64)) + (3 : Int64)) % (rl.toInt64)).toInt32))) (Ar97.1) (State.isArrayOf_alike hZ.alike Ar97.2.1) Ar97.2.2 hin98 hat99 (g := (mkF m 145 #[iv p0_0, iv p0_1, iv p0_2, iv us, iv rl, rv b53, rv b_81, .val (.long (rl.toInt64)), .second, .val (.long ((us % rl).toInt64)), .second, .val (.long ((((((7 : Int64) * (us.toInt64)) + (3 : Int64)) % (rl.toInt64)).toInt32).toInt64)), .second] [(.int (1 : Int32)), (.ref b_81)])) rfl rfl (hb hby at_145) _ ?_
        show Steps p.tables e below (T81.setTop (mkF m 146 #[iv p0_0, iv p0_1, iv p0_2, iv us, iv rl, rv b53, rv b_81, .val (.long (rl.toInt64)), .second, .val (.long ((us % rl).toInt64)), .second, .val (.long ((((((7 : Int64) * (us.toInt64)) + (3 : Int64)) % (rl.toInt64)).toInt32).toInt64)), .second] [(.int (((((7 : Int64) * (us.toInt64)) + (3 : Int64)) % (rl.toInt64)).toInt32))])) _
        refine XS.i2l X81.here hx rfl (hb hby at_146) rfl ?_
        show Steps p.tables e below (T81.setTop (mkF m 147 #[iv p0_0, iv p0_1, iv p0_2, iv us, iv rl, rv b53, rv b_81, .val (.long (rl.toInt64)), .second, .val (.long ((us % rl).toInt64)), .second, .val (.long ((((((7 : Int64) * (us.toInt64)) + (3 : Int64)) % (rl.toInt64)).toInt32).toInt64)), .second] [(.long ((((((7 : Int64) * (us.toInt64)) + (3 : Int64)) % (rl.toInt64)).toInt32).toInt64))])) _
        refine XS.lload X81.here hx rfl (hb hby at_147) rfl ?_
        show Steps p.tables e below (T81.setTop (mkF m 149 #[iv p0_0, iv p0_1, iv p0_2, iv us, iv rl, rv b53, rv b_81, .val (.long (rl.toInt64)), .second, .val (.long ((us % rl).toInt64)), .second, .val (.long ((((((7 : Int64) * (us.toInt64)) + (3 : Int64)) % (rl.toInt64)).toInt32).toInt64)), .second] [(.long ((((((7 : Int64) * (us.toInt64)) + (3 : Int64)) % (rl.toInt64)).toInt32).toInt64)), (.long ((((((7 : Int64) * (us.toInt64)) + (3 : Int64)) % (rl.toInt64)).toInt32).toInt64))])) _
        refine XS.lcmp X81.here hx rfl (hb hby at_149) rfl ?_
        show Steps p.tables e below (T81.setTop (mkF m 150 #[iv p0_0, iv p0_1, iv p0_2, iv us, iv rl, rv b53, rv b_81, .val (.long (rl.toInt64)), .second, .val (.long ((us % rl).toInt64)), .second, .val (.long ((((((7 : Int64) * (us.toInt64)) + (3 : Int64)) % (rl.toInt64)).toInt32).toInt64)), .second] [(.int (lcmpW ((((((7 : Int64) * (us.toInt64)) + (3 : Int64)) % (rl.toInt64)).toInt32).toInt64) ((((((7 : Int64) * (us.toInt64)) + (3 : Int64)) % (rl.toInt64)).toInt32).toInt64)))])) _
        refine XS.ifNo X81.here hx rfl (hb hby at_150) rfl ((if0 _ _).trans (teq hc100).2) ?_
        show Steps p.tables e below (T81.setTop (mkF m 153 #[iv p0_0, iv p0_1, iv p0_2, iv us, iv rl, rv b53, rv b_81, .val (.long (rl.toInt64)), .second, .val (.long ((us % rl).toInt64)), .second, .val (.long ((((((7 : Int64) * (us.toInt64)) + (3 : Int64)) % (rl.toInt64)).toInt32).toInt64)), .second] [])) _
        refine XS.iconst X81.here hx rfl (hb hby at_153) ?_
        show Steps p.tables e below (T81.setTop (mkF m 154 #[iv p0_0, iv p0_1, iv p0_2, iv us, iv rl, rv b53, rv b_81, .val (.long (rl.toInt64)), .second, .val (.long ((us % rl).toInt64)), .second, .val (.long ((((((7 : Int64) * (us.toInt64)) + (3 : Int64)) % (rl.toInt64)).toInt32).toInt64)), .second] [(.int (1 : Int32))])) _
        refine XS.goto X81.here hx rfl (pc0 := 154) (pc' := 158) rfl (hb hby at_154) (by decide) (by decide) ?_
        show Steps p.tables e below (T81.setTop (mkF m 158 #[iv p0_0, iv p0_1, iv p0_2, iv us, iv rl, rv b53, rv b_81, .val (.long (rl.toInt64)), .second, .val (.long ((us % rl).toInt64)), .second, .val (.long ((((((7 : Int64) * (us.toInt64)) + (3 : Int64)) % (rl.toInt64)).toInt32).toInt64)), .second] [(.int (1 : Int32))])) _
        exact retN X81 hx (t := .boolean) Bd.returns (by simp) (hb hby at_158) hr
      · show Q_rm0 Z _ _ _ h0 n0 _ T81.heap _
        exact ⟨rfl, N84, (K88)⟩
set_option maxRecDepth 65536 in
set_option maxHeartbeats 40000000 in
theorem comes_1 {Post : Tables → Env → Array Value → State → Outcome → State → Prop} (hpost : ∀ tb e args s v u, (limb_1_1.after args s (.returned v) u = true ∧ limb_1_2.after args s (.returned v) u = true ∧ True) → FrameEnd s (.returned v) u (Jvm.fieldLocs frame_1_writes args s ++ Jvm.arrayLocs frame_1_arrays args s ++ Jvm.staticLocs frame_1_statics s) 16 128 → Post tb e args s (.returned v) u) :
    ArmFor flags0 classFile x code maxLocals ret World_1 tables_1 room_1 Calls_1 rest_1 Pre_1 Post := by
  intro l hfl _ _ p e ha hc hk s m args below hf hA hF happ hP
  obtain ⟨hcalls, hrest, hpre⟩ := hP
  obtain ⟨-, -, -, hnamed, -, -, -, hat⟩ := (Spec.applies_iff hf).mp happ
  obtain ⟨hg, hn⟩ := and_e (Cond.before_iff.mp (show (Jvm.Cond.and given_1 narrow_1).before args s = true from hpre))
  obtain ⟨g1, g2⟩ := and_e hg
  obtain ⟨g3, g4⟩ := and_e g2
  obtain ⟨g5, g6⟩ := and_e g4
  obtain ⟨w0, w1, w2, rfl⟩ : ∃ w0 w1 w2 : Value, args = #[w0, w1, w2] := by
    have hs : args.size = 3 := by simpa [Cond.value, given_1] using g1
    obtain ⟨L⟩ := args
    match L, hs with
    | [w0, w1, w2], _ => exact ⟨w0, w1, w2, rfl⟩
  have hw := fun d (hd : d ∈ tables_1) => atoms_spec (ws := Jvm.Cond.code x code maxLocals ret :: tables_1) hat d (List.mem_cons_of_mem _ hd)
  have hfit : Fit s := fun {y c} hc i hi => by
    obtain ⟨ha, rfl⟩ := Array.getElem?_eq_some_iff.mp hc
    have q := List.all_eq_true.mp ((Array.all_eq_true_iff_forall_mem.mp hF) _ (Array.getElem_mem ha)) i (List.mem_range.mpr hi)
    simpa [Array.getElem?_eq_getElem hi] using q
  obtain ⟨i0, ei0⟩ := is_v g3
  obtain rfl : w0 = (.int i0) := Option.some.inj ei0
  obtain ⟨i1, ei1⟩ := is_v g5
  obtain rfl : w1 = (.int i1) := Option.some.inj ei1
  obtain ⟨i2, ei2⟩ := is_v g6
  obtain rfl : w2 = (.int i2) := Option.some.inj ei2
  obtain ⟨n, o, h1, h2, h3, _, L, rfl, ⟨rfl, N, -⟩, hq⟩ := rm0 l s _ hw tables_1 i0 i1 i2 s.heap s.heap.size (Nat.le_refl _)  p e ha hc hk s m _ below hf ((Spec.applies_iff_loose hf).mp happ).1 ⟨rfl, State.Warmed39.refl s, rfl⟩ trivial
  refine ⟨n, _, h1, h2, h3, hpost _ _ _ _ _ _ ⟨Cond.after_iff.mpr rfl, Cond.after_iff.mpr (eq_i res_at (Term.int_eval (1)) rfl), trivial⟩ ⟨hq.1, hq.2.1, (hq.2.2.sift fun y hy => Or.inr (N y hy)).mono (by decide) (by decide)⟩⟩
theorem main_1_1 : Claimed_1_1 := comes_1 fun _ _ _ _ _ _ h hF => ⟨h.1, hF⟩
theorem main_1_2 : Claimed_1_2 := comes_1 fun _ _ _ _ _ _ h hF => ⟨h.2.1, hF⟩
end Jvm.Pilot.@@N@@
namespace Jvm.Pilot.@@N@@
open Jvm Jvm.ClassFile Sem Op Lib Jvm.Free Jvm.Stand Jvm.Pilot.@@N@@.Jvm.D
/-! MADE BY PROGRAM (witnessworld.py) out of the Statement's table words and the real class files: 10 classes; the members and pool entries that the words name. The judged class is class 1, her method 1. -/
namespace start1
open Jvm.ClassFile
def u (s : String) : CpInfo := .utf8 (stringToUtf16 s)
/-- a pool by its gaps: so many unusable entries, then the entry; so many at the end -/
def gap : Nat → List CpInfo → List CpInfo
  | 0, r => r
  | n + 1, r => .unusable :: gap n r
def poolList (es : List (Nat × CpInfo)) (last : Nat) : List CpInfo := es.foldr (fun e r => gap e.1 (e.2 :: r)) (gap last [])
def pool (es : List (Nat × CpInfo)) (last : Nat) : Array CpInfo := ⟨poolList es last⟩
def fileOf (pool : Array CpInfo) (this : Nat) (attrs : Array Attribute := #[]) (ms : Array MethodInfo := #[]) (fl : Nat := 33) (sup : Nat := 0) (ifs : Array Nat := #[]) (fds : Array FieldInfo := #[]) : ClassFile where
  minorVersion := 0
  majorVersion := 65
  constantPool := pool
  accessFlags := fl
  thisClass := this
  superClass := sup
  interfaces := ifs
  fields := fds
  methods := ms
  attributes := attrs
def plain (name : String) (sup : Option ClassId) : Class where
  name := name
  kind := .ordinary
  loader := none
  accessFlags := 33
  super := sup
  interfaces := #[]
  cf := none
  fields := #[]
  methods := #[]
  instanceTypes := #[]
  staticTypes := #[]
  resolved := #[]
  callSites := []
  init := .initialized
  statics := none
  mirror := none

def pool0 : Array CpInfo := pool [(5, u "<init>"), (0, u "()V"), (1, .class_ 10), (1, u "java/lang/Object")] 113

def k0c0 : Code := { maxStack := 0, maxLocals := 1, code := object_method_1_code, exceptionTable := #[], attributes := #[] }
def k0m0 : Method := { name := "<init>", desc := "()V", sig := { parameters := [], returnType := none }, accessFlags := 1, code := some k0c0 }
/-- java/lang/Object -/
def k0 : Class := { plain "java/lang/Object" none with
  accessFlags := 33
  interfaces := #[]
  cf := some (fileOf pool0 8 #[] #[{ accessFlags := 1, nameIndex := 5, descriptorIndex := 6, attributes := #[] }] 33 0 #[] #[])
  fields := #[]
  methods := #[k0m0]
  instanceTypes := #[]
  staticTypes := #[]
  resolved := Array.replicate 124 none
  statics := none }

def pool1 : Array CpInfo := pool [(2, .class_ 4), (1, u "java/lang/Object"), (0, u "<init>"), (0, u "()V"), (0, .integer 2147483647), (0, .methodref 9 10), (0, .class_ 11), (0, .nameAndType 12 13), (0, u "java/lang/Math"), (0, u "max"), (0, u "(II)I"), (0, .class_ 15), (0, u "com/example/arbiter/bench/Workload"), (0, .methodref 14 17), (0, .nameAndType 5 18), (0, u "(II)V"), (0, .methodref 14 20), (0, .nameAndType 21 22), (0, u "assigned"), (0, u "(I)[I"), (0, .long 7), (1, .long 3), (1, .class_ 28), (0, u "com/example/arbiter/bench/WorkloadAssignedPinLaw"), (2, u "law"), (0, u "(III)Z")] 5

def k1m0 : Method := { name := "<init>", desc := "()V", sig := { parameters := [], returnType := none }, accessFlags := 1, code := none }
def k1c1 : Code := { maxStack := 6, maxLocals := 13, code := code, exceptionTable := #[], attributes := #[] }
def k1m1 : Method := { name := "law", desc := "(III)Z", sig := { parameters := [.int, .int, .int], returnType := some .boolean }, accessFlags := 9, code := some k1c1 }
/-- com/example/arbiter/bench/WorkloadAssignedPinLaw -/
def k1 : Class := { plain "com/example/arbiter/bench/WorkloadAssignedPinLaw" (some 0) with
  accessFlags := 49
  interfaces := #[]
  cf := some (fileOf pool1 27 #[] #[{ accessFlags := 1, nameIndex := 5, descriptorIndex := 6, attributes := #[] }, { accessFlags := 9, nameIndex := 31, descriptorIndex := 32, attributes := #[] }] 49 2 #[] #[])
  fields := #[]
  methods := #[k1m0, k1m1]
  instanceTypes := #[]
  staticTypes := #[]
  resolved := Array.replicate 38 none
  statics := none }

def pool2 : Array CpInfo := pool [(1, .class_ 2), (0, u "java/lang/Math"), (1, .class_ 6), (1, u "java/lang/Object"), (0, u "<init>"), (0, u "()V"), (89, .class_ 100), (1, u "java/lang/Math$RandomNumberGeneratorHolder"), (71, u "negativeZeroFloatBits"), (0, u "J"), (2, u "negativeZeroDoubleBits"), (21, u "max"), (46, u "$assertionsDisabled"), (0, u "Z"), (88, u "(II)I"), (2, u "twoToTheDoubleScaleDown"), (0, u "D"), (4, u "twoToTheDoubleScaleUp"), (9, u "E"), (3, u "PI"), (2, u "TAU"), (2, u "DEGREES_TO_RADIANS"), (0, u "RADIANS_TO_DEGREES")] 94

def k2m0 : Method := { name := "<init>", desc := "()V", sig := { parameters := [], returnType := none }, accessFlags := 2, code := none }
def k2c1 : Code := { maxStack := 2, maxLocals := 2, code := jdk_29_method_65_code, exceptionTable := #[], attributes := #[] }
def k2m1 : Method := { name := "max", desc := "(II)I", sig := { parameters := [.int, .int], returnType := some .int }, accessFlags := 9, code := some k2c1 }
/-- java/lang/Math -/
def k2 : Class := { plain "java/lang/Math" (some 0) with
  accessFlags := 49
  interfaces := #[]
  cf := some (fileOf pool2 1 #[.nestMembers #[98]] #[{ accessFlags := 2, nameIndex := 7, descriptorIndex := 8, attributes := #[] }, { accessFlags := 9, nameIndex := 198, descriptorIndex := 335, attributes := #[] }] 49 4 #[] #[{ accessFlags := 25, nameIndex := 354, descriptorIndex := 339, attributes := #[] }, { accessFlags := 25, nameIndex := 358, descriptorIndex := 339, attributes := #[] }, { accessFlags := 25, nameIndex := 361, descriptorIndex := 339, attributes := #[] }, { accessFlags := 26, nameIndex := 364, descriptorIndex := 339, attributes := #[] }, { accessFlags := 26, nameIndex := 365, descriptorIndex := 339, attributes := #[] }, { accessFlags := 26, nameIndex := 172, descriptorIndex := 173, attributes := #[] }, { accessFlags := 26, nameIndex := 176, descriptorIndex := 173, attributes := #[] }, { accessFlags := 8, nameIndex := 344, descriptorIndex := 339, attributes := #[] }, { accessFlags := 8, nameIndex := 338, descriptorIndex := 339, attributes := #[] }, { accessFlags := 4120, nameIndex := 245, descriptorIndex := 246, attributes := #[] }])
  fields := #[{ name := "E", type := .double, accessFlags := 25, slot := 0, constantValue := 0 }, { name := "PI", type := .double, accessFlags := 25, slot := 1, constantValue := 0 }, { name := "TAU", type := .double, accessFlags := 25, slot := 2, constantValue := 0 }, { name := "DEGREES_TO_RADIANS", type := .double, accessFlags := 26, slot := 3, constantValue := 0 }, { name := "RADIANS_TO_DEGREES", type := .double, accessFlags := 26, slot := 4, constantValue := 0 }, { name := "negativeZeroFloatBits", type := .long, accessFlags := 26, slot := 5, constantValue := 0 }, { name := "negativeZeroDoubleBits", type := .long, accessFlags := 26, slot := 6, constantValue := 0 }, { name := "twoToTheDoubleScaleUp", type := .double, accessFlags := 8, slot := 7, constantValue := 0 }, { name := "twoToTheDoubleScaleDown", type := .double, accessFlags := 8, slot := 8, constantValue := 0 }, { name := "$assertionsDisabled", type := .boolean, accessFlags := 4120, slot := 9, constantValue := 0 }]
  methods := #[k2m0, k2m1]
  instanceTypes := #[]
  staticTypes := #[.double, .double, .double, .double, .double, .long, .long, .double, .double, .boolean]
  resolved := Array.replicate 460 none
  statics := none }

def pool3 : Array CpInfo := pool [(1, .methodref 2 3), (0, .class_ 4), (0, .nameAndType 5 6), (0, u "java/lang/Object"), (0, u "<init>"), (0, u "()V"), (7, .fieldref 15 16), (0, .class_ 17), (0, .nameAndType 18 19), (0, u "com/example/arbiter/bench/Workload"), (0, u "roles"), (0, u "I"), (0, .fieldref 15 21), (0, .nameAndType 22 19), (0, u "users"), (30, .long 7), (1, .long 3), (17, u "assigned"), (0, u "(I)[I"), (47, u "OPERATION"), (0, u "Ljava/lang/String;"), (1, u "FAN_OUT"), (1, u "OBJECTS_PER_ROLE"), (1, u "(II)V")] 34

def k3c0 : Code := { maxStack := 3, maxLocals := 3, code := prog_61_method_1_code, exceptionTable := #[], attributes := #[] }
def k3m0 : Method := { name := "<init>", desc := "(II)V", sig := { parameters := [.int, .int], returnType := none }, accessFlags := 0, code := some k3c0 }
def k3c1 : Code := { maxStack := 4, maxLocals := 5, code := prog_61_method_14_code, exceptionTable := #[], attributes := #[] }
def k3m1 : Method := { name := "assigned", desc := "(I)[I", sig := { parameters := [.int], returnType := some (.array .int) }, accessFlags := 0, code := some k3c1 }
/-- com/example/arbiter/bench/Workload -/
def k3 : Class := { plain "com/example/arbiter/bench/Workload" (some 0) with
  accessFlags := 32
  interfaces := #[]
  cf := some (fileOf pool3 15 #[] #[{ accessFlags := 0, nameIndex := 5, descriptorIndex := 129, attributes := #[] }, { accessFlags := 0, nameIndex := 73, descriptorIndex := 74, attributes := #[] }] 32 2 #[] #[{ accessFlags := 24, nameIndex := 122, descriptorIndex := 123, attributes := #[] }, { accessFlags := 26, nameIndex := 125, descriptorIndex := 19, attributes := #[] }, { accessFlags := 26, nameIndex := 127, descriptorIndex := 19, attributes := #[] }, { accessFlags := 18, nameIndex := 18, descriptorIndex := 19, attributes := #[] }, { accessFlags := 18, nameIndex := 22, descriptorIndex := 19, attributes := #[] }])
  fields := #[{ name := "OPERATION", type := (.object "java/lang/String"), accessFlags := 24, slot := 0, constantValue := 0 }, { name := "FAN_OUT", type := .int, accessFlags := 26, slot := 1, constantValue := 0 }, { name := "OBJECTS_PER_ROLE", type := .int, accessFlags := 26, slot := 2, constantValue := 0 }, { name := "roles", type := .int, accessFlags := 18, slot := 0, constantValue := 0 }, { name := "users", type := .int, accessFlags := 18, slot := 1, constantValue := 0 }]
  methods := #[k3m0, k3m1]
  instanceTypes := #[.int, .int]
  staticTypes := #[(.object "java/lang/String"), .int, .int]
  resolved := Array.replicate 164 none
  statics := none }

def pool4 : Array CpInfo := pool [(1, u "java/lang/Cloneable"), (0, .class_ 1), (0, u "java/lang/Object"), (0, .class_ 3)] 3

/-- java/lang/Cloneable -/
def k4 : Class := { plain "java/lang/Cloneable" (some 0) with
  accessFlags := 1537
  interfaces := #[]
  cf := some (fileOf pool4 2 #[] #[] 1537 4 #[] #[])
  fields := #[]
  methods := #[]
  instanceTypes := #[]
  staticTypes := #[]
  resolved := Array.replicate 8 none
  statics := none }

def pool5 : Array CpInfo := pool [(1, u "java/io/Serializable"), (0, .class_ 1), (0, u "java/lang/Object"), (0, .class_ 3)] 3

/-- java/io/Serializable -/
def k5 : Class := { plain "java/io/Serializable" (some 0) with
  accessFlags := 1537
  interfaces := #[]
  cf := some (fileOf pool5 2 #[] #[] 1537 4 #[] #[])
  fields := #[]
  methods := #[]
  instanceTypes := #[]
  staticTypes := #[]
  resolved := Array.replicate 8 none
  statics := none }

/-- the primitive byte -/
def k6 : Class := { plain "byte" none with kind := .primitive 'B', accessFlags := 0x411 }
/-- [B -/
def k7 : Class := { plain "[B" (some 0) with kind := .array 6 .byte, interfaces := #[4, 5], accessFlags := 1041 }

/-- the primitive int -/
def k8 : Class := { plain "int" none with kind := .primitive 'I', accessFlags := 0x411 }
/-- [I -/
def k9 : Class := { plain "[I" (some 0) with kind := .array 8 .int, interfaces := #[4, 5], accessFlags := 1041 }

def heap : Heap := #[]
def classes : Array Class := #[k0, k1, k2, k3, k4, k5, k6, k7, k8, k9]
def interned : List (Array UInt16 × Addr) := []
def slotsUsed : Nat := 0
def theMethod : MethodId := ⟨1, 1⟩
def args0 : Array Value := #[.int 10, .int 3, .int 1]
def aboutOver (below : List Frame) : State where
  vm := { classes := classes, interned := interned.toArray }
  heap := heap
  slotsUsed := slotsUsed
  threads := #[{ frames := .invoking theMethod args0 :: below }]
def below0 : List Frame := [.native { method := ⟨0, 0⟩, args := #[] }]
def about1 : State := aboutOver below0
def p0 : Program := .bare "" "" ""
def e0 : Env := launch0.env 0 0 0
theorem w_frames : about1.frames = Frame.invoking theMethod args0 :: below0 := rfl
set_option maxRecDepth 65536 in
theorem w_args : argsFit about1.vm theMethod args0 = true := by decide +kernel
set_option maxRecDepth 65536 in
theorem w_heap : heapFits about1 = true := by decide +kernel
set_option maxRecDepth 65536 in
theorem w_runnable : about1.curStatus? = some .runnable := by decide +kernel
set_option maxRecDepth 65536 in
theorem w_alone : about1.alone = true := by decide +kernel
set_option maxRecDepth 65536 in
theorem w_named : about1.methodNamed? x = some theMethod := by decide +kernel
set_option maxRecDepth 65536 in
theorem w_hears : about1.hears theMethod below0 = true := by decide +kernel
set_option maxRecDepth 65536 in
theorem w_ripe : about1.ripe theMethod args0 below0 = true := by decide +kernel
theorem w_running : about1.status = .running := rfl
set_option maxRecDepth 65536 in
theorem w_room : about1.hasRoom e0.platform room_1 = true :=
  launch0.hasRoom_least _ room_1 (by decide +kernel) (by decide +kernel) (by decide +kernel) (by decide +kernel) (by decide +kernel) (by decide +kernel)
theorem allAtoms_all (ts : List Jvm.Cond) (a : Array Jvm.Value) (st : Jvm.State) : (allAtoms ts).before a st = ts.all (fun c => c.before a st) := by
  induction ts with
  | nil => rfl
  | cons c t ih =>
    show (Jvm.Cond.and c (allAtoms t)).before a st = _
    rw [Jvm.Cond.before_and, ih, List.all_cons]
def words1 : List Jvm.Cond := Jvm.Cond.code x code maxLocals ret :: tables_1
/-- a 'code' word, met by the world's own term for the bytes: nothing is compared byte by byte -/
theorem code_word {y : MethodName} {bytes : ByteArray} {mx : Nat} {rt : Option FieldType} {a : Array Value} {s : State} {m : MethodId} {meth : Method} {c : Code} (h1 : s.methodNamed? y = some m) (h2 : s.vm.method? m = some meth) (h3 : meth.code = some c) (h4 : c.code = bytes)
    (h5 : (c.maxLocals == mx && c.exceptionTable.isEmpty && decide (c.maxStack ≤ mostOperands) && decide (meth.sig.returnType = rt) && !meth.locks && decide (parseMethodDescriptor y.desc = some meth.sig)) = true) : (Jvm.Cond.code y bytes mx rt).before a s = true := by
  simp only [Bool.and_eq_true, beq_iff_eq, Bool.not_eq_true', decide_eq_true_eq] at h5
  obtain ⟨⟨⟨⟨⟨g1, g2⟩, g3⟩, g4⟩, g5⟩, g6⟩ := h5
  simp [Cond.before, Cond.holds, Cond.value, h1, h2, h3, h4, g1, g2, g3, g4, g5, g6]
def isCode : Jvm.Cond → Bool
  | .code _ _ _ _ => true
  | _ => false
theorem all_split {L : List Jvm.Cond} {P : Jvm.Cond → Bool} (h1 : L.all (fun c => isCode c || P c) = true) (h2 : ∀ c ∈ L.filter isCode, P c = true) : L.all P = true := by
  refine List.all_eq_true.mpr fun c hc => ?_
  have h := List.all_eq_true.mp h1 c hc
  rcases Bool.eq_false_or_eq_true (isCode c) with hi | hi
  · exact h2 c (List.mem_filter.mpr ⟨hc, hi⟩)
  · simpa [hi] using h
set_option maxRecDepth 65536 in
theorem w_c0 : (Jvm.Cond.code x code maxLocals ret).before args0 about1 = true := code_word (m := ⟨1, 1⟩) (meth := k1m1) (c := k1c1) (by decide +kernel) rfl rfl rfl (by decide +kernel)
set_option maxRecDepth 65536 in
theorem w_c1 : (Jvm.Cond.code ({ cls := "java/lang/Math", name := "max", desc := "(II)I" } : Jvm.MethodName) jdk_29_method_65_code (2 : Nat) (Option.some Jvm.ClassFile.FieldType.int)).before args0 about1 = true := code_word (m := ⟨2, 1⟩) (meth := k2m1) (c := k2c1) (by decide +kernel) rfl rfl rfl (by decide +kernel)
set_option maxRecDepth 65536 in
theorem w_c2 : (Jvm.Cond.code ({ cls := "com/example/arbiter/bench/Workload", name := "<init>", desc := "(II)V" } : Jvm.MethodName) prog_61_method_1_code (3 : Nat) (Option.none : Option Jvm.ClassFile.FieldType)).before args0 about1 = true := code_word (m := ⟨3, 0⟩) (meth := k3m0) (c := k3c0) (by decide +kernel) rfl rfl rfl (by decide +kernel)
set_option maxRecDepth 65536 in
theorem w_c3 : (Jvm.Cond.code ({ cls := "java/lang/Object", name := "<init>", desc := "()V" } : Jvm.MethodName) object_method_1_code (1 : Nat) (Option.none : Option Jvm.ClassFile.FieldType)).before args0 about1 = true := code_word (m := ⟨0, 0⟩) (meth := k0m0) (c := k0c0) (by decide +kernel) rfl rfl rfl (by decide +kernel)
set_option maxRecDepth 65536 in
theorem w_c4 : (Jvm.Cond.code ({ cls := "com/example/arbiter/bench/Workload", name := "assigned", desc := "(I)[I" } : Jvm.MethodName) prog_61_method_14_code (5 : Nat) (Option.some (Jvm.ClassFile.FieldType.array Jvm.ClassFile.FieldType.int))).before args0 about1 = true := code_word (m := ⟨3, 1⟩) (meth := k3m1) (c := k3c1) (by decide +kernel) rfl rfl rfl (by decide +kernel)
def codes1 : List Jvm.Cond := [Jvm.Cond.code x code maxLocals ret, Jvm.Cond.code ({ cls := "java/lang/Math", name := "max", desc := "(II)I" } : Jvm.MethodName) jdk_29_method_65_code (2 : Nat) (Option.some Jvm.ClassFile.FieldType.int), Jvm.Cond.code ({ cls := "com/example/arbiter/bench/Workload", name := "<init>", desc := "(II)V" } : Jvm.MethodName) prog_61_method_1_code (3 : Nat) (Option.none : Option Jvm.ClassFile.FieldType), Jvm.Cond.code ({ cls := "java/lang/Object", name := "<init>", desc := "()V" } : Jvm.MethodName) object_method_1_code (1 : Nat) (Option.none : Option Jvm.ClassFile.FieldType), Jvm.Cond.code ({ cls := "com/example/arbiter/bench/Workload", name := "assigned", desc := "(I)[I" } : Jvm.MethodName) prog_61_method_14_code (5 : Nat) (Option.some (Jvm.ClassFile.FieldType.array Jvm.ClassFile.FieldType.int))]
set_option maxRecDepth 65536 in
theorem codes_eq : words1.filter isCode = codes1 := rfl
theorem w_codes : ∀ c ∈ words1.filter isCode, c.before args0 about1 = true := by
  rw [codes_eq]
  intro c hc
  simp only [codes1, List.mem_cons, List.not_mem_nil, or_false] at hc
  rcases hc with rfl | rfl | rfl | rfl | rfl
  · exact w_c0
  · exact w_c1
  · exact w_c2
  · exact w_c3
  · exact w_c4
set_option maxRecDepth 65536 in
theorem w_t1 : (words1.take 24).all (fun c => isCode c || c.before args0 about1) = true := by decide +kernel
set_option maxRecDepth 65536 in
theorem w_t2 : (words1.drop 24).all (fun c => isCode c || c.before args0 about1) = true := by decide +kernel
theorem w_tables : (allAtoms (Jvm.Cond.code x code maxLocals ret :: tables_1)).before args0 about1 = true := by
  rw [allAtoms_all]
  show words1.all (fun c => c.before args0 about1) = true
  refine all_split ?_ w_codes
  rw [← List.take_append_drop 24 words1, List.all_append, w_t1, w_t2]
  rfl
set_option maxRecDepth 65536 in
theorem w_case : (Jvm.Cond.and given_1 narrow_1).before args0 about1 = true := by decide +kernel
theorem w_applies : (headSpec (Jvm.Cond.code x code maxLocals ret :: tables_1) room_1).applies x e0.platform about1 = true :=
  (Spec.applies_iff w_frames).mpr ⟨w_running, w_runnable, w_alone, w_named, w_hears, w_ripe, w_room, w_tables⟩
theorem atStart : AtStart classFile x code maxLocals ret World_1 tables_1 room_1 Calls_1 rest_1 Pre_1 launch0 p0 e0 about1 theMethod args0 below0 :=
  ⟨lists_1, trivial, launch0.admits_env _ _ _, launch0.least_env, fairChoices_fair.cas, fairChoices_fair.clock, w_frames, w_args, w_heap, w_applies, trivial, trivial, w_case⟩
end start1
theorem witness_1 : WitnessClaimed_1 := ⟨start1.p0, start1.e0, start1.about1, start1.theMethod, start1.args0, start1.below0, start1.atStart⟩
end Jvm.Pilot.@@N@@
