import JvmDerived
import JvmDerived.Pilot.@@N@@Statement
import JvmDerived.Pilot.@@N@@Code
set_option linter.unusedVariables false
set_option linter.unusedSimpArgs false
namespace Jvm.RoadKit
open Sem ClassFile Op Lib Jvm.Stand Jvm.Free Jvm.LawKit
section New
variable {p : Program} {l : Launch} {e : Env} {R : Room} {s : State} {m : MethodId} {args : Array Value} {below : List Frame} {meth : Method} {c : Code} {T : State} {locs : List Loc} {cells slots : Nat}
theorem retI (X : Stand p l e R s m args below meth c T locs cells slots) (hx : p.tables.exec = Jvm.exec) {pc : Nat} {Ls : Array Slot} {z : Int32} {rest : List Value} (hret : meth.sig.returnType = some .int) (hd : decode c.code pc = .ok (.ireturn, 1)) {fs : List Frame}
    (hl : ∀ (f : JFrame) (acts : List Action), f.method = m → f.locked = none → f.entered = [] → (doReturn e (T.setTop f) acts (some (.int z))).1 = T.setFrames fs) : Steps p.tables e below (T.setTop (mkF m pc Ls (.int z :: rest))) (T.setFrames fs) := by
  have hm' : T.vm.method? m = some meth := X.method'
  have hn : narrow .int (.int z) = .int z := rfl
  show Steps p.tables e below (T.setTop { method := m, pc := pc, locals := Ls, stack := _ :: rest, locked := none }) _
  jvm_step X.here [X.here.top, hx, hd, hm', hret, hn]
  first | (intro acts; rw [hl _ acts rfl rfl rfl]) | rw [hl _ _ rfl rfl rfl]
  exact Steps.refl _
end New
end Jvm.RoadKit
namespace Jvm.Pilot.@@N@@
open Jvm Jvm.ClassFile Sem Op Lib Jvm.Free Jvm.Stand Jvm.LawKit Jvm.RoadKit Bundle Jvm.Pilot.@@N@@.Jvm.D
def Av (Z : State) (h : Heap) (a : Addr) (ty : FieldType) (n : Int32) (vs : List Value) (d : Value) : Prop := ∃ k, Arv Z h a k ty n vs d
theorem Av.lt {Z : State} {h : Heap} {a : Addr} {ty : FieldType} {n : Int32} {vs : List Value} {d : Value} (F : Av Z h a ty n vs d) : a < h.size := by obtain ⟨k, F⟩ := F; exact F.lt
theorem Av.ext {Z : State} {h h' : Heap} {a : Addr} {ty : FieldType} {n : Int32} {vs : List Value} {d : Value} (F : Av Z h a ty n vs d) (E : Ext h h') : Av Z h' a ty n vs d := by obtain ⟨k, F⟩ := F; exact ⟨k, F.ext E⟩
theorem Av.other {Z : State} {h h' : Heap} {a b : Addr} {ty : FieldType} {n : Int32} {vs : List Value} {d : Value} {sl : Nat} {v : Value} (F : Av Z h b ty n vs d) (W : Wr h h' a sl v) (q : b ≠ a) : Av Z h' b ty n vs d := by obtain ⟨k, F⟩ := F; exact ⟨k, F.other W q⟩
def Al (Z : State) (h : Heap) (a : Addr) (ty : FieldType) (n : Int32) : Prop := ∃ c : Cell, Arr Z h a c ty ∧ c.slots.size = n.toNatClampNeg ∧ ¬ n < 0
theorem Al.lt {Z : State} {h : Heap} {a : Addr} {ty : FieldType} {n : Int32} (F : Al Z h a ty n) : a < h.size := by obtain ⟨c, A, -⟩ := F; exact A.lt
theorem Al.ext {Z : State} {h h' : Heap} {a : Addr} {ty : FieldType} {n : Int32} (F : Al Z h a ty n) (E : Ext h h') : Al Z h' a ty n := by obtain ⟨c, A, r⟩ := F; exact ⟨c, A.ext E, r⟩
theorem Al.other {Z : State} {h h' : Heap} {a b : Addr} {ty : FieldType} {n : Int32} {sl : Nat} {v : Value} (F : Al Z h b ty n) (W : Wr h h' a sl v) (q : b ≠ a) : Al Z h' b ty n := by obtain ⟨c, A, r⟩ := F; exact ⟨c, A.other W q, r⟩
theorem Al.same {Z : State} {h h' : Heap} {a : Addr} {ty : FieldType} {n : Int32} {sl : Nat} {v : Value} (F : Al Z h a ty n) (W : Wr h h' a sl v) : Al Z h' a ty n := by obtain ⟨c, A, r⟩ := F; exact ⟨_, A.same W, by rw [sz_set]; exact r.1, r.2⟩
theorem Al.keep {Z : State} {h h' : Heap} {a : Addr} {ty : FieldType} {n : Int32} {ws : List Addr} (F : Al Z h a ty n) (K : Keep h h' ws) (q : a ∉ ws) : Al Z h' a ty n := by obtain ⟨c, A, r⟩ := F; exact ⟨c, ⟨K.2.1 a c A.1 q, A.2⟩, r⟩
theorem Av.al {Z : State} {h : Heap} {a : Addr} {ty : FieldType} {n : Int32} {vs : List Value} {d : Value} (F : Av Z h a ty n vs d) : Al Z h a ty n := by obtain ⟨k, c, A, -, r1, r2, -⟩ := F; exact ⟨c, A, r1, r2⟩
theorem Av.keep {Z : State} {h h' : Heap} {a : Addr} {ty : FieldType} {n : Int32} {vs : List Value} {d : Value} {ws : List Addr} (F : Av Z h a ty n vs d) (K : Keep h h' ws) (q : a ∉ ws) : Av Z h' a ty n vs d := by obtain ⟨k, F⟩ := F; exact ⟨k, F.keep K q⟩
abbrev MN1 : MethodName := ⟨"com/example/tailwake/tailwake/source/mariadb/Slice", "<init>", "([BII)V"⟩
abbrev MN3 : MethodName := ⟨"java/util/Objects", "checkFromIndexSize", "(III)I"⟩
abbrev MN4 : MethodName := ⟨"jdk/internal/util/Preconditions", "checkFromIndexSize", "(IIILjava/util/function/BiFunction;)I"⟩
abbrev MN5 : MethodName := ⟨"com/example/tailwake/tailwake/source/mariadb/SliceHashCodePinLaw", "pow31", "(I)I"⟩
abbrev MN6 : MethodName := ⟨"com/example/tailwake/tailwake/source/mariadb/SliceHashCodePinLaw", "term", "([BIII)I"⟩
abbrev MN7 : MethodName := ⟨"com/example/tailwake/tailwake/source/mariadb/Slice", "hashCode", "()I"⟩
def own_p31 (k : Int32) : Int32 := if k = 0 then 1 else if k = 1 then 31 else if k = 2 then 961 else if k = 3 then 29791 else if k = 4 then 923521 else 28629151
theorem own_q0 : own_p31 (0 : Int32) = 1 := rfl
theorem own_q1 : own_p31 (1 : Int32) = 31 := rfl
theorem own_q2 : own_p31 (2 : Int32) = 961 := rfl
theorem own_q3 : own_p31 (3 : Int32) = 29791 := rfl
theorem own_q4 : own_p31 (4 : Int32) = 923521 := rfl
theorem own_q5 : own_p31 (5 : Int32) = 28629151 := rfl
theorem own_off (x : Int32) : 0 ≤ ((x &&& (7 : Int32)) % (6 : Int32)).toInt ∧ ((x &&& (7 : Int32)) % (6 : Int32)).toInt < 6 := by
  have h0 := c_mask x 7 3 (by decide) (by decide)
  have h := (c_iremV (x &&& 7) 6).1 (by omega) (by decide)
  exact ⟨h.1, h.2.1⟩
theorem own_len (x y : Int32) (hy : 0 < y.toInt) : 0 ≤ ((x &&& 2147483647) % y).toInt ∧ ((x &&& 2147483647) % y).toInt < y.toInt := by
  have h0 := c_mask x 2147483647 31 (by decide) (by decide)
  have h := (c_iremV (x &&& 2147483647) y).1 (by omega) hy
  exact ⟨h.1, h.2.1⟩
theorem own_lt1 (i : Int32) (h : 0 ≤ i.toInt ∧ i.toInt < 1) : i = (0 : Int32) := by
  simp only [← Int32.toInt_inj, Int32.reduceToInt] at *
  omega
theorem own_lt2 (i : Int32) (h : 0 ≤ i.toInt ∧ i.toInt < 2) : i = (0 : Int32) ∨ i = (1 : Int32) := by
  simp only [← Int32.toInt_inj, Int32.reduceToInt] at *
  omega
theorem own_lt3 (i : Int32) (h : 0 ≤ i.toInt ∧ i.toInt < 3) : i = (0 : Int32) ∨ i = (1 : Int32) ∨ i = (2 : Int32) := by
  simp only [← Int32.toInt_inj, Int32.reduceToInt] at *
  omega
theorem own_lt4 (i : Int32) (h : 0 ≤ i.toInt ∧ i.toInt < 4) : i = (0 : Int32) ∨ i = (1 : Int32) ∨ i = (2 : Int32) ∨ i = (3 : Int32) := by
  simp only [← Int32.toInt_inj, Int32.reduceToInt] at *
  omega
theorem own_lt5 (i : Int32) (h : 0 ≤ i.toInt ∧ i.toInt < 5) : i = (0 : Int32) ∨ i = (1 : Int32) ∨ i = (2 : Int32) ∨ i = (3 : Int32) ∨ i = (4 : Int32) := by
  simp only [← Int32.toInt_inj, Int32.reduceToInt] at *
  omega
theorem own_lt6 (i : Int32) (h : 0 ≤ i.toInt ∧ i.toInt < 6) : i = (0 : Int32) ∨ i = (1 : Int32) ∨ i = (2 : Int32) ∨ i = (3 : Int32) ∨ i = (4 : Int32) ∨ i = (5 : Int32) := by
  simp only [← Int32.toInt_inj, Int32.reduceToInt] at *
  omega
theorem d5_0 : decode method_2_code 0 = .ok (.iload_n 0, 1) := by decide +kernel
theorem d5_1 : decode method_2_code 1 = .ok (.ifCond .ne 5, 3) := by decide +kernel
theorem d5_4 : decode method_2_code 4 = .ok (.iconst 1, 1) := by decide +kernel
theorem d5_5 : decode method_2_code 5 = .ok (.ireturn, 1) := by decide +kernel
theorem d5_6 : decode method_2_code 6 = .ok (.iload_n 0, 1) := by decide +kernel
theorem d5_7 : decode method_2_code 7 = .ok (.iconst 1, 1) := by decide +kernel
theorem d5_8 : decode method_2_code 8 = .ok (.if_icmp .ne 6, 3) := by decide +kernel
theorem d5_11 : decode method_2_code 11 = .ok (.bipush 31, 2) := by decide +kernel
theorem d5_13 : decode method_2_code 13 = .ok (.ireturn, 1) := by decide +kernel
theorem d5_14 : decode method_2_code 14 = .ok (.iload_n 0, 1) := by decide +kernel
theorem d5_15 : decode method_2_code 15 = .ok (.iconst 2, 1) := by decide +kernel
theorem d5_16 : decode method_2_code 16 = .ok (.if_icmp .ne 7, 3) := by decide +kernel
theorem d5_19 : decode method_2_code 19 = .ok (.sipush 961, 3) := by decide +kernel
theorem d5_22 : decode method_2_code 22 = .ok (.ireturn, 1) := by decide +kernel
theorem d5_23 : decode method_2_code 23 = .ok (.iload_n 0, 1) := by decide +kernel
theorem d5_24 : decode method_2_code 24 = .ok (.iconst 3, 1) := by decide +kernel
theorem d5_25 : decode method_2_code 25 = .ok (.if_icmp .ne 7, 3) := by decide +kernel
theorem d5_28 : decode method_2_code 28 = .ok (.sipush 29791, 3) := by decide +kernel
theorem d5_31 : decode method_2_code 31 = .ok (.ireturn, 1) := by decide +kernel
theorem d5_32 : decode method_2_code 32 = .ok (.iload_n 0, 1) := by decide +kernel
theorem d5_33 : decode method_2_code 33 = .ok (.iconst 4, 1) := by decide +kernel
theorem d5_34 : decode method_2_code 34 = .ok (.if_icmp .ne 6, 3) := by decide +kernel
theorem d5_37 : decode method_2_code 37 = .ok (.ldc 7, 2) := by decide +kernel
theorem d5_39 : decode method_2_code 39 = .ok (.ireturn, 1) := by decide +kernel
theorem d5_40 : decode method_2_code 40 = .ok (.ldc 8, 2) := by decide +kernel
theorem d5_42 : decode method_2_code 42 = .ok (.ireturn, 1) := by decide +kernel
theorem pn_com_example_tailwake_tailwake_source_mariadb_SliceHashCodePinLaw : plainName "com/example/tailwake/tailwake/source/mariadb/SliceHashCodePinLaw" = true := by first | (simp [plainName, overriddenIn]; done) | decide +kernel
theorem ef_rm5 (m : MethodId) (x0 : Int32) : entryFrame m #[(.int x0)] 1 = mkF m 0 #[iv x0] [] := by first | (simp [entryFrame, mkF, argsToLocals, Value.category]; done) | rfl
def Q_rm5 (Z : State) (p5_0 : Int32) (h0 : Heap) (n0 : Nat) (v : Option Value) (h : Heap) (L : List Loc) : Prop := v = some (.int (own_p31 p5_0)) ∧ Fr n0 L ∧ h = h0
set_option maxRecDepth 65536 in
set_option maxHeartbeats 40000000 in
theorem rm5 (l : Launch) (Z : State) (a0 : Array Value) (hw : ∀ d ∈ tables_1, d.before a0 Z = true) (ws : List Jvm.Cond) (p5_0 : Int32) (h0 : Heap) (n0 : Nat) (Z0 : n0 ≤ h0.size) :
    MetFree l (⟨"com/example/tailwake/tailwake/source/mariadb/SliceHashCodePinLaw", "pow31", "(I)I"⟩ : MethodName) (head1 (Jvm.Cond.code (⟨"com/example/tailwake/tailwake/source/mariadb/SliceHashCodePinLaw", "pow31", "(I)I"⟩ : MethodName) method_2_code 1 (some .int) :: ws) ({ frames := 0, cells := 0, slots := 0, locals := 0 } : Room)) (fun a U => a = #[(.int p5_0)] ∧ Z.Warmed39 U.vm ∧ U.heap = h0) (fun _ _ _ _ _ => True) (fun _ U o U' => ∃ v L, o = .returned v ∧ Q_rm5 Z p5_0 h0 n0 v U'.heap L ∧ FrameEnd U o U' L ({ frames := 0, cells := 0, slots := 0, locals := 0 } : Room).cells ({ frames := 0, cells := 0, slots := 0, locals := 0 } : Room).slots) := by
  refine MetFree.of_bodySF (plainFor_of_name pn_com_example_tailwake_tailwake_source_mariadb_SliceHashCodePinLaw) hisR ?_
  intro p e s m args below meth c s₁ Bd hml0 hP hK
  obtain ⟨rfl, hZ, hh⟩ := hP
  have hx := Bd.exec
  have hby := Bd.bytes
  have hml : c.maxLocals = 1 := hml0
  have hown : s.vm.findClass "com/example/tailwake/tailwake/source/mariadb/SliceHashCodePinLaw" = some m.cls := findClass_of_methodNamed Bd.named
  have hnm := (name_of_methodNamed Bd.named Bd.method).1
  have X0 : Stand p l e ({ frames := 0, cells := 0, slots := 0, locals := 0 } : Room) s m #[(.int p5_0)] below meth c s₁ [] 0 0 := Stand.of_body Bd
  have e0 : s₁.heap = h0 := by rw [← hh, Bd.state]; rfl
  have N0 := Fr.nil n0
  have pre0 : ∀ t, Steps p.tables e below (s₁.setTop (mkF m 0 #[iv p5_0] [])) t → Steps p.tables e below (s₁.setTop (entryFrame m #[(.int p5_0)] 1)) t := fun t k => castTop (ef_rm5 m p5_0) k
  have wo37 := hw _ (List.mem_of_getElem? (i := 37) rfl)
  have wo38 := hw _ (List.mem_of_getElem? (i := 38) rfl)
  have pre2 : ∀ t, Steps p.tables e below (s₁.setTop (mkF m 1 #[iv p5_0] [(.int p5_0)])) t → Steps p.tables e below (s₁.setTop (entryFrame m #[(.int p5_0)] 1)) t := by
    intro t_ k_
    refine pre0 _ ?_
    show Steps p.tables e below (s₁.setTop (mkF m 0 #[iv p5_0] [])) _
    refine XS.iloadN X0.here hx rfl (hb hby d5_0) rfl ?_
    exact k_
  by_cases hc1_1 : p5_0 = (0 : Int32)
  · skip
    obtain ⟨fs, hr, hrun, hended, hW, hsame⟩ := X0.leave (v := some (.int (1 : Int32))) (fun h => by rw [Bd.returns] at h; cases h)
    refine ⟨_, _, pre2 _ ?_, hrun, hended, _, _, rfl, ?_, ⟨_, rfl⟩, hW, hsame.mono (by decide) (by decide)⟩
    · show Steps p.tables e below (s₁.setTop (mkF m 1 #[iv p5_0] [(.int p5_0)])) _
      refine XS.ifNo X0.here hx rfl (hb hby d5_1) rfl ((if0 _ _).trans (teq hc1_1).2) ?_
      show Steps p.tables e below (s₁.setTop (mkF m 4 #[iv p5_0] [])) _
      refine XS.iconst X0.here hx rfl (hb hby d5_4) ?_
      show Steps p.tables e below (s₁.setTop (mkF m 5 #[iv p5_0] [(.int (1 : Int32))])) _
      exact retI X0 hx Bd.returns (hb hby d5_5) hr
    · show Q_rm5 Z _ h0 n0 _ s₁.heap _
      rw [e0]
      exact ⟨(by simp [own_p31, *]), N0, rfl⟩
  · skip
    have pre4 : ∀ t, Steps p.tables e below (s₁.setTop (mkF m 8 #[iv p5_0] [(.int (1 : Int32)), (.int p5_0)])) t → Steps p.tables e below (s₁.setTop (entryFrame m #[(.int p5_0)] 1)) t := by
      intro t_ k_
      refine pre2 _ ?_
      show Steps p.tables e below (s₁.setTop (mkF m 1 #[iv p5_0] [(.int p5_0)])) _
      refine XS.ifYes X0.here hx rfl (pc0 := 1) (pc' := 6) rfl (hb hby d5_1) rfl ((if0 _ _).trans (feq hc1_1).2) (by decide) (by decide) ?_
      show Steps p.tables e below (s₁.setTop (mkF m 6 #[iv p5_0] [])) _
      refine XS.iloadN X0.here hx rfl (hb hby d5_6) rfl ?_
      show Steps p.tables e below (s₁.setTop (mkF m 7 #[iv p5_0] [(.int p5_0)])) _
      refine XS.iconst X0.here hx rfl (hb hby d5_7) ?_
      exact k_
    by_cases hc8_3 : p5_0 = (1 : Int32)
    · skip
      obtain ⟨fs, hr, hrun, hended, hW, hsame⟩ := X0.leave (v := some (.int (31 : Int32))) (fun h => by rw [Bd.returns] at h; cases h)
      refine ⟨_, _, pre4 _ ?_, hrun, hended, _, _, rfl, ?_, ⟨_, rfl⟩, hW, hsame.mono (by decide) (by decide)⟩
      · show Steps p.tables e below (s₁.setTop (mkF m 8 #[iv p5_0] [(.int (1 : Int32)), (.int p5_0)])) _
        refine XS.icmpNo X0.here hx rfl (hb hby d5_8) rfl (teq hc8_3).2 ?_
        show Steps p.tables e below (s₁.setTop (mkF m 11 #[iv p5_0] [])) _
        refine XS.bipush X0.here hx rfl (hb hby d5_11) ?_
        show Steps p.tables e below (s₁.setTop (mkF m 13 #[iv p5_0] [(.int (31 : Int32))])) _
        exact retI X0 hx Bd.returns (hb hby d5_13) hr
      · show Q_rm5 Z _ h0 n0 _ s₁.heap _
        rw [e0]
        exact ⟨(by simp [own_p31, *]), N0, rfl⟩
    · skip
      have pre6 : ∀ t, Steps p.tables e below (s₁.setTop (mkF m 16 #[iv p5_0] [(.int (2 : Int32)), (.int p5_0)])) t → Steps p.tables e below (s₁.setTop (entryFrame m #[(.int p5_0)] 1)) t := by
        intro t_ k_
        refine pre4 _ ?_
        show Steps p.tables e below (s₁.setTop (mkF m 8 #[iv p5_0] [(.int (1 : Int32)), (.int p5_0)])) _
        refine XS.icmpYes X0.here hx rfl (pc0 := 8) (pc' := 14) rfl (hb hby d5_8) rfl (feq hc8_3).2 (by decide) (by decide) ?_
        show Steps p.tables e below (s₁.setTop (mkF m 14 #[iv p5_0] [])) _
        refine XS.iloadN X0.here hx rfl (hb hby d5_14) rfl ?_
        show Steps p.tables e below (s₁.setTop (mkF m 15 #[iv p5_0] [(.int p5_0)])) _
        refine XS.iconst X0.here hx rfl (hb hby d5_15) ?_
        exact k_
      by_cases hc16_5 : p5_0 = (2 : Int32)
      · skip
        obtain ⟨fs, hr, hrun, hended, hW, hsame⟩ := X0.leave (v := some (.int (961 : Int32))) (fun h => by rw [Bd.returns] at h; cases h)
        refine ⟨_, _, pre6 _ ?_, hrun, hended, _, _, rfl, ?_, ⟨_, rfl⟩, hW, hsame.mono (by decide) (by decide)⟩
        · show Steps p.tables e below (s₁.setTop (mkF m 16 #[iv p5_0] [(.int (2 : Int32)), (.int p5_0)])) _
          refine XS.icmpNo X0.here hx rfl (hb hby d5_16) rfl (teq hc16_5).2 ?_
          show Steps p.tables e below (s₁.setTop (mkF m 19 #[iv p5_0] [])) _
          refine XS.sipush X0.here hx rfl (hb hby d5_19) ?_
          show Steps p.tables e below (s₁.setTop (mkF m 22 #[iv p5_0] [(.int (961 : Int32))])) _
          exact retI X0 hx Bd.returns (hb hby d5_22) hr
        · show Q_rm5 Z _ h0 n0 _ s₁.heap _
          rw [e0]
          exact ⟨(by simp [own_p31, *]), N0, rfl⟩
      · skip
        have pre8 : ∀ t, Steps p.tables e below (s₁.setTop (mkF m 25 #[iv p5_0] [(.int (3 : Int32)), (.int p5_0)])) t → Steps p.tables e below (s₁.setTop (entryFrame m #[(.int p5_0)] 1)) t := by
          intro t_ k_
          refine pre6 _ ?_
          show Steps p.tables e below (s₁.setTop (mkF m 16 #[iv p5_0] [(.int (2 : Int32)), (.int p5_0)])) _
          refine XS.icmpYes X0.here hx rfl (pc0 := 16) (pc' := 23) rfl (hb hby d5_16) rfl (feq hc16_5).2 (by decide) (by decide) ?_
          show Steps p.tables e below (s₁.setTop (mkF m 23 #[iv p5_0] [])) _
          refine XS.iloadN X0.here hx rfl (hb hby d5_23) rfl ?_
          show Steps p.tables e below (s₁.setTop (mkF m 24 #[iv p5_0] [(.int p5_0)])) _
          refine XS.iconst X0.here hx rfl (hb hby d5_24) ?_
          exact k_
        by_cases hc25_7 : p5_0 = (3 : Int32)
        · skip
          obtain ⟨fs, hr, hrun, hended, hW, hsame⟩ := X0.leave (v := some (.int (29791 : Int32))) (fun h => by rw [Bd.returns] at h; cases h)
          refine ⟨_, _, pre8 _ ?_, hrun, hended, _, _, rfl, ?_, ⟨_, rfl⟩, hW, hsame.mono (by decide) (by decide)⟩
          · show Steps p.tables e below (s₁.setTop (mkF m 25 #[iv p5_0] [(.int (3 : Int32)), (.int p5_0)])) _
            refine XS.icmpNo X0.here hx rfl (hb hby d5_25) rfl (teq hc25_7).2 ?_
            show Steps p.tables e below (s₁.setTop (mkF m 28 #[iv p5_0] [])) _
            refine XS.sipush X0.here hx rfl (hb hby d5_28) ?_
            show Steps p.tables e below (s₁.setTop (mkF m 31 #[iv p5_0] [(.int (29791 : Int32))])) _
            exact retI X0 hx Bd.returns (hb hby d5_31) hr
          · show Q_rm5 Z _ h0 n0 _ s₁.heap _
            rw [e0]
            exact ⟨(by simp [own_p31, *]), N0, rfl⟩
        · skip
          have pre10 : ∀ t, Steps p.tables e below (s₁.setTop (mkF m 34 #[iv p5_0] [(.int (4 : Int32)), (.int p5_0)])) t → Steps p.tables e below (s₁.setTop (entryFrame m #[(.int p5_0)] 1)) t := by
            intro t_ k_
            refine pre8 _ ?_
            show Steps p.tables e below (s₁.setTop (mkF m 25 #[iv p5_0] [(.int (3 : Int32)), (.int p5_0)])) _
            refine XS.icmpYes X0.here hx rfl (pc0 := 25) (pc' := 32) rfl (hb hby d5_25) rfl (feq hc25_7).2 (by decide) (by decide) ?_
            show Steps p.tables e below (s₁.setTop (mkF m 32 #[iv p5_0] [])) _
            refine XS.iloadN X0.here hx rfl (hb hby d5_32) rfl ?_
            show Steps p.tables e below (s₁.setTop (mkF m 33 #[iv p5_0] [(.int p5_0)])) _
            refine XS.iconst X0.here hx rfl (hb hby d5_33) ?_
            exact k_
          by_cases hc34_9 : p5_0 = (4 : Int32)
          · skip
            obtain ⟨fs, hr, hrun, hended, hW, hsame⟩ := X0.leave (v := some (.int (923521 : Int32))) (fun h => by rw [Bd.returns] at h; cases h)
            refine ⟨_, _, pre10 _ ?_, hrun, hended, _, _, rfl, ?_, ⟨_, rfl⟩, hW, hsame.mono (by decide) (by decide)⟩
            · show Steps p.tables e below (s₁.setTop (mkF m 34 #[iv p5_0] [(.int (4 : Int32)), (.int p5_0)])) _
              refine XS.icmpNo X0.here hx rfl (hb hby d5_34) rfl (teq hc34_9).2 ?_
              show Steps p.tables e below (s₁.setTop (mkF m 37 #[iv p5_0] [])) _
              refine X0.ldcInt hx hown (mvT hZ wo37) (g := (mkF m 37 #[iv p5_0] [])) rfl (hb hby d5_37) _ ?_
              show Steps p.tables e below (s₁.setTop (mkF m 39 #[iv p5_0] [(.int (923521 : Int32))])) _
              exact retI X0 hx Bd.returns (hb hby d5_39) hr
            · show Q_rm5 Z _ h0 n0 _ s₁.heap _
              rw [e0]
              exact ⟨(by simp [own_p31, *]), N0, rfl⟩
          · skip
            obtain ⟨fs, hr, hrun, hended, hW, hsame⟩ := X0.leave (v := some (.int (28629151 : Int32))) (fun h => by rw [Bd.returns] at h; cases h)
            refine ⟨_, _, pre10 _ ?_, hrun, hended, _, _, rfl, ?_, ⟨_, rfl⟩, hW, hsame.mono (by decide) (by decide)⟩
            · show Steps p.tables e below (s₁.setTop (mkF m 34 #[iv p5_0] [(.int (4 : Int32)), (.int p5_0)])) _
              refine XS.icmpYes X0.here hx rfl (pc0 := 34) (pc' := 40) rfl (hb hby d5_34) rfl (feq hc34_9).2 (by decide) (by decide) ?_
              show Steps p.tables e below (s₁.setTop (mkF m 40 #[iv p5_0] [])) _
              refine X0.ldcInt hx hown (mvT hZ wo38) (g := (mkF m 40 #[iv p5_0] [])) rfl (hb hby d5_40) _ ?_
              show Steps p.tables e below (s₁.setTop (mkF m 42 #[iv p5_0] [(.int (28629151 : Int32))])) _
              exact retI X0 hx Bd.returns (hb hby d5_42) hr
            · show Q_rm5 Z _ h0 n0 _ s₁.heap _
              rw [e0]
              exact ⟨(by simp [own_p31, *]), N0, rfl⟩
theorem d4_0 : decode jdk_41_method_13_code 0 = .ok (.iload_n 2, 1) := by decide +kernel
theorem d4_1 : decode jdk_41_method_13_code 1 = .ok (.iload_n 0, 1) := by decide +kernel
theorem d4_2 : decode jdk_41_method_13_code 2 = .ok (.ior, 1) := by decide +kernel
theorem d4_3 : decode jdk_41_method_13_code 3 = .ok (.iload_n 1, 1) := by decide +kernel
theorem d4_4 : decode jdk_41_method_13_code 4 = .ok (.ior, 1) := by decide +kernel
theorem d4_5 : decode jdk_41_method_13_code 5 = .ok (.ifCond .lt 10, 3) := by decide +kernel
theorem d4_8 : decode jdk_41_method_13_code 8 = .ok (.iload_n 1, 1) := by decide +kernel
theorem d4_9 : decode jdk_41_method_13_code 9 = .ok (.iload_n 2, 1) := by decide +kernel
theorem d4_10 : decode jdk_41_method_13_code 10 = .ok (.iload_n 0, 1) := by decide +kernel
theorem d4_11 : decode jdk_41_method_13_code 11 = .ok (.isub, 1) := by decide +kernel
theorem d4_12 : decode jdk_41_method_13_code 12 = .ok (.if_icmp .le 11, 3) := by decide +kernel
theorem d4_23 : decode jdk_41_method_13_code 23 = .ok (.iload_n 0, 1) := by decide +kernel
theorem d4_24 : decode jdk_41_method_13_code 24 = .ok (.ireturn, 1) := by decide +kernel
theorem pn_jdk_internal_util_Preconditions : plainName "jdk/internal/util/Preconditions" = true := by first | (simp [plainName, overriddenIn]; done) | decide +kernel
theorem ef_rm4 (m : MethodId) (x0 : Int32) (x1 : Int32) (x2 : Int32) : entryFrame m #[(.int x0), (.int x1), (.int x2), .null] 4 = mkF m 0 #[iv x0, iv x1, iv x2, .val .null] [] := by first | (simp [entryFrame, mkF, argsToLocals, Value.category]; done) | rfl
def Q_rm4 (Z : State) (of : Int32) (sz : Int32) (ln : Int32) (h0 : Heap) (n0 : Nat) (v : Option Value) (h : Heap) (L : List Loc) : Prop := v = some (.int of) ∧ Fr n0 L ∧ h = h0
set_option maxRecDepth 65536 in
set_option maxHeartbeats 40000000 in
theorem rm4 (l : Launch) (Z : State) (a0 : Array Value) (hw : ∀ d ∈ tables_1, d.before a0 Z = true) (ws : List Jvm.Cond) (of : Int32) (sz : Int32) (ln : Int32) (h0 : Heap) (n0 : Nat) (Z0 : n0 ≤ h0.size) (h1 : ¬ (((ln ||| of) ||| sz) < (0 : Int32))) (h2 : ¬ ((ln - of) < sz)) :
    MetFree l (⟨"jdk/internal/util/Preconditions", "checkFromIndexSize", "(IIILjava/util/function/BiFunction;)I"⟩ : MethodName) (head1 (Jvm.Cond.code (⟨"jdk/internal/util/Preconditions", "checkFromIndexSize", "(IIILjava/util/function/BiFunction;)I"⟩ : MethodName) jdk_41_method_13_code 4 (some .int) :: ws) ({ frames := 0, cells := 0, slots := 0, locals := 0 } : Room)) (fun a U => a = #[(.int of), (.int sz), (.int ln), .null] ∧ Z.Warmed39 U.vm ∧ U.heap = h0) (fun _ _ _ _ _ => True) (fun _ U o U' => ∃ v L, o = .returned v ∧ Q_rm4 Z of sz ln h0 n0 v U'.heap L ∧ FrameEnd U o U' L ({ frames := 0, cells := 0, slots := 0, locals := 0 } : Room).cells ({ frames := 0, cells := 0, slots := 0, locals := 0 } : Room).slots) := by
  refine MetFree.of_bodySF (plainFor_of_name pn_jdk_internal_util_Preconditions) hisR ?_
  intro p e s m args below meth c s₁ Bd hml0 hP hK
  obtain ⟨rfl, hZ, hh⟩ := hP
  have hx := Bd.exec
  have hby := Bd.bytes
  have hml : c.maxLocals = 4 := hml0
  have hown : s.vm.findClass "jdk/internal/util/Preconditions" = some m.cls := findClass_of_methodNamed Bd.named
  have hnm := (name_of_methodNamed Bd.named Bd.method).1
  have X0 : Stand p l e ({ frames := 0, cells := 0, slots := 0, locals := 0 } : Room) s m #[(.int of), (.int sz), (.int ln), .null] below meth c s₁ [] 0 0 := Stand.of_body Bd
  have e0 : s₁.heap = h0 := by rw [← hh, Bd.state]; rfl
  have N0 := Fr.nil n0
  have pre0 : ∀ t, Steps p.tables e below (s₁.setTop (mkF m 0 #[iv of, iv sz, iv ln, .val .null] [])) t → Steps p.tables e below (s₁.setTop (entryFrame m #[(.int of), (.int sz), (.int ln), .null] 4)) t := fun t k => castTop (ef_rm4 m of sz ln) k
  obtain ⟨fs, hr, hrun, hended, hW, hsame⟩ := X0.leave (v := some (.int of)) (fun h => by rw [Bd.returns] at h; cases h)
  refine ⟨_, _, pre0 _ ?_, hrun, hended, _, _, rfl, ?_, ⟨_, rfl⟩, hW, hsame.mono (by decide) (by decide)⟩
  · show Steps p.tables e below (s₁.setTop (mkF m 0 #[iv of, iv sz, iv ln, .val .null] [])) _
    refine XS.iloadN X0.here hx rfl (hb hby d4_0) rfl ?_
    show Steps p.tables e below (s₁.setTop (mkF m 1 #[iv of, iv sz, iv ln, .val .null] [(.int ln)])) _
    refine XS.iloadN X0.here hx rfl (hb hby d4_1) rfl ?_
    show Steps p.tables e below (s₁.setTop (mkF m 2 #[iv of, iv sz, iv ln, .val .null] [(.int of), (.int ln)])) _
    refine XS.ior X0.here hx rfl (hb hby d4_2) rfl ?_
    show Steps p.tables e below (s₁.setTop (mkF m 3 #[iv of, iv sz, iv ln, .val .null] [(.int (ln ||| of))])) _
    refine XS.iloadN X0.here hx rfl (hb hby d4_3) rfl ?_
    show Steps p.tables e below (s₁.setTop (mkF m 4 #[iv of, iv sz, iv ln, .val .null] [(.int sz), (.int (ln ||| of))])) _
    refine XS.ior X0.here hx rfl (hb hby d4_4) rfl ?_
    show Steps p.tables e below (s₁.setTop (mkF m 5 #[iv of, iv sz, iv ln, .val .null] [(.int ((ln ||| of) ||| sz))])) _
    refine XS.ifNo X0.here hx rfl (hb hby d4_5) rfl ((if0 _ _).trans (flt h1).1) ?_
    show Steps p.tables e below (s₁.setTop (mkF m 8 #[iv of, iv sz, iv ln, .val .null] [])) _
    refine XS.iloadN X0.here hx rfl (hb hby d4_8) rfl ?_
    show Steps p.tables e below (s₁.setTop (mkF m 9 #[iv of, iv sz, iv ln, .val .null] [(.int sz)])) _
    refine XS.iloadN X0.here hx rfl (hb hby d4_9) rfl ?_
    show Steps p.tables e below (s₁.setTop (mkF m 10 #[iv of, iv sz, iv ln, .val .null] [(.int ln), (.int sz)])) _
    refine XS.iloadN X0.here hx rfl (hb hby d4_10) rfl ?_
    show Steps p.tables e below (s₁.setTop (mkF m 11 #[iv of, iv sz, iv ln, .val .null] [(.int of), (.int ln), (.int sz)])) _
    refine XS.isub X0.here hx rfl (hb hby d4_11) rfl ?_
    show Steps p.tables e below (s₁.setTop (mkF m 12 #[iv of, iv sz, iv ln, .val .null] [(.int (ln - of)), (.int sz)])) _
    refine XS.icmpYes X0.here hx rfl (pc0 := 12) (pc' := 23) rfl (hb hby d4_12) rfl (flt h2).2.2.2 (by decide) (by decide) ?_
    show Steps p.tables e below (s₁.setTop (mkF m 23 #[iv of, iv sz, iv ln, .val .null] [])) _
    refine XS.iloadN X0.here hx rfl (hb hby d4_23) rfl ?_
    show Steps p.tables e below (s₁.setTop (mkF m 24 #[iv of, iv sz, iv ln, .val .null] [(.int of)])) _
    exact retI X0 hx Bd.returns (hb hby d4_24) hr
  · show Q_rm4 Z _ _ _ h0 n0 _ s₁.heap _
    rw [e0]
    exact ⟨rfl, N0, rfl⟩
theorem d3_0 : decode jdk_31_method_19_code 0 = .ok (.iload_n 0, 1) := by decide +kernel
theorem d3_1 : decode jdk_31_method_19_code 1 = .ok (.iload_n 1, 1) := by decide +kernel
theorem d3_2 : decode jdk_31_method_19_code 2 = .ok (.iload_n 2, 1) := by decide +kernel
theorem d3_3 : decode jdk_31_method_19_code 3 = .ok (.aconst_null, 1) := by decide +kernel
theorem pd_4 : parseMethodDescriptor "(IIILjava/util/function/BiFunction;)I" = some ⟨[.int, .int, .int, (.object "java/util/function/BiFunction")], some .int⟩ := by decide +kernel
theorem d3_4 : decode jdk_31_method_19_code 4 = .ok (.invokestatic 115, 3) := by decide +kernel
theorem d3_7 : decode jdk_31_method_19_code 7 = .ok (.ireturn, 1) := by decide +kernel
theorem pn_java_util_Objects : plainName "java/util/Objects" = true := by first | (simp [plainName, overriddenIn]; done) | decide +kernel
theorem ef_rm3 (m : MethodId) (x0 : Int32) (x1 : Int32) (x2 : Int32) : entryFrame m #[(.int x0), (.int x1), (.int x2)] 3 = mkF m 0 #[iv x0, iv x1, iv x2] [] := by first | (simp [entryFrame, mkF, argsToLocals, Value.category]; done) | rfl
def Q_rm3 (Z : State) (of : Int32) (sz : Int32) (ln : Int32) (h0 : Heap) (n0 : Nat) (v : Option Value) (h : Heap) (L : List Loc) : Prop := v = some (.int of) ∧ Fr n0 L ∧ h = h0
set_option maxRecDepth 65536 in
set_option maxHeartbeats 40000000 in
theorem rm3 (l : Launch) (Z : State) (a0 : Array Value) (hw : ∀ d ∈ tables_1, d.before a0 Z = true) (ws : List Jvm.Cond) (of : Int32) (sz : Int32) (ln : Int32) (h0 : Heap) (n0 : Nat) (Z0 : n0 ≤ h0.size) (h1 : ¬ (((ln ||| of) ||| sz) < (0 : Int32))) (h2 : ¬ ((ln - of) < sz)) :
    MetFree l (⟨"java/util/Objects", "checkFromIndexSize", "(III)I"⟩ : MethodName) (head1 (Jvm.Cond.code (⟨"java/util/Objects", "checkFromIndexSize", "(III)I"⟩ : MethodName) jdk_31_method_19_code 3 (some .int) :: ws) ({ frames := 1, cells := 0, slots := 0, locals := 15 } : Room)) (fun a U => a = #[(.int of), (.int sz), (.int ln)] ∧ Z.Warmed39 U.vm ∧ U.heap = h0) (fun _ _ _ _ _ => True) (fun _ U o U' => ∃ v L, o = .returned v ∧ Q_rm3 Z of sz ln h0 n0 v U'.heap L ∧ FrameEnd U o U' L ({ frames := 1, cells := 0, slots := 0, locals := 15 } : Room).cells ({ frames := 1, cells := 0, slots := 0, locals := 15 } : Room).slots) := by
  refine MetFree.of_bodySF (plainFor_of_name pn_java_util_Objects) hisR ?_
  intro p e s m args below meth c s₁ Bd hml0 hP hK
  obtain ⟨rfl, hZ, hh⟩ := hP
  have hx := Bd.exec
  have hby := Bd.bytes
  have hml : c.maxLocals = 3 := hml0
  have hown : s.vm.findClass "java/util/Objects" = some m.cls := findClass_of_methodNamed Bd.named
  have hnm := (name_of_methodNamed Bd.named Bd.method).1
  have X0 : Stand p l e ({ frames := 1, cells := 0, slots := 0, locals := 15 } : Room) s m #[(.int of), (.int sz), (.int ln)] below meth c s₁ [] 0 0 := Stand.of_body Bd
  have e0 : s₁.heap = h0 := by rw [← hh, Bd.state]; rfl
  have N0 := Fr.nil n0
  have pre0 : ∀ t, Steps p.tables e below (s₁.setTop (mkF m 0 #[iv of, iv sz, iv ln] [])) t → Steps p.tables e below (s₁.setTop (entryFrame m #[(.int of), (.int sz), (.int ln)] 3)) t := fun t k => castTop (ef_rm3 m of sz ln) k
  have wo15 := hw _ (List.mem_of_getElem? (i := 15) rfl)
  have wo16 := hw _ (List.mem_of_getElem? (i := 16) rfl)
  have wo17 := hw _ (List.mem_of_getElem? (i := 17) rfl)
  have wo18 := hw _ (List.mem_of_getElem? (i := 18) rfl)
  obtain ⟨_, _, ⟨T1, L1, k1, n1⟩, -, X1, ⟨Lc1, hQ1, l1, y1, z1⟩, st1⟩ := Jvm.LawKit.callS X0 hx (y := MN4) hown (mvT hZ wo15) (mvT hZ wo16) (mvT hZ wo17) (mvT hZ wo18) (by decide) (backOf (W := 0) (rm4 l Z a0 hw [] of sz ln h0 n0 Z0 (h1 : ¬ (((ln ||| of) ||| sz) < (0 : Int32))) (h2 : ¬ ((ln - of) < sz))) hZ wo18 wo17 (by decide) (by decide)) (g := (mkF m 4 #[iv of, iv sz, iv ln] [.null, (.int ln), (.int sz), (.int of)])) rfl (by rw [hml]; rfl) (argsL := [(.int of), (.int sz), (.int ln), .null]) (rest := []) (lenOf pd_4 rfl) rfl (by show 2 * 0 + _ ≤ _; exact Nat.le_of_eq rfl) (hb hby d3_4) (fun _ _ => ⟨rfl, e0, (by decide : 0 + 0 ≤ _), (by decide : 0 + 0 ≤ _)⟩)
  dsimp only [Pt.U, Pt.locs, Pt.cells, Pt.slots] at X1 l1 y1 z1 st1 hQ1
  rw [l1, y1, z1] at X1
  obtain ⟨rfl, N1q, K1q⟩ := hQ1
  have N2 := Fr.app N0 N1q
  obtain ⟨fs, hr, hrun, hended, hW, hsame⟩ := X1.leave (v := some (.int of)) (fun h => by rw [Bd.returns] at h; cases h)
  refine ⟨_, _, pre0 _ ?_, hrun, hended, _, _, rfl, ?_, ⟨_, rfl⟩, hW, hsame.mono (by decide) (by decide)⟩
  · show Steps p.tables e below (s₁.setTop (mkF m 0 #[iv of, iv sz, iv ln] [])) _
    refine XS.iloadN X0.here hx rfl (hb hby d3_0) rfl ?_
    show Steps p.tables e below (s₁.setTop (mkF m 1 #[iv of, iv sz, iv ln] [(.int of)])) _
    refine XS.iloadN X0.here hx rfl (hb hby d3_1) rfl ?_
    show Steps p.tables e below (s₁.setTop (mkF m 2 #[iv of, iv sz, iv ln] [(.int sz), (.int of)])) _
    refine XS.iloadN X0.here hx rfl (hb hby d3_2) rfl ?_
    show Steps p.tables e below (s₁.setTop (mkF m 3 #[iv of, iv sz, iv ln] [(.int ln), (.int sz), (.int of)])) _
    refine XS.aconstNull X0.here hx rfl (hb hby d3_3) ?_
    show Steps p.tables e below (s₁.setTop (mkF m 4 #[iv of, iv sz, iv ln] [.null, (.int ln), (.int sz), (.int of)])) _
    refine st1 _ ?_
    show Steps p.tables e below (T1.setTop (mkF m 7 #[iv of, iv sz, iv ln] [(.int of)])) _
    exact retI X1 hx Bd.returns (hb hby d3_7) hr
  · show Q_rm3 Z _ _ _ h0 n0 _ T1.heap _
    rw [K1q]
    exact ⟨rfl, N2, rfl⟩
theorem d1_0 : decode prog_29_method_1_code 0 = .ok (.aload_n 0, 1) := by decide +kernel
theorem d1_1 : decode prog_29_method_1_code 1 = .ok (.invokespecial 1, 3) := by decide +kernel
theorem d1_4 : decode prog_29_method_1_code 4 = .ok (.iload_n 2, 1) := by decide +kernel
theorem d1_5 : decode prog_29_method_1_code 5 = .ok (.iload_n 3, 1) := by decide +kernel
theorem d1_6 : decode prog_29_method_1_code 6 = .ok (.aload_n 1, 1) := by decide +kernel
theorem d1_7 : decode prog_29_method_1_code 7 = .ok (.arraylength, 1) := by decide +kernel
theorem pd_3 : parseMethodDescriptor "(III)I" = some ⟨[.int, .int, .int], some .int⟩ := by decide +kernel
theorem d1_8 : decode prog_29_method_1_code 8 = .ok (.invokestatic 7, 3) := by decide +kernel
theorem d1_11 : decode prog_29_method_1_code 11 = .ok (.pop, 1) := by decide +kernel
theorem d1_12 : decode prog_29_method_1_code 12 = .ok (.aload_n 0, 1) := by decide +kernel
theorem d1_13 : decode prog_29_method_1_code 13 = .ok (.aload_n 1, 1) := by decide +kernel
theorem d1_14 : decode prog_29_method_1_code 14 = .ok (.putfield 13, 3) := by decide +kernel
theorem d1_17 : decode prog_29_method_1_code 17 = .ok (.aload_n 0, 1) := by decide +kernel
theorem d1_18 : decode prog_29_method_1_code 18 = .ok (.iload_n 2, 1) := by decide +kernel
theorem d1_19 : decode prog_29_method_1_code 19 = .ok (.putfield 19, 3) := by decide +kernel
theorem d1_22 : decode prog_29_method_1_code 22 = .ok (.aload_n 0, 1) := by decide +kernel
theorem d1_23 : decode prog_29_method_1_code 23 = .ok (.iload_n 3, 1) := by decide +kernel
theorem d1_24 : decode prog_29_method_1_code 24 = .ok (.putfield 23, 3) := by decide +kernel
theorem d1_27 : decode prog_29_method_1_code 27 = .ok (.return_, 1) := by decide +kernel
theorem pn_com_example_tailwake_tailwake_source_mariadb_Slice : plainName "com/example/tailwake/tailwake/source/mariadb/Slice" = true := by first | (simp [plainName, overriddenIn]; done) | decide +kernel
theorem ef_rm1 (m : MethodId) (x0 : Addr) (x1 : Addr) (x2 : Int32) (x3 : Int32) : entryFrame m #[(.ref x0), (.ref x1), (.int x2), (.int x3)] 4 = mkF m 0 #[rv x0, rv x1, iv x2, iv x3] [] := by first | (simp [entryFrame, mkF, argsToLocals, Value.category]; done) | rfl
def Q_rm1 (Z : State) (a1_0 : Addr) (ar : Addr) (of : Int32) (sz : Int32) (h0 : Heap) (n0 : Nat) (v : Option Value) (h : Heap) (L : List Loc) : Prop := v = none ∧ Fr n0 L ∧ Keep h0 h [a1_0] ∧ (Fld Z h a1_0 "com/example/tailwake/tailwake/source/mariadb/Slice" "array" "[B" (.ref ar)) ∧ (Fld Z h a1_0 "com/example/tailwake/tailwake/source/mariadb/Slice" "offset" "I" (.int of)) ∧ (Fld Z h a1_0 "com/example/tailwake/tailwake/source/mariadb/Slice" "length" "I" (.int sz))
set_option maxRecDepth 65536 in
set_option maxHeartbeats 40000000 in
theorem rm1 (l : Launch) (Z : State) (a0 : Array Value) (hw : ∀ d ∈ tables_1, d.before a0 Z = true) (ws : List Jvm.Cond) (a1_0 : Addr) (ar : Addr) (of : Int32) (sz : Int32) (h0 : Heap) (n0 : Nat) (Z0 : n0 ≤ h0.size) (pf_E_a1_0 : Exa Z h0 a1_0 "com/example/tailwake/tailwake/source/mariadb/Slice") (pf_G_a1_0 : n0 ≤ a1_0) (pf_F_a1_0_array : Fld Z h0 a1_0 "com/example/tailwake/tailwake/source/mariadb/Slice" "array" "[B" .null) (pf_F_a1_0_offset : Fld Z h0 a1_0 "com/example/tailwake/tailwake/source/mariadb/Slice" "offset" "I" (.int (0 : Int32))) (pf_F_a1_0_length : Fld Z h0 a1_0 "com/example/tailwake/tailwake/source/mariadb/Slice" "length" "I" (.int (0 : Int32))) (pf_L_ar : Al Z h0 ar .byte (5 : Int32)) (h1 : ¬ ((((5 : Int32) ||| of) ||| sz) < (0 : Int32))) (h2 : ¬ (((5 : Int32) - of) < sz)) :
    MetFree l (⟨"com/example/tailwake/tailwake/source/mariadb/Slice", "<init>", "([BII)V"⟩ : MethodName) (head1 (Jvm.Cond.code (⟨"com/example/tailwake/tailwake/source/mariadb/Slice", "<init>", "([BII)V"⟩ : MethodName) prog_29_method_1_code 4 none :: ws) ({ frames := 2, cells := 0, slots := 0, locals := 29 } : Room)) (fun a U => a = #[(.ref a1_0), (.ref ar), (.int of), (.int sz)] ∧ Z.Warmed39 U.vm ∧ U.heap = h0) (fun _ _ _ _ _ => True) (fun _ U o U' => ∃ v L, o = .returned v ∧ Q_rm1 Z a1_0 ar of sz h0 n0 v U'.heap L ∧ FrameEnd U o U' L ({ frames := 2, cells := 0, slots := 0, locals := 29 } : Room).cells ({ frames := 2, cells := 0, slots := 0, locals := 29 } : Room).slots) := by
  refine MetFree.of_bodySF (plainFor_of_name pn_com_example_tailwake_tailwake_source_mariadb_Slice) hisR ?_
  intro p e s m args below meth c s₁ Bd hml0 hP hK
  obtain ⟨rfl, hZ, hh⟩ := hP
  have hx := Bd.exec
  have hby := Bd.bytes
  have hml : c.maxLocals = 4 := hml0
  have hown : s.vm.findClass "com/example/tailwake/tailwake/source/mariadb/Slice" = some m.cls := findClass_of_methodNamed Bd.named
  have hnm := (name_of_methodNamed Bd.named Bd.method).1
  have X0 : Stand p l e ({ frames := 2, cells := 0, slots := 0, locals := 29 } : Room) s m #[(.ref a1_0), (.ref ar), (.int of), (.int sz)] below meth c s₁ [] 0 0 := Stand.of_body Bd
  have e0 : s₁.heap = h0 := by rw [← hh, Bd.state]; rfl
  have N0 := Fr.nil n0
  have pre0 : ∀ t, Steps p.tables e below (s₁.setTop (mkF m 0 #[rv a1_0, rv ar, iv of, iv sz] [])) t → Steps p.tables e below (s₁.setTop (entryFrame m #[(.ref a1_0), (.ref ar), (.int of), (.int sz)] 4)) t := fun t k => castTop (ef_rm1 m a1_0 ar of sz) k
  have wo3 := hw _ (List.mem_of_getElem? (i := 3) rfl)
  have wo8 := hw _ (List.mem_of_getElem? (i := 8) rfl)
  have wo9 := hw _ (List.mem_of_getElem? (i := 9) rfl)
  have wo10 := hw _ (List.mem_of_getElem? (i := 10) rfl)
  have wo11 := hw _ (List.mem_of_getElem? (i := 11) rfl)
  have wo12 := hw _ (List.mem_of_getElem? (i := 12) rfl)
  have wo13 := hw _ (List.mem_of_getElem? (i := 13) rfl)
  have wo14 := hw _ (List.mem_of_getElem? (i := 14) rfl)
  have wo19 := hw _ (List.mem_of_getElem? (i := 19) rfl)
  have wo20 := hw _ (List.mem_of_getElem? (i := 20) rfl)
  have wo21 := hw _ (List.mem_of_getElem? (i := 21) rfl)
  have wo22 := hw _ (List.mem_of_getElem? (i := 22) rfl)
  have wo23 := hw _ (List.mem_of_getElem? (i := 23) rfl)
  have wo24 := hw _ (List.mem_of_getElem? (i := 24) rfl)
  obtain ⟨T1, X1, e1, st1⟩ := initO X0 hx hZ hown wo8 wo9 wo10 e0 (g := (mkF m 1 #[rv a1_0, rv ar, iv of, iv sz] [(.ref a1_0)])) rfl (by rw [hml]; rfl) rfl (hb hby d1_1) (by decide) (W := 0) (by show 2 * 0 + _ ≤ _; exact Nat.le_of_eq rfl) (by decide)
  obtain ⟨cl2, Ar2, Sz2, Nn2⟩ := id pf_L_ar
  obtain ⟨_, _, ⟨T3, L3, k3, n3⟩, -, X3, ⟨Lc3, hQ3, l3, y3, z3⟩, st3⟩ := Jvm.LawKit.callS X1 hx (y := MN3) hown (mvT hZ wo11) (mvT hZ wo12) (mvT hZ wo13) (mvT hZ wo14) (by decide) (backOf (W := 0) (rm3 l Z a0 hw [] of sz (5 : Int32) h0 n0 Z0 (h1 : ¬ ((((5 : Int32) ||| of) ||| sz) < (0 : Int32))) (h2 : ¬ (((5 : Int32) - of) < sz))) hZ wo14 wo13 (by decide) (by decide)) (g := (mkF m 8 #[rv a1_0, rv ar, iv of, iv sz] [(.int (5 : Int32)), (.int sz), (.int of)])) rfl (by rw [hml]; rfl) (argsL := [(.int of), (.int sz), (.int (5 : Int32))]) (rest := []) (lenOf pd_3 rfl) rfl (by show 2 * 0 + _ ≤ _; exact Nat.le_of_eq rfl) (hb hby d1_8) (fun _ _ => ⟨rfl, e1, (by decide : 0 + 0 ≤ _), (by decide : 0 + 0 ≤ _)⟩)
  dsimp only [Pt.U, Pt.locs, Pt.cells, Pt.slots] at X3 l3 y3 z3 st3 hQ3
  rw [l3, y3, z3] at X3
  obtain ⟨rfl, N3q, K3q⟩ := hQ3
  have N4 := Fr.app N0 N3q
  obtain ⟨T5, h5, X5, e5, W5, st5⟩ := putF X3 hx hZ hown (host := "") (Or.inl wo19) Via.refl K3q pf_F_a1_0_array pf_E_a1_0 (Or.inr ⟨wo20, rfl, hnm⟩) wo3 (ty := (.array .byte)) (by decide) rfl rfl (g := (mkF m 14 #[rv a1_0, rv ar, iv of, iv sz] [(.ref ar), (.ref a1_0)])) rfl rfl (hb hby d1_14)
  have K6 : Keep h0 h5 [a1_0] := (Keep.refl h0 [a1_0]).wr W5 (Or.inl (List.mem_of_getElem? (i := 0) rfl))
  have f7 : Fld Z h5 a1_0 "com/example/tailwake/tailwake/source/mariadb/Slice" "array" "[B" (.ref ar) := pf_F_a1_0_array.same W5
  have N8 := Fr.snoc X5 N4 pf_G_a1_0
  have f9 := (pf_F_a1_0_offset.other W5 (Or.inr (slot_ne (Or.inr wo22) (Or.inr wo20) (by decide) (t := .int) (t' := (.array .byte)) (by decide) (by decide))))
  have f10 := (pf_E_a1_0.wr W5)
  obtain ⟨T11, h11, X11, e11, W11, st11⟩ := putF X5 hx hZ hown (host := "") (Or.inl wo21) Via.refl e5 f9 f10 (Or.inr ⟨wo22, rfl, hnm⟩) wo3 (ty := .int) (by decide) rfl rfl (g := (mkF m 19 #[rv a1_0, rv ar, iv of, iv sz] [(.int of), (.ref a1_0)])) rfl rfl (hb hby d1_19)
  have K12 : Keep h0 h11 [a1_0] := (K6).wr W11 (Or.inl (List.mem_of_getElem? (i := 0) rfl))
  have f13 : Fld Z h11 a1_0 "com/example/tailwake/tailwake/source/mariadb/Slice" "offset" "I" (.int of) := f9.same W11
  have N14 := Fr.snoc X11 N8 pf_G_a1_0
  have f15 := ((pf_F_a1_0_length.other W5 (Or.inr (slot_ne (Or.inr wo24) (Or.inr wo20) (by decide) (t := .int) (t' := (.array .byte)) (by decide) (by decide)))).other W11 (Or.inr (slot_ne (Or.inr wo24) (Or.inr wo22) (by decide) (t := .int) (t' := .int) (by decide) (by decide))))
  have f16 := (f10.wr W11)
  obtain ⟨T17, h17, X17, e17, W17, st17⟩ := putF X11 hx hZ hown (host := "") (Or.inl wo23) Via.refl e11 f15 f16 (Or.inr ⟨wo24, rfl, hnm⟩) wo3 (ty := .int) (by decide) rfl rfl (g := (mkF m 24 #[rv a1_0, rv ar, iv of, iv sz] [(.int sz), (.ref a1_0)])) rfl rfl (hb hby d1_24)
  have K18 : Keep h0 h17 [a1_0] := (K12).wr W17 (Or.inl (List.mem_of_getElem? (i := 0) rfl))
  have f19 : Fld Z h17 a1_0 "com/example/tailwake/tailwake/source/mariadb/Slice" "length" "I" (.int sz) := f15.same W17
  have N20 := Fr.snoc X17 N14 pf_G_a1_0
  have f21 := ((f7.other W11 (Or.inr (slot_ne (Or.inr wo20) (Or.inr wo22) (by decide) (t := (.array .byte)) (t' := .int) (by decide) (by decide)))).other W17 (Or.inr (slot_ne (Or.inr wo20) (Or.inr wo24) (by decide) (t := (.array .byte)) (t' := .int) (by decide) (by decide))))
  have f22 := (f13.other W17 (Or.inr (slot_ne (Or.inr wo22) (Or.inr wo24) (by decide) (t := .int) (t' := .int) (by decide) (by decide))))
  obtain ⟨fs, hr, hrun, hended, hW, hsame⟩ := X17.leave (v := none) (fun _ => rfl)
  refine ⟨_, _, pre0 _ ?_, hrun, hended, _, _, rfl, ?_, ⟨_, rfl⟩, hW, hsame.mono (by decide) (by decide)⟩
  · show Steps p.tables e below (s₁.setTop (mkF m 0 #[rv a1_0, rv ar, iv of, iv sz] [])) _
    refine XS.aloadN X0.here hx rfl (hb hby d1_0) rfl rfl ?_
    show Steps p.tables e below (s₁.setTop (mkF m 1 #[rv a1_0, rv ar, iv of, iv sz] [(.ref a1_0)])) _
    refine st1 _ ?_
    show Steps p.tables e below (T1.setTop (mkF m 4 #[rv a1_0, rv ar, iv of, iv sz] [])) _
    refine XS.iloadN X1.here hx rfl (hb hby d1_4) rfl ?_
    show Steps p.tables e below (T1.setTop (mkF m 5 #[rv a1_0, rv ar, iv of, iv sz] [(.int of)])) _
    refine XS.iloadN X1.here hx rfl (hb hby d1_5) rfl ?_
    show Steps p.tables e below (T1.setTop (mkF m 6 #[rv a1_0, rv ar, iv of, iv sz] [(.int sz), (.int of)])) _
    refine XS.aloadN X1.here hx rfl (hb hby d1_6) rfl rfl ?_
    show Steps p.tables e below (T1.setTop (mkF m 7 #[rv a1_0, rv ar, iv of, iv sz] [(.ref ar), (.int sz), (.int of)])) _
    refine X1.arraylength hx (by rw [e1]; exact Ar2.1) (State.isArrayOf_alike hZ.alike Ar2.2.1) (g := (mkF m 7 #[rv a1_0, rv ar, iv of, iv sz] [(.ref ar), (.int sz), (.int of)])) rfl rfl (hb hby d1_7) _ ?_
    rw [len_of Sz2 Nn2]
    show Steps p.tables e below (T1.setTop (mkF m 8 #[rv a1_0, rv ar, iv of, iv sz] [(.int (5 : Int32)), (.int sz), (.int of)])) _
    refine st3 _ ?_
    show Steps p.tables e below (T3.setTop (mkF m 11 #[rv a1_0, rv ar, iv of, iv sz] [(.int of)])) _
    refine XS.pop X3.here hx rfl (hb hby d1_11) rfl rfl ?_
    show Steps p.tables e below (T3.setTop (mkF m 12 #[rv a1_0, rv ar, iv of, iv sz] [])) _
    refine XS.aloadN X3.here hx rfl (hb hby d1_12) rfl rfl ?_
    show Steps p.tables e below (T3.setTop (mkF m 13 #[rv a1_0, rv ar, iv of, iv sz] [(.ref a1_0)])) _
    refine XS.aloadN X3.here hx rfl (hb hby d1_13) rfl rfl ?_
    show Steps p.tables e below (T3.setTop (mkF m 14 #[rv a1_0, rv ar, iv of, iv sz] [(.ref ar), (.ref a1_0)])) _
    refine st5 _ ?_
    show Steps p.tables e below (T5.setTop (mkF m 17 #[rv a1_0, rv ar, iv of, iv sz] [])) _
    refine XS.aloadN X5.here hx rfl (hb hby d1_17) rfl rfl ?_
    show Steps p.tables e below (T5.setTop (mkF m 18 #[rv a1_0, rv ar, iv of, iv sz] [(.ref a1_0)])) _
    refine XS.iloadN X5.here hx rfl (hb hby d1_18) rfl ?_
    show Steps p.tables e below (T5.setTop (mkF m 19 #[rv a1_0, rv ar, iv of, iv sz] [(.int of), (.ref a1_0)])) _
    refine st11 _ ?_
    show Steps p.tables e below (T11.setTop (mkF m 22 #[rv a1_0, rv ar, iv of, iv sz] [])) _
    refine XS.aloadN X11.here hx rfl (hb hby d1_22) rfl rfl ?_
    show Steps p.tables e below (T11.setTop (mkF m 23 #[rv a1_0, rv ar, iv of, iv sz] [(.ref a1_0)])) _
    refine XS.iloadN X11.here hx rfl (hb hby d1_23) rfl ?_
    show Steps p.tables e below (T11.setTop (mkF m 24 #[rv a1_0, rv ar, iv of, iv sz] [(.int sz), (.ref a1_0)])) _
    refine st17 _ ?_
    show Steps p.tables e below (T17.setTop (mkF m 27 #[rv a1_0, rv ar, iv of, iv sz] [])) _
    exact X17.returnOut hx Bd.returns (hb hby d1_27) hr
  · show Q_rm1 Z _ _ _ _ h0 n0 _ T17.heap _
    rw [e17]
    exact ⟨rfl, N20, (K18), f21, f22, f19⟩
theorem d6_0 : decode method_3_code 0 = .ok (.iload_n 3, 1) := by decide +kernel
theorem d6_1 : decode method_3_code 1 = .ok (.iload_n 2, 1) := by decide +kernel
theorem d6_2 : decode method_3_code 2 = .ok (.if_icmp .lt 5, 3) := by decide +kernel
theorem d6_5 : decode method_3_code 5 = .ok (.iconst 0, 1) := by decide +kernel
theorem d6_6 : decode method_3_code 6 = .ok (.ireturn, 1) := by decide +kernel
theorem ef_rm_t (m : MethodId) (x0 : Addr) (x1 : Int32) (x2 : Int32) (x3 : Int32) : entryFrame m #[(.ref x0), (.int x1), (.int x2), (.int x3)] 4 = mkF m 0 #[rv x0, iv x1, iv x2, iv x3] [] := by first | (simp [entryFrame, mkF, argsToLocals, Value.category]; done) | rfl
def Q_rm_t (Z : State) (ar : Addr) (of : Int32) (sz : Int32) (ii : Int32) (h0 : Heap) (n0 : Nat) (v : Option Value) (h : Heap) (L : List Loc) : Prop := v = some (.int (0 : Int32)) ∧ Fr n0 L ∧ h = h0
set_option maxRecDepth 65536 in
set_option maxHeartbeats 40000000 in
theorem rm_t (l : Launch) (Z : State) (a0 : Array Value) (hw : ∀ d ∈ tables_1, d.before a0 Z = true) (ws : List Jvm.Cond) (ar : Addr) (of : Int32) (sz : Int32) (ii : Int32) (h0 : Heap) (n0 : Nat) (Z0 : n0 ≤ h0.size) (hlt : ¬ (ii < sz)) :
    MetFree l (⟨"com/example/tailwake/tailwake/source/mariadb/SliceHashCodePinLaw", "term", "([BIII)I"⟩ : MethodName) (head1 (Jvm.Cond.code (⟨"com/example/tailwake/tailwake/source/mariadb/SliceHashCodePinLaw", "term", "([BIII)I"⟩ : MethodName) method_3_code 4 (some .int) :: ws) ({ frames := 0, cells := 0, slots := 0, locals := 0 } : Room)) (fun a U => a = #[(.ref ar), (.int of), (.int sz), (.int ii)] ∧ Z.Warmed39 U.vm ∧ U.heap = h0) (fun _ _ _ _ _ => True) (fun _ U o U' => ∃ v L, o = .returned v ∧ Q_rm_t Z ar of sz ii h0 n0 v U'.heap L ∧ FrameEnd U o U' L ({ frames := 0, cells := 0, slots := 0, locals := 0 } : Room).cells ({ frames := 0, cells := 0, slots := 0, locals := 0 } : Room).slots) := by
  refine MetFree.of_bodySF (plainFor_of_name pn_com_example_tailwake_tailwake_source_mariadb_SliceHashCodePinLaw) hisR ?_
  intro p e s m args below meth c s₁ Bd hml0 hP hK
  obtain ⟨rfl, hZ, hh⟩ := hP
  have hx := Bd.exec
  have hby := Bd.bytes
  have hml : c.maxLocals = 4 := hml0
  have hown : s.vm.findClass "com/example/tailwake/tailwake/source/mariadb/SliceHashCodePinLaw" = some m.cls := findClass_of_methodNamed Bd.named
  have hnm := (name_of_methodNamed Bd.named Bd.method).1
  have X0 : Stand p l e ({ frames := 0, cells := 0, slots := 0, locals := 0 } : Room) s m #[(.ref ar), (.int of), (.int sz), (.int ii)] below meth c s₁ [] 0 0 := Stand.of_body Bd
  have e0 : s₁.heap = h0 := by rw [← hh, Bd.state]; rfl
  have N0 := Fr.nil n0
  have pre0 : ∀ t, Steps p.tables e below (s₁.setTop (mkF m 0 #[rv ar, iv of, iv sz, iv ii] [])) t → Steps p.tables e below (s₁.setTop (entryFrame m #[(.ref ar), (.int of), (.int sz), (.int ii)] 4)) t := fun t k => castTop (ef_rm_t m ar of sz ii) k
  obtain ⟨fs, hr, hrun, hended, hW, hsame⟩ := X0.leave (v := some (.int (0 : Int32))) (fun h => by rw [Bd.returns] at h; cases h)
  refine ⟨_, _, pre0 _ ?_, hrun, hended, _, _, rfl, ?_, ⟨_, rfl⟩, hW, hsame.mono (by decide) (by decide)⟩
  · show Steps p.tables e below (s₁.setTop (mkF m 0 #[rv ar, iv of, iv sz, iv ii] [])) _
    refine XS.iloadN X0.here hx rfl (hb hby d6_0) rfl ?_
    show Steps p.tables e below (s₁.setTop (mkF m 1 #[rv ar, iv of, iv sz, iv ii] [(.int ii)])) _
    refine XS.iloadN X0.here hx rfl (hb hby d6_1) rfl ?_
    show Steps p.tables e below (s₁.setTop (mkF m 2 #[rv ar, iv of, iv sz, iv ii] [(.int sz), (.int ii)])) _
    refine XS.icmpNo X0.here hx rfl (hb hby d6_2) rfl (flt hlt).1 ?_
    show Steps p.tables e below (s₁.setTop (mkF m 5 #[rv ar, iv of, iv sz, iv ii] [])) _
    refine XS.iconst X0.here hx rfl (hb hby d6_5) ?_
    show Steps p.tables e below (s₁.setTop (mkF m 6 #[rv ar, iv of, iv sz, iv ii] [(.int (0 : Int32))])) _
    exact retI X0 hx Bd.returns (hb hby d6_6) hr
  · show Q_rm_t Z _ _ _ _ h0 n0 _ s₁.heap _
    rw [e0]
    exact ⟨rfl, N0, rfl⟩
theorem d6_7 : decode method_3_code 7 = .ok (.aload_n 0, 1) := by decide +kernel
theorem d6_8 : decode method_3_code 8 = .ok (.iload_n 1, 1) := by decide +kernel
theorem d6_9 : decode method_3_code 9 = .ok (.iload_n 3, 1) := by decide +kernel
theorem d6_10 : decode method_3_code 10 = .ok (.iadd, 1) := by decide +kernel
theorem d6_11 : decode method_3_code 11 = .ok (.baload, 1) := by decide +kernel
theorem d6_12 : decode method_3_code 12 = .ok (.iload_n 2, 1) := by decide +kernel
theorem d6_13 : decode method_3_code 13 = .ok (.iconst 1, 1) := by decide +kernel
theorem d6_14 : decode method_3_code 14 = .ok (.isub, 1) := by decide +kernel
theorem d6_15 : decode method_3_code 15 = .ok (.iload_n 3, 1) := by decide +kernel
theorem d6_16 : decode method_3_code 16 = .ok (.isub, 1) := by decide +kernel
theorem pd_2 : parseMethodDescriptor "(I)I" = some ⟨[.int], some .int⟩ := by decide +kernel
theorem d6_17 : decode method_3_code 17 = .ok (.invokestatic 9, 3) := by decide +kernel
theorem d6_20 : decode method_3_code 20 = .ok (.imul, 1) := by decide +kernel
theorem d6_21 : decode method_3_code 21 = .ok (.ireturn, 1) := by decide +kernel
theorem ef_rm_t0 (m : MethodId) (x0 : Addr) (x1 : Int32) (x2 : Int32) (x3 : Int32) : entryFrame m #[(.ref x0), (.int x1), (.int x2), (.int x3)] 4 = mkF m 0 #[rv x0, iv x1, iv x2, iv x3] [] := by first | (simp [entryFrame, mkF, argsToLocals, Value.category]; done) | rfl
def Q_rm_t0 (Z : State) (ar : Addr) (of : Int32) (sz : Int32) (ii : Int32) (x0 : Int32) (x1 : Int32) (x2 : Int32) (x3 : Int32) (x4 : Int32) (h0 : Heap) (n0 : Nat) (v : Option Value) (h : Heap) (L : List Loc) : Prop := v = some (.int (x0 * (own_p31 ((sz - (1 : Int32)) - ii)))) ∧ Fr n0 L ∧ h = h0
set_option maxRecDepth 65536 in
set_option maxHeartbeats 40000000 in
theorem rm_t0 (l : Launch) (Z : State) (a0 : Array Value) (hw : ∀ d ∈ tables_1, d.before a0 Z = true) (ws : List Jvm.Cond) (ar : Addr) (of : Int32) (sz : Int32) (ii : Int32) (x0 : Int32) (x1 : Int32) (x2 : Int32) (x3 : Int32) (x4 : Int32) (h0 : Heap) (n0 : Nat) (Z0 : n0 ≤ h0.size) (pf_A_ar : Av Z h0 ar .byte (5 : Int32) [(.int x0), (.int x1), (.int x2), (.int x3), (.int x4)] (.int (0 : Int32))) (hlt : ii < sz) (hj : (of + ii) = (0 : Int32)) :
    MetFree l (⟨"com/example/tailwake/tailwake/source/mariadb/SliceHashCodePinLaw", "term", "([BIII)I"⟩ : MethodName) (head1 (Jvm.Cond.code (⟨"com/example/tailwake/tailwake/source/mariadb/SliceHashCodePinLaw", "term", "([BIII)I"⟩ : MethodName) method_3_code 4 (some .int) :: ws) ({ frames := 1, cells := 0, slots := 0, locals := 13 } : Room)) (fun a U => a = #[(.ref ar), (.int of), (.int sz), (.int ii)] ∧ Z.Warmed39 U.vm ∧ U.heap = h0) (fun _ _ _ _ _ => True) (fun _ U o U' => ∃ v L, o = .returned v ∧ Q_rm_t0 Z ar of sz ii x0 x1 x2 x3 x4 h0 n0 v U'.heap L ∧ FrameEnd U o U' L ({ frames := 1, cells := 0, slots := 0, locals := 13 } : Room).cells ({ frames := 1, cells := 0, slots := 0, locals := 13 } : Room).slots) := by
  refine MetFree.of_bodySF (plainFor_of_name pn_com_example_tailwake_tailwake_source_mariadb_SliceHashCodePinLaw) hisR ?_
  intro p e s m args below meth c s₁ Bd hml0 hP hK
  obtain ⟨rfl, hZ, hh⟩ := hP
  have hx := Bd.exec
  have hby := Bd.bytes
  have hml : c.maxLocals = 4 := hml0
  have hown : s.vm.findClass "com/example/tailwake/tailwake/source/mariadb/SliceHashCodePinLaw" = some m.cls := findClass_of_methodNamed Bd.named
  have hnm := (name_of_methodNamed Bd.named Bd.method).1
  have X0 : Stand p l e ({ frames := 1, cells := 0, slots := 0, locals := 13 } : Room) s m #[(.ref ar), (.int of), (.int sz), (.int ii)] below meth c s₁ [] 0 0 := Stand.of_body Bd
  have e0 : s₁.heap = h0 := by rw [← hh, Bd.state]; rfl
  have N0 := Fr.nil n0
  have pre0 : ∀ t, Steps p.tables e below (s₁.setTop (mkF m 0 #[rv ar, iv of, iv sz, iv ii] [])) t → Steps p.tables e below (s₁.setTop (entryFrame m #[(.ref ar), (.int of), (.int sz), (.int ii)] 4)) t := fun t k => castTop (ef_rm_t0 m ar of sz ii) k
  have wo25 := hw _ (List.mem_of_getElem? (i := 25) rfl)
  have wo26 := hw _ (List.mem_of_getElem? (i := 26) rfl)
  have wo27 := hw _ (List.mem_of_getElem? (i := 27) rfl)
  have wo28 := hw _ (List.mem_of_getElem? (i := 28) rfl)
  have q1 : (of + ii) = (0 : Int32) := hj
  obtain ⟨kk2, cl2, Ar2, qq2, Sz2, Nn2, Hs2, Gf2⟩ := id pf_A_ar
  have hin3 : ¬ ((0 : Int32) < 0 ∨ cl2.slots.size ≤ ((0 : Int32)).toNatClampNeg) := inb_of Sz2 ⟨by decide, by decide⟩
  have hat4 : cl2.slots[((0 : Int32)).toNatClampNeg]? = some (.int x0) := Has.at Hs2 hin3 rfl
  obtain ⟨_, _, ⟨T5, L5, k5, n5⟩, -, X5, ⟨Lc5, hQ5, l5, y5, z5⟩, st5⟩ := Jvm.LawKit.callS X0 hx (y := MN5) hown (mvT hZ wo25) (mvT hZ wo26) (mvT hZ wo27) (mvT hZ wo28) (by decide) (backOf (W := 1) (rm5 l Z a0 hw [] ((sz - (1 : Int32)) - ii) h0 n0 Z0 ) hZ wo28 wo27 (by decide) (by decide)) (g := (mkF m 17 #[rv ar, iv of, iv sz, iv ii] [(.int ((sz - (1 : Int32)) - ii)), (.int x0)])) rfl (by rw [hml]; rfl) (argsL := [(.int ((sz - (1 : Int32)) - ii))]) (rest := [(.int x0)]) (lenOf pd_2 rfl) rfl (by show 2 * 0 + _ ≤ _; exact Nat.le_of_eq rfl) (hb hby d6_17) (fun _ _ => ⟨rfl, e0, (by decide : 0 + 0 ≤ _), (by decide : 0 + 0 ≤ _)⟩)
  dsimp only [Pt.U, Pt.locs, Pt.cells, Pt.slots] at X5 l5 y5 z5 st5 hQ5
  rw [l5, y5, z5] at X5
  obtain ⟨rfl, N5q, K5q⟩ := hQ5
  have N6 := Fr.app N0 N5q
  obtain ⟨fs, hr, hrun, hended, hW, hsame⟩ := X5.leave (v := some (.int (x0 * (own_p31 ((sz - (1 : Int32)) - ii))))) (fun h => by rw [Bd.returns] at h; cases h)
  refine ⟨_, _, pre0 _ ?_, hrun, hended, _, _, rfl, ?_, ⟨_, rfl⟩, hW, hsame.mono (by decide) (by decide)⟩
  · show Steps p.tables e below (s₁.setTop (mkF m 0 #[rv ar, iv of, iv sz, iv ii] [])) _
    refine XS.iloadN X0.here hx rfl (hb hby d6_0) rfl ?_
    show Steps p.tables e below (s₁.setTop (mkF m 1 #[rv ar, iv of, iv sz, iv ii] [(.int ii)])) _
    refine XS.iloadN X0.here hx rfl (hb hby d6_1) rfl ?_
    show Steps p.tables e below (s₁.setTop (mkF m 2 #[rv ar, iv of, iv sz, iv ii] [(.int sz), (.int ii)])) _
    refine XS.icmpYes X0.here hx rfl (pc0 := 2) (pc' := 7) rfl (hb hby d6_2) rfl (tlt hlt).1 (by decide) (by decide) ?_
    show Steps p.tables e below (s₁.setTop (mkF m 7 #[rv ar, iv of, iv sz, iv ii] [])) _
    refine XS.aloadN X0.here hx rfl (hb hby d6_7) rfl rfl ?_
    show Steps p.tables e below (s₁.setTop (mkF m 8 #[rv ar, iv of, iv sz, iv ii] [(.ref ar)])) _
    refine XS.iloadN X0.here hx rfl (hb hby d6_8) rfl ?_
    show Steps p.tables e below (s₁.setTop (mkF m 9 #[rv ar, iv of, iv sz, iv ii] [(.int of), (.ref ar)])) _
    refine XS.iloadN X0.here hx rfl (hb hby d6_9) rfl ?_
    show Steps p.tables e below (s₁.setTop (mkF m 10 #[rv ar, iv of, iv sz, iv ii] [(.int ii), (.int of), (.ref ar)])) _
    refine XS.iadd X0.here hx rfl (hb hby d6_10) rfl ?_
    rw [q1]
    show Steps p.tables e below (s₁.setTop (mkF m 11 #[rv ar, iv of, iv sz, iv ii] [(.int (0 : Int32)), (.ref ar)])) _
    show Steps p.tables e below (s₁.setTop (mkF m 11 #[rv ar, iv of, iv sz, iv ii] [(.int (0 : Int32)), (.ref ar)])) _
    refine X0.baloadBytes hx (j := (0 : Int32)) (v := (.int x0)) (by rw [e0]; exact Ar2.1) (State.isArrayOf_alike hZ.alike Ar2.2.1) Ar2.2.2 hin3 hat4 (g := (mkF m 11 #[rv ar, iv of, iv sz, iv ii] [(.int (0 : Int32)), (.ref ar)])) rfl rfl (hb hby d6_11) _ ?_
    show Steps p.tables e below (s₁.setTop (mkF m 12 #[rv ar, iv of, iv sz, iv ii] [(.int x0)])) _
    refine XS.iloadN X0.here hx rfl (hb hby d6_12) rfl ?_
    show Steps p.tables e below (s₁.setTop (mkF m 13 #[rv ar, iv of, iv sz, iv ii] [(.int sz), (.int x0)])) _
    refine XS.iconst X0.here hx rfl (hb hby d6_13) ?_
    show Steps p.tables e below (s₁.setTop (mkF m 14 #[rv ar, iv of, iv sz, iv ii] [(.int (1 : Int32)), (.int sz), (.int x0)])) _
    refine XS.isub X0.here hx rfl (hb hby d6_14) rfl ?_
    show Steps p.tables e below (s₁.setTop (mkF m 15 #[rv ar, iv of, iv sz, iv ii] [(.int (sz - (1 : Int32))), (.int x0)])) _
    refine XS.iloadN X0.here hx rfl (hb hby d6_15) rfl ?_
    show Steps p.tables e below (s₁.setTop (mkF m 16 #[rv ar, iv of, iv sz, iv ii] [(.int ii), (.int (sz - (1 : Int32))), (.int x0)])) _
    refine XS.isub X0.here hx rfl (hb hby d6_16) rfl ?_
    show Steps p.tables e below (s₁.setTop (mkF m 17 #[rv ar, iv of, iv sz, iv ii] [(.int ((sz - (1 : Int32)) - ii)), (.int x0)])) _
    refine st5 _ ?_
    show Steps p.tables e below (T5.setTop (mkF m 20 #[rv ar, iv of, iv sz, iv ii] [(.int (own_p31 ((sz - (1 : Int32)) - ii))), (.int x0)])) _
    refine XS.imul X5.here hx rfl (hb hby d6_20) rfl ?_
    show Steps p.tables e below (T5.setTop (mkF m 21 #[rv ar, iv of, iv sz, iv ii] [(.int (x0 * (own_p31 ((sz - (1 : Int32)) - ii))))])) _
    exact retI X5 hx Bd.returns (hb hby d6_21) hr
  · show Q_rm_t0 Z _ _ _ _ _ _ _ _ _ h0 n0 _ T5.heap _
    rw [K5q]
    exact ⟨rfl, N6, rfl⟩
theorem ef_rm_t1 (m : MethodId) (x0 : Addr) (x1 : Int32) (x2 : Int32) (x3 : Int32) : entryFrame m #[(.ref x0), (.int x1), (.int x2), (.int x3)] 4 = mkF m 0 #[rv x0, iv x1, iv x2, iv x3] [] := by first | (simp [entryFrame, mkF, argsToLocals, Value.category]; done) | rfl
def Q_rm_t1 (Z : State) (ar : Addr) (of : Int32) (sz : Int32) (ii : Int32) (x0 : Int32) (x1 : Int32) (x2 : Int32) (x3 : Int32) (x4 : Int32) (h0 : Heap) (n0 : Nat) (v : Option Value) (h : Heap) (L : List Loc) : Prop := v = some (.int (x1 * (own_p31 ((sz - (1 : Int32)) - ii)))) ∧ Fr n0 L ∧ h = h0
set_option maxRecDepth 65536 in
set_option maxHeartbeats 40000000 in
theorem rm_t1 (l : Launch) (Z : State) (a0 : Array Value) (hw : ∀ d ∈ tables_1, d.before a0 Z = true) (ws : List Jvm.Cond) (ar : Addr) (of : Int32) (sz : Int32) (ii : Int32) (x0 : Int32) (x1 : Int32) (x2 : Int32) (x3 : Int32) (x4 : Int32) (h0 : Heap) (n0 : Nat) (Z0 : n0 ≤ h0.size) (pf_A_ar : Av Z h0 ar .byte (5 : Int32) [(.int x0), (.int x1), (.int x2), (.int x3), (.int x4)] (.int (0 : Int32))) (hlt : ii < sz) (hj : (of + ii) = (1 : Int32)) :
    MetFree l (⟨"com/example/tailwake/tailwake/source/mariadb/SliceHashCodePinLaw", "term", "([BIII)I"⟩ : MethodName) (head1 (Jvm.Cond.code (⟨"com/example/tailwake/tailwake/source/mariadb/SliceHashCodePinLaw", "term", "([BIII)I"⟩ : MethodName) method_3_code 4 (some .int) :: ws) ({ frames := 1, cells := 0, slots := 0, locals := 13 } : Room)) (fun a U => a = #[(.ref ar), (.int of), (.int sz), (.int ii)] ∧ Z.Warmed39 U.vm ∧ U.heap = h0) (fun _ _ _ _ _ => True) (fun _ U o U' => ∃ v L, o = .returned v ∧ Q_rm_t1 Z ar of sz ii x0 x1 x2 x3 x4 h0 n0 v U'.heap L ∧ FrameEnd U o U' L ({ frames := 1, cells := 0, slots := 0, locals := 13 } : Room).cells ({ frames := 1, cells := 0, slots := 0, locals := 13 } : Room).slots) := by
  refine MetFree.of_bodySF (plainFor_of_name pn_com_example_tailwake_tailwake_source_mariadb_SliceHashCodePinLaw) hisR ?_
  intro p e s m args below meth c s₁ Bd hml0 hP hK
  obtain ⟨rfl, hZ, hh⟩ := hP
  have hx := Bd.exec
  have hby := Bd.bytes
  have hml : c.maxLocals = 4 := hml0
  have hown : s.vm.findClass "com/example/tailwake/tailwake/source/mariadb/SliceHashCodePinLaw" = some m.cls := findClass_of_methodNamed Bd.named
  have hnm := (name_of_methodNamed Bd.named Bd.method).1
  have X0 : Stand p l e ({ frames := 1, cells := 0, slots := 0, locals := 13 } : Room) s m #[(.ref ar), (.int of), (.int sz), (.int ii)] below meth c s₁ [] 0 0 := Stand.of_body Bd
  have e0 : s₁.heap = h0 := by rw [← hh, Bd.state]; rfl
  have N0 := Fr.nil n0
  have pre0 : ∀ t, Steps p.tables e below (s₁.setTop (mkF m 0 #[rv ar, iv of, iv sz, iv ii] [])) t → Steps p.tables e below (s₁.setTop (entryFrame m #[(.ref ar), (.int of), (.int sz), (.int ii)] 4)) t := fun t k => castTop (ef_rm_t1 m ar of sz ii) k
  have wo25 := hw _ (List.mem_of_getElem? (i := 25) rfl)
  have wo26 := hw _ (List.mem_of_getElem? (i := 26) rfl)
  have wo27 := hw _ (List.mem_of_getElem? (i := 27) rfl)
  have wo28 := hw _ (List.mem_of_getElem? (i := 28) rfl)
  have q1 : (of + ii) = (1 : Int32) := hj
  obtain ⟨kk2, cl2, Ar2, qq2, Sz2, Nn2, Hs2, Gf2⟩ := id pf_A_ar
  have hin3 : ¬ ((1 : Int32) < 0 ∨ cl2.slots.size ≤ ((1 : Int32)).toNatClampNeg) := inb_of Sz2 ⟨by decide, by decide⟩
  have hat4 : cl2.slots[((1 : Int32)).toNatClampNeg]? = some (.int x1) := Has.at Hs2 hin3 rfl
  obtain ⟨_, _, ⟨T5, L5, k5, n5⟩, -, X5, ⟨Lc5, hQ5, l5, y5, z5⟩, st5⟩ := Jvm.LawKit.callS X0 hx (y := MN5) hown (mvT hZ wo25) (mvT hZ wo26) (mvT hZ wo27) (mvT hZ wo28) (by decide) (backOf (W := 1) (rm5 l Z a0 hw [] ((sz - (1 : Int32)) - ii) h0 n0 Z0 ) hZ wo28 wo27 (by decide) (by decide)) (g := (mkF m 17 #[rv ar, iv of, iv sz, iv ii] [(.int ((sz - (1 : Int32)) - ii)), (.int x1)])) rfl (by rw [hml]; rfl) (argsL := [(.int ((sz - (1 : Int32)) - ii))]) (rest := [(.int x1)]) (lenOf pd_2 rfl) rfl (by show 2 * 0 + _ ≤ _; exact Nat.le_of_eq rfl) (hb hby d6_17) (fun _ _ => ⟨rfl, e0, (by decide : 0 + 0 ≤ _), (by decide : 0 + 0 ≤ _)⟩)
  dsimp only [Pt.U, Pt.locs, Pt.cells, Pt.slots] at X5 l5 y5 z5 st5 hQ5
  rw [l5, y5, z5] at X5
  obtain ⟨rfl, N5q, K5q⟩ := hQ5
  have N6 := Fr.app N0 N5q
  obtain ⟨fs, hr, hrun, hended, hW, hsame⟩ := X5.leave (v := some (.int (x1 * (own_p31 ((sz - (1 : Int32)) - ii))))) (fun h => by rw [Bd.returns] at h; cases h)
  refine ⟨_, _, pre0 _ ?_, hrun, hended, _, _, rfl, ?_, ⟨_, rfl⟩, hW, hsame.mono (by decide) (by decide)⟩
  · show Steps p.tables e below (s₁.setTop (mkF m 0 #[rv ar, iv of, iv sz, iv ii] [])) _
    refine XS.iloadN X0.here hx rfl (hb hby d6_0) rfl ?_
    show Steps p.tables e below (s₁.setTop (mkF m 1 #[rv ar, iv of, iv sz, iv ii] [(.int ii)])) _
    refine XS.iloadN X0.here hx rfl (hb hby d6_1) rfl ?_
    show Steps p.tables e below (s₁.setTop (mkF m 2 #[rv ar, iv of, iv sz, iv ii] [(.int sz), (.int ii)])) _
    refine XS.icmpYes X0.here hx rfl (pc0 := 2) (pc' := 7) rfl (hb hby d6_2) rfl (tlt hlt).1 (by decide) (by decide) ?_
    show Steps p.tables e below (s₁.setTop (mkF m 7 #[rv ar, iv of, iv sz, iv ii] [])) _
    refine XS.aloadN X0.here hx rfl (hb hby d6_7) rfl rfl ?_
    show Steps p.tables e below (s₁.setTop (mkF m 8 #[rv ar, iv of, iv sz, iv ii] [(.ref ar)])) _
    refine XS.iloadN X0.here hx rfl (hb hby d6_8) rfl ?_
    show Steps p.tables e below (s₁.setTop (mkF m 9 #[rv ar, iv of, iv sz, iv ii] [(.int of), (.ref ar)])) _
    refine XS.iloadN X0.here hx rfl (hb hby d6_9) rfl ?_
    show Steps p.tables e below (s₁.setTop (mkF m 10 #[rv ar, iv of, iv sz, iv ii] [(.int ii), (.int of), (.ref ar)])) _
    refine XS.iadd X0.here hx rfl (hb hby d6_10) rfl ?_
    rw [q1]
    show Steps p.tables e below (s₁.setTop (mkF m 11 #[rv ar, iv of, iv sz, iv ii] [(.int (1 : Int32)), (.ref ar)])) _
    show Steps p.tables e below (s₁.setTop (mkF m 11 #[rv ar, iv of, iv sz, iv ii] [(.int (1 : Int32)), (.ref ar)])) _
    refine X0.baloadBytes hx (j := (1 : Int32)) (v := (.int x1)) (by rw [e0]; exact Ar2.1) (State.isArrayOf_alike hZ.alike Ar2.2.1) Ar2.2.2 hin3 hat4 (g := (mkF m 11 #[rv ar, iv of, iv sz, iv ii] [(.int (1 : Int32)), (.ref ar)])) rfl rfl (hb hby d6_11) _ ?_
    show Steps p.tables e below (s₁.setTop (mkF m 12 #[rv ar, iv of, iv sz, iv ii] [(.int x1)])) _
    refine XS.iloadN X0.here hx rfl (hb hby d6_12) rfl ?_
    show Steps p.tables e below (s₁.setTop (mkF m 13 #[rv ar, iv of, iv sz, iv ii] [(.int sz), (.int x1)])) _
    refine XS.iconst X0.here hx rfl (hb hby d6_13) ?_
    show Steps p.tables e below (s₁.setTop (mkF m 14 #[rv ar, iv of, iv sz, iv ii] [(.int (1 : Int32)), (.int sz), (.int x1)])) _
    refine XS.isub X0.here hx rfl (hb hby d6_14) rfl ?_
    show Steps p.tables e below (s₁.setTop (mkF m 15 #[rv ar, iv of, iv sz, iv ii] [(.int (sz - (1 : Int32))), (.int x1)])) _
    refine XS.iloadN X0.here hx rfl (hb hby d6_15) rfl ?_
    show Steps p.tables e below (s₁.setTop (mkF m 16 #[rv ar, iv of, iv sz, iv ii] [(.int ii), (.int (sz - (1 : Int32))), (.int x1)])) _
    refine XS.isub X0.here hx rfl (hb hby d6_16) rfl ?_
    show Steps p.tables e below (s₁.setTop (mkF m 17 #[rv ar, iv of, iv sz, iv ii] [(.int ((sz - (1 : Int32)) - ii)), (.int x1)])) _
    refine st5 _ ?_
    show Steps p.tables e below (T5.setTop (mkF m 20 #[rv ar, iv of, iv sz, iv ii] [(.int (own_p31 ((sz - (1 : Int32)) - ii))), (.int x1)])) _
    refine XS.imul X5.here hx rfl (hb hby d6_20) rfl ?_
    show Steps p.tables e below (T5.setTop (mkF m 21 #[rv ar, iv of, iv sz, iv ii] [(.int (x1 * (own_p31 ((sz - (1 : Int32)) - ii))))])) _
    exact retI X5 hx Bd.returns (hb hby d6_21) hr
  · show Q_rm_t1 Z _ _ _ _ _ _ _ _ _ h0 n0 _ T5.heap _
    rw [K5q]
    exact ⟨rfl, N6, rfl⟩
theorem ef_rm_t2 (m : MethodId) (x0 : Addr) (x1 : Int32) (x2 : Int32) (x3 : Int32) : entryFrame m #[(.ref x0), (.int x1), (.int x2), (.int x3)] 4 = mkF m 0 #[rv x0, iv x1, iv x2, iv x3] [] := by first | (simp [entryFrame, mkF, argsToLocals, Value.category]; done) | rfl
def Q_rm_t2 (Z : State) (ar : Addr) (of : Int32) (sz : Int32) (ii : Int32) (x0 : Int32) (x1 : Int32) (x2 : Int32) (x3 : Int32) (x4 : Int32) (h0 : Heap) (n0 : Nat) (v : Option Value) (h : Heap) (L : List Loc) : Prop := v = some (.int (x2 * (own_p31 ((sz - (1 : Int32)) - ii)))) ∧ Fr n0 L ∧ h = h0
set_option maxRecDepth 65536 in
set_option maxHeartbeats 40000000 in
theorem rm_t2 (l : Launch) (Z : State) (a0 : Array Value) (hw : ∀ d ∈ tables_1, d.before a0 Z = true) (ws : List Jvm.Cond) (ar : Addr) (of : Int32) (sz : Int32) (ii : Int32) (x0 : Int32) (x1 : Int32) (x2 : Int32) (x3 : Int32) (x4 : Int32) (h0 : Heap) (n0 : Nat) (Z0 : n0 ≤ h0.size) (pf_A_ar : Av Z h0 ar .byte (5 : Int32) [(.int x0), (.int x1), (.int x2), (.int x3), (.int x4)] (.int (0 : Int32))) (hlt : ii < sz) (hj : (of + ii) = (2 : Int32)) :
    MetFree l (⟨"com/example/tailwake/tailwake/source/mariadb/SliceHashCodePinLaw", "term", "([BIII)I"⟩ : MethodName) (head1 (Jvm.Cond.code (⟨"com/example/tailwake/tailwake/source/mariadb/SliceHashCodePinLaw", "term", "([BIII)I"⟩ : MethodName) method_3_code 4 (some .int) :: ws) ({ frames := 1, cells := 0, slots := 0, locals := 13 } : Room)) (fun a U => a = #[(.ref ar), (.int of), (.int sz), (.int ii)] ∧ Z.Warmed39 U.vm ∧ U.heap = h0) (fun _ _ _ _ _ => True) (fun _ U o U' => ∃ v L, o = .returned v ∧ Q_rm_t2 Z ar of sz ii x0 x1 x2 x3 x4 h0 n0 v U'.heap L ∧ FrameEnd U o U' L ({ frames := 1, cells := 0, slots := 0, locals := 13 } : Room).cells ({ frames := 1, cells := 0, slots := 0, locals := 13 } : Room).slots) := by
  refine MetFree.of_bodySF (plainFor_of_name pn_com_example_tailwake_tailwake_source_mariadb_SliceHashCodePinLaw) hisR ?_
  intro p e s m args below meth c s₁ Bd hml0 hP hK
  obtain ⟨rfl, hZ, hh⟩ := hP
  have hx := Bd.exec
  have hby := Bd.bytes
  have hml : c.maxLocals = 4 := hml0
  have hown : s.vm.findClass "com/example/tailwake/tailwake/source/mariadb/SliceHashCodePinLaw" = some m.cls := findClass_of_methodNamed Bd.named
  have hnm := (name_of_methodNamed Bd.named Bd.method).1
  have X0 : Stand p l e ({ frames := 1, cells := 0, slots := 0, locals := 13 } : Room) s m #[(.ref ar), (.int of), (.int sz), (.int ii)] below meth c s₁ [] 0 0 := Stand.of_body Bd
  have e0 : s₁.heap = h0 := by rw [← hh, Bd.state]; rfl
  have N0 := Fr.nil n0
  have pre0 : ∀ t, Steps p.tables e below (s₁.setTop (mkF m 0 #[rv ar, iv of, iv sz, iv ii] [])) t → Steps p.tables e below (s₁.setTop (entryFrame m #[(.ref ar), (.int of), (.int sz), (.int ii)] 4)) t := fun t k => castTop (ef_rm_t2 m ar of sz ii) k
  have wo25 := hw _ (List.mem_of_getElem? (i := 25) rfl)
  have wo26 := hw _ (List.mem_of_getElem? (i := 26) rfl)
  have wo27 := hw _ (List.mem_of_getElem? (i := 27) rfl)
  have wo28 := hw _ (List.mem_of_getElem? (i := 28) rfl)
  have q1 : (of + ii) = (2 : Int32) := hj
  obtain ⟨kk2, cl2, Ar2, qq2, Sz2, Nn2, Hs2, Gf2⟩ := id pf_A_ar
  have hin3 : ¬ ((2 : Int32) < 0 ∨ cl2.slots.size ≤ ((2 : Int32)).toNatClampNeg) := inb_of Sz2 ⟨by decide, by decide⟩
  have hat4 : cl2.slots[((2 : Int32)).toNatClampNeg]? = some (.int x2) := Has.at Hs2 hin3 rfl
  obtain ⟨_, _, ⟨T5, L5, k5, n5⟩, -, X5, ⟨Lc5, hQ5, l5, y5, z5⟩, st5⟩ := Jvm.LawKit.callS X0 hx (y := MN5) hown (mvT hZ wo25) (mvT hZ wo26) (mvT hZ wo27) (mvT hZ wo28) (by decide) (backOf (W := 1) (rm5 l Z a0 hw [] ((sz - (1 : Int32)) - ii) h0 n0 Z0 ) hZ wo28 wo27 (by decide) (by decide)) (g := (mkF m 17 #[rv ar, iv of, iv sz, iv ii] [(.int ((sz - (1 : Int32)) - ii)), (.int x2)])) rfl (by rw [hml]; rfl) (argsL := [(.int ((sz - (1 : Int32)) - ii))]) (rest := [(.int x2)]) (lenOf pd_2 rfl) rfl (by show 2 * 0 + _ ≤ _; exact Nat.le_of_eq rfl) (hb hby d6_17) (fun _ _ => ⟨rfl, e0, (by decide : 0 + 0 ≤ _), (by decide : 0 + 0 ≤ _)⟩)
  dsimp only [Pt.U, Pt.locs, Pt.cells, Pt.slots] at X5 l5 y5 z5 st5 hQ5
  rw [l5, y5, z5] at X5
  obtain ⟨rfl, N5q, K5q⟩ := hQ5
  have N6 := Fr.app N0 N5q
  obtain ⟨fs, hr, hrun, hended, hW, hsame⟩ := X5.leave (v := some (.int (x2 * (own_p31 ((sz - (1 : Int32)) - ii))))) (fun h => by rw [Bd.returns] at h; cases h)
  refine ⟨_, _, pre0 _ ?_, hrun, hended, _, _, rfl, ?_, ⟨_, rfl⟩, hW, hsame.mono (by decide) (by decide)⟩
  · show Steps p.tables e below (s₁.setTop (mkF m 0 #[rv ar, iv of, iv sz, iv ii] [])) _
    refine XS.iloadN X0.here hx rfl (hb hby d6_0) rfl ?_
    show Steps p.tables e below (s₁.setTop (mkF m 1 #[rv ar, iv of, iv sz, iv ii] [(.int ii)])) _
    refine XS.iloadN X0.here hx rfl (hb hby d6_1) rfl ?_
    show Steps p.tables e below (s₁.setTop (mkF m 2 #[rv ar, iv of, iv sz, iv ii] [(.int sz), (.int ii)])) _
    refine XS.icmpYes X0.here hx rfl (pc0 := 2) (pc' := 7) rfl (hb hby d6_2) rfl (tlt hlt).1 (by decide) (by decide) ?_
    show Steps p.tables e below (s₁.setTop (mkF m 7 #[rv ar, iv of, iv sz, iv ii] [])) _
    refine XS.aloadN X0.here hx rfl (hb hby d6_7) rfl rfl ?_
    show Steps p.tables e below (s₁.setTop (mkF m 8 #[rv ar, iv of, iv sz, iv ii] [(.ref ar)])) _
    refine XS.iloadN X0.here hx rfl (hb hby d6_8) rfl ?_
    show Steps p.tables e below (s₁.setTop (mkF m 9 #[rv ar, iv of, iv sz, iv ii] [(.int of), (.ref ar)])) _
    refine XS.iloadN X0.here hx rfl (hb hby d6_9) rfl ?_
    show Steps p.tables e below (s₁.setTop (mkF m 10 #[rv ar, iv of, iv sz, iv ii] [(.int ii), (.int of), (.ref ar)])) _
    refine XS.iadd X0.here hx rfl (hb hby d6_10) rfl ?_
    rw [q1]
    show Steps p.tables e below (s₁.setTop (mkF m 11 #[rv ar, iv of, iv sz, iv ii] [(.int (2 : Int32)), (.ref ar)])) _
    show Steps p.tables e below (s₁.setTop (mkF m 11 #[rv ar, iv of, iv sz, iv ii] [(.int (2 : Int32)), (.ref ar)])) _
    refine X0.baloadBytes hx (j := (2 : Int32)) (v := (.int x2)) (by rw [e0]; exact Ar2.1) (State.isArrayOf_alike hZ.alike Ar2.2.1) Ar2.2.2 hin3 hat4 (g := (mkF m 11 #[rv ar, iv of, iv sz, iv ii] [(.int (2 : Int32)), (.ref ar)])) rfl rfl (hb hby d6_11) _ ?_
    show Steps p.tables e below (s₁.setTop (mkF m 12 #[rv ar, iv of, iv sz, iv ii] [(.int x2)])) _
    refine XS.iloadN X0.here hx rfl (hb hby d6_12) rfl ?_
    show Steps p.tables e below (s₁.setTop (mkF m 13 #[rv ar, iv of, iv sz, iv ii] [(.int sz), (.int x2)])) _
    refine XS.iconst X0.here hx rfl (hb hby d6_13) ?_
    show Steps p.tables e below (s₁.setTop (mkF m 14 #[rv ar, iv of, iv sz, iv ii] [(.int (1 : Int32)), (.int sz), (.int x2)])) _
    refine XS.isub X0.here hx rfl (hb hby d6_14) rfl ?_
    show Steps p.tables e below (s₁.setTop (mkF m 15 #[rv ar, iv of, iv sz, iv ii] [(.int (sz - (1 : Int32))), (.int x2)])) _
    refine XS.iloadN X0.here hx rfl (hb hby d6_15) rfl ?_
    show Steps p.tables e below (s₁.setTop (mkF m 16 #[rv ar, iv of, iv sz, iv ii] [(.int ii), (.int (sz - (1 : Int32))), (.int x2)])) _
    refine XS.isub X0.here hx rfl (hb hby d6_16) rfl ?_
    show Steps p.tables e below (s₁.setTop (mkF m 17 #[rv ar, iv of, iv sz, iv ii] [(.int ((sz - (1 : Int32)) - ii)), (.int x2)])) _
    refine st5 _ ?_
    show Steps p.tables e below (T5.setTop (mkF m 20 #[rv ar, iv of, iv sz, iv ii] [(.int (own_p31 ((sz - (1 : Int32)) - ii))), (.int x2)])) _
    refine XS.imul X5.here hx rfl (hb hby d6_20) rfl ?_
    show Steps p.tables e below (T5.setTop (mkF m 21 #[rv ar, iv of, iv sz, iv ii] [(.int (x2 * (own_p31 ((sz - (1 : Int32)) - ii))))])) _
    exact retI X5 hx Bd.returns (hb hby d6_21) hr
  · show Q_rm_t2 Z _ _ _ _ _ _ _ _ _ h0 n0 _ T5.heap _
    rw [K5q]
    exact ⟨rfl, N6, rfl⟩
theorem ef_rm_t3 (m : MethodId) (x0 : Addr) (x1 : Int32) (x2 : Int32) (x3 : Int32) : entryFrame m #[(.ref x0), (.int x1), (.int x2), (.int x3)] 4 = mkF m 0 #[rv x0, iv x1, iv x2, iv x3] [] := by first | (simp [entryFrame, mkF, argsToLocals, Value.category]; done) | rfl
def Q_rm_t3 (Z : State) (ar : Addr) (of : Int32) (sz : Int32) (ii : Int32) (x0 : Int32) (x1 : Int32) (x2 : Int32) (x3 : Int32) (x4 : Int32) (h0 : Heap) (n0 : Nat) (v : Option Value) (h : Heap) (L : List Loc) : Prop := v = some (.int (x3 * (own_p31 ((sz - (1 : Int32)) - ii)))) ∧ Fr n0 L ∧ h = h0
set_option maxRecDepth 65536 in
set_option maxHeartbeats 40000000 in
theorem rm_t3 (l : Launch) (Z : State) (a0 : Array Value) (hw : ∀ d ∈ tables_1, d.before a0 Z = true) (ws : List Jvm.Cond) (ar : Addr) (of : Int32) (sz : Int32) (ii : Int32) (x0 : Int32) (x1 : Int32) (x2 : Int32) (x3 : Int32) (x4 : Int32) (h0 : Heap) (n0 : Nat) (Z0 : n0 ≤ h0.size) (pf_A_ar : Av Z h0 ar .byte (5 : Int32) [(.int x0), (.int x1), (.int x2), (.int x3), (.int x4)] (.int (0 : Int32))) (hlt : ii < sz) (hj : (of + ii) = (3 : Int32)) :
    MetFree l (⟨"com/example/tailwake/tailwake/source/mariadb/SliceHashCodePinLaw", "term", "([BIII)I"⟩ : MethodName) (head1 (Jvm.Cond.code (⟨"com/example/tailwake/tailwake/source/mariadb/SliceHashCodePinLaw", "term", "([BIII)I"⟩ : MethodName) method_3_code 4 (some .int) :: ws) ({ frames := 1, cells := 0, slots := 0, locals := 13 } : Room)) (fun a U => a = #[(.ref ar), (.int of), (.int sz), (.int ii)] ∧ Z.Warmed39 U.vm ∧ U.heap = h0) (fun _ _ _ _ _ => True) (fun _ U o U' => ∃ v L, o = .returned v ∧ Q_rm_t3 Z ar of sz ii x0 x1 x2 x3 x4 h0 n0 v U'.heap L ∧ FrameEnd U o U' L ({ frames := 1, cells := 0, slots := 0, locals := 13 } : Room).cells ({ frames := 1, cells := 0, slots := 0, locals := 13 } : Room).slots) := by
  refine MetFree.of_bodySF (plainFor_of_name pn_com_example_tailwake_tailwake_source_mariadb_SliceHashCodePinLaw) hisR ?_
  intro p e s m args below meth c s₁ Bd hml0 hP hK
  obtain ⟨rfl, hZ, hh⟩ := hP
  have hx := Bd.exec
  have hby := Bd.bytes
  have hml : c.maxLocals = 4 := hml0
  have hown : s.vm.findClass "com/example/tailwake/tailwake/source/mariadb/SliceHashCodePinLaw" = some m.cls := findClass_of_methodNamed Bd.named
  have hnm := (name_of_methodNamed Bd.named Bd.method).1
  have X0 : Stand p l e ({ frames := 1, cells := 0, slots := 0, locals := 13 } : Room) s m #[(.ref ar), (.int of), (.int sz), (.int ii)] below meth c s₁ [] 0 0 := Stand.of_body Bd
  have e0 : s₁.heap = h0 := by rw [← hh, Bd.state]; rfl
  have N0 := Fr.nil n0
  have pre0 : ∀ t, Steps p.tables e below (s₁.setTop (mkF m 0 #[rv ar, iv of, iv sz, iv ii] [])) t → Steps p.tables e below (s₁.setTop (entryFrame m #[(.ref ar), (.int of), (.int sz), (.int ii)] 4)) t := fun t k => castTop (ef_rm_t3 m ar of sz ii) k
  have wo25 := hw _ (List.mem_of_getElem? (i := 25) rfl)
  have wo26 := hw _ (List.mem_of_getElem? (i := 26) rfl)
  have wo27 := hw _ (List.mem_of_getElem? (i := 27) rfl)
  have wo28 := hw _ (List.mem_of_getElem? (i := 28) rfl)
  have q1 : (of + ii) = (3 : Int32) := hj
  obtain ⟨kk2, cl2, Ar2, qq2, Sz2, Nn2, Hs2, Gf2⟩ := id pf_A_ar
  have hin3 : ¬ ((3 : Int32) < 0 ∨ cl2.slots.size ≤ ((3 : Int32)).toNatClampNeg) := inb_of Sz2 ⟨by decide, by decide⟩
  have hat4 : cl2.slots[((3 : Int32)).toNatClampNeg]? = some (.int x3) := Has.at Hs2 hin3 rfl
  obtain ⟨_, _, ⟨T5, L5, k5, n5⟩, -, X5, ⟨Lc5, hQ5, l5, y5, z5⟩, st5⟩ := Jvm.LawKit.callS X0 hx (y := MN5) hown (mvT hZ wo25) (mvT hZ wo26) (mvT hZ wo27) (mvT hZ wo28) (by decide) (backOf (W := 1) (rm5 l Z a0 hw [] ((sz - (1 : Int32)) - ii) h0 n0 Z0 ) hZ wo28 wo27 (by decide) (by decide)) (g := (mkF m 17 #[rv ar, iv of, iv sz, iv ii] [(.int ((sz - (1 : Int32)) - ii)), (.int x3)])) rfl (by rw [hml]; rfl) (argsL := [(.int ((sz - (1 : Int32)) - ii))]) (rest := [(.int x3)]) (lenOf pd_2 rfl) rfl (by show 2 * 0 + _ ≤ _; exact Nat.le_of_eq rfl) (hb hby d6_17) (fun _ _ => ⟨rfl, e0, (by decide : 0 + 0 ≤ _), (by decide : 0 + 0 ≤ _)⟩)
  dsimp only [Pt.U, Pt.locs, Pt.cells, Pt.slots] at X5 l5 y5 z5 st5 hQ5
  rw [l5, y5, z5] at X5
  obtain ⟨rfl, N5q, K5q⟩ := hQ5
  have N6 := Fr.app N0 N5q
  obtain ⟨fs, hr, hrun, hended, hW, hsame⟩ := X5.leave (v := some (.int (x3 * (own_p31 ((sz - (1 : Int32)) - ii))))) (fun h => by rw [Bd.returns] at h; cases h)
  refine ⟨_, _, pre0 _ ?_, hrun, hended, _, _, rfl, ?_, ⟨_, rfl⟩, hW, hsame.mono (by decide) (by decide)⟩
  · show Steps p.tables e below (s₁.setTop (mkF m 0 #[rv ar, iv of, iv sz, iv ii] [])) _
    refine XS.iloadN X0.here hx rfl (hb hby d6_0) rfl ?_
    show Steps p.tables e below (s₁.setTop (mkF m 1 #[rv ar, iv of, iv sz, iv ii] [(.int ii)])) _
    refine XS.iloadN X0.here hx rfl (hb hby d6_1) rfl ?_
    show Steps p.tables e below (s₁.setTop (mkF m 2 #[rv ar, iv of, iv sz, iv ii] [(.int sz), (.int ii)])) _
    refine XS.icmpYes X0.here hx rfl (pc0 := 2) (pc' := 7) rfl (hb hby d6_2) rfl (tlt hlt).1 (by decide) (by decide) ?_
    show Steps p.tables e below (s₁.setTop (mkF m 7 #[rv ar, iv of, iv sz, iv ii] [])) _
    refine XS.aloadN X0.here hx rfl (hb hby d6_7) rfl rfl ?_
    show Steps p.tables e below (s₁.setTop (mkF m 8 #[rv ar, iv of, iv sz, iv ii] [(.ref ar)])) _
    refine XS.iloadN X0.here hx rfl (hb hby d6_8) rfl ?_
    show Steps p.tables e below (s₁.setTop (mkF m 9 #[rv ar, iv of, iv sz, iv ii] [(.int of), (.ref ar)])) _
    refine XS.iloadN X0.here hx rfl (hb hby d6_9) rfl ?_
    show Steps p.tables e below (s₁.setTop (mkF m 10 #[rv ar, iv of, iv sz, iv ii] [(.int ii), (.int of), (.ref ar)])) _
    refine XS.iadd X0.here hx rfl (hb hby d6_10) rfl ?_
    rw [q1]
    show Steps p.tables e below (s₁.setTop (mkF m 11 #[rv ar, iv of, iv sz, iv ii] [(.int (3 : Int32)), (.ref ar)])) _
    show Steps p.tables e below (s₁.setTop (mkF m 11 #[rv ar, iv of, iv sz, iv ii] [(.int (3 : Int32)), (.ref ar)])) _
    refine X0.baloadBytes hx (j := (3 : Int32)) (v := (.int x3)) (by rw [e0]; exact Ar2.1) (State.isArrayOf_alike hZ.alike Ar2.2.1) Ar2.2.2 hin3 hat4 (g := (mkF m 11 #[rv ar, iv of, iv sz, iv ii] [(.int (3 : Int32)), (.ref ar)])) rfl rfl (hb hby d6_11) _ ?_
    show Steps p.tables e below (s₁.setTop (mkF m 12 #[rv ar, iv of, iv sz, iv ii] [(.int x3)])) _
    refine XS.iloadN X0.here hx rfl (hb hby d6_12) rfl ?_
    show Steps p.tables e below (s₁.setTop (mkF m 13 #[rv ar, iv of, iv sz, iv ii] [(.int sz), (.int x3)])) _
    refine XS.iconst X0.here hx rfl (hb hby d6_13) ?_
    show Steps p.tables e below (s₁.setTop (mkF m 14 #[rv ar, iv of, iv sz, iv ii] [(.int (1 : Int32)), (.int sz), (.int x3)])) _
    refine XS.isub X0.here hx rfl (hb hby d6_14) rfl ?_
    show Steps p.tables e below (s₁.setTop (mkF m 15 #[rv ar, iv of, iv sz, iv ii] [(.int (sz - (1 : Int32))), (.int x3)])) _
    refine XS.iloadN X0.here hx rfl (hb hby d6_15) rfl ?_
    show Steps p.tables e below (s₁.setTop (mkF m 16 #[rv ar, iv of, iv sz, iv ii] [(.int ii), (.int (sz - (1 : Int32))), (.int x3)])) _
    refine XS.isub X0.here hx rfl (hb hby d6_16) rfl ?_
    show Steps p.tables e below (s₁.setTop (mkF m 17 #[rv ar, iv of, iv sz, iv ii] [(.int ((sz - (1 : Int32)) - ii)), (.int x3)])) _
    refine st5 _ ?_
    show Steps p.tables e below (T5.setTop (mkF m 20 #[rv ar, iv of, iv sz, iv ii] [(.int (own_p31 ((sz - (1 : Int32)) - ii))), (.int x3)])) _
    refine XS.imul X5.here hx rfl (hb hby d6_20) rfl ?_
    show Steps p.tables e below (T5.setTop (mkF m 21 #[rv ar, iv of, iv sz, iv ii] [(.int (x3 * (own_p31 ((sz - (1 : Int32)) - ii))))])) _
    exact retI X5 hx Bd.returns (hb hby d6_21) hr
  · show Q_rm_t3 Z _ _ _ _ _ _ _ _ _ h0 n0 _ T5.heap _
    rw [K5q]
    exact ⟨rfl, N6, rfl⟩
theorem ef_rm_t4 (m : MethodId) (x0 : Addr) (x1 : Int32) (x2 : Int32) (x3 : Int32) : entryFrame m #[(.ref x0), (.int x1), (.int x2), (.int x3)] 4 = mkF m 0 #[rv x0, iv x1, iv x2, iv x3] [] := by first | (simp [entryFrame, mkF, argsToLocals, Value.category]; done) | rfl
def Q_rm_t4 (Z : State) (ar : Addr) (of : Int32) (sz : Int32) (ii : Int32) (x0 : Int32) (x1 : Int32) (x2 : Int32) (x3 : Int32) (x4 : Int32) (h0 : Heap) (n0 : Nat) (v : Option Value) (h : Heap) (L : List Loc) : Prop := v = some (.int (x4 * (own_p31 ((sz - (1 : Int32)) - ii)))) ∧ Fr n0 L ∧ h = h0
set_option maxRecDepth 65536 in
set_option maxHeartbeats 40000000 in
theorem rm_t4 (l : Launch) (Z : State) (a0 : Array Value) (hw : ∀ d ∈ tables_1, d.before a0 Z = true) (ws : List Jvm.Cond) (ar : Addr) (of : Int32) (sz : Int32) (ii : Int32) (x0 : Int32) (x1 : Int32) (x2 : Int32) (x3 : Int32) (x4 : Int32) (h0 : Heap) (n0 : Nat) (Z0 : n0 ≤ h0.size) (pf_A_ar : Av Z h0 ar .byte (5 : Int32) [(.int x0), (.int x1), (.int x2), (.int x3), (.int x4)] (.int (0 : Int32))) (hlt : ii < sz) (hj : (of + ii) = (4 : Int32)) :
    MetFree l (⟨"com/example/tailwake/tailwake/source/mariadb/SliceHashCodePinLaw", "term", "([BIII)I"⟩ : MethodName) (head1 (Jvm.Cond.code (⟨"com/example/tailwake/tailwake/source/mariadb/SliceHashCodePinLaw", "term", "([BIII)I"⟩ : MethodName) method_3_code 4 (some .int) :: ws) ({ frames := 1, cells := 0, slots := 0, locals := 13 } : Room)) (fun a U => a = #[(.ref ar), (.int of), (.int sz), (.int ii)] ∧ Z.Warmed39 U.vm ∧ U.heap = h0) (fun _ _ _ _ _ => True) (fun _ U o U' => ∃ v L, o = .returned v ∧ Q_rm_t4 Z ar of sz ii x0 x1 x2 x3 x4 h0 n0 v U'.heap L ∧ FrameEnd U o U' L ({ frames := 1, cells := 0, slots := 0, locals := 13 } : Room).cells ({ frames := 1, cells := 0, slots := 0, locals := 13 } : Room).slots) := by
  refine MetFree.of_bodySF (plainFor_of_name pn_com_example_tailwake_tailwake_source_mariadb_SliceHashCodePinLaw) hisR ?_
  intro p e s m args below meth c s₁ Bd hml0 hP hK
  obtain ⟨rfl, hZ, hh⟩ := hP
  have hx := Bd.exec
  have hby := Bd.bytes
  have hml : c.maxLocals = 4 := hml0
  have hown : s.vm.findClass "com/example/tailwake/tailwake/source/mariadb/SliceHashCodePinLaw" = some m.cls := findClass_of_methodNamed Bd.named
  have hnm := (name_of_methodNamed Bd.named Bd.method).1
  have X0 : Stand p l e ({ frames := 1, cells := 0, slots := 0, locals := 13 } : Room) s m #[(.ref ar), (.int of), (.int sz), (.int ii)] below meth c s₁ [] 0 0 := Stand.of_body Bd
  have e0 : s₁.heap = h0 := by rw [← hh, Bd.state]; rfl
  have N0 := Fr.nil n0
  have pre0 : ∀ t, Steps p.tables e below (s₁.setTop (mkF m 0 #[rv ar, iv of, iv sz, iv ii] [])) t → Steps p.tables e below (s₁.setTop (entryFrame m #[(.ref ar), (.int of), (.int sz), (.int ii)] 4)) t := fun t k => castTop (ef_rm_t4 m ar of sz ii) k
  have wo25 := hw _ (List.mem_of_getElem? (i := 25) rfl)
  have wo26 := hw _ (List.mem_of_getElem? (i := 26) rfl)
  have wo27 := hw _ (List.mem_of_getElem? (i := 27) rfl)
  have wo28 := hw _ (List.mem_of_getElem? (i := 28) rfl)
  have q1 : (of + ii) = (4 : Int32) := hj
  obtain ⟨kk2, cl2, Ar2, qq2, Sz2, Nn2, Hs2, Gf2⟩ := id pf_A_ar
  have hin3 : ¬ ((4 : Int32) < 0 ∨ cl2.slots.size ≤ ((4 : Int32)).toNatClampNeg) := inb_of Sz2 ⟨by decide, by decide⟩
  have hat4 : cl2.slots[((4 : Int32)).toNatClampNeg]? = some (.int x4) := Has.at Hs2 hin3 rfl
  obtain ⟨_, _, ⟨T5, L5, k5, n5⟩, -, X5, ⟨Lc5, hQ5, l5, y5, z5⟩, st5⟩ := Jvm.LawKit.callS X0 hx (y := MN5) hown (mvT hZ wo25) (mvT hZ wo26) (mvT hZ wo27) (mvT hZ wo28) (by decide) (backOf (W := 1) (rm5 l Z a0 hw [] ((sz - (1 : Int32)) - ii) h0 n0 Z0 ) hZ wo28 wo27 (by decide) (by decide)) (g := (mkF m 17 #[rv ar, iv of, iv sz, iv ii] [(.int ((sz - (1 : Int32)) - ii)), (.int x4)])) rfl (by rw [hml]; rfl) (argsL := [(.int ((sz - (1 : Int32)) - ii))]) (rest := [(.int x4)]) (lenOf pd_2 rfl) rfl (by show 2 * 0 + _ ≤ _; exact Nat.le_of_eq rfl) (hb hby d6_17) (fun _ _ => ⟨rfl, e0, (by decide : 0 + 0 ≤ _), (by decide : 0 + 0 ≤ _)⟩)
  dsimp only [Pt.U, Pt.locs, Pt.cells, Pt.slots] at X5 l5 y5 z5 st5 hQ5
  rw [l5, y5, z5] at X5
  obtain ⟨rfl, N5q, K5q⟩ := hQ5
  have N6 := Fr.app N0 N5q
  obtain ⟨fs, hr, hrun, hended, hW, hsame⟩ := X5.leave (v := some (.int (x4 * (own_p31 ((sz - (1 : Int32)) - ii))))) (fun h => by rw [Bd.returns] at h; cases h)
  refine ⟨_, _, pre0 _ ?_, hrun, hended, _, _, rfl, ?_, ⟨_, rfl⟩, hW, hsame.mono (by decide) (by decide)⟩
  · show Steps p.tables e below (s₁.setTop (mkF m 0 #[rv ar, iv of, iv sz, iv ii] [])) _
    refine XS.iloadN X0.here hx rfl (hb hby d6_0) rfl ?_
    show Steps p.tables e below (s₁.setTop (mkF m 1 #[rv ar, iv of, iv sz, iv ii] [(.int ii)])) _
    refine XS.iloadN X0.here hx rfl (hb hby d6_1) rfl ?_
    show Steps p.tables e below (s₁.setTop (mkF m 2 #[rv ar, iv of, iv sz, iv ii] [(.int sz), (.int ii)])) _
    refine XS.icmpYes X0.here hx rfl (pc0 := 2) (pc' := 7) rfl (hb hby d6_2) rfl (tlt hlt).1 (by decide) (by decide) ?_
    show Steps p.tables e below (s₁.setTop (mkF m 7 #[rv ar, iv of, iv sz, iv ii] [])) _
    refine XS.aloadN X0.here hx rfl (hb hby d6_7) rfl rfl ?_
    show Steps p.tables e below (s₁.setTop (mkF m 8 #[rv ar, iv of, iv sz, iv ii] [(.ref ar)])) _
    refine XS.iloadN X0.here hx rfl (hb hby d6_8) rfl ?_
    show Steps p.tables e below (s₁.setTop (mkF m 9 #[rv ar, iv of, iv sz, iv ii] [(.int of), (.ref ar)])) _
    refine XS.iloadN X0.here hx rfl (hb hby d6_9) rfl ?_
    show Steps p.tables e below (s₁.setTop (mkF m 10 #[rv ar, iv of, iv sz, iv ii] [(.int ii), (.int of), (.ref ar)])) _
    refine XS.iadd X0.here hx rfl (hb hby d6_10) rfl ?_
    rw [q1]
    show Steps p.tables e below (s₁.setTop (mkF m 11 #[rv ar, iv of, iv sz, iv ii] [(.int (4 : Int32)), (.ref ar)])) _
    show Steps p.tables e below (s₁.setTop (mkF m 11 #[rv ar, iv of, iv sz, iv ii] [(.int (4 : Int32)), (.ref ar)])) _
    refine X0.baloadBytes hx (j := (4 : Int32)) (v := (.int x4)) (by rw [e0]; exact Ar2.1) (State.isArrayOf_alike hZ.alike Ar2.2.1) Ar2.2.2 hin3 hat4 (g := (mkF m 11 #[rv ar, iv of, iv sz, iv ii] [(.int (4 : Int32)), (.ref ar)])) rfl rfl (hb hby d6_11) _ ?_
    show Steps p.tables e below (s₁.setTop (mkF m 12 #[rv ar, iv of, iv sz, iv ii] [(.int x4)])) _
    refine XS.iloadN X0.here hx rfl (hb hby d6_12) rfl ?_
    show Steps p.tables e below (s₁.setTop (mkF m 13 #[rv ar, iv of, iv sz, iv ii] [(.int sz), (.int x4)])) _
    refine XS.iconst X0.here hx rfl (hb hby d6_13) ?_
    show Steps p.tables e below (s₁.setTop (mkF m 14 #[rv ar, iv of, iv sz, iv ii] [(.int (1 : Int32)), (.int sz), (.int x4)])) _
    refine XS.isub X0.here hx rfl (hb hby d6_14) rfl ?_
    show Steps p.tables e below (s₁.setTop (mkF m 15 #[rv ar, iv of, iv sz, iv ii] [(.int (sz - (1 : Int32))), (.int x4)])) _
    refine XS.iloadN X0.here hx rfl (hb hby d6_15) rfl ?_
    show Steps p.tables e below (s₁.setTop (mkF m 16 #[rv ar, iv of, iv sz, iv ii] [(.int ii), (.int (sz - (1 : Int32))), (.int x4)])) _
    refine XS.isub X0.here hx rfl (hb hby d6_16) rfl ?_
    show Steps p.tables e below (s₁.setTop (mkF m 17 #[rv ar, iv of, iv sz, iv ii] [(.int ((sz - (1 : Int32)) - ii)), (.int x4)])) _
    refine st5 _ ?_
    show Steps p.tables e below (T5.setTop (mkF m 20 #[rv ar, iv of, iv sz, iv ii] [(.int (own_p31 ((sz - (1 : Int32)) - ii))), (.int x4)])) _
    refine XS.imul X5.here hx rfl (hb hby d6_20) rfl ?_
    show Steps p.tables e below (T5.setTop (mkF m 21 #[rv ar, iv of, iv sz, iv ii] [(.int (x4 * (own_p31 ((sz - (1 : Int32)) - ii))))])) _
    exact retI X5 hx Bd.returns (hb hby d6_21) hr
  · show Q_rm_t4 Z _ _ _ _ _ _ _ _ _ h0 n0 _ T5.heap _
    rw [K5q]
    exact ⟨rfl, N6, rfl⟩
theorem d7_0 : decode prog_29_method_7_code 0 = .ok (.iconst 1, 1) := by decide +kernel
theorem d7_1 : decode prog_29_method_7_code 1 = .ok (.istore_n 1, 1) := by decide +kernel
theorem d7_2 : decode prog_29_method_7_code 2 = .ok (.aload_n 0, 1) := by decide +kernel
theorem d7_3 : decode prog_29_method_7_code 3 = .ok (.getfield 19, 3) := by decide +kernel
theorem d7_6 : decode prog_29_method_7_code 6 = .ok (.istore_n 2, 1) := by decide +kernel
theorem d7_7 : decode prog_29_method_7_code 7 = .ok (.iload_n 2, 1) := by decide +kernel
theorem d7_8 : decode prog_29_method_7_code 8 = .ok (.aload_n 0, 1) := by decide +kernel
theorem d7_9 : decode prog_29_method_7_code 9 = .ok (.getfield 19, 3) := by decide +kernel
theorem d7_12 : decode prog_29_method_7_code 12 = .ok (.aload_n 0, 1) := by decide +kernel
theorem d7_13 : decode prog_29_method_7_code 13 = .ok (.getfield 23, 3) := by decide +kernel
theorem d7_16 : decode prog_29_method_7_code 16 = .ok (.iadd, 1) := by decide +kernel
theorem d7_17 : decode prog_29_method_7_code 17 = .ok (.if_icmp .ge 21, 3) := by decide +kernel
theorem d7_38 : decode prog_29_method_7_code 38 = .ok (.iload_n 1, 1) := by decide +kernel
theorem d7_39 : decode prog_29_method_7_code 39 = .ok (.ireturn, 1) := by decide +kernel
theorem ef_rm_h0_0 (m : MethodId) (x0 : Addr) : entryFrame m #[(.ref x0)] 3 = mkF m 0 #[rv x0, .unset, .unset] [] := by first | (simp [entryFrame, mkF, argsToLocals, Value.category]; done) | rfl
def Q_rm_h0_0 (Z : State) (a7_0 : Addr) (ar : Addr) (x0 : Int32) (x1 : Int32) (x2 : Int32) (x3 : Int32) (x4 : Int32) (h0 : Heap) (n0 : Nat) (v : Option Value) (h : Heap) (L : List Loc) : Prop := v = some (.int (1 : Int32)) ∧ Fr n0 L ∧ h = h0
set_option maxRecDepth 65536 in
set_option maxHeartbeats 40000000 in
theorem rm_h0_0 (l : Launch) (Z : State) (a0 : Array Value) (hw : ∀ d ∈ tables_1, d.before a0 Z = true) (ws : List Jvm.Cond) (a7_0 : Addr) (ar : Addr) (x0 : Int32) (x1 : Int32) (x2 : Int32) (x3 : Int32) (x4 : Int32) (h0 : Heap) (n0 : Nat) (Z0 : n0 ≤ h0.size) (pf_F_a7_0_array : Fld Z h0 a7_0 "com/example/tailwake/tailwake/source/mariadb/Slice" "array" "[B" (.ref ar)) (pf_F_a7_0_offset : Fld Z h0 a7_0 "com/example/tailwake/tailwake/source/mariadb/Slice" "offset" "I" (.int (0 : Int32))) (pf_F_a7_0_length : Fld Z h0 a7_0 "com/example/tailwake/tailwake/source/mariadb/Slice" "length" "I" (.int (0 : Int32))) (pf_A_ar : Av Z h0 ar .byte (5 : Int32) [(.int x0), (.int x1), (.int x2), (.int x3), (.int x4)] (.int (0 : Int32))) :
    MetFree l (⟨"com/example/tailwake/tailwake/source/mariadb/Slice", "hashCode", "()I"⟩ : MethodName) (head1 (Jvm.Cond.code (⟨"com/example/tailwake/tailwake/source/mariadb/Slice", "hashCode", "()I"⟩ : MethodName) prog_29_method_7_code 3 (some .int) :: ws) ({ frames := 0, cells := 0, slots := 0, locals := 0 } : Room)) (fun a U => a = #[(.ref a7_0)] ∧ Z.Warmed39 U.vm ∧ U.heap = h0) (fun _ _ _ _ _ => True) (fun _ U o U' => ∃ v L, o = .returned v ∧ Q_rm_h0_0 Z a7_0 ar x0 x1 x2 x3 x4 h0 n0 v U'.heap L ∧ FrameEnd U o U' L ({ frames := 0, cells := 0, slots := 0, locals := 0 } : Room).cells ({ frames := 0, cells := 0, slots := 0, locals := 0 } : Room).slots) := by
  refine MetFree.of_bodySF (plainFor_of_name pn_com_example_tailwake_tailwake_source_mariadb_Slice) hisR ?_
  intro p e s m args below meth c s₁ Bd hml0 hP hK
  obtain ⟨rfl, hZ, hh⟩ := hP
  have hx := Bd.exec
  have hby := Bd.bytes
  have hml : c.maxLocals = 3 := hml0
  have hown : s.vm.findClass "com/example/tailwake/tailwake/source/mariadb/Slice" = some m.cls := findClass_of_methodNamed Bd.named
  have hnm := (name_of_methodNamed Bd.named Bd.method).1
  have X0 : Stand p l e ({ frames := 0, cells := 0, slots := 0, locals := 0 } : Room) s m #[(.ref a7_0)] below meth c s₁ [] 0 0 := Stand.of_body Bd
  have e0 : s₁.heap = h0 := by rw [← hh, Bd.state]; rfl
  have N0 := Fr.nil n0
  have pre0 : ∀ t, Steps p.tables e below (s₁.setTop (mkF m 0 #[rv a7_0, .unset, .unset] [])) t → Steps p.tables e below (s₁.setTop (entryFrame m #[(.ref a7_0)] 3)) t := fun t k => castTop (ef_rm_h0_0 m a7_0) k
  have wo21 := hw _ (List.mem_of_getElem? (i := 21) rfl)
  have wo23 := hw _ (List.mem_of_getElem? (i := 23) rfl)
  obtain ⟨T1, X1, e1, st1⟩ := getF X0 hx hZ hown (host := "") (Or.inl wo21) Via.refl e0 pf_F_a7_0_offset (g := (mkF m 3 #[rv a7_0, iv (1 : Int32), .unset] [(.ref a7_0)])) rfl rfl (hb hby d7_3)
  obtain ⟨T2, X2, e2, st2⟩ := getF X1 hx hZ hown (host := "") (Or.inl wo21) Via.refl e1 pf_F_a7_0_offset (g := (mkF m 9 #[rv a7_0, iv (1 : Int32), iv (0 : Int32)] [(.ref a7_0), (.int (0 : Int32))])) rfl rfl (hb hby d7_9)
  obtain ⟨T3, X3, e3, st3⟩ := getF X2 hx hZ hown (host := "") (Or.inl wo23) Via.refl e2 pf_F_a7_0_length (g := (mkF m 13 #[rv a7_0, iv (1 : Int32), iv (0 : Int32)] [(.ref a7_0), (.int (0 : Int32)), (.int (0 : Int32))])) rfl rfl (hb hby d7_13)
  obtain ⟨fs, hr, hrun, hended, hW, hsame⟩ := X3.leave (v := some (.int (1 : Int32))) (fun h => by rw [Bd.returns] at h; cases h)
  refine ⟨_, _, pre0 _ ?_, hrun, hended, _, _, rfl, ?_, ⟨_, rfl⟩, hW, hsame.mono (by decide) (by decide)⟩
  · show Steps p.tables e below (s₁.setTop (mkF m 0 #[rv a7_0, .unset, .unset] [])) _
    refine XS.iconst X0.here hx rfl (hb hby d7_0) ?_
    show Steps p.tables e below (s₁.setTop (mkF m 1 #[rv a7_0, .unset, .unset] [(.int (1 : Int32))])) _
    refine XS.istoreN X0.here hx rfl (hb hby d7_1) rfl (l' := #[rv a7_0, iv (1 : Int32), .unset]) rfl ?_
    show Steps p.tables e below (s₁.setTop (mkF m 2 #[rv a7_0, iv (1 : Int32), .unset] [])) _
    refine XS.aloadN X0.here hx rfl (hb hby d7_2) rfl rfl ?_
    show Steps p.tables e below (s₁.setTop (mkF m 3 #[rv a7_0, iv (1 : Int32), .unset] [(.ref a7_0)])) _
    refine st1 _ ?_
    show Steps p.tables e below (T1.setTop (mkF m 6 #[rv a7_0, iv (1 : Int32), .unset] [(.int (0 : Int32))])) _
    refine XS.istoreN X1.here hx rfl (hb hby d7_6) rfl (l' := #[rv a7_0, iv (1 : Int32), iv (0 : Int32)]) rfl ?_
    show Steps p.tables e below (T1.setTop (mkF m 7 #[rv a7_0, iv (1 : Int32), iv (0 : Int32)] [])) _
    refine XS.iloadN X1.here hx rfl (hb hby d7_7) rfl ?_
    show Steps p.tables e below (T1.setTop (mkF m 8 #[rv a7_0, iv (1 : Int32), iv (0 : Int32)] [(.int (0 : Int32))])) _
    refine XS.aloadN X1.here hx rfl (hb hby d7_8) rfl rfl ?_
    show Steps p.tables e below (T1.setTop (mkF m 9 #[rv a7_0, iv (1 : Int32), iv (0 : Int32)] [(.ref a7_0), (.int (0 : Int32))])) _
    refine st2 _ ?_
    show Steps p.tables e below (T2.setTop (mkF m 12 #[rv a7_0, iv (1 : Int32), iv (0 : Int32)] [(.int (0 : Int32)), (.int (0 : Int32))])) _
    refine XS.aloadN X2.here hx rfl (hb hby d7_12) rfl rfl ?_
    show Steps p.tables e below (T2.setTop (mkF m 13 #[rv a7_0, iv (1 : Int32), iv (0 : Int32)] [(.ref a7_0), (.int (0 : Int32)), (.int (0 : Int32))])) _
    refine st3 _ ?_
    show Steps p.tables e below (T3.setTop (mkF m 16 #[rv a7_0, iv (1 : Int32), iv (0 : Int32)] [(.int (0 : Int32)), (.int (0 : Int32)), (.int (0 : Int32))])) _
    refine XS.iadd X3.here hx rfl (hb hby d7_16) rfl ?_
    show Steps p.tables e below (T3.setTop (mkF m 17 #[rv a7_0, iv (1 : Int32), iv (0 : Int32)] [(.int (0 : Int32)), (.int (0 : Int32))])) _
    refine XS.icmpYes X3.here hx rfl (pc0 := 17) (pc' := 38) rfl (hb hby d7_17) rfl (flt (by decide : ¬ ((0 : Int32) < (0 : Int32)))).2.1 (by decide) (by decide) ?_
    show Steps p.tables e below (T3.setTop (mkF m 38 #[rv a7_0, iv (1 : Int32), iv (0 : Int32)] [])) _
    refine XS.iloadN X3.here hx rfl (hb hby d7_38) rfl ?_
    show Steps p.tables e below (T3.setTop (mkF m 39 #[rv a7_0, iv (1 : Int32), iv (0 : Int32)] [(.int (1 : Int32))])) _
    exact retI X3 hx Bd.returns (hb hby d7_39) hr
  · show Q_rm_h0_0 Z _ _ _ _ _ _ _ h0 n0 _ T3.heap _
    rw [e3]
    exact ⟨rfl, N0, rfl⟩
theorem d7_20 : decode prog_29_method_7_code 20 = .ok (.bipush 31, 2) := by decide +kernel
theorem d7_22 : decode prog_29_method_7_code 22 = .ok (.iload_n 1, 1) := by decide +kernel
theorem d7_23 : decode prog_29_method_7_code 23 = .ok (.imul, 1) := by decide +kernel
theorem d7_24 : decode prog_29_method_7_code 24 = .ok (.aload_n 0, 1) := by decide +kernel
theorem d7_25 : decode prog_29_method_7_code 25 = .ok (.getfield 13, 3) := by decide +kernel
theorem d7_28 : decode prog_29_method_7_code 28 = .ok (.iload_n 2, 1) := by decide +kernel
theorem d7_29 : decode prog_29_method_7_code 29 = .ok (.baload, 1) := by decide +kernel
theorem d7_30 : decode prog_29_method_7_code 30 = .ok (.iadd, 1) := by decide +kernel
theorem d7_31 : decode prog_29_method_7_code 31 = .ok (.istore_n 1, 1) := by decide +kernel
theorem d7_32 : decode prog_29_method_7_code 32 = .ok (.iinc 2 1, 3) := by decide +kernel
theorem d7_35 : decode prog_29_method_7_code 35 = .ok (.goto (-28), 3) := by decide +kernel
theorem ef_rm_h0_1 (m : MethodId) (x0 : Addr) : entryFrame m #[(.ref x0)] 3 = mkF m 0 #[rv x0, .unset, .unset] [] := by first | (simp [entryFrame, mkF, argsToLocals, Value.category]; done) | rfl
def Q_rm_h0_1 (Z : State) (a7_0 : Addr) (ar : Addr) (x0 : Int32) (x1 : Int32) (x2 : Int32) (x3 : Int32) (x4 : Int32) (h0 : Heap) (n0 : Nat) (v : Option Value) (h : Heap) (L : List Loc) : Prop := v = some (.int ((31 : Int32) + x0)) ∧ Fr n0 L ∧ h = h0
set_option maxRecDepth 65536 in
set_option maxHeartbeats 40000000 in
theorem rm_h0_1 (l : Launch) (Z : State) (a0 : Array Value) (hw : ∀ d ∈ tables_1, d.before a0 Z = true) (ws : List Jvm.Cond) (a7_0 : Addr) (ar : Addr) (x0 : Int32) (x1 : Int32) (x2 : Int32) (x3 : Int32) (x4 : Int32) (h0 : Heap) (n0 : Nat) (Z0 : n0 ≤ h0.size) (pf_F_a7_0_array : Fld Z h0 a7_0 "com/example/tailwake/tailwake/source/mariadb/Slice" "array" "[B" (.ref ar)) (pf_F_a7_0_offset : Fld Z h0 a7_0 "com/example/tailwake/tailwake/source/mariadb/Slice" "offset" "I" (.int (0 : Int32))) (pf_F_a7_0_length : Fld Z h0 a7_0 "com/example/tailwake/tailwake/source/mariadb/Slice" "length" "I" (.int (1 : Int32))) (pf_A_ar : Av Z h0 ar .byte (5 : Int32) [(.int x0), (.int x1), (.int x2), (.int x3), (.int x4)] (.int (0 : Int32))) :
    MetFree l (⟨"com/example/tailwake/tailwake/source/mariadb/Slice", "hashCode", "()I"⟩ : MethodName) (head1 (Jvm.Cond.code (⟨"com/example/tailwake/tailwake/source/mariadb/Slice", "hashCode", "()I"⟩ : MethodName) prog_29_method_7_code 3 (some .int) :: ws) ({ frames := 0, cells := 0, slots := 0, locals := 0 } : Room)) (fun a U => a = #[(.ref a7_0)] ∧ Z.Warmed39 U.vm ∧ U.heap = h0) (fun _ _ _ _ _ => True) (fun _ U o U' => ∃ v L, o = .returned v ∧ Q_rm_h0_1 Z a7_0 ar x0 x1 x2 x3 x4 h0 n0 v U'.heap L ∧ FrameEnd U o U' L ({ frames := 0, cells := 0, slots := 0, locals := 0 } : Room).cells ({ frames := 0, cells := 0, slots := 0, locals := 0 } : Room).slots) := by
  refine MetFree.of_bodySF (plainFor_of_name pn_com_example_tailwake_tailwake_source_mariadb_Slice) hisR ?_
  intro p e s m args below meth c s₁ Bd hml0 hP hK
  obtain ⟨rfl, hZ, hh⟩ := hP
  have hx := Bd.exec
  have hby := Bd.bytes
  have hml : c.maxLocals = 3 := hml0
  have hown : s.vm.findClass "com/example/tailwake/tailwake/source/mariadb/Slice" = some m.cls := findClass_of_methodNamed Bd.named
  have hnm := (name_of_methodNamed Bd.named Bd.method).1
  have X0 : Stand p l e ({ frames := 0, cells := 0, slots := 0, locals := 0 } : Room) s m #[(.ref a7_0)] below meth c s₁ [] 0 0 := Stand.of_body Bd
  have e0 : s₁.heap = h0 := by rw [← hh, Bd.state]; rfl
  have N0 := Fr.nil n0
  have pre0 : ∀ t, Steps p.tables e below (s₁.setTop (mkF m 0 #[rv a7_0, .unset, .unset] [])) t → Steps p.tables e below (s₁.setTop (entryFrame m #[(.ref a7_0)] 3)) t := fun t k => castTop (ef_rm_h0_1 m a7_0) k
  have wo19 := hw _ (List.mem_of_getElem? (i := 19) rfl)
  have wo21 := hw _ (List.mem_of_getElem? (i := 21) rfl)
  have wo23 := hw _ (List.mem_of_getElem? (i := 23) rfl)
  obtain ⟨T1, X1, e1, st1⟩ := getF X0 hx hZ hown (host := "") (Or.inl wo21) Via.refl e0 pf_F_a7_0_offset (g := (mkF m 3 #[rv a7_0, iv (1 : Int32), .unset] [(.ref a7_0)])) rfl rfl (hb hby d7_3)
  obtain ⟨T2, X2, e2, st2⟩ := getF X1 hx hZ hown (host := "") (Or.inl wo21) Via.refl e1 pf_F_a7_0_offset (g := (mkF m 9 #[rv a7_0, iv (1 : Int32), iv (0 : Int32)] [(.ref a7_0), (.int (0 : Int32))])) rfl rfl (hb hby d7_9)
  obtain ⟨T3, X3, e3, st3⟩ := getF X2 hx hZ hown (host := "") (Or.inl wo23) Via.refl e2 pf_F_a7_0_length (g := (mkF m 13 #[rv a7_0, iv (1 : Int32), iv (0 : Int32)] [(.ref a7_0), (.int (0 : Int32)), (.int (0 : Int32))])) rfl rfl (hb hby d7_13)
  obtain ⟨T4, X4, e4, st4⟩ := getF X3 hx hZ hown (host := "") (Or.inl wo19) Via.refl e3 pf_F_a7_0_array (g := (mkF m 25 #[rv a7_0, iv (1 : Int32), iv (0 : Int32)] [(.ref a7_0), (.int (31 : Int32))])) rfl rfl (hb hby d7_25)
  obtain ⟨kk5, cl5, Ar5, qq5, Sz5, Nn5, Hs5, Gf5⟩ := id pf_A_ar
  have hin6 : ¬ ((0 : Int32) < 0 ∨ cl5.slots.size ≤ ((0 : Int32)).toNatClampNeg) := inb_of Sz5 ⟨by decide, by decide⟩
  have hat7 : cl5.slots[((0 : Int32)).toNatClampNeg]? = some (.int x0) := Has.at Hs5 hin6 rfl
  obtain ⟨T8, X8, e8, st8⟩ := getF X4 hx hZ hown (host := "") (Or.inl wo21) Via.refl e4 pf_F_a7_0_offset (g := (mkF m 9 #[rv a7_0, iv ((31 : Int32) + x0), iv (1 : Int32)] [(.ref a7_0), (.int (1 : Int32))])) rfl rfl (hb hby d7_9)
  obtain ⟨T9, X9, e9, st9⟩ := getF X8 hx hZ hown (host := "") (Or.inl wo23) Via.refl e8 pf_F_a7_0_length (g := (mkF m 13 #[rv a7_0, iv ((31 : Int32) + x0), iv (1 : Int32)] [(.ref a7_0), (.int (0 : Int32)), (.int (1 : Int32))])) rfl rfl (hb hby d7_13)
  obtain ⟨fs, hr, hrun, hended, hW, hsame⟩ := X9.leave (v := some (.int ((31 : Int32) + x0))) (fun h => by rw [Bd.returns] at h; cases h)
  refine ⟨_, _, pre0 _ ?_, hrun, hended, _, _, rfl, ?_, ⟨_, rfl⟩, hW, hsame.mono (by decide) (by decide)⟩
  · show Steps p.tables e below (s₁.setTop (mkF m 0 #[rv a7_0, .unset, .unset] [])) _
    refine XS.iconst X0.here hx rfl (hb hby d7_0) ?_
    show Steps p.tables e below (s₁.setTop (mkF m 1 #[rv a7_0, .unset, .unset] [(.int (1 : Int32))])) _
    refine XS.istoreN X0.here hx rfl (hb hby d7_1) rfl (l' := #[rv a7_0, iv (1 : Int32), .unset]) rfl ?_
    show Steps p.tables e below (s₁.setTop (mkF m 2 #[rv a7_0, iv (1 : Int32), .unset] [])) _
    refine XS.aloadN X0.here hx rfl (hb hby d7_2) rfl rfl ?_
    show Steps p.tables e below (s₁.setTop (mkF m 3 #[rv a7_0, iv (1 : Int32), .unset] [(.ref a7_0)])) _
    refine st1 _ ?_
    show Steps p.tables e below (T1.setTop (mkF m 6 #[rv a7_0, iv (1 : Int32), .unset] [(.int (0 : Int32))])) _
    refine XS.istoreN X1.here hx rfl (hb hby d7_6) rfl (l' := #[rv a7_0, iv (1 : Int32), iv (0 : Int32)]) rfl ?_
    show Steps p.tables e below (T1.setTop (mkF m 7 #[rv a7_0, iv (1 : Int32), iv (0 : Int32)] [])) _
    refine XS.iloadN X1.here hx rfl (hb hby d7_7) rfl ?_
    show Steps p.tables e below (T1.setTop (mkF m 8 #[rv a7_0, iv (1 : Int32), iv (0 : Int32)] [(.int (0 : Int32))])) _
    refine XS.aloadN X1.here hx rfl (hb hby d7_8) rfl rfl ?_
    show Steps p.tables e below (T1.setTop (mkF m 9 #[rv a7_0, iv (1 : Int32), iv (0 : Int32)] [(.ref a7_0), (.int (0 : Int32))])) _
    refine st2 _ ?_
    show Steps p.tables e below (T2.setTop (mkF m 12 #[rv a7_0, iv (1 : Int32), iv (0 : Int32)] [(.int (0 : Int32)), (.int (0 : Int32))])) _
    refine XS.aloadN X2.here hx rfl (hb hby d7_12) rfl rfl ?_
    show Steps p.tables e below (T2.setTop (mkF m 13 #[rv a7_0, iv (1 : Int32), iv (0 : Int32)] [(.ref a7_0), (.int (0 : Int32)), (.int (0 : Int32))])) _
    refine st3 _ ?_
    show Steps p.tables e below (T3.setTop (mkF m 16 #[rv a7_0, iv (1 : Int32), iv (0 : Int32)] [(.int (1 : Int32)), (.int (0 : Int32)), (.int (0 : Int32))])) _
    refine XS.iadd X3.here hx rfl (hb hby d7_16) rfl ?_
    show Steps p.tables e below (T3.setTop (mkF m 17 #[rv a7_0, iv (1 : Int32), iv (0 : Int32)] [(.int (1 : Int32)), (.int (0 : Int32))])) _
    refine XS.icmpNo X3.here hx rfl (hb hby d7_17) rfl (tlt (by decide : (0 : Int32) < (1 : Int32))).2.1 ?_
    show Steps p.tables e below (T3.setTop (mkF m 20 #[rv a7_0, iv (1 : Int32), iv (0 : Int32)] [])) _
    refine XS.bipush X3.here hx rfl (hb hby d7_20) ?_
    show Steps p.tables e below (T3.setTop (mkF m 22 #[rv a7_0, iv (1 : Int32), iv (0 : Int32)] [(.int (31 : Int32))])) _
    refine XS.iloadN X3.here hx rfl (hb hby d7_22) rfl ?_
    show Steps p.tables e below (T3.setTop (mkF m 23 #[rv a7_0, iv (1 : Int32), iv (0 : Int32)] [(.int (1 : Int32)), (.int (31 : Int32))])) _
    refine XS.imul X3.here hx rfl (hb hby d7_23) rfl ?_
    show Steps p.tables e below (T3.setTop (mkF m 24 #[rv a7_0, iv (1 : Int32), iv (0 : Int32)] [(.int (31 : Int32))])) _
    refine XS.aloadN X3.here hx rfl (hb hby d7_24) rfl rfl ?_
    show Steps p.tables e below (T3.setTop (mkF m 25 #[rv a7_0, iv (1 : Int32), iv (0 : Int32)] [(.ref a7_0), (.int (31 : Int32))])) _
    refine st4 _ ?_
    show Steps p.tables e below (T4.setTop (mkF m 28 #[rv a7_0, iv (1 : Int32), iv (0 : Int32)] [(.ref ar), (.int (31 : Int32))])) _
    refine XS.iloadN X4.here hx rfl (hb hby d7_28) rfl ?_
    show Steps p.tables e below (T4.setTop (mkF m 29 #[rv a7_0, iv (1 : Int32), iv (0 : Int32)] [(.int (0 : Int32)), (.ref ar), (.int (31 : Int32))])) _
    refine X4.baloadBytes hx (j := (0 : Int32)) (v := (.int x0)) (by rw [e4]; exact Ar5.1) (State.isArrayOf_alike hZ.alike Ar5.2.1) Ar5.2.2 hin6 hat7 (g := (mkF m 29 #[rv a7_0, iv (1 : Int32), iv (0 : Int32)] [(.int (0 : Int32)), (.ref ar), (.int (31 : Int32))])) rfl rfl (hb hby d7_29) _ ?_
    show Steps p.tables e below (T4.setTop (mkF m 30 #[rv a7_0, iv (1 : Int32), iv (0 : Int32)] [(.int x0), (.int (31 : Int32))])) _
    refine XS.iadd X4.here hx rfl (hb hby d7_30) rfl ?_
    show Steps p.tables e below (T4.setTop (mkF m 31 #[rv a7_0, iv (1 : Int32), iv (0 : Int32)] [(.int ((31 : Int32) + x0))])) _
    refine XS.istoreN X4.here hx rfl (hb hby d7_31) rfl (l' := #[rv a7_0, iv ((31 : Int32) + x0), iv (0 : Int32)]) rfl ?_
    show Steps p.tables e below (T4.setTop (mkF m 32 #[rv a7_0, iv ((31 : Int32) + x0), iv (0 : Int32)] [])) _
    refine XS.iinc X4.here hx rfl (hb hby d7_32) rfl (l' := #[rv a7_0, iv ((31 : Int32) + x0), iv (1 : Int32)]) rfl ?_
    show Steps p.tables e below (T4.setTop (mkF m 35 #[rv a7_0, iv ((31 : Int32) + x0), iv (1 : Int32)] [])) _
    refine XS.goto X4.here hx rfl (pc0 := 35) (pc' := 7) rfl (hb hby d7_35) (by decide) (by decide) ?_
    show Steps p.tables e below (T4.setTop (mkF m 7 #[rv a7_0, iv ((31 : Int32) + x0), iv (1 : Int32)] [])) _
    refine XS.iloadN X4.here hx rfl (hb hby d7_7) rfl ?_
    show Steps p.tables e below (T4.setTop (mkF m 8 #[rv a7_0, iv ((31 : Int32) + x0), iv (1 : Int32)] [(.int (1 : Int32))])) _
    refine XS.aloadN X4.here hx rfl (hb hby d7_8) rfl rfl ?_
    show Steps p.tables e below (T4.setTop (mkF m 9 #[rv a7_0, iv ((31 : Int32) + x0), iv (1 : Int32)] [(.ref a7_0), (.int (1 : Int32))])) _
    refine st8 _ ?_
    show Steps p.tables e below (T8.setTop (mkF m 12 #[rv a7_0, iv ((31 : Int32) + x0), iv (1 : Int32)] [(.int (0 : Int32)), (.int (1 : Int32))])) _
    refine XS.aloadN X8.here hx rfl (hb hby d7_12) rfl rfl ?_
    show Steps p.tables e below (T8.setTop (mkF m 13 #[rv a7_0, iv ((31 : Int32) + x0), iv (1 : Int32)] [(.ref a7_0), (.int (0 : Int32)), (.int (1 : Int32))])) _
    refine st9 _ ?_
    show Steps p.tables e below (T9.setTop (mkF m 16 #[rv a7_0, iv ((31 : Int32) + x0), iv (1 : Int32)] [(.int (1 : Int32)), (.int (0 : Int32)), (.int (1 : Int32))])) _
    refine XS.iadd X9.here hx rfl (hb hby d7_16) rfl ?_
    show Steps p.tables e below (T9.setTop (mkF m 17 #[rv a7_0, iv ((31 : Int32) + x0), iv (1 : Int32)] [(.int (1 : Int32)), (.int (1 : Int32))])) _
    refine XS.icmpYes X9.here hx rfl (pc0 := 17) (pc' := 38) rfl (hb hby d7_17) rfl (flt (by decide : ¬ ((1 : Int32) < (1 : Int32)))).2.1 (by decide) (by decide) ?_
    show Steps p.tables e below (T9.setTop (mkF m 38 #[rv a7_0, iv ((31 : Int32) + x0), iv (1 : Int32)] [])) _
    refine XS.iloadN X9.here hx rfl (hb hby d7_38) rfl ?_
    show Steps p.tables e below (T9.setTop (mkF m 39 #[rv a7_0, iv ((31 : Int32) + x0), iv (1 : Int32)] [(.int ((31 : Int32) + x0))])) _
    exact retI X9 hx Bd.returns (hb hby d7_39) hr
  · show Q_rm_h0_1 Z _ _ _ _ _ _ _ h0 n0 _ T9.heap _
    rw [e9]
    exact ⟨rfl, N0, rfl⟩
theorem ef_rm_h0_2 (m : MethodId) (x0 : Addr) : entryFrame m #[(.ref x0)] 3 = mkF m 0 #[rv x0, .unset, .unset] [] := by first | (simp [entryFrame, mkF, argsToLocals, Value.category]; done) | rfl
def Q_rm_h0_2 (Z : State) (a7_0 : Addr) (ar : Addr) (x0 : Int32) (x1 : Int32) (x2 : Int32) (x3 : Int32) (x4 : Int32) (h0 : Heap) (n0 : Nat) (v : Option Value) (h : Heap) (L : List Loc) : Prop := v = some (.int (((31 : Int32) * ((31 : Int32) + x0)) + x1)) ∧ Fr n0 L ∧ h = h0
set_option maxRecDepth 65536 in
set_option maxHeartbeats 40000000 in
theorem rm_h0_2 (l : Launch) (Z : State) (a0 : Array Value) (hw : ∀ d ∈ tables_1, d.before a0 Z = true) (ws : List Jvm.Cond) (a7_0 : Addr) (ar : Addr) (x0 : Int32) (x1 : Int32) (x2 : Int32) (x3 : Int32) (x4 : Int32) (h0 : Heap) (n0 : Nat) (Z0 : n0 ≤ h0.size) (pf_F_a7_0_array : Fld Z h0 a7_0 "com/example/tailwake/tailwake/source/mariadb/Slice" "array" "[B" (.ref ar)) (pf_F_a7_0_offset : Fld Z h0 a7_0 "com/example/tailwake/tailwake/source/mariadb/Slice" "offset" "I" (.int (0 : Int32))) (pf_F_a7_0_length : Fld Z h0 a7_0 "com/example/tailwake/tailwake/source/mariadb/Slice" "length" "I" (.int (2 : Int32))) (pf_A_ar : Av Z h0 ar .byte (5 : Int32) [(.int x0), (.int x1), (.int x2), (.int x3), (.int x4)] (.int (0 : Int32))) :
    MetFree l (⟨"com/example/tailwake/tailwake/source/mariadb/Slice", "hashCode", "()I"⟩ : MethodName) (head1 (Jvm.Cond.code (⟨"com/example/tailwake/tailwake/source/mariadb/Slice", "hashCode", "()I"⟩ : MethodName) prog_29_method_7_code 3 (some .int) :: ws) ({ frames := 0, cells := 0, slots := 0, locals := 0 } : Room)) (fun a U => a = #[(.ref a7_0)] ∧ Z.Warmed39 U.vm ∧ U.heap = h0) (fun _ _ _ _ _ => True) (fun _ U o U' => ∃ v L, o = .returned v ∧ Q_rm_h0_2 Z a7_0 ar x0 x1 x2 x3 x4 h0 n0 v U'.heap L ∧ FrameEnd U o U' L ({ frames := 0, cells := 0, slots := 0, locals := 0 } : Room).cells ({ frames := 0, cells := 0, slots := 0, locals := 0 } : Room).slots) := by
  refine MetFree.of_bodySF (plainFor_of_name pn_com_example_tailwake_tailwake_source_mariadb_Slice) hisR ?_
  intro p e s m args below meth c s₁ Bd hml0 hP hK
  obtain ⟨rfl, hZ, hh⟩ := hP
  have hx := Bd.exec
  have hby := Bd.bytes
  have hml : c.maxLocals = 3 := hml0
  have hown : s.vm.findClass "com/example/tailwake/tailwake/source/mariadb/Slice" = some m.cls := findClass_of_methodNamed Bd.named
  have hnm := (name_of_methodNamed Bd.named Bd.method).1
  have X0 : Stand p l e ({ frames := 0, cells := 0, slots := 0, locals := 0 } : Room) s m #[(.ref a7_0)] below meth c s₁ [] 0 0 := Stand.of_body Bd
  have e0 : s₁.heap = h0 := by rw [← hh, Bd.state]; rfl
  have N0 := Fr.nil n0
  have pre0 : ∀ t, Steps p.tables e below (s₁.setTop (mkF m 0 #[rv a7_0, .unset, .unset] [])) t → Steps p.tables e below (s₁.setTop (entryFrame m #[(.ref a7_0)] 3)) t := fun t k => castTop (ef_rm_h0_2 m a7_0) k
  have wo19 := hw _ (List.mem_of_getElem? (i := 19) rfl)
  have wo21 := hw _ (List.mem_of_getElem? (i := 21) rfl)
  have wo23 := hw _ (List.mem_of_getElem? (i := 23) rfl)
  obtain ⟨T1, X1, e1, st1⟩ := getF X0 hx hZ hown (host := "") (Or.inl wo21) Via.refl e0 pf_F_a7_0_offset (g := (mkF m 3 #[rv a7_0, iv (1 : Int32), .unset] [(.ref a7_0)])) rfl rfl (hb hby d7_3)
  obtain ⟨T2, X2, e2, st2⟩ := getF X1 hx hZ hown (host := "") (Or.inl wo21) Via.refl e1 pf_F_a7_0_offset (g := (mkF m 9 #[rv a7_0, iv (1 : Int32), iv (0 : Int32)] [(.ref a7_0), (.int (0 : Int32))])) rfl rfl (hb hby d7_9)
  obtain ⟨T3, X3, e3, st3⟩ := getF X2 hx hZ hown (host := "") (Or.inl wo23) Via.refl e2 pf_F_a7_0_length (g := (mkF m 13 #[rv a7_0, iv (1 : Int32), iv (0 : Int32)] [(.ref a7_0), (.int (0 : Int32)), (.int (0 : Int32))])) rfl rfl (hb hby d7_13)
  obtain ⟨T4, X4, e4, st4⟩ := getF X3 hx hZ hown (host := "") (Or.inl wo19) Via.refl e3 pf_F_a7_0_array (g := (mkF m 25 #[rv a7_0, iv (1 : Int32), iv (0 : Int32)] [(.ref a7_0), (.int (31 : Int32))])) rfl rfl (hb hby d7_25)
  obtain ⟨kk5, cl5, Ar5, qq5, Sz5, Nn5, Hs5, Gf5⟩ := id pf_A_ar
  have hin6 : ¬ ((0 : Int32) < 0 ∨ cl5.slots.size ≤ ((0 : Int32)).toNatClampNeg) := inb_of Sz5 ⟨by decide, by decide⟩
  have hat7 : cl5.slots[((0 : Int32)).toNatClampNeg]? = some (.int x0) := Has.at Hs5 hin6 rfl
  obtain ⟨T8, X8, e8, st8⟩ := getF X4 hx hZ hown (host := "") (Or.inl wo21) Via.refl e4 pf_F_a7_0_offset (g := (mkF m 9 #[rv a7_0, iv ((31 : Int32) + x0), iv (1 : Int32)] [(.ref a7_0), (.int (1 : Int32))])) rfl rfl (hb hby d7_9)
  obtain ⟨T9, X9, e9, st9⟩ := getF X8 hx hZ hown (host := "") (Or.inl wo23) Via.refl e8 pf_F_a7_0_length (g := (mkF m 13 #[rv a7_0, iv ((31 : Int32) + x0), iv (1 : Int32)] [(.ref a7_0), (.int (0 : Int32)), (.int (1 : Int32))])) rfl rfl (hb hby d7_13)
  obtain ⟨T10, X10, e10, st10⟩ := getF X9 hx hZ hown (host := "") (Or.inl wo19) Via.refl e9 pf_F_a7_0_array (g := (mkF m 25 #[rv a7_0, iv ((31 : Int32) + x0), iv (1 : Int32)] [(.ref a7_0), (.int ((31 : Int32) * ((31 : Int32) + x0)))])) rfl rfl (hb hby d7_25)
  obtain ⟨kk11, cl11, Ar11, qq11, Sz11, Nn11, Hs11, Gf11⟩ := id pf_A_ar
  have hin12 : ¬ ((1 : Int32) < 0 ∨ cl11.slots.size ≤ ((1 : Int32)).toNatClampNeg) := inb_of Sz11 ⟨by decide, by decide⟩
  have hat13 : cl11.slots[((1 : Int32)).toNatClampNeg]? = some (.int x1) := Has.at Hs11 hin12 rfl
  obtain ⟨T14, X14, e14, st14⟩ := getF X10 hx hZ hown (host := "") (Or.inl wo21) Via.refl e10 pf_F_a7_0_offset (g := (mkF m 9 #[rv a7_0, iv (((31 : Int32) * ((31 : Int32) + x0)) + x1), iv (2 : Int32)] [(.ref a7_0), (.int (2 : Int32))])) rfl rfl (hb hby d7_9)
  obtain ⟨T15, X15, e15, st15⟩ := getF X14 hx hZ hown (host := "") (Or.inl wo23) Via.refl e14 pf_F_a7_0_length (g := (mkF m 13 #[rv a7_0, iv (((31 : Int32) * ((31 : Int32) + x0)) + x1), iv (2 : Int32)] [(.ref a7_0), (.int (0 : Int32)), (.int (2 : Int32))])) rfl rfl (hb hby d7_13)
  obtain ⟨fs, hr, hrun, hended, hW, hsame⟩ := X15.leave (v := some (.int (((31 : Int32) * ((31 : Int32) + x0)) + x1))) (fun h => by rw [Bd.returns] at h; cases h)
  refine ⟨_, _, pre0 _ ?_, hrun, hended, _, _, rfl, ?_, ⟨_, rfl⟩, hW, hsame.mono (by decide) (by decide)⟩
  · show Steps p.tables e below (s₁.setTop (mkF m 0 #[rv a7_0, .unset, .unset] [])) _
    refine XS.iconst X0.here hx rfl (hb hby d7_0) ?_
    show Steps p.tables e below (s₁.setTop (mkF m 1 #[rv a7_0, .unset, .unset] [(.int (1 : Int32))])) _
    refine XS.istoreN X0.here hx rfl (hb hby d7_1) rfl (l' := #[rv a7_0, iv (1 : Int32), .unset]) rfl ?_
    show Steps p.tables e below (s₁.setTop (mkF m 2 #[rv a7_0, iv (1 : Int32), .unset] [])) _
    refine XS.aloadN X0.here hx rfl (hb hby d7_2) rfl rfl ?_
    show Steps p.tables e below (s₁.setTop (mkF m 3 #[rv a7_0, iv (1 : Int32), .unset] [(.ref a7_0)])) _
    refine st1 _ ?_
    show Steps p.tables e below (T1.setTop (mkF m 6 #[rv a7_0, iv (1 : Int32), .unset] [(.int (0 : Int32))])) _
    refine XS.istoreN X1.here hx rfl (hb hby d7_6) rfl (l' := #[rv a7_0, iv (1 : Int32), iv (0 : Int32)]) rfl ?_
    show Steps p.tables e below (T1.setTop (mkF m 7 #[rv a7_0, iv (1 : Int32), iv (0 : Int32)] [])) _
    refine XS.iloadN X1.here hx rfl (hb hby d7_7) rfl ?_
    show Steps p.tables e below (T1.setTop (mkF m 8 #[rv a7_0, iv (1 : Int32), iv (0 : Int32)] [(.int (0 : Int32))])) _
    refine XS.aloadN X1.here hx rfl (hb hby d7_8) rfl rfl ?_
    show Steps p.tables e below (T1.setTop (mkF m 9 #[rv a7_0, iv (1 : Int32), iv (0 : Int32)] [(.ref a7_0), (.int (0 : Int32))])) _
    refine st2 _ ?_
    show Steps p.tables e below (T2.setTop (mkF m 12 #[rv a7_0, iv (1 : Int32), iv (0 : Int32)] [(.int (0 : Int32)), (.int (0 : Int32))])) _
    refine XS.aloadN X2.here hx rfl (hb hby d7_12) rfl rfl ?_
    show Steps p.tables e below (T2.setTop (mkF m 13 #[rv a7_0, iv (1 : Int32), iv (0 : Int32)] [(.ref a7_0), (.int (0 : Int32)), (.int (0 : Int32))])) _
    refine st3 _ ?_
    show Steps p.tables e below (T3.setTop (mkF m 16 #[rv a7_0, iv (1 : Int32), iv (0 : Int32)] [(.int (2 : Int32)), (.int (0 : Int32)), (.int (0 : Int32))])) _
    refine XS.iadd X3.here hx rfl (hb hby d7_16) rfl ?_
    show Steps p.tables e below (T3.setTop (mkF m 17 #[rv a7_0, iv (1 : Int32), iv (0 : Int32)] [(.int (2 : Int32)), (.int (0 : Int32))])) _
    refine XS.icmpNo X3.here hx rfl (hb hby d7_17) rfl (tlt (by decide : (0 : Int32) < (2 : Int32))).2.1 ?_
    show Steps p.tables e below (T3.setTop (mkF m 20 #[rv a7_0, iv (1 : Int32), iv (0 : Int32)] [])) _
    refine XS.bipush X3.here hx rfl (hb hby d7_20) ?_
    show Steps p.tables e below (T3.setTop (mkF m 22 #[rv a7_0, iv (1 : Int32), iv (0 : Int32)] [(.int (31 : Int32))])) _
    refine XS.iloadN X3.here hx rfl (hb hby d7_22) rfl ?_
    show Steps p.tables e below (T3.setTop (mkF m 23 #[rv a7_0, iv (1 : Int32), iv (0 : Int32)] [(.int (1 : Int32)), (.int (31 : Int32))])) _
    refine XS.imul X3.here hx rfl (hb hby d7_23) rfl ?_
    show Steps p.tables e below (T3.setTop (mkF m 24 #[rv a7_0, iv (1 : Int32), iv (0 : Int32)] [(.int (31 : Int32))])) _
    refine XS.aloadN X3.here hx rfl (hb hby d7_24) rfl rfl ?_
    show Steps p.tables e below (T3.setTop (mkF m 25 #[rv a7_0, iv (1 : Int32), iv (0 : Int32)] [(.ref a7_0), (.int (31 : Int32))])) _
    refine st4 _ ?_
    show Steps p.tables e below (T4.setTop (mkF m 28 #[rv a7_0, iv (1 : Int32), iv (0 : Int32)] [(.ref ar), (.int (31 : Int32))])) _
    refine XS.iloadN X4.here hx rfl (hb hby d7_28) rfl ?_
    show Steps p.tables e below (T4.setTop (mkF m 29 #[rv a7_0, iv (1 : Int32), iv (0 : Int32)] [(.int (0 : Int32)), (.ref ar), (.int (31 : Int32))])) _
    refine X4.baloadBytes hx (j := (0 : Int32)) (v := (.int x0)) (by rw [e4]; exact Ar5.1) (State.isArrayOf_alike hZ.alike Ar5.2.1) Ar5.2.2 hin6 hat7 (g := (mkF m 29 #[rv a7_0, iv (1 : Int32), iv (0 : Int32)] [(.int (0 : Int32)), (.ref ar), (.int (31 : Int32))])) rfl rfl (hb hby d7_29) _ ?_
    show Steps p.tables e below (T4.setTop (mkF m 30 #[rv a7_0, iv (1 : Int32), iv (0 : Int32)] [(.int x0), (.int (31 : Int32))])) _
    refine XS.iadd X4.here hx rfl (hb hby d7_30) rfl ?_
    show Steps p.tables e below (T4.setTop (mkF m 31 #[rv a7_0, iv (1 : Int32), iv (0 : Int32)] [(.int ((31 : Int32) + x0))])) _
    refine XS.istoreN X4.here hx rfl (hb hby d7_31) rfl (l' := #[rv a7_0, iv ((31 : Int32) + x0), iv (0 : Int32)]) rfl ?_
    show Steps p.tables e below (T4.setTop (mkF m 32 #[rv a7_0, iv ((31 : Int32) + x0), iv (0 : Int32)] [])) _
    refine XS.iinc X4.here hx rfl (hb hby d7_32) rfl (l' := #[rv a7_0, iv ((31 : Int32) + x0), iv (1 : Int32)]) rfl ?_
    show Steps p.tables e below (T4.setTop (mkF m 35 #[rv a7_0, iv ((31 : Int32) + x0), iv (1 : Int32)] [])) _
    refine XS.goto X4.here hx rfl (pc0 := 35) (pc' := 7) rfl (hb hby d7_35) (by decide) (by decide) ?_
    show Steps p.tables e below (T4.setTop (mkF m 7 #[rv a7_0, iv ((31 : Int32) + x0), iv (1 : Int32)] [])) _
    refine XS.iloadN X4.here hx rfl (hb hby d7_7) rfl ?_
    show Steps p.tables e below (T4.setTop (mkF m 8 #[rv a7_0, iv ((31 : Int32) + x0), iv (1 : Int32)] [(.int (1 : Int32))])) _
    refine XS.aloadN X4.here hx rfl (hb hby d7_8) rfl rfl ?_
    show Steps p.tables e below (T4.setTop (mkF m 9 #[rv a7_0, iv ((31 : Int32) + x0), iv (1 : Int32)] [(.ref a7_0), (.int (1 : Int32))])) _
    refine st8 _ ?_
    show Steps p.tables e below (T8.setTop (mkF m 12 #[rv a7_0, iv ((31 : Int32) + x0), iv (1 : Int32)] [(.int (0 : Int32)), (.int (1 : Int32))])) _
    refine XS.aloadN X8.here hx rfl (hb hby d7_12) rfl rfl ?_
    show Steps p.tables e below (T8.setTop (mkF m 13 #[rv a7_0, iv ((31 : Int32) + x0), iv (1 : Int32)] [(.ref a7_0), (.int (0 : Int32)), (.int (1 : Int32))])) _
    refine st9 _ ?_
    show Steps p.tables e below (T9.setTop (mkF m 16 #[rv a7_0, iv ((31 : Int32) + x0), iv (1 : Int32)] [(.int (2 : Int32)), (.int (0 : Int32)), (.int (1 : Int32))])) _
    refine XS.iadd X9.here hx rfl (hb hby d7_16) rfl ?_
    show Steps p.tables e below (T9.setTop (mkF m 17 #[rv a7_0, iv ((31 : Int32) + x0), iv (1 : Int32)] [(.int (2 : Int32)), (.int (1 : Int32))])) _
    refine XS.icmpNo X9.here hx rfl (hb hby d7_17) rfl (tlt (by decide : (1 : Int32) < (2 : Int32))).2.1 ?_
    show Steps p.tables e below (T9.setTop (mkF m 20 #[rv a7_0, iv ((31 : Int32) + x0), iv (1 : Int32)] [])) _
    refine XS.bipush X9.here hx rfl (hb hby d7_20) ?_
    show Steps p.tables e below (T9.setTop (mkF m 22 #[rv a7_0, iv ((31 : Int32) + x0), iv (1 : Int32)] [(.int (31 : Int32))])) _
    refine XS.iloadN X9.here hx rfl (hb hby d7_22) rfl ?_
    show Steps p.tables e below (T9.setTop (mkF m 23 #[rv a7_0, iv ((31 : Int32) + x0), iv (1 : Int32)] [(.int ((31 : Int32) + x0)), (.int (31 : Int32))])) _
    refine XS.imul X9.here hx rfl (hb hby d7_23) rfl ?_
    show Steps p.tables e below (T9.setTop (mkF m 24 #[rv a7_0, iv ((31 : Int32) + x0), iv (1 : Int32)] [(.int ((31 : Int32) * ((31 : Int32) + x0)))])) _
    refine XS.aloadN X9.here hx rfl (hb hby d7_24) rfl rfl ?_
    show Steps p.tables e below (T9.setTop (mkF m 25 #[rv a7_0, iv ((31 : Int32) + x0), iv (1 : Int32)] [(.ref a7_0), (.int ((31 : Int32) * ((31 : Int32) + x0)))])) _
    refine st10 _ ?_
    show Steps p.tables e below (T10.setTop (mkF m 28 #[rv a7_0, iv ((31 : Int32) + x0), iv (1 : Int32)] [(.ref ar), (.int ((31 : Int32) * ((31 : Int32) + x0)))])) _
    refine XS.iloadN X10.here hx rfl (hb hby d7_28) rfl ?_
    show Steps p.tables e below (T10.setTop (mkF m 29 #[rv a7_0, iv ((31 : Int32) + x0), iv (1 : Int32)] [(.int (1 : Int32)), (.ref ar), (.int ((31 : Int32) * ((31 : Int32) + x0)))])) _
    refine X10.baloadBytes hx (j := (1 : Int32)) (v := (.int x1)) (by rw [e10]; exact Ar11.1) (State.isArrayOf_alike hZ.alike Ar11.2.1) Ar11.2.2 hin12 hat13 (g := (mkF m 29 #[rv a7_0, iv ((31 : Int32) + x0), iv (1 : Int32)] [(.int (1 : Int32)), (.ref ar), (.int ((31 : Int32) * ((31 : Int32) + x0)))])) rfl rfl (hb hby d7_29) _ ?_
    show Steps p.tables e below (T10.setTop (mkF m 30 #[rv a7_0, iv ((31 : Int32) + x0), iv (1 : Int32)] [(.int x1), (.int ((31 : Int32) * ((31 : Int32) + x0)))])) _
    refine XS.iadd X10.here hx rfl (hb hby d7_30) rfl ?_
    show Steps p.tables e below (T10.setTop (mkF m 31 #[rv a7_0, iv ((31 : Int32) + x0), iv (1 : Int32)] [(.int (((31 : Int32) * ((31 : Int32) + x0)) + x1))])) _
    refine XS.istoreN X10.here hx rfl (hb hby d7_31) rfl (l' := #[rv a7_0, iv (((31 : Int32) * ((31 : Int32) + x0)) + x1), iv (1 : Int32)]) rfl ?_
    show Steps p.tables e below (T10.setTop (mkF m 32 #[rv a7_0, iv (((31 : Int32) * ((31 : Int32) + x0)) + x1), iv (1 : Int32)] [])) _
    refine XS.iinc X10.here hx rfl (hb hby d7_32) rfl (l' := #[rv a7_0, iv (((31 : Int32) * ((31 : Int32) + x0)) + x1), iv (2 : Int32)]) rfl ?_
    show Steps p.tables e below (T10.setTop (mkF m 35 #[rv a7_0, iv (((31 : Int32) * ((31 : Int32) + x0)) + x1), iv (2 : Int32)] [])) _
    refine XS.goto X10.here hx rfl (pc0 := 35) (pc' := 7) rfl (hb hby d7_35) (by decide) (by decide) ?_
    show Steps p.tables e below (T10.setTop (mkF m 7 #[rv a7_0, iv (((31 : Int32) * ((31 : Int32) + x0)) + x1), iv (2 : Int32)] [])) _
    refine XS.iloadN X10.here hx rfl (hb hby d7_7) rfl ?_
    show Steps p.tables e below (T10.setTop (mkF m 8 #[rv a7_0, iv (((31 : Int32) * ((31 : Int32) + x0)) + x1), iv (2 : Int32)] [(.int (2 : Int32))])) _
    refine XS.aloadN X10.here hx rfl (hb hby d7_8) rfl rfl ?_
    show Steps p.tables e below (T10.setTop (mkF m 9 #[rv a7_0, iv (((31 : Int32) * ((31 : Int32) + x0)) + x1), iv (2 : Int32)] [(.ref a7_0), (.int (2 : Int32))])) _
    refine st14 _ ?_
    show Steps p.tables e below (T14.setTop (mkF m 12 #[rv a7_0, iv (((31 : Int32) * ((31 : Int32) + x0)) + x1), iv (2 : Int32)] [(.int (0 : Int32)), (.int (2 : Int32))])) _
    refine XS.aloadN X14.here hx rfl (hb hby d7_12) rfl rfl ?_
    show Steps p.tables e below (T14.setTop (mkF m 13 #[rv a7_0, iv (((31 : Int32) * ((31 : Int32) + x0)) + x1), iv (2 : Int32)] [(.ref a7_0), (.int (0 : Int32)), (.int (2 : Int32))])) _
    refine st15 _ ?_
    show Steps p.tables e below (T15.setTop (mkF m 16 #[rv a7_0, iv (((31 : Int32) * ((31 : Int32) + x0)) + x1), iv (2 : Int32)] [(.int (2 : Int32)), (.int (0 : Int32)), (.int (2 : Int32))])) _
    refine XS.iadd X15.here hx rfl (hb hby d7_16) rfl ?_
    show Steps p.tables e below (T15.setTop (mkF m 17 #[rv a7_0, iv (((31 : Int32) * ((31 : Int32) + x0)) + x1), iv (2 : Int32)] [(.int (2 : Int32)), (.int (2 : Int32))])) _
    refine XS.icmpYes X15.here hx rfl (pc0 := 17) (pc' := 38) rfl (hb hby d7_17) rfl (flt (by decide : ¬ ((2 : Int32) < (2 : Int32)))).2.1 (by decide) (by decide) ?_
    show Steps p.tables e below (T15.setTop (mkF m 38 #[rv a7_0, iv (((31 : Int32) * ((31 : Int32) + x0)) + x1), iv (2 : Int32)] [])) _
    refine XS.iloadN X15.here hx rfl (hb hby d7_38) rfl ?_
    show Steps p.tables e below (T15.setTop (mkF m 39 #[rv a7_0, iv (((31 : Int32) * ((31 : Int32) + x0)) + x1), iv (2 : Int32)] [(.int (((31 : Int32) * ((31 : Int32) + x0)) + x1))])) _
    exact retI X15 hx Bd.returns (hb hby d7_39) hr
  · show Q_rm_h0_2 Z _ _ _ _ _ _ _ h0 n0 _ T15.heap _
    rw [e15]
    exact ⟨rfl, N0, rfl⟩
theorem ef_rm_h0_3 (m : MethodId) (x0 : Addr) : entryFrame m #[(.ref x0)] 3 = mkF m 0 #[rv x0, .unset, .unset] [] := by first | (simp [entryFrame, mkF, argsToLocals, Value.category]; done) | rfl
def Q_rm_h0_3 (Z : State) (a7_0 : Addr) (ar : Addr) (x0 : Int32) (x1 : Int32) (x2 : Int32) (x3 : Int32) (x4 : Int32) (h0 : Heap) (n0 : Nat) (v : Option Value) (h : Heap) (L : List Loc) : Prop := v = some (.int (((31 : Int32) * (((31 : Int32) * ((31 : Int32) + x0)) + x1)) + x2)) ∧ Fr n0 L ∧ h = h0
set_option maxRecDepth 65536 in
set_option maxHeartbeats 40000000 in
theorem rm_h0_3 (l : Launch) (Z : State) (a0 : Array Value) (hw : ∀ d ∈ tables_1, d.before a0 Z = true) (ws : List Jvm.Cond) (a7_0 : Addr) (ar : Addr) (x0 : Int32) (x1 : Int32) (x2 : Int32) (x3 : Int32) (x4 : Int32) (h0 : Heap) (n0 : Nat) (Z0 : n0 ≤ h0.size) (pf_F_a7_0_array : Fld Z h0 a7_0 "com/example/tailwake/tailwake/source/mariadb/Slice" "array" "[B" (.ref ar)) (pf_F_a7_0_offset : Fld Z h0 a7_0 "com/example/tailwake/tailwake/source/mariadb/Slice" "offset" "I" (.int (0 : Int32))) (pf_F_a7_0_length : Fld Z h0 a7_0 "com/example/tailwake/tailwake/source/mariadb/Slice" "length" "I" (.int (3 : Int32))) (pf_A_ar : Av Z h0 ar .byte (5 : Int32) [(.int x0), (.int x1), (.int x2), (.int x3), (.int x4)] (.int (0 : Int32))) :
    MetFree l (⟨"com/example/tailwake/tailwake/source/mariadb/Slice", "hashCode", "()I"⟩ : MethodName) (head1 (Jvm.Cond.code (⟨"com/example/tailwake/tailwake/source/mariadb/Slice", "hashCode", "()I"⟩ : MethodName) prog_29_method_7_code 3 (some .int) :: ws) ({ frames := 0, cells := 0, slots := 0, locals := 0 } : Room)) (fun a U => a = #[(.ref a7_0)] ∧ Z.Warmed39 U.vm ∧ U.heap = h0) (fun _ _ _ _ _ => True) (fun _ U o U' => ∃ v L, o = .returned v ∧ Q_rm_h0_3 Z a7_0 ar x0 x1 x2 x3 x4 h0 n0 v U'.heap L ∧ FrameEnd U o U' L ({ frames := 0, cells := 0, slots := 0, locals := 0 } : Room).cells ({ frames := 0, cells := 0, slots := 0, locals := 0 } : Room).slots) := by
  refine MetFree.of_bodySF (plainFor_of_name pn_com_example_tailwake_tailwake_source_mariadb_Slice) hisR ?_
  intro p e s m args below meth c s₁ Bd hml0 hP hK
  obtain ⟨rfl, hZ, hh⟩ := hP
  have hx := Bd.exec
  have hby := Bd.bytes
  have hml : c.maxLocals = 3 := hml0
  have hown : s.vm.findClass "com/example/tailwake/tailwake/source/mariadb/Slice" = some m.cls := findClass_of_methodNamed Bd.named
  have hnm := (name_of_methodNamed Bd.named Bd.method).1
  have X0 : Stand p l e ({ frames := 0, cells := 0, slots := 0, locals := 0 } : Room) s m #[(.ref a7_0)] below meth c s₁ [] 0 0 := Stand.of_body Bd
  have e0 : s₁.heap = h0 := by rw [← hh, Bd.state]; rfl
  have N0 := Fr.nil n0
  have pre0 : ∀ t, Steps p.tables e below (s₁.setTop (mkF m 0 #[rv a7_0, .unset, .unset] [])) t → Steps p.tables e below (s₁.setTop (entryFrame m #[(.ref a7_0)] 3)) t := fun t k => castTop (ef_rm_h0_3 m a7_0) k
  have wo19 := hw _ (List.mem_of_getElem? (i := 19) rfl)
  have wo21 := hw _ (List.mem_of_getElem? (i := 21) rfl)
  have wo23 := hw _ (List.mem_of_getElem? (i := 23) rfl)
  obtain ⟨T1, X1, e1, st1⟩ := getF X0 hx hZ hown (host := "") (Or.inl wo21) Via.refl e0 pf_F_a7_0_offset (g := (mkF m 3 #[rv a7_0, iv (1 : Int32), .unset] [(.ref a7_0)])) rfl rfl (hb hby d7_3)
  obtain ⟨T2, X2, e2, st2⟩ := getF X1 hx hZ hown (host := "") (Or.inl wo21) Via.refl e1 pf_F_a7_0_offset (g := (mkF m 9 #[rv a7_0, iv (1 : Int32), iv (0 : Int32)] [(.ref a7_0), (.int (0 : Int32))])) rfl rfl (hb hby d7_9)
  obtain ⟨T3, X3, e3, st3⟩ := getF X2 hx hZ hown (host := "") (Or.inl wo23) Via.refl e2 pf_F_a7_0_length (g := (mkF m 13 #[rv a7_0, iv (1 : Int32), iv (0 : Int32)] [(.ref a7_0), (.int (0 : Int32)), (.int (0 : Int32))])) rfl rfl (hb hby d7_13)
  obtain ⟨T4, X4, e4, st4⟩ := getF X3 hx hZ hown (host := "") (Or.inl wo19) Via.refl e3 pf_F_a7_0_array (g := (mkF m 25 #[rv a7_0, iv (1 : Int32), iv (0 : Int32)] [(.ref a7_0), (.int (31 : Int32))])) rfl rfl (hb hby d7_25)
  obtain ⟨kk5, cl5, Ar5, qq5, Sz5, Nn5, Hs5, Gf5⟩ := id pf_A_ar
  have hin6 : ¬ ((0 : Int32) < 0 ∨ cl5.slots.size ≤ ((0 : Int32)).toNatClampNeg) := inb_of Sz5 ⟨by decide, by decide⟩
  have hat7 : cl5.slots[((0 : Int32)).toNatClampNeg]? = some (.int x0) := Has.at Hs5 hin6 rfl
  obtain ⟨T8, X8, e8, st8⟩ := getF X4 hx hZ hown (host := "") (Or.inl wo21) Via.refl e4 pf_F_a7_0_offset (g := (mkF m 9 #[rv a7_0, iv ((31 : Int32) + x0), iv (1 : Int32)] [(.ref a7_0), (.int (1 : Int32))])) rfl rfl (hb hby d7_9)
  obtain ⟨T9, X9, e9, st9⟩ := getF X8 hx hZ hown (host := "") (Or.inl wo23) Via.refl e8 pf_F_a7_0_length (g := (mkF m 13 #[rv a7_0, iv ((31 : Int32) + x0), iv (1 : Int32)] [(.ref a7_0), (.int (0 : Int32)), (.int (1 : Int32))])) rfl rfl (hb hby d7_13)
  obtain ⟨T10, X10, e10, st10⟩ := getF X9 hx hZ hown (host := "") (Or.inl wo19) Via.refl e9 pf_F_a7_0_array (g := (mkF m 25 #[rv a7_0, iv ((31 : Int32) + x0), iv (1 : Int32)] [(.ref a7_0), (.int ((31 : Int32) * ((31 : Int32) + x0)))])) rfl rfl (hb hby d7_25)
  obtain ⟨kk11, cl11, Ar11, qq11, Sz11, Nn11, Hs11, Gf11⟩ := id pf_A_ar
  have hin12 : ¬ ((1 : Int32) < 0 ∨ cl11.slots.size ≤ ((1 : Int32)).toNatClampNeg) := inb_of Sz11 ⟨by decide, by decide⟩
  have hat13 : cl11.slots[((1 : Int32)).toNatClampNeg]? = some (.int x1) := Has.at Hs11 hin12 rfl
  obtain ⟨T14, X14, e14, st14⟩ := getF X10 hx hZ hown (host := "") (Or.inl wo21) Via.refl e10 pf_F_a7_0_offset (g := (mkF m 9 #[rv a7_0, iv (((31 : Int32) * ((31 : Int32) + x0)) + x1), iv (2 : Int32)] [(.ref a7_0), (.int (2 : Int32))])) rfl rfl (hb hby d7_9)
  obtain ⟨T15, X15, e15, st15⟩ := getF X14 hx hZ hown (host := "") (Or.inl wo23) Via.refl e14 pf_F_a7_0_length (g := (mkF m 13 #[rv a7_0, iv (((31 : Int32) * ((31 : Int32) + x0)) + x1), iv (2 : Int32)] [(.ref a7_0), (.int (0 : Int32)), (.int (2 : Int32))])) rfl rfl (hb hby d7_13)
  obtain ⟨T16, X16, e16, st16⟩ := getF X15 hx hZ hown (host := "") (Or.inl wo19) Via.refl e15 pf_F_a7_0_array (g := (mkF m 25 #[rv a7_0, iv (((31 : Int32) * ((31 : Int32) + x0)) + x1), iv (2 : Int32)] [(.ref a7_0), (.int ((31 : Int32) * (((31 : Int32) * ((31 : Int32) + x0)) + x1)))])) rfl rfl (hb hby d7_25)
  obtain ⟨kk17, cl17, Ar17, qq17, Sz17, Nn17, Hs17, Gf17⟩ := id pf_A_ar
  have hin18 : ¬ ((2 : Int32) < 0 ∨ cl17.slots.size ≤ ((2 : Int32)).toNatClampNeg) := inb_of Sz17 ⟨by decide, by decide⟩
  have hat19 : cl17.slots[((2 : Int32)).toNatClampNeg]? = some (.int x2) := Has.at Hs17 hin18 rfl
  obtain ⟨T20, X20, e20, st20⟩ := getF X16 hx hZ hown (host := "") (Or.inl wo21) Via.refl e16 pf_F_a7_0_offset (g := (mkF m 9 #[rv a7_0, iv (((31 : Int32) * (((31 : Int32) * ((31 : Int32) + x0)) + x1)) + x2), iv (3 : Int32)] [(.ref a7_0), (.int (3 : Int32))])) rfl rfl (hb hby d7_9)
  obtain ⟨T21, X21, e21, st21⟩ := getF X20 hx hZ hown (host := "") (Or.inl wo23) Via.refl e20 pf_F_a7_0_length (g := (mkF m 13 #[rv a7_0, iv (((31 : Int32) * (((31 : Int32) * ((31 : Int32) + x0)) + x1)) + x2), iv (3 : Int32)] [(.ref a7_0), (.int (0 : Int32)), (.int (3 : Int32))])) rfl rfl (hb hby d7_13)
  obtain ⟨fs, hr, hrun, hended, hW, hsame⟩ := X21.leave (v := some (.int (((31 : Int32) * (((31 : Int32) * ((31 : Int32) + x0)) + x1)) + x2))) (fun h => by rw [Bd.returns] at h; cases h)
  refine ⟨_, _, pre0 _ ?_, hrun, hended, _, _, rfl, ?_, ⟨_, rfl⟩, hW, hsame.mono (by decide) (by decide)⟩
  · show Steps p.tables e below (s₁.setTop (mkF m 0 #[rv a7_0, .unset, .unset] [])) _
    refine XS.iconst X0.here hx rfl (hb hby d7_0) ?_
    show Steps p.tables e below (s₁.setTop (mkF m 1 #[rv a7_0, .unset, .unset] [(.int (1 : Int32))])) _
    refine XS.istoreN X0.here hx rfl (hb hby d7_1) rfl (l' := #[rv a7_0, iv (1 : Int32), .unset]) rfl ?_
    show Steps p.tables e below (s₁.setTop (mkF m 2 #[rv a7_0, iv (1 : Int32), .unset] [])) _
    refine XS.aloadN X0.here hx rfl (hb hby d7_2) rfl rfl ?_
    show Steps p.tables e below (s₁.setTop (mkF m 3 #[rv a7_0, iv (1 : Int32), .unset] [(.ref a7_0)])) _
    refine st1 _ ?_
    show Steps p.tables e below (T1.setTop (mkF m 6 #[rv a7_0, iv (1 : Int32), .unset] [(.int (0 : Int32))])) _
    refine XS.istoreN X1.here hx rfl (hb hby d7_6) rfl (l' := #[rv a7_0, iv (1 : Int32), iv (0 : Int32)]) rfl ?_
    show Steps p.tables e below (T1.setTop (mkF m 7 #[rv a7_0, iv (1 : Int32), iv (0 : Int32)] [])) _
    refine XS.iloadN X1.here hx rfl (hb hby d7_7) rfl ?_
    show Steps p.tables e below (T1.setTop (mkF m 8 #[rv a7_0, iv (1 : Int32), iv (0 : Int32)] [(.int (0 : Int32))])) _
    refine XS.aloadN X1.here hx rfl (hb hby d7_8) rfl rfl ?_
    show Steps p.tables e below (T1.setTop (mkF m 9 #[rv a7_0, iv (1 : Int32), iv (0 : Int32)] [(.ref a7_0), (.int (0 : Int32))])) _
    refine st2 _ ?_
    show Steps p.tables e below (T2.setTop (mkF m 12 #[rv a7_0, iv (1 : Int32), iv (0 : Int32)] [(.int (0 : Int32)), (.int (0 : Int32))])) _
    refine XS.aloadN X2.here hx rfl (hb hby d7_12) rfl rfl ?_
    show Steps p.tables e below (T2.setTop (mkF m 13 #[rv a7_0, iv (1 : Int32), iv (0 : Int32)] [(.ref a7_0), (.int (0 : Int32)), (.int (0 : Int32))])) _
    refine st3 _ ?_
    show Steps p.tables e below (T3.setTop (mkF m 16 #[rv a7_0, iv (1 : Int32), iv (0 : Int32)] [(.int (3 : Int32)), (.int (0 : Int32)), (.int (0 : Int32))])) _
    refine XS.iadd X3.here hx rfl (hb hby d7_16) rfl ?_
    show Steps p.tables e below (T3.setTop (mkF m 17 #[rv a7_0, iv (1 : Int32), iv (0 : Int32)] [(.int (3 : Int32)), (.int (0 : Int32))])) _
    refine XS.icmpNo X3.here hx rfl (hb hby d7_17) rfl (tlt (by decide : (0 : Int32) < (3 : Int32))).2.1 ?_
    show Steps p.tables e below (T3.setTop (mkF m 20 #[rv a7_0, iv (1 : Int32), iv (0 : Int32)] [])) _
    refine XS.bipush X3.here hx rfl (hb hby d7_20) ?_
    show Steps p.tables e below (T3.setTop (mkF m 22 #[rv a7_0, iv (1 : Int32), iv (0 : Int32)] [(.int (31 : Int32))])) _
    refine XS.iloadN X3.here hx rfl (hb hby d7_22) rfl ?_
    show Steps p.tables e below (T3.setTop (mkF m 23 #[rv a7_0, iv (1 : Int32), iv (0 : Int32)] [(.int (1 : Int32)), (.int (31 : Int32))])) _
    refine XS.imul X3.here hx rfl (hb hby d7_23) rfl ?_
    show Steps p.tables e below (T3.setTop (mkF m 24 #[rv a7_0, iv (1 : Int32), iv (0 : Int32)] [(.int (31 : Int32))])) _
    refine XS.aloadN X3.here hx rfl (hb hby d7_24) rfl rfl ?_
    show Steps p.tables e below (T3.setTop (mkF m 25 #[rv a7_0, iv (1 : Int32), iv (0 : Int32)] [(.ref a7_0), (.int (31 : Int32))])) _
    refine st4 _ ?_
    show Steps p.tables e below (T4.setTop (mkF m 28 #[rv a7_0, iv (1 : Int32), iv (0 : Int32)] [(.ref ar), (.int (31 : Int32))])) _
    refine XS.iloadN X4.here hx rfl (hb hby d7_28) rfl ?_
    show Steps p.tables e below (T4.setTop (mkF m 29 #[rv a7_0, iv (1 : Int32), iv (0 : Int32)] [(.int (0 : Int32)), (.ref ar), (.int (31 : Int32))])) _
    refine X4.baloadBytes hx (j := (0 : Int32)) (v := (.int x0)) (by rw [e4]; exact Ar5.1) (State.isArrayOf_alike hZ.alike Ar5.2.1) Ar5.2.2 hin6 hat7 (g := (mkF m 29 #[rv a7_0, iv (1 : Int32), iv (0 : Int32)] [(.int (0 : Int32)), (.ref ar), (.int (31 : Int32))])) rfl rfl (hb hby d7_29) _ ?_
    show Steps p.tables e below (T4.setTop (mkF m 30 #[rv a7_0, iv (1 : Int32), iv (0 : Int32)] [(.int x0), (.int (31 : Int32))])) _
    refine XS.iadd X4.here hx rfl (hb hby d7_30) rfl ?_
    show Steps p.tables e below (T4.setTop (mkF m 31 #[rv a7_0, iv (1 : Int32), iv (0 : Int32)] [(.int ((31 : Int32) + x0))])) _
    refine XS.istoreN X4.here hx rfl (hb hby d7_31) rfl (l' := #[rv a7_0, iv ((31 : Int32) + x0), iv (0 : Int32)]) rfl ?_
    show Steps p.tables e below (T4.setTop (mkF m 32 #[rv a7_0, iv ((31 : Int32) + x0), iv (0 : Int32)] [])) _
    refine XS.iinc X4.here hx rfl (hb hby d7_32) rfl (l' := #[rv a7_0, iv ((31 : Int32) + x0), iv (1 : Int32)]) rfl ?_
    show Steps p.tables e below (T4.setTop (mkF m 35 #[rv a7_0, iv ((31 : Int32) + x0), iv (1 : Int32)] [])) _
    refine XS.goto X4.here hx rfl (pc0 := 35) (pc' := 7) rfl (hb hby d7_35) (by decide) (by decide) ?_
    show Steps p.tables e below (T4.setTop (mkF m 7 #[rv a7_0, iv ((31 : Int32) + x0), iv (1 : Int32)] [])) _
    refine XS.iloadN X4.here hx rfl (hb hby d7_7) rfl ?_
    show Steps p.tables e below (T4.setTop (mkF m 8 #[rv a7_0, iv ((31 : Int32) + x0), iv (1 : Int32)] [(.int (1 : Int32))])) _
    refine XS.aloadN X4.here hx rfl (hb hby d7_8) rfl rfl ?_
    show Steps p.tables e below (T4.setTop (mkF m 9 #[rv a7_0, iv ((31 : Int32) + x0), iv (1 : Int32)] [(.ref a7_0), (.int (1 : Int32))])) _
    refine st8 _ ?_
    show Steps p.tables e below (T8.setTop (mkF m 12 #[rv a7_0, iv ((31 : Int32) + x0), iv (1 : Int32)] [(.int (0 : Int32)), (.int (1 : Int32))])) _
    refine XS.aloadN X8.here hx rfl (hb hby d7_12) rfl rfl ?_
    show Steps p.tables e below (T8.setTop (mkF m 13 #[rv a7_0, iv ((31 : Int32) + x0), iv (1 : Int32)] [(.ref a7_0), (.int (0 : Int32)), (.int (1 : Int32))])) _
    refine st9 _ ?_
    show Steps p.tables e below (T9.setTop (mkF m 16 #[rv a7_0, iv ((31 : Int32) + x0), iv (1 : Int32)] [(.int (3 : Int32)), (.int (0 : Int32)), (.int (1 : Int32))])) _
    refine XS.iadd X9.here hx rfl (hb hby d7_16) rfl ?_
    show Steps p.tables e below (T9.setTop (mkF m 17 #[rv a7_0, iv ((31 : Int32) + x0), iv (1 : Int32)] [(.int (3 : Int32)), (.int (1 : Int32))])) _
    refine XS.icmpNo X9.here hx rfl (hb hby d7_17) rfl (tlt (by decide : (1 : Int32) < (3 : Int32))).2.1 ?_
    show Steps p.tables e below (T9.setTop (mkF m 20 #[rv a7_0, iv ((31 : Int32) + x0), iv (1 : Int32)] [])) _
    refine XS.bipush X9.here hx rfl (hb hby d7_20) ?_
    show Steps p.tables e below (T9.setTop (mkF m 22 #[rv a7_0, iv ((31 : Int32) + x0), iv (1 : Int32)] [(.int (31 : Int32))])) _
    refine XS.iloadN X9.here hx rfl (hb hby d7_22) rfl ?_
    show Steps p.tables e below (T9.setTop (mkF m 23 #[rv a7_0, iv ((31 : Int32) + x0), iv (1 : Int32)] [(.int ((31 : Int32) + x0)), (.int (31 : Int32))])) _
    refine XS.imul X9.here hx rfl (hb hby d7_23) rfl ?_
    show Steps p.tables e below (T9.setTop (mkF m 24 #[rv a7_0, iv ((31 : Int32) + x0), iv (1 : Int32)] [(.int ((31 : Int32) * ((31 : Int32) + x0)))])) _
    refine XS.aloadN X9.here hx rfl (hb hby d7_24) rfl rfl ?_
    show Steps p.tables e below (T9.setTop (mkF m 25 #[rv a7_0, iv ((31 : Int32) + x0), iv (1 : Int32)] [(.ref a7_0), (.int ((31 : Int32) * ((31 : Int32) + x0)))])) _
    refine st10 _ ?_
    show Steps p.tables e below (T10.setTop (mkF m 28 #[rv a7_0, iv ((31 : Int32) + x0), iv (1 : Int32)] [(.ref ar), (.int ((31 : Int32) * ((31 : Int32) + x0)))])) _
    refine XS.iloadN X10.here hx rfl (hb hby d7_28) rfl ?_
    show Steps p.tables e below (T10.setTop (mkF m 29 #[rv a7_0, iv ((31 : Int32) + x0), iv (1 : Int32)] [(.int (1 : Int32)), (.ref ar), (.int ((31 : Int32) * ((31 : Int32) + x0)))])) _
    refine X10.baloadBytes hx (j := (1 : Int32)) (v := (.int x1)) (by rw [e10]; exact Ar11.1) (State.isArrayOf_alike hZ.alike Ar11.2.1) Ar11.2.2 hin12 hat13 (g := (mkF m 29 #[rv a7_0, iv ((31 : Int32) + x0), iv (1 : Int32)] [(.int (1 : Int32)), (.ref ar), (.int ((31 : Int32) * ((31 : Int32) + x0)))])) rfl rfl (hb hby d7_29) _ ?_
    show Steps p.tables e below (T10.setTop (mkF m 30 #[rv a7_0, iv ((31 : Int32) + x0), iv (1 : Int32)] [(.int x1), (.int ((31 : Int32) * ((31 : Int32) + x0)))])) _
    refine XS.iadd X10.here hx rfl (hb hby d7_30) rfl ?_
    show Steps p.tables e below (T10.setTop (mkF m 31 #[rv a7_0, iv ((31 : Int32) + x0), iv (1 : Int32)] [(.int (((31 : Int32) * ((31 : Int32) + x0)) + x1))])) _
    refine XS.istoreN X10.here hx rfl (hb hby d7_31) rfl (l' := #[rv a7_0, iv (((31 : Int32) * ((31 : Int32) + x0)) + x1), iv (1 : Int32)]) rfl ?_
    show Steps p.tables e below (T10.setTop (mkF m 32 #[rv a7_0, iv (((31 : Int32) * ((31 : Int32) + x0)) + x1), iv (1 : Int32)] [])) _
    refine XS.iinc X10.here hx rfl (hb hby d7_32) rfl (l' := #[rv a7_0, iv (((31 : Int32) * ((31 : Int32) + x0)) + x1), iv (2 : Int32)]) rfl ?_
    show Steps p.tables e below (T10.setTop (mkF m 35 #[rv a7_0, iv (((31 : Int32) * ((31 : Int32) + x0)) + x1), iv (2 : Int32)] [])) _
    refine XS.goto X10.here hx rfl (pc0 := 35) (pc' := 7) rfl (hb hby d7_35) (by decide) (by decide) ?_
    show Steps p.tables e below (T10.setTop (mkF m 7 #[rv a7_0, iv (((31 : Int32) * ((31 : Int32) + x0)) + x1), iv (2 : Int32)] [])) _
    refine XS.iloadN X10.here hx rfl (hb hby d7_7) rfl ?_
    show Steps p.tables e below (T10.setTop (mkF m 8 #[rv a7_0, iv (((31 : Int32) * ((31 : Int32) + x0)) + x1), iv (2 : Int32)] [(.int (2 : Int32))])) _
    refine XS.aloadN X10.here hx rfl (hb hby d7_8) rfl rfl ?_
    show Steps p.tables e below (T10.setTop (mkF m 9 #[rv a7_0, iv (((31 : Int32) * ((31 : Int32) + x0)) + x1), iv (2 : Int32)] [(.ref a7_0), (.int (2 : Int32))])) _
    refine st14 _ ?_
    show Steps p.tables e below (T14.setTop (mkF m 12 #[rv a7_0, iv (((31 : Int32) * ((31 : Int32) + x0)) + x1), iv (2 : Int32)] [(.int (0 : Int32)), (.int (2 : Int32))])) _
    refine XS.aloadN X14.here hx rfl (hb hby d7_12) rfl rfl ?_
    show Steps p.tables e below (T14.setTop (mkF m 13 #[rv a7_0, iv (((31 : Int32) * ((31 : Int32) + x0)) + x1), iv (2 : Int32)] [(.ref a7_0), (.int (0 : Int32)), (.int (2 : Int32))])) _
    refine st15 _ ?_
    show Steps p.tables e below (T15.setTop (mkF m 16 #[rv a7_0, iv (((31 : Int32) * ((31 : Int32) + x0)) + x1), iv (2 : Int32)] [(.int (3 : Int32)), (.int (0 : Int32)), (.int (2 : Int32))])) _
    refine XS.iadd X15.here hx rfl (hb hby d7_16) rfl ?_
    show Steps p.tables e below (T15.setTop (mkF m 17 #[rv a7_0, iv (((31 : Int32) * ((31 : Int32) + x0)) + x1), iv (2 : Int32)] [(.int (3 : Int32)), (.int (2 : Int32))])) _
    refine XS.icmpNo X15.here hx rfl (hb hby d7_17) rfl (tlt (by decide : (2 : Int32) < (3 : Int32))).2.1 ?_
    show Steps p.tables e below (T15.setTop (mkF m 20 #[rv a7_0, iv (((31 : Int32) * ((31 : Int32) + x0)) + x1), iv (2 : Int32)] [])) _
    refine XS.bipush X15.here hx rfl (hb hby d7_20) ?_
    show Steps p.tables e below (T15.setTop (mkF m 22 #[rv a7_0, iv (((31 : Int32) * ((31 : Int32) + x0)) + x1), iv (2 : Int32)] [(.int (31 : Int32))])) _
    refine XS.iloadN X15.here hx rfl (hb hby d7_22) rfl ?_
    show Steps p.tables e below (T15.setTop (mkF m 23 #[rv a7_0, iv (((31 : Int32) * ((31 : Int32) + x0)) + x1), iv (2 : Int32)] [(.int (((31 : Int32) * ((31 : Int32) + x0)) + x1)), (.int (31 : Int32))])) _
    refine XS.imul X15.here hx rfl (hb hby d7_23) rfl ?_
    show Steps p.tables e below (T15.setTop (mkF m 24 #[rv a7_0, iv (((31 : Int32) * ((31 : Int32) + x0)) + x1), iv (2 : Int32)] [(.int ((31 : Int32) * (((31 : Int32) * ((31 : Int32) + x0)) + x1)))])) _
    refine XS.aloadN X15.here hx rfl (hb hby d7_24) rfl rfl ?_
    show Steps p.tables e below (T15.setTop (mkF m 25 #[rv a7_0, iv (((31 : Int32) * ((31 : Int32) + x0)) + x1), iv (2 : Int32)] [(.ref a7_0), (.int ((31 : Int32) * (((31 : Int32) * ((31 : Int32) + x0)) + x1)))])) _
    refine st16 _ ?_
    show Steps p.tables e below (T16.setTop (mkF m 28 #[rv a7_0, iv (((31 : Int32) * ((31 : Int32) + x0)) + x1), iv (2 : Int32)] [(.ref ar), (.int ((31 : Int32) * (((31 : Int32) * ((31 : Int32) + x0)) + x1)))])) _
    refine XS.iloadN X16.here hx rfl (hb hby d7_28) rfl ?_
    show Steps p.tables e below (T16.setTop (mkF m 29 #[rv a7_0, iv (((31 : Int32) * ((31 : Int32) + x0)) + x1), iv (2 : Int32)] [(.int (2 : Int32)), (.ref ar), (.int ((31 : Int32) * (((31 : Int32) * ((31 : Int32) + x0)) + x1)))])) _
    refine X16.baloadBytes hx (j := (2 : Int32)) (v := (.int x2)) (by rw [e16]; exact Ar17.1) (State.isArrayOf_alike hZ.alike Ar17.2.1) Ar17.2.2 hin18 hat19 (g := (mkF m 29 #[rv a7_0, iv (((31 : Int32) * ((31 : Int32) + x0)) + x1), iv (2 : Int32)] [(.int (2 : Int32)), (.ref ar), (.int ((31 : Int32) * (((31 : Int32) * ((31 : Int32) + x0)) + x1)))])) rfl rfl (hb hby d7_29) _ ?_
    show Steps p.tables e below (T16.setTop (mkF m 30 #[rv a7_0, iv (((31 : Int32) * ((31 : Int32) + x0)) + x1), iv (2 : Int32)] [(.int x2), (.int ((31 : Int32) * (((31 : Int32) * ((31 : Int32) + x0)) + x1)))])) _
    refine XS.iadd X16.here hx rfl (hb hby d7_30) rfl ?_
    show Steps p.tables e below (T16.setTop (mkF m 31 #[rv a7_0, iv (((31 : Int32) * ((31 : Int32) + x0)) + x1), iv (2 : Int32)] [(.int (((31 : Int32) * (((31 : Int32) * ((31 : Int32) + x0)) + x1)) + x2))])) _
    refine XS.istoreN X16.here hx rfl (hb hby d7_31) rfl (l' := #[rv a7_0, iv (((31 : Int32) * (((31 : Int32) * ((31 : Int32) + x0)) + x1)) + x2), iv (2 : Int32)]) rfl ?_
    show Steps p.tables e below (T16.setTop (mkF m 32 #[rv a7_0, iv (((31 : Int32) * (((31 : Int32) * ((31 : Int32) + x0)) + x1)) + x2), iv (2 : Int32)] [])) _
    refine XS.iinc X16.here hx rfl (hb hby d7_32) rfl (l' := #[rv a7_0, iv (((31 : Int32) * (((31 : Int32) * ((31 : Int32) + x0)) + x1)) + x2), iv (3 : Int32)]) rfl ?_
    show Steps p.tables e below (T16.setTop (mkF m 35 #[rv a7_0, iv (((31 : Int32) * (((31 : Int32) * ((31 : Int32) + x0)) + x1)) + x2), iv (3 : Int32)] [])) _
    refine XS.goto X16.here hx rfl (pc0 := 35) (pc' := 7) rfl (hb hby d7_35) (by decide) (by decide) ?_
    show Steps p.tables e below (T16.setTop (mkF m 7 #[rv a7_0, iv (((31 : Int32) * (((31 : Int32) * ((31 : Int32) + x0)) + x1)) + x2), iv (3 : Int32)] [])) _
    refine XS.iloadN X16.here hx rfl (hb hby d7_7) rfl ?_
    show Steps p.tables e below (T16.setTop (mkF m 8 #[rv a7_0, iv (((31 : Int32) * (((31 : Int32) * ((31 : Int32) + x0)) + x1)) + x2), iv (3 : Int32)] [(.int (3 : Int32))])) _
    refine XS.aloadN X16.here hx rfl (hb hby d7_8) rfl rfl ?_
    show Steps p.tables e below (T16.setTop (mkF m 9 #[rv a7_0, iv (((31 : Int32) * (((31 : Int32) * ((31 : Int32) + x0)) + x1)) + x2), iv (3 : Int32)] [(.ref a7_0), (.int (3 : Int32))])) _
    refine st20 _ ?_
    show Steps p.tables e below (T20.setTop (mkF m 12 #[rv a7_0, iv (((31 : Int32) * (((31 : Int32) * ((31 : Int32) + x0)) + x1)) + x2), iv (3 : Int32)] [(.int (0 : Int32)), (.int (3 : Int32))])) _
    refine XS.aloadN X20.here hx rfl (hb hby d7_12) rfl rfl ?_
    show Steps p.tables e below (T20.setTop (mkF m 13 #[rv a7_0, iv (((31 : Int32) * (((31 : Int32) * ((31 : Int32) + x0)) + x1)) + x2), iv (3 : Int32)] [(.ref a7_0), (.int (0 : Int32)), (.int (3 : Int32))])) _
    refine st21 _ ?_
    show Steps p.tables e below (T21.setTop (mkF m 16 #[rv a7_0, iv (((31 : Int32) * (((31 : Int32) * ((31 : Int32) + x0)) + x1)) + x2), iv (3 : Int32)] [(.int (3 : Int32)), (.int (0 : Int32)), (.int (3 : Int32))])) _
    refine XS.iadd X21.here hx rfl (hb hby d7_16) rfl ?_
    show Steps p.tables e below (T21.setTop (mkF m 17 #[rv a7_0, iv (((31 : Int32) * (((31 : Int32) * ((31 : Int32) + x0)) + x1)) + x2), iv (3 : Int32)] [(.int (3 : Int32)), (.int (3 : Int32))])) _
    refine XS.icmpYes X21.here hx rfl (pc0 := 17) (pc' := 38) rfl (hb hby d7_17) rfl (flt (by decide : ¬ ((3 : Int32) < (3 : Int32)))).2.1 (by decide) (by decide) ?_
    show Steps p.tables e below (T21.setTop (mkF m 38 #[rv a7_0, iv (((31 : Int32) * (((31 : Int32) * ((31 : Int32) + x0)) + x1)) + x2), iv (3 : Int32)] [])) _
    refine XS.iloadN X21.here hx rfl (hb hby d7_38) rfl ?_
    show Steps p.tables e below (T21.setTop (mkF m 39 #[rv a7_0, iv (((31 : Int32) * (((31 : Int32) * ((31 : Int32) + x0)) + x1)) + x2), iv (3 : Int32)] [(.int (((31 : Int32) * (((31 : Int32) * ((31 : Int32) + x0)) + x1)) + x2))])) _
    exact retI X21 hx Bd.returns (hb hby d7_39) hr
  · show Q_rm_h0_3 Z _ _ _ _ _ _ _ h0 n0 _ T21.heap _
    rw [e21]
    exact ⟨rfl, N0, rfl⟩
theorem ef_rm_h0_4 (m : MethodId) (x0 : Addr) : entryFrame m #[(.ref x0)] 3 = mkF m 0 #[rv x0, .unset, .unset] [] := by first | (simp [entryFrame, mkF, argsToLocals, Value.category]; done) | rfl
def Q_rm_h0_4 (Z : State) (a7_0 : Addr) (ar : Addr) (x0 : Int32) (x1 : Int32) (x2 : Int32) (x3 : Int32) (x4 : Int32) (h0 : Heap) (n0 : Nat) (v : Option Value) (h : Heap) (L : List Loc) : Prop := v = some (.int (((31 : Int32) * (((31 : Int32) * (((31 : Int32) * ((31 : Int32) + x0)) + x1)) + x2)) + x3)) ∧ Fr n0 L ∧ h = h0
set_option maxRecDepth 65536 in
set_option maxHeartbeats 40000000 in
theorem rm_h0_4 (l : Launch) (Z : State) (a0 : Array Value) (hw : ∀ d ∈ tables_1, d.before a0 Z = true) (ws : List Jvm.Cond) (a7_0 : Addr) (ar : Addr) (x0 : Int32) (x1 : Int32) (x2 : Int32) (x3 : Int32) (x4 : Int32) (h0 : Heap) (n0 : Nat) (Z0 : n0 ≤ h0.size) (pf_F_a7_0_array : Fld Z h0 a7_0 "com/example/tailwake/tailwake/source/mariadb/Slice" "array" "[B" (.ref ar)) (pf_F_a7_0_offset : Fld Z h0 a7_0 "com/example/tailwake/tailwake/source/mariadb/Slice" "offset" "I" (.int (0 : Int32))) (pf_F_a7_0_length : Fld Z h0 a7_0 "com/example/tailwake/tailwake/source/mariadb/Slice" "length" "I" (.int (4 : Int32))) (pf_A_ar : Av Z h0 ar .byte (5 : Int32) [(.int x0), (.int x1), (.int x2), (.int x3), (.int x4)] (.int (0 : Int32))) :
    MetFree l (⟨"com/example/tailwake/tailwake/source/mariadb/Slice", "hashCode", "()I"⟩ : MethodName) (head1 (Jvm.Cond.code (⟨"com/example/tailwake/tailwake/source/mariadb/Slice", "hashCode", "()I"⟩ : MethodName) prog_29_method_7_code 3 (some .int) :: ws) ({ frames := 0, cells := 0, slots := 0, locals := 0 } : Room)) (fun a U => a = #[(.ref a7_0)] ∧ Z.Warmed39 U.vm ∧ U.heap = h0) (fun _ _ _ _ _ => True) (fun _ U o U' => ∃ v L, o = .returned v ∧ Q_rm_h0_4 Z a7_0 ar x0 x1 x2 x3 x4 h0 n0 v U'.heap L ∧ FrameEnd U o U' L ({ frames := 0, cells := 0, slots := 0, locals := 0 } : Room).cells ({ frames := 0, cells := 0, slots := 0, locals := 0 } : Room).slots) := by
  refine MetFree.of_bodySF (plainFor_of_name pn_com_example_tailwake_tailwake_source_mariadb_Slice) hisR ?_
  intro p e s m args below meth c s₁ Bd hml0 hP hK
  obtain ⟨rfl, hZ, hh⟩ := hP
  have hx := Bd.exec
  have hby := Bd.bytes
  have hml : c.maxLocals = 3 := hml0
  have hown : s.vm.findClass "com/example/tailwake/tailwake/source/mariadb/Slice" = some m.cls := findClass_of_methodNamed Bd.named
  have hnm := (name_of_methodNamed Bd.named Bd.method).1
  have X0 : Stand p l e ({ frames := 0, cells := 0, slots := 0, locals := 0 } : Room) s m #[(.ref a7_0)] below meth c s₁ [] 0 0 := Stand.of_body Bd
  have e0 : s₁.heap = h0 := by rw [← hh, Bd.state]; rfl
  have N0 := Fr.nil n0
  have pre0 : ∀ t, Steps p.tables e below (s₁.setTop (mkF m 0 #[rv a7_0, .unset, .unset] [])) t → Steps p.tables e below (s₁.setTop (entryFrame m #[(.ref a7_0)] 3)) t := fun t k => castTop (ef_rm_h0_4 m a7_0) k
  have wo19 := hw _ (List.mem_of_getElem? (i := 19) rfl)
  have wo21 := hw _ (List.mem_of_getElem? (i := 21) rfl)
  have wo23 := hw _ (List.mem_of_getElem? (i := 23) rfl)
  obtain ⟨T1, X1, e1, st1⟩ := getF X0 hx hZ hown (host := "") (Or.inl wo21) Via.refl e0 pf_F_a7_0_offset (g := (mkF m 3 #[rv a7_0, iv (1 : Int32), .unset] [(.ref a7_0)])) rfl rfl (hb hby d7_3)
  obtain ⟨T2, X2, e2, st2⟩ := getF X1 hx hZ hown (host := "") (Or.inl wo21) Via.refl e1 pf_F_a7_0_offset (g := (mkF m 9 #[rv a7_0, iv (1 : Int32), iv (0 : Int32)] [(.ref a7_0), (.int (0 : Int32))])) rfl rfl (hb hby d7_9)
  obtain ⟨T3, X3, e3, st3⟩ := getF X2 hx hZ hown (host := "") (Or.inl wo23) Via.refl e2 pf_F_a7_0_length (g := (mkF m 13 #[rv a7_0, iv (1 : Int32), iv (0 : Int32)] [(.ref a7_0), (.int (0 : Int32)), (.int (0 : Int32))])) rfl rfl (hb hby d7_13)
  obtain ⟨T4, X4, e4, st4⟩ := getF X3 hx hZ hown (host := "") (Or.inl wo19) Via.refl e3 pf_F_a7_0_array (g := (mkF m 25 #[rv a7_0, iv (1 : Int32), iv (0 : Int32)] [(.ref a7_0), (.int (31 : Int32))])) rfl rfl (hb hby d7_25)
  obtain ⟨kk5, cl5, Ar5, qq5, Sz5, Nn5, Hs5, Gf5⟩ := id pf_A_ar
  have hin6 : ¬ ((0 : Int32) < 0 ∨ cl5.slots.size ≤ ((0 : Int32)).toNatClampNeg) := inb_of Sz5 ⟨by decide, by decide⟩
  have hat7 : cl5.slots[((0 : Int32)).toNatClampNeg]? = some (.int x0) := Has.at Hs5 hin6 rfl
  obtain ⟨T8, X8, e8, st8⟩ := getF X4 hx hZ hown (host := "") (Or.inl wo21) Via.refl e4 pf_F_a7_0_offset (g := (mkF m 9 #[rv a7_0, iv ((31 : Int32) + x0), iv (1 : Int32)] [(.ref a7_0), (.int (1 : Int32))])) rfl rfl (hb hby d7_9)
  obtain ⟨T9, X9, e9, st9⟩ := getF X8 hx hZ hown (host := "") (Or.inl wo23) Via.refl e8 pf_F_a7_0_length (g := (mkF m 13 #[rv a7_0, iv ((31 : Int32) + x0), iv (1 : Int32)] [(.ref a7_0), (.int (0 : Int32)), (.int (1 : Int32))])) rfl rfl (hb hby d7_13)
  obtain ⟨T10, X10, e10, st10⟩ := getF X9 hx hZ hown (host := "") (Or.inl wo19) Via.refl e9 pf_F_a7_0_array (g := (mkF m 25 #[rv a7_0, iv ((31 : Int32) + x0), iv (1 : Int32)] [(.ref a7_0), (.int ((31 : Int32) * ((31 : Int32) + x0)))])) rfl rfl (hb hby d7_25)
  obtain ⟨kk11, cl11, Ar11, qq11, Sz11, Nn11, Hs11, Gf11⟩ := id pf_A_ar
  have hin12 : ¬ ((1 : Int32) < 0 ∨ cl11.slots.size ≤ ((1 : Int32)).toNatClampNeg) := inb_of Sz11 ⟨by decide, by decide⟩
  have hat13 : cl11.slots[((1 : Int32)).toNatClampNeg]? = some (.int x1) := Has.at Hs11 hin12 rfl
  obtain ⟨T14, X14, e14, st14⟩ := getF X10 hx hZ hown (host := "") (Or.inl wo21) Via.refl e10 pf_F_a7_0_offset (g := (mkF m 9 #[rv a7_0, iv (((31 : Int32) * ((31 : Int32) + x0)) + x1), iv (2 : Int32)] [(.ref a7_0), (.int (2 : Int32))])) rfl rfl (hb hby d7_9)
  obtain ⟨T15, X15, e15, st15⟩ := getF X14 hx hZ hown (host := "") (Or.inl wo23) Via.refl e14 pf_F_a7_0_length (g := (mkF m 13 #[rv a7_0, iv (((31 : Int32) * ((31 : Int32) + x0)) + x1), iv (2 : Int32)] [(.ref a7_0), (.int (0 : Int32)), (.int (2 : Int32))])) rfl rfl (hb hby d7_13)
  obtain ⟨T16, X16, e16, st16⟩ := getF X15 hx hZ hown (host := "") (Or.inl wo19) Via.refl e15 pf_F_a7_0_array (g := (mkF m 25 #[rv a7_0, iv (((31 : Int32) * ((31 : Int32) + x0)) + x1), iv (2 : Int32)] [(.ref a7_0), (.int ((31 : Int32) * (((31 : Int32) * ((31 : Int32) + x0)) + x1)))])) rfl rfl (hb hby d7_25)
  obtain ⟨kk17, cl17, Ar17, qq17, Sz17, Nn17, Hs17, Gf17⟩ := id pf_A_ar
  have hin18 : ¬ ((2 : Int32) < 0 ∨ cl17.slots.size ≤ ((2 : Int32)).toNatClampNeg) := inb_of Sz17 ⟨by decide, by decide⟩
  have hat19 : cl17.slots[((2 : Int32)).toNatClampNeg]? = some (.int x2) := Has.at Hs17 hin18 rfl
  obtain ⟨T20, X20, e20, st20⟩ := getF X16 hx hZ hown (host := "") (Or.inl wo21) Via.refl e16 pf_F_a7_0_offset (g := (mkF m 9 #[rv a7_0, iv (((31 : Int32) * (((31 : Int32) * ((31 : Int32) + x0)) + x1)) + x2), iv (3 : Int32)] [(.ref a7_0), (.int (3 : Int32))])) rfl rfl (hb hby d7_9)
  obtain ⟨T21, X21, e21, st21⟩ := getF X20 hx hZ hown (host := "") (Or.inl wo23) Via.refl e20 pf_F_a7_0_length (g := (mkF m 13 #[rv a7_0, iv (((31 : Int32) * (((31 : Int32) * ((31 : Int32) + x0)) + x1)) + x2), iv (3 : Int32)] [(.ref a7_0), (.int (0 : Int32)), (.int (3 : Int32))])) rfl rfl (hb hby d7_13)
  obtain ⟨T22, X22, e22, st22⟩ := getF X21 hx hZ hown (host := "") (Or.inl wo19) Via.refl e21 pf_F_a7_0_array (g := (mkF m 25 #[rv a7_0, iv (((31 : Int32) * (((31 : Int32) * ((31 : Int32) + x0)) + x1)) + x2), iv (3 : Int32)] [(.ref a7_0), (.int ((31 : Int32) * (((31 : Int32) * (((31 : Int32) * ((31 : Int32) + x0)) + x1)) + x2)))])) rfl rfl (hb hby d7_25)
  obtain ⟨kk23, cl23, Ar23, qq23, Sz23, Nn23, Hs23, Gf23⟩ := id pf_A_ar
  have hin24 : ¬ ((3 : Int32) < 0 ∨ cl23.slots.size ≤ ((3 : Int32)).toNatClampNeg) := inb_of Sz23 ⟨by decide, by decide⟩
  have hat25 : cl23.slots[((3 : Int32)).toNatClampNeg]? = some (.int x3) := Has.at Hs23 hin24 rfl
  obtain ⟨T26, X26, e26, st26⟩ := getF X22 hx hZ hown (host := "") (Or.inl wo21) Via.refl e22 pf_F_a7_0_offset (g := (mkF m 9 #[rv a7_0, iv (((31 : Int32) * (((31 : Int32) * (((31 : Int32) * ((31 : Int32) + x0)) + x1)) + x2)) + x3), iv (4 : Int32)] [(.ref a7_0), (.int (4 : Int32))])) rfl rfl (hb hby d7_9)
  obtain ⟨T27, X27, e27, st27⟩ := getF X26 hx hZ hown (host := "") (Or.inl wo23) Via.refl e26 pf_F_a7_0_length (g := (mkF m 13 #[rv a7_0, iv (((31 : Int32) * (((31 : Int32) * (((31 : Int32) * ((31 : Int32) + x0)) + x1)) + x2)) + x3), iv (4 : Int32)] [(.ref a7_0), (.int (0 : Int32)), (.int (4 : Int32))])) rfl rfl (hb hby d7_13)
  obtain ⟨fs, hr, hrun, hended, hW, hsame⟩ := X27.leave (v := some (.int (((31 : Int32) * (((31 : Int32) * (((31 : Int32) * ((31 : Int32) + x0)) + x1)) + x2)) + x3))) (fun h => by rw [Bd.returns] at h; cases h)
  refine ⟨_, _, pre0 _ ?_, hrun, hended, _, _, rfl, ?_, ⟨_, rfl⟩, hW, hsame.mono (by decide) (by decide)⟩
  · show Steps p.tables e below (s₁.setTop (mkF m 0 #[rv a7_0, .unset, .unset] [])) _
    refine XS.iconst X0.here hx rfl (hb hby d7_0) ?_
    show Steps p.tables e below (s₁.setTop (mkF m 1 #[rv a7_0, .unset, .unset] [(.int (1 : Int32))])) _
    refine XS.istoreN X0.here hx rfl (hb hby d7_1) rfl (l' := #[rv a7_0, iv (1 : Int32), .unset]) rfl ?_
    show Steps p.tables e below (s₁.setTop (mkF m 2 #[rv a7_0, iv (1 : Int32), .unset] [])) _
    refine XS.aloadN X0.here hx rfl (hb hby d7_2) rfl rfl ?_
    show Steps p.tables e below (s₁.setTop (mkF m 3 #[rv a7_0, iv (1 : Int32), .unset] [(.ref a7_0)])) _
    refine st1 _ ?_
    show Steps p.tables e below (T1.setTop (mkF m 6 #[rv a7_0, iv (1 : Int32), .unset] [(.int (0 : Int32))])) _
    refine XS.istoreN X1.here hx rfl (hb hby d7_6) rfl (l' := #[rv a7_0, iv (1 : Int32), iv (0 : Int32)]) rfl ?_
    show Steps p.tables e below (T1.setTop (mkF m 7 #[rv a7_0, iv (1 : Int32), iv (0 : Int32)] [])) _
    refine XS.iloadN X1.here hx rfl (hb hby d7_7) rfl ?_
    show Steps p.tables e below (T1.setTop (mkF m 8 #[rv a7_0, iv (1 : Int32), iv (0 : Int32)] [(.int (0 : Int32))])) _
    refine XS.aloadN X1.here hx rfl (hb hby d7_8) rfl rfl ?_
    show Steps p.tables e below (T1.setTop (mkF m 9 #[rv a7_0, iv (1 : Int32), iv (0 : Int32)] [(.ref a7_0), (.int (0 : Int32))])) _
    refine st2 _ ?_
    show Steps p.tables e below (T2.setTop (mkF m 12 #[rv a7_0, iv (1 : Int32), iv (0 : Int32)] [(.int (0 : Int32)), (.int (0 : Int32))])) _
    refine XS.aloadN X2.here hx rfl (hb hby d7_12) rfl rfl ?_
    show Steps p.tables e below (T2.setTop (mkF m 13 #[rv a7_0, iv (1 : Int32), iv (0 : Int32)] [(.ref a7_0), (.int (0 : Int32)), (.int (0 : Int32))])) _
    refine st3 _ ?_
    show Steps p.tables e below (T3.setTop (mkF m 16 #[rv a7_0, iv (1 : Int32), iv (0 : Int32)] [(.int (4 : Int32)), (.int (0 : Int32)), (.int (0 : Int32))])) _
    refine XS.iadd X3.here hx rfl (hb hby d7_16) rfl ?_
    show Steps p.tables e below (T3.setTop (mkF m 17 #[rv a7_0, iv (1 : Int32), iv (0 : Int32)] [(.int (4 : Int32)), (.int (0 : Int32))])) _
    refine XS.icmpNo X3.here hx rfl (hb hby d7_17) rfl (tlt (by decide : (0 : Int32) < (4 : Int32))).2.1 ?_
    show Steps p.tables e below (T3.setTop (mkF m 20 #[rv a7_0, iv (1 : Int32), iv (0 : Int32)] [])) _
    refine XS.bipush X3.here hx rfl (hb hby d7_20) ?_
    show Steps p.tables e below (T3.setTop (mkF m 22 #[rv a7_0, iv (1 : Int32), iv (0 : Int32)] [(.int (31 : Int32))])) _
    refine XS.iloadN X3.here hx rfl (hb hby d7_22) rfl ?_
    show Steps p.tables e below (T3.setTop (mkF m 23 #[rv a7_0, iv (1 : Int32), iv (0 : Int32)] [(.int (1 : Int32)), (.int (31 : Int32))])) _
    refine XS.imul X3.here hx rfl (hb hby d7_23) rfl ?_
    show Steps p.tables e below (T3.setTop (mkF m 24 #[rv a7_0, iv (1 : Int32), iv (0 : Int32)] [(.int (31 : Int32))])) _
    refine XS.aloadN X3.here hx rfl (hb hby d7_24) rfl rfl ?_
    show Steps p.tables e below (T3.setTop (mkF m 25 #[rv a7_0, iv (1 : Int32), iv (0 : Int32)] [(.ref a7_0), (.int (31 : Int32))])) _
    refine st4 _ ?_
    show Steps p.tables e below (T4.setTop (mkF m 28 #[rv a7_0, iv (1 : Int32), iv (0 : Int32)] [(.ref ar), (.int (31 : Int32))])) _
    refine XS.iloadN X4.here hx rfl (hb hby d7_28) rfl ?_
    show Steps p.tables e below (T4.setTop (mkF m 29 #[rv a7_0, iv (1 : Int32), iv (0 : Int32)] [(.int (0 : Int32)), (.ref ar), (.int (31 : Int32))])) _
    refine X4.baloadBytes hx (j := (0 : Int32)) (v := (.int x0)) (by rw [e4]; exact Ar5.1) (State.isArrayOf_alike hZ.alike Ar5.2.1) Ar5.2.2 hin6 hat7 (g := (mkF m 29 #[rv a7_0, iv (1 : Int32), iv (0 : Int32)] [(.int (0 : Int32)), (.ref ar), (.int (31 : Int32))])) rfl rfl (hb hby d7_29) _ ?_
    show Steps p.tables e below (T4.setTop (mkF m 30 #[rv a7_0, iv (1 : Int32), iv (0 : Int32)] [(.int x0), (.int (31 : Int32))])) _
    refine XS.iadd X4.here hx rfl (hb hby d7_30) rfl ?_
    show Steps p.tables e below (T4.setTop (mkF m 31 #[rv a7_0, iv (1 : Int32), iv (0 : Int32)] [(.int ((31 : Int32) + x0))])) _
    refine XS.istoreN X4.here hx rfl (hb hby d7_31) rfl (l' := #[rv a7_0, iv ((31 : Int32) + x0), iv (0 : Int32)]) rfl ?_
    show Steps p.tables e below (T4.setTop (mkF m 32 #[rv a7_0, iv ((31 : Int32) + x0), iv (0 : Int32)] [])) _
    refine XS.iinc X4.here hx rfl (hb hby d7_32) rfl (l' := #[rv a7_0, iv ((31 : Int32) + x0), iv (1 : Int32)]) rfl ?_
    show Steps p.tables e below (T4.setTop (mkF m 35 #[rv a7_0, iv ((31 : Int32) + x0), iv (1 : Int32)] [])) _
    refine XS.goto X4.here hx rfl (pc0 := 35) (pc' := 7) rfl (hb hby d7_35) (by decide) (by decide) ?_
    show Steps p.tables e below (T4.setTop (mkF m 7 #[rv a7_0, iv ((31 : Int32) + x0), iv (1 : Int32)] [])) _
    refine XS.iloadN X4.here hx rfl (hb hby d7_7) rfl ?_
    show Steps p.tables e below (T4.setTop (mkF m 8 #[rv a7_0, iv ((31 : Int32) + x0), iv (1 : Int32)] [(.int (1 : Int32))])) _
    refine XS.aloadN X4.here hx rfl (hb hby d7_8) rfl rfl ?_
    show Steps p.tables e below (T4.setTop (mkF m 9 #[rv a7_0, iv ((31 : Int32) + x0), iv (1 : Int32)] [(.ref a7_0), (.int (1 : Int32))])) _
    refine st8 _ ?_
    show Steps p.tables e below (T8.setTop (mkF m 12 #[rv a7_0, iv ((31 : Int32) + x0), iv (1 : Int32)] [(.int (0 : Int32)), (.int (1 : Int32))])) _
    refine XS.aloadN X8.here hx rfl (hb hby d7_12) rfl rfl ?_
    show Steps p.tables e below (T8.setTop (mkF m 13 #[rv a7_0, iv ((31 : Int32) + x0), iv (1 : Int32)] [(.ref a7_0), (.int (0 : Int32)), (.int (1 : Int32))])) _
    refine st9 _ ?_
    show Steps p.tables e below (T9.setTop (mkF m 16 #[rv a7_0, iv ((31 : Int32) + x0), iv (1 : Int32)] [(.int (4 : Int32)), (.int (0 : Int32)), (.int (1 : Int32))])) _
    refine XS.iadd X9.here hx rfl (hb hby d7_16) rfl ?_
    show Steps p.tables e below (T9.setTop (mkF m 17 #[rv a7_0, iv ((31 : Int32) + x0), iv (1 : Int32)] [(.int (4 : Int32)), (.int (1 : Int32))])) _
    refine XS.icmpNo X9.here hx rfl (hb hby d7_17) rfl (tlt (by decide : (1 : Int32) < (4 : Int32))).2.1 ?_
    show Steps p.tables e below (T9.setTop (mkF m 20 #[rv a7_0, iv ((31 : Int32) + x0), iv (1 : Int32)] [])) _
    refine XS.bipush X9.here hx rfl (hb hby d7_20) ?_
    show Steps p.tables e below (T9.setTop (mkF m 22 #[rv a7_0, iv ((31 : Int32) + x0), iv (1 : Int32)] [(.int (31 : Int32))])) _
    refine XS.iloadN X9.here hx rfl (hb hby d7_22) rfl ?_
    show Steps p.tables e below (T9.setTop (mkF m 23 #[rv a7_0, iv ((31 : Int32) + x0), iv (1 : Int32)] [(.int ((31 : Int32) + x0)), (.int (31 : Int32))])) _
    refine XS.imul X9.here hx rfl (hb hby d7_23) rfl ?_
    show Steps p.tables e below (T9.setTop (mkF m 24 #[rv a7_0, iv ((31 : Int32) + x0), iv (1 : Int32)] [(.int ((31 : Int32) * ((31 : Int32) + x0)))])) _
    refine XS.aloadN X9.here hx rfl (hb hby d7_24) rfl rfl ?_
    show Steps p.tables e below (T9.setTop (mkF m 25 #[rv a7_0, iv ((31 : Int32) + x0), iv (1 : Int32)] [(.ref a7_0), (.int ((31 : Int32) * ((31 : Int32) + x0)))])) _
    refine st10 _ ?_
    show Steps p.tables e below (T10.setTop (mkF m 28 #[rv a7_0, iv ((31 : Int32) + x0), iv (1 : Int32)] [(.ref ar), (.int ((31 : Int32) * ((31 : Int32) + x0)))])) _
    refine XS.iloadN X10.here hx rfl (hb hby d7_28) rfl ?_
    show Steps p.tables e below (T10.setTop (mkF m 29 #[rv a7_0, iv ((31 : Int32) + x0), iv (1 : Int32)] [(.int (1 : Int32)), (.ref ar), (.int ((31 : Int32) * ((31 : Int32) + x0)))])) _
    refine X10.baloadBytes hx (j := (1 : Int32)) (v := (.int x1)) (by rw [e10]; exact Ar11.1) (State.isArrayOf_alike hZ.alike Ar11.2.1) Ar11.2.2 hin12 hat13 (g := (mkF m 29 #[rv a7_0, iv ((31 : Int32) + x0), iv (1 : Int32)] [(.int (1 : Int32)), (.ref ar), (.int ((31 : Int32) * ((31 : Int32) + x0)))])) rfl rfl (hb hby d7_29) _ ?_
    show Steps p.tables e below (T10.setTop (mkF m 30 #[rv a7_0, iv ((31 : Int32) + x0), iv (1 : Int32)] [(.int x1), (.int ((31 : Int32) * ((31 : Int32) + x0)))])) _
    refine XS.iadd X10.here hx rfl (hb hby d7_30) rfl ?_
    show Steps p.tables e below (T10.setTop (mkF m 31 #[rv a7_0, iv ((31 : Int32) + x0), iv (1 : Int32)] [(.int (((31 : Int32) * ((31 : Int32) + x0)) + x1))])) _
    refine XS.istoreN X10.here hx rfl (hb hby d7_31) rfl (l' := #[rv a7_0, iv (((31 : Int32) * ((31 : Int32) + x0)) + x1), iv (1 : Int32)]) rfl ?_
    show Steps p.tables e below (T10.setTop (mkF m 32 #[rv a7_0, iv (((31 : Int32) * ((31 : Int32) + x0)) + x1), iv (1 : Int32)] [])) _
    refine XS.iinc X10.here hx rfl (hb hby d7_32) rfl (l' := #[rv a7_0, iv (((31 : Int32) * ((31 : Int32) + x0)) + x1), iv (2 : Int32)]) rfl ?_
    show Steps p.tables e below (T10.setTop (mkF m 35 #[rv a7_0, iv (((31 : Int32) * ((31 : Int32) + x0)) + x1), iv (2 : Int32)] [])) _
    refine XS.goto X10.here hx rfl (pc0 := 35) (pc' := 7) rfl (hb hby d7_35) (by decide) (by decide) ?_
    show Steps p.tables e below (T10.setTop (mkF m 7 #[rv a7_0, iv (((31 : Int32) * ((31 : Int32) + x0)) + x1), iv (2 : Int32)] [])) _
    refine XS.iloadN X10.here hx rfl (hb hby d7_7) rfl ?_
    show Steps p.tables e below (T10.setTop (mkF m 8 #[rv a7_0, iv (((31 : Int32) * ((31 : Int32) + x0)) + x1), iv (2 : Int32)] [(.int (2 : Int32))])) _
    refine XS.aloadN X10.here hx rfl (hb hby d7_8) rfl rfl ?_
    show Steps p.tables e below (T10.setTop (mkF m 9 #[rv a7_0, iv (((31 : Int32) * ((31 : Int32) + x0)) + x1), iv (2 : Int32)] [(.ref a7_0), (.int (2 : Int32))])) _
    refine st14 _ ?_
    show Steps p.tables e below (T14.setTop (mkF m 12 #[rv a7_0, iv (((31 : Int32) * ((31 : Int32) + x0)) + x1), iv (2 : Int32)] [(.int (0 : Int32)), (.int (2 : Int32))])) _
    refine XS.aloadN X14.here hx rfl (hb hby d7_12) rfl rfl ?_
    show Steps p.tables e below (T14.setTop (mkF m 13 #[rv a7_0, iv (((31 : Int32) * ((31 : Int32) + x0)) + x1), iv (2 : Int32)] [(.ref a7_0), (.int (0 : Int32)), (.int (2 : Int32))])) _
    refine st15 _ ?_
    show Steps p.tables e below (T15.setTop (mkF m 16 #[rv a7_0, iv (((31 : Int32) * ((31 : Int32) + x0)) + x1), iv (2 : Int32)] [(.int (4 : Int32)), (.int (0 : Int32)), (.int (2 : Int32))])) _
    refine XS.iadd X15.here hx rfl (hb hby d7_16) rfl ?_
    show Steps p.tables e below (T15.setTop (mkF m 17 #[rv a7_0, iv (((31 : Int32) * ((31 : Int32) + x0)) + x1), iv (2 : Int32)] [(.int (4 : Int32)), (.int (2 : Int32))])) _
    refine XS.icmpNo X15.here hx rfl (hb hby d7_17) rfl (tlt (by decide : (2 : Int32) < (4 : Int32))).2.1 ?_
    show Steps p.tables e below (T15.setTop (mkF m 20 #[rv a7_0, iv (((31 : Int32) * ((31 : Int32) + x0)) + x1), iv (2 : Int32)] [])) _
    refine XS.bipush X15.here hx rfl (hb hby d7_20) ?_
    show Steps p.tables e below (T15.setTop (mkF m 22 #[rv a7_0, iv (((31 : Int32) * ((31 : Int32) + x0)) + x1), iv (2 : Int32)] [(.int (31 : Int32))])) _
    refine XS.iloadN X15.here hx rfl (hb hby d7_22) rfl ?_
    show Steps p.tables e below (T15.setTop (mkF m 23 #[rv a7_0, iv (((31 : Int32) * ((31 : Int32) + x0)) + x1), iv (2 : Int32)] [(.int (((31 : Int32) * ((31 : Int32) + x0)) + x1)), (.int (31 : Int32))])) _
    refine XS.imul X15.here hx rfl (hb hby d7_23) rfl ?_
    show Steps p.tables e below (T15.setTop (mkF m 24 #[rv a7_0, iv (((31 : Int32) * ((31 : Int32) + x0)) + x1), iv (2 : Int32)] [(.int ((31 : Int32) * (((31 : Int32) * ((31 : Int32) + x0)) + x1)))])) _
    refine XS.aloadN X15.here hx rfl (hb hby d7_24) rfl rfl ?_
    show Steps p.tables e below (T15.setTop (mkF m 25 #[rv a7_0, iv (((31 : Int32) * ((31 : Int32) + x0)) + x1), iv (2 : Int32)] [(.ref a7_0), (.int ((31 : Int32) * (((31 : Int32) * ((31 : Int32) + x0)) + x1)))])) _
    refine st16 _ ?_
    show Steps p.tables e below (T16.setTop (mkF m 28 #[rv a7_0, iv (((31 : Int32) * ((31 : Int32) + x0)) + x1), iv (2 : Int32)] [(.ref ar), (.int ((31 : Int32) * (((31 : Int32) * ((31 : Int32) + x0)) + x1)))])) _
    refine XS.iloadN X16.here hx rfl (hb hby d7_28) rfl ?_
    show Steps p.tables e below (T16.setTop (mkF m 29 #[rv a7_0, iv (((31 : Int32) * ((31 : Int32) + x0)) + x1), iv (2 : Int32)] [(.int (2 : Int32)), (.ref ar), (.int ((31 : Int32) * (((31 : Int32) * ((31 : Int32) + x0)) + x1)))])) _
    refine X16.baloadBytes hx (j := (2 : Int32)) (v := (.int x2)) (by rw [e16]; exact Ar17.1) (State.isArrayOf_alike hZ.alike Ar17.2.1) Ar17.2.2 hin18 hat19 (g := (mkF m 29 #[rv a7_0, iv (((31 : Int32) * ((31 : Int32) + x0)) + x1), iv (2 : Int32)] [(.int (2 : Int32)), (.ref ar), (.int ((31 : Int32) * (((31 : Int32) * ((31 : Int32) + x0)) + x1)))])) rfl rfl (hb hby d7_29) _ ?_
    show Steps p.tables e below (T16.setTop (mkF m 30 #[rv a7_0, iv (((31 : Int32) * ((31 : Int32) + x0)) + x1), iv (2 : Int32)] [(.int x2), (.int ((31 : Int32) * (((31 : Int32) * ((31 : Int32) + x0)) + x1)))])) _
    refine XS.iadd X16.here hx rfl (hb hby d7_30) rfl ?_
    show Steps p.tables e below (T16.setTop (mkF m 31 #[rv a7_0, iv (((31 : Int32) * ((31 : Int32) + x0)) + x1), iv (2 : Int32)] [(.int (((31 : Int32) * (((31 : Int32) * ((31 : Int32) + x0)) + x1)) + x2))])) _
    refine XS.istoreN X16.here hx rfl (hb hby d7_31) rfl (l' := #[rv a7_0, iv (((31 : Int32) * (((31 : Int32) * ((31 : Int32) + x0)) + x1)) + x2), iv (2 : Int32)]) rfl ?_
    show Steps p.tables e below (T16.setTop (mkF m 32 #[rv a7_0, iv (((31 : Int32) * (((31 : Int32) * ((31 : Int32) + x0)) + x1)) + x2), iv (2 : Int32)] [])) _
    refine XS.iinc X16.here hx rfl (hb hby d7_32) rfl (l' := #[rv a7_0, iv (((31 : Int32) * (((31 : Int32) * ((31 : Int32) + x0)) + x1)) + x2), iv (3 : Int32)]) rfl ?_
    show Steps p.tables e below (T16.setTop (mkF m 35 #[rv a7_0, iv (((31 : Int32) * (((31 : Int32) * ((31 : Int32) + x0)) + x1)) + x2), iv (3 : Int32)] [])) _
    refine XS.goto X16.here hx rfl (pc0 := 35) (pc' := 7) rfl (hb hby d7_35) (by decide) (by decide) ?_
    show Steps p.tables e below (T16.setTop (mkF m 7 #[rv a7_0, iv (((31 : Int32) * (((31 : Int32) * ((31 : Int32) + x0)) + x1)) + x2), iv (3 : Int32)] [])) _
    refine XS.iloadN X16.here hx rfl (hb hby d7_7) rfl ?_
    show Steps p.tables e below (T16.setTop (mkF m 8 #[rv a7_0, iv (((31 : Int32) * (((31 : Int32) * ((31 : Int32) + x0)) + x1)) + x2), iv (3 : Int32)] [(.int (3 : Int32))])) _
    refine XS.aloadN X16.here hx rfl (hb hby d7_8) rfl rfl ?_
    show Steps p.tables e below (T16.setTop (mkF m 9 #[rv a7_0, iv (((31 : Int32) * (((31 : Int32) * ((31 : Int32) + x0)) + x1)) + x2), iv (3 : Int32)] [(.ref a7_0), (.int (3 : Int32))])) _
    refine st20 _ ?_
    show Steps p.tables e below (T20.setTop (mkF m 12 #[rv a7_0, iv (((31 : Int32) * (((31 : Int32) * ((31 : Int32) + x0)) + x1)) + x2), iv (3 : Int32)] [(.int (0 : Int32)), (.int (3 : Int32))])) _
    refine XS.aloadN X20.here hx rfl (hb hby d7_12) rfl rfl ?_
    show Steps p.tables e below (T20.setTop (mkF m 13 #[rv a7_0, iv (((31 : Int32) * (((31 : Int32) * ((31 : Int32) + x0)) + x1)) + x2), iv (3 : Int32)] [(.ref a7_0), (.int (0 : Int32)), (.int (3 : Int32))])) _
    refine st21 _ ?_
    show Steps p.tables e below (T21.setTop (mkF m 16 #[rv a7_0, iv (((31 : Int32) * (((31 : Int32) * ((31 : Int32) + x0)) + x1)) + x2), iv (3 : Int32)] [(.int (4 : Int32)), (.int (0 : Int32)), (.int (3 : Int32))])) _
    refine XS.iadd X21.here hx rfl (hb hby d7_16) rfl ?_
    show Steps p.tables e below (T21.setTop (mkF m 17 #[rv a7_0, iv (((31 : Int32) * (((31 : Int32) * ((31 : Int32) + x0)) + x1)) + x2), iv (3 : Int32)] [(.int (4 : Int32)), (.int (3 : Int32))])) _
    refine XS.icmpNo X21.here hx rfl (hb hby d7_17) rfl (tlt (by decide : (3 : Int32) < (4 : Int32))).2.1 ?_
    show Steps p.tables e below (T21.setTop (mkF m 20 #[rv a7_0, iv (((31 : Int32) * (((31 : Int32) * ((31 : Int32) + x0)) + x1)) + x2), iv (3 : Int32)] [])) _
    refine XS.bipush X21.here hx rfl (hb hby d7_20) ?_
    show Steps p.tables e below (T21.setTop (mkF m 22 #[rv a7_0, iv (((31 : Int32) * (((31 : Int32) * ((31 : Int32) + x0)) + x1)) + x2), iv (3 : Int32)] [(.int (31 : Int32))])) _
    refine XS.iloadN X21.here hx rfl (hb hby d7_22) rfl ?_
    show Steps p.tables e below (T21.setTop (mkF m 23 #[rv a7_0, iv (((31 : Int32) * (((31 : Int32) * ((31 : Int32) + x0)) + x1)) + x2), iv (3 : Int32)] [(.int (((31 : Int32) * (((31 : Int32) * ((31 : Int32) + x0)) + x1)) + x2)), (.int (31 : Int32))])) _
    refine XS.imul X21.here hx rfl (hb hby d7_23) rfl ?_
    show Steps p.tables e below (T21.setTop (mkF m 24 #[rv a7_0, iv (((31 : Int32) * (((31 : Int32) * ((31 : Int32) + x0)) + x1)) + x2), iv (3 : Int32)] [(.int ((31 : Int32) * (((31 : Int32) * (((31 : Int32) * ((31 : Int32) + x0)) + x1)) + x2)))])) _
    refine XS.aloadN X21.here hx rfl (hb hby d7_24) rfl rfl ?_
    show Steps p.tables e below (T21.setTop (mkF m 25 #[rv a7_0, iv (((31 : Int32) * (((31 : Int32) * ((31 : Int32) + x0)) + x1)) + x2), iv (3 : Int32)] [(.ref a7_0), (.int ((31 : Int32) * (((31 : Int32) * (((31 : Int32) * ((31 : Int32) + x0)) + x1)) + x2)))])) _
    refine st22 _ ?_
    show Steps p.tables e below (T22.setTop (mkF m 28 #[rv a7_0, iv (((31 : Int32) * (((31 : Int32) * ((31 : Int32) + x0)) + x1)) + x2), iv (3 : Int32)] [(.ref ar), (.int ((31 : Int32) * (((31 : Int32) * (((31 : Int32) * ((31 : Int32) + x0)) + x1)) + x2)))])) _
    refine XS.iloadN X22.here hx rfl (hb hby d7_28) rfl ?_
    show Steps p.tables e below (T22.setTop (mkF m 29 #[rv a7_0, iv (((31 : Int32) * (((31 : Int32) * ((31 : Int32) + x0)) + x1)) + x2), iv (3 : Int32)] [(.int (3 : Int32)), (.ref ar), (.int ((31 : Int32) * (((31 : Int32) * (((31 : Int32) * ((31 : Int32) + x0)) + x1)) + x2)))])) _
    refine X22.baloadBytes hx (j := (3 : Int32)) (v := (.int x3)) (by rw [e22]; exact Ar23.1) (State.isArrayOf_alike hZ.alike Ar23.2.1) Ar23.2.2 hin24 hat25 (g := (mkF m 29 #[rv a7_0, iv (((31 : Int32) * (((31 : Int32) * ((31 : Int32) + x0)) + x1)) + x2), iv (3 : Int32)] [(.int (3 : Int32)), (.ref ar), (.int ((31 : Int32) * (((31 : Int32) * (((31 : Int32) * ((31 : Int32) + x0)) + x1)) + x2)))])) rfl rfl (hb hby d7_29) _ ?_
    show Steps p.tables e below (T22.setTop (mkF m 30 #[rv a7_0, iv (((31 : Int32) * (((31 : Int32) * ((31 : Int32) + x0)) + x1)) + x2), iv (3 : Int32)] [(.int x3), (.int ((31 : Int32) * (((31 : Int32) * (((31 : Int32) * ((31 : Int32) + x0)) + x1)) + x2)))])) _
    refine XS.iadd X22.here hx rfl (hb hby d7_30) rfl ?_
    show Steps p.tables e below (T22.setTop (mkF m 31 #[rv a7_0, iv (((31 : Int32) * (((31 : Int32) * ((31 : Int32) + x0)) + x1)) + x2), iv (3 : Int32)] [(.int (((31 : Int32) * (((31 : Int32) * (((31 : Int32) * ((31 : Int32) + x0)) + x1)) + x2)) + x3))])) _
    refine XS.istoreN X22.here hx rfl (hb hby d7_31) rfl (l' := #[rv a7_0, iv (((31 : Int32) * (((31 : Int32) * (((31 : Int32) * ((31 : Int32) + x0)) + x1)) + x2)) + x3), iv (3 : Int32)]) rfl ?_
    show Steps p.tables e below (T22.setTop (mkF m 32 #[rv a7_0, iv (((31 : Int32) * (((31 : Int32) * (((31 : Int32) * ((31 : Int32) + x0)) + x1)) + x2)) + x3), iv (3 : Int32)] [])) _
    refine XS.iinc X22.here hx rfl (hb hby d7_32) rfl (l' := #[rv a7_0, iv (((31 : Int32) * (((31 : Int32) * (((31 : Int32) * ((31 : Int32) + x0)) + x1)) + x2)) + x3), iv (4 : Int32)]) rfl ?_
    show Steps p.tables e below (T22.setTop (mkF m 35 #[rv a7_0, iv (((31 : Int32) * (((31 : Int32) * (((31 : Int32) * ((31 : Int32) + x0)) + x1)) + x2)) + x3), iv (4 : Int32)] [])) _
    refine XS.goto X22.here hx rfl (pc0 := 35) (pc' := 7) rfl (hb hby d7_35) (by decide) (by decide) ?_
    show Steps p.tables e below (T22.setTop (mkF m 7 #[rv a7_0, iv (((31 : Int32) * (((31 : Int32) * (((31 : Int32) * ((31 : Int32) + x0)) + x1)) + x2)) + x3), iv (4 : Int32)] [])) _
    refine XS.iloadN X22.here hx rfl (hb hby d7_7) rfl ?_
    show Steps p.tables e below (T22.setTop (mkF m 8 #[rv a7_0, iv (((31 : Int32) * (((31 : Int32) * (((31 : Int32) * ((31 : Int32) + x0)) + x1)) + x2)) + x3), iv (4 : Int32)] [(.int (4 : Int32))])) _
    refine XS.aloadN X22.here hx rfl (hb hby d7_8) rfl rfl ?_
    show Steps p.tables e below (T22.setTop (mkF m 9 #[rv a7_0, iv (((31 : Int32) * (((31 : Int32) * (((31 : Int32) * ((31 : Int32) + x0)) + x1)) + x2)) + x3), iv (4 : Int32)] [(.ref a7_0), (.int (4 : Int32))])) _
    refine st26 _ ?_
    show Steps p.tables e below (T26.setTop (mkF m 12 #[rv a7_0, iv (((31 : Int32) * (((31 : Int32) * (((31 : Int32) * ((31 : Int32) + x0)) + x1)) + x2)) + x3), iv (4 : Int32)] [(.int (0 : Int32)), (.int (4 : Int32))])) _
    refine XS.aloadN X26.here hx rfl (hb hby d7_12) rfl rfl ?_
    show Steps p.tables e below (T26.setTop (mkF m 13 #[rv a7_0, iv (((31 : Int32) * (((31 : Int32) * (((31 : Int32) * ((31 : Int32) + x0)) + x1)) + x2)) + x3), iv (4 : Int32)] [(.ref a7_0), (.int (0 : Int32)), (.int (4 : Int32))])) _
    refine st27 _ ?_
    show Steps p.tables e below (T27.setTop (mkF m 16 #[rv a7_0, iv (((31 : Int32) * (((31 : Int32) * (((31 : Int32) * ((31 : Int32) + x0)) + x1)) + x2)) + x3), iv (4 : Int32)] [(.int (4 : Int32)), (.int (0 : Int32)), (.int (4 : Int32))])) _
    refine XS.iadd X27.here hx rfl (hb hby d7_16) rfl ?_
    show Steps p.tables e below (T27.setTop (mkF m 17 #[rv a7_0, iv (((31 : Int32) * (((31 : Int32) * (((31 : Int32) * ((31 : Int32) + x0)) + x1)) + x2)) + x3), iv (4 : Int32)] [(.int (4 : Int32)), (.int (4 : Int32))])) _
    refine XS.icmpYes X27.here hx rfl (pc0 := 17) (pc' := 38) rfl (hb hby d7_17) rfl (flt (by decide : ¬ ((4 : Int32) < (4 : Int32)))).2.1 (by decide) (by decide) ?_
    show Steps p.tables e below (T27.setTop (mkF m 38 #[rv a7_0, iv (((31 : Int32) * (((31 : Int32) * (((31 : Int32) * ((31 : Int32) + x0)) + x1)) + x2)) + x3), iv (4 : Int32)] [])) _
    refine XS.iloadN X27.here hx rfl (hb hby d7_38) rfl ?_
    show Steps p.tables e below (T27.setTop (mkF m 39 #[rv a7_0, iv (((31 : Int32) * (((31 : Int32) * (((31 : Int32) * ((31 : Int32) + x0)) + x1)) + x2)) + x3), iv (4 : Int32)] [(.int (((31 : Int32) * (((31 : Int32) * (((31 : Int32) * ((31 : Int32) + x0)) + x1)) + x2)) + x3))])) _
    exact retI X27 hx Bd.returns (hb hby d7_39) hr
  · show Q_rm_h0_4 Z _ _ _ _ _ _ _ h0 n0 _ T27.heap _
    rw [e27]
    exact ⟨rfl, N0, rfl⟩
theorem ef_rm_h0_5 (m : MethodId) (x0 : Addr) : entryFrame m #[(.ref x0)] 3 = mkF m 0 #[rv x0, .unset, .unset] [] := by first | (simp [entryFrame, mkF, argsToLocals, Value.category]; done) | rfl
def Q_rm_h0_5 (Z : State) (a7_0 : Addr) (ar : Addr) (x0 : Int32) (x1 : Int32) (x2 : Int32) (x3 : Int32) (x4 : Int32) (h0 : Heap) (n0 : Nat) (v : Option Value) (h : Heap) (L : List Loc) : Prop := v = some (.int (((31 : Int32) * (((31 : Int32) * (((31 : Int32) * (((31 : Int32) * ((31 : Int32) + x0)) + x1)) + x2)) + x3)) + x4)) ∧ Fr n0 L ∧ h = h0
set_option maxRecDepth 65536 in
set_option maxHeartbeats 40000000 in
theorem rm_h0_5 (l : Launch) (Z : State) (a0 : Array Value) (hw : ∀ d ∈ tables_1, d.before a0 Z = true) (ws : List Jvm.Cond) (a7_0 : Addr) (ar : Addr) (x0 : Int32) (x1 : Int32) (x2 : Int32) (x3 : Int32) (x4 : Int32) (h0 : Heap) (n0 : Nat) (Z0 : n0 ≤ h0.size) (pf_F_a7_0_array : Fld Z h0 a7_0 "com/example/tailwake/tailwake/source/mariadb/Slice" "array" "[B" (.ref ar)) (pf_F_a7_0_offset : Fld Z h0 a7_0 "com/example/tailwake/tailwake/source/mariadb/Slice" "offset" "I" (.int (0 : Int32))) (pf_F_a7_0_length : Fld Z h0 a7_0 "com/example/tailwake/tailwake/source/mariadb/Slice" "length" "I" (.int (5 : Int32))) (pf_A_ar : Av Z h0 ar .byte (5 : Int32) [(.int x0), (.int x1), (.int x2), (.int x3), (.int x4)] (.int (0 : Int32))) :
    MetFree l (⟨"com/example/tailwake/tailwake/source/mariadb/Slice", "hashCode", "()I"⟩ : MethodName) (head1 (Jvm.Cond.code (⟨"com/example/tailwake/tailwake/source/mariadb/Slice", "hashCode", "()I"⟩ : MethodName) prog_29_method_7_code 3 (some .int) :: ws) ({ frames := 0, cells := 0, slots := 0, locals := 0 } : Room)) (fun a U => a = #[(.ref a7_0)] ∧ Z.Warmed39 U.vm ∧ U.heap = h0) (fun _ _ _ _ _ => True) (fun _ U o U' => ∃ v L, o = .returned v ∧ Q_rm_h0_5 Z a7_0 ar x0 x1 x2 x3 x4 h0 n0 v U'.heap L ∧ FrameEnd U o U' L ({ frames := 0, cells := 0, slots := 0, locals := 0 } : Room).cells ({ frames := 0, cells := 0, slots := 0, locals := 0 } : Room).slots) := by
  refine MetFree.of_bodySF (plainFor_of_name pn_com_example_tailwake_tailwake_source_mariadb_Slice) hisR ?_
  intro p e s m args below meth c s₁ Bd hml0 hP hK
  obtain ⟨rfl, hZ, hh⟩ := hP
  have hx := Bd.exec
  have hby := Bd.bytes
  have hml : c.maxLocals = 3 := hml0
  have hown : s.vm.findClass "com/example/tailwake/tailwake/source/mariadb/Slice" = some m.cls := findClass_of_methodNamed Bd.named
  have hnm := (name_of_methodNamed Bd.named Bd.method).1
  have X0 : Stand p l e ({ frames := 0, cells := 0, slots := 0, locals := 0 } : Room) s m #[(.ref a7_0)] below meth c s₁ [] 0 0 := Stand.of_body Bd
  have e0 : s₁.heap = h0 := by rw [← hh, Bd.state]; rfl
  have N0 := Fr.nil n0
  have pre0 : ∀ t, Steps p.tables e below (s₁.setTop (mkF m 0 #[rv a7_0, .unset, .unset] [])) t → Steps p.tables e below (s₁.setTop (entryFrame m #[(.ref a7_0)] 3)) t := fun t k => castTop (ef_rm_h0_5 m a7_0) k
  have wo19 := hw _ (List.mem_of_getElem? (i := 19) rfl)
  have wo21 := hw _ (List.mem_of_getElem? (i := 21) rfl)
  have wo23 := hw _ (List.mem_of_getElem? (i := 23) rfl)
  obtain ⟨T1, X1, e1, st1⟩ := getF X0 hx hZ hown (host := "") (Or.inl wo21) Via.refl e0 pf_F_a7_0_offset (g := (mkF m 3 #[rv a7_0, iv (1 : Int32), .unset] [(.ref a7_0)])) rfl rfl (hb hby d7_3)
  obtain ⟨T2, X2, e2, st2⟩ := getF X1 hx hZ hown (host := "") (Or.inl wo21) Via.refl e1 pf_F_a7_0_offset (g := (mkF m 9 #[rv a7_0, iv (1 : Int32), iv (0 : Int32)] [(.ref a7_0), (.int (0 : Int32))])) rfl rfl (hb hby d7_9)
  obtain ⟨T3, X3, e3, st3⟩ := getF X2 hx hZ hown (host := "") (Or.inl wo23) Via.refl e2 pf_F_a7_0_length (g := (mkF m 13 #[rv a7_0, iv (1 : Int32), iv (0 : Int32)] [(.ref a7_0), (.int (0 : Int32)), (.int (0 : Int32))])) rfl rfl (hb hby d7_13)
  obtain ⟨T4, X4, e4, st4⟩ := getF X3 hx hZ hown (host := "") (Or.inl wo19) Via.refl e3 pf_F_a7_0_array (g := (mkF m 25 #[rv a7_0, iv (1 : Int32), iv (0 : Int32)] [(.ref a7_0), (.int (31 : Int32))])) rfl rfl (hb hby d7_25)
  obtain ⟨kk5, cl5, Ar5, qq5, Sz5, Nn5, Hs5, Gf5⟩ := id pf_A_ar
  have hin6 : ¬ ((0 : Int32) < 0 ∨ cl5.slots.size ≤ ((0 : Int32)).toNatClampNeg) := inb_of Sz5 ⟨by decide, by decide⟩
  have hat7 : cl5.slots[((0 : Int32)).toNatClampNeg]? = some (.int x0) := Has.at Hs5 hin6 rfl
  obtain ⟨T8, X8, e8, st8⟩ := getF X4 hx hZ hown (host := "") (Or.inl wo21) Via.refl e4 pf_F_a7_0_offset (g := (mkF m 9 #[rv a7_0, iv ((31 : Int32) + x0), iv (1 : Int32)] [(.ref a7_0), (.int (1 : Int32))])) rfl rfl (hb hby d7_9)
  obtain ⟨T9, X9, e9, st9⟩ := getF X8 hx hZ hown (host := "") (Or.inl wo23) Via.refl e8 pf_F_a7_0_length (g := (mkF m 13 #[rv a7_0, iv ((31 : Int32) + x0), iv (1 : Int32)] [(.ref a7_0), (.int (0 : Int32)), (.int (1 : Int32))])) rfl rfl (hb hby d7_13)
  obtain ⟨T10, X10, e10, st10⟩ := getF X9 hx hZ hown (host := "") (Or.inl wo19) Via.refl e9 pf_F_a7_0_array (g := (mkF m 25 #[rv a7_0, iv ((31 : Int32) + x0), iv (1 : Int32)] [(.ref a7_0), (.int ((31 : Int32) * ((31 : Int32) + x0)))])) rfl rfl (hb hby d7_25)
  obtain ⟨kk11, cl11, Ar11, qq11, Sz11, Nn11, Hs11, Gf11⟩ := id pf_A_ar
  have hin12 : ¬ ((1 : Int32) < 0 ∨ cl11.slots.size ≤ ((1 : Int32)).toNatClampNeg) := inb_of Sz11 ⟨by decide, by decide⟩
  have hat13 : cl11.slots[((1 : Int32)).toNatClampNeg]? = some (.int x1) := Has.at Hs11 hin12 rfl
  obtain ⟨T14, X14, e14, st14⟩ := getF X10 hx hZ hown (host := "") (Or.inl wo21) Via.refl e10 pf_F_a7_0_offset (g := (mkF m 9 #[rv a7_0, iv (((31 : Int32) * ((31 : Int32) + x0)) + x1), iv (2 : Int32)] [(.ref a7_0), (.int (2 : Int32))])) rfl rfl (hb hby d7_9)
  obtain ⟨T15, X15, e15, st15⟩ := getF X14 hx hZ hown (host := "") (Or.inl wo23) Via.refl e14 pf_F_a7_0_length (g := (mkF m 13 #[rv a7_0, iv (((31 : Int32) * ((31 : Int32) + x0)) + x1), iv (2 : Int32)] [(.ref a7_0), (.int (0 : Int32)), (.int (2 : Int32))])) rfl rfl (hb hby d7_13)
  obtain ⟨T16, X16, e16, st16⟩ := getF X15 hx hZ hown (host := "") (Or.inl wo19) Via.refl e15 pf_F_a7_0_array (g := (mkF m 25 #[rv a7_0, iv (((31 : Int32) * ((31 : Int32) + x0)) + x1), iv (2 : Int32)] [(.ref a7_0), (.int ((31 : Int32) * (((31 : Int32) * ((31 : Int32) + x0)) + x1)))])) rfl rfl (hb hby d7_25)
  obtain ⟨kk17, cl17, Ar17, qq17, Sz17, Nn17, Hs17, Gf17⟩ := id pf_A_ar
  have hin18 : ¬ ((2 : Int32) < 0 ∨ cl17.slots.size ≤ ((2 : Int32)).toNatClampNeg) := inb_of Sz17 ⟨by decide, by decide⟩
  have hat19 : cl17.slots[((2 : Int32)).toNatClampNeg]? = some (.int x2) := Has.at Hs17 hin18 rfl
  obtain ⟨T20, X20, e20, st20⟩ := getF X16 hx hZ hown (host := "") (Or.inl wo21) Via.refl e16 pf_F_a7_0_offset (g := (mkF m 9 #[rv a7_0, iv (((31 : Int32) * (((31 : Int32) * ((31 : Int32) + x0)) + x1)) + x2), iv (3 : Int32)] [(.ref a7_0), (.int (3 : Int32))])) rfl rfl (hb hby d7_9)
  obtain ⟨T21, X21, e21, st21⟩ := getF X20 hx hZ hown (host := "") (Or.inl wo23) Via.refl e20 pf_F_a7_0_length (g := (mkF m 13 #[rv a7_0, iv (((31 : Int32) * (((31 : Int32) * ((31 : Int32) + x0)) + x1)) + x2), iv (3 : Int32)] [(.ref a7_0), (.int (0 : Int32)), (.int (3 : Int32))])) rfl rfl (hb hby d7_13)
  obtain ⟨T22, X22, e22, st22⟩ := getF X21 hx hZ hown (host := "") (Or.inl wo19) Via.refl e21 pf_F_a7_0_array (g := (mkF m 25 #[rv a7_0, iv (((31 : Int32) * (((31 : Int32) * ((31 : Int32) + x0)) + x1)) + x2), iv (3 : Int32)] [(.ref a7_0), (.int ((31 : Int32) * (((31 : Int32) * (((31 : Int32) * ((31 : Int32) + x0)) + x1)) + x2)))])) rfl rfl (hb hby d7_25)
  obtain ⟨kk23, cl23, Ar23, qq23, Sz23, Nn23, Hs23, Gf23⟩ := id pf_A_ar
  have hin24 : ¬ ((3 : Int32) < 0 ∨ cl23.slots.size ≤ ((3 : Int32)).toNatClampNeg) := inb_of Sz23 ⟨by decide, by decide⟩
  have hat25 : cl23.slots[((3 : Int32)).toNatClampNeg]? = some (.int x3) := Has.at Hs23 hin24 rfl
  obtain ⟨T26, X26, e26, st26⟩ := getF X22 hx hZ hown (host := "") (Or.inl wo21) Via.refl e22 pf_F_a7_0_offset (g := (mkF m 9 #[rv a7_0, iv (((31 : Int32) * (((31 : Int32) * (((31 : Int32) * ((31 : Int32) + x0)) + x1)) + x2)) + x3), iv (4 : Int32)] [(.ref a7_0), (.int (4 : Int32))])) rfl rfl (hb hby d7_9)
  obtain ⟨T27, X27, e27, st27⟩ := getF X26 hx hZ hown (host := "") (Or.inl wo23) Via.refl e26 pf_F_a7_0_length (g := (mkF m 13 #[rv a7_0, iv (((31 : Int32) * (((31 : Int32) * (((31 : Int32) * ((31 : Int32) + x0)) + x1)) + x2)) + x3), iv (4 : Int32)] [(.ref a7_0), (.int (0 : Int32)), (.int (4 : Int32))])) rfl rfl (hb hby d7_13)
  obtain ⟨T28, X28, e28, st28⟩ := getF X27 hx hZ hown (host := "") (Or.inl wo19) Via.refl e27 pf_F_a7_0_array (g := (mkF m 25 #[rv a7_0, iv (((31 : Int32) * (((31 : Int32) * (((31 : Int32) * ((31 : Int32) + x0)) + x1)) + x2)) + x3), iv (4 : Int32)] [(.ref a7_0), (.int ((31 : Int32) * (((31 : Int32) * (((31 : Int32) * (((31 : Int32) * ((31 : Int32) + x0)) + x1)) + x2)) + x3)))])) rfl rfl (hb hby d7_25)
  obtain ⟨kk29, cl29, Ar29, qq29, Sz29, Nn29, Hs29, Gf29⟩ := id pf_A_ar
  have hin30 : ¬ ((4 : Int32) < 0 ∨ cl29.slots.size ≤ ((4 : Int32)).toNatClampNeg) := inb_of Sz29 ⟨by decide, by decide⟩
  have hat31 : cl29.slots[((4 : Int32)).toNatClampNeg]? = some (.int x4) := Has.at Hs29 hin30 rfl
  obtain ⟨T32, X32, e32, st32⟩ := getF X28 hx hZ hown (host := "") (Or.inl wo21) Via.refl e28 pf_F_a7_0_offset (g := (mkF m 9 #[rv a7_0, iv (((31 : Int32) * (((31 : Int32) * (((31 : Int32) * (((31 : Int32) * ((31 : Int32) + x0)) + x1)) + x2)) + x3)) + x4), iv (5 : Int32)] [(.ref a7_0), (.int (5 : Int32))])) rfl rfl (hb hby d7_9)
  obtain ⟨T33, X33, e33, st33⟩ := getF X32 hx hZ hown (host := "") (Or.inl wo23) Via.refl e32 pf_F_a7_0_length (g := (mkF m 13 #[rv a7_0, iv (((31 : Int32) * (((31 : Int32) * (((31 : Int32) * (((31 : Int32) * ((31 : Int32) + x0)) + x1)) + x2)) + x3)) + x4), iv (5 : Int32)] [(.ref a7_0), (.int (0 : Int32)), (.int (5 : Int32))])) rfl rfl (hb hby d7_13)
  obtain ⟨fs, hr, hrun, hended, hW, hsame⟩ := X33.leave (v := some (.int (((31 : Int32) * (((31 : Int32) * (((31 : Int32) * (((31 : Int32) * ((31 : Int32) + x0)) + x1)) + x2)) + x3)) + x4))) (fun h => by rw [Bd.returns] at h; cases h)
  refine ⟨_, _, pre0 _ ?_, hrun, hended, _, _, rfl, ?_, ⟨_, rfl⟩, hW, hsame.mono (by decide) (by decide)⟩
  · show Steps p.tables e below (s₁.setTop (mkF m 0 #[rv a7_0, .unset, .unset] [])) _
    refine XS.iconst X0.here hx rfl (hb hby d7_0) ?_
    show Steps p.tables e below (s₁.setTop (mkF m 1 #[rv a7_0, .unset, .unset] [(.int (1 : Int32))])) _
    refine XS.istoreN X0.here hx rfl (hb hby d7_1) rfl (l' := #[rv a7_0, iv (1 : Int32), .unset]) rfl ?_
    show Steps p.tables e below (s₁.setTop (mkF m 2 #[rv a7_0, iv (1 : Int32), .unset] [])) _
    refine XS.aloadN X0.here hx rfl (hb hby d7_2) rfl rfl ?_
    show Steps p.tables e below (s₁.setTop (mkF m 3 #[rv a7_0, iv (1 : Int32), .unset] [(.ref a7_0)])) _
    refine st1 _ ?_
    show Steps p.tables e below (T1.setTop (mkF m 6 #[rv a7_0, iv (1 : Int32), .unset] [(.int (0 : Int32))])) _
    refine XS.istoreN X1.here hx rfl (hb hby d7_6) rfl (l' := #[rv a7_0, iv (1 : Int32), iv (0 : Int32)]) rfl ?_
    show Steps p.tables e below (T1.setTop (mkF m 7 #[rv a7_0, iv (1 : Int32), iv (0 : Int32)] [])) _
    refine XS.iloadN X1.here hx rfl (hb hby d7_7) rfl ?_
    show Steps p.tables e below (T1.setTop (mkF m 8 #[rv a7_0, iv (1 : Int32), iv (0 : Int32)] [(.int (0 : Int32))])) _
    refine XS.aloadN X1.here hx rfl (hb hby d7_8) rfl rfl ?_
    show Steps p.tables e below (T1.setTop (mkF m 9 #[rv a7_0, iv (1 : Int32), iv (0 : Int32)] [(.ref a7_0), (.int (0 : Int32))])) _
    refine st2 _ ?_
    show Steps p.tables e below (T2.setTop (mkF m 12 #[rv a7_0, iv (1 : Int32), iv (0 : Int32)] [(.int (0 : Int32)), (.int (0 : Int32))])) _
    refine XS.aloadN X2.here hx rfl (hb hby d7_12) rfl rfl ?_
    show Steps p.tables e below (T2.setTop (mkF m 13 #[rv a7_0, iv (1 : Int32), iv (0 : Int32)] [(.ref a7_0), (.int (0 : Int32)), (.int (0 : Int32))])) _
    refine st3 _ ?_
    show Steps p.tables e below (T3.setTop (mkF m 16 #[rv a7_0, iv (1 : Int32), iv (0 : Int32)] [(.int (5 : Int32)), (.int (0 : Int32)), (.int (0 : Int32))])) _
    refine XS.iadd X3.here hx rfl (hb hby d7_16) rfl ?_
    show Steps p.tables e below (T3.setTop (mkF m 17 #[rv a7_0, iv (1 : Int32), iv (0 : Int32)] [(.int (5 : Int32)), (.int (0 : Int32))])) _
    refine XS.icmpNo X3.here hx rfl (hb hby d7_17) rfl (tlt (by decide : (0 : Int32) < (5 : Int32))).2.1 ?_
    show Steps p.tables e below (T3.setTop (mkF m 20 #[rv a7_0, iv (1 : Int32), iv (0 : Int32)] [])) _
    refine XS.bipush X3.here hx rfl (hb hby d7_20) ?_
    show Steps p.tables e below (T3.setTop (mkF m 22 #[rv a7_0, iv (1 : Int32), iv (0 : Int32)] [(.int (31 : Int32))])) _
    refine XS.iloadN X3.here hx rfl (hb hby d7_22) rfl ?_
    show Steps p.tables e below (T3.setTop (mkF m 23 #[rv a7_0, iv (1 : Int32), iv (0 : Int32)] [(.int (1 : Int32)), (.int (31 : Int32))])) _
    refine XS.imul X3.here hx rfl (hb hby d7_23) rfl ?_
    show Steps p.tables e below (T3.setTop (mkF m 24 #[rv a7_0, iv (1 : Int32), iv (0 : Int32)] [(.int (31 : Int32))])) _
    refine XS.aloadN X3.here hx rfl (hb hby d7_24) rfl rfl ?_
    show Steps p.tables e below (T3.setTop (mkF m 25 #[rv a7_0, iv (1 : Int32), iv (0 : Int32)] [(.ref a7_0), (.int (31 : Int32))])) _
    refine st4 _ ?_
    show Steps p.tables e below (T4.setTop (mkF m 28 #[rv a7_0, iv (1 : Int32), iv (0 : Int32)] [(.ref ar), (.int (31 : Int32))])) _
    refine XS.iloadN X4.here hx rfl (hb hby d7_28) rfl ?_
    show Steps p.tables e below (T4.setTop (mkF m 29 #[rv a7_0, iv (1 : Int32), iv (0 : Int32)] [(.int (0 : Int32)), (.ref ar), (.int (31 : Int32))])) _
    refine X4.baloadBytes hx (j := (0 : Int32)) (v := (.int x0)) (by rw [e4]; exact Ar5.1) (State.isArrayOf_alike hZ.alike Ar5.2.1) Ar5.2.2 hin6 hat7 (g := (mkF m 29 #[rv a7_0, iv (1 : Int32), iv (0 : Int32)] [(.int (0 : Int32)), (.ref ar), (.int (31 : Int32))])) rfl rfl (hb hby d7_29) _ ?_
    show Steps p.tables e below (T4.setTop (mkF m 30 #[rv a7_0, iv (1 : Int32), iv (0 : Int32)] [(.int x0), (.int (31 : Int32))])) _
    refine XS.iadd X4.here hx rfl (hb hby d7_30) rfl ?_
    show Steps p.tables e below (T4.setTop (mkF m 31 #[rv a7_0, iv (1 : Int32), iv (0 : Int32)] [(.int ((31 : Int32) + x0))])) _
    refine XS.istoreN X4.here hx rfl (hb hby d7_31) rfl (l' := #[rv a7_0, iv ((31 : Int32) + x0), iv (0 : Int32)]) rfl ?_
    show Steps p.tables e below (T4.setTop (mkF m 32 #[rv a7_0, iv ((31 : Int32) + x0), iv (0 : Int32)] [])) _
    refine XS.iinc X4.here hx rfl (hb hby d7_32) rfl (l' := #[rv a7_0, iv ((31 : Int32) + x0), iv (1 : Int32)]) rfl ?_
    show Steps p.tables e below (T4.setTop (mkF m 35 #[rv a7_0, iv ((31 : Int32) + x0), iv (1 : Int32)] [])) _
    refine XS.goto X4.here hx rfl (pc0 := 35) (pc' := 7) rfl (hb hby d7_35) (by decide) (by decide) ?_
    show Steps p.tables e below (T4.setTop (mkF m 7 #[rv a7_0, iv ((31 : Int32) + x0), iv (1 : Int32)] [])) _
    refine XS.iloadN X4.here hx rfl (hb hby d7_7) rfl ?_
    show Steps p.tables e below (T4.setTop (mkF m 8 #[rv a7_0, iv ((31 : Int32) + x0), iv (1 : Int32)] [(.int (1 : Int32))])) _
    refine XS.aloadN X4.here hx rfl (hb hby d7_8) rfl rfl ?_
    show Steps p.tables e below (T4.setTop (mkF m 9 #[rv a7_0, iv ((31 : Int32) + x0), iv (1 : Int32)] [(.ref a7_0), (.int (1 : Int32))])) _
    refine st8 _ ?_
    show Steps p.tables e below (T8.setTop (mkF m 12 #[rv a7_0, iv ((31 : Int32) + x0), iv (1 : Int32)] [(.int (0 : Int32)), (.int (1 : Int32))])) _
    refine XS.aloadN X8.here hx rfl (hb hby d7_12) rfl rfl ?_
    show Steps p.tables e below (T8.setTop (mkF m 13 #[rv a7_0, iv ((31 : Int32) + x0), iv (1 : Int32)] [(.ref a7_0), (.int (0 : Int32)), (.int (1 : Int32))])) _
    refine st9 _ ?_
    show Steps p.tables e below (T9.setTop (mkF m 16 #[rv a7_0, iv ((31 : Int32) + x0), iv (1 : Int32)] [(.int (5 : Int32)), (.int (0 : Int32)), (.int (1 : Int32))])) _
    refine XS.iadd X9.here hx rfl (hb hby d7_16) rfl ?_
    show Steps p.tables e below (T9.setTop (mkF m 17 #[rv a7_0, iv ((31 : Int32) + x0), iv (1 : Int32)] [(.int (5 : Int32)), (.int (1 : Int32))])) _
    refine XS.icmpNo X9.here hx rfl (hb hby d7_17) rfl (tlt (by decide : (1 : Int32) < (5 : Int32))).2.1 ?_
    show Steps p.tables e below (T9.setTop (mkF m 20 #[rv a7_0, iv ((31 : Int32) + x0), iv (1 : Int32)] [])) _
    refine XS.bipush X9.here hx rfl (hb hby d7_20) ?_
    show Steps p.tables e below (T9.setTop (mkF m 22 #[rv a7_0, iv ((31 : Int32) + x0), iv (1 : Int32)] [(.int (31 : Int32))])) _
    refine XS.iloadN X9.here hx rfl (hb hby d7_22) rfl ?_
    show Steps p.tables e below (T9.setTop (mkF m 23 #[rv a7_0, iv ((31 : Int32) + x0), iv (1 : Int32)] [(.int ((31 : Int32) + x0)), (.int (31 : Int32))])) _
    refine XS.imul X9.here hx rfl (hb hby d7_23) rfl ?_
    show Steps p.tables e below (T9.setTop (mkF m 24 #[rv a7_0, iv ((31 : Int32) + x0), iv (1 : Int32)] [(.int ((31 : Int32) * ((31 : Int32) + x0)))])) _
    refine XS.aloadN X9.here hx rfl (hb hby d7_24) rfl rfl ?_
    show Steps p.tables e below (T9.setTop (mkF m 25 #[rv a7_0, iv ((31 : Int32) + x0), iv (1 : Int32)] [(.ref a7_0), (.int ((31 : Int32) * ((31 : Int32) + x0)))])) _
    refine st10 _ ?_
    show Steps p.tables e below (T10.setTop (mkF m 28 #[rv a7_0, iv ((31 : Int32) + x0), iv (1 : Int32)] [(.ref ar), (.int ((31 : Int32) * ((31 : Int32) + x0)))])) _
    refine XS.iloadN X10.here hx rfl (hb hby d7_28) rfl ?_
    show Steps p.tables e below (T10.setTop (mkF m 29 #[rv a7_0, iv ((31 : Int32) + x0), iv (1 : Int32)] [(.int (1 : Int32)), (.ref ar), (.int ((31 : Int32) * ((31 : Int32) + x0)))])) _
    refine X10.baloadBytes hx (j := (1 : Int32)) (v := (.int x1)) (by rw [e10]; exact Ar11.1) (State.isArrayOf_alike hZ.alike Ar11.2.1) Ar11.2.2 hin12 hat13 (g := (mkF m 29 #[rv a7_0, iv ((31 : Int32) + x0), iv (1 : Int32)] [(.int (1 : Int32)), (.ref ar), (.int ((31 : Int32) * ((31 : Int32) + x0)))])) rfl rfl (hb hby d7_29) _ ?_
    show Steps p.tables e below (T10.setTop (mkF m 30 #[rv a7_0, iv ((31 : Int32) + x0), iv (1 : Int32)] [(.int x1), (.int ((31 : Int32) * ((31 : Int32) + x0)))])) _
    refine XS.iadd X10.here hx rfl (hb hby d7_30) rfl ?_
    show Steps p.tables e below (T10.setTop (mkF m 31 #[rv a7_0, iv ((31 : Int32) + x0), iv (1 : Int32)] [(.int (((31 : Int32) * ((31 : Int32) + x0)) + x1))])) _
    refine XS.istoreN X10.here hx rfl (hb hby d7_31) rfl (l' := #[rv a7_0, iv (((31 : Int32) * ((31 : Int32) + x0)) + x1), iv (1 : Int32)]) rfl ?_
    show Steps p.tables e below (T10.setTop (mkF m 32 #[rv a7_0, iv (((31 : Int32) * ((31 : Int32) + x0)) + x1), iv (1 : Int32)] [])) _
    refine XS.iinc X10.here hx rfl (hb hby d7_32) rfl (l' := #[rv a7_0, iv (((31 : Int32) * ((31 : Int32) + x0)) + x1), iv (2 : Int32)]) rfl ?_
    show Steps p.tables e below (T10.setTop (mkF m 35 #[rv a7_0, iv (((31 : Int32) * ((31 : Int32) + x0)) + x1), iv (2 : Int32)] [])) _
    refine XS.goto X10.here hx rfl (pc0 := 35) (pc' := 7) rfl (hb hby d7_35) (by decide) (by decide) ?_
    show Steps p.tables e below (T10.setTop (mkF m 7 #[rv a7_0, iv (((31 : Int32) * ((31 : Int32) + x0)) + x1), iv (2 : Int32)] [])) _
    refine XS.iloadN X10.here hx rfl (hb hby d7_7) rfl ?_
    show Steps p.tables e below (T10.setTop (mkF m 8 #[rv a7_0, iv (((31 : Int32) * ((31 : Int32) + x0)) + x1), iv (2 : Int32)] [(.int (2 : Int32))])) _
    refine XS.aloadN X10.here hx rfl (hb hby d7_8) rfl rfl ?_
    show Steps p.tables e below (T10.setTop (mkF m 9 #[rv a7_0, iv (((31 : Int32) * ((31 : Int32) + x0)) + x1), iv (2 : Int32)] [(.ref a7_0), (.int (2 : Int32))])) _
    refine st14 _ ?_
    show Steps p.tables e below (T14.setTop (mkF m 12 #[rv a7_0, iv (((31 : Int32) * ((31 : Int32) + x0)) + x1), iv (2 : Int32)] [(.int (0 : Int32)), (.int (2 : Int32))])) _
    refine XS.aloadN X14.here hx rfl (hb hby d7_12) rfl rfl ?_
    show Steps p.tables e below (T14.setTop (mkF m 13 #[rv a7_0, iv (((31 : Int32) * ((31 : Int32) + x0)) + x1), iv (2 : Int32)] [(.ref a7_0), (.int (0 : Int32)), (.int (2 : Int32))])) _
    refine st15 _ ?_
    show Steps p.tables e below (T15.setTop (mkF m 16 #[rv a7_0, iv (((31 : Int32) * ((31 : Int32) + x0)) + x1), iv (2 : Int32)] [(.int (5 : Int32)), (.int (0 : Int32)), (.int (2 : Int32))])) _
    refine XS.iadd X15.here hx rfl (hb hby d7_16) rfl ?_
    show Steps p.tables e below (T15.setTop (mkF m 17 #[rv a7_0, iv (((31 : Int32) * ((31 : Int32) + x0)) + x1), iv (2 : Int32)] [(.int (5 : Int32)), (.int (2 : Int32))])) _
    refine XS.icmpNo X15.here hx rfl (hb hby d7_17) rfl (tlt (by decide : (2 : Int32) < (5 : Int32))).2.1 ?_
    show Steps p.tables e below (T15.setTop (mkF m 20 #[rv a7_0, iv (((31 : Int32) * ((31 : Int32) + x0)) + x1), iv (2 : Int32)] [])) _
    refine XS.bipush X15.here hx rfl (hb hby d7_20) ?_
    show Steps p.tables e below (T15.setTop (mkF m 22 #[rv a7_0, iv (((31 : Int32) * ((31 : Int32) + x0)) + x1), iv (2 : Int32)] [(.int (31 : Int32))])) _
    refine XS.iloadN X15.here hx rfl (hb hby d7_22) rfl ?_
    show Steps p.tables e below (T15.setTop (mkF m 23 #[rv a7_0, iv (((31 : Int32) * ((31 : Int32) + x0)) + x1), iv (2 : Int32)] [(.int (((31 : Int32) * ((31 : Int32) + x0)) + x1)), (.int (31 : Int32))])) _
    refine XS.imul X15.here hx rfl (hb hby d7_23) rfl ?_
    show Steps p.tables e below (T15.setTop (mkF m 24 #[rv a7_0, iv (((31 : Int32) * ((31 : Int32) + x0)) + x1), iv (2 : Int32)] [(.int ((31 : Int32) * (((31 : Int32) * ((31 : Int32) + x0)) + x1)))])) _
    refine XS.aloadN X15.here hx rfl (hb hby d7_24) rfl rfl ?_
    show Steps p.tables e below (T15.setTop (mkF m 25 #[rv a7_0, iv (((31 : Int32) * ((31 : Int32) + x0)) + x1), iv (2 : Int32)] [(.ref a7_0), (.int ((31 : Int32) * (((31 : Int32) * ((31 : Int32) + x0)) + x1)))])) _
    refine st16 _ ?_
    show Steps p.tables e below (T16.setTop (mkF m 28 #[rv a7_0, iv (((31 : Int32) * ((31 : Int32) + x0)) + x1), iv (2 : Int32)] [(.ref ar), (.int ((31 : Int32) * (((31 : Int32) * ((31 : Int32) + x0)) + x1)))])) _
    refine XS.iloadN X16.here hx rfl (hb hby d7_28) rfl ?_
    show Steps p.tables e below (T16.setTop (mkF m 29 #[rv a7_0, iv (((31 : Int32) * ((31 : Int32) + x0)) + x1), iv (2 : Int32)] [(.int (2 : Int32)), (.ref ar), (.int ((31 : Int32) * (((31 : Int32) * ((31 : Int32) + x0)) + x1)))])) _
    refine X16.baloadBytes hx (j := (2 : Int32)) (v := (.int x2)) (by rw [e16]; exact Ar17.1) (State.isArrayOf_alike hZ.alike Ar17.2.1) Ar17.2.2 hin18 hat19 (g := (mkF m 29 #[rv a7_0, iv (((31 : Int32) * ((31 : Int32) + x0)) + x1), iv (2 : Int32)] [(.int (2 : Int32)), (.ref ar), (.int ((31 : Int32) * (((31 : Int32) * ((31 : Int32) + x0)) + x1)))])) rfl rfl (hb hby d7_29) _ ?_
    show Steps p.tables e below (T16.setTop (mkF m 30 #[rv a7_0, iv (((31 : Int32) * ((31 : Int32) + x0)) + x1), iv (2 : Int32)] [(.int x2), (.int ((31 : Int32) * (((31 : Int32) * ((31 : Int32) + x0)) + x1)))])) _
    refine XS.iadd X16.here hx rfl (hb hby d7_30) rfl ?_
    show Steps p.tables e below (T16.setTop (mkF m 31 #[rv a7_0, iv (((31 : Int32) * ((31 : Int32) + x0)) + x1), iv (2 : Int32)] [(.int (((31 : Int32) * (((31 : Int32) * ((31 : Int32) + x0)) + x1)) + x2))])) _
    refine XS.istoreN X16.here hx rfl (hb hby d7_31) rfl (l' := #[rv a7_0, iv (((31 : Int32) * (((31 : Int32) * ((31 : Int32) + x0)) + x1)) + x2), iv (2 : Int32)]) rfl ?_
    show Steps p.tables e below (T16.setTop (mkF m 32 #[rv a7_0, iv (((31 : Int32) * (((31 : Int32) * ((31 : Int32) + x0)) + x1)) + x2), iv (2 : Int32)] [])) _
    refine XS.iinc X16.here hx rfl (hb hby d7_32) rfl (l' := #[rv a7_0, iv (((31 : Int32) * (((31 : Int32) * ((31 : Int32) + x0)) + x1)) + x2), iv (3 : Int32)]) rfl ?_
    show Steps p.tables e below (T16.setTop (mkF m 35 #[rv a7_0, iv (((31 : Int32) * (((31 : Int32) * ((31 : Int32) + x0)) + x1)) + x2), iv (3 : Int32)] [])) _
    refine XS.goto X16.here hx rfl (pc0 := 35) (pc' := 7) rfl (hb hby d7_35) (by decide) (by decide) ?_
    show Steps p.tables e below (T16.setTop (mkF m 7 #[rv a7_0, iv (((31 : Int32) * (((31 : Int32) * ((31 : Int32) + x0)) + x1)) + x2), iv (3 : Int32)] [])) _
    refine XS.iloadN X16.here hx rfl (hb hby d7_7) rfl ?_
    show Steps p.tables e below (T16.setTop (mkF m 8 #[rv a7_0, iv (((31 : Int32) * (((31 : Int32) * ((31 : Int32) + x0)) + x1)) + x2), iv (3 : Int32)] [(.int (3 : Int32))])) _
    refine XS.aloadN X16.here hx rfl (hb hby d7_8) rfl rfl ?_
    show Steps p.tables e below (T16.setTop (mkF m 9 #[rv a7_0, iv (((31 : Int32) * (((31 : Int32) * ((31 : Int32) + x0)) + x1)) + x2), iv (3 : Int32)] [(.ref a7_0), (.int (3 : Int32))])) _
    refine st20 _ ?_
    show Steps p.tables e below (T20.setTop (mkF m 12 #[rv a7_0, iv (((31 : Int32) * (((31 : Int32) * ((31 : Int32) + x0)) + x1)) + x2), iv (3 : Int32)] [(.int (0 : Int32)), (.int (3 : Int32))])) _
    refine XS.aloadN X20.here hx rfl (hb hby d7_12) rfl rfl ?_
    show Steps p.tables e below (T20.setTop (mkF m 13 #[rv a7_0, iv (((31 : Int32) * (((31 : Int32) * ((31 : Int32) + x0)) + x1)) + x2), iv (3 : Int32)] [(.ref a7_0), (.int (0 : Int32)), (.int (3 : Int32))])) _
    refine st21 _ ?_
    show Steps p.tables e below (T21.setTop (mkF m 16 #[rv a7_0, iv (((31 : Int32) * (((31 : Int32) * ((31 : Int32) + x0)) + x1)) + x2), iv (3 : Int32)] [(.int (5 : Int32)), (.int (0 : Int32)), (.int (3 : Int32))])) _
    refine XS.iadd X21.here hx rfl (hb hby d7_16) rfl ?_
    show Steps p.tables e below (T21.setTop (mkF m 17 #[rv a7_0, iv (((31 : Int32) * (((31 : Int32) * ((31 : Int32) + x0)) + x1)) + x2), iv (3 : Int32)] [(.int (5 : Int32)), (.int (3 : Int32))])) _
    refine XS.icmpNo X21.here hx rfl (hb hby d7_17) rfl (tlt (by decide : (3 : Int32) < (5 : Int32))).2.1 ?_
    show Steps p.tables e below (T21.setTop (mkF m 20 #[rv a7_0, iv (((31 : Int32) * (((31 : Int32) * ((31 : Int32) + x0)) + x1)) + x2), iv (3 : Int32)] [])) _
    refine XS.bipush X21.here hx rfl (hb hby d7_20) ?_
    show Steps p.tables e below (T21.setTop (mkF m 22 #[rv a7_0, iv (((31 : Int32) * (((31 : Int32) * ((31 : Int32) + x0)) + x1)) + x2), iv (3 : Int32)] [(.int (31 : Int32))])) _
    refine XS.iloadN X21.here hx rfl (hb hby d7_22) rfl ?_
    show Steps p.tables e below (T21.setTop (mkF m 23 #[rv a7_0, iv (((31 : Int32) * (((31 : Int32) * ((31 : Int32) + x0)) + x1)) + x2), iv (3 : Int32)] [(.int (((31 : Int32) * (((31 : Int32) * ((31 : Int32) + x0)) + x1)) + x2)), (.int (31 : Int32))])) _
    refine XS.imul X21.here hx rfl (hb hby d7_23) rfl ?_
    show Steps p.tables e below (T21.setTop (mkF m 24 #[rv a7_0, iv (((31 : Int32) * (((31 : Int32) * ((31 : Int32) + x0)) + x1)) + x2), iv (3 : Int32)] [(.int ((31 : Int32) * (((31 : Int32) * (((31 : Int32) * ((31 : Int32) + x0)) + x1)) + x2)))])) _
    refine XS.aloadN X21.here hx rfl (hb hby d7_24) rfl rfl ?_
    show Steps p.tables e below (T21.setTop (mkF m 25 #[rv a7_0, iv (((31 : Int32) * (((31 : Int32) * ((31 : Int32) + x0)) + x1)) + x2), iv (3 : Int32)] [(.ref a7_0), (.int ((31 : Int32) * (((31 : Int32) * (((31 : Int32) * ((31 : Int32) + x0)) + x1)) + x2)))])) _
    refine st22 _ ?_
    show Steps p.tables e below (T22.setTop (mkF m 28 #[rv a7_0, iv (((31 : Int32) * (((31 : Int32) * ((31 : Int32) + x0)) + x1)) + x2), iv (3 : Int32)] [(.ref ar), (.int ((31 : Int32) * (((31 : Int32) * (((31 : Int32) * ((31 : Int32) + x0)) + x1)) + x2)))])) _
    refine XS.iloadN X22.here hx rfl (hb hby d7_28) rfl ?_
    show Steps p.tables e below (T22.setTop (mkF m 29 #[rv a7_0, iv (((31 : Int32) * (((31 : Int32) * ((31 : Int32) + x0)) + x1)) + x2), iv (3 : Int32)] [(.int (3 : Int32)), (.ref ar), (.int ((31 : Int32) * (((31 : Int32) * (((31 : Int32) * ((31 : Int32) + x0)) + x1)) + x2)))])) _
    refine X22.baloadBytes hx (j := (3 : Int32)) (v := (.int x3)) (by rw [e22]; exact Ar23.1) (State.isArrayOf_alike hZ.alike Ar23.2.1) Ar23.2.2 hin24 hat25 (g := (mkF m 29 #[rv a7_0, iv (((31 : Int32) * (((31 : Int32) * ((31 : Int32) + x0)) + x1)) + x2), iv (3 : Int32)] [(.int (3 : Int32)), (.ref ar), (.int ((31 : Int32) * (((31 : Int32) * (((31 : Int32) * ((31 : Int32) + x0)) + x1)) + x2)))])) rfl rfl (hb hby d7_29) _ ?_
    show Steps p.tables e below (T22.setTop (mkF m 30 #[rv a7_0, iv (((31 : Int32) * (((31 : Int32) * ((31 : Int32) + x0)) + x1)) + x2), iv (3 : Int32)] [(.int x3), (.int ((31 : Int32) * (((31 : Int32) * (((31 : Int32) * ((31 : Int32) + x0)) + x1)) + x2)))])) _
    refine XS.iadd X22.here hx rfl (hb hby d7_30) rfl ?_
    show Steps p.tables e below (T22.setTop (mkF m 31 #[rv a7_0, iv (((31 : Int32) * (((31 : Int32) * ((31 : Int32) + x0)) + x1)) + x2), iv (3 : Int32)] [(.int (((31 : Int32) * (((31 : Int32) * (((31 : Int32) * ((31 : Int32) + x0)) + x1)) + x2)) + x3))])) _
    refine XS.istoreN X22.here hx rfl (hb hby d7_31) rfl (l' := #[rv a7_0, iv (((31 : Int32) * (((31 : Int32) * (((31 : Int32) * ((31 : Int32) + x0)) + x1)) + x2)) + x3), iv (3 : Int32)]) rfl ?_
    show Steps p.tables e below (T22.setTop (mkF m 32 #[rv a7_0, iv (((31 : Int32) * (((31 : Int32) * (((31 : Int32) * ((31 : Int32) + x0)) + x1)) + x2)) + x3), iv (3 : Int32)] [])) _
    refine XS.iinc X22.here hx rfl (hb hby d7_32) rfl (l' := #[rv a7_0, iv (((31 : Int32) * (((31 : Int32) * (((31 : Int32) * ((31 : Int32) + x0)) + x1)) + x2)) + x3), iv (4 : Int32)]) rfl ?_
    show Steps p.tables e below (T22.setTop (mkF m 35 #[rv a7_0, iv (((31 : Int32) * (((31 : Int32) * (((31 : Int32) * ((31 : Int32) + x0)) + x1)) + x2)) + x3), iv (4 : Int32)] [])) _
    refine XS.goto X22.here hx rfl (pc0 := 35) (pc' := 7) rfl (hb hby d7_35) (by decide) (by decide) ?_
    show Steps p.tables e below (T22.setTop (mkF m 7 #[rv a7_0, iv (((31 : Int32) * (((31 : Int32) * (((31 : Int32) * ((31 : Int32) + x0)) + x1)) + x2)) + x3), iv (4 : Int32)] [])) _
    refine XS.iloadN X22.here hx rfl (hb hby d7_7) rfl ?_
    show Steps p.tables e below (T22.setTop (mkF m 8 #[rv a7_0, iv (((31 : Int32) * (((31 : Int32) * (((31 : Int32) * ((31 : Int32) + x0)) + x1)) + x2)) + x3), iv (4 : Int32)] [(.int (4 : Int32))])) _
    refine XS.aloadN X22.here hx rfl (hb hby d7_8) rfl rfl ?_
    show Steps p.tables e below (T22.setTop (mkF m 9 #[rv a7_0, iv (((31 : Int32) * (((31 : Int32) * (((31 : Int32) * ((31 : Int32) + x0)) + x1)) + x2)) + x3), iv (4 : Int32)] [(.ref a7_0), (.int (4 : Int32))])) _
    refine st26 _ ?_
    show Steps p.tables e below (T26.setTop (mkF m 12 #[rv a7_0, iv (((31 : Int32) * (((31 : Int32) * (((31 : Int32) * ((31 : Int32) + x0)) + x1)) + x2)) + x3), iv (4 : Int32)] [(.int (0 : Int32)), (.int (4 : Int32))])) _
    refine XS.aloadN X26.here hx rfl (hb hby d7_12) rfl rfl ?_
    show Steps p.tables e below (T26.setTop (mkF m 13 #[rv a7_0, iv (((31 : Int32) * (((31 : Int32) * (((31 : Int32) * ((31 : Int32) + x0)) + x1)) + x2)) + x3), iv (4 : Int32)] [(.ref a7_0), (.int (0 : Int32)), (.int (4 : Int32))])) _
    refine st27 _ ?_
    show Steps p.tables e below (T27.setTop (mkF m 16 #[rv a7_0, iv (((31 : Int32) * (((31 : Int32) * (((31 : Int32) * ((31 : Int32) + x0)) + x1)) + x2)) + x3), iv (4 : Int32)] [(.int (5 : Int32)), (.int (0 : Int32)), (.int (4 : Int32))])) _
    refine XS.iadd X27.here hx rfl (hb hby d7_16) rfl ?_
    show Steps p.tables e below (T27.setTop (mkF m 17 #[rv a7_0, iv (((31 : Int32) * (((31 : Int32) * (((31 : Int32) * ((31 : Int32) + x0)) + x1)) + x2)) + x3), iv (4 : Int32)] [(.int (5 : Int32)), (.int (4 : Int32))])) _
    refine XS.icmpNo X27.here hx rfl (hb hby d7_17) rfl (tlt (by decide : (4 : Int32) < (5 : Int32))).2.1 ?_
    show Steps p.tables e below (T27.setTop (mkF m 20 #[rv a7_0, iv (((31 : Int32) * (((31 : Int32) * (((31 : Int32) * ((31 : Int32) + x0)) + x1)) + x2)) + x3), iv (4 : Int32)] [])) _
    refine XS.bipush X27.here hx rfl (hb hby d7_20) ?_
    show Steps p.tables e below (T27.setTop (mkF m 22 #[rv a7_0, iv (((31 : Int32) * (((31 : Int32) * (((31 : Int32) * ((31 : Int32) + x0)) + x1)) + x2)) + x3), iv (4 : Int32)] [(.int (31 : Int32))])) _
    refine XS.iloadN X27.here hx rfl (hb hby d7_22) rfl ?_
    show Steps p.tables e below (T27.setTop (mkF m 23 #[rv a7_0, iv (((31 : Int32) * (((31 : Int32) * (((31 : Int32) * ((31 : Int32) + x0)) + x1)) + x2)) + x3), iv (4 : Int32)] [(.int (((31 : Int32) * (((31 : Int32) * (((31 : Int32) * ((31 : Int32) + x0)) + x1)) + x2)) + x3)), (.int (31 : Int32))])) _
    refine XS.imul X27.here hx rfl (hb hby d7_23) rfl ?_
    show Steps p.tables e below (T27.setTop (mkF m 24 #[rv a7_0, iv (((31 : Int32) * (((31 : Int32) * (((31 : Int32) * ((31 : Int32) + x0)) + x1)) + x2)) + x3), iv (4 : Int32)] [(.int ((31 : Int32) * (((31 : Int32) * (((31 : Int32) * (((31 : Int32) * ((31 : Int32) + x0)) + x1)) + x2)) + x3)))])) _
    refine XS.aloadN X27.here hx rfl (hb hby d7_24) rfl rfl ?_
    show Steps p.tables e below (T27.setTop (mkF m 25 #[rv a7_0, iv (((31 : Int32) * (((31 : Int32) * (((31 : Int32) * ((31 : Int32) + x0)) + x1)) + x2)) + x3), iv (4 : Int32)] [(.ref a7_0), (.int ((31 : Int32) * (((31 : Int32) * (((31 : Int32) * (((31 : Int32) * ((31 : Int32) + x0)) + x1)) + x2)) + x3)))])) _
    refine st28 _ ?_
    show Steps p.tables e below (T28.setTop (mkF m 28 #[rv a7_0, iv (((31 : Int32) * (((31 : Int32) * (((31 : Int32) * ((31 : Int32) + x0)) + x1)) + x2)) + x3), iv (4 : Int32)] [(.ref ar), (.int ((31 : Int32) * (((31 : Int32) * (((31 : Int32) * (((31 : Int32) * ((31 : Int32) + x0)) + x1)) + x2)) + x3)))])) _
    refine XS.iloadN X28.here hx rfl (hb hby d7_28) rfl ?_
    show Steps p.tables e below (T28.setTop (mkF m 29 #[rv a7_0, iv (((31 : Int32) * (((31 : Int32) * (((31 : Int32) * ((31 : Int32) + x0)) + x1)) + x2)) + x3), iv (4 : Int32)] [(.int (4 : Int32)), (.ref ar), (.int ((31 : Int32) * (((31 : Int32) * (((31 : Int32) * (((31 : Int32) * ((31 : Int32) + x0)) + x1)) + x2)) + x3)))])) _
    refine X28.baloadBytes hx (j := (4 : Int32)) (v := (.int x4)) (by rw [e28]; exact Ar29.1) (State.isArrayOf_alike hZ.alike Ar29.2.1) Ar29.2.2 hin30 hat31 (g := (mkF m 29 #[rv a7_0, iv (((31 : Int32) * (((31 : Int32) * (((31 : Int32) * ((31 : Int32) + x0)) + x1)) + x2)) + x3), iv (4 : Int32)] [(.int (4 : Int32)), (.ref ar), (.int ((31 : Int32) * (((31 : Int32) * (((31 : Int32) * (((31 : Int32) * ((31 : Int32) + x0)) + x1)) + x2)) + x3)))])) rfl rfl (hb hby d7_29) _ ?_
    show Steps p.tables e below (T28.setTop (mkF m 30 #[rv a7_0, iv (((31 : Int32) * (((31 : Int32) * (((31 : Int32) * ((31 : Int32) + x0)) + x1)) + x2)) + x3), iv (4 : Int32)] [(.int x4), (.int ((31 : Int32) * (((31 : Int32) * (((31 : Int32) * (((31 : Int32) * ((31 : Int32) + x0)) + x1)) + x2)) + x3)))])) _
    refine XS.iadd X28.here hx rfl (hb hby d7_30) rfl ?_
    show Steps p.tables e below (T28.setTop (mkF m 31 #[rv a7_0, iv (((31 : Int32) * (((31 : Int32) * (((31 : Int32) * ((31 : Int32) + x0)) + x1)) + x2)) + x3), iv (4 : Int32)] [(.int (((31 : Int32) * (((31 : Int32) * (((31 : Int32) * (((31 : Int32) * ((31 : Int32) + x0)) + x1)) + x2)) + x3)) + x4))])) _
    refine XS.istoreN X28.here hx rfl (hb hby d7_31) rfl (l' := #[rv a7_0, iv (((31 : Int32) * (((31 : Int32) * (((31 : Int32) * (((31 : Int32) * ((31 : Int32) + x0)) + x1)) + x2)) + x3)) + x4), iv (4 : Int32)]) rfl ?_
    show Steps p.tables e below (T28.setTop (mkF m 32 #[rv a7_0, iv (((31 : Int32) * (((31 : Int32) * (((31 : Int32) * (((31 : Int32) * ((31 : Int32) + x0)) + x1)) + x2)) + x3)) + x4), iv (4 : Int32)] [])) _
    refine XS.iinc X28.here hx rfl (hb hby d7_32) rfl (l' := #[rv a7_0, iv (((31 : Int32) * (((31 : Int32) * (((31 : Int32) * (((31 : Int32) * ((31 : Int32) + x0)) + x1)) + x2)) + x3)) + x4), iv (5 : Int32)]) rfl ?_
    show Steps p.tables e below (T28.setTop (mkF m 35 #[rv a7_0, iv (((31 : Int32) * (((31 : Int32) * (((31 : Int32) * (((31 : Int32) * ((31 : Int32) + x0)) + x1)) + x2)) + x3)) + x4), iv (5 : Int32)] [])) _
    refine XS.goto X28.here hx rfl (pc0 := 35) (pc' := 7) rfl (hb hby d7_35) (by decide) (by decide) ?_
    show Steps p.tables e below (T28.setTop (mkF m 7 #[rv a7_0, iv (((31 : Int32) * (((31 : Int32) * (((31 : Int32) * (((31 : Int32) * ((31 : Int32) + x0)) + x1)) + x2)) + x3)) + x4), iv (5 : Int32)] [])) _
    refine XS.iloadN X28.here hx rfl (hb hby d7_7) rfl ?_
    show Steps p.tables e below (T28.setTop (mkF m 8 #[rv a7_0, iv (((31 : Int32) * (((31 : Int32) * (((31 : Int32) * (((31 : Int32) * ((31 : Int32) + x0)) + x1)) + x2)) + x3)) + x4), iv (5 : Int32)] [(.int (5 : Int32))])) _
    refine XS.aloadN X28.here hx rfl (hb hby d7_8) rfl rfl ?_
    show Steps p.tables e below (T28.setTop (mkF m 9 #[rv a7_0, iv (((31 : Int32) * (((31 : Int32) * (((31 : Int32) * (((31 : Int32) * ((31 : Int32) + x0)) + x1)) + x2)) + x3)) + x4), iv (5 : Int32)] [(.ref a7_0), (.int (5 : Int32))])) _
    refine st32 _ ?_
    show Steps p.tables e below (T32.setTop (mkF m 12 #[rv a7_0, iv (((31 : Int32) * (((31 : Int32) * (((31 : Int32) * (((31 : Int32) * ((31 : Int32) + x0)) + x1)) + x2)) + x3)) + x4), iv (5 : Int32)] [(.int (0 : Int32)), (.int (5 : Int32))])) _
    refine XS.aloadN X32.here hx rfl (hb hby d7_12) rfl rfl ?_
    show Steps p.tables e below (T32.setTop (mkF m 13 #[rv a7_0, iv (((31 : Int32) * (((31 : Int32) * (((31 : Int32) * (((31 : Int32) * ((31 : Int32) + x0)) + x1)) + x2)) + x3)) + x4), iv (5 : Int32)] [(.ref a7_0), (.int (0 : Int32)), (.int (5 : Int32))])) _
    refine st33 _ ?_
    show Steps p.tables e below (T33.setTop (mkF m 16 #[rv a7_0, iv (((31 : Int32) * (((31 : Int32) * (((31 : Int32) * (((31 : Int32) * ((31 : Int32) + x0)) + x1)) + x2)) + x3)) + x4), iv (5 : Int32)] [(.int (5 : Int32)), (.int (0 : Int32)), (.int (5 : Int32))])) _
    refine XS.iadd X33.here hx rfl (hb hby d7_16) rfl ?_
    show Steps p.tables e below (T33.setTop (mkF m 17 #[rv a7_0, iv (((31 : Int32) * (((31 : Int32) * (((31 : Int32) * (((31 : Int32) * ((31 : Int32) + x0)) + x1)) + x2)) + x3)) + x4), iv (5 : Int32)] [(.int (5 : Int32)), (.int (5 : Int32))])) _
    refine XS.icmpYes X33.here hx rfl (pc0 := 17) (pc' := 38) rfl (hb hby d7_17) rfl (flt (by decide : ¬ ((5 : Int32) < (5 : Int32)))).2.1 (by decide) (by decide) ?_
    show Steps p.tables e below (T33.setTop (mkF m 38 #[rv a7_0, iv (((31 : Int32) * (((31 : Int32) * (((31 : Int32) * (((31 : Int32) * ((31 : Int32) + x0)) + x1)) + x2)) + x3)) + x4), iv (5 : Int32)] [])) _
    refine XS.iloadN X33.here hx rfl (hb hby d7_38) rfl ?_
    show Steps p.tables e below (T33.setTop (mkF m 39 #[rv a7_0, iv (((31 : Int32) * (((31 : Int32) * (((31 : Int32) * (((31 : Int32) * ((31 : Int32) + x0)) + x1)) + x2)) + x3)) + x4), iv (5 : Int32)] [(.int (((31 : Int32) * (((31 : Int32) * (((31 : Int32) * (((31 : Int32) * ((31 : Int32) + x0)) + x1)) + x2)) + x3)) + x4))])) _
    exact retI X33 hx Bd.returns (hb hby d7_39) hr
  · show Q_rm_h0_5 Z _ _ _ _ _ _ _ h0 n0 _ T33.heap _
    rw [e33]
    exact ⟨rfl, N0, rfl⟩
theorem ef_rm_h1_0 (m : MethodId) (x0 : Addr) : entryFrame m #[(.ref x0)] 3 = mkF m 0 #[rv x0, .unset, .unset] [] := by first | (simp [entryFrame, mkF, argsToLocals, Value.category]; done) | rfl
def Q_rm_h1_0 (Z : State) (a7_0 : Addr) (ar : Addr) (x0 : Int32) (x1 : Int32) (x2 : Int32) (x3 : Int32) (x4 : Int32) (h0 : Heap) (n0 : Nat) (v : Option Value) (h : Heap) (L : List Loc) : Prop := v = some (.int (1 : Int32)) ∧ Fr n0 L ∧ h = h0
set_option maxRecDepth 65536 in
set_option maxHeartbeats 40000000 in
theorem rm_h1_0 (l : Launch) (Z : State) (a0 : Array Value) (hw : ∀ d ∈ tables_1, d.before a0 Z = true) (ws : List Jvm.Cond) (a7_0 : Addr) (ar : Addr) (x0 : Int32) (x1 : Int32) (x2 : Int32) (x3 : Int32) (x4 : Int32) (h0 : Heap) (n0 : Nat) (Z0 : n0 ≤ h0.size) (pf_F_a7_0_array : Fld Z h0 a7_0 "com/example/tailwake/tailwake/source/mariadb/Slice" "array" "[B" (.ref ar)) (pf_F_a7_0_offset : Fld Z h0 a7_0 "com/example/tailwake/tailwake/source/mariadb/Slice" "offset" "I" (.int (1 : Int32))) (pf_F_a7_0_length : Fld Z h0 a7_0 "com/example/tailwake/tailwake/source/mariadb/Slice" "length" "I" (.int (0 : Int32))) (pf_A_ar : Av Z h0 ar .byte (5 : Int32) [(.int x0), (.int x1), (.int x2), (.int x3), (.int x4)] (.int (0 : Int32))) :
    MetFree l (⟨"com/example/tailwake/tailwake/source/mariadb/Slice", "hashCode", "()I"⟩ : MethodName) (head1 (Jvm.Cond.code (⟨"com/example/tailwake/tailwake/source/mariadb/Slice", "hashCode", "()I"⟩ : MethodName) prog_29_method_7_code 3 (some .int) :: ws) ({ frames := 0, cells := 0, slots := 0, locals := 0 } : Room)) (fun a U => a = #[(.ref a7_0)] ∧ Z.Warmed39 U.vm ∧ U.heap = h0) (fun _ _ _ _ _ => True) (fun _ U o U' => ∃ v L, o = .returned v ∧ Q_rm_h1_0 Z a7_0 ar x0 x1 x2 x3 x4 h0 n0 v U'.heap L ∧ FrameEnd U o U' L ({ frames := 0, cells := 0, slots := 0, locals := 0 } : Room).cells ({ frames := 0, cells := 0, slots := 0, locals := 0 } : Room).slots) := by
  refine MetFree.of_bodySF (plainFor_of_name pn_com_example_tailwake_tailwake_source_mariadb_Slice) hisR ?_
  intro p e s m args below meth c s₁ Bd hml0 hP hK
  obtain ⟨rfl, hZ, hh⟩ := hP
  have hx := Bd.exec
  have hby := Bd.bytes
  have hml : c.maxLocals = 3 := hml0
  have hown : s.vm.findClass "com/example/tailwake/tailwake/source/mariadb/Slice" = some m.cls := findClass_of_methodNamed Bd.named
  have hnm := (name_of_methodNamed Bd.named Bd.method).1
  have X0 : Stand p l e ({ frames := 0, cells := 0, slots := 0, locals := 0 } : Room) s m #[(.ref a7_0)] below meth c s₁ [] 0 0 := Stand.of_body Bd
  have e0 : s₁.heap = h0 := by rw [← hh, Bd.state]; rfl
  have N0 := Fr.nil n0
  have pre0 : ∀ t, Steps p.tables e below (s₁.setTop (mkF m 0 #[rv a7_0, .unset, .unset] [])) t → Steps p.tables e below (s₁.setTop (entryFrame m #[(.ref a7_0)] 3)) t := fun t k => castTop (ef_rm_h1_0 m a7_0) k
  have wo21 := hw _ (List.mem_of_getElem? (i := 21) rfl)
  have wo23 := hw _ (List.mem_of_getElem? (i := 23) rfl)
  obtain ⟨T1, X1, e1, st1⟩ := getF X0 hx hZ hown (host := "") (Or.inl wo21) Via.refl e0 pf_F_a7_0_offset (g := (mkF m 3 #[rv a7_0, iv (1 : Int32), .unset] [(.ref a7_0)])) rfl rfl (hb hby d7_3)
  obtain ⟨T2, X2, e2, st2⟩ := getF X1 hx hZ hown (host := "") (Or.inl wo21) Via.refl e1 pf_F_a7_0_offset (g := (mkF m 9 #[rv a7_0, iv (1 : Int32), iv (1 : Int32)] [(.ref a7_0), (.int (1 : Int32))])) rfl rfl (hb hby d7_9)
  obtain ⟨T3, X3, e3, st3⟩ := getF X2 hx hZ hown (host := "") (Or.inl wo23) Via.refl e2 pf_F_a7_0_length (g := (mkF m 13 #[rv a7_0, iv (1 : Int32), iv (1 : Int32)] [(.ref a7_0), (.int (1 : Int32)), (.int (1 : Int32))])) rfl rfl (hb hby d7_13)
  obtain ⟨fs, hr, hrun, hended, hW, hsame⟩ := X3.leave (v := some (.int (1 : Int32))) (fun h => by rw [Bd.returns] at h; cases h)
  refine ⟨_, _, pre0 _ ?_, hrun, hended, _, _, rfl, ?_, ⟨_, rfl⟩, hW, hsame.mono (by decide) (by decide)⟩
  · show Steps p.tables e below (s₁.setTop (mkF m 0 #[rv a7_0, .unset, .unset] [])) _
    refine XS.iconst X0.here hx rfl (hb hby d7_0) ?_
    show Steps p.tables e below (s₁.setTop (mkF m 1 #[rv a7_0, .unset, .unset] [(.int (1 : Int32))])) _
    refine XS.istoreN X0.here hx rfl (hb hby d7_1) rfl (l' := #[rv a7_0, iv (1 : Int32), .unset]) rfl ?_
    show Steps p.tables e below (s₁.setTop (mkF m 2 #[rv a7_0, iv (1 : Int32), .unset] [])) _
    refine XS.aloadN X0.here hx rfl (hb hby d7_2) rfl rfl ?_
    show Steps p.tables e below (s₁.setTop (mkF m 3 #[rv a7_0, iv (1 : Int32), .unset] [(.ref a7_0)])) _
    refine st1 _ ?_
    show Steps p.tables e below (T1.setTop (mkF m 6 #[rv a7_0, iv (1 : Int32), .unset] [(.int (1 : Int32))])) _
    refine XS.istoreN X1.here hx rfl (hb hby d7_6) rfl (l' := #[rv a7_0, iv (1 : Int32), iv (1 : Int32)]) rfl ?_
    show Steps p.tables e below (T1.setTop (mkF m 7 #[rv a7_0, iv (1 : Int32), iv (1 : Int32)] [])) _
    refine XS.iloadN X1.here hx rfl (hb hby d7_7) rfl ?_
    show Steps p.tables e below (T1.setTop (mkF m 8 #[rv a7_0, iv (1 : Int32), iv (1 : Int32)] [(.int (1 : Int32))])) _
    refine XS.aloadN X1.here hx rfl (hb hby d7_8) rfl rfl ?_
    show Steps p.tables e below (T1.setTop (mkF m 9 #[rv a7_0, iv (1 : Int32), iv (1 : Int32)] [(.ref a7_0), (.int (1 : Int32))])) _
    refine st2 _ ?_
    show Steps p.tables e below (T2.setTop (mkF m 12 #[rv a7_0, iv (1 : Int32), iv (1 : Int32)] [(.int (1 : Int32)), (.int (1 : Int32))])) _
    refine XS.aloadN X2.here hx rfl (hb hby d7_12) rfl rfl ?_
    show Steps p.tables e below (T2.setTop (mkF m 13 #[rv a7_0, iv (1 : Int32), iv (1 : Int32)] [(.ref a7_0), (.int (1 : Int32)), (.int (1 : Int32))])) _
    refine st3 _ ?_
    show Steps p.tables e below (T3.setTop (mkF m 16 #[rv a7_0, iv (1 : Int32), iv (1 : Int32)] [(.int (0 : Int32)), (.int (1 : Int32)), (.int (1 : Int32))])) _
    refine XS.iadd X3.here hx rfl (hb hby d7_16) rfl ?_
    show Steps p.tables e below (T3.setTop (mkF m 17 #[rv a7_0, iv (1 : Int32), iv (1 : Int32)] [(.int (1 : Int32)), (.int (1 : Int32))])) _
    refine XS.icmpYes X3.here hx rfl (pc0 := 17) (pc' := 38) rfl (hb hby d7_17) rfl (flt (by decide : ¬ ((1 : Int32) < (1 : Int32)))).2.1 (by decide) (by decide) ?_
    show Steps p.tables e below (T3.setTop (mkF m 38 #[rv a7_0, iv (1 : Int32), iv (1 : Int32)] [])) _
    refine XS.iloadN X3.here hx rfl (hb hby d7_38) rfl ?_
    show Steps p.tables e below (T3.setTop (mkF m 39 #[rv a7_0, iv (1 : Int32), iv (1 : Int32)] [(.int (1 : Int32))])) _
    exact retI X3 hx Bd.returns (hb hby d7_39) hr
  · show Q_rm_h1_0 Z _ _ _ _ _ _ _ h0 n0 _ T3.heap _
    rw [e3]
    exact ⟨rfl, N0, rfl⟩
theorem ef_rm_h1_1 (m : MethodId) (x0 : Addr) : entryFrame m #[(.ref x0)] 3 = mkF m 0 #[rv x0, .unset, .unset] [] := by first | (simp [entryFrame, mkF, argsToLocals, Value.category]; done) | rfl
def Q_rm_h1_1 (Z : State) (a7_0 : Addr) (ar : Addr) (x0 : Int32) (x1 : Int32) (x2 : Int32) (x3 : Int32) (x4 : Int32) (h0 : Heap) (n0 : Nat) (v : Option Value) (h : Heap) (L : List Loc) : Prop := v = some (.int ((31 : Int32) + x1)) ∧ Fr n0 L ∧ h = h0
set_option maxRecDepth 65536 in
set_option maxHeartbeats 40000000 in
theorem rm_h1_1 (l : Launch) (Z : State) (a0 : Array Value) (hw : ∀ d ∈ tables_1, d.before a0 Z = true) (ws : List Jvm.Cond) (a7_0 : Addr) (ar : Addr) (x0 : Int32) (x1 : Int32) (x2 : Int32) (x3 : Int32) (x4 : Int32) (h0 : Heap) (n0 : Nat) (Z0 : n0 ≤ h0.size) (pf_F_a7_0_array : Fld Z h0 a7_0 "com/example/tailwake/tailwake/source/mariadb/Slice" "array" "[B" (.ref ar)) (pf_F_a7_0_offset : Fld Z h0 a7_0 "com/example/tailwake/tailwake/source/mariadb/Slice" "offset" "I" (.int (1 : Int32))) (pf_F_a7_0_length : Fld Z h0 a7_0 "com/example/tailwake/tailwake/source/mariadb/Slice" "length" "I" (.int (1 : Int32))) (pf_A_ar : Av Z h0 ar .byte (5 : Int32) [(.int x0), (.int x1), (.int x2), (.int x3), (.int x4)] (.int (0 : Int32))) :
    MetFree l (⟨"com/example/tailwake/tailwake/source/mariadb/Slice", "hashCode", "()I"⟩ : MethodName) (head1 (Jvm.Cond.code (⟨"com/example/tailwake/tailwake/source/mariadb/Slice", "hashCode", "()I"⟩ : MethodName) prog_29_method_7_code 3 (some .int) :: ws) ({ frames := 0, cells := 0, slots := 0, locals := 0 } : Room)) (fun a U => a = #[(.ref a7_0)] ∧ Z.Warmed39 U.vm ∧ U.heap = h0) (fun _ _ _ _ _ => True) (fun _ U o U' => ∃ v L, o = .returned v ∧ Q_rm_h1_1 Z a7_0 ar x0 x1 x2 x3 x4 h0 n0 v U'.heap L ∧ FrameEnd U o U' L ({ frames := 0, cells := 0, slots := 0, locals := 0 } : Room).cells ({ frames := 0, cells := 0, slots := 0, locals := 0 } : Room).slots) := by
  refine MetFree.of_bodySF (plainFor_of_name pn_com_example_tailwake_tailwake_source_mariadb_Slice) hisR ?_
  intro p e s m args below meth c s₁ Bd hml0 hP hK
  obtain ⟨rfl, hZ, hh⟩ := hP
  have hx := Bd.exec
  have hby := Bd.bytes
  have hml : c.maxLocals = 3 := hml0
  have hown : s.vm.findClass "com/example/tailwake/tailwake/source/mariadb/Slice" = some m.cls := findClass_of_methodNamed Bd.named
  have hnm := (name_of_methodNamed Bd.named Bd.method).1
  have X0 : Stand p l e ({ frames := 0, cells := 0, slots := 0, locals := 0 } : Room) s m #[(.ref a7_0)] below meth c s₁ [] 0 0 := Stand.of_body Bd
  have e0 : s₁.heap = h0 := by rw [← hh, Bd.state]; rfl
  have N0 := Fr.nil n0
  have pre0 : ∀ t, Steps p.tables e below (s₁.setTop (mkF m 0 #[rv a7_0, .unset, .unset] [])) t → Steps p.tables e below (s₁.setTop (entryFrame m #[(.ref a7_0)] 3)) t := fun t k => castTop (ef_rm_h1_1 m a7_0) k
  have wo19 := hw _ (List.mem_of_getElem? (i := 19) rfl)
  have wo21 := hw _ (List.mem_of_getElem? (i := 21) rfl)
  have wo23 := hw _ (List.mem_of_getElem? (i := 23) rfl)
  obtain ⟨T1, X1, e1, st1⟩ := getF X0 hx hZ hown (host := "") (Or.inl wo21) Via.refl e0 pf_F_a7_0_offset (g := (mkF m 3 #[rv a7_0, iv (1 : Int32), .unset] [(.ref a7_0)])) rfl rfl (hb hby d7_3)
  obtain ⟨T2, X2, e2, st2⟩ := getF X1 hx hZ hown (host := "") (Or.inl wo21) Via.refl e1 pf_F_a7_0_offset (g := (mkF m 9 #[rv a7_0, iv (1 : Int32), iv (1 : Int32)] [(.ref a7_0), (.int (1 : Int32))])) rfl rfl (hb hby d7_9)
  obtain ⟨T3, X3, e3, st3⟩ := getF X2 hx hZ hown (host := "") (Or.inl wo23) Via.refl e2 pf_F_a7_0_length (g := (mkF m 13 #[rv a7_0, iv (1 : Int32), iv (1 : Int32)] [(.ref a7_0), (.int (1 : Int32)), (.int (1 : Int32))])) rfl rfl (hb hby d7_13)
  obtain ⟨T4, X4, e4, st4⟩ := getF X3 hx hZ hown (host := "") (Or.inl wo19) Via.refl e3 pf_F_a7_0_array (g := (mkF m 25 #[rv a7_0, iv (1 : Int32), iv (1 : Int32)] [(.ref a7_0), (.int (31 : Int32))])) rfl rfl (hb hby d7_25)
  obtain ⟨kk5, cl5, Ar5, qq5, Sz5, Nn5, Hs5, Gf5⟩ := id pf_A_ar
  have hin6 : ¬ ((1 : Int32) < 0 ∨ cl5.slots.size ≤ ((1 : Int32)).toNatClampNeg) := inb_of Sz5 ⟨by decide, by decide⟩
  have hat7 : cl5.slots[((1 : Int32)).toNatClampNeg]? = some (.int x1) := Has.at Hs5 hin6 rfl
  obtain ⟨T8, X8, e8, st8⟩ := getF X4 hx hZ hown (host := "") (Or.inl wo21) Via.refl e4 pf_F_a7_0_offset (g := (mkF m 9 #[rv a7_0, iv ((31 : Int32) + x1), iv (2 : Int32)] [(.ref a7_0), (.int (2 : Int32))])) rfl rfl (hb hby d7_9)
  obtain ⟨T9, X9, e9, st9⟩ := getF X8 hx hZ hown (host := "") (Or.inl wo23) Via.refl e8 pf_F_a7_0_length (g := (mkF m 13 #[rv a7_0, iv ((31 : Int32) + x1), iv (2 : Int32)] [(.ref a7_0), (.int (1 : Int32)), (.int (2 : Int32))])) rfl rfl (hb hby d7_13)
  obtain ⟨fs, hr, hrun, hended, hW, hsame⟩ := X9.leave (v := some (.int ((31 : Int32) + x1))) (fun h => by rw [Bd.returns] at h; cases h)
  refine ⟨_, _, pre0 _ ?_, hrun, hended, _, _, rfl, ?_, ⟨_, rfl⟩, hW, hsame.mono (by decide) (by decide)⟩
  · show Steps p.tables e below (s₁.setTop (mkF m 0 #[rv a7_0, .unset, .unset] [])) _
    refine XS.iconst X0.here hx rfl (hb hby d7_0) ?_
    show Steps p.tables e below (s₁.setTop (mkF m 1 #[rv a7_0, .unset, .unset] [(.int (1 : Int32))])) _
    refine XS.istoreN X0.here hx rfl (hb hby d7_1) rfl (l' := #[rv a7_0, iv (1 : Int32), .unset]) rfl ?_
    show Steps p.tables e below (s₁.setTop (mkF m 2 #[rv a7_0, iv (1 : Int32), .unset] [])) _
    refine XS.aloadN X0.here hx rfl (hb hby d7_2) rfl rfl ?_
    show Steps p.tables e below (s₁.setTop (mkF m 3 #[rv a7_0, iv (1 : Int32), .unset] [(.ref a7_0)])) _
    refine st1 _ ?_
    show Steps p.tables e below (T1.setTop (mkF m 6 #[rv a7_0, iv (1 : Int32), .unset] [(.int (1 : Int32))])) _
    refine XS.istoreN X1.here hx rfl (hb hby d7_6) rfl (l' := #[rv a7_0, iv (1 : Int32), iv (1 : Int32)]) rfl ?_
    show Steps p.tables e below (T1.setTop (mkF m 7 #[rv a7_0, iv (1 : Int32), iv (1 : Int32)] [])) _
    refine XS.iloadN X1.here hx rfl (hb hby d7_7) rfl ?_
    show Steps p.tables e below (T1.setTop (mkF m 8 #[rv a7_0, iv (1 : Int32), iv (1 : Int32)] [(.int (1 : Int32))])) _
    refine XS.aloadN X1.here hx rfl (hb hby d7_8) rfl rfl ?_
    show Steps p.tables e below (T1.setTop (mkF m 9 #[rv a7_0, iv (1 : Int32), iv (1 : Int32)] [(.ref a7_0), (.int (1 : Int32))])) _
    refine st2 _ ?_
    show Steps p.tables e below (T2.setTop (mkF m 12 #[rv a7_0, iv (1 : Int32), iv (1 : Int32)] [(.int (1 : Int32)), (.int (1 : Int32))])) _
    refine XS.aloadN X2.here hx rfl (hb hby d7_12) rfl rfl ?_
    show Steps p.tables e below (T2.setTop (mkF m 13 #[rv a7_0, iv (1 : Int32), iv (1 : Int32)] [(.ref a7_0), (.int (1 : Int32)), (.int (1 : Int32))])) _
    refine st3 _ ?_
    show Steps p.tables e below (T3.setTop (mkF m 16 #[rv a7_0, iv (1 : Int32), iv (1 : Int32)] [(.int (1 : Int32)), (.int (1 : Int32)), (.int (1 : Int32))])) _
    refine XS.iadd X3.here hx rfl (hb hby d7_16) rfl ?_
    show Steps p.tables e below (T3.setTop (mkF m 17 #[rv a7_0, iv (1 : Int32), iv (1 : Int32)] [(.int (2 : Int32)), (.int (1 : Int32))])) _
    refine XS.icmpNo X3.here hx rfl (hb hby d7_17) rfl (tlt (by decide : (1 : Int32) < (2 : Int32))).2.1 ?_
    show Steps p.tables e below (T3.setTop (mkF m 20 #[rv a7_0, iv (1 : Int32), iv (1 : Int32)] [])) _
    refine XS.bipush X3.here hx rfl (hb hby d7_20) ?_
    show Steps p.tables e below (T3.setTop (mkF m 22 #[rv a7_0, iv (1 : Int32), iv (1 : Int32)] [(.int (31 : Int32))])) _
    refine XS.iloadN X3.here hx rfl (hb hby d7_22) rfl ?_
    show Steps p.tables e below (T3.setTop (mkF m 23 #[rv a7_0, iv (1 : Int32), iv (1 : Int32)] [(.int (1 : Int32)), (.int (31 : Int32))])) _
    refine XS.imul X3.here hx rfl (hb hby d7_23) rfl ?_
    show Steps p.tables e below (T3.setTop (mkF m 24 #[rv a7_0, iv (1 : Int32), iv (1 : Int32)] [(.int (31 : Int32))])) _
    refine XS.aloadN X3.here hx rfl (hb hby d7_24) rfl rfl ?_
    show Steps p.tables e below (T3.setTop (mkF m 25 #[rv a7_0, iv (1 : Int32), iv (1 : Int32)] [(.ref a7_0), (.int (31 : Int32))])) _
    refine st4 _ ?_
    show Steps p.tables e below (T4.setTop (mkF m 28 #[rv a7_0, iv (1 : Int32), iv (1 : Int32)] [(.ref ar), (.int (31 : Int32))])) _
    refine XS.iloadN X4.here hx rfl (hb hby d7_28) rfl ?_
    show Steps p.tables e below (T4.setTop (mkF m 29 #[rv a7_0, iv (1 : Int32), iv (1 : Int32)] [(.int (1 : Int32)), (.ref ar), (.int (31 : Int32))])) _
    refine X4.baloadBytes hx (j := (1 : Int32)) (v := (.int x1)) (by rw [e4]; exact Ar5.1) (State.isArrayOf_alike hZ.alike Ar5.2.1) Ar5.2.2 hin6 hat7 (g := (mkF m 29 #[rv a7_0, iv (1 : Int32), iv (1 : Int32)] [(.int (1 : Int32)), (.ref ar), (.int (31 : Int32))])) rfl rfl (hb hby d7_29) _ ?_
    show Steps p.tables e below (T4.setTop (mkF m 30 #[rv a7_0, iv (1 : Int32), iv (1 : Int32)] [(.int x1), (.int (31 : Int32))])) _
    refine XS.iadd X4.here hx rfl (hb hby d7_30) rfl ?_
    show Steps p.tables e below (T4.setTop (mkF m 31 #[rv a7_0, iv (1 : Int32), iv (1 : Int32)] [(.int ((31 : Int32) + x1))])) _
    refine XS.istoreN X4.here hx rfl (hb hby d7_31) rfl (l' := #[rv a7_0, iv ((31 : Int32) + x1), iv (1 : Int32)]) rfl ?_
    show Steps p.tables e below (T4.setTop (mkF m 32 #[rv a7_0, iv ((31 : Int32) + x1), iv (1 : Int32)] [])) _
    refine XS.iinc X4.here hx rfl (hb hby d7_32) rfl (l' := #[rv a7_0, iv ((31 : Int32) + x1), iv (2 : Int32)]) rfl ?_
    show Steps p.tables e below (T4.setTop (mkF m 35 #[rv a7_0, iv ((31 : Int32) + x1), iv (2 : Int32)] [])) _
    refine XS.goto X4.here hx rfl (pc0 := 35) (pc' := 7) rfl (hb hby d7_35) (by decide) (by decide) ?_
    show Steps p.tables e below (T4.setTop (mkF m 7 #[rv a7_0, iv ((31 : Int32) + x1), iv (2 : Int32)] [])) _
    refine XS.iloadN X4.here hx rfl (hb hby d7_7) rfl ?_
    show Steps p.tables e below (T4.setTop (mkF m 8 #[rv a7_0, iv ((31 : Int32) + x1), iv (2 : Int32)] [(.int (2 : Int32))])) _
    refine XS.aloadN X4.here hx rfl (hb hby d7_8) rfl rfl ?_
    show Steps p.tables e below (T4.setTop (mkF m 9 #[rv a7_0, iv ((31 : Int32) + x1), iv (2 : Int32)] [(.ref a7_0), (.int (2 : Int32))])) _
    refine st8 _ ?_
    show Steps p.tables e below (T8.setTop (mkF m 12 #[rv a7_0, iv ((31 : Int32) + x1), iv (2 : Int32)] [(.int (1 : Int32)), (.int (2 : Int32))])) _
    refine XS.aloadN X8.here hx rfl (hb hby d7_12) rfl rfl ?_
    show Steps p.tables e below (T8.setTop (mkF m 13 #[rv a7_0, iv ((31 : Int32) + x1), iv (2 : Int32)] [(.ref a7_0), (.int (1 : Int32)), (.int (2 : Int32))])) _
    refine st9 _ ?_
    show Steps p.tables e below (T9.setTop (mkF m 16 #[rv a7_0, iv ((31 : Int32) + x1), iv (2 : Int32)] [(.int (1 : Int32)), (.int (1 : Int32)), (.int (2 : Int32))])) _
    refine XS.iadd X9.here hx rfl (hb hby d7_16) rfl ?_
    show Steps p.tables e below (T9.setTop (mkF m 17 #[rv a7_0, iv ((31 : Int32) + x1), iv (2 : Int32)] [(.int (2 : Int32)), (.int (2 : Int32))])) _
    refine XS.icmpYes X9.here hx rfl (pc0 := 17) (pc' := 38) rfl (hb hby d7_17) rfl (flt (by decide : ¬ ((2 : Int32) < (2 : Int32)))).2.1 (by decide) (by decide) ?_
    show Steps p.tables e below (T9.setTop (mkF m 38 #[rv a7_0, iv ((31 : Int32) + x1), iv (2 : Int32)] [])) _
    refine XS.iloadN X9.here hx rfl (hb hby d7_38) rfl ?_
    show Steps p.tables e below (T9.setTop (mkF m 39 #[rv a7_0, iv ((31 : Int32) + x1), iv (2 : Int32)] [(.int ((31 : Int32) + x1))])) _
    exact retI X9 hx Bd.returns (hb hby d7_39) hr
  · show Q_rm_h1_1 Z _ _ _ _ _ _ _ h0 n0 _ T9.heap _
    rw [e9]
    exact ⟨rfl, N0, rfl⟩
theorem ef_rm_h1_2 (m : MethodId) (x0 : Addr) : entryFrame m #[(.ref x0)] 3 = mkF m 0 #[rv x0, .unset, .unset] [] := by first | (simp [entryFrame, mkF, argsToLocals, Value.category]; done) | rfl
def Q_rm_h1_2 (Z : State) (a7_0 : Addr) (ar : Addr) (x0 : Int32) (x1 : Int32) (x2 : Int32) (x3 : Int32) (x4 : Int32) (h0 : Heap) (n0 : Nat) (v : Option Value) (h : Heap) (L : List Loc) : Prop := v = some (.int (((31 : Int32) * ((31 : Int32) + x1)) + x2)) ∧ Fr n0 L ∧ h = h0
set_option maxRecDepth 65536 in
set_option maxHeartbeats 40000000 in
theorem rm_h1_2 (l : Launch) (Z : State) (a0 : Array Value) (hw : ∀ d ∈ tables_1, d.before a0 Z = true) (ws : List Jvm.Cond) (a7_0 : Addr) (ar : Addr) (x0 : Int32) (x1 : Int32) (x2 : Int32) (x3 : Int32) (x4 : Int32) (h0 : Heap) (n0 : Nat) (Z0 : n0 ≤ h0.size) (pf_F_a7_0_array : Fld Z h0 a7_0 "com/example/tailwake/tailwake/source/mariadb/Slice" "array" "[B" (.ref ar)) (pf_F_a7_0_offset : Fld Z h0 a7_0 "com/example/tailwake/tailwake/source/mariadb/Slice" "offset" "I" (.int (1 : Int32))) (pf_F_a7_0_length : Fld Z h0 a7_0 "com/example/tailwake/tailwake/source/mariadb/Slice" "length" "I" (.int (2 : Int32))) (pf_A_ar : Av Z h0 ar .byte (5 : Int32) [(.int x0), (.int x1), (.int x2), (.int x3), (.int x4)] (.int (0 : Int32))) :
    MetFree l (⟨"com/example/tailwake/tailwake/source/mariadb/Slice", "hashCode", "()I"⟩ : MethodName) (head1 (Jvm.Cond.code (⟨"com/example/tailwake/tailwake/source/mariadb/Slice", "hashCode", "()I"⟩ : MethodName) prog_29_method_7_code 3 (some .int) :: ws) ({ frames := 0, cells := 0, slots := 0, locals := 0 } : Room)) (fun a U => a = #[(.ref a7_0)] ∧ Z.Warmed39 U.vm ∧ U.heap = h0) (fun _ _ _ _ _ => True) (fun _ U o U' => ∃ v L, o = .returned v ∧ Q_rm_h1_2 Z a7_0 ar x0 x1 x2 x3 x4 h0 n0 v U'.heap L ∧ FrameEnd U o U' L ({ frames := 0, cells := 0, slots := 0, locals := 0 } : Room).cells ({ frames := 0, cells := 0, slots := 0, locals := 0 } : Room).slots) := by
  refine MetFree.of_bodySF (plainFor_of_name pn_com_example_tailwake_tailwake_source_mariadb_Slice) hisR ?_
  intro p e s m args below meth c s₁ Bd hml0 hP hK
  obtain ⟨rfl, hZ, hh⟩ := hP
  have hx := Bd.exec
  have hby := Bd.bytes
  have hml : c.maxLocals = 3 := hml0
  have hown : s.vm.findClass "com/example/tailwake/tailwake/source/mariadb/Slice" = some m.cls := findClass_of_methodNamed Bd.named
  have hnm := (name_of_methodNamed Bd.named Bd.method).1
  have X0 : Stand p l e ({ frames := 0, cells := 0, slots := 0, locals := 0 } : Room) s m #[(.ref a7_0)] below meth c s₁ [] 0 0 := Stand.of_body Bd
  have e0 : s₁.heap = h0 := by rw [← hh, Bd.state]; rfl
  have N0 := Fr.nil n0
  have pre0 : ∀ t, Steps p.tables e below (s₁.setTop (mkF m 0 #[rv a7_0, .unset, .unset] [])) t → Steps p.tables e below (s₁.setTop (entryFrame m #[(.ref a7_0)] 3)) t := fun t k => castTop (ef_rm_h1_2 m a7_0) k
  have wo19 := hw _ (List.mem_of_getElem? (i := 19) rfl)
  have wo21 := hw _ (List.mem_of_getElem? (i := 21) rfl)
  have wo23 := hw _ (List.mem_of_getElem? (i := 23) rfl)
  obtain ⟨T1, X1, e1, st1⟩ := getF X0 hx hZ hown (host := "") (Or.inl wo21) Via.refl e0 pf_F_a7_0_offset (g := (mkF m 3 #[rv a7_0, iv (1 : Int32), .unset] [(.ref a7_0)])) rfl rfl (hb hby d7_3)
  obtain ⟨T2, X2, e2, st2⟩ := getF X1 hx hZ hown (host := "") (Or.inl wo21) Via.refl e1 pf_F_a7_0_offset (g := (mkF m 9 #[rv a7_0, iv (1 : Int32), iv (1 : Int32)] [(.ref a7_0), (.int (1 : Int32))])) rfl rfl (hb hby d7_9)
  obtain ⟨T3, X3, e3, st3⟩ := getF X2 hx hZ hown (host := "") (Or.inl wo23) Via.refl e2 pf_F_a7_0_length (g := (mkF m 13 #[rv a7_0, iv (1 : Int32), iv (1 : Int32)] [(.ref a7_0), (.int (1 : Int32)), (.int (1 : Int32))])) rfl rfl (hb hby d7_13)
  obtain ⟨T4, X4, e4, st4⟩ := getF X3 hx hZ hown (host := "") (Or.inl wo19) Via.refl e3 pf_F_a7_0_array (g := (mkF m 25 #[rv a7_0, iv (1 : Int32), iv (1 : Int32)] [(.ref a7_0), (.int (31 : Int32))])) rfl rfl (hb hby d7_25)
  obtain ⟨kk5, cl5, Ar5, qq5, Sz5, Nn5, Hs5, Gf5⟩ := id pf_A_ar
  have hin6 : ¬ ((1 : Int32) < 0 ∨ cl5.slots.size ≤ ((1 : Int32)).toNatClampNeg) := inb_of Sz5 ⟨by decide, by decide⟩
  have hat7 : cl5.slots[((1 : Int32)).toNatClampNeg]? = some (.int x1) := Has.at Hs5 hin6 rfl
  obtain ⟨T8, X8, e8, st8⟩ := getF X4 hx hZ hown (host := "") (Or.inl wo21) Via.refl e4 pf_F_a7_0_offset (g := (mkF m 9 #[rv a7_0, iv ((31 : Int32) + x1), iv (2 : Int32)] [(.ref a7_0), (.int (2 : Int32))])) rfl rfl (hb hby d7_9)
  obtain ⟨T9, X9, e9, st9⟩ := getF X8 hx hZ hown (host := "") (Or.inl wo23) Via.refl e8 pf_F_a7_0_length (g := (mkF m 13 #[rv a7_0, iv ((31 : Int32) + x1), iv (2 : Int32)] [(.ref a7_0), (.int (1 : Int32)), (.int (2 : Int32))])) rfl rfl (hb hby d7_13)
  obtain ⟨T10, X10, e10, st10⟩ := getF X9 hx hZ hown (host := "") (Or.inl wo19) Via.refl e9 pf_F_a7_0_array (g := (mkF m 25 #[rv a7_0, iv ((31 : Int32) + x1), iv (2 : Int32)] [(.ref a7_0), (.int ((31 : Int32) * ((31 : Int32) + x1)))])) rfl rfl (hb hby d7_25)
  obtain ⟨kk11, cl11, Ar11, qq11, Sz11, Nn11, Hs11, Gf11⟩ := id pf_A_ar
  have hin12 : ¬ ((2 : Int32) < 0 ∨ cl11.slots.size ≤ ((2 : Int32)).toNatClampNeg) := inb_of Sz11 ⟨by decide, by decide⟩
  have hat13 : cl11.slots[((2 : Int32)).toNatClampNeg]? = some (.int x2) := Has.at Hs11 hin12 rfl
  obtain ⟨T14, X14, e14, st14⟩ := getF X10 hx hZ hown (host := "") (Or.inl wo21) Via.refl e10 pf_F_a7_0_offset (g := (mkF m 9 #[rv a7_0, iv (((31 : Int32) * ((31 : Int32) + x1)) + x2), iv (3 : Int32)] [(.ref a7_0), (.int (3 : Int32))])) rfl rfl (hb hby d7_9)
  obtain ⟨T15, X15, e15, st15⟩ := getF X14 hx hZ hown (host := "") (Or.inl wo23) Via.refl e14 pf_F_a7_0_length (g := (mkF m 13 #[rv a7_0, iv (((31 : Int32) * ((31 : Int32) + x1)) + x2), iv (3 : Int32)] [(.ref a7_0), (.int (1 : Int32)), (.int (3 : Int32))])) rfl rfl (hb hby d7_13)
  obtain ⟨fs, hr, hrun, hended, hW, hsame⟩ := X15.leave (v := some (.int (((31 : Int32) * ((31 : Int32) + x1)) + x2))) (fun h => by rw [Bd.returns] at h; cases h)
  refine ⟨_, _, pre0 _ ?_, hrun, hended, _, _, rfl, ?_, ⟨_, rfl⟩, hW, hsame.mono (by decide) (by decide)⟩
  · show Steps p.tables e below (s₁.setTop (mkF m 0 #[rv a7_0, .unset, .unset] [])) _
    refine XS.iconst X0.here hx rfl (hb hby d7_0) ?_
    show Steps p.tables e below (s₁.setTop (mkF m 1 #[rv a7_0, .unset, .unset] [(.int (1 : Int32))])) _
    refine XS.istoreN X0.here hx rfl (hb hby d7_1) rfl (l' := #[rv a7_0, iv (1 : Int32), .unset]) rfl ?_
    show Steps p.tables e below (s₁.setTop (mkF m 2 #[rv a7_0, iv (1 : Int32), .unset] [])) _
    refine XS.aloadN X0.here hx rfl (hb hby d7_2) rfl rfl ?_
    show Steps p.tables e below (s₁.setTop (mkF m 3 #[rv a7_0, iv (1 : Int32), .unset] [(.ref a7_0)])) _
    refine st1 _ ?_
    show Steps p.tables e below (T1.setTop (mkF m 6 #[rv a7_0, iv (1 : Int32), .unset] [(.int (1 : Int32))])) _
    refine XS.istoreN X1.here hx rfl (hb hby d7_6) rfl (l' := #[rv a7_0, iv (1 : Int32), iv (1 : Int32)]) rfl ?_
    show Steps p.tables e below (T1.setTop (mkF m 7 #[rv a7_0, iv (1 : Int32), iv (1 : Int32)] [])) _
    refine XS.iloadN X1.here hx rfl (hb hby d7_7) rfl ?_
    show Steps p.tables e below (T1.setTop (mkF m 8 #[rv a7_0, iv (1 : Int32), iv (1 : Int32)] [(.int (1 : Int32))])) _
    refine XS.aloadN X1.here hx rfl (hb hby d7_8) rfl rfl ?_
    show Steps p.tables e below (T1.setTop (mkF m 9 #[rv a7_0, iv (1 : Int32), iv (1 : Int32)] [(.ref a7_0), (.int (1 : Int32))])) _
    refine st2 _ ?_
    show Steps p.tables e below (T2.setTop (mkF m 12 #[rv a7_0, iv (1 : Int32), iv (1 : Int32)] [(.int (1 : Int32)), (.int (1 : Int32))])) _
    refine XS.aloadN X2.here hx rfl (hb hby d7_12) rfl rfl ?_
    show Steps p.tables e below (T2.setTop (mkF m 13 #[rv a7_0, iv (1 : Int32), iv (1 : Int32)] [(.ref a7_0), (.int (1 : Int32)), (.int (1 : Int32))])) _
    refine st3 _ ?_
    show Steps p.tables e below (T3.setTop (mkF m 16 #[rv a7_0, iv (1 : Int32), iv (1 : Int32)] [(.int (2 : Int32)), (.int (1 : Int32)), (.int (1 : Int32))])) _
    refine XS.iadd X3.here hx rfl (hb hby d7_16) rfl ?_
    show Steps p.tables e below (T3.setTop (mkF m 17 #[rv a7_0, iv (1 : Int32), iv (1 : Int32)] [(.int (3 : Int32)), (.int (1 : Int32))])) _
    refine XS.icmpNo X3.here hx rfl (hb hby d7_17) rfl (tlt (by decide : (1 : Int32) < (3 : Int32))).2.1 ?_
    show Steps p.tables e below (T3.setTop (mkF m 20 #[rv a7_0, iv (1 : Int32), iv (1 : Int32)] [])) _
    refine XS.bipush X3.here hx rfl (hb hby d7_20) ?_
    show Steps p.tables e below (T3.setTop (mkF m 22 #[rv a7_0, iv (1 : Int32), iv (1 : Int32)] [(.int (31 : Int32))])) _
    refine XS.iloadN X3.here hx rfl (hb hby d7_22) rfl ?_
    show Steps p.tables e below (T3.setTop (mkF m 23 #[rv a7_0, iv (1 : Int32), iv (1 : Int32)] [(.int (1 : Int32)), (.int (31 : Int32))])) _
    refine XS.imul X3.here hx rfl (hb hby d7_23) rfl ?_
    show Steps p.tables e below (T3.setTop (mkF m 24 #[rv a7_0, iv (1 : Int32), iv (1 : Int32)] [(.int (31 : Int32))])) _
    refine XS.aloadN X3.here hx rfl (hb hby d7_24) rfl rfl ?_
    show Steps p.tables e below (T3.setTop (mkF m 25 #[rv a7_0, iv (1 : Int32), iv (1 : Int32)] [(.ref a7_0), (.int (31 : Int32))])) _
    refine st4 _ ?_
    show Steps p.tables e below (T4.setTop (mkF m 28 #[rv a7_0, iv (1 : Int32), iv (1 : Int32)] [(.ref ar), (.int (31 : Int32))])) _
    refine XS.iloadN X4.here hx rfl (hb hby d7_28) rfl ?_
    show Steps p.tables e below (T4.setTop (mkF m 29 #[rv a7_0, iv (1 : Int32), iv (1 : Int32)] [(.int (1 : Int32)), (.ref ar), (.int (31 : Int32))])) _
    refine X4.baloadBytes hx (j := (1 : Int32)) (v := (.int x1)) (by rw [e4]; exact Ar5.1) (State.isArrayOf_alike hZ.alike Ar5.2.1) Ar5.2.2 hin6 hat7 (g := (mkF m 29 #[rv a7_0, iv (1 : Int32), iv (1 : Int32)] [(.int (1 : Int32)), (.ref ar), (.int (31 : Int32))])) rfl rfl (hb hby d7_29) _ ?_
    show Steps p.tables e below (T4.setTop (mkF m 30 #[rv a7_0, iv (1 : Int32), iv (1 : Int32)] [(.int x1), (.int (31 : Int32))])) _
    refine XS.iadd X4.here hx rfl (hb hby d7_30) rfl ?_
    show Steps p.tables e below (T4.setTop (mkF m 31 #[rv a7_0, iv (1 : Int32), iv (1 : Int32)] [(.int ((31 : Int32) + x1))])) _
    refine XS.istoreN X4.here hx rfl (hb hby d7_31) rfl (l' := #[rv a7_0, iv ((31 : Int32) + x1), iv (1 : Int32)]) rfl ?_
    show Steps p.tables e below (T4.setTop (mkF m 32 #[rv a7_0, iv ((31 : Int32) + x1), iv (1 : Int32)] [])) _
    refine XS.iinc X4.here hx rfl (hb hby d7_32) rfl (l' := #[rv a7_0, iv ((31 : Int32) + x1), iv (2 : Int32)]) rfl ?_
    show Steps p.tables e below (T4.setTop (mkF m 35 #[rv a7_0, iv ((31 : Int32) + x1), iv (2 : Int32)] [])) _
    refine XS.goto X4.here hx rfl (pc0 := 35) (pc' := 7) rfl (hb hby d7_35) (by decide) (by decide) ?_
    show Steps p.tables e below (T4.setTop (mkF m 7 #[rv a7_0, iv ((31 : Int32) + x1), iv (2 : Int32)] [])) _
    refine XS.iloadN X4.here hx rfl (hb hby d7_7) rfl ?_
    show Steps p.tables e below (T4.setTop (mkF m 8 #[rv a7_0, iv ((31 : Int32) + x1), iv (2 : Int32)] [(.int (2 : Int32))])) _
    refine XS.aloadN X4.here hx rfl (hb hby d7_8) rfl rfl ?_
    show Steps p.tables e below (T4.setTop (mkF m 9 #[rv a7_0, iv ((31 : Int32) + x1), iv (2 : Int32)] [(.ref a7_0), (.int (2 : Int32))])) _
    refine st8 _ ?_
    show Steps p.tables e below (T8.setTop (mkF m 12 #[rv a7_0, iv ((31 : Int32) + x1), iv (2 : Int32)] [(.int (1 : Int32)), (.int (2 : Int32))])) _
    refine XS.aloadN X8.here hx rfl (hb hby d7_12) rfl rfl ?_
    show Steps p.tables e below (T8.setTop (mkF m 13 #[rv a7_0, iv ((31 : Int32) + x1), iv (2 : Int32)] [(.ref a7_0), (.int (1 : Int32)), (.int (2 : Int32))])) _
    refine st9 _ ?_
    show Steps p.tables e below (T9.setTop (mkF m 16 #[rv a7_0, iv ((31 : Int32) + x1), iv (2 : Int32)] [(.int (2 : Int32)), (.int (1 : Int32)), (.int (2 : Int32))])) _
    refine XS.iadd X9.here hx rfl (hb hby d7_16) rfl ?_
    show Steps p.tables e below (T9.setTop (mkF m 17 #[rv a7_0, iv ((31 : Int32) + x1), iv (2 : Int32)] [(.int (3 : Int32)), (.int (2 : Int32))])) _
    refine XS.icmpNo X9.here hx rfl (hb hby d7_17) rfl (tlt (by decide : (2 : Int32) < (3 : Int32))).2.1 ?_
    show Steps p.tables e below (T9.setTop (mkF m 20 #[rv a7_0, iv ((31 : Int32) + x1), iv (2 : Int32)] [])) _
    refine XS.bipush X9.here hx rfl (hb hby d7_20) ?_
    show Steps p.tables e below (T9.setTop (mkF m 22 #[rv a7_0, iv ((31 : Int32) + x1), iv (2 : Int32)] [(.int (31 : Int32))])) _
    refine XS.iloadN X9.here hx rfl (hb hby d7_22) rfl ?_
    show Steps p.tables e below (T9.setTop (mkF m 23 #[rv a7_0, iv ((31 : Int32) + x1), iv (2 : Int32)] [(.int ((31 : Int32) + x1)), (.int (31 : Int32))])) _
    refine XS.imul X9.here hx rfl (hb hby d7_23) rfl ?_
    show Steps p.tables e below (T9.setTop (mkF m 24 #[rv a7_0, iv ((31 : Int32) + x1), iv (2 : Int32)] [(.int ((31 : Int32) * ((31 : Int32) + x1)))])) _
    refine XS.aloadN X9.here hx rfl (hb hby d7_24) rfl rfl ?_
    show Steps p.tables e below (T9.setTop (mkF m 25 #[rv a7_0, iv ((31 : Int32) + x1), iv (2 : Int32)] [(.ref a7_0), (.int ((31 : Int32) * ((31 : Int32) + x1)))])) _
    refine st10 _ ?_
    show Steps p.tables e below (T10.setTop (mkF m 28 #[rv a7_0, iv ((31 : Int32) + x1), iv (2 : Int32)] [(.ref ar), (.int ((31 : Int32) * ((31 : Int32) + x1)))])) _
    refine XS.iloadN X10.here hx rfl (hb hby d7_28) rfl ?_
    show Steps p.tables e below (T10.setTop (mkF m 29 #[rv a7_0, iv ((31 : Int32) + x1), iv (2 : Int32)] [(.int (2 : Int32)), (.ref ar), (.int ((31 : Int32) * ((31 : Int32) + x1)))])) _
    refine X10.baloadBytes hx (j := (2 : Int32)) (v := (.int x2)) (by rw [e10]; exact Ar11.1) (State.isArrayOf_alike hZ.alike Ar11.2.1) Ar11.2.2 hin12 hat13 (g := (mkF m 29 #[rv a7_0, iv ((31 : Int32) + x1), iv (2 : Int32)] [(.int (2 : Int32)), (.ref ar), (.int ((31 : Int32) * ((31 : Int32) + x1)))])) rfl rfl (hb hby d7_29) _ ?_
    show Steps p.tables e below (T10.setTop (mkF m 30 #[rv a7_0, iv ((31 : Int32) + x1), iv (2 : Int32)] [(.int x2), (.int ((31 : Int32) * ((31 : Int32) + x1)))])) _
    refine XS.iadd X10.here hx rfl (hb hby d7_30) rfl ?_
    show Steps p.tables e below (T10.setTop (mkF m 31 #[rv a7_0, iv ((31 : Int32) + x1), iv (2 : Int32)] [(.int (((31 : Int32) * ((31 : Int32) + x1)) + x2))])) _
    refine XS.istoreN X10.here hx rfl (hb hby d7_31) rfl (l' := #[rv a7_0, iv (((31 : Int32) * ((31 : Int32) + x1)) + x2), iv (2 : Int32)]) rfl ?_
    show Steps p.tables e below (T10.setTop (mkF m 32 #[rv a7_0, iv (((31 : Int32) * ((31 : Int32) + x1)) + x2), iv (2 : Int32)] [])) _
    refine XS.iinc X10.here hx rfl (hb hby d7_32) rfl (l' := #[rv a7_0, iv (((31 : Int32) * ((31 : Int32) + x1)) + x2), iv (3 : Int32)]) rfl ?_
    show Steps p.tables e below (T10.setTop (mkF m 35 #[rv a7_0, iv (((31 : Int32) * ((31 : Int32) + x1)) + x2), iv (3 : Int32)] [])) _
    refine XS.goto X10.here hx rfl (pc0 := 35) (pc' := 7) rfl (hb hby d7_35) (by decide) (by decide) ?_
    show Steps p.tables e below (T10.setTop (mkF m 7 #[rv a7_0, iv (((31 : Int32) * ((31 : Int32) + x1)) + x2), iv (3 : Int32)] [])) _
    refine XS.iloadN X10.here hx rfl (hb hby d7_7) rfl ?_
    show Steps p.tables e below (T10.setTop (mkF m 8 #[rv a7_0, iv (((31 : Int32) * ((31 : Int32) + x1)) + x2), iv (3 : Int32)] [(.int (3 : Int32))])) _
    refine XS.aloadN X10.here hx rfl (hb hby d7_8) rfl rfl ?_
    show Steps p.tables e below (T10.setTop (mkF m 9 #[rv a7_0, iv (((31 : Int32) * ((31 : Int32) + x1)) + x2), iv (3 : Int32)] [(.ref a7_0), (.int (3 : Int32))])) _
    refine st14 _ ?_
    show Steps p.tables e below (T14.setTop (mkF m 12 #[rv a7_0, iv (((31 : Int32) * ((31 : Int32) + x1)) + x2), iv (3 : Int32)] [(.int (1 : Int32)), (.int (3 : Int32))])) _
    refine XS.aloadN X14.here hx rfl (hb hby d7_12) rfl rfl ?_
    show Steps p.tables e below (T14.setTop (mkF m 13 #[rv a7_0, iv (((31 : Int32) * ((31 : Int32) + x1)) + x2), iv (3 : Int32)] [(.ref a7_0), (.int (1 : Int32)), (.int (3 : Int32))])) _
    refine st15 _ ?_
    show Steps p.tables e below (T15.setTop (mkF m 16 #[rv a7_0, iv (((31 : Int32) * ((31 : Int32) + x1)) + x2), iv (3 : Int32)] [(.int (2 : Int32)), (.int (1 : Int32)), (.int (3 : Int32))])) _
    refine XS.iadd X15.here hx rfl (hb hby d7_16) rfl ?_
    show Steps p.tables e below (T15.setTop (mkF m 17 #[rv a7_0, iv (((31 : Int32) * ((31 : Int32) + x1)) + x2), iv (3 : Int32)] [(.int (3 : Int32)), (.int (3 : Int32))])) _
    refine XS.icmpYes X15.here hx rfl (pc0 := 17) (pc' := 38) rfl (hb hby d7_17) rfl (flt (by decide : ¬ ((3 : Int32) < (3 : Int32)))).2.1 (by decide) (by decide) ?_
    show Steps p.tables e below (T15.setTop (mkF m 38 #[rv a7_0, iv (((31 : Int32) * ((31 : Int32) + x1)) + x2), iv (3 : Int32)] [])) _
    refine XS.iloadN X15.here hx rfl (hb hby d7_38) rfl ?_
    show Steps p.tables e below (T15.setTop (mkF m 39 #[rv a7_0, iv (((31 : Int32) * ((31 : Int32) + x1)) + x2), iv (3 : Int32)] [(.int (((31 : Int32) * ((31 : Int32) + x1)) + x2))])) _
    exact retI X15 hx Bd.returns (hb hby d7_39) hr
  · show Q_rm_h1_2 Z _ _ _ _ _ _ _ h0 n0 _ T15.heap _
    rw [e15]
    exact ⟨rfl, N0, rfl⟩
theorem ef_rm_h1_3 (m : MethodId) (x0 : Addr) : entryFrame m #[(.ref x0)] 3 = mkF m 0 #[rv x0, .unset, .unset] [] := by first | (simp [entryFrame, mkF, argsToLocals, Value.category]; done) | rfl
def Q_rm_h1_3 (Z : State) (a7_0 : Addr) (ar : Addr) (x0 : Int32) (x1 : Int32) (x2 : Int32) (x3 : Int32) (x4 : Int32) (h0 : Heap) (n0 : Nat) (v : Option Value) (h : Heap) (L : List Loc) : Prop := v = some (.int (((31 : Int32) * (((31 : Int32) * ((31 : Int32) + x1)) + x2)) + x3)) ∧ Fr n0 L ∧ h = h0
set_option maxRecDepth 65536 in
set_option maxHeartbeats 40000000 in
theorem rm_h1_3 (l : Launch) (Z : State) (a0 : Array Value) (hw : ∀ d ∈ tables_1, d.before a0 Z = true) (ws : List Jvm.Cond) (a7_0 : Addr) (ar : Addr) (x0 : Int32) (x1 : Int32) (x2 : Int32) (x3 : Int32) (x4 : Int32) (h0 : Heap) (n0 : Nat) (Z0 : n0 ≤ h0.size) (pf_F_a7_0_array : Fld Z h0 a7_0 "com/example/tailwake/tailwake/source/mariadb/Slice" "array" "[B" (.ref ar)) (pf_F_a7_0_offset : Fld Z h0 a7_0 "com/example/tailwake/tailwake/source/mariadb/Slice" "offset" "I" (.int (1 : Int32))) (pf_F_a7_0_length : Fld Z h0 a7_0 "com/example/tailwake/tailwake/source/mariadb/Slice" "length" "I" (.int (3 : Int32))) (pf_A_ar : Av Z h0 ar .byte (5 : Int32) [(.int x0), (.int x1), (.int x2), (.int x3), (.int x4)] (.int (0 : Int32))) :
    MetFree l (⟨"com/example/tailwake/tailwake/source/mariadb/Slice", "hashCode", "()I"⟩ : MethodName) (head1 (Jvm.Cond.code (⟨"com/example/tailwake/tailwake/source/mariadb/Slice", "hashCode", "()I"⟩ : MethodName) prog_29_method_7_code 3 (some .int) :: ws) ({ frames := 0, cells := 0, slots := 0, locals := 0 } : Room)) (fun a U => a = #[(.ref a7_0)] ∧ Z.Warmed39 U.vm ∧ U.heap = h0) (fun _ _ _ _ _ => True) (fun _ U o U' => ∃ v L, o = .returned v ∧ Q_rm_h1_3 Z a7_0 ar x0 x1 x2 x3 x4 h0 n0 v U'.heap L ∧ FrameEnd U o U' L ({ frames := 0, cells := 0, slots := 0, locals := 0 } : Room).cells ({ frames := 0, cells := 0, slots := 0, locals := 0 } : Room).slots) := by
  refine MetFree.of_bodySF (plainFor_of_name pn_com_example_tailwake_tailwake_source_mariadb_Slice) hisR ?_
  intro p e s m args below meth c s₁ Bd hml0 hP hK
  obtain ⟨rfl, hZ, hh⟩ := hP
  have hx := Bd.exec
  have hby := Bd.bytes
  have hml : c.maxLocals = 3 := hml0
  have hown : s.vm.findClass "com/example/tailwake/tailwake/source/mariadb/Slice" = some m.cls := findClass_of_methodNamed Bd.named
  have hnm := (name_of_methodNamed Bd.named Bd.method).1
  have X0 : Stand p l e ({ frames := 0, cells := 0, slots := 0, locals := 0 } : Room) s m #[(.ref a7_0)] below meth c s₁ [] 0 0 := Stand.of_body Bd
  have e0 : s₁.heap = h0 := by rw [← hh, Bd.state]; rfl
  have N0 := Fr.nil n0
  have pre0 : ∀ t, Steps p.tables e below (s₁.setTop (mkF m 0 #[rv a7_0, .unset, .unset] [])) t → Steps p.tables e below (s₁.setTop (entryFrame m #[(.ref a7_0)] 3)) t := fun t k => castTop (ef_rm_h1_3 m a7_0) k
  have wo19 := hw _ (List.mem_of_getElem? (i := 19) rfl)
  have wo21 := hw _ (List.mem_of_getElem? (i := 21) rfl)
  have wo23 := hw _ (List.mem_of_getElem? (i := 23) rfl)
  obtain ⟨T1, X1, e1, st1⟩ := getF X0 hx hZ hown (host := "") (Or.inl wo21) Via.refl e0 pf_F_a7_0_offset (g := (mkF m 3 #[rv a7_0, iv (1 : Int32), .unset] [(.ref a7_0)])) rfl rfl (hb hby d7_3)
  obtain ⟨T2, X2, e2, st2⟩ := getF X1 hx hZ hown (host := "") (Or.inl wo21) Via.refl e1 pf_F_a7_0_offset (g := (mkF m 9 #[rv a7_0, iv (1 : Int32), iv (1 : Int32)] [(.ref a7_0), (.int (1 : Int32))])) rfl rfl (hb hby d7_9)
  obtain ⟨T3, X3, e3, st3⟩ := getF X2 hx hZ hown (host := "") (Or.inl wo23) Via.refl e2 pf_F_a7_0_length (g := (mkF m 13 #[rv a7_0, iv (1 : Int32), iv (1 : Int32)] [(.ref a7_0), (.int (1 : Int32)), (.int (1 : Int32))])) rfl rfl (hb hby d7_13)
  obtain ⟨T4, X4, e4, st4⟩ := getF X3 hx hZ hown (host := "") (Or.inl wo19) Via.refl e3 pf_F_a7_0_array (g := (mkF m 25 #[rv a7_0, iv (1 : Int32), iv (1 : Int32)] [(.ref a7_0), (.int (31 : Int32))])) rfl rfl (hb hby d7_25)
  obtain ⟨kk5, cl5, Ar5, qq5, Sz5, Nn5, Hs5, Gf5⟩ := id pf_A_ar
  have hin6 : ¬ ((1 : Int32) < 0 ∨ cl5.slots.size ≤ ((1 : Int32)).toNatClampNeg) := inb_of Sz5 ⟨by decide, by decide⟩
  have hat7 : cl5.slots[((1 : Int32)).toNatClampNeg]? = some (.int x1) := Has.at Hs5 hin6 rfl
  obtain ⟨T8, X8, e8, st8⟩ := getF X4 hx hZ hown (host := "") (Or.inl wo21) Via.refl e4 pf_F_a7_0_offset (g := (mkF m 9 #[rv a7_0, iv ((31 : Int32) + x1), iv (2 : Int32)] [(.ref a7_0), (.int (2 : Int32))])) rfl rfl (hb hby d7_9)
  obtain ⟨T9, X9, e9, st9⟩ := getF X8 hx hZ hown (host := "") (Or.inl wo23) Via.refl e8 pf_F_a7_0_length (g := (mkF m 13 #[rv a7_0, iv ((31 : Int32) + x1), iv (2 : Int32)] [(.ref a7_0), (.int (1 : Int32)), (.int (2 : Int32))])) rfl rfl (hb hby d7_13)
  obtain ⟨T10, X10, e10, st10⟩ := getF X9 hx hZ hown (host := "") (Or.inl wo19) Via.refl e9 pf_F_a7_0_array (g := (mkF m 25 #[rv a7_0, iv ((31 : Int32) + x1), iv (2 : Int32)] [(.ref a7_0), (.int ((31 : Int32) * ((31 : Int32) + x1)))])) rfl rfl (hb hby d7_25)
  obtain ⟨kk11, cl11, Ar11, qq11, Sz11, Nn11, Hs11, Gf11⟩ := id pf_A_ar
  have hin12 : ¬ ((2 : Int32) < 0 ∨ cl11.slots.size ≤ ((2 : Int32)).toNatClampNeg) := inb_of Sz11 ⟨by decide, by decide⟩
  have hat13 : cl11.slots[((2 : Int32)).toNatClampNeg]? = some (.int x2) := Has.at Hs11 hin12 rfl
  obtain ⟨T14, X14, e14, st14⟩ := getF X10 hx hZ hown (host := "") (Or.inl wo21) Via.refl e10 pf_F_a7_0_offset (g := (mkF m 9 #[rv a7_0, iv (((31 : Int32) * ((31 : Int32) + x1)) + x2), iv (3 : Int32)] [(.ref a7_0), (.int (3 : Int32))])) rfl rfl (hb hby d7_9)
  obtain ⟨T15, X15, e15, st15⟩ := getF X14 hx hZ hown (host := "") (Or.inl wo23) Via.refl e14 pf_F_a7_0_length (g := (mkF m 13 #[rv a7_0, iv (((31 : Int32) * ((31 : Int32) + x1)) + x2), iv (3 : Int32)] [(.ref a7_0), (.int (1 : Int32)), (.int (3 : Int32))])) rfl rfl (hb hby d7_13)
  obtain ⟨T16, X16, e16, st16⟩ := getF X15 hx hZ hown (host := "") (Or.inl wo19) Via.refl e15 pf_F_a7_0_array (g := (mkF m 25 #[rv a7_0, iv (((31 : Int32) * ((31 : Int32) + x1)) + x2), iv (3 : Int32)] [(.ref a7_0), (.int ((31 : Int32) * (((31 : Int32) * ((31 : Int32) + x1)) + x2)))])) rfl rfl (hb hby d7_25)
  obtain ⟨kk17, cl17, Ar17, qq17, Sz17, Nn17, Hs17, Gf17⟩ := id pf_A_ar
  have hin18 : ¬ ((3 : Int32) < 0 ∨ cl17.slots.size ≤ ((3 : Int32)).toNatClampNeg) := inb_of Sz17 ⟨by decide, by decide⟩
  have hat19 : cl17.slots[((3 : Int32)).toNatClampNeg]? = some (.int x3) := Has.at Hs17 hin18 rfl
  obtain ⟨T20, X20, e20, st20⟩ := getF X16 hx hZ hown (host := "") (Or.inl wo21) Via.refl e16 pf_F_a7_0_offset (g := (mkF m 9 #[rv a7_0, iv (((31 : Int32) * (((31 : Int32) * ((31 : Int32) + x1)) + x2)) + x3), iv (4 : Int32)] [(.ref a7_0), (.int (4 : Int32))])) rfl rfl (hb hby d7_9)
  obtain ⟨T21, X21, e21, st21⟩ := getF X20 hx hZ hown (host := "") (Or.inl wo23) Via.refl e20 pf_F_a7_0_length (g := (mkF m 13 #[rv a7_0, iv (((31 : Int32) * (((31 : Int32) * ((31 : Int32) + x1)) + x2)) + x3), iv (4 : Int32)] [(.ref a7_0), (.int (1 : Int32)), (.int (4 : Int32))])) rfl rfl (hb hby d7_13)
  obtain ⟨fs, hr, hrun, hended, hW, hsame⟩ := X21.leave (v := some (.int (((31 : Int32) * (((31 : Int32) * ((31 : Int32) + x1)) + x2)) + x3))) (fun h => by rw [Bd.returns] at h; cases h)
  refine ⟨_, _, pre0 _ ?_, hrun, hended, _, _, rfl, ?_, ⟨_, rfl⟩, hW, hsame.mono (by decide) (by decide)⟩
  · show Steps p.tables e below (s₁.setTop (mkF m 0 #[rv a7_0, .unset, .unset] [])) _
    refine XS.iconst X0.here hx rfl (hb hby d7_0) ?_
    show Steps p.tables e below (s₁.setTop (mkF m 1 #[rv a7_0, .unset, .unset] [(.int (1 : Int32))])) _
    refine XS.istoreN X0.here hx rfl (hb hby d7_1) rfl (l' := #[rv a7_0, iv (1 : Int32), .unset]) rfl ?_
    show Steps p.tables e below (s₁.setTop (mkF m 2 #[rv a7_0, iv (1 : Int32), .unset] [])) _
    refine XS.aloadN X0.here hx rfl (hb hby d7_2) rfl rfl ?_
    show Steps p.tables e below (s₁.setTop (mkF m 3 #[rv a7_0, iv (1 : Int32), .unset] [(.ref a7_0)])) _
    refine st1 _ ?_
    show Steps p.tables e below (T1.setTop (mkF m 6 #[rv a7_0, iv (1 : Int32), .unset] [(.int (1 : Int32))])) _
    refine XS.istoreN X1.here hx rfl (hb hby d7_6) rfl (l' := #[rv a7_0, iv (1 : Int32), iv (1 : Int32)]) rfl ?_
    show Steps p.tables e below (T1.setTop (mkF m 7 #[rv a7_0, iv (1 : Int32), iv (1 : Int32)] [])) _
    refine XS.iloadN X1.here hx rfl (hb hby d7_7) rfl ?_
    show Steps p.tables e below (T1.setTop (mkF m 8 #[rv a7_0, iv (1 : Int32), iv (1 : Int32)] [(.int (1 : Int32))])) _
    refine XS.aloadN X1.here hx rfl (hb hby d7_8) rfl rfl ?_
    show Steps p.tables e below (T1.setTop (mkF m 9 #[rv a7_0, iv (1 : Int32), iv (1 : Int32)] [(.ref a7_0), (.int (1 : Int32))])) _
    refine st2 _ ?_
    show Steps p.tables e below (T2.setTop (mkF m 12 #[rv a7_0, iv (1 : Int32), iv (1 : Int32)] [(.int (1 : Int32)), (.int (1 : Int32))])) _
    refine XS.aloadN X2.here hx rfl (hb hby d7_12) rfl rfl ?_
    show Steps p.tables e below (T2.setTop (mkF m 13 #[rv a7_0, iv (1 : Int32), iv (1 : Int32)] [(.ref a7_0), (.int (1 : Int32)), (.int (1 : Int32))])) _
    refine st3 _ ?_
    show Steps p.tables e below (T3.setTop (mkF m 16 #[rv a7_0, iv (1 : Int32), iv (1 : Int32)] [(.int (3 : Int32)), (.int (1 : Int32)), (.int (1 : Int32))])) _
    refine XS.iadd X3.here hx rfl (hb hby d7_16) rfl ?_
    show Steps p.tables e below (T3.setTop (mkF m 17 #[rv a7_0, iv (1 : Int32), iv (1 : Int32)] [(.int (4 : Int32)), (.int (1 : Int32))])) _
    refine XS.icmpNo X3.here hx rfl (hb hby d7_17) rfl (tlt (by decide : (1 : Int32) < (4 : Int32))).2.1 ?_
    show Steps p.tables e below (T3.setTop (mkF m 20 #[rv a7_0, iv (1 : Int32), iv (1 : Int32)] [])) _
    refine XS.bipush X3.here hx rfl (hb hby d7_20) ?_
    show Steps p.tables e below (T3.setTop (mkF m 22 #[rv a7_0, iv (1 : Int32), iv (1 : Int32)] [(.int (31 : Int32))])) _
    refine XS.iloadN X3.here hx rfl (hb hby d7_22) rfl ?_
    show Steps p.tables e below (T3.setTop (mkF m 23 #[rv a7_0, iv (1 : Int32), iv (1 : Int32)] [(.int (1 : Int32)), (.int (31 : Int32))])) _
    refine XS.imul X3.here hx rfl (hb hby d7_23) rfl ?_
    show Steps p.tables e below (T3.setTop (mkF m 24 #[rv a7_0, iv (1 : Int32), iv (1 : Int32)] [(.int (31 : Int32))])) _
    refine XS.aloadN X3.here hx rfl (hb hby d7_24) rfl rfl ?_
    show Steps p.tables e below (T3.setTop (mkF m 25 #[rv a7_0, iv (1 : Int32), iv (1 : Int32)] [(.ref a7_0), (.int (31 : Int32))])) _
    refine st4 _ ?_
    show Steps p.tables e below (T4.setTop (mkF m 28 #[rv a7_0, iv (1 : Int32), iv (1 : Int32)] [(.ref ar), (.int (31 : Int32))])) _
    refine XS.iloadN X4.here hx rfl (hb hby d7_28) rfl ?_
    show Steps p.tables e below (T4.setTop (mkF m 29 #[rv a7_0, iv (1 : Int32), iv (1 : Int32)] [(.int (1 : Int32)), (.ref ar), (.int (31 : Int32))])) _
    refine X4.baloadBytes hx (j := (1 : Int32)) (v := (.int x1)) (by rw [e4]; exact Ar5.1) (State.isArrayOf_alike hZ.alike Ar5.2.1) Ar5.2.2 hin6 hat7 (g := (mkF m 29 #[rv a7_0, iv (1 : Int32), iv (1 : Int32)] [(.int (1 : Int32)), (.ref ar), (.int (31 : Int32))])) rfl rfl (hb hby d7_29) _ ?_
    show Steps p.tables e below (T4.setTop (mkF m 30 #[rv a7_0, iv (1 : Int32), iv (1 : Int32)] [(.int x1), (.int (31 : Int32))])) _
    refine XS.iadd X4.here hx rfl (hb hby d7_30) rfl ?_
    show Steps p.tables e below (T4.setTop (mkF m 31 #[rv a7_0, iv (1 : Int32), iv (1 : Int32)] [(.int ((31 : Int32) + x1))])) _
    refine XS.istoreN X4.here hx rfl (hb hby d7_31) rfl (l' := #[rv a7_0, iv ((31 : Int32) + x1), iv (1 : Int32)]) rfl ?_
    show Steps p.tables e below (T4.setTop (mkF m 32 #[rv a7_0, iv ((31 : Int32) + x1), iv (1 : Int32)] [])) _
    refine XS.iinc X4.here hx rfl (hb hby d7_32) rfl (l' := #[rv a7_0, iv ((31 : Int32) + x1), iv (2 : Int32)]) rfl ?_
    show Steps p.tables e below (T4.setTop (mkF m 35 #[rv a7_0, iv ((31 : Int32) + x1), iv (2 : Int32)] [])) _
    refine XS.goto X4.here hx rfl (pc0 := 35) (pc' := 7) rfl (hb hby d7_35) (by decide) (by decide) ?_
    show Steps p.tables e below (T4.setTop (mkF m 7 #[rv a7_0, iv ((31 : Int32) + x1), iv (2 : Int32)] [])) _
    refine XS.iloadN X4.here hx rfl (hb hby d7_7) rfl ?_
    show Steps p.tables e below (T4.setTop (mkF m 8 #[rv a7_0, iv ((31 : Int32) + x1), iv (2 : Int32)] [(.int (2 : Int32))])) _
    refine XS.aloadN X4.here hx rfl (hb hby d7_8) rfl rfl ?_
    show Steps p.tables e below (T4.setTop (mkF m 9 #[rv a7_0, iv ((31 : Int32) + x1), iv (2 : Int32)] [(.ref a7_0), (.int (2 : Int32))])) _
    refine st8 _ ?_
    show Steps p.tables e below (T8.setTop (mkF m 12 #[rv a7_0, iv ((31 : Int32) + x1), iv (2 : Int32)] [(.int (1 : Int32)), (.int (2 : Int32))])) _
    refine XS.aloadN X8.here hx rfl (hb hby d7_12) rfl rfl ?_
    show Steps p.tables e below (T8.setTop (mkF m 13 #[rv a7_0, iv ((31 : Int32) + x1), iv (2 : Int32)] [(.ref a7_0), (.int (1 : Int32)), (.int (2 : Int32))])) _
    refine st9 _ ?_
    show Steps p.tables e below (T9.setTop (mkF m 16 #[rv a7_0, iv ((31 : Int32) + x1), iv (2 : Int32)] [(.int (3 : Int32)), (.int (1 : Int32)), (.int (2 : Int32))])) _
    refine XS.iadd X9.here hx rfl (hb hby d7_16) rfl ?_
    show Steps p.tables e below (T9.setTop (mkF m 17 #[rv a7_0, iv ((31 : Int32) + x1), iv (2 : Int32)] [(.int (4 : Int32)), (.int (2 : Int32))])) _
    refine XS.icmpNo X9.here hx rfl (hb hby d7_17) rfl (tlt (by decide : (2 : Int32) < (4 : Int32))).2.1 ?_
    show Steps p.tables e below (T9.setTop (mkF m 20 #[rv a7_0, iv ((31 : Int32) + x1), iv (2 : Int32)] [])) _
    refine XS.bipush X9.here hx rfl (hb hby d7_20) ?_
    show Steps p.tables e below (T9.setTop (mkF m 22 #[rv a7_0, iv ((31 : Int32) + x1), iv (2 : Int32)] [(.int (31 : Int32))])) _
    refine XS.iloadN X9.here hx rfl (hb hby d7_22) rfl ?_
    show Steps p.tables e below (T9.setTop (mkF m 23 #[rv a7_0, iv ((31 : Int32) + x1), iv (2 : Int32)] [(.int ((31 : Int32) + x1)), (.int (31 : Int32))])) _
    refine XS.imul X9.here hx rfl (hb hby d7_23) rfl ?_
    show Steps p.tables e below (T9.setTop (mkF m 24 #[rv a7_0, iv ((31 : Int32) + x1), iv (2 : Int32)] [(.int ((31 : Int32) * ((31 : Int32) + x1)))])) _
    refine XS.aloadN X9.here hx rfl (hb hby d7_24) rfl rfl ?_
    show Steps p.tables e below (T9.setTop (mkF m 25 #[rv a7_0, iv ((31 : Int32) + x1), iv (2 : Int32)] [(.ref a7_0), (.int ((31 : Int32) * ((31 : Int32) + x1)))])) _
    refine st10 _ ?_
    show Steps p.tables e below (T10.setTop (mkF m 28 #[rv a7_0, iv ((31 : Int32) + x1), iv (2 : Int32)] [(.ref ar), (.int ((31 : Int32) * ((31 : Int32) + x1)))])) _
    refine XS.iloadN X10.here hx rfl (hb hby d7_28) rfl ?_
    show Steps p.tables e below (T10.setTop (mkF m 29 #[rv a7_0, iv ((31 : Int32) + x1), iv (2 : Int32)] [(.int (2 : Int32)), (.ref ar), (.int ((31 : Int32) * ((31 : Int32) + x1)))])) _
    refine X10.baloadBytes hx (j := (2 : Int32)) (v := (.int x2)) (by rw [e10]; exact Ar11.1) (State.isArrayOf_alike hZ.alike Ar11.2.1) Ar11.2.2 hin12 hat13 (g := (mkF m 29 #[rv a7_0, iv ((31 : Int32) + x1), iv (2 : Int32)] [(.int (2 : Int32)), (.ref ar), (.int ((31 : Int32) * ((31 : Int32) + x1)))])) rfl rfl (hb hby d7_29) _ ?_
    show Steps p.tables e below (T10.setTop (mkF m 30 #[rv a7_0, iv ((31 : Int32) + x1), iv (2 : Int32)] [(.int x2), (.int ((31 : Int32) * ((31 : Int32) + x1)))])) _
    refine XS.iadd X10.here hx rfl (hb hby d7_30) rfl ?_
    show Steps p.tables e below (T10.setTop (mkF m 31 #[rv a7_0, iv ((31 : Int32) + x1), iv (2 : Int32)] [(.int (((31 : Int32) * ((31 : Int32) + x1)) + x2))])) _
    refine XS.istoreN X10.here hx rfl (hb hby d7_31) rfl (l' := #[rv a7_0, iv (((31 : Int32) * ((31 : Int32) + x1)) + x2), iv (2 : Int32)]) rfl ?_
    show Steps p.tables e below (T10.setTop (mkF m 32 #[rv a7_0, iv (((31 : Int32) * ((31 : Int32) + x1)) + x2), iv (2 : Int32)] [])) _
    refine XS.iinc X10.here hx rfl (hb hby d7_32) rfl (l' := #[rv a7_0, iv (((31 : Int32) * ((31 : Int32) + x1)) + x2), iv (3 : Int32)]) rfl ?_
    show Steps p.tables e below (T10.setTop (mkF m 35 #[rv a7_0, iv (((31 : Int32) * ((31 : Int32) + x1)) + x2), iv (3 : Int32)] [])) _
    refine XS.goto X10.here hx rfl (pc0 := 35) (pc' := 7) rfl (hb hby d7_35) (by decide) (by decide) ?_
    show Steps p.tables e below (T10.setTop (mkF m 7 #[rv a7_0, iv (((31 : Int32) * ((31 : Int32) + x1)) + x2), iv (3 : Int32)] [])) _
    refine XS.iloadN X10.here hx rfl (hb hby d7_7) rfl ?_
    show Steps p.tables e below (T10.setTop (mkF m 8 #[rv a7_0, iv (((31 : Int32) * ((31 : Int32) + x1)) + x2), iv (3 : Int32)] [(.int (3 : Int32))])) _
    refine XS.aloadN X10.here hx rfl (hb hby d7_8) rfl rfl ?_
    show Steps p.tables e below (T10.setTop (mkF m 9 #[rv a7_0, iv (((31 : Int32) * ((31 : Int32) + x1)) + x2), iv (3 : Int32)] [(.ref a7_0), (.int (3 : Int32))])) _
    refine st14 _ ?_
    show Steps p.tables e below (T14.setTop (mkF m 12 #[rv a7_0, iv (((31 : Int32) * ((31 : Int32) + x1)) + x2), iv (3 : Int32)] [(.int (1 : Int32)), (.int (3 : Int32))])) _
    refine XS.aloadN X14.here hx rfl (hb hby d7_12) rfl rfl ?_
    show Steps p.tables e below (T14.setTop (mkF m 13 #[rv a7_0, iv (((31 : Int32) * ((31 : Int32) + x1)) + x2), iv (3 : Int32)] [(.ref a7_0), (.int (1 : Int32)), (.int (3 : Int32))])) _
    refine st15 _ ?_
    show Steps p.tables e below (T15.setTop (mkF m 16 #[rv a7_0, iv (((31 : Int32) * ((31 : Int32) + x1)) + x2), iv (3 : Int32)] [(.int (3 : Int32)), (.int (1 : Int32)), (.int (3 : Int32))])) _
    refine XS.iadd X15.here hx rfl (hb hby d7_16) rfl ?_
    show Steps p.tables e below (T15.setTop (mkF m 17 #[rv a7_0, iv (((31 : Int32) * ((31 : Int32) + x1)) + x2), iv (3 : Int32)] [(.int (4 : Int32)), (.int (3 : Int32))])) _
    refine XS.icmpNo X15.here hx rfl (hb hby d7_17) rfl (tlt (by decide : (3 : Int32) < (4 : Int32))).2.1 ?_
    show Steps p.tables e below (T15.setTop (mkF m 20 #[rv a7_0, iv (((31 : Int32) * ((31 : Int32) + x1)) + x2), iv (3 : Int32)] [])) _
    refine XS.bipush X15.here hx rfl (hb hby d7_20) ?_
    show Steps p.tables e below (T15.setTop (mkF m 22 #[rv a7_0, iv (((31 : Int32) * ((31 : Int32) + x1)) + x2), iv (3 : Int32)] [(.int (31 : Int32))])) _
    refine XS.iloadN X15.here hx rfl (hb hby d7_22) rfl ?_
    show Steps p.tables e below (T15.setTop (mkF m 23 #[rv a7_0, iv (((31 : Int32) * ((31 : Int32) + x1)) + x2), iv (3 : Int32)] [(.int (((31 : Int32) * ((31 : Int32) + x1)) + x2)), (.int (31 : Int32))])) _
    refine XS.imul X15.here hx rfl (hb hby d7_23) rfl ?_
    show Steps p.tables e below (T15.setTop (mkF m 24 #[rv a7_0, iv (((31 : Int32) * ((31 : Int32) + x1)) + x2), iv (3 : Int32)] [(.int ((31 : Int32) * (((31 : Int32) * ((31 : Int32) + x1)) + x2)))])) _
    refine XS.aloadN X15.here hx rfl (hb hby d7_24) rfl rfl ?_
    show Steps p.tables e below (T15.setTop (mkF m 25 #[rv a7_0, iv (((31 : Int32) * ((31 : Int32) + x1)) + x2), iv (3 : Int32)] [(.ref a7_0), (.int ((31 : Int32) * (((31 : Int32) * ((31 : Int32) + x1)) + x2)))])) _
    refine st16 _ ?_
    show Steps p.tables e below (T16.setTop (mkF m 28 #[rv a7_0, iv (((31 : Int32) * ((31 : Int32) + x1)) + x2), iv (3 : Int32)] [(.ref ar), (.int ((31 : Int32) * (((31 : Int32) * ((31 : Int32) + x1)) + x2)))])) _
    refine XS.iloadN X16.here hx rfl (hb hby d7_28) rfl ?_
    show Steps p.tables e below (T16.setTop (mkF m 29 #[rv a7_0, iv (((31 : Int32) * ((31 : Int32) + x1)) + x2), iv (3 : Int32)] [(.int (3 : Int32)), (.ref ar), (.int ((31 : Int32) * (((31 : Int32) * ((31 : Int32) + x1)) + x2)))])) _
    refine X16.baloadBytes hx (j := (3 : Int32)) (v := (.int x3)) (by rw [e16]; exact Ar17.1) (State.isArrayOf_alike hZ.alike Ar17.2.1) Ar17.2.2 hin18 hat19 (g := (mkF m 29 #[rv a7_0, iv (((31 : Int32) * ((31 : Int32) + x1)) + x2), iv (3 : Int32)] [(.int (3 : Int32)), (.ref ar), (.int ((31 : Int32) * (((31 : Int32) * ((31 : Int32) + x1)) + x2)))])) rfl rfl (hb hby d7_29) _ ?_
    show Steps p.tables e below (T16.setTop (mkF m 30 #[rv a7_0, iv (((31 : Int32) * ((31 : Int32) + x1)) + x2), iv (3 : Int32)] [(.int x3), (.int ((31 : Int32) * (((31 : Int32) * ((31 : Int32) + x1)) + x2)))])) _
    refine XS.iadd X16.here hx rfl (hb hby d7_30) rfl ?_
    show Steps p.tables e below (T16.setTop (mkF m 31 #[rv a7_0, iv (((31 : Int32) * ((31 : Int32) + x1)) + x2), iv (3 : Int32)] [(.int (((31 : Int32) * (((31 : Int32) * ((31 : Int32) + x1)) + x2)) + x3))])) _
    refine XS.istoreN X16.here hx rfl (hb hby d7_31) rfl (l' := #[rv a7_0, iv (((31 : Int32) * (((31 : Int32) * ((31 : Int32) + x1)) + x2)) + x3), iv (3 : Int32)]) rfl ?_
    show Steps p.tables e below (T16.setTop (mkF m 32 #[rv a7_0, iv (((31 : Int32) * (((31 : Int32) * ((31 : Int32) + x1)) + x2)) + x3), iv (3 : Int32)] [])) _
    refine XS.iinc X16.here hx rfl (hb hby d7_32) rfl (l' := #[rv a7_0, iv (((31 : Int32) * (((31 : Int32) * ((31 : Int32) + x1)) + x2)) + x3), iv (4 : Int32)]) rfl ?_
    show Steps p.tables e below (T16.setTop (mkF m 35 #[rv a7_0, iv (((31 : Int32) * (((31 : Int32) * ((31 : Int32) + x1)) + x2)) + x3), iv (4 : Int32)] [])) _
    refine XS.goto X16.here hx rfl (pc0 := 35) (pc' := 7) rfl (hb hby d7_35) (by decide) (by decide) ?_
    show Steps p.tables e below (T16.setTop (mkF m 7 #[rv a7_0, iv (((31 : Int32) * (((31 : Int32) * ((31 : Int32) + x1)) + x2)) + x3), iv (4 : Int32)] [])) _
    refine XS.iloadN X16.here hx rfl (hb hby d7_7) rfl ?_
    show Steps p.tables e below (T16.setTop (mkF m 8 #[rv a7_0, iv (((31 : Int32) * (((31 : Int32) * ((31 : Int32) + x1)) + x2)) + x3), iv (4 : Int32)] [(.int (4 : Int32))])) _
    refine XS.aloadN X16.here hx rfl (hb hby d7_8) rfl rfl ?_
    show Steps p.tables e below (T16.setTop (mkF m 9 #[rv a7_0, iv (((31 : Int32) * (((31 : Int32) * ((31 : Int32) + x1)) + x2)) + x3), iv (4 : Int32)] [(.ref a7_0), (.int (4 : Int32))])) _
    refine st20 _ ?_
    show Steps p.tables e below (T20.setTop (mkF m 12 #[rv a7_0, iv (((31 : Int32) * (((31 : Int32) * ((31 : Int32) + x1)) + x2)) + x3), iv (4 : Int32)] [(.int (1 : Int32)), (.int (4 : Int32))])) _
    refine XS.aloadN X20.here hx rfl (hb hby d7_12) rfl rfl ?_
    show Steps p.tables e below (T20.setTop (mkF m 13 #[rv a7_0, iv (((31 : Int32) * (((31 : Int32) * ((31 : Int32) + x1)) + x2)) + x3), iv (4 : Int32)] [(.ref a7_0), (.int (1 : Int32)), (.int (4 : Int32))])) _
    refine st21 _ ?_
    show Steps p.tables e below (T21.setTop (mkF m 16 #[rv a7_0, iv (((31 : Int32) * (((31 : Int32) * ((31 : Int32) + x1)) + x2)) + x3), iv (4 : Int32)] [(.int (3 : Int32)), (.int (1 : Int32)), (.int (4 : Int32))])) _
    refine XS.iadd X21.here hx rfl (hb hby d7_16) rfl ?_
    show Steps p.tables e below (T21.setTop (mkF m 17 #[rv a7_0, iv (((31 : Int32) * (((31 : Int32) * ((31 : Int32) + x1)) + x2)) + x3), iv (4 : Int32)] [(.int (4 : Int32)), (.int (4 : Int32))])) _
    refine XS.icmpYes X21.here hx rfl (pc0 := 17) (pc' := 38) rfl (hb hby d7_17) rfl (flt (by decide : ¬ ((4 : Int32) < (4 : Int32)))).2.1 (by decide) (by decide) ?_
    show Steps p.tables e below (T21.setTop (mkF m 38 #[rv a7_0, iv (((31 : Int32) * (((31 : Int32) * ((31 : Int32) + x1)) + x2)) + x3), iv (4 : Int32)] [])) _
    refine XS.iloadN X21.here hx rfl (hb hby d7_38) rfl ?_
    show Steps p.tables e below (T21.setTop (mkF m 39 #[rv a7_0, iv (((31 : Int32) * (((31 : Int32) * ((31 : Int32) + x1)) + x2)) + x3), iv (4 : Int32)] [(.int (((31 : Int32) * (((31 : Int32) * ((31 : Int32) + x1)) + x2)) + x3))])) _
    exact retI X21 hx Bd.returns (hb hby d7_39) hr
  · show Q_rm_h1_3 Z _ _ _ _ _ _ _ h0 n0 _ T21.heap _
    rw [e21]
    exact ⟨rfl, N0, rfl⟩
theorem ef_rm_h1_4 (m : MethodId) (x0 : Addr) : entryFrame m #[(.ref x0)] 3 = mkF m 0 #[rv x0, .unset, .unset] [] := by first | (simp [entryFrame, mkF, argsToLocals, Value.category]; done) | rfl
def Q_rm_h1_4 (Z : State) (a7_0 : Addr) (ar : Addr) (x0 : Int32) (x1 : Int32) (x2 : Int32) (x3 : Int32) (x4 : Int32) (h0 : Heap) (n0 : Nat) (v : Option Value) (h : Heap) (L : List Loc) : Prop := v = some (.int (((31 : Int32) * (((31 : Int32) * (((31 : Int32) * ((31 : Int32) + x1)) + x2)) + x3)) + x4)) ∧ Fr n0 L ∧ h = h0
set_option maxRecDepth 65536 in
set_option maxHeartbeats 40000000 in
theorem rm_h1_4 (l : Launch) (Z : State) (a0 : Array Value) (hw : ∀ d ∈ tables_1, d.before a0 Z = true) (ws : List Jvm.Cond) (a7_0 : Addr) (ar : Addr) (x0 : Int32) (x1 : Int32) (x2 : Int32) (x3 : Int32) (x4 : Int32) (h0 : Heap) (n0 : Nat) (Z0 : n0 ≤ h0.size) (pf_F_a7_0_array : Fld Z h0 a7_0 "com/example/tailwake/tailwake/source/mariadb/Slice" "array" "[B" (.ref ar)) (pf_F_a7_0_offset : Fld Z h0 a7_0 "com/example/tailwake/tailwake/source/mariadb/Slice" "offset" "I" (.int (1 : Int32))) (pf_F_a7_0_length : Fld Z h0 a7_0 "com/example/tailwake/tailwake/source/mariadb/Slice" "length" "I" (.int (4 : Int32))) (pf_A_ar : Av Z h0 ar .byte (5 : Int32) [(.int x0), (.int x1), (.int x2), (.int x3), (.int x4)] (.int (0 : Int32))) :
    MetFree l (⟨"com/example/tailwake/tailwake/source/mariadb/Slice", "hashCode", "()I"⟩ : MethodName) (head1 (Jvm.Cond.code (⟨"com/example/tailwake/tailwake/source/mariadb/Slice", "hashCode", "()I"⟩ : MethodName) prog_29_method_7_code 3 (some .int) :: ws) ({ frames := 0, cells := 0, slots := 0, locals := 0 } : Room)) (fun a U => a = #[(.ref a7_0)] ∧ Z.Warmed39 U.vm ∧ U.heap = h0) (fun _ _ _ _ _ => True) (fun _ U o U' => ∃ v L, o = .returned v ∧ Q_rm_h1_4 Z a7_0 ar x0 x1 x2 x3 x4 h0 n0 v U'.heap L ∧ FrameEnd U o U' L ({ frames := 0, cells := 0, slots := 0, locals := 0 } : Room).cells ({ frames := 0, cells := 0, slots := 0, locals := 0 } : Room).slots) := by
  refine MetFree.of_bodySF (plainFor_of_name pn_com_example_tailwake_tailwake_source_mariadb_Slice) hisR ?_
  intro p e s m args below meth c s₁ Bd hml0 hP hK
  obtain ⟨rfl, hZ, hh⟩ := hP
  have hx := Bd.exec
  have hby := Bd.bytes
  have hml : c.maxLocals = 3 := hml0
  have hown : s.vm.findClass "com/example/tailwake/tailwake/source/mariadb/Slice" = some m.cls := findClass_of_methodNamed Bd.named
  have hnm := (name_of_methodNamed Bd.named Bd.method).1
  have X0 : Stand p l e ({ frames := 0, cells := 0, slots := 0, locals := 0 } : Room) s m #[(.ref a7_0)] below meth c s₁ [] 0 0 := Stand.of_body Bd
  have e0 : s₁.heap = h0 := by rw [← hh, Bd.state]; rfl
  have N0 := Fr.nil n0
  have pre0 : ∀ t, Steps p.tables e below (s₁.setTop (mkF m 0 #[rv a7_0, .unset, .unset] [])) t → Steps p.tables e below (s₁.setTop (entryFrame m #[(.ref a7_0)] 3)) t := fun t k => castTop (ef_rm_h1_4 m a7_0) k
  have wo19 := hw _ (List.mem_of_getElem? (i := 19) rfl)
  have wo21 := hw _ (List.mem_of_getElem? (i := 21) rfl)
  have wo23 := hw _ (List.mem_of_getElem? (i := 23) rfl)
  obtain ⟨T1, X1, e1, st1⟩ := getF X0 hx hZ hown (host := "") (Or.inl wo21) Via.refl e0 pf_F_a7_0_offset (g := (mkF m 3 #[rv a7_0, iv (1 : Int32), .unset] [(.ref a7_0)])) rfl rfl (hb hby d7_3)
  obtain ⟨T2, X2, e2, st2⟩ := getF X1 hx hZ hown (host := "") (Or.inl wo21) Via.refl e1 pf_F_a7_0_offset (g := (mkF m 9 #[rv a7_0, iv (1 : Int32), iv (1 : Int32)] [(.ref a7_0), (.int (1 : Int32))])) rfl rfl (hb hby d7_9)
  obtain ⟨T3, X3, e3, st3⟩ := getF X2 hx hZ hown (host := "") (Or.inl wo23) Via.refl e2 pf_F_a7_0_length (g := (mkF m 13 #[rv a7_0, iv (1 : Int32), iv (1 : Int32)] [(.ref a7_0), (.int (1 : Int32)), (.int (1 : Int32))])) rfl rfl (hb hby d7_13)
  obtain ⟨T4, X4, e4, st4⟩ := getF X3 hx hZ hown (host := "") (Or.inl wo19) Via.refl e3 pf_F_a7_0_array (g := (mkF m 25 #[rv a7_0, iv (1 : Int32), iv (1 : Int32)] [(.ref a7_0), (.int (31 : Int32))])) rfl rfl (hb hby d7_25)
  obtain ⟨kk5, cl5, Ar5, qq5, Sz5, Nn5, Hs5, Gf5⟩ := id pf_A_ar
  have hin6 : ¬ ((1 : Int32) < 0 ∨ cl5.slots.size ≤ ((1 : Int32)).toNatClampNeg) := inb_of Sz5 ⟨by decide, by decide⟩
  have hat7 : cl5.slots[((1 : Int32)).toNatClampNeg]? = some (.int x1) := Has.at Hs5 hin6 rfl
  obtain ⟨T8, X8, e8, st8⟩ := getF X4 hx hZ hown (host := "") (Or.inl wo21) Via.refl e4 pf_F_a7_0_offset (g := (mkF m 9 #[rv a7_0, iv ((31 : Int32) + x1), iv (2 : Int32)] [(.ref a7_0), (.int (2 : Int32))])) rfl rfl (hb hby d7_9)
  obtain ⟨T9, X9, e9, st9⟩ := getF X8 hx hZ hown (host := "") (Or.inl wo23) Via.refl e8 pf_F_a7_0_length (g := (mkF m 13 #[rv a7_0, iv ((31 : Int32) + x1), iv (2 : Int32)] [(.ref a7_0), (.int (1 : Int32)), (.int (2 : Int32))])) rfl rfl (hb hby d7_13)
  obtain ⟨T10, X10, e10, st10⟩ := getF X9 hx hZ hown (host := "") (Or.inl wo19) Via.refl e9 pf_F_a7_0_array (g := (mkF m 25 #[rv a7_0, iv ((31 : Int32) + x1), iv (2 : Int32)] [(.ref a7_0), (.int ((31 : Int32) * ((31 : Int32) + x1)))])) rfl rfl (hb hby d7_25)
  obtain ⟨kk11, cl11, Ar11, qq11, Sz11, Nn11, Hs11, Gf11⟩ := id pf_A_ar
  have hin12 : ¬ ((2 : Int32) < 0 ∨ cl11.slots.size ≤ ((2 : Int32)).toNatClampNeg) := inb_of Sz11 ⟨by decide, by decide⟩
  have hat13 : cl11.slots[((2 : Int32)).toNatClampNeg]? = some (.int x2) := Has.at Hs11 hin12 rfl
  obtain ⟨T14, X14, e14, st14⟩ := getF X10 hx hZ hown (host := "") (Or.inl wo21) Via.refl e10 pf_F_a7_0_offset (g := (mkF m 9 #[rv a7_0, iv (((31 : Int32) * ((31 : Int32) + x1)) + x2), iv (3 : Int32)] [(.ref a7_0), (.int (3 : Int32))])) rfl rfl (hb hby d7_9)
  obtain ⟨T15, X15, e15, st15⟩ := getF X14 hx hZ hown (host := "") (Or.inl wo23) Via.refl e14 pf_F_a7_0_length (g := (mkF m 13 #[rv a7_0, iv (((31 : Int32) * ((31 : Int32) + x1)) + x2), iv (3 : Int32)] [(.ref a7_0), (.int (1 : Int32)), (.int (3 : Int32))])) rfl rfl (hb hby d7_13)
  obtain ⟨T16, X16, e16, st16⟩ := getF X15 hx hZ hown (host := "") (Or.inl wo19) Via.refl e15 pf_F_a7_0_array (g := (mkF m 25 #[rv a7_0, iv (((31 : Int32) * ((31 : Int32) + x1)) + x2), iv (3 : Int32)] [(.ref a7_0), (.int ((31 : Int32) * (((31 : Int32) * ((31 : Int32) + x1)) + x2)))])) rfl rfl (hb hby d7_25)
  obtain ⟨kk17, cl17, Ar17, qq17, Sz17, Nn17, Hs17, Gf17⟩ := id pf_A_ar
  have hin18 : ¬ ((3 : Int32) < 0 ∨ cl17.slots.size ≤ ((3 : Int32)).toNatClampNeg) := inb_of Sz17 ⟨by decide, by decide⟩
  have hat19 : cl17.slots[((3 : Int32)).toNatClampNeg]? = some (.int x3) := Has.at Hs17 hin18 rfl
  obtain ⟨T20, X20, e20, st20⟩ := getF X16 hx hZ hown (host := "") (Or.inl wo21) Via.refl e16 pf_F_a7_0_offset (g := (mkF m 9 #[rv a7_0, iv (((31 : Int32) * (((31 : Int32) * ((31 : Int32) + x1)) + x2)) + x3), iv (4 : Int32)] [(.ref a7_0), (.int (4 : Int32))])) rfl rfl (hb hby d7_9)
  obtain ⟨T21, X21, e21, st21⟩ := getF X20 hx hZ hown (host := "") (Or.inl wo23) Via.refl e20 pf_F_a7_0_length (g := (mkF m 13 #[rv a7_0, iv (((31 : Int32) * (((31 : Int32) * ((31 : Int32) + x1)) + x2)) + x3), iv (4 : Int32)] [(.ref a7_0), (.int (1 : Int32)), (.int (4 : Int32))])) rfl rfl (hb hby d7_13)
  obtain ⟨T22, X22, e22, st22⟩ := getF X21 hx hZ hown (host := "") (Or.inl wo19) Via.refl e21 pf_F_a7_0_array (g := (mkF m 25 #[rv a7_0, iv (((31 : Int32) * (((31 : Int32) * ((31 : Int32) + x1)) + x2)) + x3), iv (4 : Int32)] [(.ref a7_0), (.int ((31 : Int32) * (((31 : Int32) * (((31 : Int32) * ((31 : Int32) + x1)) + x2)) + x3)))])) rfl rfl (hb hby d7_25)
  obtain ⟨kk23, cl23, Ar23, qq23, Sz23, Nn23, Hs23, Gf23⟩ := id pf_A_ar
  have hin24 : ¬ ((4 : Int32) < 0 ∨ cl23.slots.size ≤ ((4 : Int32)).toNatClampNeg) := inb_of Sz23 ⟨by decide, by decide⟩
  have hat25 : cl23.slots[((4 : Int32)).toNatClampNeg]? = some (.int x4) := Has.at Hs23 hin24 rfl
  obtain ⟨T26, X26, e26, st26⟩ := getF X22 hx hZ hown (host := "") (Or.inl wo21) Via.refl e22 pf_F_a7_0_offset (g := (mkF m 9 #[rv a7_0, iv (((31 : Int32) * (((31 : Int32) * (((31 : Int32) * ((31 : Int32) + x1)) + x2)) + x3)) + x4), iv (5 : Int32)] [(.ref a7_0), (.int (5 : Int32))])) rfl rfl (hb hby d7_9)
  obtain ⟨T27, X27, e27, st27⟩ := getF X26 hx hZ hown (host := "") (Or.inl wo23) Via.refl e26 pf_F_a7_0_length (g := (mkF m 13 #[rv a7_0, iv (((31 : Int32) * (((31 : Int32) * (((31 : Int32) * ((31 : Int32) + x1)) + x2)) + x3)) + x4), iv (5 : Int32)] [(.ref a7_0), (.int (1 : Int32)), (.int (5 : Int32))])) rfl rfl (hb hby d7_13)
  obtain ⟨fs, hr, hrun, hended, hW, hsame⟩ := X27.leave (v := some (.int (((31 : Int32) * (((31 : Int32) * (((31 : Int32) * ((31 : Int32) + x1)) + x2)) + x3)) + x4))) (fun h => by rw [Bd.returns] at h; cases h)
  refine ⟨_, _, pre0 _ ?_, hrun, hended, _, _, rfl, ?_, ⟨_, rfl⟩, hW, hsame.mono (by decide) (by decide)⟩
  · show Steps p.tables e below (s₁.setTop (mkF m 0 #[rv a7_0, .unset, .unset] [])) _
    refine XS.iconst X0.here hx rfl (hb hby d7_0) ?_
    show Steps p.tables e below (s₁.setTop (mkF m 1 #[rv a7_0, .unset, .unset] [(.int (1 : Int32))])) _
    refine XS.istoreN X0.here hx rfl (hb hby d7_1) rfl (l' := #[rv a7_0, iv (1 : Int32), .unset]) rfl ?_
    show Steps p.tables e below (s₁.setTop (mkF m 2 #[rv a7_0, iv (1 : Int32), .unset] [])) _
    refine XS.aloadN X0.here hx rfl (hb hby d7_2) rfl rfl ?_
    show Steps p.tables e below (s₁.setTop (mkF m 3 #[rv a7_0, iv (1 : Int32), .unset] [(.ref a7_0)])) _
    refine st1 _ ?_
    show Steps p.tables e below (T1.setTop (mkF m 6 #[rv a7_0, iv (1 : Int32), .unset] [(.int (1 : Int32))])) _
    refine XS.istoreN X1.here hx rfl (hb hby d7_6) rfl (l' := #[rv a7_0, iv (1 : Int32), iv (1 : Int32)]) rfl ?_
    show Steps p.tables e below (T1.setTop (mkF m 7 #[rv a7_0, iv (1 : Int32), iv (1 : Int32)] [])) _
    refine XS.iloadN X1.here hx rfl (hb hby d7_7) rfl ?_
    show Steps p.tables e below (T1.setTop (mkF m 8 #[rv a7_0, iv (1 : Int32), iv (1 : Int32)] [(.int (1 : Int32))])) _
    refine XS.aloadN X1.here hx rfl (hb hby d7_8) rfl rfl ?_
    show Steps p.tables e below (T1.setTop (mkF m 9 #[rv a7_0, iv (1 : Int32), iv (1 : Int32)] [(.ref a7_0), (.int (1 : Int32))])) _
    refine st2 _ ?_
    show Steps p.tables e below (T2.setTop (mkF m 12 #[rv a7_0, iv (1 : Int32), iv (1 : Int32)] [(.int (1 : Int32)), (.int (1 : Int32))])) _
    refine XS.aloadN X2.here hx rfl (hb hby d7_12) rfl rfl ?_
    show Steps p.tables e below (T2.setTop (mkF m 13 #[rv a7_0, iv (1 : Int32), iv (1 : Int32)] [(.ref a7_0), (.int (1 : Int32)), (.int (1 : Int32))])) _
    refine st3 _ ?_
    show Steps p.tables e below (T3.setTop (mkF m 16 #[rv a7_0, iv (1 : Int32), iv (1 : Int32)] [(.int (4 : Int32)), (.int (1 : Int32)), (.int (1 : Int32))])) _
    refine XS.iadd X3.here hx rfl (hb hby d7_16) rfl ?_
    show Steps p.tables e below (T3.setTop (mkF m 17 #[rv a7_0, iv (1 : Int32), iv (1 : Int32)] [(.int (5 : Int32)), (.int (1 : Int32))])) _
    refine XS.icmpNo X3.here hx rfl (hb hby d7_17) rfl (tlt (by decide : (1 : Int32) < (5 : Int32))).2.1 ?_
    show Steps p.tables e below (T3.setTop (mkF m 20 #[rv a7_0, iv (1 : Int32), iv (1 : Int32)] [])) _
    refine XS.bipush X3.here hx rfl (hb hby d7_20) ?_
    show Steps p.tables e below (T3.setTop (mkF m 22 #[rv a7_0, iv (1 : Int32), iv (1 : Int32)] [(.int (31 : Int32))])) _
    refine XS.iloadN X3.here hx rfl (hb hby d7_22) rfl ?_
    show Steps p.tables e below (T3.setTop (mkF m 23 #[rv a7_0, iv (1 : Int32), iv (1 : Int32)] [(.int (1 : Int32)), (.int (31 : Int32))])) _
    refine XS.imul X3.here hx rfl (hb hby d7_23) rfl ?_
    show Steps p.tables e below (T3.setTop (mkF m 24 #[rv a7_0, iv (1 : Int32), iv (1 : Int32)] [(.int (31 : Int32))])) _
    refine XS.aloadN X3.here hx rfl (hb hby d7_24) rfl rfl ?_
    show Steps p.tables e below (T3.setTop (mkF m 25 #[rv a7_0, iv (1 : Int32), iv (1 : Int32)] [(.ref a7_0), (.int (31 : Int32))])) _
    refine st4 _ ?_
    show Steps p.tables e below (T4.setTop (mkF m 28 #[rv a7_0, iv (1 : Int32), iv (1 : Int32)] [(.ref ar), (.int (31 : Int32))])) _
    refine XS.iloadN X4.here hx rfl (hb hby d7_28) rfl ?_
    show Steps p.tables e below (T4.setTop (mkF m 29 #[rv a7_0, iv (1 : Int32), iv (1 : Int32)] [(.int (1 : Int32)), (.ref ar), (.int (31 : Int32))])) _
    refine X4.baloadBytes hx (j := (1 : Int32)) (v := (.int x1)) (by rw [e4]; exact Ar5.1) (State.isArrayOf_alike hZ.alike Ar5.2.1) Ar5.2.2 hin6 hat7 (g := (mkF m 29 #[rv a7_0, iv (1 : Int32), iv (1 : Int32)] [(.int (1 : Int32)), (.ref ar), (.int (31 : Int32))])) rfl rfl (hb hby d7_29) _ ?_
    show Steps p.tables e below (T4.setTop (mkF m 30 #[rv a7_0, iv (1 : Int32), iv (1 : Int32)] [(.int x1), (.int (31 : Int32))])) _
    refine XS.iadd X4.here hx rfl (hb hby d7_30) rfl ?_
    show Steps p.tables e below (T4.setTop (mkF m 31 #[rv a7_0, iv (1 : Int32), iv (1 : Int32)] [(.int ((31 : Int32) + x1))])) _
    refine XS.istoreN X4.here hx rfl (hb hby d7_31) rfl (l' := #[rv a7_0, iv ((31 : Int32) + x1), iv (1 : Int32)]) rfl ?_
    show Steps p.tables e below (T4.setTop (mkF m 32 #[rv a7_0, iv ((31 : Int32) + x1), iv (1 : Int32)] [])) _
    refine XS.iinc X4.here hx rfl (hb hby d7_32) rfl (l' := #[rv a7_0, iv ((31 : Int32) + x1), iv (2 : Int32)]) rfl ?_
    show Steps p.tables e below (T4.setTop (mkF m 35 #[rv a7_0, iv ((31 : Int32) + x1), iv (2 : Int32)] [])) _
    refine XS.goto X4.here hx rfl (pc0 := 35) (pc' := 7) rfl (hb hby d7_35) (by decide) (by decide) ?_
    show Steps p.tables e below (T4.setTop (mkF m 7 #[rv a7_0, iv ((31 : Int32) + x1), iv (2 : Int32)] [])) _
    refine XS.iloadN X4.here hx rfl (hb hby d7_7) rfl ?_
    show Steps p.tables e below (T4.setTop (mkF m 8 #[rv a7_0, iv ((31 : Int32) + x1), iv (2 : Int32)] [(.int (2 : Int32))])) _
    refine XS.aloadN X4.here hx rfl (hb hby d7_8) rfl rfl ?_
    show Steps p.tables e below (T4.setTop (mkF m 9 #[rv a7_0, iv ((31 : Int32) + x1), iv (2 : Int32)] [(.ref a7_0), (.int (2 : Int32))])) _
    refine st8 _ ?_
    show Steps p.tables e below (T8.setTop (mkF m 12 #[rv a7_0, iv ((31 : Int32) + x1), iv (2 : Int32)] [(.int (1 : Int32)), (.int (2 : Int32))])) _
    refine XS.aloadN X8.here hx rfl (hb hby d7_12) rfl rfl ?_
    show Steps p.tables e below (T8.setTop (mkF m 13 #[rv a7_0, iv ((31 : Int32) + x1), iv (2 : Int32)] [(.ref a7_0), (.int (1 : Int32)), (.int (2 : Int32))])) _
    refine st9 _ ?_
    show Steps p.tables e below (T9.setTop (mkF m 16 #[rv a7_0, iv ((31 : Int32) + x1), iv (2 : Int32)] [(.int (4 : Int32)), (.int (1 : Int32)), (.int (2 : Int32))])) _
    refine XS.iadd X9.here hx rfl (hb hby d7_16) rfl ?_
    show Steps p.tables e below (T9.setTop (mkF m 17 #[rv a7_0, iv ((31 : Int32) + x1), iv (2 : Int32)] [(.int (5 : Int32)), (.int (2 : Int32))])) _
    refine XS.icmpNo X9.here hx rfl (hb hby d7_17) rfl (tlt (by decide : (2 : Int32) < (5 : Int32))).2.1 ?_
    show Steps p.tables e below (T9.setTop (mkF m 20 #[rv a7_0, iv ((31 : Int32) + x1), iv (2 : Int32)] [])) _
    refine XS.bipush X9.here hx rfl (hb hby d7_20) ?_
    show Steps p.tables e below (T9.setTop (mkF m 22 #[rv a7_0, iv ((31 : Int32) + x1), iv (2 : Int32)] [(.int (31 : Int32))])) _
    refine XS.iloadN X9.here hx rfl (hb hby d7_22) rfl ?_
    show Steps p.tables e below (T9.setTop (mkF m 23 #[rv a7_0, iv ((31 : Int32) + x1), iv (2 : Int32)] [(.int ((31 : Int32) + x1)), (.int (31 : Int32))])) _
    refine XS.imul X9.here hx rfl (hb hby d7_23) rfl ?_
    show Steps p.tables e below (T9.setTop (mkF m 24 #[rv a7_0, iv ((31 : Int32) + x1), iv (2 : Int32)] [(.int ((31 : Int32) * ((31 : Int32) + x1)))])) _
    refine XS.aloadN X9.here hx rfl (hb hby d7_24) rfl rfl ?_
    show Steps p.tables e below (T9.setTop (mkF m 25 #[rv a7_0, iv ((31 : Int32) + x1), iv (2 : Int32)] [(.ref a7_0), (.int ((31 : Int32) * ((31 : Int32) + x1)))])) _
    refine st10 _ ?_
    show Steps p.tables e below (T10.setTop (mkF m 28 #[rv a7_0, iv ((31 : Int32) + x1), iv (2 : Int32)] [(.ref ar), (.int ((31 : Int32) * ((31 : Int32) + x1)))])) _
    refine XS.iloadN X10.here hx rfl (hb hby d7_28) rfl ?_
    show Steps p.tables e below (T10.setTop (mkF m 29 #[rv a7_0, iv ((31 : Int32) + x1), iv (2 : Int32)] [(.int (2 : Int32)), (.ref ar), (.int ((31 : Int32) * ((31 : Int32) + x1)))])) _
    refine X10.baloadBytes hx (j := (2 : Int32)) (v := (.int x2)) (by rw [e10]; exact Ar11.1) (State.isArrayOf_alike hZ.alike Ar11.2.1) Ar11.2.2 hin12 hat13 (g := (mkF m 29 #[rv a7_0, iv ((31 : Int32) + x1), iv (2 : Int32)] [(.int (2 : Int32)), (.ref ar), (.int ((31 : Int32) * ((31 : Int32) + x1)))])) rfl rfl (hb hby d7_29) _ ?_
    show Steps p.tables e below (T10.setTop (mkF m 30 #[rv a7_0, iv ((31 : Int32) + x1), iv (2 : Int32)] [(.int x2), (.int ((31 : Int32) * ((31 : Int32) + x1)))])) _
    refine XS.iadd X10.here hx rfl (hb hby d7_30) rfl ?_
    show Steps p.tables e below (T10.setTop (mkF m 31 #[rv a7_0, iv ((31 : Int32) + x1), iv (2 : Int32)] [(.int (((31 : Int32) * ((31 : Int32) + x1)) + x2))])) _
    refine XS.istoreN X10.here hx rfl (hb hby d7_31) rfl (l' := #[rv a7_0, iv (((31 : Int32) * ((31 : Int32) + x1)) + x2), iv (2 : Int32)]) rfl ?_
    show Steps p.tables e below (T10.setTop (mkF m 32 #[rv a7_0, iv (((31 : Int32) * ((31 : Int32) + x1)) + x2), iv (2 : Int32)] [])) _
    refine XS.iinc X10.here hx rfl (hb hby d7_32) rfl (l' := #[rv a7_0, iv (((31 : Int32) * ((31 : Int32) + x1)) + x2), iv (3 : Int32)]) rfl ?_
    show Steps p.tables e below (T10.setTop (mkF m 35 #[rv a7_0, iv (((31 : Int32) * ((31 : Int32) + x1)) + x2), iv (3 : Int32)] [])) _
    refine XS.goto X10.here hx rfl (pc0 := 35) (pc' := 7) rfl (hb hby d7_35) (by decide) (by decide) ?_
    show Steps p.tables e below (T10.setTop (mkF m 7 #[rv a7_0, iv (((31 : Int32) * ((31 : Int32) + x1)) + x2), iv (3 : Int32)] [])) _
    refine XS.iloadN X10.here hx rfl (hb hby d7_7) rfl ?_
    show Steps p.tables e below (T10.setTop (mkF m 8 #[rv a7_0, iv (((31 : Int32) * ((31 : Int32) + x1)) + x2), iv (3 : Int32)] [(.int (3 : Int32))])) _
    refine XS.aloadN X10.here hx rfl (hb hby d7_8) rfl rfl ?_
    show Steps p.tables e below (T10.setTop (mkF m 9 #[rv a7_0, iv (((31 : Int32) * ((31 : Int32) + x1)) + x2), iv (3 : Int32)] [(.ref a7_0), (.int (3 : Int32))])) _
    refine st14 _ ?_
    show Steps p.tables e below (T14.setTop (mkF m 12 #[rv a7_0, iv (((31 : Int32) * ((31 : Int32) + x1)) + x2), iv (3 : Int32)] [(.int (1 : Int32)), (.int (3 : Int32))])) _
    refine XS.aloadN X14.here hx rfl (hb hby d7_12) rfl rfl ?_
    show Steps p.tables e below (T14.setTop (mkF m 13 #[rv a7_0, iv (((31 : Int32) * ((31 : Int32) + x1)) + x2), iv (3 : Int32)] [(.ref a7_0), (.int (1 : Int32)), (.int (3 : Int32))])) _
    refine st15 _ ?_
    show Steps p.tables e below (T15.setTop (mkF m 16 #[rv a7_0, iv (((31 : Int32) * ((31 : Int32) + x1)) + x2), iv (3 : Int32)] [(.int (4 : Int32)), (.int (1 : Int32)), (.int (3 : Int32))])) _
    refine XS.iadd X15.here hx rfl (hb hby d7_16) rfl ?_
    show Steps p.tables e below (T15.setTop (mkF m 17 #[rv a7_0, iv (((31 : Int32) * ((31 : Int32) + x1)) + x2), iv (3 : Int32)] [(.int (5 : Int32)), (.int (3 : Int32))])) _
    refine XS.icmpNo X15.here hx rfl (hb hby d7_17) rfl (tlt (by decide : (3 : Int32) < (5 : Int32))).2.1 ?_
    show Steps p.tables e below (T15.setTop (mkF m 20 #[rv a7_0, iv (((31 : Int32) * ((31 : Int32) + x1)) + x2), iv (3 : Int32)] [])) _
    refine XS.bipush X15.here hx rfl (hb hby d7_20) ?_
    show Steps p.tables e below (T15.setTop (mkF m 22 #[rv a7_0, iv (((31 : Int32) * ((31 : Int32) + x1)) + x2), iv (3 : Int32)] [(.int (31 : Int32))])) _
    refine XS.iloadN X15.here hx rfl (hb hby d7_22) rfl ?_
    show Steps p.tables e below (T15.setTop (mkF m 23 #[rv a7_0, iv (((31 : Int32) * ((31 : Int32) + x1)) + x2), iv (3 : Int32)] [(.int (((31 : Int32) * ((31 : Int32) + x1)) + x2)), (.int (31 : Int32))])) _
    refine XS.imul X15.here hx rfl (hb hby d7_23) rfl ?_
    show Steps p.tables e below (T15.setTop (mkF m 24 #[rv a7_0, iv (((31 : Int32) * ((31 : Int32) + x1)) + x2), iv (3 : Int32)] [(.int ((31 : Int32) * (((31 : Int32) * ((31 : Int32) + x1)) + x2)))])) _
    refine XS.aloadN X15.here hx rfl (hb hby d7_24) rfl rfl ?_
    show Steps p.tables e below (T15.setTop (mkF m 25 #[rv a7_0, iv (((31 : Int32) * ((31 : Int32) + x1)) + x2), iv (3 : Int32)] [(.ref a7_0), (.int ((31 : Int32) * (((31 : Int32) * ((31 : Int32) + x1)) + x2)))])) _
    refine st16 _ ?_
    show Steps p.tables e below (T16.setTop (mkF m 28 #[rv a7_0, iv (((31 : Int32) * ((31 : Int32) + x1)) + x2), iv (3 : Int32)] [(.ref ar), (.int ((31 : Int32) * (((31 : Int32) * ((31 : Int32) + x1)) + x2)))])) _
    refine XS.iloadN X16.here hx rfl (hb hby d7_28) rfl ?_
    show Steps p.tables e below (T16.setTop (mkF m 29 #[rv a7_0, iv (((31 : Int32) * ((31 : Int32) + x1)) + x2), iv (3 : Int32)] [(.int (3 : Int32)), (.ref ar), (.int ((31 : Int32) * (((31 : Int32) * ((31 : Int32) + x1)) + x2)))])) _
    refine X16.baloadBytes hx (j := (3 : Int32)) (v := (.int x3)) (by rw [e16]; exact Ar17.1) (State.isArrayOf_alike hZ.alike Ar17.2.1) Ar17.2.2 hin18 hat19 (g := (mkF m 29 #[rv a7_0, iv (((31 : Int32) * ((31 : Int32) + x1)) + x2), iv (3 : Int32)] [(.int (3 : Int32)), (.ref ar), (.int ((31 : Int32) * (((31 : Int32) * ((31 : Int32) + x1)) + x2)))])) rfl rfl (hb hby d7_29) _ ?_
    show Steps p.tables e below (T16.setTop (mkF m 30 #[rv a7_0, iv (((31 : Int32) * ((31 : Int32) + x1)) + x2), iv (3 : Int32)] [(.int x3), (.int ((31 : Int32) * (((31 : Int32) * ((31 : Int32) + x1)) + x2)))])) _
    refine XS.iadd X16.here hx rfl (hb hby d7_30) rfl ?_
    show Steps p.tables e below (T16.setTop (mkF m 31 #[rv a7_0, iv (((31 : Int32) * ((31 : Int32) + x1)) + x2), iv (3 : Int32)] [(.int (((31 : Int32) * (((31 : Int32) * ((31 : Int32) + x1)) + x2)) + x3))])) _
    refine XS.istoreN X16.here hx rfl (hb hby d7_31) rfl (l' := #[rv a7_0, iv (((31 : Int32) * (((31 : Int32) * ((31 : Int32) + x1)) + x2)) + x3), iv (3 : Int32)]) rfl ?_
    show Steps p.tables e below (T16.setTop (mkF m 32 #[rv a7_0, iv (((31 : Int32) * (((31 : Int32) * ((31 : Int32) + x1)) + x2)) + x3), iv (3 : Int32)] [])) _
    refine XS.iinc X16.here hx rfl (hb hby d7_32) rfl (l' := #[rv a7_0, iv (((31 : Int32) * (((31 : Int32) * ((31 : Int32) + x1)) + x2)) + x3), iv (4 : Int32)]) rfl ?_
    show Steps p.tables e below (T16.setTop (mkF m 35 #[rv a7_0, iv (((31 : Int32) * (((31 : Int32) * ((31 : Int32) + x1)) + x2)) + x3), iv (4 : Int32)] [])) _
    refine XS.goto X16.here hx rfl (pc0 := 35) (pc' := 7) rfl (hb hby d7_35) (by decide) (by decide) ?_
    show Steps p.tables e below (T16.setTop (mkF m 7 #[rv a7_0, iv (((31 : Int32) * (((31 : Int32) * ((31 : Int32) + x1)) + x2)) + x3), iv (4 : Int32)] [])) _
    refine XS.iloadN X16.here hx rfl (hb hby d7_7) rfl ?_
    show Steps p.tables e below (T16.setTop (mkF m 8 #[rv a7_0, iv (((31 : Int32) * (((31 : Int32) * ((31 : Int32) + x1)) + x2)) + x3), iv (4 : Int32)] [(.int (4 : Int32))])) _
    refine XS.aloadN X16.here hx rfl (hb hby d7_8) rfl rfl ?_
    show Steps p.tables e below (T16.setTop (mkF m 9 #[rv a7_0, iv (((31 : Int32) * (((31 : Int32) * ((31 : Int32) + x1)) + x2)) + x3), iv (4 : Int32)] [(.ref a7_0), (.int (4 : Int32))])) _
    refine st20 _ ?_
    show Steps p.tables e below (T20.setTop (mkF m 12 #[rv a7_0, iv (((31 : Int32) * (((31 : Int32) * ((31 : Int32) + x1)) + x2)) + x3), iv (4 : Int32)] [(.int (1 : Int32)), (.int (4 : Int32))])) _
    refine XS.aloadN X20.here hx rfl (hb hby d7_12) rfl rfl ?_
    show Steps p.tables e below (T20.setTop (mkF m 13 #[rv a7_0, iv (((31 : Int32) * (((31 : Int32) * ((31 : Int32) + x1)) + x2)) + x3), iv (4 : Int32)] [(.ref a7_0), (.int (1 : Int32)), (.int (4 : Int32))])) _
    refine st21 _ ?_
    show Steps p.tables e below (T21.setTop (mkF m 16 #[rv a7_0, iv (((31 : Int32) * (((31 : Int32) * ((31 : Int32) + x1)) + x2)) + x3), iv (4 : Int32)] [(.int (4 : Int32)), (.int (1 : Int32)), (.int (4 : Int32))])) _
    refine XS.iadd X21.here hx rfl (hb hby d7_16) rfl ?_
    show Steps p.tables e below (T21.setTop (mkF m 17 #[rv a7_0, iv (((31 : Int32) * (((31 : Int32) * ((31 : Int32) + x1)) + x2)) + x3), iv (4 : Int32)] [(.int (5 : Int32)), (.int (4 : Int32))])) _
    refine XS.icmpNo X21.here hx rfl (hb hby d7_17) rfl (tlt (by decide : (4 : Int32) < (5 : Int32))).2.1 ?_
    show Steps p.tables e below (T21.setTop (mkF m 20 #[rv a7_0, iv (((31 : Int32) * (((31 : Int32) * ((31 : Int32) + x1)) + x2)) + x3), iv (4 : Int32)] [])) _
    refine XS.bipush X21.here hx rfl (hb hby d7_20) ?_
    show Steps p.tables e below (T21.setTop (mkF m 22 #[rv a7_0, iv (((31 : Int32) * (((31 : Int32) * ((31 : Int32) + x1)) + x2)) + x3), iv (4 : Int32)] [(.int (31 : Int32))])) _
    refine XS.iloadN X21.here hx rfl (hb hby d7_22) rfl ?_
    show Steps p.tables e below (T21.setTop (mkF m 23 #[rv a7_0, iv (((31 : Int32) * (((31 : Int32) * ((31 : Int32) + x1)) + x2)) + x3), iv (4 : Int32)] [(.int (((31 : Int32) * (((31 : Int32) * ((31 : Int32) + x1)) + x2)) + x3)), (.int (31 : Int32))])) _
    refine XS.imul X21.here hx rfl (hb hby d7_23) rfl ?_
    show Steps p.tables e below (T21.setTop (mkF m 24 #[rv a7_0, iv (((31 : Int32) * (((31 : Int32) * ((31 : Int32) + x1)) + x2)) + x3), iv (4 : Int32)] [(.int ((31 : Int32) * (((31 : Int32) * (((31 : Int32) * ((31 : Int32) + x1)) + x2)) + x3)))])) _
    refine XS.aloadN X21.here hx rfl (hb hby d7_24) rfl rfl ?_
    show Steps p.tables e below (T21.setTop (mkF m 25 #[rv a7_0, iv (((31 : Int32) * (((31 : Int32) * ((31 : Int32) + x1)) + x2)) + x3), iv (4 : Int32)] [(.ref a7_0), (.int ((31 : Int32) * (((31 : Int32) * (((31 : Int32) * ((31 : Int32) + x1)) + x2)) + x3)))])) _
    refine st22 _ ?_
    show Steps p.tables e below (T22.setTop (mkF m 28 #[rv a7_0, iv (((31 : Int32) * (((31 : Int32) * ((31 : Int32) + x1)) + x2)) + x3), iv (4 : Int32)] [(.ref ar), (.int ((31 : Int32) * (((31 : Int32) * (((31 : Int32) * ((31 : Int32) + x1)) + x2)) + x3)))])) _
    refine XS.iloadN X22.here hx rfl (hb hby d7_28) rfl ?_
    show Steps p.tables e below (T22.setTop (mkF m 29 #[rv a7_0, iv (((31 : Int32) * (((31 : Int32) * ((31 : Int32) + x1)) + x2)) + x3), iv (4 : Int32)] [(.int (4 : Int32)), (.ref ar), (.int ((31 : Int32) * (((31 : Int32) * (((31 : Int32) * ((31 : Int32) + x1)) + x2)) + x3)))])) _
    refine X22.baloadBytes hx (j := (4 : Int32)) (v := (.int x4)) (by rw [e22]; exact Ar23.1) (State.isArrayOf_alike hZ.alike Ar23.2.1) Ar23.2.2 hin24 hat25 (g := (mkF m 29 #[rv a7_0, iv (((31 : Int32) * (((31 : Int32) * ((31 : Int32) + x1)) + x2)) + x3), iv (4 : Int32)] [(.int (4 : Int32)), (.ref ar), (.int ((31 : Int32) * (((31 : Int32) * (((31 : Int32) * ((31 : Int32) + x1)) + x2)) + x3)))])) rfl rfl (hb hby d7_29) _ ?_
    show Steps p.tables e below (T22.setTop (mkF m 30 #[rv a7_0, iv (((31 : Int32) * (((31 : Int32) * ((31 : Int32) + x1)) + x2)) + x3), iv (4 : Int32)] [(.int x4), (.int ((31 : Int32) * (((31 : Int32) * (((31 : Int32) * ((31 : Int32) + x1)) + x2)) + x3)))])) _
    refine XS.iadd X22.here hx rfl (hb hby d7_30) rfl ?_
    show Steps p.tables e below (T22.setTop (mkF m 31 #[rv a7_0, iv (((31 : Int32) * (((31 : Int32) * ((31 : Int32) + x1)) + x2)) + x3), iv (4 : Int32)] [(.int (((31 : Int32) * (((31 : Int32) * (((31 : Int32) * ((31 : Int32) + x1)) + x2)) + x3)) + x4))])) _
    refine XS.istoreN X22.here hx rfl (hb hby d7_31) rfl (l' := #[rv a7_0, iv (((31 : Int32) * (((31 : Int32) * (((31 : Int32) * ((31 : Int32) + x1)) + x2)) + x3)) + x4), iv (4 : Int32)]) rfl ?_
    show Steps p.tables e below (T22.setTop (mkF m 32 #[rv a7_0, iv (((31 : Int32) * (((31 : Int32) * (((31 : Int32) * ((31 : Int32) + x1)) + x2)) + x3)) + x4), iv (4 : Int32)] [])) _
    refine XS.iinc X22.here hx rfl (hb hby d7_32) rfl (l' := #[rv a7_0, iv (((31 : Int32) * (((31 : Int32) * (((31 : Int32) * ((31 : Int32) + x1)) + x2)) + x3)) + x4), iv (5 : Int32)]) rfl ?_
    show Steps p.tables e below (T22.setTop (mkF m 35 #[rv a7_0, iv (((31 : Int32) * (((31 : Int32) * (((31 : Int32) * ((31 : Int32) + x1)) + x2)) + x3)) + x4), iv (5 : Int32)] [])) _
    refine XS.goto X22.here hx rfl (pc0 := 35) (pc' := 7) rfl (hb hby d7_35) (by decide) (by decide) ?_
    show Steps p.tables e below (T22.setTop (mkF m 7 #[rv a7_0, iv (((31 : Int32) * (((31 : Int32) * (((31 : Int32) * ((31 : Int32) + x1)) + x2)) + x3)) + x4), iv (5 : Int32)] [])) _
    refine XS.iloadN X22.here hx rfl (hb hby d7_7) rfl ?_
    show Steps p.tables e below (T22.setTop (mkF m 8 #[rv a7_0, iv (((31 : Int32) * (((31 : Int32) * (((31 : Int32) * ((31 : Int32) + x1)) + x2)) + x3)) + x4), iv (5 : Int32)] [(.int (5 : Int32))])) _
    refine XS.aloadN X22.here hx rfl (hb hby d7_8) rfl rfl ?_
    show Steps p.tables e below (T22.setTop (mkF m 9 #[rv a7_0, iv (((31 : Int32) * (((31 : Int32) * (((31 : Int32) * ((31 : Int32) + x1)) + x2)) + x3)) + x4), iv (5 : Int32)] [(.ref a7_0), (.int (5 : Int32))])) _
    refine st26 _ ?_
    show Steps p.tables e below (T26.setTop (mkF m 12 #[rv a7_0, iv (((31 : Int32) * (((31 : Int32) * (((31 : Int32) * ((31 : Int32) + x1)) + x2)) + x3)) + x4), iv (5 : Int32)] [(.int (1 : Int32)), (.int (5 : Int32))])) _
    refine XS.aloadN X26.here hx rfl (hb hby d7_12) rfl rfl ?_
    show Steps p.tables e below (T26.setTop (mkF m 13 #[rv a7_0, iv (((31 : Int32) * (((31 : Int32) * (((31 : Int32) * ((31 : Int32) + x1)) + x2)) + x3)) + x4), iv (5 : Int32)] [(.ref a7_0), (.int (1 : Int32)), (.int (5 : Int32))])) _
    refine st27 _ ?_
    show Steps p.tables e below (T27.setTop (mkF m 16 #[rv a7_0, iv (((31 : Int32) * (((31 : Int32) * (((31 : Int32) * ((31 : Int32) + x1)) + x2)) + x3)) + x4), iv (5 : Int32)] [(.int (4 : Int32)), (.int (1 : Int32)), (.int (5 : Int32))])) _
    refine XS.iadd X27.here hx rfl (hb hby d7_16) rfl ?_
    show Steps p.tables e below (T27.setTop (mkF m 17 #[rv a7_0, iv (((31 : Int32) * (((31 : Int32) * (((31 : Int32) * ((31 : Int32) + x1)) + x2)) + x3)) + x4), iv (5 : Int32)] [(.int (5 : Int32)), (.int (5 : Int32))])) _
    refine XS.icmpYes X27.here hx rfl (pc0 := 17) (pc' := 38) rfl (hb hby d7_17) rfl (flt (by decide : ¬ ((5 : Int32) < (5 : Int32)))).2.1 (by decide) (by decide) ?_
    show Steps p.tables e below (T27.setTop (mkF m 38 #[rv a7_0, iv (((31 : Int32) * (((31 : Int32) * (((31 : Int32) * ((31 : Int32) + x1)) + x2)) + x3)) + x4), iv (5 : Int32)] [])) _
    refine XS.iloadN X27.here hx rfl (hb hby d7_38) rfl ?_
    show Steps p.tables e below (T27.setTop (mkF m 39 #[rv a7_0, iv (((31 : Int32) * (((31 : Int32) * (((31 : Int32) * ((31 : Int32) + x1)) + x2)) + x3)) + x4), iv (5 : Int32)] [(.int (((31 : Int32) * (((31 : Int32) * (((31 : Int32) * ((31 : Int32) + x1)) + x2)) + x3)) + x4))])) _
    exact retI X27 hx Bd.returns (hb hby d7_39) hr
  · show Q_rm_h1_4 Z _ _ _ _ _ _ _ h0 n0 _ T27.heap _
    rw [e27]
    exact ⟨rfl, N0, rfl⟩
theorem ef_rm_h2_0 (m : MethodId) (x0 : Addr) : entryFrame m #[(.ref x0)] 3 = mkF m 0 #[rv x0, .unset, .unset] [] := by first | (simp [entryFrame, mkF, argsToLocals, Value.category]; done) | rfl
def Q_rm_h2_0 (Z : State) (a7_0 : Addr) (ar : Addr) (x0 : Int32) (x1 : Int32) (x2 : Int32) (x3 : Int32) (x4 : Int32) (h0 : Heap) (n0 : Nat) (v : Option Value) (h : Heap) (L : List Loc) : Prop := v = some (.int (1 : Int32)) ∧ Fr n0 L ∧ h = h0
set_option maxRecDepth 65536 in
set_option maxHeartbeats 40000000 in
theorem rm_h2_0 (l : Launch) (Z : State) (a0 : Array Value) (hw : ∀ d ∈ tables_1, d.before a0 Z = true) (ws : List Jvm.Cond) (a7_0 : Addr) (ar : Addr) (x0 : Int32) (x1 : Int32) (x2 : Int32) (x3 : Int32) (x4 : Int32) (h0 : Heap) (n0 : Nat) (Z0 : n0 ≤ h0.size) (pf_F_a7_0_array : Fld Z h0 a7_0 "com/example/tailwake/tailwake/source/mariadb/Slice" "array" "[B" (.ref ar)) (pf_F_a7_0_offset : Fld Z h0 a7_0 "com/example/tailwake/tailwake/source/mariadb/Slice" "offset" "I" (.int (2 : Int32))) (pf_F_a7_0_length : Fld Z h0 a7_0 "com/example/tailwake/tailwake/source/mariadb/Slice" "length" "I" (.int (0 : Int32))) (pf_A_ar : Av Z h0 ar .byte (5 : Int32) [(.int x0), (.int x1), (.int x2), (.int x3), (.int x4)] (.int (0 : Int32))) :
    MetFree l (⟨"com/example/tailwake/tailwake/source/mariadb/Slice", "hashCode", "()I"⟩ : MethodName) (head1 (Jvm.Cond.code (⟨"com/example/tailwake/tailwake/source/mariadb/Slice", "hashCode", "()I"⟩ : MethodName) prog_29_method_7_code 3 (some .int) :: ws) ({ frames := 0, cells := 0, slots := 0, locals := 0 } : Room)) (fun a U => a = #[(.ref a7_0)] ∧ Z.Warmed39 U.vm ∧ U.heap = h0) (fun _ _ _ _ _ => True) (fun _ U o U' => ∃ v L, o = .returned v ∧ Q_rm_h2_0 Z a7_0 ar x0 x1 x2 x3 x4 h0 n0 v U'.heap L ∧ FrameEnd U o U' L ({ frames := 0, cells := 0, slots := 0, locals := 0 } : Room).cells ({ frames := 0, cells := 0, slots := 0, locals := 0 } : Room).slots) := by
  refine MetFree.of_bodySF (plainFor_of_name pn_com_example_tailwake_tailwake_source_mariadb_Slice) hisR ?_
  intro p e s m args below meth c s₁ Bd hml0 hP hK
  obtain ⟨rfl, hZ, hh⟩ := hP
  have hx := Bd.exec
  have hby := Bd.bytes
  have hml : c.maxLocals = 3 := hml0
  have hown : s.vm.findClass "com/example/tailwake/tailwake/source/mariadb/Slice" = some m.cls := findClass_of_methodNamed Bd.named
  have hnm := (name_of_methodNamed Bd.named Bd.method).1
  have X0 : Stand p l e ({ frames := 0, cells := 0, slots := 0, locals := 0 } : Room) s m #[(.ref a7_0)] below meth c s₁ [] 0 0 := Stand.of_body Bd
  have e0 : s₁.heap = h0 := by rw [← hh, Bd.state]; rfl
  have N0 := Fr.nil n0
  have pre0 : ∀ t, Steps p.tables e below (s₁.setTop (mkF m 0 #[rv a7_0, .unset, .unset] [])) t → Steps p.tables e below (s₁.setTop (entryFrame m #[(.ref a7_0)] 3)) t := fun t k => castTop (ef_rm_h2_0 m a7_0) k
  have wo21 := hw _ (List.mem_of_getElem? (i := 21) rfl)
  have wo23 := hw _ (List.mem_of_getElem? (i := 23) rfl)
  obtain ⟨T1, X1, e1, st1⟩ := getF X0 hx hZ hown (host := "") (Or.inl wo21) Via.refl e0 pf_F_a7_0_offset (g := (mkF m 3 #[rv a7_0, iv (1 : Int32), .unset] [(.ref a7_0)])) rfl rfl (hb hby d7_3)
  obtain ⟨T2, X2, e2, st2⟩ := getF X1 hx hZ hown (host := "") (Or.inl wo21) Via.refl e1 pf_F_a7_0_offset (g := (mkF m 9 #[rv a7_0, iv (1 : Int32), iv (2 : Int32)] [(.ref a7_0), (.int (2 : Int32))])) rfl rfl (hb hby d7_9)
  obtain ⟨T3, X3, e3, st3⟩ := getF X2 hx hZ hown (host := "") (Or.inl wo23) Via.refl e2 pf_F_a7_0_length (g := (mkF m 13 #[rv a7_0, iv (1 : Int32), iv (2 : Int32)] [(.ref a7_0), (.int (2 : Int32)), (.int (2 : Int32))])) rfl rfl (hb hby d7_13)
  obtain ⟨fs, hr, hrun, hended, hW, hsame⟩ := X3.leave (v := some (.int (1 : Int32))) (fun h => by rw [Bd.returns] at h; cases h)
  refine ⟨_, _, pre0 _ ?_, hrun, hended, _, _, rfl, ?_, ⟨_, rfl⟩, hW, hsame.mono (by decide) (by decide)⟩
  · show Steps p.tables e below (s₁.setTop (mkF m 0 #[rv a7_0, .unset, .unset] [])) _
    refine XS.iconst X0.here hx rfl (hb hby d7_0) ?_
    show Steps p.tables e below (s₁.setTop (mkF m 1 #[rv a7_0, .unset, .unset] [(.int (1 : Int32))])) _
    refine XS.istoreN X0.here hx rfl (hb hby d7_1) rfl (l' := #[rv a7_0, iv (1 : Int32), .unset]) rfl ?_
    show Steps p.tables e below (s₁.setTop (mkF m 2 #[rv a7_0, iv (1 : Int32), .unset] [])) _
    refine XS.aloadN X0.here hx rfl (hb hby d7_2) rfl rfl ?_
    show Steps p.tables e below (s₁.setTop (mkF m 3 #[rv a7_0, iv (1 : Int32), .unset] [(.ref a7_0)])) _
    refine st1 _ ?_
    show Steps p.tables e below (T1.setTop (mkF m 6 #[rv a7_0, iv (1 : Int32), .unset] [(.int (2 : Int32))])) _
    refine XS.istoreN X1.here hx rfl (hb hby d7_6) rfl (l' := #[rv a7_0, iv (1 : Int32), iv (2 : Int32)]) rfl ?_
    show Steps p.tables e below (T1.setTop (mkF m 7 #[rv a7_0, iv (1 : Int32), iv (2 : Int32)] [])) _
    refine XS.iloadN X1.here hx rfl (hb hby d7_7) rfl ?_
    show Steps p.tables e below (T1.setTop (mkF m 8 #[rv a7_0, iv (1 : Int32), iv (2 : Int32)] [(.int (2 : Int32))])) _
    refine XS.aloadN X1.here hx rfl (hb hby d7_8) rfl rfl ?_
    show Steps p.tables e below (T1.setTop (mkF m 9 #[rv a7_0, iv (1 : Int32), iv (2 : Int32)] [(.ref a7_0), (.int (2 : Int32))])) _
    refine st2 _ ?_
    show Steps p.tables e below (T2.setTop (mkF m 12 #[rv a7_0, iv (1 : Int32), iv (2 : Int32)] [(.int (2 : Int32)), (.int (2 : Int32))])) _
    refine XS.aloadN X2.here hx rfl (hb hby d7_12) rfl rfl ?_
    show Steps p.tables e below (T2.setTop (mkF m 13 #[rv a7_0, iv (1 : Int32), iv (2 : Int32)] [(.ref a7_0), (.int (2 : Int32)), (.int (2 : Int32))])) _
    refine st3 _ ?_
    show Steps p.tables e below (T3.setTop (mkF m 16 #[rv a7_0, iv (1 : Int32), iv (2 : Int32)] [(.int (0 : Int32)), (.int (2 : Int32)), (.int (2 : Int32))])) _
    refine XS.iadd X3.here hx rfl (hb hby d7_16) rfl ?_
    show Steps p.tables e below (T3.setTop (mkF m 17 #[rv a7_0, iv (1 : Int32), iv (2 : Int32)] [(.int (2 : Int32)), (.int (2 : Int32))])) _
    refine XS.icmpYes X3.here hx rfl (pc0 := 17) (pc' := 38) rfl (hb hby d7_17) rfl (flt (by decide : ¬ ((2 : Int32) < (2 : Int32)))).2.1 (by decide) (by decide) ?_
    show Steps p.tables e below (T3.setTop (mkF m 38 #[rv a7_0, iv (1 : Int32), iv (2 : Int32)] [])) _
    refine XS.iloadN X3.here hx rfl (hb hby d7_38) rfl ?_
    show Steps p.tables e below (T3.setTop (mkF m 39 #[rv a7_0, iv (1 : Int32), iv (2 : Int32)] [(.int (1 : Int32))])) _
    exact retI X3 hx Bd.returns (hb hby d7_39) hr
  · show Q_rm_h2_0 Z _ _ _ _ _ _ _ h0 n0 _ T3.heap _
    rw [e3]
    exact ⟨rfl, N0, rfl⟩
theorem ef_rm_h2_1 (m : MethodId) (x0 : Addr) : entryFrame m #[(.ref x0)] 3 = mkF m 0 #[rv x0, .unset, .unset] [] := by first | (simp [entryFrame, mkF, argsToLocals, Value.category]; done) | rfl
def Q_rm_h2_1 (Z : State) (a7_0 : Addr) (ar : Addr) (x0 : Int32) (x1 : Int32) (x2 : Int32) (x3 : Int32) (x4 : Int32) (h0 : Heap) (n0 : Nat) (v : Option Value) (h : Heap) (L : List Loc) : Prop := v = some (.int ((31 : Int32) + x2)) ∧ Fr n0 L ∧ h = h0
set_option maxRecDepth 65536 in
set_option maxHeartbeats 40000000 in
theorem rm_h2_1 (l : Launch) (Z : State) (a0 : Array Value) (hw : ∀ d ∈ tables_1, d.before a0 Z = true) (ws : List Jvm.Cond) (a7_0 : Addr) (ar : Addr) (x0 : Int32) (x1 : Int32) (x2 : Int32) (x3 : Int32) (x4 : Int32) (h0 : Heap) (n0 : Nat) (Z0 : n0 ≤ h0.size) (pf_F_a7_0_array : Fld Z h0 a7_0 "com/example/tailwake/tailwake/source/mariadb/Slice" "array" "[B" (.ref ar)) (pf_F_a7_0_offset : Fld Z h0 a7_0 "com/example/tailwake/tailwake/source/mariadb/Slice" "offset" "I" (.int (2 : Int32))) (pf_F_a7_0_length : Fld Z h0 a7_0 "com/example/tailwake/tailwake/source/mariadb/Slice" "length" "I" (.int (1 : Int32))) (pf_A_ar : Av Z h0 ar .byte (5 : Int32) [(.int x0), (.int x1), (.int x2), (.int x3), (.int x4)] (.int (0 : Int32))) :
    MetFree l (⟨"com/example/tailwake/tailwake/source/mariadb/Slice", "hashCode", "()I"⟩ : MethodName) (head1 (Jvm.Cond.code (⟨"com/example/tailwake/tailwake/source/mariadb/Slice", "hashCode", "()I"⟩ : MethodName) prog_29_method_7_code 3 (some .int) :: ws) ({ frames := 0, cells := 0, slots := 0, locals := 0 } : Room)) (fun a U => a = #[(.ref a7_0)] ∧ Z.Warmed39 U.vm ∧ U.heap = h0) (fun _ _ _ _ _ => True) (fun _ U o U' => ∃ v L, o = .returned v ∧ Q_rm_h2_1 Z a7_0 ar x0 x1 x2 x3 x4 h0 n0 v U'.heap L ∧ FrameEnd U o U' L ({ frames := 0, cells := 0, slots := 0, locals := 0 } : Room).cells ({ frames := 0, cells := 0, slots := 0, locals := 0 } : Room).slots) := by
  refine MetFree.of_bodySF (plainFor_of_name pn_com_example_tailwake_tailwake_source_mariadb_Slice) hisR ?_
  intro p e s m args below meth c s₁ Bd hml0 hP hK
  obtain ⟨rfl, hZ, hh⟩ := hP
  have hx := Bd.exec
  have hby := Bd.bytes
  have hml : c.maxLocals = 3 := hml0
  have hown : s.vm.findClass "com/example/tailwake/tailwake/source/mariadb/Slice" = some m.cls := findClass_of_methodNamed Bd.named
  have hnm := (name_of_methodNamed Bd.named Bd.method).1
  have X0 : Stand p l e ({ frames := 0, cells := 0, slots := 0, locals := 0 } : Room) s m #[(.ref a7_0)] below meth c s₁ [] 0 0 := Stand.of_body Bd
  have e0 : s₁.heap = h0 := by rw [← hh, Bd.state]; rfl
  have N0 := Fr.nil n0
  have pre0 : ∀ t, Steps p.tables e below (s₁.setTop (mkF m 0 #[rv a7_0, .unset, .unset] [])) t → Steps p.tables e below (s₁.setTop (entryFrame m #[(.ref a7_0)] 3)) t := fun t k => castTop (ef_rm_h2_1 m a7_0) k
  have wo19 := hw _ (List.mem_of_getElem? (i := 19) rfl)
  have wo21 := hw _ (List.mem_of_getElem? (i := 21) rfl)
  have wo23 := hw _ (List.mem_of_getElem? (i := 23) rfl)
  obtain ⟨T1, X1, e1, st1⟩ := getF X0 hx hZ hown (host := "") (Or.inl wo21) Via.refl e0 pf_F_a7_0_offset (g := (mkF m 3 #[rv a7_0, iv (1 : Int32), .unset] [(.ref a7_0)])) rfl rfl (hb hby d7_3)
  obtain ⟨T2, X2, e2, st2⟩ := getF X1 hx hZ hown (host := "") (Or.inl wo21) Via.refl e1 pf_F_a7_0_offset (g := (mkF m 9 #[rv a7_0, iv (1 : Int32), iv (2 : Int32)] [(.ref a7_0), (.int (2 : Int32))])) rfl rfl (hb hby d7_9)
  obtain ⟨T3, X3, e3, st3⟩ := getF X2 hx hZ hown (host := "") (Or.inl wo23) Via.refl e2 pf_F_a7_0_length (g := (mkF m 13 #[rv a7_0, iv (1 : Int32), iv (2 : Int32)] [(.ref a7_0), (.int (2 : Int32)), (.int (2 : Int32))])) rfl rfl (hb hby d7_13)
  obtain ⟨T4, X4, e4, st4⟩ := getF X3 hx hZ hown (host := "") (Or.inl wo19) Via.refl e3 pf_F_a7_0_array (g := (mkF m 25 #[rv a7_0, iv (1 : Int32), iv (2 : Int32)] [(.ref a7_0), (.int (31 : Int32))])) rfl rfl (hb hby d7_25)
  obtain ⟨kk5, cl5, Ar5, qq5, Sz5, Nn5, Hs5, Gf5⟩ := id pf_A_ar
  have hin6 : ¬ ((2 : Int32) < 0 ∨ cl5.slots.size ≤ ((2 : Int32)).toNatClampNeg) := inb_of Sz5 ⟨by decide, by decide⟩
  have hat7 : cl5.slots[((2 : Int32)).toNatClampNeg]? = some (.int x2) := Has.at Hs5 hin6 rfl
  obtain ⟨T8, X8, e8, st8⟩ := getF X4 hx hZ hown (host := "") (Or.inl wo21) Via.refl e4 pf_F_a7_0_offset (g := (mkF m 9 #[rv a7_0, iv ((31 : Int32) + x2), iv (3 : Int32)] [(.ref a7_0), (.int (3 : Int32))])) rfl rfl (hb hby d7_9)
  obtain ⟨T9, X9, e9, st9⟩ := getF X8 hx hZ hown (host := "") (Or.inl wo23) Via.refl e8 pf_F_a7_0_length (g := (mkF m 13 #[rv a7_0, iv ((31 : Int32) + x2), iv (3 : Int32)] [(.ref a7_0), (.int (2 : Int32)), (.int (3 : Int32))])) rfl rfl (hb hby d7_13)
  obtain ⟨fs, hr, hrun, hended, hW, hsame⟩ := X9.leave (v := some (.int ((31 : Int32) + x2))) (fun h => by rw [Bd.returns] at h; cases h)
  refine ⟨_, _, pre0 _ ?_, hrun, hended, _, _, rfl, ?_, ⟨_, rfl⟩, hW, hsame.mono (by decide) (by decide)⟩
  · show Steps p.tables e below (s₁.setTop (mkF m 0 #[rv a7_0, .unset, .unset] [])) _
    refine XS.iconst X0.here hx rfl (hb hby d7_0) ?_
    show Steps p.tables e below (s₁.setTop (mkF m 1 #[rv a7_0, .unset, .unset] [(.int (1 : Int32))])) _
    refine XS.istoreN X0.here hx rfl (hb hby d7_1) rfl (l' := #[rv a7_0, iv (1 : Int32), .unset]) rfl ?_
    show Steps p.tables e below (s₁.setTop (mkF m 2 #[rv a7_0, iv (1 : Int32), .unset] [])) _
    refine XS.aloadN X0.here hx rfl (hb hby d7_2) rfl rfl ?_
    show Steps p.tables e below (s₁.setTop (mkF m 3 #[rv a7_0, iv (1 : Int32), .unset] [(.ref a7_0)])) _
    refine st1 _ ?_
    show Steps p.tables e below (T1.setTop (mkF m 6 #[rv a7_0, iv (1 : Int32), .unset] [(.int (2 : Int32))])) _
    refine XS.istoreN X1.here hx rfl (hb hby d7_6) rfl (l' := #[rv a7_0, iv (1 : Int32), iv (2 : Int32)]) rfl ?_
    show Steps p.tables e below (T1.setTop (mkF m 7 #[rv a7_0, iv (1 : Int32), iv (2 : Int32)] [])) _
    refine XS.iloadN X1.here hx rfl (hb hby d7_7) rfl ?_
    show Steps p.tables e below (T1.setTop (mkF m 8 #[rv a7_0, iv (1 : Int32), iv (2 : Int32)] [(.int (2 : Int32))])) _
    refine XS.aloadN X1.here hx rfl (hb hby d7_8) rfl rfl ?_
    show Steps p.tables e below (T1.setTop (mkF m 9 #[rv a7_0, iv (1 : Int32), iv (2 : Int32)] [(.ref a7_0), (.int (2 : Int32))])) _
    refine st2 _ ?_
    show Steps p.tables e below (T2.setTop (mkF m 12 #[rv a7_0, iv (1 : Int32), iv (2 : Int32)] [(.int (2 : Int32)), (.int (2 : Int32))])) _
    refine XS.aloadN X2.here hx rfl (hb hby d7_12) rfl rfl ?_
    show Steps p.tables e below (T2.setTop (mkF m 13 #[rv a7_0, iv (1 : Int32), iv (2 : Int32)] [(.ref a7_0), (.int (2 : Int32)), (.int (2 : Int32))])) _
    refine st3 _ ?_
    show Steps p.tables e below (T3.setTop (mkF m 16 #[rv a7_0, iv (1 : Int32), iv (2 : Int32)] [(.int (1 : Int32)), (.int (2 : Int32)), (.int (2 : Int32))])) _
    refine XS.iadd X3.here hx rfl (hb hby d7_16) rfl ?_
    show Steps p.tables e below (T3.setTop (mkF m 17 #[rv a7_0, iv (1 : Int32), iv (2 : Int32)] [(.int (3 : Int32)), (.int (2 : Int32))])) _
    refine XS.icmpNo X3.here hx rfl (hb hby d7_17) rfl (tlt (by decide : (2 : Int32) < (3 : Int32))).2.1 ?_
    show Steps p.tables e below (T3.setTop (mkF m 20 #[rv a7_0, iv (1 : Int32), iv (2 : Int32)] [])) _
    refine XS.bipush X3.here hx rfl (hb hby d7_20) ?_
    show Steps p.tables e below (T3.setTop (mkF m 22 #[rv a7_0, iv (1 : Int32), iv (2 : Int32)] [(.int (31 : Int32))])) _
    refine XS.iloadN X3.here hx rfl (hb hby d7_22) rfl ?_
    show Steps p.tables e below (T3.setTop (mkF m 23 #[rv a7_0, iv (1 : Int32), iv (2 : Int32)] [(.int (1 : Int32)), (.int (31 : Int32))])) _
    refine XS.imul X3.here hx rfl (hb hby d7_23) rfl ?_
    show Steps p.tables e below (T3.setTop (mkF m 24 #[rv a7_0, iv (1 : Int32), iv (2 : Int32)] [(.int (31 : Int32))])) _
    refine XS.aloadN X3.here hx rfl (hb hby d7_24) rfl rfl ?_
    show Steps p.tables e below (T3.setTop (mkF m 25 #[rv a7_0, iv (1 : Int32), iv (2 : Int32)] [(.ref a7_0), (.int (31 : Int32))])) _
    refine st4 _ ?_
    show Steps p.tables e below (T4.setTop (mkF m 28 #[rv a7_0, iv (1 : Int32), iv (2 : Int32)] [(.ref ar), (.int (31 : Int32))])) _
    refine XS.iloadN X4.here hx rfl (hb hby d7_28) rfl ?_
    show Steps p.tables e below (T4.setTop (mkF m 29 #[rv a7_0, iv (1 : Int32), iv (2 : Int32)] [(.int (2 : Int32)), (.ref ar), (.int (31 : Int32))])) _
    refine X4.baloadBytes hx (j := (2 : Int32)) (v := (.int x2)) (by rw [e4]; exact Ar5.1) (State.isArrayOf_alike hZ.alike Ar5.2.1) Ar5.2.2 hin6 hat7 (g := (mkF m 29 #[rv a7_0, iv (1 : Int32), iv (2 : Int32)] [(.int (2 : Int32)), (.ref ar), (.int (31 : Int32))])) rfl rfl (hb hby d7_29) _ ?_
    show Steps p.tables e below (T4.setTop (mkF m 30 #[rv a7_0, iv (1 : Int32), iv (2 : Int32)] [(.int x2), (.int (31 : Int32))])) _
    refine XS.iadd X4.here hx rfl (hb hby d7_30) rfl ?_
    show Steps p.tables e below (T4.setTop (mkF m 31 #[rv a7_0, iv (1 : Int32), iv (2 : Int32)] [(.int ((31 : Int32) + x2))])) _
    refine XS.istoreN X4.here hx rfl (hb hby d7_31) rfl (l' := #[rv a7_0, iv ((31 : Int32) + x2), iv (2 : Int32)]) rfl ?_
    show Steps p.tables e below (T4.setTop (mkF m 32 #[rv a7_0, iv ((31 : Int32) + x2), iv (2 : Int32)] [])) _
    refine XS.iinc X4.here hx rfl (hb hby d7_32) rfl (l' := #[rv a7_0, iv ((31 : Int32) + x2), iv (3 : Int32)]) rfl ?_
    show Steps p.tables e below (T4.setTop (mkF m 35 #[rv a7_0, iv ((31 : Int32) + x2), iv (3 : Int32)] [])) _
    refine XS.goto X4.here hx rfl (pc0 := 35) (pc' := 7) rfl (hb hby d7_35) (by decide) (by decide) ?_
    show Steps p.tables e below (T4.setTop (mkF m 7 #[rv a7_0, iv ((31 : Int32) + x2), iv (3 : Int32)] [])) _
    refine XS.iloadN X4.here hx rfl (hb hby d7_7) rfl ?_
    show Steps p.tables e below (T4.setTop (mkF m 8 #[rv a7_0, iv ((31 : Int32) + x2), iv (3 : Int32)] [(.int (3 : Int32))])) _
    refine XS.aloadN X4.here hx rfl (hb hby d7_8) rfl rfl ?_
    show Steps p.tables e below (T4.setTop (mkF m 9 #[rv a7_0, iv ((31 : Int32) + x2), iv (3 : Int32)] [(.ref a7_0), (.int (3 : Int32))])) _
    refine st8 _ ?_
    show Steps p.tables e below (T8.setTop (mkF m 12 #[rv a7_0, iv ((31 : Int32) + x2), iv (3 : Int32)] [(.int (2 : Int32)), (.int (3 : Int32))])) _
    refine XS.aloadN X8.here hx rfl (hb hby d7_12) rfl rfl ?_
    show Steps p.tables e below (T8.setTop (mkF m 13 #[rv a7_0, iv ((31 : Int32) + x2), iv (3 : Int32)] [(.ref a7_0), (.int (2 : Int32)), (.int (3 : Int32))])) _
    refine st9 _ ?_
    show Steps p.tables e below (T9.setTop (mkF m 16 #[rv a7_0, iv ((31 : Int32) + x2), iv (3 : Int32)] [(.int (1 : Int32)), (.int (2 : Int32)), (.int (3 : Int32))])) _
    refine XS.iadd X9.here hx rfl (hb hby d7_16) rfl ?_
    show Steps p.tables e below (T9.setTop (mkF m 17 #[rv a7_0, iv ((31 : Int32) + x2), iv (3 : Int32)] [(.int (3 : Int32)), (.int (3 : Int32))])) _
    refine XS.icmpYes X9.here hx rfl (pc0 := 17) (pc' := 38) rfl (hb hby d7_17) rfl (flt (by decide : ¬ ((3 : Int32) < (3 : Int32)))).2.1 (by decide) (by decide) ?_
    show Steps p.tables e below (T9.setTop (mkF m 38 #[rv a7_0, iv ((31 : Int32) + x2), iv (3 : Int32)] [])) _
    refine XS.iloadN X9.here hx rfl (hb hby d7_38) rfl ?_
    show Steps p.tables e below (T9.setTop (mkF m 39 #[rv a7_0, iv ((31 : Int32) + x2), iv (3 : Int32)] [(.int ((31 : Int32) + x2))])) _
    exact retI X9 hx Bd.returns (hb hby d7_39) hr
  · show Q_rm_h2_1 Z _ _ _ _ _ _ _ h0 n0 _ T9.heap _
    rw [e9]
    exact ⟨rfl, N0, rfl⟩
theorem ef_rm_h2_2 (m : MethodId) (x0 : Addr) : entryFrame m #[(.ref x0)] 3 = mkF m 0 #[rv x0, .unset, .unset] [] := by first | (simp [entryFrame, mkF, argsToLocals, Value.category]; done) | rfl
def Q_rm_h2_2 (Z : State) (a7_0 : Addr) (ar : Addr) (x0 : Int32) (x1 : Int32) (x2 : Int32) (x3 : Int32) (x4 : Int32) (h0 : Heap) (n0 : Nat) (v : Option Value) (h : Heap) (L : List Loc) : Prop := v = some (.int (((31 : Int32) * ((31 : Int32) + x2)) + x3)) ∧ Fr n0 L ∧ h = h0
set_option maxRecDepth 65536 in
set_option maxHeartbeats 40000000 in
theorem rm_h2_2 (l : Launch) (Z : State) (a0 : Array Value) (hw : ∀ d ∈ tables_1, d.before a0 Z = true) (ws : List Jvm.Cond) (a7_0 : Addr) (ar : Addr) (x0 : Int32) (x1 : Int32) (x2 : Int32) (x3 : Int32) (x4 : Int32) (h0 : Heap) (n0 : Nat) (Z0 : n0 ≤ h0.size) (pf_F_a7_0_array : Fld Z h0 a7_0 "com/example/tailwake/tailwake/source/mariadb/Slice" "array" "[B" (.ref ar)) (pf_F_a7_0_offset : Fld Z h0 a7_0 "com/example/tailwake/tailwake/source/mariadb/Slice" "offset" "I" (.int (2 : Int32))) (pf_F_a7_0_length : Fld Z h0 a7_0 "com/example/tailwake/tailwake/source/mariadb/Slice" "length" "I" (.int (2 : Int32))) (pf_A_ar : Av Z h0 ar .byte (5 : Int32) [(.int x0), (.int x1), (.int x2), (.int x3), (.int x4)] (.int (0 : Int32))) :
    MetFree l (⟨"com/example/tailwake/tailwake/source/mariadb/Slice", "hashCode", "()I"⟩ : MethodName) (head1 (Jvm.Cond.code (⟨"com/example/tailwake/tailwake/source/mariadb/Slice", "hashCode", "()I"⟩ : MethodName) prog_29_method_7_code 3 (some .int) :: ws) ({ frames := 0, cells := 0, slots := 0, locals := 0 } : Room)) (fun a U => a = #[(.ref a7_0)] ∧ Z.Warmed39 U.vm ∧ U.heap = h0) (fun _ _ _ _ _ => True) (fun _ U o U' => ∃ v L, o = .returned v ∧ Q_rm_h2_2 Z a7_0 ar x0 x1 x2 x3 x4 h0 n0 v U'.heap L ∧ FrameEnd U o U' L ({ frames := 0, cells := 0, slots := 0, locals := 0 } : Room).cells ({ frames := 0, cells := 0, slots := 0, locals := 0 } : Room).slots) := by
  refine MetFree.of_bodySF (plainFor_of_name pn_com_example_tailwake_tailwake_source_mariadb_Slice) hisR ?_
  intro p e s m args below meth c s₁ Bd hml0 hP hK
  obtain ⟨rfl, hZ, hh⟩ := hP
  have hx := Bd.exec
  have hby := Bd.bytes
  have hml : c.maxLocals = 3 := hml0
  have hown : s.vm.findClass "com/example/tailwake/tailwake/source/mariadb/Slice" = some m.cls := findClass_of_methodNamed Bd.named
  have hnm := (name_of_methodNamed Bd.named Bd.method).1
  have X0 : Stand p l e ({ frames := 0, cells := 0, slots := 0, locals := 0 } : Room) s m #[(.ref a7_0)] below meth c s₁ [] 0 0 := Stand.of_body Bd
  have e0 : s₁.heap = h0 := by rw [← hh, Bd.state]; rfl
  have N0 := Fr.nil n0
  have pre0 : ∀ t, Steps p.tables e below (s₁.setTop (mkF m 0 #[rv a7_0, .unset, .unset] [])) t → Steps p.tables e below (s₁.setTop (entryFrame m #[(.ref a7_0)] 3)) t := fun t k => castTop (ef_rm_h2_2 m a7_0) k
  have wo19 := hw _ (List.mem_of_getElem? (i := 19) rfl)
  have wo21 := hw _ (List.mem_of_getElem? (i := 21) rfl)
  have wo23 := hw _ (List.mem_of_getElem? (i := 23) rfl)
  obtain ⟨T1, X1, e1, st1⟩ := getF X0 hx hZ hown (host := "") (Or.inl wo21) Via.refl e0 pf_F_a7_0_offset (g := (mkF m 3 #[rv a7_0, iv (1 : Int32), .unset] [(.ref a7_0)])) rfl rfl (hb hby d7_3)
  obtain ⟨T2, X2, e2, st2⟩ := getF X1 hx hZ hown (host := "") (Or.inl wo21) Via.refl e1 pf_F_a7_0_offset (g := (mkF m 9 #[rv a7_0, iv (1 : Int32), iv (2 : Int32)] [(.ref a7_0), (.int (2 : Int32))])) rfl rfl (hb hby d7_9)
  obtain ⟨T3, X3, e3, st3⟩ := getF X2 hx hZ hown (host := "") (Or.inl wo23) Via.refl e2 pf_F_a7_0_length (g := (mkF m 13 #[rv a7_0, iv (1 : Int32), iv (2 : Int32)] [(.ref a7_0), (.int (2 : Int32)), (.int (2 : Int32))])) rfl rfl (hb hby d7_13)
  obtain ⟨T4, X4, e4, st4⟩ := getF X3 hx hZ hown (host := "") (Or.inl wo19) Via.refl e3 pf_F_a7_0_array (g := (mkF m 25 #[rv a7_0, iv (1 : Int32), iv (2 : Int32)] [(.ref a7_0), (.int (31 : Int32))])) rfl rfl (hb hby d7_25)
  obtain ⟨kk5, cl5, Ar5, qq5, Sz5, Nn5, Hs5, Gf5⟩ := id pf_A_ar
  have hin6 : ¬ ((2 : Int32) < 0 ∨ cl5.slots.size ≤ ((2 : Int32)).toNatClampNeg) := inb_of Sz5 ⟨by decide, by decide⟩
  have hat7 : cl5.slots[((2 : Int32)).toNatClampNeg]? = some (.int x2) := Has.at Hs5 hin6 rfl
  obtain ⟨T8, X8, e8, st8⟩ := getF X4 hx hZ hown (host := "") (Or.inl wo21) Via.refl e4 pf_F_a7_0_offset (g := (mkF m 9 #[rv a7_0, iv ((31 : Int32) + x2), iv (3 : Int32)] [(.ref a7_0), (.int (3 : Int32))])) rfl rfl (hb hby d7_9)
  obtain ⟨T9, X9, e9, st9⟩ := getF X8 hx hZ hown (host := "") (Or.inl wo23) Via.refl e8 pf_F_a7_0_length (g := (mkF m 13 #[rv a7_0, iv ((31 : Int32) + x2), iv (3 : Int32)] [(.ref a7_0), (.int (2 : Int32)), (.int (3 : Int32))])) rfl rfl (hb hby d7_13)
  obtain ⟨T10, X10, e10, st10⟩ := getF X9 hx hZ hown (host := "") (Or.inl wo19) Via.refl e9 pf_F_a7_0_array (g := (mkF m 25 #[rv a7_0, iv ((31 : Int32) + x2), iv (3 : Int32)] [(.ref a7_0), (.int ((31 : Int32) * ((31 : Int32) + x2)))])) rfl rfl (hb hby d7_25)
  obtain ⟨kk11, cl11, Ar11, qq11, Sz11, Nn11, Hs11, Gf11⟩ := id pf_A_ar
  have hin12 : ¬ ((3 : Int32) < 0 ∨ cl11.slots.size ≤ ((3 : Int32)).toNatClampNeg) := inb_of Sz11 ⟨by decide, by decide⟩
  have hat13 : cl11.slots[((3 : Int32)).toNatClampNeg]? = some (.int x3) := Has.at Hs11 hin12 rfl
  obtain ⟨T14, X14, e14, st14⟩ := getF X10 hx hZ hown (host := "") (Or.inl wo21) Via.refl e10 pf_F_a7_0_offset (g := (mkF m 9 #[rv a7_0, iv (((31 : Int32) * ((31 : Int32) + x2)) + x3), iv (4 : Int32)] [(.ref a7_0), (.int (4 : Int32))])) rfl rfl (hb hby d7_9)
  obtain ⟨T15, X15, e15, st15⟩ := getF X14 hx hZ hown (host := "") (Or.inl wo23) Via.refl e14 pf_F_a7_0_length (g := (mkF m 13 #[rv a7_0, iv (((31 : Int32) * ((31 : Int32) + x2)) + x3), iv (4 : Int32)] [(.ref a7_0), (.int (2 : Int32)), (.int (4 : Int32))])) rfl rfl (hb hby d7_13)
  obtain ⟨fs, hr, hrun, hended, hW, hsame⟩ := X15.leave (v := some (.int (((31 : Int32) * ((31 : Int32) + x2)) + x3))) (fun h => by rw [Bd.returns] at h; cases h)
  refine ⟨_, _, pre0 _ ?_, hrun, hended, _, _, rfl, ?_, ⟨_, rfl⟩, hW, hsame.mono (by decide) (by decide)⟩
  · show Steps p.tables e below (s₁.setTop (mkF m 0 #[rv a7_0, .unset, .unset] [])) _
    refine XS.iconst X0.here hx rfl (hb hby d7_0) ?_
    show Steps p.tables e below (s₁.setTop (mkF m 1 #[rv a7_0, .unset, .unset] [(.int (1 : Int32))])) _
    refine XS.istoreN X0.here hx rfl (hb hby d7_1) rfl (l' := #[rv a7_0, iv (1 : Int32), .unset]) rfl ?_
    show Steps p.tables e below (s₁.setTop (mkF m 2 #[rv a7_0, iv (1 : Int32), .unset] [])) _
    refine XS.aloadN X0.here hx rfl (hb hby d7_2) rfl rfl ?_
    show Steps p.tables e below (s₁.setTop (mkF m 3 #[rv a7_0, iv (1 : Int32), .unset] [(.ref a7_0)])) _
    refine st1 _ ?_
    show Steps p.tables e below (T1.setTop (mkF m 6 #[rv a7_0, iv (1 : Int32), .unset] [(.int (2 : Int32))])) _
    refine XS.istoreN X1.here hx rfl (hb hby d7_6) rfl (l' := #[rv a7_0, iv (1 : Int32), iv (2 : Int32)]) rfl ?_
    show Steps p.tables e below (T1.setTop (mkF m 7 #[rv a7_0, iv (1 : Int32), iv (2 : Int32)] [])) _
    refine XS.iloadN X1.here hx rfl (hb hby d7_7) rfl ?_
    show Steps p.tables e below (T1.setTop (mkF m 8 #[rv a7_0, iv (1 : Int32), iv (2 : Int32)] [(.int (2 : Int32))])) _
    refine XS.aloadN X1.here hx rfl (hb hby d7_8) rfl rfl ?_
    show Steps p.tables e below (T1.setTop (mkF m 9 #[rv a7_0, iv (1 : Int32), iv (2 : Int32)] [(.ref a7_0), (.int (2 : Int32))])) _
    refine st2 _ ?_
    show Steps p.tables e below (T2.setTop (mkF m 12 #[rv a7_0, iv (1 : Int32), iv (2 : Int32)] [(.int (2 : Int32)), (.int (2 : Int32))])) _
    refine XS.aloadN X2.here hx rfl (hb hby d7_12) rfl rfl ?_
    show Steps p.tables e below (T2.setTop (mkF m 13 #[rv a7_0, iv (1 : Int32), iv (2 : Int32)] [(.ref a7_0), (.int (2 : Int32)), (.int (2 : Int32))])) _
    refine st3 _ ?_
    show Steps p.tables e below (T3.setTop (mkF m 16 #[rv a7_0, iv (1 : Int32), iv (2 : Int32)] [(.int (2 : Int32)), (.int (2 : Int32)), (.int (2 : Int32))])) _
    refine XS.iadd X3.here hx rfl (hb hby d7_16) rfl ?_
    show Steps p.tables e below (T3.setTop (mkF m 17 #[rv a7_0, iv (1 : Int32), iv (2 : Int32)] [(.int (4 : Int32)), (.int (2 : Int32))])) _
    refine XS.icmpNo X3.here hx rfl (hb hby d7_17) rfl (tlt (by decide : (2 : Int32) < (4 : Int32))).2.1 ?_
    show Steps p.tables e below (T3.setTop (mkF m 20 #[rv a7_0, iv (1 : Int32), iv (2 : Int32)] [])) _
    refine XS.bipush X3.here hx rfl (hb hby d7_20) ?_
    show Steps p.tables e below (T3.setTop (mkF m 22 #[rv a7_0, iv (1 : Int32), iv (2 : Int32)] [(.int (31 : Int32))])) _
    refine XS.iloadN X3.here hx rfl (hb hby d7_22) rfl ?_
    show Steps p.tables e below (T3.setTop (mkF m 23 #[rv a7_0, iv (1 : Int32), iv (2 : Int32)] [(.int (1 : Int32)), (.int (31 : Int32))])) _
    refine XS.imul X3.here hx rfl (hb hby d7_23) rfl ?_
    show Steps p.tables e below (T3.setTop (mkF m 24 #[rv a7_0, iv (1 : Int32), iv (2 : Int32)] [(.int (31 : Int32))])) _
    refine XS.aloadN X3.here hx rfl (hb hby d7_24) rfl rfl ?_
    show Steps p.tables e below (T3.setTop (mkF m 25 #[rv a7_0, iv (1 : Int32), iv (2 : Int32)] [(.ref a7_0), (.int (31 : Int32))])) _
    refine st4 _ ?_
    show Steps p.tables e below (T4.setTop (mkF m 28 #[rv a7_0, iv (1 : Int32), iv (2 : Int32)] [(.ref ar), (.int (31 : Int32))])) _
    refine XS.iloadN X4.here hx rfl (hb hby d7_28) rfl ?_
    show Steps p.tables e below (T4.setTop (mkF m 29 #[rv a7_0, iv (1 : Int32), iv (2 : Int32)] [(.int (2 : Int32)), (.ref ar), (.int (31 : Int32))])) _
    refine X4.baloadBytes hx (j := (2 : Int32)) (v := (.int x2)) (by rw [e4]; exact Ar5.1) (State.isArrayOf_alike hZ.alike Ar5.2.1) Ar5.2.2 hin6 hat7 (g := (mkF m 29 #[rv a7_0, iv (1 : Int32), iv (2 : Int32)] [(.int (2 : Int32)), (.ref ar), (.int (31 : Int32))])) rfl rfl (hb hby d7_29) _ ?_
    show Steps p.tables e below (T4.setTop (mkF m 30 #[rv a7_0, iv (1 : Int32), iv (2 : Int32)] [(.int x2), (.int (31 : Int32))])) _
    refine XS.iadd X4.here hx rfl (hb hby d7_30) rfl ?_
    show Steps p.tables e below (T4.setTop (mkF m 31 #[rv a7_0, iv (1 : Int32), iv (2 : Int32)] [(.int ((31 : Int32) + x2))])) _
    refine XS.istoreN X4.here hx rfl (hb hby d7_31) rfl (l' := #[rv a7_0, iv ((31 : Int32) + x2), iv (2 : Int32)]) rfl ?_
    show Steps p.tables e below (T4.setTop (mkF m 32 #[rv a7_0, iv ((31 : Int32) + x2), iv (2 : Int32)] [])) _
    refine XS.iinc X4.here hx rfl (hb hby d7_32) rfl (l' := #[rv a7_0, iv ((31 : Int32) + x2), iv (3 : Int32)]) rfl ?_
    show Steps p.tables e below (T4.setTop (mkF m 35 #[rv a7_0, iv ((31 : Int32) + x2), iv (3 : Int32)] [])) _
    refine XS.goto X4.here hx rfl (pc0 := 35) (pc' := 7) rfl (hb hby d7_35) (by decide) (by decide) ?_
    show Steps p.tables e below (T4.setTop (mkF m 7 #[rv a7_0, iv ((31 : Int32) + x2), iv (3 : Int32)] [])) _
    refine XS.iloadN X4.here hx rfl (hb hby d7_7) rfl ?_
    show Steps p.tables e below (T4.setTop (mkF m 8 #[rv a7_0, iv ((31 : Int32) + x2), iv (3 : Int32)] [(.int (3 : Int32))])) _
    refine XS.aloadN X4.here hx rfl (hb hby d7_8) rfl rfl ?_
    show Steps p.tables e below (T4.setTop (mkF m 9 #[rv a7_0, iv ((31 : Int32) + x2), iv (3 : Int32)] [(.ref a7_0), (.int (3 : Int32))])) _
    refine st8 _ ?_
    show Steps p.tables e below (T8.setTop (mkF m 12 #[rv a7_0, iv ((31 : Int32) + x2), iv (3 : Int32)] [(.int (2 : Int32)), (.int (3 : Int32))])) _
    refine XS.aloadN X8.here hx rfl (hb hby d7_12) rfl rfl ?_
    show Steps p.tables e below (T8.setTop (mkF m 13 #[rv a7_0, iv ((31 : Int32) + x2), iv (3 : Int32)] [(.ref a7_0), (.int (2 : Int32)), (.int (3 : Int32))])) _
    refine st9 _ ?_
    show Steps p.tables e below (T9.setTop (mkF m 16 #[rv a7_0, iv ((31 : Int32) + x2), iv (3 : Int32)] [(.int (2 : Int32)), (.int (2 : Int32)), (.int (3 : Int32))])) _
    refine XS.iadd X9.here hx rfl (hb hby d7_16) rfl ?_
    show Steps p.tables e below (T9.setTop (mkF m 17 #[rv a7_0, iv ((31 : Int32) + x2), iv (3 : Int32)] [(.int (4 : Int32)), (.int (3 : Int32))])) _
    refine XS.icmpNo X9.here hx rfl (hb hby d7_17) rfl (tlt (by decide : (3 : Int32) < (4 : Int32))).2.1 ?_
    show Steps p.tables e below (T9.setTop (mkF m 20 #[rv a7_0, iv ((31 : Int32) + x2), iv (3 : Int32)] [])) _
    refine XS.bipush X9.here hx rfl (hb hby d7_20) ?_
    show Steps p.tables e below (T9.setTop (mkF m 22 #[rv a7_0, iv ((31 : Int32) + x2), iv (3 : Int32)] [(.int (31 : Int32))])) _
    refine XS.iloadN X9.here hx rfl (hb hby d7_22) rfl ?_
    show Steps p.tables e below (T9.setTop (mkF m 23 #[rv a7_0, iv ((31 : Int32) + x2), iv (3 : Int32)] [(.int ((31 : Int32) + x2)), (.int (31 : Int32))])) _
    refine XS.imul X9.here hx rfl (hb hby d7_23) rfl ?_
    show Steps p.tables e below (T9.setTop (mkF m 24 #[rv a7_0, iv ((31 : Int32) + x2), iv (3 : Int32)] [(.int ((31 : Int32) * ((31 : Int32) + x2)))])) _
    refine XS.aloadN X9.here hx rfl (hb hby d7_24) rfl rfl ?_
    show Steps p.tables e below (T9.setTop (mkF m 25 #[rv a7_0, iv ((31 : Int32) + x2), iv (3 : Int32)] [(.ref a7_0), (.int ((31 : Int32) * ((31 : Int32) + x2)))])) _
    refine st10 _ ?_
    show Steps p.tables e below (T10.setTop (mkF m 28 #[rv a7_0, iv ((31 : Int32) + x2), iv (3 : Int32)] [(.ref ar), (.int ((31 : Int32) * ((31 : Int32) + x2)))])) _
    refine XS.iloadN X10.here hx rfl (hb hby d7_28) rfl ?_
    show Steps p.tables e below (T10.setTop (mkF m 29 #[rv a7_0, iv ((31 : Int32) + x2), iv (3 : Int32)] [(.int (3 : Int32)), (.ref ar), (.int ((31 : Int32) * ((31 : Int32) + x2)))])) _
    refine X10.baloadBytes hx (j := (3 : Int32)) (v := (.int x3)) (by rw [e10]; exact Ar11.1) (State.isArrayOf_alike hZ.alike Ar11.2.1) Ar11.2.2 hin12 hat13 (g := (mkF m 29 #[rv a7_0, iv ((31 : Int32) + x2), iv (3 : Int32)] [(.int (3 : Int32)), (.ref ar), (.int ((31 : Int32) * ((31 : Int32) + x2)))])) rfl rfl (hb hby d7_29) _ ?_
    show Steps p.tables e below (T10.setTop (mkF m 30 #[rv a7_0, iv ((31 : Int32) + x2), iv (3 : Int32)] [(.int x3), (.int ((31 : Int32) * ((31 : Int32) + x2)))])) _
    refine XS.iadd X10.here hx rfl (hb hby d7_30) rfl ?_
    show Steps p.tables e below (T10.setTop (mkF m 31 #[rv a7_0, iv ((31 : Int32) + x2), iv (3 : Int32)] [(.int (((31 : Int32) * ((31 : Int32) + x2)) + x3))])) _
    refine XS.istoreN X10.here hx rfl (hb hby d7_31) rfl (l' := #[rv a7_0, iv (((31 : Int32) * ((31 : Int32) + x2)) + x3), iv (3 : Int32)]) rfl ?_
    show Steps p.tables e below (T10.setTop (mkF m 32 #[rv a7_0, iv (((31 : Int32) * ((31 : Int32) + x2)) + x3), iv (3 : Int32)] [])) _
    refine XS.iinc X10.here hx rfl (hb hby d7_32) rfl (l' := #[rv a7_0, iv (((31 : Int32) * ((31 : Int32) + x2)) + x3), iv (4 : Int32)]) rfl ?_
    show Steps p.tables e below (T10.setTop (mkF m 35 #[rv a7_0, iv (((31 : Int32) * ((31 : Int32) + x2)) + x3), iv (4 : Int32)] [])) _
    refine XS.goto X10.here hx rfl (pc0 := 35) (pc' := 7) rfl (hb hby d7_35) (by decide) (by decide) ?_
    show Steps p.tables e below (T10.setTop (mkF m 7 #[rv a7_0, iv (((31 : Int32) * ((31 : Int32) + x2)) + x3), iv (4 : Int32)] [])) _
    refine XS.iloadN X10.here hx rfl (hb hby d7_7) rfl ?_
    show Steps p.tables e below (T10.setTop (mkF m 8 #[rv a7_0, iv (((31 : Int32) * ((31 : Int32) + x2)) + x3), iv (4 : Int32)] [(.int (4 : Int32))])) _
    refine XS.aloadN X10.here hx rfl (hb hby d7_8) rfl rfl ?_
    show Steps p.tables e below (T10.setTop (mkF m 9 #[rv a7_0, iv (((31 : Int32) * ((31 : Int32) + x2)) + x3), iv (4 : Int32)] [(.ref a7_0), (.int (4 : Int32))])) _
    refine st14 _ ?_
    show Steps p.tables e below (T14.setTop (mkF m 12 #[rv a7_0, iv (((31 : Int32) * ((31 : Int32) + x2)) + x3), iv (4 : Int32)] [(.int (2 : Int32)), (.int (4 : Int32))])) _
    refine XS.aloadN X14.here hx rfl (hb hby d7_12) rfl rfl ?_
    show Steps p.tables e below (T14.setTop (mkF m 13 #[rv a7_0, iv (((31 : Int32) * ((31 : Int32) + x2)) + x3), iv (4 : Int32)] [(.ref a7_0), (.int (2 : Int32)), (.int (4 : Int32))])) _
    refine st15 _ ?_
    show Steps p.tables e below (T15.setTop (mkF m 16 #[rv a7_0, iv (((31 : Int32) * ((31 : Int32) + x2)) + x3), iv (4 : Int32)] [(.int (2 : Int32)), (.int (2 : Int32)), (.int (4 : Int32))])) _
    refine XS.iadd X15.here hx rfl (hb hby d7_16) rfl ?_
    show Steps p.tables e below (T15.setTop (mkF m 17 #[rv a7_0, iv (((31 : Int32) * ((31 : Int32) + x2)) + x3), iv (4 : Int32)] [(.int (4 : Int32)), (.int (4 : Int32))])) _
    refine XS.icmpYes X15.here hx rfl (pc0 := 17) (pc' := 38) rfl (hb hby d7_17) rfl (flt (by decide : ¬ ((4 : Int32) < (4 : Int32)))).2.1 (by decide) (by decide) ?_
    show Steps p.tables e below (T15.setTop (mkF m 38 #[rv a7_0, iv (((31 : Int32) * ((31 : Int32) + x2)) + x3), iv (4 : Int32)] [])) _
    refine XS.iloadN X15.here hx rfl (hb hby d7_38) rfl ?_
    show Steps p.tables e below (T15.setTop (mkF m 39 #[rv a7_0, iv (((31 : Int32) * ((31 : Int32) + x2)) + x3), iv (4 : Int32)] [(.int (((31 : Int32) * ((31 : Int32) + x2)) + x3))])) _
    exact retI X15 hx Bd.returns (hb hby d7_39) hr
  · show Q_rm_h2_2 Z _ _ _ _ _ _ _ h0 n0 _ T15.heap _
    rw [e15]
    exact ⟨rfl, N0, rfl⟩
theorem ef_rm_h2_3 (m : MethodId) (x0 : Addr) : entryFrame m #[(.ref x0)] 3 = mkF m 0 #[rv x0, .unset, .unset] [] := by first | (simp [entryFrame, mkF, argsToLocals, Value.category]; done) | rfl
def Q_rm_h2_3 (Z : State) (a7_0 : Addr) (ar : Addr) (x0 : Int32) (x1 : Int32) (x2 : Int32) (x3 : Int32) (x4 : Int32) (h0 : Heap) (n0 : Nat) (v : Option Value) (h : Heap) (L : List Loc) : Prop := v = some (.int (((31 : Int32) * (((31 : Int32) * ((31 : Int32) + x2)) + x3)) + x4)) ∧ Fr n0 L ∧ h = h0
set_option maxRecDepth 65536 in
set_option maxHeartbeats 40000000 in
theorem rm_h2_3 (l : Launch) (Z : State) (a0 : Array Value) (hw : ∀ d ∈ tables_1, d.before a0 Z = true) (ws : List Jvm.Cond) (a7_0 : Addr) (ar : Addr) (x0 : Int32) (x1 : Int32) (x2 : Int32) (x3 : Int32) (x4 : Int32) (h0 : Heap) (n0 : Nat) (Z0 : n0 ≤ h0.size) (pf_F_a7_0_array : Fld Z h0 a7_0 "com/example/tailwake/tailwake/source/mariadb/Slice" "array" "[B" (.ref ar)) (pf_F_a7_0_offset : Fld Z h0 a7_0 "com/example/tailwake/tailwake/source/mariadb/Slice" "offset" "I" (.int (2 : Int32))) (pf_F_a7_0_length : Fld Z h0 a7_0 "com/example/tailwake/tailwake/source/mariadb/Slice" "length" "I" (.int (3 : Int32))) (pf_A_ar : Av Z h0 ar .byte (5 : Int32) [(.int x0), (.int x1), (.int x2), (.int x3), (.int x4)] (.int (0 : Int32))) :
    MetFree l (⟨"com/example/tailwake/tailwake/source/mariadb/Slice", "hashCode", "()I"⟩ : MethodName) (head1 (Jvm.Cond.code (⟨"com/example/tailwake/tailwake/source/mariadb/Slice", "hashCode", "()I"⟩ : MethodName) prog_29_method_7_code 3 (some .int) :: ws) ({ frames := 0, cells := 0, slots := 0, locals := 0 } : Room)) (fun a U => a = #[(.ref a7_0)] ∧ Z.Warmed39 U.vm ∧ U.heap = h0) (fun _ _ _ _ _ => True) (fun _ U o U' => ∃ v L, o = .returned v ∧ Q_rm_h2_3 Z a7_0 ar x0 x1 x2 x3 x4 h0 n0 v U'.heap L ∧ FrameEnd U o U' L ({ frames := 0, cells := 0, slots := 0, locals := 0 } : Room).cells ({ frames := 0, cells := 0, slots := 0, locals := 0 } : Room).slots) := by
  refine MetFree.of_bodySF (plainFor_of_name pn_com_example_tailwake_tailwake_source_mariadb_Slice) hisR ?_
  intro p e s m args below meth c s₁ Bd hml0 hP hK
  obtain ⟨rfl, hZ, hh⟩ := hP
  have hx := Bd.exec
  have hby := Bd.bytes
  have hml : c.maxLocals = 3 := hml0
  have hown : s.vm.findClass "com/example/tailwake/tailwake/source/mariadb/Slice" = some m.cls := findClass_of_methodNamed Bd.named
  have hnm := (name_of_methodNamed Bd.named Bd.method).1
  have X0 : Stand p l e ({ frames := 0, cells := 0, slots := 0, locals := 0 } : Room) s m #[(.ref a7_0)] below meth c s₁ [] 0 0 := Stand.of_body Bd
  have e0 : s₁.heap = h0 := by rw [← hh, Bd.state]; rfl
  have N0 := Fr.nil n0
  have pre0 : ∀ t, Steps p.tables e below (s₁.setTop (mkF m 0 #[rv a7_0, .unset, .unset] [])) t → Steps p.tables e below (s₁.setTop (entryFrame m #[(.ref a7_0)] 3)) t := fun t k => castTop (ef_rm_h2_3 m a7_0) k
  have wo19 := hw _ (List.mem_of_getElem? (i := 19) rfl)
  have wo21 := hw _ (List.mem_of_getElem? (i := 21) rfl)
  have wo23 := hw _ (List.mem_of_getElem? (i := 23) rfl)
  obtain ⟨T1, X1, e1, st1⟩ := getF X0 hx hZ hown (host := "") (Or.inl wo21) Via.refl e0 pf_F_a7_0_offset (g := (mkF m 3 #[rv a7_0, iv (1 : Int32), .unset] [(.ref a7_0)])) rfl rfl (hb hby d7_3)
  obtain ⟨T2, X2, e2, st2⟩ := getF X1 hx hZ hown (host := "") (Or.inl wo21) Via.refl e1 pf_F_a7_0_offset (g := (mkF m 9 #[rv a7_0, iv (1 : Int32), iv (2 : Int32)] [(.ref a7_0), (.int (2 : Int32))])) rfl rfl (hb hby d7_9)
  obtain ⟨T3, X3, e3, st3⟩ := getF X2 hx hZ hown (host := "") (Or.inl wo23) Via.refl e2 pf_F_a7_0_length (g := (mkF m 13 #[rv a7_0, iv (1 : Int32), iv (2 : Int32)] [(.ref a7_0), (.int (2 : Int32)), (.int (2 : Int32))])) rfl rfl (hb hby d7_13)
  obtain ⟨T4, X4, e4, st4⟩ := getF X3 hx hZ hown (host := "") (Or.inl wo19) Via.refl e3 pf_F_a7_0_array (g := (mkF m 25 #[rv a7_0, iv (1 : Int32), iv (2 : Int32)] [(.ref a7_0), (.int (31 : Int32))])) rfl rfl (hb hby d7_25)
  obtain ⟨kk5, cl5, Ar5, qq5, Sz5, Nn5, Hs5, Gf5⟩ := id pf_A_ar
  have hin6 : ¬ ((2 : Int32) < 0 ∨ cl5.slots.size ≤ ((2 : Int32)).toNatClampNeg) := inb_of Sz5 ⟨by decide, by decide⟩
  have hat7 : cl5.slots[((2 : Int32)).toNatClampNeg]? = some (.int x2) := Has.at Hs5 hin6 rfl
  obtain ⟨T8, X8, e8, st8⟩ := getF X4 hx hZ hown (host := "") (Or.inl wo21) Via.refl e4 pf_F_a7_0_offset (g := (mkF m 9 #[rv a7_0, iv ((31 : Int32) + x2), iv (3 : Int32)] [(.ref a7_0), (.int (3 : Int32))])) rfl rfl (hb hby d7_9)
  obtain ⟨T9, X9, e9, st9⟩ := getF X8 hx hZ hown (host := "") (Or.inl wo23) Via.refl e8 pf_F_a7_0_length (g := (mkF m 13 #[rv a7_0, iv ((31 : Int32) + x2), iv (3 : Int32)] [(.ref a7_0), (.int (2 : Int32)), (.int (3 : Int32))])) rfl rfl (hb hby d7_13)
  obtain ⟨T10, X10, e10, st10⟩ := getF X9 hx hZ hown (host := "") (Or.inl wo19) Via.refl e9 pf_F_a7_0_array (g := (mkF m 25 #[rv a7_0, iv ((31 : Int32) + x2), iv (3 : Int32)] [(.ref a7_0), (.int ((31 : Int32) * ((31 : Int32) + x2)))])) rfl rfl (hb hby d7_25)
  obtain ⟨kk11, cl11, Ar11, qq11, Sz11, Nn11, Hs11, Gf11⟩ := id pf_A_ar
  have hin12 : ¬ ((3 : Int32) < 0 ∨ cl11.slots.size ≤ ((3 : Int32)).toNatClampNeg) := inb_of Sz11 ⟨by decide, by decide⟩
  have hat13 : cl11.slots[((3 : Int32)).toNatClampNeg]? = some (.int x3) := Has.at Hs11 hin12 rfl
  obtain ⟨T14, X14, e14, st14⟩ := getF X10 hx hZ hown (host := "") (Or.inl wo21) Via.refl e10 pf_F_a7_0_offset (g := (mkF m 9 #[rv a7_0, iv (((31 : Int32) * ((31 : Int32) + x2)) + x3), iv (4 : Int32)] [(.ref a7_0), (.int (4 : Int32))])) rfl rfl (hb hby d7_9)
  obtain ⟨T15, X15, e15, st15⟩ := getF X14 hx hZ hown (host := "") (Or.inl wo23) Via.refl e14 pf_F_a7_0_length (g := (mkF m 13 #[rv a7_0, iv (((31 : Int32) * ((31 : Int32) + x2)) + x3), iv (4 : Int32)] [(.ref a7_0), (.int (2 : Int32)), (.int (4 : Int32))])) rfl rfl (hb hby d7_13)
  obtain ⟨T16, X16, e16, st16⟩ := getF X15 hx hZ hown (host := "") (Or.inl wo19) Via.refl e15 pf_F_a7_0_array (g := (mkF m 25 #[rv a7_0, iv (((31 : Int32) * ((31 : Int32) + x2)) + x3), iv (4 : Int32)] [(.ref a7_0), (.int ((31 : Int32) * (((31 : Int32) * ((31 : Int32) + x2)) + x3)))])) rfl rfl (hb hby d7_25)
  obtain ⟨kk17, cl17, Ar17, qq17, Sz17, Nn17, Hs17, Gf17⟩ := id pf_A_ar
  have hin18 : ¬ ((4 : Int32) < 0 ∨ cl17.slots.size ≤ ((4 : Int32)).toNatClampNeg) := inb_of Sz17 ⟨by decide, by decide⟩
  have hat19 : cl17.slots[((4 : Int32)).toNatClampNeg]? = some (.int x4) := Has.at Hs17 hin18 rfl
  obtain ⟨T20, X20, e20, st20⟩ := getF X16 hx hZ hown (host := "") (Or.inl wo21) Via.refl e16 pf_F_a7_0_offset (g := (mkF m 9 #[rv a7_0, iv (((31 : Int32) * (((31 : Int32) * ((31 : Int32) + x2)) + x3)) + x4), iv (5 : Int32)] [(.ref a7_0), (.int (5 : Int32))])) rfl rfl (hb hby d7_9)
  obtain ⟨T21, X21, e21, st21⟩ := getF X20 hx hZ hown (host := "") (Or.inl wo23) Via.refl e20 pf_F_a7_0_length (g := (mkF m 13 #[rv a7_0, iv (((31 : Int32) * (((31 : Int32) * ((31 : Int32) + x2)) + x3)) + x4), iv (5 : Int32)] [(.ref a7_0), (.int (2 : Int32)), (.int (5 : Int32))])) rfl rfl (hb hby d7_13)
  obtain ⟨fs, hr, hrun, hended, hW, hsame⟩ := X21.leave (v := some (.int (((31 : Int32) * (((31 : Int32) * ((31 : Int32) + x2)) + x3)) + x4))) (fun h => by rw [Bd.returns] at h; cases h)
  refine ⟨_, _, pre0 _ ?_, hrun, hended, _, _, rfl, ?_, ⟨_, rfl⟩, hW, hsame.mono (by decide) (by decide)⟩
  · show Steps p.tables e below (s₁.setTop (mkF m 0 #[rv a7_0, .unset, .unset] [])) _
    refine XS.iconst X0.here hx rfl (hb hby d7_0) ?_
    show Steps p.tables e below (s₁.setTop (mkF m 1 #[rv a7_0, .unset, .unset] [(.int (1 : Int32))])) _
    refine XS.istoreN X0.here hx rfl (hb hby d7_1) rfl (l' := #[rv a7_0, iv (1 : Int32), .unset]) rfl ?_
    show Steps p.tables e below (s₁.setTop (mkF m 2 #[rv a7_0, iv (1 : Int32), .unset] [])) _
    refine XS.aloadN X0.here hx rfl (hb hby d7_2) rfl rfl ?_
    show Steps p.tables e below (s₁.setTop (mkF m 3 #[rv a7_0, iv (1 : Int32), .unset] [(.ref a7_0)])) _
    refine st1 _ ?_
    show Steps p.tables e below (T1.setTop (mkF m 6 #[rv a7_0, iv (1 : Int32), .unset] [(.int (2 : Int32))])) _
    refine XS.istoreN X1.here hx rfl (hb hby d7_6) rfl (l' := #[rv a7_0, iv (1 : Int32), iv (2 : Int32)]) rfl ?_
    show Steps p.tables e below (T1.setTop (mkF m 7 #[rv a7_0, iv (1 : Int32), iv (2 : Int32)] [])) _
    refine XS.iloadN X1.here hx rfl (hb hby d7_7) rfl ?_
    show Steps p.tables e below (T1.setTop (mkF m 8 #[rv a7_0, iv (1 : Int32), iv (2 : Int32)] [(.int (2 : Int32))])) _
    refine XS.aloadN X1.here hx rfl (hb hby d7_8) rfl rfl ?_
    show Steps p.tables e below (T1.setTop (mkF m 9 #[rv a7_0, iv (1 : Int32), iv (2 : Int32)] [(.ref a7_0), (.int (2 : Int32))])) _
    refine st2 _ ?_
    show Steps p.tables e below (T2.setTop (mkF m 12 #[rv a7_0, iv (1 : Int32), iv (2 : Int32)] [(.int (2 : Int32)), (.int (2 : Int32))])) _
    refine XS.aloadN X2.here hx rfl (hb hby d7_12) rfl rfl ?_
    show Steps p.tables e below (T2.setTop (mkF m 13 #[rv a7_0, iv (1 : Int32), iv (2 : Int32)] [(.ref a7_0), (.int (2 : Int32)), (.int (2 : Int32))])) _
    refine st3 _ ?_
    show Steps p.tables e below (T3.setTop (mkF m 16 #[rv a7_0, iv (1 : Int32), iv (2 : Int32)] [(.int (3 : Int32)), (.int (2 : Int32)), (.int (2 : Int32))])) _
    refine XS.iadd X3.here hx rfl (hb hby d7_16) rfl ?_
    show Steps p.tables e below (T3.setTop (mkF m 17 #[rv a7_0, iv (1 : Int32), iv (2 : Int32)] [(.int (5 : Int32)), (.int (2 : Int32))])) _
    refine XS.icmpNo X3.here hx rfl (hb hby d7_17) rfl (tlt (by decide : (2 : Int32) < (5 : Int32))).2.1 ?_
    show Steps p.tables e below (T3.setTop (mkF m 20 #[rv a7_0, iv (1 : Int32), iv (2 : Int32)] [])) _
    refine XS.bipush X3.here hx rfl (hb hby d7_20) ?_
    show Steps p.tables e below (T3.setTop (mkF m 22 #[rv a7_0, iv (1 : Int32), iv (2 : Int32)] [(.int (31 : Int32))])) _
    refine XS.iloadN X3.here hx rfl (hb hby d7_22) rfl ?_
    show Steps p.tables e below (T3.setTop (mkF m 23 #[rv a7_0, iv (1 : Int32), iv (2 : Int32)] [(.int (1 : Int32)), (.int (31 : Int32))])) _
    refine XS.imul X3.here hx rfl (hb hby d7_23) rfl ?_
    show Steps p.tables e below (T3.setTop (mkF m 24 #[rv a7_0, iv (1 : Int32), iv (2 : Int32)] [(.int (31 : Int32))])) _
    refine XS.aloadN X3.here hx rfl (hb hby d7_24) rfl rfl ?_
    show Steps p.tables e below (T3.setTop (mkF m 25 #[rv a7_0, iv (1 : Int32), iv (2 : Int32)] [(.ref a7_0), (.int (31 : Int32))])) _
    refine st4 _ ?_
    show Steps p.tables e below (T4.setTop (mkF m 28 #[rv a7_0, iv (1 : Int32), iv (2 : Int32)] [(.ref ar), (.int (31 : Int32))])) _
    refine XS.iloadN X4.here hx rfl (hb hby d7_28) rfl ?_
    show Steps p.tables e below (T4.setTop (mkF m 29 #[rv a7_0, iv (1 : Int32), iv (2 : Int32)] [(.int (2 : Int32)), (.ref ar), (.int (31 : Int32))])) _
    refine X4.baloadBytes hx (j := (2 : Int32)) (v := (.int x2)) (by rw [e4]; exact Ar5.1) (State.isArrayOf_alike hZ.alike Ar5.2.1) Ar5.2.2 hin6 hat7 (g := (mkF m 29 #[rv a7_0, iv (1 : Int32), iv (2 : Int32)] [(.int (2 : Int32)), (.ref ar), (.int (31 : Int32))])) rfl rfl (hb hby d7_29) _ ?_
    show Steps p.tables e below (T4.setTop (mkF m 30 #[rv a7_0, iv (1 : Int32), iv (2 : Int32)] [(.int x2), (.int (31 : Int32))])) _
    refine XS.iadd X4.here hx rfl (hb hby d7_30) rfl ?_
    show Steps p.tables e below (T4.setTop (mkF m 31 #[rv a7_0, iv (1 : Int32), iv (2 : Int32)] [(.int ((31 : Int32) + x2))])) _
    refine XS.istoreN X4.here hx rfl (hb hby d7_31) rfl (l' := #[rv a7_0, iv ((31 : Int32) + x2), iv (2 : Int32)]) rfl ?_
    show Steps p.tables e below (T4.setTop (mkF m 32 #[rv a7_0, iv ((31 : Int32) + x2), iv (2 : Int32)] [])) _
    refine XS.iinc X4.here hx rfl (hb hby d7_32) rfl (l' := #[rv a7_0, iv ((31 : Int32) + x2), iv (3 : Int32)]) rfl ?_
    show Steps p.tables e below (T4.setTop (mkF m 35 #[rv a7_0, iv ((31 : Int32) + x2), iv (3 : Int32)] [])) _
    refine XS.goto X4.here hx rfl (pc0 := 35) (pc' := 7) rfl (hb hby d7_35) (by decide) (by decide) ?_
    show Steps p.tables e below (T4.setTop (mkF m 7 #[rv a7_0, iv ((31 : Int32) + x2), iv (3 : Int32)] [])) _
    refine XS.iloadN X4.here hx rfl (hb hby d7_7) rfl ?_
    show Steps p.tables e below (T4.setTop (mkF m 8 #[rv a7_0, iv ((31 : Int32) + x2), iv (3 : Int32)] [(.int (3 : Int32))])) _
    refine XS.aloadN X4.here hx rfl (hb hby d7_8) rfl rfl ?_
    show Steps p.tables e below (T4.setTop (mkF m 9 #[rv a7_0, iv ((31 : Int32) + x2), iv (3 : Int32)] [(.ref a7_0), (.int (3 : Int32))])) _
    refine st8 _ ?_
    show Steps p.tables e below (T8.setTop (mkF m 12 #[rv a7_0, iv ((31 : Int32) + x2), iv (3 : Int32)] [(.int (2 : Int32)), (.int (3 : Int32))])) _
    refine XS.aloadN X8.here hx rfl (hb hby d7_12) rfl rfl ?_
    show Steps p.tables e below (T8.setTop (mkF m 13 #[rv a7_0, iv ((31 : Int32) + x2), iv (3 : Int32)] [(.ref a7_0), (.int (2 : Int32)), (.int (3 : Int32))])) _
    refine st9 _ ?_
    show Steps p.tables e below (T9.setTop (mkF m 16 #[rv a7_0, iv ((31 : Int32) + x2), iv (3 : Int32)] [(.int (3 : Int32)), (.int (2 : Int32)), (.int (3 : Int32))])) _
    refine XS.iadd X9.here hx rfl (hb hby d7_16) rfl ?_
    show Steps p.tables e below (T9.setTop (mkF m 17 #[rv a7_0, iv ((31 : Int32) + x2), iv (3 : Int32)] [(.int (5 : Int32)), (.int (3 : Int32))])) _
    refine XS.icmpNo X9.here hx rfl (hb hby d7_17) rfl (tlt (by decide : (3 : Int32) < (5 : Int32))).2.1 ?_
    show Steps p.tables e below (T9.setTop (mkF m 20 #[rv a7_0, iv ((31 : Int32) + x2), iv (3 : Int32)] [])) _
    refine XS.bipush X9.here hx rfl (hb hby d7_20) ?_
    show Steps p.tables e below (T9.setTop (mkF m 22 #[rv a7_0, iv ((31 : Int32) + x2), iv (3 : Int32)] [(.int (31 : Int32))])) _
    refine XS.iloadN X9.here hx rfl (hb hby d7_22) rfl ?_
    show Steps p.tables e below (T9.setTop (mkF m 23 #[rv a7_0, iv ((31 : Int32) + x2), iv (3 : Int32)] [(.int ((31 : Int32) + x2)), (.int (31 : Int32))])) _
    refine XS.imul X9.here hx rfl (hb hby d7_23) rfl ?_
    show Steps p.tables e below (T9.setTop (mkF m 24 #[rv a7_0, iv ((31 : Int32) + x2), iv (3 : Int32)] [(.int ((31 : Int32) * ((31 : Int32) + x2)))])) _
    refine XS.aloadN X9.here hx rfl (hb hby d7_24) rfl rfl ?_
    show Steps p.tables e below (T9.setTop (mkF m 25 #[rv a7_0, iv ((31 : Int32) + x2), iv (3 : Int32)] [(.ref a7_0), (.int ((31 : Int32) * ((31 : Int32) + x2)))])) _
    refine st10 _ ?_
    show Steps p.tables e below (T10.setTop (mkF m 28 #[rv a7_0, iv ((31 : Int32) + x2), iv (3 : Int32)] [(.ref ar), (.int ((31 : Int32) * ((31 : Int32) + x2)))])) _
    refine XS.iloadN X10.here hx rfl (hb hby d7_28) rfl ?_
    show Steps p.tables e below (T10.setTop (mkF m 29 #[rv a7_0, iv ((31 : Int32) + x2), iv (3 : Int32)] [(.int (3 : Int32)), (.ref ar), (.int ((31 : Int32) * ((31 : Int32) + x2)))])) _
    refine X10.baloadBytes hx (j := (3 : Int32)) (v := (.int x3)) (by rw [e10]; exact Ar11.1) (State.isArrayOf_alike hZ.alike Ar11.2.1) Ar11.2.2 hin12 hat13 (g := (mkF m 29 #[rv a7_0, iv ((31 : Int32) + x2), iv (3 : Int32)] [(.int (3 : Int32)), (.ref ar), (.int ((31 : Int32) * ((31 : Int32) + x2)))])) rfl rfl (hb hby d7_29) _ ?_
    show Steps p.tables e below (T10.setTop (mkF m 30 #[rv a7_0, iv ((31 : Int32) + x2), iv (3 : Int32)] [(.int x3), (.int ((31 : Int32) * ((31 : Int32) + x2)))])) _
    refine XS.iadd X10.here hx rfl (hb hby d7_30) rfl ?_
    show Steps p.tables e below (T10.setTop (mkF m 31 #[rv a7_0, iv ((31 : Int32) + x2), iv (3 : Int32)] [(.int (((31 : Int32) * ((31 : Int32) + x2)) + x3))])) _
    refine XS.istoreN X10.here hx rfl (hb hby d7_31) rfl (l' := #[rv a7_0, iv (((31 : Int32) * ((31 : Int32) + x2)) + x3), iv (3 : Int32)]) rfl ?_
    show Steps p.tables e below (T10.setTop (mkF m 32 #[rv a7_0, iv (((31 : Int32) * ((31 : Int32) + x2)) + x3), iv (3 : Int32)] [])) _
    refine XS.iinc X10.here hx rfl (hb hby d7_32) rfl (l' := #[rv a7_0, iv (((31 : Int32) * ((31 : Int32) + x2)) + x3), iv (4 : Int32)]) rfl ?_
    show Steps p.tables e below (T10.setTop (mkF m 35 #[rv a7_0, iv (((31 : Int32) * ((31 : Int32) + x2)) + x3), iv (4 : Int32)] [])) _
    refine XS.goto X10.here hx rfl (pc0 := 35) (pc' := 7) rfl (hb hby d7_35) (by decide) (by decide) ?_
    show Steps p.tables e below (T10.setTop (mkF m 7 #[rv a7_0, iv (((31 : Int32) * ((31 : Int32) + x2)) + x3), iv (4 : Int32)] [])) _
    refine XS.iloadN X10.here hx rfl (hb hby d7_7) rfl ?_
    show Steps p.tables e below (T10.setTop (mkF m 8 #[rv a7_0, iv (((31 : Int32) * ((31 : Int32) + x2)) + x3), iv (4 : Int32)] [(.int (4 : Int32))])) _
    refine XS.aloadN X10.here hx rfl (hb hby d7_8) rfl rfl ?_
    show Steps p.tables e below (T10.setTop (mkF m 9 #[rv a7_0, iv (((31 : Int32) * ((31 : Int32) + x2)) + x3), iv (4 : Int32)] [(.ref a7_0), (.int (4 : Int32))])) _
    refine st14 _ ?_
    show Steps p.tables e below (T14.setTop (mkF m 12 #[rv a7_0, iv (((31 : Int32) * ((31 : Int32) + x2)) + x3), iv (4 : Int32)] [(.int (2 : Int32)), (.int (4 : Int32))])) _
    refine XS.aloadN X14.here hx rfl (hb hby d7_12) rfl rfl ?_
    show Steps p.tables e below (T14.setTop (mkF m 13 #[rv a7_0, iv (((31 : Int32) * ((31 : Int32) + x2)) + x3), iv (4 : Int32)] [(.ref a7_0), (.int (2 : Int32)), (.int (4 : Int32))])) _
    refine st15 _ ?_
    show Steps p.tables e below (T15.setTop (mkF m 16 #[rv a7_0, iv (((31 : Int32) * ((31 : Int32) + x2)) + x3), iv (4 : Int32)] [(.int (3 : Int32)), (.int (2 : Int32)), (.int (4 : Int32))])) _
    refine XS.iadd X15.here hx rfl (hb hby d7_16) rfl ?_
    show Steps p.tables e below (T15.setTop (mkF m 17 #[rv a7_0, iv (((31 : Int32) * ((31 : Int32) + x2)) + x3), iv (4 : Int32)] [(.int (5 : Int32)), (.int (4 : Int32))])) _
    refine XS.icmpNo X15.here hx rfl (hb hby d7_17) rfl (tlt (by decide : (4 : Int32) < (5 : Int32))).2.1 ?_
    show Steps p.tables e below (T15.setTop (mkF m 20 #[rv a7_0, iv (((31 : Int32) * ((31 : Int32) + x2)) + x3), iv (4 : Int32)] [])) _
    refine XS.bipush X15.here hx rfl (hb hby d7_20) ?_
    show Steps p.tables e below (T15.setTop (mkF m 22 #[rv a7_0, iv (((31 : Int32) * ((31 : Int32) + x2)) + x3), iv (4 : Int32)] [(.int (31 : Int32))])) _
    refine XS.iloadN X15.here hx rfl (hb hby d7_22) rfl ?_
    show Steps p.tables e below (T15.setTop (mkF m 23 #[rv a7_0, iv (((31 : Int32) * ((31 : Int32) + x2)) + x3), iv (4 : Int32)] [(.int (((31 : Int32) * ((31 : Int32) + x2)) + x3)), (.int (31 : Int32))])) _
    refine XS.imul X15.here hx rfl (hb hby d7_23) rfl ?_
    show Steps p.tables e below (T15.setTop (mkF m 24 #[rv a7_0, iv (((31 : Int32) * ((31 : Int32) + x2)) + x3), iv (4 : Int32)] [(.int ((31 : Int32) * (((31 : Int32) * ((31 : Int32) + x2)) + x3)))])) _
    refine XS.aloadN X15.here hx rfl (hb hby d7_24) rfl rfl ?_
    show Steps p.tables e below (T15.setTop (mkF m 25 #[rv a7_0, iv (((31 : Int32) * ((31 : Int32) + x2)) + x3), iv (4 : Int32)] [(.ref a7_0), (.int ((31 : Int32) * (((31 : Int32) * ((31 : Int32) + x2)) + x3)))])) _
    refine st16 _ ?_
    show Steps p.tables e below (T16.setTop (mkF m 28 #[rv a7_0, iv (((31 : Int32) * ((31 : Int32) + x2)) + x3), iv (4 : Int32)] [(.ref ar), (.int ((31 : Int32) * (((31 : Int32) * ((31 : Int32) + x2)) + x3)))])) _
    refine XS.iloadN X16.here hx rfl (hb hby d7_28) rfl ?_
    show Steps p.tables e below (T16.setTop (mkF m 29 #[rv a7_0, iv (((31 : Int32) * ((31 : Int32) + x2)) + x3), iv (4 : Int32)] [(.int (4 : Int32)), (.ref ar), (.int ((31 : Int32) * (((31 : Int32) * ((31 : Int32) + x2)) + x3)))])) _
    refine X16.baloadBytes hx (j := (4 : Int32)) (v := (.int x4)) (by rw [e16]; exact Ar17.1) (State.isArrayOf_alike hZ.alike Ar17.2.1) Ar17.2.2 hin18 hat19 (g := (mkF m 29 #[rv a7_0, iv (((31 : Int32) * ((31 : Int32) + x2)) + x3), iv (4 : Int32)] [(.int (4 : Int32)), (.ref ar), (.int ((31 : Int32) * (((31 : Int32) * ((31 : Int32) + x2)) + x3)))])) rfl rfl (hb hby d7_29) _ ?_
    show Steps p.tables e below (T16.setTop (mkF m 30 #[rv a7_0, iv (((31 : Int32) * ((31 : Int32) + x2)) + x3), iv (4 : Int32)] [(.int x4), (.int ((31 : Int32) * (((31 : Int32) * ((31 : Int32) + x2)) + x3)))])) _
    refine XS.iadd X16.here hx rfl (hb hby d7_30) rfl ?_
    show Steps p.tables e below (T16.setTop (mkF m 31 #[rv a7_0, iv (((31 : Int32) * ((31 : Int32) + x2)) + x3), iv (4 : Int32)] [(.int (((31 : Int32) * (((31 : Int32) * ((31 : Int32) + x2)) + x3)) + x4))])) _
    refine XS.istoreN X16.here hx rfl (hb hby d7_31) rfl (l' := #[rv a7_0, iv (((31 : Int32) * (((31 : Int32) * ((31 : Int32) + x2)) + x3)) + x4), iv (4 : Int32)]) rfl ?_
    show Steps p.tables e below (T16.setTop (mkF m 32 #[rv a7_0, iv (((31 : Int32) * (((31 : Int32) * ((31 : Int32) + x2)) + x3)) + x4), iv (4 : Int32)] [])) _
    refine XS.iinc X16.here hx rfl (hb hby d7_32) rfl (l' := #[rv a7_0, iv (((31 : Int32) * (((31 : Int32) * ((31 : Int32) + x2)) + x3)) + x4), iv (5 : Int32)]) rfl ?_
    show Steps p.tables e below (T16.setTop (mkF m 35 #[rv a7_0, iv (((31 : Int32) * (((31 : Int32) * ((31 : Int32) + x2)) + x3)) + x4), iv (5 : Int32)] [])) _
    refine XS.goto X16.here hx rfl (pc0 := 35) (pc' := 7) rfl (hb hby d7_35) (by decide) (by decide) ?_
    show Steps p.tables e below (T16.setTop (mkF m 7 #[rv a7_0, iv (((31 : Int32) * (((31 : Int32) * ((31 : Int32) + x2)) + x3)) + x4), iv (5 : Int32)] [])) _
    refine XS.iloadN X16.here hx rfl (hb hby d7_7) rfl ?_
    show Steps p.tables e below (T16.setTop (mkF m 8 #[rv a7_0, iv (((31 : Int32) * (((31 : Int32) * ((31 : Int32) + x2)) + x3)) + x4), iv (5 : Int32)] [(.int (5 : Int32))])) _
    refine XS.aloadN X16.here hx rfl (hb hby d7_8) rfl rfl ?_
    show Steps p.tables e below (T16.setTop (mkF m 9 #[rv a7_0, iv (((31 : Int32) * (((31 : Int32) * ((31 : Int32) + x2)) + x3)) + x4), iv (5 : Int32)] [(.ref a7_0), (.int (5 : Int32))])) _
    refine st20 _ ?_
    show Steps p.tables e below (T20.setTop (mkF m 12 #[rv a7_0, iv (((31 : Int32) * (((31 : Int32) * ((31 : Int32) + x2)) + x3)) + x4), iv (5 : Int32)] [(.int (2 : Int32)), (.int (5 : Int32))])) _
    refine XS.aloadN X20.here hx rfl (hb hby d7_12) rfl rfl ?_
    show Steps p.tables e below (T20.setTop (mkF m 13 #[rv a7_0, iv (((31 : Int32) * (((31 : Int32) * ((31 : Int32) + x2)) + x3)) + x4), iv (5 : Int32)] [(.ref a7_0), (.int (2 : Int32)), (.int (5 : Int32))])) _
    refine st21 _ ?_
    show Steps p.tables e below (T21.setTop (mkF m 16 #[rv a7_0, iv (((31 : Int32) * (((31 : Int32) * ((31 : Int32) + x2)) + x3)) + x4), iv (5 : Int32)] [(.int (3 : Int32)), (.int (2 : Int32)), (.int (5 : Int32))])) _
    refine XS.iadd X21.here hx rfl (hb hby d7_16) rfl ?_
    show Steps p.tables e below (T21.setTop (mkF m 17 #[rv a7_0, iv (((31 : Int32) * (((31 : Int32) * ((31 : Int32) + x2)) + x3)) + x4), iv (5 : Int32)] [(.int (5 : Int32)), (.int (5 : Int32))])) _
    refine XS.icmpYes X21.here hx rfl (pc0 := 17) (pc' := 38) rfl (hb hby d7_17) rfl (flt (by decide : ¬ ((5 : Int32) < (5 : Int32)))).2.1 (by decide) (by decide) ?_
    show Steps p.tables e below (T21.setTop (mkF m 38 #[rv a7_0, iv (((31 : Int32) * (((31 : Int32) * ((31 : Int32) + x2)) + x3)) + x4), iv (5 : Int32)] [])) _
    refine XS.iloadN X21.here hx rfl (hb hby d7_38) rfl ?_
    show Steps p.tables e below (T21.setTop (mkF m 39 #[rv a7_0, iv (((31 : Int32) * (((31 : Int32) * ((31 : Int32) + x2)) + x3)) + x4), iv (5 : Int32)] [(.int (((31 : Int32) * (((31 : Int32) * ((31 : Int32) + x2)) + x3)) + x4))])) _
    exact retI X21 hx Bd.returns (hb hby d7_39) hr
  · show Q_rm_h2_3 Z _ _ _ _ _ _ _ h0 n0 _ T21.heap _
    rw [e21]
    exact ⟨rfl, N0, rfl⟩
theorem ef_rm_h3_0 (m : MethodId) (x0 : Addr) : entryFrame m #[(.ref x0)] 3 = mkF m 0 #[rv x0, .unset, .unset] [] := by first | (simp [entryFrame, mkF, argsToLocals, Value.category]; done) | rfl
def Q_rm_h3_0 (Z : State) (a7_0 : Addr) (ar : Addr) (x0 : Int32) (x1 : Int32) (x2 : Int32) (x3 : Int32) (x4 : Int32) (h0 : Heap) (n0 : Nat) (v : Option Value) (h : Heap) (L : List Loc) : Prop := v = some (.int (1 : Int32)) ∧ Fr n0 L ∧ h = h0
set_option maxRecDepth 65536 in
set_option maxHeartbeats 40000000 in
theorem rm_h3_0 (l : Launch) (Z : State) (a0 : Array Value) (hw : ∀ d ∈ tables_1, d.before a0 Z = true) (ws : List Jvm.Cond) (a7_0 : Addr) (ar : Addr) (x0 : Int32) (x1 : Int32) (x2 : Int32) (x3 : Int32) (x4 : Int32) (h0 : Heap) (n0 : Nat) (Z0 : n0 ≤ h0.size) (pf_F_a7_0_array : Fld Z h0 a7_0 "com/example/tailwake/tailwake/source/mariadb/Slice" "array" "[B" (.ref ar)) (pf_F_a7_0_offset : Fld Z h0 a7_0 "com/example/tailwake/tailwake/source/mariadb/Slice" "offset" "I" (.int (3 : Int32))) (pf_F_a7_0_length : Fld Z h0 a7_0 "com/example/tailwake/tailwake/source/mariadb/Slice" "length" "I" (.int (0 : Int32))) (pf_A_ar : Av Z h0 ar .byte (5 : Int32) [(.int x0), (.int x1), (.int x2), (.int x3), (.int x4)] (.int (0 : Int32))) :
    MetFree l (⟨"com/example/tailwake/tailwake/source/mariadb/Slice", "hashCode", "()I"⟩ : MethodName) (head1 (Jvm.Cond.code (⟨"com/example/tailwake/tailwake/source/mariadb/Slice", "hashCode", "()I"⟩ : MethodName) prog_29_method_7_code 3 (some .int) :: ws) ({ frames := 0, cells := 0, slots := 0, locals := 0 } : Room)) (fun a U => a = #[(.ref a7_0)] ∧ Z.Warmed39 U.vm ∧ U.heap = h0) (fun _ _ _ _ _ => True) (fun _ U o U' => ∃ v L, o = .returned v ∧ Q_rm_h3_0 Z a7_0 ar x0 x1 x2 x3 x4 h0 n0 v U'.heap L ∧ FrameEnd U o U' L ({ frames := 0, cells := 0, slots := 0, locals := 0 } : Room).cells ({ frames := 0, cells := 0, slots := 0, locals := 0 } : Room).slots) := by
  refine MetFree.of_bodySF (plainFor_of_name pn_com_example_tailwake_tailwake_source_mariadb_Slice) hisR ?_
  intro p e s m args below meth c s₁ Bd hml0 hP hK
  obtain ⟨rfl, hZ, hh⟩ := hP
  have hx := Bd.exec
  have hby := Bd.bytes
  have hml : c.maxLocals = 3 := hml0
  have hown : s.vm.findClass "com/example/tailwake/tailwake/source/mariadb/Slice" = some m.cls := findClass_of_methodNamed Bd.named
  have hnm := (name_of_methodNamed Bd.named Bd.method).1
  have X0 : Stand p l e ({ frames := 0, cells := 0, slots := 0, locals := 0 } : Room) s m #[(.ref a7_0)] below meth c s₁ [] 0 0 := Stand.of_body Bd
  have e0 : s₁.heap = h0 := by rw [← hh, Bd.state]; rfl
  have N0 := Fr.nil n0
  have pre0 : ∀ t, Steps p.tables e below (s₁.setTop (mkF m 0 #[rv a7_0, .unset, .unset] [])) t → Steps p.tables e below (s₁.setTop (entryFrame m #[(.ref a7_0)] 3)) t := fun t k => castTop (ef_rm_h3_0 m a7_0) k
  have wo21 := hw _ (List.mem_of_getElem? (i := 21) rfl)
  have wo23 := hw _ (List.mem_of_getElem? (i := 23) rfl)
  obtain ⟨T1, X1, e1, st1⟩ := getF X0 hx hZ hown (host := "") (Or.inl wo21) Via.refl e0 pf_F_a7_0_offset (g := (mkF m 3 #[rv a7_0, iv (1 : Int32), .unset] [(.ref a7_0)])) rfl rfl (hb hby d7_3)
  obtain ⟨T2, X2, e2, st2⟩ := getF X1 hx hZ hown (host := "") (Or.inl wo21) Via.refl e1 pf_F_a7_0_offset (g := (mkF m 9 #[rv a7_0, iv (1 : Int32), iv (3 : Int32)] [(.ref a7_0), (.int (3 : Int32))])) rfl rfl (hb hby d7_9)
  obtain ⟨T3, X3, e3, st3⟩ := getF X2 hx hZ hown (host := "") (Or.inl wo23) Via.refl e2 pf_F_a7_0_length (g := (mkF m 13 #[rv a7_0, iv (1 : Int32), iv (3 : Int32)] [(.ref a7_0), (.int (3 : Int32)), (.int (3 : Int32))])) rfl rfl (hb hby d7_13)
  obtain ⟨fs, hr, hrun, hended, hW, hsame⟩ := X3.leave (v := some (.int (1 : Int32))) (fun h => by rw [Bd.returns] at h; cases h)
  refine ⟨_, _, pre0 _ ?_, hrun, hended, _, _, rfl, ?_, ⟨_, rfl⟩, hW, hsame.mono (by decide) (by decide)⟩
  · show Steps p.tables e below (s₁.setTop (mkF m 0 #[rv a7_0, .unset, .unset] [])) _
    refine XS.iconst X0.here hx rfl (hb hby d7_0) ?_
    show Steps p.tables e below (s₁.setTop (mkF m 1 #[rv a7_0, .unset, .unset] [(.int (1 : Int32))])) _
    refine XS.istoreN X0.here hx rfl (hb hby d7_1) rfl (l' := #[rv a7_0, iv (1 : Int32), .unset]) rfl ?_
    show Steps p.tables e below (s₁.setTop (mkF m 2 #[rv a7_0, iv (1 : Int32), .unset] [])) _
    refine XS.aloadN X0.here hx rfl (hb hby d7_2) rfl rfl ?_
    show Steps p.tables e below (s₁.setTop (mkF m 3 #[rv a7_0, iv (1 : Int32), .unset] [(.ref a7_0)])) _
    refine st1 _ ?_
    show Steps p.tables e below (T1.setTop (mkF m 6 #[rv a7_0, iv (1 : Int32), .unset] [(.int (3 : Int32))])) _
    refine XS.istoreN X1.here hx rfl (hb hby d7_6) rfl (l' := #[rv a7_0, iv (1 : Int32), iv (3 : Int32)]) rfl ?_
    show Steps p.tables e below (T1.setTop (mkF m 7 #[rv a7_0, iv (1 : Int32), iv (3 : Int32)] [])) _
    refine XS.iloadN X1.here hx rfl (hb hby d7_7) rfl ?_
    show Steps p.tables e below (T1.setTop (mkF m 8 #[rv a7_0, iv (1 : Int32), iv (3 : Int32)] [(.int (3 : Int32))])) _
    refine XS.aloadN X1.here hx rfl (hb hby d7_8) rfl rfl ?_
    show Steps p.tables e below (T1.setTop (mkF m 9 #[rv a7_0, iv (1 : Int32), iv (3 : Int32)] [(.ref a7_0), (.int (3 : Int32))])) _
    refine st2 _ ?_
    show Steps p.tables e below (T2.setTop (mkF m 12 #[rv a7_0, iv (1 : Int32), iv (3 : Int32)] [(.int (3 : Int32)), (.int (3 : Int32))])) _
    refine XS.aloadN X2.here hx rfl (hb hby d7_12) rfl rfl ?_
    show Steps p.tables e below (T2.setTop (mkF m 13 #[rv a7_0, iv (1 : Int32), iv (3 : Int32)] [(.ref a7_0), (.int (3 : Int32)), (.int (3 : Int32))])) _
    refine st3 _ ?_
    show Steps p.tables e below (T3.setTop (mkF m 16 #[rv a7_0, iv (1 : Int32), iv (3 : Int32)] [(.int (0 : Int32)), (.int (3 : Int32)), (.int (3 : Int32))])) _
    refine XS.iadd X3.here hx rfl (hb hby d7_16) rfl ?_
    show Steps p.tables e below (T3.setTop (mkF m 17 #[rv a7_0, iv (1 : Int32), iv (3 : Int32)] [(.int (3 : Int32)), (.int (3 : Int32))])) _
    refine XS.icmpYes X3.here hx rfl (pc0 := 17) (pc' := 38) rfl (hb hby d7_17) rfl (flt (by decide : ¬ ((3 : Int32) < (3 : Int32)))).2.1 (by decide) (by decide) ?_
    show Steps p.tables e below (T3.setTop (mkF m 38 #[rv a7_0, iv (1 : Int32), iv (3 : Int32)] [])) _
    refine XS.iloadN X3.here hx rfl (hb hby d7_38) rfl ?_
    show Steps p.tables e below (T3.setTop (mkF m 39 #[rv a7_0, iv (1 : Int32), iv (3 : Int32)] [(.int (1 : Int32))])) _
    exact retI X3 hx Bd.returns (hb hby d7_39) hr
  · show Q_rm_h3_0 Z _ _ _ _ _ _ _ h0 n0 _ T3.heap _
    rw [e3]
    exact ⟨rfl, N0, rfl⟩
theorem ef_rm_h3_1 (m : MethodId) (x0 : Addr) : entryFrame m #[(.ref x0)] 3 = mkF m 0 #[rv x0, .unset, .unset] [] := by first | (simp [entryFrame, mkF, argsToLocals, Value.category]; done) | rfl
def Q_rm_h3_1 (Z : State) (a7_0 : Addr) (ar : Addr) (x0 : Int32) (x1 : Int32) (x2 : Int32) (x3 : Int32) (x4 : Int32) (h0 : Heap) (n0 : Nat) (v : Option Value) (h : Heap) (L : List Loc) : Prop := v = some (.int ((31 : Int32) + x3)) ∧ Fr n0 L ∧ h = h0
set_option maxRecDepth 65536 in
set_option maxHeartbeats 40000000 in
theorem rm_h3_1 (l : Launch) (Z : State) (a0 : Array Value) (hw : ∀ d ∈ tables_1, d.before a0 Z = true) (ws : List Jvm.Cond) (a7_0 : Addr) (ar : Addr) (x0 : Int32) (x1 : Int32) (x2 : Int32) (x3 : Int32) (x4 : Int32) (h0 : Heap) (n0 : Nat) (Z0 : n0 ≤ h0.size) (pf_F_a7_0_array : Fld Z h0 a7_0 "com/example/tailwake/tailwake/source/mariadb/Slice" "array" "[B" (.ref ar)) (pf_F_a7_0_offset : Fld Z h0 a7_0 "com/example/tailwake/tailwake/source/mariadb/Slice" "offset" "I" (.int (3 : Int32))) (pf_F_a7_0_length : Fld Z h0 a7_0 "com/example/tailwake/tailwake/source/mariadb/Slice" "length" "I" (.int (1 : Int32))) (pf_A_ar : Av Z h0 ar .byte (5 : Int32) [(.int x0), (.int x1), (.int x2), (.int x3), (.int x4)] (.int (0 : Int32))) :
    MetFree l (⟨"com/example/tailwake/tailwake/source/mariadb/Slice", "hashCode", "()I"⟩ : MethodName) (head1 (Jvm.Cond.code (⟨"com/example/tailwake/tailwake/source/mariadb/Slice", "hashCode", "()I"⟩ : MethodName) prog_29_method_7_code 3 (some .int) :: ws) ({ frames := 0, cells := 0, slots := 0, locals := 0 } : Room)) (fun a U => a = #[(.ref a7_0)] ∧ Z.Warmed39 U.vm ∧ U.heap = h0) (fun _ _ _ _ _ => True) (fun _ U o U' => ∃ v L, o = .returned v ∧ Q_rm_h3_1 Z a7_0 ar x0 x1 x2 x3 x4 h0 n0 v U'.heap L ∧ FrameEnd U o U' L ({ frames := 0, cells := 0, slots := 0, locals := 0 } : Room).cells ({ frames := 0, cells := 0, slots := 0, locals := 0 } : Room).slots) := by
  refine MetFree.of_bodySF (plainFor_of_name pn_com_example_tailwake_tailwake_source_mariadb_Slice) hisR ?_
  intro p e s m args below meth c s₁ Bd hml0 hP hK
  obtain ⟨rfl, hZ, hh⟩ := hP
  have hx := Bd.exec
  have hby := Bd.bytes
  have hml : c.maxLocals = 3 := hml0
  have hown : s.vm.findClass "com/example/tailwake/tailwake/source/mariadb/Slice" = some m.cls := findClass_of_methodNamed Bd.named
  have hnm := (name_of_methodNamed Bd.named Bd.method).1
  have X0 : Stand p l e ({ frames := 0, cells := 0, slots := 0, locals := 0 } : Room) s m #[(.ref a7_0)] below meth c s₁ [] 0 0 := Stand.of_body Bd
  have e0 : s₁.heap = h0 := by rw [← hh, Bd.state]; rfl
  have N0 := Fr.nil n0
  have pre0 : ∀ t, Steps p.tables e below (s₁.setTop (mkF m 0 #[rv a7_0, .unset, .unset] [])) t → Steps p.tables e below (s₁.setTop (entryFrame m #[(.ref a7_0)] 3)) t := fun t k => castTop (ef_rm_h3_1 m a7_0) k
  have wo19 := hw _ (List.mem_of_getElem? (i := 19) rfl)
  have wo21 := hw _ (List.mem_of_getElem? (i := 21) rfl)
  have wo23 := hw _ (List.mem_of_getElem? (i := 23) rfl)
  obtain ⟨T1, X1, e1, st1⟩ := getF X0 hx hZ hown (host := "") (Or.inl wo21) Via.refl e0 pf_F_a7_0_offset (g := (mkF m 3 #[rv a7_0, iv (1 : Int32), .unset] [(.ref a7_0)])) rfl rfl (hb hby d7_3)
  obtain ⟨T2, X2, e2, st2⟩ := getF X1 hx hZ hown (host := "") (Or.inl wo21) Via.refl e1 pf_F_a7_0_offset (g := (mkF m 9 #[rv a7_0, iv (1 : Int32), iv (3 : Int32)] [(.ref a7_0), (.int (3 : Int32))])) rfl rfl (hb hby d7_9)
  obtain ⟨T3, X3, e3, st3⟩ := getF X2 hx hZ hown (host := "") (Or.inl wo23) Via.refl e2 pf_F_a7_0_length (g := (mkF m 13 #[rv a7_0, iv (1 : Int32), iv (3 : Int32)] [(.ref a7_0), (.int (3 : Int32)), (.int (3 : Int32))])) rfl rfl (hb hby d7_13)
  obtain ⟨T4, X4, e4, st4⟩ := getF X3 hx hZ hown (host := "") (Or.inl wo19) Via.refl e3 pf_F_a7_0_array (g := (mkF m 25 #[rv a7_0, iv (1 : Int32), iv (3 : Int32)] [(.ref a7_0), (.int (31 : Int32))])) rfl rfl (hb hby d7_25)
  obtain ⟨kk5, cl5, Ar5, qq5, Sz5, Nn5, Hs5, Gf5⟩ := id pf_A_ar
  have hin6 : ¬ ((3 : Int32) < 0 ∨ cl5.slots.size ≤ ((3 : Int32)).toNatClampNeg) := inb_of Sz5 ⟨by decide, by decide⟩
  have hat7 : cl5.slots[((3 : Int32)).toNatClampNeg]? = some (.int x3) := Has.at Hs5 hin6 rfl
  obtain ⟨T8, X8, e8, st8⟩ := getF X4 hx hZ hown (host := "") (Or.inl wo21) Via.refl e4 pf_F_a7_0_offset (g := (mkF m 9 #[rv a7_0, iv ((31 : Int32) + x3), iv (4 : Int32)] [(.ref a7_0), (.int (4 : Int32))])) rfl rfl (hb hby d7_9)
  obtain ⟨T9, X9, e9, st9⟩ := getF X8 hx hZ hown (host := "") (Or.inl wo23) Via.refl e8 pf_F_a7_0_length (g := (mkF m 13 #[rv a7_0, iv ((31 : Int32) + x3), iv (4 : Int32)] [(.ref a7_0), (.int (3 : Int32)), (.int (4 : Int32))])) rfl rfl (hb hby d7_13)
  obtain ⟨fs, hr, hrun, hended, hW, hsame⟩ := X9.leave (v := some (.int ((31 : Int32) + x3))) (fun h => by rw [Bd.returns] at h; cases h)
  refine ⟨_, _, pre0 _ ?_, hrun, hended, _, _, rfl, ?_, ⟨_, rfl⟩, hW, hsame.mono (by decide) (by decide)⟩
  · show Steps p.tables e below (s₁.setTop (mkF m 0 #[rv a7_0, .unset, .unset] [])) _
    refine XS.iconst X0.here hx rfl (hb hby d7_0) ?_
    show Steps p.tables e below (s₁.setTop (mkF m 1 #[rv a7_0, .unset, .unset] [(.int (1 : Int32))])) _
    refine XS.istoreN X0.here hx rfl (hb hby d7_1) rfl (l' := #[rv a7_0, iv (1 : Int32), .unset]) rfl ?_
    show Steps p.tables e below (s₁.setTop (mkF m 2 #[rv a7_0, iv (1 : Int32), .unset] [])) _
    refine XS.aloadN X0.here hx rfl (hb hby d7_2) rfl rfl ?_
    show Steps p.tables e below (s₁.setTop (mkF m 3 #[rv a7_0, iv (1 : Int32), .unset] [(.ref a7_0)])) _
    refine st1 _ ?_
    show Steps p.tables e below (T1.setTop (mkF m 6 #[rv a7_0, iv (1 : Int32), .unset] [(.int (3 : Int32))])) _
    refine XS.istoreN X1.here hx rfl (hb hby d7_6) rfl (l' := #[rv a7_0, iv (1 : Int32), iv (3 : Int32)]) rfl ?_
    show Steps p.tables e below (T1.setTop (mkF m 7 #[rv a7_0, iv (1 : Int32), iv (3 : Int32)] [])) _
    refine XS.iloadN X1.here hx rfl (hb hby d7_7) rfl ?_
    show Steps p.tables e below (T1.setTop (mkF m 8 #[rv a7_0, iv (1 : Int32), iv (3 : Int32)] [(.int (3 : Int32))])) _
    refine XS.aloadN X1.here hx rfl (hb hby d7_8) rfl rfl ?_
    show Steps p.tables e below (T1.setTop (mkF m 9 #[rv a7_0, iv (1 : Int32), iv (3 : Int32)] [(.ref a7_0), (.int (3 : Int32))])) _
    refine st2 _ ?_
    show Steps p.tables e below (T2.setTop (mkF m 12 #[rv a7_0, iv (1 : Int32), iv (3 : Int32)] [(.int (3 : Int32)), (.int (3 : Int32))])) _
    refine XS.aloadN X2.here hx rfl (hb hby d7_12) rfl rfl ?_
    show Steps p.tables e below (T2.setTop (mkF m 13 #[rv a7_0, iv (1 : Int32), iv (3 : Int32)] [(.ref a7_0), (.int (3 : Int32)), (.int (3 : Int32))])) _
    refine st3 _ ?_
    show Steps p.tables e below (T3.setTop (mkF m 16 #[rv a7_0, iv (1 : Int32), iv (3 : Int32)] [(.int (1 : Int32)), (.int (3 : Int32)), (.int (3 : Int32))])) _
    refine XS.iadd X3.here hx rfl (hb hby d7_16) rfl ?_
    show Steps p.tables e below (T3.setTop (mkF m 17 #[rv a7_0, iv (1 : Int32), iv (3 : Int32)] [(.int (4 : Int32)), (.int (3 : Int32))])) _
    refine XS.icmpNo X3.here hx rfl (hb hby d7_17) rfl (tlt (by decide : (3 : Int32) < (4 : Int32))).2.1 ?_
    show Steps p.tables e below (T3.setTop (mkF m 20 #[rv a7_0, iv (1 : Int32), iv (3 : Int32)] [])) _
    refine XS.bipush X3.here hx rfl (hb hby d7_20) ?_
    show Steps p.tables e below (T3.setTop (mkF m 22 #[rv a7_0, iv (1 : Int32), iv (3 : Int32)] [(.int (31 : Int32))])) _
    refine XS.iloadN X3.here hx rfl (hb hby d7_22) rfl ?_
    show Steps p.tables e below (T3.setTop (mkF m 23 #[rv a7_0, iv (1 : Int32), iv (3 : Int32)] [(.int (1 : Int32)), (.int (31 : Int32))])) _
    refine XS.imul X3.here hx rfl (hb hby d7_23) rfl ?_
    show Steps p.tables e below (T3.setTop (mkF m 24 #[rv a7_0, iv (1 : Int32), iv (3 : Int32)] [(.int (31 : Int32))])) _
    refine XS.aloadN X3.here hx rfl (hb hby d7_24) rfl rfl ?_
    show Steps p.tables e below (T3.setTop (mkF m 25 #[rv a7_0, iv (1 : Int32), iv (3 : Int32)] [(.ref a7_0), (.int (31 : Int32))])) _
    refine st4 _ ?_
    show Steps p.tables e below (T4.setTop (mkF m 28 #[rv a7_0, iv (1 : Int32), iv (3 : Int32)] [(.ref ar), (.int (31 : Int32))])) _
    refine XS.iloadN X4.here hx rfl (hb hby d7_28) rfl ?_
    show Steps p.tables e below (T4.setTop (mkF m 29 #[rv a7_0, iv (1 : Int32), iv (3 : Int32)] [(.int (3 : Int32)), (.ref ar), (.int (31 : Int32))])) _
    refine X4.baloadBytes hx (j := (3 : Int32)) (v := (.int x3)) (by rw [e4]; exact Ar5.1) (State.isArrayOf_alike hZ.alike Ar5.2.1) Ar5.2.2 hin6 hat7 (g := (mkF m 29 #[rv a7_0, iv (1 : Int32), iv (3 : Int32)] [(.int (3 : Int32)), (.ref ar), (.int (31 : Int32))])) rfl rfl (hb hby d7_29) _ ?_
    show Steps p.tables e below (T4.setTop (mkF m 30 #[rv a7_0, iv (1 : Int32), iv (3 : Int32)] [(.int x3), (.int (31 : Int32))])) _
    refine XS.iadd X4.here hx rfl (hb hby d7_30) rfl ?_
    show Steps p.tables e below (T4.setTop (mkF m 31 #[rv a7_0, iv (1 : Int32), iv (3 : Int32)] [(.int ((31 : Int32) + x3))])) _
    refine XS.istoreN X4.here hx rfl (hb hby d7_31) rfl (l' := #[rv a7_0, iv ((31 : Int32) + x3), iv (3 : Int32)]) rfl ?_
    show Steps p.tables e below (T4.setTop (mkF m 32 #[rv a7_0, iv ((31 : Int32) + x3), iv (3 : Int32)] [])) _
    refine XS.iinc X4.here hx rfl (hb hby d7_32) rfl (l' := #[rv a7_0, iv ((31 : Int32) + x3), iv (4 : Int32)]) rfl ?_
    show Steps p.tables e below (T4.setTop (mkF m 35 #[rv a7_0, iv ((31 : Int32) + x3), iv (4 : Int32)] [])) _
    refine XS.goto X4.here hx rfl (pc0 := 35) (pc' := 7) rfl (hb hby d7_35) (by decide) (by decide) ?_
    show Steps p.tables e below (T4.setTop (mkF m 7 #[rv a7_0, iv ((31 : Int32) + x3), iv (4 : Int32)] [])) _
    refine XS.iloadN X4.here hx rfl (hb hby d7_7) rfl ?_
    show Steps p.tables e below (T4.setTop (mkF m 8 #[rv a7_0, iv ((31 : Int32) + x3), iv (4 : Int32)] [(.int (4 : Int32))])) _
    refine XS.aloadN X4.here hx rfl (hb hby d7_8) rfl rfl ?_
    show Steps p.tables e below (T4.setTop (mkF m 9 #[rv a7_0, iv ((31 : Int32) + x3), iv (4 : Int32)] [(.ref a7_0), (.int (4 : Int32))])) _
    refine st8 _ ?_
    show Steps p.tables e below (T8.setTop (mkF m 12 #[rv a7_0, iv ((31 : Int32) + x3), iv (4 : Int32)] [(.int (3 : Int32)), (.int (4 : Int32))])) _
    refine XS.aloadN X8.here hx rfl (hb hby d7_12) rfl rfl ?_
    show Steps p.tables e below (T8.setTop (mkF m 13 #[rv a7_0, iv ((31 : Int32) + x3), iv (4 : Int32)] [(.ref a7_0), (.int (3 : Int32)), (.int (4 : Int32))])) _
    refine st9 _ ?_
    show Steps p.tables e below (T9.setTop (mkF m 16 #[rv a7_0, iv ((31 : Int32) + x3), iv (4 : Int32)] [(.int (1 : Int32)), (.int (3 : Int32)), (.int (4 : Int32))])) _
    refine XS.iadd X9.here hx rfl (hb hby d7_16) rfl ?_
    show Steps p.tables e below (T9.setTop (mkF m 17 #[rv a7_0, iv ((31 : Int32) + x3), iv (4 : Int32)] [(.int (4 : Int32)), (.int (4 : Int32))])) _
    refine XS.icmpYes X9.here hx rfl (pc0 := 17) (pc' := 38) rfl (hb hby d7_17) rfl (flt (by decide : ¬ ((4 : Int32) < (4 : Int32)))).2.1 (by decide) (by decide) ?_
    show Steps p.tables e below (T9.setTop (mkF m 38 #[rv a7_0, iv ((31 : Int32) + x3), iv (4 : Int32)] [])) _
    refine XS.iloadN X9.here hx rfl (hb hby d7_38) rfl ?_
    show Steps p.tables e below (T9.setTop (mkF m 39 #[rv a7_0, iv ((31 : Int32) + x3), iv (4 : Int32)] [(.int ((31 : Int32) + x3))])) _
    exact retI X9 hx Bd.returns (hb hby d7_39) hr
  · show Q_rm_h3_1 Z _ _ _ _ _ _ _ h0 n0 _ T9.heap _
    rw [e9]
    exact ⟨rfl, N0, rfl⟩
theorem ef_rm_h3_2 (m : MethodId) (x0 : Addr) : entryFrame m #[(.ref x0)] 3 = mkF m 0 #[rv x0, .unset, .unset] [] := by first | (simp [entryFrame, mkF, argsToLocals, Value.category]; done) | rfl
def Q_rm_h3_2 (Z : State) (a7_0 : Addr) (ar : Addr) (x0 : Int32) (x1 : Int32) (x2 : Int32) (x3 : Int32) (x4 : Int32) (h0 : Heap) (n0 : Nat) (v : Option Value) (h : Heap) (L : List Loc) : Prop := v = some (.int (((31 : Int32) * ((31 : Int32) + x3)) + x4)) ∧ Fr n0 L ∧ h = h0
set_option maxRecDepth 65536 in
set_option maxHeartbeats 40000000 in
theorem rm_h3_2 (l : Launch) (Z : State) (a0 : Array Value) (hw : ∀ d ∈ tables_1, d.before a0 Z = true) (ws : List Jvm.Cond) (a7_0 : Addr) (ar : Addr) (x0 : Int32) (x1 : Int32) (x2 : Int32) (x3 : Int32) (x4 : Int32) (h0 : Heap) (n0 : Nat) (Z0 : n0 ≤ h0.size) (pf_F_a7_0_array : Fld Z h0 a7_0 "com/example/tailwake/tailwake/source/mariadb/Slice" "array" "[B" (.ref ar)) (pf_F_a7_0_offset : Fld Z h0 a7_0 "com/example/tailwake/tailwake/source/mariadb/Slice" "offset" "I" (.int (3 : Int32))) (pf_F_a7_0_length : Fld Z h0 a7_0 "com/example/tailwake/tailwake/source/mariadb/Slice" "length" "I" (.int (2 : Int32))) (pf_A_ar : Av Z h0 ar .byte (5 : Int32) [(.int x0), (.int x1), (.int x2), (.int x3), (.int x4)] (.int (0 : Int32))) :
    MetFree l (⟨"com/example/tailwake/tailwake/source/mariadb/Slice", "hashCode", "()I"⟩ : MethodName) (head1 (Jvm.Cond.code (⟨"com/example/tailwake/tailwake/source/mariadb/Slice", "hashCode", "()I"⟩ : MethodName) prog_29_method_7_code 3 (some .int) :: ws) ({ frames := 0, cells := 0, slots := 0, locals := 0 } : Room)) (fun a U => a = #[(.ref a7_0)] ∧ Z.Warmed39 U.vm ∧ U.heap = h0) (fun _ _ _ _ _ => True) (fun _ U o U' => ∃ v L, o = .returned v ∧ Q_rm_h3_2 Z a7_0 ar x0 x1 x2 x3 x4 h0 n0 v U'.heap L ∧ FrameEnd U o U' L ({ frames := 0, cells := 0, slots := 0, locals := 0 } : Room).cells ({ frames := 0, cells := 0, slots := 0, locals := 0 } : Room).slots) := by
  refine MetFree.of_bodySF (plainFor_of_name pn_com_example_tailwake_tailwake_source_mariadb_Slice) hisR ?_
  intro p e s m args below meth c s₁ Bd hml0 hP hK
  obtain ⟨rfl, hZ, hh⟩ := hP
  have hx := Bd.exec
  have hby := Bd.bytes
  have hml : c.maxLocals = 3 := hml0
  have hown : s.vm.findClass "com/example/tailwake/tailwake/source/mariadb/Slice" = some m.cls := findClass_of_methodNamed Bd.named
  have hnm := (name_of_methodNamed Bd.named Bd.method).1
  have X0 : Stand p l e ({ frames := 0, cells := 0, slots := 0, locals := 0 } : Room) s m #[(.ref a7_0)] below meth c s₁ [] 0 0 := Stand.of_body Bd
  have e0 : s₁.heap = h0 := by rw [← hh, Bd.state]; rfl
  have N0 := Fr.nil n0
  have pre0 : ∀ t, Steps p.tables e below (s₁.setTop (mkF m 0 #[rv a7_0, .unset, .unset] [])) t → Steps p.tables e below (s₁.setTop (entryFrame m #[(.ref a7_0)] 3)) t := fun t k => castTop (ef_rm_h3_2 m a7_0) k
  have wo19 := hw _ (List.mem_of_getElem? (i := 19) rfl)
  have wo21 := hw _ (List.mem_of_getElem? (i := 21) rfl)
  have wo23 := hw _ (List.mem_of_getElem? (i := 23) rfl)
  obtain ⟨T1, X1, e1, st1⟩ := getF X0 hx hZ hown (host := "") (Or.inl wo21) Via.refl e0 pf_F_a7_0_offset (g := (mkF m 3 #[rv a7_0, iv (1 : Int32), .unset] [(.ref a7_0)])) rfl rfl (hb hby d7_3)
  obtain ⟨T2, X2, e2, st2⟩ := getF X1 hx hZ hown (host := "") (Or.inl wo21) Via.refl e1 pf_F_a7_0_offset (g := (mkF m 9 #[rv a7_0, iv (1 : Int32), iv (3 : Int32)] [(.ref a7_0), (.int (3 : Int32))])) rfl rfl (hb hby d7_9)
  obtain ⟨T3, X3, e3, st3⟩ := getF X2 hx hZ hown (host := "") (Or.inl wo23) Via.refl e2 pf_F_a7_0_length (g := (mkF m 13 #[rv a7_0, iv (1 : Int32), iv (3 : Int32)] [(.ref a7_0), (.int (3 : Int32)), (.int (3 : Int32))])) rfl rfl (hb hby d7_13)
  obtain ⟨T4, X4, e4, st4⟩ := getF X3 hx hZ hown (host := "") (Or.inl wo19) Via.refl e3 pf_F_a7_0_array (g := (mkF m 25 #[rv a7_0, iv (1 : Int32), iv (3 : Int32)] [(.ref a7_0), (.int (31 : Int32))])) rfl rfl (hb hby d7_25)
  obtain ⟨kk5, cl5, Ar5, qq5, Sz5, Nn5, Hs5, Gf5⟩ := id pf_A_ar
  have hin6 : ¬ ((3 : Int32) < 0 ∨ cl5.slots.size ≤ ((3 : Int32)).toNatClampNeg) := inb_of Sz5 ⟨by decide, by decide⟩
  have hat7 : cl5.slots[((3 : Int32)).toNatClampNeg]? = some (.int x3) := Has.at Hs5 hin6 rfl
  obtain ⟨T8, X8, e8, st8⟩ := getF X4 hx hZ hown (host := "") (Or.inl wo21) Via.refl e4 pf_F_a7_0_offset (g := (mkF m 9 #[rv a7_0, iv ((31 : Int32) + x3), iv (4 : Int32)] [(.ref a7_0), (.int (4 : Int32))])) rfl rfl (hb hby d7_9)
  obtain ⟨T9, X9, e9, st9⟩ := getF X8 hx hZ hown (host := "") (Or.inl wo23) Via.refl e8 pf_F_a7_0_length (g := (mkF m 13 #[rv a7_0, iv ((31 : Int32) + x3), iv (4 : Int32)] [(.ref a7_0), (.int (3 : Int32)), (.int (4 : Int32))])) rfl rfl (hb hby d7_13)
  obtain ⟨T10, X10, e10, st10⟩ := getF X9 hx hZ hown (host := "") (Or.inl wo19) Via.refl e9 pf_F_a7_0_array (g := (mkF m 25 #[rv a7_0, iv ((31 : Int32) + x3), iv (4 : Int32)] [(.ref a7_0), (.int ((31 : Int32) * ((31 : Int32) + x3)))])) rfl rfl (hb hby d7_25)
  obtain ⟨kk11, cl11, Ar11, qq11, Sz11, Nn11, Hs11, Gf11⟩ := id pf_A_ar
  have hin12 : ¬ ((4 : Int32) < 0 ∨ cl11.slots.size ≤ ((4 : Int32)).toNatClampNeg) := inb_of Sz11 ⟨by decide, by decide⟩
  have hat13 : cl11.slots[((4 : Int32)).toNatClampNeg]? = some (.int x4) := Has.at Hs11 hin12 rfl
  obtain ⟨T14, X14, e14, st14⟩ := getF X10 hx hZ hown (host := "") (Or.inl wo21) Via.refl e10 pf_F_a7_0_offset (g := (mkF m 9 #[rv a7_0, iv (((31 : Int32) * ((31 : Int32) + x3)) + x4), iv (5 : Int32)] [(.ref a7_0), (.int (5 : Int32))])) rfl rfl (hb hby d7_9)
  obtain ⟨T15, X15, e15, st15⟩ := getF X14 hx hZ hown (host := "") (Or.inl wo23) Via.refl e14 pf_F_a7_0_length (g := (mkF m 13 #[rv a7_0, iv (((31 : Int32) * ((31 : Int32) + x3)) + x4), iv (5 : Int32)] [(.ref a7_0), (.int (3 : Int32)), (.int (5 : Int32))])) rfl rfl (hb hby d7_13)
  obtain ⟨fs, hr, hrun, hended, hW, hsame⟩ := X15.leave (v := some (.int (((31 : Int32) * ((31 : Int32) + x3)) + x4))) (fun h => by rw [Bd.returns] at h; cases h)
  refine ⟨_, _, pre0 _ ?_, hrun, hended, _, _, rfl, ?_, ⟨_, rfl⟩, hW, hsame.mono (by decide) (by decide)⟩
  · show Steps p.tables e below (s₁.setTop (mkF m 0 #[rv a7_0, .unset, .unset] [])) _
    refine XS.iconst X0.here hx rfl (hb hby d7_0) ?_
    show Steps p.tables e below (s₁.setTop (mkF m 1 #[rv a7_0, .unset, .unset] [(.int (1 : Int32))])) _
    refine XS.istoreN X0.here hx rfl (hb hby d7_1) rfl (l' := #[rv a7_0, iv (1 : Int32), .unset]) rfl ?_
    show Steps p.tables e below (s₁.setTop (mkF m 2 #[rv a7_0, iv (1 : Int32), .unset] [])) _
    refine XS.aloadN X0.here hx rfl (hb hby d7_2) rfl rfl ?_
    show Steps p.tables e below (s₁.setTop (mkF m 3 #[rv a7_0, iv (1 : Int32), .unset] [(.ref a7_0)])) _
    refine st1 _ ?_
    show Steps p.tables e below (T1.setTop (mkF m 6 #[rv a7_0, iv (1 : Int32), .unset] [(.int (3 : Int32))])) _
    refine XS.istoreN X1.here hx rfl (hb hby d7_6) rfl (l' := #[rv a7_0, iv (1 : Int32), iv (3 : Int32)]) rfl ?_
    show Steps p.tables e below (T1.setTop (mkF m 7 #[rv a7_0, iv (1 : Int32), iv (3 : Int32)] [])) _
    refine XS.iloadN X1.here hx rfl (hb hby d7_7) rfl ?_
    show Steps p.tables e below (T1.setTop (mkF m 8 #[rv a7_0, iv (1 : Int32), iv (3 : Int32)] [(.int (3 : Int32))])) _
    refine XS.aloadN X1.here hx rfl (hb hby d7_8) rfl rfl ?_
    show Steps p.tables e below (T1.setTop (mkF m 9 #[rv a7_0, iv (1 : Int32), iv (3 : Int32)] [(.ref a7_0), (.int (3 : Int32))])) _
    refine st2 _ ?_
    show Steps p.tables e below (T2.setTop (mkF m 12 #[rv a7_0, iv (1 : Int32), iv (3 : Int32)] [(.int (3 : Int32)), (.int (3 : Int32))])) _
    refine XS.aloadN X2.here hx rfl (hb hby d7_12) rfl rfl ?_
    show Steps p.tables e below (T2.setTop (mkF m 13 #[rv a7_0, iv (1 : Int32), iv (3 : Int32)] [(.ref a7_0), (.int (3 : Int32)), (.int (3 : Int32))])) _
    refine st3 _ ?_
    show Steps p.tables e below (T3.setTop (mkF m 16 #[rv a7_0, iv (1 : Int32), iv (3 : Int32)] [(.int (2 : Int32)), (.int (3 : Int32)), (.int (3 : Int32))])) _
    refine XS.iadd X3.here hx rfl (hb hby d7_16) rfl ?_
    show Steps p.tables e below (T3.setTop (mkF m 17 #[rv a7_0, iv (1 : Int32), iv (3 : Int32)] [(.int (5 : Int32)), (.int (3 : Int32))])) _
    refine XS.icmpNo X3.here hx rfl (hb hby d7_17) rfl (tlt (by decide : (3 : Int32) < (5 : Int32))).2.1 ?_
    show Steps p.tables e below (T3.setTop (mkF m 20 #[rv a7_0, iv (1 : Int32), iv (3 : Int32)] [])) _
    refine XS.bipush X3.here hx rfl (hb hby d7_20) ?_
    show Steps p.tables e below (T3.setTop (mkF m 22 #[rv a7_0, iv (1 : Int32), iv (3 : Int32)] [(.int (31 : Int32))])) _
    refine XS.iloadN X3.here hx rfl (hb hby d7_22) rfl ?_
    show Steps p.tables e below (T3.setTop (mkF m 23 #[rv a7_0, iv (1 : Int32), iv (3 : Int32)] [(.int (1 : Int32)), (.int (31 : Int32))])) _
    refine XS.imul X3.here hx rfl (hb hby d7_23) rfl ?_
    show Steps p.tables e below (T3.setTop (mkF m 24 #[rv a7_0, iv (1 : Int32), iv (3 : Int32)] [(.int (31 : Int32))])) _
    refine XS.aloadN X3.here hx rfl (hb hby d7_24) rfl rfl ?_
    show Steps p.tables e below (T3.setTop (mkF m 25 #[rv a7_0, iv (1 : Int32), iv (3 : Int32)] [(.ref a7_0), (.int (31 : Int32))])) _
    refine st4 _ ?_
    show Steps p.tables e below (T4.setTop (mkF m 28 #[rv a7_0, iv (1 : Int32), iv (3 : Int32)] [(.ref ar), (.int (31 : Int32))])) _
    refine XS.iloadN X4.here hx rfl (hb hby d7_28) rfl ?_
    show Steps p.tables e below (T4.setTop (mkF m 29 #[rv a7_0, iv (1 : Int32), iv (3 : Int32)] [(.int (3 : Int32)), (.ref ar), (.int (31 : Int32))])) _
    refine X4.baloadBytes hx (j := (3 : Int32)) (v := (.int x3)) (by rw [e4]; exact Ar5.1) (State.isArrayOf_alike hZ.alike Ar5.2.1) Ar5.2.2 hin6 hat7 (g := (mkF m 29 #[rv a7_0, iv (1 : Int32), iv (3 : Int32)] [(.int (3 : Int32)), (.ref ar), (.int (31 : Int32))])) rfl rfl (hb hby d7_29) _ ?_
    show Steps p.tables e below (T4.setTop (mkF m 30 #[rv a7_0, iv (1 : Int32), iv (3 : Int32)] [(.int x3), (.int (31 : Int32))])) _
    refine XS.iadd X4.here hx rfl (hb hby d7_30) rfl ?_
    show Steps p.tables e below (T4.setTop (mkF m 31 #[rv a7_0, iv (1 : Int32), iv (3 : Int32)] [(.int ((31 : Int32) + x3))])) _
    refine XS.istoreN X4.here hx rfl (hb hby d7_31) rfl (l' := #[rv a7_0, iv ((31 : Int32) + x3), iv (3 : Int32)]) rfl ?_
    show Steps p.tables e below (T4.setTop (mkF m 32 #[rv a7_0, iv ((31 : Int32) + x3), iv (3 : Int32)] [])) _
    refine XS.iinc X4.here hx rfl (hb hby d7_32) rfl (l' := #[rv a7_0, iv ((31 : Int32) + x3), iv (4 : Int32)]) rfl ?_
    show Steps p.tables e below (T4.setTop (mkF m 35 #[rv a7_0, iv ((31 : Int32) + x3), iv (4 : Int32)] [])) _
    refine XS.goto X4.here hx rfl (pc0 := 35) (pc' := 7) rfl (hb hby d7_35) (by decide) (by decide) ?_
    show Steps p.tables e below (T4.setTop (mkF m 7 #[rv a7_0, iv ((31 : Int32) + x3), iv (4 : Int32)] [])) _
    refine XS.iloadN X4.here hx rfl (hb hby d7_7) rfl ?_
    show Steps p.tables e below (T4.setTop (mkF m 8 #[rv a7_0, iv ((31 : Int32) + x3), iv (4 : Int32)] [(.int (4 : Int32))])) _
    refine XS.aloadN X4.here hx rfl (hb hby d7_8) rfl rfl ?_
    show Steps p.tables e below (T4.setTop (mkF m 9 #[rv a7_0, iv ((31 : Int32) + x3), iv (4 : Int32)] [(.ref a7_0), (.int (4 : Int32))])) _
    refine st8 _ ?_
    show Steps p.tables e below (T8.setTop (mkF m 12 #[rv a7_0, iv ((31 : Int32) + x3), iv (4 : Int32)] [(.int (3 : Int32)), (.int (4 : Int32))])) _
    refine XS.aloadN X8.here hx rfl (hb hby d7_12) rfl rfl ?_
    show Steps p.tables e below (T8.setTop (mkF m 13 #[rv a7_0, iv ((31 : Int32) + x3), iv (4 : Int32)] [(.ref a7_0), (.int (3 : Int32)), (.int (4 : Int32))])) _
    refine st9 _ ?_
    show Steps p.tables e below (T9.setTop (mkF m 16 #[rv a7_0, iv ((31 : Int32) + x3), iv (4 : Int32)] [(.int (2 : Int32)), (.int (3 : Int32)), (.int (4 : Int32))])) _
    refine XS.iadd X9.here hx rfl (hb hby d7_16) rfl ?_
    show Steps p.tables e below (T9.setTop (mkF m 17 #[rv a7_0, iv ((31 : Int32) + x3), iv (4 : Int32)] [(.int (5 : Int32)), (.int (4 : Int32))])) _
    refine XS.icmpNo X9.here hx rfl (hb hby d7_17) rfl (tlt (by decide : (4 : Int32) < (5 : Int32))).2.1 ?_
    show Steps p.tables e below (T9.setTop (mkF m 20 #[rv a7_0, iv ((31 : Int32) + x3), iv (4 : Int32)] [])) _
    refine XS.bipush X9.here hx rfl (hb hby d7_20) ?_
    show Steps p.tables e below (T9.setTop (mkF m 22 #[rv a7_0, iv ((31 : Int32) + x3), iv (4 : Int32)] [(.int (31 : Int32))])) _
    refine XS.iloadN X9.here hx rfl (hb hby d7_22) rfl ?_
    show Steps p.tables e below (T9.setTop (mkF m 23 #[rv a7_0, iv ((31 : Int32) + x3), iv (4 : Int32)] [(.int ((31 : Int32) + x3)), (.int (31 : Int32))])) _
    refine XS.imul X9.here hx rfl (hb hby d7_23) rfl ?_
    show Steps p.tables e below (T9.setTop (mkF m 24 #[rv a7_0, iv ((31 : Int32) + x3), iv (4 : Int32)] [(.int ((31 : Int32) * ((31 : Int32) + x3)))])) _
    refine XS.aloadN X9.here hx rfl (hb hby d7_24) rfl rfl ?_
    show Steps p.tables e below (T9.setTop (mkF m 25 #[rv a7_0, iv ((31 : Int32) + x3), iv (4 : Int32)] [(.ref a7_0), (.int ((31 : Int32) * ((31 : Int32) + x3)))])) _
    refine st10 _ ?_
    show Steps p.tables e below (T10.setTop (mkF m 28 #[rv a7_0, iv ((31 : Int32) + x3), iv (4 : Int32)] [(.ref ar), (.int ((31 : Int32) * ((31 : Int32) + x3)))])) _
    refine XS.iloadN X10.here hx rfl (hb hby d7_28) rfl ?_
    show Steps p.tables e below (T10.setTop (mkF m 29 #[rv a7_0, iv ((31 : Int32) + x3), iv (4 : Int32)] [(.int (4 : Int32)), (.ref ar), (.int ((31 : Int32) * ((31 : Int32) + x3)))])) _
    refine X10.baloadBytes hx (j := (4 : Int32)) (v := (.int x4)) (by rw [e10]; exact Ar11.1) (State.isArrayOf_alike hZ.alike Ar11.2.1) Ar11.2.2 hin12 hat13 (g := (mkF m 29 #[rv a7_0, iv ((31 : Int32) + x3), iv (4 : Int32)] [(.int (4 : Int32)), (.ref ar), (.int ((31 : Int32) * ((31 : Int32) + x3)))])) rfl rfl (hb hby d7_29) _ ?_
    show Steps p.tables e below (T10.setTop (mkF m 30 #[rv a7_0, iv ((31 : Int32) + x3), iv (4 : Int32)] [(.int x4), (.int ((31 : Int32) * ((31 : Int32) + x3)))])) _
    refine XS.iadd X10.here hx rfl (hb hby d7_30) rfl ?_
    show Steps p.tables e below (T10.setTop (mkF m 31 #[rv a7_0, iv ((31 : Int32) + x3), iv (4 : Int32)] [(.int (((31 : Int32) * ((31 : Int32) + x3)) + x4))])) _
    refine XS.istoreN X10.here hx rfl (hb hby d7_31) rfl (l' := #[rv a7_0, iv (((31 : Int32) * ((31 : Int32) + x3)) + x4), iv (4 : Int32)]) rfl ?_
    show Steps p.tables e below (T10.setTop (mkF m 32 #[rv a7_0, iv (((31 : Int32) * ((31 : Int32) + x3)) + x4), iv (4 : Int32)] [])) _
    refine XS.iinc X10.here hx rfl (hb hby d7_32) rfl (l' := #[rv a7_0, iv (((31 : Int32) * ((31 : Int32) + x3)) + x4), iv (5 : Int32)]) rfl ?_
    show Steps p.tables e below (T10.setTop (mkF m 35 #[rv a7_0, iv (((31 : Int32) * ((31 : Int32) + x3)) + x4), iv (5 : Int32)] [])) _
    refine XS.goto X10.here hx rfl (pc0 := 35) (pc' := 7) rfl (hb hby d7_35) (by decide) (by decide) ?_
    show Steps p.tables e below (T10.setTop (mkF m 7 #[rv a7_0, iv (((31 : Int32) * ((31 : Int32) + x3)) + x4), iv (5 : Int32)] [])) _
    refine XS.iloadN X10.here hx rfl (hb hby d7_7) rfl ?_
    show Steps p.tables e below (T10.setTop (mkF m 8 #[rv a7_0, iv (((31 : Int32) * ((31 : Int32) + x3)) + x4), iv (5 : Int32)] [(.int (5 : Int32))])) _
    refine XS.aloadN X10.here hx rfl (hb hby d7_8) rfl rfl ?_
    show Steps p.tables e below (T10.setTop (mkF m 9 #[rv a7_0, iv (((31 : Int32) * ((31 : Int32) + x3)) + x4), iv (5 : Int32)] [(.ref a7_0), (.int (5 : Int32))])) _
    refine st14 _ ?_
    show Steps p.tables e below (T14.setTop (mkF m 12 #[rv a7_0, iv (((31 : Int32) * ((31 : Int32) + x3)) + x4), iv (5 : Int32)] [(.int (3 : Int32)), (.int (5 : Int32))])) _
    refine XS.aloadN X14.here hx rfl (hb hby d7_12) rfl rfl ?_
    show Steps p.tables e below (T14.setTop (mkF m 13 #[rv a7_0, iv (((31 : Int32) * ((31 : Int32) + x3)) + x4), iv (5 : Int32)] [(.ref a7_0), (.int (3 : Int32)), (.int (5 : Int32))])) _
    refine st15 _ ?_
    show Steps p.tables e below (T15.setTop (mkF m 16 #[rv a7_0, iv (((31 : Int32) * ((31 : Int32) + x3)) + x4), iv (5 : Int32)] [(.int (2 : Int32)), (.int (3 : Int32)), (.int (5 : Int32))])) _
    refine XS.iadd X15.here hx rfl (hb hby d7_16) rfl ?_
    show Steps p.tables e below (T15.setTop (mkF m 17 #[rv a7_0, iv (((31 : Int32) * ((31 : Int32) + x3)) + x4), iv (5 : Int32)] [(.int (5 : Int32)), (.int (5 : Int32))])) _
    refine XS.icmpYes X15.here hx rfl (pc0 := 17) (pc' := 38) rfl (hb hby d7_17) rfl (flt (by decide : ¬ ((5 : Int32) < (5 : Int32)))).2.1 (by decide) (by decide) ?_
    show Steps p.tables e below (T15.setTop (mkF m 38 #[rv a7_0, iv (((31 : Int32) * ((31 : Int32) + x3)) + x4), iv (5 : Int32)] [])) _
    refine XS.iloadN X15.here hx rfl (hb hby d7_38) rfl ?_
    show Steps p.tables e below (T15.setTop (mkF m 39 #[rv a7_0, iv (((31 : Int32) * ((31 : Int32) + x3)) + x4), iv (5 : Int32)] [(.int (((31 : Int32) * ((31 : Int32) + x3)) + x4))])) _
    exact retI X15 hx Bd.returns (hb hby d7_39) hr
  · show Q_rm_h3_2 Z _ _ _ _ _ _ _ h0 n0 _ T15.heap _
    rw [e15]
    exact ⟨rfl, N0, rfl⟩
theorem ef_rm_h4_0 (m : MethodId) (x0 : Addr) : entryFrame m #[(.ref x0)] 3 = mkF m 0 #[rv x0, .unset, .unset] [] := by first | (simp [entryFrame, mkF, argsToLocals, Value.category]; done) | rfl
def Q_rm_h4_0 (Z : State) (a7_0 : Addr) (ar : Addr) (x0 : Int32) (x1 : Int32) (x2 : Int32) (x3 : Int32) (x4 : Int32) (h0 : Heap) (n0 : Nat) (v : Option Value) (h : Heap) (L : List Loc) : Prop := v = some (.int (1 : Int32)) ∧ Fr n0 L ∧ h = h0
set_option maxRecDepth 65536 in
set_option maxHeartbeats 40000000 in
theorem rm_h4_0 (l : Launch) (Z : State) (a0 : Array Value) (hw : ∀ d ∈ tables_1, d.before a0 Z = true) (ws : List Jvm.Cond) (a7_0 : Addr) (ar : Addr) (x0 : Int32) (x1 : Int32) (x2 : Int32) (x3 : Int32) (x4 : Int32) (h0 : Heap) (n0 : Nat) (Z0 : n0 ≤ h0.size) (pf_F_a7_0_array : Fld Z h0 a7_0 "com/example/tailwake/tailwake/source/mariadb/Slice" "array" "[B" (.ref ar)) (pf_F_a7_0_offset : Fld Z h0 a7_0 "com/example/tailwake/tailwake/source/mariadb/Slice" "offset" "I" (.int (4 : Int32))) (pf_F_a7_0_length : Fld Z h0 a7_0 "com/example/tailwake/tailwake/source/mariadb/Slice" "length" "I" (.int (0 : Int32))) (pf_A_ar : Av Z h0 ar .byte (5 : Int32) [(.int x0), (.int x1), (.int x2), (.int x3), (.int x4)] (.int (0 : Int32))) :
    MetFree l (⟨"com/example/tailwake/tailwake/source/mariadb/Slice", "hashCode", "()I"⟩ : MethodName) (head1 (Jvm.Cond.code (⟨"com/example/tailwake/tailwake/source/mariadb/Slice", "hashCode", "()I"⟩ : MethodName) prog_29_method_7_code 3 (some .int) :: ws) ({ frames := 0, cells := 0, slots := 0, locals := 0 } : Room)) (fun a U => a = #[(.ref a7_0)] ∧ Z.Warmed39 U.vm ∧ U.heap = h0) (fun _ _ _ _ _ => True) (fun _ U o U' => ∃ v L, o = .returned v ∧ Q_rm_h4_0 Z a7_0 ar x0 x1 x2 x3 x4 h0 n0 v U'.heap L ∧ FrameEnd U o U' L ({ frames := 0, cells := 0, slots := 0, locals := 0 } : Room).cells ({ frames := 0, cells := 0, slots := 0, locals := 0 } : Room).slots) := by
  refine MetFree.of_bodySF (plainFor_of_name pn_com_example_tailwake_tailwake_source_mariadb_Slice) hisR ?_
  intro p e s m args below meth c s₁ Bd hml0 hP hK
  obtain ⟨rfl, hZ, hh⟩ := hP
  have hx := Bd.exec
  have hby := Bd.bytes
  have hml : c.maxLocals = 3 := hml0
  have hown : s.vm.findClass "com/example/tailwake/tailwake/source/mariadb/Slice" = some m.cls := findClass_of_methodNamed Bd.named
  have hnm := (name_of_methodNamed Bd.named Bd.method).1
  have X0 : Stand p l e ({ frames := 0, cells := 0, slots := 0, locals := 0 } : Room) s m #[(.ref a7_0)] below meth c s₁ [] 0 0 := Stand.of_body Bd
  have e0 : s₁.heap = h0 := by rw [← hh, Bd.state]; rfl
  have N0 := Fr.nil n0
  have pre0 : ∀ t, Steps p.tables e below (s₁.setTop (mkF m 0 #[rv a7_0, .unset, .unset] [])) t → Steps p.tables e below (s₁.setTop (entryFrame m #[(.ref a7_0)] 3)) t := fun t k => castTop (ef_rm_h4_0 m a7_0) k
  have wo21 := hw _ (List.mem_of_getElem? (i := 21) rfl)
  have wo23 := hw _ (List.mem_of_getElem? (i := 23) rfl)
  obtain ⟨T1, X1, e1, st1⟩ := getF X0 hx hZ hown (host := "") (Or.inl wo21) Via.refl e0 pf_F_a7_0_offset (g := (mkF m 3 #[rv a7_0, iv (1 : Int32), .unset] [(.ref a7_0)])) rfl rfl (hb hby d7_3)
  obtain ⟨T2, X2, e2, st2⟩ := getF X1 hx hZ hown (host := "") (Or.inl wo21) Via.refl e1 pf_F_a7_0_offset (g := (mkF m 9 #[rv a7_0, iv (1 : Int32), iv (4 : Int32)] [(.ref a7_0), (.int (4 : Int32))])) rfl rfl (hb hby d7_9)
  obtain ⟨T3, X3, e3, st3⟩ := getF X2 hx hZ hown (host := "") (Or.inl wo23) Via.refl e2 pf_F_a7_0_length (g := (mkF m 13 #[rv a7_0, iv (1 : Int32), iv (4 : Int32)] [(.ref a7_0), (.int (4 : Int32)), (.int (4 : Int32))])) rfl rfl (hb hby d7_13)
  obtain ⟨fs, hr, hrun, hended, hW, hsame⟩ := X3.leave (v := some (.int (1 : Int32))) (fun h => by rw [Bd.returns] at h; cases h)
  refine ⟨_, _, pre0 _ ?_, hrun, hended, _, _, rfl, ?_, ⟨_, rfl⟩, hW, hsame.mono (by decide) (by decide)⟩
  · show Steps p.tables e below (s₁.setTop (mkF m 0 #[rv a7_0, .unset, .unset] [])) _
    refine XS.iconst X0.here hx rfl (hb hby d7_0) ?_
    show Steps p.tables e below (s₁.setTop (mkF m 1 #[rv a7_0, .unset, .unset] [(.int (1 : Int32))])) _
    refine XS.istoreN X0.here hx rfl (hb hby d7_1) rfl (l' := #[rv a7_0, iv (1 : Int32), .unset]) rfl ?_
    show Steps p.tables e below (s₁.setTop (mkF m 2 #[rv a7_0, iv (1 : Int32), .unset] [])) _
    refine XS.aloadN X0.here hx rfl (hb hby d7_2) rfl rfl ?_
    show Steps p.tables e below (s₁.setTop (mkF m 3 #[rv a7_0, iv (1 : Int32), .unset] [(.ref a7_0)])) _
    refine st1 _ ?_
    show Steps p.tables e below (T1.setTop (mkF m 6 #[rv a7_0, iv (1 : Int32), .unset] [(.int (4 : Int32))])) _
    refine XS.istoreN X1.here hx rfl (hb hby d7_6) rfl (l' := #[rv a7_0, iv (1 : Int32), iv (4 : Int32)]) rfl ?_
    show Steps p.tables e below (T1.setTop (mkF m 7 #[rv a7_0, iv (1 : Int32), iv (4 : Int32)] [])) _
    refine XS.iloadN X1.here hx rfl (hb hby d7_7) rfl ?_
    show Steps p.tables e below (T1.setTop (mkF m 8 #[rv a7_0, iv (1 : Int32), iv (4 : Int32)] [(.int (4 : Int32))])) _
    refine XS.aloadN X1.here hx rfl (hb hby d7_8) rfl rfl ?_
    show Steps p.tables e below (T1.setTop (mkF m 9 #[rv a7_0, iv (1 : Int32), iv (4 : Int32)] [(.ref a7_0), (.int (4 : Int32))])) _
    refine st2 _ ?_
    show Steps p.tables e below (T2.setTop (mkF m 12 #[rv a7_0, iv (1 : Int32), iv (4 : Int32)] [(.int (4 : Int32)), (.int (4 : Int32))])) _
    refine XS.aloadN X2.here hx rfl (hb hby d7_12) rfl rfl ?_
    show Steps p.tables e below (T2.setTop (mkF m 13 #[rv a7_0, iv (1 : Int32), iv (4 : Int32)] [(.ref a7_0), (.int (4 : Int32)), (.int (4 : Int32))])) _
    refine st3 _ ?_
    show Steps p.tables e below (T3.setTop (mkF m 16 #[rv a7_0, iv (1 : Int32), iv (4 : Int32)] [(.int (0 : Int32)), (.int (4 : Int32)), (.int (4 : Int32))])) _
    refine XS.iadd X3.here hx rfl (hb hby d7_16) rfl ?_
    show Steps p.tables e below (T3.setTop (mkF m 17 #[rv a7_0, iv (1 : Int32), iv (4 : Int32)] [(.int (4 : Int32)), (.int (4 : Int32))])) _
    refine XS.icmpYes X3.here hx rfl (pc0 := 17) (pc' := 38) rfl (hb hby d7_17) rfl (flt (by decide : ¬ ((4 : Int32) < (4 : Int32)))).2.1 (by decide) (by decide) ?_
    show Steps p.tables e below (T3.setTop (mkF m 38 #[rv a7_0, iv (1 : Int32), iv (4 : Int32)] [])) _
    refine XS.iloadN X3.here hx rfl (hb hby d7_38) rfl ?_
    show Steps p.tables e below (T3.setTop (mkF m 39 #[rv a7_0, iv (1 : Int32), iv (4 : Int32)] [(.int (1 : Int32))])) _
    exact retI X3 hx Bd.returns (hb hby d7_39) hr
  · show Q_rm_h4_0 Z _ _ _ _ _ _ _ h0 n0 _ T3.heap _
    rw [e3]
    exact ⟨rfl, N0, rfl⟩
theorem ef_rm_h4_1 (m : MethodId) (x0 : Addr) : entryFrame m #[(.ref x0)] 3 = mkF m 0 #[rv x0, .unset, .unset] [] := by first | (simp [entryFrame, mkF, argsToLocals, Value.category]; done) | rfl
def Q_rm_h4_1 (Z : State) (a7_0 : Addr) (ar : Addr) (x0 : Int32) (x1 : Int32) (x2 : Int32) (x3 : Int32) (x4 : Int32) (h0 : Heap) (n0 : Nat) (v : Option Value) (h : Heap) (L : List Loc) : Prop := v = some (.int ((31 : Int32) + x4)) ∧ Fr n0 L ∧ h = h0
set_option maxRecDepth 65536 in
set_option maxHeartbeats 40000000 in
theorem rm_h4_1 (l : Launch) (Z : State) (a0 : Array Value) (hw : ∀ d ∈ tables_1, d.before a0 Z = true) (ws : List Jvm.Cond) (a7_0 : Addr) (ar : Addr) (x0 : Int32) (x1 : Int32) (x2 : Int32) (x3 : Int32) (x4 : Int32) (h0 : Heap) (n0 : Nat) (Z0 : n0 ≤ h0.size) (pf_F_a7_0_array : Fld Z h0 a7_0 "com/example/tailwake/tailwake/source/mariadb/Slice" "array" "[B" (.ref ar)) (pf_F_a7_0_offset : Fld Z h0 a7_0 "com/example/tailwake/tailwake/source/mariadb/Slice" "offset" "I" (.int (4 : Int32))) (pf_F_a7_0_length : Fld Z h0 a7_0 "com/example/tailwake/tailwake/source/mariadb/Slice" "length" "I" (.int (1 : Int32))) (pf_A_ar : Av Z h0 ar .byte (5 : Int32) [(.int x0), (.int x1), (.int x2), (.int x3), (.int x4)] (.int (0 : Int32))) :
    MetFree l (⟨"com/example/tailwake/tailwake/source/mariadb/Slice", "hashCode", "()I"⟩ : MethodName) (head1 (Jvm.Cond.code (⟨"com/example/tailwake/tailwake/source/mariadb/Slice", "hashCode", "()I"⟩ : MethodName) prog_29_method_7_code 3 (some .int) :: ws) ({ frames := 0, cells := 0, slots := 0, locals := 0 } : Room)) (fun a U => a = #[(.ref a7_0)] ∧ Z.Warmed39 U.vm ∧ U.heap = h0) (fun _ _ _ _ _ => True) (fun _ U o U' => ∃ v L, o = .returned v ∧ Q_rm_h4_1 Z a7_0 ar x0 x1 x2 x3 x4 h0 n0 v U'.heap L ∧ FrameEnd U o U' L ({ frames := 0, cells := 0, slots := 0, locals := 0 } : Room).cells ({ frames := 0, cells := 0, slots := 0, locals := 0 } : Room).slots) := by
  refine MetFree.of_bodySF (plainFor_of_name pn_com_example_tailwake_tailwake_source_mariadb_Slice) hisR ?_
  intro p e s m args below meth c s₁ Bd hml0 hP hK
  obtain ⟨rfl, hZ, hh⟩ := hP
  have hx := Bd.exec
  have hby := Bd.bytes
  have hml : c.maxLocals = 3 := hml0
  have hown : s.vm.findClass "com/example/tailwake/tailwake/source/mariadb/Slice" = some m.cls := findClass_of_methodNamed Bd.named
  have hnm := (name_of_methodNamed Bd.named Bd.method).1
  have X0 : Stand p l e ({ frames := 0, cells := 0, slots := 0, locals := 0 } : Room) s m #[(.ref a7_0)] below meth c s₁ [] 0 0 := Stand.of_body Bd
  have e0 : s₁.heap = h0 := by rw [← hh, Bd.state]; rfl
  have N0 := Fr.nil n0
  have pre0 : ∀ t, Steps p.tables e below (s₁.setTop (mkF m 0 #[rv a7_0, .unset, .unset] [])) t → Steps p.tables e below (s₁.setTop (entryFrame m #[(.ref a7_0)] 3)) t := fun t k => castTop (ef_rm_h4_1 m a7_0) k
  have wo19 := hw _ (List.mem_of_getElem? (i := 19) rfl)
  have wo21 := hw _ (List.mem_of_getElem? (i := 21) rfl)
  have wo23 := hw _ (List.mem_of_getElem? (i := 23) rfl)
  obtain ⟨T1, X1, e1, st1⟩ := getF X0 hx hZ hown (host := "") (Or.inl wo21) Via.refl e0 pf_F_a7_0_offset (g := (mkF m 3 #[rv a7_0, iv (1 : Int32), .unset] [(.ref a7_0)])) rfl rfl (hb hby d7_3)
  obtain ⟨T2, X2, e2, st2⟩ := getF X1 hx hZ hown (host := "") (Or.inl wo21) Via.refl e1 pf_F_a7_0_offset (g := (mkF m 9 #[rv a7_0, iv (1 : Int32), iv (4 : Int32)] [(.ref a7_0), (.int (4 : Int32))])) rfl rfl (hb hby d7_9)
  obtain ⟨T3, X3, e3, st3⟩ := getF X2 hx hZ hown (host := "") (Or.inl wo23) Via.refl e2 pf_F_a7_0_length (g := (mkF m 13 #[rv a7_0, iv (1 : Int32), iv (4 : Int32)] [(.ref a7_0), (.int (4 : Int32)), (.int (4 : Int32))])) rfl rfl (hb hby d7_13)
  obtain ⟨T4, X4, e4, st4⟩ := getF X3 hx hZ hown (host := "") (Or.inl wo19) Via.refl e3 pf_F_a7_0_array (g := (mkF m 25 #[rv a7_0, iv (1 : Int32), iv (4 : Int32)] [(.ref a7_0), (.int (31 : Int32))])) rfl rfl (hb hby d7_25)
  obtain ⟨kk5, cl5, Ar5, qq5, Sz5, Nn5, Hs5, Gf5⟩ := id pf_A_ar
  have hin6 : ¬ ((4 : Int32) < 0 ∨ cl5.slots.size ≤ ((4 : Int32)).toNatClampNeg) := inb_of Sz5 ⟨by decide, by decide⟩
  have hat7 : cl5.slots[((4 : Int32)).toNatClampNeg]? = some (.int x4) := Has.at Hs5 hin6 rfl
  obtain ⟨T8, X8, e8, st8⟩ := getF X4 hx hZ hown (host := "") (Or.inl wo21) Via.refl e4 pf_F_a7_0_offset (g := (mkF m 9 #[rv a7_0, iv ((31 : Int32) + x4), iv (5 : Int32)] [(.ref a7_0), (.int (5 : Int32))])) rfl rfl (hb hby d7_9)
  obtain ⟨T9, X9, e9, st9⟩ := getF X8 hx hZ hown (host := "") (Or.inl wo23) Via.refl e8 pf_F_a7_0_length (g := (mkF m 13 #[rv a7_0, iv ((31 : Int32) + x4), iv (5 : Int32)] [(.ref a7_0), (.int (4 : Int32)), (.int (5 : Int32))])) rfl rfl (hb hby d7_13)
  obtain ⟨fs, hr, hrun, hended, hW, hsame⟩ := X9.leave (v := some (.int ((31 : Int32) + x4))) (fun h => by rw [Bd.returns] at h; cases h)
  refine ⟨_, _, pre0 _ ?_, hrun, hended, _, _, rfl, ?_, ⟨_, rfl⟩, hW, hsame.mono (by decide) (by decide)⟩
  · show Steps p.tables e below (s₁.setTop (mkF m 0 #[rv a7_0, .unset, .unset] [])) _
    refine XS.iconst X0.here hx rfl (hb hby d7_0) ?_
    show Steps p.tables e below (s₁.setTop (mkF m 1 #[rv a7_0, .unset, .unset] [(.int (1 : Int32))])) _
    refine XS.istoreN X0.here hx rfl (hb hby d7_1) rfl (l' := #[rv a7_0, iv (1 : Int32), .unset]) rfl ?_
    show Steps p.tables e below (s₁.setTop (mkF m 2 #[rv a7_0, iv (1 : Int32), .unset] [])) _
    refine XS.aloadN X0.here hx rfl (hb hby d7_2) rfl rfl ?_
    show Steps p.tables e below (s₁.setTop (mkF m 3 #[rv a7_0, iv (1 : Int32), .unset] [(.ref a7_0)])) _
    refine st1 _ ?_
    show Steps p.tables e below (T1.setTop (mkF m 6 #[rv a7_0, iv (1 : Int32), .unset] [(.int (4 : Int32))])) _
    refine XS.istoreN X1.here hx rfl (hb hby d7_6) rfl (l' := #[rv a7_0, iv (1 : Int32), iv (4 : Int32)]) rfl ?_
    show Steps p.tables e below (T1.setTop (mkF m 7 #[rv a7_0, iv (1 : Int32), iv (4 : Int32)] [])) _
    refine XS.iloadN X1.here hx rfl (hb hby d7_7) rfl ?_
    show Steps p.tables e below (T1.setTop (mkF m 8 #[rv a7_0, iv (1 : Int32), iv (4 : Int32)] [(.int (4 : Int32))])) _
    refine XS.aloadN X1.here hx rfl (hb hby d7_8) rfl rfl ?_
    show Steps p.tables e below (T1.setTop (mkF m 9 #[rv a7_0, iv (1 : Int32), iv (4 : Int32)] [(.ref a7_0), (.int (4 : Int32))])) _
    refine st2 _ ?_
    show Steps p.tables e below (T2.setTop (mkF m 12 #[rv a7_0, iv (1 : Int32), iv (4 : Int32)] [(.int (4 : Int32)), (.int (4 : Int32))])) _
    refine XS.aloadN X2.here hx rfl (hb hby d7_12) rfl rfl ?_
    show Steps p.tables e below (T2.setTop (mkF m 13 #[rv a7_0, iv (1 : Int32), iv (4 : Int32)] [(.ref a7_0), (.int (4 : Int32)), (.int (4 : Int32))])) _
    refine st3 _ ?_
    show Steps p.tables e below (T3.setTop (mkF m 16 #[rv a7_0, iv (1 : Int32), iv (4 : Int32)] [(.int (1 : Int32)), (.int (4 : Int32)), (.int (4 : Int32))])) _
    refine XS.iadd X3.here hx rfl (hb hby d7_16) rfl ?_
    show Steps p.tables e below (T3.setTop (mkF m 17 #[rv a7_0, iv (1 : Int32), iv (4 : Int32)] [(.int (5 : Int32)), (.int (4 : Int32))])) _
    refine XS.icmpNo X3.here hx rfl (hb hby d7_17) rfl (tlt (by decide : (4 : Int32) < (5 : Int32))).2.1 ?_
    show Steps p.tables e below (T3.setTop (mkF m 20 #[rv a7_0, iv (1 : Int32), iv (4 : Int32)] [])) _
    refine XS.bipush X3.here hx rfl (hb hby d7_20) ?_
    show Steps p.tables e below (T3.setTop (mkF m 22 #[rv a7_0, iv (1 : Int32), iv (4 : Int32)] [(.int (31 : Int32))])) _
    refine XS.iloadN X3.here hx rfl (hb hby d7_22) rfl ?_
    show Steps p.tables e below (T3.setTop (mkF m 23 #[rv a7_0, iv (1 : Int32), iv (4 : Int32)] [(.int (1 : Int32)), (.int (31 : Int32))])) _
    refine XS.imul X3.here hx rfl (hb hby d7_23) rfl ?_
    show Steps p.tables e below (T3.setTop (mkF m 24 #[rv a7_0, iv (1 : Int32), iv (4 : Int32)] [(.int (31 : Int32))])) _
    refine XS.aloadN X3.here hx rfl (hb hby d7_24) rfl rfl ?_
    show Steps p.tables e below (T3.setTop (mkF m 25 #[rv a7_0, iv (1 : Int32), iv (4 : Int32)] [(.ref a7_0), (.int (31 : Int32))])) _
    refine st4 _ ?_
    show Steps p.tables e below (T4.setTop (mkF m 28 #[rv a7_0, iv (1 : Int32), iv (4 : Int32)] [(.ref ar), (.int (31 : Int32))])) _
    refine XS.iloadN X4.here hx rfl (hb hby d7_28) rfl ?_
    show Steps p.tables e below (T4.setTop (mkF m 29 #[rv a7_0, iv (1 : Int32), iv (4 : Int32)] [(.int (4 : Int32)), (.ref ar), (.int (31 : Int32))])) _
    refine X4.baloadBytes hx (j := (4 : Int32)) (v := (.int x4)) (by rw [e4]; exact Ar5.1) (State.isArrayOf_alike hZ.alike Ar5.2.1) Ar5.2.2 hin6 hat7 (g := (mkF m 29 #[rv a7_0, iv (1 : Int32), iv (4 : Int32)] [(.int (4 : Int32)), (.ref ar), (.int (31 : Int32))])) rfl rfl (hb hby d7_29) _ ?_
    show Steps p.tables e below (T4.setTop (mkF m 30 #[rv a7_0, iv (1 : Int32), iv (4 : Int32)] [(.int x4), (.int (31 : Int32))])) _
    refine XS.iadd X4.here hx rfl (hb hby d7_30) rfl ?_
    show Steps p.tables e below (T4.setTop (mkF m 31 #[rv a7_0, iv (1 : Int32), iv (4 : Int32)] [(.int ((31 : Int32) + x4))])) _
    refine XS.istoreN X4.here hx rfl (hb hby d7_31) rfl (l' := #[rv a7_0, iv ((31 : Int32) + x4), iv (4 : Int32)]) rfl ?_
    show Steps p.tables e below (T4.setTop (mkF m 32 #[rv a7_0, iv ((31 : Int32) + x4), iv (4 : Int32)] [])) _
    refine XS.iinc X4.here hx rfl (hb hby d7_32) rfl (l' := #[rv a7_0, iv ((31 : Int32) + x4), iv (5 : Int32)]) rfl ?_
    show Steps p.tables e below (T4.setTop (mkF m 35 #[rv a7_0, iv ((31 : Int32) + x4), iv (5 : Int32)] [])) _
    refine XS.goto X4.here hx rfl (pc0 := 35) (pc' := 7) rfl (hb hby d7_35) (by decide) (by decide) ?_
    show Steps p.tables e below (T4.setTop (mkF m 7 #[rv a7_0, iv ((31 : Int32) + x4), iv (5 : Int32)] [])) _
    refine XS.iloadN X4.here hx rfl (hb hby d7_7) rfl ?_
    show Steps p.tables e below (T4.setTop (mkF m 8 #[rv a7_0, iv ((31 : Int32) + x4), iv (5 : Int32)] [(.int (5 : Int32))])) _
    refine XS.aloadN X4.here hx rfl (hb hby d7_8) rfl rfl ?_
    show Steps p.tables e below (T4.setTop (mkF m 9 #[rv a7_0, iv ((31 : Int32) + x4), iv (5 : Int32)] [(.ref a7_0), (.int (5 : Int32))])) _
    refine st8 _ ?_
    show Steps p.tables e below (T8.setTop (mkF m 12 #[rv a7_0, iv ((31 : Int32) + x4), iv (5 : Int32)] [(.int (4 : Int32)), (.int (5 : Int32))])) _
    refine XS.aloadN X8.here hx rfl (hb hby d7_12) rfl rfl ?_
    show Steps p.tables e below (T8.setTop (mkF m 13 #[rv a7_0, iv ((31 : Int32) + x4), iv (5 : Int32)] [(.ref a7_0), (.int (4 : Int32)), (.int (5 : Int32))])) _
    refine st9 _ ?_
    show Steps p.tables e below (T9.setTop (mkF m 16 #[rv a7_0, iv ((31 : Int32) + x4), iv (5 : Int32)] [(.int (1 : Int32)), (.int (4 : Int32)), (.int (5 : Int32))])) _
    refine XS.iadd X9.here hx rfl (hb hby d7_16) rfl ?_
    show Steps p.tables e below (T9.setTop (mkF m 17 #[rv a7_0, iv ((31 : Int32) + x4), iv (5 : Int32)] [(.int (5 : Int32)), (.int (5 : Int32))])) _
    refine XS.icmpYes X9.here hx rfl (pc0 := 17) (pc' := 38) rfl (hb hby d7_17) rfl (flt (by decide : ¬ ((5 : Int32) < (5 : Int32)))).2.1 (by decide) (by decide) ?_
    show Steps p.tables e below (T9.setTop (mkF m 38 #[rv a7_0, iv ((31 : Int32) + x4), iv (5 : Int32)] [])) _
    refine XS.iloadN X9.here hx rfl (hb hby d7_38) rfl ?_
    show Steps p.tables e below (T9.setTop (mkF m 39 #[rv a7_0, iv ((31 : Int32) + x4), iv (5 : Int32)] [(.int ((31 : Int32) + x4))])) _
    exact retI X9 hx Bd.returns (hb hby d7_39) hr
  · show Q_rm_h4_1 Z _ _ _ _ _ _ _ h0 n0 _ T9.heap _
    rw [e9]
    exact ⟨rfl, N0, rfl⟩
theorem ef_rm_h5_0 (m : MethodId) (x0 : Addr) : entryFrame m #[(.ref x0)] 3 = mkF m 0 #[rv x0, .unset, .unset] [] := by first | (simp [entryFrame, mkF, argsToLocals, Value.category]; done) | rfl
def Q_rm_h5_0 (Z : State) (a7_0 : Addr) (ar : Addr) (x0 : Int32) (x1 : Int32) (x2 : Int32) (x3 : Int32) (x4 : Int32) (h0 : Heap) (n0 : Nat) (v : Option Value) (h : Heap) (L : List Loc) : Prop := v = some (.int (1 : Int32)) ∧ Fr n0 L ∧ h = h0
set_option maxRecDepth 65536 in
set_option maxHeartbeats 40000000 in
theorem rm_h5_0 (l : Launch) (Z : State) (a0 : Array Value) (hw : ∀ d ∈ tables_1, d.before a0 Z = true) (ws : List Jvm.Cond) (a7_0 : Addr) (ar : Addr) (x0 : Int32) (x1 : Int32) (x2 : Int32) (x3 : Int32) (x4 : Int32) (h0 : Heap) (n0 : Nat) (Z0 : n0 ≤ h0.size) (pf_F_a7_0_array : Fld Z h0 a7_0 "com/example/tailwake/tailwake/source/mariadb/Slice" "array" "[B" (.ref ar)) (pf_F_a7_0_offset : Fld Z h0 a7_0 "com/example/tailwake/tailwake/source/mariadb/Slice" "offset" "I" (.int (5 : Int32))) (pf_F_a7_0_length : Fld Z h0 a7_0 "com/example/tailwake/tailwake/source/mariadb/Slice" "length" "I" (.int (0 : Int32))) (pf_A_ar : Av Z h0 ar .byte (5 : Int32) [(.int x0), (.int x1), (.int x2), (.int x3), (.int x4)] (.int (0 : Int32))) :
    MetFree l (⟨"com/example/tailwake/tailwake/source/mariadb/Slice", "hashCode", "()I"⟩ : MethodName) (head1 (Jvm.Cond.code (⟨"com/example/tailwake/tailwake/source/mariadb/Slice", "hashCode", "()I"⟩ : MethodName) prog_29_method_7_code 3 (some .int) :: ws) ({ frames := 0, cells := 0, slots := 0, locals := 0 } : Room)) (fun a U => a = #[(.ref a7_0)] ∧ Z.Warmed39 U.vm ∧ U.heap = h0) (fun _ _ _ _ _ => True) (fun _ U o U' => ∃ v L, o = .returned v ∧ Q_rm_h5_0 Z a7_0 ar x0 x1 x2 x3 x4 h0 n0 v U'.heap L ∧ FrameEnd U o U' L ({ frames := 0, cells := 0, slots := 0, locals := 0 } : Room).cells ({ frames := 0, cells := 0, slots := 0, locals := 0 } : Room).slots) := by
  refine MetFree.of_bodySF (plainFor_of_name pn_com_example_tailwake_tailwake_source_mariadb_Slice) hisR ?_
  intro p e s m args below meth c s₁ Bd hml0 hP hK
  obtain ⟨rfl, hZ, hh⟩ := hP
  have hx := Bd.exec
  have hby := Bd.bytes
  have hml : c.maxLocals = 3 := hml0
  have hown : s.vm.findClass "com/example/tailwake/tailwake/source/mariadb/Slice" = some m.cls := findClass_of_methodNamed Bd.named
  have hnm := (name_of_methodNamed Bd.named Bd.method).1
  have X0 : Stand p l e ({ frames := 0, cells := 0, slots := 0, locals := 0 } : Room) s m #[(.ref a7_0)] below meth c s₁ [] 0 0 := Stand.of_body Bd
  have e0 : s₁.heap = h0 := by rw [← hh, Bd.state]; rfl
  have N0 := Fr.nil n0
  have pre0 : ∀ t, Steps p.tables e below (s₁.setTop (mkF m 0 #[rv a7_0, .unset, .unset] [])) t → Steps p.tables e below (s₁.setTop (entryFrame m #[(.ref a7_0)] 3)) t := fun t k => castTop (ef_rm_h5_0 m a7_0) k
  have wo21 := hw _ (List.mem_of_getElem? (i := 21) rfl)
  have wo23 := hw _ (List.mem_of_getElem? (i := 23) rfl)
  obtain ⟨T1, X1, e1, st1⟩ := getF X0 hx hZ hown (host := "") (Or.inl wo21) Via.refl e0 pf_F_a7_0_offset (g := (mkF m 3 #[rv a7_0, iv (1 : Int32), .unset] [(.ref a7_0)])) rfl rfl (hb hby d7_3)
  obtain ⟨T2, X2, e2, st2⟩ := getF X1 hx hZ hown (host := "") (Or.inl wo21) Via.refl e1 pf_F_a7_0_offset (g := (mkF m 9 #[rv a7_0, iv (1 : Int32), iv (5 : Int32)] [(.ref a7_0), (.int (5 : Int32))])) rfl rfl (hb hby d7_9)
  obtain ⟨T3, X3, e3, st3⟩ := getF X2 hx hZ hown (host := "") (Or.inl wo23) Via.refl e2 pf_F_a7_0_length (g := (mkF m 13 #[rv a7_0, iv (1 : Int32), iv (5 : Int32)] [(.ref a7_0), (.int (5 : Int32)), (.int (5 : Int32))])) rfl rfl (hb hby d7_13)
  obtain ⟨fs, hr, hrun, hended, hW, hsame⟩ := X3.leave (v := some (.int (1 : Int32))) (fun h => by rw [Bd.returns] at h; cases h)
  refine ⟨_, _, pre0 _ ?_, hrun, hended, _, _, rfl, ?_, ⟨_, rfl⟩, hW, hsame.mono (by decide) (by decide)⟩
  · show Steps p.tables e below (s₁.setTop (mkF m 0 #[rv a7_0, .unset, .unset] [])) _
    refine XS.iconst X0.here hx rfl (hb hby d7_0) ?_
    show Steps p.tables e below (s₁.setTop (mkF m 1 #[rv a7_0, .unset, .unset] [(.int (1 : Int32))])) _
    refine XS.istoreN X0.here hx rfl (hb hby d7_1) rfl (l' := #[rv a7_0, iv (1 : Int32), .unset]) rfl ?_
    show Steps p.tables e below (s₁.setTop (mkF m 2 #[rv a7_0, iv (1 : Int32), .unset] [])) _
    refine XS.aloadN X0.here hx rfl (hb hby d7_2) rfl rfl ?_
    show Steps p.tables e below (s₁.setTop (mkF m 3 #[rv a7_0, iv (1 : Int32), .unset] [(.ref a7_0)])) _
    refine st1 _ ?_
    show Steps p.tables e below (T1.setTop (mkF m 6 #[rv a7_0, iv (1 : Int32), .unset] [(.int (5 : Int32))])) _
    refine XS.istoreN X1.here hx rfl (hb hby d7_6) rfl (l' := #[rv a7_0, iv (1 : Int32), iv (5 : Int32)]) rfl ?_
    show Steps p.tables e below (T1.setTop (mkF m 7 #[rv a7_0, iv (1 : Int32), iv (5 : Int32)] [])) _
    refine XS.iloadN X1.here hx rfl (hb hby d7_7) rfl ?_
    show Steps p.tables e below (T1.setTop (mkF m 8 #[rv a7_0, iv (1 : Int32), iv (5 : Int32)] [(.int (5 : Int32))])) _
    refine XS.aloadN X1.here hx rfl (hb hby d7_8) rfl rfl ?_
    show Steps p.tables e below (T1.setTop (mkF m 9 #[rv a7_0, iv (1 : Int32), iv (5 : Int32)] [(.ref a7_0), (.int (5 : Int32))])) _
    refine st2 _ ?_
    show Steps p.tables e below (T2.setTop (mkF m 12 #[rv a7_0, iv (1 : Int32), iv (5 : Int32)] [(.int (5 : Int32)), (.int (5 : Int32))])) _
    refine XS.aloadN X2.here hx rfl (hb hby d7_12) rfl rfl ?_
    show Steps p.tables e below (T2.setTop (mkF m 13 #[rv a7_0, iv (1 : Int32), iv (5 : Int32)] [(.ref a7_0), (.int (5 : Int32)), (.int (5 : Int32))])) _
    refine st3 _ ?_
    show Steps p.tables e below (T3.setTop (mkF m 16 #[rv a7_0, iv (1 : Int32), iv (5 : Int32)] [(.int (0 : Int32)), (.int (5 : Int32)), (.int (5 : Int32))])) _
    refine XS.iadd X3.here hx rfl (hb hby d7_16) rfl ?_
    show Steps p.tables e below (T3.setTop (mkF m 17 #[rv a7_0, iv (1 : Int32), iv (5 : Int32)] [(.int (5 : Int32)), (.int (5 : Int32))])) _
    refine XS.icmpYes X3.here hx rfl (pc0 := 17) (pc' := 38) rfl (hb hby d7_17) rfl (flt (by decide : ¬ ((5 : Int32) < (5 : Int32)))).2.1 (by decide) (by decide) ?_
    show Steps p.tables e below (T3.setTop (mkF m 38 #[rv a7_0, iv (1 : Int32), iv (5 : Int32)] [])) _
    refine XS.iloadN X3.here hx rfl (hb hby d7_38) rfl ?_
    show Steps p.tables e below (T3.setTop (mkF m 39 #[rv a7_0, iv (1 : Int32), iv (5 : Int32)] [(.int (1 : Int32))])) _
    exact retI X3 hx Bd.returns (hb hby d7_39) hr
  · show Q_rm_h5_0 Z _ _ _ _ _ _ _ h0 n0 _ T3.heap _
    rw [e3]
    exact ⟨rfl, N0, rfl⟩
theorem pd_5 : parseMethodDescriptor "([BII)V" = some ⟨[(.array .byte), .int, .int], none⟩ := by decide +kernel
theorem pd_6 : parseMethodDescriptor "([BIII)I" = some ⟨[(.array .byte), .int, .int, .int], some .int⟩ := by decide +kernel
theorem pd_0 : parseMethodDescriptor "()I" = some ⟨[], some .int⟩ := by decide +kernel
theorem ef_rm0 (m : MethodId) (x0 : Int32) (x1 : Int32) (x2 : Int32) : entryFrame m #[(.int x0), (.int x1), (.int x2)] maxLocals = mkF m 0 #[iv x0, iv x1, iv x2, .unset, .unset, .unset, .unset, .unset] [] := by first | (simp [entryFrame, mkF, argsToLocals, Value.category, maxLocals]; done) | rfl
def Q_rm0 (Z : State) (p0_0 : Int32) (p0_1 : Int32) (p0_2 : Int32) (h0 : Heap) (n0 : Nat) (v : Option Value) (h : Heap) (L : List Loc) : Prop := v = some (.int (1 : Int32)) ∧ Fr n0 L ∧ Keep h0 h []
set_option maxRecDepth 65536 in
set_option maxHeartbeats 40000000 in
theorem rm0 (l : Launch) (Z : State) (a0 : Array Value) (hw : ∀ d ∈ tables_1, d.before a0 Z = true) (ws : List Jvm.Cond) (p0_0 : Int32) (p0_1 : Int32) (p0_2 : Int32) (h0 : Heap) (n0 : Nat) (Z0 : n0 ≤ h0.size) :
    MetFree l x (head1 (Jvm.Cond.code x code maxLocals ret :: ws) room_1) (fun a U => a = #[(.int p0_0), (.int p0_1), (.int p0_2)] ∧ Z.Warmed39 U.vm ∧ U.heap = h0) (fun _ _ _ _ _ => True) (fun _ U o U' => ∃ v L, o = .returned v ∧ Q_rm0 Z p0_0 p0_1 p0_2 h0 n0 v U'.heap L ∧ FrameEnd U o U' L room_1.cells room_1.slots) := by
  refine MetFree.of_bodySF (plainFor_of_name pn_com_example_tailwake_tailwake_source_mariadb_SliceHashCodePinLaw) hisR ?_
  intro p e s m args below meth c s₁ Bd hml0 hP hK
  obtain ⟨rfl, hZ, hh⟩ := hP
  have hx := Bd.exec
  have hby := Bd.bytes
  have hml : c.maxLocals = 8 := hml0
  have hown : s.vm.findClass "com/example/tailwake/tailwake/source/mariadb/SliceHashCodePinLaw" = some m.cls := findClass_of_methodNamed Bd.named
  have hnm := (name_of_methodNamed Bd.named Bd.method).1
  have X0 : Stand p l e room_1 s m #[(.int p0_0), (.int p0_1), (.int p0_2)] below meth c s₁ [] 0 0 := Stand.of_body Bd
  have e0 : s₁.heap = h0 := by rw [← hh, Bd.state]; rfl
  have N0 := Fr.nil n0
  have pre0 : ∀ t, Steps p.tables e below (s₁.setTop (mkF m 0 #[iv p0_0, iv p0_1, iv p0_2, .unset, .unset, .unset, .unset, .unset] [])) t → Steps p.tables e below (s₁.setTop (entryFrame m #[(.int p0_0), (.int p0_1), (.int p0_2)] maxLocals)) t := fun t k => castTop (ef_rm0 m p0_0 p0_1 p0_2) k
  have wo0 := hw _ (List.mem_of_getElem? (i := 0) rfl)
  have wo1 := hw _ (List.mem_of_getElem? (i := 1) rfl)
  have wo2 := hw _ (List.mem_of_getElem? (i := 2) rfl)
  have wo3 := hw _ (List.mem_of_getElem? (i := 3) rfl)
  have wo4 := hw _ (List.mem_of_getElem? (i := 4) rfl)
  have wo5 := hw _ (List.mem_of_getElem? (i := 5) rfl)
  have wo6 := hw _ (List.mem_of_getElem? (i := 6) rfl)
  have wo7 := hw _ (List.mem_of_getElem? (i := 7) rfl)
  have wo20 := hw _ (List.mem_of_getElem? (i := 20) rfl)
  have wo22 := hw _ (List.mem_of_getElem? (i := 22) rfl)
  have wo24 := hw _ (List.mem_of_getElem? (i := 24) rfl)
  have wo25 := hw _ (List.mem_of_getElem? (i := 25) rfl)
  have wo26 := hw _ (List.mem_of_getElem? (i := 26) rfl)
  have wo27 := hw _ (List.mem_of_getElem? (i := 27) rfl)
  have wo28 := hw _ (List.mem_of_getElem? (i := 28) rfl)
  have wo29 := hw _ (List.mem_of_getElem? (i := 29) rfl)
  have wo30 := hw _ (List.mem_of_getElem? (i := 30) rfl)
  have wo31 := hw _ (List.mem_of_getElem? (i := 31) rfl)
  have wo32 := hw _ (List.mem_of_getElem? (i := 32) rfl)
  have wo33 := hw _ (List.mem_of_getElem? (i := 33) rfl)
  have wo34 := hw _ (List.mem_of_getElem? (i := 34) rfl)
  have wo35 := hw _ (List.mem_of_getElem? (i := 35) rfl)
  have wo36 := hw _ (List.mem_of_getElem? (i := 36) rfl)
  obtain ⟨T1, h1, k1, X1, e1, E1, A1, st1⟩ := newP (aty := .byte) X0 hx hZ wo0 e0 (g := (mkF m 1 #[iv p0_0, iv p0_1, iv p0_2, .unset, .unset, .unset, .unset, .unset] [(.int (5 : Int32))])) rfl (hb hby at_1) rfl (by decide) (cap := 5) (by decide) (by decide) (by decide) (by decide)
  obtain ⟨b1, gg1⟩ : ∃ z, z = h0.size := ⟨_, rfl⟩
  rw [← gg1] at A1 st1
  have g2 : n0 ≤ b1 := Nat.le_trans Z0 (Nat.le_of_eq gg1.symm)
  have bz3 : h0.size ≤ b1 := Nat.le_trans (Keep.refl h0 []).1 (Nat.le_of_eq gg1.symm)
  have K5 : Keep h0 h1 [] := (Keep.refl h0 []).ext E1
  have f4 : Av Z h1 b1 .byte (5 : Int32) [(.int (0 : Int32)), (.int (0 : Int32)), (.int (0 : Int32)), (.int (0 : Int32)), (.int (0 : Int32))] (.int (0 : Int32)) := ⟨_, (Arv.new A1 (by decide)).pad (pad_rep [] (.int (0 : Int32)) 5)⟩
  obtain ⟨kk6, cl6, Ar6, qq6, Sz6, Nn6, Hs6, Gf6⟩ := id f4
  have hin7 : ¬ ((0 : Int32) < 0 ∨ cl6.slots.size ≤ ((0 : Int32)).toNatClampNeg) := inb_of Sz6 ⟨by decide, by decide⟩
  obtain ⟨T8, h8, X8, e8, W8, st8⟩ := stB X1 hx hZ e1 Ar6 (j := (0 : Int32)) hin7 (g := (mkF m 8 #[iv p0_0, iv p0_1, iv p0_2, rv b1, .unset, .unset, .unset, .unset] [(.int (p0_0.toInt8.toInt32)), (.int (0 : Int32)), (.ref b1)])) rfl rfl (hb hby at_8)
  have K9 : Keep h0 h8 [] := (K5).wr W8 (Or.inr bz3)
  have f10 : Av Z h8 b1 .byte (5 : Int32) [(.int (nar .byte (p0_0.toInt8.toInt32))), (.int (0 : Int32)), (.int (0 : Int32)), (.int (0 : Int32)), (.int (0 : Int32))] (.int (0 : Int32)) := ⟨_, Arv.set Ar6 qq6 Sz6 Nn6 Hs6 Gf6 (by first | rfl | exact fits_nar_byte _) W8 0 rfl (Nat.le_of_ble_eq_true rfl)⟩
  have N11 := Fr.snoc X8 N0 g2
  obtain ⟨kk12, cl12, Ar12, qq12, Sz12, Nn12, Hs12, Gf12⟩ := id f10
  have hin13 : ¬ ((1 : Int32) < 0 ∨ cl12.slots.size ≤ ((1 : Int32)).toNatClampNeg) := inb_of Sz12 ⟨by decide, by decide⟩
  obtain ⟨T14, h14, X14, e14, W14, st14⟩ := stB X8 hx hZ e8 Ar12 (j := (1 : Int32)) hin13 (g := (mkF m 16 #[iv p0_0, iv p0_1, iv p0_2, rv b1, .unset, .unset, .unset, .unset] [(.int ((p0_0 >>> ((8 : Int32) &&& 31)).toInt8.toInt32)), (.int (1 : Int32)), (.ref b1)])) rfl rfl (hb hby at_16)
  have K15 : Keep h0 h14 [] := (K9).wr W14 (Or.inr bz3)
  have f16 : Av Z h14 b1 .byte (5 : Int32) [(.int (nar .byte (p0_0.toInt8.toInt32))), (.int (nar .byte ((p0_0 >>> ((8 : Int32) &&& 31)).toInt8.toInt32))), (.int (0 : Int32)), (.int (0 : Int32)), (.int (0 : Int32))] (.int (0 : Int32)) := ⟨_, Arv.set Ar12 qq12 Sz12 Nn12 Hs12 Gf12 (by first | rfl | exact fits_nar_byte _) W14 1 rfl (Nat.le_of_ble_eq_true rfl)⟩
  have N17 := Fr.snoc X14 N11 g2
  obtain ⟨kk18, cl18, Ar18, qq18, Sz18, Nn18, Hs18, Gf18⟩ := id f16
  have hin19 : ¬ ((2 : Int32) < 0 ∨ cl18.slots.size ≤ ((2 : Int32)).toNatClampNeg) := inb_of Sz18 ⟨by decide, by decide⟩
  obtain ⟨T20, h20, X20, e20, W20, st20⟩ := stB X14 hx hZ e14 Ar18 (j := (2 : Int32)) hin19 (g := (mkF m 24 #[iv p0_0, iv p0_1, iv p0_2, rv b1, .unset, .unset, .unset, .unset] [(.int ((p0_0 >>> ((16 : Int32) &&& 31)).toInt8.toInt32)), (.int (2 : Int32)), (.ref b1)])) rfl rfl (hb hby at_24)
  have K21 : Keep h0 h20 [] := (K15).wr W20 (Or.inr bz3)
  have f22 : Av Z h20 b1 .byte (5 : Int32) [(.int (nar .byte (p0_0.toInt8.toInt32))), (.int (nar .byte ((p0_0 >>> ((8 : Int32) &&& 31)).toInt8.toInt32))), (.int (nar .byte ((p0_0 >>> ((16 : Int32) &&& 31)).toInt8.toInt32))), (.int (0 : Int32)), (.int (0 : Int32))] (.int (0 : Int32)) := ⟨_, Arv.set Ar18 qq18 Sz18 Nn18 Hs18 Gf18 (by first | rfl | exact fits_nar_byte _) W20 2 rfl (Nat.le_of_ble_eq_true rfl)⟩
  have N23 := Fr.snoc X20 N17 g2
  obtain ⟨kk24, cl24, Ar24, qq24, Sz24, Nn24, Hs24, Gf24⟩ := id f22
  have hin25 : ¬ ((3 : Int32) < 0 ∨ cl24.slots.size ≤ ((3 : Int32)).toNatClampNeg) := inb_of Sz24 ⟨by decide, by decide⟩
  obtain ⟨T26, h26, X26, e26, W26, st26⟩ := stB X20 hx hZ e20 Ar24 (j := (3 : Int32)) hin25 (g := (mkF m 32 #[iv p0_0, iv p0_1, iv p0_2, rv b1, .unset, .unset, .unset, .unset] [(.int ((p0_0 >>> ((24 : Int32) &&& 31)).toInt8.toInt32)), (.int (3 : Int32)), (.ref b1)])) rfl rfl (hb hby at_32)
  have K27 : Keep h0 h26 [] := (K21).wr W26 (Or.inr bz3)
  have f28 : Av Z h26 b1 .byte (5 : Int32) [(.int (nar .byte (p0_0.toInt8.toInt32))), (.int (nar .byte ((p0_0 >>> ((8 : Int32) &&& 31)).toInt8.toInt32))), (.int (nar .byte ((p0_0 >>> ((16 : Int32) &&& 31)).toInt8.toInt32))), (.int (nar .byte ((p0_0 >>> ((24 : Int32) &&& 31)).toInt8.toInt32))), (.int (0 : Int32))] (.int (0 : Int32)) := ⟨_, Arv.set Ar24 qq24 Sz24 Nn24 Hs24 Gf24 (by first | rfl | exact fits_nar_byte _) W26 3 rfl (Nat.le_of_ble_eq_true rfl)⟩
  have N29 := Fr.snoc X26 N23 g2
  obtain ⟨kk30, cl30, Ar30, qq30, Sz30, Nn30, Hs30, Gf30⟩ := id f28
  have hin31 : ¬ ((4 : Int32) < 0 ∨ cl30.slots.size ≤ ((4 : Int32)).toNatClampNeg) := inb_of Sz30 ⟨by decide, by decide⟩
  obtain ⟨T32, h32, X32, e32, W32, st32⟩ := stB X26 hx hZ e26 Ar30 (j := (4 : Int32)) hin31 (g := (mkF m 37 #[iv p0_0, iv p0_1, iv p0_2, rv b1, .unset, .unset, .unset, .unset] [(.int (p0_1.toInt8.toInt32)), (.int (4 : Int32)), (.ref b1)])) rfl rfl (hb hby at_37)
  have K33 : Keep h0 h32 [] := (K27).wr W32 (Or.inr bz3)
  have f34 : Av Z h32 b1 .byte (5 : Int32) [(.int (nar .byte (p0_0.toInt8.toInt32))), (.int (nar .byte ((p0_0 >>> ((8 : Int32) &&& 31)).toInt8.toInt32))), (.int (nar .byte ((p0_0 >>> ((16 : Int32) &&& 31)).toInt8.toInt32))), (.int (nar .byte ((p0_0 >>> ((24 : Int32) &&& 31)).toInt8.toInt32))), (.int (nar .byte (p0_1.toInt8.toInt32)))] (.int (0 : Int32)) := ⟨_, Arv.set Ar30 qq30 Sz30 Nn30 Hs30 Gf30 (by first | rfl | exact fits_nar_byte _) W32 4 rfl (Nat.le_of_ble_eq_true rfl)⟩
  have N35 := Fr.snoc X32 N29 g2
  obtain ⟨x0, h_x0⟩ : ∃ z : Int32, z = (nar .byte (p0_0.toInt8.toInt32)) := ⟨_, rfl⟩
  have f36 : Av Z h32 b1 .byte (5 : Int32) [(.int x0), (.int (nar .byte ((p0_0 >>> ((8 : Int32) &&& 31)).toInt8.toInt32))), (.int (nar .byte ((p0_0 >>> ((16 : Int32) &&& 31)).toInt8.toInt32))), (.int (nar .byte ((p0_0 >>> ((24 : Int32) &&& 31)).toInt8.toInt32))), (.int (nar .byte (p0_1.toInt8.toInt32)))] (.int (0 : Int32)) := by rw [h_x0]; exact f34
  obtain ⟨x1, h_x1⟩ : ∃ z : Int32, z = (nar .byte ((p0_0 >>> ((8 : Int32) &&& 31)).toInt8.toInt32)) := ⟨_, rfl⟩
  have f37 : Av Z h32 b1 .byte (5 : Int32) [(.int x0), (.int x1), (.int (nar .byte ((p0_0 >>> ((16 : Int32) &&& 31)).toInt8.toInt32))), (.int (nar .byte ((p0_0 >>> ((24 : Int32) &&& 31)).toInt8.toInt32))), (.int (nar .byte (p0_1.toInt8.toInt32)))] (.int (0 : Int32)) := by rw [h_x1]; exact f36
  obtain ⟨x2, h_x2⟩ : ∃ z : Int32, z = (nar .byte ((p0_0 >>> ((16 : Int32) &&& 31)).toInt8.toInt32)) := ⟨_, rfl⟩
  have f38 : Av Z h32 b1 .byte (5 : Int32) [(.int x0), (.int x1), (.int x2), (.int (nar .byte ((p0_0 >>> ((24 : Int32) &&& 31)).toInt8.toInt32))), (.int (nar .byte (p0_1.toInt8.toInt32)))] (.int (0 : Int32)) := by rw [h_x2]; exact f37
  obtain ⟨x3, h_x3⟩ : ∃ z : Int32, z = (nar .byte ((p0_0 >>> ((24 : Int32) &&& 31)).toInt8.toInt32)) := ⟨_, rfl⟩
  have f39 : Av Z h32 b1 .byte (5 : Int32) [(.int x0), (.int x1), (.int x2), (.int x3), (.int (nar .byte (p0_1.toInt8.toInt32)))] (.int (0 : Int32)) := by rw [h_x3]; exact f38
  obtain ⟨x4, h_x4⟩ : ∃ z : Int32, z = (nar .byte (p0_1.toInt8.toInt32)) := ⟨_, rfl⟩
  have f40 : Av Z h32 b1 .byte (5 : Int32) [(.int x0), (.int x1), (.int x2), (.int x3), (.int x4)] (.int (0 : Int32)) := by rw [h_x4]; exact f39
  obtain ⟨of, h_of⟩ : ∃ z : Int32, z = ((p0_2 &&& (7 : Int32)) % (6 : Int32)) := ⟨_, rfl⟩
  have hof : 0 ≤ of.toInt ∧ of.toInt < 6 := by rw [h_of]; exact own_off _
  have pre41 : ∀ t, Steps p.tables e below (T32.setTop (mkF m 47 #[iv p0_0, iv p0_1, iv p0_2, rv b1, iv of, .unset, .unset, .unset] [])) t → Steps p.tables e below (s₁.setTop (entryFrame m #[(.int p0_0), (.int p0_1), (.int p0_2)] maxLocals)) t := by
    intro t_ k_
    refine pre0 _ ?_
    show Steps p.tables e below (s₁.setTop (mkF m 0 #[iv p0_0, iv p0_1, iv p0_2, .unset, .unset, .unset, .unset, .unset] [])) _
    refine XS.iconst X0.here hx rfl (hb hby at_0) ?_
    show Steps p.tables e below (s₁.setTop (mkF m 1 #[iv p0_0, iv p0_1, iv p0_2, .unset, .unset, .unset, .unset, .unset] [(.int (5 : Int32))])) _
    refine st1 _ ?_
    show Steps p.tables e below (T1.setTop (mkF m 3 #[iv p0_0, iv p0_1, iv p0_2, .unset, .unset, .unset, .unset, .unset] [(.ref b1)])) _
    refine XS.astoreN X1.here hx rfl (hb hby at_3) rfl rfl (l' := #[iv p0_0, iv p0_1, iv p0_2, rv b1, .unset, .unset, .unset, .unset]) rfl ?_
    refine XS.aloadN X1.here hx rfl (hb hby at_4) rfl rfl ?_
    show Steps p.tables e below (T1.setTop (mkF m 5 #[iv p0_0, iv p0_1, iv p0_2, rv b1, .unset, .unset, .unset, .unset] [(.ref b1)])) _
    refine XS.iconst X1.here hx rfl (hb hby at_5) ?_
    refine XS.iloadN X1.here hx rfl (hb hby at_6) rfl ?_
    refine XS.i2b X1.here hx rfl (hb hby at_7) rfl ?_
    show Steps p.tables e below (T1.setTop (mkF m 8 #[iv p0_0, iv p0_1, iv p0_2, rv b1, .unset, .unset, .unset, .unset] [(.int (p0_0.toInt8.toInt32)), (.int (0 : Int32)), (.ref b1)])) _
    refine st8 _ ?_
    show Steps p.tables e below (T8.setTop (mkF m 9 #[iv p0_0, iv p0_1, iv p0_2, rv b1, .unset, .unset, .unset, .unset] [])) _
    refine XS.aloadN X8.here hx rfl (hb hby at_9) rfl rfl ?_
    refine XS.iconst X8.here hx rfl (hb hby at_10) ?_
    refine XS.iloadN X8.here hx rfl (hb hby at_11) rfl ?_
    refine XS.bipush X8.here hx rfl (hb hby at_12) ?_
    show Steps p.tables e below (T8.setTop (mkF m 14 #[iv p0_0, iv p0_1, iv p0_2, rv b1, .unset, .unset, .unset, .unset] [(.int (8 : Int32)), (.int p0_0), (.int (1 : Int32)), (.ref b1)])) _
    refine XS.ishr X8.here hx rfl (hb hby at_14) rfl ?_
    refine XS.i2b X8.here hx rfl (hb hby at_15) rfl ?_
    show Steps p.tables e below (T8.setTop (mkF m 16 #[iv p0_0, iv p0_1, iv p0_2, rv b1, .unset, .unset, .unset, .unset] [(.int ((p0_0 >>> ((8 : Int32) &&& 31)).toInt8.toInt32)), (.int (1 : Int32)), (.ref b1)])) _
    refine st14 _ ?_
    show Steps p.tables e below (T14.setTop (mkF m 17 #[iv p0_0, iv p0_1, iv p0_2, rv b1, .unset, .unset, .unset, .unset] [])) _
    refine XS.aloadN X14.here hx rfl (hb hby at_17) rfl rfl ?_
    show Steps p.tables e below (T14.setTop (mkF m 18 #[iv p0_0, iv p0_1, iv p0_2, rv b1, .unset, .unset, .unset, .unset] [(.ref b1)])) _
    refine XS.iconst X14.here hx rfl (hb hby at_18) ?_
    refine XS.iloadN X14.here hx rfl (hb hby at_19) rfl ?_
    refine XS.bipush X14.here hx rfl (hb hby at_20) ?_
    refine XS.ishr X14.here hx rfl (hb hby at_22) rfl ?_
    show Steps p.tables e below (T14.setTop (mkF m 23 #[iv p0_0, iv p0_1, iv p0_2, rv b1, .unset, .unset, .unset, .unset] [(.int (p0_0 >>> ((16 : Int32) &&& 31))), (.int (2 : Int32)), (.ref b1)])) _
    refine XS.i2b X14.here hx rfl (hb hby at_23) rfl ?_
    show Steps p.tables e below (T14.setTop (mkF m 24 #[iv p0_0, iv p0_1, iv p0_2, rv b1, .unset, .unset, .unset, .unset] [(.int ((p0_0 >>> ((16 : Int32) &&& 31)).toInt8.toInt32)), (.int (2 : Int32)), (.ref b1)])) _
    refine st20 _ ?_
    show Steps p.tables e below (T20.setTop (mkF m 25 #[iv p0_0, iv p0_1, iv p0_2, rv b1, .unset, .unset, .unset, .unset] [])) _
    refine XS.aloadN X20.here hx rfl (hb hby at_25) rfl rfl ?_
    refine XS.iconst X20.here hx rfl (hb hby at_26) ?_
    show Steps p.tables e below (T20.setTop (mkF m 27 #[iv p0_0, iv p0_1, iv p0_2, rv b1, .unset, .unset, .unset, .unset] [(.int (3 : Int32)), (.ref b1)])) _
    refine XS.iloadN X20.here hx rfl (hb hby at_27) rfl ?_
    refine XS.bipush X20.here hx rfl (hb hby at_28) ?_
    refine XS.ishr X20.here hx rfl (hb hby at_30) rfl ?_
    refine XS.i2b X20.here hx rfl (hb hby at_31) rfl ?_
    show Steps p.tables e below (T20.setTop (mkF m 32 #[iv p0_0, iv p0_1, iv p0_2, rv b1, .unset, .unset, .unset, .unset] [(.int ((p0_0 >>> ((24 : Int32) &&& 31)).toInt8.toInt32)), (.int (3 : Int32)), (.ref b1)])) _
    refine st26 _ ?_
    show Steps p.tables e below (T26.setTop (mkF m 33 #[iv p0_0, iv p0_1, iv p0_2, rv b1, .unset, .unset, .unset, .unset] [])) _
    refine XS.aloadN X26.here hx rfl (hb hby at_33) rfl rfl ?_
    refine XS.iconst X26.here hx rfl (hb hby at_34) ?_
    refine XS.iloadN X26.here hx rfl (hb hby at_35) rfl ?_
    show Steps p.tables e below (T26.setTop (mkF m 36 #[iv p0_0, iv p0_1, iv p0_2, rv b1, .unset, .unset, .unset, .unset] [(.int p0_1), (.int (4 : Int32)), (.ref b1)])) _
    refine XS.i2b X26.here hx rfl (hb hby at_36) rfl ?_
    show Steps p.tables e below (T26.setTop (mkF m 37 #[iv p0_0, iv p0_1, iv p0_2, rv b1, .unset, .unset, .unset, .unset] [(.int (p0_1.toInt8.toInt32)), (.int (4 : Int32)), (.ref b1)])) _
    refine st32 _ ?_
    show Steps p.tables e below (T32.setTop (mkF m 38 #[iv p0_0, iv p0_1, iv p0_2, rv b1, .unset, .unset, .unset, .unset] [])) _
    show Steps p.tables e below (T32.setTop (mkF m 38 #[iv p0_0, iv p0_1, iv p0_2, rv b1, .unset, .unset, .unset, .unset] [])) _
    show Steps p.tables e below (T32.setTop (mkF m 38 #[iv p0_0, iv p0_1, iv p0_2, rv b1, .unset, .unset, .unset, .unset] [])) _
    show Steps p.tables e below (T32.setTop (mkF m 38 #[iv p0_0, iv p0_1, iv p0_2, rv b1, .unset, .unset, .unset, .unset] [])) _
    show Steps p.tables e below (T32.setTop (mkF m 38 #[iv p0_0, iv p0_1, iv p0_2, rv b1, .unset, .unset, .unset, .unset] [])) _
    show Steps p.tables e below (T32.setTop (mkF m 38 #[iv p0_0, iv p0_1, iv p0_2, rv b1, .unset, .unset, .unset, .unset] [])) _
    refine XS.iloadN X32.here hx rfl (hb hby at_38) rfl ?_
    show Steps p.tables e below (T32.setTop (mkF m 39 #[iv p0_0, iv p0_1, iv p0_2, rv b1, .unset, .unset, .unset, .unset] [(.int p0_2)])) _
    refine XS.bipush X32.here hx rfl (hb hby at_39) ?_
    refine XS.iand X32.here hx rfl (hb hby at_41) rfl ?_
    refine XS.bipush X32.here hx rfl (hb hby at_42) ?_
    show Steps p.tables e below (T32.setTop (mkF m 44 #[iv p0_0, iv p0_1, iv p0_2, rv b1, .unset, .unset, .unset, .unset] [(.int (6 : Int32)), (.int (p0_2 &&& (7 : Int32)))])) _
    refine iremM (g := (mkF m 44 #[iv p0_0, iv p0_1, iv p0_2, rv b1, .unset, .unset, .unset, .unset] [(.int (6 : Int32)), (.int (p0_2 &&& (7 : Int32)))])) X32 hx rfl (hb hby at_44) rfl (by decide) ?_
    show Steps p.tables e below (T32.setTop (mkF m 45 #[iv p0_0, iv p0_1, iv p0_2, rv b1, .unset, .unset, .unset, .unset] [(.int ((p0_2 &&& (7 : Int32)) % (6 : Int32)))])) _
    refine XS.istore X32.here hx rfl (hb hby at_45) rfl (l' := #[iv p0_0, iv p0_1, iv p0_2, rv b1, iv ((p0_2 &&& (7 : Int32)) % (6 : Int32)), .unset, .unset, .unset]) rfl ?_
    rw [← h_of]
    show Steps p.tables e below (T32.setTop (mkF m 47 #[iv p0_0, iv p0_1, iv p0_2, rv b1, iv of, .unset, .unset, .unset] [])) _
    exact k_
  have hx_42 : of = (0 : Int32) ∨ of = (1 : Int32) ∨ of = (2 : Int32) ∨ of = (3 : Int32) ∨ of = (4 : Int32) ∨ of = (5 : Int32) := own_lt6 of hof
  rcases hx_42 with rfl | rfl | rfl | rfl | rfl | rfl
  · skip
    obtain ⟨ln, h_ln⟩ : ∃ z : Int32, z = ((((p0_2.toUInt32 >>> ((3 : Int32) &&& 31).toUInt32).toInt32) &&& (2147483647 : Int32)) % (6 : Int32)) := ⟨_, rfl⟩
    have hln : 0 ≤ ln.toInt ∧ ln.toInt < 6 := by rw [h_ln]; exact own_len _ 6 (by decide)
    have pre43 : ∀ t, Steps p.tables e below (T32.setTop (mkF m 61 #[iv p0_0, iv p0_1, iv p0_2, rv b1, iv (0 : Int32), iv ln, .unset, .unset] [])) t → Steps p.tables e below (s₁.setTop (entryFrame m #[(.int p0_0), (.int p0_1), (.int p0_2)] maxLocals)) t := by
      intro t_ k_
      refine pre41 _ ?_
      show Steps p.tables e below (T32.setTop (mkF m 47 #[iv p0_0, iv p0_1, iv p0_2, rv b1, iv (0 : Int32), .unset, .unset, .unset] [])) _
      refine XS.iloadN X32.here hx rfl (hb hby at_47) rfl ?_
      refine XS.iconst X32.here hx rfl (hb hby at_48) ?_
      show Steps p.tables e below (T32.setTop (mkF m 49 #[iv p0_0, iv p0_1, iv p0_2, rv b1, iv (0 : Int32), .unset, .unset, .unset] [(.int (3 : Int32)), (.int p0_2)])) _
      refine XS.iushr X32.here hx rfl (hb hby at_49) rfl ?_
      show Steps p.tables e below (T32.setTop (mkF m 50 #[iv p0_0, iv p0_1, iv p0_2, rv b1, iv (0 : Int32), .unset, .unset, .unset] [(.int ((p0_2.toUInt32 >>> ((3 : Int32) &&& 31).toUInt32).toInt32))])) _
      refine X32.ldcInt hx hown (mvT hZ wo1) (g := (mkF m 50 #[iv p0_0, iv p0_1, iv p0_2, rv b1, iv (0 : Int32), .unset, .unset, .unset] [(.int ((p0_2.toUInt32 >>> ((3 : Int32) &&& 31).toUInt32).toInt32))])) rfl (hb hby at_50) _ ?_
      show Steps p.tables e below (T32.setTop (mkF m 52 #[iv p0_0, iv p0_1, iv p0_2, rv b1, iv (0 : Int32), .unset, .unset, .unset] [(.int (2147483647 : Int32)), (.int ((p0_2.toUInt32 >>> ((3 : Int32) &&& 31).toUInt32).toInt32))])) _
      refine XS.iand X32.here hx rfl (hb hby at_52) rfl ?_
      refine XS.bipush X32.here hx rfl (hb hby at_53) ?_
      show Steps p.tables e below (T32.setTop (mkF m 55 #[iv p0_0, iv p0_1, iv p0_2, rv b1, iv (0 : Int32), .unset, .unset, .unset] [(.int (6 : Int32)), (.int (((p0_2.toUInt32 >>> ((3 : Int32) &&& 31).toUInt32).toInt32) &&& (2147483647 : Int32)))])) _
      refine XS.iload X32.here hx rfl (hb hby at_55) rfl ?_
      refine XS.isub X32.here hx rfl (hb hby at_57) rfl ?_
      show Steps p.tables e below (T32.setTop (mkF m 58 #[iv p0_0, iv p0_1, iv p0_2, rv b1, iv (0 : Int32), .unset, .unset, .unset] [(.int (6 : Int32)), (.int (((p0_2.toUInt32 >>> ((3 : Int32) &&& 31).toUInt32).toInt32) &&& (2147483647 : Int32)))])) _
      refine iremM (g := (mkF m 58 #[iv p0_0, iv p0_1, iv p0_2, rv b1, iv (0 : Int32), .unset, .unset, .unset] [(.int (6 : Int32)), (.int (((p0_2.toUInt32 >>> ((3 : Int32) &&& 31).toUInt32).toInt32) &&& (2147483647 : Int32)))])) X32 hx rfl (hb hby at_58) rfl (by decide) ?_
      show Steps p.tables e below (T32.setTop (mkF m 59 #[iv p0_0, iv p0_1, iv p0_2, rv b1, iv (0 : Int32), .unset, .unset, .unset] [(.int ((((p0_2.toUInt32 >>> ((3 : Int32) &&& 31).toUInt32).toInt32) &&& (2147483647 : Int32)) % (6 : Int32)))])) _
      refine XS.istore X32.here hx rfl (hb hby at_59) rfl (l' := #[iv p0_0, iv p0_1, iv p0_2, rv b1, iv (0 : Int32), iv ((((p0_2.toUInt32 >>> ((3 : Int32) &&& 31).toUInt32).toInt32) &&& (2147483647 : Int32)) % (6 : Int32)), .unset, .unset]) rfl ?_
      rw [← h_ln]
      show Steps p.tables e below (T32.setTop (mkF m 61 #[iv p0_0, iv p0_1, iv p0_2, rv b1, iv (0 : Int32), iv ln, .unset, .unset] [])) _
      exact k_
    have hx_44 : ln = (0 : Int32) ∨ ln = (1 : Int32) ∨ ln = (2 : Int32) ∨ ln = (3 : Int32) ∨ ln = (4 : Int32) ∨ ln = (5 : Int32) := own_lt6 ln hln
    rcases hx_44 with rfl | rfl | rfl | rfl | rfl | rfl
    · skip
      obtain ⟨T45, h45, X45, e45, E45, A45, D45, -, st45⟩ := newO X32 hx hZ hown wo2 wo3 wo4 e32 (g := (mkF m 61 #[iv p0_0, iv p0_1, iv p0_2, rv b1, iv (0 : Int32), iv (0 : Int32), .unset, .unset] [])) rfl (hb hby at_61) (by decide) (by decide)
      obtain ⟨b45, gg45⟩ : ∃ z, z = h32.size := ⟨_, rfl⟩
      rw [← gg45] at A45 D45 st45
      have ne46 : b1 ≠ b45 := Nat.ne_of_lt (Nat.lt_of_lt_of_le f40.lt (Nat.le_of_eq gg45.symm))
      have f48 := (Nat.le_trans (Nat.le_trans (Nat.le_trans (Nat.le_trans (Nat.le_trans (Nat.le_trans Z0 E1.1) (Keep.of_wr W8).1) (Keep.of_wr W14).1) (Keep.of_wr W20).1) (Keep.of_wr W26).1) (Keep.of_wr W32).1)
      have g47 : n0 ≤ b45 := Nat.le_trans f48 (Nat.le_of_eq gg45.symm)
      have bz49 : h0.size ≤ b45 := Nat.le_trans (K33).1 (Nat.le_of_eq gg45.symm)
      have K50 : Keep h0 h45 [] := (K33).ext E45
      have f51 : Fld Z h45 b45 "com/example/tailwake/tailwake/source/mariadb/Slice" "array" "[B" .null := D45 (Or.inr wo20) (ty := (.array .byte)) (by decide)
      have f52 : Fld Z h45 b45 "com/example/tailwake/tailwake/source/mariadb/Slice" "offset" "I" (.int (0 : Int32)) := D45 (Or.inr wo22) (ty := .int) (by decide)
      have f53 : Fld Z h45 b45 "com/example/tailwake/tailwake/source/mariadb/Slice" "length" "I" (.int (0 : Int32)) := D45 (Or.inr wo24) (ty := .int) (by decide)
      have f54 := (f40.ext E45)
      have f56 := (Nat.le_trans f48 E45.1)
      obtain ⟨_, _, ⟨T55, L55, k55, n55⟩, -, X55, ⟨Lc55, hQ55, l55, y55, z55⟩, st55⟩ := X45.specialBack hx (y := MN1) rfl hown (mvT hZ wo5) (mvT hZ wo6) (mvT hZ wo7) (by decide) (backOf (W := 1) (rm1 l Z a0 hw [] b45 b1 (0 : Int32) (0 : Int32) h45 n0 f56 A45 g47 f51 f52 f53 f54.al (by first | decide | assumption | omega : ¬ ((((5 : Int32) ||| (0 : Int32)) ||| (0 : Int32)) < (0 : Int32))) (by first | decide | assumption | omega : ¬ (((5 : Int32) - (0 : Int32)) < (0 : Int32)))) hZ wo7 wo4 (by decide) (by decide)) (g := (mkF m 70 #[iv p0_0, iv p0_1, iv p0_2, rv b1, iv (0 : Int32), iv (0 : Int32), .unset, .unset] [(.int (0 : Int32)), (.int (0 : Int32)), (.ref b1), (.ref b45), (.ref b45)])) rfl (by rw [hml]; rfl) (Steps.refl _) (a := b45) (argsL := [(.ref b1), (.int (0 : Int32)), (.int (0 : Int32))]) (rest := [(.ref b45)]) (lenOf pd_5 rfl) rfl (by show 2 * 0 + _ ≤ _; exact Nat.le_of_eq rfl) (hb hby at_70) (fun _ _ => ⟨rfl, e45, (by decide : 2 + 0 ≤ _), (by decide : 8 + 0 ≤ _)⟩)
      dsimp only [Pt.U, Pt.locs, Pt.cells, Pt.slots] at X55 l55 y55 z55 st55 hQ55
      rw [l55, y55, z55] at X55
      obtain ⟨rfl, N55q, K55q, hq55_0, hq55_1, hq55_2⟩ := hQ55
      have N57 := Fr.app N35 N55q
      have K58 : Keep h0 T55.heap [] := (K50).trans K55q (allS (P := fun x => x ∈ [] ∨ h0.size ≤ x) (Or.inr bz49) all0)
      have f60 := (Nat.le_trans f56 K55q.1)
      obtain ⟨_, _, ⟨T59, L59, k59, n59⟩, -, X59, ⟨Lc59, hQ59, l59, y59, z59⟩, st59⟩ := Jvm.LawKit.callS X55 hx (y := MN5) hown (mvT hZ wo25) (mvT hZ wo26) (mvT hZ wo27) (mvT hZ wo28) (by decide) (backOf (W := 0) (rm5 l Z a0 hw [] (0 : Int32) (T55.heap) n0 f60 ) hZ wo28 wo27 (by decide) (by decide)) (g := (mkF m 77 #[iv p0_0, iv p0_1, iv p0_2, rv b1, iv (0 : Int32), iv (0 : Int32), rv b45, .unset] [(.int (0 : Int32))])) rfl (by rw [hml]; rfl) (argsL := [(.int (0 : Int32))]) (rest := []) (lenOf pd_2 rfl) rfl (by show 2 * 0 + _ ≤ _; exact Nat.le_of_eq rfl) (hb hby at_77) (fun _ _ => ⟨rfl, rfl, (by decide : 2 + 0 ≤ _), (by decide : 8 + 0 ≤ _)⟩)
      dsimp only [Pt.U, Pt.locs, Pt.cells, Pt.slots] at X59 l59 y59 z59 st59 hQ59
      rw [l59, y59, z59] at X59
      obtain ⟨rfl, N59q, K59q⟩ := hQ59
      have N61 := Fr.app N57 N59q
      obtain ⟨_, _, ⟨T62, L62, k62, n62⟩, -, X62, ⟨Lc62, hQ62, l62, y62, z62⟩, st62⟩ := Jvm.LawKit.callS X59 hx (y := MN6) hown (mvT hZ wo29) (mvT hZ wo30) (mvT hZ wo27) (mvT hZ wo31) (by decide) (backOf (W := 1) (rm_t l Z a0 hw [] b1 (0 : Int32) (0 : Int32) (0 : Int32) (T55.heap) n0 f60 (by first | decide | assumption | omega : ¬ ((0 : Int32) < (0 : Int32)))) hZ wo31 wo27 (by decide) (by decide)) (g := (mkF m 86 #[iv p0_0, iv p0_1, iv p0_2, rv b1, iv (0 : Int32), iv (0 : Int32), rv b45, .unset] [(.int (0 : Int32)), (.int (0 : Int32)), (.int (0 : Int32)), (.ref b1), (.int (own_p31 (0 : Int32)))])) rfl (by rw [hml]; rfl) (argsL := [(.ref b1), (.int (0 : Int32)), (.int (0 : Int32)), (.int (0 : Int32))]) (rest := [(.int (own_p31 (0 : Int32)))]) (lenOf pd_6 rfl) rfl (by show 2 * 0 + _ ≤ _; exact Nat.le_of_eq rfl) (hb hby at_86) (fun _ _ => ⟨rfl, K59q, (by decide : 2 + 0 ≤ _), (by decide : 8 + 0 ≤ _)⟩)
      dsimp only [Pt.U, Pt.locs, Pt.cells, Pt.slots] at X62 l62 y62 z62 st62 hQ62
      rw [l62, y62, z62] at X62
      obtain ⟨rfl, N62q, K62q⟩ := hQ62
      have N63 := Fr.app N61 N62q
      obtain ⟨_, _, ⟨T64, L64, k64, n64⟩, -, X64, ⟨Lc64, hQ64, l64, y64, z64⟩, st64⟩ := Jvm.LawKit.callS X62 hx (y := MN6) hown (mvT hZ wo29) (mvT hZ wo30) (mvT hZ wo27) (mvT hZ wo31) (by decide) (backOf (W := 1) (rm_t l Z a0 hw [] b1 (0 : Int32) (0 : Int32) (1 : Int32) (T55.heap) n0 f60 (by first | decide | assumption | omega : ¬ ((1 : Int32) < (0 : Int32)))) hZ wo31 wo27 (by decide) (by decide)) (g := (mkF m 96 #[iv p0_0, iv p0_1, iv p0_2, rv b1, iv (0 : Int32), iv (0 : Int32), rv b45, .unset] [(.int (1 : Int32)), (.int (0 : Int32)), (.int (0 : Int32)), (.ref b1), (.int ((own_p31 (0 : Int32)) + (0 : Int32)))])) rfl (by rw [hml]; rfl) (argsL := [(.ref b1), (.int (0 : Int32)), (.int (0 : Int32)), (.int (1 : Int32))]) (rest := [(.int ((own_p31 (0 : Int32)) + (0 : Int32)))]) (lenOf pd_6 rfl) rfl (by show 2 * 0 + _ ≤ _; exact Nat.le_of_eq rfl) (hb hby at_96) (fun _ _ => ⟨rfl, K62q, (by decide : 2 + 0 ≤ _), (by decide : 8 + 0 ≤ _)⟩)
      dsimp only [Pt.U, Pt.locs, Pt.cells, Pt.slots] at X64 l64 y64 z64 st64 hQ64
      rw [l64, y64, z64] at X64
      obtain ⟨rfl, N64q, K64q⟩ := hQ64
      have N65 := Fr.app N63 N64q
      obtain ⟨_, _, ⟨T66, L66, k66, n66⟩, -, X66, ⟨Lc66, hQ66, l66, y66, z66⟩, st66⟩ := Jvm.LawKit.callS X64 hx (y := MN6) hown (mvT hZ wo29) (mvT hZ wo30) (mvT hZ wo27) (mvT hZ wo31) (by decide) (backOf (W := 1) (rm_t l Z a0 hw [] b1 (0 : Int32) (0 : Int32) (2 : Int32) (T55.heap) n0 f60 (by first | decide | assumption | omega : ¬ ((2 : Int32) < (0 : Int32)))) hZ wo31 wo27 (by decide) (by decide)) (g := (mkF m 106 #[iv p0_0, iv p0_1, iv p0_2, rv b1, iv (0 : Int32), iv (0 : Int32), rv b45, .unset] [(.int (2 : Int32)), (.int (0 : Int32)), (.int (0 : Int32)), (.ref b1), (.int (((own_p31 (0 : Int32)) + (0 : Int32)) + (0 : Int32)))])) rfl (by rw [hml]; rfl) (argsL := [(.ref b1), (.int (0 : Int32)), (.int (0 : Int32)), (.int (2 : Int32))]) (rest := [(.int (((own_p31 (0 : Int32)) + (0 : Int32)) + (0 : Int32)))]) (lenOf pd_6 rfl) rfl (by show 2 * 0 + _ ≤ _; exact Nat.le_of_eq rfl) (hb hby at_106) (fun _ _ => ⟨rfl, K64q, (by decide : 2 + 0 ≤ _), (by decide : 8 + 0 ≤ _)⟩)
      dsimp only [Pt.U, Pt.locs, Pt.cells, Pt.slots] at X66 l66 y66 z66 st66 hQ66
      rw [l66, y66, z66] at X66
      obtain ⟨rfl, N66q, K66q⟩ := hQ66
      have N67 := Fr.app N65 N66q
      obtain ⟨_, _, ⟨T68, L68, k68, n68⟩, -, X68, ⟨Lc68, hQ68, l68, y68, z68⟩, st68⟩ := Jvm.LawKit.callS X66 hx (y := MN6) hown (mvT hZ wo29) (mvT hZ wo30) (mvT hZ wo27) (mvT hZ wo31) (by decide) (backOf (W := 1) (rm_t l Z a0 hw [] b1 (0 : Int32) (0 : Int32) (3 : Int32) (T55.heap) n0 f60 (by first | decide | assumption | omega : ¬ ((3 : Int32) < (0 : Int32)))) hZ wo31 wo27 (by decide) (by decide)) (g := (mkF m 116 #[iv p0_0, iv p0_1, iv p0_2, rv b1, iv (0 : Int32), iv (0 : Int32), rv b45, .unset] [(.int (3 : Int32)), (.int (0 : Int32)), (.int (0 : Int32)), (.ref b1), (.int ((((own_p31 (0 : Int32)) + (0 : Int32)) + (0 : Int32)) + (0 : Int32)))])) rfl (by rw [hml]; rfl) (argsL := [(.ref b1), (.int (0 : Int32)), (.int (0 : Int32)), (.int (3 : Int32))]) (rest := [(.int ((((own_p31 (0 : Int32)) + (0 : Int32)) + (0 : Int32)) + (0 : Int32)))]) (lenOf pd_6 rfl) rfl (by show 2 * 0 + _ ≤ _; exact Nat.le_of_eq rfl) (hb hby at_116) (fun _ _ => ⟨rfl, K66q, (by decide : 2 + 0 ≤ _), (by decide : 8 + 0 ≤ _)⟩)
      dsimp only [Pt.U, Pt.locs, Pt.cells, Pt.slots] at X68 l68 y68 z68 st68 hQ68
      rw [l68, y68, z68] at X68
      obtain ⟨rfl, N68q, K68q⟩ := hQ68
      have N69 := Fr.app N67 N68q
      obtain ⟨_, _, ⟨T70, L70, k70, n70⟩, -, X70, ⟨Lc70, hQ70, l70, y70, z70⟩, st70⟩ := Jvm.LawKit.callS X68 hx (y := MN6) hown (mvT hZ wo29) (mvT hZ wo30) (mvT hZ wo27) (mvT hZ wo31) (by decide) (backOf (W := 1) (rm_t l Z a0 hw [] b1 (0 : Int32) (0 : Int32) (4 : Int32) (T55.heap) n0 f60 (by first | decide | assumption | omega : ¬ ((4 : Int32) < (0 : Int32)))) hZ wo31 wo27 (by decide) (by decide)) (g := (mkF m 126 #[iv p0_0, iv p0_1, iv p0_2, rv b1, iv (0 : Int32), iv (0 : Int32), rv b45, .unset] [(.int (4 : Int32)), (.int (0 : Int32)), (.int (0 : Int32)), (.ref b1), (.int (((((own_p31 (0 : Int32)) + (0 : Int32)) + (0 : Int32)) + (0 : Int32)) + (0 : Int32)))])) rfl (by rw [hml]; rfl) (argsL := [(.ref b1), (.int (0 : Int32)), (.int (0 : Int32)), (.int (4 : Int32))]) (rest := [(.int (((((own_p31 (0 : Int32)) + (0 : Int32)) + (0 : Int32)) + (0 : Int32)) + (0 : Int32)))]) (lenOf pd_6 rfl) rfl (by show 2 * 0 + _ ≤ _; exact Nat.le_of_eq rfl) (hb hby at_126) (fun _ _ => ⟨rfl, K68q, (by decide : 2 + 0 ≤ _), (by decide : 8 + 0 ≤ _)⟩)
      dsimp only [Pt.U, Pt.locs, Pt.cells, Pt.slots] at X70 l70 y70 z70 st70 hQ70
      rw [l70, y70, z70] at X70
      obtain ⟨rfl, N70q, K70q⟩ := hQ70
      have N71 := Fr.app N69 N70q
      have f72 := (f54.keep K55q (ninS ne46 nin0))
      have f74 := (A45.keep K55q)
      obtain ⟨cq73, kq73, q73a, q73b, q73c⟩ := isOf hZ K70q f74
      obtain ⟨_, _, ⟨T73, L73, k73, n73⟩, -, X73, ⟨Lc73, hQ73, l73, y73, z73⟩, st73⟩ := X70.virtualBack hx (y := MN7) (z := MN7) hown (mvT hZ wo32) (mvT hZ wo33) (notFace_of_selects (args := #[]) (mvT hZ wo35)) (mvT hZ wo35) (mvT hZ wo34) (by decide) (backOf (W := 0) (rm_h0_0 l Z a0 hw [] b45 b1 x0 x1 x2 x3 x4 (T55.heap) n0 f60 hq55_0 hq55_1 hq55_2 f72) hZ wo36 wo4 (by decide) (by decide)) q73a q73c (g := (mkF m 134 #[iv p0_0, iv p0_1, iv p0_2, rv b1, iv (0 : Int32), iv (0 : Int32), rv b45, iv ((((((own_p31 (0 : Int32)) + (0 : Int32)) + (0 : Int32)) + (0 : Int32)) + (0 : Int32)) + (0 : Int32))] [(.ref b45)])) rfl (by rw [hml]; rfl) (Steps.refl _) (argsL := []) (rest := []) (lenOf pd_0 rfl) rfl (by show 2 * 0 + _ ≤ _; exact Nat.le_of_eq rfl) (hb hby at_134) (fun _ _ => ⟨rfl, K70q, (by decide : 2 + 0 ≤ _), (by decide : 8 + 0 ≤ _)⟩)
      dsimp only [Pt.U, Pt.locs, Pt.cells, Pt.slots] at X73 l73 y73 z73 st73 hQ73
      rw [l73, y73, z73] at X73
      obtain ⟨rfl, N73q, K73q⟩ := hQ73
      have N75 := Fr.app N71 N73q
      have hc76 : (1 : Int32) = ((((((own_p31 (0 : Int32)) + (0 : Int32)) + (0 : Int32)) + (0 : Int32)) + (0 : Int32)) + (0 : Int32)) := (by simp only [own_q0, own_q1, own_q2, own_q3, own_q4, own_q5]; first | rfl | grind)
      obtain ⟨fs, hr, hrun, hended, hW, hsame⟩ := X73.leave (v := some (.int (1 : Int32))) (fun h => by rw [Bd.returns] at h; cases h)
      refine ⟨_, _, pre43 _ ?_, hrun, hended, _, _, rfl, ?_, ⟨_, rfl⟩, hW, hsame.mono (by decide) (by decide)⟩
      · show Steps p.tables e below (T32.setTop (mkF m 61 #[iv p0_0, iv p0_1, iv p0_2, rv b1, iv (0 : Int32), iv (0 : Int32), .unset, .unset] [])) _
        refine st45 _ ?_
        show Steps p.tables e below (T45.setTop (mkF m 64 #[iv p0_0, iv p0_1, iv p0_2, rv b1, iv (0 : Int32), iv (0 : Int32), .unset, .unset] [(.ref b45)])) _
        refine XS.dup X45.here hx rfl (hb hby at_64) rfl rfl ?_
        refine XS.aloadN X45.here hx rfl (hb hby at_65) rfl rfl ?_
        refine XS.iload X45.here hx rfl (hb hby at_66) rfl ?_
        show Steps p.tables e below (T45.setTop (mkF m 68 #[iv p0_0, iv p0_1, iv p0_2, rv b1, iv (0 : Int32), iv (0 : Int32), .unset, .unset] [(.int (0 : Int32)), (.ref b1), (.ref b45), (.ref b45)])) _
        refine XS.iload X45.here hx rfl (hb hby at_68) rfl ?_
        show Steps p.tables e below (T45.setTop (mkF m 70 #[iv p0_0, iv p0_1, iv p0_2, rv b1, iv (0 : Int32), iv (0 : Int32), .unset, .unset] [(.int (0 : Int32)), (.int (0 : Int32)), (.ref b1), (.ref b45), (.ref b45)])) _
        refine st55.trans ?_
        show Steps p.tables e below (T55.setTop (mkF m 73 #[iv p0_0, iv p0_1, iv p0_2, rv b1, iv (0 : Int32), iv (0 : Int32), .unset, .unset] [(.ref b45)])) _
        refine XS.astore X55.here hx rfl (hb hby at_73) rfl rfl (l' := #[iv p0_0, iv p0_1, iv p0_2, rv b1, iv (0 : Int32), iv (0 : Int32), rv b45, .unset]) rfl ?_
        refine XS.iload X55.here hx rfl (hb hby at_75) rfl ?_
        show Steps p.tables e below (T55.setTop (mkF m 77 #[iv p0_0, iv p0_1, iv p0_2, rv b1, iv (0 : Int32), iv (0 : Int32), rv b45, .unset] [(.int (0 : Int32))])) _
        refine st59 _ ?_
        show Steps p.tables e below (T59.setTop (mkF m 80 #[iv p0_0, iv p0_1, iv p0_2, rv b1, iv (0 : Int32), iv (0 : Int32), rv b45, .unset] [(.int (own_p31 (0 : Int32)))])) _
        refine XS.aloadN X59.here hx rfl (hb hby at_80) rfl rfl ?_
        refine XS.iload X59.here hx rfl (hb hby at_81) rfl ?_
        refine XS.iload X59.here hx rfl (hb hby at_83) rfl ?_
        show Steps p.tables e below (T59.setTop (mkF m 85 #[iv p0_0, iv p0_1, iv p0_2, rv b1, iv (0 : Int32), iv (0 : Int32), rv b45, .unset] [(.int (0 : Int32)), (.int (0 : Int32)), (.ref b1), (.int (own_p31 (0 : Int32)))])) _
        refine XS.iconst X59.here hx rfl (hb hby at_85) ?_
        show Steps p.tables e below (T59.setTop (mkF m 86 #[iv p0_0, iv p0_1, iv p0_2, rv b1, iv (0 : Int32), iv (0 : Int32), rv b45, .unset] [(.int (0 : Int32)), (.int (0 : Int32)), (.int (0 : Int32)), (.ref b1), (.int (own_p31 (0 : Int32)))])) _
        refine st62 _ ?_
        show Steps p.tables e below (T62.setTop (mkF m 89 #[iv p0_0, iv p0_1, iv p0_2, rv b1, iv (0 : Int32), iv (0 : Int32), rv b45, .unset] [(.int (0 : Int32)), (.int (own_p31 (0 : Int32)))])) _
        refine XS.iadd X62.here hx rfl (hb hby at_89) rfl ?_
        refine XS.aloadN X62.here hx rfl (hb hby at_90) rfl rfl ?_
        show Steps p.tables e below (T62.setTop (mkF m 91 #[iv p0_0, iv p0_1, iv p0_2, rv b1, iv (0 : Int32), iv (0 : Int32), rv b45, .unset] [(.ref b1), (.int ((own_p31 (0 : Int32)) + (0 : Int32)))])) _
        refine XS.iload X62.here hx rfl (hb hby at_91) rfl ?_
        refine XS.iload X62.here hx rfl (hb hby at_93) rfl ?_
        refine XS.iconst X62.here hx rfl (hb hby at_95) ?_
        show Steps p.tables e below (T62.setTop (mkF m 96 #[iv p0_0, iv p0_1, iv p0_2, rv b1, iv (0 : Int32), iv (0 : Int32), rv b45, .unset] [(.int (1 : Int32)), (.int (0 : Int32)), (.int (0 : Int32)), (.ref b1), (.int ((own_p31 (0 : Int32)) + (0 : Int32)))])) _
        refine st64 _ ?_
        show Steps p.tables e below (T64.setTop (mkF m 99 #[iv p0_0, iv p0_1, iv p0_2, rv b1, iv (0 : Int32), iv (0 : Int32), rv b45, .unset] [(.int (0 : Int32)), (.int ((own_p31 (0 : Int32)) + (0 : Int32)))])) _
        refine XS.iadd X64.here hx rfl (hb hby at_99) rfl ?_
        refine XS.aloadN X64.here hx rfl (hb hby at_100) rfl rfl ?_
        refine XS.iload X64.here hx rfl (hb hby at_101) rfl ?_
        refine XS.iload X64.here hx rfl (hb hby at_103) rfl ?_
        show Steps p.tables e below (T64.setTop (mkF m 105 #[iv p0_0, iv p0_1, iv p0_2, rv b1, iv (0 : Int32), iv (0 : Int32), rv b45, .unset] [(.int (0 : Int32)), (.int (0 : Int32)), (.ref b1), (.int (((own_p31 (0 : Int32)) + (0 : Int32)) + (0 : Int32)))])) _
        refine XS.iconst X64.here hx rfl (hb hby at_105) ?_
        show Steps p.tables e below (T64.setTop (mkF m 106 #[iv p0_0, iv p0_1, iv p0_2, rv b1, iv (0 : Int32), iv (0 : Int32), rv b45, .unset] [(.int (2 : Int32)), (.int (0 : Int32)), (.int (0 : Int32)), (.ref b1), (.int (((own_p31 (0 : Int32)) + (0 : Int32)) + (0 : Int32)))])) _
        refine st66 _ ?_
        show Steps p.tables e below (T66.setTop (mkF m 109 #[iv p0_0, iv p0_1, iv p0_2, rv b1, iv (0 : Int32), iv (0 : Int32), rv b45, .unset] [(.int (0 : Int32)), (.int (((own_p31 (0 : Int32)) + (0 : Int32)) + (0 : Int32)))])) _
        refine XS.iadd X66.here hx rfl (hb hby at_109) rfl ?_
        refine XS.aloadN X66.here hx rfl (hb hby at_110) rfl rfl ?_
        show Steps p.tables e below (T66.setTop (mkF m 111 #[iv p0_0, iv p0_1, iv p0_2, rv b1, iv (0 : Int32), iv (0 : Int32), rv b45, .unset] [(.ref b1), (.int ((((own_p31 (0 : Int32)) + (0 : Int32)) + (0 : Int32)) + (0 : Int32)))])) _
        refine XS.iload X66.here hx rfl (hb hby at_111) rfl ?_
        refine XS.iload X66.here hx rfl (hb hby at_113) rfl ?_
        refine XS.iconst X66.here hx rfl (hb hby at_115) ?_
        show Steps p.tables e below (T66.setTop (mkF m 116 #[iv p0_0, iv p0_1, iv p0_2, rv b1, iv (0 : Int32), iv (0 : Int32), rv b45, .unset] [(.int (3 : Int32)), (.int (0 : Int32)), (.int (0 : Int32)), (.ref b1), (.int ((((own_p31 (0 : Int32)) + (0 : Int32)) + (0 : Int32)) + (0 : Int32)))])) _
        refine st68 _ ?_
        show Steps p.tables e below (T68.setTop (mkF m 119 #[iv p0_0, iv p0_1, iv p0_2, rv b1, iv (0 : Int32), iv (0 : Int32), rv b45, .unset] [(.int (0 : Int32)), (.int ((((own_p31 (0 : Int32)) + (0 : Int32)) + (0 : Int32)) + (0 : Int32)))])) _
        refine XS.iadd X68.here hx rfl (hb hby at_119) rfl ?_
        refine XS.aloadN X68.here hx rfl (hb hby at_120) rfl rfl ?_
        refine XS.iload X68.here hx rfl (hb hby at_121) rfl ?_
        refine XS.iload X68.here hx rfl (hb hby at_123) rfl ?_
        show Steps p.tables e below (T68.setTop (mkF m 125 #[iv p0_0, iv p0_1, iv p0_2, rv b1, iv (0 : Int32), iv (0 : Int32), rv b45, .unset] [(.int (0 : Int32)), (.int (0 : Int32)), (.ref b1), (.int (((((own_p31 (0 : Int32)) + (0 : Int32)) + (0 : Int32)) + (0 : Int32)) + (0 : Int32)))])) _
        refine XS.iconst X68.here hx rfl (hb hby at_125) ?_
        show Steps p.tables e below (T68.setTop (mkF m 126 #[iv p0_0, iv p0_1, iv p0_2, rv b1, iv (0 : Int32), iv (0 : Int32), rv b45, .unset] [(.int (4 : Int32)), (.int (0 : Int32)), (.int (0 : Int32)), (.ref b1), (.int (((((own_p31 (0 : Int32)) + (0 : Int32)) + (0 : Int32)) + (0 : Int32)) + (0 : Int32)))])) _
        refine st70 _ ?_
        show Steps p.tables e below (T70.setTop (mkF m 129 #[iv p0_0, iv p0_1, iv p0_2, rv b1, iv (0 : Int32), iv (0 : Int32), rv b45, .unset] [(.int (0 : Int32)), (.int (((((own_p31 (0 : Int32)) + (0 : Int32)) + (0 : Int32)) + (0 : Int32)) + (0 : Int32)))])) _
        refine XS.iadd X70.here hx rfl (hb hby at_129) rfl ?_
        refine XS.istore X70.here hx rfl (hb hby at_130) rfl (l' := #[iv p0_0, iv p0_1, iv p0_2, rv b1, iv (0 : Int32), iv (0 : Int32), rv b45, iv ((((((own_p31 (0 : Int32)) + (0 : Int32)) + (0 : Int32)) + (0 : Int32)) + (0 : Int32)) + (0 : Int32))]) rfl ?_
        show Steps p.tables e below (T70.setTop (mkF m 132 #[iv p0_0, iv p0_1, iv p0_2, rv b1, iv (0 : Int32), iv (0 : Int32), rv b45, iv ((((((own_p31 (0 : Int32)) + (0 : Int32)) + (0 : Int32)) + (0 : Int32)) + (0 : Int32)) + (0 : Int32))] [])) _
        refine XS.aload X70.here hx rfl (hb hby at_132) rfl rfl ?_
        show Steps p.tables e below (T70.setTop (mkF m 134 #[iv p0_0, iv p0_1, iv p0_2, rv b1, iv (0 : Int32), iv (0 : Int32), rv b45, iv ((((((own_p31 (0 : Int32)) + (0 : Int32)) + (0 : Int32)) + (0 : Int32)) + (0 : Int32)) + (0 : Int32))] [(.ref b45)])) _
        refine st73.trans ?_
        show Steps p.tables e below (T73.setTop (mkF m 137 #[iv p0_0, iv p0_1, iv p0_2, rv b1, iv (0 : Int32), iv (0 : Int32), rv b45, iv ((((((own_p31 (0 : Int32)) + (0 : Int32)) + (0 : Int32)) + (0 : Int32)) + (0 : Int32)) + (0 : Int32))] [(.int (1 : Int32))])) _
        refine XS.iload X73.here hx rfl (hb hby at_137) rfl ?_
        refine XS.icmpNo X73.here hx rfl (hb hby at_139) rfl (teq hc76).2 ?_
        show Steps p.tables e below (T73.setTop (mkF m 142 #[iv p0_0, iv p0_1, iv p0_2, rv b1, iv (0 : Int32), iv (0 : Int32), rv b45, iv ((((((own_p31 (0 : Int32)) + (0 : Int32)) + (0 : Int32)) + (0 : Int32)) + (0 : Int32)) + (0 : Int32))] [])) _
        refine XS.iconst X73.here hx rfl (hb hby at_142) ?_
        refine XS.goto X73.here hx rfl (pc0 := 143) (pc' := 147) rfl (hb hby at_143) (by decide) (by decide) ?_
        show Steps p.tables e below (T73.setTop (mkF m 147 #[iv p0_0, iv p0_1, iv p0_2, rv b1, iv (0 : Int32), iv (0 : Int32), rv b45, iv ((((((own_p31 (0 : Int32)) + (0 : Int32)) + (0 : Int32)) + (0 : Int32)) + (0 : Int32)) + (0 : Int32))] [(.int (1 : Int32))])) _
        exact retN X73 hx (t := .boolean) Bd.returns (by simp) (hb hby at_147) hr
      · show Q_rm0 Z _ _ _ h0 n0 _ T73.heap _
        rw [K73q]
        exact ⟨rfl, N75, (K58)⟩
    · skip
      obtain ⟨T77, h77, X77, e77, E77, A77, D77, -, st77⟩ := newO X32 hx hZ hown wo2 wo3 wo4 e32 (g := (mkF m 61 #[iv p0_0, iv p0_1, iv p0_2, rv b1, iv (0 : Int32), iv (1 : Int32), .unset, .unset] [])) rfl (hb hby at_61) (by decide) (by decide)
      obtain ⟨b77, gg77⟩ : ∃ z, z = h32.size := ⟨_, rfl⟩
      rw [← gg77] at A77 D77 st77
      have ne78 : b1 ≠ b77 := Nat.ne_of_lt (Nat.lt_of_lt_of_le f40.lt (Nat.le_of_eq gg77.symm))
      have f80 := (Nat.le_trans (Nat.le_trans (Nat.le_trans (Nat.le_trans (Nat.le_trans (Nat.le_trans Z0 E1.1) (Keep.of_wr W8).1) (Keep.of_wr W14).1) (Keep.of_wr W20).1) (Keep.of_wr W26).1) (Keep.of_wr W32).1)
      have g79 : n0 ≤ b77 := Nat.le_trans f80 (Nat.le_of_eq gg77.symm)
      have bz81 : h0.size ≤ b77 := Nat.le_trans (K33).1 (Nat.le_of_eq gg77.symm)
      have K82 : Keep h0 h77 [] := (K33).ext E77
      have f83 : Fld Z h77 b77 "com/example/tailwake/tailwake/source/mariadb/Slice" "array" "[B" .null := D77 (Or.inr wo20) (ty := (.array .byte)) (by decide)
      have f84 : Fld Z h77 b77 "com/example/tailwake/tailwake/source/mariadb/Slice" "offset" "I" (.int (0 : Int32)) := D77 (Or.inr wo22) (ty := .int) (by decide)
      have f85 : Fld Z h77 b77 "com/example/tailwake/tailwake/source/mariadb/Slice" "length" "I" (.int (0 : Int32)) := D77 (Or.inr wo24) (ty := .int) (by decide)
      have f86 := (f40.ext E77)
      have f88 := (Nat.le_trans f80 E77.1)
      obtain ⟨_, _, ⟨T87, L87, k87, n87⟩, -, X87, ⟨Lc87, hQ87, l87, y87, z87⟩, st87⟩ := X77.specialBack hx (y := MN1) rfl hown (mvT hZ wo5) (mvT hZ wo6) (mvT hZ wo7) (by decide) (backOf (W := 1) (rm1 l Z a0 hw [] b77 b1 (0 : Int32) (1 : Int32) h77 n0 f88 A77 g79 f83 f84 f85 f86.al (by first | decide | assumption | omega : ¬ ((((5 : Int32) ||| (0 : Int32)) ||| (1 : Int32)) < (0 : Int32))) (by first | decide | assumption | omega : ¬ (((5 : Int32) - (0 : Int32)) < (1 : Int32)))) hZ wo7 wo4 (by decide) (by decide)) (g := (mkF m 70 #[iv p0_0, iv p0_1, iv p0_2, rv b1, iv (0 : Int32), iv (1 : Int32), .unset, .unset] [(.int (1 : Int32)), (.int (0 : Int32)), (.ref b1), (.ref b77), (.ref b77)])) rfl (by rw [hml]; rfl) (Steps.refl _) (a := b77) (argsL := [(.ref b1), (.int (0 : Int32)), (.int (1 : Int32))]) (rest := [(.ref b77)]) (lenOf pd_5 rfl) rfl (by show 2 * 0 + _ ≤ _; exact Nat.le_of_eq rfl) (hb hby at_70) (fun _ _ => ⟨rfl, e77, (by decide : 2 + 0 ≤ _), (by decide : 8 + 0 ≤ _)⟩)
      dsimp only [Pt.U, Pt.locs, Pt.cells, Pt.slots] at X87 l87 y87 z87 st87 hQ87
      rw [l87, y87, z87] at X87
      obtain ⟨rfl, N87q, K87q, hq87_0, hq87_1, hq87_2⟩ := hQ87
      have N89 := Fr.app N35 N87q
      have K90 : Keep h0 T87.heap [] := (K82).trans K87q (allS (P := fun x => x ∈ [] ∨ h0.size ≤ x) (Or.inr bz81) all0)
      have f92 := (Nat.le_trans f88 K87q.1)
      obtain ⟨_, _, ⟨T91, L91, k91, n91⟩, -, X91, ⟨Lc91, hQ91, l91, y91, z91⟩, st91⟩ := Jvm.LawKit.callS X87 hx (y := MN5) hown (mvT hZ wo25) (mvT hZ wo26) (mvT hZ wo27) (mvT hZ wo28) (by decide) (backOf (W := 0) (rm5 l Z a0 hw [] (1 : Int32) (T87.heap) n0 f92 ) hZ wo28 wo27 (by decide) (by decide)) (g := (mkF m 77 #[iv p0_0, iv p0_1, iv p0_2, rv b1, iv (0 : Int32), iv (1 : Int32), rv b77, .unset] [(.int (1 : Int32))])) rfl (by rw [hml]; rfl) (argsL := [(.int (1 : Int32))]) (rest := []) (lenOf pd_2 rfl) rfl (by show 2 * 0 + _ ≤ _; exact Nat.le_of_eq rfl) (hb hby at_77) (fun _ _ => ⟨rfl, rfl, (by decide : 2 + 0 ≤ _), (by decide : 8 + 0 ≤ _)⟩)
      dsimp only [Pt.U, Pt.locs, Pt.cells, Pt.slots] at X91 l91 y91 z91 st91 hQ91
      rw [l91, y91, z91] at X91
      obtain ⟨rfl, N91q, K91q⟩ := hQ91
      have N93 := Fr.app N89 N91q
      have f94 := (f86.keep K87q (ninS ne78 nin0))
      obtain ⟨_, _, ⟨T95, L95, k95, n95⟩, -, X95, ⟨Lc95, hQ95, l95, y95, z95⟩, st95⟩ := Jvm.LawKit.callS X91 hx (y := MN6) hown (mvT hZ wo29) (mvT hZ wo30) (mvT hZ wo27) (mvT hZ wo31) (by decide) (backOf (W := 1) (rm_t0 l Z a0 hw [] b1 (0 : Int32) (1 : Int32) (0 : Int32) x0 x1 x2 x3 x4 (T87.heap) n0 f92 f94 (by first | decide | assumption | omega : (0 : Int32) < (1 : Int32)) (by first | decide | assumption | omega : ((0 : Int32) + (0 : Int32)) = (0 : Int32))) hZ wo31 wo27 (by decide) (by decide)) (g := (mkF m 86 #[iv p0_0, iv p0_1, iv p0_2, rv b1, iv (0 : Int32), iv (1 : Int32), rv b77, .unset] [(.int (0 : Int32)), (.int (1 : Int32)), (.int (0 : Int32)), (.ref b1), (.int (own_p31 (1 : Int32)))])) rfl (by rw [hml]; rfl) (argsL := [(.ref b1), (.int (0 : Int32)), (.int (1 : Int32)), (.int (0 : Int32))]) (rest := [(.int (own_p31 (1 : Int32)))]) (lenOf pd_6 rfl) rfl (by show 2 * 0 + _ ≤ _; exact Nat.le_of_eq rfl) (hb hby at_86) (fun _ _ => ⟨rfl, K91q, (by decide : 2 + 0 ≤ _), (by decide : 8 + 0 ≤ _)⟩)
      dsimp only [Pt.U, Pt.locs, Pt.cells, Pt.slots] at X95 l95 y95 z95 st95 hQ95
      rw [l95, y95, z95] at X95
      obtain ⟨rfl, N95q, K95q⟩ := hQ95
      have N96 := Fr.app N93 N95q
      obtain ⟨_, _, ⟨T97, L97, k97, n97⟩, -, X97, ⟨Lc97, hQ97, l97, y97, z97⟩, st97⟩ := Jvm.LawKit.callS X95 hx (y := MN6) hown (mvT hZ wo29) (mvT hZ wo30) (mvT hZ wo27) (mvT hZ wo31) (by decide) (backOf (W := 1) (rm_t l Z a0 hw [] b1 (0 : Int32) (1 : Int32) (1 : Int32) (T87.heap) n0 f92 (by first | decide | assumption | omega : ¬ ((1 : Int32) < (1 : Int32)))) hZ wo31 wo27 (by decide) (by decide)) (g := (mkF m 96 #[iv p0_0, iv p0_1, iv p0_2, rv b1, iv (0 : Int32), iv (1 : Int32), rv b77, .unset] [(.int (1 : Int32)), (.int (1 : Int32)), (.int (0 : Int32)), (.ref b1), (.int ((own_p31 (1 : Int32)) + (x0 * (own_p31 (0 : Int32)))))])) rfl (by rw [hml]; rfl) (argsL := [(.ref b1), (.int (0 : Int32)), (.int (1 : Int32)), (.int (1 : Int32))]) (rest := [(.int ((own_p31 (1 : Int32)) + (x0 * (own_p31 (0 : Int32)))))]) (lenOf pd_6 rfl) rfl (by show 2 * 0 + _ ≤ _; exact Nat.le_of_eq rfl) (hb hby at_96) (fun _ _ => ⟨rfl, K95q, (by decide : 2 + 0 ≤ _), (by decide : 8 + 0 ≤ _)⟩)
      dsimp only [Pt.U, Pt.locs, Pt.cells, Pt.slots] at X97 l97 y97 z97 st97 hQ97
      rw [l97, y97, z97] at X97
      obtain ⟨rfl, N97q, K97q⟩ := hQ97
      have N98 := Fr.app N96 N97q
      obtain ⟨_, _, ⟨T99, L99, k99, n99⟩, -, X99, ⟨Lc99, hQ99, l99, y99, z99⟩, st99⟩ := Jvm.LawKit.callS X97 hx (y := MN6) hown (mvT hZ wo29) (mvT hZ wo30) (mvT hZ wo27) (mvT hZ wo31) (by decide) (backOf (W := 1) (rm_t l Z a0 hw [] b1 (0 : Int32) (1 : Int32) (2 : Int32) (T87.heap) n0 f92 (by first | decide | assumption | omega : ¬ ((2 : Int32) < (1 : Int32)))) hZ wo31 wo27 (by decide) (by decide)) (g := (mkF m 106 #[iv p0_0, iv p0_1, iv p0_2, rv b1, iv (0 : Int32), iv (1 : Int32), rv b77, .unset] [(.int (2 : Int32)), (.int (1 : Int32)), (.int (0 : Int32)), (.ref b1), (.int (((own_p31 (1 : Int32)) + (x0 * (own_p31 (0 : Int32)))) + (0 : Int32)))])) rfl (by rw [hml]; rfl) (argsL := [(.ref b1), (.int (0 : Int32)), (.int (1 : Int32)), (.int (2 : Int32))]) (rest := [(.int (((own_p31 (1 : Int32)) + (x0 * (own_p31 (0 : Int32)))) + (0 : Int32)))]) (lenOf pd_6 rfl) rfl (by show 2 * 0 + _ ≤ _; exact Nat.le_of_eq rfl) (hb hby at_106) (fun _ _ => ⟨rfl, K97q, (by decide : 2 + 0 ≤ _), (by decide : 8 + 0 ≤ _)⟩)
      dsimp only [Pt.U, Pt.locs, Pt.cells, Pt.slots] at X99 l99 y99 z99 st99 hQ99
      rw [l99, y99, z99] at X99
      obtain ⟨rfl, N99q, K99q⟩ := hQ99
      have N100 := Fr.app N98 N99q
      obtain ⟨_, _, ⟨T101, L101, k101, n101⟩, -, X101, ⟨Lc101, hQ101, l101, y101, z101⟩, st101⟩ := Jvm.LawKit.callS X99 hx (y := MN6) hown (mvT hZ wo29) (mvT hZ wo30) (mvT hZ wo27) (mvT hZ wo31) (by decide) (backOf (W := 1) (rm_t l Z a0 hw [] b1 (0 : Int32) (1 : Int32) (3 : Int32) (T87.heap) n0 f92 (by first | decide | assumption | omega : ¬ ((3 : Int32) < (1 : Int32)))) hZ wo31 wo27 (by decide) (by decide)) (g := (mkF m 116 #[iv p0_0, iv p0_1, iv p0_2, rv b1, iv (0 : Int32), iv (1 : Int32), rv b77, .unset] [(.int (3 : Int32)), (.int (1 : Int32)), (.int (0 : Int32)), (.ref b1), (.int ((((own_p31 (1 : Int32)) + (x0 * (own_p31 (0 : Int32)))) + (0 : Int32)) + (0 : Int32)))])) rfl (by rw [hml]; rfl) (argsL := [(.ref b1), (.int (0 : Int32)), (.int (1 : Int32)), (.int (3 : Int32))]) (rest := [(.int ((((own_p31 (1 : Int32)) + (x0 * (own_p31 (0 : Int32)))) + (0 : Int32)) + (0 : Int32)))]) (lenOf pd_6 rfl) rfl (by show 2 * 0 + _ ≤ _; exact Nat.le_of_eq rfl) (hb hby at_116) (fun _ _ => ⟨rfl, K99q, (by decide : 2 + 0 ≤ _), (by decide : 8 + 0 ≤ _)⟩)
      dsimp only [Pt.U, Pt.locs, Pt.cells, Pt.slots] at X101 l101 y101 z101 st101 hQ101
      rw [l101, y101, z101] at X101
      obtain ⟨rfl, N101q, K101q⟩ := hQ101
      have N102 := Fr.app N100 N101q
      obtain ⟨_, _, ⟨T103, L103, k103, n103⟩, -, X103, ⟨Lc103, hQ103, l103, y103, z103⟩, st103⟩ := Jvm.LawKit.callS X101 hx (y := MN6) hown (mvT hZ wo29) (mvT hZ wo30) (mvT hZ wo27) (mvT hZ wo31) (by decide) (backOf (W := 1) (rm_t l Z a0 hw [] b1 (0 : Int32) (1 : Int32) (4 : Int32) (T87.heap) n0 f92 (by first | decide | assumption | omega : ¬ ((4 : Int32) < (1 : Int32)))) hZ wo31 wo27 (by decide) (by decide)) (g := (mkF m 126 #[iv p0_0, iv p0_1, iv p0_2, rv b1, iv (0 : Int32), iv (1 : Int32), rv b77, .unset] [(.int (4 : Int32)), (.int (1 : Int32)), (.int (0 : Int32)), (.ref b1), (.int (((((own_p31 (1 : Int32)) + (x0 * (own_p31 (0 : Int32)))) + (0 : Int32)) + (0 : Int32)) + (0 : Int32)))])) rfl (by rw [hml]; rfl) (argsL := [(.ref b1), (.int (0 : Int32)), (.int (1 : Int32)), (.int (4 : Int32))]) (rest := [(.int (((((own_p31 (1 : Int32)) + (x0 * (own_p31 (0 : Int32)))) + (0 : Int32)) + (0 : Int32)) + (0 : Int32)))]) (lenOf pd_6 rfl) rfl (by show 2 * 0 + _ ≤ _; exact Nat.le_of_eq rfl) (hb hby at_126) (fun _ _ => ⟨rfl, K101q, (by decide : 2 + 0 ≤ _), (by decide : 8 + 0 ≤ _)⟩)
      dsimp only [Pt.U, Pt.locs, Pt.cells, Pt.slots] at X103 l103 y103 z103 st103 hQ103
      rw [l103, y103, z103] at X103
      obtain ⟨rfl, N103q, K103q⟩ := hQ103
      have N104 := Fr.app N102 N103q
      have f106 := (A77.keep K87q)
      obtain ⟨cq105, kq105, q105a, q105b, q105c⟩ := isOf hZ K103q f106
      obtain ⟨_, _, ⟨T105, L105, k105, n105⟩, -, X105, ⟨Lc105, hQ105, l105, y105, z105⟩, st105⟩ := X103.virtualBack hx (y := MN7) (z := MN7) hown (mvT hZ wo32) (mvT hZ wo33) (notFace_of_selects (args := #[]) (mvT hZ wo35)) (mvT hZ wo35) (mvT hZ wo34) (by decide) (backOf (W := 0) (rm_h0_1 l Z a0 hw [] b77 b1 x0 x1 x2 x3 x4 (T87.heap) n0 f92 hq87_0 hq87_1 hq87_2 f94) hZ wo36 wo4 (by decide) (by decide)) q105a q105c (g := (mkF m 134 #[iv p0_0, iv p0_1, iv p0_2, rv b1, iv (0 : Int32), iv (1 : Int32), rv b77, iv ((((((own_p31 (1 : Int32)) + (x0 * (own_p31 (0 : Int32)))) + (0 : Int32)) + (0 : Int32)) + (0 : Int32)) + (0 : Int32))] [(.ref b77)])) rfl (by rw [hml]; rfl) (Steps.refl _) (argsL := []) (rest := []) (lenOf pd_0 rfl) rfl (by show 2 * 0 + _ ≤ _; exact Nat.le_of_eq rfl) (hb hby at_134) (fun _ _ => ⟨rfl, K103q, (by decide : 2 + 0 ≤ _), (by decide : 8 + 0 ≤ _)⟩)
      dsimp only [Pt.U, Pt.locs, Pt.cells, Pt.slots] at X105 l105 y105 z105 st105 hQ105
      rw [l105, y105, z105] at X105
      obtain ⟨rfl, N105q, K105q⟩ := hQ105
      have N107 := Fr.app N104 N105q
      have hc108 : ((31 : Int32) + x0) = ((((((own_p31 (1 : Int32)) + (x0 * (own_p31 (0 : Int32)))) + (0 : Int32)) + (0 : Int32)) + (0 : Int32)) + (0 : Int32)) := (by simp only [own_q0, own_q1, own_q2, own_q3, own_q4, own_q5]; first | rfl | grind)
      obtain ⟨fs, hr, hrun, hended, hW, hsame⟩ := X105.leave (v := some (.int (1 : Int32))) (fun h => by rw [Bd.returns] at h; cases h)
      refine ⟨_, _, pre43 _ ?_, hrun, hended, _, _, rfl, ?_, ⟨_, rfl⟩, hW, hsame.mono (by decide) (by decide)⟩
      · show Steps p.tables e below (T32.setTop (mkF m 61 #[iv p0_0, iv p0_1, iv p0_2, rv b1, iv (0 : Int32), iv (1 : Int32), .unset, .unset] [])) _
        refine st77 _ ?_
        show Steps p.tables e below (T77.setTop (mkF m 64 #[iv p0_0, iv p0_1, iv p0_2, rv b1, iv (0 : Int32), iv (1 : Int32), .unset, .unset] [(.ref b77)])) _
        refine XS.dup X77.here hx rfl (hb hby at_64) rfl rfl ?_
        show Steps p.tables e below (T77.setTop (mkF m 65 #[iv p0_0, iv p0_1, iv p0_2, rv b1, iv (0 : Int32), iv (1 : Int32), .unset, .unset] [(.ref b77), (.ref b77)])) _
        refine XS.aloadN X77.here hx rfl (hb hby at_65) rfl rfl ?_
        refine XS.iload X77.here hx rfl (hb hby at_66) rfl ?_
        refine XS.iload X77.here hx rfl (hb hby at_68) rfl ?_
        show Steps p.tables e below (T77.setTop (mkF m 70 #[iv p0_0, iv p0_1, iv p0_2, rv b1, iv (0 : Int32), iv (1 : Int32), .unset, .unset] [(.int (1 : Int32)), (.int (0 : Int32)), (.ref b1), (.ref b77), (.ref b77)])) _
        refine st87.trans ?_
        show Steps p.tables e below (T87.setTop (mkF m 73 #[iv p0_0, iv p0_1, iv p0_2, rv b1, iv (0 : Int32), iv (1 : Int32), .unset, .unset] [(.ref b77)])) _
        refine XS.astore X87.here hx rfl (hb hby at_73) rfl rfl (l' := #[iv p0_0, iv p0_1, iv p0_2, rv b1, iv (0 : Int32), iv (1 : Int32), rv b77, .unset]) rfl ?_
        refine XS.iload X87.here hx rfl (hb hby at_75) rfl ?_
        show Steps p.tables e below (T87.setTop (mkF m 77 #[iv p0_0, iv p0_1, iv p0_2, rv b1, iv (0 : Int32), iv (1 : Int32), rv b77, .unset] [(.int (1 : Int32))])) _
        refine st91 _ ?_
        show Steps p.tables e below (T91.setTop (mkF m 80 #[iv p0_0, iv p0_1, iv p0_2, rv b1, iv (0 : Int32), iv (1 : Int32), rv b77, .unset] [(.int (own_p31 (1 : Int32)))])) _
        refine XS.aloadN X91.here hx rfl (hb hby at_80) rfl rfl ?_
        show Steps p.tables e below (T91.setTop (mkF m 81 #[iv p0_0, iv p0_1, iv p0_2, rv b1, iv (0 : Int32), iv (1 : Int32), rv b77, .unset] [(.ref b1), (.int (own_p31 (1 : Int32)))])) _
        refine XS.iload X91.here hx rfl (hb hby at_81) rfl ?_
        refine XS.iload X91.here hx rfl (hb hby at_83) rfl ?_
        refine XS.iconst X91.here hx rfl (hb hby at_85) ?_
        show Steps p.tables e below (T91.setTop (mkF m 86 #[iv p0_0, iv p0_1, iv p0_2, rv b1, iv (0 : Int32), iv (1 : Int32), rv b77, .unset] [(.int (0 : Int32)), (.int (1 : Int32)), (.int (0 : Int32)), (.ref b1), (.int (own_p31 (1 : Int32)))])) _
        refine st95 _ ?_
        show Steps p.tables e below (T95.setTop (mkF m 89 #[iv p0_0, iv p0_1, iv p0_2, rv b1, iv (0 : Int32), iv (1 : Int32), rv b77, .unset] [(.int (x0 * (own_p31 (0 : Int32)))), (.int (own_p31 (1 : Int32)))])) _
        refine XS.iadd X95.here hx rfl (hb hby at_89) rfl ?_
        refine XS.aloadN X95.here hx rfl (hb hby at_90) rfl rfl ?_
        refine XS.iload X95.here hx rfl (hb hby at_91) rfl ?_
        refine XS.iload X95.here hx rfl (hb hby at_93) rfl ?_
        show Steps p.tables e below (T95.setTop (mkF m 95 #[iv p0_0, iv p0_1, iv p0_2, rv b1, iv (0 : Int32), iv (1 : Int32), rv b77, .unset] [(.int (1 : Int32)), (.int (0 : Int32)), (.ref b1), (.int ((own_p31 (1 : Int32)) + (x0 * (own_p31 (0 : Int32)))))])) _
        refine XS.iconst X95.here hx rfl (hb hby at_95) ?_
        show Steps p.tables e below (T95.setTop (mkF m 96 #[iv p0_0, iv p0_1, iv p0_2, rv b1, iv (0 : Int32), iv (1 : Int32), rv b77, .unset] [(.int (1 : Int32)), (.int (1 : Int32)), (.int (0 : Int32)), (.ref b1), (.int ((own_p31 (1 : Int32)) + (x0 * (own_p31 (0 : Int32)))))])) _
        refine st97 _ ?_
        show Steps p.tables e below (T97.setTop (mkF m 99 #[iv p0_0, iv p0_1, iv p0_2, rv b1, iv (0 : Int32), iv (1 : Int32), rv b77, .unset] [(.int (0 : Int32)), (.int ((own_p31 (1 : Int32)) + (x0 * (own_p31 (0 : Int32)))))])) _
        refine XS.iadd X97.here hx rfl (hb hby at_99) rfl ?_
        refine XS.aloadN X97.here hx rfl (hb hby at_100) rfl rfl ?_
        show Steps p.tables e below (T97.setTop (mkF m 101 #[iv p0_0, iv p0_1, iv p0_2, rv b1, iv (0 : Int32), iv (1 : Int32), rv b77, .unset] [(.ref b1), (.int (((own_p31 (1 : Int32)) + (x0 * (own_p31 (0 : Int32)))) + (0 : Int32)))])) _
        refine XS.iload X97.here hx rfl (hb hby at_101) rfl ?_
        refine XS.iload X97.here hx rfl (hb hby at_103) rfl ?_
        refine XS.iconst X97.here hx rfl (hb hby at_105) ?_
        show Steps p.tables e below (T97.setTop (mkF m 106 #[iv p0_0, iv p0_1, iv p0_2, rv b1, iv (0 : Int32), iv (1 : Int32), rv b77, .unset] [(.int (2 : Int32)), (.int (1 : Int32)), (.int (0 : Int32)), (.ref b1), (.int (((own_p31 (1 : Int32)) + (x0 * (own_p31 (0 : Int32)))) + (0 : Int32)))])) _
        refine st99 _ ?_
        show Steps p.tables e below (T99.setTop (mkF m 109 #[iv p0_0, iv p0_1, iv p0_2, rv b1, iv (0 : Int32), iv (1 : Int32), rv b77, .unset] [(.int (0 : Int32)), (.int (((own_p31 (1 : Int32)) + (x0 * (own_p31 (0 : Int32)))) + (0 : Int32)))])) _
        refine XS.iadd X99.here hx rfl (hb hby at_109) rfl ?_
        refine XS.aloadN X99.here hx rfl (hb hby at_110) rfl rfl ?_
        refine XS.iload X99.here hx rfl (hb hby at_111) rfl ?_
        refine XS.iload X99.here hx rfl (hb hby at_113) rfl ?_
        show Steps p.tables e below (T99.setTop (mkF m 115 #[iv p0_0, iv p0_1, iv p0_2, rv b1, iv (0 : Int32), iv (1 : Int32), rv b77, .unset] [(.int (1 : Int32)), (.int (0 : Int32)), (.ref b1), (.int ((((own_p31 (1 : Int32)) + (x0 * (own_p31 (0 : Int32)))) + (0 : Int32)) + (0 : Int32)))])) _
        refine XS.iconst X99.here hx rfl (hb hby at_115) ?_
        show Steps p.tables e below (T99.setTop (mkF m 116 #[iv p0_0, iv p0_1, iv p0_2, rv b1, iv (0 : Int32), iv (1 : Int32), rv b77, .unset] [(.int (3 : Int32)), (.int (1 : Int32)), (.int (0 : Int32)), (.ref b1), (.int ((((own_p31 (1 : Int32)) + (x0 * (own_p31 (0 : Int32)))) + (0 : Int32)) + (0 : Int32)))])) _
        refine st101 _ ?_
        show Steps p.tables e below (T101.setTop (mkF m 119 #[iv p0_0, iv p0_1, iv p0_2, rv b1, iv (0 : Int32), iv (1 : Int32), rv b77, .unset] [(.int (0 : Int32)), (.int ((((own_p31 (1 : Int32)) + (x0 * (own_p31 (0 : Int32)))) + (0 : Int32)) + (0 : Int32)))])) _
        refine XS.iadd X101.here hx rfl (hb hby at_119) rfl ?_
        refine XS.aloadN X101.here hx rfl (hb hby at_120) rfl rfl ?_
        show Steps p.tables e below (T101.setTop (mkF m 121 #[iv p0_0, iv p0_1, iv p0_2, rv b1, iv (0 : Int32), iv (1 : Int32), rv b77, .unset] [(.ref b1), (.int (((((own_p31 (1 : Int32)) + (x0 * (own_p31 (0 : Int32)))) + (0 : Int32)) + (0 : Int32)) + (0 : Int32)))])) _
        refine XS.iload X101.here hx rfl (hb hby at_121) rfl ?_
        refine XS.iload X101.here hx rfl (hb hby at_123) rfl ?_
        refine XS.iconst X101.here hx rfl (hb hby at_125) ?_
        show Steps p.tables e below (T101.setTop (mkF m 126 #[iv p0_0, iv p0_1, iv p0_2, rv b1, iv (0 : Int32), iv (1 : Int32), rv b77, .unset] [(.int (4 : Int32)), (.int (1 : Int32)), (.int (0 : Int32)), (.ref b1), (.int (((((own_p31 (1 : Int32)) + (x0 * (own_p31 (0 : Int32)))) + (0 : Int32)) + (0 : Int32)) + (0 : Int32)))])) _
        refine st103 _ ?_
        show Steps p.tables e below (T103.setTop (mkF m 129 #[iv p0_0, iv p0_1, iv p0_2, rv b1, iv (0 : Int32), iv (1 : Int32), rv b77, .unset] [(.int (0 : Int32)), (.int (((((own_p31 (1 : Int32)) + (x0 * (own_p31 (0 : Int32)))) + (0 : Int32)) + (0 : Int32)) + (0 : Int32)))])) _
        refine XS.iadd X103.here hx rfl (hb hby at_129) rfl ?_
        refine XS.istore X103.here hx rfl (hb hby at_130) rfl (l' := #[iv p0_0, iv p0_1, iv p0_2, rv b1, iv (0 : Int32), iv (1 : Int32), rv b77, iv ((((((own_p31 (1 : Int32)) + (x0 * (own_p31 (0 : Int32)))) + (0 : Int32)) + (0 : Int32)) + (0 : Int32)) + (0 : Int32))]) rfl ?_
        refine XS.aload X103.here hx rfl (hb hby at_132) rfl rfl ?_
        show Steps p.tables e below (T103.setTop (mkF m 134 #[iv p0_0, iv p0_1, iv p0_2, rv b1, iv (0 : Int32), iv (1 : Int32), rv b77, iv ((((((own_p31 (1 : Int32)) + (x0 * (own_p31 (0 : Int32)))) + (0 : Int32)) + (0 : Int32)) + (0 : Int32)) + (0 : Int32))] [(.ref b77)])) _
        refine st105.trans ?_
        show Steps p.tables e below (T105.setTop (mkF m 137 #[iv p0_0, iv p0_1, iv p0_2, rv b1, iv (0 : Int32), iv (1 : Int32), rv b77, iv ((((((own_p31 (1 : Int32)) + (x0 * (own_p31 (0 : Int32)))) + (0 : Int32)) + (0 : Int32)) + (0 : Int32)) + (0 : Int32))] [(.int ((31 : Int32) + x0))])) _
        refine XS.iload X105.here hx rfl (hb hby at_137) rfl ?_
        refine XS.icmpNo X105.here hx rfl (hb hby at_139) rfl (teq hc108).2 ?_
        refine XS.iconst X105.here hx rfl (hb hby at_142) ?_
        refine XS.goto X105.here hx rfl (pc0 := 143) (pc' := 147) rfl (hb hby at_143) (by decide) (by decide) ?_
        show Steps p.tables e below (T105.setTop (mkF m 147 #[iv p0_0, iv p0_1, iv p0_2, rv b1, iv (0 : Int32), iv (1 : Int32), rv b77, iv ((((((own_p31 (1 : Int32)) + (x0 * (own_p31 (0 : Int32)))) + (0 : Int32)) + (0 : Int32)) + (0 : Int32)) + (0 : Int32))] [(.int (1 : Int32))])) _
        exact retN X105 hx (t := .boolean) Bd.returns (by simp) (hb hby at_147) hr
      · show Q_rm0 Z _ _ _ h0 n0 _ T105.heap _
        rw [K105q]
        exact ⟨rfl, N107, (K90)⟩
    · skip
      obtain ⟨T109, h109, X109, e109, E109, A109, D109, -, st109⟩ := newO X32 hx hZ hown wo2 wo3 wo4 e32 (g := (mkF m 61 #[iv p0_0, iv p0_1, iv p0_2, rv b1, iv (0 : Int32), iv (2 : Int32), .unset, .unset] [])) rfl (hb hby at_61) (by decide) (by decide)
      obtain ⟨b109, gg109⟩ : ∃ z, z = h32.size := ⟨_, rfl⟩
      rw [← gg109] at A109 D109 st109
      have ne110 : b1 ≠ b109 := Nat.ne_of_lt (Nat.lt_of_lt_of_le f40.lt (Nat.le_of_eq gg109.symm))
      have f112 := (Nat.le_trans (Nat.le_trans (Nat.le_trans (Nat.le_trans (Nat.le_trans (Nat.le_trans Z0 E1.1) (Keep.of_wr W8).1) (Keep.of_wr W14).1) (Keep.of_wr W20).1) (Keep.of_wr W26).1) (Keep.of_wr W32).1)
      have g111 : n0 ≤ b109 := Nat.le_trans f112 (Nat.le_of_eq gg109.symm)
      have bz113 : h0.size ≤ b109 := Nat.le_trans (K33).1 (Nat.le_of_eq gg109.symm)
      have K114 : Keep h0 h109 [] := (K33).ext E109
      have f115 : Fld Z h109 b109 "com/example/tailwake/tailwake/source/mariadb/Slice" "array" "[B" .null := D109 (Or.inr wo20) (ty := (.array .byte)) (by decide)
      have f116 : Fld Z h109 b109 "com/example/tailwake/tailwake/source/mariadb/Slice" "offset" "I" (.int (0 : Int32)) := D109 (Or.inr wo22) (ty := .int) (by decide)
      have f117 : Fld Z h109 b109 "com/example/tailwake/tailwake/source/mariadb/Slice" "length" "I" (.int (0 : Int32)) := D109 (Or.inr wo24) (ty := .int) (by decide)
      have f118 := (f40.ext E109)
      have f120 := (Nat.le_trans f112 E109.1)
      obtain ⟨_, _, ⟨T119, L119, k119, n119⟩, -, X119, ⟨Lc119, hQ119, l119, y119, z119⟩, st119⟩ := X109.specialBack hx (y := MN1) rfl hown (mvT hZ wo5) (mvT hZ wo6) (mvT hZ wo7) (by decide) (backOf (W := 1) (rm1 l Z a0 hw [] b109 b1 (0 : Int32) (2 : Int32) h109 n0 f120 A109 g111 f115 f116 f117 f118.al (by first | decide | assumption | omega : ¬ ((((5 : Int32) ||| (0 : Int32)) ||| (2 : Int32)) < (0 : Int32))) (by first | decide | assumption | omega : ¬ (((5 : Int32) - (0 : Int32)) < (2 : Int32)))) hZ wo7 wo4 (by decide) (by decide)) (g := (mkF m 70 #[iv p0_0, iv p0_1, iv p0_2, rv b1, iv (0 : Int32), iv (2 : Int32), .unset, .unset] [(.int (2 : Int32)), (.int (0 : Int32)), (.ref b1), (.ref b109), (.ref b109)])) rfl (by rw [hml]; rfl) (Steps.refl _) (a := b109) (argsL := [(.ref b1), (.int (0 : Int32)), (.int (2 : Int32))]) (rest := [(.ref b109)]) (lenOf pd_5 rfl) rfl (by show 2 * 0 + _ ≤ _; exact Nat.le_of_eq rfl) (hb hby at_70) (fun _ _ => ⟨rfl, e109, (by decide : 2 + 0 ≤ _), (by decide : 8 + 0 ≤ _)⟩)
      dsimp only [Pt.U, Pt.locs, Pt.cells, Pt.slots] at X119 l119 y119 z119 st119 hQ119
      rw [l119, y119, z119] at X119
      obtain ⟨rfl, N119q, K119q, hq119_0, hq119_1, hq119_2⟩ := hQ119
      have N121 := Fr.app N35 N119q
      have K122 : Keep h0 T119.heap [] := (K114).trans K119q (allS (P := fun x => x ∈ [] ∨ h0.size ≤ x) (Or.inr bz113) all0)
      have f124 := (Nat.le_trans f120 K119q.1)
      obtain ⟨_, _, ⟨T123, L123, k123, n123⟩, -, X123, ⟨Lc123, hQ123, l123, y123, z123⟩, st123⟩ := Jvm.LawKit.callS X119 hx (y := MN5) hown (mvT hZ wo25) (mvT hZ wo26) (mvT hZ wo27) (mvT hZ wo28) (by decide) (backOf (W := 0) (rm5 l Z a0 hw [] (2 : Int32) (T119.heap) n0 f124 ) hZ wo28 wo27 (by decide) (by decide)) (g := (mkF m 77 #[iv p0_0, iv p0_1, iv p0_2, rv b1, iv (0 : Int32), iv (2 : Int32), rv b109, .unset] [(.int (2 : Int32))])) rfl (by rw [hml]; rfl) (argsL := [(.int (2 : Int32))]) (rest := []) (lenOf pd_2 rfl) rfl (by show 2 * 0 + _ ≤ _; exact Nat.le_of_eq rfl) (hb hby at_77) (fun _ _ => ⟨rfl, rfl, (by decide : 2 + 0 ≤ _), (by decide : 8 + 0 ≤ _)⟩)
      dsimp only [Pt.U, Pt.locs, Pt.cells, Pt.slots] at X123 l123 y123 z123 st123 hQ123
      rw [l123, y123, z123] at X123
      obtain ⟨rfl, N123q, K123q⟩ := hQ123
      have N125 := Fr.app N121 N123q
      have f126 := (f118.keep K119q (ninS ne110 nin0))
      obtain ⟨_, _, ⟨T127, L127, k127, n127⟩, -, X127, ⟨Lc127, hQ127, l127, y127, z127⟩, st127⟩ := Jvm.LawKit.callS X123 hx (y := MN6) hown (mvT hZ wo29) (mvT hZ wo30) (mvT hZ wo27) (mvT hZ wo31) (by decide) (backOf (W := 1) (rm_t0 l Z a0 hw [] b1 (0 : Int32) (2 : Int32) (0 : Int32) x0 x1 x2 x3 x4 (T119.heap) n0 f124 f126 (by first | decide | assumption | omega : (0 : Int32) < (2 : Int32)) (by first | decide | assumption | omega : ((0 : Int32) + (0 : Int32)) = (0 : Int32))) hZ wo31 wo27 (by decide) (by decide)) (g := (mkF m 86 #[iv p0_0, iv p0_1, iv p0_2, rv b1, iv (0 : Int32), iv (2 : Int32), rv b109, .unset] [(.int (0 : Int32)), (.int (2 : Int32)), (.int (0 : Int32)), (.ref b1), (.int (own_p31 (2 : Int32)))])) rfl (by rw [hml]; rfl) (argsL := [(.ref b1), (.int (0 : Int32)), (.int (2 : Int32)), (.int (0 : Int32))]) (rest := [(.int (own_p31 (2 : Int32)))]) (lenOf pd_6 rfl) rfl (by show 2 * 0 + _ ≤ _; exact Nat.le_of_eq rfl) (hb hby at_86) (fun _ _ => ⟨rfl, K123q, (by decide : 2 + 0 ≤ _), (by decide : 8 + 0 ≤ _)⟩)
      dsimp only [Pt.U, Pt.locs, Pt.cells, Pt.slots] at X127 l127 y127 z127 st127 hQ127
      rw [l127, y127, z127] at X127
      obtain ⟨rfl, N127q, K127q⟩ := hQ127
      have N128 := Fr.app N125 N127q
      obtain ⟨_, _, ⟨T129, L129, k129, n129⟩, -, X129, ⟨Lc129, hQ129, l129, y129, z129⟩, st129⟩ := Jvm.LawKit.callS X127 hx (y := MN6) hown (mvT hZ wo29) (mvT hZ wo30) (mvT hZ wo27) (mvT hZ wo31) (by decide) (backOf (W := 1) (rm_t1 l Z a0 hw [] b1 (0 : Int32) (2 : Int32) (1 : Int32) x0 x1 x2 x3 x4 (T119.heap) n0 f124 f126 (by first | decide | assumption | omega : (1 : Int32) < (2 : Int32)) (by first | decide | assumption | omega : ((0 : Int32) + (1 : Int32)) = (1 : Int32))) hZ wo31 wo27 (by decide) (by decide)) (g := (mkF m 96 #[iv p0_0, iv p0_1, iv p0_2, rv b1, iv (0 : Int32), iv (2 : Int32), rv b109, .unset] [(.int (1 : Int32)), (.int (2 : Int32)), (.int (0 : Int32)), (.ref b1), (.int ((own_p31 (2 : Int32)) + (x0 * (own_p31 (1 : Int32)))))])) rfl (by rw [hml]; rfl) (argsL := [(.ref b1), (.int (0 : Int32)), (.int (2 : Int32)), (.int (1 : Int32))]) (rest := [(.int ((own_p31 (2 : Int32)) + (x0 * (own_p31 (1 : Int32)))))]) (lenOf pd_6 rfl) rfl (by show 2 * 0 + _ ≤ _; exact Nat.le_of_eq rfl) (hb hby at_96) (fun _ _ => ⟨rfl, K127q, (by decide : 2 + 0 ≤ _), (by decide : 8 + 0 ≤ _)⟩)
      dsimp only [Pt.U, Pt.locs, Pt.cells, Pt.slots] at X129 l129 y129 z129 st129 hQ129
      rw [l129, y129, z129] at X129
      obtain ⟨rfl, N129q, K129q⟩ := hQ129
      have N130 := Fr.app N128 N129q
      obtain ⟨_, _, ⟨T131, L131, k131, n131⟩, -, X131, ⟨Lc131, hQ131, l131, y131, z131⟩, st131⟩ := Jvm.LawKit.callS X129 hx (y := MN6) hown (mvT hZ wo29) (mvT hZ wo30) (mvT hZ wo27) (mvT hZ wo31) (by decide) (backOf (W := 1) (rm_t l Z a0 hw [] b1 (0 : Int32) (2 : Int32) (2 : Int32) (T119.heap) n0 f124 (by first | decide | assumption | omega : ¬ ((2 : Int32) < (2 : Int32)))) hZ wo31 wo27 (by decide) (by decide)) (g := (mkF m 106 #[iv p0_0, iv p0_1, iv p0_2, rv b1, iv (0 : Int32), iv (2 : Int32), rv b109, .unset] [(.int (2 : Int32)), (.int (2 : Int32)), (.int (0 : Int32)), (.ref b1), (.int (((own_p31 (2 : Int32)) + (x0 * (own_p31 (1 : Int32)))) + (x1 * (own_p31 (0 : Int32)))))])) rfl (by rw [hml]; rfl) (argsL := [(.ref b1), (.int (0 : Int32)), (.int (2 : Int32)), (.int (2 : Int32))]) (rest := [(.int (((own_p31 (2 : Int32)) + (x0 * (own_p31 (1 : Int32)))) + (x1 * (own_p31 (0 : Int32)))))]) (lenOf pd_6 rfl) rfl (by show 2 * 0 + _ ≤ _; exact Nat.le_of_eq rfl) (hb hby at_106) (fun _ _ => ⟨rfl, K129q, (by decide : 2 + 0 ≤ _), (by decide : 8 + 0 ≤ _)⟩)
      dsimp only [Pt.U, Pt.locs, Pt.cells, Pt.slots] at X131 l131 y131 z131 st131 hQ131
      rw [l131, y131, z131] at X131
      obtain ⟨rfl, N131q, K131q⟩ := hQ131
      have N132 := Fr.app N130 N131q
      obtain ⟨_, _, ⟨T133, L133, k133, n133⟩, -, X133, ⟨Lc133, hQ133, l133, y133, z133⟩, st133⟩ := Jvm.LawKit.callS X131 hx (y := MN6) hown (mvT hZ wo29) (mvT hZ wo30) (mvT hZ wo27) (mvT hZ wo31) (by decide) (backOf (W := 1) (rm_t l Z a0 hw [] b1 (0 : Int32) (2 : Int32) (3 : Int32) (T119.heap) n0 f124 (by first | decide | assumption | omega : ¬ ((3 : Int32) < (2 : Int32)))) hZ wo31 wo27 (by decide) (by decide)) (g := (mkF m 116 #[iv p0_0, iv p0_1, iv p0_2, rv b1, iv (0 : Int32), iv (2 : Int32), rv b109, .unset] [(.int (3 : Int32)), (.int (2 : Int32)), (.int (0 : Int32)), (.ref b1), (.int ((((own_p31 (2 : Int32)) + (x0 * (own_p31 (1 : Int32)))) + (x1 * (own_p31 (0 : Int32)))) + (0 : Int32)))])) rfl (by rw [hml]; rfl) (argsL := [(.ref b1), (.int (0 : Int32)), (.int (2 : Int32)), (.int (3 : Int32))]) (rest := [(.int ((((own_p31 (2 : Int32)) + (x0 * (own_p31 (1 : Int32)))) + (x1 * (own_p31 (0 : Int32)))) + (0 : Int32)))]) (lenOf pd_6 rfl) rfl (by show 2 * 0 + _ ≤ _; exact Nat.le_of_eq rfl) (hb hby at_116) (fun _ _ => ⟨rfl, K131q, (by decide : 2 + 0 ≤ _), (by decide : 8 + 0 ≤ _)⟩)
      dsimp only [Pt.U, Pt.locs, Pt.cells, Pt.slots] at X133 l133 y133 z133 st133 hQ133
      rw [l133, y133, z133] at X133
      obtain ⟨rfl, N133q, K133q⟩ := hQ133
      have N134 := Fr.app N132 N133q
      obtain ⟨_, _, ⟨T135, L135, k135, n135⟩, -, X135, ⟨Lc135, hQ135, l135, y135, z135⟩, st135⟩ := Jvm.LawKit.callS X133 hx (y := MN6) hown (mvT hZ wo29) (mvT hZ wo30) (mvT hZ wo27) (mvT hZ wo31) (by decide) (backOf (W := 1) (rm_t l Z a0 hw [] b1 (0 : Int32) (2 : Int32) (4 : Int32) (T119.heap) n0 f124 (by first | decide | assumption | omega : ¬ ((4 : Int32) < (2 : Int32)))) hZ wo31 wo27 (by decide) (by decide)) (g := (mkF m 126 #[iv p0_0, iv p0_1, iv p0_2, rv b1, iv (0 : Int32), iv (2 : Int32), rv b109, .unset] [(.int (4 : Int32)), (.int (2 : Int32)), (.int (0 : Int32)), (.ref b1), (.int (((((own_p31 (2 : Int32)) + (x0 * (own_p31 (1 : Int32)))) + (x1 * (own_p31 (0 : Int32)))) + (0 : Int32)) + (0 : Int32)))])) rfl (by rw [hml]; rfl) (argsL := [(.ref b1), (.int (0 : Int32)), (.int (2 : Int32)), (.int (4 : Int32))]) (rest := [(.int (((((own_p31 (2 : Int32)) + (x0 * (own_p31 (1 : Int32)))) + (x1 * (own_p31 (0 : Int32)))) + (0 : Int32)) + (0 : Int32)))]) (lenOf pd_6 rfl) rfl (by show 2 * 0 + _ ≤ _; exact Nat.le_of_eq rfl) (hb hby at_126) (fun _ _ => ⟨rfl, K133q, (by decide : 2 + 0 ≤ _), (by decide : 8 + 0 ≤ _)⟩)
      dsimp only [Pt.U, Pt.locs, Pt.cells, Pt.slots] at X135 l135 y135 z135 st135 hQ135
      rw [l135, y135, z135] at X135
      obtain ⟨rfl, N135q, K135q⟩ := hQ135
      have N136 := Fr.app N134 N135q
      have f138 := (A109.keep K119q)
      obtain ⟨cq137, kq137, q137a, q137b, q137c⟩ := isOf hZ K135q f138
      obtain ⟨_, _, ⟨T137, L137, k137, n137⟩, -, X137, ⟨Lc137, hQ137, l137, y137, z137⟩, st137⟩ := X135.virtualBack hx (y := MN7) (z := MN7) hown (mvT hZ wo32) (mvT hZ wo33) (notFace_of_selects (args := #[]) (mvT hZ wo35)) (mvT hZ wo35) (mvT hZ wo34) (by decide) (backOf (W := 0) (rm_h0_2 l Z a0 hw [] b109 b1 x0 x1 x2 x3 x4 (T119.heap) n0 f124 hq119_0 hq119_1 hq119_2 f126) hZ wo36 wo4 (by decide) (by decide)) q137a q137c (g := (mkF m 134 #[iv p0_0, iv p0_1, iv p0_2, rv b1, iv (0 : Int32), iv (2 : Int32), rv b109, iv ((((((own_p31 (2 : Int32)) + (x0 * (own_p31 (1 : Int32)))) + (x1 * (own_p31 (0 : Int32)))) + (0 : Int32)) + (0 : Int32)) + (0 : Int32))] [(.ref b109)])) rfl (by rw [hml]; rfl) (Steps.refl _) (argsL := []) (rest := []) (lenOf pd_0 rfl) rfl (by show 2 * 0 + _ ≤ _; exact Nat.le_of_eq rfl) (hb hby at_134) (fun _ _ => ⟨rfl, K135q, (by decide : 2 + 0 ≤ _), (by decide : 8 + 0 ≤ _)⟩)
      dsimp only [Pt.U, Pt.locs, Pt.cells, Pt.slots] at X137 l137 y137 z137 st137 hQ137
      rw [l137, y137, z137] at X137
      obtain ⟨rfl, N137q, K137q⟩ := hQ137
      have N139 := Fr.app N136 N137q
      have hc140 : (((31 : Int32) * ((31 : Int32) + x0)) + x1) = ((((((own_p31 (2 : Int32)) + (x0 * (own_p31 (1 : Int32)))) + (x1 * (own_p31 (0 : Int32)))) + (0 : Int32)) + (0 : Int32)) + (0 : Int32)) := (by simp only [own_q0, own_q1, own_q2, own_q3, own_q4, own_q5]; first | rfl | grind)
      obtain ⟨fs, hr, hrun, hended, hW, hsame⟩ := X137.leave (v := some (.int (1 : Int32))) (fun h => by rw [Bd.returns] at h; cases h)
      refine ⟨_, _, pre43 _ ?_, hrun, hended, _, _, rfl, ?_, ⟨_, rfl⟩, hW, hsame.mono (by decide) (by decide)⟩
      · show Steps p.tables e below (T32.setTop (mkF m 61 #[iv p0_0, iv p0_1, iv p0_2, rv b1, iv (0 : Int32), iv (2 : Int32), .unset, .unset] [])) _
        refine st109 _ ?_
        show Steps p.tables e below (T109.setTop (mkF m 64 #[iv p0_0, iv p0_1, iv p0_2, rv b1, iv (0 : Int32), iv (2 : Int32), .unset, .unset] [(.ref b109)])) _
        refine XS.dup X109.here hx rfl (hb hby at_64) rfl rfl ?_
        refine XS.aloadN X109.here hx rfl (hb hby at_65) rfl rfl ?_
        refine XS.iload X109.here hx rfl (hb hby at_66) rfl ?_
        show Steps p.tables e below (T109.setTop (mkF m 68 #[iv p0_0, iv p0_1, iv p0_2, rv b1, iv (0 : Int32), iv (2 : Int32), .unset, .unset] [(.int (0 : Int32)), (.ref b1), (.ref b109), (.ref b109)])) _
        refine XS.iload X109.here hx rfl (hb hby at_68) rfl ?_
        show Steps p.tables e below (T109.setTop (mkF m 70 #[iv p0_0, iv p0_1, iv p0_2, rv b1, iv (0 : Int32), iv (2 : Int32), .unset, .unset] [(.int (2 : Int32)), (.int (0 : Int32)), (.ref b1), (.ref b109), (.ref b109)])) _
        refine st119.trans ?_
        show Steps p.tables e below (T119.setTop (mkF m 73 #[iv p0_0, iv p0_1, iv p0_2, rv b1, iv (0 : Int32), iv (2 : Int32), .unset, .unset] [(.ref b109)])) _
        refine XS.astore X119.here hx rfl (hb hby at_73) rfl rfl (l' := #[iv p0_0, iv p0_1, iv p0_2, rv b1, iv (0 : Int32), iv (2 : Int32), rv b109, .unset]) rfl ?_
        refine XS.iload X119.here hx rfl (hb hby at_75) rfl ?_
        show Steps p.tables e below (T119.setTop (mkF m 77 #[iv p0_0, iv p0_1, iv p0_2, rv b1, iv (0 : Int32), iv (2 : Int32), rv b109, .unset] [(.int (2 : Int32))])) _
        refine st123 _ ?_
        show Steps p.tables e below (T123.setTop (mkF m 80 #[iv p0_0, iv p0_1, iv p0_2, rv b1, iv (0 : Int32), iv (2 : Int32), rv b109, .unset] [(.int (own_p31 (2 : Int32)))])) _
        refine XS.aloadN X123.here hx rfl (hb hby at_80) rfl rfl ?_
        refine XS.iload X123.here hx rfl (hb hby at_81) rfl ?_
        refine XS.iload X123.here hx rfl (hb hby at_83) rfl ?_
        show Steps p.tables e below (T123.setTop (mkF m 85 #[iv p0_0, iv p0_1, iv p0_2, rv b1, iv (0 : Int32), iv (2 : Int32), rv b109, .unset] [(.int (2 : Int32)), (.int (0 : Int32)), (.ref b1), (.int (own_p31 (2 : Int32)))])) _
        refine XS.iconst X123.here hx rfl (hb hby at_85) ?_
        show Steps p.tables e below (T123.setTop (mkF m 86 #[iv p0_0, iv p0_1, iv p0_2, rv b1, iv (0 : Int32), iv (2 : Int32), rv b109, .unset] [(.int (0 : Int32)), (.int (2 : Int32)), (.int (0 : Int32)), (.ref b1), (.int (own_p31 (2 : Int32)))])) _
        refine st127 _ ?_
        show Steps p.tables e below (T127.setTop (mkF m 89 #[iv p0_0, iv p0_1, iv p0_2, rv b1, iv (0 : Int32), iv (2 : Int32), rv b109, .unset] [(.int (x0 * (own_p31 (1 : Int32)))), (.int (own_p31 (2 : Int32)))])) _
        refine XS.iadd X127.here hx rfl (hb hby at_89) rfl ?_
        refine XS.aloadN X127.here hx rfl (hb hby at_90) rfl rfl ?_
        show Steps p.tables e below (T127.setTop (mkF m 91 #[iv p0_0, iv p0_1, iv p0_2, rv b1, iv (0 : Int32), iv (2 : Int32), rv b109, .unset] [(.ref b1), (.int ((own_p31 (2 : Int32)) + (x0 * (own_p31 (1 : Int32)))))])) _
        refine XS.iload X127.here hx rfl (hb hby at_91) rfl ?_
        refine XS.iload X127.here hx rfl (hb hby at_93) rfl ?_
        refine XS.iconst X127.here hx rfl (hb hby at_95) ?_
        show Steps p.tables e below (T127.setTop (mkF m 96 #[iv p0_0, iv p0_1, iv p0_2, rv b1, iv (0 : Int32), iv (2 : Int32), rv b109, .unset] [(.int (1 : Int32)), (.int (2 : Int32)), (.int (0 : Int32)), (.ref b1), (.int ((own_p31 (2 : Int32)) + (x0 * (own_p31 (1 : Int32)))))])) _
        refine st129 _ ?_
        show Steps p.tables e below (T129.setTop (mkF m 99 #[iv p0_0, iv p0_1, iv p0_2, rv b1, iv (0 : Int32), iv (2 : Int32), rv b109, .unset] [(.int (x1 * (own_p31 (0 : Int32)))), (.int ((own_p31 (2 : Int32)) + (x0 * (own_p31 (1 : Int32)))))])) _
        refine XS.iadd X129.here hx rfl (hb hby at_99) rfl ?_
        refine XS.aloadN X129.here hx rfl (hb hby at_100) rfl rfl ?_
        refine XS.iload X129.here hx rfl (hb hby at_101) rfl ?_
        refine XS.iload X129.here hx rfl (hb hby at_103) rfl ?_
        show Steps p.tables e below (T129.setTop (mkF m 105 #[iv p0_0, iv p0_1, iv p0_2, rv b1, iv (0 : Int32), iv (2 : Int32), rv b109, .unset] [(.int (2 : Int32)), (.int (0 : Int32)), (.ref b1), (.int (((own_p31 (2 : Int32)) + (x0 * (own_p31 (1 : Int32)))) + (x1 * (own_p31 (0 : Int32)))))])) _
        refine XS.iconst X129.here hx rfl (hb hby at_105) ?_
        show Steps p.tables e below (T129.setTop (mkF m 106 #[iv p0_0, iv p0_1, iv p0_2, rv b1, iv (0 : Int32), iv (2 : Int32), rv b109, .unset] [(.int (2 : Int32)), (.int (2 : Int32)), (.int (0 : Int32)), (.ref b1), (.int (((own_p31 (2 : Int32)) + (x0 * (own_p31 (1 : Int32)))) + (x1 * (own_p31 (0 : Int32)))))])) _
        refine st131 _ ?_
        show Steps p.tables e below (T131.setTop (mkF m 109 #[iv p0_0, iv p0_1, iv p0_2, rv b1, iv (0 : Int32), iv (2 : Int32), rv b109, .unset] [(.int (0 : Int32)), (.int (((own_p31 (2 : Int32)) + (x0 * (own_p31 (1 : Int32)))) + (x1 * (own_p31 (0 : Int32)))))])) _
        refine XS.iadd X131.here hx rfl (hb hby at_109) rfl ?_
        refine XS.aloadN X131.here hx rfl (hb hby at_110) rfl rfl ?_
        show Steps p.tables e below (T131.setTop (mkF m 111 #[iv p0_0, iv p0_1, iv p0_2, rv b1, iv (0 : Int32), iv (2 : Int32), rv b109, .unset] [(.ref b1), (.int ((((own_p31 (2 : Int32)) + (x0 * (own_p31 (1 : Int32)))) + (x1 * (own_p31 (0 : Int32)))) + (0 : Int32)))])) _
        refine XS.iload X131.here hx rfl (hb hby at_111) rfl ?_
        refine XS.iload X131.here hx rfl (hb hby at_113) rfl ?_
        refine XS.iconst X131.here hx rfl (hb hby at_115) ?_
        show Steps p.tables e below (T131.setTop (mkF m 116 #[iv p0_0, iv p0_1, iv p0_2, rv b1, iv (0 : Int32), iv (2 : Int32), rv b109, .unset] [(.int (3 : Int32)), (.int (2 : Int32)), (.int (0 : Int32)), (.ref b1), (.int ((((own_p31 (2 : Int32)) + (x0 * (own_p31 (1 : Int32)))) + (x1 * (own_p31 (0 : Int32)))) + (0 : Int32)))])) _
        refine st133 _ ?_
        show Steps p.tables e below (T133.setTop (mkF m 119 #[iv p0_0, iv p0_1, iv p0_2, rv b1, iv (0 : Int32), iv (2 : Int32), rv b109, .unset] [(.int (0 : Int32)), (.int ((((own_p31 (2 : Int32)) + (x0 * (own_p31 (1 : Int32)))) + (x1 * (own_p31 (0 : Int32)))) + (0 : Int32)))])) _
        refine XS.iadd X133.here hx rfl (hb hby at_119) rfl ?_
        refine XS.aloadN X133.here hx rfl (hb hby at_120) rfl rfl ?_
        refine XS.iload X133.here hx rfl (hb hby at_121) rfl ?_
        refine XS.iload X133.here hx rfl (hb hby at_123) rfl ?_
        show Steps p.tables e below (T133.setTop (mkF m 125 #[iv p0_0, iv p0_1, iv p0_2, rv b1, iv (0 : Int32), iv (2 : Int32), rv b109, .unset] [(.int (2 : Int32)), (.int (0 : Int32)), (.ref b1), (.int (((((own_p31 (2 : Int32)) + (x0 * (own_p31 (1 : Int32)))) + (x1 * (own_p31 (0 : Int32)))) + (0 : Int32)) + (0 : Int32)))])) _
        refine XS.iconst X133.here hx rfl (hb hby at_125) ?_
        show Steps p.tables e below (T133.setTop (mkF m 126 #[iv p0_0, iv p0_1, iv p0_2, rv b1, iv (0 : Int32), iv (2 : Int32), rv b109, .unset] [(.int (4 : Int32)), (.int (2 : Int32)), (.int (0 : Int32)), (.ref b1), (.int (((((own_p31 (2 : Int32)) + (x0 * (own_p31 (1 : Int32)))) + (x1 * (own_p31 (0 : Int32)))) + (0 : Int32)) + (0 : Int32)))])) _
        refine st135 _ ?_
        show Steps p.tables e below (T135.setTop (mkF m 129 #[iv p0_0, iv p0_1, iv p0_2, rv b1, iv (0 : Int32), iv (2 : Int32), rv b109, .unset] [(.int (0 : Int32)), (.int (((((own_p31 (2 : Int32)) + (x0 * (own_p31 (1 : Int32)))) + (x1 * (own_p31 (0 : Int32)))) + (0 : Int32)) + (0 : Int32)))])) _
        refine XS.iadd X135.here hx rfl (hb hby at_129) rfl ?_
        refine XS.istore X135.here hx rfl (hb hby at_130) rfl (l' := #[iv p0_0, iv p0_1, iv p0_2, rv b1, iv (0 : Int32), iv (2 : Int32), rv b109, iv ((((((own_p31 (2 : Int32)) + (x0 * (own_p31 (1 : Int32)))) + (x1 * (own_p31 (0 : Int32)))) + (0 : Int32)) + (0 : Int32)) + (0 : Int32))]) rfl ?_
        show Steps p.tables e below (T135.setTop (mkF m 132 #[iv p0_0, iv p0_1, iv p0_2, rv b1, iv (0 : Int32), iv (2 : Int32), rv b109, iv ((((((own_p31 (2 : Int32)) + (x0 * (own_p31 (1 : Int32)))) + (x1 * (own_p31 (0 : Int32)))) + (0 : Int32)) + (0 : Int32)) + (0 : Int32))] [])) _
        refine XS.aload X135.here hx rfl (hb hby at_132) rfl rfl ?_
        show Steps p.tables e below (T135.setTop (mkF m 134 #[iv p0_0, iv p0_1, iv p0_2, rv b1, iv (0 : Int32), iv (2 : Int32), rv b109, iv ((((((own_p31 (2 : Int32)) + (x0 * (own_p31 (1 : Int32)))) + (x1 * (own_p31 (0 : Int32)))) + (0 : Int32)) + (0 : Int32)) + (0 : Int32))] [(.ref b109)])) _
        refine st137.trans ?_
        show Steps p.tables e below (T137.setTop (mkF m 137 #[iv p0_0, iv p0_1, iv p0_2, rv b1, iv (0 : Int32), iv (2 : Int32), rv b109, iv ((((((own_p31 (2 : Int32)) + (x0 * (own_p31 (1 : Int32)))) + (x1 * (own_p31 (0 : Int32)))) + (0 : Int32)) + (0 : Int32)) + (0 : Int32))] [(.int (((31 : Int32) * ((31 : Int32) + x0)) + x1))])) _
        refine XS.iload X137.here hx rfl (hb hby at_137) rfl ?_
        refine XS.icmpNo X137.here hx rfl (hb hby at_139) rfl (teq hc140).2 ?_
        show Steps p.tables e below (T137.setTop (mkF m 142 #[iv p0_0, iv p0_1, iv p0_2, rv b1, iv (0 : Int32), iv (2 : Int32), rv b109, iv ((((((own_p31 (2 : Int32)) + (x0 * (own_p31 (1 : Int32)))) + (x1 * (own_p31 (0 : Int32)))) + (0 : Int32)) + (0 : Int32)) + (0 : Int32))] [])) _
        refine XS.iconst X137.here hx rfl (hb hby at_142) ?_
        refine XS.goto X137.here hx rfl (pc0 := 143) (pc' := 147) rfl (hb hby at_143) (by decide) (by decide) ?_
        show Steps p.tables e below (T137.setTop (mkF m 147 #[iv p0_0, iv p0_1, iv p0_2, rv b1, iv (0 : Int32), iv (2 : Int32), rv b109, iv ((((((own_p31 (2 : Int32)) + (x0 * (own_p31 (1 : Int32)))) + (x1 * (own_p31 (0 : Int32)))) + (0 : Int32)) + (0 : Int32)) + (0 : Int32))] [(.int (1 : Int32))])) _
        exact retN X137 hx (t := .boolean) Bd.returns (by simp) (hb hby at_147) hr
      · show Q_rm0 Z _ _ _ h0 n0 _ T137.heap _
        rw [K137q]
        exact ⟨rfl, N139, (K122)⟩
    · skip
      obtain ⟨T141, h141, X141, e141, E141, A141, D141, -, st141⟩ := newO X32 hx hZ hown wo2 wo3 wo4 e32 (g := (mkF m 61 #[iv p0_0, iv p0_1, iv p0_2, rv b1, iv (0 : Int32), iv (3 : Int32), .unset, .unset] [])) rfl (hb hby at_61) (by decide) (by decide)
      obtain ⟨b141, gg141⟩ : ∃ z, z = h32.size := ⟨_, rfl⟩
      rw [← gg141] at A141 D141 st141
      have ne142 : b1 ≠ b141 := Nat.ne_of_lt (Nat.lt_of_lt_of_le f40.lt (Nat.le_of_eq gg141.symm))
      have f144 := (Nat.le_trans (Nat.le_trans (Nat.le_trans (Nat.le_trans (Nat.le_trans (Nat.le_trans Z0 E1.1) (Keep.of_wr W8).1) (Keep.of_wr W14).1) (Keep.of_wr W20).1) (Keep.of_wr W26).1) (Keep.of_wr W32).1)
      have g143 : n0 ≤ b141 := Nat.le_trans f144 (Nat.le_of_eq gg141.symm)
      have bz145 : h0.size ≤ b141 := Nat.le_trans (K33).1 (Nat.le_of_eq gg141.symm)
      have K146 : Keep h0 h141 [] := (K33).ext E141
      have f147 : Fld Z h141 b141 "com/example/tailwake/tailwake/source/mariadb/Slice" "array" "[B" .null := D141 (Or.inr wo20) (ty := (.array .byte)) (by decide)
      have f148 : Fld Z h141 b141 "com/example/tailwake/tailwake/source/mariadb/Slice" "offset" "I" (.int (0 : Int32)) := D141 (Or.inr wo22) (ty := .int) (by decide)
      have f149 : Fld Z h141 b141 "com/example/tailwake/tailwake/source/mariadb/Slice" "length" "I" (.int (0 : Int32)) := D141 (Or.inr wo24) (ty := .int) (by decide)
      have f150 := (f40.ext E141)
      have f152 := (Nat.le_trans f144 E141.1)
      obtain ⟨_, _, ⟨T151, L151, k151, n151⟩, -, X151, ⟨Lc151, hQ151, l151, y151, z151⟩, st151⟩ := X141.specialBack hx (y := MN1) rfl hown (mvT hZ wo5) (mvT hZ wo6) (mvT hZ wo7) (by decide) (backOf (W := 1) (rm1 l Z a0 hw [] b141 b1 (0 : Int32) (3 : Int32) h141 n0 f152 A141 g143 f147 f148 f149 f150.al (by first | decide | assumption | omega : ¬ ((((5 : Int32) ||| (0 : Int32)) ||| (3 : Int32)) < (0 : Int32))) (by first | decide | assumption | omega : ¬ (((5 : Int32) - (0 : Int32)) < (3 : Int32)))) hZ wo7 wo4 (by decide) (by decide)) (g := (mkF m 70 #[iv p0_0, iv p0_1, iv p0_2, rv b1, iv (0 : Int32), iv (3 : Int32), .unset, .unset] [(.int (3 : Int32)), (.int (0 : Int32)), (.ref b1), (.ref b141), (.ref b141)])) rfl (by rw [hml]; rfl) (Steps.refl _) (a := b141) (argsL := [(.ref b1), (.int (0 : Int32)), (.int (3 : Int32))]) (rest := [(.ref b141)]) (lenOf pd_5 rfl) rfl (by show 2 * 0 + _ ≤ _; exact Nat.le_of_eq rfl) (hb hby at_70) (fun _ _ => ⟨rfl, e141, (by decide : 2 + 0 ≤ _), (by decide : 8 + 0 ≤ _)⟩)
      dsimp only [Pt.U, Pt.locs, Pt.cells, Pt.slots] at X151 l151 y151 z151 st151 hQ151
      rw [l151, y151, z151] at X151
      obtain ⟨rfl, N151q, K151q, hq151_0, hq151_1, hq151_2⟩ := hQ151
      have N153 := Fr.app N35 N151q
      have K154 : Keep h0 T151.heap [] := (K146).trans K151q (allS (P := fun x => x ∈ [] ∨ h0.size ≤ x) (Or.inr bz145) all0)
      have f156 := (Nat.le_trans f152 K151q.1)
      obtain ⟨_, _, ⟨T155, L155, k155, n155⟩, -, X155, ⟨Lc155, hQ155, l155, y155, z155⟩, st155⟩ := Jvm.LawKit.callS X151 hx (y := MN5) hown (mvT hZ wo25) (mvT hZ wo26) (mvT hZ wo27) (mvT hZ wo28) (by decide) (backOf (W := 0) (rm5 l Z a0 hw [] (3 : Int32) (T151.heap) n0 f156 ) hZ wo28 wo27 (by decide) (by decide)) (g := (mkF m 77 #[iv p0_0, iv p0_1, iv p0_2, rv b1, iv (0 : Int32), iv (3 : Int32), rv b141, .unset] [(.int (3 : Int32))])) rfl (by rw [hml]; rfl) (argsL := [(.int (3 : Int32))]) (rest := []) (lenOf pd_2 rfl) rfl (by show 2 * 0 + _ ≤ _; exact Nat.le_of_eq rfl) (hb hby at_77) (fun _ _ => ⟨rfl, rfl, (by decide : 2 + 0 ≤ _), (by decide : 8 + 0 ≤ _)⟩)
      dsimp only [Pt.U, Pt.locs, Pt.cells, Pt.slots] at X155 l155 y155 z155 st155 hQ155
      rw [l155, y155, z155] at X155
      obtain ⟨rfl, N155q, K155q⟩ := hQ155
      have N157 := Fr.app N153 N155q
      have f158 := (f150.keep K151q (ninS ne142 nin0))
      obtain ⟨_, _, ⟨T159, L159, k159, n159⟩, -, X159, ⟨Lc159, hQ159, l159, y159, z159⟩, st159⟩ := Jvm.LawKit.callS X155 hx (y := MN6) hown (mvT hZ wo29) (mvT hZ wo30) (mvT hZ wo27) (mvT hZ wo31) (by decide) (backOf (W := 1) (rm_t0 l Z a0 hw [] b1 (0 : Int32) (3 : Int32) (0 : Int32) x0 x1 x2 x3 x4 (T151.heap) n0 f156 f158 (by first | decide | assumption | omega : (0 : Int32) < (3 : Int32)) (by first | decide | assumption | omega : ((0 : Int32) + (0 : Int32)) = (0 : Int32))) hZ wo31 wo27 (by decide) (by decide)) (g := (mkF m 86 #[iv p0_0, iv p0_1, iv p0_2, rv b1, iv (0 : Int32), iv (3 : Int32), rv b141, .unset] [(.int (0 : Int32)), (.int (3 : Int32)), (.int (0 : Int32)), (.ref b1), (.int (own_p31 (3 : Int32)))])) rfl (by rw [hml]; rfl) (argsL := [(.ref b1), (.int (0 : Int32)), (.int (3 : Int32)), (.int (0 : Int32))]) (rest := [(.int (own_p31 (3 : Int32)))]) (lenOf pd_6 rfl) rfl (by show 2 * 0 + _ ≤ _; exact Nat.le_of_eq rfl) (hb hby at_86) (fun _ _ => ⟨rfl, K155q, (by decide : 2 + 0 ≤ _), (by decide : 8 + 0 ≤ _)⟩)
      dsimp only [Pt.U, Pt.locs, Pt.cells, Pt.slots] at X159 l159 y159 z159 st159 hQ159
      rw [l159, y159, z159] at X159
      obtain ⟨rfl, N159q, K159q⟩ := hQ159
      have N160 := Fr.app N157 N159q
      obtain ⟨_, _, ⟨T161, L161, k161, n161⟩, -, X161, ⟨Lc161, hQ161, l161, y161, z161⟩, st161⟩ := Jvm.LawKit.callS X159 hx (y := MN6) hown (mvT hZ wo29) (mvT hZ wo30) (mvT hZ wo27) (mvT hZ wo31) (by decide) (backOf (W := 1) (rm_t1 l Z a0 hw [] b1 (0 : Int32) (3 : Int32) (1 : Int32) x0 x1 x2 x3 x4 (T151.heap) n0 f156 f158 (by first | decide | assumption | omega : (1 : Int32) < (3 : Int32)) (by first | decide | assumption | omega : ((0 : Int32) + (1 : Int32)) = (1 : Int32))) hZ wo31 wo27 (by decide) (by decide)) (g := (mkF m 96 #[iv p0_0, iv p0_1, iv p0_2, rv b1, iv (0 : Int32), iv (3 : Int32), rv b141, .unset] [(.int (1 : Int32)), (.int (3 : Int32)), (.int (0 : Int32)), (.ref b1), (.int ((own_p31 (3 : Int32)) + (x0 * (own_p31 (2 : Int32)))))])) rfl (by rw [hml]; rfl) (argsL := [(.ref b1), (.int (0 : Int32)), (.int (3 : Int32)), (.int (1 : Int32))]) (rest := [(.int ((own_p31 (3 : Int32)) + (x0 * (own_p31 (2 : Int32)))))]) (lenOf pd_6 rfl) rfl (by show 2 * 0 + _ ≤ _; exact Nat.le_of_eq rfl) (hb hby at_96) (fun _ _ => ⟨rfl, K159q, (by decide : 2 + 0 ≤ _), (by decide : 8 + 0 ≤ _)⟩)
      dsimp only [Pt.U, Pt.locs, Pt.cells, Pt.slots] at X161 l161 y161 z161 st161 hQ161
      rw [l161, y161, z161] at X161
      obtain ⟨rfl, N161q, K161q⟩ := hQ161
      have N162 := Fr.app N160 N161q
      obtain ⟨_, _, ⟨T163, L163, k163, n163⟩, -, X163, ⟨Lc163, hQ163, l163, y163, z163⟩, st163⟩ := Jvm.LawKit.callS X161 hx (y := MN6) hown (mvT hZ wo29) (mvT hZ wo30) (mvT hZ wo27) (mvT hZ wo31) (by decide) (backOf (W := 1) (rm_t2 l Z a0 hw [] b1 (0 : Int32) (3 : Int32) (2 : Int32) x0 x1 x2 x3 x4 (T151.heap) n0 f156 f158 (by first | decide | assumption | omega : (2 : Int32) < (3 : Int32)) (by first | decide | assumption | omega : ((0 : Int32) + (2 : Int32)) = (2 : Int32))) hZ wo31 wo27 (by decide) (by decide)) (g := (mkF m 106 #[iv p0_0, iv p0_1, iv p0_2, rv b1, iv (0 : Int32), iv (3 : Int32), rv b141, .unset] [(.int (2 : Int32)), (.int (3 : Int32)), (.int (0 : Int32)), (.ref b1), (.int (((own_p31 (3 : Int32)) + (x0 * (own_p31 (2 : Int32)))) + (x1 * (own_p31 (1 : Int32)))))])) rfl (by rw [hml]; rfl) (argsL := [(.ref b1), (.int (0 : Int32)), (.int (3 : Int32)), (.int (2 : Int32))]) (rest := [(.int (((own_p31 (3 : Int32)) + (x0 * (own_p31 (2 : Int32)))) + (x1 * (own_p31 (1 : Int32)))))]) (lenOf pd_6 rfl) rfl (by show 2 * 0 + _ ≤ _; exact Nat.le_of_eq rfl) (hb hby at_106) (fun _ _ => ⟨rfl, K161q, (by decide : 2 + 0 ≤ _), (by decide : 8 + 0 ≤ _)⟩)
      dsimp only [Pt.U, Pt.locs, Pt.cells, Pt.slots] at X163 l163 y163 z163 st163 hQ163
      rw [l163, y163, z163] at X163
      obtain ⟨rfl, N163q, K163q⟩ := hQ163
      have N164 := Fr.app N162 N163q
      obtain ⟨_, _, ⟨T165, L165, k165, n165⟩, -, X165, ⟨Lc165, hQ165, l165, y165, z165⟩, st165⟩ := Jvm.LawKit.callS X163 hx (y := MN6) hown (mvT hZ wo29) (mvT hZ wo30) (mvT hZ wo27) (mvT hZ wo31) (by decide) (backOf (W := 1) (rm_t l Z a0 hw [] b1 (0 : Int32) (3 : Int32) (3 : Int32) (T151.heap) n0 f156 (by first | decide | assumption | omega : ¬ ((3 : Int32) < (3 : Int32)))) hZ wo31 wo27 (by decide) (by decide)) (g := (mkF m 116 #[iv p0_0, iv p0_1, iv p0_2, rv b1, iv (0 : Int32), iv (3 : Int32), rv b141, .unset] [(.int (3 : Int32)), (.int (3 : Int32)), (.int (0 : Int32)), (.ref b1), (.int ((((own_p31 (3 : Int32)) + (x0 * (own_p31 (2 : Int32)))) + (x1 * (own_p31 (1 : Int32)))) + (x2 * (own_p31 (0 : Int32)))))])) rfl (by rw [hml]; rfl) (argsL := [(.ref b1), (.int (0 : Int32)), (.int (3 : Int32)), (.int (3 : Int32))]) (rest := [(.int ((((own_p31 (3 : Int32)) + (x0 * (own_p31 (2 : Int32)))) + (x1 * (own_p31 (1 : Int32)))) + (x2 * (own_p31 (0 : Int32)))))]) (lenOf pd_6 rfl) rfl (by show 2 * 0 + _ ≤ _; exact Nat.le_of_eq rfl) (hb hby at_116) (fun _ _ => ⟨rfl, K163q, (by decide : 2 + 0 ≤ _), (by decide : 8 + 0 ≤ _)⟩)
      dsimp only [Pt.U, Pt.locs, Pt.cells, Pt.slots] at X165 l165 y165 z165 st165 hQ165
      rw [l165, y165, z165] at X165
      obtain ⟨rfl, N165q, K165q⟩ := hQ165
      have N166 := Fr.app N164 N165q
      obtain ⟨_, _, ⟨T167, L167, k167, n167⟩, -, X167, ⟨Lc167, hQ167, l167, y167, z167⟩, st167⟩ := Jvm.LawKit.callS X165 hx (y := MN6) hown (mvT hZ wo29) (mvT hZ wo30) (mvT hZ wo27) (mvT hZ wo31) (by decide) (backOf (W := 1) (rm_t l Z a0 hw [] b1 (0 : Int32) (3 : Int32) (4 : Int32) (T151.heap) n0 f156 (by first | decide | assumption | omega : ¬ ((4 : Int32) < (3 : Int32)))) hZ wo31 wo27 (by decide) (by decide)) (g := (mkF m 126 #[iv p0_0, iv p0_1, iv p0_2, rv b1, iv (0 : Int32), iv (3 : Int32), rv b141, .unset] [(.int (4 : Int32)), (.int (3 : Int32)), (.int (0 : Int32)), (.ref b1), (.int (((((own_p31 (3 : Int32)) + (x0 * (own_p31 (2 : Int32)))) + (x1 * (own_p31 (1 : Int32)))) + (x2 * (own_p31 (0 : Int32)))) + (0 : Int32)))])) rfl (by rw [hml]; rfl) (argsL := [(.ref b1), (.int (0 : Int32)), (.int (3 : Int32)), (.int (4 : Int32))]) (rest := [(.int (((((own_p31 (3 : Int32)) + (x0 * (own_p31 (2 : Int32)))) + (x1 * (own_p31 (1 : Int32)))) + (x2 * (own_p31 (0 : Int32)))) + (0 : Int32)))]) (lenOf pd_6 rfl) rfl (by show 2 * 0 + _ ≤ _; exact Nat.le_of_eq rfl) (hb hby at_126) (fun _ _ => ⟨rfl, K165q, (by decide : 2 + 0 ≤ _), (by decide : 8 + 0 ≤ _)⟩)
      dsimp only [Pt.U, Pt.locs, Pt.cells, Pt.slots] at X167 l167 y167 z167 st167 hQ167
      rw [l167, y167, z167] at X167
      obtain ⟨rfl, N167q, K167q⟩ := hQ167
      have N168 := Fr.app N166 N167q
      have f170 := (A141.keep K151q)
      obtain ⟨cq169, kq169, q169a, q169b, q169c⟩ := isOf hZ K167q f170
      obtain ⟨_, _, ⟨T169, L169, k169, n169⟩, -, X169, ⟨Lc169, hQ169, l169, y169, z169⟩, st169⟩ := X167.virtualBack hx (y := MN7) (z := MN7) hown (mvT hZ wo32) (mvT hZ wo33) (notFace_of_selects (args := #[]) (mvT hZ wo35)) (mvT hZ wo35) (mvT hZ wo34) (by decide) (backOf (W := 0) (rm_h0_3 l Z a0 hw [] b141 b1 x0 x1 x2 x3 x4 (T151.heap) n0 f156 hq151_0 hq151_1 hq151_2 f158) hZ wo36 wo4 (by decide) (by decide)) q169a q169c (g := (mkF m 134 #[iv p0_0, iv p0_1, iv p0_2, rv b1, iv (0 : Int32), iv (3 : Int32), rv b141, iv ((((((own_p31 (3 : Int32)) + (x0 * (own_p31 (2 : Int32)))) + (x1 * (own_p31 (1 : Int32)))) + (x2 * (own_p31 (0 : Int32)))) + (0 : Int32)) + (0 : Int32))] [(.ref b141)])) rfl (by rw [hml]; rfl) (Steps.refl _) (argsL := []) (rest := []) (lenOf pd_0 rfl) rfl (by show 2 * 0 + _ ≤ _; exact Nat.le_of_eq rfl) (hb hby at_134) (fun _ _ => ⟨rfl, K167q, (by decide : 2 + 0 ≤ _), (by decide : 8 + 0 ≤ _)⟩)
      dsimp only [Pt.U, Pt.locs, Pt.cells, Pt.slots] at X169 l169 y169 z169 st169 hQ169
      rw [l169, y169, z169] at X169
      obtain ⟨rfl, N169q, K169q⟩ := hQ169
      have N171 := Fr.app N168 N169q
      have hc172 : (((31 : Int32) * (((31 : Int32) * ((31 : Int32) + x0)) + x1)) + x2) = ((((((own_p31 (3 : Int32)) + (x0 * (own_p31 (2 : Int32)))) + (x1 * (own_p31 (1 : Int32)))) + (x2 * (own_p31 (0 : Int32)))) + (0 : Int32)) + (0 : Int32)) := (by simp only [own_q0, own_q1, own_q2, own_q3, own_q4, own_q5]; first | rfl | grind)
      obtain ⟨fs, hr, hrun, hended, hW, hsame⟩ := X169.leave (v := some (.int (1 : Int32))) (fun h => by rw [Bd.returns] at h; cases h)
      refine ⟨_, _, pre43 _ ?_, hrun, hended, _, _, rfl, ?_, ⟨_, rfl⟩, hW, hsame.mono (by decide) (by decide)⟩
      · show Steps p.tables e below (T32.setTop (mkF m 61 #[iv p0_0, iv p0_1, iv p0_2, rv b1, iv (0 : Int32), iv (3 : Int32), .unset, .unset] [])) _
        refine st141 _ ?_
        show Steps p.tables e below (T141.setTop (mkF m 64 #[iv p0_0, iv p0_1, iv p0_2, rv b1, iv (0 : Int32), iv (3 : Int32), .unset, .unset] [(.ref b141)])) _
        refine XS.dup X141.here hx rfl (hb hby at_64) rfl rfl ?_
        show Steps p.tables e below (T141.setTop (mkF m 65 #[iv p0_0, iv p0_1, iv p0_2, rv b1, iv (0 : Int32), iv (3 : Int32), .unset, .unset] [(.ref b141), (.ref b141)])) _
        refine XS.aloadN X141.here hx rfl (hb hby at_65) rfl rfl ?_
        refine XS.iload X141.here hx rfl (hb hby at_66) rfl ?_
        refine XS.iload X141.here hx rfl (hb hby at_68) rfl ?_
        show Steps p.tables e below (T141.setTop (mkF m 70 #[iv p0_0, iv p0_1, iv p0_2, rv b1, iv (0 : Int32), iv (3 : Int32), .unset, .unset] [(.int (3 : Int32)), (.int (0 : Int32)), (.ref b1), (.ref b141), (.ref b141)])) _
        refine st151.trans ?_
        show Steps p.tables e below (T151.setTop (mkF m 73 #[iv p0_0, iv p0_1, iv p0_2, rv b1, iv (0 : Int32), iv (3 : Int32), .unset, .unset] [(.ref b141)])) _
        refine XS.astore X151.here hx rfl (hb hby at_73) rfl rfl (l' := #[iv p0_0, iv p0_1, iv p0_2, rv b1, iv (0 : Int32), iv (3 : Int32), rv b141, .unset]) rfl ?_
        refine XS.iload X151.here hx rfl (hb hby at_75) rfl ?_
        show Steps p.tables e below (T151.setTop (mkF m 77 #[iv p0_0, iv p0_1, iv p0_2, rv b1, iv (0 : Int32), iv (3 : Int32), rv b141, .unset] [(.int (3 : Int32))])) _
        refine st155 _ ?_
        show Steps p.tables e below (T155.setTop (mkF m 80 #[iv p0_0, iv p0_1, iv p0_2, rv b1, iv (0 : Int32), iv (3 : Int32), rv b141, .unset] [(.int (own_p31 (3 : Int32)))])) _
        refine XS.aloadN X155.here hx rfl (hb hby at_80) rfl rfl ?_
        show Steps p.tables e below (T155.setTop (mkF m 81 #[iv p0_0, iv p0_1, iv p0_2, rv b1, iv (0 : Int32), iv (3 : Int32), rv b141, .unset] [(.ref b1), (.int (own_p31 (3 : Int32)))])) _
        refine XS.iload X155.here hx rfl (hb hby at_81) rfl ?_
        refine XS.iload X155.here hx rfl (hb hby at_83) rfl ?_
        refine XS.iconst X155.here hx rfl (hb hby at_85) ?_
        show Steps p.tables e below (T155.setTop (mkF m 86 #[iv p0_0, iv p0_1, iv p0_2, rv b1, iv (0 : Int32), iv (3 : Int32), rv b141, .unset] [(.int (0 : Int32)), (.int (3 : Int32)), (.int (0 : Int32)), (.ref b1), (.int (own_p31 (3 : Int32)))])) _
        refine st159 _ ?_
        show Steps p.tables e below (T159.setTop (mkF m 89 #[iv p0_0, iv p0_1, iv p0_2, rv b1, iv (0 : Int32), iv (3 : Int32), rv b141, .unset] [(.int (x0 * (own_p31 (2 : Int32)))), (.int (own_p31 (3 : Int32)))])) _
        refine XS.iadd X159.here hx rfl (hb hby at_89) rfl ?_
        refine XS.aloadN X159.here hx rfl (hb hby at_90) rfl rfl ?_
        refine XS.iload X159.here hx rfl (hb hby at_91) rfl ?_
        refine XS.iload X159.here hx rfl (hb hby at_93) rfl ?_
        show Steps p.tables e below (T159.setTop (mkF m 95 #[iv p0_0, iv p0_1, iv p0_2, rv b1, iv (0 : Int32), iv (3 : Int32), rv b141, .unset] [(.int (3 : Int32)), (.int (0 : Int32)), (.ref b1), (.int ((own_p31 (3 : Int32)) + (x0 * (own_p31 (2 : Int32)))))])) _
        refine XS.iconst X159.here hx rfl (hb hby at_95) ?_
        show Steps p.tables e below (T159.setTop (mkF m 96 #[iv p0_0, iv p0_1, iv p0_2, rv b1, iv (0 : Int32), iv (3 : Int32), rv b141, .unset] [(.int (1 : Int32)), (.int (3 : Int32)), (.int (0 : Int32)), (.ref b1), (.int ((own_p31 (3 : Int32)) + (x0 * (own_p31 (2 : Int32)))))])) _
        refine st161 _ ?_
        show Steps p.tables e below (T161.setTop (mkF m 99 #[iv p0_0, iv p0_1, iv p0_2, rv b1, iv (0 : Int32), iv (3 : Int32), rv b141, .unset] [(.int (x1 * (own_p31 (1 : Int32)))), (.int ((own_p31 (3 : Int32)) + (x0 * (own_p31 (2 : Int32)))))])) _
        refine XS.iadd X161.here hx rfl (hb hby at_99) rfl ?_
        refine XS.aloadN X161.here hx rfl (hb hby at_100) rfl rfl ?_
        show Steps p.tables e below (T161.setTop (mkF m 101 #[iv p0_0, iv p0_1, iv p0_2, rv b1, iv (0 : Int32), iv (3 : Int32), rv b141, .unset] [(.ref b1), (.int (((own_p31 (3 : Int32)) + (x0 * (own_p31 (2 : Int32)))) + (x1 * (own_p31 (1 : Int32)))))])) _
        refine XS.iload X161.here hx rfl (hb hby at_101) rfl ?_
        refine XS.iload X161.here hx rfl (hb hby at_103) rfl ?_
        refine XS.iconst X161.here hx rfl (hb hby at_105) ?_
        show Steps p.tables e below (T161.setTop (mkF m 106 #[iv p0_0, iv p0_1, iv p0_2, rv b1, iv (0 : Int32), iv (3 : Int32), rv b141, .unset] [(.int (2 : Int32)), (.int (3 : Int32)), (.int (0 : Int32)), (.ref b1), (.int (((own_p31 (3 : Int32)) + (x0 * (own_p31 (2 : Int32)))) + (x1 * (own_p31 (1 : Int32)))))])) _
        refine st163 _ ?_
        show Steps p.tables e below (T163.setTop (mkF m 109 #[iv p0_0, iv p0_1, iv p0_2, rv b1, iv (0 : Int32), iv (3 : Int32), rv b141, .unset] [(.int (x2 * (own_p31 (0 : Int32)))), (.int (((own_p31 (3 : Int32)) + (x0 * (own_p31 (2 : Int32)))) + (x1 * (own_p31 (1 : Int32)))))])) _
        refine XS.iadd X163.here hx rfl (hb hby at_109) rfl ?_
        refine XS.aloadN X163.here hx rfl (hb hby at_110) rfl rfl ?_
        refine XS.iload X163.here hx rfl (hb hby at_111) rfl ?_
        refine XS.iload X163.here hx rfl (hb hby at_113) rfl ?_
        show Steps p.tables e below (T163.setTop (mkF m 115 #[iv p0_0, iv p0_1, iv p0_2, rv b1, iv (0 : Int32), iv (3 : Int32), rv b141, .unset] [(.int (3 : Int32)), (.int (0 : Int32)), (.ref b1), (.int ((((own_p31 (3 : Int32)) + (x0 * (own_p31 (2 : Int32)))) + (x1 * (own_p31 (1 : Int32)))) + (x2 * (own_p31 (0 : Int32)))))])) _
        refine XS.iconst X163.here hx rfl (hb hby at_115) ?_
        show Steps p.tables e below (T163.setTop (mkF m 116 #[iv p0_0, iv p0_1, iv p0_2, rv b1, iv (0 : Int32), iv (3 : Int32), rv b141, .unset] [(.int (3 : Int32)), (.int (3 : Int32)), (.int (0 : Int32)), (.ref b1), (.int ((((own_p31 (3 : Int32)) + (x0 * (own_p31 (2 : Int32)))) + (x1 * (own_p31 (1 : Int32)))) + (x2 * (own_p31 (0 : Int32)))))])) _
        refine st165 _ ?_
        show Steps p.tables e below (T165.setTop (mkF m 119 #[iv p0_0, iv p0_1, iv p0_2, rv b1, iv (0 : Int32), iv (3 : Int32), rv b141, .unset] [(.int (0 : Int32)), (.int ((((own_p31 (3 : Int32)) + (x0 * (own_p31 (2 : Int32)))) + (x1 * (own_p31 (1 : Int32)))) + (x2 * (own_p31 (0 : Int32)))))])) _
        refine XS.iadd X165.here hx rfl (hb hby at_119) rfl ?_
        refine XS.aloadN X165.here hx rfl (hb hby at_120) rfl rfl ?_
        show Steps p.tables e below (T165.setTop (mkF m 121 #[iv p0_0, iv p0_1, iv p0_2, rv b1, iv (0 : Int32), iv (3 : Int32), rv b141, .unset] [(.ref b1), (.int (((((own_p31 (3 : Int32)) + (x0 * (own_p31 (2 : Int32)))) + (x1 * (own_p31 (1 : Int32)))) + (x2 * (own_p31 (0 : Int32)))) + (0 : Int32)))])) _
        refine XS.iload X165.here hx rfl (hb hby at_121) rfl ?_
        refine XS.iload X165.here hx rfl (hb hby at_123) rfl ?_
        refine XS.iconst X165.here hx rfl (hb hby at_125) ?_
        show Steps p.tables e below (T165.setTop (mkF m 126 #[iv p0_0, iv p0_1, iv p0_2, rv b1, iv (0 : Int32), iv (3 : Int32), rv b141, .unset] [(.int (4 : Int32)), (.int (3 : Int32)), (.int (0 : Int32)), (.ref b1), (.int (((((own_p31 (3 : Int32)) + (x0 * (own_p31 (2 : Int32)))) + (x1 * (own_p31 (1 : Int32)))) + (x2 * (own_p31 (0 : Int32)))) + (0 : Int32)))])) _
        refine st167 _ ?_
        show Steps p.tables e below (T167.setTop (mkF m 129 #[iv p0_0, iv p0_1, iv p0_2, rv b1, iv (0 : Int32), iv (3 : Int32), rv b141, .unset] [(.int (0 : Int32)), (.int (((((own_p31 (3 : Int32)) + (x0 * (own_p31 (2 : Int32)))) + (x1 * (own_p31 (1 : Int32)))) + (x2 * (own_p31 (0 : Int32)))) + (0 : Int32)))])) _
        refine XS.iadd X167.here hx rfl (hb hby at_129) rfl ?_
        refine XS.istore X167.here hx rfl (hb hby at_130) rfl (l' := #[iv p0_0, iv p0_1, iv p0_2, rv b1, iv (0 : Int32), iv (3 : Int32), rv b141, iv ((((((own_p31 (3 : Int32)) + (x0 * (own_p31 (2 : Int32)))) + (x1 * (own_p31 (1 : Int32)))) + (x2 * (own_p31 (0 : Int32)))) + (0 : Int32)) + (0 : Int32))]) rfl ?_
        refine XS.aload X167.here hx rfl (hb hby at_132) rfl rfl ?_
        show Steps p.tables e below (T167.setTop (mkF m 134 #[iv p0_0, iv p0_1, iv p0_2, rv b1, iv (0 : Int32), iv (3 : Int32), rv b141, iv ((((((own_p31 (3 : Int32)) + (x0 * (own_p31 (2 : Int32)))) + (x1 * (own_p31 (1 : Int32)))) + (x2 * (own_p31 (0 : Int32)))) + (0 : Int32)) + (0 : Int32))] [(.ref b141)])) _
        refine st169.trans ?_
        show Steps p.tables e below (T169.setTop (mkF m 137 #[iv p0_0, iv p0_1, iv p0_2, rv b1, iv (0 : Int32), iv (3 : Int32), rv b141, iv ((((((own_p31 (3 : Int32)) + (x0 * (own_p31 (2 : Int32)))) + (x1 * (own_p31 (1 : Int32)))) + (x2 * (own_p31 (0 : Int32)))) + (0 : Int32)) + (0 : Int32))] [(.int (((31 : Int32) * (((31 : Int32) * ((31 : Int32) + x0)) + x1)) + x2))])) _
        refine XS.iload X169.here hx rfl (hb hby at_137) rfl ?_
        refine XS.icmpNo X169.here hx rfl (hb hby at_139) rfl (teq hc172).2 ?_
        refine XS.iconst X169.here hx rfl (hb hby at_142) ?_
        refine XS.goto X169.here hx rfl (pc0 := 143) (pc' := 147) rfl (hb hby at_143) (by decide) (by decide) ?_
        show Steps p.tables e below (T169.setTop (mkF m 147 #[iv p0_0, iv p0_1, iv p0_2, rv b1, iv (0 : Int32), iv (3 : Int32), rv b141, iv ((((((own_p31 (3 : Int32)) + (x0 * (own_p31 (2 : Int32)))) + (x1 * (own_p31 (1 : Int32)))) + (x2 * (own_p31 (0 : Int32)))) + (0 : Int32)) + (0 : Int32))] [(.int (1 : Int32))])) _
        exact retN X169 hx (t := .boolean) Bd.returns (by simp) (hb hby at_147) hr
      · show Q_rm0 Z _ _ _ h0 n0 _ T169.heap _
        rw [K169q]
        exact ⟨rfl, N171, (K154)⟩
    · skip
      obtain ⟨T173, h173, X173, e173, E173, A173, D173, -, st173⟩ := newO X32 hx hZ hown wo2 wo3 wo4 e32 (g := (mkF m 61 #[iv p0_0, iv p0_1, iv p0_2, rv b1, iv (0 : Int32), iv (4 : Int32), .unset, .unset] [])) rfl (hb hby at_61) (by decide) (by decide)
      obtain ⟨b173, gg173⟩ : ∃ z, z = h32.size := ⟨_, rfl⟩
      rw [← gg173] at A173 D173 st173
      have ne174 : b1 ≠ b173 := Nat.ne_of_lt (Nat.lt_of_lt_of_le f40.lt (Nat.le_of_eq gg173.symm))
      have f176 := (Nat.le_trans (Nat.le_trans (Nat.le_trans (Nat.le_trans (Nat.le_trans (Nat.le_trans Z0 E1.1) (Keep.of_wr W8).1) (Keep.of_wr W14).1) (Keep.of_wr W20).1) (Keep.of_wr W26).1) (Keep.of_wr W32).1)
      have g175 : n0 ≤ b173 := Nat.le_trans f176 (Nat.le_of_eq gg173.symm)
      have bz177 : h0.size ≤ b173 := Nat.le_trans (K33).1 (Nat.le_of_eq gg173.symm)
      have K178 : Keep h0 h173 [] := (K33).ext E173
      have f179 : Fld Z h173 b173 "com/example/tailwake/tailwake/source/mariadb/Slice" "array" "[B" .null := D173 (Or.inr wo20) (ty := (.array .byte)) (by decide)
      have f180 : Fld Z h173 b173 "com/example/tailwake/tailwake/source/mariadb/Slice" "offset" "I" (.int (0 : Int32)) := D173 (Or.inr wo22) (ty := .int) (by decide)
      have f181 : Fld Z h173 b173 "com/example/tailwake/tailwake/source/mariadb/Slice" "length" "I" (.int (0 : Int32)) := D173 (Or.inr wo24) (ty := .int) (by decide)
      have f182 := (f40.ext E173)
      have f184 := (Nat.le_trans f176 E173.1)
      obtain ⟨_, _, ⟨T183, L183, k183, n183⟩, -, X183, ⟨Lc183, hQ183, l183, y183, z183⟩, st183⟩ := X173.specialBack hx (y := MN1) rfl hown (mvT hZ wo5) (mvT hZ wo6) (mvT hZ wo7) (by decide) (backOf (W := 1) (rm1 l Z a0 hw [] b173 b1 (0 : Int32) (4 : Int32) h173 n0 f184 A173 g175 f179 f180 f181 f182.al (by first | decide | assumption | omega : ¬ ((((5 : Int32) ||| (0 : Int32)) ||| (4 : Int32)) < (0 : Int32))) (by first | decide | assumption | omega : ¬ (((5 : Int32) - (0 : Int32)) < (4 : Int32)))) hZ wo7 wo4 (by decide) (by decide)) (g := (mkF m 70 #[iv p0_0, iv p0_1, iv p0_2, rv b1, iv (0 : Int32), iv (4 : Int32), .unset, .unset] [(.int (4 : Int32)), (.int (0 : Int32)), (.ref b1), (.ref b173), (.ref b173)])) rfl (by rw [hml]; rfl) (Steps.refl _) (a := b173) (argsL := [(.ref b1), (.int (0 : Int32)), (.int (4 : Int32))]) (rest := [(.ref b173)]) (lenOf pd_5 rfl) rfl (by show 2 * 0 + _ ≤ _; exact Nat.le_of_eq rfl) (hb hby at_70) (fun _ _ => ⟨rfl, e173, (by decide : 2 + 0 ≤ _), (by decide : 8 + 0 ≤ _)⟩)
      dsimp only [Pt.U, Pt.locs, Pt.cells, Pt.slots] at X183 l183 y183 z183 st183 hQ183
      rw [l183, y183, z183] at X183
      obtain ⟨rfl, N183q, K183q, hq183_0, hq183_1, hq183_2⟩ := hQ183
      have N185 := Fr.app N35 N183q
      have K186 : Keep h0 T183.heap [] := (K178).trans K183q (allS (P := fun x => x ∈ [] ∨ h0.size ≤ x) (Or.inr bz177) all0)
      have f188 := (Nat.le_trans f184 K183q.1)
      obtain ⟨_, _, ⟨T187, L187, k187, n187⟩, -, X187, ⟨Lc187, hQ187, l187, y187, z187⟩, st187⟩ := Jvm.LawKit.callS X183 hx (y := MN5) hown (mvT hZ wo25) (mvT hZ wo26) (mvT hZ wo27) (mvT hZ wo28) (by decide) (backOf (W := 0) (rm5 l Z a0 hw [] (4 : Int32) (T183.heap) n0 f188 ) hZ wo28 wo27 (by decide) (by decide)) (g := (mkF m 77 #[iv p0_0, iv p0_1, iv p0_2, rv b1, iv (0 : Int32), iv (4 : Int32), rv b173, .unset] [(.int (4 : Int32))])) rfl (by rw [hml]; rfl) (argsL := [(.int (4 : Int32))]) (rest := []) (lenOf pd_2 rfl) rfl (by show 2 * 0 + _ ≤ _; exact Nat.le_of_eq rfl) (hb hby at_77) (fun _ _ => ⟨rfl, rfl, (by decide : 2 + 0 ≤ _), (by decide : 8 + 0 ≤ _)⟩)
      dsimp only [Pt.U, Pt.locs, Pt.cells, Pt.slots] at X187 l187 y187 z187 st187 hQ187
      rw [l187, y187, z187] at X187
      obtain ⟨rfl, N187q, K187q⟩ := hQ187
      have N189 := Fr.app N185 N187q
      have f190 := (f182.keep K183q (ninS ne174 nin0))
      obtain ⟨_, _, ⟨T191, L191, k191, n191⟩, -, X191, ⟨Lc191, hQ191, l191, y191, z191⟩, st191⟩ := Jvm.LawKit.callS X187 hx (y := MN6) hown (mvT hZ wo29) (mvT hZ wo30) (mvT hZ wo27) (mvT hZ wo31) (by decide) (backOf (W := 1) (rm_t0 l Z a0 hw [] b1 (0 : Int32) (4 : Int32) (0 : Int32) x0 x1 x2 x3 x4 (T183.heap) n0 f188 f190 (by first | decide | assumption | omega : (0 : Int32) < (4 : Int32)) (by first | decide | assumption | omega : ((0 : Int32) + (0 : Int32)) = (0 : Int32))) hZ wo31 wo27 (by decide) (by decide)) (g := (mkF m 86 #[iv p0_0, iv p0_1, iv p0_2, rv b1, iv (0 : Int32), iv (4 : Int32), rv b173, .unset] [(.int (0 : Int32)), (.int (4 : Int32)), (.int (0 : Int32)), (.ref b1), (.int (own_p31 (4 : Int32)))])) rfl (by rw [hml]; rfl) (argsL := [(.ref b1), (.int (0 : Int32)), (.int (4 : Int32)), (.int (0 : Int32))]) (rest := [(.int (own_p31 (4 : Int32)))]) (lenOf pd_6 rfl) rfl (by show 2 * 0 + _ ≤ _; exact Nat.le_of_eq rfl) (hb hby at_86) (fun _ _ => ⟨rfl, K187q, (by decide : 2 + 0 ≤ _), (by decide : 8 + 0 ≤ _)⟩)
      dsimp only [Pt.U, Pt.locs, Pt.cells, Pt.slots] at X191 l191 y191 z191 st191 hQ191
      rw [l191, y191, z191] at X191
      obtain ⟨rfl, N191q, K191q⟩ := hQ191
      have N192 := Fr.app N189 N191q
      obtain ⟨_, _, ⟨T193, L193, k193, n193⟩, -, X193, ⟨Lc193, hQ193, l193, y193, z193⟩, st193⟩ := Jvm.LawKit.callS X191 hx (y := MN6) hown (mvT hZ wo29) (mvT hZ wo30) (mvT hZ wo27) (mvT hZ wo31) (by decide) (backOf (W := 1) (rm_t1 l Z a0 hw [] b1 (0 : Int32) (4 : Int32) (1 : Int32) x0 x1 x2 x3 x4 (T183.heap) n0 f188 f190 (by first | decide | assumption | omega : (1 : Int32) < (4 : Int32)) (by first | decide | assumption | omega : ((0 : Int32) + (1 : Int32)) = (1 : Int32))) hZ wo31 wo27 (by decide) (by decide)) (g := (mkF m 96 #[iv p0_0, iv p0_1, iv p0_2, rv b1, iv (0 : Int32), iv (4 : Int32), rv b173, .unset] [(.int (1 : Int32)), (.int (4 : Int32)), (.int (0 : Int32)), (.ref b1), (.int ((own_p31 (4 : Int32)) + (x0 * (own_p31 (3 : Int32)))))])) rfl (by rw [hml]; rfl) (argsL := [(.ref b1), (.int (0 : Int32)), (.int (4 : Int32)), (.int (1 : Int32))]) (rest := [(.int ((own_p31 (4 : Int32)) + (x0 * (own_p31 (3 : Int32)))))]) (lenOf pd_6 rfl) rfl (by show 2 * 0 + _ ≤ _; exact Nat.le_of_eq rfl) (hb hby at_96) (fun _ _ => ⟨rfl, K191q, (by decide : 2 + 0 ≤ _), (by decide : 8 + 0 ≤ _)⟩)
      dsimp only [Pt.U, Pt.locs, Pt.cells, Pt.slots] at X193 l193 y193 z193 st193 hQ193
      rw [l193, y193, z193] at X193
      obtain ⟨rfl, N193q, K193q⟩ := hQ193
      have N194 := Fr.app N192 N193q
      obtain ⟨_, _, ⟨T195, L195, k195, n195⟩, -, X195, ⟨Lc195, hQ195, l195, y195, z195⟩, st195⟩ := Jvm.LawKit.callS X193 hx (y := MN6) hown (mvT hZ wo29) (mvT hZ wo30) (mvT hZ wo27) (mvT hZ wo31) (by decide) (backOf (W := 1) (rm_t2 l Z a0 hw [] b1 (0 : Int32) (4 : Int32) (2 : Int32) x0 x1 x2 x3 x4 (T183.heap) n0 f188 f190 (by first | decide | assumption | omega : (2 : Int32) < (4 : Int32)) (by first | decide | assumption | omega : ((0 : Int32) + (2 : Int32)) = (2 : Int32))) hZ wo31 wo27 (by decide) (by decide)) (g := (mkF m 106 #[iv p0_0, iv p0_1, iv p0_2, rv b1, iv (0 : Int32), iv (4 : Int32), rv b173, .unset] [(.int (2 : Int32)), (.int (4 : Int32)), (.int (0 : Int32)), (.ref b1), (.int (((own_p31 (4 : Int32)) + (x0 * (own_p31 (3 : Int32)))) + (x1 * (own_p31 (2 : Int32)))))])) rfl (by rw [hml]; rfl) (argsL := [(.ref b1), (.int (0 : Int32)), (.int (4 : Int32)), (.int (2 : Int32))]) (rest := [(.int (((own_p31 (4 : Int32)) + (x0 * (own_p31 (3 : Int32)))) + (x1 * (own_p31 (2 : Int32)))))]) (lenOf pd_6 rfl) rfl (by show 2 * 0 + _ ≤ _; exact Nat.le_of_eq rfl) (hb hby at_106) (fun _ _ => ⟨rfl, K193q, (by decide : 2 + 0 ≤ _), (by decide : 8 + 0 ≤ _)⟩)
      dsimp only [Pt.U, Pt.locs, Pt.cells, Pt.slots] at X195 l195 y195 z195 st195 hQ195
      rw [l195, y195, z195] at X195
      obtain ⟨rfl, N195q, K195q⟩ := hQ195
      have N196 := Fr.app N194 N195q
      obtain ⟨_, _, ⟨T197, L197, k197, n197⟩, -, X197, ⟨Lc197, hQ197, l197, y197, z197⟩, st197⟩ := Jvm.LawKit.callS X195 hx (y := MN6) hown (mvT hZ wo29) (mvT hZ wo30) (mvT hZ wo27) (mvT hZ wo31) (by decide) (backOf (W := 1) (rm_t3 l Z a0 hw [] b1 (0 : Int32) (4 : Int32) (3 : Int32) x0 x1 x2 x3 x4 (T183.heap) n0 f188 f190 (by first | decide | assumption | omega : (3 : Int32) < (4 : Int32)) (by first | decide | assumption | omega : ((0 : Int32) + (3 : Int32)) = (3 : Int32))) hZ wo31 wo27 (by decide) (by decide)) (g := (mkF m 116 #[iv p0_0, iv p0_1, iv p0_2, rv b1, iv (0 : Int32), iv (4 : Int32), rv b173, .unset] [(.int (3 : Int32)), (.int (4 : Int32)), (.int (0 : Int32)), (.ref b1), (.int ((((own_p31 (4 : Int32)) + (x0 * (own_p31 (3 : Int32)))) + (x1 * (own_p31 (2 : Int32)))) + (x2 * (own_p31 (1 : Int32)))))])) rfl (by rw [hml]; rfl) (argsL := [(.ref b1), (.int (0 : Int32)), (.int (4 : Int32)), (.int (3 : Int32))]) (rest := [(.int ((((own_p31 (4 : Int32)) + (x0 * (own_p31 (3 : Int32)))) + (x1 * (own_p31 (2 : Int32)))) + (x2 * (own_p31 (1 : Int32)))))]) (lenOf pd_6 rfl) rfl (by show 2 * 0 + _ ≤ _; exact Nat.le_of_eq rfl) (hb hby at_116) (fun _ _ => ⟨rfl, K195q, (by decide : 2 + 0 ≤ _), (by decide : 8 + 0 ≤ _)⟩)
      dsimp only [Pt.U, Pt.locs, Pt.cells, Pt.slots] at X197 l197 y197 z197 st197 hQ197
      rw [l197, y197, z197] at X197
      obtain ⟨rfl, N197q, K197q⟩ := hQ197
      have N198 := Fr.app N196 N197q
      obtain ⟨_, _, ⟨T199, L199, k199, n199⟩, -, X199, ⟨Lc199, hQ199, l199, y199, z199⟩, st199⟩ := Jvm.LawKit.callS X197 hx (y := MN6) hown (mvT hZ wo29) (mvT hZ wo30) (mvT hZ wo27) (mvT hZ wo31) (by decide) (backOf (W := 1) (rm_t l Z a0 hw [] b1 (0 : Int32) (4 : Int32) (4 : Int32) (T183.heap) n0 f188 (by first | decide | assumption | omega : ¬ ((4 : Int32) < (4 : Int32)))) hZ wo31 wo27 (by decide) (by decide)) (g := (mkF m 126 #[iv p0_0, iv p0_1, iv p0_2, rv b1, iv (0 : Int32), iv (4 : Int32), rv b173, .unset] [(.int (4 : Int32)), (.int (4 : Int32)), (.int (0 : Int32)), (.ref b1), (.int (((((own_p31 (4 : Int32)) + (x0 * (own_p31 (3 : Int32)))) + (x1 * (own_p31 (2 : Int32)))) + (x2 * (own_p31 (1 : Int32)))) + (x3 * (own_p31 (0 : Int32)))))])) rfl (by rw [hml]; rfl) (argsL := [(.ref b1), (.int (0 : Int32)), (.int (4 : Int32)), (.int (4 : Int32))]) (rest := [(.int (((((own_p31 (4 : Int32)) + (x0 * (own_p31 (3 : Int32)))) + (x1 * (own_p31 (2 : Int32)))) + (x2 * (own_p31 (1 : Int32)))) + (x3 * (own_p31 (0 : Int32)))))]) (lenOf pd_6 rfl) rfl (by show 2 * 0 + _ ≤ _; exact Nat.le_of_eq rfl) (hb hby at_126) (fun _ _ => ⟨rfl, K197q, (by decide : 2 + 0 ≤ _), (by decide : 8 + 0 ≤ _)⟩)
      dsimp only [Pt.U, Pt.locs, Pt.cells, Pt.slots] at X199 l199 y199 z199 st199 hQ199
      rw [l199, y199, z199] at X199
      obtain ⟨rfl, N199q, K199q⟩ := hQ199
      have N200 := Fr.app N198 N199q
      have f202 := (A173.keep K183q)
      obtain ⟨cq201, kq201, q201a, q201b, q201c⟩ := isOf hZ K199q f202
      obtain ⟨_, _, ⟨T201, L201, k201, n201⟩, -, X201, ⟨Lc201, hQ201, l201, y201, z201⟩, st201⟩ := X199.virtualBack hx (y := MN7) (z := MN7) hown (mvT hZ wo32) (mvT hZ wo33) (notFace_of_selects (args := #[]) (mvT hZ wo35)) (mvT hZ wo35) (mvT hZ wo34) (by decide) (backOf (W := 0) (rm_h0_4 l Z a0 hw [] b173 b1 x0 x1 x2 x3 x4 (T183.heap) n0 f188 hq183_0 hq183_1 hq183_2 f190) hZ wo36 wo4 (by decide) (by decide)) q201a q201c (g := (mkF m 134 #[iv p0_0, iv p0_1, iv p0_2, rv b1, iv (0 : Int32), iv (4 : Int32), rv b173, iv ((((((own_p31 (4 : Int32)) + (x0 * (own_p31 (3 : Int32)))) + (x1 * (own_p31 (2 : Int32)))) + (x2 * (own_p31 (1 : Int32)))) + (x3 * (own_p31 (0 : Int32)))) + (0 : Int32))] [(.ref b173)])) rfl (by rw [hml]; rfl) (Steps.refl _) (argsL := []) (rest := []) (lenOf pd_0 rfl) rfl (by show 2 * 0 + _ ≤ _; exact Nat.le_of_eq rfl) (hb hby at_134) (fun _ _ => ⟨rfl, K199q, (by decide : 2 + 0 ≤ _), (by decide : 8 + 0 ≤ _)⟩)
      dsimp only [Pt.U, Pt.locs, Pt.cells, Pt.slots] at X201 l201 y201 z201 st201 hQ201
      rw [l201, y201, z201] at X201
      obtain ⟨rfl, N201q, K201q⟩ := hQ201
      have N203 := Fr.app N200 N201q
      have hc204 : (((31 : Int32) * (((31 : Int32) * (((31 : Int32) * ((31 : Int32) + x0)) + x1)) + x2)) + x3) = ((((((own_p31 (4 : Int32)) + (x0 * (own_p31 (3 : Int32)))) + (x1 * (own_p31 (2 : Int32)))) + (x2 * (own_p31 (1 : Int32)))) + (x3 * (own_p31 (0 : Int32)))) + (0 : Int32)) := (by simp only [own_q0, own_q1, own_q2, own_q3, own_q4, own_q5]; first | rfl | grind)
      obtain ⟨fs, hr, hrun, hended, hW, hsame⟩ := X201.leave (v := some (.int (1 : Int32))) (fun h => by rw [Bd.returns] at h; cases h)
      refine ⟨_, _, pre43 _ ?_, hrun, hended, _, _, rfl, ?_, ⟨_, rfl⟩, hW, hsame.mono (by decide) (by decide)⟩
      · show Steps p.tables e below (T32.setTop (mkF m 61 #[iv p0_0, iv p0_1, iv p0_2, rv b1, iv (0 : Int32), iv (4 : Int32), .unset, .unset] [])) _
        refine st173 _ ?_
        show Steps p.tables e below (T173.setTop (mkF m 64 #[iv p0_0, iv p0_1, iv p0_2, rv b1, iv (0 : Int32), iv (4 : Int32), .unset, .unset] [(.ref b173)])) _
        refine XS.dup X173.here hx rfl (hb hby at_64) rfl rfl ?_
        refine XS.aloadN X173.here hx rfl (hb hby at_65) rfl rfl ?_
        refine XS.iload X173.here hx rfl (hb hby at_66) rfl ?_
        show Steps p.tables e below (T173.setTop (mkF m 68 #[iv p0_0, iv p0_1, iv p0_2, rv b1, iv (0 : Int32), iv (4 : Int32), .unset, .unset] [(.int (0 : Int32)), (.ref b1), (.ref b173), (.ref b173)])) _
        refine XS.iload X173.here hx rfl (hb hby at_68) rfl ?_
        show Steps p.tables e below (T173.setTop (mkF m 70 #[iv p0_0, iv p0_1, iv p0_2, rv b1, iv (0 : Int32), iv (4 : Int32), .unset, .unset] [(.int (4 : Int32)), (.int (0 : Int32)), (.ref b1), (.ref b173), (.ref b173)])) _
        refine st183.trans ?_
        show Steps p.tables e below (T183.setTop (mkF m 73 #[iv p0_0, iv p0_1, iv p0_2, rv b1, iv (0 : Int32), iv (4 : Int32), .unset, .unset] [(.ref b173)])) _
        refine XS.astore X183.here hx rfl (hb hby at_73) rfl rfl (l' := #[iv p0_0, iv p0_1, iv p0_2, rv b1, iv (0 : Int32), iv (4 : Int32), rv b173, .unset]) rfl ?_
        refine XS.iload X183.here hx rfl (hb hby at_75) rfl ?_
        show Steps p.tables e below (T183.setTop (mkF m 77 #[iv p0_0, iv p0_1, iv p0_2, rv b1, iv (0 : Int32), iv (4 : Int32), rv b173, .unset] [(.int (4 : Int32))])) _
        refine st187 _ ?_
        show Steps p.tables e below (T187.setTop (mkF m 80 #[iv p0_0, iv p0_1, iv p0_2, rv b1, iv (0 : Int32), iv (4 : Int32), rv b173, .unset] [(.int (own_p31 (4 : Int32)))])) _
        refine XS.aloadN X187.here hx rfl (hb hby at_80) rfl rfl ?_
        refine XS.iload X187.here hx rfl (hb hby at_81) rfl ?_
        refine XS.iload X187.here hx rfl (hb hby at_83) rfl ?_
        show Steps p.tables e below (T187.setTop (mkF m 85 #[iv p0_0, iv p0_1, iv p0_2, rv b1, iv (0 : Int32), iv (4 : Int32), rv b173, .unset] [(.int (4 : Int32)), (.int (0 : Int32)), (.ref b1), (.int (own_p31 (4 : Int32)))])) _
        refine XS.iconst X187.here hx rfl (hb hby at_85) ?_
        show Steps p.tables e below (T187.setTop (mkF m 86 #[iv p0_0, iv p0_1, iv p0_2, rv b1, iv (0 : Int32), iv (4 : Int32), rv b173, .unset] [(.int (0 : Int32)), (.int (4 : Int32)), (.int (0 : Int32)), (.ref b1), (.int (own_p31 (4 : Int32)))])) _
        refine st191 _ ?_
        show Steps p.tables e below (T191.setTop (mkF m 89 #[iv p0_0, iv p0_1, iv p0_2, rv b1, iv (0 : Int32), iv (4 : Int32), rv b173, .unset] [(.int (x0 * (own_p31 (3 : Int32)))), (.int (own_p31 (4 : Int32)))])) _
        refine XS.iadd X191.here hx rfl (hb hby at_89) rfl ?_
        refine XS.aloadN X191.here hx rfl (hb hby at_90) rfl rfl ?_
        show Steps p.tables e below (T191.setTop (mkF m 91 #[iv p0_0, iv p0_1, iv p0_2, rv b1, iv (0 : Int32), iv (4 : Int32), rv b173, .unset] [(.ref b1), (.int ((own_p31 (4 : Int32)) + (x0 * (own_p31 (3 : Int32)))))])) _
        refine XS.iload X191.here hx rfl (hb hby at_91) rfl ?_
        refine XS.iload X191.here hx rfl (hb hby at_93) rfl ?_
        refine XS.iconst X191.here hx rfl (hb hby at_95) ?_
        show Steps p.tables e below (T191.setTop (mkF m 96 #[iv p0_0, iv p0_1, iv p0_2, rv b1, iv (0 : Int32), iv (4 : Int32), rv b173, .unset] [(.int (1 : Int32)), (.int (4 : Int32)), (.int (0 : Int32)), (.ref b1), (.int ((own_p31 (4 : Int32)) + (x0 * (own_p31 (3 : Int32)))))])) _
        refine st193 _ ?_
        show Steps p.tables e below (T193.setTop (mkF m 99 #[iv p0_0, iv p0_1, iv p0_2, rv b1, iv (0 : Int32), iv (4 : Int32), rv b173, .unset] [(.int (x1 * (own_p31 (2 : Int32)))), (.int ((own_p31 (4 : Int32)) + (x0 * (own_p31 (3 : Int32)))))])) _
        refine XS.iadd X193.here hx rfl (hb hby at_99) rfl ?_
        refine XS.aloadN X193.here hx rfl (hb hby at_100) rfl rfl ?_
        refine XS.iload X193.here hx rfl (hb hby at_101) rfl ?_
        refine XS.iload X193.here hx rfl (hb hby at_103) rfl ?_
        show Steps p.tables e below (T193.setTop (mkF m 105 #[iv p0_0, iv p0_1, iv p0_2, rv b1, iv (0 : Int32), iv (4 : Int32), rv b173, .unset] [(.int (4 : Int32)), (.int (0 : Int32)), (.ref b1), (.int (((own_p31 (4 : Int32)) + (x0 * (own_p31 (3 : Int32)))) + (x1 * (own_p31 (2 : Int32)))))])) _
        refine XS.iconst X193.here hx rfl (hb hby at_105) ?_
        show Steps p.tables e below (T193.setTop (mkF m 106 #[iv p0_0, iv p0_1, iv p0_2, rv b1, iv (0 : Int32), iv (4 : Int32), rv b173, .unset] [(.int (2 : Int32)), (.int (4 : Int32)), (.int (0 : Int32)), (.ref b1), (.int (((own_p31 (4 : Int32)) + (x0 * (own_p31 (3 : Int32)))) + (x1 * (own_p31 (2 : Int32)))))])) _
        refine st195 _ ?_
        show Steps p.tables e below (T195.setTop (mkF m 109 #[iv p0_0, iv p0_1, iv p0_2, rv b1, iv (0 : Int32), iv (4 : Int32), rv b173, .unset] [(.int (x2 * (own_p31 (1 : Int32)))), (.int (((own_p31 (4 : Int32)) + (x0 * (own_p31 (3 : Int32)))) + (x1 * (own_p31 (2 : Int32)))))])) _
        refine XS.iadd X195.here hx rfl (hb hby at_109) rfl ?_
        refine XS.aloadN X195.here hx rfl (hb hby at_110) rfl rfl ?_
        show Steps p.tables e below (T195.setTop (mkF m 111 #[iv p0_0, iv p0_1, iv p0_2, rv b1, iv (0 : Int32), iv (4 : Int32), rv b173, .unset] [(.ref b1), (.int ((((own_p31 (4 : Int32)) + (x0 * (own_p31 (3 : Int32)))) + (x1 * (own_p31 (2 : Int32)))) + (x2 * (own_p31 (1 : Int32)))))])) _
        refine XS.iload X195.here hx rfl (hb hby at_111) rfl ?_
        refine XS.iload X195.here hx rfl (hb hby at_113) rfl ?_
        refine XS.iconst X195.here hx rfl (hb hby at_115) ?_
        show Steps p.tables e below (T195.setTop (mkF m 116 #[iv p0_0, iv p0_1, iv p0_2, rv b1, iv (0 : Int32), iv (4 : Int32), rv b173, .unset] [(.int (3 : Int32)), (.int (4 : Int32)), (.int (0 : Int32)), (.ref b1), (.int ((((own_p31 (4 : Int32)) + (x0 * (own_p31 (3 : Int32)))) + (x1 * (own_p31 (2 : Int32)))) + (x2 * (own_p31 (1 : Int32)))))])) _
        refine st197 _ ?_
        show Steps p.tables e below (T197.setTop (mkF m 119 #[iv p0_0, iv p0_1, iv p0_2, rv b1, iv (0 : Int32), iv (4 : Int32), rv b173, .unset] [(.int (x3 * (own_p31 (0 : Int32)))), (.int ((((own_p31 (4 : Int32)) + (x0 * (own_p31 (3 : Int32)))) + (x1 * (own_p31 (2 : Int32)))) + (x2 * (own_p31 (1 : Int32)))))])) _
        refine XS.iadd X197.here hx rfl (hb hby at_119) rfl ?_
        refine XS.aloadN X197.here hx rfl (hb hby at_120) rfl rfl ?_
        refine XS.iload X197.here hx rfl (hb hby at_121) rfl ?_
        refine XS.iload X197.here hx rfl (hb hby at_123) rfl ?_
        show Steps p.tables e below (T197.setTop (mkF m 125 #[iv p0_0, iv p0_1, iv p0_2, rv b1, iv (0 : Int32), iv (4 : Int32), rv b173, .unset] [(.int (4 : Int32)), (.int (0 : Int32)), (.ref b1), (.int (((((own_p31 (4 : Int32)) + (x0 * (own_p31 (3 : Int32)))) + (x1 * (own_p31 (2 : Int32)))) + (x2 * (own_p31 (1 : Int32)))) + (x3 * (own_p31 (0 : Int32)))))])) _
        refine XS.iconst X197.here hx rfl (hb hby at_125) ?_
        show Steps p.tables e below (T197.setTop (mkF m 126 #[iv p0_0, iv p0_1, iv p0_2, rv b1, iv (0 : Int32), iv (4 : Int32), rv b173, .unset] [(.int (4 : Int32)), (.int (4 : Int32)), (.int (0 : Int32)), (.ref b1), (.int (((((own_p31 (4 : Int32)) + (x0 * (own_p31 (3 : Int32)))) + (x1 * (own_p31 (2 : Int32)))) + (x2 * (own_p31 (1 : Int32)))) + (x3 * (own_p31 (0 : Int32)))))])) _
        refine st199 _ ?_
        show Steps p.tables e below (T199.setTop (mkF m 129 #[iv p0_0, iv p0_1, iv p0_2, rv b1, iv (0 : Int32), iv (4 : Int32), rv b173, .unset] [(.int (0 : Int32)), (.int (((((own_p31 (4 : Int32)) + (x0 * (own_p31 (3 : Int32)))) + (x1 * (own_p31 (2 : Int32)))) + (x2 * (own_p31 (1 : Int32)))) + (x3 * (own_p31 (0 : Int32)))))])) _
        refine XS.iadd X199.here hx rfl (hb hby at_129) rfl ?_
        refine XS.istore X199.here hx rfl (hb hby at_130) rfl (l' := #[iv p0_0, iv p0_1, iv p0_2, rv b1, iv (0 : Int32), iv (4 : Int32), rv b173, iv ((((((own_p31 (4 : Int32)) + (x0 * (own_p31 (3 : Int32)))) + (x1 * (own_p31 (2 : Int32)))) + (x2 * (own_p31 (1 : Int32)))) + (x3 * (own_p31 (0 : Int32)))) + (0 : Int32))]) rfl ?_
        show Steps p.tables e below (T199.setTop (mkF m 132 #[iv p0_0, iv p0_1, iv p0_2, rv b1, iv (0 : Int32), iv (4 : Int32), rv b173, iv ((((((own_p31 (4 : Int32)) + (x0 * (own_p31 (3 : Int32)))) + (x1 * (own_p31 (2 : Int32)))) + (x2 * (own_p31 (1 : Int32)))) + (x3 * (own_p31 (0 : Int32)))) + (0 : Int32))] [])) _
        refine XS.aload X199.here hx rfl (hb hby at_132) rfl rfl ?_
        show Steps p.tables e below (T199.setTop (mkF m 134 #[iv p0_0, iv p0_1, iv p0_2, rv b1, iv (0 : Int32), iv (4 : Int32), rv b173, iv ((((((own_p31 (4 : Int32)) + (x0 * (own_p31 (3 : Int32)))) + (x1 * (own_p31 (2 : Int32)))) + (x2 * (own_p31 (1 : Int32)))) + (x3 * (own_p31 (0 : Int32)))) + (0 : Int32))] [(.ref b173)])) _
        refine st201.trans ?_
        show Steps p.tables e below (T201.setTop (mkF m 137 #[iv p0_0, iv p0_1, iv p0_2, rv b1, iv (0 : Int32), iv (4 : Int32), rv b173, iv ((((((own_p31 (4 : Int32)) + (x0 * (own_p31 (3 : Int32)))) + (x1 * (own_p31 (2 : Int32)))) + (x2 * (own_p31 (1 : Int32)))) + (x3 * (own_p31 (0 : Int32)))) + (0 : Int32))] [(.int (((31 : Int32) * (((31 : Int32) * (((31 : Int32) * ((31 : Int32) + x0)) + x1)) + x2)) + x3))])) _
        refine XS.iload X201.here hx rfl (hb hby at_137) rfl ?_
        refine XS.icmpNo X201.here hx rfl (hb hby at_139) rfl (teq hc204).2 ?_
        show Steps p.tables e below (T201.setTop (mkF m 142 #[iv p0_0, iv p0_1, iv p0_2, rv b1, iv (0 : Int32), iv (4 : Int32), rv b173, iv ((((((own_p31 (4 : Int32)) + (x0 * (own_p31 (3 : Int32)))) + (x1 * (own_p31 (2 : Int32)))) + (x2 * (own_p31 (1 : Int32)))) + (x3 * (own_p31 (0 : Int32)))) + (0 : Int32))] [])) _
        refine XS.iconst X201.here hx rfl (hb hby at_142) ?_
        refine XS.goto X201.here hx rfl (pc0 := 143) (pc' := 147) rfl (hb hby at_143) (by decide) (by decide) ?_
        show Steps p.tables e below (T201.setTop (mkF m 147 #[iv p0_0, iv p0_1, iv p0_2, rv b1, iv (0 : Int32), iv (4 : Int32), rv b173, iv ((((((own_p31 (4 : Int32)) + (x0 * (own_p31 (3 : Int32)))) + (x1 * (own_p31 (2 : Int32)))) + (x2 * (own_p31 (1 : Int32)))) + (x3 * (own_p31 (0 : Int32)))) + (0 : Int32))] [(.int (1 : Int32))])) _
        exact retN X201 hx (t := .boolean) Bd.returns (by simp) (hb hby at_147) hr
      · show Q_rm0 Z _ _ _ h0 n0 _ T201.heap _
        rw [K201q]
        exact ⟨rfl, N203, (K186)⟩
    · skip
      obtain ⟨T205, h205, X205, e205, E205, A205, D205, -, st205⟩ := newO X32 hx hZ hown wo2 wo3 wo4 e32 (g := (mkF m 61 #[iv p0_0, iv p0_1, iv p0_2, rv b1, iv (0 : Int32), iv (5 : Int32), .unset, .unset] [])) rfl (hb hby at_61) (by decide) (by decide)
      obtain ⟨b205, gg205⟩ : ∃ z, z = h32.size := ⟨_, rfl⟩
      rw [← gg205] at A205 D205 st205
      have ne206 : b1 ≠ b205 := Nat.ne_of_lt (Nat.lt_of_lt_of_le f40.lt (Nat.le_of_eq gg205.symm))
      have f208 := (Nat.le_trans (Nat.le_trans (Nat.le_trans (Nat.le_trans (Nat.le_trans (Nat.le_trans Z0 E1.1) (Keep.of_wr W8).1) (Keep.of_wr W14).1) (Keep.of_wr W20).1) (Keep.of_wr W26).1) (Keep.of_wr W32).1)
      have g207 : n0 ≤ b205 := Nat.le_trans f208 (Nat.le_of_eq gg205.symm)
      have bz209 : h0.size ≤ b205 := Nat.le_trans (K33).1 (Nat.le_of_eq gg205.symm)
      have K210 : Keep h0 h205 [] := (K33).ext E205
      have f211 : Fld Z h205 b205 "com/example/tailwake/tailwake/source/mariadb/Slice" "array" "[B" .null := D205 (Or.inr wo20) (ty := (.array .byte)) (by decide)
      have f212 : Fld Z h205 b205 "com/example/tailwake/tailwake/source/mariadb/Slice" "offset" "I" (.int (0 : Int32)) := D205 (Or.inr wo22) (ty := .int) (by decide)
      have f213 : Fld Z h205 b205 "com/example/tailwake/tailwake/source/mariadb/Slice" "length" "I" (.int (0 : Int32)) := D205 (Or.inr wo24) (ty := .int) (by decide)
      have f214 := (f40.ext E205)
      have f216 := (Nat.le_trans f208 E205.1)
      obtain ⟨_, _, ⟨T215, L215, k215, n215⟩, -, X215, ⟨Lc215, hQ215, l215, y215, z215⟩, st215⟩ := X205.specialBack hx (y := MN1) rfl hown (mvT hZ wo5) (mvT hZ wo6) (mvT hZ wo7) (by decide) (backOf (W := 1) (rm1 l Z a0 hw [] b205 b1 (0 : Int32) (5 : Int32) h205 n0 f216 A205 g207 f211 f212 f213 f214.al (by first | decide | assumption | omega : ¬ ((((5 : Int32) ||| (0 : Int32)) ||| (5 : Int32)) < (0 : Int32))) (by first | decide | assumption | omega : ¬ (((5 : Int32) - (0 : Int32)) < (5 : Int32)))) hZ wo7 wo4 (by decide) (by decide)) (g := (mkF m 70 #[iv p0_0, iv p0_1, iv p0_2, rv b1, iv (0 : Int32), iv (5 : Int32), .unset, .unset] [(.int (5 : Int32)), (.int (0 : Int32)), (.ref b1), (.ref b205), (.ref b205)])) rfl (by rw [hml]; rfl) (Steps.refl _) (a := b205) (argsL := [(.ref b1), (.int (0 : Int32)), (.int (5 : Int32))]) (rest := [(.ref b205)]) (lenOf pd_5 rfl) rfl (by show 2 * 0 + _ ≤ _; exact Nat.le_of_eq rfl) (hb hby at_70) (fun _ _ => ⟨rfl, e205, (by decide : 2 + 0 ≤ _), (by decide : 8 + 0 ≤ _)⟩)
      dsimp only [Pt.U, Pt.locs, Pt.cells, Pt.slots] at X215 l215 y215 z215 st215 hQ215
      rw [l215, y215, z215] at X215
      obtain ⟨rfl, N215q, K215q, hq215_0, hq215_1, hq215_2⟩ := hQ215
      have N217 := Fr.app N35 N215q
      have K218 : Keep h0 T215.heap [] := (K210).trans K215q (allS (P := fun x => x ∈ [] ∨ h0.size ≤ x) (Or.inr bz209) all0)
      have f220 := (Nat.le_trans f216 K215q.1)
      obtain ⟨_, _, ⟨T219, L219, k219, n219⟩, -, X219, ⟨Lc219, hQ219, l219, y219, z219⟩, st219⟩ := Jvm.LawKit.callS X215 hx (y := MN5) hown (mvT hZ wo25) (mvT hZ wo26) (mvT hZ wo27) (mvT hZ wo28) (by decide) (backOf (W := 0) (rm5 l Z a0 hw [] (5 : Int32) (T215.heap) n0 f220 ) hZ wo28 wo27 (by decide) (by decide)) (g := (mkF m 77 #[iv p0_0, iv p0_1, iv p0_2, rv b1, iv (0 : Int32), iv (5 : Int32), rv b205, .unset] [(.int (5 : Int32))])) rfl (by rw [hml]; rfl) (argsL := [(.int (5 : Int32))]) (rest := []) (lenOf pd_2 rfl) rfl (by show 2 * 0 + _ ≤ _; exact Nat.le_of_eq rfl) (hb hby at_77) (fun _ _ => ⟨rfl, rfl, (by decide : 2 + 0 ≤ _), (by decide : 8 + 0 ≤ _)⟩)
      dsimp only [Pt.U, Pt.locs, Pt.cells, Pt.slots] at X219 l219 y219 z219 st219 hQ219
      rw [l219, y219, z219] at X219
      obtain ⟨rfl, N219q, K219q⟩ := hQ219
      have N221 := Fr.app N217 N219q
      have f222 := (f214.keep K215q (ninS ne206 nin0))
      obtain ⟨_, _, ⟨T223, L223, k223, n223⟩, -, X223, ⟨Lc223, hQ223, l223, y223, z223⟩, st223⟩ := Jvm.LawKit.callS X219 hx (y := MN6) hown (mvT hZ wo29) (mvT hZ wo30) (mvT hZ wo27) (mvT hZ wo31) (by decide) (backOf (W := 1) (rm_t0 l Z a0 hw [] b1 (0 : Int32) (5 : Int32) (0 : Int32) x0 x1 x2 x3 x4 (T215.heap) n0 f220 f222 (by first | decide | assumption | omega : (0 : Int32) < (5 : Int32)) (by first | decide | assumption | omega : ((0 : Int32) + (0 : Int32)) = (0 : Int32))) hZ wo31 wo27 (by decide) (by decide)) (g := (mkF m 86 #[iv p0_0, iv p0_1, iv p0_2, rv b1, iv (0 : Int32), iv (5 : Int32), rv b205, .unset] [(.int (0 : Int32)), (.int (5 : Int32)), (.int (0 : Int32)), (.ref b1), (.int (own_p31 (5 : Int32)))])) rfl (by rw [hml]; rfl) (argsL := [(.ref b1), (.int (0 : Int32)), (.int (5 : Int32)), (.int (0 : Int32))]) (rest := [(.int (own_p31 (5 : Int32)))]) (lenOf pd_6 rfl) rfl (by show 2 * 0 + _ ≤ _; exact Nat.le_of_eq rfl) (hb hby at_86) (fun _ _ => ⟨rfl, K219q, (by decide : 2 + 0 ≤ _), (by decide : 8 + 0 ≤ _)⟩)
      dsimp only [Pt.U, Pt.locs, Pt.cells, Pt.slots] at X223 l223 y223 z223 st223 hQ223
      rw [l223, y223, z223] at X223
      obtain ⟨rfl, N223q, K223q⟩ := hQ223
      have N224 := Fr.app N221 N223q
      obtain ⟨_, _, ⟨T225, L225, k225, n225⟩, -, X225, ⟨Lc225, hQ225, l225, y225, z225⟩, st225⟩ := Jvm.LawKit.callS X223 hx (y := MN6) hown (mvT hZ wo29) (mvT hZ wo30) (mvT hZ wo27) (mvT hZ wo31) (by decide) (backOf (W := 1) (rm_t1 l Z a0 hw [] b1 (0 : Int32) (5 : Int32) (1 : Int32) x0 x1 x2 x3 x4 (T215.heap) n0 f220 f222 (by first | decide | assumption | omega : (1 : Int32) < (5 : Int32)) (by first | decide | assumption | omega : ((0 : Int32) + (1 : Int32)) = (1 : Int32))) hZ wo31 wo27 (by decide) (by decide)) (g := (mkF m 96 #[iv p0_0, iv p0_1, iv p0_2, rv b1, iv (0 : Int32), iv (5 : Int32), rv b205, .unset] [(.int (1 : Int32)), (.int (5 : Int32)), (.int (0 : Int32)), (.ref b1), (.int ((own_p31 (5 : Int32)) + (x0 * (own_p31 (4 : Int32)))))])) rfl (by rw [hml]; rfl) (argsL := [(.ref b1), (.int (0 : Int32)), (.int (5 : Int32)), (.int (1 : Int32))]) (rest := [(.int ((own_p31 (5 : Int32)) + (x0 * (own_p31 (4 : Int32)))))]) (lenOf pd_6 rfl) rfl (by show 2 * 0 + _ ≤ _; exact Nat.le_of_eq rfl) (hb hby at_96) (fun _ _ => ⟨rfl, K223q, (by decide : 2 + 0 ≤ _), (by decide : 8 + 0 ≤ _)⟩)
      dsimp only [Pt.U, Pt.locs, Pt.cells, Pt.slots] at X225 l225 y225 z225 st225 hQ225
      rw [l225, y225, z225] at X225
      obtain ⟨rfl, N225q, K225q⟩ := hQ225
      have N226 := Fr.app N224 N225q
      obtain ⟨_, _, ⟨T227, L227, k227, n227⟩, -, X227, ⟨Lc227, hQ227, l227, y227, z227⟩, st227⟩ := Jvm.LawKit.callS X225 hx (y := MN6) hown (mvT hZ wo29) (mvT hZ wo30) (mvT hZ wo27) (mvT hZ wo31) (by decide) (backOf (W := 1) (rm_t2 l Z a0 hw [] b1 (0 : Int32) (5 : Int32) (2 : Int32) x0 x1 x2 x3 x4 (T215.heap) n0 f220 f222 (by first | decide | assumption | omega : (2 : Int32) < (5 : Int32)) (by first | decide | assumption | omega : ((0 : Int32) + (2 : Int32)) = (2 : Int32))) hZ wo31 wo27 (by decide) (by decide)) (g := (mkF m 106 #[iv p0_0, iv p0_1, iv p0_2, rv b1, iv (0 : Int32), iv (5 : Int32), rv b205, .unset] [(.int (2 : Int32)), (.int (5 : Int32)), (.int (0 : Int32)), (.ref b1), (.int (((own_p31 (5 : Int32)) + (x0 * (own_p31 (4 : Int32)))) + (x1 * (own_p31 (3 : Int32)))))])) rfl (by rw [hml]; rfl) (argsL := [(.ref b1), (.int (0 : Int32)), (.int (5 : Int32)), (.int (2 : Int32))]) (rest := [(.int (((own_p31 (5 : Int32)) + (x0 * (own_p31 (4 : Int32)))) + (x1 * (own_p31 (3 : Int32)))))]) (lenOf pd_6 rfl) rfl (by show 2 * 0 + _ ≤ _; exact Nat.le_of_eq rfl) (hb hby at_106) (fun _ _ => ⟨rfl, K225q, (by decide : 2 + 0 ≤ _), (by decide : 8 + 0 ≤ _)⟩)
      dsimp only [Pt.U, Pt.locs, Pt.cells, Pt.slots] at X227 l227 y227 z227 st227 hQ227
      rw [l227, y227, z227] at X227
      obtain ⟨rfl, N227q, K227q⟩ := hQ227
      have N228 := Fr.app N226 N227q
      obtain ⟨_, _, ⟨T229, L229, k229, n229⟩, -, X229, ⟨Lc229, hQ229, l229, y229, z229⟩, st229⟩ := Jvm.LawKit.callS X227 hx (y := MN6) hown (mvT hZ wo29) (mvT hZ wo30) (mvT hZ wo27) (mvT hZ wo31) (by decide) (backOf (W := 1) (rm_t3 l Z a0 hw [] b1 (0 : Int32) (5 : Int32) (3 : Int32) x0 x1 x2 x3 x4 (T215.heap) n0 f220 f222 (by first | decide | assumption | omega : (3 : Int32) < (5 : Int32)) (by first | decide | assumption | omega : ((0 : Int32) + (3 : Int32)) = (3 : Int32))) hZ wo31 wo27 (by decide) (by decide)) (g := (mkF m 116 #[iv p0_0, iv p0_1, iv p0_2, rv b1, iv (0 : Int32), iv (5 : Int32), rv b205, .unset] [(.int (3 : Int32)), (.int (5 : Int32)), (.int (0 : Int32)), (.ref b1), (.int ((((own_p31 (5 : Int32)) + (x0 * (own_p31 (4 : Int32)))) + (x1 * (own_p31 (3 : Int32)))) + (x2 * (own_p31 (2 : Int32)))))])) rfl (by rw [hml]; rfl) (argsL := [(.ref b1), (.int (0 : Int32)), (.int (5 : Int32)), (.int (3 : Int32))]) (rest := [(.int ((((own_p31 (5 : Int32)) + (x0 * (own_p31 (4 : Int32)))) + (x1 * (own_p31 (3 : Int32)))) + (x2 * (own_p31 (2 : Int32)))))]) (lenOf pd_6 rfl) rfl (by show 2 * 0 + _ ≤ _; exact Nat.le_of_eq rfl) (hb hby at_116) (fun _ _ => ⟨rfl, K227q, (by decide : 2 + 0 ≤ _), (by decide : 8 + 0 ≤ _)⟩)
      dsimp only [Pt.U, Pt.locs, Pt.cells, Pt.slots] at X229 l229 y229 z229 st229 hQ229
      rw [l229, y229, z229] at X229
      obtain ⟨rfl, N229q, K229q⟩ := hQ229
      have N230 := Fr.app N228 N229q
      obtain ⟨_, _, ⟨T231, L231, k231, n231⟩, -, X231, ⟨Lc231, hQ231, l231, y231, z231⟩, st231⟩ := Jvm.LawKit.callS X229 hx (y := MN6) hown (mvT hZ wo29) (mvT hZ wo30) (mvT hZ wo27) (mvT hZ wo31) (by decide) (backOf (W := 1) (rm_t4 l Z a0 hw [] b1 (0 : Int32) (5 : Int32) (4 : Int32) x0 x1 x2 x3 x4 (T215.heap) n0 f220 f222 (by first | decide | assumption | omega : (4 : Int32) < (5 : Int32)) (by first | decide | assumption | omega : ((0 : Int32) + (4 : Int32)) = (4 : Int32))) hZ wo31 wo27 (by decide) (by decide)) (g := (mkF m 126 #[iv p0_0, iv p0_1, iv p0_2, rv b1, iv (0 : Int32), iv (5 : Int32), rv b205, .unset] [(.int (4 : Int32)), (.int (5 : Int32)), (.int (0 : Int32)), (.ref b1), (.int (((((own_p31 (5 : Int32)) + (x0 * (own_p31 (4 : Int32)))) + (x1 * (own_p31 (3 : Int32)))) + (x2 * (own_p31 (2 : Int32)))) + (x3 * (own_p31 (1 : Int32)))))])) rfl (by rw [hml]; rfl) (argsL := [(.ref b1), (.int (0 : Int32)), (.int (5 : Int32)), (.int (4 : Int32))]) (rest := [(.int (((((own_p31 (5 : Int32)) + (x0 * (own_p31 (4 : Int32)))) + (x1 * (own_p31 (3 : Int32)))) + (x2 * (own_p31 (2 : Int32)))) + (x3 * (own_p31 (1 : Int32)))))]) (lenOf pd_6 rfl) rfl (by show 2 * 0 + _ ≤ _; exact Nat.le_of_eq rfl) (hb hby at_126) (fun _ _ => ⟨rfl, K229q, (by decide : 2 + 0 ≤ _), (by decide : 8 + 0 ≤ _)⟩)
      dsimp only [Pt.U, Pt.locs, Pt.cells, Pt.slots] at X231 l231 y231 z231 st231 hQ231
      rw [l231, y231, z231] at X231
      obtain ⟨rfl, N231q, K231q⟩ := hQ231
      have N232 := Fr.app N230 N231q
      have f234 := (A205.keep K215q)
      obtain ⟨cq233, kq233, q233a, q233b, q233c⟩ := isOf hZ K231q f234
      obtain ⟨_, _, ⟨T233, L233, k233, n233⟩, -, X233, ⟨Lc233, hQ233, l233, y233, z233⟩, st233⟩ := X231.virtualBack hx (y := MN7) (z := MN7) hown (mvT hZ wo32) (mvT hZ wo33) (notFace_of_selects (args := #[]) (mvT hZ wo35)) (mvT hZ wo35) (mvT hZ wo34) (by decide) (backOf (W := 0) (rm_h0_5 l Z a0 hw [] b205 b1 x0 x1 x2 x3 x4 (T215.heap) n0 f220 hq215_0 hq215_1 hq215_2 f222) hZ wo36 wo4 (by decide) (by decide)) q233a q233c (g := (mkF m 134 #[iv p0_0, iv p0_1, iv p0_2, rv b1, iv (0 : Int32), iv (5 : Int32), rv b205, iv ((((((own_p31 (5 : Int32)) + (x0 * (own_p31 (4 : Int32)))) + (x1 * (own_p31 (3 : Int32)))) + (x2 * (own_p31 (2 : Int32)))) + (x3 * (own_p31 (1 : Int32)))) + (x4 * (own_p31 (0 : Int32))))] [(.ref b205)])) rfl (by rw [hml]; rfl) (Steps.refl _) (argsL := []) (rest := []) (lenOf pd_0 rfl) rfl (by show 2 * 0 + _ ≤ _; exact Nat.le_of_eq rfl) (hb hby at_134) (fun _ _ => ⟨rfl, K231q, (by decide : 2 + 0 ≤ _), (by decide : 8 + 0 ≤ _)⟩)
      dsimp only [Pt.U, Pt.locs, Pt.cells, Pt.slots] at X233 l233 y233 z233 st233 hQ233
      rw [l233, y233, z233] at X233
      obtain ⟨rfl, N233q, K233q⟩ := hQ233
      have N235 := Fr.app N232 N233q
      have hc236 : (((31 : Int32) * (((31 : Int32) * (((31 : Int32) * (((31 : Int32) * ((31 : Int32) + x0)) + x1)) + x2)) + x3)) + x4) = ((((((own_p31 (5 : Int32)) + (x0 * (own_p31 (4 : Int32)))) + (x1 * (own_p31 (3 : Int32)))) + (x2 * (own_p31 (2 : Int32)))) + (x3 * (own_p31 (1 : Int32)))) + (x4 * (own_p31 (0 : Int32)))) := (by simp only [own_q0, own_q1, own_q2, own_q3, own_q4, own_q5]; first | rfl | grind)
      obtain ⟨fs, hr, hrun, hended, hW, hsame⟩ := X233.leave (v := some (.int (1 : Int32))) (fun h => by rw [Bd.returns] at h; cases h)
      refine ⟨_, _, pre43 _ ?_, hrun, hended, _, _, rfl, ?_, ⟨_, rfl⟩, hW, hsame.mono (by decide) (by decide)⟩
      · show Steps p.tables e below (T32.setTop (mkF m 61 #[iv p0_0, iv p0_1, iv p0_2, rv b1, iv (0 : Int32), iv (5 : Int32), .unset, .unset] [])) _
        refine st205 _ ?_
        show Steps p.tables e below (T205.setTop (mkF m 64 #[iv p0_0, iv p0_1, iv p0_2, rv b1, iv (0 : Int32), iv (5 : Int32), .unset, .unset] [(.ref b205)])) _
        refine XS.dup X205.here hx rfl (hb hby at_64) rfl rfl ?_
        show Steps p.tables e below (T205.setTop (mkF m 65 #[iv p0_0, iv p0_1, iv p0_2, rv b1, iv (0 : Int32), iv (5 : Int32), .unset, .unset] [(.ref b205), (.ref b205)])) _
        refine XS.aloadN X205.here hx rfl (hb hby at_65) rfl rfl ?_
        refine XS.iload X205.here hx rfl (hb hby at_66) rfl ?_
        refine XS.iload X205.here hx rfl (hb hby at_68) rfl ?_
        show Steps p.tables e below (T205.setTop (mkF m 70 #[iv p0_0, iv p0_1, iv p0_2, rv b1, iv (0 : Int32), iv (5 : Int32), .unset, .unset] [(.int (5 : Int32)), (.int (0 : Int32)), (.ref b1), (.ref b205), (.ref b205)])) _
        refine st215.trans ?_
        show Steps p.tables e below (T215.setTop (mkF m 73 #[iv p0_0, iv p0_1, iv p0_2, rv b1, iv (0 : Int32), iv (5 : Int32), .unset, .unset] [(.ref b205)])) _
        refine XS.astore X215.here hx rfl (hb hby at_73) rfl rfl (l' := #[iv p0_0, iv p0_1, iv p0_2, rv b1, iv (0 : Int32), iv (5 : Int32), rv b205, .unset]) rfl ?_
        refine XS.iload X215.here hx rfl (hb hby at_75) rfl ?_
        show Steps p.tables e below (T215.setTop (mkF m 77 #[iv p0_0, iv p0_1, iv p0_2, rv b1, iv (0 : Int32), iv (5 : Int32), rv b205, .unset] [(.int (5 : Int32))])) _
        refine st219 _ ?_
        show Steps p.tables e below (T219.setTop (mkF m 80 #[iv p0_0, iv p0_1, iv p0_2, rv b1, iv (0 : Int32), iv (5 : Int32), rv b205, .unset] [(.int (own_p31 (5 : Int32)))])) _
        refine XS.aloadN X219.here hx rfl (hb hby at_80) rfl rfl ?_
        show Steps p.tables e below (T219.setTop (mkF m 81 #[iv p0_0, iv p0_1, iv p0_2, rv b1, iv (0 : Int32), iv (5 : Int32), rv b205, .unset] [(.ref b1), (.int (own_p31 (5 : Int32)))])) _
        refine XS.iload X219.here hx rfl (hb hby at_81) rfl ?_
        refine XS.iload X219.here hx rfl (hb hby at_83) rfl ?_
        refine XS.iconst X219.here hx rfl (hb hby at_85) ?_
        show Steps p.tables e below (T219.setTop (mkF m 86 #[iv p0_0, iv p0_1, iv p0_2, rv b1, iv (0 : Int32), iv (5 : Int32), rv b205, .unset] [(.int (0 : Int32)), (.int (5 : Int32)), (.int (0 : Int32)), (.ref b1), (.int (own_p31 (5 : Int32)))])) _
        refine st223 _ ?_
        show Steps p.tables e below (T223.setTop (mkF m 89 #[iv p0_0, iv p0_1, iv p0_2, rv b1, iv (0 : Int32), iv (5 : Int32), rv b205, .unset] [(.int (x0 * (own_p31 (4 : Int32)))), (.int (own_p31 (5 : Int32)))])) _
        refine XS.iadd X223.here hx rfl (hb hby at_89) rfl ?_
        refine XS.aloadN X223.here hx rfl (hb hby at_90) rfl rfl ?_
        refine XS.iload X223.here hx rfl (hb hby at_91) rfl ?_
        refine XS.iload X223.here hx rfl (hb hby at_93) rfl ?_
        show Steps p.tables e below (T223.setTop (mkF m 95 #[iv p0_0, iv p0_1, iv p0_2, rv b1, iv (0 : Int32), iv (5 : Int32), rv b205, .unset] [(.int (5 : Int32)), (.int (0 : Int32)), (.ref b1), (.int ((own_p31 (5 : Int32)) + (x0 * (own_p31 (4 : Int32)))))])) _
        refine XS.iconst X223.here hx rfl (hb hby at_95) ?_
        show Steps p.tables e below (T223.setTop (mkF m 96 #[iv p0_0, iv p0_1, iv p0_2, rv b1, iv (0 : Int32), iv (5 : Int32), rv b205, .unset] [(.int (1 : Int32)), (.int (5 : Int32)), (.int (0 : Int32)), (.ref b1), (.int ((own_p31 (5 : Int32)) + (x0 * (own_p31 (4 : Int32)))))])) _
        refine st225 _ ?_
        show Steps p.tables e below (T225.setTop (mkF m 99 #[iv p0_0, iv p0_1, iv p0_2, rv b1, iv (0 : Int32), iv (5 : Int32), rv b205, .unset] [(.int (x1 * (own_p31 (3 : Int32)))), (.int ((own_p31 (5 : Int32)) + (x0 * (own_p31 (4 : Int32)))))])) _
        refine XS.iadd X225.here hx rfl (hb hby at_99) rfl ?_
        refine XS.aloadN X225.here hx rfl (hb hby at_100) rfl rfl ?_
        show Steps p.tables e below (T225.setTop (mkF m 101 #[iv p0_0, iv p0_1, iv p0_2, rv b1, iv (0 : Int32), iv (5 : Int32), rv b205, .unset] [(.ref b1), (.int (((own_p31 (5 : Int32)) + (x0 * (own_p31 (4 : Int32)))) + (x1 * (own_p31 (3 : Int32)))))])) _
        refine XS.iload X225.here hx rfl (hb hby at_101) rfl ?_
        refine XS.iload X225.here hx rfl (hb hby at_103) rfl ?_
        refine XS.iconst X225.here hx rfl (hb hby at_105) ?_
        show Steps p.tables e below (T225.setTop (mkF m 106 #[iv p0_0, iv p0_1, iv p0_2, rv b1, iv (0 : Int32), iv (5 : Int32), rv b205, .unset] [(.int (2 : Int32)), (.int (5 : Int32)), (.int (0 : Int32)), (.ref b1), (.int (((own_p31 (5 : Int32)) + (x0 * (own_p31 (4 : Int32)))) + (x1 * (own_p31 (3 : Int32)))))])) _
        refine st227 _ ?_
        show Steps p.tables e below (T227.setTop (mkF m 109 #[iv p0_0, iv p0_1, iv p0_2, rv b1, iv (0 : Int32), iv (5 : Int32), rv b205, .unset] [(.int (x2 * (own_p31 (2 : Int32)))), (.int (((own_p31 (5 : Int32)) + (x0 * (own_p31 (4 : Int32)))) + (x1 * (own_p31 (3 : Int32)))))])) _
        refine XS.iadd X227.here hx rfl (hb hby at_109) rfl ?_
        refine XS.aloadN X227.here hx rfl (hb hby at_110) rfl rfl ?_
        refine XS.iload X227.here hx rfl (hb hby at_111) rfl ?_
        refine XS.iload X227.here hx rfl (hb hby at_113) rfl ?_
        show Steps p.tables e below (T227.setTop (mkF m 115 #[iv p0_0, iv p0_1, iv p0_2, rv b1, iv (0 : Int32), iv (5 : Int32), rv b205, .unset] [(.int (5 : Int32)), (.int (0 : Int32)), (.ref b1), (.int ((((own_p31 (5 : Int32)) + (x0 * (own_p31 (4 : Int32)))) + (x1 * (own_p31 (3 : Int32)))) + (x2 * (own_p31 (2 : Int32)))))])) _
        refine XS.iconst X227.here hx rfl (hb hby at_115) ?_
        show Steps p.tables e below (T227.setTop (mkF m 116 #[iv p0_0, iv p0_1, iv p0_2, rv b1, iv (0 : Int32), iv (5 : Int32), rv b205, .unset] [(.int (3 : Int32)), (.int (5 : Int32)), (.int (0 : Int32)), (.ref b1), (.int ((((own_p31 (5 : Int32)) + (x0 * (own_p31 (4 : Int32)))) + (x1 * (own_p31 (3 : Int32)))) + (x2 * (own_p31 (2 : Int32)))))])) _
        refine st229 _ ?_
        show Steps p.tables e below (T229.setTop (mkF m 119 #[iv p0_0, iv p0_1, iv p0_2, rv b1, iv (0 : Int32), iv (5 : Int32), rv b205, .unset] [(.int (x3 * (own_p31 (1 : Int32)))), (.int ((((own_p31 (5 : Int32)) + (x0 * (own_p31 (4 : Int32)))) + (x1 * (own_p31 (3 : Int32)))) + (x2 * (own_p31 (2 : Int32)))))])) _
        refine XS.iadd X229.here hx rfl (hb hby at_119) rfl ?_
        refine XS.aloadN X229.here hx rfl (hb hby at_120) rfl rfl ?_
        show Steps p.tables e below (T229.setTop (mkF m 121 #[iv p0_0, iv p0_1, iv p0_2, rv b1, iv (0 : Int32), iv (5 : Int32), rv b205, .unset] [(.ref b1), (.int (((((own_p31 (5 : Int32)) + (x0 * (own_p31 (4 : Int32)))) + (x1 * (own_p31 (3 : Int32)))) + (x2 * (own_p31 (2 : Int32)))) + (x3 * (own_p31 (1 : Int32)))))])) _
        refine XS.iload X229.here hx rfl (hb hby at_121) rfl ?_
        refine XS.iload X229.here hx rfl (hb hby at_123) rfl ?_
        refine XS.iconst X229.here hx rfl (hb hby at_125) ?_
        show Steps p.tables e below (T229.setTop (mkF m 126 #[iv p0_0, iv p0_1, iv p0_2, rv b1, iv (0 : Int32), iv (5 : Int32), rv b205, .unset] [(.int (4 : Int32)), (.int (5 : Int32)), (.int (0 : Int32)), (.ref b1), (.int (((((own_p31 (5 : Int32)) + (x0 * (own_p31 (4 : Int32)))) + (x1 * (own_p31 (3 : Int32)))) + (x2 * (own_p31 (2 : Int32)))) + (x3 * (own_p31 (1 : Int32)))))])) _
        refine st231 _ ?_
        show Steps p.tables e below (T231.setTop (mkF m 129 #[iv p0_0, iv p0_1, iv p0_2, rv b1, iv (0 : Int32), iv (5 : Int32), rv b205, .unset] [(.int (x4 * (own_p31 (0 : Int32)))), (.int (((((own_p31 (5 : Int32)) + (x0 * (own_p31 (4 : Int32)))) + (x1 * (own_p31 (3 : Int32)))) + (x2 * (own_p31 (2 : Int32)))) + (x3 * (own_p31 (1 : Int32)))))])) _
        refine XS.iadd X231.here hx rfl (hb hby at_129) rfl ?_
        refine XS.istore X231.here hx rfl (hb hby at_130) rfl (l' := #[iv p0_0, iv p0_1, iv p0_2, rv b1, iv (0 : Int32), iv (5 : Int32), rv b205, iv ((((((own_p31 (5 : Int32)) + (x0 * (own_p31 (4 : Int32)))) + (x1 * (own_p31 (3 : Int32)))) + (x2 * (own_p31 (2 : Int32)))) + (x3 * (own_p31 (1 : Int32)))) + (x4 * (own_p31 (0 : Int32))))]) rfl ?_
        refine XS.aload X231.here hx rfl (hb hby at_132) rfl rfl ?_
        show Steps p.tables e below (T231.setTop (mkF m 134 #[iv p0_0, iv p0_1, iv p0_2, rv b1, iv (0 : Int32), iv (5 : Int32), rv b205, iv ((((((own_p31 (5 : Int32)) + (x0 * (own_p31 (4 : Int32)))) + (x1 * (own_p31 (3 : Int32)))) + (x2 * (own_p31 (2 : Int32)))) + (x3 * (own_p31 (1 : Int32)))) + (x4 * (own_p31 (0 : Int32))))] [(.ref b205)])) _
        refine st233.trans ?_
        show Steps p.tables e below (T233.setTop (mkF m 137 #[iv p0_0, iv p0_1, iv p0_2, rv b1, iv (0 : Int32), iv (5 : Int32), rv b205, iv ((((((own_p31 (5 : Int32)) + (x0 * (own_p31 (4 : Int32)))) + (x1 * (own_p31 (3 : Int32)))) + (x2 * (own_p31 (2 : Int32)))) + (x3 * (own_p31 (1 : Int32)))) + (x4 * (own_p31 (0 : Int32))))] [(.int (((31 : Int32) * (((31 : Int32) * (((31 : Int32) * (((31 : Int32) * ((31 : Int32) + x0)) + x1)) + x2)) + x3)) + x4))])) _
        refine XS.iload X233.here hx rfl (hb hby at_137) rfl ?_
        refine XS.icmpNo X233.here hx rfl (hb hby at_139) rfl (teq hc236).2 ?_
        refine XS.iconst X233.here hx rfl (hb hby at_142) ?_
        refine XS.goto X233.here hx rfl (pc0 := 143) (pc' := 147) rfl (hb hby at_143) (by decide) (by decide) ?_
        show Steps p.tables e below (T233.setTop (mkF m 147 #[iv p0_0, iv p0_1, iv p0_2, rv b1, iv (0 : Int32), iv (5 : Int32), rv b205, iv ((((((own_p31 (5 : Int32)) + (x0 * (own_p31 (4 : Int32)))) + (x1 * (own_p31 (3 : Int32)))) + (x2 * (own_p31 (2 : Int32)))) + (x3 * (own_p31 (1 : Int32)))) + (x4 * (own_p31 (0 : Int32))))] [(.int (1 : Int32))])) _
        exact retN X233 hx (t := .boolean) Bd.returns (by simp) (hb hby at_147) hr
      · show Q_rm0 Z _ _ _ h0 n0 _ T233.heap _
        rw [K233q]
        exact ⟨rfl, N235, (K218)⟩
  · skip
    obtain ⟨ln, h_ln⟩ : ∃ z : Int32, z = ((((p0_2.toUInt32 >>> ((3 : Int32) &&& 31).toUInt32).toInt32) &&& (2147483647 : Int32)) % (5 : Int32)) := ⟨_, rfl⟩
    have hln : 0 ≤ ln.toInt ∧ ln.toInt < 5 := by rw [h_ln]; exact own_len _ 5 (by decide)
    have pre237 : ∀ t, Steps p.tables e below (T32.setTop (mkF m 61 #[iv p0_0, iv p0_1, iv p0_2, rv b1, iv (1 : Int32), iv ln, .unset, .unset] [])) t → Steps p.tables e below (s₁.setTop (entryFrame m #[(.int p0_0), (.int p0_1), (.int p0_2)] maxLocals)) t := by
      intro t_ k_
      refine pre41 _ ?_
      show Steps p.tables e below (T32.setTop (mkF m 47 #[iv p0_0, iv p0_1, iv p0_2, rv b1, iv (1 : Int32), .unset, .unset, .unset] [])) _
      refine XS.iloadN X32.here hx rfl (hb hby at_47) rfl ?_
      refine XS.iconst X32.here hx rfl (hb hby at_48) ?_
      refine XS.iushr X32.here hx rfl (hb hby at_49) rfl ?_
      show Steps p.tables e below (T32.setTop (mkF m 50 #[iv p0_0, iv p0_1, iv p0_2, rv b1, iv (1 : Int32), .unset, .unset, .unset] [(.int ((p0_2.toUInt32 >>> ((3 : Int32) &&& 31).toUInt32).toInt32))])) _
      refine X32.ldcInt hx hown (mvT hZ wo1) (g := (mkF m 50 #[iv p0_0, iv p0_1, iv p0_2, rv b1, iv (1 : Int32), .unset, .unset, .unset] [(.int ((p0_2.toUInt32 >>> ((3 : Int32) &&& 31).toUInt32).toInt32))])) rfl (hb hby at_50) _ ?_
      show Steps p.tables e below (T32.setTop (mkF m 52 #[iv p0_0, iv p0_1, iv p0_2, rv b1, iv (1 : Int32), .unset, .unset, .unset] [(.int (2147483647 : Int32)), (.int ((p0_2.toUInt32 >>> ((3 : Int32) &&& 31).toUInt32).toInt32))])) _
      refine XS.iand X32.here hx rfl (hb hby at_52) rfl ?_
      refine XS.bipush X32.here hx rfl (hb hby at_53) ?_
      refine XS.iload X32.here hx rfl (hb hby at_55) rfl ?_
      show Steps p.tables e below (T32.setTop (mkF m 57 #[iv p0_0, iv p0_1, iv p0_2, rv b1, iv (1 : Int32), .unset, .unset, .unset] [(.int (1 : Int32)), (.int (6 : Int32)), (.int (((p0_2.toUInt32 >>> ((3 : Int32) &&& 31).toUInt32).toInt32) &&& (2147483647 : Int32)))])) _
      refine XS.isub X32.here hx rfl (hb hby at_57) rfl ?_
      show Steps p.tables e below (T32.setTop (mkF m 58 #[iv p0_0, iv p0_1, iv p0_2, rv b1, iv (1 : Int32), .unset, .unset, .unset] [(.int (5 : Int32)), (.int (((p0_2.toUInt32 >>> ((3 : Int32) &&& 31).toUInt32).toInt32) &&& (2147483647 : Int32)))])) _
      refine iremM (g := (mkF m 58 #[iv p0_0, iv p0_1, iv p0_2, rv b1, iv (1 : Int32), .unset, .unset, .unset] [(.int (5 : Int32)), (.int (((p0_2.toUInt32 >>> ((3 : Int32) &&& 31).toUInt32).toInt32) &&& (2147483647 : Int32)))])) X32 hx rfl (hb hby at_58) rfl (by decide) ?_
      show Steps p.tables e below (T32.setTop (mkF m 59 #[iv p0_0, iv p0_1, iv p0_2, rv b1, iv (1 : Int32), .unset, .unset, .unset] [(.int ((((p0_2.toUInt32 >>> ((3 : Int32) &&& 31).toUInt32).toInt32) &&& (2147483647 : Int32)) % (5 : Int32)))])) _
      refine XS.istore X32.here hx rfl (hb hby at_59) rfl (l' := #[iv p0_0, iv p0_1, iv p0_2, rv b1, iv (1 : Int32), iv ((((p0_2.toUInt32 >>> ((3 : Int32) &&& 31).toUInt32).toInt32) &&& (2147483647 : Int32)) % (5 : Int32)), .unset, .unset]) rfl ?_
      rw [← h_ln]
      show Steps p.tables e below (T32.setTop (mkF m 61 #[iv p0_0, iv p0_1, iv p0_2, rv b1, iv (1 : Int32), iv ln, .unset, .unset] [])) _
      exact k_
    have hx_238 : ln = (0 : Int32) ∨ ln = (1 : Int32) ∨ ln = (2 : Int32) ∨ ln = (3 : Int32) ∨ ln = (4 : Int32) := own_lt5 ln hln
    rcases hx_238 with rfl | rfl | rfl | rfl | rfl
    · skip
      obtain ⟨T239, h239, X239, e239, E239, A239, D239, -, st239⟩ := newO X32 hx hZ hown wo2 wo3 wo4 e32 (g := (mkF m 61 #[iv p0_0, iv p0_1, iv p0_2, rv b1, iv (1 : Int32), iv (0 : Int32), .unset, .unset] [])) rfl (hb hby at_61) (by decide) (by decide)
      obtain ⟨b239, gg239⟩ : ∃ z, z = h32.size := ⟨_, rfl⟩
      rw [← gg239] at A239 D239 st239
      have ne240 : b1 ≠ b239 := Nat.ne_of_lt (Nat.lt_of_lt_of_le f40.lt (Nat.le_of_eq gg239.symm))
      have f242 := (Nat.le_trans (Nat.le_trans (Nat.le_trans (Nat.le_trans (Nat.le_trans (Nat.le_trans Z0 E1.1) (Keep.of_wr W8).1) (Keep.of_wr W14).1) (Keep.of_wr W20).1) (Keep.of_wr W26).1) (Keep.of_wr W32).1)
      have g241 : n0 ≤ b239 := Nat.le_trans f242 (Nat.le_of_eq gg239.symm)
      have bz243 : h0.size ≤ b239 := Nat.le_trans (K33).1 (Nat.le_of_eq gg239.symm)
      have K244 : Keep h0 h239 [] := (K33).ext E239
      have f245 : Fld Z h239 b239 "com/example/tailwake/tailwake/source/mariadb/Slice" "array" "[B" .null := D239 (Or.inr wo20) (ty := (.array .byte)) (by decide)
      have f246 : Fld Z h239 b239 "com/example/tailwake/tailwake/source/mariadb/Slice" "offset" "I" (.int (0 : Int32)) := D239 (Or.inr wo22) (ty := .int) (by decide)
      have f247 : Fld Z h239 b239 "com/example/tailwake/tailwake/source/mariadb/Slice" "length" "I" (.int (0 : Int32)) := D239 (Or.inr wo24) (ty := .int) (by decide)
      have f248 := (f40.ext E239)
      have f250 := (Nat.le_trans f242 E239.1)
      obtain ⟨_, _, ⟨T249, L249, k249, n249⟩, -, X249, ⟨Lc249, hQ249, l249, y249, z249⟩, st249⟩ := X239.specialBack hx (y := MN1) rfl hown (mvT hZ wo5) (mvT hZ wo6) (mvT hZ wo7) (by decide) (backOf (W := 1) (rm1 l Z a0 hw [] b239 b1 (1 : Int32) (0 : Int32) h239 n0 f250 A239 g241 f245 f246 f247 f248.al (by first | decide | assumption | omega : ¬ ((((5 : Int32) ||| (1 : Int32)) ||| (0 : Int32)) < (0 : Int32))) (by first | decide | assumption | omega : ¬ (((5 : Int32) - (1 : Int32)) < (0 : Int32)))) hZ wo7 wo4 (by decide) (by decide)) (g := (mkF m 70 #[iv p0_0, iv p0_1, iv p0_2, rv b1, iv (1 : Int32), iv (0 : Int32), .unset, .unset] [(.int (0 : Int32)), (.int (1 : Int32)), (.ref b1), (.ref b239), (.ref b239)])) rfl (by rw [hml]; rfl) (Steps.refl _) (a := b239) (argsL := [(.ref b1), (.int (1 : Int32)), (.int (0 : Int32))]) (rest := [(.ref b239)]) (lenOf pd_5 rfl) rfl (by show 2 * 0 + _ ≤ _; exact Nat.le_of_eq rfl) (hb hby at_70) (fun _ _ => ⟨rfl, e239, (by decide : 2 + 0 ≤ _), (by decide : 8 + 0 ≤ _)⟩)
      dsimp only [Pt.U, Pt.locs, Pt.cells, Pt.slots] at X249 l249 y249 z249 st249 hQ249
      rw [l249, y249, z249] at X249
      obtain ⟨rfl, N249q, K249q, hq249_0, hq249_1, hq249_2⟩ := hQ249
      have N251 := Fr.app N35 N249q
      have K252 : Keep h0 T249.heap [] := (K244).trans K249q (allS (P := fun x => x ∈ [] ∨ h0.size ≤ x) (Or.inr bz243) all0)
      have f254 := (Nat.le_trans f250 K249q.1)
      obtain ⟨_, _, ⟨T253, L253, k253, n253⟩, -, X253, ⟨Lc253, hQ253, l253, y253, z253⟩, st253⟩ := Jvm.LawKit.callS X249 hx (y := MN5) hown (mvT hZ wo25) (mvT hZ wo26) (mvT hZ wo27) (mvT hZ wo28) (by decide) (backOf (W := 0) (rm5 l Z a0 hw [] (0 : Int32) (T249.heap) n0 f254 ) hZ wo28 wo27 (by decide) (by decide)) (g := (mkF m 77 #[iv p0_0, iv p0_1, iv p0_2, rv b1, iv (1 : Int32), iv (0 : Int32), rv b239, .unset] [(.int (0 : Int32))])) rfl (by rw [hml]; rfl) (argsL := [(.int (0 : Int32))]) (rest := []) (lenOf pd_2 rfl) rfl (by show 2 * 0 + _ ≤ _; exact Nat.le_of_eq rfl) (hb hby at_77) (fun _ _ => ⟨rfl, rfl, (by decide : 2 + 0 ≤ _), (by decide : 8 + 0 ≤ _)⟩)
      dsimp only [Pt.U, Pt.locs, Pt.cells, Pt.slots] at X253 l253 y253 z253 st253 hQ253
      rw [l253, y253, z253] at X253
      obtain ⟨rfl, N253q, K253q⟩ := hQ253
      have N255 := Fr.app N251 N253q
      obtain ⟨_, _, ⟨T256, L256, k256, n256⟩, -, X256, ⟨Lc256, hQ256, l256, y256, z256⟩, st256⟩ := Jvm.LawKit.callS X253 hx (y := MN6) hown (mvT hZ wo29) (mvT hZ wo30) (mvT hZ wo27) (mvT hZ wo31) (by decide) (backOf (W := 1) (rm_t l Z a0 hw [] b1 (1 : Int32) (0 : Int32) (0 : Int32) (T249.heap) n0 f254 (by first | decide | assumption | omega : ¬ ((0 : Int32) < (0 : Int32)))) hZ wo31 wo27 (by decide) (by decide)) (g := (mkF m 86 #[iv p0_0, iv p0_1, iv p0_2, rv b1, iv (1 : Int32), iv (0 : Int32), rv b239, .unset] [(.int (0 : Int32)), (.int (0 : Int32)), (.int (1 : Int32)), (.ref b1), (.int (own_p31 (0 : Int32)))])) rfl (by rw [hml]; rfl) (argsL := [(.ref b1), (.int (1 : Int32)), (.int (0 : Int32)), (.int (0 : Int32))]) (rest := [(.int (own_p31 (0 : Int32)))]) (lenOf pd_6 rfl) rfl (by show 2 * 0 + _ ≤ _; exact Nat.le_of_eq rfl) (hb hby at_86) (fun _ _ => ⟨rfl, K253q, (by decide : 2 + 0 ≤ _), (by decide : 8 + 0 ≤ _)⟩)
      dsimp only [Pt.U, Pt.locs, Pt.cells, Pt.slots] at X256 l256 y256 z256 st256 hQ256
      rw [l256, y256, z256] at X256
      obtain ⟨rfl, N256q, K256q⟩ := hQ256
      have N257 := Fr.app N255 N256q
      obtain ⟨_, _, ⟨T258, L258, k258, n258⟩, -, X258, ⟨Lc258, hQ258, l258, y258, z258⟩, st258⟩ := Jvm.LawKit.callS X256 hx (y := MN6) hown (mvT hZ wo29) (mvT hZ wo30) (mvT hZ wo27) (mvT hZ wo31) (by decide) (backOf (W := 1) (rm_t l Z a0 hw [] b1 (1 : Int32) (0 : Int32) (1 : Int32) (T249.heap) n0 f254 (by first | decide | assumption | omega : ¬ ((1 : Int32) < (0 : Int32)))) hZ wo31 wo27 (by decide) (by decide)) (g := (mkF m 96 #[iv p0_0, iv p0_1, iv p0_2, rv b1, iv (1 : Int32), iv (0 : Int32), rv b239, .unset] [(.int (1 : Int32)), (.int (0 : Int32)), (.int (1 : Int32)), (.ref b1), (.int ((own_p31 (0 : Int32)) + (0 : Int32)))])) rfl (by rw [hml]; rfl) (argsL := [(.ref b1), (.int (1 : Int32)), (.int (0 : Int32)), (.int (1 : Int32))]) (rest := [(.int ((own_p31 (0 : Int32)) + (0 : Int32)))]) (lenOf pd_6 rfl) rfl (by show 2 * 0 + _ ≤ _; exact Nat.le_of_eq rfl) (hb hby at_96) (fun _ _ => ⟨rfl, K256q, (by decide : 2 + 0 ≤ _), (by decide : 8 + 0 ≤ _)⟩)
      dsimp only [Pt.U, Pt.locs, Pt.cells, Pt.slots] at X258 l258 y258 z258 st258 hQ258
      rw [l258, y258, z258] at X258
      obtain ⟨rfl, N258q, K258q⟩ := hQ258
      have N259 := Fr.app N257 N258q
      obtain ⟨_, _, ⟨T260, L260, k260, n260⟩, -, X260, ⟨Lc260, hQ260, l260, y260, z260⟩, st260⟩ := Jvm.LawKit.callS X258 hx (y := MN6) hown (mvT hZ wo29) (mvT hZ wo30) (mvT hZ wo27) (mvT hZ wo31) (by decide) (backOf (W := 1) (rm_t l Z a0 hw [] b1 (1 : Int32) (0 : Int32) (2 : Int32) (T249.heap) n0 f254 (by first | decide | assumption | omega : ¬ ((2 : Int32) < (0 : Int32)))) hZ wo31 wo27 (by decide) (by decide)) (g := (mkF m 106 #[iv p0_0, iv p0_1, iv p0_2, rv b1, iv (1 : Int32), iv (0 : Int32), rv b239, .unset] [(.int (2 : Int32)), (.int (0 : Int32)), (.int (1 : Int32)), (.ref b1), (.int (((own_p31 (0 : Int32)) + (0 : Int32)) + (0 : Int32)))])) rfl (by rw [hml]; rfl) (argsL := [(.ref b1), (.int (1 : Int32)), (.int (0 : Int32)), (.int (2 : Int32))]) (rest := [(.int (((own_p31 (0 : Int32)) + (0 : Int32)) + (0 : Int32)))]) (lenOf pd_6 rfl) rfl (by show 2 * 0 + _ ≤ _; exact Nat.le_of_eq rfl) (hb hby at_106) (fun _ _ => ⟨rfl, K258q, (by decide : 2 + 0 ≤ _), (by decide : 8 + 0 ≤ _)⟩)
      dsimp only [Pt.U, Pt.locs, Pt.cells, Pt.slots] at X260 l260 y260 z260 st260 hQ260
      rw [l260, y260, z260] at X260
      obtain ⟨rfl, N260q, K260q⟩ := hQ260
      have N261 := Fr.app N259 N260q
      obtain ⟨_, _, ⟨T262, L262, k262, n262⟩, -, X262, ⟨Lc262, hQ262, l262, y262, z262⟩, st262⟩ := Jvm.LawKit.callS X260 hx (y := MN6) hown (mvT hZ wo29) (mvT hZ wo30) (mvT hZ wo27) (mvT hZ wo31) (by decide) (backOf (W := 1) (rm_t l Z a0 hw [] b1 (1 : Int32) (0 : Int32) (3 : Int32) (T249.heap) n0 f254 (by first | decide | assumption | omega : ¬ ((3 : Int32) < (0 : Int32)))) hZ wo31 wo27 (by decide) (by decide)) (g := (mkF m 116 #[iv p0_0, iv p0_1, iv p0_2, rv b1, iv (1 : Int32), iv (0 : Int32), rv b239, .unset] [(.int (3 : Int32)), (.int (0 : Int32)), (.int (1 : Int32)), (.ref b1), (.int ((((own_p31 (0 : Int32)) + (0 : Int32)) + (0 : Int32)) + (0 : Int32)))])) rfl (by rw [hml]; rfl) (argsL := [(.ref b1), (.int (1 : Int32)), (.int (0 : Int32)), (.int (3 : Int32))]) (rest := [(.int ((((own_p31 (0 : Int32)) + (0 : Int32)) + (0 : Int32)) + (0 : Int32)))]) (lenOf pd_6 rfl) rfl (by show 2 * 0 + _ ≤ _; exact Nat.le_of_eq rfl) (hb hby at_116) (fun _ _ => ⟨rfl, K260q, (by decide : 2 + 0 ≤ _), (by decide : 8 + 0 ≤ _)⟩)
      dsimp only [Pt.U, Pt.locs, Pt.cells, Pt.slots] at X262 l262 y262 z262 st262 hQ262
      rw [l262, y262, z262] at X262
      obtain ⟨rfl, N262q, K262q⟩ := hQ262
      have N263 := Fr.app N261 N262q
      obtain ⟨_, _, ⟨T264, L264, k264, n264⟩, -, X264, ⟨Lc264, hQ264, l264, y264, z264⟩, st264⟩ := Jvm.LawKit.callS X262 hx (y := MN6) hown (mvT hZ wo29) (mvT hZ wo30) (mvT hZ wo27) (mvT hZ wo31) (by decide) (backOf (W := 1) (rm_t l Z a0 hw [] b1 (1 : Int32) (0 : Int32) (4 : Int32) (T249.heap) n0 f254 (by first | decide | assumption | omega : ¬ ((4 : Int32) < (0 : Int32)))) hZ wo31 wo27 (by decide) (by decide)) (g := (mkF m 126 #[iv p0_0, iv p0_1, iv p0_2, rv b1, iv (1 : Int32), iv (0 : Int32), rv b239, .unset] [(.int (4 : Int32)), (.int (0 : Int32)), (.int (1 : Int32)), (.ref b1), (.int (((((own_p31 (0 : Int32)) + (0 : Int32)) + (0 : Int32)) + (0 : Int32)) + (0 : Int32)))])) rfl (by rw [hml]; rfl) (argsL := [(.ref b1), (.int (1 : Int32)), (.int (0 : Int32)), (.int (4 : Int32))]) (rest := [(.int (((((own_p31 (0 : Int32)) + (0 : Int32)) + (0 : Int32)) + (0 : Int32)) + (0 : Int32)))]) (lenOf pd_6 rfl) rfl (by show 2 * 0 + _ ≤ _; exact Nat.le_of_eq rfl) (hb hby at_126) (fun _ _ => ⟨rfl, K262q, (by decide : 2 + 0 ≤ _), (by decide : 8 + 0 ≤ _)⟩)
      dsimp only [Pt.U, Pt.locs, Pt.cells, Pt.slots] at X264 l264 y264 z264 st264 hQ264
      rw [l264, y264, z264] at X264
      obtain ⟨rfl, N264q, K264q⟩ := hQ264
      have N265 := Fr.app N263 N264q
      have f266 := (f248.keep K249q (ninS ne240 nin0))
      have f268 := (A239.keep K249q)
      obtain ⟨cq267, kq267, q267a, q267b, q267c⟩ := isOf hZ K264q f268
      obtain ⟨_, _, ⟨T267, L267, k267, n267⟩, -, X267, ⟨Lc267, hQ267, l267, y267, z267⟩, st267⟩ := X264.virtualBack hx (y := MN7) (z := MN7) hown (mvT hZ wo32) (mvT hZ wo33) (notFace_of_selects (args := #[]) (mvT hZ wo35)) (mvT hZ wo35) (mvT hZ wo34) (by decide) (backOf (W := 0) (rm_h1_0 l Z a0 hw [] b239 b1 x0 x1 x2 x3 x4 (T249.heap) n0 f254 hq249_0 hq249_1 hq249_2 f266) hZ wo36 wo4 (by decide) (by decide)) q267a q267c (g := (mkF m 134 #[iv p0_0, iv p0_1, iv p0_2, rv b1, iv (1 : Int32), iv (0 : Int32), rv b239, iv ((((((own_p31 (0 : Int32)) + (0 : Int32)) + (0 : Int32)) + (0 : Int32)) + (0 : Int32)) + (0 : Int32))] [(.ref b239)])) rfl (by rw [hml]; rfl) (Steps.refl _) (argsL := []) (rest := []) (lenOf pd_0 rfl) rfl (by show 2 * 0 + _ ≤ _; exact Nat.le_of_eq rfl) (hb hby at_134) (fun _ _ => ⟨rfl, K264q, (by decide : 2 + 0 ≤ _), (by decide : 8 + 0 ≤ _)⟩)
      dsimp only [Pt.U, Pt.locs, Pt.cells, Pt.slots] at X267 l267 y267 z267 st267 hQ267
      rw [l267, y267, z267] at X267
      obtain ⟨rfl, N267q, K267q⟩ := hQ267
      have N269 := Fr.app N265 N267q
      have hc270 : (1 : Int32) = ((((((own_p31 (0 : Int32)) + (0 : Int32)) + (0 : Int32)) + (0 : Int32)) + (0 : Int32)) + (0 : Int32)) := (by simp only [own_q0, own_q1, own_q2, own_q3, own_q4, own_q5]; first | rfl | grind)
      obtain ⟨fs, hr, hrun, hended, hW, hsame⟩ := X267.leave (v := some (.int (1 : Int32))) (fun h => by rw [Bd.returns] at h; cases h)
      refine ⟨_, _, pre237 _ ?_, hrun, hended, _, _, rfl, ?_, ⟨_, rfl⟩, hW, hsame.mono (by decide) (by decide)⟩
      · show Steps p.tables e below (T32.setTop (mkF m 61 #[iv p0_0, iv p0_1, iv p0_2, rv b1, iv (1 : Int32), iv (0 : Int32), .unset, .unset] [])) _
        refine st239 _ ?_
        show Steps p.tables e below (T239.setTop (mkF m 64 #[iv p0_0, iv p0_1, iv p0_2, rv b1, iv (1 : Int32), iv (0 : Int32), .unset, .unset] [(.ref b239)])) _
        refine XS.dup X239.here hx rfl (hb hby at_64) rfl rfl ?_
        refine XS.aloadN X239.here hx rfl (hb hby at_65) rfl rfl ?_
        refine XS.iload X239.here hx rfl (hb hby at_66) rfl ?_
        refine XS.iload X239.here hx rfl (hb hby at_68) rfl ?_
        show Steps p.tables e below (T239.setTop (mkF m 70 #[iv p0_0, iv p0_1, iv p0_2, rv b1, iv (1 : Int32), iv (0 : Int32), .unset, .unset] [(.int (0 : Int32)), (.int (1 : Int32)), (.ref b1), (.ref b239), (.ref b239)])) _
        refine st249.trans ?_
        show Steps p.tables e below (T249.setTop (mkF m 73 #[iv p0_0, iv p0_1, iv p0_2, rv b1, iv (1 : Int32), iv (0 : Int32), .unset, .unset] [(.ref b239)])) _
        refine XS.astore X249.here hx rfl (hb hby at_73) rfl rfl (l' := #[iv p0_0, iv p0_1, iv p0_2, rv b1, iv (1 : Int32), iv (0 : Int32), rv b239, .unset]) rfl ?_
        refine XS.iload X249.here hx rfl (hb hby at_75) rfl ?_
        show Steps p.tables e below (T249.setTop (mkF m 77 #[iv p0_0, iv p0_1, iv p0_2, rv b1, iv (1 : Int32), iv (0 : Int32), rv b239, .unset] [(.int (0 : Int32))])) _
        refine st253 _ ?_
        show Steps p.tables e below (T253.setTop (mkF m 80 #[iv p0_0, iv p0_1, iv p0_2, rv b1, iv (1 : Int32), iv (0 : Int32), rv b239, .unset] [(.int (own_p31 (0 : Int32)))])) _
        refine XS.aloadN X253.here hx rfl (hb hby at_80) rfl rfl ?_
        refine XS.iload X253.here hx rfl (hb hby at_81) rfl ?_
        refine XS.iload X253.here hx rfl (hb hby at_83) rfl ?_
        refine XS.iconst X253.here hx rfl (hb hby at_85) ?_
        show Steps p.tables e below (T253.setTop (mkF m 86 #[iv p0_0, iv p0_1, iv p0_2, rv b1, iv (1 : Int32), iv (0 : Int32), rv b239, .unset] [(.int (0 : Int32)), (.int (0 : Int32)), (.int (1 : Int32)), (.ref b1), (.int (own_p31 (0 : Int32)))])) _
        refine st256 _ ?_
        show Steps p.tables e below (T256.setTop (mkF m 89 #[iv p0_0, iv p0_1, iv p0_2, rv b1, iv (1 : Int32), iv (0 : Int32), rv b239, .unset] [(.int (0 : Int32)), (.int (own_p31 (0 : Int32)))])) _
        refine XS.iadd X256.here hx rfl (hb hby at_89) rfl ?_
        refine XS.aloadN X256.here hx rfl (hb hby at_90) rfl rfl ?_
        refine XS.iload X256.here hx rfl (hb hby at_91) rfl ?_
        show Steps p.tables e below (T256.setTop (mkF m 93 #[iv p0_0, iv p0_1, iv p0_2, rv b1, iv (1 : Int32), iv (0 : Int32), rv b239, .unset] [(.int (1 : Int32)), (.ref b1), (.int ((own_p31 (0 : Int32)) + (0 : Int32)))])) _
        refine XS.iload X256.here hx rfl (hb hby at_93) rfl ?_
        refine XS.iconst X256.here hx rfl (hb hby at_95) ?_
        show Steps p.tables e below (T256.setTop (mkF m 96 #[iv p0_0, iv p0_1, iv p0_2, rv b1, iv (1 : Int32), iv (0 : Int32), rv b239, .unset] [(.int (1 : Int32)), (.int (0 : Int32)), (.int (1 : Int32)), (.ref b1), (.int ((own_p31 (0 : Int32)) + (0 : Int32)))])) _
        refine st258 _ ?_
        show Steps p.tables e below (T258.setTop (mkF m 99 #[iv p0_0, iv p0_1, iv p0_2, rv b1, iv (1 : Int32), iv (0 : Int32), rv b239, .unset] [(.int (0 : Int32)), (.int ((own_p31 (0 : Int32)) + (0 : Int32)))])) _
        refine XS.iadd X258.here hx rfl (hb hby at_99) rfl ?_
        show Steps p.tables e below (T258.setTop (mkF m 100 #[iv p0_0, iv p0_1, iv p0_2, rv b1, iv (1 : Int32), iv (0 : Int32), rv b239, .unset] [(.int (((own_p31 (0 : Int32)) + (0 : Int32)) + (0 : Int32)))])) _
        refine XS.aloadN X258.here hx rfl (hb hby at_100) rfl rfl ?_
        refine XS.iload X258.here hx rfl (hb hby at_101) rfl ?_
        refine XS.iload X258.here hx rfl (hb hby at_103) rfl ?_
        refine XS.iconst X258.here hx rfl (hb hby at_105) ?_
        show Steps p.tables e below (T258.setTop (mkF m 106 #[iv p0_0, iv p0_1, iv p0_2, rv b1, iv (1 : Int32), iv (0 : Int32), rv b239, .unset] [(.int (2 : Int32)), (.int (0 : Int32)), (.int (1 : Int32)), (.ref b1), (.int (((own_p31 (0 : Int32)) + (0 : Int32)) + (0 : Int32)))])) _
        refine st260 _ ?_
        show Steps p.tables e below (T260.setTop (mkF m 109 #[iv p0_0, iv p0_1, iv p0_2, rv b1, iv (1 : Int32), iv (0 : Int32), rv b239, .unset] [(.int (0 : Int32)), (.int (((own_p31 (0 : Int32)) + (0 : Int32)) + (0 : Int32)))])) _
        refine XS.iadd X260.here hx rfl (hb hby at_109) rfl ?_
        refine XS.aloadN X260.here hx rfl (hb hby at_110) rfl rfl ?_
        refine XS.iload X260.here hx rfl (hb hby at_111) rfl ?_
        show Steps p.tables e below (T260.setTop (mkF m 113 #[iv p0_0, iv p0_1, iv p0_2, rv b1, iv (1 : Int32), iv (0 : Int32), rv b239, .unset] [(.int (1 : Int32)), (.ref b1), (.int ((((own_p31 (0 : Int32)) + (0 : Int32)) + (0 : Int32)) + (0 : Int32)))])) _
        refine XS.iload X260.here hx rfl (hb hby at_113) rfl ?_
        refine XS.iconst X260.here hx rfl (hb hby at_115) ?_
        show Steps p.tables e below (T260.setTop (mkF m 116 #[iv p0_0, iv p0_1, iv p0_2, rv b1, iv (1 : Int32), iv (0 : Int32), rv b239, .unset] [(.int (3 : Int32)), (.int (0 : Int32)), (.int (1 : Int32)), (.ref b1), (.int ((((own_p31 (0 : Int32)) + (0 : Int32)) + (0 : Int32)) + (0 : Int32)))])) _
        refine st262 _ ?_
        show Steps p.tables e below (T262.setTop (mkF m 119 #[iv p0_0, iv p0_1, iv p0_2, rv b1, iv (1 : Int32), iv (0 : Int32), rv b239, .unset] [(.int (0 : Int32)), (.int ((((own_p31 (0 : Int32)) + (0 : Int32)) + (0 : Int32)) + (0 : Int32)))])) _
        refine XS.iadd X262.here hx rfl (hb hby at_119) rfl ?_
        show Steps p.tables e below (T262.setTop (mkF m 120 #[iv p0_0, iv p0_1, iv p0_2, rv b1, iv (1 : Int32), iv (0 : Int32), rv b239, .unset] [(.int (((((own_p31 (0 : Int32)) + (0 : Int32)) + (0 : Int32)) + (0 : Int32)) + (0 : Int32)))])) _
        refine XS.aloadN X262.here hx rfl (hb hby at_120) rfl rfl ?_
        refine XS.iload X262.here hx rfl (hb hby at_121) rfl ?_
        refine XS.iload X262.here hx rfl (hb hby at_123) rfl ?_
        refine XS.iconst X262.here hx rfl (hb hby at_125) ?_
        show Steps p.tables e below (T262.setTop (mkF m 126 #[iv p0_0, iv p0_1, iv p0_2, rv b1, iv (1 : Int32), iv (0 : Int32), rv b239, .unset] [(.int (4 : Int32)), (.int (0 : Int32)), (.int (1 : Int32)), (.ref b1), (.int (((((own_p31 (0 : Int32)) + (0 : Int32)) + (0 : Int32)) + (0 : Int32)) + (0 : Int32)))])) _
        refine st264 _ ?_
        show Steps p.tables e below (T264.setTop (mkF m 129 #[iv p0_0, iv p0_1, iv p0_2, rv b1, iv (1 : Int32), iv (0 : Int32), rv b239, .unset] [(.int (0 : Int32)), (.int (((((own_p31 (0 : Int32)) + (0 : Int32)) + (0 : Int32)) + (0 : Int32)) + (0 : Int32)))])) _
        refine XS.iadd X264.here hx rfl (hb hby at_129) rfl ?_
        refine XS.istore X264.here hx rfl (hb hby at_130) rfl (l' := #[iv p0_0, iv p0_1, iv p0_2, rv b1, iv (1 : Int32), iv (0 : Int32), rv b239, iv ((((((own_p31 (0 : Int32)) + (0 : Int32)) + (0 : Int32)) + (0 : Int32)) + (0 : Int32)) + (0 : Int32))]) rfl ?_
        refine XS.aload X264.here hx rfl (hb hby at_132) rfl rfl ?_
        show Steps p.tables e below (T264.setTop (mkF m 134 #[iv p0_0, iv p0_1, iv p0_2, rv b1, iv (1 : Int32), iv (0 : Int32), rv b239, iv ((((((own_p31 (0 : Int32)) + (0 : Int32)) + (0 : Int32)) + (0 : Int32)) + (0 : Int32)) + (0 : Int32))] [(.ref b239)])) _
        refine st267.trans ?_
        show Steps p.tables e below (T267.setTop (mkF m 137 #[iv p0_0, iv p0_1, iv p0_2, rv b1, iv (1 : Int32), iv (0 : Int32), rv b239, iv ((((((own_p31 (0 : Int32)) + (0 : Int32)) + (0 : Int32)) + (0 : Int32)) + (0 : Int32)) + (0 : Int32))] [(.int (1 : Int32))])) _
        refine XS.iload X267.here hx rfl (hb hby at_137) rfl ?_
        refine XS.icmpNo X267.here hx rfl (hb hby at_139) rfl (teq hc270).2 ?_
        refine XS.iconst X267.here hx rfl (hb hby at_142) ?_
        show Steps p.tables e below (T267.setTop (mkF m 143 #[iv p0_0, iv p0_1, iv p0_2, rv b1, iv (1 : Int32), iv (0 : Int32), rv b239, iv ((((((own_p31 (0 : Int32)) + (0 : Int32)) + (0 : Int32)) + (0 : Int32)) + (0 : Int32)) + (0 : Int32))] [(.int (1 : Int32))])) _
        refine XS.goto X267.here hx rfl (pc0 := 143) (pc' := 147) rfl (hb hby at_143) (by decide) (by decide) ?_
        show Steps p.tables e below (T267.setTop (mkF m 147 #[iv p0_0, iv p0_1, iv p0_2, rv b1, iv (1 : Int32), iv (0 : Int32), rv b239, iv ((((((own_p31 (0 : Int32)) + (0 : Int32)) + (0 : Int32)) + (0 : Int32)) + (0 : Int32)) + (0 : Int32))] [(.int (1 : Int32))])) _
        exact retN X267 hx (t := .boolean) Bd.returns (by simp) (hb hby at_147) hr
      · show Q_rm0 Z _ _ _ h0 n0 _ T267.heap _
        rw [K267q]
        exact ⟨rfl, N269, (K252)⟩
    · skip
      obtain ⟨T271, h271, X271, e271, E271, A271, D271, -, st271⟩ := newO X32 hx hZ hown wo2 wo3 wo4 e32 (g := (mkF m 61 #[iv p0_0, iv p0_1, iv p0_2, rv b1, iv (1 : Int32), iv (1 : Int32), .unset, .unset] [])) rfl (hb hby at_61) (by decide) (by decide)
      obtain ⟨b271, gg271⟩ : ∃ z, z = h32.size := ⟨_, rfl⟩
      rw [← gg271] at A271 D271 st271
      have ne272 : b1 ≠ b271 := Nat.ne_of_lt (Nat.lt_of_lt_of_le f40.lt (Nat.le_of_eq gg271.symm))
      have f274 := (Nat.le_trans (Nat.le_trans (Nat.le_trans (Nat.le_trans (Nat.le_trans (Nat.le_trans Z0 E1.1) (Keep.of_wr W8).1) (Keep.of_wr W14).1) (Keep.of_wr W20).1) (Keep.of_wr W26).1) (Keep.of_wr W32).1)
      have g273 : n0 ≤ b271 := Nat.le_trans f274 (Nat.le_of_eq gg271.symm)
      have bz275 : h0.size ≤ b271 := Nat.le_trans (K33).1 (Nat.le_of_eq gg271.symm)
      have K276 : Keep h0 h271 [] := (K33).ext E271
      have f277 : Fld Z h271 b271 "com/example/tailwake/tailwake/source/mariadb/Slice" "array" "[B" .null := D271 (Or.inr wo20) (ty := (.array .byte)) (by decide)
      have f278 : Fld Z h271 b271 "com/example/tailwake/tailwake/source/mariadb/Slice" "offset" "I" (.int (0 : Int32)) := D271 (Or.inr wo22) (ty := .int) (by decide)
      have f279 : Fld Z h271 b271 "com/example/tailwake/tailwake/source/mariadb/Slice" "length" "I" (.int (0 : Int32)) := D271 (Or.inr wo24) (ty := .int) (by decide)
      have f280 := (f40.ext E271)
      have f282 := (Nat.le_trans f274 E271.1)
      obtain ⟨_, _, ⟨T281, L281, k281, n281⟩, -, X281, ⟨Lc281, hQ281, l281, y281, z281⟩, st281⟩ := X271.specialBack hx (y := MN1) rfl hown (mvT hZ wo5) (mvT hZ wo6) (mvT hZ wo7) (by decide) (backOf (W := 1) (rm1 l Z a0 hw [] b271 b1 (1 : Int32) (1 : Int32) h271 n0 f282 A271 g273 f277 f278 f279 f280.al (by first | decide | assumption | omega : ¬ ((((5 : Int32) ||| (1 : Int32)) ||| (1 : Int32)) < (0 : Int32))) (by first | decide | assumption | omega : ¬ (((5 : Int32) - (1 : Int32)) < (1 : Int32)))) hZ wo7 wo4 (by decide) (by decide)) (g := (mkF m 70 #[iv p0_0, iv p0_1, iv p0_2, rv b1, iv (1 : Int32), iv (1 : Int32), .unset, .unset] [(.int (1 : Int32)), (.int (1 : Int32)), (.ref b1), (.ref b271), (.ref b271)])) rfl (by rw [hml]; rfl) (Steps.refl _) (a := b271) (argsL := [(.ref b1), (.int (1 : Int32)), (.int (1 : Int32))]) (rest := [(.ref b271)]) (lenOf pd_5 rfl) rfl (by show 2 * 0 + _ ≤ _; exact Nat.le_of_eq rfl) (hb hby at_70) (fun _ _ => ⟨rfl, e271, (by decide : 2 + 0 ≤ _), (by decide : 8 + 0 ≤ _)⟩)
      dsimp only [Pt.U, Pt.locs, Pt.cells, Pt.slots] at X281 l281 y281 z281 st281 hQ281
      rw [l281, y281, z281] at X281
      obtain ⟨rfl, N281q, K281q, hq281_0, hq281_1, hq281_2⟩ := hQ281
      have N283 := Fr.app N35 N281q
      have K284 : Keep h0 T281.heap [] := (K276).trans K281q (allS (P := fun x => x ∈ [] ∨ h0.size ≤ x) (Or.inr bz275) all0)
      have f286 := (Nat.le_trans f282 K281q.1)
      obtain ⟨_, _, ⟨T285, L285, k285, n285⟩, -, X285, ⟨Lc285, hQ285, l285, y285, z285⟩, st285⟩ := Jvm.LawKit.callS X281 hx (y := MN5) hown (mvT hZ wo25) (mvT hZ wo26) (mvT hZ wo27) (mvT hZ wo28) (by decide) (backOf (W := 0) (rm5 l Z a0 hw [] (1 : Int32) (T281.heap) n0 f286 ) hZ wo28 wo27 (by decide) (by decide)) (g := (mkF m 77 #[iv p0_0, iv p0_1, iv p0_2, rv b1, iv (1 : Int32), iv (1 : Int32), rv b271, .unset] [(.int (1 : Int32))])) rfl (by rw [hml]; rfl) (argsL := [(.int (1 : Int32))]) (rest := []) (lenOf pd_2 rfl) rfl (by show 2 * 0 + _ ≤ _; exact Nat.le_of_eq rfl) (hb hby at_77) (fun _ _ => ⟨rfl, rfl, (by decide : 2 + 0 ≤ _), (by decide : 8 + 0 ≤ _)⟩)
      dsimp only [Pt.U, Pt.locs, Pt.cells, Pt.slots] at X285 l285 y285 z285 st285 hQ285
      rw [l285, y285, z285] at X285
      obtain ⟨rfl, N285q, K285q⟩ := hQ285
      have N287 := Fr.app N283 N285q
      have f288 := (f280.keep K281q (ninS ne272 nin0))
      obtain ⟨_, _, ⟨T289, L289, k289, n289⟩, -, X289, ⟨Lc289, hQ289, l289, y289, z289⟩, st289⟩ := Jvm.LawKit.callS X285 hx (y := MN6) hown (mvT hZ wo29) (mvT hZ wo30) (mvT hZ wo27) (mvT hZ wo31) (by decide) (backOf (W := 1) (rm_t1 l Z a0 hw [] b1 (1 : Int32) (1 : Int32) (0 : Int32) x0 x1 x2 x3 x4 (T281.heap) n0 f286 f288 (by first | decide | assumption | omega : (0 : Int32) < (1 : Int32)) (by first | decide | assumption | omega : ((1 : Int32) + (0 : Int32)) = (1 : Int32))) hZ wo31 wo27 (by decide) (by decide)) (g := (mkF m 86 #[iv p0_0, iv p0_1, iv p0_2, rv b1, iv (1 : Int32), iv (1 : Int32), rv b271, .unset] [(.int (0 : Int32)), (.int (1 : Int32)), (.int (1 : Int32)), (.ref b1), (.int (own_p31 (1 : Int32)))])) rfl (by rw [hml]; rfl) (argsL := [(.ref b1), (.int (1 : Int32)), (.int (1 : Int32)), (.int (0 : Int32))]) (rest := [(.int (own_p31 (1 : Int32)))]) (lenOf pd_6 rfl) rfl (by show 2 * 0 + _ ≤ _; exact Nat.le_of_eq rfl) (hb hby at_86) (fun _ _ => ⟨rfl, K285q, (by decide : 2 + 0 ≤ _), (by decide : 8 + 0 ≤ _)⟩)
      dsimp only [Pt.U, Pt.locs, Pt.cells, Pt.slots] at X289 l289 y289 z289 st289 hQ289
      rw [l289, y289, z289] at X289
      obtain ⟨rfl, N289q, K289q⟩ := hQ289
      have N290 := Fr.app N287 N289q
      obtain ⟨_, _, ⟨T291, L291, k291, n291⟩, -, X291, ⟨Lc291, hQ291, l291, y291, z291⟩, st291⟩ := Jvm.LawKit.callS X289 hx (y := MN6) hown (mvT hZ wo29) (mvT hZ wo30) (mvT hZ wo27) (mvT hZ wo31) (by decide) (backOf (W := 1) (rm_t l Z a0 hw [] b1 (1 : Int32) (1 : Int32) (1 : Int32) (T281.heap) n0 f286 (by first | decide | assumption | omega : ¬ ((1 : Int32) < (1 : Int32)))) hZ wo31 wo27 (by decide) (by decide)) (g := (mkF m 96 #[iv p0_0, iv p0_1, iv p0_2, rv b1, iv (1 : Int32), iv (1 : Int32), rv b271, .unset] [(.int (1 : Int32)), (.int (1 : Int32)), (.int (1 : Int32)), (.ref b1), (.int ((own_p31 (1 : Int32)) + (x1 * (own_p31 (0 : Int32)))))])) rfl (by rw [hml]; rfl) (argsL := [(.ref b1), (.int (1 : Int32)), (.int (1 : Int32)), (.int (1 : Int32))]) (rest := [(.int ((own_p31 (1 : Int32)) + (x1 * (own_p31 (0 : Int32)))))]) (lenOf pd_6 rfl) rfl (by show 2 * 0 + _ ≤ _; exact Nat.le_of_eq rfl) (hb hby at_96) (fun _ _ => ⟨rfl, K289q, (by decide : 2 + 0 ≤ _), (by decide : 8 + 0 ≤ _)⟩)
      dsimp only [Pt.U, Pt.locs, Pt.cells, Pt.slots] at X291 l291 y291 z291 st291 hQ291
      rw [l291, y291, z291] at X291
      obtain ⟨rfl, N291q, K291q⟩ := hQ291
      have N292 := Fr.app N290 N291q
      obtain ⟨_, _, ⟨T293, L293, k293, n293⟩, -, X293, ⟨Lc293, hQ293, l293, y293, z293⟩, st293⟩ := Jvm.LawKit.callS X291 hx (y := MN6) hown (mvT hZ wo29) (mvT hZ wo30) (mvT hZ wo27) (mvT hZ wo31) (by decide) (backOf (W := 1) (rm_t l Z a0 hw [] b1 (1 : Int32) (1 : Int32) (2 : Int32) (T281.heap) n0 f286 (by first | decide | assumption | omega : ¬ ((2 : Int32) < (1 : Int32)))) hZ wo31 wo27 (by decide) (by decide)) (g := (mkF m 106 #[iv p0_0, iv p0_1, iv p0_2, rv b1, iv (1 : Int32), iv (1 : Int32), rv b271, .unset] [(.int (2 : Int32)), (.int (1 : Int32)), (.int (1 : Int32)), (.ref b1), (.int (((own_p31 (1 : Int32)) + (x1 * (own_p31 (0 : Int32)))) + (0 : Int32)))])) rfl (by rw [hml]; rfl) (argsL := [(.ref b1), (.int (1 : Int32)), (.int (1 : Int32)), (.int (2 : Int32))]) (rest := [(.int (((own_p31 (1 : Int32)) + (x1 * (own_p31 (0 : Int32)))) + (0 : Int32)))]) (lenOf pd_6 rfl) rfl (by show 2 * 0 + _ ≤ _; exact Nat.le_of_eq rfl) (hb hby at_106) (fun _ _ => ⟨rfl, K291q, (by decide : 2 + 0 ≤ _), (by decide : 8 + 0 ≤ _)⟩)
      dsimp only [Pt.U, Pt.locs, Pt.cells, Pt.slots] at X293 l293 y293 z293 st293 hQ293
      rw [l293, y293, z293] at X293
      obtain ⟨rfl, N293q, K293q⟩ := hQ293
      have N294 := Fr.app N292 N293q
      obtain ⟨_, _, ⟨T295, L295, k295, n295⟩, -, X295, ⟨Lc295, hQ295, l295, y295, z295⟩, st295⟩ := Jvm.LawKit.callS X293 hx (y := MN6) hown (mvT hZ wo29) (mvT hZ wo30) (mvT hZ wo27) (mvT hZ wo31) (by decide) (backOf (W := 1) (rm_t l Z a0 hw [] b1 (1 : Int32) (1 : Int32) (3 : Int32) (T281.heap) n0 f286 (by first | decide | assumption | omega : ¬ ((3 : Int32) < (1 : Int32)))) hZ wo31 wo27 (by decide) (by decide)) (g := (mkF m 116 #[iv p0_0, iv p0_1, iv p0_2, rv b1, iv (1 : Int32), iv (1 : Int32), rv b271, .unset] [(.int (3 : Int32)), (.int (1 : Int32)), (.int (1 : Int32)), (.ref b1), (.int ((((own_p31 (1 : Int32)) + (x1 * (own_p31 (0 : Int32)))) + (0 : Int32)) + (0 : Int32)))])) rfl (by rw [hml]; rfl) (argsL := [(.ref b1), (.int (1 : Int32)), (.int (1 : Int32)), (.int (3 : Int32))]) (rest := [(.int ((((own_p31 (1 : Int32)) + (x1 * (own_p31 (0 : Int32)))) + (0 : Int32)) + (0 : Int32)))]) (lenOf pd_6 rfl) rfl (by show 2 * 0 + _ ≤ _; exact Nat.le_of_eq rfl) (hb hby at_116) (fun _ _ => ⟨rfl, K293q, (by decide : 2 + 0 ≤ _), (by decide : 8 + 0 ≤ _)⟩)
      dsimp only [Pt.U, Pt.locs, Pt.cells, Pt.slots] at X295 l295 y295 z295 st295 hQ295
      rw [l295, y295, z295] at X295
      obtain ⟨rfl, N295q, K295q⟩ := hQ295
      have N296 := Fr.app N294 N295q
      obtain ⟨_, _, ⟨T297, L297, k297, n297⟩, -, X297, ⟨Lc297, hQ297, l297, y297, z297⟩, st297⟩ := Jvm.LawKit.callS X295 hx (y := MN6) hown (mvT hZ wo29) (mvT hZ wo30) (mvT hZ wo27) (mvT hZ wo31) (by decide) (backOf (W := 1) (rm_t l Z a0 hw [] b1 (1 : Int32) (1 : Int32) (4 : Int32) (T281.heap) n0 f286 (by first | decide | assumption | omega : ¬ ((4 : Int32) < (1 : Int32)))) hZ wo31 wo27 (by decide) (by decide)) (g := (mkF m 126 #[iv p0_0, iv p0_1, iv p0_2, rv b1, iv (1 : Int32), iv (1 : Int32), rv b271, .unset] [(.int (4 : Int32)), (.int (1 : Int32)), (.int (1 : Int32)), (.ref b1), (.int (((((own_p31 (1 : Int32)) + (x1 * (own_p31 (0 : Int32)))) + (0 : Int32)) + (0 : Int32)) + (0 : Int32)))])) rfl (by rw [hml]; rfl) (argsL := [(.ref b1), (.int (1 : Int32)), (.int (1 : Int32)), (.int (4 : Int32))]) (rest := [(.int (((((own_p31 (1 : Int32)) + (x1 * (own_p31 (0 : Int32)))) + (0 : Int32)) + (0 : Int32)) + (0 : Int32)))]) (lenOf pd_6 rfl) rfl (by show 2 * 0 + _ ≤ _; exact Nat.le_of_eq rfl) (hb hby at_126) (fun _ _ => ⟨rfl, K295q, (by decide : 2 + 0 ≤ _), (by decide : 8 + 0 ≤ _)⟩)
      dsimp only [Pt.U, Pt.locs, Pt.cells, Pt.slots] at X297 l297 y297 z297 st297 hQ297
      rw [l297, y297, z297] at X297
      obtain ⟨rfl, N297q, K297q⟩ := hQ297
      have N298 := Fr.app N296 N297q
      have f300 := (A271.keep K281q)
      obtain ⟨cq299, kq299, q299a, q299b, q299c⟩ := isOf hZ K297q f300
      obtain ⟨_, _, ⟨T299, L299, k299, n299⟩, -, X299, ⟨Lc299, hQ299, l299, y299, z299⟩, st299⟩ := X297.virtualBack hx (y := MN7) (z := MN7) hown (mvT hZ wo32) (mvT hZ wo33) (notFace_of_selects (args := #[]) (mvT hZ wo35)) (mvT hZ wo35) (mvT hZ wo34) (by decide) (backOf (W := 0) (rm_h1_1 l Z a0 hw [] b271 b1 x0 x1 x2 x3 x4 (T281.heap) n0 f286 hq281_0 hq281_1 hq281_2 f288) hZ wo36 wo4 (by decide) (by decide)) q299a q299c (g := (mkF m 134 #[iv p0_0, iv p0_1, iv p0_2, rv b1, iv (1 : Int32), iv (1 : Int32), rv b271, iv ((((((own_p31 (1 : Int32)) + (x1 * (own_p31 (0 : Int32)))) + (0 : Int32)) + (0 : Int32)) + (0 : Int32)) + (0 : Int32))] [(.ref b271)])) rfl (by rw [hml]; rfl) (Steps.refl _) (argsL := []) (rest := []) (lenOf pd_0 rfl) rfl (by show 2 * 0 + _ ≤ _; exact Nat.le_of_eq rfl) (hb hby at_134) (fun _ _ => ⟨rfl, K297q, (by decide : 2 + 0 ≤ _), (by decide : 8 + 0 ≤ _)⟩)
      dsimp only [Pt.U, Pt.locs, Pt.cells, Pt.slots] at X299 l299 y299 z299 st299 hQ299
      rw [l299, y299, z299] at X299
      obtain ⟨rfl, N299q, K299q⟩ := hQ299
      have N301 := Fr.app N298 N299q
      have hc302 : ((31 : Int32) + x1) = ((((((own_p31 (1 : Int32)) + (x1 * (own_p31 (0 : Int32)))) + (0 : Int32)) + (0 : Int32)) + (0 : Int32)) + (0 : Int32)) := (by simp only [own_q0, own_q1, own_q2, own_q3, own_q4, own_q5]; first | rfl | grind)
      obtain ⟨fs, hr, hrun, hended, hW, hsame⟩ := X299.leave (v := some (.int (1 : Int32))) (fun h => by rw [Bd.returns] at h; cases h)
      refine ⟨_, _, pre237 _ ?_, hrun, hended, _, _, rfl, ?_, ⟨_, rfl⟩, hW, hsame.mono (by decide) (by decide)⟩
      · show Steps p.tables e below (T32.setTop (mkF m 61 #[iv p0_0, iv p0_1, iv p0_2, rv b1, iv (1 : Int32), iv (1 : Int32), .unset, .unset] [])) _
        refine st271 _ ?_
        show Steps p.tables e below (T271.setTop (mkF m 64 #[iv p0_0, iv p0_1, iv p0_2, rv b1, iv (1 : Int32), iv (1 : Int32), .unset, .unset] [(.ref b271)])) _
        refine XS.dup X271.here hx rfl (hb hby at_64) rfl rfl ?_
        refine XS.aloadN X271.here hx rfl (hb hby at_65) rfl rfl ?_
        show Steps p.tables e below (T271.setTop (mkF m 66 #[iv p0_0, iv p0_1, iv p0_2, rv b1, iv (1 : Int32), iv (1 : Int32), .unset, .unset] [(.ref b1), (.ref b271), (.ref b271)])) _
        refine XS.iload X271.here hx rfl (hb hby at_66) rfl ?_
        refine XS.iload X271.here hx rfl (hb hby at_68) rfl ?_
        show Steps p.tables e below (T271.setTop (mkF m 70 #[iv p0_0, iv p0_1, iv p0_2, rv b1, iv (1 : Int32), iv (1 : Int32), .unset, .unset] [(.int (1 : Int32)), (.int (1 : Int32)), (.ref b1), (.ref b271), (.ref b271)])) _
        refine st281.trans ?_
        show Steps p.tables e below (T281.setTop (mkF m 73 #[iv p0_0, iv p0_1, iv p0_2, rv b1, iv (1 : Int32), iv (1 : Int32), .unset, .unset] [(.ref b271)])) _
        refine XS.astore X281.here hx rfl (hb hby at_73) rfl rfl (l' := #[iv p0_0, iv p0_1, iv p0_2, rv b1, iv (1 : Int32), iv (1 : Int32), rv b271, .unset]) rfl ?_
        show Steps p.tables e below (T281.setTop (mkF m 75 #[iv p0_0, iv p0_1, iv p0_2, rv b1, iv (1 : Int32), iv (1 : Int32), rv b271, .unset] [])) _
        refine XS.iload X281.here hx rfl (hb hby at_75) rfl ?_
        show Steps p.tables e below (T281.setTop (mkF m 77 #[iv p0_0, iv p0_1, iv p0_2, rv b1, iv (1 : Int32), iv (1 : Int32), rv b271, .unset] [(.int (1 : Int32))])) _
        refine st285 _ ?_
        show Steps p.tables e below (T285.setTop (mkF m 80 #[iv p0_0, iv p0_1, iv p0_2, rv b1, iv (1 : Int32), iv (1 : Int32), rv b271, .unset] [(.int (own_p31 (1 : Int32)))])) _
        refine XS.aloadN X285.here hx rfl (hb hby at_80) rfl rfl ?_
        refine XS.iload X285.here hx rfl (hb hby at_81) rfl ?_
        show Steps p.tables e below (T285.setTop (mkF m 83 #[iv p0_0, iv p0_1, iv p0_2, rv b1, iv (1 : Int32), iv (1 : Int32), rv b271, .unset] [(.int (1 : Int32)), (.ref b1), (.int (own_p31 (1 : Int32)))])) _
        refine XS.iload X285.here hx rfl (hb hby at_83) rfl ?_
        refine XS.iconst X285.here hx rfl (hb hby at_85) ?_
        show Steps p.tables e below (T285.setTop (mkF m 86 #[iv p0_0, iv p0_1, iv p0_2, rv b1, iv (1 : Int32), iv (1 : Int32), rv b271, .unset] [(.int (0 : Int32)), (.int (1 : Int32)), (.int (1 : Int32)), (.ref b1), (.int (own_p31 (1 : Int32)))])) _
        refine st289 _ ?_
        show Steps p.tables e below (T289.setTop (mkF m 89 #[iv p0_0, iv p0_1, iv p0_2, rv b1, iv (1 : Int32), iv (1 : Int32), rv b271, .unset] [(.int (x1 * (own_p31 (0 : Int32)))), (.int (own_p31 (1 : Int32)))])) _
        refine XS.iadd X289.here hx rfl (hb hby at_89) rfl ?_
        show Steps p.tables e below (T289.setTop (mkF m 90 #[iv p0_0, iv p0_1, iv p0_2, rv b1, iv (1 : Int32), iv (1 : Int32), rv b271, .unset] [(.int ((own_p31 (1 : Int32)) + (x1 * (own_p31 (0 : Int32)))))])) _
        refine XS.aloadN X289.here hx rfl (hb hby at_90) rfl rfl ?_
        refine XS.iload X289.here hx rfl (hb hby at_91) rfl ?_
        refine XS.iload X289.here hx rfl (hb hby at_93) rfl ?_
        refine XS.iconst X289.here hx rfl (hb hby at_95) ?_
        show Steps p.tables e below (T289.setTop (mkF m 96 #[iv p0_0, iv p0_1, iv p0_2, rv b1, iv (1 : Int32), iv (1 : Int32), rv b271, .unset] [(.int (1 : Int32)), (.int (1 : Int32)), (.int (1 : Int32)), (.ref b1), (.int ((own_p31 (1 : Int32)) + (x1 * (own_p31 (0 : Int32)))))])) _
        refine st291 _ ?_
        show Steps p.tables e below (T291.setTop (mkF m 99 #[iv p0_0, iv p0_1, iv p0_2, rv b1, iv (1 : Int32), iv (1 : Int32), rv b271, .unset] [(.int (0 : Int32)), (.int ((own_p31 (1 : Int32)) + (x1 * (own_p31 (0 : Int32)))))])) _
        refine XS.iadd X291.here hx rfl (hb hby at_99) rfl ?_
        refine XS.aloadN X291.here hx rfl (hb hby at_100) rfl rfl ?_
        refine XS.iload X291.here hx rfl (hb hby at_101) rfl ?_
        show Steps p.tables e below (T291.setTop (mkF m 103 #[iv p0_0, iv p0_1, iv p0_2, rv b1, iv (1 : Int32), iv (1 : Int32), rv b271, .unset] [(.int (1 : Int32)), (.ref b1), (.int (((own_p31 (1 : Int32)) + (x1 * (own_p31 (0 : Int32)))) + (0 : Int32)))])) _
        refine XS.iload X291.here hx rfl (hb hby at_103) rfl ?_
        refine XS.iconst X291.here hx rfl (hb hby at_105) ?_
        show Steps p.tables e below (T291.setTop (mkF m 106 #[iv p0_0, iv p0_1, iv p0_2, rv b1, iv (1 : Int32), iv (1 : Int32), rv b271, .unset] [(.int (2 : Int32)), (.int (1 : Int32)), (.int (1 : Int32)), (.ref b1), (.int (((own_p31 (1 : Int32)) + (x1 * (own_p31 (0 : Int32)))) + (0 : Int32)))])) _
        refine st293 _ ?_
        show Steps p.tables e below (T293.setTop (mkF m 109 #[iv p0_0, iv p0_1, iv p0_2, rv b1, iv (1 : Int32), iv (1 : Int32), rv b271, .unset] [(.int (0 : Int32)), (.int (((own_p31 (1 : Int32)) + (x1 * (own_p31 (0 : Int32)))) + (0 : Int32)))])) _
        refine XS.iadd X293.here hx rfl (hb hby at_109) rfl ?_
        show Steps p.tables e below (T293.setTop (mkF m 110 #[iv p0_0, iv p0_1, iv p0_2, rv b1, iv (1 : Int32), iv (1 : Int32), rv b271, .unset] [(.int ((((own_p31 (1 : Int32)) + (x1 * (own_p31 (0 : Int32)))) + (0 : Int32)) + (0 : Int32)))])) _
        refine XS.aloadN X293.here hx rfl (hb hby at_110) rfl rfl ?_
        refine XS.iload X293.here hx rfl (hb hby at_111) rfl ?_
        refine XS.iload X293.here hx rfl (hb hby at_113) rfl ?_
        refine XS.iconst X293.here hx rfl (hb hby at_115) ?_
        show Steps p.tables e below (T293.setTop (mkF m 116 #[iv p0_0, iv p0_1, iv p0_2, rv b1, iv (1 : Int32), iv (1 : Int32), rv b271, .unset] [(.int (3 : Int32)), (.int (1 : Int32)), (.int (1 : Int32)), (.ref b1), (.int ((((own_p31 (1 : Int32)) + (x1 * (own_p31 (0 : Int32)))) + (0 : Int32)) + (0 : Int32)))])) _
        refine st295 _ ?_
        show Steps p.tables e below (T295.setTop (mkF m 119 #[iv p0_0, iv p0_1, iv p0_2, rv b1, iv (1 : Int32), iv (1 : Int32), rv b271, .unset] [(.int (0 : Int32)), (.int ((((own_p31 (1 : Int32)) + (x1 * (own_p31 (0 : Int32)))) + (0 : Int32)) + (0 : Int32)))])) _
        refine XS.iadd X295.here hx rfl (hb hby at_119) rfl ?_
        refine XS.aloadN X295.here hx rfl (hb hby at_120) rfl rfl ?_
        refine XS.iload X295.here hx rfl (hb hby at_121) rfl ?_
        show Steps p.tables e below (T295.setTop (mkF m 123 #[iv p0_0, iv p0_1, iv p0_2, rv b1, iv (1 : Int32), iv (1 : Int32), rv b271, .unset] [(.int (1 : Int32)), (.ref b1), (.int (((((own_p31 (1 : Int32)) + (x1 * (own_p31 (0 : Int32)))) + (0 : Int32)) + (0 : Int32)) + (0 : Int32)))])) _
        refine XS.iload X295.here hx rfl (hb hby at_123) rfl ?_
        refine XS.iconst X295.here hx rfl (hb hby at_125) ?_
        show Steps p.tables e below (T295.setTop (mkF m 126 #[iv p0_0, iv p0_1, iv p0_2, rv b1, iv (1 : Int32), iv (1 : Int32), rv b271, .unset] [(.int (4 : Int32)), (.int (1 : Int32)), (.int (1 : Int32)), (.ref b1), (.int (((((own_p31 (1 : Int32)) + (x1 * (own_p31 (0 : Int32)))) + (0 : Int32)) + (0 : Int32)) + (0 : Int32)))])) _
        refine st297 _ ?_
        show Steps p.tables e below (T297.setTop (mkF m 129 #[iv p0_0, iv p0_1, iv p0_2, rv b1, iv (1 : Int32), iv (1 : Int32), rv b271, .unset] [(.int (0 : Int32)), (.int (((((own_p31 (1 : Int32)) + (x1 * (own_p31 (0 : Int32)))) + (0 : Int32)) + (0 : Int32)) + (0 : Int32)))])) _
        refine XS.iadd X297.here hx rfl (hb hby at_129) rfl ?_
        show Steps p.tables e below (T297.setTop (mkF m 130 #[iv p0_0, iv p0_1, iv p0_2, rv b1, iv (1 : Int32), iv (1 : Int32), rv b271, .unset] [(.int ((((((own_p31 (1 : Int32)) + (x1 * (own_p31 (0 : Int32)))) + (0 : Int32)) + (0 : Int32)) + (0 : Int32)) + (0 : Int32)))])) _
        refine XS.istore X297.here hx rfl (hb hby at_130) rfl (l' := #[iv p0_0, iv p0_1, iv p0_2, rv b1, iv (1 : Int32), iv (1 : Int32), rv b271, iv ((((((own_p31 (1 : Int32)) + (x1 * (own_p31 (0 : Int32)))) + (0 : Int32)) + (0 : Int32)) + (0 : Int32)) + (0 : Int32))]) rfl ?_
        refine XS.aload X297.here hx rfl (hb hby at_132) rfl rfl ?_
        show Steps p.tables e below (T297.setTop (mkF m 134 #[iv p0_0, iv p0_1, iv p0_2, rv b1, iv (1 : Int32), iv (1 : Int32), rv b271, iv ((((((own_p31 (1 : Int32)) + (x1 * (own_p31 (0 : Int32)))) + (0 : Int32)) + (0 : Int32)) + (0 : Int32)) + (0 : Int32))] [(.ref b271)])) _
        refine st299.trans ?_
        show Steps p.tables e below (T299.setTop (mkF m 137 #[iv p0_0, iv p0_1, iv p0_2, rv b1, iv (1 : Int32), iv (1 : Int32), rv b271, iv ((((((own_p31 (1 : Int32)) + (x1 * (own_p31 (0 : Int32)))) + (0 : Int32)) + (0 : Int32)) + (0 : Int32)) + (0 : Int32))] [(.int ((31 : Int32) + x1))])) _
        refine XS.iload X299.here hx rfl (hb hby at_137) rfl ?_
        show Steps p.tables e below (T299.setTop (mkF m 139 #[iv p0_0, iv p0_1, iv p0_2, rv b1, iv (1 : Int32), iv (1 : Int32), rv b271, iv ((((((own_p31 (1 : Int32)) + (x1 * (own_p31 (0 : Int32)))) + (0 : Int32)) + (0 : Int32)) + (0 : Int32)) + (0 : Int32))] [(.int ((((((own_p31 (1 : Int32)) + (x1 * (own_p31 (0 : Int32)))) + (0 : Int32)) + (0 : Int32)) + (0 : Int32)) + (0 : Int32))), (.int ((31 : Int32) + x1))])) _
        refine XS.icmpNo X299.here hx rfl (hb hby at_139) rfl (teq hc302).2 ?_
        refine XS.iconst X299.here hx rfl (hb hby at_142) ?_
        refine XS.goto X299.here hx rfl (pc0 := 143) (pc' := 147) rfl (hb hby at_143) (by decide) (by decide) ?_
        show Steps p.tables e below (T299.setTop (mkF m 147 #[iv p0_0, iv p0_1, iv p0_2, rv b1, iv (1 : Int32), iv (1 : Int32), rv b271, iv ((((((own_p31 (1 : Int32)) + (x1 * (own_p31 (0 : Int32)))) + (0 : Int32)) + (0 : Int32)) + (0 : Int32)) + (0 : Int32))] [(.int (1 : Int32))])) _
        exact retN X299 hx (t := .boolean) Bd.returns (by simp) (hb hby at_147) hr
      · show Q_rm0 Z _ _ _ h0 n0 _ T299.heap _
        rw [K299q]
        exact ⟨rfl, N301, (K284)⟩
    · skip
      obtain ⟨T303, h303, X303, e303, E303, A303, D303, -, st303⟩ := newO X32 hx hZ hown wo2 wo3 wo4 e32 (g := (mkF m 61 #[iv p0_0, iv p0_1, iv p0_2, rv b1, iv (1 : Int32), iv (2 : Int32), .unset, .unset] [])) rfl (hb hby at_61) (by decide) (by decide)
      obtain ⟨b303, gg303⟩ : ∃ z, z = h32.size := ⟨_, rfl⟩
      rw [← gg303] at A303 D303 st303
      have ne304 : b1 ≠ b303 := Nat.ne_of_lt (Nat.lt_of_lt_of_le f40.lt (Nat.le_of_eq gg303.symm))
      have f306 := (Nat.le_trans (Nat.le_trans (Nat.le_trans (Nat.le_trans (Nat.le_trans (Nat.le_trans Z0 E1.1) (Keep.of_wr W8).1) (Keep.of_wr W14).1) (Keep.of_wr W20).1) (Keep.of_wr W26).1) (Keep.of_wr W32).1)
      have g305 : n0 ≤ b303 := Nat.le_trans f306 (Nat.le_of_eq gg303.symm)
      have bz307 : h0.size ≤ b303 := Nat.le_trans (K33).1 (Nat.le_of_eq gg303.symm)
      have K308 : Keep h0 h303 [] := (K33).ext E303
      have f309 : Fld Z h303 b303 "com/example/tailwake/tailwake/source/mariadb/Slice" "array" "[B" .null := D303 (Or.inr wo20) (ty := (.array .byte)) (by decide)
      have f310 : Fld Z h303 b303 "com/example/tailwake/tailwake/source/mariadb/Slice" "offset" "I" (.int (0 : Int32)) := D303 (Or.inr wo22) (ty := .int) (by decide)
      have f311 : Fld Z h303 b303 "com/example/tailwake/tailwake/source/mariadb/Slice" "length" "I" (.int (0 : Int32)) := D303 (Or.inr wo24) (ty := .int) (by decide)
      have f312 := (f40.ext E303)
      have f314 := (Nat.le_trans f306 E303.1)
      obtain ⟨_, _, ⟨T313, L313, k313, n313⟩, -, X313, ⟨Lc313, hQ313, l313, y313, z313⟩, st313⟩ := X303.specialBack hx (y := MN1) rfl hown (mvT hZ wo5) (mvT hZ wo6) (mvT hZ wo7) (by decide) (backOf (W := 1) (rm1 l Z a0 hw [] b303 b1 (1 : Int32) (2 : Int32) h303 n0 f314 A303 g305 f309 f310 f311 f312.al (by first | decide | assumption | omega : ¬ ((((5 : Int32) ||| (1 : Int32)) ||| (2 : Int32)) < (0 : Int32))) (by first | decide | assumption | omega : ¬ (((5 : Int32) - (1 : Int32)) < (2 : Int32)))) hZ wo7 wo4 (by decide) (by decide)) (g := (mkF m 70 #[iv p0_0, iv p0_1, iv p0_2, rv b1, iv (1 : Int32), iv (2 : Int32), .unset, .unset] [(.int (2 : Int32)), (.int (1 : Int32)), (.ref b1), (.ref b303), (.ref b303)])) rfl (by rw [hml]; rfl) (Steps.refl _) (a := b303) (argsL := [(.ref b1), (.int (1 : Int32)), (.int (2 : Int32))]) (rest := [(.ref b303)]) (lenOf pd_5 rfl) rfl (by show 2 * 0 + _ ≤ _; exact Nat.le_of_eq rfl) (hb hby at_70) (fun _ _ => ⟨rfl, e303, (by decide : 2 + 0 ≤ _), (by decide : 8 + 0 ≤ _)⟩)
      dsimp only [Pt.U, Pt.locs, Pt.cells, Pt.slots] at X313 l313 y313 z313 st313 hQ313
      rw [l313, y313, z313] at X313
      obtain ⟨rfl, N313q, K313q, hq313_0, hq313_1, hq313_2⟩ := hQ313
      have N315 := Fr.app N35 N313q
      have K316 : Keep h0 T313.heap [] := (K308).trans K313q (allS (P := fun x => x ∈ [] ∨ h0.size ≤ x) (Or.inr bz307) all0)
      have f318 := (Nat.le_trans f314 K313q.1)
      obtain ⟨_, _, ⟨T317, L317, k317, n317⟩, -, X317, ⟨Lc317, hQ317, l317, y317, z317⟩, st317⟩ := Jvm.LawKit.callS X313 hx (y := MN5) hown (mvT hZ wo25) (mvT hZ wo26) (mvT hZ wo27) (mvT hZ wo28) (by decide) (backOf (W := 0) (rm5 l Z a0 hw [] (2 : Int32) (T313.heap) n0 f318 ) hZ wo28 wo27 (by decide) (by decide)) (g := (mkF m 77 #[iv p0_0, iv p0_1, iv p0_2, rv b1, iv (1 : Int32), iv (2 : Int32), rv b303, .unset] [(.int (2 : Int32))])) rfl (by rw [hml]; rfl) (argsL := [(.int (2 : Int32))]) (rest := []) (lenOf pd_2 rfl) rfl (by show 2 * 0 + _ ≤ _; exact Nat.le_of_eq rfl) (hb hby at_77) (fun _ _ => ⟨rfl, rfl, (by decide : 2 + 0 ≤ _), (by decide : 8 + 0 ≤ _)⟩)
      dsimp only [Pt.U, Pt.locs, Pt.cells, Pt.slots] at X317 l317 y317 z317 st317 hQ317
      rw [l317, y317, z317] at X317
      obtain ⟨rfl, N317q, K317q⟩ := hQ317
      have N319 := Fr.app N315 N317q
      have f320 := (f312.keep K313q (ninS ne304 nin0))
      obtain ⟨_, _, ⟨T321, L321, k321, n321⟩, -, X321, ⟨Lc321, hQ321, l321, y321, z321⟩, st321⟩ := Jvm.LawKit.callS X317 hx (y := MN6) hown (mvT hZ wo29) (mvT hZ wo30) (mvT hZ wo27) (mvT hZ wo31) (by decide) (backOf (W := 1) (rm_t1 l Z a0 hw [] b1 (1 : Int32) (2 : Int32) (0 : Int32) x0 x1 x2 x3 x4 (T313.heap) n0 f318 f320 (by first | decide | assumption | omega : (0 : Int32) < (2 : Int32)) (by first | decide | assumption | omega : ((1 : Int32) + (0 : Int32)) = (1 : Int32))) hZ wo31 wo27 (by decide) (by decide)) (g := (mkF m 86 #[iv p0_0, iv p0_1, iv p0_2, rv b1, iv (1 : Int32), iv (2 : Int32), rv b303, .unset] [(.int (0 : Int32)), (.int (2 : Int32)), (.int (1 : Int32)), (.ref b1), (.int (own_p31 (2 : Int32)))])) rfl (by rw [hml]; rfl) (argsL := [(.ref b1), (.int (1 : Int32)), (.int (2 : Int32)), (.int (0 : Int32))]) (rest := [(.int (own_p31 (2 : Int32)))]) (lenOf pd_6 rfl) rfl (by show 2 * 0 + _ ≤ _; exact Nat.le_of_eq rfl) (hb hby at_86) (fun _ _ => ⟨rfl, K317q, (by decide : 2 + 0 ≤ _), (by decide : 8 + 0 ≤ _)⟩)
      dsimp only [Pt.U, Pt.locs, Pt.cells, Pt.slots] at X321 l321 y321 z321 st321 hQ321
      rw [l321, y321, z321] at X321
      obtain ⟨rfl, N321q, K321q⟩ := hQ321
      have N322 := Fr.app N319 N321q
      obtain ⟨_, _, ⟨T323, L323, k323, n323⟩, -, X323, ⟨Lc323, hQ323, l323, y323, z323⟩, st323⟩ := Jvm.LawKit.callS X321 hx (y := MN6) hown (mvT hZ wo29) (mvT hZ wo30) (mvT hZ wo27) (mvT hZ wo31) (by decide) (backOf (W := 1) (rm_t2 l Z a0 hw [] b1 (1 : Int32) (2 : Int32) (1 : Int32) x0 x1 x2 x3 x4 (T313.heap) n0 f318 f320 (by first | decide | assumption | omega : (1 : Int32) < (2 : Int32)) (by first | decide | assumption | omega : ((1 : Int32) + (1 : Int32)) = (2 : Int32))) hZ wo31 wo27 (by decide) (by decide)) (g := (mkF m 96 #[iv p0_0, iv p0_1, iv p0_2, rv b1, iv (1 : Int32), iv (2 : Int32), rv b303, .unset] [(.int (1 : Int32)), (.int (2 : Int32)), (.int (1 : Int32)), (.ref b1), (.int ((own_p31 (2 : Int32)) + (x1 * (own_p31 (1 : Int32)))))])) rfl (by rw [hml]; rfl) (argsL := [(.ref b1), (.int (1 : Int32)), (.int (2 : Int32)), (.int (1 : Int32))]) (rest := [(.int ((own_p31 (2 : Int32)) + (x1 * (own_p31 (1 : Int32)))))]) (lenOf pd_6 rfl) rfl (by show 2 * 0 + _ ≤ _; exact Nat.le_of_eq rfl) (hb hby at_96) (fun _ _ => ⟨rfl, K321q, (by decide : 2 + 0 ≤ _), (by decide : 8 + 0 ≤ _)⟩)
      dsimp only [Pt.U, Pt.locs, Pt.cells, Pt.slots] at X323 l323 y323 z323 st323 hQ323
      rw [l323, y323, z323] at X323
      obtain ⟨rfl, N323q, K323q⟩ := hQ323
      have N324 := Fr.app N322 N323q
      obtain ⟨_, _, ⟨T325, L325, k325, n325⟩, -, X325, ⟨Lc325, hQ325, l325, y325, z325⟩, st325⟩ := Jvm.LawKit.callS X323 hx (y := MN6) hown (mvT hZ wo29) (mvT hZ wo30) (mvT hZ wo27) (mvT hZ wo31) (by decide) (backOf (W := 1) (rm_t l Z a0 hw [] b1 (1 : Int32) (2 : Int32) (2 : Int32) (T313.heap) n0 f318 (by first | decide | assumption | omega : ¬ ((2 : Int32) < (2 : Int32)))) hZ wo31 wo27 (by decide) (by decide)) (g := (mkF m 106 #[iv p0_0, iv p0_1, iv p0_2, rv b1, iv (1 : Int32), iv (2 : Int32), rv b303, .unset] [(.int (2 : Int32)), (.int (2 : Int32)), (.int (1 : Int32)), (.ref b1), (.int (((own_p31 (2 : Int32)) + (x1 * (own_p31 (1 : Int32)))) + (x2 * (own_p31 (0 : Int32)))))])) rfl (by rw [hml]; rfl) (argsL := [(.ref b1), (.int (1 : Int32)), (.int (2 : Int32)), (.int (2 : Int32))]) (rest := [(.int (((own_p31 (2 : Int32)) + (x1 * (own_p31 (1 : Int32)))) + (x2 * (own_p31 (0 : Int32)))))]) (lenOf pd_6 rfl) rfl (by show 2 * 0 + _ ≤ _; exact Nat.le_of_eq rfl) (hb hby at_106) (fun _ _ => ⟨rfl, K323q, (by decide : 2 + 0 ≤ _), (by decide : 8 + 0 ≤ _)⟩)
      dsimp only [Pt.U, Pt.locs, Pt.cells, Pt.slots] at X325 l325 y325 z325 st325 hQ325
      rw [l325, y325, z325] at X325
      obtain ⟨rfl, N325q, K325q⟩ := hQ325
      have N326 := Fr.app N324 N325q
      obtain ⟨_, _, ⟨T327, L327, k327, n327⟩, -, X327, ⟨Lc327, hQ327, l327, y327, z327⟩, st327⟩ := Jvm.LawKit.callS X325 hx (y := MN6) hown (mvT hZ wo29) (mvT hZ wo30) (mvT hZ wo27) (mvT hZ wo31) (by decide) (backOf (W := 1) (rm_t l Z a0 hw [] b1 (1 : Int32) (2 : Int32) (3 : Int32) (T313.heap) n0 f318 (by first | decide | assumption | omega : ¬ ((3 : Int32) < (2 : Int32)))) hZ wo31 wo27 (by decide) (by decide)) (g := (mkF m 116 #[iv p0_0, iv p0_1, iv p0_2, rv b1, iv (1 : Int32), iv (2 : Int32), rv b303, .unset] [(.int (3 : Int32)), (.int (2 : Int32)), (.int (1 : Int32)), (.ref b1), (.int ((((own_p31 (2 : Int32)) + (x1 * (own_p31 (1 : Int32)))) + (x2 * (own_p31 (0 : Int32)))) + (0 : Int32)))])) rfl (by rw [hml]; rfl) (argsL := [(.ref b1), (.int (1 : Int32)), (.int (2 : Int32)), (.int (3 : Int32))]) (rest := [(.int ((((own_p31 (2 : Int32)) + (x1 * (own_p31 (1 : Int32)))) + (x2 * (own_p31 (0 : Int32)))) + (0 : Int32)))]) (lenOf pd_6 rfl) rfl (by show 2 * 0 + _ ≤ _; exact Nat.le_of_eq rfl) (hb hby at_116) (fun _ _ => ⟨rfl, K325q, (by decide : 2 + 0 ≤ _), (by decide : 8 + 0 ≤ _)⟩)
      dsimp only [Pt.U, Pt.locs, Pt.cells, Pt.slots] at X327 l327 y327 z327 st327 hQ327
      rw [l327, y327, z327] at X327
      obtain ⟨rfl, N327q, K327q⟩ := hQ327
      have N328 := Fr.app N326 N327q
      obtain ⟨_, _, ⟨T329, L329, k329, n329⟩, -, X329, ⟨Lc329, hQ329, l329, y329, z329⟩, st329⟩ := Jvm.LawKit.callS X327 hx (y := MN6) hown (mvT hZ wo29) (mvT hZ wo30) (mvT hZ wo27) (mvT hZ wo31) (by decide) (backOf (W := 1) (rm_t l Z a0 hw [] b1 (1 : Int32) (2 : Int32) (4 : Int32) (T313.heap) n0 f318 (by first | decide | assumption | omega : ¬ ((4 : Int32) < (2 : Int32)))) hZ wo31 wo27 (by decide) (by decide)) (g := (mkF m 126 #[iv p0_0, iv p0_1, iv p0_2, rv b1, iv (1 : Int32), iv (2 : Int32), rv b303, .unset] [(.int (4 : Int32)), (.int (2 : Int32)), (.int (1 : Int32)), (.ref b1), (.int (((((own_p31 (2 : Int32)) + (x1 * (own_p31 (1 : Int32)))) + (x2 * (own_p31 (0 : Int32)))) + (0 : Int32)) + (0 : Int32)))])) rfl (by rw [hml]; rfl) (argsL := [(.ref b1), (.int (1 : Int32)), (.int (2 : Int32)), (.int (4 : Int32))]) (rest := [(.int (((((own_p31 (2 : Int32)) + (x1 * (own_p31 (1 : Int32)))) + (x2 * (own_p31 (0 : Int32)))) + (0 : Int32)) + (0 : Int32)))]) (lenOf pd_6 rfl) rfl (by show 2 * 0 + _ ≤ _; exact Nat.le_of_eq rfl) (hb hby at_126) (fun _ _ => ⟨rfl, K327q, (by decide : 2 + 0 ≤ _), (by decide : 8 + 0 ≤ _)⟩)
      dsimp only [Pt.U, Pt.locs, Pt.cells, Pt.slots] at X329 l329 y329 z329 st329 hQ329
      rw [l329, y329, z329] at X329
      obtain ⟨rfl, N329q, K329q⟩ := hQ329
      have N330 := Fr.app N328 N329q
      have f332 := (A303.keep K313q)
      obtain ⟨cq331, kq331, q331a, q331b, q331c⟩ := isOf hZ K329q f332
      obtain ⟨_, _, ⟨T331, L331, k331, n331⟩, -, X331, ⟨Lc331, hQ331, l331, y331, z331⟩, st331⟩ := X329.virtualBack hx (y := MN7) (z := MN7) hown (mvT hZ wo32) (mvT hZ wo33) (notFace_of_selects (args := #[]) (mvT hZ wo35)) (mvT hZ wo35) (mvT hZ wo34) (by decide) (backOf (W := 0) (rm_h1_2 l Z a0 hw [] b303 b1 x0 x1 x2 x3 x4 (T313.heap) n0 f318 hq313_0 hq313_1 hq313_2 f320) hZ wo36 wo4 (by decide) (by decide)) q331a q331c (g := (mkF m 134 #[iv p0_0, iv p0_1, iv p0_2, rv b1, iv (1 : Int32), iv (2 : Int32), rv b303, iv ((((((own_p31 (2 : Int32)) + (x1 * (own_p31 (1 : Int32)))) + (x2 * (own_p31 (0 : Int32)))) + (0 : Int32)) + (0 : Int32)) + (0 : Int32))] [(.ref b303)])) rfl (by rw [hml]; rfl) (Steps.refl _) (argsL := []) (rest := []) (lenOf pd_0 rfl) rfl (by show 2 * 0 + _ ≤ _; exact Nat.le_of_eq rfl) (hb hby at_134) (fun _ _ => ⟨rfl, K329q, (by decide : 2 + 0 ≤ _), (by decide : 8 + 0 ≤ _)⟩)
      dsimp only [Pt.U, Pt.locs, Pt.cells, Pt.slots] at X331 l331 y331 z331 st331 hQ331
      rw [l331, y331, z331] at X331
      obtain ⟨rfl, N331q, K331q⟩ := hQ331
      have N333 := Fr.app N330 N331q
      have hc334 : (((31 : Int32) * ((31 : Int32) + x1)) + x2) = ((((((own_p31 (2 : Int32)) + (x1 * (own_p31 (1 : Int32)))) + (x2 * (own_p31 (0 : Int32)))) + (0 : Int32)) + (0 : Int32)) + (0 : Int32)) := (by simp only [own_q0, own_q1, own_q2, own_q3, own_q4, own_q5]; first | rfl | grind)
      obtain ⟨fs, hr, hrun, hended, hW, hsame⟩ := X331.leave (v := some (.int (1 : Int32))) (fun h => by rw [Bd.returns] at h; cases h)
      refine ⟨_, _, pre237 _ ?_, hrun, hended, _, _, rfl, ?_, ⟨_, rfl⟩, hW, hsame.mono (by decide) (by decide)⟩
      · show Steps p.tables e below (T32.setTop (mkF m 61 #[iv p0_0, iv p0_1, iv p0_2, rv b1, iv (1 : Int32), iv (2 : Int32), .unset, .unset] [])) _
        refine st303 _ ?_
        show Steps p.tables e below (T303.setTop (mkF m 64 #[iv p0_0, iv p0_1, iv p0_2, rv b1, iv (1 : Int32), iv (2 : Int32), .unset, .unset] [(.ref b303)])) _
        refine XS.dup X303.here hx rfl (hb hby at_64) rfl rfl ?_
        refine XS.aloadN X303.here hx rfl (hb hby at_65) rfl rfl ?_
        refine XS.iload X303.here hx rfl (hb hby at_66) rfl ?_
        refine XS.iload X303.here hx rfl (hb hby at_68) rfl ?_
        show Steps p.tables e below (T303.setTop (mkF m 70 #[iv p0_0, iv p0_1, iv p0_2, rv b1, iv (1 : Int32), iv (2 : Int32), .unset, .unset] [(.int (2 : Int32)), (.int (1 : Int32)), (.ref b1), (.ref b303), (.ref b303)])) _
        refine st313.trans ?_
        show Steps p.tables e below (T313.setTop (mkF m 73 #[iv p0_0, iv p0_1, iv p0_2, rv b1, iv (1 : Int32), iv (2 : Int32), .unset, .unset] [(.ref b303)])) _
        refine XS.astore X313.here hx rfl (hb hby at_73) rfl rfl (l' := #[iv p0_0, iv p0_1, iv p0_2, rv b1, iv (1 : Int32), iv (2 : Int32), rv b303, .unset]) rfl ?_
        refine XS.iload X313.here hx rfl (hb hby at_75) rfl ?_
        show Steps p.tables e below (T313.setTop (mkF m 77 #[iv p0_0, iv p0_1, iv p0_2, rv b1, iv (1 : Int32), iv (2 : Int32), rv b303, .unset] [(.int (2 : Int32))])) _
        refine st317 _ ?_
        show Steps p.tables e below (T317.setTop (mkF m 80 #[iv p0_0, iv p0_1, iv p0_2, rv b1, iv (1 : Int32), iv (2 : Int32), rv b303, .unset] [(.int (own_p31 (2 : Int32)))])) _
        refine XS.aloadN X317.here hx rfl (hb hby at_80) rfl rfl ?_
        refine XS.iload X317.here hx rfl (hb hby at_81) rfl ?_
        refine XS.iload X317.here hx rfl (hb hby at_83) rfl ?_
        refine XS.iconst X317.here hx rfl (hb hby at_85) ?_
        show Steps p.tables e below (T317.setTop (mkF m 86 #[iv p0_0, iv p0_1, iv p0_2, rv b1, iv (1 : Int32), iv (2 : Int32), rv b303, .unset] [(.int (0 : Int32)), (.int (2 : Int32)), (.int (1 : Int32)), (.ref b1), (.int (own_p31 (2 : Int32)))])) _
        refine st321 _ ?_
        show Steps p.tables e below (T321.setTop (mkF m 89 #[iv p0_0, iv p0_1, iv p0_2, rv b1, iv (1 : Int32), iv (2 : Int32), rv b303, .unset] [(.int (x1 * (own_p31 (1 : Int32)))), (.int (own_p31 (2 : Int32)))])) _
        refine XS.iadd X321.here hx rfl (hb hby at_89) rfl ?_
        refine XS.aloadN X321.here hx rfl (hb hby at_90) rfl rfl ?_
        refine XS.iload X321.here hx rfl (hb hby at_91) rfl ?_
        show Steps p.tables e below (T321.setTop (mkF m 93 #[iv p0_0, iv p0_1, iv p0_2, rv b1, iv (1 : Int32), iv (2 : Int32), rv b303, .unset] [(.int (1 : Int32)), (.ref b1), (.int ((own_p31 (2 : Int32)) + (x1 * (own_p31 (1 : Int32)))))])) _
        refine XS.iload X321.here hx rfl (hb hby at_93) rfl ?_
        refine XS.iconst X321.here hx rfl (hb hby at_95) ?_
        show Steps p.tables e below (T321.setTop (mkF m 96 #[iv p0_0, iv p0_1, iv p0_2, rv b1, iv (1 : Int32), iv (2 : Int32), rv b303, .unset] [(.int (1 : Int32)), (.int (2 : Int32)), (.int (1 : Int32)), (.ref b1), (.int ((own_p31 (2 : Int32)) + (x1 * (own_p31 (1 : Int32)))))])) _
        refine st323 _ ?_
        show Steps p.tables e below (T323.setTop (mkF m 99 #[iv p0_0, iv p0_1, iv p0_2, rv b1, iv (1 : Int32), iv (2 : Int32), rv b303, .unset] [(.int (x2 * (own_p31 (0 : Int32)))), (.int ((own_p31 (2 : Int32)) + (x1 * (own_p31 (1 : Int32)))))])) _
        refine XS.iadd X323.here hx rfl (hb hby at_99) rfl ?_
        show Steps p.tables e below (T323.setTop (mkF m 100 #[iv p0_0, iv p0_1, iv p0_2, rv b1, iv (1 : Int32), iv (2 : Int32), rv b303, .unset] [(.int (((own_p31 (2 : Int32)) + (x1 * (own_p31 (1 : Int32)))) + (x2 * (own_p31 (0 : Int32)))))])) _
        refine XS.aloadN X323.here hx rfl (hb hby at_100) rfl rfl ?_
        refine XS.iload X323.here hx rfl (hb hby at_101) rfl ?_
        refine XS.iload X323.here hx rfl (hb hby at_103) rfl ?_
        refine XS.iconst X323.here hx rfl (hb hby at_105) ?_
        show Steps p.tables e below (T323.setTop (mkF m 106 #[iv p0_0, iv p0_1, iv p0_2, rv b1, iv (1 : Int32), iv (2 : Int32), rv b303, .unset] [(.int (2 : Int32)), (.int (2 : Int32)), (.int (1 : Int32)), (.ref b1), (.int (((own_p31 (2 : Int32)) + (x1 * (own_p31 (1 : Int32)))) + (x2 * (own_p31 (0 : Int32)))))])) _
        refine st325 _ ?_
        show Steps p.tables e below (T325.setTop (mkF m 109 #[iv p0_0, iv p0_1, iv p0_2, rv b1, iv (1 : Int32), iv (2 : Int32), rv b303, .unset] [(.int (0 : Int32)), (.int (((own_p31 (2 : Int32)) + (x1 * (own_p31 (1 : Int32)))) + (x2 * (own_p31 (0 : Int32)))))])) _
        refine XS.iadd X325.here hx rfl (hb hby at_109) rfl ?_
        refine XS.aloadN X325.here hx rfl (hb hby at_110) rfl rfl ?_
        refine XS.iload X325.here hx rfl (hb hby at_111) rfl ?_
        show Steps p.tables e below (T325.setTop (mkF m 113 #[iv p0_0, iv p0_1, iv p0_2, rv b1, iv (1 : Int32), iv (2 : Int32), rv b303, .unset] [(.int (1 : Int32)), (.ref b1), (.int ((((own_p31 (2 : Int32)) + (x1 * (own_p31 (1 : Int32)))) + (x2 * (own_p31 (0 : Int32)))) + (0 : Int32)))])) _
        refine XS.iload X325.here hx rfl (hb hby at_113) rfl ?_
        refine XS.iconst X325.here hx rfl (hb hby at_115) ?_
        show Steps p.tables e below (T325.setTop (mkF m 116 #[iv p0_0, iv p0_1, iv p0_2, rv b1, iv (1 : Int32), iv (2 : Int32), rv b303, .unset] [(.int (3 : Int32)), (.int (2 : Int32)), (.int (1 : Int32)), (.ref b1), (.int ((((own_p31 (2 : Int32)) + (x1 * (own_p31 (1 : Int32)))) + (x2 * (own_p31 (0 : Int32)))) + (0 : Int32)))])) _
        refine st327 _ ?_
        show Steps p.tables e below (T327.setTop (mkF m 119 #[iv p0_0, iv p0_1, iv p0_2, rv b1, iv (1 : Int32), iv (2 : Int32), rv b303, .unset] [(.int (0 : Int32)), (.int ((((own_p31 (2 : Int32)) + (x1 * (own_p31 (1 : Int32)))) + (x2 * (own_p31 (0 : Int32)))) + (0 : Int32)))])) _
        refine XS.iadd X327.here hx rfl (hb hby at_119) rfl ?_
        show Steps p.tables e below (T327.setTop (mkF m 120 #[iv p0_0, iv p0_1, iv p0_2, rv b1, iv (1 : Int32), iv (2 : Int32), rv b303, .unset] [(.int (((((own_p31 (2 : Int32)) + (x1 * (own_p31 (1 : Int32)))) + (x2 * (own_p31 (0 : Int32)))) + (0 : Int32)) + (0 : Int32)))])) _
        refine XS.aloadN X327.here hx rfl (hb hby at_120) rfl rfl ?_
        refine XS.iload X327.here hx rfl (hb hby at_121) rfl ?_
        refine XS.iload X327.here hx rfl (hb hby at_123) rfl ?_
        refine XS.iconst X327.here hx rfl (hb hby at_125) ?_
        show Steps p.tables e below (T327.setTop (mkF m 126 #[iv p0_0, iv p0_1, iv p0_2, rv b1, iv (1 : Int32), iv (2 : Int32), rv b303, .unset] [(.int (4 : Int32)), (.int (2 : Int32)), (.int (1 : Int32)), (.ref b1), (.int (((((own_p31 (2 : Int32)) + (x1 * (own_p31 (1 : Int32)))) + (x2 * (own_p31 (0 : Int32)))) + (0 : Int32)) + (0 : Int32)))])) _
        refine st329 _ ?_
        show Steps p.tables e below (T329.setTop (mkF m 129 #[iv p0_0, iv p0_1, iv p0_2, rv b1, iv (1 : Int32), iv (2 : Int32), rv b303, .unset] [(.int (0 : Int32)), (.int (((((own_p31 (2 : Int32)) + (x1 * (own_p31 (1 : Int32)))) + (x2 * (own_p31 (0 : Int32)))) + (0 : Int32)) + (0 : Int32)))])) _
        refine XS.iadd X329.here hx rfl (hb hby at_129) rfl ?_
        refine XS.istore X329.here hx rfl (hb hby at_130) rfl (l' := #[iv p0_0, iv p0_1, iv p0_2, rv b1, iv (1 : Int32), iv (2 : Int32), rv b303, iv ((((((own_p31 (2 : Int32)) + (x1 * (own_p31 (1 : Int32)))) + (x2 * (own_p31 (0 : Int32)))) + (0 : Int32)) + (0 : Int32)) + (0 : Int32))]) rfl ?_
        refine XS.aload X329.here hx rfl (hb hby at_132) rfl rfl ?_
        show Steps p.tables e below (T329.setTop (mkF m 134 #[iv p0_0, iv p0_1, iv p0_2, rv b1, iv (1 : Int32), iv (2 : Int32), rv b303, iv ((((((own_p31 (2 : Int32)) + (x1 * (own_p31 (1 : Int32)))) + (x2 * (own_p31 (0 : Int32)))) + (0 : Int32)) + (0 : Int32)) + (0 : Int32))] [(.ref b303)])) _
        refine st331.trans ?_
        show Steps p.tables e below (T331.setTop (mkF m 137 #[iv p0_0, iv p0_1, iv p0_2, rv b1, iv (1 : Int32), iv (2 : Int32), rv b303, iv ((((((own_p31 (2 : Int32)) + (x1 * (own_p31 (1 : Int32)))) + (x2 * (own_p31 (0 : Int32)))) + (0 : Int32)) + (0 : Int32)) + (0 : Int32))] [(.int (((31 : Int32) * ((31 : Int32) + x1)) + x2))])) _
        refine XS.iload X331.here hx rfl (hb hby at_137) rfl ?_
        refine XS.icmpNo X331.here hx rfl (hb hby at_139) rfl (teq hc334).2 ?_
        refine XS.iconst X331.here hx rfl (hb hby at_142) ?_
        show Steps p.tables e below (T331.setTop (mkF m 143 #[iv p0_0, iv p0_1, iv p0_2, rv b1, iv (1 : Int32), iv (2 : Int32), rv b303, iv ((((((own_p31 (2 : Int32)) + (x1 * (own_p31 (1 : Int32)))) + (x2 * (own_p31 (0 : Int32)))) + (0 : Int32)) + (0 : Int32)) + (0 : Int32))] [(.int (1 : Int32))])) _
        refine XS.goto X331.here hx rfl (pc0 := 143) (pc' := 147) rfl (hb hby at_143) (by decide) (by decide) ?_
        show Steps p.tables e below (T331.setTop (mkF m 147 #[iv p0_0, iv p0_1, iv p0_2, rv b1, iv (1 : Int32), iv (2 : Int32), rv b303, iv ((((((own_p31 (2 : Int32)) + (x1 * (own_p31 (1 : Int32)))) + (x2 * (own_p31 (0 : Int32)))) + (0 : Int32)) + (0 : Int32)) + (0 : Int32))] [(.int (1 : Int32))])) _
        exact retN X331 hx (t := .boolean) Bd.returns (by simp) (hb hby at_147) hr
      · show Q_rm0 Z _ _ _ h0 n0 _ T331.heap _
        rw [K331q]
        exact ⟨rfl, N333, (K316)⟩
    · skip
      obtain ⟨T335, h335, X335, e335, E335, A335, D335, -, st335⟩ := newO X32 hx hZ hown wo2 wo3 wo4 e32 (g := (mkF m 61 #[iv p0_0, iv p0_1, iv p0_2, rv b1, iv (1 : Int32), iv (3 : Int32), .unset, .unset] [])) rfl (hb hby at_61) (by decide) (by decide)
      obtain ⟨b335, gg335⟩ : ∃ z, z = h32.size := ⟨_, rfl⟩
      rw [← gg335] at A335 D335 st335
      have ne336 : b1 ≠ b335 := Nat.ne_of_lt (Nat.lt_of_lt_of_le f40.lt (Nat.le_of_eq gg335.symm))
      have f338 := (Nat.le_trans (Nat.le_trans (Nat.le_trans (Nat.le_trans (Nat.le_trans (Nat.le_trans Z0 E1.1) (Keep.of_wr W8).1) (Keep.of_wr W14).1) (Keep.of_wr W20).1) (Keep.of_wr W26).1) (Keep.of_wr W32).1)
      have g337 : n0 ≤ b335 := Nat.le_trans f338 (Nat.le_of_eq gg335.symm)
      have bz339 : h0.size ≤ b335 := Nat.le_trans (K33).1 (Nat.le_of_eq gg335.symm)
      have K340 : Keep h0 h335 [] := (K33).ext E335
      have f341 : Fld Z h335 b335 "com/example/tailwake/tailwake/source/mariadb/Slice" "array" "[B" .null := D335 (Or.inr wo20) (ty := (.array .byte)) (by decide)
      have f342 : Fld Z h335 b335 "com/example/tailwake/tailwake/source/mariadb/Slice" "offset" "I" (.int (0 : Int32)) := D335 (Or.inr wo22) (ty := .int) (by decide)
      have f343 : Fld Z h335 b335 "com/example/tailwake/tailwake/source/mariadb/Slice" "length" "I" (.int (0 : Int32)) := D335 (Or.inr wo24) (ty := .int) (by decide)
      have f344 := (f40.ext E335)
      have f346 := (Nat.le_trans f338 E335.1)
      obtain ⟨_, _, ⟨T345, L345, k345, n345⟩, -, X345, ⟨Lc345, hQ345, l345, y345, z345⟩, st345⟩ := X335.specialBack hx (y := MN1) rfl hown (mvT hZ wo5) (mvT hZ wo6) (mvT hZ wo7) (by decide) (backOf (W := 1) (rm1 l Z a0 hw [] b335 b1 (1 : Int32) (3 : Int32) h335 n0 f346 A335 g337 f341 f342 f343 f344.al (by first | decide | assumption | omega : ¬ ((((5 : Int32) ||| (1 : Int32)) ||| (3 : Int32)) < (0 : Int32))) (by first | decide | assumption | omega : ¬ (((5 : Int32) - (1 : Int32)) < (3 : Int32)))) hZ wo7 wo4 (by decide) (by decide)) (g := (mkF m 70 #[iv p0_0, iv p0_1, iv p0_2, rv b1, iv (1 : Int32), iv (3 : Int32), .unset, .unset] [(.int (3 : Int32)), (.int (1 : Int32)), (.ref b1), (.ref b335), (.ref b335)])) rfl (by rw [hml]; rfl) (Steps.refl _) (a := b335) (argsL := [(.ref b1), (.int (1 : Int32)), (.int (3 : Int32))]) (rest := [(.ref b335)]) (lenOf pd_5 rfl) rfl (by show 2 * 0 + _ ≤ _; exact Nat.le_of_eq rfl) (hb hby at_70) (fun _ _ => ⟨rfl, e335, (by decide : 2 + 0 ≤ _), (by decide : 8 + 0 ≤ _)⟩)
      dsimp only [Pt.U, Pt.locs, Pt.cells, Pt.slots] at X345 l345 y345 z345 st345 hQ345
      rw [l345, y345, z345] at X345
      obtain ⟨rfl, N345q, K345q, hq345_0, hq345_1, hq345_2⟩ := hQ345
      have N347 := Fr.app N35 N345q
      have K348 : Keep h0 T345.heap [] := (K340).trans K345q (allS (P := fun x => x ∈ [] ∨ h0.size ≤ x) (Or.inr bz339) all0)
      have f350 := (Nat.le_trans f346 K345q.1)
      obtain ⟨_, _, ⟨T349, L349, k349, n349⟩, -, X349, ⟨Lc349, hQ349, l349, y349, z349⟩, st349⟩ := Jvm.LawKit.callS X345 hx (y := MN5) hown (mvT hZ wo25) (mvT hZ wo26) (mvT hZ wo27) (mvT hZ wo28) (by decide) (backOf (W := 0) (rm5 l Z a0 hw [] (3 : Int32) (T345.heap) n0 f350 ) hZ wo28 wo27 (by decide) (by decide)) (g := (mkF m 77 #[iv p0_0, iv p0_1, iv p0_2, rv b1, iv (1 : Int32), iv (3 : Int32), rv b335, .unset] [(.int (3 : Int32))])) rfl (by rw [hml]; rfl) (argsL := [(.int (3 : Int32))]) (rest := []) (lenOf pd_2 rfl) rfl (by show 2 * 0 + _ ≤ _; exact Nat.le_of_eq rfl) (hb hby at_77) (fun _ _ => ⟨rfl, rfl, (by decide : 2 + 0 ≤ _), (by decide : 8 + 0 ≤ _)⟩)
      dsimp only [Pt.U, Pt.locs, Pt.cells, Pt.slots] at X349 l349 y349 z349 st349 hQ349
      rw [l349, y349, z349] at X349
      obtain ⟨rfl, N349q, K349q⟩ := hQ349
      have N351 := Fr.app N347 N349q
      have f352 := (f344.keep K345q (ninS ne336 nin0))
      obtain ⟨_, _, ⟨T353, L353, k353, n353⟩, -, X353, ⟨Lc353, hQ353, l353, y353, z353⟩, st353⟩ := Jvm.LawKit.callS X349 hx (y := MN6) hown (mvT hZ wo29) (mvT hZ wo30) (mvT hZ wo27) (mvT hZ wo31) (by decide) (backOf (W := 1) (rm_t1 l Z a0 hw [] b1 (1 : Int32) (3 : Int32) (0 : Int32) x0 x1 x2 x3 x4 (T345.heap) n0 f350 f352 (by first | decide | assumption | omega : (0 : Int32) < (3 : Int32)) (by first | decide | assumption | omega : ((1 : Int32) + (0 : Int32)) = (1 : Int32))) hZ wo31 wo27 (by decide) (by decide)) (g := (mkF m 86 #[iv p0_0, iv p0_1, iv p0_2, rv b1, iv (1 : Int32), iv (3 : Int32), rv b335, .unset] [(.int (0 : Int32)), (.int (3 : Int32)), (.int (1 : Int32)), (.ref b1), (.int (own_p31 (3 : Int32)))])) rfl (by rw [hml]; rfl) (argsL := [(.ref b1), (.int (1 : Int32)), (.int (3 : Int32)), (.int (0 : Int32))]) (rest := [(.int (own_p31 (3 : Int32)))]) (lenOf pd_6 rfl) rfl (by show 2 * 0 + _ ≤ _; exact Nat.le_of_eq rfl) (hb hby at_86) (fun _ _ => ⟨rfl, K349q, (by decide : 2 + 0 ≤ _), (by decide : 8 + 0 ≤ _)⟩)
      dsimp only [Pt.U, Pt.locs, Pt.cells, Pt.slots] at X353 l353 y353 z353 st353 hQ353
      rw [l353, y353, z353] at X353
      obtain ⟨rfl, N353q, K353q⟩ := hQ353
      have N354 := Fr.app N351 N353q
      obtain ⟨_, _, ⟨T355, L355, k355, n355⟩, -, X355, ⟨Lc355, hQ355, l355, y355, z355⟩, st355⟩ := Jvm.LawKit.callS X353 hx (y := MN6) hown (mvT hZ wo29) (mvT hZ wo30) (mvT hZ wo27) (mvT hZ wo31) (by decide) (backOf (W := 1) (rm_t2 l Z a0 hw [] b1 (1 : Int32) (3 : Int32) (1 : Int32) x0 x1 x2 x3 x4 (T345.heap) n0 f350 f352 (by first | decide | assumption | omega : (1 : Int32) < (3 : Int32)) (by first | decide | assumption | omega : ((1 : Int32) + (1 : Int32)) = (2 : Int32))) hZ wo31 wo27 (by decide) (by decide)) (g := (mkF m 96 #[iv p0_0, iv p0_1, iv p0_2, rv b1, iv (1 : Int32), iv (3 : Int32), rv b335, .unset] [(.int (1 : Int32)), (.int (3 : Int32)), (.int (1 : Int32)), (.ref b1), (.int ((own_p31 (3 : Int32)) + (x1 * (own_p31 (2 : Int32)))))])) rfl (by rw [hml]; rfl) (argsL := [(.ref b1), (.int (1 : Int32)), (.int (3 : Int32)), (.int (1 : Int32))]) (rest := [(.int ((own_p31 (3 : Int32)) + (x1 * (own_p31 (2 : Int32)))))]) (lenOf pd_6 rfl) rfl (by show 2 * 0 + _ ≤ _; exact Nat.le_of_eq rfl) (hb hby at_96) (fun _ _ => ⟨rfl, K353q, (by decide : 2 + 0 ≤ _), (by decide : 8 + 0 ≤ _)⟩)
      dsimp only [Pt.U, Pt.locs, Pt.cells, Pt.slots] at X355 l355 y355 z355 st355 hQ355
      rw [l355, y355, z355] at X355
      obtain ⟨rfl, N355q, K355q⟩ := hQ355
      have N356 := Fr.app N354 N355q
      obtain ⟨_, _, ⟨T357, L357, k357, n357⟩, -, X357, ⟨Lc357, hQ357, l357, y357, z357⟩, st357⟩ := Jvm.LawKit.callS X355 hx (y := MN6) hown (mvT hZ wo29) (mvT hZ wo30) (mvT hZ wo27) (mvT hZ wo31) (by decide) (backOf (W := 1) (rm_t3 l Z a0 hw [] b1 (1 : Int32) (3 : Int32) (2 : Int32) x0 x1 x2 x3 x4 (T345.heap) n0 f350 f352 (by first | decide | assumption | omega : (2 : Int32) < (3 : Int32)) (by first | decide | assumption | omega : ((1 : Int32) + (2 : Int32)) = (3 : Int32))) hZ wo31 wo27 (by decide) (by decide)) (g := (mkF m 106 #[iv p0_0, iv p0_1, iv p0_2, rv b1, iv (1 : Int32), iv (3 : Int32), rv b335, .unset] [(.int (2 : Int32)), (.int (3 : Int32)), (.int (1 : Int32)), (.ref b1), (.int (((own_p31 (3 : Int32)) + (x1 * (own_p31 (2 : Int32)))) + (x2 * (own_p31 (1 : Int32)))))])) rfl (by rw [hml]; rfl) (argsL := [(.ref b1), (.int (1 : Int32)), (.int (3 : Int32)), (.int (2 : Int32))]) (rest := [(.int (((own_p31 (3 : Int32)) + (x1 * (own_p31 (2 : Int32)))) + (x2 * (own_p31 (1 : Int32)))))]) (lenOf pd_6 rfl) rfl (by show 2 * 0 + _ ≤ _; exact Nat.le_of_eq rfl) (hb hby at_106) (fun _ _ => ⟨rfl, K355q, (by decide : 2 + 0 ≤ _), (by decide : 8 + 0 ≤ _)⟩)
      dsimp only [Pt.U, Pt.locs, Pt.cells, Pt.slots] at X357 l357 y357 z357 st357 hQ357
      rw [l357, y357, z357] at X357
      obtain ⟨rfl, N357q, K357q⟩ := hQ357
      have N358 := Fr.app N356 N357q
      obtain ⟨_, _, ⟨T359, L359, k359, n359⟩, -, X359, ⟨Lc359, hQ359, l359, y359, z359⟩, st359⟩ := Jvm.LawKit.callS X357 hx (y := MN6) hown (mvT hZ wo29) (mvT hZ wo30) (mvT hZ wo27) (mvT hZ wo31) (by decide) (backOf (W := 1) (rm_t l Z a0 hw [] b1 (1 : Int32) (3 : Int32) (3 : Int32) (T345.heap) n0 f350 (by first | decide | assumption | omega : ¬ ((3 : Int32) < (3 : Int32)))) hZ wo31 wo27 (by decide) (by decide)) (g := (mkF m 116 #[iv p0_0, iv p0_1, iv p0_2, rv b1, iv (1 : Int32), iv (3 : Int32), rv b335, .unset] [(.int (3 : Int32)), (.int (3 : Int32)), (.int (1 : Int32)), (.ref b1), (.int ((((own_p31 (3 : Int32)) + (x1 * (own_p31 (2 : Int32)))) + (x2 * (own_p31 (1 : Int32)))) + (x3 * (own_p31 (0 : Int32)))))])) rfl (by rw [hml]; rfl) (argsL := [(.ref b1), (.int (1 : Int32)), (.int (3 : Int32)), (.int (3 : Int32))]) (rest := [(.int ((((own_p31 (3 : Int32)) + (x1 * (own_p31 (2 : Int32)))) + (x2 * (own_p31 (1 : Int32)))) + (x3 * (own_p31 (0 : Int32)))))]) (lenOf pd_6 rfl) rfl (by show 2 * 0 + _ ≤ _; exact Nat.le_of_eq rfl) (hb hby at_116) (fun _ _ => ⟨rfl, K357q, (by decide : 2 + 0 ≤ _), (by decide : 8 + 0 ≤ _)⟩)
      dsimp only [Pt.U, Pt.locs, Pt.cells, Pt.slots] at X359 l359 y359 z359 st359 hQ359
      rw [l359, y359, z359] at X359
      obtain ⟨rfl, N359q, K359q⟩ := hQ359
      have N360 := Fr.app N358 N359q
      obtain ⟨_, _, ⟨T361, L361, k361, n361⟩, -, X361, ⟨Lc361, hQ361, l361, y361, z361⟩, st361⟩ := Jvm.LawKit.callS X359 hx (y := MN6) hown (mvT hZ wo29) (mvT hZ wo30) (mvT hZ wo27) (mvT hZ wo31) (by decide) (backOf (W := 1) (rm_t l Z a0 hw [] b1 (1 : Int32) (3 : Int32) (4 : Int32) (T345.heap) n0 f350 (by first | decide | assumption | omega : ¬ ((4 : Int32) < (3 : Int32)))) hZ wo31 wo27 (by decide) (by decide)) (g := (mkF m 126 #[iv p0_0, iv p0_1, iv p0_2, rv b1, iv (1 : Int32), iv (3 : Int32), rv b335, .unset] [(.int (4 : Int32)), (.int (3 : Int32)), (.int (1 : Int32)), (.ref b1), (.int (((((own_p31 (3 : Int32)) + (x1 * (own_p31 (2 : Int32)))) + (x2 * (own_p31 (1 : Int32)))) + (x3 * (own_p31 (0 : Int32)))) + (0 : Int32)))])) rfl (by rw [hml]; rfl) (argsL := [(.ref b1), (.int (1 : Int32)), (.int (3 : Int32)), (.int (4 : Int32))]) (rest := [(.int (((((own_p31 (3 : Int32)) + (x1 * (own_p31 (2 : Int32)))) + (x2 * (own_p31 (1 : Int32)))) + (x3 * (own_p31 (0 : Int32)))) + (0 : Int32)))]) (lenOf pd_6 rfl) rfl (by show 2 * 0 + _ ≤ _; exact Nat.le_of_eq rfl) (hb hby at_126) (fun _ _ => ⟨rfl, K359q, (by decide : 2 + 0 ≤ _), (by decide : 8 + 0 ≤ _)⟩)
      dsimp only [Pt.U, Pt.locs, Pt.cells, Pt.slots] at X361 l361 y361 z361 st361 hQ361
      rw [l361, y361, z361] at X361
      obtain ⟨rfl, N361q, K361q⟩ := hQ361
      have N362 := Fr.app N360 N361q
      have f364 := (A335.keep K345q)
      obtain ⟨cq363, kq363, q363a, q363b, q363c⟩ := isOf hZ K361q f364
      obtain ⟨_, _, ⟨T363, L363, k363, n363⟩, -, X363, ⟨Lc363, hQ363, l363, y363, z363⟩, st363⟩ := X361.virtualBack hx (y := MN7) (z := MN7) hown (mvT hZ wo32) (mvT hZ wo33) (notFace_of_selects (args := #[]) (mvT hZ wo35)) (mvT hZ wo35) (mvT hZ wo34) (by decide) (backOf (W := 0) (rm_h1_3 l Z a0 hw [] b335 b1 x0 x1 x2 x3 x4 (T345.heap) n0 f350 hq345_0 hq345_1 hq345_2 f352) hZ wo36 wo4 (by decide) (by decide)) q363a q363c (g := (mkF m 134 #[iv p0_0, iv p0_1, iv p0_2, rv b1, iv (1 : Int32), iv (3 : Int32), rv b335, iv ((((((own_p31 (3 : Int32)) + (x1 * (own_p31 (2 : Int32)))) + (x2 * (own_p31 (1 : Int32)))) + (x3 * (own_p31 (0 : Int32)))) + (0 : Int32)) + (0 : Int32))] [(.ref b335)])) rfl (by rw [hml]; rfl) (Steps.refl _) (argsL := []) (rest := []) (lenOf pd_0 rfl) rfl (by show 2 * 0 + _ ≤ _; exact Nat.le_of_eq rfl) (hb hby at_134) (fun _ _ => ⟨rfl, K361q, (by decide : 2 + 0 ≤ _), (by decide : 8 + 0 ≤ _)⟩)
      dsimp only [Pt.U, Pt.locs, Pt.cells, Pt.slots] at X363 l363 y363 z363 st363 hQ363
      rw [l363, y363, z363] at X363
      obtain ⟨rfl, N363q, K363q⟩ := hQ363
      have N365 := Fr.app N362 N363q
      have hc366 : (((31 : Int32) * (((31 : Int32) * ((31 : Int32) + x1)) + x2)) + x3) = ((((((own_p31 (3 : Int32)) + (x1 * (own_p31 (2 : Int32)))) + (x2 * (own_p31 (1 : Int32)))) + (x3 * (own_p31 (0 : Int32)))) + (0 : Int32)) + (0 : Int32)) := (by simp only [own_q0, own_q1, own_q2, own_q3, own_q4, own_q5]; first | rfl | grind)
      obtain ⟨fs, hr, hrun, hended, hW, hsame⟩ := X363.leave (v := some (.int (1 : Int32))) (fun h => by rw [Bd.returns] at h; cases h)
      refine ⟨_, _, pre237 _ ?_, hrun, hended, _, _, rfl, ?_, ⟨_, rfl⟩, hW, hsame.mono (by decide) (by decide)⟩
      · show Steps p.tables e below (T32.setTop (mkF m 61 #[iv p0_0, iv p0_1, iv p0_2, rv b1, iv (1 : Int32), iv (3 : Int32), .unset, .unset] [])) _
        refine st335 _ ?_
        show Steps p.tables e below (T335.setTop (mkF m 64 #[iv p0_0, iv p0_1, iv p0_2, rv b1, iv (1 : Int32), iv (3 : Int32), .unset, .unset] [(.ref b335)])) _
        refine XS.dup X335.here hx rfl (hb hby at_64) rfl rfl ?_
        refine XS.aloadN X335.here hx rfl (hb hby at_65) rfl rfl ?_
        show Steps p.tables e below (T335.setTop (mkF m 66 #[iv p0_0, iv p0_1, iv p0_2, rv b1, iv (1 : Int32), iv (3 : Int32), .unset, .unset] [(.ref b1), (.ref b335), (.ref b335)])) _
        refine XS.iload X335.here hx rfl (hb hby at_66) rfl ?_
        refine XS.iload X335.here hx rfl (hb hby at_68) rfl ?_
        show Steps p.tables e below (T335.setTop (mkF m 70 #[iv p0_0, iv p0_1, iv p0_2, rv b1, iv (1 : Int32), iv (3 : Int32), .unset, .unset] [(.int (3 : Int32)), (.int (1 : Int32)), (.ref b1), (.ref b335), (.ref b335)])) _
        refine st345.trans ?_
        show Steps p.tables e below (T345.setTop (mkF m 73 #[iv p0_0, iv p0_1, iv p0_2, rv b1, iv (1 : Int32), iv (3 : Int32), .unset, .unset] [(.ref b335)])) _
        refine XS.astore X345.here hx rfl (hb hby at_73) rfl rfl (l' := #[iv p0_0, iv p0_1, iv p0_2, rv b1, iv (1 : Int32), iv (3 : Int32), rv b335, .unset]) rfl ?_
        show Steps p.tables e below (T345.setTop (mkF m 75 #[iv p0_0, iv p0_1, iv p0_2, rv b1, iv (1 : Int32), iv (3 : Int32), rv b335, .unset] [])) _
        refine XS.iload X345.here hx rfl (hb hby at_75) rfl ?_
        show Steps p.tables e below (T345.setTop (mkF m 77 #[iv p0_0, iv p0_1, iv p0_2, rv b1, iv (1 : Int32), iv (3 : Int32), rv b335, .unset] [(.int (3 : Int32))])) _
        refine st349 _ ?_
        show Steps p.tables e below (T349.setTop (mkF m 80 #[iv p0_0, iv p0_1, iv p0_2, rv b1, iv (1 : Int32), iv (3 : Int32), rv b335, .unset] [(.int (own_p31 (3 : Int32)))])) _
        refine XS.aloadN X349.here hx rfl (hb hby at_80) rfl rfl ?_
        refine XS.iload X349.here hx rfl (hb hby at_81) rfl ?_
        show Steps p.tables e below (T349.setTop (mkF m 83 #[iv p0_0, iv p0_1, iv p0_2, rv b1, iv (1 : Int32), iv (3 : Int32), rv b335, .unset] [(.int (1 : Int32)), (.ref b1), (.int (own_p31 (3 : Int32)))])) _
        refine XS.iload X349.here hx rfl (hb hby at_83) rfl ?_
        refine XS.iconst X349.here hx rfl (hb hby at_85) ?_
        show Steps p.tables e below (T349.setTop (mkF m 86 #[iv p0_0, iv p0_1, iv p0_2, rv b1, iv (1 : Int32), iv (3 : Int32), rv b335, .unset] [(.int (0 : Int32)), (.int (3 : Int32)), (.int (1 : Int32)), (.ref b1), (.int (own_p31 (3 : Int32)))])) _
        refine st353 _ ?_
        show Steps p.tables e below (T353.setTop (mkF m 89 #[iv p0_0, iv p0_1, iv p0_2, rv b1, iv (1 : Int32), iv (3 : Int32), rv b335, .unset] [(.int (x1 * (own_p31 (2 : Int32)))), (.int (own_p31 (3 : Int32)))])) _
        refine XS.iadd X353.here hx rfl (hb hby at_89) rfl ?_
        show Steps p.tables e below (T353.setTop (mkF m 90 #[iv p0_0, iv p0_1, iv p0_2, rv b1, iv (1 : Int32), iv (3 : Int32), rv b335, .unset] [(.int ((own_p31 (3 : Int32)) + (x1 * (own_p31 (2 : Int32)))))])) _
        refine XS.aloadN X353.here hx rfl (hb hby at_90) rfl rfl ?_
        refine XS.iload X353.here hx rfl (hb hby at_91) rfl ?_
        refine XS.iload X353.here hx rfl (hb hby at_93) rfl ?_
        refine XS.iconst X353.here hx rfl (hb hby at_95) ?_
        show Steps p.tables e below (T353.setTop (mkF m 96 #[iv p0_0, iv p0_1, iv p0_2, rv b1, iv (1 : Int32), iv (3 : Int32), rv b335, .unset] [(.int (1 : Int32)), (.int (3 : Int32)), (.int (1 : Int32)), (.ref b1), (.int ((own_p31 (3 : Int32)) + (x1 * (own_p31 (2 : Int32)))))])) _
        refine st355 _ ?_
        show Steps p.tables e below (T355.setTop (mkF m 99 #[iv p0_0, iv p0_1, iv p0_2, rv b1, iv (1 : Int32), iv (3 : Int32), rv b335, .unset] [(.int (x2 * (own_p31 (1 : Int32)))), (.int ((own_p31 (3 : Int32)) + (x1 * (own_p31 (2 : Int32)))))])) _
        refine XS.iadd X355.here hx rfl (hb hby at_99) rfl ?_
        refine XS.aloadN X355.here hx rfl (hb hby at_100) rfl rfl ?_
        refine XS.iload X355.here hx rfl (hb hby at_101) rfl ?_
        show Steps p.tables e below (T355.setTop (mkF m 103 #[iv p0_0, iv p0_1, iv p0_2, rv b1, iv (1 : Int32), iv (3 : Int32), rv b335, .unset] [(.int (1 : Int32)), (.ref b1), (.int (((own_p31 (3 : Int32)) + (x1 * (own_p31 (2 : Int32)))) + (x2 * (own_p31 (1 : Int32)))))])) _
        refine XS.iload X355.here hx rfl (hb hby at_103) rfl ?_
        refine XS.iconst X355.here hx rfl (hb hby at_105) ?_
        show Steps p.tables e below (T355.setTop (mkF m 106 #[iv p0_0, iv p0_1, iv p0_2, rv b1, iv (1 : Int32), iv (3 : Int32), rv b335, .unset] [(.int (2 : Int32)), (.int (3 : Int32)), (.int (1 : Int32)), (.ref b1), (.int (((own_p31 (3 : Int32)) + (x1 * (own_p31 (2 : Int32)))) + (x2 * (own_p31 (1 : Int32)))))])) _
        refine st357 _ ?_
        show Steps p.tables e below (T357.setTop (mkF m 109 #[iv p0_0, iv p0_1, iv p0_2, rv b1, iv (1 : Int32), iv (3 : Int32), rv b335, .unset] [(.int (x3 * (own_p31 (0 : Int32)))), (.int (((own_p31 (3 : Int32)) + (x1 * (own_p31 (2 : Int32)))) + (x2 * (own_p31 (1 : Int32)))))])) _
        refine XS.iadd X357.here hx rfl (hb hby at_109) rfl ?_
        show Steps p.tables e below (T357.setTop (mkF m 110 #[iv p0_0, iv p0_1, iv p0_2, rv b1, iv (1 : Int32), iv (3 : Int32), rv b335, .unset] [(.int ((((own_p31 (3 : Int32)) + (x1 * (own_p31 (2 : Int32)))) + (x2 * (own_p31 (1 : Int32)))) + (x3 * (own_p31 (0 : Int32)))))])) _
        refine XS.aloadN X357.here hx rfl (hb hby at_110) rfl rfl ?_
        refine XS.iload X357.here hx rfl (hb hby at_111) rfl ?_
        refine XS.iload X357.here hx rfl (hb hby at_113) rfl ?_
        refine XS.iconst X357.here hx rfl (hb hby at_115) ?_
        show Steps p.tables e below (T357.setTop (mkF m 116 #[iv p0_0, iv p0_1, iv p0_2, rv b1, iv (1 : Int32), iv (3 : Int32), rv b335, .unset] [(.int (3 : Int32)), (.int (3 : Int32)), (.int (1 : Int32)), (.ref b1), (.int ((((own_p31 (3 : Int32)) + (x1 * (own_p31 (2 : Int32)))) + (x2 * (own_p31 (1 : Int32)))) + (x3 * (own_p31 (0 : Int32)))))])) _
        refine st359 _ ?_
        show Steps p.tables e below (T359.setTop (mkF m 119 #[iv p0_0, iv p0_1, iv p0_2, rv b1, iv (1 : Int32), iv (3 : Int32), rv b335, .unset] [(.int (0 : Int32)), (.int ((((own_p31 (3 : Int32)) + (x1 * (own_p31 (2 : Int32)))) + (x2 * (own_p31 (1 : Int32)))) + (x3 * (own_p31 (0 : Int32)))))])) _
        refine XS.iadd X359.here hx rfl (hb hby at_119) rfl ?_
        refine XS.aloadN X359.here hx rfl (hb hby at_120) rfl rfl ?_
        refine XS.iload X359.here hx rfl (hb hby at_121) rfl ?_
        show Steps p.tables e below (T359.setTop (mkF m 123 #[iv p0_0, iv p0_1, iv p0_2, rv b1, iv (1 : Int32), iv (3 : Int32), rv b335, .unset] [(.int (1 : Int32)), (.ref b1), (.int (((((own_p31 (3 : Int32)) + (x1 * (own_p31 (2 : Int32)))) + (x2 * (own_p31 (1 : Int32)))) + (x3 * (own_p31 (0 : Int32)))) + (0 : Int32)))])) _
        refine XS.iload X359.here hx rfl (hb hby at_123) rfl ?_
        refine XS.iconst X359.here hx rfl (hb hby at_125) ?_
        show Steps p.tables e below (T359.setTop (mkF m 126 #[iv p0_0, iv p0_1, iv p0_2, rv b1, iv (1 : Int32), iv (3 : Int32), rv b335, .unset] [(.int (4 : Int32)), (.int (3 : Int32)), (.int (1 : Int32)), (.ref b1), (.int (((((own_p31 (3 : Int32)) + (x1 * (own_p31 (2 : Int32)))) + (x2 * (own_p31 (1 : Int32)))) + (x3 * (own_p31 (0 : Int32)))) + (0 : Int32)))])) _
        refine st361 _ ?_
        show Steps p.tables e below (T361.setTop (mkF m 129 #[iv p0_0, iv p0_1, iv p0_2, rv b1, iv (1 : Int32), iv (3 : Int32), rv b335, .unset] [(.int (0 : Int32)), (.int (((((own_p31 (3 : Int32)) + (x1 * (own_p31 (2 : Int32)))) + (x2 * (own_p31 (1 : Int32)))) + (x3 * (own_p31 (0 : Int32)))) + (0 : Int32)))])) _
        refine XS.iadd X361.here hx rfl (hb hby at_129) rfl ?_
        show Steps p.tables e below (T361.setTop (mkF m 130 #[iv p0_0, iv p0_1, iv p0_2, rv b1, iv (1 : Int32), iv (3 : Int32), rv b335, .unset] [(.int ((((((own_p31 (3 : Int32)) + (x1 * (own_p31 (2 : Int32)))) + (x2 * (own_p31 (1 : Int32)))) + (x3 * (own_p31 (0 : Int32)))) + (0 : Int32)) + (0 : Int32)))])) _
        refine XS.istore X361.here hx rfl (hb hby at_130) rfl (l' := #[iv p0_0, iv p0_1, iv p0_2, rv b1, iv (1 : Int32), iv (3 : Int32), rv b335, iv ((((((own_p31 (3 : Int32)) + (x1 * (own_p31 (2 : Int32)))) + (x2 * (own_p31 (1 : Int32)))) + (x3 * (own_p31 (0 : Int32)))) + (0 : Int32)) + (0 : Int32))]) rfl ?_
        refine XS.aload X361.here hx rfl (hb hby at_132) rfl rfl ?_
        show Steps p.tables e below (T361.setTop (mkF m 134 #[iv p0_0, iv p0_1, iv p0_2, rv b1, iv (1 : Int32), iv (3 : Int32), rv b335, iv ((((((own_p31 (3 : Int32)) + (x1 * (own_p31 (2 : Int32)))) + (x2 * (own_p31 (1 : Int32)))) + (x3 * (own_p31 (0 : Int32)))) + (0 : Int32)) + (0 : Int32))] [(.ref b335)])) _
        refine st363.trans ?_
        show Steps p.tables e below (T363.setTop (mkF m 137 #[iv p0_0, iv p0_1, iv p0_2, rv b1, iv (1 : Int32), iv (3 : Int32), rv b335, iv ((((((own_p31 (3 : Int32)) + (x1 * (own_p31 (2 : Int32)))) + (x2 * (own_p31 (1 : Int32)))) + (x3 * (own_p31 (0 : Int32)))) + (0 : Int32)) + (0 : Int32))] [(.int (((31 : Int32) * (((31 : Int32) * ((31 : Int32) + x1)) + x2)) + x3))])) _
        refine XS.iload X363.here hx rfl (hb hby at_137) rfl ?_
        show Steps p.tables e below (T363.setTop (mkF m 139 #[iv p0_0, iv p0_1, iv p0_2, rv b1, iv (1 : Int32), iv (3 : Int32), rv b335, iv ((((((own_p31 (3 : Int32)) + (x1 * (own_p31 (2 : Int32)))) + (x2 * (own_p31 (1 : Int32)))) + (x3 * (own_p31 (0 : Int32)))) + (0 : Int32)) + (0 : Int32))] [(.int ((((((own_p31 (3 : Int32)) + (x1 * (own_p31 (2 : Int32)))) + (x2 * (own_p31 (1 : Int32)))) + (x3 * (own_p31 (0 : Int32)))) + (0 : Int32)) + (0 : Int32))), (.int (((31 : Int32) * (((31 : Int32) * ((31 : Int32) + x1)) + x2)) + x3))])) _
        refine XS.icmpNo X363.here hx rfl (hb hby at_139) rfl (teq hc366).2 ?_
        refine XS.iconst X363.here hx rfl (hb hby at_142) ?_
        refine XS.goto X363.here hx rfl (pc0 := 143) (pc' := 147) rfl (hb hby at_143) (by decide) (by decide) ?_
        show Steps p.tables e below (T363.setTop (mkF m 147 #[iv p0_0, iv p0_1, iv p0_2, rv b1, iv (1 : Int32), iv (3 : Int32), rv b335, iv ((((((own_p31 (3 : Int32)) + (x1 * (own_p31 (2 : Int32)))) + (x2 * (own_p31 (1 : Int32)))) + (x3 * (own_p31 (0 : Int32)))) + (0 : Int32)) + (0 : Int32))] [(.int (1 : Int32))])) _
        exact retN X363 hx (t := .boolean) Bd.returns (by simp) (hb hby at_147) hr
      · show Q_rm0 Z _ _ _ h0 n0 _ T363.heap _
        rw [K363q]
        exact ⟨rfl, N365, (K348)⟩
    · skip
      obtain ⟨T367, h367, X367, e367, E367, A367, D367, -, st367⟩ := newO X32 hx hZ hown wo2 wo3 wo4 e32 (g := (mkF m 61 #[iv p0_0, iv p0_1, iv p0_2, rv b1, iv (1 : Int32), iv (4 : Int32), .unset, .unset] [])) rfl (hb hby at_61) (by decide) (by decide)
      obtain ⟨b367, gg367⟩ : ∃ z, z = h32.size := ⟨_, rfl⟩
      rw [← gg367] at A367 D367 st367
      have ne368 : b1 ≠ b367 := Nat.ne_of_lt (Nat.lt_of_lt_of_le f40.lt (Nat.le_of_eq gg367.symm))
      have f370 := (Nat.le_trans (Nat.le_trans (Nat.le_trans (Nat.le_trans (Nat.le_trans (Nat.le_trans Z0 E1.1) (Keep.of_wr W8).1) (Keep.of_wr W14).1) (Keep.of_wr W20).1) (Keep.of_wr W26).1) (Keep.of_wr W32).1)
      have g369 : n0 ≤ b367 := Nat.le_trans f370 (Nat.le_of_eq gg367.symm)
      have bz371 : h0.size ≤ b367 := Nat.le_trans (K33).1 (Nat.le_of_eq gg367.symm)
      have K372 : Keep h0 h367 [] := (K33).ext E367
      have f373 : Fld Z h367 b367 "com/example/tailwake/tailwake/source/mariadb/Slice" "array" "[B" .null := D367 (Or.inr wo20) (ty := (.array .byte)) (by decide)
      have f374 : Fld Z h367 b367 "com/example/tailwake/tailwake/source/mariadb/Slice" "offset" "I" (.int (0 : Int32)) := D367 (Or.inr wo22) (ty := .int) (by decide)
      have f375 : Fld Z h367 b367 "com/example/tailwake/tailwake/source/mariadb/Slice" "length" "I" (.int (0 : Int32)) := D367 (Or.inr wo24) (ty := .int) (by decide)
      have f376 := (f40.ext E367)
      have f378 := (Nat.le_trans f370 E367.1)
      obtain ⟨_, _, ⟨T377, L377, k377, n377⟩, -, X377, ⟨Lc377, hQ377, l377, y377, z377⟩, st377⟩ := X367.specialBack hx (y := MN1) rfl hown (mvT hZ wo5) (mvT hZ wo6) (mvT hZ wo7) (by decide) (backOf (W := 1) (rm1 l Z a0 hw [] b367 b1 (1 : Int32) (4 : Int32) h367 n0 f378 A367 g369 f373 f374 f375 f376.al (by first | decide | assumption | omega : ¬ ((((5 : Int32) ||| (1 : Int32)) ||| (4 : Int32)) < (0 : Int32))) (by first | decide | assumption | omega : ¬ (((5 : Int32) - (1 : Int32)) < (4 : Int32)))) hZ wo7 wo4 (by decide) (by decide)) (g := (mkF m 70 #[iv p0_0, iv p0_1, iv p0_2, rv b1, iv (1 : Int32), iv (4 : Int32), .unset, .unset] [(.int (4 : Int32)), (.int (1 : Int32)), (.ref b1), (.ref b367), (.ref b367)])) rfl (by rw [hml]; rfl) (Steps.refl _) (a := b367) (argsL := [(.ref b1), (.int (1 : Int32)), (.int (4 : Int32))]) (rest := [(.ref b367)]) (lenOf pd_5 rfl) rfl (by show 2 * 0 + _ ≤ _; exact Nat.le_of_eq rfl) (hb hby at_70) (fun _ _ => ⟨rfl, e367, (by decide : 2 + 0 ≤ _), (by decide : 8 + 0 ≤ _)⟩)
      dsimp only [Pt.U, Pt.locs, Pt.cells, Pt.slots] at X377 l377 y377 z377 st377 hQ377
      rw [l377, y377, z377] at X377
      obtain ⟨rfl, N377q, K377q, hq377_0, hq377_1, hq377_2⟩ := hQ377
      have N379 := Fr.app N35 N377q
      have K380 : Keep h0 T377.heap [] := (K372).trans K377q (allS (P := fun x => x ∈ [] ∨ h0.size ≤ x) (Or.inr bz371) all0)
      have f382 := (Nat.le_trans f378 K377q.1)
      obtain ⟨_, _, ⟨T381, L381, k381, n381⟩, -, X381, ⟨Lc381, hQ381, l381, y381, z381⟩, st381⟩ := Jvm.LawKit.callS X377 hx (y := MN5) hown (mvT hZ wo25) (mvT hZ wo26) (mvT hZ wo27) (mvT hZ wo28) (by decide) (backOf (W := 0) (rm5 l Z a0 hw [] (4 : Int32) (T377.heap) n0 f382 ) hZ wo28 wo27 (by decide) (by decide)) (g := (mkF m 77 #[iv p0_0, iv p0_1, iv p0_2, rv b1, iv (1 : Int32), iv (4 : Int32), rv b367, .unset] [(.int (4 : Int32))])) rfl (by rw [hml]; rfl) (argsL := [(.int (4 : Int32))]) (rest := []) (lenOf pd_2 rfl) rfl (by show 2 * 0 + _ ≤ _; exact Nat.le_of_eq rfl) (hb hby at_77) (fun _ _ => ⟨rfl, rfl, (by decide : 2 + 0 ≤ _), (by decide : 8 + 0 ≤ _)⟩)
      dsimp only [Pt.U, Pt.locs, Pt.cells, Pt.slots] at X381 l381 y381 z381 st381 hQ381
      rw [l381, y381, z381] at X381
      obtain ⟨rfl, N381q, K381q⟩ := hQ381
      have N383 := Fr.app N379 N381q
      have f384 := (f376.keep K377q (ninS ne368 nin0))
      obtain ⟨_, _, ⟨T385, L385, k385, n385⟩, -, X385, ⟨Lc385, hQ385, l385, y385, z385⟩, st385⟩ := Jvm.LawKit.callS X381 hx (y := MN6) hown (mvT hZ wo29) (mvT hZ wo30) (mvT hZ wo27) (mvT hZ wo31) (by decide) (backOf (W := 1) (rm_t1 l Z a0 hw [] b1 (1 : Int32) (4 : Int32) (0 : Int32) x0 x1 x2 x3 x4 (T377.heap) n0 f382 f384 (by first | decide | assumption | omega : (0 : Int32) < (4 : Int32)) (by first | decide | assumption | omega : ((1 : Int32) + (0 : Int32)) = (1 : Int32))) hZ wo31 wo27 (by decide) (by decide)) (g := (mkF m 86 #[iv p0_0, iv p0_1, iv p0_2, rv b1, iv (1 : Int32), iv (4 : Int32), rv b367, .unset] [(.int (0 : Int32)), (.int (4 : Int32)), (.int (1 : Int32)), (.ref b1), (.int (own_p31 (4 : Int32)))])) rfl (by rw [hml]; rfl) (argsL := [(.ref b1), (.int (1 : Int32)), (.int (4 : Int32)), (.int (0 : Int32))]) (rest := [(.int (own_p31 (4 : Int32)))]) (lenOf pd_6 rfl) rfl (by show 2 * 0 + _ ≤ _; exact Nat.le_of_eq rfl) (hb hby at_86) (fun _ _ => ⟨rfl, K381q, (by decide : 2 + 0 ≤ _), (by decide : 8 + 0 ≤ _)⟩)
      dsimp only [Pt.U, Pt.locs, Pt.cells, Pt.slots] at X385 l385 y385 z385 st385 hQ385
      rw [l385, y385, z385] at X385
      obtain ⟨rfl, N385q, K385q⟩ := hQ385
      have N386 := Fr.app N383 N385q
      obtain ⟨_, _, ⟨T387, L387, k387, n387⟩, -, X387, ⟨Lc387, hQ387, l387, y387, z387⟩, st387⟩ := Jvm.LawKit.callS X385 hx (y := MN6) hown (mvT hZ wo29) (mvT hZ wo30) (mvT hZ wo27) (mvT hZ wo31) (by decide) (backOf (W := 1) (rm_t2 l Z a0 hw [] b1 (1 : Int32) (4 : Int32) (1 : Int32) x0 x1 x2 x3 x4 (T377.heap) n0 f382 f384 (by first | decide | assumption | omega : (1 : Int32) < (4 : Int32)) (by first | decide | assumption | omega : ((1 : Int32) + (1 : Int32)) = (2 : Int32))) hZ wo31 wo27 (by decide) (by decide)) (g := (mkF m 96 #[iv p0_0, iv p0_1, iv p0_2, rv b1, iv (1 : Int32), iv (4 : Int32), rv b367, .unset] [(.int (1 : Int32)), (.int (4 : Int32)), (.int (1 : Int32)), (.ref b1), (.int ((own_p31 (4 : Int32)) + (x1 * (own_p31 (3 : Int32)))))])) rfl (by rw [hml]; rfl) (argsL := [(.ref b1), (.int (1 : Int32)), (.int (4 : Int32)), (.int (1 : Int32))]) (rest := [(.int ((own_p31 (4 : Int32)) + (x1 * (own_p31 (3 : Int32)))))]) (lenOf pd_6 rfl) rfl (by show 2 * 0 + _ ≤ _; exact Nat.le_of_eq rfl) (hb hby at_96) (fun _ _ => ⟨rfl, K385q, (by decide : 2 + 0 ≤ _), (by decide : 8 + 0 ≤ _)⟩)
      dsimp only [Pt.U, Pt.locs, Pt.cells, Pt.slots] at X387 l387 y387 z387 st387 hQ387
      rw [l387, y387, z387] at X387
      obtain ⟨rfl, N387q, K387q⟩ := hQ387
      have N388 := Fr.app N386 N387q
      obtain ⟨_, _, ⟨T389, L389, k389, n389⟩, -, X389, ⟨Lc389, hQ389, l389, y389, z389⟩, st389⟩ := Jvm.LawKit.callS X387 hx (y := MN6) hown (mvT hZ wo29) (mvT hZ wo30) (mvT hZ wo27) (mvT hZ wo31) (by decide) (backOf (W := 1) (rm_t3 l Z a0 hw [] b1 (1 : Int32) (4 : Int32) (2 : Int32) x0 x1 x2 x3 x4 (T377.heap) n0 f382 f384 (by first | decide | assumption | omega : (2 : Int32) < (4 : Int32)) (by first | decide | assumption | omega : ((1 : Int32) + (2 : Int32)) = (3 : Int32))) hZ wo31 wo27 (by decide) (by decide)) (g := (mkF m 106 #[iv p0_0, iv p0_1, iv p0_2, rv b1, iv (1 : Int32), iv (4 : Int32), rv b367, .unset] [(.int (2 : Int32)), (.int (4 : Int32)), (.int (1 : Int32)), (.ref b1), (.int (((own_p31 (4 : Int32)) + (x1 * (own_p31 (3 : Int32)))) + (x2 * (own_p31 (2 : Int32)))))])) rfl (by rw [hml]; rfl) (argsL := [(.ref b1), (.int (1 : Int32)), (.int (4 : Int32)), (.int (2 : Int32))]) (rest := [(.int (((own_p31 (4 : Int32)) + (x1 * (own_p31 (3 : Int32)))) + (x2 * (own_p31 (2 : Int32)))))]) (lenOf pd_6 rfl) rfl (by show 2 * 0 + _ ≤ _; exact Nat.le_of_eq rfl) (hb hby at_106) (fun _ _ => ⟨rfl, K387q, (by decide : 2 + 0 ≤ _), (by decide : 8 + 0 ≤ _)⟩)
      dsimp only [Pt.U, Pt.locs, Pt.cells, Pt.slots] at X389 l389 y389 z389 st389 hQ389
      rw [l389, y389, z389] at X389
      obtain ⟨rfl, N389q, K389q⟩ := hQ389
      have N390 := Fr.app N388 N389q
      obtain ⟨_, _, ⟨T391, L391, k391, n391⟩, -, X391, ⟨Lc391, hQ391, l391, y391, z391⟩, st391⟩ := Jvm.LawKit.callS X389 hx (y := MN6) hown (mvT hZ wo29) (mvT hZ wo30) (mvT hZ wo27) (mvT hZ wo31) (by decide) (backOf (W := 1) (rm_t4 l Z a0 hw [] b1 (1 : Int32) (4 : Int32) (3 : Int32) x0 x1 x2 x3 x4 (T377.heap) n0 f382 f384 (by first | decide | assumption | omega : (3 : Int32) < (4 : Int32)) (by first | decide | assumption | omega : ((1 : Int32) + (3 : Int32)) = (4 : Int32))) hZ wo31 wo27 (by decide) (by decide)) (g := (mkF m 116 #[iv p0_0, iv p0_1, iv p0_2, rv b1, iv (1 : Int32), iv (4 : Int32), rv b367, .unset] [(.int (3 : Int32)), (.int (4 : Int32)), (.int (1 : Int32)), (.ref b1), (.int ((((own_p31 (4 : Int32)) + (x1 * (own_p31 (3 : Int32)))) + (x2 * (own_p31 (2 : Int32)))) + (x3 * (own_p31 (1 : Int32)))))])) rfl (by rw [hml]; rfl) (argsL := [(.ref b1), (.int (1 : Int32)), (.int (4 : Int32)), (.int (3 : Int32))]) (rest := [(.int ((((own_p31 (4 : Int32)) + (x1 * (own_p31 (3 : Int32)))) + (x2 * (own_p31 (2 : Int32)))) + (x3 * (own_p31 (1 : Int32)))))]) (lenOf pd_6 rfl) rfl (by show 2 * 0 + _ ≤ _; exact Nat.le_of_eq rfl) (hb hby at_116) (fun _ _ => ⟨rfl, K389q, (by decide : 2 + 0 ≤ _), (by decide : 8 + 0 ≤ _)⟩)
      dsimp only [Pt.U, Pt.locs, Pt.cells, Pt.slots] at X391 l391 y391 z391 st391 hQ391
      rw [l391, y391, z391] at X391
      obtain ⟨rfl, N391q, K391q⟩ := hQ391
      have N392 := Fr.app N390 N391q
      obtain ⟨_, _, ⟨T393, L393, k393, n393⟩, -, X393, ⟨Lc393, hQ393, l393, y393, z393⟩, st393⟩ := Jvm.LawKit.callS X391 hx (y := MN6) hown (mvT hZ wo29) (mvT hZ wo30) (mvT hZ wo27) (mvT hZ wo31) (by decide) (backOf (W := 1) (rm_t l Z a0 hw [] b1 (1 : Int32) (4 : Int32) (4 : Int32) (T377.heap) n0 f382 (by first | decide | assumption | omega : ¬ ((4 : Int32) < (4 : Int32)))) hZ wo31 wo27 (by decide) (by decide)) (g := (mkF m 126 #[iv p0_0, iv p0_1, iv p0_2, rv b1, iv (1 : Int32), iv (4 : Int32), rv b367, .unset] [(.int (4 : Int32)), (.int (4 : Int32)), (.int (1 : Int32)), (.ref b1), (.int (((((own_p31 (4 : Int32)) + (x1 * (own_p31 (3 : Int32)))) + (x2 * (own_p31 (2 : Int32)))) + (x3 * (own_p31 (1 : Int32)))) + (x4 * (own_p31 (0 : Int32)))))])) rfl (by rw [hml]; rfl) (argsL := [(.ref b1), (.int (1 : Int32)), (.int (4 : Int32)), (.int (4 : Int32))]) (rest := [(.int (((((own_p31 (4 : Int32)) + (x1 * (own_p31 (3 : Int32)))) + (x2 * (own_p31 (2 : Int32)))) + (x3 * (own_p31 (1 : Int32)))) + (x4 * (own_p31 (0 : Int32)))))]) (lenOf pd_6 rfl) rfl (by show 2 * 0 + _ ≤ _; exact Nat.le_of_eq rfl) (hb hby at_126) (fun _ _ => ⟨rfl, K391q, (by decide : 2 + 0 ≤ _), (by decide : 8 + 0 ≤ _)⟩)
      dsimp only [Pt.U, Pt.locs, Pt.cells, Pt.slots] at X393 l393 y393 z393 st393 hQ393
      rw [l393, y393, z393] at X393
      obtain ⟨rfl, N393q, K393q⟩ := hQ393
      have N394 := Fr.app N392 N393q
      have f396 := (A367.keep K377q)
      obtain ⟨cq395, kq395, q395a, q395b, q395c⟩ := isOf hZ K393q f396
      obtain ⟨_, _, ⟨T395, L395, k395, n395⟩, -, X395, ⟨Lc395, hQ395, l395, y395, z395⟩, st395⟩ := X393.virtualBack hx (y := MN7) (z := MN7) hown (mvT hZ wo32) (mvT hZ wo33) (notFace_of_selects (args := #[]) (mvT hZ wo35)) (mvT hZ wo35) (mvT hZ wo34) (by decide) (backOf (W := 0) (rm_h1_4 l Z a0 hw [] b367 b1 x0 x1 x2 x3 x4 (T377.heap) n0 f382 hq377_0 hq377_1 hq377_2 f384) hZ wo36 wo4 (by decide) (by decide)) q395a q395c (g := (mkF m 134 #[iv p0_0, iv p0_1, iv p0_2, rv b1, iv (1 : Int32), iv (4 : Int32), rv b367, iv ((((((own_p31 (4 : Int32)) + (x1 * (own_p31 (3 : Int32)))) + (x2 * (own_p31 (2 : Int32)))) + (x3 * (own_p31 (1 : Int32)))) + (x4 * (own_p31 (0 : Int32)))) + (0 : Int32))] [(.ref b367)])) rfl (by rw [hml]; rfl) (Steps.refl _) (argsL := []) (rest := []) (lenOf pd_0 rfl) rfl (by show 2 * 0 + _ ≤ _; exact Nat.le_of_eq rfl) (hb hby at_134) (fun _ _ => ⟨rfl, K393q, (by decide : 2 + 0 ≤ _), (by decide : 8 + 0 ≤ _)⟩)
      dsimp only [Pt.U, Pt.locs, Pt.cells, Pt.slots] at X395 l395 y395 z395 st395 hQ395
      rw [l395, y395, z395] at X395
      obtain ⟨rfl, N395q, K395q⟩ := hQ395
      have N397 := Fr.app N394 N395q
      have hc398 : (((31 : Int32) * (((31 : Int32) * (((31 : Int32) * ((31 : Int32) + x1)) + x2)) + x3)) + x4) = ((((((own_p31 (4 : Int32)) + (x1 * (own_p31 (3 : Int32)))) + (x2 * (own_p31 (2 : Int32)))) + (x3 * (own_p31 (1 : Int32)))) + (x4 * (own_p31 (0 : Int32)))) + (0 : Int32)) := (by simp only [own_q0, own_q1, own_q2, own_q3, own_q4, own_q5]; first | rfl | grind)
      obtain ⟨fs, hr, hrun, hended, hW, hsame⟩ := X395.leave (v := some (.int (1 : Int32))) (fun h => by rw [Bd.returns] at h; cases h)
      refine ⟨_, _, pre237 _ ?_, hrun, hended, _, _, rfl, ?_, ⟨_, rfl⟩, hW, hsame.mono (by decide) (by decide)⟩
      · show Steps p.tables e below (T32.setTop (mkF m 61 #[iv p0_0, iv p0_1, iv p0_2, rv b1, iv (1 : Int32), iv (4 : Int32), .unset, .unset] [])) _
        refine st367 _ ?_
        show Steps p.tables e below (T367.setTop (mkF m 64 #[iv p0_0, iv p0_1, iv p0_2, rv b1, iv (1 : Int32), iv (4 : Int32), .unset, .unset] [(.ref b367)])) _
        refine XS.dup X367.here hx rfl (hb hby at_64) rfl rfl ?_
        refine XS.aloadN X367.here hx rfl (hb hby at_65) rfl rfl ?_
        refine XS.iload X367.here hx rfl (hb hby at_66) rfl ?_
        refine XS.iload X367.here hx rfl (hb hby at_68) rfl ?_
        show Steps p.tables e below (T367.setTop (mkF m 70 #[iv p0_0, iv p0_1, iv p0_2, rv b1, iv (1 : Int32), iv (4 : Int32), .unset, .unset] [(.int (4 : Int32)), (.int (1 : Int32)), (.ref b1), (.ref b367), (.ref b367)])) _
        refine st377.trans ?_
        show Steps p.tables e below (T377.setTop (mkF m 73 #[iv p0_0, iv p0_1, iv p0_2, rv b1, iv (1 : Int32), iv (4 : Int32), .unset, .unset] [(.ref b367)])) _
        refine XS.astore X377.here hx rfl (hb hby at_73) rfl rfl (l' := #[iv p0_0, iv p0_1, iv p0_2, rv b1, iv (1 : Int32), iv (4 : Int32), rv b367, .unset]) rfl ?_
        refine XS.iload X377.here hx rfl (hb hby at_75) rfl ?_
        show Steps p.tables e below (T377.setTop (mkF m 77 #[iv p0_0, iv p0_1, iv p0_2, rv b1, iv (1 : Int32), iv (4 : Int32), rv b367, .unset] [(.int (4 : Int32))])) _
        refine st381 _ ?_
        show Steps p.tables e below (T381.setTop (mkF m 80 #[iv p0_0, iv p0_1, iv p0_2, rv b1, iv (1 : Int32), iv (4 : Int32), rv b367, .unset] [(.int (own_p31 (4 : Int32)))])) _
        refine XS.aloadN X381.here hx rfl (hb hby at_80) rfl rfl ?_
        refine XS.iload X381.here hx rfl (hb hby at_81) rfl ?_
        refine XS.iload X381.here hx rfl (hb hby at_83) rfl ?_
        refine XS.iconst X381.here hx rfl (hb hby at_85) ?_
        show Steps p.tables e below (T381.setTop (mkF m 86 #[iv p0_0, iv p0_1, iv p0_2, rv b1, iv (1 : Int32), iv (4 : Int32), rv b367, .unset] [(.int (0 : Int32)), (.int (4 : Int32)), (.int (1 : Int32)), (.ref b1), (.int (own_p31 (4 : Int32)))])) _
        refine st385 _ ?_
        show Steps p.tables e below (T385.setTop (mkF m 89 #[iv p0_0, iv p0_1, iv p0_2, rv b1, iv (1 : Int32), iv (4 : Int32), rv b367, .unset] [(.int (x1 * (own_p31 (3 : Int32)))), (.int (own_p31 (4 : Int32)))])) _
        refine XS.iadd X385.here hx rfl (hb hby at_89) rfl ?_
        refine XS.aloadN X385.here hx rfl (hb hby at_90) rfl rfl ?_
        refine XS.iload X385.here hx rfl (hb hby at_91) rfl ?_
        show Steps p.tables e below (T385.setTop (mkF m 93 #[iv p0_0, iv p0_1, iv p0_2, rv b1, iv (1 : Int32), iv (4 : Int32), rv b367, .unset] [(.int (1 : Int32)), (.ref b1), (.int ((own_p31 (4 : Int32)) + (x1 * (own_p31 (3 : Int32)))))])) _
        refine XS.iload X385.here hx rfl (hb hby at_93) rfl ?_
        refine XS.iconst X385.here hx rfl (hb hby at_95) ?_
        show Steps p.tables e below (T385.setTop (mkF m 96 #[iv p0_0, iv p0_1, iv p0_2, rv b1, iv (1 : Int32), iv (4 : Int32), rv b367, .unset] [(.int (1 : Int32)), (.int (4 : Int32)), (.int (1 : Int32)), (.ref b1), (.int ((own_p31 (4 : Int32)) + (x1 * (own_p31 (3 : Int32)))))])) _
        refine st387 _ ?_
        show Steps p.tables e below (T387.setTop (mkF m 99 #[iv p0_0, iv p0_1, iv p0_2, rv b1, iv (1 : Int32), iv (4 : Int32), rv b367, .unset] [(.int (x2 * (own_p31 (2 : Int32)))), (.int ((own_p31 (4 : Int32)) + (x1 * (own_p31 (3 : Int32)))))])) _
        refine XS.iadd X387.here hx rfl (hb hby at_99) rfl ?_
        show Steps p.tables e below (T387.setTop (mkF m 100 #[iv p0_0, iv p0_1, iv p0_2, rv b1, iv (1 : Int32), iv (4 : Int32), rv b367, .unset] [(.int (((own_p31 (4 : Int32)) + (x1 * (own_p31 (3 : Int32)))) + (x2 * (own_p31 (2 : Int32)))))])) _
        refine XS.aloadN X387.here hx rfl (hb hby at_100) rfl rfl ?_
        refine XS.iload X387.here hx rfl (hb hby at_101) rfl ?_
        refine XS.iload X387.here hx rfl (hb hby at_103) rfl ?_
        refine XS.iconst X387.here hx rfl (hb hby at_105) ?_
        show Steps p.tables e below (T387.setTop (mkF m 106 #[iv p0_0, iv p0_1, iv p0_2, rv b1, iv (1 : Int32), iv (4 : Int32), rv b367, .unset] [(.int (2 : Int32)), (.int (4 : Int32)), (.int (1 : Int32)), (.ref b1), (.int (((own_p31 (4 : Int32)) + (x1 * (own_p31 (3 : Int32)))) + (x2 * (own_p31 (2 : Int32)))))])) _
        refine st389 _ ?_
        show Steps p.tables e below (T389.setTop (mkF m 109 #[iv p0_0, iv p0_1, iv p0_2, rv b1, iv (1 : Int32), iv (4 : Int32), rv b367, .unset] [(.int (x3 * (own_p31 (1 : Int32)))), (.int (((own_p31 (4 : Int32)) + (x1 * (own_p31 (3 : Int32)))) + (x2 * (own_p31 (2 : Int32)))))])) _
        refine XS.iadd X389.here hx rfl (hb hby at_109) rfl ?_
        refine XS.aloadN X389.here hx rfl (hb hby at_110) rfl rfl ?_
        refine XS.iload X389.here hx rfl (hb hby at_111) rfl ?_
        show Steps p.tables e below (T389.setTop (mkF m 113 #[iv p0_0, iv p0_1, iv p0_2, rv b1, iv (1 : Int32), iv (4 : Int32), rv b367, .unset] [(.int (1 : Int32)), (.ref b1), (.int ((((own_p31 (4 : Int32)) + (x1 * (own_p31 (3 : Int32)))) + (x2 * (own_p31 (2 : Int32)))) + (x3 * (own_p31 (1 : Int32)))))])) _
        refine XS.iload X389.here hx rfl (hb hby at_113) rfl ?_
        refine XS.iconst X389.here hx rfl (hb hby at_115) ?_
        show Steps p.tables e below (T389.setTop (mkF m 116 #[iv p0_0, iv p0_1, iv p0_2, rv b1, iv (1 : Int32), iv (4 : Int32), rv b367, .unset] [(.int (3 : Int32)), (.int (4 : Int32)), (.int (1 : Int32)), (.ref b1), (.int ((((own_p31 (4 : Int32)) + (x1 * (own_p31 (3 : Int32)))) + (x2 * (own_p31 (2 : Int32)))) + (x3 * (own_p31 (1 : Int32)))))])) _
        refine st391 _ ?_
        show Steps p.tables e below (T391.setTop (mkF m 119 #[iv p0_0, iv p0_1, iv p0_2, rv b1, iv (1 : Int32), iv (4 : Int32), rv b367, .unset] [(.int (x4 * (own_p31 (0 : Int32)))), (.int ((((own_p31 (4 : Int32)) + (x1 * (own_p31 (3 : Int32)))) + (x2 * (own_p31 (2 : Int32)))) + (x3 * (own_p31 (1 : Int32)))))])) _
        refine XS.iadd X391.here hx rfl (hb hby at_119) rfl ?_
        show Steps p.tables e below (T391.setTop (mkF m 120 #[iv p0_0, iv p0_1, iv p0_2, rv b1, iv (1 : Int32), iv (4 : Int32), rv b367, .unset] [(.int (((((own_p31 (4 : Int32)) + (x1 * (own_p31 (3 : Int32)))) + (x2 * (own_p31 (2 : Int32)))) + (x3 * (own_p31 (1 : Int32)))) + (x4 * (own_p31 (0 : Int32)))))])) _
        refine XS.aloadN X391.here hx rfl (hb hby at_120) rfl rfl ?_
        refine XS.iload X391.here hx rfl (hb hby at_121) rfl ?_
        refine XS.iload X391.here hx rfl (hb hby at_123) rfl ?_
        refine XS.iconst X391.here hx rfl (hb hby at_125) ?_
        show Steps p.tables e below (T391.setTop (mkF m 126 #[iv p0_0, iv p0_1, iv p0_2, rv b1, iv (1 : Int32), iv (4 : Int32), rv b367, .unset] [(.int (4 : Int32)), (.int (4 : Int32)), (.int (1 : Int32)), (.ref b1), (.int (((((own_p31 (4 : Int32)) + (x1 * (own_p31 (3 : Int32)))) + (x2 * (own_p31 (2 : Int32)))) + (x3 * (own_p31 (1 : Int32)))) + (x4 * (own_p31 (0 : Int32)))))])) _
        refine st393 _ ?_
        show Steps p.tables e below (T393.setTop (mkF m 129 #[iv p0_0, iv p0_1, iv p0_2, rv b1, iv (1 : Int32), iv (4 : Int32), rv b367, .unset] [(.int (0 : Int32)), (.int (((((own_p31 (4 : Int32)) + (x1 * (own_p31 (3 : Int32)))) + (x2 * (own_p31 (2 : Int32)))) + (x3 * (own_p31 (1 : Int32)))) + (x4 * (own_p31 (0 : Int32)))))])) _
        refine XS.iadd X393.here hx rfl (hb hby at_129) rfl ?_
        refine XS.istore X393.here hx rfl (hb hby at_130) rfl (l' := #[iv p0_0, iv p0_1, iv p0_2, rv b1, iv (1 : Int32), iv (4 : Int32), rv b367, iv ((((((own_p31 (4 : Int32)) + (x1 * (own_p31 (3 : Int32)))) + (x2 * (own_p31 (2 : Int32)))) + (x3 * (own_p31 (1 : Int32)))) + (x4 * (own_p31 (0 : Int32)))) + (0 : Int32))]) rfl ?_
        refine XS.aload X393.here hx rfl (hb hby at_132) rfl rfl ?_
        show Steps p.tables e below (T393.setTop (mkF m 134 #[iv p0_0, iv p0_1, iv p0_2, rv b1, iv (1 : Int32), iv (4 : Int32), rv b367, iv ((((((own_p31 (4 : Int32)) + (x1 * (own_p31 (3 : Int32)))) + (x2 * (own_p31 (2 : Int32)))) + (x3 * (own_p31 (1 : Int32)))) + (x4 * (own_p31 (0 : Int32)))) + (0 : Int32))] [(.ref b367)])) _
        refine st395.trans ?_
        show Steps p.tables e below (T395.setTop (mkF m 137 #[iv p0_0, iv p0_1, iv p0_2, rv b1, iv (1 : Int32), iv (4 : Int32), rv b367, iv ((((((own_p31 (4 : Int32)) + (x1 * (own_p31 (3 : Int32)))) + (x2 * (own_p31 (2 : Int32)))) + (x3 * (own_p31 (1 : Int32)))) + (x4 * (own_p31 (0 : Int32)))) + (0 : Int32))] [(.int (((31 : Int32) * (((31 : Int32) * (((31 : Int32) * ((31 : Int32) + x1)) + x2)) + x3)) + x4))])) _
        refine XS.iload X395.here hx rfl (hb hby at_137) rfl ?_
        refine XS.icmpNo X395.here hx rfl (hb hby at_139) rfl (teq hc398).2 ?_
        refine XS.iconst X395.here hx rfl (hb hby at_142) ?_
        show Steps p.tables e below (T395.setTop (mkF m 143 #[iv p0_0, iv p0_1, iv p0_2, rv b1, iv (1 : Int32), iv (4 : Int32), rv b367, iv ((((((own_p31 (4 : Int32)) + (x1 * (own_p31 (3 : Int32)))) + (x2 * (own_p31 (2 : Int32)))) + (x3 * (own_p31 (1 : Int32)))) + (x4 * (own_p31 (0 : Int32)))) + (0 : Int32))] [(.int (1 : Int32))])) _
        refine XS.goto X395.here hx rfl (pc0 := 143) (pc' := 147) rfl (hb hby at_143) (by decide) (by decide) ?_
        show Steps p.tables e below (T395.setTop (mkF m 147 #[iv p0_0, iv p0_1, iv p0_2, rv b1, iv (1 : Int32), iv (4 : Int32), rv b367, iv ((((((own_p31 (4 : Int32)) + (x1 * (own_p31 (3 : Int32)))) + (x2 * (own_p31 (2 : Int32)))) + (x3 * (own_p31 (1 : Int32)))) + (x4 * (own_p31 (0 : Int32)))) + (0 : Int32))] [(.int (1 : Int32))])) _
        exact retN X395 hx (t := .boolean) Bd.returns (by simp) (hb hby at_147) hr
      · show Q_rm0 Z _ _ _ h0 n0 _ T395.heap _
        rw [K395q]
        exact ⟨rfl, N397, (K380)⟩
  · skip
    obtain ⟨ln, h_ln⟩ : ∃ z : Int32, z = ((((p0_2.toUInt32 >>> ((3 : Int32) &&& 31).toUInt32).toInt32) &&& (2147483647 : Int32)) % (4 : Int32)) := ⟨_, rfl⟩
    have hln : 0 ≤ ln.toInt ∧ ln.toInt < 4 := by rw [h_ln]; exact own_len _ 4 (by decide)
    have pre399 : ∀ t, Steps p.tables e below (T32.setTop (mkF m 61 #[iv p0_0, iv p0_1, iv p0_2, rv b1, iv (2 : Int32), iv ln, .unset, .unset] [])) t → Steps p.tables e below (s₁.setTop (entryFrame m #[(.int p0_0), (.int p0_1), (.int p0_2)] maxLocals)) t := by
      intro t_ k_
      refine pre41 _ ?_
      show Steps p.tables e below (T32.setTop (mkF m 47 #[iv p0_0, iv p0_1, iv p0_2, rv b1, iv (2 : Int32), .unset, .unset, .unset] [])) _
      refine XS.iloadN X32.here hx rfl (hb hby at_47) rfl ?_
      refine XS.iconst X32.here hx rfl (hb hby at_48) ?_
      show Steps p.tables e below (T32.setTop (mkF m 49 #[iv p0_0, iv p0_1, iv p0_2, rv b1, iv (2 : Int32), .unset, .unset, .unset] [(.int (3 : Int32)), (.int p0_2)])) _
      refine XS.iushr X32.here hx rfl (hb hby at_49) rfl ?_
      show Steps p.tables e below (T32.setTop (mkF m 50 #[iv p0_0, iv p0_1, iv p0_2, rv b1, iv (2 : Int32), .unset, .unset, .unset] [(.int ((p0_2.toUInt32 >>> ((3 : Int32) &&& 31).toUInt32).toInt32))])) _
      refine X32.ldcInt hx hown (mvT hZ wo1) (g := (mkF m 50 #[iv p0_0, iv p0_1, iv p0_2, rv b1, iv (2 : Int32), .unset, .unset, .unset] [(.int ((p0_2.toUInt32 >>> ((3 : Int32) &&& 31).toUInt32).toInt32))])) rfl (hb hby at_50) _ ?_
      show Steps p.tables e below (T32.setTop (mkF m 52 #[iv p0_0, iv p0_1, iv p0_2, rv b1, iv (2 : Int32), .unset, .unset, .unset] [(.int (2147483647 : Int32)), (.int ((p0_2.toUInt32 >>> ((3 : Int32) &&& 31).toUInt32).toInt32))])) _
      refine XS.iand X32.here hx rfl (hb hby at_52) rfl ?_
      refine XS.bipush X32.here hx rfl (hb hby at_53) ?_
      show Steps p.tables e below (T32.setTop (mkF m 55 #[iv p0_0, iv p0_1, iv p0_2, rv b1, iv (2 : Int32), .unset, .unset, .unset] [(.int (6 : Int32)), (.int (((p0_2.toUInt32 >>> ((3 : Int32) &&& 31).toUInt32).toInt32) &&& (2147483647 : Int32)))])) _
      refine XS.iload X32.here hx rfl (hb hby at_55) rfl ?_
      refine XS.isub X32.here hx rfl (hb hby at_57) rfl ?_
      show Steps p.tables e below (T32.setTop (mkF m 58 #[iv p0_0, iv p0_1, iv p0_2, rv b1, iv (2 : Int32), .unset, .unset, .unset] [(.int (4 : Int32)), (.int (((p0_2.toUInt32 >>> ((3 : Int32) &&& 31).toUInt32).toInt32) &&& (2147483647 : Int32)))])) _
      refine iremM (g := (mkF m 58 #[iv p0_0, iv p0_1, iv p0_2, rv b1, iv (2 : Int32), .unset, .unset, .unset] [(.int (4 : Int32)), (.int (((p0_2.toUInt32 >>> ((3 : Int32) &&& 31).toUInt32).toInt32) &&& (2147483647 : Int32)))])) X32 hx rfl (hb hby at_58) rfl (by decide) ?_
      show Steps p.tables e below (T32.setTop (mkF m 59 #[iv p0_0, iv p0_1, iv p0_2, rv b1, iv (2 : Int32), .unset, .unset, .unset] [(.int ((((p0_2.toUInt32 >>> ((3 : Int32) &&& 31).toUInt32).toInt32) &&& (2147483647 : Int32)) % (4 : Int32)))])) _
      refine XS.istore X32.here hx rfl (hb hby at_59) rfl (l' := #[iv p0_0, iv p0_1, iv p0_2, rv b1, iv (2 : Int32), iv ((((p0_2.toUInt32 >>> ((3 : Int32) &&& 31).toUInt32).toInt32) &&& (2147483647 : Int32)) % (4 : Int32)), .unset, .unset]) rfl ?_
      rw [← h_ln]
      show Steps p.tables e below (T32.setTop (mkF m 61 #[iv p0_0, iv p0_1, iv p0_2, rv b1, iv (2 : Int32), iv ln, .unset, .unset] [])) _
      exact k_
    have hx_400 : ln = (0 : Int32) ∨ ln = (1 : Int32) ∨ ln = (2 : Int32) ∨ ln = (3 : Int32) := own_lt4 ln hln
    rcases hx_400 with rfl | rfl | rfl | rfl
    · skip
      obtain ⟨T401, h401, X401, e401, E401, A401, D401, -, st401⟩ := newO X32 hx hZ hown wo2 wo3 wo4 e32 (g := (mkF m 61 #[iv p0_0, iv p0_1, iv p0_2, rv b1, iv (2 : Int32), iv (0 : Int32), .unset, .unset] [])) rfl (hb hby at_61) (by decide) (by decide)
      obtain ⟨b401, gg401⟩ : ∃ z, z = h32.size := ⟨_, rfl⟩
      rw [← gg401] at A401 D401 st401
      have ne402 : b1 ≠ b401 := Nat.ne_of_lt (Nat.lt_of_lt_of_le f40.lt (Nat.le_of_eq gg401.symm))
      have f404 := (Nat.le_trans (Nat.le_trans (Nat.le_trans (Nat.le_trans (Nat.le_trans (Nat.le_trans Z0 E1.1) (Keep.of_wr W8).1) (Keep.of_wr W14).1) (Keep.of_wr W20).1) (Keep.of_wr W26).1) (Keep.of_wr W32).1)
      have g403 : n0 ≤ b401 := Nat.le_trans f404 (Nat.le_of_eq gg401.symm)
      have bz405 : h0.size ≤ b401 := Nat.le_trans (K33).1 (Nat.le_of_eq gg401.symm)
      have K406 : Keep h0 h401 [] := (K33).ext E401
      have f407 : Fld Z h401 b401 "com/example/tailwake/tailwake/source/mariadb/Slice" "array" "[B" .null := D401 (Or.inr wo20) (ty := (.array .byte)) (by decide)
      have f408 : Fld Z h401 b401 "com/example/tailwake/tailwake/source/mariadb/Slice" "offset" "I" (.int (0 : Int32)) := D401 (Or.inr wo22) (ty := .int) (by decide)
      have f409 : Fld Z h401 b401 "com/example/tailwake/tailwake/source/mariadb/Slice" "length" "I" (.int (0 : Int32)) := D401 (Or.inr wo24) (ty := .int) (by decide)
      have f410 := (f40.ext E401)
      have f412 := (Nat.le_trans f404 E401.1)
      obtain ⟨_, _, ⟨T411, L411, k411, n411⟩, -, X411, ⟨Lc411, hQ411, l411, y411, z411⟩, st411⟩ := X401.specialBack hx (y := MN1) rfl hown (mvT hZ wo5) (mvT hZ wo6) (mvT hZ wo7) (by decide) (backOf (W := 1) (rm1 l Z a0 hw [] b401 b1 (2 : Int32) (0 : Int32) h401 n0 f412 A401 g403 f407 f408 f409 f410.al (by first | decide | assumption | omega : ¬ ((((5 : Int32) ||| (2 : Int32)) ||| (0 : Int32)) < (0 : Int32))) (by first | decide | assumption | omega : ¬ (((5 : Int32) - (2 : Int32)) < (0 : Int32)))) hZ wo7 wo4 (by decide) (by decide)) (g := (mkF m 70 #[iv p0_0, iv p0_1, iv p0_2, rv b1, iv (2 : Int32), iv (0 : Int32), .unset, .unset] [(.int (0 : Int32)), (.int (2 : Int32)), (.ref b1), (.ref b401), (.ref b401)])) rfl (by rw [hml]; rfl) (Steps.refl _) (a := b401) (argsL := [(.ref b1), (.int (2 : Int32)), (.int (0 : Int32))]) (rest := [(.ref b401)]) (lenOf pd_5 rfl) rfl (by show 2 * 0 + _ ≤ _; exact Nat.le_of_eq rfl) (hb hby at_70) (fun _ _ => ⟨rfl, e401, (by decide : 2 + 0 ≤ _), (by decide : 8 + 0 ≤ _)⟩)
      dsimp only [Pt.U, Pt.locs, Pt.cells, Pt.slots] at X411 l411 y411 z411 st411 hQ411
      rw [l411, y411, z411] at X411
      obtain ⟨rfl, N411q, K411q, hq411_0, hq411_1, hq411_2⟩ := hQ411
      have N413 := Fr.app N35 N411q
      have K414 : Keep h0 T411.heap [] := (K406).trans K411q (allS (P := fun x => x ∈ [] ∨ h0.size ≤ x) (Or.inr bz405) all0)
      have f416 := (Nat.le_trans f412 K411q.1)
      obtain ⟨_, _, ⟨T415, L415, k415, n415⟩, -, X415, ⟨Lc415, hQ415, l415, y415, z415⟩, st415⟩ := Jvm.LawKit.callS X411 hx (y := MN5) hown (mvT hZ wo25) (mvT hZ wo26) (mvT hZ wo27) (mvT hZ wo28) (by decide) (backOf (W := 0) (rm5 l Z a0 hw [] (0 : Int32) (T411.heap) n0 f416 ) hZ wo28 wo27 (by decide) (by decide)) (g := (mkF m 77 #[iv p0_0, iv p0_1, iv p0_2, rv b1, iv (2 : Int32), iv (0 : Int32), rv b401, .unset] [(.int (0 : Int32))])) rfl (by rw [hml]; rfl) (argsL := [(.int (0 : Int32))]) (rest := []) (lenOf pd_2 rfl) rfl (by show 2 * 0 + _ ≤ _; exact Nat.le_of_eq rfl) (hb hby at_77) (fun _ _ => ⟨rfl, rfl, (by decide : 2 + 0 ≤ _), (by decide : 8 + 0 ≤ _)⟩)
      dsimp only [Pt.U, Pt.locs, Pt.cells, Pt.slots] at X415 l415 y415 z415 st415 hQ415
      rw [l415, y415, z415] at X415
      obtain ⟨rfl, N415q, K415q⟩ := hQ415
      have N417 := Fr.app N413 N415q
      obtain ⟨_, _, ⟨T418, L418, k418, n418⟩, -, X418, ⟨Lc418, hQ418, l418, y418, z418⟩, st418⟩ := Jvm.LawKit.callS X415 hx (y := MN6) hown (mvT hZ wo29) (mvT hZ wo30) (mvT hZ wo27) (mvT hZ wo31) (by decide) (backOf (W := 1) (rm_t l Z a0 hw [] b1 (2 : Int32) (0 : Int32) (0 : Int32) (T411.heap) n0 f416 (by first | decide | assumption | omega : ¬ ((0 : Int32) < (0 : Int32)))) hZ wo31 wo27 (by decide) (by decide)) (g := (mkF m 86 #[iv p0_0, iv p0_1, iv p0_2, rv b1, iv (2 : Int32), iv (0 : Int32), rv b401, .unset] [(.int (0 : Int32)), (.int (0 : Int32)), (.int (2 : Int32)), (.ref b1), (.int (own_p31 (0 : Int32)))])) rfl (by rw [hml]; rfl) (argsL := [(.ref b1), (.int (2 : Int32)), (.int (0 : Int32)), (.int (0 : Int32))]) (rest := [(.int (own_p31 (0 : Int32)))]) (lenOf pd_6 rfl) rfl (by show 2 * 0 + _ ≤ _; exact Nat.le_of_eq rfl) (hb hby at_86) (fun _ _ => ⟨rfl, K415q, (by decide : 2 + 0 ≤ _), (by decide : 8 + 0 ≤ _)⟩)
      dsimp only [Pt.U, Pt.locs, Pt.cells, Pt.slots] at X418 l418 y418 z418 st418 hQ418
      rw [l418, y418, z418] at X418
      obtain ⟨rfl, N418q, K418q⟩ := hQ418
      have N419 := Fr.app N417 N418q
      obtain ⟨_, _, ⟨T420, L420, k420, n420⟩, -, X420, ⟨Lc420, hQ420, l420, y420, z420⟩, st420⟩ := Jvm.LawKit.callS X418 hx (y := MN6) hown (mvT hZ wo29) (mvT hZ wo30) (mvT hZ wo27) (mvT hZ wo31) (by decide) (backOf (W := 1) (rm_t l Z a0 hw [] b1 (2 : Int32) (0 : Int32) (1 : Int32) (T411.heap) n0 f416 (by first | decide | assumption | omega : ¬ ((1 : Int32) < (0 : Int32)))) hZ wo31 wo27 (by decide) (by decide)) (g := (mkF m 96 #[iv p0_0, iv p0_1, iv p0_2, rv b1, iv (2 : Int32), iv (0 : Int32), rv b401, .unset] [(.int (1 : Int32)), (.int (0 : Int32)), (.int (2 : Int32)), (.ref b1), (.int ((own_p31 (0 : Int32)) + (0 : Int32)))])) rfl (by rw [hml]; rfl) (argsL := [(.ref b1), (.int (2 : Int32)), (.int (0 : Int32)), (.int (1 : Int32))]) (rest := [(.int ((own_p31 (0 : Int32)) + (0 : Int32)))]) (lenOf pd_6 rfl) rfl (by show 2 * 0 + _ ≤ _; exact Nat.le_of_eq rfl) (hb hby at_96) (fun _ _ => ⟨rfl, K418q, (by decide : 2 + 0 ≤ _), (by decide : 8 + 0 ≤ _)⟩)
      dsimp only [Pt.U, Pt.locs, Pt.cells, Pt.slots] at X420 l420 y420 z420 st420 hQ420
      rw [l420, y420, z420] at X420
      obtain ⟨rfl, N420q, K420q⟩ := hQ420
      have N421 := Fr.app N419 N420q
      obtain ⟨_, _, ⟨T422, L422, k422, n422⟩, -, X422, ⟨Lc422, hQ422, l422, y422, z422⟩, st422⟩ := Jvm.LawKit.callS X420 hx (y := MN6) hown (mvT hZ wo29) (mvT hZ wo30) (mvT hZ wo27) (mvT hZ wo31) (by decide) (backOf (W := 1) (rm_t l Z a0 hw [] b1 (2 : Int32) (0 : Int32) (2 : Int32) (T411.heap) n0 f416 (by first | decide | assumption | omega : ¬ ((2 : Int32) < (0 : Int32)))) hZ wo31 wo27 (by decide) (by decide)) (g := (mkF m 106 #[iv p0_0, iv p0_1, iv p0_2, rv b1, iv (2 : Int32), iv (0 : Int32), rv b401, .unset] [(.int (2 : Int32)), (.int (0 : Int32)), (.int (2 : Int32)), (.ref b1), (.int (((own_p31 (0 : Int32)) + (0 : Int32)) + (0 : Int32)))])) rfl (by rw [hml]; rfl) (argsL := [(.ref b1), (.int (2 : Int32)), (.int (0 : Int32)), (.int (2 : Int32))]) (rest := [(.int (((own_p31 (0 : Int32)) + (0 : Int32)) + (0 : Int32)))]) (lenOf pd_6 rfl) rfl (by show 2 * 0 + _ ≤ _; exact Nat.le_of_eq rfl) (hb hby at_106) (fun _ _ => ⟨rfl, K420q, (by decide : 2 + 0 ≤ _), (by decide : 8 + 0 ≤ _)⟩)
      dsimp only [Pt.U, Pt.locs, Pt.cells, Pt.slots] at X422 l422 y422 z422 st422 hQ422
      rw [l422, y422, z422] at X422
      obtain ⟨rfl, N422q, K422q⟩ := hQ422
      have N423 := Fr.app N421 N422q
      obtain ⟨_, _, ⟨T424, L424, k424, n424⟩, -, X424, ⟨Lc424, hQ424, l424, y424, z424⟩, st424⟩ := Jvm.LawKit.callS X422 hx (y := MN6) hown (mvT hZ wo29) (mvT hZ wo30) (mvT hZ wo27) (mvT hZ wo31) (by decide) (backOf (W := 1) (rm_t l Z a0 hw [] b1 (2 : Int32) (0 : Int32) (3 : Int32) (T411.heap) n0 f416 (by first | decide | assumption | omega : ¬ ((3 : Int32) < (0 : Int32)))) hZ wo31 wo27 (by decide) (by decide)) (g := (mkF m 116 #[iv p0_0, iv p0_1, iv p0_2, rv b1, iv (2 : Int32), iv (0 : Int32), rv b401, .unset] [(.int (3 : Int32)), (.int (0 : Int32)), (.int (2 : Int32)), (.ref b1), (.int ((((own_p31 (0 : Int32)) + (0 : Int32)) + (0 : Int32)) + (0 : Int32)))])) rfl (by rw [hml]; rfl) (argsL := [(.ref b1), (.int (2 : Int32)), (.int (0 : Int32)), (.int (3 : Int32))]) (rest := [(.int ((((own_p31 (0 : Int32)) + (0 : Int32)) + (0 : Int32)) + (0 : Int32)))]) (lenOf pd_6 rfl) rfl (by show 2 * 0 + _ ≤ _; exact Nat.le_of_eq rfl) (hb hby at_116) (fun _ _ => ⟨rfl, K422q, (by decide : 2 + 0 ≤ _), (by decide : 8 + 0 ≤ _)⟩)
      dsimp only [Pt.U, Pt.locs, Pt.cells, Pt.slots] at X424 l424 y424 z424 st424 hQ424
      rw [l424, y424, z424] at X424
      obtain ⟨rfl, N424q, K424q⟩ := hQ424
      have N425 := Fr.app N423 N424q
      obtain ⟨_, _, ⟨T426, L426, k426, n426⟩, -, X426, ⟨Lc426, hQ426, l426, y426, z426⟩, st426⟩ := Jvm.LawKit.callS X424 hx (y := MN6) hown (mvT hZ wo29) (mvT hZ wo30) (mvT hZ wo27) (mvT hZ wo31) (by decide) (backOf (W := 1) (rm_t l Z a0 hw [] b1 (2 : Int32) (0 : Int32) (4 : Int32) (T411.heap) n0 f416 (by first | decide | assumption | omega : ¬ ((4 : Int32) < (0 : Int32)))) hZ wo31 wo27 (by decide) (by decide)) (g := (mkF m 126 #[iv p0_0, iv p0_1, iv p0_2, rv b1, iv (2 : Int32), iv (0 : Int32), rv b401, .unset] [(.int (4 : Int32)), (.int (0 : Int32)), (.int (2 : Int32)), (.ref b1), (.int (((((own_p31 (0 : Int32)) + (0 : Int32)) + (0 : Int32)) + (0 : Int32)) + (0 : Int32)))])) rfl (by rw [hml]; rfl) (argsL := [(.ref b1), (.int (2 : Int32)), (.int (0 : Int32)), (.int (4 : Int32))]) (rest := [(.int (((((own_p31 (0 : Int32)) + (0 : Int32)) + (0 : Int32)) + (0 : Int32)) + (0 : Int32)))]) (lenOf pd_6 rfl) rfl (by show 2 * 0 + _ ≤ _; exact Nat.le_of_eq rfl) (hb hby at_126) (fun _ _ => ⟨rfl, K424q, (by decide : 2 + 0 ≤ _), (by decide : 8 + 0 ≤ _)⟩)
      dsimp only [Pt.U, Pt.locs, Pt.cells, Pt.slots] at X426 l426 y426 z426 st426 hQ426
      rw [l426, y426, z426] at X426
      obtain ⟨rfl, N426q, K426q⟩ := hQ426
      have N427 := Fr.app N425 N426q
      have f428 := (f410.keep K411q (ninS ne402 nin0))
      have f430 := (A401.keep K411q)
      obtain ⟨cq429, kq429, q429a, q429b, q429c⟩ := isOf hZ K426q f430
      obtain ⟨_, _, ⟨T429, L429, k429, n429⟩, -, X429, ⟨Lc429, hQ429, l429, y429, z429⟩, st429⟩ := X426.virtualBack hx (y := MN7) (z := MN7) hown (mvT hZ wo32) (mvT hZ wo33) (notFace_of_selects (args := #[]) (mvT hZ wo35)) (mvT hZ wo35) (mvT hZ wo34) (by decide) (backOf (W := 0) (rm_h2_0 l Z a0 hw [] b401 b1 x0 x1 x2 x3 x4 (T411.heap) n0 f416 hq411_0 hq411_1 hq411_2 f428) hZ wo36 wo4 (by decide) (by decide)) q429a q429c (g := (mkF m 134 #[iv p0_0, iv p0_1, iv p0_2, rv b1, iv (2 : Int32), iv (0 : Int32), rv b401, iv ((((((own_p31 (0 : Int32)) + (0 : Int32)) + (0 : Int32)) + (0 : Int32)) + (0 : Int32)) + (0 : Int32))] [(.ref b401)])) rfl (by rw [hml]; rfl) (Steps.refl _) (argsL := []) (rest := []) (lenOf pd_0 rfl) rfl (by show 2 * 0 + _ ≤ _; exact Nat.le_of_eq rfl) (hb hby at_134) (fun _ _ => ⟨rfl, K426q, (by decide : 2 + 0 ≤ _), (by decide : 8 + 0 ≤ _)⟩)
      dsimp only [Pt.U, Pt.locs, Pt.cells, Pt.slots] at X429 l429 y429 z429 st429 hQ429
      rw [l429, y429, z429] at X429
      obtain ⟨rfl, N429q, K429q⟩ := hQ429
      have N431 := Fr.app N427 N429q
      have hc432 : (1 : Int32) = ((((((own_p31 (0 : Int32)) + (0 : Int32)) + (0 : Int32)) + (0 : Int32)) + (0 : Int32)) + (0 : Int32)) := (by simp only [own_q0, own_q1, own_q2, own_q3, own_q4, own_q5]; first | rfl | grind)
      obtain ⟨fs, hr, hrun, hended, hW, hsame⟩ := X429.leave (v := some (.int (1 : Int32))) (fun h => by rw [Bd.returns] at h; cases h)
      refine ⟨_, _, pre399 _ ?_, hrun, hended, _, _, rfl, ?_, ⟨_, rfl⟩, hW, hsame.mono (by decide) (by decide)⟩
      · show Steps p.tables e below (T32.setTop (mkF m 61 #[iv p0_0, iv p0_1, iv p0_2, rv b1, iv (2 : Int32), iv (0 : Int32), .unset, .unset] [])) _
        refine st401 _ ?_
        show Steps p.tables e below (T401.setTop (mkF m 64 #[iv p0_0, iv p0_1, iv p0_2, rv b1, iv (2 : Int32), iv (0 : Int32), .unset, .unset] [(.ref b401)])) _
        refine XS.dup X401.here hx rfl (hb hby at_64) rfl rfl ?_
        refine XS.aloadN X401.here hx rfl (hb hby at_65) rfl rfl ?_
        refine XS.iload X401.here hx rfl (hb hby at_66) rfl ?_
        show Steps p.tables e below (T401.setTop (mkF m 68 #[iv p0_0, iv p0_1, iv p0_2, rv b1, iv (2 : Int32), iv (0 : Int32), .unset, .unset] [(.int (2 : Int32)), (.ref b1), (.ref b401), (.ref b401)])) _
        refine XS.iload X401.here hx rfl (hb hby at_68) rfl ?_
        show Steps p.tables e below (T401.setTop (mkF m 70 #[iv p0_0, iv p0_1, iv p0_2, rv b1, iv (2 : Int32), iv (0 : Int32), .unset, .unset] [(.int (0 : Int32)), (.int (2 : Int32)), (.ref b1), (.ref b401), (.ref b401)])) _
        refine st411.trans ?_
        show Steps p.tables e below (T411.setTop (mkF m 73 #[iv p0_0, iv p0_1, iv p0_2, rv b1, iv (2 : Int32), iv (0 : Int32), .unset, .unset] [(.ref b401)])) _
        refine XS.astore X411.here hx rfl (hb hby at_73) rfl rfl (l' := #[iv p0_0, iv p0_1, iv p0_2, rv b1, iv (2 : Int32), iv (0 : Int32), rv b401, .unset]) rfl ?_
        refine XS.iload X411.here hx rfl (hb hby at_75) rfl ?_
        show Steps p.tables e below (T411.setTop (mkF m 77 #[iv p0_0, iv p0_1, iv p0_2, rv b1, iv (2 : Int32), iv (0 : Int32), rv b401, .unset] [(.int (0 : Int32))])) _
        refine st415 _ ?_
        show Steps p.tables e below (T415.setTop (mkF m 80 #[iv p0_0, iv p0_1, iv p0_2, rv b1, iv (2 : Int32), iv (0 : Int32), rv b401, .unset] [(.int (own_p31 (0 : Int32)))])) _
        refine XS.aloadN X415.here hx rfl (hb hby at_80) rfl rfl ?_
        refine XS.iload X415.here hx rfl (hb hby at_81) rfl ?_
        refine XS.iload X415.here hx rfl (hb hby at_83) rfl ?_
        show Steps p.tables e below (T415.setTop (mkF m 85 #[iv p0_0, iv p0_1, iv p0_2, rv b1, iv (2 : Int32), iv (0 : Int32), rv b401, .unset] [(.int (0 : Int32)), (.int (2 : Int32)), (.ref b1), (.int (own_p31 (0 : Int32)))])) _
        refine XS.iconst X415.here hx rfl (hb hby at_85) ?_
        show Steps p.tables e below (T415.setTop (mkF m 86 #[iv p0_0, iv p0_1, iv p0_2, rv b1, iv (2 : Int32), iv (0 : Int32), rv b401, .unset] [(.int (0 : Int32)), (.int (0 : Int32)), (.int (2 : Int32)), (.ref b1), (.int (own_p31 (0 : Int32)))])) _
        refine st418 _ ?_
        show Steps p.tables e below (T418.setTop (mkF m 89 #[iv p0_0, iv p0_1, iv p0_2, rv b1, iv (2 : Int32), iv (0 : Int32), rv b401, .unset] [(.int (0 : Int32)), (.int (own_p31 (0 : Int32)))])) _
        refine XS.iadd X418.here hx rfl (hb hby at_89) rfl ?_
        refine XS.aloadN X418.here hx rfl (hb hby at_90) rfl rfl ?_
        show Steps p.tables e below (T418.setTop (mkF m 91 #[iv p0_0, iv p0_1, iv p0_2, rv b1, iv (2 : Int32), iv (0 : Int32), rv b401, .unset] [(.ref b1), (.int ((own_p31 (0 : Int32)) + (0 : Int32)))])) _
        refine XS.iload X418.here hx rfl (hb hby at_91) rfl ?_
        refine XS.iload X418.here hx rfl (hb hby at_93) rfl ?_
        refine XS.iconst X418.here hx rfl (hb hby at_95) ?_
        show Steps p.tables e below (T418.setTop (mkF m 96 #[iv p0_0, iv p0_1, iv p0_2, rv b1, iv (2 : Int32), iv (0 : Int32), rv b401, .unset] [(.int (1 : Int32)), (.int (0 : Int32)), (.int (2 : Int32)), (.ref b1), (.int ((own_p31 (0 : Int32)) + (0 : Int32)))])) _
        refine st420 _ ?_
        show Steps p.tables e below (T420.setTop (mkF m 99 #[iv p0_0, iv p0_1, iv p0_2, rv b1, iv (2 : Int32), iv (0 : Int32), rv b401, .unset] [(.int (0 : Int32)), (.int ((own_p31 (0 : Int32)) + (0 : Int32)))])) _
        refine XS.iadd X420.here hx rfl (hb hby at_99) rfl ?_
        refine XS.aloadN X420.here hx rfl (hb hby at_100) rfl rfl ?_
        refine XS.iload X420.here hx rfl (hb hby at_101) rfl ?_
        refine XS.iload X420.here hx rfl (hb hby at_103) rfl ?_
        show Steps p.tables e below (T420.setTop (mkF m 105 #[iv p0_0, iv p0_1, iv p0_2, rv b1, iv (2 : Int32), iv (0 : Int32), rv b401, .unset] [(.int (0 : Int32)), (.int (2 : Int32)), (.ref b1), (.int (((own_p31 (0 : Int32)) + (0 : Int32)) + (0 : Int32)))])) _
        refine XS.iconst X420.here hx rfl (hb hby at_105) ?_
        show Steps p.tables e below (T420.setTop (mkF m 106 #[iv p0_0, iv p0_1, iv p0_2, rv b1, iv (2 : Int32), iv (0 : Int32), rv b401, .unset] [(.int (2 : Int32)), (.int (0 : Int32)), (.int (2 : Int32)), (.ref b1), (.int (((own_p31 (0 : Int32)) + (0 : Int32)) + (0 : Int32)))])) _
        refine st422 _ ?_
        show Steps p.tables e below (T422.setTop (mkF m 109 #[iv p0_0, iv p0_1, iv p0_2, rv b1, iv (2 : Int32), iv (0 : Int32), rv b401, .unset] [(.int (0 : Int32)), (.int (((own_p31 (0 : Int32)) + (0 : Int32)) + (0 : Int32)))])) _
        refine XS.iadd X422.here hx rfl (hb hby at_109) rfl ?_
        refine XS.aloadN X422.here hx rfl (hb hby at_110) rfl rfl ?_
        show Steps p.tables e below (T422.setTop (mkF m 111 #[iv p0_0, iv p0_1, iv p0_2, rv b1, iv (2 : Int32), iv (0 : Int32), rv b401, .unset] [(.ref b1), (.int ((((own_p31 (0 : Int32)) + (0 : Int32)) + (0 : Int32)) + (0 : Int32)))])) _
        refine XS.iload X422.here hx rfl (hb hby at_111) rfl ?_
        refine XS.iload X422.here hx rfl (hb hby at_113) rfl ?_
        refine XS.iconst X422.here hx rfl (hb hby at_115) ?_
        show Steps p.tables e below (T422.setTop (mkF m 116 #[iv p0_0, iv p0_1, iv p0_2, rv b1, iv (2 : Int32), iv (0 : Int32), rv b401, .unset] [(.int (3 : Int32)), (.int (0 : Int32)), (.int (2 : Int32)), (.ref b1), (.int ((((own_p31 (0 : Int32)) + (0 : Int32)) + (0 : Int32)) + (0 : Int32)))])) _
        refine st424 _ ?_
        show Steps p.tables e below (T424.setTop (mkF m 119 #[iv p0_0, iv p0_1, iv p0_2, rv b1, iv (2 : Int32), iv (0 : Int32), rv b401, .unset] [(.int (0 : Int32)), (.int ((((own_p31 (0 : Int32)) + (0 : Int32)) + (0 : Int32)) + (0 : Int32)))])) _
        refine XS.iadd X424.here hx rfl (hb hby at_119) rfl ?_
        refine XS.aloadN X424.here hx rfl (hb hby at_120) rfl rfl ?_
        refine XS.iload X424.here hx rfl (hb hby at_121) rfl ?_
        refine XS.iload X424.here hx rfl (hb hby at_123) rfl ?_
        show Steps p.tables e below (T424.setTop (mkF m 125 #[iv p0_0, iv p0_1, iv p0_2, rv b1, iv (2 : Int32), iv (0 : Int32), rv b401, .unset] [(.int (0 : Int32)), (.int (2 : Int32)), (.ref b1), (.int (((((own_p31 (0 : Int32)) + (0 : Int32)) + (0 : Int32)) + (0 : Int32)) + (0 : Int32)))])) _
        refine XS.iconst X424.here hx rfl (hb hby at_125) ?_
        show Steps p.tables e below (T424.setTop (mkF m 126 #[iv p0_0, iv p0_1, iv p0_2, rv b1, iv (2 : Int32), iv (0 : Int32), rv b401, .unset] [(.int (4 : Int32)), (.int (0 : Int32)), (.int (2 : Int32)), (.ref b1), (.int (((((own_p31 (0 : Int32)) + (0 : Int32)) + (0 : Int32)) + (0 : Int32)) + (0 : Int32)))])) _
        refine st426 _ ?_
        show Steps p.tables e below (T426.setTop (mkF m 129 #[iv p0_0, iv p0_1, iv p0_2, rv b1, iv (2 : Int32), iv (0 : Int32), rv b401, .unset] [(.int (0 : Int32)), (.int (((((own_p31 (0 : Int32)) + (0 : Int32)) + (0 : Int32)) + (0 : Int32)) + (0 : Int32)))])) _
        refine XS.iadd X426.here hx rfl (hb hby at_129) rfl ?_
        refine XS.istore X426.here hx rfl (hb hby at_130) rfl (l' := #[iv p0_0, iv p0_1, iv p0_2, rv b1, iv (2 : Int32), iv (0 : Int32), rv b401, iv ((((((own_p31 (0 : Int32)) + (0 : Int32)) + (0 : Int32)) + (0 : Int32)) + (0 : Int32)) + (0 : Int32))]) rfl ?_
        show Steps p.tables e below (T426.setTop (mkF m 132 #[iv p0_0, iv p0_1, iv p0_2, rv b1, iv (2 : Int32), iv (0 : Int32), rv b401, iv ((((((own_p31 (0 : Int32)) + (0 : Int32)) + (0 : Int32)) + (0 : Int32)) + (0 : Int32)) + (0 : Int32))] [])) _
        refine XS.aload X426.here hx rfl (hb hby at_132) rfl rfl ?_
        show Steps p.tables e below (T426.setTop (mkF m 134 #[iv p0_0, iv p0_1, iv p0_2, rv b1, iv (2 : Int32), iv (0 : Int32), rv b401, iv ((((((own_p31 (0 : Int32)) + (0 : Int32)) + (0 : Int32)) + (0 : Int32)) + (0 : Int32)) + (0 : Int32))] [(.ref b401)])) _
        refine st429.trans ?_
        show Steps p.tables e below (T429.setTop (mkF m 137 #[iv p0_0, iv p0_1, iv p0_2, rv b1, iv (2 : Int32), iv (0 : Int32), rv b401, iv ((((((own_p31 (0 : Int32)) + (0 : Int32)) + (0 : Int32)) + (0 : Int32)) + (0 : Int32)) + (0 : Int32))] [(.int (1 : Int32))])) _
        refine XS.iload X429.here hx rfl (hb hby at_137) rfl ?_
        refine XS.icmpNo X429.here hx rfl (hb hby at_139) rfl (teq hc432).2 ?_
        show Steps p.tables e below (T429.setTop (mkF m 142 #[iv p0_0, iv p0_1, iv p0_2, rv b1, iv (2 : Int32), iv (0 : Int32), rv b401, iv ((((((own_p31 (0 : Int32)) + (0 : Int32)) + (0 : Int32)) + (0 : Int32)) + (0 : Int32)) + (0 : Int32))] [])) _
        refine XS.iconst X429.here hx rfl (hb hby at_142) ?_
        refine XS.goto X429.here hx rfl (pc0 := 143) (pc' := 147) rfl (hb hby at_143) (by decide) (by decide) ?_
        show Steps p.tables e below (T429.setTop (mkF m 147 #[iv p0_0, iv p0_1, iv p0_2, rv b1, iv (2 : Int32), iv (0 : Int32), rv b401, iv ((((((own_p31 (0 : Int32)) + (0 : Int32)) + (0 : Int32)) + (0 : Int32)) + (0 : Int32)) + (0 : Int32))] [(.int (1 : Int32))])) _
        exact retN X429 hx (t := .boolean) Bd.returns (by simp) (hb hby at_147) hr
      · show Q_rm0 Z _ _ _ h0 n0 _ T429.heap _
        rw [K429q]
        exact ⟨rfl, N431, (K414)⟩
    · skip
      obtain ⟨T433, h433, X433, e433, E433, A433, D433, -, st433⟩ := newO X32 hx hZ hown wo2 wo3 wo4 e32 (g := (mkF m 61 #[iv p0_0, iv p0_1, iv p0_2, rv b1, iv (2 : Int32), iv (1 : Int32), .unset, .unset] [])) rfl (hb hby at_61) (by decide) (by decide)
      obtain ⟨b433, gg433⟩ : ∃ z, z = h32.size := ⟨_, rfl⟩
      rw [← gg433] at A433 D433 st433
      have ne434 : b1 ≠ b433 := Nat.ne_of_lt (Nat.lt_of_lt_of_le f40.lt (Nat.le_of_eq gg433.symm))
      have f436 := (Nat.le_trans (Nat.le_trans (Nat.le_trans (Nat.le_trans (Nat.le_trans (Nat.le_trans Z0 E1.1) (Keep.of_wr W8).1) (Keep.of_wr W14).1) (Keep.of_wr W20).1) (Keep.of_wr W26).1) (Keep.of_wr W32).1)
      have g435 : n0 ≤ b433 := Nat.le_trans f436 (Nat.le_of_eq gg433.symm)
      have bz437 : h0.size ≤ b433 := Nat.le_trans (K33).1 (Nat.le_of_eq gg433.symm)
      have K438 : Keep h0 h433 [] := (K33).ext E433
      have f439 : Fld Z h433 b433 "com/example/tailwake/tailwake/source/mariadb/Slice" "array" "[B" .null := D433 (Or.inr wo20) (ty := (.array .byte)) (by decide)
      have f440 : Fld Z h433 b433 "com/example/tailwake/tailwake/source/mariadb/Slice" "offset" "I" (.int (0 : Int32)) := D433 (Or.inr wo22) (ty := .int) (by decide)
      have f441 : Fld Z h433 b433 "com/example/tailwake/tailwake/source/mariadb/Slice" "length" "I" (.int (0 : Int32)) := D433 (Or.inr wo24) (ty := .int) (by decide)
      have f442 := (f40.ext E433)
      have f444 := (Nat.le_trans f436 E433.1)
      obtain ⟨_, _, ⟨T443, L443, k443, n443⟩, -, X443, ⟨Lc443, hQ443, l443, y443, z443⟩, st443⟩ := X433.specialBack hx (y := MN1) rfl hown (mvT hZ wo5) (mvT hZ wo6) (mvT hZ wo7) (by decide) (backOf (W := 1) (rm1 l Z a0 hw [] b433 b1 (2 : Int32) (1 : Int32) h433 n0 f444 A433 g435 f439 f440 f441 f442.al (by first | decide | assumption | omega : ¬ ((((5 : Int32) ||| (2 : Int32)) ||| (1 : Int32)) < (0 : Int32))) (by first | decide | assumption | omega : ¬ (((5 : Int32) - (2 : Int32)) < (1 : Int32)))) hZ wo7 wo4 (by decide) (by decide)) (g := (mkF m 70 #[iv p0_0, iv p0_1, iv p0_2, rv b1, iv (2 : Int32), iv (1 : Int32), .unset, .unset] [(.int (1 : Int32)), (.int (2 : Int32)), (.ref b1), (.ref b433), (.ref b433)])) rfl (by rw [hml]; rfl) (Steps.refl _) (a := b433) (argsL := [(.ref b1), (.int (2 : Int32)), (.int (1 : Int32))]) (rest := [(.ref b433)]) (lenOf pd_5 rfl) rfl (by show 2 * 0 + _ ≤ _; exact Nat.le_of_eq rfl) (hb hby at_70) (fun _ _ => ⟨rfl, e433, (by decide : 2 + 0 ≤ _), (by decide : 8 + 0 ≤ _)⟩)
      dsimp only [Pt.U, Pt.locs, Pt.cells, Pt.slots] at X443 l443 y443 z443 st443 hQ443
      rw [l443, y443, z443] at X443
      obtain ⟨rfl, N443q, K443q, hq443_0, hq443_1, hq443_2⟩ := hQ443
      have N445 := Fr.app N35 N443q
      have K446 : Keep h0 T443.heap [] := (K438).trans K443q (allS (P := fun x => x ∈ [] ∨ h0.size ≤ x) (Or.inr bz437) all0)
      have f448 := (Nat.le_trans f444 K443q.1)
      obtain ⟨_, _, ⟨T447, L447, k447, n447⟩, -, X447, ⟨Lc447, hQ447, l447, y447, z447⟩, st447⟩ := Jvm.LawKit.callS X443 hx (y := MN5) hown (mvT hZ wo25) (mvT hZ wo26) (mvT hZ wo27) (mvT hZ wo28) (by decide) (backOf (W := 0) (rm5 l Z a0 hw [] (1 : Int32) (T443.heap) n0 f448 ) hZ wo28 wo27 (by decide) (by decide)) (g := (mkF m 77 #[iv p0_0, iv p0_1, iv p0_2, rv b1, iv (2 : Int32), iv (1 : Int32), rv b433, .unset] [(.int (1 : Int32))])) rfl (by rw [hml]; rfl) (argsL := [(.int (1 : Int32))]) (rest := []) (lenOf pd_2 rfl) rfl (by show 2 * 0 + _ ≤ _; exact Nat.le_of_eq rfl) (hb hby at_77) (fun _ _ => ⟨rfl, rfl, (by decide : 2 + 0 ≤ _), (by decide : 8 + 0 ≤ _)⟩)
      dsimp only [Pt.U, Pt.locs, Pt.cells, Pt.slots] at X447 l447 y447 z447 st447 hQ447
      rw [l447, y447, z447] at X447
      obtain ⟨rfl, N447q, K447q⟩ := hQ447
      have N449 := Fr.app N445 N447q
      have f450 := (f442.keep K443q (ninS ne434 nin0))
      obtain ⟨_, _, ⟨T451, L451, k451, n451⟩, -, X451, ⟨Lc451, hQ451, l451, y451, z451⟩, st451⟩ := Jvm.LawKit.callS X447 hx (y := MN6) hown (mvT hZ wo29) (mvT hZ wo30) (mvT hZ wo27) (mvT hZ wo31) (by decide) (backOf (W := 1) (rm_t2 l Z a0 hw [] b1 (2 : Int32) (1 : Int32) (0 : Int32) x0 x1 x2 x3 x4 (T443.heap) n0 f448 f450 (by first | decide | assumption | omega : (0 : Int32) < (1 : Int32)) (by first | decide | assumption | omega : ((2 : Int32) + (0 : Int32)) = (2 : Int32))) hZ wo31 wo27 (by decide) (by decide)) (g := (mkF m 86 #[iv p0_0, iv p0_1, iv p0_2, rv b1, iv (2 : Int32), iv (1 : Int32), rv b433, .unset] [(.int (0 : Int32)), (.int (1 : Int32)), (.int (2 : Int32)), (.ref b1), (.int (own_p31 (1 : Int32)))])) rfl (by rw [hml]; rfl) (argsL := [(.ref b1), (.int (2 : Int32)), (.int (1 : Int32)), (.int (0 : Int32))]) (rest := [(.int (own_p31 (1 : Int32)))]) (lenOf pd_6 rfl) rfl (by show 2 * 0 + _ ≤ _; exact Nat.le_of_eq rfl) (hb hby at_86) (fun _ _ => ⟨rfl, K447q, (by decide : 2 + 0 ≤ _), (by decide : 8 + 0 ≤ _)⟩)
      dsimp only [Pt.U, Pt.locs, Pt.cells, Pt.slots] at X451 l451 y451 z451 st451 hQ451
      rw [l451, y451, z451] at X451
      obtain ⟨rfl, N451q, K451q⟩ := hQ451
      have N452 := Fr.app N449 N451q
      obtain ⟨_, _, ⟨T453, L453, k453, n453⟩, -, X453, ⟨Lc453, hQ453, l453, y453, z453⟩, st453⟩ := Jvm.LawKit.callS X451 hx (y := MN6) hown (mvT hZ wo29) (mvT hZ wo30) (mvT hZ wo27) (mvT hZ wo31) (by decide) (backOf (W := 1) (rm_t l Z a0 hw [] b1 (2 : Int32) (1 : Int32) (1 : Int32) (T443.heap) n0 f448 (by first | decide | assumption | omega : ¬ ((1 : Int32) < (1 : Int32)))) hZ wo31 wo27 (by decide) (by decide)) (g := (mkF m 96 #[iv p0_0, iv p0_1, iv p0_2, rv b1, iv (2 : Int32), iv (1 : Int32), rv b433, .unset] [(.int (1 : Int32)), (.int (1 : Int32)), (.int (2 : Int32)), (.ref b1), (.int ((own_p31 (1 : Int32)) + (x2 * (own_p31 (0 : Int32)))))])) rfl (by rw [hml]; rfl) (argsL := [(.ref b1), (.int (2 : Int32)), (.int (1 : Int32)), (.int (1 : Int32))]) (rest := [(.int ((own_p31 (1 : Int32)) + (x2 * (own_p31 (0 : Int32)))))]) (lenOf pd_6 rfl) rfl (by show 2 * 0 + _ ≤ _; exact Nat.le_of_eq rfl) (hb hby at_96) (fun _ _ => ⟨rfl, K451q, (by decide : 2 + 0 ≤ _), (by decide : 8 + 0 ≤ _)⟩)
      dsimp only [Pt.U, Pt.locs, Pt.cells, Pt.slots] at X453 l453 y453 z453 st453 hQ453
      rw [l453, y453, z453] at X453
      obtain ⟨rfl, N453q, K453q⟩ := hQ453
      have N454 := Fr.app N452 N453q
      obtain ⟨_, _, ⟨T455, L455, k455, n455⟩, -, X455, ⟨Lc455, hQ455, l455, y455, z455⟩, st455⟩ := Jvm.LawKit.callS X453 hx (y := MN6) hown (mvT hZ wo29) (mvT hZ wo30) (mvT hZ wo27) (mvT hZ wo31) (by decide) (backOf (W := 1) (rm_t l Z a0 hw [] b1 (2 : Int32) (1 : Int32) (2 : Int32) (T443.heap) n0 f448 (by first | decide | assumption | omega : ¬ ((2 : Int32) < (1 : Int32)))) hZ wo31 wo27 (by decide) (by decide)) (g := (mkF m 106 #[iv p0_0, iv p0_1, iv p0_2, rv b1, iv (2 : Int32), iv (1 : Int32), rv b433, .unset] [(.int (2 : Int32)), (.int (1 : Int32)), (.int (2 : Int32)), (.ref b1), (.int (((own_p31 (1 : Int32)) + (x2 * (own_p31 (0 : Int32)))) + (0 : Int32)))])) rfl (by rw [hml]; rfl) (argsL := [(.ref b1), (.int (2 : Int32)), (.int (1 : Int32)), (.int (2 : Int32))]) (rest := [(.int (((own_p31 (1 : Int32)) + (x2 * (own_p31 (0 : Int32)))) + (0 : Int32)))]) (lenOf pd_6 rfl) rfl (by show 2 * 0 + _ ≤ _; exact Nat.le_of_eq rfl) (hb hby at_106) (fun _ _ => ⟨rfl, K453q, (by decide : 2 + 0 ≤ _), (by decide : 8 + 0 ≤ _)⟩)
      dsimp only [Pt.U, Pt.locs, Pt.cells, Pt.slots] at X455 l455 y455 z455 st455 hQ455
      rw [l455, y455, z455] at X455
      obtain ⟨rfl, N455q, K455q⟩ := hQ455
      have N456 := Fr.app N454 N455q
      obtain ⟨_, _, ⟨T457, L457, k457, n457⟩, -, X457, ⟨Lc457, hQ457, l457, y457, z457⟩, st457⟩ := Jvm.LawKit.callS X455 hx (y := MN6) hown (mvT hZ wo29) (mvT hZ wo30) (mvT hZ wo27) (mvT hZ wo31) (by decide) (backOf (W := 1) (rm_t l Z a0 hw [] b1 (2 : Int32) (1 : Int32) (3 : Int32) (T443.heap) n0 f448 (by first | decide | assumption | omega : ¬ ((3 : Int32) < (1 : Int32)))) hZ wo31 wo27 (by decide) (by decide)) (g := (mkF m 116 #[iv p0_0, iv p0_1, iv p0_2, rv b1, iv (2 : Int32), iv (1 : Int32), rv b433, .unset] [(.int (3 : Int32)), (.int (1 : Int32)), (.int (2 : Int32)), (.ref b1), (.int ((((own_p31 (1 : Int32)) + (x2 * (own_p31 (0 : Int32)))) + (0 : Int32)) + (0 : Int32)))])) rfl (by rw [hml]; rfl) (argsL := [(.ref b1), (.int (2 : Int32)), (.int (1 : Int32)), (.int (3 : Int32))]) (rest := [(.int ((((own_p31 (1 : Int32)) + (x2 * (own_p31 (0 : Int32)))) + (0 : Int32)) + (0 : Int32)))]) (lenOf pd_6 rfl) rfl (by show 2 * 0 + _ ≤ _; exact Nat.le_of_eq rfl) (hb hby at_116) (fun _ _ => ⟨rfl, K455q, (by decide : 2 + 0 ≤ _), (by decide : 8 + 0 ≤ _)⟩)
      dsimp only [Pt.U, Pt.locs, Pt.cells, Pt.slots] at X457 l457 y457 z457 st457 hQ457
      rw [l457, y457, z457] at X457
      obtain ⟨rfl, N457q, K457q⟩ := hQ457
      have N458 := Fr.app N456 N457q
      obtain ⟨_, _, ⟨T459, L459, k459, n459⟩, -, X459, ⟨Lc459, hQ459, l459, y459, z459⟩, st459⟩ := Jvm.LawKit.callS X457 hx (y := MN6) hown (mvT hZ wo29) (mvT hZ wo30) (mvT hZ wo27) (mvT hZ wo31) (by decide) (backOf (W := 1) (rm_t l Z a0 hw [] b1 (2 : Int32) (1 : Int32) (4 : Int32) (T443.heap) n0 f448 (by first | decide | assumption | omega : ¬ ((4 : Int32) < (1 : Int32)))) hZ wo31 wo27 (by decide) (by decide)) (g := (mkF m 126 #[iv p0_0, iv p0_1, iv p0_2, rv b1, iv (2 : Int32), iv (1 : Int32), rv b433, .unset] [(.int (4 : Int32)), (.int (1 : Int32)), (.int (2 : Int32)), (.ref b1), (.int (((((own_p31 (1 : Int32)) + (x2 * (own_p31 (0 : Int32)))) + (0 : Int32)) + (0 : Int32)) + (0 : Int32)))])) rfl (by rw [hml]; rfl) (argsL := [(.ref b1), (.int (2 : Int32)), (.int (1 : Int32)), (.int (4 : Int32))]) (rest := [(.int (((((own_p31 (1 : Int32)) + (x2 * (own_p31 (0 : Int32)))) + (0 : Int32)) + (0 : Int32)) + (0 : Int32)))]) (lenOf pd_6 rfl) rfl (by show 2 * 0 + _ ≤ _; exact Nat.le_of_eq rfl) (hb hby at_126) (fun _ _ => ⟨rfl, K457q, (by decide : 2 + 0 ≤ _), (by decide : 8 + 0 ≤ _)⟩)
      dsimp only [Pt.U, Pt.locs, Pt.cells, Pt.slots] at X459 l459 y459 z459 st459 hQ459
      rw [l459, y459, z459] at X459
      obtain ⟨rfl, N459q, K459q⟩ := hQ459
      have N460 := Fr.app N458 N459q
      have f462 := (A433.keep K443q)
      obtain ⟨cq461, kq461, q461a, q461b, q461c⟩ := isOf hZ K459q f462
      obtain ⟨_, _, ⟨T461, L461, k461, n461⟩, -, X461, ⟨Lc461, hQ461, l461, y461, z461⟩, st461⟩ := X459.virtualBack hx (y := MN7) (z := MN7) hown (mvT hZ wo32) (mvT hZ wo33) (notFace_of_selects (args := #[]) (mvT hZ wo35)) (mvT hZ wo35) (mvT hZ wo34) (by decide) (backOf (W := 0) (rm_h2_1 l Z a0 hw [] b433 b1 x0 x1 x2 x3 x4 (T443.heap) n0 f448 hq443_0 hq443_1 hq443_2 f450) hZ wo36 wo4 (by decide) (by decide)) q461a q461c (g := (mkF m 134 #[iv p0_0, iv p0_1, iv p0_2, rv b1, iv (2 : Int32), iv (1 : Int32), rv b433, iv ((((((own_p31 (1 : Int32)) + (x2 * (own_p31 (0 : Int32)))) + (0 : Int32)) + (0 : Int32)) + (0 : Int32)) + (0 : Int32))] [(.ref b433)])) rfl (by rw [hml]; rfl) (Steps.refl _) (argsL := []) (rest := []) (lenOf pd_0 rfl) rfl (by show 2 * 0 + _ ≤ _; exact Nat.le_of_eq rfl) (hb hby at_134) (fun _ _ => ⟨rfl, K459q, (by decide : 2 + 0 ≤ _), (by decide : 8 + 0 ≤ _)⟩)
      dsimp only [Pt.U, Pt.locs, Pt.cells, Pt.slots] at X461 l461 y461 z461 st461 hQ461
      rw [l461, y461, z461] at X461
      obtain ⟨rfl, N461q, K461q⟩ := hQ461
      have N463 := Fr.app N460 N461q
      have hc464 : ((31 : Int32) + x2) = ((((((own_p31 (1 : Int32)) + (x2 * (own_p31 (0 : Int32)))) + (0 : Int32)) + (0 : Int32)) + (0 : Int32)) + (0 : Int32)) := (by simp only [own_q0, own_q1, own_q2, own_q3, own_q4, own_q5]; first | rfl | grind)
      obtain ⟨fs, hr, hrun, hended, hW, hsame⟩ := X461.leave (v := some (.int (1 : Int32))) (fun h => by rw [Bd.returns] at h; cases h)
      refine ⟨_, _, pre399 _ ?_, hrun, hended, _, _, rfl, ?_, ⟨_, rfl⟩, hW, hsame.mono (by decide) (by decide)⟩
      · show Steps p.tables e below (T32.setTop (mkF m 61 #[iv p0_0, iv p0_1, iv p0_2, rv b1, iv (2 : Int32), iv (1 : Int32), .unset, .unset] [])) _
        refine st433 _ ?_
        show Steps p.tables e below (T433.setTop (mkF m 64 #[iv p0_0, iv p0_1, iv p0_2, rv b1, iv (2 : Int32), iv (1 : Int32), .unset, .unset] [(.ref b433)])) _
        refine XS.dup X433.here hx rfl (hb hby at_64) rfl rfl ?_
        show Steps p.tables e below (T433.setTop (mkF m 65 #[iv p0_0, iv p0_1, iv p0_2, rv b1, iv (2 : Int32), iv (1 : Int32), .unset, .unset] [(.ref b433), (.ref b433)])) _
        refine XS.aloadN X433.here hx rfl (hb hby at_65) rfl rfl ?_
        refine XS.iload X433.here hx rfl (hb hby at_66) rfl ?_
        refine XS.iload X433.here hx rfl (hb hby at_68) rfl ?_
        show Steps p.tables e below (T433.setTop (mkF m 70 #[iv p0_0, iv p0_1, iv p0_2, rv b1, iv (2 : Int32), iv (1 : Int32), .unset, .unset] [(.int (1 : Int32)), (.int (2 : Int32)), (.ref b1), (.ref b433), (.ref b433)])) _
        refine st443.trans ?_
        show Steps p.tables e below (T443.setTop (mkF m 73 #[iv p0_0, iv p0_1, iv p0_2, rv b1, iv (2 : Int32), iv (1 : Int32), .unset, .unset] [(.ref b433)])) _
        refine XS.astore X443.here hx rfl (hb hby at_73) rfl rfl (l' := #[iv p0_0, iv p0_1, iv p0_2, rv b1, iv (2 : Int32), iv (1 : Int32), rv b433, .unset]) rfl ?_
        refine XS.iload X443.here hx rfl (hb hby at_75) rfl ?_
        show Steps p.tables e below (T443.setTop (mkF m 77 #[iv p0_0, iv p0_1, iv p0_2, rv b1, iv (2 : Int32), iv (1 : Int32), rv b433, .unset] [(.int (1 : Int32))])) _
        refine st447 _ ?_
        show Steps p.tables e below (T447.setTop (mkF m 80 #[iv p0_0, iv p0_1, iv p0_2, rv b1, iv (2 : Int32), iv (1 : Int32), rv b433, .unset] [(.int (own_p31 (1 : Int32)))])) _
        refine XS.aloadN X447.here hx rfl (hb hby at_80) rfl rfl ?_
        show Steps p.tables e below (T447.setTop (mkF m 81 #[iv p0_0, iv p0_1, iv p0_2, rv b1, iv (2 : Int32), iv (1 : Int32), rv b433, .unset] [(.ref b1), (.int (own_p31 (1 : Int32)))])) _
        refine XS.iload X447.here hx rfl (hb hby at_81) rfl ?_
        refine XS.iload X447.here hx rfl (hb hby at_83) rfl ?_
        refine XS.iconst X447.here hx rfl (hb hby at_85) ?_
        show Steps p.tables e below (T447.setTop (mkF m 86 #[iv p0_0, iv p0_1, iv p0_2, rv b1, iv (2 : Int32), iv (1 : Int32), rv b433, .unset] [(.int (0 : Int32)), (.int (1 : Int32)), (.int (2 : Int32)), (.ref b1), (.int (own_p31 (1 : Int32)))])) _
        refine st451 _ ?_
        show Steps p.tables e below (T451.setTop (mkF m 89 #[iv p0_0, iv p0_1, iv p0_2, rv b1, iv (2 : Int32), iv (1 : Int32), rv b433, .unset] [(.int (x2 * (own_p31 (0 : Int32)))), (.int (own_p31 (1 : Int32)))])) _
        refine XS.iadd X451.here hx rfl (hb hby at_89) rfl ?_
        refine XS.aloadN X451.here hx rfl (hb hby at_90) rfl rfl ?_
        refine XS.iload X451.here hx rfl (hb hby at_91) rfl ?_
        refine XS.iload X451.here hx rfl (hb hby at_93) rfl ?_
        show Steps p.tables e below (T451.setTop (mkF m 95 #[iv p0_0, iv p0_1, iv p0_2, rv b1, iv (2 : Int32), iv (1 : Int32), rv b433, .unset] [(.int (1 : Int32)), (.int (2 : Int32)), (.ref b1), (.int ((own_p31 (1 : Int32)) + (x2 * (own_p31 (0 : Int32)))))])) _
        refine XS.iconst X451.here hx rfl (hb hby at_95) ?_
        show Steps p.tables e below (T451.setTop (mkF m 96 #[iv p0_0, iv p0_1, iv p0_2, rv b1, iv (2 : Int32), iv (1 : Int32), rv b433, .unset] [(.int (1 : Int32)), (.int (1 : Int32)), (.int (2 : Int32)), (.ref b1), (.int ((own_p31 (1 : Int32)) + (x2 * (own_p31 (0 : Int32)))))])) _
        refine st453 _ ?_
        show Steps p.tables e below (T453.setTop (mkF m 99 #[iv p0_0, iv p0_1, iv p0_2, rv b1, iv (2 : Int32), iv (1 : Int32), rv b433, .unset] [(.int (0 : Int32)), (.int ((own_p31 (1 : Int32)) + (x2 * (own_p31 (0 : Int32)))))])) _
        refine XS.iadd X453.here hx rfl (hb hby at_99) rfl ?_
        refine XS.aloadN X453.here hx rfl (hb hby at_100) rfl rfl ?_
        show Steps p.tables e below (T453.setTop (mkF m 101 #[iv p0_0, iv p0_1, iv p0_2, rv b1, iv (2 : Int32), iv (1 : Int32), rv b433, .unset] [(.ref b1), (.int (((own_p31 (1 : Int32)) + (x2 * (own_p31 (0 : Int32)))) + (0 : Int32)))])) _
        refine XS.iload X453.here hx rfl (hb hby at_101) rfl ?_
        refine XS.iload X453.here hx rfl (hb hby at_103) rfl ?_
        refine XS.iconst X453.here hx rfl (hb hby at_105) ?_
        show Steps p.tables e below (T453.setTop (mkF m 106 #[iv p0_0, iv p0_1, iv p0_2, rv b1, iv (2 : Int32), iv (1 : Int32), rv b433, .unset] [(.int (2 : Int32)), (.int (1 : Int32)), (.int (2 : Int32)), (.ref b1), (.int (((own_p31 (1 : Int32)) + (x2 * (own_p31 (0 : Int32)))) + (0 : Int32)))])) _
        refine st455 _ ?_
        show Steps p.tables e below (T455.setTop (mkF m 109 #[iv p0_0, iv p0_1, iv p0_2, rv b1, iv (2 : Int32), iv (1 : Int32), rv b433, .unset] [(.int (0 : Int32)), (.int (((own_p31 (1 : Int32)) + (x2 * (own_p31 (0 : Int32)))) + (0 : Int32)))])) _
        refine XS.iadd X455.here hx rfl (hb hby at_109) rfl ?_
        refine XS.aloadN X455.here hx rfl (hb hby at_110) rfl rfl ?_
        refine XS.iload X455.here hx rfl (hb hby at_111) rfl ?_
        refine XS.iload X455.here hx rfl (hb hby at_113) rfl ?_
        show Steps p.tables e below (T455.setTop (mkF m 115 #[iv p0_0, iv p0_1, iv p0_2, rv b1, iv (2 : Int32), iv (1 : Int32), rv b433, .unset] [(.int (1 : Int32)), (.int (2 : Int32)), (.ref b1), (.int ((((own_p31 (1 : Int32)) + (x2 * (own_p31 (0 : Int32)))) + (0 : Int32)) + (0 : Int32)))])) _
        refine XS.iconst X455.here hx rfl (hb hby at_115) ?_
        show Steps p.tables e below (T455.setTop (mkF m 116 #[iv p0_0, iv p0_1, iv p0_2, rv b1, iv (2 : Int32), iv (1 : Int32), rv b433, .unset] [(.int (3 : Int32)), (.int (1 : Int32)), (.int (2 : Int32)), (.ref b1), (.int ((((own_p31 (1 : Int32)) + (x2 * (own_p31 (0 : Int32)))) + (0 : Int32)) + (0 : Int32)))])) _
        refine st457 _ ?_
        show Steps p.tables e below (T457.setTop (mkF m 119 #[iv p0_0, iv p0_1, iv p0_2, rv b1, iv (2 : Int32), iv (1 : Int32), rv b433, .unset] [(.int (0 : Int32)), (.int ((((own_p31 (1 : Int32)) + (x2 * (own_p31 (0 : Int32)))) + (0 : Int32)) + (0 : Int32)))])) _
        refine XS.iadd X457.here hx rfl (hb hby at_119) rfl ?_
        refine XS.aloadN X457.here hx rfl (hb hby at_120) rfl rfl ?_
        show Steps p.tables e below (T457.setTop (mkF m 121 #[iv p0_0, iv p0_1, iv p0_2, rv b1, iv (2 : Int32), iv (1 : Int32), rv b433, .unset] [(.ref b1), (.int (((((own_p31 (1 : Int32)) + (x2 * (own_p31 (0 : Int32)))) + (0 : Int32)) + (0 : Int32)) + (0 : Int32)))])) _
        refine XS.iload X457.here hx rfl (hb hby at_121) rfl ?_
        refine XS.iload X457.here hx rfl (hb hby at_123) rfl ?_
        refine XS.iconst X457.here hx rfl (hb hby at_125) ?_
        show Steps p.tables e below (T457.setTop (mkF m 126 #[iv p0_0, iv p0_1, iv p0_2, rv b1, iv (2 : Int32), iv (1 : Int32), rv b433, .unset] [(.int (4 : Int32)), (.int (1 : Int32)), (.int (2 : Int32)), (.ref b1), (.int (((((own_p31 (1 : Int32)) + (x2 * (own_p31 (0 : Int32)))) + (0 : Int32)) + (0 : Int32)) + (0 : Int32)))])) _
        refine st459 _ ?_
        show Steps p.tables e below (T459.setTop (mkF m 129 #[iv p0_0, iv p0_1, iv p0_2, rv b1, iv (2 : Int32), iv (1 : Int32), rv b433, .unset] [(.int (0 : Int32)), (.int (((((own_p31 (1 : Int32)) + (x2 * (own_p31 (0 : Int32)))) + (0 : Int32)) + (0 : Int32)) + (0 : Int32)))])) _
        refine XS.iadd X459.here hx rfl (hb hby at_129) rfl ?_
        refine XS.istore X459.here hx rfl (hb hby at_130) rfl (l' := #[iv p0_0, iv p0_1, iv p0_2, rv b1, iv (2 : Int32), iv (1 : Int32), rv b433, iv ((((((own_p31 (1 : Int32)) + (x2 * (own_p31 (0 : Int32)))) + (0 : Int32)) + (0 : Int32)) + (0 : Int32)) + (0 : Int32))]) rfl ?_
        refine XS.aload X459.here hx rfl (hb hby at_132) rfl rfl ?_
        show Steps p.tables e below (T459.setTop (mkF m 134 #[iv p0_0, iv p0_1, iv p0_2, rv b1, iv (2 : Int32), iv (1 : Int32), rv b433, iv ((((((own_p31 (1 : Int32)) + (x2 * (own_p31 (0 : Int32)))) + (0 : Int32)) + (0 : Int32)) + (0 : Int32)) + (0 : Int32))] [(.ref b433)])) _
        refine st461.trans ?_
        show Steps p.tables e below (T461.setTop (mkF m 137 #[iv p0_0, iv p0_1, iv p0_2, rv b1, iv (2 : Int32), iv (1 : Int32), rv b433, iv ((((((own_p31 (1 : Int32)) + (x2 * (own_p31 (0 : Int32)))) + (0 : Int32)) + (0 : Int32)) + (0 : Int32)) + (0 : Int32))] [(.int ((31 : Int32) + x2))])) _
        refine XS.iload X461.here hx rfl (hb hby at_137) rfl ?_
        refine XS.icmpNo X461.here hx rfl (hb hby at_139) rfl (teq hc464).2 ?_
        refine XS.iconst X461.here hx rfl (hb hby at_142) ?_
        refine XS.goto X461.here hx rfl (pc0 := 143) (pc' := 147) rfl (hb hby at_143) (by decide) (by decide) ?_
        show Steps p.tables e below (T461.setTop (mkF m 147 #[iv p0_0, iv p0_1, iv p0_2, rv b1, iv (2 : Int32), iv (1 : Int32), rv b433, iv ((((((own_p31 (1 : Int32)) + (x2 * (own_p31 (0 : Int32)))) + (0 : Int32)) + (0 : Int32)) + (0 : Int32)) + (0 : Int32))] [(.int (1 : Int32))])) _
        exact retN X461 hx (t := .boolean) Bd.returns (by simp) (hb hby at_147) hr
      · show Q_rm0 Z _ _ _ h0 n0 _ T461.heap _
        rw [K461q]
        exact ⟨rfl, N463, (K446)⟩
    · skip
      obtain ⟨T465, h465, X465, e465, E465, A465, D465, -, st465⟩ := newO X32 hx hZ hown wo2 wo3 wo4 e32 (g := (mkF m 61 #[iv p0_0, iv p0_1, iv p0_2, rv b1, iv (2 : Int32), iv (2 : Int32), .unset, .unset] [])) rfl (hb hby at_61) (by decide) (by decide)
      obtain ⟨b465, gg465⟩ : ∃ z, z = h32.size := ⟨_, rfl⟩
      rw [← gg465] at A465 D465 st465
      have ne466 : b1 ≠ b465 := Nat.ne_of_lt (Nat.lt_of_lt_of_le f40.lt (Nat.le_of_eq gg465.symm))
      have f468 := (Nat.le_trans (Nat.le_trans (Nat.le_trans (Nat.le_trans (Nat.le_trans (Nat.le_trans Z0 E1.1) (Keep.of_wr W8).1) (Keep.of_wr W14).1) (Keep.of_wr W20).1) (Keep.of_wr W26).1) (Keep.of_wr W32).1)
      have g467 : n0 ≤ b465 := Nat.le_trans f468 (Nat.le_of_eq gg465.symm)
      have bz469 : h0.size ≤ b465 := Nat.le_trans (K33).1 (Nat.le_of_eq gg465.symm)
      have K470 : Keep h0 h465 [] := (K33).ext E465
      have f471 : Fld Z h465 b465 "com/example/tailwake/tailwake/source/mariadb/Slice" "array" "[B" .null := D465 (Or.inr wo20) (ty := (.array .byte)) (by decide)
      have f472 : Fld Z h465 b465 "com/example/tailwake/tailwake/source/mariadb/Slice" "offset" "I" (.int (0 : Int32)) := D465 (Or.inr wo22) (ty := .int) (by decide)
      have f473 : Fld Z h465 b465 "com/example/tailwake/tailwake/source/mariadb/Slice" "length" "I" (.int (0 : Int32)) := D465 (Or.inr wo24) (ty := .int) (by decide)
      have f474 := (f40.ext E465)
      have f476 := (Nat.le_trans f468 E465.1)
      obtain ⟨_, _, ⟨T475, L475, k475, n475⟩, -, X475, ⟨Lc475, hQ475, l475, y475, z475⟩, st475⟩ := X465.specialBack hx (y := MN1) rfl hown (mvT hZ wo5) (mvT hZ wo6) (mvT hZ wo7) (by decide) (backOf (W := 1) (rm1 l Z a0 hw [] b465 b1 (2 : Int32) (2 : Int32) h465 n0 f476 A465 g467 f471 f472 f473 f474.al (by first | decide | assumption | omega : ¬ ((((5 : Int32) ||| (2 : Int32)) ||| (2 : Int32)) < (0 : Int32))) (by first | decide | assumption | omega : ¬ (((5 : Int32) - (2 : Int32)) < (2 : Int32)))) hZ wo7 wo4 (by decide) (by decide)) (g := (mkF m 70 #[iv p0_0, iv p0_1, iv p0_2, rv b1, iv (2 : Int32), iv (2 : Int32), .unset, .unset] [(.int (2 : Int32)), (.int (2 : Int32)), (.ref b1), (.ref b465), (.ref b465)])) rfl (by rw [hml]; rfl) (Steps.refl _) (a := b465) (argsL := [(.ref b1), (.int (2 : Int32)), (.int (2 : Int32))]) (rest := [(.ref b465)]) (lenOf pd_5 rfl) rfl (by show 2 * 0 + _ ≤ _; exact Nat.le_of_eq rfl) (hb hby at_70) (fun _ _ => ⟨rfl, e465, (by decide : 2 + 0 ≤ _), (by decide : 8 + 0 ≤ _)⟩)
      dsimp only [Pt.U, Pt.locs, Pt.cells, Pt.slots] at X475 l475 y475 z475 st475 hQ475
      rw [l475, y475, z475] at X475
      obtain ⟨rfl, N475q, K475q, hq475_0, hq475_1, hq475_2⟩ := hQ475
      have N477 := Fr.app N35 N475q
      have K478 : Keep h0 T475.heap [] := (K470).trans K475q (allS (P := fun x => x ∈ [] ∨ h0.size ≤ x) (Or.inr bz469) all0)
      have f480 := (Nat.le_trans f476 K475q.1)
      obtain ⟨_, _, ⟨T479, L479, k479, n479⟩, -, X479, ⟨Lc479, hQ479, l479, y479, z479⟩, st479⟩ := Jvm.LawKit.callS X475 hx (y := MN5) hown (mvT hZ wo25) (mvT hZ wo26) (mvT hZ wo27) (mvT hZ wo28) (by decide) (backOf (W := 0) (rm5 l Z a0 hw [] (2 : Int32) (T475.heap) n0 f480 ) hZ wo28 wo27 (by decide) (by decide)) (g := (mkF m 77 #[iv p0_0, iv p0_1, iv p0_2, rv b1, iv (2 : Int32), iv (2 : Int32), rv b465, .unset] [(.int (2 : Int32))])) rfl (by rw [hml]; rfl) (argsL := [(.int (2 : Int32))]) (rest := []) (lenOf pd_2 rfl) rfl (by show 2 * 0 + _ ≤ _; exact Nat.le_of_eq rfl) (hb hby at_77) (fun _ _ => ⟨rfl, rfl, (by decide : 2 + 0 ≤ _), (by decide : 8 + 0 ≤ _)⟩)
      dsimp only [Pt.U, Pt.locs, Pt.cells, Pt.slots] at X479 l479 y479 z479 st479 hQ479
      rw [l479, y479, z479] at X479
      obtain ⟨rfl, N479q, K479q⟩ := hQ479
      have N481 := Fr.app N477 N479q
      have f482 := (f474.keep K475q (ninS ne466 nin0))
      obtain ⟨_, _, ⟨T483, L483, k483, n483⟩, -, X483, ⟨Lc483, hQ483, l483, y483, z483⟩, st483⟩ := Jvm.LawKit.callS X479 hx (y := MN6) hown (mvT hZ wo29) (mvT hZ wo30) (mvT hZ wo27) (mvT hZ wo31) (by decide) (backOf (W := 1) (rm_t2 l Z a0 hw [] b1 (2 : Int32) (2 : Int32) (0 : Int32) x0 x1 x2 x3 x4 (T475.heap) n0 f480 f482 (by first | decide | assumption | omega : (0 : Int32) < (2 : Int32)) (by first | decide | assumption | omega : ((2 : Int32) + (0 : Int32)) = (2 : Int32))) hZ wo31 wo27 (by decide) (by decide)) (g := (mkF m 86 #[iv p0_0, iv p0_1, iv p0_2, rv b1, iv (2 : Int32), iv (2 : Int32), rv b465, .unset] [(.int (0 : Int32)), (.int (2 : Int32)), (.int (2 : Int32)), (.ref b1), (.int (own_p31 (2 : Int32)))])) rfl (by rw [hml]; rfl) (argsL := [(.ref b1), (.int (2 : Int32)), (.int (2 : Int32)), (.int (0 : Int32))]) (rest := [(.int (own_p31 (2 : Int32)))]) (lenOf pd_6 rfl) rfl (by show 2 * 0 + _ ≤ _; exact Nat.le_of_eq rfl) (hb hby at_86) (fun _ _ => ⟨rfl, K479q, (by decide : 2 + 0 ≤ _), (by decide : 8 + 0 ≤ _)⟩)
      dsimp only [Pt.U, Pt.locs, Pt.cells, Pt.slots] at X483 l483 y483 z483 st483 hQ483
      rw [l483, y483, z483] at X483
      obtain ⟨rfl, N483q, K483q⟩ := hQ483
      have N484 := Fr.app N481 N483q
      obtain ⟨_, _, ⟨T485, L485, k485, n485⟩, -, X485, ⟨Lc485, hQ485, l485, y485, z485⟩, st485⟩ := Jvm.LawKit.callS X483 hx (y := MN6) hown (mvT hZ wo29) (mvT hZ wo30) (mvT hZ wo27) (mvT hZ wo31) (by decide) (backOf (W := 1) (rm_t3 l Z a0 hw [] b1 (2 : Int32) (2 : Int32) (1 : Int32) x0 x1 x2 x3 x4 (T475.heap) n0 f480 f482 (by first | decide | assumption | omega : (1 : Int32) < (2 : Int32)) (by first | decide | assumption | omega : ((2 : Int32) + (1 : Int32)) = (3 : Int32))) hZ wo31 wo27 (by decide) (by decide)) (g := (mkF m 96 #[iv p0_0, iv p0_1, iv p0_2, rv b1, iv (2 : Int32), iv (2 : Int32), rv b465, .unset] [(.int (1 : Int32)), (.int (2 : Int32)), (.int (2 : Int32)), (.ref b1), (.int ((own_p31 (2 : Int32)) + (x2 * (own_p31 (1 : Int32)))))])) rfl (by rw [hml]; rfl) (argsL := [(.ref b1), (.int (2 : Int32)), (.int (2 : Int32)), (.int (1 : Int32))]) (rest := [(.int ((own_p31 (2 : Int32)) + (x2 * (own_p31 (1 : Int32)))))]) (lenOf pd_6 rfl) rfl (by show 2 * 0 + _ ≤ _; exact Nat.le_of_eq rfl) (hb hby at_96) (fun _ _ => ⟨rfl, K483q, (by decide : 2 + 0 ≤ _), (by decide : 8 + 0 ≤ _)⟩)
      dsimp only [Pt.U, Pt.locs, Pt.cells, Pt.slots] at X485 l485 y485 z485 st485 hQ485
      rw [l485, y485, z485] at X485
      obtain ⟨rfl, N485q, K485q⟩ := hQ485
      have N486 := Fr.app N484 N485q
      obtain ⟨_, _, ⟨T487, L487, k487, n487⟩, -, X487, ⟨Lc487, hQ487, l487, y487, z487⟩, st487⟩ := Jvm.LawKit.callS X485 hx (y := MN6) hown (mvT hZ wo29) (mvT hZ wo30) (mvT hZ wo27) (mvT hZ wo31) (by decide) (backOf (W := 1) (rm_t l Z a0 hw [] b1 (2 : Int32) (2 : Int32) (2 : Int32) (T475.heap) n0 f480 (by first | decide | assumption | omega : ¬ ((2 : Int32) < (2 : Int32)))) hZ wo31 wo27 (by decide) (by decide)) (g := (mkF m 106 #[iv p0_0, iv p0_1, iv p0_2, rv b1, iv (2 : Int32), iv (2 : Int32), rv b465, .unset] [(.int (2 : Int32)), (.int (2 : Int32)), (.int (2 : Int32)), (.ref b1), (.int (((own_p31 (2 : Int32)) + (x2 * (own_p31 (1 : Int32)))) + (x3 * (own_p31 (0 : Int32)))))])) rfl (by rw [hml]; rfl) (argsL := [(.ref b1), (.int (2 : Int32)), (.int (2 : Int32)), (.int (2 : Int32))]) (rest := [(.int (((own_p31 (2 : Int32)) + (x2 * (own_p31 (1 : Int32)))) + (x3 * (own_p31 (0 : Int32)))))]) (lenOf pd_6 rfl) rfl (by show 2 * 0 + _ ≤ _; exact Nat.le_of_eq rfl) (hb hby at_106) (fun _ _ => ⟨rfl, K485q, (by decide : 2 + 0 ≤ _), (by decide : 8 + 0 ≤ _)⟩)
      dsimp only [Pt.U, Pt.locs, Pt.cells, Pt.slots] at X487 l487 y487 z487 st487 hQ487
      rw [l487, y487, z487] at X487
      obtain ⟨rfl, N487q, K487q⟩ := hQ487
      have N488 := Fr.app N486 N487q
      obtain ⟨_, _, ⟨T489, L489, k489, n489⟩, -, X489, ⟨Lc489, hQ489, l489, y489, z489⟩, st489⟩ := Jvm.LawKit.callS X487 hx (y := MN6) hown (mvT hZ wo29) (mvT hZ wo30) (mvT hZ wo27) (mvT hZ wo31) (by decide) (backOf (W := 1) (rm_t l Z a0 hw [] b1 (2 : Int32) (2 : Int32) (3 : Int32) (T475.heap) n0 f480 (by first | decide | assumption | omega : ¬ ((3 : Int32) < (2 : Int32)))) hZ wo31 wo27 (by decide) (by decide)) (g := (mkF m 116 #[iv p0_0, iv p0_1, iv p0_2, rv b1, iv (2 : Int32), iv (2 : Int32), rv b465, .unset] [(.int (3 : Int32)), (.int (2 : Int32)), (.int (2 : Int32)), (.ref b1), (.int ((((own_p31 (2 : Int32)) + (x2 * (own_p31 (1 : Int32)))) + (x3 * (own_p31 (0 : Int32)))) + (0 : Int32)))])) rfl (by rw [hml]; rfl) (argsL := [(.ref b1), (.int (2 : Int32)), (.int (2 : Int32)), (.int (3 : Int32))]) (rest := [(.int ((((own_p31 (2 : Int32)) + (x2 * (own_p31 (1 : Int32)))) + (x3 * (own_p31 (0 : Int32)))) + (0 : Int32)))]) (lenOf pd_6 rfl) rfl (by show 2 * 0 + _ ≤ _; exact Nat.le_of_eq rfl) (hb hby at_116) (fun _ _ => ⟨rfl, K487q, (by decide : 2 + 0 ≤ _), (by decide : 8 + 0 ≤ _)⟩)
      dsimp only [Pt.U, Pt.locs, Pt.cells, Pt.slots] at X489 l489 y489 z489 st489 hQ489
      rw [l489, y489, z489] at X489
      obtain ⟨rfl, N489q, K489q⟩ := hQ489
      have N490 := Fr.app N488 N489q
      obtain ⟨_, _, ⟨T491, L491, k491, n491⟩, -, X491, ⟨Lc491, hQ491, l491, y491, z491⟩, st491⟩ := Jvm.LawKit.callS X489 hx (y := MN6) hown (mvT hZ wo29) (mvT hZ wo30) (mvT hZ wo27) (mvT hZ wo31) (by decide) (backOf (W := 1) (rm_t l Z a0 hw [] b1 (2 : Int32) (2 : Int32) (4 : Int32) (T475.heap) n0 f480 (by first | decide | assumption | omega : ¬ ((4 : Int32) < (2 : Int32)))) hZ wo31 wo27 (by decide) (by decide)) (g := (mkF m 126 #[iv p0_0, iv p0_1, iv p0_2, rv b1, iv (2 : Int32), iv (2 : Int32), rv b465, .unset] [(.int (4 : Int32)), (.int (2 : Int32)), (.int (2 : Int32)), (.ref b1), (.int (((((own_p31 (2 : Int32)) + (x2 * (own_p31 (1 : Int32)))) + (x3 * (own_p31 (0 : Int32)))) + (0 : Int32)) + (0 : Int32)))])) rfl (by rw [hml]; rfl) (argsL := [(.ref b1), (.int (2 : Int32)), (.int (2 : Int32)), (.int (4 : Int32))]) (rest := [(.int (((((own_p31 (2 : Int32)) + (x2 * (own_p31 (1 : Int32)))) + (x3 * (own_p31 (0 : Int32)))) + (0 : Int32)) + (0 : Int32)))]) (lenOf pd_6 rfl) rfl (by show 2 * 0 + _ ≤ _; exact Nat.le_of_eq rfl) (hb hby at_126) (fun _ _ => ⟨rfl, K489q, (by decide : 2 + 0 ≤ _), (by decide : 8 + 0 ≤ _)⟩)
      dsimp only [Pt.U, Pt.locs, Pt.cells, Pt.slots] at X491 l491 y491 z491 st491 hQ491
      rw [l491, y491, z491] at X491
      obtain ⟨rfl, N491q, K491q⟩ := hQ491
      have N492 := Fr.app N490 N491q
      have f494 := (A465.keep K475q)
      obtain ⟨cq493, kq493, q493a, q493b, q493c⟩ := isOf hZ K491q f494
      obtain ⟨_, _, ⟨T493, L493, k493, n493⟩, -, X493, ⟨Lc493, hQ493, l493, y493, z493⟩, st493⟩ := X491.virtualBack hx (y := MN7) (z := MN7) hown (mvT hZ wo32) (mvT hZ wo33) (notFace_of_selects (args := #[]) (mvT hZ wo35)) (mvT hZ wo35) (mvT hZ wo34) (by decide) (backOf (W := 0) (rm_h2_2 l Z a0 hw [] b465 b1 x0 x1 x2 x3 x4 (T475.heap) n0 f480 hq475_0 hq475_1 hq475_2 f482) hZ wo36 wo4 (by decide) (by decide)) q493a q493c (g := (mkF m 134 #[iv p0_0, iv p0_1, iv p0_2, rv b1, iv (2 : Int32), iv (2 : Int32), rv b465, iv ((((((own_p31 (2 : Int32)) + (x2 * (own_p31 (1 : Int32)))) + (x3 * (own_p31 (0 : Int32)))) + (0 : Int32)) + (0 : Int32)) + (0 : Int32))] [(.ref b465)])) rfl (by rw [hml]; rfl) (Steps.refl _) (argsL := []) (rest := []) (lenOf pd_0 rfl) rfl (by show 2 * 0 + _ ≤ _; exact Nat.le_of_eq rfl) (hb hby at_134) (fun _ _ => ⟨rfl, K491q, (by decide : 2 + 0 ≤ _), (by decide : 8 + 0 ≤ _)⟩)
      dsimp only [Pt.U, Pt.locs, Pt.cells, Pt.slots] at X493 l493 y493 z493 st493 hQ493
      rw [l493, y493, z493] at X493
      obtain ⟨rfl, N493q, K493q⟩ := hQ493
      have N495 := Fr.app N492 N493q
      have hc496 : (((31 : Int32) * ((31 : Int32) + x2)) + x3) = ((((((own_p31 (2 : Int32)) + (x2 * (own_p31 (1 : Int32)))) + (x3 * (own_p31 (0 : Int32)))) + (0 : Int32)) + (0 : Int32)) + (0 : Int32)) := (by simp only [own_q0, own_q1, own_q2, own_q3, own_q4, own_q5]; first | rfl | grind)
      obtain ⟨fs, hr, hrun, hended, hW, hsame⟩ := X493.leave (v := some (.int (1 : Int32))) (fun h => by rw [Bd.returns] at h; cases h)
      refine ⟨_, _, pre399 _ ?_, hrun, hended, _, _, rfl, ?_, ⟨_, rfl⟩, hW, hsame.mono (by decide) (by decide)⟩
      · show Steps p.tables e below (T32.setTop (mkF m 61 #[iv p0_0, iv p0_1, iv p0_2, rv b1, iv (2 : Int32), iv (2 : Int32), .unset, .unset] [])) _
        refine st465 _ ?_
        show Steps p.tables e below (T465.setTop (mkF m 64 #[iv p0_0, iv p0_1, iv p0_2, rv b1, iv (2 : Int32), iv (2 : Int32), .unset, .unset] [(.ref b465)])) _
        refine XS.dup X465.here hx rfl (hb hby at_64) rfl rfl ?_
        refine XS.aloadN X465.here hx rfl (hb hby at_65) rfl rfl ?_
        refine XS.iload X465.here hx rfl (hb hby at_66) rfl ?_
        show Steps p.tables e below (T465.setTop (mkF m 68 #[iv p0_0, iv p0_1, iv p0_2, rv b1, iv (2 : Int32), iv (2 : Int32), .unset, .unset] [(.int (2 : Int32)), (.ref b1), (.ref b465), (.ref b465)])) _
        refine XS.iload X465.here hx rfl (hb hby at_68) rfl ?_
        show Steps p.tables e below (T465.setTop (mkF m 70 #[iv p0_0, iv p0_1, iv p0_2, rv b1, iv (2 : Int32), iv (2 : Int32), .unset, .unset] [(.int (2 : Int32)), (.int (2 : Int32)), (.ref b1), (.ref b465), (.ref b465)])) _
        refine st475.trans ?_
        show Steps p.tables e below (T475.setTop (mkF m 73 #[iv p0_0, iv p0_1, iv p0_2, rv b1, iv (2 : Int32), iv (2 : Int32), .unset, .unset] [(.ref b465)])) _
        refine XS.astore X475.here hx rfl (hb hby at_73) rfl rfl (l' := #[iv p0_0, iv p0_1, iv p0_2, rv b1, iv (2 : Int32), iv (2 : Int32), rv b465, .unset]) rfl ?_
        refine XS.iload X475.here hx rfl (hb hby at_75) rfl ?_
        show Steps p.tables e below (T475.setTop (mkF m 77 #[iv p0_0, iv p0_1, iv p0_2, rv b1, iv (2 : Int32), iv (2 : Int32), rv b465, .unset] [(.int (2 : Int32))])) _
        refine st479 _ ?_
        show Steps p.tables e below (T479.setTop (mkF m 80 #[iv p0_0, iv p0_1, iv p0_2, rv b1, iv (2 : Int32), iv (2 : Int32), rv b465, .unset] [(.int (own_p31 (2 : Int32)))])) _
        refine XS.aloadN X479.here hx rfl (hb hby at_80) rfl rfl ?_
        refine XS.iload X479.here hx rfl (hb hby at_81) rfl ?_
        refine XS.iload X479.here hx rfl (hb hby at_83) rfl ?_
        show Steps p.tables e below (T479.setTop (mkF m 85 #[iv p0_0, iv p0_1, iv p0_2, rv b1, iv (2 : Int32), iv (2 : Int32), rv b465, .unset] [(.int (2 : Int32)), (.int (2 : Int32)), (.ref b1), (.int (own_p31 (2 : Int32)))])) _
        refine XS.iconst X479.here hx rfl (hb hby at_85) ?_
        show Steps p.tables e below (T479.setTop (mkF m 86 #[iv p0_0, iv p0_1, iv p0_2, rv b1, iv (2 : Int32), iv (2 : Int32), rv b465, .unset] [(.int (0 : Int32)), (.int (2 : Int32)), (.int (2 : Int32)), (.ref b1), (.int (own_p31 (2 : Int32)))])) _
        refine st483 _ ?_
        show Steps p.tables e below (T483.setTop (mkF m 89 #[iv p0_0, iv p0_1, iv p0_2, rv b1, iv (2 : Int32), iv (2 : Int32), rv b465, .unset] [(.int (x2 * (own_p31 (1 : Int32)))), (.int (own_p31 (2 : Int32)))])) _
        refine XS.iadd X483.here hx rfl (hb hby at_89) rfl ?_
        refine XS.aloadN X483.here hx rfl (hb hby at_90) rfl rfl ?_
        show Steps p.tables e below (T483.setTop (mkF m 91 #[iv p0_0, iv p0_1, iv p0_2, rv b1, iv (2 : Int32), iv (2 : Int32), rv b465, .unset] [(.ref b1), (.int ((own_p31 (2 : Int32)) + (x2 * (own_p31 (1 : Int32)))))])) _
        refine XS.iload X483.here hx rfl (hb hby at_91) rfl ?_
        refine XS.iload X483.here hx rfl (hb hby at_93) rfl ?_
        refine XS.iconst X483.here hx rfl (hb hby at_95) ?_
        show Steps p.tables e below (T483.setTop (mkF m 96 #[iv p0_0, iv p0_1, iv p0_2, rv b1, iv (2 : Int32), iv (2 : Int32), rv b465, .unset] [(.int (1 : Int32)), (.int (2 : Int32)), (.int (2 : Int32)), (.ref b1), (.int ((own_p31 (2 : Int32)) + (x2 * (own_p31 (1 : Int32)))))])) _
        refine st485 _ ?_
        show Steps p.tables e below (T485.setTop (mkF m 99 #[iv p0_0, iv p0_1, iv p0_2, rv b1, iv (2 : Int32), iv (2 : Int32), rv b465, .unset] [(.int (x3 * (own_p31 (0 : Int32)))), (.int ((own_p31 (2 : Int32)) + (x2 * (own_p31 (1 : Int32)))))])) _
        refine XS.iadd X485.here hx rfl (hb hby at_99) rfl ?_
        refine XS.aloadN X485.here hx rfl (hb hby at_100) rfl rfl ?_
        refine XS.iload X485.here hx rfl (hb hby at_101) rfl ?_
        refine XS.iload X485.here hx rfl (hb hby at_103) rfl ?_
        show Steps p.tables e below (T485.setTop (mkF m 105 #[iv p0_0, iv p0_1, iv p0_2, rv b1, iv (2 : Int32), iv (2 : Int32), rv b465, .unset] [(.int (2 : Int32)), (.int (2 : Int32)), (.ref b1), (.int (((own_p31 (2 : Int32)) + (x2 * (own_p31 (1 : Int32)))) + (x3 * (own_p31 (0 : Int32)))))])) _
        refine XS.iconst X485.here hx rfl (hb hby at_105) ?_
        show Steps p.tables e below (T485.setTop (mkF m 106 #[iv p0_0, iv p0_1, iv p0_2, rv b1, iv (2 : Int32), iv (2 : Int32), rv b465, .unset] [(.int (2 : Int32)), (.int (2 : Int32)), (.int (2 : Int32)), (.ref b1), (.int (((own_p31 (2 : Int32)) + (x2 * (own_p31 (1 : Int32)))) + (x3 * (own_p31 (0 : Int32)))))])) _
        refine st487 _ ?_
        show Steps p.tables e below (T487.setTop (mkF m 109 #[iv p0_0, iv p0_1, iv p0_2, rv b1, iv (2 : Int32), iv (2 : Int32), rv b465, .unset] [(.int (0 : Int32)), (.int (((own_p31 (2 : Int32)) + (x2 * (own_p31 (1 : Int32)))) + (x3 * (own_p31 (0 : Int32)))))])) _
        refine XS.iadd X487.here hx rfl (hb hby at_109) rfl ?_
        refine XS.aloadN X487.here hx rfl (hb hby at_110) rfl rfl ?_
        show Steps p.tables e below (T487.setTop (mkF m 111 #[iv p0_0, iv p0_1, iv p0_2, rv b1, iv (2 : Int32), iv (2 : Int32), rv b465, .unset] [(.ref b1), (.int ((((own_p31 (2 : Int32)) + (x2 * (own_p31 (1 : Int32)))) + (x3 * (own_p31 (0 : Int32)))) + (0 : Int32)))])) _
        refine XS.iload X487.here hx rfl (hb hby at_111) rfl ?_
        refine XS.iload X487.here hx rfl (hb hby at_113) rfl ?_
        refine XS.iconst X487.here hx rfl (hb hby at_115) ?_
        show Steps p.tables e below (T487.setTop (mkF m 116 #[iv p0_0, iv p0_1, iv p0_2, rv b1, iv (2 : Int32), iv (2 : Int32), rv b465, .unset] [(.int (3 : Int32)), (.int (2 : Int32)), (.int (2 : Int32)), (.ref b1), (.int ((((own_p31 (2 : Int32)) + (x2 * (own_p31 (1 : Int32)))) + (x3 * (own_p31 (0 : Int32)))) + (0 : Int32)))])) _
        refine st489 _ ?_
        show Steps p.tables e below (T489.setTop (mkF m 119 #[iv p0_0, iv p0_1, iv p0_2, rv b1, iv (2 : Int32), iv (2 : Int32), rv b465, .unset] [(.int (0 : Int32)), (.int ((((own_p31 (2 : Int32)) + (x2 * (own_p31 (1 : Int32)))) + (x3 * (own_p31 (0 : Int32)))) + (0 : Int32)))])) _
        refine XS.iadd X489.here hx rfl (hb hby at_119) rfl ?_
        refine XS.aloadN X489.here hx rfl (hb hby at_120) rfl rfl ?_
        refine XS.iload X489.here hx rfl (hb hby at_121) rfl ?_
        refine XS.iload X489.here hx rfl (hb hby at_123) rfl ?_
        show Steps p.tables e below (T489.setTop (mkF m 125 #[iv p0_0, iv p0_1, iv p0_2, rv b1, iv (2 : Int32), iv (2 : Int32), rv b465, .unset] [(.int (2 : Int32)), (.int (2 : Int32)), (.ref b1), (.int (((((own_p31 (2 : Int32)) + (x2 * (own_p31 (1 : Int32)))) + (x3 * (own_p31 (0 : Int32)))) + (0 : Int32)) + (0 : Int32)))])) _
        refine XS.iconst X489.here hx rfl (hb hby at_125) ?_
        show Steps p.tables e below (T489.setTop (mkF m 126 #[iv p0_0, iv p0_1, iv p0_2, rv b1, iv (2 : Int32), iv (2 : Int32), rv b465, .unset] [(.int (4 : Int32)), (.int (2 : Int32)), (.int (2 : Int32)), (.ref b1), (.int (((((own_p31 (2 : Int32)) + (x2 * (own_p31 (1 : Int32)))) + (x3 * (own_p31 (0 : Int32)))) + (0 : Int32)) + (0 : Int32)))])) _
        refine st491 _ ?_
        show Steps p.tables e below (T491.setTop (mkF m 129 #[iv p0_0, iv p0_1, iv p0_2, rv b1, iv (2 : Int32), iv (2 : Int32), rv b465, .unset] [(.int (0 : Int32)), (.int (((((own_p31 (2 : Int32)) + (x2 * (own_p31 (1 : Int32)))) + (x3 * (own_p31 (0 : Int32)))) + (0 : Int32)) + (0 : Int32)))])) _
        refine XS.iadd X491.here hx rfl (hb hby at_129) rfl ?_
        refine XS.istore X491.here hx rfl (hb hby at_130) rfl (l' := #[iv p0_0, iv p0_1, iv p0_2, rv b1, iv (2 : Int32), iv (2 : Int32), rv b465, iv ((((((own_p31 (2 : Int32)) + (x2 * (own_p31 (1 : Int32)))) + (x3 * (own_p31 (0 : Int32)))) + (0 : Int32)) + (0 : Int32)) + (0 : Int32))]) rfl ?_
        show Steps p.tables e below (T491.setTop (mkF m 132 #[iv p0_0, iv p0_1, iv p0_2, rv b1, iv (2 : Int32), iv (2 : Int32), rv b465, iv ((((((own_p31 (2 : Int32)) + (x2 * (own_p31 (1 : Int32)))) + (x3 * (own_p31 (0 : Int32)))) + (0 : Int32)) + (0 : Int32)) + (0 : Int32))] [])) _
        refine XS.aload X491.here hx rfl (hb hby at_132) rfl rfl ?_
        show Steps p.tables e below (T491.setTop (mkF m 134 #[iv p0_0, iv p0_1, iv p0_2, rv b1, iv (2 : Int32), iv (2 : Int32), rv b465, iv ((((((own_p31 (2 : Int32)) + (x2 * (own_p31 (1 : Int32)))) + (x3 * (own_p31 (0 : Int32)))) + (0 : Int32)) + (0 : Int32)) + (0 : Int32))] [(.ref b465)])) _
        refine st493.trans ?_
        show Steps p.tables e below (T493.setTop (mkF m 137 #[iv p0_0, iv p0_1, iv p0_2, rv b1, iv (2 : Int32), iv (2 : Int32), rv b465, iv ((((((own_p31 (2 : Int32)) + (x2 * (own_p31 (1 : Int32)))) + (x3 * (own_p31 (0 : Int32)))) + (0 : Int32)) + (0 : Int32)) + (0 : Int32))] [(.int (((31 : Int32) * ((31 : Int32) + x2)) + x3))])) _
        refine XS.iload X493.here hx rfl (hb hby at_137) rfl ?_
        refine XS.icmpNo X493.here hx rfl (hb hby at_139) rfl (teq hc496).2 ?_
        show Steps p.tables e below (T493.setTop (mkF m 142 #[iv p0_0, iv p0_1, iv p0_2, rv b1, iv (2 : Int32), iv (2 : Int32), rv b465, iv ((((((own_p31 (2 : Int32)) + (x2 * (own_p31 (1 : Int32)))) + (x3 * (own_p31 (0 : Int32)))) + (0 : Int32)) + (0 : Int32)) + (0 : Int32))] [])) _
        refine XS.iconst X493.here hx rfl (hb hby at_142) ?_
        refine XS.goto X493.here hx rfl (pc0 := 143) (pc' := 147) rfl (hb hby at_143) (by decide) (by decide) ?_
        show Steps p.tables e below (T493.setTop (mkF m 147 #[iv p0_0, iv p0_1, iv p0_2, rv b1, iv (2 : Int32), iv (2 : Int32), rv b465, iv ((((((own_p31 (2 : Int32)) + (x2 * (own_p31 (1 : Int32)))) + (x3 * (own_p31 (0 : Int32)))) + (0 : Int32)) + (0 : Int32)) + (0 : Int32))] [(.int (1 : Int32))])) _
        exact retN X493 hx (t := .boolean) Bd.returns (by simp) (hb hby at_147) hr
      · show Q_rm0 Z _ _ _ h0 n0 _ T493.heap _
        rw [K493q]
        exact ⟨rfl, N495, (K478)⟩
    · skip
      obtain ⟨T497, h497, X497, e497, E497, A497, D497, -, st497⟩ := newO X32 hx hZ hown wo2 wo3 wo4 e32 (g := (mkF m 61 #[iv p0_0, iv p0_1, iv p0_2, rv b1, iv (2 : Int32), iv (3 : Int32), .unset, .unset] [])) rfl (hb hby at_61) (by decide) (by decide)
      obtain ⟨b497, gg497⟩ : ∃ z, z = h32.size := ⟨_, rfl⟩
      rw [← gg497] at A497 D497 st497
      have ne498 : b1 ≠ b497 := Nat.ne_of_lt (Nat.lt_of_lt_of_le f40.lt (Nat.le_of_eq gg497.symm))
      have f500 := (Nat.le_trans (Nat.le_trans (Nat.le_trans (Nat.le_trans (Nat.le_trans (Nat.le_trans Z0 E1.1) (Keep.of_wr W8).1) (Keep.of_wr W14).1) (Keep.of_wr W20).1) (Keep.of_wr W26).1) (Keep.of_wr W32).1)
      have g499 : n0 ≤ b497 := Nat.le_trans f500 (Nat.le_of_eq gg497.symm)
      have bz501 : h0.size ≤ b497 := Nat.le_trans (K33).1 (Nat.le_of_eq gg497.symm)
      have K502 : Keep h0 h497 [] := (K33).ext E497
      have f503 : Fld Z h497 b497 "com/example/tailwake/tailwake/source/mariadb/Slice" "array" "[B" .null := D497 (Or.inr wo20) (ty := (.array .byte)) (by decide)
      have f504 : Fld Z h497 b497 "com/example/tailwake/tailwake/source/mariadb/Slice" "offset" "I" (.int (0 : Int32)) := D497 (Or.inr wo22) (ty := .int) (by decide)
      have f505 : Fld Z h497 b497 "com/example/tailwake/tailwake/source/mariadb/Slice" "length" "I" (.int (0 : Int32)) := D497 (Or.inr wo24) (ty := .int) (by decide)
      have f506 := (f40.ext E497)
      have f508 := (Nat.le_trans f500 E497.1)
      obtain ⟨_, _, ⟨T507, L507, k507, n507⟩, -, X507, ⟨Lc507, hQ507, l507, y507, z507⟩, st507⟩ := X497.specialBack hx (y := MN1) rfl hown (mvT hZ wo5) (mvT hZ wo6) (mvT hZ wo7) (by decide) (backOf (W := 1) (rm1 l Z a0 hw [] b497 b1 (2 : Int32) (3 : Int32) h497 n0 f508 A497 g499 f503 f504 f505 f506.al (by first | decide | assumption | omega : ¬ ((((5 : Int32) ||| (2 : Int32)) ||| (3 : Int32)) < (0 : Int32))) (by first | decide | assumption | omega : ¬ (((5 : Int32) - (2 : Int32)) < (3 : Int32)))) hZ wo7 wo4 (by decide) (by decide)) (g := (mkF m 70 #[iv p0_0, iv p0_1, iv p0_2, rv b1, iv (2 : Int32), iv (3 : Int32), .unset, .unset] [(.int (3 : Int32)), (.int (2 : Int32)), (.ref b1), (.ref b497), (.ref b497)])) rfl (by rw [hml]; rfl) (Steps.refl _) (a := b497) (argsL := [(.ref b1), (.int (2 : Int32)), (.int (3 : Int32))]) (rest := [(.ref b497)]) (lenOf pd_5 rfl) rfl (by show 2 * 0 + _ ≤ _; exact Nat.le_of_eq rfl) (hb hby at_70) (fun _ _ => ⟨rfl, e497, (by decide : 2 + 0 ≤ _), (by decide : 8 + 0 ≤ _)⟩)
      dsimp only [Pt.U, Pt.locs, Pt.cells, Pt.slots] at X507 l507 y507 z507 st507 hQ507
      rw [l507, y507, z507] at X507
      obtain ⟨rfl, N507q, K507q, hq507_0, hq507_1, hq507_2⟩ := hQ507
      have N509 := Fr.app N35 N507q
      have K510 : Keep h0 T507.heap [] := (K502).trans K507q (allS (P := fun x => x ∈ [] ∨ h0.size ≤ x) (Or.inr bz501) all0)
      have f512 := (Nat.le_trans f508 K507q.1)
      obtain ⟨_, _, ⟨T511, L511, k511, n511⟩, -, X511, ⟨Lc511, hQ511, l511, y511, z511⟩, st511⟩ := Jvm.LawKit.callS X507 hx (y := MN5) hown (mvT hZ wo25) (mvT hZ wo26) (mvT hZ wo27) (mvT hZ wo28) (by decide) (backOf (W := 0) (rm5 l Z a0 hw [] (3 : Int32) (T507.heap) n0 f512 ) hZ wo28 wo27 (by decide) (by decide)) (g := (mkF m 77 #[iv p0_0, iv p0_1, iv p0_2, rv b1, iv (2 : Int32), iv (3 : Int32), rv b497, .unset] [(.int (3 : Int32))])) rfl (by rw [hml]; rfl) (argsL := [(.int (3 : Int32))]) (rest := []) (lenOf pd_2 rfl) rfl (by show 2 * 0 + _ ≤ _; exact Nat.le_of_eq rfl) (hb hby at_77) (fun _ _ => ⟨rfl, rfl, (by decide : 2 + 0 ≤ _), (by decide : 8 + 0 ≤ _)⟩)
      dsimp only [Pt.U, Pt.locs, Pt.cells, Pt.slots] at X511 l511 y511 z511 st511 hQ511
      rw [l511, y511, z511] at X511
      obtain ⟨rfl, N511q, K511q⟩ := hQ511
      have N513 := Fr.app N509 N511q
      have f514 := (f506.keep K507q (ninS ne498 nin0))
      obtain ⟨_, _, ⟨T515, L515, k515, n515⟩, -, X515, ⟨Lc515, hQ515, l515, y515, z515⟩, st515⟩ := Jvm.LawKit.callS X511 hx (y := MN6) hown (mvT hZ wo29) (mvT hZ wo30) (mvT hZ wo27) (mvT hZ wo31) (by decide) (backOf (W := 1) (rm_t2 l Z a0 hw [] b1 (2 : Int32) (3 : Int32) (0 : Int32) x0 x1 x2 x3 x4 (T507.heap) n0 f512 f514 (by first | decide | assumption | omega : (0 : Int32) < (3 : Int32)) (by first | decide | assumption | omega : ((2 : Int32) + (0 : Int32)) = (2 : Int32))) hZ wo31 wo27 (by decide) (by decide)) (g := (mkF m 86 #[iv p0_0, iv p0_1, iv p0_2, rv b1, iv (2 : Int32), iv (3 : Int32), rv b497, .unset] [(.int (0 : Int32)), (.int (3 : Int32)), (.int (2 : Int32)), (.ref b1), (.int (own_p31 (3 : Int32)))])) rfl (by rw [hml]; rfl) (argsL := [(.ref b1), (.int (2 : Int32)), (.int (3 : Int32)), (.int (0 : Int32))]) (rest := [(.int (own_p31 (3 : Int32)))]) (lenOf pd_6 rfl) rfl (by show 2 * 0 + _ ≤ _; exact Nat.le_of_eq rfl) (hb hby at_86) (fun _ _ => ⟨rfl, K511q, (by decide : 2 + 0 ≤ _), (by decide : 8 + 0 ≤ _)⟩)
      dsimp only [Pt.U, Pt.locs, Pt.cells, Pt.slots] at X515 l515 y515 z515 st515 hQ515
      rw [l515, y515, z515] at X515
      obtain ⟨rfl, N515q, K515q⟩ := hQ515
      have N516 := Fr.app N513 N515q
      obtain ⟨_, _, ⟨T517, L517, k517, n517⟩, -, X517, ⟨Lc517, hQ517, l517, y517, z517⟩, st517⟩ := Jvm.LawKit.callS X515 hx (y := MN6) hown (mvT hZ wo29) (mvT hZ wo30) (mvT hZ wo27) (mvT hZ wo31) (by decide) (backOf (W := 1) (rm_t3 l Z a0 hw [] b1 (2 : Int32) (3 : Int32) (1 : Int32) x0 x1 x2 x3 x4 (T507.heap) n0 f512 f514 (by first | decide | assumption | omega : (1 : Int32) < (3 : Int32)) (by first | decide | assumption | omega : ((2 : Int32) + (1 : Int32)) = (3 : Int32))) hZ wo31 wo27 (by decide) (by decide)) (g := (mkF m 96 #[iv p0_0, iv p0_1, iv p0_2, rv b1, iv (2 : Int32), iv (3 : Int32), rv b497, .unset] [(.int (1 : Int32)), (.int (3 : Int32)), (.int (2 : Int32)), (.ref b1), (.int ((own_p31 (3 : Int32)) + (x2 * (own_p31 (2 : Int32)))))])) rfl (by rw [hml]; rfl) (argsL := [(.ref b1), (.int (2 : Int32)), (.int (3 : Int32)), (.int (1 : Int32))]) (rest := [(.int ((own_p31 (3 : Int32)) + (x2 * (own_p31 (2 : Int32)))))]) (lenOf pd_6 rfl) rfl (by show 2 * 0 + _ ≤ _; exact Nat.le_of_eq rfl) (hb hby at_96) (fun _ _ => ⟨rfl, K515q, (by decide : 2 + 0 ≤ _), (by decide : 8 + 0 ≤ _)⟩)
      dsimp only [Pt.U, Pt.locs, Pt.cells, Pt.slots] at X517 l517 y517 z517 st517 hQ517
      rw [l517, y517, z517] at X517
      obtain ⟨rfl, N517q, K517q⟩ := hQ517
      have N518 := Fr.app N516 N517q
      obtain ⟨_, _, ⟨T519, L519, k519, n519⟩, -, X519, ⟨Lc519, hQ519, l519, y519, z519⟩, st519⟩ := Jvm.LawKit.callS X517 hx (y := MN6) hown (mvT hZ wo29) (mvT hZ wo30) (mvT hZ wo27) (mvT hZ wo31) (by decide) (backOf (W := 1) (rm_t4 l Z a0 hw [] b1 (2 : Int32) (3 : Int32) (2 : Int32) x0 x1 x2 x3 x4 (T507.heap) n0 f512 f514 (by first | decide | assumption | omega : (2 : Int32) < (3 : Int32)) (by first | decide | assumption | omega : ((2 : Int32) + (2 : Int32)) = (4 : Int32))) hZ wo31 wo27 (by decide) (by decide)) (g := (mkF m 106 #[iv p0_0, iv p0_1, iv p0_2, rv b1, iv (2 : Int32), iv (3 : Int32), rv b497, .unset] [(.int (2 : Int32)), (.int (3 : Int32)), (.int (2 : Int32)), (.ref b1), (.int (((own_p31 (3 : Int32)) + (x2 * (own_p31 (2 : Int32)))) + (x3 * (own_p31 (1 : Int32)))))])) rfl (by rw [hml]; rfl) (argsL := [(.ref b1), (.int (2 : Int32)), (.int (3 : Int32)), (.int (2 : Int32))]) (rest := [(.int (((own_p31 (3 : Int32)) + (x2 * (own_p31 (2 : Int32)))) + (x3 * (own_p31 (1 : Int32)))))]) (lenOf pd_6 rfl) rfl (by show 2 * 0 + _ ≤ _; exact Nat.le_of_eq rfl) (hb hby at_106) (fun _ _ => ⟨rfl, K517q, (by decide : 2 + 0 ≤ _), (by decide : 8 + 0 ≤ _)⟩)
      dsimp only [Pt.U, Pt.locs, Pt.cells, Pt.slots] at X519 l519 y519 z519 st519 hQ519
      rw [l519, y519, z519] at X519
      obtain ⟨rfl, N519q, K519q⟩ := hQ519
      have N520 := Fr.app N518 N519q
      obtain ⟨_, _, ⟨T521, L521, k521, n521⟩, -, X521, ⟨Lc521, hQ521, l521, y521, z521⟩, st521⟩ := Jvm.LawKit.callS X519 hx (y := MN6) hown (mvT hZ wo29) (mvT hZ wo30) (mvT hZ wo27) (mvT hZ wo31) (by decide) (backOf (W := 1) (rm_t l Z a0 hw [] b1 (2 : Int32) (3 : Int32) (3 : Int32) (T507.heap) n0 f512 (by first | decide | assumption | omega : ¬ ((3 : Int32) < (3 : Int32)))) hZ wo31 wo27 (by decide) (by decide)) (g := (mkF m 116 #[iv p0_0, iv p0_1, iv p0_2, rv b1, iv (2 : Int32), iv (3 : Int32), rv b497, .unset] [(.int (3 : Int32)), (.int (3 : Int32)), (.int (2 : Int32)), (.ref b1), (.int ((((own_p31 (3 : Int32)) + (x2 * (own_p31 (2 : Int32)))) + (x3 * (own_p31 (1 : Int32)))) + (x4 * (own_p31 (0 : Int32)))))])) rfl (by rw [hml]; rfl) (argsL := [(.ref b1), (.int (2 : Int32)), (.int (3 : Int32)), (.int (3 : Int32))]) (rest := [(.int ((((own_p31 (3 : Int32)) + (x2 * (own_p31 (2 : Int32)))) + (x3 * (own_p31 (1 : Int32)))) + (x4 * (own_p31 (0 : Int32)))))]) (lenOf pd_6 rfl) rfl (by show 2 * 0 + _ ≤ _; exact Nat.le_of_eq rfl) (hb hby at_116) (fun _ _ => ⟨rfl, K519q, (by decide : 2 + 0 ≤ _), (by decide : 8 + 0 ≤ _)⟩)
      dsimp only [Pt.U, Pt.locs, Pt.cells, Pt.slots] at X521 l521 y521 z521 st521 hQ521
      rw [l521, y521, z521] at X521
      obtain ⟨rfl, N521q, K521q⟩ := hQ521
      have N522 := Fr.app N520 N521q
      obtain ⟨_, _, ⟨T523, L523, k523, n523⟩, -, X523, ⟨Lc523, hQ523, l523, y523, z523⟩, st523⟩ := Jvm.LawKit.callS X521 hx (y := MN6) hown (mvT hZ wo29) (mvT hZ wo30) (mvT hZ wo27) (mvT hZ wo31) (by decide) (backOf (W := 1) (rm_t l Z a0 hw [] b1 (2 : Int32) (3 : Int32) (4 : Int32) (T507.heap) n0 f512 (by first | decide | assumption | omega : ¬ ((4 : Int32) < (3 : Int32)))) hZ wo31 wo27 (by decide) (by decide)) (g := (mkF m 126 #[iv p0_0, iv p0_1, iv p0_2, rv b1, iv (2 : Int32), iv (3 : Int32), rv b497, .unset] [(.int (4 : Int32)), (.int (3 : Int32)), (.int (2 : Int32)), (.ref b1), (.int (((((own_p31 (3 : Int32)) + (x2 * (own_p31 (2 : Int32)))) + (x3 * (own_p31 (1 : Int32)))) + (x4 * (own_p31 (0 : Int32)))) + (0 : Int32)))])) rfl (by rw [hml]; rfl) (argsL := [(.ref b1), (.int (2 : Int32)), (.int (3 : Int32)), (.int (4 : Int32))]) (rest := [(.int (((((own_p31 (3 : Int32)) + (x2 * (own_p31 (2 : Int32)))) + (x3 * (own_p31 (1 : Int32)))) + (x4 * (own_p31 (0 : Int32)))) + (0 : Int32)))]) (lenOf pd_6 rfl) rfl (by show 2 * 0 + _ ≤ _; exact Nat.le_of_eq rfl) (hb hby at_126) (fun _ _ => ⟨rfl, K521q, (by decide : 2 + 0 ≤ _), (by decide : 8 + 0 ≤ _)⟩)
      dsimp only [Pt.U, Pt.locs, Pt.cells, Pt.slots] at X523 l523 y523 z523 st523 hQ523
      rw [l523, y523, z523] at X523
      obtain ⟨rfl, N523q, K523q⟩ := hQ523
      have N524 := Fr.app N522 N523q
      have f526 := (A497.keep K507q)
      obtain ⟨cq525, kq525, q525a, q525b, q525c⟩ := isOf hZ K523q f526
      obtain ⟨_, _, ⟨T525, L525, k525, n525⟩, -, X525, ⟨Lc525, hQ525, l525, y525, z525⟩, st525⟩ := X523.virtualBack hx (y := MN7) (z := MN7) hown (mvT hZ wo32) (mvT hZ wo33) (notFace_of_selects (args := #[]) (mvT hZ wo35)) (mvT hZ wo35) (mvT hZ wo34) (by decide) (backOf (W := 0) (rm_h2_3 l Z a0 hw [] b497 b1 x0 x1 x2 x3 x4 (T507.heap) n0 f512 hq507_0 hq507_1 hq507_2 f514) hZ wo36 wo4 (by decide) (by decide)) q525a q525c (g := (mkF m 134 #[iv p0_0, iv p0_1, iv p0_2, rv b1, iv (2 : Int32), iv (3 : Int32), rv b497, iv ((((((own_p31 (3 : Int32)) + (x2 * (own_p31 (2 : Int32)))) + (x3 * (own_p31 (1 : Int32)))) + (x4 * (own_p31 (0 : Int32)))) + (0 : Int32)) + (0 : Int32))] [(.ref b497)])) rfl (by rw [hml]; rfl) (Steps.refl _) (argsL := []) (rest := []) (lenOf pd_0 rfl) rfl (by show 2 * 0 + _ ≤ _; exact Nat.le_of_eq rfl) (hb hby at_134) (fun _ _ => ⟨rfl, K523q, (by decide : 2 + 0 ≤ _), (by decide : 8 + 0 ≤ _)⟩)
      dsimp only [Pt.U, Pt.locs, Pt.cells, Pt.slots] at X525 l525 y525 z525 st525 hQ525
      rw [l525, y525, z525] at X525
      obtain ⟨rfl, N525q, K525q⟩ := hQ525
      have N527 := Fr.app N524 N525q
      have hc528 : (((31 : Int32) * (((31 : Int32) * ((31 : Int32) + x2)) + x3)) + x4) = ((((((own_p31 (3 : Int32)) + (x2 * (own_p31 (2 : Int32)))) + (x3 * (own_p31 (1 : Int32)))) + (x4 * (own_p31 (0 : Int32)))) + (0 : Int32)) + (0 : Int32)) := (by simp only [own_q0, own_q1, own_q2, own_q3, own_q4, own_q5]; first | rfl | grind)
      obtain ⟨fs, hr, hrun, hended, hW, hsame⟩ := X525.leave (v := some (.int (1 : Int32))) (fun h => by rw [Bd.returns] at h; cases h)
      refine ⟨_, _, pre399 _ ?_, hrun, hended, _, _, rfl, ?_, ⟨_, rfl⟩, hW, hsame.mono (by decide) (by decide)⟩
      · show Steps p.tables e below (T32.setTop (mkF m 61 #[iv p0_0, iv p0_1, iv p0_2, rv b1, iv (2 : Int32), iv (3 : Int32), .unset, .unset] [])) _
        refine st497 _ ?_
        show Steps p.tables e below (T497.setTop (mkF m 64 #[iv p0_0, iv p0_1, iv p0_2, rv b1, iv (2 : Int32), iv (3 : Int32), .unset, .unset] [(.ref b497)])) _
        refine XS.dup X497.here hx rfl (hb hby at_64) rfl rfl ?_
        show Steps p.tables e below (T497.setTop (mkF m 65 #[iv p0_0, iv p0_1, iv p0_2, rv b1, iv (2 : Int32), iv (3 : Int32), .unset, .unset] [(.ref b497), (.ref b497)])) _
        refine XS.aloadN X497.here hx rfl (hb hby at_65) rfl rfl ?_
        refine XS.iload X497.here hx rfl (hb hby at_66) rfl ?_
        refine XS.iload X497.here hx rfl (hb hby at_68) rfl ?_
        show Steps p.tables e below (T497.setTop (mkF m 70 #[iv p0_0, iv p0_1, iv p0_2, rv b1, iv (2 : Int32), iv (3 : Int32), .unset, .unset] [(.int (3 : Int32)), (.int (2 : Int32)), (.ref b1), (.ref b497), (.ref b497)])) _
        refine st507.trans ?_
        show Steps p.tables e below (T507.setTop (mkF m 73 #[iv p0_0, iv p0_1, iv p0_2, rv b1, iv (2 : Int32), iv (3 : Int32), .unset, .unset] [(.ref b497)])) _
        refine XS.astore X507.here hx rfl (hb hby at_73) rfl rfl (l' := #[iv p0_0, iv p0_1, iv p0_2, rv b1, iv (2 : Int32), iv (3 : Int32), rv b497, .unset]) rfl ?_
        refine XS.iload X507.here hx rfl (hb hby at_75) rfl ?_
        show Steps p.tables e below (T507.setTop (mkF m 77 #[iv p0_0, iv p0_1, iv p0_2, rv b1, iv (2 : Int32), iv (3 : Int32), rv b497, .unset] [(.int (3 : Int32))])) _
        refine st511 _ ?_
        show Steps p.tables e below (T511.setTop (mkF m 80 #[iv p0_0, iv p0_1, iv p0_2, rv b1, iv (2 : Int32), iv (3 : Int32), rv b497, .unset] [(.int (own_p31 (3 : Int32)))])) _
        refine XS.aloadN X511.here hx rfl (hb hby at_80) rfl rfl ?_
        show Steps p.tables e below (T511.setTop (mkF m 81 #[iv p0_0, iv p0_1, iv p0_2, rv b1, iv (2 : Int32), iv (3 : Int32), rv b497, .unset] [(.ref b1), (.int (own_p31 (3 : Int32)))])) _
        refine XS.iload X511.here hx rfl (hb hby at_81) rfl ?_
        refine XS.iload X511.here hx rfl (hb hby at_83) rfl ?_
        refine XS.iconst X511.here hx rfl (hb hby at_85) ?_
        show Steps p.tables e below (T511.setTop (mkF m 86 #[iv p0_0, iv p0_1, iv p0_2, rv b1, iv (2 : Int32), iv (3 : Int32), rv b497, .unset] [(.int (0 : Int32)), (.int (3 : Int32)), (.int (2 : Int32)), (.ref b1), (.int (own_p31 (3 : Int32)))])) _
        refine st515 _ ?_
        show Steps p.tables e below (T515.setTop (mkF m 89 #[iv p0_0, iv p0_1, iv p0_2, rv b1, iv (2 : Int32), iv (3 : Int32), rv b497, .unset] [(.int (x2 * (own_p31 (2 : Int32)))), (.int (own_p31 (3 : Int32)))])) _
        refine XS.iadd X515.here hx rfl (hb hby at_89) rfl ?_
        refine XS.aloadN X515.here hx rfl (hb hby at_90) rfl rfl ?_
        refine XS.iload X515.here hx rfl (hb hby at_91) rfl ?_
        refine XS.iload X515.here hx rfl (hb hby at_93) rfl ?_
        show Steps p.tables e below (T515.setTop (mkF m 95 #[iv p0_0, iv p0_1, iv p0_2, rv b1, iv (2 : Int32), iv (3 : Int32), rv b497, .unset] [(.int (3 : Int32)), (.int (2 : Int32)), (.ref b1), (.int ((own_p31 (3 : Int32)) + (x2 * (own_p31 (2 : Int32)))))])) _
        refine XS.iconst X515.here hx rfl (hb hby at_95) ?_
        show Steps p.tables e below (T515.setTop (mkF m 96 #[iv p0_0, iv p0_1, iv p0_2, rv b1, iv (2 : Int32), iv (3 : Int32), rv b497, .unset] [(.int (1 : Int32)), (.int (3 : Int32)), (.int (2 : Int32)), (.ref b1), (.int ((own_p31 (3 : Int32)) + (x2 * (own_p31 (2 : Int32)))))])) _
        refine st517 _ ?_
        show Steps p.tables e below (T517.setTop (mkF m 99 #[iv p0_0, iv p0_1, iv p0_2, rv b1, iv (2 : Int32), iv (3 : Int32), rv b497, .unset] [(.int (x3 * (own_p31 (1 : Int32)))), (.int ((own_p31 (3 : Int32)) + (x2 * (own_p31 (2 : Int32)))))])) _
        refine XS.iadd X517.here hx rfl (hb hby at_99) rfl ?_
        refine XS.aloadN X517.here hx rfl (hb hby at_100) rfl rfl ?_
        show Steps p.tables e below (T517.setTop (mkF m 101 #[iv p0_0, iv p0_1, iv p0_2, rv b1, iv (2 : Int32), iv (3 : Int32), rv b497, .unset] [(.ref b1), (.int (((own_p31 (3 : Int32)) + (x2 * (own_p31 (2 : Int32)))) + (x3 * (own_p31 (1 : Int32)))))])) _
        refine XS.iload X517.here hx rfl (hb hby at_101) rfl ?_
        refine XS.iload X517.here hx rfl (hb hby at_103) rfl ?_
        refine XS.iconst X517.here hx rfl (hb hby at_105) ?_
        show Steps p.tables e below (T517.setTop (mkF m 106 #[iv p0_0, iv p0_1, iv p0_2, rv b1, iv (2 : Int32), iv (3 : Int32), rv b497, .unset] [(.int (2 : Int32)), (.int (3 : Int32)), (.int (2 : Int32)), (.ref b1), (.int (((own_p31 (3 : Int32)) + (x2 * (own_p31 (2 : Int32)))) + (x3 * (own_p31 (1 : Int32)))))])) _
        refine st519 _ ?_
        show Steps p.tables e below (T519.setTop (mkF m 109 #[iv p0_0, iv p0_1, iv p0_2, rv b1, iv (2 : Int32), iv (3 : Int32), rv b497, .unset] [(.int (x4 * (own_p31 (0 : Int32)))), (.int (((own_p31 (3 : Int32)) + (x2 * (own_p31 (2 : Int32)))) + (x3 * (own_p31 (1 : Int32)))))])) _
        refine XS.iadd X519.here hx rfl (hb hby at_109) rfl ?_
        refine XS.aloadN X519.here hx rfl (hb hby at_110) rfl rfl ?_
        refine XS.iload X519.here hx rfl (hb hby at_111) rfl ?_
        refine XS.iload X519.here hx rfl (hb hby at_113) rfl ?_
        show Steps p.tables e below (T519.setTop (mkF m 115 #[iv p0_0, iv p0_1, iv p0_2, rv b1, iv (2 : Int32), iv (3 : Int32), rv b497, .unset] [(.int (3 : Int32)), (.int (2 : Int32)), (.ref b1), (.int ((((own_p31 (3 : Int32)) + (x2 * (own_p31 (2 : Int32)))) + (x3 * (own_p31 (1 : Int32)))) + (x4 * (own_p31 (0 : Int32)))))])) _
        refine XS.iconst X519.here hx rfl (hb hby at_115) ?_
        show Steps p.tables e below (T519.setTop (mkF m 116 #[iv p0_0, iv p0_1, iv p0_2, rv b1, iv (2 : Int32), iv (3 : Int32), rv b497, .unset] [(.int (3 : Int32)), (.int (3 : Int32)), (.int (2 : Int32)), (.ref b1), (.int ((((own_p31 (3 : Int32)) + (x2 * (own_p31 (2 : Int32)))) + (x3 * (own_p31 (1 : Int32)))) + (x4 * (own_p31 (0 : Int32)))))])) _
        refine st521 _ ?_
        show Steps p.tables e below (T521.setTop (mkF m 119 #[iv p0_0, iv p0_1, iv p0_2, rv b1, iv (2 : Int32), iv (3 : Int32), rv b497, .unset] [(.int (0 : Int32)), (.int ((((own_p31 (3 : Int32)) + (x2 * (own_p31 (2 : Int32)))) + (x3 * (own_p31 (1 : Int32)))) + (x4 * (own_p31 (0 : Int32)))))])) _
        refine XS.iadd X521.here hx rfl (hb hby at_119) rfl ?_
        refine XS.aloadN X521.here hx rfl (hb hby at_120) rfl rfl ?_
        show Steps p.tables e below (T521.setTop (mkF m 121 #[iv p0_0, iv p0_1, iv p0_2, rv b1, iv (2 : Int32), iv (3 : Int32), rv b497, .unset] [(.ref b1), (.int (((((own_p31 (3 : Int32)) + (x2 * (own_p31 (2 : Int32)))) + (x3 * (own_p31 (1 : Int32)))) + (x4 * (own_p31 (0 : Int32)))) + (0 : Int32)))])) _
        refine XS.iload X521.here hx rfl (hb hby at_121) rfl ?_
        refine XS.iload X521.here hx rfl (hb hby at_123) rfl ?_
        refine XS.iconst X521.here hx rfl (hb hby at_125) ?_
        show Steps p.tables e below (T521.setTop (mkF m 126 #[iv p0_0, iv p0_1, iv p0_2, rv b1, iv (2 : Int32), iv (3 : Int32), rv b497, .unset] [(.int (4 : Int32)), (.int (3 : Int32)), (.int (2 : Int32)), (.ref b1), (.int (((((own_p31 (3 : Int32)) + (x2 * (own_p31 (2 : Int32)))) + (x3 * (own_p31 (1 : Int32)))) + (x4 * (own_p31 (0 : Int32)))) + (0 : Int32)))])) _
        refine st523 _ ?_
        show Steps p.tables e below (T523.setTop (mkF m 129 #[iv p0_0, iv p0_1, iv p0_2, rv b1, iv (2 : Int32), iv (3 : Int32), rv b497, .unset] [(.int (0 : Int32)), (.int (((((own_p31 (3 : Int32)) + (x2 * (own_p31 (2 : Int32)))) + (x3 * (own_p31 (1 : Int32)))) + (x4 * (own_p31 (0 : Int32)))) + (0 : Int32)))])) _
        refine XS.iadd X523.here hx rfl (hb hby at_129) rfl ?_
        refine XS.istore X523.here hx rfl (hb hby at_130) rfl (l' := #[iv p0_0, iv p0_1, iv p0_2, rv b1, iv (2 : Int32), iv (3 : Int32), rv b497, iv ((((((own_p31 (3 : Int32)) + (x2 * (own_p31 (2 : Int32)))) + (x3 * (own_p31 (1 : Int32)))) + (x4 * (own_p31 (0 : Int32)))) + (0 : Int32)) + (0 : Int32))]) rfl ?_
        refine XS.aload X523.here hx rfl (hb hby at_132) rfl rfl ?_
        show Steps p.tables e below (T523.setTop (mkF m 134 #[iv p0_0, iv p0_1, iv p0_2, rv b1, iv (2 : Int32), iv (3 : Int32), rv b497, iv ((((((own_p31 (3 : Int32)) + (x2 * (own_p31 (2 : Int32)))) + (x3 * (own_p31 (1 : Int32)))) + (x4 * (own_p31 (0 : Int32)))) + (0 : Int32)) + (0 : Int32))] [(.ref b497)])) _
        refine st525.trans ?_
        show Steps p.tables e below (T525.setTop (mkF m 137 #[iv p0_0, iv p0_1, iv p0_2, rv b1, iv (2 : Int32), iv (3 : Int32), rv b497, iv ((((((own_p31 (3 : Int32)) + (x2 * (own_p31 (2 : Int32)))) + (x3 * (own_p31 (1 : Int32)))) + (x4 * (own_p31 (0 : Int32)))) + (0 : Int32)) + (0 : Int32))] [(.int (((31 : Int32) * (((31 : Int32) * ((31 : Int32) + x2)) + x3)) + x4))])) _
        refine XS.iload X525.here hx rfl (hb hby at_137) rfl ?_
        refine XS.icmpNo X525.here hx rfl (hb hby at_139) rfl (teq hc528).2 ?_
        refine XS.iconst X525.here hx rfl (hb hby at_142) ?_
        refine XS.goto X525.here hx rfl (pc0 := 143) (pc' := 147) rfl (hb hby at_143) (by decide) (by decide) ?_
        show Steps p.tables e below (T525.setTop (mkF m 147 #[iv p0_0, iv p0_1, iv p0_2, rv b1, iv (2 : Int32), iv (3 : Int32), rv b497, iv ((((((own_p31 (3 : Int32)) + (x2 * (own_p31 (2 : Int32)))) + (x3 * (own_p31 (1 : Int32)))) + (x4 * (own_p31 (0 : Int32)))) + (0 : Int32)) + (0 : Int32))] [(.int (1 : Int32))])) _
        exact retN X525 hx (t := .boolean) Bd.returns (by simp) (hb hby at_147) hr
      · show Q_rm0 Z _ _ _ h0 n0 _ T525.heap _
        rw [K525q]
        exact ⟨rfl, N527, (K510)⟩
  · skip
    obtain ⟨ln, h_ln⟩ : ∃ z : Int32, z = ((((p0_2.toUInt32 >>> ((3 : Int32) &&& 31).toUInt32).toInt32) &&& (2147483647 : Int32)) % (3 : Int32)) := ⟨_, rfl⟩
    have hln : 0 ≤ ln.toInt ∧ ln.toInt < 3 := by rw [h_ln]; exact own_len _ 3 (by decide)
    have pre529 : ∀ t, Steps p.tables e below (T32.setTop (mkF m 61 #[iv p0_0, iv p0_1, iv p0_2, rv b1, iv (3 : Int32), iv ln, .unset, .unset] [])) t → Steps p.tables e below (s₁.setTop (entryFrame m #[(.int p0_0), (.int p0_1), (.int p0_2)] maxLocals)) t := by
      intro t_ k_
      refine pre41 _ ?_
      show Steps p.tables e below (T32.setTop (mkF m 47 #[iv p0_0, iv p0_1, iv p0_2, rv b1, iv (3 : Int32), .unset, .unset, .unset] [])) _
      refine XS.iloadN X32.here hx rfl (hb hby at_47) rfl ?_
      refine XS.iconst X32.here hx rfl (hb hby at_48) ?_
      refine XS.iushr X32.here hx rfl (hb hby at_49) rfl ?_
      show Steps p.tables e below (T32.setTop (mkF m 50 #[iv p0_0, iv p0_1, iv p0_2, rv b1, iv (3 : Int32), .unset, .unset, .unset] [(.int ((p0_2.toUInt32 >>> ((3 : Int32) &&& 31).toUInt32).toInt32))])) _
      refine X32.ldcInt hx hown (mvT hZ wo1) (g := (mkF m 50 #[iv p0_0, iv p0_1, iv p0_2, rv b1, iv (3 : Int32), .unset, .unset, .unset] [(.int ((p0_2.toUInt32 >>> ((3 : Int32) &&& 31).toUInt32).toInt32))])) rfl (hb hby at_50) _ ?_
      show Steps p.tables e below (T32.setTop (mkF m 52 #[iv p0_0, iv p0_1, iv p0_2, rv b1, iv (3 : Int32), .unset, .unset, .unset] [(.int (2147483647 : Int32)), (.int ((p0_2.toUInt32 >>> ((3 : Int32) &&& 31).toUInt32).toInt32))])) _
      refine XS.iand X32.here hx rfl (hb hby at_52) rfl ?_
      refine XS.bipush X32.here hx rfl (hb hby at_53) ?_
      refine XS.iload X32.here hx rfl (hb hby at_55) rfl ?_
      show Steps p.tables e below (T32.setTop (mkF m 57 #[iv p0_0, iv p0_1, iv p0_2, rv b1, iv (3 : Int32), .unset, .unset, .unset] [(.int (3 : Int32)), (.int (6 : Int32)), (.int (((p0_2.toUInt32 >>> ((3 : Int32) &&& 31).toUInt32).toInt32) &&& (2147483647 : Int32)))])) _
      refine XS.isub X32.here hx rfl (hb hby at_57) rfl ?_
      show Steps p.tables e below (T32.setTop (mkF m 58 #[iv p0_0, iv p0_1, iv p0_2, rv b1, iv (3 : Int32), .unset, .unset, .unset] [(.int (3 : Int32)), (.int (((p0_2.toUInt32 >>> ((3 : Int32) &&& 31).toUInt32).toInt32) &&& (2147483647 : Int32)))])) _
      refine iremM (g := (mkF m 58 #[iv p0_0, iv p0_1, iv p0_2, rv b1, iv (3 : Int32), .unset, .unset, .unset] [(.int (3 : Int32)), (.int (((p0_2.toUInt32 >>> ((3 : Int32) &&& 31).toUInt32).toInt32) &&& (2147483647 : Int32)))])) X32 hx rfl (hb hby at_58) rfl (by decide) ?_
      show Steps p.tables e below (T32.setTop (mkF m 59 #[iv p0_0, iv p0_1, iv p0_2, rv b1, iv (3 : Int32), .unset, .unset, .unset] [(.int ((((p0_2.toUInt32 >>> ((3 : Int32) &&& 31).toUInt32).toInt32) &&& (2147483647 : Int32)) % (3 : Int32)))])) _
      refine XS.istore X32.here hx rfl (hb hby at_59) rfl (l' := #[iv p0_0, iv p0_1, iv p0_2, rv b1, iv (3 : Int32), iv ((((p0_2.toUInt32 >>> ((3 : Int32) &&& 31).toUInt32).toInt32) &&& (2147483647 : Int32)) % (3 : Int32)), .unset, .unset]) rfl ?_
      rw [← h_ln]
      show Steps p.tables e below (T32.setTop (mkF m 61 #[iv p0_0, iv p0_1, iv p0_2, rv b1, iv (3 : Int32), iv ln, .unset, .unset] [])) _
      exact k_
    have hx_530 : ln = (0 : Int32) ∨ ln = (1 : Int32) ∨ ln = (2 : Int32) := own_lt3 ln hln
    rcases hx_530 with rfl | rfl | rfl
    · skip
      obtain ⟨T531, h531, X531, e531, E531, A531, D531, -, st531⟩ := newO X32 hx hZ hown wo2 wo3 wo4 e32 (g := (mkF m 61 #[iv p0_0, iv p0_1, iv p0_2, rv b1, iv (3 : Int32), iv (0 : Int32), .unset, .unset] [])) rfl (hb hby at_61) (by decide) (by decide)
      obtain ⟨b531, gg531⟩ : ∃ z, z = h32.size := ⟨_, rfl⟩
      rw [← gg531] at A531 D531 st531
      have ne532 : b1 ≠ b531 := Nat.ne_of_lt (Nat.lt_of_lt_of_le f40.lt (Nat.le_of_eq gg531.symm))
      have f534 := (Nat.le_trans (Nat.le_trans (Nat.le_trans (Nat.le_trans (Nat.le_trans (Nat.le_trans Z0 E1.1) (Keep.of_wr W8).1) (Keep.of_wr W14).1) (Keep.of_wr W20).1) (Keep.of_wr W26).1) (Keep.of_wr W32).1)
      have g533 : n0 ≤ b531 := Nat.le_trans f534 (Nat.le_of_eq gg531.symm)
      have bz535 : h0.size ≤ b531 := Nat.le_trans (K33).1 (Nat.le_of_eq gg531.symm)
      have K536 : Keep h0 h531 [] := (K33).ext E531
      have f537 : Fld Z h531 b531 "com/example/tailwake/tailwake/source/mariadb/Slice" "array" "[B" .null := D531 (Or.inr wo20) (ty := (.array .byte)) (by decide)
      have f538 : Fld Z h531 b531 "com/example/tailwake/tailwake/source/mariadb/Slice" "offset" "I" (.int (0 : Int32)) := D531 (Or.inr wo22) (ty := .int) (by decide)
      have f539 : Fld Z h531 b531 "com/example/tailwake/tailwake/source/mariadb/Slice" "length" "I" (.int (0 : Int32)) := D531 (Or.inr wo24) (ty := .int) (by decide)
      have f540 := (f40.ext E531)
      have f542 := (Nat.le_trans f534 E531.1)
      obtain ⟨_, _, ⟨T541, L541, k541, n541⟩, -, X541, ⟨Lc541, hQ541, l541, y541, z541⟩, st541⟩ := X531.specialBack hx (y := MN1) rfl hown (mvT hZ wo5) (mvT hZ wo6) (mvT hZ wo7) (by decide) (backOf (W := 1) (rm1 l Z a0 hw [] b531 b1 (3 : Int32) (0 : Int32) h531 n0 f542 A531 g533 f537 f538 f539 f540.al (by first | decide | assumption | omega : ¬ ((((5 : Int32) ||| (3 : Int32)) ||| (0 : Int32)) < (0 : Int32))) (by first | decide | assumption | omega : ¬ (((5 : Int32) - (3 : Int32)) < (0 : Int32)))) hZ wo7 wo4 (by decide) (by decide)) (g := (mkF m 70 #[iv p0_0, iv p0_1, iv p0_2, rv b1, iv (3 : Int32), iv (0 : Int32), .unset, .unset] [(.int (0 : Int32)), (.int (3 : Int32)), (.ref b1), (.ref b531), (.ref b531)])) rfl (by rw [hml]; rfl) (Steps.refl _) (a := b531) (argsL := [(.ref b1), (.int (3 : Int32)), (.int (0 : Int32))]) (rest := [(.ref b531)]) (lenOf pd_5 rfl) rfl (by show 2 * 0 + _ ≤ _; exact Nat.le_of_eq rfl) (hb hby at_70) (fun _ _ => ⟨rfl, e531, (by decide : 2 + 0 ≤ _), (by decide : 8 + 0 ≤ _)⟩)
      dsimp only [Pt.U, Pt.locs, Pt.cells, Pt.slots] at X541 l541 y541 z541 st541 hQ541
      rw [l541, y541, z541] at X541
      obtain ⟨rfl, N541q, K541q, hq541_0, hq541_1, hq541_2⟩ := hQ541
      have N543 := Fr.app N35 N541q
      have K544 : Keep h0 T541.heap [] := (K536).trans K541q (allS (P := fun x => x ∈ [] ∨ h0.size ≤ x) (Or.inr bz535) all0)
      have f546 := (Nat.le_trans f542 K541q.1)
      obtain ⟨_, _, ⟨T545, L545, k545, n545⟩, -, X545, ⟨Lc545, hQ545, l545, y545, z545⟩, st545⟩ := Jvm.LawKit.callS X541 hx (y := MN5) hown (mvT hZ wo25) (mvT hZ wo26) (mvT hZ wo27) (mvT hZ wo28) (by decide) (backOf (W := 0) (rm5 l Z a0 hw [] (0 : Int32) (T541.heap) n0 f546 ) hZ wo28 wo27 (by decide) (by decide)) (g := (mkF m 77 #[iv p0_0, iv p0_1, iv p0_2, rv b1, iv (3 : Int32), iv (0 : Int32), rv b531, .unset] [(.int (0 : Int32))])) rfl (by rw [hml]; rfl) (argsL := [(.int (0 : Int32))]) (rest := []) (lenOf pd_2 rfl) rfl (by show 2 * 0 + _ ≤ _; exact Nat.le_of_eq rfl) (hb hby at_77) (fun _ _ => ⟨rfl, rfl, (by decide : 2 + 0 ≤ _), (by decide : 8 + 0 ≤ _)⟩)
      dsimp only [Pt.U, Pt.locs, Pt.cells, Pt.slots] at X545 l545 y545 z545 st545 hQ545
      rw [l545, y545, z545] at X545
      obtain ⟨rfl, N545q, K545q⟩ := hQ545
      have N547 := Fr.app N543 N545q
      obtain ⟨_, _, ⟨T548, L548, k548, n548⟩, -, X548, ⟨Lc548, hQ548, l548, y548, z548⟩, st548⟩ := Jvm.LawKit.callS X545 hx (y := MN6) hown (mvT hZ wo29) (mvT hZ wo30) (mvT hZ wo27) (mvT hZ wo31) (by decide) (backOf (W := 1) (rm_t l Z a0 hw [] b1 (3 : Int32) (0 : Int32) (0 : Int32) (T541.heap) n0 f546 (by first | decide | assumption | omega : ¬ ((0 : Int32) < (0 : Int32)))) hZ wo31 wo27 (by decide) (by decide)) (g := (mkF m 86 #[iv p0_0, iv p0_1, iv p0_2, rv b1, iv (3 : Int32), iv (0 : Int32), rv b531, .unset] [(.int (0 : Int32)), (.int (0 : Int32)), (.int (3 : Int32)), (.ref b1), (.int (own_p31 (0 : Int32)))])) rfl (by rw [hml]; rfl) (argsL := [(.ref b1), (.int (3 : Int32)), (.int (0 : Int32)), (.int (0 : Int32))]) (rest := [(.int (own_p31 (0 : Int32)))]) (lenOf pd_6 rfl) rfl (by show 2 * 0 + _ ≤ _; exact Nat.le_of_eq rfl) (hb hby at_86) (fun _ _ => ⟨rfl, K545q, (by decide : 2 + 0 ≤ _), (by decide : 8 + 0 ≤ _)⟩)
      dsimp only [Pt.U, Pt.locs, Pt.cells, Pt.slots] at X548 l548 y548 z548 st548 hQ548
      rw [l548, y548, z548] at X548
      obtain ⟨rfl, N548q, K548q⟩ := hQ548
      have N549 := Fr.app N547 N548q
      obtain ⟨_, _, ⟨T550, L550, k550, n550⟩, -, X550, ⟨Lc550, hQ550, l550, y550, z550⟩, st550⟩ := Jvm.LawKit.callS X548 hx (y := MN6) hown (mvT hZ wo29) (mvT hZ wo30) (mvT hZ wo27) (mvT hZ wo31) (by decide) (backOf (W := 1) (rm_t l Z a0 hw [] b1 (3 : Int32) (0 : Int32) (1 : Int32) (T541.heap) n0 f546 (by first | decide | assumption | omega : ¬ ((1 : Int32) < (0 : Int32)))) hZ wo31 wo27 (by decide) (by decide)) (g := (mkF m 96 #[iv p0_0, iv p0_1, iv p0_2, rv b1, iv (3 : Int32), iv (0 : Int32), rv b531, .unset] [(.int (1 : Int32)), (.int (0 : Int32)), (.int (3 : Int32)), (.ref b1), (.int ((own_p31 (0 : Int32)) + (0 : Int32)))])) rfl (by rw [hml]; rfl) (argsL := [(.ref b1), (.int (3 : Int32)), (.int (0 : Int32)), (.int (1 : Int32))]) (rest := [(.int ((own_p31 (0 : Int32)) + (0 : Int32)))]) (lenOf pd_6 rfl) rfl (by show 2 * 0 + _ ≤ _; exact Nat.le_of_eq rfl) (hb hby at_96) (fun _ _ => ⟨rfl, K548q, (by decide : 2 + 0 ≤ _), (by decide : 8 + 0 ≤ _)⟩)
      dsimp only [Pt.U, Pt.locs, Pt.cells, Pt.slots] at X550 l550 y550 z550 st550 hQ550
      rw [l550, y550, z550] at X550
      obtain ⟨rfl, N550q, K550q⟩ := hQ550
      have N551 := Fr.app N549 N550q
      obtain ⟨_, _, ⟨T552, L552, k552, n552⟩, -, X552, ⟨Lc552, hQ552, l552, y552, z552⟩, st552⟩ := Jvm.LawKit.callS X550 hx (y := MN6) hown (mvT hZ wo29) (mvT hZ wo30) (mvT hZ wo27) (mvT hZ wo31) (by decide) (backOf (W := 1) (rm_t l Z a0 hw [] b1 (3 : Int32) (0 : Int32) (2 : Int32) (T541.heap) n0 f546 (by first | decide | assumption | omega : ¬ ((2 : Int32) < (0 : Int32)))) hZ wo31 wo27 (by decide) (by decide)) (g := (mkF m 106 #[iv p0_0, iv p0_1, iv p0_2, rv b1, iv (3 : Int32), iv (0 : Int32), rv b531, .unset] [(.int (2 : Int32)), (.int (0 : Int32)), (.int (3 : Int32)), (.ref b1), (.int (((own_p31 (0 : Int32)) + (0 : Int32)) + (0 : Int32)))])) rfl (by rw [hml]; rfl) (argsL := [(.ref b1), (.int (3 : Int32)), (.int (0 : Int32)), (.int (2 : Int32))]) (rest := [(.int (((own_p31 (0 : Int32)) + (0 : Int32)) + (0 : Int32)))]) (lenOf pd_6 rfl) rfl (by show 2 * 0 + _ ≤ _; exact Nat.le_of_eq rfl) (hb hby at_106) (fun _ _ => ⟨rfl, K550q, (by decide : 2 + 0 ≤ _), (by decide : 8 + 0 ≤ _)⟩)
      dsimp only [Pt.U, Pt.locs, Pt.cells, Pt.slots] at X552 l552 y552 z552 st552 hQ552
      rw [l552, y552, z552] at X552
      obtain ⟨rfl, N552q, K552q⟩ := hQ552
      have N553 := Fr.app N551 N552q
      obtain ⟨_, _, ⟨T554, L554, k554, n554⟩, -, X554, ⟨Lc554, hQ554, l554, y554, z554⟩, st554⟩ := Jvm.LawKit.callS X552 hx (y := MN6) hown (mvT hZ wo29) (mvT hZ wo30) (mvT hZ wo27) (mvT hZ wo31) (by decide) (backOf (W := 1) (rm_t l Z a0 hw [] b1 (3 : Int32) (0 : Int32) (3 : Int32) (T541.heap) n0 f546 (by first | decide | assumption | omega : ¬ ((3 : Int32) < (0 : Int32)))) hZ wo31 wo27 (by decide) (by decide)) (g := (mkF m 116 #[iv p0_0, iv p0_1, iv p0_2, rv b1, iv (3 : Int32), iv (0 : Int32), rv b531, .unset] [(.int (3 : Int32)), (.int (0 : Int32)), (.int (3 : Int32)), (.ref b1), (.int ((((own_p31 (0 : Int32)) + (0 : Int32)) + (0 : Int32)) + (0 : Int32)))])) rfl (by rw [hml]; rfl) (argsL := [(.ref b1), (.int (3 : Int32)), (.int (0 : Int32)), (.int (3 : Int32))]) (rest := [(.int ((((own_p31 (0 : Int32)) + (0 : Int32)) + (0 : Int32)) + (0 : Int32)))]) (lenOf pd_6 rfl) rfl (by show 2 * 0 + _ ≤ _; exact Nat.le_of_eq rfl) (hb hby at_116) (fun _ _ => ⟨rfl, K552q, (by decide : 2 + 0 ≤ _), (by decide : 8 + 0 ≤ _)⟩)
      dsimp only [Pt.U, Pt.locs, Pt.cells, Pt.slots] at X554 l554 y554 z554 st554 hQ554
      rw [l554, y554, z554] at X554
      obtain ⟨rfl, N554q, K554q⟩ := hQ554
      have N555 := Fr.app N553 N554q
      obtain ⟨_, _, ⟨T556, L556, k556, n556⟩, -, X556, ⟨Lc556, hQ556, l556, y556, z556⟩, st556⟩ := Jvm.LawKit.callS X554 hx (y := MN6) hown (mvT hZ wo29) (mvT hZ wo30) (mvT hZ wo27) (mvT hZ wo31) (by decide) (backOf (W := 1) (rm_t l Z a0 hw [] b1 (3 : Int32) (0 : Int32) (4 : Int32) (T541.heap) n0 f546 (by first | decide | assumption | omega : ¬ ((4 : Int32) < (0 : Int32)))) hZ wo31 wo27 (by decide) (by decide)) (g := (mkF m 126 #[iv p0_0, iv p0_1, iv p0_2, rv b1, iv (3 : Int32), iv (0 : Int32), rv b531, .unset] [(.int (4 : Int32)), (.int (0 : Int32)), (.int (3 : Int32)), (.ref b1), (.int (((((own_p31 (0 : Int32)) + (0 : Int32)) + (0 : Int32)) + (0 : Int32)) + (0 : Int32)))])) rfl (by rw [hml]; rfl) (argsL := [(.ref b1), (.int (3 : Int32)), (.int (0 : Int32)), (.int (4 : Int32))]) (rest := [(.int (((((own_p31 (0 : Int32)) + (0 : Int32)) + (0 : Int32)) + (0 : Int32)) + (0 : Int32)))]) (lenOf pd_6 rfl) rfl (by show 2 * 0 + _ ≤ _; exact Nat.le_of_eq rfl) (hb hby at_126) (fun _ _ => ⟨rfl, K554q, (by decide : 2 + 0 ≤ _), (by decide : 8 + 0 ≤ _)⟩)
      dsimp only [Pt.U, Pt.locs, Pt.cells, Pt.slots] at X556 l556 y556 z556 st556 hQ556
      rw [l556, y556, z556] at X556
      obtain ⟨rfl, N556q, K556q⟩ := hQ556
      have N557 := Fr.app N555 N556q
      have f558 := (f540.keep K541q (ninS ne532 nin0))
      have f560 := (A531.keep K541q)
      obtain ⟨cq559, kq559, q559a, q559b, q559c⟩ := isOf hZ K556q f560
      obtain ⟨_, _, ⟨T559, L559, k559, n559⟩, -, X559, ⟨Lc559, hQ559, l559, y559, z559⟩, st559⟩ := X556.virtualBack hx (y := MN7) (z := MN7) hown (mvT hZ wo32) (mvT hZ wo33) (notFace_of_selects (args := #[]) (mvT hZ wo35)) (mvT hZ wo35) (mvT hZ wo34) (by decide) (backOf (W := 0) (rm_h3_0 l Z a0 hw [] b531 b1 x0 x1 x2 x3 x4 (T541.heap) n0 f546 hq541_0 hq541_1 hq541_2 f558) hZ wo36 wo4 (by decide) (by decide)) q559a q559c (g := (mkF m 134 #[iv p0_0, iv p0_1, iv p0_2, rv b1, iv (3 : Int32), iv (0 : Int32), rv b531, iv ((((((own_p31 (0 : Int32)) + (0 : Int32)) + (0 : Int32)) + (0 : Int32)) + (0 : Int32)) + (0 : Int32))] [(.ref b531)])) rfl (by rw [hml]; rfl) (Steps.refl _) (argsL := []) (rest := []) (lenOf pd_0 rfl) rfl (by show 2 * 0 + _ ≤ _; exact Nat.le_of_eq rfl) (hb hby at_134) (fun _ _ => ⟨rfl, K556q, (by decide : 2 + 0 ≤ _), (by decide : 8 + 0 ≤ _)⟩)
      dsimp only [Pt.U, Pt.locs, Pt.cells, Pt.slots] at X559 l559 y559 z559 st559 hQ559
      rw [l559, y559, z559] at X559
      obtain ⟨rfl, N559q, K559q⟩ := hQ559
      have N561 := Fr.app N557 N559q
      have hc562 : (1 : Int32) = ((((((own_p31 (0 : Int32)) + (0 : Int32)) + (0 : Int32)) + (0 : Int32)) + (0 : Int32)) + (0 : Int32)) := (by simp only [own_q0, own_q1, own_q2, own_q3, own_q4, own_q5]; first | rfl | grind)
      obtain ⟨fs, hr, hrun, hended, hW, hsame⟩ := X559.leave (v := some (.int (1 : Int32))) (fun h => by rw [Bd.returns] at h; cases h)
      refine ⟨_, _, pre529 _ ?_, hrun, hended, _, _, rfl, ?_, ⟨_, rfl⟩, hW, hsame.mono (by decide) (by decide)⟩
      · show Steps p.tables e below (T32.setTop (mkF m 61 #[iv p0_0, iv p0_1, iv p0_2, rv b1, iv (3 : Int32), iv (0 : Int32), .unset, .unset] [])) _
        refine st531 _ ?_
        show Steps p.tables e below (T531.setTop (mkF m 64 #[iv p0_0, iv p0_1, iv p0_2, rv b1, iv (3 : Int32), iv (0 : Int32), .unset, .unset] [(.ref b531)])) _
        refine XS.dup X531.here hx rfl (hb hby at_64) rfl rfl ?_
        refine XS.aloadN X531.here hx rfl (hb hby at_65) rfl rfl ?_
        refine XS.iload X531.here hx rfl (hb hby at_66) rfl ?_
        refine XS.iload X531.here hx rfl (hb hby at_68) rfl ?_
        show Steps p.tables e below (T531.setTop (mkF m 70 #[iv p0_0, iv p0_1, iv p0_2, rv b1, iv (3 : Int32), iv (0 : Int32), .unset, .unset] [(.int (0 : Int32)), (.int (3 : Int32)), (.ref b1), (.ref b531), (.ref b531)])) _
        refine st541.trans ?_
        show Steps p.tables e below (T541.setTop (mkF m 73 #[iv p0_0, iv p0_1, iv p0_2, rv b1, iv (3 : Int32), iv (0 : Int32), .unset, .unset] [(.ref b531)])) _
        refine XS.astore X541.here hx rfl (hb hby at_73) rfl rfl (l' := #[iv p0_0, iv p0_1, iv p0_2, rv b1, iv (3 : Int32), iv (0 : Int32), rv b531, .unset]) rfl ?_
        refine XS.iload X541.here hx rfl (hb hby at_75) rfl ?_
        show Steps p.tables e below (T541.setTop (mkF m 77 #[iv p0_0, iv p0_1, iv p0_2, rv b1, iv (3 : Int32), iv (0 : Int32), rv b531, .unset] [(.int (0 : Int32))])) _
        refine st545 _ ?_
        show Steps p.tables e below (T545.setTop (mkF m 80 #[iv p0_0, iv p0_1, iv p0_2, rv b1, iv (3 : Int32), iv (0 : Int32), rv b531, .unset] [(.int (own_p31 (0 : Int32)))])) _
        refine XS.aloadN X545.here hx rfl (hb hby at_80) rfl rfl ?_
        refine XS.iload X545.here hx rfl (hb hby at_81) rfl ?_
        refine XS.iload X545.here hx rfl (hb hby at_83) rfl ?_
        refine XS.iconst X545.here hx rfl (hb hby at_85) ?_
        show Steps p.tables e below (T545.setTop (mkF m 86 #[iv p0_0, iv p0_1, iv p0_2, rv b1, iv (3 : Int32), iv (0 : Int32), rv b531, .unset] [(.int (0 : Int32)), (.int (0 : Int32)), (.int (3 : Int32)), (.ref b1), (.int (own_p31 (0 : Int32)))])) _
        refine st548 _ ?_
        show Steps p.tables e below (T548.setTop (mkF m 89 #[iv p0_0, iv p0_1, iv p0_2, rv b1, iv (3 : Int32), iv (0 : Int32), rv b531, .unset] [(.int (0 : Int32)), (.int (own_p31 (0 : Int32)))])) _
        refine XS.iadd X548.here hx rfl (hb hby at_89) rfl ?_
        refine XS.aloadN X548.here hx rfl (hb hby at_90) rfl rfl ?_
        refine XS.iload X548.here hx rfl (hb hby at_91) rfl ?_
        show Steps p.tables e below (T548.setTop (mkF m 93 #[iv p0_0, iv p0_1, iv p0_2, rv b1, iv (3 : Int32), iv (0 : Int32), rv b531, .unset] [(.int (3 : Int32)), (.ref b1), (.int ((own_p31 (0 : Int32)) + (0 : Int32)))])) _
        refine XS.iload X548.here hx rfl (hb hby at_93) rfl ?_
        refine XS.iconst X548.here hx rfl (hb hby at_95) ?_
        show Steps p.tables e below (T548.setTop (mkF m 96 #[iv p0_0, iv p0_1, iv p0_2, rv b1, iv (3 : Int32), iv (0 : Int32), rv b531, .unset] [(.int (1 : Int32)), (.int (0 : Int32)), (.int (3 : Int32)), (.ref b1), (.int ((own_p31 (0 : Int32)) + (0 : Int32)))])) _
        refine st550 _ ?_
        show Steps p.tables e below (T550.setTop (mkF m 99 #[iv p0_0, iv p0_1, iv p0_2, rv b1, iv (3 : Int32), iv (0 : Int32), rv b531, .unset] [(.int (0 : Int32)), (.int ((own_p31 (0 : Int32)) + (0 : Int32)))])) _
        refine XS.iadd X550.here hx rfl (hb hby at_99) rfl ?_
        show Steps p.tables e below (T550.setTop (mkF m 100 #[iv p0_0, iv p0_1, iv p0_2, rv b1, iv (3 : Int32), iv (0 : Int32), rv b531, .unset] [(.int (((own_p31 (0 : Int32)) + (0 : Int32)) + (0 : Int32)))])) _
        refine XS.aloadN X550.here hx rfl (hb hby at_100) rfl rfl ?_
        refine XS.iload X550.here hx rfl (hb hby at_101) rfl ?_
        refine XS.iload X550.here hx rfl (hb hby at_103) rfl ?_
        refine XS.iconst X550.here hx rfl (hb hby at_105) ?_
        show Steps p.tables e below (T550.setTop (mkF m 106 #[iv p0_0, iv p0_1, iv p0_2, rv b1, iv (3 : Int32), iv (0 : Int32), rv b531, .unset] [(.int (2 : Int32)), (.int (0 : Int32)), (.int (3 : Int32)), (.ref b1), (.int (((own_p31 (0 : Int32)) + (0 : Int32)) + (0 : Int32)))])) _
        refine st552 _ ?_
        show Steps p.tables e below (T552.setTop (mkF m 109 #[iv p0_0, iv p0_1, iv p0_2, rv b1, iv (3 : Int32), iv (0 : Int32), rv b531, .unset] [(.int (0 : Int32)), (.int (((own_p31 (0 : Int32)) + (0 : Int32)) + (0 : Int32)))])) _
        refine XS.iadd X552.here hx rfl (hb hby at_109) rfl ?_
        refine XS.aloadN X552.here hx rfl (hb hby at_110) rfl rfl ?_
        refine XS.iload X552.here hx rfl (hb hby at_111) rfl ?_
        show Steps p.tables e below (T552.setTop (mkF m 113 #[iv p0_0, iv p0_1, iv p0_2, rv b1, iv (3 : Int32), iv (0 : Int32), rv b531, .unset] [(.int (3 : Int32)), (.ref b1), (.int ((((own_p31 (0 : Int32)) + (0 : Int32)) + (0 : Int32)) + (0 : Int32)))])) _
        refine XS.iload X552.here hx rfl (hb hby at_113) rfl ?_
        refine XS.iconst X552.here hx rfl (hb hby at_115) ?_
        show Steps p.tables e below (T552.setTop (mkF m 116 #[iv p0_0, iv p0_1, iv p0_2, rv b1, iv (3 : Int32), iv (0 : Int32), rv b531, .unset] [(.int (3 : Int32)), (.int (0 : Int32)), (.int (3 : Int32)), (.ref b1), (.int ((((own_p31 (0 : Int32)) + (0 : Int32)) + (0 : Int32)) + (0 : Int32)))])) _
        refine st554 _ ?_
        show Steps p.tables e below (T554.setTop (mkF m 119 #[iv p0_0, iv p0_1, iv p0_2, rv b1, iv (3 : Int32), iv (0 : Int32), rv b531, .unset] [(.int (0 : Int32)), (.int ((((own_p31 (0 : Int32)) + (0 : Int32)) + (0 : Int32)) + (0 : Int32)))])) _
        refine XS.iadd X554.here hx rfl (hb hby at_119) rfl ?_
        show Steps p.tables e below (T554.setTop (mkF m 120 #[iv p0_0, iv p0_1, iv p0_2, rv b1, iv (3 : Int32), iv (0 : Int32), rv b531, .unset] [(.int (((((own_p31 (0 : Int32)) + (0 : Int32)) + (0 : Int32)) + (0 : Int32)) + (0 : Int32)))])) _
        refine XS.aloadN X554.here hx rfl (hb hby at_120) rfl rfl ?_
        refine XS.iload X554.here hx rfl (hb hby at_121) rfl ?_
        refine XS.iload X554.here hx rfl (hb hby at_123) rfl ?_
        refine XS.iconst X554.here hx rfl (hb hby at_125) ?_
        show Steps p.tables e below (T554.setTop (mkF m 126 #[iv p0_0, iv p0_1, iv p0_2, rv b1, iv (3 : Int32), iv (0 : Int32), rv b531, .unset] [(.int (4 : Int32)), (.int (0 : Int32)), (.int (3 : Int32)), (.ref b1), (.int (((((own_p31 (0 : Int32)) + (0 : Int32)) + (0 : Int32)) + (0 : Int32)) + (0 : Int32)))])) _
        refine st556 _ ?_
        show Steps p.tables e below (T556.setTop (mkF m 129 #[iv p0_0, iv p0_1, iv p0_2, rv b1, iv (3 : Int32), iv (0 : Int32), rv b531, .unset] [(.int (0 : Int32)), (.int (((((own_p31 (0 : Int32)) + (0 : Int32)) + (0 : Int32)) + (0 : Int32)) + (0 : Int32)))])) _
        refine XS.iadd X556.here hx rfl (hb hby at_129) rfl ?_
        refine XS.istore X556.here hx rfl (hb hby at_130) rfl (l' := #[iv p0_0, iv p0_1, iv p0_2, rv b1, iv (3 : Int32), iv (0 : Int32), rv b531, iv ((((((own_p31 (0 : Int32)) + (0 : Int32)) + (0 : Int32)) + (0 : Int32)) + (0 : Int32)) + (0 : Int32))]) rfl ?_
        refine XS.aload X556.here hx rfl (hb hby at_132) rfl rfl ?_
        show Steps p.tables e below (T556.setTop (mkF m 134 #[iv p0_0, iv p0_1, iv p0_2, rv b1, iv (3 : Int32), iv (0 : Int32), rv b531, iv ((((((own_p31 (0 : Int32)) + (0 : Int32)) + (0 : Int32)) + (0 : Int32)) + (0 : Int32)) + (0 : Int32))] [(.ref b531)])) _
        refine st559.trans ?_
        show Steps p.tables e below (T559.setTop (mkF m 137 #[iv p0_0, iv p0_1, iv p0_2, rv b1, iv (3 : Int32), iv (0 : Int32), rv b531, iv ((((((own_p31 (0 : Int32)) + (0 : Int32)) + (0 : Int32)) + (0 : Int32)) + (0 : Int32)) + (0 : Int32))] [(.int (1 : Int32))])) _
        refine XS.iload X559.here hx rfl (hb hby at_137) rfl ?_
        refine XS.icmpNo X559.here hx rfl (hb hby at_139) rfl (teq hc562).2 ?_
        refine XS.iconst X559.here hx rfl (hb hby at_142) ?_
        show Steps p.tables e below (T559.setTop (mkF m 143 #[iv p0_0, iv p0_1, iv p0_2, rv b1, iv (3 : Int32), iv (0 : Int32), rv b531, iv ((((((own_p31 (0 : Int32)) + (0 : Int32)) + (0 : Int32)) + (0 : Int32)) + (0 : Int32)) + (0 : Int32))] [(.int (1 : Int32))])) _
        refine XS.goto X559.here hx rfl (pc0 := 143) (pc' := 147) rfl (hb hby at_143) (by decide) (by decide) ?_
        show Steps p.tables e below (T559.setTop (mkF m 147 #[iv p0_0, iv p0_1, iv p0_2, rv b1, iv (3 : Int32), iv (0 : Int32), rv b531, iv ((((((own_p31 (0 : Int32)) + (0 : Int32)) + (0 : Int32)) + (0 : Int32)) + (0 : Int32)) + (0 : Int32))] [(.int (1 : Int32))])) _
        exact retN X559 hx (t := .boolean) Bd.returns (by simp) (hb hby at_147) hr
      · show Q_rm0 Z _ _ _ h0 n0 _ T559.heap _
        rw [K559q]
        exact ⟨rfl, N561, (K544)⟩
    · skip
      obtain ⟨T563, h563, X563, e563, E563, A563, D563, -, st563⟩ := newO X32 hx hZ hown wo2 wo3 wo4 e32 (g := (mkF m 61 #[iv p0_0, iv p0_1, iv p0_2, rv b1, iv (3 : Int32), iv (1 : Int32), .unset, .unset] [])) rfl (hb hby at_61) (by decide) (by decide)
      obtain ⟨b563, gg563⟩ : ∃ z, z = h32.size := ⟨_, rfl⟩
      rw [← gg563] at A563 D563 st563
      have ne564 : b1 ≠ b563 := Nat.ne_of_lt (Nat.lt_of_lt_of_le f40.lt (Nat.le_of_eq gg563.symm))
      have f566 := (Nat.le_trans (Nat.le_trans (Nat.le_trans (Nat.le_trans (Nat.le_trans (Nat.le_trans Z0 E1.1) (Keep.of_wr W8).1) (Keep.of_wr W14).1) (Keep.of_wr W20).1) (Keep.of_wr W26).1) (Keep.of_wr W32).1)
      have g565 : n0 ≤ b563 := Nat.le_trans f566 (Nat.le_of_eq gg563.symm)
      have bz567 : h0.size ≤ b563 := Nat.le_trans (K33).1 (Nat.le_of_eq gg563.symm)
      have K568 : Keep h0 h563 [] := (K33).ext E563
      have f569 : Fld Z h563 b563 "com/example/tailwake/tailwake/source/mariadb/Slice" "array" "[B" .null := D563 (Or.inr wo20) (ty := (.array .byte)) (by decide)
      have f570 : Fld Z h563 b563 "com/example/tailwake/tailwake/source/mariadb/Slice" "offset" "I" (.int (0 : Int32)) := D563 (Or.inr wo22) (ty := .int) (by decide)
      have f571 : Fld Z h563 b563 "com/example/tailwake/tailwake/source/mariadb/Slice" "length" "I" (.int (0 : Int32)) := D563 (Or.inr wo24) (ty := .int) (by decide)
      have f572 := (f40.ext E563)
      have f574 := (Nat.le_trans f566 E563.1)
      obtain ⟨_, _, ⟨T573, L573, k573, n573⟩, -, X573, ⟨Lc573, hQ573, l573, y573, z573⟩, st573⟩ := X563.specialBack hx (y := MN1) rfl hown (mvT hZ wo5) (mvT hZ wo6) (mvT hZ wo7) (by decide) (backOf (W := 1) (rm1 l Z a0 hw [] b563 b1 (3 : Int32) (1 : Int32) h563 n0 f574 A563 g565 f569 f570 f571 f572.al (by first | decide | assumption | omega : ¬ ((((5 : Int32) ||| (3 : Int32)) ||| (1 : Int32)) < (0 : Int32))) (by first | decide | assumption | omega : ¬ (((5 : Int32) - (3 : Int32)) < (1 : Int32)))) hZ wo7 wo4 (by decide) (by decide)) (g := (mkF m 70 #[iv p0_0, iv p0_1, iv p0_2, rv b1, iv (3 : Int32), iv (1 : Int32), .unset, .unset] [(.int (1 : Int32)), (.int (3 : Int32)), (.ref b1), (.ref b563), (.ref b563)])) rfl (by rw [hml]; rfl) (Steps.refl _) (a := b563) (argsL := [(.ref b1), (.int (3 : Int32)), (.int (1 : Int32))]) (rest := [(.ref b563)]) (lenOf pd_5 rfl) rfl (by show 2 * 0 + _ ≤ _; exact Nat.le_of_eq rfl) (hb hby at_70) (fun _ _ => ⟨rfl, e563, (by decide : 2 + 0 ≤ _), (by decide : 8 + 0 ≤ _)⟩)
      dsimp only [Pt.U, Pt.locs, Pt.cells, Pt.slots] at X573 l573 y573 z573 st573 hQ573
      rw [l573, y573, z573] at X573
      obtain ⟨rfl, N573q, K573q, hq573_0, hq573_1, hq573_2⟩ := hQ573
      have N575 := Fr.app N35 N573q
      have K576 : Keep h0 T573.heap [] := (K568).trans K573q (allS (P := fun x => x ∈ [] ∨ h0.size ≤ x) (Or.inr bz567) all0)
      have f578 := (Nat.le_trans f574 K573q.1)
      obtain ⟨_, _, ⟨T577, L577, k577, n577⟩, -, X577, ⟨Lc577, hQ577, l577, y577, z577⟩, st577⟩ := Jvm.LawKit.callS X573 hx (y := MN5) hown (mvT hZ wo25) (mvT hZ wo26) (mvT hZ wo27) (mvT hZ wo28) (by decide) (backOf (W := 0) (rm5 l Z a0 hw [] (1 : Int32) (T573.heap) n0 f578 ) hZ wo28 wo27 (by decide) (by decide)) (g := (mkF m 77 #[iv p0_0, iv p0_1, iv p0_2, rv b1, iv (3 : Int32), iv (1 : Int32), rv b563, .unset] [(.int (1 : Int32))])) rfl (by rw [hml]; rfl) (argsL := [(.int (1 : Int32))]) (rest := []) (lenOf pd_2 rfl) rfl (by show 2 * 0 + _ ≤ _; exact Nat.le_of_eq rfl) (hb hby at_77) (fun _ _ => ⟨rfl, rfl, (by decide : 2 + 0 ≤ _), (by decide : 8 + 0 ≤ _)⟩)
      dsimp only [Pt.U, Pt.locs, Pt.cells, Pt.slots] at X577 l577 y577 z577 st577 hQ577
      rw [l577, y577, z577] at X577
      obtain ⟨rfl, N577q, K577q⟩ := hQ577
      have N579 := Fr.app N575 N577q
      have f580 := (f572.keep K573q (ninS ne564 nin0))
      obtain ⟨_, _, ⟨T581, L581, k581, n581⟩, -, X581, ⟨Lc581, hQ581, l581, y581, z581⟩, st581⟩ := Jvm.LawKit.callS X577 hx (y := MN6) hown (mvT hZ wo29) (mvT hZ wo30) (mvT hZ wo27) (mvT hZ wo31) (by decide) (backOf (W := 1) (rm_t3 l Z a0 hw [] b1 (3 : Int32) (1 : Int32) (0 : Int32) x0 x1 x2 x3 x4 (T573.heap) n0 f578 f580 (by first | decide | assumption | omega : (0 : Int32) < (1 : Int32)) (by first | decide | assumption | omega : ((3 : Int32) + (0 : Int32)) = (3 : Int32))) hZ wo31 wo27 (by decide) (by decide)) (g := (mkF m 86 #[iv p0_0, iv p0_1, iv p0_2, rv b1, iv (3 : Int32), iv (1 : Int32), rv b563, .unset] [(.int (0 : Int32)), (.int (1 : Int32)), (.int (3 : Int32)), (.ref b1), (.int (own_p31 (1 : Int32)))])) rfl (by rw [hml]; rfl) (argsL := [(.ref b1), (.int (3 : Int32)), (.int (1 : Int32)), (.int (0 : Int32))]) (rest := [(.int (own_p31 (1 : Int32)))]) (lenOf pd_6 rfl) rfl (by show 2 * 0 + _ ≤ _; exact Nat.le_of_eq rfl) (hb hby at_86) (fun _ _ => ⟨rfl, K577q, (by decide : 2 + 0 ≤ _), (by decide : 8 + 0 ≤ _)⟩)
      dsimp only [Pt.U, Pt.locs, Pt.cells, Pt.slots] at X581 l581 y581 z581 st581 hQ581
      rw [l581, y581, z581] at X581
      obtain ⟨rfl, N581q, K581q⟩ := hQ581
      have N582 := Fr.app N579 N581q
      obtain ⟨_, _, ⟨T583, L583, k583, n583⟩, -, X583, ⟨Lc583, hQ583, l583, y583, z583⟩, st583⟩ := Jvm.LawKit.callS X581 hx (y := MN6) hown (mvT hZ wo29) (mvT hZ wo30) (mvT hZ wo27) (mvT hZ wo31) (by decide) (backOf (W := 1) (rm_t l Z a0 hw [] b1 (3 : Int32) (1 : Int32) (1 : Int32) (T573.heap) n0 f578 (by first | decide | assumption | omega : ¬ ((1 : Int32) < (1 : Int32)))) hZ wo31 wo27 (by decide) (by decide)) (g := (mkF m 96 #[iv p0_0, iv p0_1, iv p0_2, rv b1, iv (3 : Int32), iv (1 : Int32), rv b563, .unset] [(.int (1 : Int32)), (.int (1 : Int32)), (.int (3 : Int32)), (.ref b1), (.int ((own_p31 (1 : Int32)) + (x3 * (own_p31 (0 : Int32)))))])) rfl (by rw [hml]; rfl) (argsL := [(.ref b1), (.int (3 : Int32)), (.int (1 : Int32)), (.int (1 : Int32))]) (rest := [(.int ((own_p31 (1 : Int32)) + (x3 * (own_p31 (0 : Int32)))))]) (lenOf pd_6 rfl) rfl (by show 2 * 0 + _ ≤ _; exact Nat.le_of_eq rfl) (hb hby at_96) (fun _ _ => ⟨rfl, K581q, (by decide : 2 + 0 ≤ _), (by decide : 8 + 0 ≤ _)⟩)
      dsimp only [Pt.U, Pt.locs, Pt.cells, Pt.slots] at X583 l583 y583 z583 st583 hQ583
      rw [l583, y583, z583] at X583
      obtain ⟨rfl, N583q, K583q⟩ := hQ583
      have N584 := Fr.app N582 N583q
      obtain ⟨_, _, ⟨T585, L585, k585, n585⟩, -, X585, ⟨Lc585, hQ585, l585, y585, z585⟩, st585⟩ := Jvm.LawKit.callS X583 hx (y := MN6) hown (mvT hZ wo29) (mvT hZ wo30) (mvT hZ wo27) (mvT hZ wo31) (by decide) (backOf (W := 1) (rm_t l Z a0 hw [] b1 (3 : Int32) (1 : Int32) (2 : Int32) (T573.heap) n0 f578 (by first | decide | assumption | omega : ¬ ((2 : Int32) < (1 : Int32)))) hZ wo31 wo27 (by decide) (by decide)) (g := (mkF m 106 #[iv p0_0, iv p0_1, iv p0_2, rv b1, iv (3 : Int32), iv (1 : Int32), rv b563, .unset] [(.int (2 : Int32)), (.int (1 : Int32)), (.int (3 : Int32)), (.ref b1), (.int (((own_p31 (1 : Int32)) + (x3 * (own_p31 (0 : Int32)))) + (0 : Int32)))])) rfl (by rw [hml]; rfl) (argsL := [(.ref b1), (.int (3 : Int32)), (.int (1 : Int32)), (.int (2 : Int32))]) (rest := [(.int (((own_p31 (1 : Int32)) + (x3 * (own_p31 (0 : Int32)))) + (0 : Int32)))]) (lenOf pd_6 rfl) rfl (by show 2 * 0 + _ ≤ _; exact Nat.le_of_eq rfl) (hb hby at_106) (fun _ _ => ⟨rfl, K583q, (by decide : 2 + 0 ≤ _), (by decide : 8 + 0 ≤ _)⟩)
      dsimp only [Pt.U, Pt.locs, Pt.cells, Pt.slots] at X585 l585 y585 z585 st585 hQ585
      rw [l585, y585, z585] at X585
      obtain ⟨rfl, N585q, K585q⟩ := hQ585
      have N586 := Fr.app N584 N585q
      obtain ⟨_, _, ⟨T587, L587, k587, n587⟩, -, X587, ⟨Lc587, hQ587, l587, y587, z587⟩, st587⟩ := Jvm.LawKit.callS X585 hx (y := MN6) hown (mvT hZ wo29) (mvT hZ wo30) (mvT hZ wo27) (mvT hZ wo31) (by decide) (backOf (W := 1) (rm_t l Z a0 hw [] b1 (3 : Int32) (1 : Int32) (3 : Int32) (T573.heap) n0 f578 (by first | decide | assumption | omega : ¬ ((3 : Int32) < (1 : Int32)))) hZ wo31 wo27 (by decide) (by decide)) (g := (mkF m 116 #[iv p0_0, iv p0_1, iv p0_2, rv b1, iv (3 : Int32), iv (1 : Int32), rv b563, .unset] [(.int (3 : Int32)), (.int (1 : Int32)), (.int (3 : Int32)), (.ref b1), (.int ((((own_p31 (1 : Int32)) + (x3 * (own_p31 (0 : Int32)))) + (0 : Int32)) + (0 : Int32)))])) rfl (by rw [hml]; rfl) (argsL := [(.ref b1), (.int (3 : Int32)), (.int (1 : Int32)), (.int (3 : Int32))]) (rest := [(.int ((((own_p31 (1 : Int32)) + (x3 * (own_p31 (0 : Int32)))) + (0 : Int32)) + (0 : Int32)))]) (lenOf pd_6 rfl) rfl (by show 2 * 0 + _ ≤ _; exact Nat.le_of_eq rfl) (hb hby at_116) (fun _ _ => ⟨rfl, K585q, (by decide : 2 + 0 ≤ _), (by decide : 8 + 0 ≤ _)⟩)
      dsimp only [Pt.U, Pt.locs, Pt.cells, Pt.slots] at X587 l587 y587 z587 st587 hQ587
      rw [l587, y587, z587] at X587
      obtain ⟨rfl, N587q, K587q⟩ := hQ587
      have N588 := Fr.app N586 N587q
      obtain ⟨_, _, ⟨T589, L589, k589, n589⟩, -, X589, ⟨Lc589, hQ589, l589, y589, z589⟩, st589⟩ := Jvm.LawKit.callS X587 hx (y := MN6) hown (mvT hZ wo29) (mvT hZ wo30) (mvT hZ wo27) (mvT hZ wo31) (by decide) (backOf (W := 1) (rm_t l Z a0 hw [] b1 (3 : Int32) (1 : Int32) (4 : Int32) (T573.heap) n0 f578 (by first | decide | assumption | omega : ¬ ((4 : Int32) < (1 : Int32)))) hZ wo31 wo27 (by decide) (by decide)) (g := (mkF m 126 #[iv p0_0, iv p0_1, iv p0_2, rv b1, iv (3 : Int32), iv (1 : Int32), rv b563, .unset] [(.int (4 : Int32)), (.int (1 : Int32)), (.int (3 : Int32)), (.ref b1), (.int (((((own_p31 (1 : Int32)) + (x3 * (own_p31 (0 : Int32)))) + (0 : Int32)) + (0 : Int32)) + (0 : Int32)))])) rfl (by rw [hml]; rfl) (argsL := [(.ref b1), (.int (3 : Int32)), (.int (1 : Int32)), (.int (4 : Int32))]) (rest := [(.int (((((own_p31 (1 : Int32)) + (x3 * (own_p31 (0 : Int32)))) + (0 : Int32)) + (0 : Int32)) + (0 : Int32)))]) (lenOf pd_6 rfl) rfl (by show 2 * 0 + _ ≤ _; exact Nat.le_of_eq rfl) (hb hby at_126) (fun _ _ => ⟨rfl, K587q, (by decide : 2 + 0 ≤ _), (by decide : 8 + 0 ≤ _)⟩)
      dsimp only [Pt.U, Pt.locs, Pt.cells, Pt.slots] at X589 l589 y589 z589 st589 hQ589
      rw [l589, y589, z589] at X589
      obtain ⟨rfl, N589q, K589q⟩ := hQ589
      have N590 := Fr.app N588 N589q
      have f592 := (A563.keep K573q)
      obtain ⟨cq591, kq591, q591a, q591b, q591c⟩ := isOf hZ K589q f592
      obtain ⟨_, _, ⟨T591, L591, k591, n591⟩, -, X591, ⟨Lc591, hQ591, l591, y591, z591⟩, st591⟩ := X589.virtualBack hx (y := MN7) (z := MN7) hown (mvT hZ wo32) (mvT hZ wo33) (notFace_of_selects (args := #[]) (mvT hZ wo35)) (mvT hZ wo35) (mvT hZ wo34) (by decide) (backOf (W := 0) (rm_h3_1 l Z a0 hw [] b563 b1 x0 x1 x2 x3 x4 (T573.heap) n0 f578 hq573_0 hq573_1 hq573_2 f580) hZ wo36 wo4 (by decide) (by decide)) q591a q591c (g := (mkF m 134 #[iv p0_0, iv p0_1, iv p0_2, rv b1, iv (3 : Int32), iv (1 : Int32), rv b563, iv ((((((own_p31 (1 : Int32)) + (x3 * (own_p31 (0 : Int32)))) + (0 : Int32)) + (0 : Int32)) + (0 : Int32)) + (0 : Int32))] [(.ref b563)])) rfl (by rw [hml]; rfl) (Steps.refl _) (argsL := []) (rest := []) (lenOf pd_0 rfl) rfl (by show 2 * 0 + _ ≤ _; exact Nat.le_of_eq rfl) (hb hby at_134) (fun _ _ => ⟨rfl, K589q, (by decide : 2 + 0 ≤ _), (by decide : 8 + 0 ≤ _)⟩)
      dsimp only [Pt.U, Pt.locs, Pt.cells, Pt.slots] at X591 l591 y591 z591 st591 hQ591
      rw [l591, y591, z591] at X591
      obtain ⟨rfl, N591q, K591q⟩ := hQ591
      have N593 := Fr.app N590 N591q
      have hc594 : ((31 : Int32) + x3) = ((((((own_p31 (1 : Int32)) + (x3 * (own_p31 (0 : Int32)))) + (0 : Int32)) + (0 : Int32)) + (0 : Int32)) + (0 : Int32)) := (by simp only [own_q0, own_q1, own_q2, own_q3, own_q4, own_q5]; first | rfl | grind)
      obtain ⟨fs, hr, hrun, hended, hW, hsame⟩ := X591.leave (v := some (.int (1 : Int32))) (fun h => by rw [Bd.returns] at h; cases h)
      refine ⟨_, _, pre529 _ ?_, hrun, hended, _, _, rfl, ?_, ⟨_, rfl⟩, hW, hsame.mono (by decide) (by decide)⟩
      · show Steps p.tables e below (T32.setTop (mkF m 61 #[iv p0_0, iv p0_1, iv p0_2, rv b1, iv (3 : Int32), iv (1 : Int32), .unset, .unset] [])) _
        refine st563 _ ?_
        show Steps p.tables e below (T563.setTop (mkF m 64 #[iv p0_0, iv p0_1, iv p0_2, rv b1, iv (3 : Int32), iv (1 : Int32), .unset, .unset] [(.ref b563)])) _
        refine XS.dup X563.here hx rfl (hb hby at_64) rfl rfl ?_
        refine XS.aloadN X563.here hx rfl (hb hby at_65) rfl rfl ?_
        show Steps p.tables e below (T563.setTop (mkF m 66 #[iv p0_0, iv p0_1, iv p0_2, rv b1, iv (3 : Int32), iv (1 : Int32), .unset, .unset] [(.ref b1), (.ref b563), (.ref b563)])) _
        refine XS.iload X563.here hx rfl (hb hby at_66) rfl ?_
        refine XS.iload X563.here hx rfl (hb hby at_68) rfl ?_
        show Steps p.tables e below (T563.setTop (mkF m 70 #[iv p0_0, iv p0_1, iv p0_2, rv b1, iv (3 : Int32), iv (1 : Int32), .unset, .unset] [(.int (1 : Int32)), (.int (3 : Int32)), (.ref b1), (.ref b563), (.ref b563)])) _
        refine st573.trans ?_
        show Steps p.tables e below (T573.setTop (mkF m 73 #[iv p0_0, iv p0_1, iv p0_2, rv b1, iv (3 : Int32), iv (1 : Int32), .unset, .unset] [(.ref b563)])) _
        refine XS.astore X573.here hx rfl (hb hby at_73) rfl rfl (l' := #[iv p0_0, iv p0_1, iv p0_2, rv b1, iv (3 : Int32), iv (1 : Int32), rv b563, .unset]) rfl ?_
        show Steps p.tables e below (T573.setTop (mkF m 75 #[iv p0_0, iv p0_1, iv p0_2, rv b1, iv (3 : Int32), iv (1 : Int32), rv b563, .unset] [])) _
        refine XS.iload X573.here hx rfl (hb hby at_75) rfl ?_
        show Steps p.tables e below (T573.setTop (mkF m 77 #[iv p0_0, iv p0_1, iv p0_2, rv b1, iv (3 : Int32), iv (1 : Int32), rv b563, .unset] [(.int (1 : Int32))])) _
        refine st577 _ ?_
        show Steps p.tables e below (T577.setTop (mkF m 80 #[iv p0_0, iv p0_1, iv p0_2, rv b1, iv (3 : Int32), iv (1 : Int32), rv b563, .unset] [(.int (own_p31 (1 : Int32)))])) _
        refine XS.aloadN X577.here hx rfl (hb hby at_80) rfl rfl ?_
        refine XS.iload X577.here hx rfl (hb hby at_81) rfl ?_
        show Steps p.tables e below (T577.setTop (mkF m 83 #[iv p0_0, iv p0_1, iv p0_2, rv b1, iv (3 : Int32), iv (1 : Int32), rv b563, .unset] [(.int (3 : Int32)), (.ref b1), (.int (own_p31 (1 : Int32)))])) _
        refine XS.iload X577.here hx rfl (hb hby at_83) rfl ?_
        refine XS.iconst X577.here hx rfl (hb hby at_85) ?_
        show Steps p.tables e below (T577.setTop (mkF m 86 #[iv p0_0, iv p0_1, iv p0_2, rv b1, iv (3 : Int32), iv (1 : Int32), rv b563, .unset] [(.int (0 : Int32)), (.int (1 : Int32)), (.int (3 : Int32)), (.ref b1), (.int (own_p31 (1 : Int32)))])) _
        refine st581 _ ?_
        show Steps p.tables e below (T581.setTop (mkF m 89 #[iv p0_0, iv p0_1, iv p0_2, rv b1, iv (3 : Int32), iv (1 : Int32), rv b563, .unset] [(.int (x3 * (own_p31 (0 : Int32)))), (.int (own_p31 (1 : Int32)))])) _
        refine XS.iadd X581.here hx rfl (hb hby at_89) rfl ?_
        show Steps p.tables e below (T581.setTop (mkF m 90 #[iv p0_0, iv p0_1, iv p0_2, rv b1, iv (3 : Int32), iv (1 : Int32), rv b563, .unset] [(.int ((own_p31 (1 : Int32)) + (x3 * (own_p31 (0 : Int32)))))])) _
        refine XS.aloadN X581.here hx rfl (hb hby at_90) rfl rfl ?_
        refine XS.iload X581.here hx rfl (hb hby at_91) rfl ?_
        refine XS.iload X581.here hx rfl (hb hby at_93) rfl ?_
        refine XS.iconst X581.here hx rfl (hb hby at_95) ?_
        show Steps p.tables e below (T581.setTop (mkF m 96 #[iv p0_0, iv p0_1, iv p0_2, rv b1, iv (3 : Int32), iv (1 : Int32), rv b563, .unset] [(.int (1 : Int32)), (.int (1 : Int32)), (.int (3 : Int32)), (.ref b1), (.int ((own_p31 (1 : Int32)) + (x3 * (own_p31 (0 : Int32)))))])) _
        refine st583 _ ?_
        show Steps p.tables e below (T583.setTop (mkF m 99 #[iv p0_0, iv p0_1, iv p0_2, rv b1, iv (3 : Int32), iv (1 : Int32), rv b563, .unset] [(.int (0 : Int32)), (.int ((own_p31 (1 : Int32)) + (x3 * (own_p31 (0 : Int32)))))])) _
        refine XS.iadd X583.here hx rfl (hb hby at_99) rfl ?_
        refine XS.aloadN X583.here hx rfl (hb hby at_100) rfl rfl ?_
        refine XS.iload X583.here hx rfl (hb hby at_101) rfl ?_
        show Steps p.tables e below (T583.setTop (mkF m 103 #[iv p0_0, iv p0_1, iv p0_2, rv b1, iv (3 : Int32), iv (1 : Int32), rv b563, .unset] [(.int (3 : Int32)), (.ref b1), (.int (((own_p31 (1 : Int32)) + (x3 * (own_p31 (0 : Int32)))) + (0 : Int32)))])) _
        refine XS.iload X583.here hx rfl (hb hby at_103) rfl ?_
        refine XS.iconst X583.here hx rfl (hb hby at_105) ?_
        show Steps p.tables e below (T583.setTop (mkF m 106 #[iv p0_0, iv p0_1, iv p0_2, rv b1, iv (3 : Int32), iv (1 : Int32), rv b563, .unset] [(.int (2 : Int32)), (.int (1 : Int32)), (.int (3 : Int32)), (.ref b1), (.int (((own_p31 (1 : Int32)) + (x3 * (own_p31 (0 : Int32)))) + (0 : Int32)))])) _
        refine st585 _ ?_
        show Steps p.tables e below (T585.setTop (mkF m 109 #[iv p0_0, iv p0_1, iv p0_2, rv b1, iv (3 : Int32), iv (1 : Int32), rv b563, .unset] [(.int (0 : Int32)), (.int (((own_p31 (1 : Int32)) + (x3 * (own_p31 (0 : Int32)))) + (0 : Int32)))])) _
        refine XS.iadd X585.here hx rfl (hb hby at_109) rfl ?_
        show Steps p.tables e below (T585.setTop (mkF m 110 #[iv p0_0, iv p0_1, iv p0_2, rv b1, iv (3 : Int32), iv (1 : Int32), rv b563, .unset] [(.int ((((own_p31 (1 : Int32)) + (x3 * (own_p31 (0 : Int32)))) + (0 : Int32)) + (0 : Int32)))])) _
        refine XS.aloadN X585.here hx rfl (hb hby at_110) rfl rfl ?_
        refine XS.iload X585.here hx rfl (hb hby at_111) rfl ?_
        refine XS.iload X585.here hx rfl (hb hby at_113) rfl ?_
        refine XS.iconst X585.here hx rfl (hb hby at_115) ?_
        show Steps p.tables e below (T585.setTop (mkF m 116 #[iv p0_0, iv p0_1, iv p0_2, rv b1, iv (3 : Int32), iv (1 : Int32), rv b563, .unset] [(.int (3 : Int32)), (.int (1 : Int32)), (.int (3 : Int32)), (.ref b1), (.int ((((own_p31 (1 : Int32)) + (x3 * (own_p31 (0 : Int32)))) + (0 : Int32)) + (0 : Int32)))])) _
        refine st587 _ ?_
        show Steps p.tables e below (T587.setTop (mkF m 119 #[iv p0_0, iv p0_1, iv p0_2, rv b1, iv (3 : Int32), iv (1 : Int32), rv b563, .unset] [(.int (0 : Int32)), (.int ((((own_p31 (1 : Int32)) + (x3 * (own_p31 (0 : Int32)))) + (0 : Int32)) + (0 : Int32)))])) _
        refine XS.iadd X587.here hx rfl (hb hby at_119) rfl ?_
        refine XS.aloadN X587.here hx rfl (hb hby at_120) rfl rfl ?_
        refine XS.iload X587.here hx rfl (hb hby at_121) rfl ?_
        show Steps p.tables e below (T587.setTop (mkF m 123 #[iv p0_0, iv p0_1, iv p0_2, rv b1, iv (3 : Int32), iv (1 : Int32), rv b563, .unset] [(.int (3 : Int32)), (.ref b1), (.int (((((own_p31 (1 : Int32)) + (x3 * (own_p31 (0 : Int32)))) + (0 : Int32)) + (0 : Int32)) + (0 : Int32)))])) _
        refine XS.iload X587.here hx rfl (hb hby at_123) rfl ?_
        refine XS.iconst X587.here hx rfl (hb hby at_125) ?_
        show Steps p.tables e below (T587.setTop (mkF m 126 #[iv p0_0, iv p0_1, iv p0_2, rv b1, iv (3 : Int32), iv (1 : Int32), rv b563, .unset] [(.int (4 : Int32)), (.int (1 : Int32)), (.int (3 : Int32)), (.ref b1), (.int (((((own_p31 (1 : Int32)) + (x3 * (own_p31 (0 : Int32)))) + (0 : Int32)) + (0 : Int32)) + (0 : Int32)))])) _
        refine st589 _ ?_
        show Steps p.tables e below (T589.setTop (mkF m 129 #[iv p0_0, iv p0_1, iv p0_2, rv b1, iv (3 : Int32), iv (1 : Int32), rv b563, .unset] [(.int (0 : Int32)), (.int (((((own_p31 (1 : Int32)) + (x3 * (own_p31 (0 : Int32)))) + (0 : Int32)) + (0 : Int32)) + (0 : Int32)))])) _
        refine XS.iadd X589.here hx rfl (hb hby at_129) rfl ?_
        show Steps p.tables e below (T589.setTop (mkF m 130 #[iv p0_0, iv p0_1, iv p0_2, rv b1, iv (3 : Int32), iv (1 : Int32), rv b563, .unset] [(.int ((((((own_p31 (1 : Int32)) + (x3 * (own_p31 (0 : Int32)))) + (0 : Int32)) + (0 : Int32)) + (0 : Int32)) + (0 : Int32)))])) _
        refine XS.istore X589.here hx rfl (hb hby at_130) rfl (l' := #[iv p0_0, iv p0_1, iv p0_2, rv b1, iv (3 : Int32), iv (1 : Int32), rv b563, iv ((((((own_p31 (1 : Int32)) + (x3 * (own_p31 (0 : Int32)))) + (0 : Int32)) + (0 : Int32)) + (0 : Int32)) + (0 : Int32))]) rfl ?_
        refine XS.aload X589.here hx rfl (hb hby at_132) rfl rfl ?_
        show Steps p.tables e below (T589.setTop (mkF m 134 #[iv p0_0, iv p0_1, iv p0_2, rv b1, iv (3 : Int32), iv (1 : Int32), rv b563, iv ((((((own_p31 (1 : Int32)) + (x3 * (own_p31 (0 : Int32)))) + (0 : Int32)) + (0 : Int32)) + (0 : Int32)) + (0 : Int32))] [(.ref b563)])) _
        refine st591.trans ?_
        show Steps p.tables e below (T591.setTop (mkF m 137 #[iv p0_0, iv p0_1, iv p0_2, rv b1, iv (3 : Int32), iv (1 : Int32), rv b563, iv ((((((own_p31 (1 : Int32)) + (x3 * (own_p31 (0 : Int32)))) + (0 : Int32)) + (0 : Int32)) + (0 : Int32)) + (0 : Int32))] [(.int ((31 : Int32) + x3))])) _
        refine XS.iload X591.here hx rfl (hb hby at_137) rfl ?_
        show Steps p.tables e below (T591.setTop (mkF m 139 #[iv p0_0, iv p0_1, iv p0_2, rv b1, iv (3 : Int32), iv (1 : Int32), rv b563, iv ((((((own_p31 (1 : Int32)) + (x3 * (own_p31 (0 : Int32)))) + (0 : Int32)) + (0 : Int32)) + (0 : Int32)) + (0 : Int32))] [(.int ((((((own_p31 (1 : Int32)) + (x3 * (own_p31 (0 : Int32)))) + (0 : Int32)) + (0 : Int32)) + (0 : Int32)) + (0 : Int32))), (.int ((31 : Int32) + x3))])) _
        refine XS.icmpNo X591.here hx rfl (hb hby at_139) rfl (teq hc594).2 ?_
        refine XS.iconst X591.here hx rfl (hb hby at_142) ?_
        refine XS.goto X591.here hx rfl (pc0 := 143) (pc' := 147) rfl (hb hby at_143) (by decide) (by decide) ?_
        show Steps p.tables e below (T591.setTop (mkF m 147 #[iv p0_0, iv p0_1, iv p0_2, rv b1, iv (3 : Int32), iv (1 : Int32), rv b563, iv ((((((own_p31 (1 : Int32)) + (x3 * (own_p31 (0 : Int32)))) + (0 : Int32)) + (0 : Int32)) + (0 : Int32)) + (0 : Int32))] [(.int (1 : Int32))])) _
        exact retN X591 hx (t := .boolean) Bd.returns (by simp) (hb hby at_147) hr
      · show Q_rm0 Z _ _ _ h0 n0 _ T591.heap _
        rw [K591q]
        exact ⟨rfl, N593, (K576)⟩
    · skip
      obtain ⟨T595, h595, X595, e595, E595, A595, D595, -, st595⟩ := newO X32 hx hZ hown wo2 wo3 wo4 e32 (g := (mkF m 61 #[iv p0_0, iv p0_1, iv p0_2, rv b1, iv (3 : Int32), iv (2 : Int32), .unset, .unset] [])) rfl (hb hby at_61) (by decide) (by decide)
      obtain ⟨b595, gg595⟩ : ∃ z, z = h32.size := ⟨_, rfl⟩
      rw [← gg595] at A595 D595 st595
      have ne596 : b1 ≠ b595 := Nat.ne_of_lt (Nat.lt_of_lt_of_le f40.lt (Nat.le_of_eq gg595.symm))
      have f598 := (Nat.le_trans (Nat.le_trans (Nat.le_trans (Nat.le_trans (Nat.le_trans (Nat.le_trans Z0 E1.1) (Keep.of_wr W8).1) (Keep.of_wr W14).1) (Keep.of_wr W20).1) (Keep.of_wr W26).1) (Keep.of_wr W32).1)
      have g597 : n0 ≤ b595 := Nat.le_trans f598 (Nat.le_of_eq gg595.symm)
      have bz599 : h0.size ≤ b595 := Nat.le_trans (K33).1 (Nat.le_of_eq gg595.symm)
      have K600 : Keep h0 h595 [] := (K33).ext E595
      have f601 : Fld Z h595 b595 "com/example/tailwake/tailwake/source/mariadb/Slice" "array" "[B" .null := D595 (Or.inr wo20) (ty := (.array .byte)) (by decide)
      have f602 : Fld Z h595 b595 "com/example/tailwake/tailwake/source/mariadb/Slice" "offset" "I" (.int (0 : Int32)) := D595 (Or.inr wo22) (ty := .int) (by decide)
      have f603 : Fld Z h595 b595 "com/example/tailwake/tailwake/source/mariadb/Slice" "length" "I" (.int (0 : Int32)) := D595 (Or.inr wo24) (ty := .int) (by decide)
      have f604 := (f40.ext E595)
      have f606 := (Nat.le_trans f598 E595.1)
      obtain ⟨_, _, ⟨T605, L605, k605, n605⟩, -, X605, ⟨Lc605, hQ605, l605, y605, z605⟩, st605⟩ := X595.specialBack hx (y := MN1) rfl hown (mvT hZ wo5) (mvT hZ wo6) (mvT hZ wo7) (by decide) (backOf (W := 1) (rm1 l Z a0 hw [] b595 b1 (3 : Int32) (2 : Int32) h595 n0 f606 A595 g597 f601 f602 f603 f604.al (by first | decide | assumption | omega : ¬ ((((5 : Int32) ||| (3 : Int32)) ||| (2 : Int32)) < (0 : Int32))) (by first | decide | assumption | omega : ¬ (((5 : Int32) - (3 : Int32)) < (2 : Int32)))) hZ wo7 wo4 (by decide) (by decide)) (g := (mkF m 70 #[iv p0_0, iv p0_1, iv p0_2, rv b1, iv (3 : Int32), iv (2 : Int32), .unset, .unset] [(.int (2 : Int32)), (.int (3 : Int32)), (.ref b1), (.ref b595), (.ref b595)])) rfl (by rw [hml]; rfl) (Steps.refl _) (a := b595) (argsL := [(.ref b1), (.int (3 : Int32)), (.int (2 : Int32))]) (rest := [(.ref b595)]) (lenOf pd_5 rfl) rfl (by show 2 * 0 + _ ≤ _; exact Nat.le_of_eq rfl) (hb hby at_70) (fun _ _ => ⟨rfl, e595, (by decide : 2 + 0 ≤ _), (by decide : 8 + 0 ≤ _)⟩)
      dsimp only [Pt.U, Pt.locs, Pt.cells, Pt.slots] at X605 l605 y605 z605 st605 hQ605
      rw [l605, y605, z605] at X605
      obtain ⟨rfl, N605q, K605q, hq605_0, hq605_1, hq605_2⟩ := hQ605
      have N607 := Fr.app N35 N605q
      have K608 : Keep h0 T605.heap [] := (K600).trans K605q (allS (P := fun x => x ∈ [] ∨ h0.size ≤ x) (Or.inr bz599) all0)
      have f610 := (Nat.le_trans f606 K605q.1)
      obtain ⟨_, _, ⟨T609, L609, k609, n609⟩, -, X609, ⟨Lc609, hQ609, l609, y609, z609⟩, st609⟩ := Jvm.LawKit.callS X605 hx (y := MN5) hown (mvT hZ wo25) (mvT hZ wo26) (mvT hZ wo27) (mvT hZ wo28) (by decide) (backOf (W := 0) (rm5 l Z a0 hw [] (2 : Int32) (T605.heap) n0 f610 ) hZ wo28 wo27 (by decide) (by decide)) (g := (mkF m 77 #[iv p0_0, iv p0_1, iv p0_2, rv b1, iv (3 : Int32), iv (2 : Int32), rv b595, .unset] [(.int (2 : Int32))])) rfl (by rw [hml]; rfl) (argsL := [(.int (2 : Int32))]) (rest := []) (lenOf pd_2 rfl) rfl (by show 2 * 0 + _ ≤ _; exact Nat.le_of_eq rfl) (hb hby at_77) (fun _ _ => ⟨rfl, rfl, (by decide : 2 + 0 ≤ _), (by decide : 8 + 0 ≤ _)⟩)
      dsimp only [Pt.U, Pt.locs, Pt.cells, Pt.slots] at X609 l609 y609 z609 st609 hQ609
      rw [l609, y609, z609] at X609
      obtain ⟨rfl, N609q, K609q⟩ := hQ609
      have N611 := Fr.app N607 N609q
      have f612 := (f604.keep K605q (ninS ne596 nin0))
      obtain ⟨_, _, ⟨T613, L613, k613, n613⟩, -, X613, ⟨Lc613, hQ613, l613, y613, z613⟩, st613⟩ := Jvm.LawKit.callS X609 hx (y := MN6) hown (mvT hZ wo29) (mvT hZ wo30) (mvT hZ wo27) (mvT hZ wo31) (by decide) (backOf (W := 1) (rm_t3 l Z a0 hw [] b1 (3 : Int32) (2 : Int32) (0 : Int32) x0 x1 x2 x3 x4 (T605.heap) n0 f610 f612 (by first | decide | assumption | omega : (0 : Int32) < (2 : Int32)) (by first | decide | assumption | omega : ((3 : Int32) + (0 : Int32)) = (3 : Int32))) hZ wo31 wo27 (by decide) (by decide)) (g := (mkF m 86 #[iv p0_0, iv p0_1, iv p0_2, rv b1, iv (3 : Int32), iv (2 : Int32), rv b595, .unset] [(.int (0 : Int32)), (.int (2 : Int32)), (.int (3 : Int32)), (.ref b1), (.int (own_p31 (2 : Int32)))])) rfl (by rw [hml]; rfl) (argsL := [(.ref b1), (.int (3 : Int32)), (.int (2 : Int32)), (.int (0 : Int32))]) (rest := [(.int (own_p31 (2 : Int32)))]) (lenOf pd_6 rfl) rfl (by show 2 * 0 + _ ≤ _; exact Nat.le_of_eq rfl) (hb hby at_86) (fun _ _ => ⟨rfl, K609q, (by decide : 2 + 0 ≤ _), (by decide : 8 + 0 ≤ _)⟩)
      dsimp only [Pt.U, Pt.locs, Pt.cells, Pt.slots] at X613 l613 y613 z613 st613 hQ613
      rw [l613, y613, z613] at X613
      obtain ⟨rfl, N613q, K613q⟩ := hQ613
      have N614 := Fr.app N611 N613q
      obtain ⟨_, _, ⟨T615, L615, k615, n615⟩, -, X615, ⟨Lc615, hQ615, l615, y615, z615⟩, st615⟩ := Jvm.LawKit.callS X613 hx (y := MN6) hown (mvT hZ wo29) (mvT hZ wo30) (mvT hZ wo27) (mvT hZ wo31) (by decide) (backOf (W := 1) (rm_t4 l Z a0 hw [] b1 (3 : Int32) (2 : Int32) (1 : Int32) x0 x1 x2 x3 x4 (T605.heap) n0 f610 f612 (by first | decide | assumption | omega : (1 : Int32) < (2 : Int32)) (by first | decide | assumption | omega : ((3 : Int32) + (1 : Int32)) = (4 : Int32))) hZ wo31 wo27 (by decide) (by decide)) (g := (mkF m 96 #[iv p0_0, iv p0_1, iv p0_2, rv b1, iv (3 : Int32), iv (2 : Int32), rv b595, .unset] [(.int (1 : Int32)), (.int (2 : Int32)), (.int (3 : Int32)), (.ref b1), (.int ((own_p31 (2 : Int32)) + (x3 * (own_p31 (1 : Int32)))))])) rfl (by rw [hml]; rfl) (argsL := [(.ref b1), (.int (3 : Int32)), (.int (2 : Int32)), (.int (1 : Int32))]) (rest := [(.int ((own_p31 (2 : Int32)) + (x3 * (own_p31 (1 : Int32)))))]) (lenOf pd_6 rfl) rfl (by show 2 * 0 + _ ≤ _; exact Nat.le_of_eq rfl) (hb hby at_96) (fun _ _ => ⟨rfl, K613q, (by decide : 2 + 0 ≤ _), (by decide : 8 + 0 ≤ _)⟩)
      dsimp only [Pt.U, Pt.locs, Pt.cells, Pt.slots] at X615 l615 y615 z615 st615 hQ615
      rw [l615, y615, z615] at X615
      obtain ⟨rfl, N615q, K615q⟩ := hQ615
      have N616 := Fr.app N614 N615q
      obtain ⟨_, _, ⟨T617, L617, k617, n617⟩, -, X617, ⟨Lc617, hQ617, l617, y617, z617⟩, st617⟩ := Jvm.LawKit.callS X615 hx (y := MN6) hown (mvT hZ wo29) (mvT hZ wo30) (mvT hZ wo27) (mvT hZ wo31) (by decide) (backOf (W := 1) (rm_t l Z a0 hw [] b1 (3 : Int32) (2 : Int32) (2 : Int32) (T605.heap) n0 f610 (by first | decide | assumption | omega : ¬ ((2 : Int32) < (2 : Int32)))) hZ wo31 wo27 (by decide) (by decide)) (g := (mkF m 106 #[iv p0_0, iv p0_1, iv p0_2, rv b1, iv (3 : Int32), iv (2 : Int32), rv b595, .unset] [(.int (2 : Int32)), (.int (2 : Int32)), (.int (3 : Int32)), (.ref b1), (.int (((own_p31 (2 : Int32)) + (x3 * (own_p31 (1 : Int32)))) + (x4 * (own_p31 (0 : Int32)))))])) rfl (by rw [hml]; rfl) (argsL := [(.ref b1), (.int (3 : Int32)), (.int (2 : Int32)), (.int (2 : Int32))]) (rest := [(.int (((own_p31 (2 : Int32)) + (x3 * (own_p31 (1 : Int32)))) + (x4 * (own_p31 (0 : Int32)))))]) (lenOf pd_6 rfl) rfl (by show 2 * 0 + _ ≤ _; exact Nat.le_of_eq rfl) (hb hby at_106) (fun _ _ => ⟨rfl, K615q, (by decide : 2 + 0 ≤ _), (by decide : 8 + 0 ≤ _)⟩)
      dsimp only [Pt.U, Pt.locs, Pt.cells, Pt.slots] at X617 l617 y617 z617 st617 hQ617
      rw [l617, y617, z617] at X617
      obtain ⟨rfl, N617q, K617q⟩ := hQ617
      have N618 := Fr.app N616 N617q
      obtain ⟨_, _, ⟨T619, L619, k619, n619⟩, -, X619, ⟨Lc619, hQ619, l619, y619, z619⟩, st619⟩ := Jvm.LawKit.callS X617 hx (y := MN6) hown (mvT hZ wo29) (mvT hZ wo30) (mvT hZ wo27) (mvT hZ wo31) (by decide) (backOf (W := 1) (rm_t l Z a0 hw [] b1 (3 : Int32) (2 : Int32) (3 : Int32) (T605.heap) n0 f610 (by first | decide | assumption | omega : ¬ ((3 : Int32) < (2 : Int32)))) hZ wo31 wo27 (by decide) (by decide)) (g := (mkF m 116 #[iv p0_0, iv p0_1, iv p0_2, rv b1, iv (3 : Int32), iv (2 : Int32), rv b595, .unset] [(.int (3 : Int32)), (.int (2 : Int32)), (.int (3 : Int32)), (.ref b1), (.int ((((own_p31 (2 : Int32)) + (x3 * (own_p31 (1 : Int32)))) + (x4 * (own_p31 (0 : Int32)))) + (0 : Int32)))])) rfl (by rw [hml]; rfl) (argsL := [(.ref b1), (.int (3 : Int32)), (.int (2 : Int32)), (.int (3 : Int32))]) (rest := [(.int ((((own_p31 (2 : Int32)) + (x3 * (own_p31 (1 : Int32)))) + (x4 * (own_p31 (0 : Int32)))) + (0 : Int32)))]) (lenOf pd_6 rfl) rfl (by show 2 * 0 + _ ≤ _; exact Nat.le_of_eq rfl) (hb hby at_116) (fun _ _ => ⟨rfl, K617q, (by decide : 2 + 0 ≤ _), (by decide : 8 + 0 ≤ _)⟩)
      dsimp only [Pt.U, Pt.locs, Pt.cells, Pt.slots] at X619 l619 y619 z619 st619 hQ619
      rw [l619, y619, z619] at X619
      obtain ⟨rfl, N619q, K619q⟩ := hQ619
      have N620 := Fr.app N618 N619q
      obtain ⟨_, _, ⟨T621, L621, k621, n621⟩, -, X621, ⟨Lc621, hQ621, l621, y621, z621⟩, st621⟩ := Jvm.LawKit.callS X619 hx (y := MN6) hown (mvT hZ wo29) (mvT hZ wo30) (mvT hZ wo27) (mvT hZ wo31) (by decide) (backOf (W := 1) (rm_t l Z a0 hw [] b1 (3 : Int32) (2 : Int32) (4 : Int32) (T605.heap) n0 f610 (by first | decide | assumption | omega : ¬ ((4 : Int32) < (2 : Int32)))) hZ wo31 wo27 (by decide) (by decide)) (g := (mkF m 126 #[iv p0_0, iv p0_1, iv p0_2, rv b1, iv (3 : Int32), iv (2 : Int32), rv b595, .unset] [(.int (4 : Int32)), (.int (2 : Int32)), (.int (3 : Int32)), (.ref b1), (.int (((((own_p31 (2 : Int32)) + (x3 * (own_p31 (1 : Int32)))) + (x4 * (own_p31 (0 : Int32)))) + (0 : Int32)) + (0 : Int32)))])) rfl (by rw [hml]; rfl) (argsL := [(.ref b1), (.int (3 : Int32)), (.int (2 : Int32)), (.int (4 : Int32))]) (rest := [(.int (((((own_p31 (2 : Int32)) + (x3 * (own_p31 (1 : Int32)))) + (x4 * (own_p31 (0 : Int32)))) + (0 : Int32)) + (0 : Int32)))]) (lenOf pd_6 rfl) rfl (by show 2 * 0 + _ ≤ _; exact Nat.le_of_eq rfl) (hb hby at_126) (fun _ _ => ⟨rfl, K619q, (by decide : 2 + 0 ≤ _), (by decide : 8 + 0 ≤ _)⟩)
      dsimp only [Pt.U, Pt.locs, Pt.cells, Pt.slots] at X621 l621 y621 z621 st621 hQ621
      rw [l621, y621, z621] at X621
      obtain ⟨rfl, N621q, K621q⟩ := hQ621
      have N622 := Fr.app N620 N621q
      have f624 := (A595.keep K605q)
      obtain ⟨cq623, kq623, q623a, q623b, q623c⟩ := isOf hZ K621q f624
      obtain ⟨_, _, ⟨T623, L623, k623, n623⟩, -, X623, ⟨Lc623, hQ623, l623, y623, z623⟩, st623⟩ := X621.virtualBack hx (y := MN7) (z := MN7) hown (mvT hZ wo32) (mvT hZ wo33) (notFace_of_selects (args := #[]) (mvT hZ wo35)) (mvT hZ wo35) (mvT hZ wo34) (by decide) (backOf (W := 0) (rm_h3_2 l Z a0 hw [] b595 b1 x0 x1 x2 x3 x4 (T605.heap) n0 f610 hq605_0 hq605_1 hq605_2 f612) hZ wo36 wo4 (by decide) (by decide)) q623a q623c (g := (mkF m 134 #[iv p0_0, iv p0_1, iv p0_2, rv b1, iv (3 : Int32), iv (2 : Int32), rv b595, iv ((((((own_p31 (2 : Int32)) + (x3 * (own_p31 (1 : Int32)))) + (x4 * (own_p31 (0 : Int32)))) + (0 : Int32)) + (0 : Int32)) + (0 : Int32))] [(.ref b595)])) rfl (by rw [hml]; rfl) (Steps.refl _) (argsL := []) (rest := []) (lenOf pd_0 rfl) rfl (by show 2 * 0 + _ ≤ _; exact Nat.le_of_eq rfl) (hb hby at_134) (fun _ _ => ⟨rfl, K621q, (by decide : 2 + 0 ≤ _), (by decide : 8 + 0 ≤ _)⟩)
      dsimp only [Pt.U, Pt.locs, Pt.cells, Pt.slots] at X623 l623 y623 z623 st623 hQ623
      rw [l623, y623, z623] at X623
      obtain ⟨rfl, N623q, K623q⟩ := hQ623
      have N625 := Fr.app N622 N623q
      have hc626 : (((31 : Int32) * ((31 : Int32) + x3)) + x4) = ((((((own_p31 (2 : Int32)) + (x3 * (own_p31 (1 : Int32)))) + (x4 * (own_p31 (0 : Int32)))) + (0 : Int32)) + (0 : Int32)) + (0 : Int32)) := (by simp only [own_q0, own_q1, own_q2, own_q3, own_q4, own_q5]; first | rfl | grind)
      obtain ⟨fs, hr, hrun, hended, hW, hsame⟩ := X623.leave (v := some (.int (1 : Int32))) (fun h => by rw [Bd.returns] at h; cases h)
      refine ⟨_, _, pre529 _ ?_, hrun, hended, _, _, rfl, ?_, ⟨_, rfl⟩, hW, hsame.mono (by decide) (by decide)⟩
      · show Steps p.tables e below (T32.setTop (mkF m 61 #[iv p0_0, iv p0_1, iv p0_2, rv b1, iv (3 : Int32), iv (2 : Int32), .unset, .unset] [])) _
        refine st595 _ ?_
        show Steps p.tables e below (T595.setTop (mkF m 64 #[iv p0_0, iv p0_1, iv p0_2, rv b1, iv (3 : Int32), iv (2 : Int32), .unset, .unset] [(.ref b595)])) _
        refine XS.dup X595.here hx rfl (hb hby at_64) rfl rfl ?_
        refine XS.aloadN X595.here hx rfl (hb hby at_65) rfl rfl ?_
        refine XS.iload X595.here hx rfl (hb hby at_66) rfl ?_
        refine XS.iload X595.here hx rfl (hb hby at_68) rfl ?_
        show Steps p.tables e below (T595.setTop (mkF m 70 #[iv p0_0, iv p0_1, iv p0_2, rv b1, iv (3 : Int32), iv (2 : Int32), .unset, .unset] [(.int (2 : Int32)), (.int (3 : Int32)), (.ref b1), (.ref b595), (.ref b595)])) _
        refine st605.trans ?_
        show Steps p.tables e below (T605.setTop (mkF m 73 #[iv p0_0, iv p0_1, iv p0_2, rv b1, iv (3 : Int32), iv (2 : Int32), .unset, .unset] [(.ref b595)])) _
        refine XS.astore X605.here hx rfl (hb hby at_73) rfl rfl (l' := #[iv p0_0, iv p0_1, iv p0_2, rv b1, iv (3 : Int32), iv (2 : Int32), rv b595, .unset]) rfl ?_
        refine XS.iload X605.here hx rfl (hb hby at_75) rfl ?_
        show Steps p.tables e below (T605.setTop (mkF m 77 #[iv p0_0, iv p0_1, iv p0_2, rv b1, iv (3 : Int32), iv (2 : Int32), rv b595, .unset] [(.int (2 : Int32))])) _
        refine st609 _ ?_
        show Steps p.tables e below (T609.setTop (mkF m 80 #[iv p0_0, iv p0_1, iv p0_2, rv b1, iv (3 : Int32), iv (2 : Int32), rv b595, .unset] [(.int (own_p31 (2 : Int32)))])) _
        refine XS.aloadN X609.here hx rfl (hb hby at_80) rfl rfl ?_
        refine XS.iload X609.here hx rfl (hb hby at_81) rfl ?_
        refine XS.iload X609.here hx rfl (hb hby at_83) rfl ?_
        refine XS.iconst X609.here hx rfl (hb hby at_85) ?_
        show Steps p.tables e below (T609.setTop (mkF m 86 #[iv p0_0, iv p0_1, iv p0_2, rv b1, iv (3 : Int32), iv (2 : Int32), rv b595, .unset] [(.int (0 : Int32)), (.int (2 : Int32)), (.int (3 : Int32)), (.ref b1), (.int (own_p31 (2 : Int32)))])) _
        refine st613 _ ?_
        show Steps p.tables e below (T613.setTop (mkF m 89 #[iv p0_0, iv p0_1, iv p0_2, rv b1, iv (3 : Int32), iv (2 : Int32), rv b595, .unset] [(.int (x3 * (own_p31 (1 : Int32)))), (.int (own_p31 (2 : Int32)))])) _
        refine XS.iadd X613.here hx rfl (hb hby at_89) rfl ?_
        refine XS.aloadN X613.here hx rfl (hb hby at_90) rfl rfl ?_
        refine XS.iload X613.here hx rfl (hb hby at_91) rfl ?_
        show Steps p.tables e below (T613.setTop (mkF m 93 #[iv p0_0, iv p0_1, iv p0_2, rv b1, iv (3 : Int32), iv (2 : Int32), rv b595, .unset] [(.int (3 : Int32)), (.ref b1), (.int ((own_p31 (2 : Int32)) + (x3 * (own_p31 (1 : Int32)))))])) _
        refine XS.iload X613.here hx rfl (hb hby at_93) rfl ?_
        refine XS.iconst X613.here hx rfl (hb hby at_95) ?_
        show Steps p.tables e below (T613.setTop (mkF m 96 #[iv p0_0, iv p0_1, iv p0_2, rv b1, iv (3 : Int32), iv (2 : Int32), rv b595, .unset] [(.int (1 : Int32)), (.int (2 : Int32)), (.int (3 : Int32)), (.ref b1), (.int ((own_p31 (2 : Int32)) + (x3 * (own_p31 (1 : Int32)))))])) _
        refine st615 _ ?_
        show Steps p.tables e below (T615.setTop (mkF m 99 #[iv p0_0, iv p0_1, iv p0_2, rv b1, iv (3 : Int32), iv (2 : Int32), rv b595, .unset] [(.int (x4 * (own_p31 (0 : Int32)))), (.int ((own_p31 (2 : Int32)) + (x3 * (own_p31 (1 : Int32)))))])) _
        refine XS.iadd X615.here hx rfl (hb hby at_99) rfl ?_
        show Steps p.tables e below (T615.setTop (mkF m 100 #[iv p0_0, iv p0_1, iv p0_2, rv b1, iv (3 : Int32), iv (2 : Int32), rv b595, .unset] [(.int (((own_p31 (2 : Int32)) + (x3 * (own_p31 (1 : Int32)))) + (x4 * (own_p31 (0 : Int32)))))])) _
        refine XS.aloadN X615.here hx rfl (hb hby at_100) rfl rfl ?_
        refine XS.iload X615.here hx rfl (hb hby at_101) rfl ?_
        refine XS.iload X615.here hx rfl (hb hby at_103) rfl ?_
        refine XS.iconst X615.here hx rfl (hb hby at_105) ?_
        show Steps p.tables e below (T615.setTop (mkF m 106 #[iv p0_0, iv p0_1, iv p0_2, rv b1, iv (3 : Int32), iv (2 : Int32), rv b595, .unset] [(.int (2 : Int32)), (.int (2 : Int32)), (.int (3 : Int32)), (.ref b1), (.int (((own_p31 (2 : Int32)) + (x3 * (own_p31 (1 : Int32)))) + (x4 * (own_p31 (0 : Int32)))))])) _
        refine st617 _ ?_
        show Steps p.tables e below (T617.setTop (mkF m 109 #[iv p0_0, iv p0_1, iv p0_2, rv b1, iv (3 : Int32), iv (2 : Int32), rv b595, .unset] [(.int (0 : Int32)), (.int (((own_p31 (2 : Int32)) + (x3 * (own_p31 (1 : Int32)))) + (x4 * (own_p31 (0 : Int32)))))])) _
        refine XS.iadd X617.here hx rfl (hb hby at_109) rfl ?_
        refine XS.aloadN X617.here hx rfl (hb hby at_110) rfl rfl ?_
        refine XS.iload X617.here hx rfl (hb hby at_111) rfl ?_
        show Steps p.tables e below (T617.setTop (mkF m 113 #[iv p0_0, iv p0_1, iv p0_2, rv b1, iv (3 : Int32), iv (2 : Int32), rv b595, .unset] [(.int (3 : Int32)), (.ref b1), (.int ((((own_p31 (2 : Int32)) + (x3 * (own_p31 (1 : Int32)))) + (x4 * (own_p31 (0 : Int32)))) + (0 : Int32)))])) _
        refine XS.iload X617.here hx rfl (hb hby at_113) rfl ?_
        refine XS.iconst X617.here hx rfl (hb hby at_115) ?_
        show Steps p.tables e below (T617.setTop (mkF m 116 #[iv p0_0, iv p0_1, iv p0_2, rv b1, iv (3 : Int32), iv (2 : Int32), rv b595, .unset] [(.int (3 : Int32)), (.int (2 : Int32)), (.int (3 : Int32)), (.ref b1), (.int ((((own_p31 (2 : Int32)) + (x3 * (own_p31 (1 : Int32)))) + (x4 * (own_p31 (0 : Int32)))) + (0 : Int32)))])) _
        refine st619 _ ?_
        show Steps p.tables e below (T619.setTop (mkF m 119 #[iv p0_0, iv p0_1, iv p0_2, rv b1, iv (3 : Int32), iv (2 : Int32), rv b595, .unset] [(.int (0 : Int32)), (.int ((((own_p31 (2 : Int32)) + (x3 * (own_p31 (1 : Int32)))) + (x4 * (own_p31 (0 : Int32)))) + (0 : Int32)))])) _
        refine XS.iadd X619.here hx rfl (hb hby at_119) rfl ?_
        show Steps p.tables e below (T619.setTop (mkF m 120 #[iv p0_0, iv p0_1, iv p0_2, rv b1, iv (3 : Int32), iv (2 : Int32), rv b595, .unset] [(.int (((((own_p31 (2 : Int32)) + (x3 * (own_p31 (1 : Int32)))) + (x4 * (own_p31 (0 : Int32)))) + (0 : Int32)) + (0 : Int32)))])) _
        refine XS.aloadN X619.here hx rfl (hb hby at_120) rfl rfl ?_
        refine XS.iload X619.here hx rfl (hb hby at_121) rfl ?_
        refine XS.iload X619.here hx rfl (hb hby at_123) rfl ?_
        refine XS.iconst X619.here hx rfl (hb hby at_125) ?_
        show Steps p.tables e below (T619.setTop (mkF m 126 #[iv p0_0, iv p0_1, iv p0_2, rv b1, iv (3 : Int32), iv (2 : Int32), rv b595, .unset] [(.int (4 : Int32)), (.int (2 : Int32)), (.int (3 : Int32)), (.ref b1), (.int (((((own_p31 (2 : Int32)) + (x3 * (own_p31 (1 : Int32)))) + (x4 * (own_p31 (0 : Int32)))) + (0 : Int32)) + (0 : Int32)))])) _
        refine st621 _ ?_
        show Steps p.tables e below (T621.setTop (mkF m 129 #[iv p0_0, iv p0_1, iv p0_2, rv b1, iv (3 : Int32), iv (2 : Int32), rv b595, .unset] [(.int (0 : Int32)), (.int (((((own_p31 (2 : Int32)) + (x3 * (own_p31 (1 : Int32)))) + (x4 * (own_p31 (0 : Int32)))) + (0 : Int32)) + (0 : Int32)))])) _
        refine XS.iadd X621.here hx rfl (hb hby at_129) rfl ?_
        refine XS.istore X621.here hx rfl (hb hby at_130) rfl (l' := #[iv p0_0, iv p0_1, iv p0_2, rv b1, iv (3 : Int32), iv (2 : Int32), rv b595, iv ((((((own_p31 (2 : Int32)) + (x3 * (own_p31 (1 : Int32)))) + (x4 * (own_p31 (0 : Int32)))) + (0 : Int32)) + (0 : Int32)) + (0 : Int32))]) rfl ?_
        refine XS.aload X621.here hx rfl (hb hby at_132) rfl rfl ?_
        show Steps p.tables e below (T621.setTop (mkF m 134 #[iv p0_0, iv p0_1, iv p0_2, rv b1, iv (3 : Int32), iv (2 : Int32), rv b595, iv ((((((own_p31 (2 : Int32)) + (x3 * (own_p31 (1 : Int32)))) + (x4 * (own_p31 (0 : Int32)))) + (0 : Int32)) + (0 : Int32)) + (0 : Int32))] [(.ref b595)])) _
        refine st623.trans ?_
        show Steps p.tables e below (T623.setTop (mkF m 137 #[iv p0_0, iv p0_1, iv p0_2, rv b1, iv (3 : Int32), iv (2 : Int32), rv b595, iv ((((((own_p31 (2 : Int32)) + (x3 * (own_p31 (1 : Int32)))) + (x4 * (own_p31 (0 : Int32)))) + (0 : Int32)) + (0 : Int32)) + (0 : Int32))] [(.int (((31 : Int32) * ((31 : Int32) + x3)) + x4))])) _
        refine XS.iload X623.here hx rfl (hb hby at_137) rfl ?_
        refine XS.icmpNo X623.here hx rfl (hb hby at_139) rfl (teq hc626).2 ?_
        refine XS.iconst X623.here hx rfl (hb hby at_142) ?_
        show Steps p.tables e below (T623.setTop (mkF m 143 #[iv p0_0, iv p0_1, iv p0_2, rv b1, iv (3 : Int32), iv (2 : Int32), rv b595, iv ((((((own_p31 (2 : Int32)) + (x3 * (own_p31 (1 : Int32)))) + (x4 * (own_p31 (0 : Int32)))) + (0 : Int32)) + (0 : Int32)) + (0 : Int32))] [(.int (1 : Int32))])) _
        refine XS.goto X623.here hx rfl (pc0 := 143) (pc' := 147) rfl (hb hby at_143) (by decide) (by decide) ?_
        show Steps p.tables e below (T623.setTop (mkF m 147 #[iv p0_0, iv p0_1, iv p0_2, rv b1, iv (3 : Int32), iv (2 : Int32), rv b595, iv ((((((own_p31 (2 : Int32)) + (x3 * (own_p31 (1 : Int32)))) + (x4 * (own_p31 (0 : Int32)))) + (0 : Int32)) + (0 : Int32)) + (0 : Int32))] [(.int (1 : Int32))])) _
        exact retN X623 hx (t := .boolean) Bd.returns (by simp) (hb hby at_147) hr
      · show Q_rm0 Z _ _ _ h0 n0 _ T623.heap _
        rw [K623q]
        exact ⟨rfl, N625, (K608)⟩
  · skip
    obtain ⟨ln, h_ln⟩ : ∃ z : Int32, z = ((((p0_2.toUInt32 >>> ((3 : Int32) &&& 31).toUInt32).toInt32) &&& (2147483647 : Int32)) % (2 : Int32)) := ⟨_, rfl⟩
    have hln : 0 ≤ ln.toInt ∧ ln.toInt < 2 := by rw [h_ln]; exact own_len _ 2 (by decide)
    have pre627 : ∀ t, Steps p.tables e below (T32.setTop (mkF m 61 #[iv p0_0, iv p0_1, iv p0_2, rv b1, iv (4 : Int32), iv ln, .unset, .unset] [])) t → Steps p.tables e below (s₁.setTop (entryFrame m #[(.int p0_0), (.int p0_1), (.int p0_2)] maxLocals)) t := by
      intro t_ k_
      refine pre41 _ ?_
      show Steps p.tables e below (T32.setTop (mkF m 47 #[iv p0_0, iv p0_1, iv p0_2, rv b1, iv (4 : Int32), .unset, .unset, .unset] [])) _
      refine XS.iloadN X32.here hx rfl (hb hby at_47) rfl ?_
      refine XS.iconst X32.here hx rfl (hb hby at_48) ?_
      show Steps p.tables e below (T32.setTop (mkF m 49 #[iv p0_0, iv p0_1, iv p0_2, rv b1, iv (4 : Int32), .unset, .unset, .unset] [(.int (3 : Int32)), (.int p0_2)])) _
      refine XS.iushr X32.here hx rfl (hb hby at_49) rfl ?_
      show Steps p.tables e below (T32.setTop (mkF m 50 #[iv p0_0, iv p0_1, iv p0_2, rv b1, iv (4 : Int32), .unset, .unset, .unset] [(.int ((p0_2.toUInt32 >>> ((3 : Int32) &&& 31).toUInt32).toInt32))])) _
      refine X32.ldcInt hx hown (mvT hZ wo1) (g := (mkF m 50 #[iv p0_0, iv p0_1, iv p0_2, rv b1, iv (4 : Int32), .unset, .unset, .unset] [(.int ((p0_2.toUInt32 >>> ((3 : Int32) &&& 31).toUInt32).toInt32))])) rfl (hb hby at_50) _ ?_
      show Steps p.tables e below (T32.setTop (mkF m 52 #[iv p0_0, iv p0_1, iv p0_2, rv b1, iv (4 : Int32), .unset, .unset, .unset] [(.int (2147483647 : Int32)), (.int ((p0_2.toUInt32 >>> ((3 : Int32) &&& 31).toUInt32).toInt32))])) _
      refine XS.iand X32.here hx rfl (hb hby at_52) rfl ?_
      refine XS.bipush X32.here hx rfl (hb hby at_53) ?_
      show Steps p.tables e below (T32.setTop (mkF m 55 #[iv p0_0, iv p0_1, iv p0_2, rv b1, iv (4 : Int32), .unset, .unset, .unset] [(.int (6 : Int32)), (.int (((p0_2.toUInt32 >>> ((3 : Int32) &&& 31).toUInt32).toInt32) &&& (2147483647 : Int32)))])) _
      refine XS.iload X32.here hx rfl (hb hby at_55) rfl ?_
      refine XS.isub X32.here hx rfl (hb hby at_57) rfl ?_
      show Steps p.tables e below (T32.setTop (mkF m 58 #[iv p0_0, iv p0_1, iv p0_2, rv b1, iv (4 : Int32), .unset, .unset, .unset] [(.int (2 : Int32)), (.int (((p0_2.toUInt32 >>> ((3 : Int32) &&& 31).toUInt32).toInt32) &&& (2147483647 : Int32)))])) _
      refine iremM (g := (mkF m 58 #[iv p0_0, iv p0_1, iv p0_2, rv b1, iv (4 : Int32), .unset, .unset, .unset] [(.int (2 : Int32)), (.int (((p0_2.toUInt32 >>> ((3 : Int32) &&& 31).toUInt32).toInt32) &&& (2147483647 : Int32)))])) X32 hx rfl (hb hby at_58) rfl (by decide) ?_
      show Steps p.tables e below (T32.setTop (mkF m 59 #[iv p0_0, iv p0_1, iv p0_2, rv b1, iv (4 : Int32), .unset, .unset, .unset] [(.int ((((p0_2.toUInt32 >>> ((3 : Int32) &&& 31).toUInt32).toInt32) &&& (2147483647 : Int32)) % (2 : Int32)))])) _
      refine XS.istore X32.here hx rfl (hb hby at_59) rfl (l' := #[iv p0_0, iv p0_1, iv p0_2, rv b1, iv (4 : Int32), iv ((((p0_2.toUInt32 >>> ((3 : Int32) &&& 31).toUInt32).toInt32) &&& (2147483647 : Int32)) % (2 : Int32)), .unset, .unset]) rfl ?_
      rw [← h_ln]
      show Steps p.tables e below (T32.setTop (mkF m 61 #[iv p0_0, iv p0_1, iv p0_2, rv b1, iv (4 : Int32), iv ln, .unset, .unset] [])) _
      exact k_
    have hx_628 : ln = (0 : Int32) ∨ ln = (1 : Int32) := own_lt2 ln hln
    rcases hx_628 with rfl | rfl
    · skip
      obtain ⟨T629, h629, X629, e629, E629, A629, D629, -, st629⟩ := newO X32 hx hZ hown wo2 wo3 wo4 e32 (g := (mkF m 61 #[iv p0_0, iv p0_1, iv p0_2, rv b1, iv (4 : Int32), iv (0 : Int32), .unset, .unset] [])) rfl (hb hby at_61) (by decide) (by decide)
      obtain ⟨b629, gg629⟩ : ∃ z, z = h32.size := ⟨_, rfl⟩
      rw [← gg629] at A629 D629 st629
      have ne630 : b1 ≠ b629 := Nat.ne_of_lt (Nat.lt_of_lt_of_le f40.lt (Nat.le_of_eq gg629.symm))
      have f632 := (Nat.le_trans (Nat.le_trans (Nat.le_trans (Nat.le_trans (Nat.le_trans (Nat.le_trans Z0 E1.1) (Keep.of_wr W8).1) (Keep.of_wr W14).1) (Keep.of_wr W20).1) (Keep.of_wr W26).1) (Keep.of_wr W32).1)
      have g631 : n0 ≤ b629 := Nat.le_trans f632 (Nat.le_of_eq gg629.symm)
      have bz633 : h0.size ≤ b629 := Nat.le_trans (K33).1 (Nat.le_of_eq gg629.symm)
      have K634 : Keep h0 h629 [] := (K33).ext E629
      have f635 : Fld Z h629 b629 "com/example/tailwake/tailwake/source/mariadb/Slice" "array" "[B" .null := D629 (Or.inr wo20) (ty := (.array .byte)) (by decide)
      have f636 : Fld Z h629 b629 "com/example/tailwake/tailwake/source/mariadb/Slice" "offset" "I" (.int (0 : Int32)) := D629 (Or.inr wo22) (ty := .int) (by decide)
      have f637 : Fld Z h629 b629 "com/example/tailwake/tailwake/source/mariadb/Slice" "length" "I" (.int (0 : Int32)) := D629 (Or.inr wo24) (ty := .int) (by decide)
      have f638 := (f40.ext E629)
      have f640 := (Nat.le_trans f632 E629.1)
      obtain ⟨_, _, ⟨T639, L639, k639, n639⟩, -, X639, ⟨Lc639, hQ639, l639, y639, z639⟩, st639⟩ := X629.specialBack hx (y := MN1) rfl hown (mvT hZ wo5) (mvT hZ wo6) (mvT hZ wo7) (by decide) (backOf (W := 1) (rm1 l Z a0 hw [] b629 b1 (4 : Int32) (0 : Int32) h629 n0 f640 A629 g631 f635 f636 f637 f638.al (by first | decide | assumption | omega : ¬ ((((5 : Int32) ||| (4 : Int32)) ||| (0 : Int32)) < (0 : Int32))) (by first | decide | assumption | omega : ¬ (((5 : Int32) - (4 : Int32)) < (0 : Int32)))) hZ wo7 wo4 (by decide) (by decide)) (g := (mkF m 70 #[iv p0_0, iv p0_1, iv p0_2, rv b1, iv (4 : Int32), iv (0 : Int32), .unset, .unset] [(.int (0 : Int32)), (.int (4 : Int32)), (.ref b1), (.ref b629), (.ref b629)])) rfl (by rw [hml]; rfl) (Steps.refl _) (a := b629) (argsL := [(.ref b1), (.int (4 : Int32)), (.int (0 : Int32))]) (rest := [(.ref b629)]) (lenOf pd_5 rfl) rfl (by show 2 * 0 + _ ≤ _; exact Nat.le_of_eq rfl) (hb hby at_70) (fun _ _ => ⟨rfl, e629, (by decide : 2 + 0 ≤ _), (by decide : 8 + 0 ≤ _)⟩)
      dsimp only [Pt.U, Pt.locs, Pt.cells, Pt.slots] at X639 l639 y639 z639 st639 hQ639
      rw [l639, y639, z639] at X639
      obtain ⟨rfl, N639q, K639q, hq639_0, hq639_1, hq639_2⟩ := hQ639
      have N641 := Fr.app N35 N639q
      have K642 : Keep h0 T639.heap [] := (K634).trans K639q (allS (P := fun x => x ∈ [] ∨ h0.size ≤ x) (Or.inr bz633) all0)
      have f644 := (Nat.le_trans f640 K639q.1)
      obtain ⟨_, _, ⟨T643, L643, k643, n643⟩, -, X643, ⟨Lc643, hQ643, l643, y643, z643⟩, st643⟩ := Jvm.LawKit.callS X639 hx (y := MN5) hown (mvT hZ wo25) (mvT hZ wo26) (mvT hZ wo27) (mvT hZ wo28) (by decide) (backOf (W := 0) (rm5 l Z a0 hw [] (0 : Int32) (T639.heap) n0 f644 ) hZ wo28 wo27 (by decide) (by decide)) (g := (mkF m 77 #[iv p0_0, iv p0_1, iv p0_2, rv b1, iv (4 : Int32), iv (0 : Int32), rv b629, .unset] [(.int (0 : Int32))])) rfl (by rw [hml]; rfl) (argsL := [(.int (0 : Int32))]) (rest := []) (lenOf pd_2 rfl) rfl (by show 2 * 0 + _ ≤ _; exact Nat.le_of_eq rfl) (hb hby at_77) (fun _ _ => ⟨rfl, rfl, (by decide : 2 + 0 ≤ _), (by decide : 8 + 0 ≤ _)⟩)
      dsimp only [Pt.U, Pt.locs, Pt.cells, Pt.slots] at X643 l643 y643 z643 st643 hQ643
      rw [l643, y643, z643] at X643
      obtain ⟨rfl, N643q, K643q⟩ := hQ643
      have N645 := Fr.app N641 N643q
      obtain ⟨_, _, ⟨T646, L646, k646, n646⟩, -, X646, ⟨Lc646, hQ646, l646, y646, z646⟩, st646⟩ := Jvm.LawKit.callS X643 hx (y := MN6) hown (mvT hZ wo29) (mvT hZ wo30) (mvT hZ wo27) (mvT hZ wo31) (by decide) (backOf (W := 1) (rm_t l Z a0 hw [] b1 (4 : Int32) (0 : Int32) (0 : Int32) (T639.heap) n0 f644 (by first | decide | assumption | omega : ¬ ((0 : Int32) < (0 : Int32)))) hZ wo31 wo27 (by decide) (by decide)) (g := (mkF m 86 #[iv p0_0, iv p0_1, iv p0_2, rv b1, iv (4 : Int32), iv (0 : Int32), rv b629, .unset] [(.int (0 : Int32)), (.int (0 : Int32)), (.int (4 : Int32)), (.ref b1), (.int (own_p31 (0 : Int32)))])) rfl (by rw [hml]; rfl) (argsL := [(.ref b1), (.int (4 : Int32)), (.int (0 : Int32)), (.int (0 : Int32))]) (rest := [(.int (own_p31 (0 : Int32)))]) (lenOf pd_6 rfl) rfl (by show 2 * 0 + _ ≤ _; exact Nat.le_of_eq rfl) (hb hby at_86) (fun _ _ => ⟨rfl, K643q, (by decide : 2 + 0 ≤ _), (by decide : 8 + 0 ≤ _)⟩)
      dsimp only [Pt.U, Pt.locs, Pt.cells, Pt.slots] at X646 l646 y646 z646 st646 hQ646
      rw [l646, y646, z646] at X646
      obtain ⟨rfl, N646q, K646q⟩ := hQ646
      have N647 := Fr.app N645 N646q
      obtain ⟨_, _, ⟨T648, L648, k648, n648⟩, -, X648, ⟨Lc648, hQ648, l648, y648, z648⟩, st648⟩ := Jvm.LawKit.callS X646 hx (y := MN6) hown (mvT hZ wo29) (mvT hZ wo30) (mvT hZ wo27) (mvT hZ wo31) (by decide) (backOf (W := 1) (rm_t l Z a0 hw [] b1 (4 : Int32) (0 : Int32) (1 : Int32) (T639.heap) n0 f644 (by first | decide | assumption | omega : ¬ ((1 : Int32) < (0 : Int32)))) hZ wo31 wo27 (by decide) (by decide)) (g := (mkF m 96 #[iv p0_0, iv p0_1, iv p0_2, rv b1, iv (4 : Int32), iv (0 : Int32), rv b629, .unset] [(.int (1 : Int32)), (.int (0 : Int32)), (.int (4 : Int32)), (.ref b1), (.int ((own_p31 (0 : Int32)) + (0 : Int32)))])) rfl (by rw [hml]; rfl) (argsL := [(.ref b1), (.int (4 : Int32)), (.int (0 : Int32)), (.int (1 : Int32))]) (rest := [(.int ((own_p31 (0 : Int32)) + (0 : Int32)))]) (lenOf pd_6 rfl) rfl (by show 2 * 0 + _ ≤ _; exact Nat.le_of_eq rfl) (hb hby at_96) (fun _ _ => ⟨rfl, K646q, (by decide : 2 + 0 ≤ _), (by decide : 8 + 0 ≤ _)⟩)
      dsimp only [Pt.U, Pt.locs, Pt.cells, Pt.slots] at X648 l648 y648 z648 st648 hQ648
      rw [l648, y648, z648] at X648
      obtain ⟨rfl, N648q, K648q⟩ := hQ648
      have N649 := Fr.app N647 N648q
      obtain ⟨_, _, ⟨T650, L650, k650, n650⟩, -, X650, ⟨Lc650, hQ650, l650, y650, z650⟩, st650⟩ := Jvm.LawKit.callS X648 hx (y := MN6) hown (mvT hZ wo29) (mvT hZ wo30) (mvT hZ wo27) (mvT hZ wo31) (by decide) (backOf (W := 1) (rm_t l Z a0 hw [] b1 (4 : Int32) (0 : Int32) (2 : Int32) (T639.heap) n0 f644 (by first | decide | assumption | omega : ¬ ((2 : Int32) < (0 : Int32)))) hZ wo31 wo27 (by decide) (by decide)) (g := (mkF m 106 #[iv p0_0, iv p0_1, iv p0_2, rv b1, iv (4 : Int32), iv (0 : Int32), rv b629, .unset] [(.int (2 : Int32)), (.int (0 : Int32)), (.int (4 : Int32)), (.ref b1), (.int (((own_p31 (0 : Int32)) + (0 : Int32)) + (0 : Int32)))])) rfl (by rw [hml]; rfl) (argsL := [(.ref b1), (.int (4 : Int32)), (.int (0 : Int32)), (.int (2 : Int32))]) (rest := [(.int (((own_p31 (0 : Int32)) + (0 : Int32)) + (0 : Int32)))]) (lenOf pd_6 rfl) rfl (by show 2 * 0 + _ ≤ _; exact Nat.le_of_eq rfl) (hb hby at_106) (fun _ _ => ⟨rfl, K648q, (by decide : 2 + 0 ≤ _), (by decide : 8 + 0 ≤ _)⟩)
      dsimp only [Pt.U, Pt.locs, Pt.cells, Pt.slots] at X650 l650 y650 z650 st650 hQ650
      rw [l650, y650, z650] at X650
      obtain ⟨rfl, N650q, K650q⟩ := hQ650
      have N651 := Fr.app N649 N650q
      obtain ⟨_, _, ⟨T652, L652, k652, n652⟩, -, X652, ⟨Lc652, hQ652, l652, y652, z652⟩, st652⟩ := Jvm.LawKit.callS X650 hx (y := MN6) hown (mvT hZ wo29) (mvT hZ wo30) (mvT hZ wo27) (mvT hZ wo31) (by decide) (backOf (W := 1) (rm_t l Z a0 hw [] b1 (4 : Int32) (0 : Int32) (3 : Int32) (T639.heap) n0 f644 (by first | decide | assumption | omega : ¬ ((3 : Int32) < (0 : Int32)))) hZ wo31 wo27 (by decide) (by decide)) (g := (mkF m 116 #[iv p0_0, iv p0_1, iv p0_2, rv b1, iv (4 : Int32), iv (0 : Int32), rv b629, .unset] [(.int (3 : Int32)), (.int (0 : Int32)), (.int (4 : Int32)), (.ref b1), (.int ((((own_p31 (0 : Int32)) + (0 : Int32)) + (0 : Int32)) + (0 : Int32)))])) rfl (by rw [hml]; rfl) (argsL := [(.ref b1), (.int (4 : Int32)), (.int (0 : Int32)), (.int (3 : Int32))]) (rest := [(.int ((((own_p31 (0 : Int32)) + (0 : Int32)) + (0 : Int32)) + (0 : Int32)))]) (lenOf pd_6 rfl) rfl (by show 2 * 0 + _ ≤ _; exact Nat.le_of_eq rfl) (hb hby at_116) (fun _ _ => ⟨rfl, K650q, (by decide : 2 + 0 ≤ _), (by decide : 8 + 0 ≤ _)⟩)
      dsimp only [Pt.U, Pt.locs, Pt.cells, Pt.slots] at X652 l652 y652 z652 st652 hQ652
      rw [l652, y652, z652] at X652
      obtain ⟨rfl, N652q, K652q⟩ := hQ652
      have N653 := Fr.app N651 N652q
      obtain ⟨_, _, ⟨T654, L654, k654, n654⟩, -, X654, ⟨Lc654, hQ654, l654, y654, z654⟩, st654⟩ := Jvm.LawKit.callS X652 hx (y := MN6) hown (mvT hZ wo29) (mvT hZ wo30) (mvT hZ wo27) (mvT hZ wo31) (by decide) (backOf (W := 1) (rm_t l Z a0 hw [] b1 (4 : Int32) (0 : Int32) (4 : Int32) (T639.heap) n0 f644 (by first | decide | assumption | omega : ¬ ((4 : Int32) < (0 : Int32)))) hZ wo31 wo27 (by decide) (by decide)) (g := (mkF m 126 #[iv p0_0, iv p0_1, iv p0_2, rv b1, iv (4 : Int32), iv (0 : Int32), rv b629, .unset] [(.int (4 : Int32)), (.int (0 : Int32)), (.int (4 : Int32)), (.ref b1), (.int (((((own_p31 (0 : Int32)) + (0 : Int32)) + (0 : Int32)) + (0 : Int32)) + (0 : Int32)))])) rfl (by rw [hml]; rfl) (argsL := [(.ref b1), (.int (4 : Int32)), (.int (0 : Int32)), (.int (4 : Int32))]) (rest := [(.int (((((own_p31 (0 : Int32)) + (0 : Int32)) + (0 : Int32)) + (0 : Int32)) + (0 : Int32)))]) (lenOf pd_6 rfl) rfl (by show 2 * 0 + _ ≤ _; exact Nat.le_of_eq rfl) (hb hby at_126) (fun _ _ => ⟨rfl, K652q, (by decide : 2 + 0 ≤ _), (by decide : 8 + 0 ≤ _)⟩)
      dsimp only [Pt.U, Pt.locs, Pt.cells, Pt.slots] at X654 l654 y654 z654 st654 hQ654
      rw [l654, y654, z654] at X654
      obtain ⟨rfl, N654q, K654q⟩ := hQ654
      have N655 := Fr.app N653 N654q
      have f656 := (f638.keep K639q (ninS ne630 nin0))
      have f658 := (A629.keep K639q)
      obtain ⟨cq657, kq657, q657a, q657b, q657c⟩ := isOf hZ K654q f658
      obtain ⟨_, _, ⟨T657, L657, k657, n657⟩, -, X657, ⟨Lc657, hQ657, l657, y657, z657⟩, st657⟩ := X654.virtualBack hx (y := MN7) (z := MN7) hown (mvT hZ wo32) (mvT hZ wo33) (notFace_of_selects (args := #[]) (mvT hZ wo35)) (mvT hZ wo35) (mvT hZ wo34) (by decide) (backOf (W := 0) (rm_h4_0 l Z a0 hw [] b629 b1 x0 x1 x2 x3 x4 (T639.heap) n0 f644 hq639_0 hq639_1 hq639_2 f656) hZ wo36 wo4 (by decide) (by decide)) q657a q657c (g := (mkF m 134 #[iv p0_0, iv p0_1, iv p0_2, rv b1, iv (4 : Int32), iv (0 : Int32), rv b629, iv ((((((own_p31 (0 : Int32)) + (0 : Int32)) + (0 : Int32)) + (0 : Int32)) + (0 : Int32)) + (0 : Int32))] [(.ref b629)])) rfl (by rw [hml]; rfl) (Steps.refl _) (argsL := []) (rest := []) (lenOf pd_0 rfl) rfl (by show 2 * 0 + _ ≤ _; exact Nat.le_of_eq rfl) (hb hby at_134) (fun _ _ => ⟨rfl, K654q, (by decide : 2 + 0 ≤ _), (by decide : 8 + 0 ≤ _)⟩)
      dsimp only [Pt.U, Pt.locs, Pt.cells, Pt.slots] at X657 l657 y657 z657 st657 hQ657
      rw [l657, y657, z657] at X657
      obtain ⟨rfl, N657q, K657q⟩ := hQ657
      have N659 := Fr.app N655 N657q
      have hc660 : (1 : Int32) = ((((((own_p31 (0 : Int32)) + (0 : Int32)) + (0 : Int32)) + (0 : Int32)) + (0 : Int32)) + (0 : Int32)) := (by simp only [own_q0, own_q1, own_q2, own_q3, own_q4, own_q5]; first | rfl | grind)
      obtain ⟨fs, hr, hrun, hended, hW, hsame⟩ := X657.leave (v := some (.int (1 : Int32))) (fun h => by rw [Bd.returns] at h; cases h)
      refine ⟨_, _, pre627 _ ?_, hrun, hended, _, _, rfl, ?_, ⟨_, rfl⟩, hW, hsame.mono (by decide) (by decide)⟩
      · show Steps p.tables e below (T32.setTop (mkF m 61 #[iv p0_0, iv p0_1, iv p0_2, rv b1, iv (4 : Int32), iv (0 : Int32), .unset, .unset] [])) _
        refine st629 _ ?_
        show Steps p.tables e below (T629.setTop (mkF m 64 #[iv p0_0, iv p0_1, iv p0_2, rv b1, iv (4 : Int32), iv (0 : Int32), .unset, .unset] [(.ref b629)])) _
        refine XS.dup X629.here hx rfl (hb hby at_64) rfl rfl ?_
        refine XS.aloadN X629.here hx rfl (hb hby at_65) rfl rfl ?_
        refine XS.iload X629.here hx rfl (hb hby at_66) rfl ?_
        show Steps p.tables e below (T629.setTop (mkF m 68 #[iv p0_0, iv p0_1, iv p0_2, rv b1, iv (4 : Int32), iv (0 : Int32), .unset, .unset] [(.int (4 : Int32)), (.ref b1), (.ref b629), (.ref b629)])) _
        refine XS.iload X629.here hx rfl (hb hby at_68) rfl ?_
        show Steps p.tables e below (T629.setTop (mkF m 70 #[iv p0_0, iv p0_1, iv p0_2, rv b1, iv (4 : Int32), iv (0 : Int32), .unset, .unset] [(.int (0 : Int32)), (.int (4 : Int32)), (.ref b1), (.ref b629), (.ref b629)])) _
        refine st639.trans ?_
        show Steps p.tables e below (T639.setTop (mkF m 73 #[iv p0_0, iv p0_1, iv p0_2, rv b1, iv (4 : Int32), iv (0 : Int32), .unset, .unset] [(.ref b629)])) _
        refine XS.astore X639.here hx rfl (hb hby at_73) rfl rfl (l' := #[iv p0_0, iv p0_1, iv p0_2, rv b1, iv (4 : Int32), iv (0 : Int32), rv b629, .unset]) rfl ?_
        refine XS.iload X639.here hx rfl (hb hby at_75) rfl ?_
        show Steps p.tables e below (T639.setTop (mkF m 77 #[iv p0_0, iv p0_1, iv p0_2, rv b1, iv (4 : Int32), iv (0 : Int32), rv b629, .unset] [(.int (0 : Int32))])) _
        refine st643 _ ?_
        show Steps p.tables e below (T643.setTop (mkF m 80 #[iv p0_0, iv p0_1, iv p0_2, rv b1, iv (4 : Int32), iv (0 : Int32), rv b629, .unset] [(.int (own_p31 (0 : Int32)))])) _
        refine XS.aloadN X643.here hx rfl (hb hby at_80) rfl rfl ?_
        refine XS.iload X643.here hx rfl (hb hby at_81) rfl ?_
        refine XS.iload X643.here hx rfl (hb hby at_83) rfl ?_
        show Steps p.tables e below (T643.setTop (mkF m 85 #[iv p0_0, iv p0_1, iv p0_2, rv b1, iv (4 : Int32), iv (0 : Int32), rv b629, .unset] [(.int (0 : Int32)), (.int (4 : Int32)), (.ref b1), (.int (own_p31 (0 : Int32)))])) _
        refine XS.iconst X643.here hx rfl (hb hby at_85) ?_
        show Steps p.tables e below (T643.setTop (mkF m 86 #[iv p0_0, iv p0_1, iv p0_2, rv b1, iv (4 : Int32), iv (0 : Int32), rv b629, .unset] [(.int (0 : Int32)), (.int (0 : Int32)), (.int (4 : Int32)), (.ref b1), (.int (own_p31 (0 : Int32)))])) _
        refine st646 _ ?_
        show Steps p.tables e below (T646.setTop (mkF m 89 #[iv p0_0, iv p0_1, iv p0_2, rv b1, iv (4 : Int32), iv (0 : Int32), rv b629, .unset] [(.int (0 : Int32)), (.int (own_p31 (0 : Int32)))])) _
        refine XS.iadd X646.here hx rfl (hb hby at_89) rfl ?_
        refine XS.aloadN X646.here hx rfl (hb hby at_90) rfl rfl ?_
        show Steps p.tables e below (T646.setTop (mkF m 91 #[iv p0_0, iv p0_1, iv p0_2, rv b1, iv (4 : Int32), iv (0 : Int32), rv b629, .unset] [(.ref b1), (.int ((own_p31 (0 : Int32)) + (0 : Int32)))])) _
        refine XS.iload X646.here hx rfl (hb hby at_91) rfl ?_
        refine XS.iload X646.here hx rfl (hb hby at_93) rfl ?_
        refine XS.iconst X646.here hx rfl (hb hby at_95) ?_
        show Steps p.tables e below (T646.setTop (mkF m 96 #[iv p0_0, iv p0_1, iv p0_2, rv b1, iv (4 : Int32), iv (0 : Int32), rv b629, .unset] [(.int (1 : Int32)), (.int (0 : Int32)), (.int (4 : Int32)), (.ref b1), (.int ((own_p31 (0 : Int32)) + (0 : Int32)))])) _
        refine st648 _ ?_
        show Steps p.tables e below (T648.setTop (mkF m 99 #[iv p0_0, iv p0_1, iv p0_2, rv b1, iv (4 : Int32), iv (0 : Int32), rv b629, .unset] [(.int (0 : Int32)), (.int ((own_p31 (0 : Int32)) + (0 : Int32)))])) _
        refine XS.iadd X648.here hx rfl (hb hby at_99) rfl ?_
        refine XS.aloadN X648.here hx rfl (hb hby at_100) rfl rfl ?_
        refine XS.iload X648.here hx rfl (hb hby at_101) rfl ?_
        refine XS.iload X648.here hx rfl (hb hby at_103) rfl ?_
        show Steps p.tables e below (T648.setTop (mkF m 105 #[iv p0_0, iv p0_1, iv p0_2, rv b1, iv (4 : Int32), iv (0 : Int32), rv b629, .unset] [(.int (0 : Int32)), (.int (4 : Int32)), (.ref b1), (.int (((own_p31 (0 : Int32)) + (0 : Int32)) + (0 : Int32)))])) _
        refine XS.iconst X648.here hx rfl (hb hby at_105) ?_
        show Steps p.tables e below (T648.setTop (mkF m 106 #[iv p0_0, iv p0_1, iv p0_2, rv b1, iv (4 : Int32), iv (0 : Int32), rv b629, .unset] [(.int (2 : Int32)), (.int (0 : Int32)), (.int (4 : Int32)), (.ref b1), (.int (((own_p31 (0 : Int32)) + (0 : Int32)) + (0 : Int32)))])) _
        refine st650 _ ?_
        show Steps p.tables e below (T650.setTop (mkF m 109 #[iv p0_0, iv p0_1, iv p0_2, rv b1, iv (4 : Int32), iv (0 : Int32), rv b629, .unset] [(.int (0 : Int32)), (.int (((own_p31 (0 : Int32)) + (0 : Int32)) + (0 : Int32)))])) _
        refine XS.iadd X650.here hx rfl (hb hby at_109) rfl ?_
        refine XS.aloadN X650.here hx rfl (hb hby at_110) rfl rfl ?_
        show Steps p.tables e below (T650.setTop (mkF m 111 #[iv p0_0, iv p0_1, iv p0_2, rv b1, iv (4 : Int32), iv (0 : Int32), rv b629, .unset] [(.ref b1), (.int ((((own_p31 (0 : Int32)) + (0 : Int32)) + (0 : Int32)) + (0 : Int32)))])) _
        refine XS.iload X650.here hx rfl (hb hby at_111) rfl ?_
        refine XS.iload X650.here hx rfl (hb hby at_113) rfl ?_
        refine XS.iconst X650.here hx rfl (hb hby at_115) ?_
        show Steps p.tables e below (T650.setTop (mkF m 116 #[iv p0_0, iv p0_1, iv p0_2, rv b1, iv (4 : Int32), iv (0 : Int32), rv b629, .unset] [(.int (3 : Int32)), (.int (0 : Int32)), (.int (4 : Int32)), (.ref b1), (.int ((((own_p31 (0 : Int32)) + (0 : Int32)) + (0 : Int32)) + (0 : Int32)))])) _
        refine st652 _ ?_
        show Steps p.tables e below (T652.setTop (mkF m 119 #[iv p0_0, iv p0_1, iv p0_2, rv b1, iv (4 : Int32), iv (0 : Int32), rv b629, .unset] [(.int (0 : Int32)), (.int ((((own_p31 (0 : Int32)) + (0 : Int32)) + (0 : Int32)) + (0 : Int32)))])) _
        refine XS.iadd X652.here hx rfl (hb hby at_119) rfl ?_
        refine XS.aloadN X652.here hx rfl (hb hby at_120) rfl rfl ?_
        refine XS.iload X652.here hx rfl (hb hby at_121) rfl ?_
        refine XS.iload X652.here hx rfl (hb hby at_123) rfl ?_
        show Steps p.tables e below (T652.setTop (mkF m 125 #[iv p0_0, iv p0_1, iv p0_2, rv b1, iv (4 : Int32), iv (0 : Int32), rv b629, .unset] [(.int (0 : Int32)), (.int (4 : Int32)), (.ref b1), (.int (((((own_p31 (0 : Int32)) + (0 : Int32)) + (0 : Int32)) + (0 : Int32)) + (0 : Int32)))])) _
        refine XS.iconst X652.here hx rfl (hb hby at_125) ?_
        show Steps p.tables e below (T652.setTop (mkF m 126 #[iv p0_0, iv p0_1, iv p0_2, rv b1, iv (4 : Int32), iv (0 : Int32), rv b629, .unset] [(.int (4 : Int32)), (.int (0 : Int32)), (.int (4 : Int32)), (.ref b1), (.int (((((own_p31 (0 : Int32)) + (0 : Int32)) + (0 : Int32)) + (0 : Int32)) + (0 : Int32)))])) _
        refine st654 _ ?_
        show Steps p.tables e below (T654.setTop (mkF m 129 #[iv p0_0, iv p0_1, iv p0_2, rv b1, iv (4 : Int32), iv (0 : Int32), rv b629, .unset] [(.int (0 : Int32)), (.int (((((own_p31 (0 : Int32)) + (0 : Int32)) + (0 : Int32)) + (0 : Int32)) + (0 : Int32)))])) _
        refine XS.iadd X654.here hx rfl (hb hby at_129) rfl ?_
        refine XS.istore X654.here hx rfl (hb hby at_130) rfl (l' := #[iv p0_0, iv p0_1, iv p0_2, rv b1, iv (4 : Int32), iv (0 : Int32), rv b629, iv ((((((own_p31 (0 : Int32)) + (0 : Int32)) + (0 : Int32)) + (0 : Int32)) + (0 : Int32)) + (0 : Int32))]) rfl ?_
        show Steps p.tables e below (T654.setTop (mkF m 132 #[iv p0_0, iv p0_1, iv p0_2, rv b1, iv (4 : Int32), iv (0 : Int32), rv b629, iv ((((((own_p31 (0 : Int32)) + (0 : Int32)) + (0 : Int32)) + (0 : Int32)) + (0 : Int32)) + (0 : Int32))] [])) _
        refine XS.aload X654.here hx rfl (hb hby at_132) rfl rfl ?_
        show Steps p.tables e below (T654.setTop (mkF m 134 #[iv p0_0, iv p0_1, iv p0_2, rv b1, iv (4 : Int32), iv (0 : Int32), rv b629, iv ((((((own_p31 (0 : Int32)) + (0 : Int32)) + (0 : Int32)) + (0 : Int32)) + (0 : Int32)) + (0 : Int32))] [(.ref b629)])) _
        refine st657.trans ?_
        show Steps p.tables e below (T657.setTop (mkF m 137 #[iv p0_0, iv p0_1, iv p0_2, rv b1, iv (4 : Int32), iv (0 : Int32), rv b629, iv ((((((own_p31 (0 : Int32)) + (0 : Int32)) + (0 : Int32)) + (0 : Int32)) + (0 : Int32)) + (0 : Int32))] [(.int (1 : Int32))])) _
        refine XS.iload X657.here hx rfl (hb hby at_137) rfl ?_
        refine XS.icmpNo X657.here hx rfl (hb hby at_139) rfl (teq hc660).2 ?_
        show Steps p.tables e below (T657.setTop (mkF m 142 #[iv p0_0, iv p0_1, iv p0_2, rv b1, iv (4 : Int32), iv (0 : Int32), rv b629, iv ((((((own_p31 (0 : Int32)) + (0 : Int32)) + (0 : Int32)) + (0 : Int32)) + (0 : Int32)) + (0 : Int32))] [])) _
        refine XS.iconst X657.here hx rfl (hb hby at_142) ?_
        refine XS.goto X657.here hx rfl (pc0 := 143) (pc' := 147) rfl (hb hby at_143) (by decide) (by decide) ?_
        show Steps p.tables e below (T657.setTop (mkF m 147 #[iv p0_0, iv p0_1, iv p0_2, rv b1, iv (4 : Int32), iv (0 : Int32), rv b629, iv ((((((own_p31 (0 : Int32)) + (0 : Int32)) + (0 : Int32)) + (0 : Int32)) + (0 : Int32)) + (0 : Int32))] [(.int (1 : Int32))])) _
        exact retN X657 hx (t := .boolean) Bd.returns (by simp) (hb hby at_147) hr
      · show Q_rm0 Z _ _ _ h0 n0 _ T657.heap _
        rw [K657q]
        exact ⟨rfl, N659, (K642)⟩
    · skip
      obtain ⟨T661, h661, X661, e661, E661, A661, D661, -, st661⟩ := newO X32 hx hZ hown wo2 wo3 wo4 e32 (g := (mkF m 61 #[iv p0_0, iv p0_1, iv p0_2, rv b1, iv (4 : Int32), iv (1 : Int32), .unset, .unset] [])) rfl (hb hby at_61) (by decide) (by decide)
      obtain ⟨b661, gg661⟩ : ∃ z, z = h32.size := ⟨_, rfl⟩
      rw [← gg661] at A661 D661 st661
      have ne662 : b1 ≠ b661 := Nat.ne_of_lt (Nat.lt_of_lt_of_le f40.lt (Nat.le_of_eq gg661.symm))
      have f664 := (Nat.le_trans (Nat.le_trans (Nat.le_trans (Nat.le_trans (Nat.le_trans (Nat.le_trans Z0 E1.1) (Keep.of_wr W8).1) (Keep.of_wr W14).1) (Keep.of_wr W20).1) (Keep.of_wr W26).1) (Keep.of_wr W32).1)
      have g663 : n0 ≤ b661 := Nat.le_trans f664 (Nat.le_of_eq gg661.symm)
      have bz665 : h0.size ≤ b661 := Nat.le_trans (K33).1 (Nat.le_of_eq gg661.symm)
      have K666 : Keep h0 h661 [] := (K33).ext E661
      have f667 : Fld Z h661 b661 "com/example/tailwake/tailwake/source/mariadb/Slice" "array" "[B" .null := D661 (Or.inr wo20) (ty := (.array .byte)) (by decide)
      have f668 : Fld Z h661 b661 "com/example/tailwake/tailwake/source/mariadb/Slice" "offset" "I" (.int (0 : Int32)) := D661 (Or.inr wo22) (ty := .int) (by decide)
      have f669 : Fld Z h661 b661 "com/example/tailwake/tailwake/source/mariadb/Slice" "length" "I" (.int (0 : Int32)) := D661 (Or.inr wo24) (ty := .int) (by decide)
      have f670 := (f40.ext E661)
      have f672 := (Nat.le_trans f664 E661.1)
      obtain ⟨_, _, ⟨T671, L671, k671, n671⟩, -, X671, ⟨Lc671, hQ671, l671, y671, z671⟩, st671⟩ := X661.specialBack hx (y := MN1) rfl hown (mvT hZ wo5) (mvT hZ wo6) (mvT hZ wo7) (by decide) (backOf (W := 1) (rm1 l Z a0 hw [] b661 b1 (4 : Int32) (1 : Int32) h661 n0 f672 A661 g663 f667 f668 f669 f670.al (by first | decide | assumption | omega : ¬ ((((5 : Int32) ||| (4 : Int32)) ||| (1 : Int32)) < (0 : Int32))) (by first | decide | assumption | omega : ¬ (((5 : Int32) - (4 : Int32)) < (1 : Int32)))) hZ wo7 wo4 (by decide) (by decide)) (g := (mkF m 70 #[iv p0_0, iv p0_1, iv p0_2, rv b1, iv (4 : Int32), iv (1 : Int32), .unset, .unset] [(.int (1 : Int32)), (.int (4 : Int32)), (.ref b1), (.ref b661), (.ref b661)])) rfl (by rw [hml]; rfl) (Steps.refl _) (a := b661) (argsL := [(.ref b1), (.int (4 : Int32)), (.int (1 : Int32))]) (rest := [(.ref b661)]) (lenOf pd_5 rfl) rfl (by show 2 * 0 + _ ≤ _; exact Nat.le_of_eq rfl) (hb hby at_70) (fun _ _ => ⟨rfl, e661, (by decide : 2 + 0 ≤ _), (by decide : 8 + 0 ≤ _)⟩)
      dsimp only [Pt.U, Pt.locs, Pt.cells, Pt.slots] at X671 l671 y671 z671 st671 hQ671
      rw [l671, y671, z671] at X671
      obtain ⟨rfl, N671q, K671q, hq671_0, hq671_1, hq671_2⟩ := hQ671
      have N673 := Fr.app N35 N671q
      have K674 : Keep h0 T671.heap [] := (K666).trans K671q (allS (P := fun x => x ∈ [] ∨ h0.size ≤ x) (Or.inr bz665) all0)
      have f676 := (Nat.le_trans f672 K671q.1)
      obtain ⟨_, _, ⟨T675, L675, k675, n675⟩, -, X675, ⟨Lc675, hQ675, l675, y675, z675⟩, st675⟩ := Jvm.LawKit.callS X671 hx (y := MN5) hown (mvT hZ wo25) (mvT hZ wo26) (mvT hZ wo27) (mvT hZ wo28) (by decide) (backOf (W := 0) (rm5 l Z a0 hw [] (1 : Int32) (T671.heap) n0 f676 ) hZ wo28 wo27 (by decide) (by decide)) (g := (mkF m 77 #[iv p0_0, iv p0_1, iv p0_2, rv b1, iv (4 : Int32), iv (1 : Int32), rv b661, .unset] [(.int (1 : Int32))])) rfl (by rw [hml]; rfl) (argsL := [(.int (1 : Int32))]) (rest := []) (lenOf pd_2 rfl) rfl (by show 2 * 0 + _ ≤ _; exact Nat.le_of_eq rfl) (hb hby at_77) (fun _ _ => ⟨rfl, rfl, (by decide : 2 + 0 ≤ _), (by decide : 8 + 0 ≤ _)⟩)
      dsimp only [Pt.U, Pt.locs, Pt.cells, Pt.slots] at X675 l675 y675 z675 st675 hQ675
      rw [l675, y675, z675] at X675
      obtain ⟨rfl, N675q, K675q⟩ := hQ675
      have N677 := Fr.app N673 N675q
      have f678 := (f670.keep K671q (ninS ne662 nin0))
      obtain ⟨_, _, ⟨T679, L679, k679, n679⟩, -, X679, ⟨Lc679, hQ679, l679, y679, z679⟩, st679⟩ := Jvm.LawKit.callS X675 hx (y := MN6) hown (mvT hZ wo29) (mvT hZ wo30) (mvT hZ wo27) (mvT hZ wo31) (by decide) (backOf (W := 1) (rm_t4 l Z a0 hw [] b1 (4 : Int32) (1 : Int32) (0 : Int32) x0 x1 x2 x3 x4 (T671.heap) n0 f676 f678 (by first | decide | assumption | omega : (0 : Int32) < (1 : Int32)) (by first | decide | assumption | omega : ((4 : Int32) + (0 : Int32)) = (4 : Int32))) hZ wo31 wo27 (by decide) (by decide)) (g := (mkF m 86 #[iv p0_0, iv p0_1, iv p0_2, rv b1, iv (4 : Int32), iv (1 : Int32), rv b661, .unset] [(.int (0 : Int32)), (.int (1 : Int32)), (.int (4 : Int32)), (.ref b1), (.int (own_p31 (1 : Int32)))])) rfl (by rw [hml]; rfl) (argsL := [(.ref b1), (.int (4 : Int32)), (.int (1 : Int32)), (.int (0 : Int32))]) (rest := [(.int (own_p31 (1 : Int32)))]) (lenOf pd_6 rfl) rfl (by show 2 * 0 + _ ≤ _; exact Nat.le_of_eq rfl) (hb hby at_86) (fun _ _ => ⟨rfl, K675q, (by decide : 2 + 0 ≤ _), (by decide : 8 + 0 ≤ _)⟩)
      dsimp only [Pt.U, Pt.locs, Pt.cells, Pt.slots] at X679 l679 y679 z679 st679 hQ679
      rw [l679, y679, z679] at X679
      obtain ⟨rfl, N679q, K679q⟩ := hQ679
      have N680 := Fr.app N677 N679q
      obtain ⟨_, _, ⟨T681, L681, k681, n681⟩, -, X681, ⟨Lc681, hQ681, l681, y681, z681⟩, st681⟩ := Jvm.LawKit.callS X679 hx (y := MN6) hown (mvT hZ wo29) (mvT hZ wo30) (mvT hZ wo27) (mvT hZ wo31) (by decide) (backOf (W := 1) (rm_t l Z a0 hw [] b1 (4 : Int32) (1 : Int32) (1 : Int32) (T671.heap) n0 f676 (by first | decide | assumption | omega : ¬ ((1 : Int32) < (1 : Int32)))) hZ wo31 wo27 (by decide) (by decide)) (g := (mkF m 96 #[iv p0_0, iv p0_1, iv p0_2, rv b1, iv (4 : Int32), iv (1 : Int32), rv b661, .unset] [(.int (1 : Int32)), (.int (1 : Int32)), (.int (4 : Int32)), (.ref b1), (.int ((own_p31 (1 : Int32)) + (x4 * (own_p31 (0 : Int32)))))])) rfl (by rw [hml]; rfl) (argsL := [(.ref b1), (.int (4 : Int32)), (.int (1 : Int32)), (.int (1 : Int32))]) (rest := [(.int ((own_p31 (1 : Int32)) + (x4 * (own_p31 (0 : Int32)))))]) (lenOf pd_6 rfl) rfl (by show 2 * 0 + _ ≤ _; exact Nat.le_of_eq rfl) (hb hby at_96) (fun _ _ => ⟨rfl, K679q, (by decide : 2 + 0 ≤ _), (by decide : 8 + 0 ≤ _)⟩)
      dsimp only [Pt.U, Pt.locs, Pt.cells, Pt.slots] at X681 l681 y681 z681 st681 hQ681
      rw [l681, y681, z681] at X681
      obtain ⟨rfl, N681q, K681q⟩ := hQ681
      have N682 := Fr.app N680 N681q
      obtain ⟨_, _, ⟨T683, L683, k683, n683⟩, -, X683, ⟨Lc683, hQ683, l683, y683, z683⟩, st683⟩ := Jvm.LawKit.callS X681 hx (y := MN6) hown (mvT hZ wo29) (mvT hZ wo30) (mvT hZ wo27) (mvT hZ wo31) (by decide) (backOf (W := 1) (rm_t l Z a0 hw [] b1 (4 : Int32) (1 : Int32) (2 : Int32) (T671.heap) n0 f676 (by first | decide | assumption | omega : ¬ ((2 : Int32) < (1 : Int32)))) hZ wo31 wo27 (by decide) (by decide)) (g := (mkF m 106 #[iv p0_0, iv p0_1, iv p0_2, rv b1, iv (4 : Int32), iv (1 : Int32), rv b661, .unset] [(.int (2 : Int32)), (.int (1 : Int32)), (.int (4 : Int32)), (.ref b1), (.int (((own_p31 (1 : Int32)) + (x4 * (own_p31 (0 : Int32)))) + (0 : Int32)))])) rfl (by rw [hml]; rfl) (argsL := [(.ref b1), (.int (4 : Int32)), (.int (1 : Int32)), (.int (2 : Int32))]) (rest := [(.int (((own_p31 (1 : Int32)) + (x4 * (own_p31 (0 : Int32)))) + (0 : Int32)))]) (lenOf pd_6 rfl) rfl (by show 2 * 0 + _ ≤ _; exact Nat.le_of_eq rfl) (hb hby at_106) (fun _ _ => ⟨rfl, K681q, (by decide : 2 + 0 ≤ _), (by decide : 8 + 0 ≤ _)⟩)
      dsimp only [Pt.U, Pt.locs, Pt.cells, Pt.slots] at X683 l683 y683 z683 st683 hQ683
      rw [l683, y683, z683] at X683
      obtain ⟨rfl, N683q, K683q⟩ := hQ683
      have N684 := Fr.app N682 N683q
      obtain ⟨_, _, ⟨T685, L685, k685, n685⟩, -, X685, ⟨Lc685, hQ685, l685, y685, z685⟩, st685⟩ := Jvm.LawKit.callS X683 hx (y := MN6) hown (mvT hZ wo29) (mvT hZ wo30) (mvT hZ wo27) (mvT hZ wo31) (by decide) (backOf (W := 1) (rm_t l Z a0 hw [] b1 (4 : Int32) (1 : Int32) (3 : Int32) (T671.heap) n0 f676 (by first | decide | assumption | omega : ¬ ((3 : Int32) < (1 : Int32)))) hZ wo31 wo27 (by decide) (by decide)) (g := (mkF m 116 #[iv p0_0, iv p0_1, iv p0_2, rv b1, iv (4 : Int32), iv (1 : Int32), rv b661, .unset] [(.int (3 : Int32)), (.int (1 : Int32)), (.int (4 : Int32)), (.ref b1), (.int ((((own_p31 (1 : Int32)) + (x4 * (own_p31 (0 : Int32)))) + (0 : Int32)) + (0 : Int32)))])) rfl (by rw [hml]; rfl) (argsL := [(.ref b1), (.int (4 : Int32)), (.int (1 : Int32)), (.int (3 : Int32))]) (rest := [(.int ((((own_p31 (1 : Int32)) + (x4 * (own_p31 (0 : Int32)))) + (0 : Int32)) + (0 : Int32)))]) (lenOf pd_6 rfl) rfl (by show 2 * 0 + _ ≤ _; exact Nat.le_of_eq rfl) (hb hby at_116) (fun _ _ => ⟨rfl, K683q, (by decide : 2 + 0 ≤ _), (by decide : 8 + 0 ≤ _)⟩)
      dsimp only [Pt.U, Pt.locs, Pt.cells, Pt.slots] at X685 l685 y685 z685 st685 hQ685
      rw [l685, y685, z685] at X685
      obtain ⟨rfl, N685q, K685q⟩ := hQ685
      have N686 := Fr.app N684 N685q
      obtain ⟨_, _, ⟨T687, L687, k687, n687⟩, -, X687, ⟨Lc687, hQ687, l687, y687, z687⟩, st687⟩ := Jvm.LawKit.callS X685 hx (y := MN6) hown (mvT hZ wo29) (mvT hZ wo30) (mvT hZ wo27) (mvT hZ wo31) (by decide) (backOf (W := 1) (rm_t l Z a0 hw [] b1 (4 : Int32) (1 : Int32) (4 : Int32) (T671.heap) n0 f676 (by first | decide | assumption | omega : ¬ ((4 : Int32) < (1 : Int32)))) hZ wo31 wo27 (by decide) (by decide)) (g := (mkF m 126 #[iv p0_0, iv p0_1, iv p0_2, rv b1, iv (4 : Int32), iv (1 : Int32), rv b661, .unset] [(.int (4 : Int32)), (.int (1 : Int32)), (.int (4 : Int32)), (.ref b1), (.int (((((own_p31 (1 : Int32)) + (x4 * (own_p31 (0 : Int32)))) + (0 : Int32)) + (0 : Int32)) + (0 : Int32)))])) rfl (by rw [hml]; rfl) (argsL := [(.ref b1), (.int (4 : Int32)), (.int (1 : Int32)), (.int (4 : Int32))]) (rest := [(.int (((((own_p31 (1 : Int32)) + (x4 * (own_p31 (0 : Int32)))) + (0 : Int32)) + (0 : Int32)) + (0 : Int32)))]) (lenOf pd_6 rfl) rfl (by show 2 * 0 + _ ≤ _; exact Nat.le_of_eq rfl) (hb hby at_126) (fun _ _ => ⟨rfl, K685q, (by decide : 2 + 0 ≤ _), (by decide : 8 + 0 ≤ _)⟩)
      dsimp only [Pt.U, Pt.locs, Pt.cells, Pt.slots] at X687 l687 y687 z687 st687 hQ687
      rw [l687, y687, z687] at X687
      obtain ⟨rfl, N687q, K687q⟩ := hQ687
      have N688 := Fr.app N686 N687q
      have f690 := (A661.keep K671q)
      obtain ⟨cq689, kq689, q689a, q689b, q689c⟩ := isOf hZ K687q f690
      obtain ⟨_, _, ⟨T689, L689, k689, n689⟩, -, X689, ⟨Lc689, hQ689, l689, y689, z689⟩, st689⟩ := X687.virtualBack hx (y := MN7) (z := MN7) hown (mvT hZ wo32) (mvT hZ wo33) (notFace_of_selects (args := #[]) (mvT hZ wo35)) (mvT hZ wo35) (mvT hZ wo34) (by decide) (backOf (W := 0) (rm_h4_1 l Z a0 hw [] b661 b1 x0 x1 x2 x3 x4 (T671.heap) n0 f676 hq671_0 hq671_1 hq671_2 f678) hZ wo36 wo4 (by decide) (by decide)) q689a q689c (g := (mkF m 134 #[iv p0_0, iv p0_1, iv p0_2, rv b1, iv (4 : Int32), iv (1 : Int32), rv b661, iv ((((((own_p31 (1 : Int32)) + (x4 * (own_p31 (0 : Int32)))) + (0 : Int32)) + (0 : Int32)) + (0 : Int32)) + (0 : Int32))] [(.ref b661)])) rfl (by rw [hml]; rfl) (Steps.refl _) (argsL := []) (rest := []) (lenOf pd_0 rfl) rfl (by show 2 * 0 + _ ≤ _; exact Nat.le_of_eq rfl) (hb hby at_134) (fun _ _ => ⟨rfl, K687q, (by decide : 2 + 0 ≤ _), (by decide : 8 + 0 ≤ _)⟩)
      dsimp only [Pt.U, Pt.locs, Pt.cells, Pt.slots] at X689 l689 y689 z689 st689 hQ689
      rw [l689, y689, z689] at X689
      obtain ⟨rfl, N689q, K689q⟩ := hQ689
      have N691 := Fr.app N688 N689q
      have hc692 : ((31 : Int32) + x4) = ((((((own_p31 (1 : Int32)) + (x4 * (own_p31 (0 : Int32)))) + (0 : Int32)) + (0 : Int32)) + (0 : Int32)) + (0 : Int32)) := (by simp only [own_q0, own_q1, own_q2, own_q3, own_q4, own_q5]; first | rfl | grind)
      obtain ⟨fs, hr, hrun, hended, hW, hsame⟩ := X689.leave (v := some (.int (1 : Int32))) (fun h => by rw [Bd.returns] at h; cases h)
      refine ⟨_, _, pre627 _ ?_, hrun, hended, _, _, rfl, ?_, ⟨_, rfl⟩, hW, hsame.mono (by decide) (by decide)⟩
      · show Steps p.tables e below (T32.setTop (mkF m 61 #[iv p0_0, iv p0_1, iv p0_2, rv b1, iv (4 : Int32), iv (1 : Int32), .unset, .unset] [])) _
        refine st661 _ ?_
        show Steps p.tables e below (T661.setTop (mkF m 64 #[iv p0_0, iv p0_1, iv p0_2, rv b1, iv (4 : Int32), iv (1 : Int32), .unset, .unset] [(.ref b661)])) _
        refine XS.dup X661.here hx rfl (hb hby at_64) rfl rfl ?_
        show Steps p.tables e below (T661.setTop (mkF m 65 #[iv p0_0, iv p0_1, iv p0_2, rv b1, iv (4 : Int32), iv (1 : Int32), .unset, .unset] [(.ref b661), (.ref b661)])) _
        refine XS.aloadN X661.here hx rfl (hb hby at_65) rfl rfl ?_
        refine XS.iload X661.here hx rfl (hb hby at_66) rfl ?_
        refine XS.iload X661.here hx rfl (hb hby at_68) rfl ?_
        show Steps p.tables e below (T661.setTop (mkF m 70 #[iv p0_0, iv p0_1, iv p0_2, rv b1, iv (4 : Int32), iv (1 : Int32), .unset, .unset] [(.int (1 : Int32)), (.int (4 : Int32)), (.ref b1), (.ref b661), (.ref b661)])) _
        refine st671.trans ?_
        show Steps p.tables e below (T671.setTop (mkF m 73 #[iv p0_0, iv p0_1, iv p0_2, rv b1, iv (4 : Int32), iv (1 : Int32), .unset, .unset] [(.ref b661)])) _
        refine XS.astore X671.here hx rfl (hb hby at_73) rfl rfl (l' := #[iv p0_0, iv p0_1, iv p0_2, rv b1, iv (4 : Int32), iv (1 : Int32), rv b661, .unset]) rfl ?_
        refine XS.iload X671.here hx rfl (hb hby at_75) rfl ?_
        show Steps p.tables e below (T671.setTop (mkF m 77 #[iv p0_0, iv p0_1, iv p0_2, rv b1, iv (4 : Int32), iv (1 : Int32), rv b661, .unset] [(.int (1 : Int32))])) _
        refine st675 _ ?_
        show Steps p.tables e below (T675.setTop (mkF m 80 #[iv p0_0, iv p0_1, iv p0_2, rv b1, iv (4 : Int32), iv (1 : Int32), rv b661, .unset] [(.int (own_p31 (1 : Int32)))])) _
        refine XS.aloadN X675.here hx rfl (hb hby at_80) rfl rfl ?_
        show Steps p.tables e below (T675.setTop (mkF m 81 #[iv p0_0, iv p0_1, iv p0_2, rv b1, iv (4 : Int32), iv (1 : Int32), rv b661, .unset] [(.ref b1), (.int (own_p31 (1 : Int32)))])) _
        refine XS.iload X675.here hx rfl (hb hby at_81) rfl ?_
        refine XS.iload X675.here hx rfl (hb hby at_83) rfl ?_
        refine XS.iconst X675.here hx rfl (hb hby at_85) ?_
        show Steps p.tables e below (T675.setTop (mkF m 86 #[iv p0_0, iv p0_1, iv p0_2, rv b1, iv (4 : Int32), iv (1 : Int32), rv b661, .unset] [(.int (0 : Int32)), (.int (1 : Int32)), (.int (4 : Int32)), (.ref b1), (.int (own_p31 (1 : Int32)))])) _
        refine st679 _ ?_
        show Steps p.tables e below (T679.setTop (mkF m 89 #[iv p0_0, iv p0_1, iv p0_2, rv b1, iv (4 : Int32), iv (1 : Int32), rv b661, .unset] [(.int (x4 * (own_p31 (0 : Int32)))), (.int (own_p31 (1 : Int32)))])) _
        refine XS.iadd X679.here hx rfl (hb hby at_89) rfl ?_
        refine XS.aloadN X679.here hx rfl (hb hby at_90) rfl rfl ?_
        refine XS.iload X679.here hx rfl (hb hby at_91) rfl ?_
        refine XS.iload X679.here hx rfl (hb hby at_93) rfl ?_
        show Steps p.tables e below (T679.setTop (mkF m 95 #[iv p0_0, iv p0_1, iv p0_2, rv b1, iv (4 : Int32), iv (1 : Int32), rv b661, .unset] [(.int (1 : Int32)), (.int (4 : Int32)), (.ref b1), (.int ((own_p31 (1 : Int32)) + (x4 * (own_p31 (0 : Int32)))))])) _
        refine XS.iconst X679.here hx rfl (hb hby at_95) ?_
        show Steps p.tables e below (T679.setTop (mkF m 96 #[iv p0_0, iv p0_1, iv p0_2, rv b1, iv (4 : Int32), iv (1 : Int32), rv b661, .unset] [(.int (1 : Int32)), (.int (1 : Int32)), (.int (4 : Int32)), (.ref b1), (.int ((own_p31 (1 : Int32)) + (x4 * (own_p31 (0 : Int32)))))])) _
        refine st681 _ ?_
        show Steps p.tables e below (T681.setTop (mkF m 99 #[iv p0_0, iv p0_1, iv p0_2, rv b1, iv (4 : Int32), iv (1 : Int32), rv b661, .unset] [(.int (0 : Int32)), (.int ((own_p31 (1 : Int32)) + (x4 * (own_p31 (0 : Int32)))))])) _
        refine XS.iadd X681.here hx rfl (hb hby at_99) rfl ?_
        refine XS.aloadN X681.here hx rfl (hb hby at_100) rfl rfl ?_
        show Steps p.tables e below (T681.setTop (mkF m 101 #[iv p0_0, iv p0_1, iv p0_2, rv b1, iv (4 : Int32), iv (1 : Int32), rv b661, .unset] [(.ref b1), (.int (((own_p31 (1 : Int32)) + (x4 * (own_p31 (0 : Int32)))) + (0 : Int32)))])) _
        refine XS.iload X681.here hx rfl (hb hby at_101) rfl ?_
        refine XS.iload X681.here hx rfl (hb hby at_103) rfl ?_
        refine XS.iconst X681.here hx rfl (hb hby at_105) ?_
        show Steps p.tables e below (T681.setTop (mkF m 106 #[iv p0_0, iv p0_1, iv p0_2, rv b1, iv (4 : Int32), iv (1 : Int32), rv b661, .unset] [(.int (2 : Int32)), (.int (1 : Int32)), (.int (4 : Int32)), (.ref b1), (.int (((own_p31 (1 : Int32)) + (x4 * (own_p31 (0 : Int32)))) + (0 : Int32)))])) _
        refine st683 _ ?_
        show Steps p.tables e below (T683.setTop (mkF m 109 #[iv p0_0, iv p0_1, iv p0_2, rv b1, iv (4 : Int32), iv (1 : Int32), rv b661, .unset] [(.int (0 : Int32)), (.int (((own_p31 (1 : Int32)) + (x4 * (own_p31 (0 : Int32)))) + (0 : Int32)))])) _
        refine XS.iadd X683.here hx rfl (hb hby at_109) rfl ?_
        refine XS.aloadN X683.here hx rfl (hb hby at_110) rfl rfl ?_
        refine XS.iload X683.here hx rfl (hb hby at_111) rfl ?_
        refine XS.iload X683.here hx rfl (hb hby at_113) rfl ?_
        show Steps p.tables e below (T683.setTop (mkF m 115 #[iv p0_0, iv p0_1, iv p0_2, rv b1, iv (4 : Int32), iv (1 : Int32), rv b661, .unset] [(.int (1 : Int32)), (.int (4 : Int32)), (.ref b1), (.int ((((own_p31 (1 : Int32)) + (x4 * (own_p31 (0 : Int32)))) + (0 : Int32)) + (0 : Int32)))])) _
        refine XS.iconst X683.here hx rfl (hb hby at_115) ?_
        show Steps p.tables e below (T683.setTop (mkF m 116 #[iv p0_0, iv p0_1, iv p0_2, rv b1, iv (4 : Int32), iv (1 : Int32), rv b661, .unset] [(.int (3 : Int32)), (.int (1 : Int32)), (.int (4 : Int32)), (.ref b1), (.int ((((own_p31 (1 : Int32)) + (x4 * (own_p31 (0 : Int32)))) + (0 : Int32)) + (0 : Int32)))])) _
        refine st685 _ ?_
        show Steps p.tables e below (T685.setTop (mkF m 119 #[iv p0_0, iv p0_1, iv p0_2, rv b1, iv (4 : Int32), iv (1 : Int32), rv b661, .unset] [(.int (0 : Int32)), (.int ((((own_p31 (1 : Int32)) + (x4 * (own_p31 (0 : Int32)))) + (0 : Int32)) + (0 : Int32)))])) _
        refine XS.iadd X685.here hx rfl (hb hby at_119) rfl ?_
        refine XS.aloadN X685.here hx rfl (hb hby at_120) rfl rfl ?_
        show Steps p.tables e below (T685.setTop (mkF m 121 #[iv p0_0, iv p0_1, iv p0_2, rv b1, iv (4 : Int32), iv (1 : Int32), rv b661, .unset] [(.ref b1), (.int (((((own_p31 (1 : Int32)) + (x4 * (own_p31 (0 : Int32)))) + (0 : Int32)) + (0 : Int32)) + (0 : Int32)))])) _
        refine XS.iload X685.here hx rfl (hb hby at_121) rfl ?_
        refine XS.iload X685.here hx rfl (hb hby at_123) rfl ?_
        refine XS.iconst X685.here hx rfl (hb hby at_125) ?_
        show Steps p.tables e below (T685.setTop (mkF m 126 #[iv p0_0, iv p0_1, iv p0_2, rv b1, iv (4 : Int32), iv (1 : Int32), rv b661, .unset] [(.int (4 : Int32)), (.int (1 : Int32)), (.int (4 : Int32)), (.ref b1), (.int (((((own_p31 (1 : Int32)) + (x4 * (own_p31 (0 : Int32)))) + (0 : Int32)) + (0 : Int32)) + (0 : Int32)))])) _
        refine st687 _ ?_
        show Steps p.tables e below (T687.setTop (mkF m 129 #[iv p0_0, iv p0_1, iv p0_2, rv b1, iv (4 : Int32), iv (1 : Int32), rv b661, .unset] [(.int (0 : Int32)), (.int (((((own_p31 (1 : Int32)) + (x4 * (own_p31 (0 : Int32)))) + (0 : Int32)) + (0 : Int32)) + (0 : Int32)))])) _
        refine XS.iadd X687.here hx rfl (hb hby at_129) rfl ?_
        refine XS.istore X687.here hx rfl (hb hby at_130) rfl (l' := #[iv p0_0, iv p0_1, iv p0_2, rv b1, iv (4 : Int32), iv (1 : Int32), rv b661, iv ((((((own_p31 (1 : Int32)) + (x4 * (own_p31 (0 : Int32)))) + (0 : Int32)) + (0 : Int32)) + (0 : Int32)) + (0 : Int32))]) rfl ?_
        refine XS.aload X687.here hx rfl (hb hby at_132) rfl rfl ?_
        show Steps p.tables e below (T687.setTop (mkF m 134 #[iv p0_0, iv p0_1, iv p0_2, rv b1, iv (4 : Int32), iv (1 : Int32), rv b661, iv ((((((own_p31 (1 : Int32)) + (x4 * (own_p31 (0 : Int32)))) + (0 : Int32)) + (0 : Int32)) + (0 : Int32)) + (0 : Int32))] [(.ref b661)])) _
        refine st689.trans ?_
        show Steps p.tables e below (T689.setTop (mkF m 137 #[iv p0_0, iv p0_1, iv p0_2, rv b1, iv (4 : Int32), iv (1 : Int32), rv b661, iv ((((((own_p31 (1 : Int32)) + (x4 * (own_p31 (0 : Int32)))) + (0 : Int32)) + (0 : Int32)) + (0 : Int32)) + (0 : Int32))] [(.int ((31 : Int32) + x4))])) _
        refine XS.iload X689.here hx rfl (hb hby at_137) rfl ?_
        refine XS.icmpNo X689.here hx rfl (hb hby at_139) rfl (teq hc692).2 ?_
        refine XS.iconst X689.here hx rfl (hb hby at_142) ?_
        refine XS.goto X689.here hx rfl (pc0 := 143) (pc' := 147) rfl (hb hby at_143) (by decide) (by decide) ?_
        show Steps p.tables e below (T689.setTop (mkF m 147 #[iv p0_0, iv p0_1, iv p0_2, rv b1, iv (4 : Int32), iv (1 : Int32), rv b661, iv ((((((own_p31 (1 : Int32)) + (x4 * (own_p31 (0 : Int32)))) + (0 : Int32)) + (0 : Int32)) + (0 : Int32)) + (0 : Int32))] [(.int (1 : Int32))])) _
        exact retN X689 hx (t := .boolean) Bd.returns (by simp) (hb hby at_147) hr
      · show Q_rm0 Z _ _ _ h0 n0 _ T689.heap _
        rw [K689q]
        exact ⟨rfl, N691, (K674)⟩
  · skip
    obtain ⟨ln, h_ln⟩ : ∃ z : Int32, z = ((((p0_2.toUInt32 >>> ((3 : Int32) &&& 31).toUInt32).toInt32) &&& (2147483647 : Int32)) % (1 : Int32)) := ⟨_, rfl⟩
    have hln : 0 ≤ ln.toInt ∧ ln.toInt < 1 := by rw [h_ln]; exact own_len _ 1 (by decide)
    have pre693 : ∀ t, Steps p.tables e below (T32.setTop (mkF m 61 #[iv p0_0, iv p0_1, iv p0_2, rv b1, iv (5 : Int32), iv ln, .unset, .unset] [])) t → Steps p.tables e below (s₁.setTop (entryFrame m #[(.int p0_0), (.int p0_1), (.int p0_2)] maxLocals)) t := by
      intro t_ k_
      refine pre41 _ ?_
      show Steps p.tables e below (T32.setTop (mkF m 47 #[iv p0_0, iv p0_1, iv p0_2, rv b1, iv (5 : Int32), .unset, .unset, .unset] [])) _
      refine XS.iloadN X32.here hx rfl (hb hby at_47) rfl ?_
      refine XS.iconst X32.here hx rfl (hb hby at_48) ?_
      refine XS.iushr X32.here hx rfl (hb hby at_49) rfl ?_
      show Steps p.tables e below (T32.setTop (mkF m 50 #[iv p0_0, iv p0_1, iv p0_2, rv b1, iv (5 : Int32), .unset, .unset, .unset] [(.int ((p0_2.toUInt32 >>> ((3 : Int32) &&& 31).toUInt32).toInt32))])) _
      refine X32.ldcInt hx hown (mvT hZ wo1) (g := (mkF m 50 #[iv p0_0, iv p0_1, iv p0_2, rv b1, iv (5 : Int32), .unset, .unset, .unset] [(.int ((p0_2.toUInt32 >>> ((3 : Int32) &&& 31).toUInt32).toInt32))])) rfl (hb hby at_50) _ ?_
      show Steps p.tables e below (T32.setTop (mkF m 52 #[iv p0_0, iv p0_1, iv p0_2, rv b1, iv (5 : Int32), .unset, .unset, .unset] [(.int (2147483647 : Int32)), (.int ((p0_2.toUInt32 >>> ((3 : Int32) &&& 31).toUInt32).toInt32))])) _
      refine XS.iand X32.here hx rfl (hb hby at_52) rfl ?_
      refine XS.bipush X32.here hx rfl (hb hby at_53) ?_
      refine XS.iload X32.here hx rfl (hb hby at_55) rfl ?_
      show Steps p.tables e below (T32.setTop (mkF m 57 #[iv p0_0, iv p0_1, iv p0_2, rv b1, iv (5 : Int32), .unset, .unset, .unset] [(.int (5 : Int32)), (.int (6 : Int32)), (.int (((p0_2.toUInt32 >>> ((3 : Int32) &&& 31).toUInt32).toInt32) &&& (2147483647 : Int32)))])) _
      refine XS.isub X32.here hx rfl (hb hby at_57) rfl ?_
      show Steps p.tables e below (T32.setTop (mkF m 58 #[iv p0_0, iv p0_1, iv p0_2, rv b1, iv (5 : Int32), .unset, .unset, .unset] [(.int (1 : Int32)), (.int (((p0_2.toUInt32 >>> ((3 : Int32) &&& 31).toUInt32).toInt32) &&& (2147483647 : Int32)))])) _
      refine iremM (g := (mkF m 58 #[iv p0_0, iv p0_1, iv p0_2, rv b1, iv (5 : Int32), .unset, .unset, .unset] [(.int (1 : Int32)), (.int (((p0_2.toUInt32 >>> ((3 : Int32) &&& 31).toUInt32).toInt32) &&& (2147483647 : Int32)))])) X32 hx rfl (hb hby at_58) rfl (by decide) ?_
      show Steps p.tables e below (T32.setTop (mkF m 59 #[iv p0_0, iv p0_1, iv p0_2, rv b1, iv (5 : Int32), .unset, .unset, .unset] [(.int ((((p0_2.toUInt32 >>> ((3 : Int32) &&& 31).toUInt32).toInt32) &&& (2147483647 : Int32)) % (1 : Int32)))])) _
      refine XS.istore X32.here hx rfl (hb hby at_59) rfl (l' := #[iv p0_0, iv p0_1, iv p0_2, rv b1, iv (5 : Int32), iv ((((p0_2.toUInt32 >>> ((3 : Int32) &&& 31).toUInt32).toInt32) &&& (2147483647 : Int32)) % (1 : Int32)), .unset, .unset]) rfl ?_
      rw [← h_ln]
      show Steps p.tables e below (T32.setTop (mkF m 61 #[iv p0_0, iv p0_1, iv p0_2, rv b1, iv (5 : Int32), iv ln, .unset, .unset] [])) _
      exact k_
    have hx_694 : ln = (0 : Int32) := own_lt1 ln hln
    rcases hx_694 with rfl
    · skip
      obtain ⟨T695, h695, X695, e695, E695, A695, D695, -, st695⟩ := newO X32 hx hZ hown wo2 wo3 wo4 e32 (g := (mkF m 61 #[iv p0_0, iv p0_1, iv p0_2, rv b1, iv (5 : Int32), iv (0 : Int32), .unset, .unset] [])) rfl (hb hby at_61) (by decide) (by decide)
      obtain ⟨b695, gg695⟩ : ∃ z, z = h32.size := ⟨_, rfl⟩
      rw [← gg695] at A695 D695 st695
      have ne696 : b1 ≠ b695 := Nat.ne_of_lt (Nat.lt_of_lt_of_le f40.lt (Nat.le_of_eq gg695.symm))
      have f698 := (Nat.le_trans (Nat.le_trans (Nat.le_trans (Nat.le_trans (Nat.le_trans (Nat.le_trans Z0 E1.1) (Keep.of_wr W8).1) (Keep.of_wr W14).1) (Keep.of_wr W20).1) (Keep.of_wr W26).1) (Keep.of_wr W32).1)
      have g697 : n0 ≤ b695 := Nat.le_trans f698 (Nat.le_of_eq gg695.symm)
      have bz699 : h0.size ≤ b695 := Nat.le_trans (K33).1 (Nat.le_of_eq gg695.symm)
      have K700 : Keep h0 h695 [] := (K33).ext E695
      have f701 : Fld Z h695 b695 "com/example/tailwake/tailwake/source/mariadb/Slice" "array" "[B" .null := D695 (Or.inr wo20) (ty := (.array .byte)) (by decide)
      have f702 : Fld Z h695 b695 "com/example/tailwake/tailwake/source/mariadb/Slice" "offset" "I" (.int (0 : Int32)) := D695 (Or.inr wo22) (ty := .int) (by decide)
      have f703 : Fld Z h695 b695 "com/example/tailwake/tailwake/source/mariadb/Slice" "length" "I" (.int (0 : Int32)) := D695 (Or.inr wo24) (ty := .int) (by decide)
      have f704 := (f40.ext E695)
      have f706 := (Nat.le_trans f698 E695.1)
      obtain ⟨_, _, ⟨T705, L705, k705, n705⟩, -, X705, ⟨Lc705, hQ705, l705, y705, z705⟩, st705⟩ := X695.specialBack hx (y := MN1) rfl hown (mvT hZ wo5) (mvT hZ wo6) (mvT hZ wo7) (by decide) (backOf (W := 1) (rm1 l Z a0 hw [] b695 b1 (5 : Int32) (0 : Int32) h695 n0 f706 A695 g697 f701 f702 f703 f704.al (by first | decide | assumption | omega : ¬ ((((5 : Int32) ||| (5 : Int32)) ||| (0 : Int32)) < (0 : Int32))) (by first | decide | assumption | omega : ¬ (((5 : Int32) - (5 : Int32)) < (0 : Int32)))) hZ wo7 wo4 (by decide) (by decide)) (g := (mkF m 70 #[iv p0_0, iv p0_1, iv p0_2, rv b1, iv (5 : Int32), iv (0 : Int32), .unset, .unset] [(.int (0 : Int32)), (.int (5 : Int32)), (.ref b1), (.ref b695), (.ref b695)])) rfl (by rw [hml]; rfl) (Steps.refl _) (a := b695) (argsL := [(.ref b1), (.int (5 : Int32)), (.int (0 : Int32))]) (rest := [(.ref b695)]) (lenOf pd_5 rfl) rfl (by show 2 * 0 + _ ≤ _; exact Nat.le_of_eq rfl) (hb hby at_70) (fun _ _ => ⟨rfl, e695, (by decide : 2 + 0 ≤ _), (by decide : 8 + 0 ≤ _)⟩)
      dsimp only [Pt.U, Pt.locs, Pt.cells, Pt.slots] at X705 l705 y705 z705 st705 hQ705
      rw [l705, y705, z705] at X705
      obtain ⟨rfl, N705q, K705q, hq705_0, hq705_1, hq705_2⟩ := hQ705
      have N707 := Fr.app N35 N705q
      have K708 : Keep h0 T705.heap [] := (K700).trans K705q (allS (P := fun x => x ∈ [] ∨ h0.size ≤ x) (Or.inr bz699) all0)
      have f710 := (Nat.le_trans f706 K705q.1)
      obtain ⟨_, _, ⟨T709, L709, k709, n709⟩, -, X709, ⟨Lc709, hQ709, l709, y709, z709⟩, st709⟩ := Jvm.LawKit.callS X705 hx (y := MN5) hown (mvT hZ wo25) (mvT hZ wo26) (mvT hZ wo27) (mvT hZ wo28) (by decide) (backOf (W := 0) (rm5 l Z a0 hw [] (0 : Int32) (T705.heap) n0 f710 ) hZ wo28 wo27 (by decide) (by decide)) (g := (mkF m 77 #[iv p0_0, iv p0_1, iv p0_2, rv b1, iv (5 : Int32), iv (0 : Int32), rv b695, .unset] [(.int (0 : Int32))])) rfl (by rw [hml]; rfl) (argsL := [(.int (0 : Int32))]) (rest := []) (lenOf pd_2 rfl) rfl (by show 2 * 0 + _ ≤ _; exact Nat.le_of_eq rfl) (hb hby at_77) (fun _ _ => ⟨rfl, rfl, (by decide : 2 + 0 ≤ _), (by decide : 8 + 0 ≤ _)⟩)
      dsimp only [Pt.U, Pt.locs, Pt.cells, Pt.slots] at X709 l709 y709 z709 st709 hQ709
      rw [l709, y709, z709] at X709
      obtain ⟨rfl, N709q, K709q⟩ := hQ709
      have N711 := Fr.app N707 N709q
      obtain ⟨_, _, ⟨T712, L712, k712, n712⟩, -, X712, ⟨Lc712, hQ712, l712, y712, z712⟩, st712⟩ := Jvm.LawKit.callS X709 hx (y := MN6) hown (mvT hZ wo29) (mvT hZ wo30) (mvT hZ wo27) (mvT hZ wo31) (by decide) (backOf (W := 1) (rm_t l Z a0 hw [] b1 (5 : Int32) (0 : Int32) (0 : Int32) (T705.heap) n0 f710 (by first | decide | assumption | omega : ¬ ((0 : Int32) < (0 : Int32)))) hZ wo31 wo27 (by decide) (by decide)) (g := (mkF m 86 #[iv p0_0, iv p0_1, iv p0_2, rv b1, iv (5 : Int32), iv (0 : Int32), rv b695, .unset] [(.int (0 : Int32)), (.int (0 : Int32)), (.int (5 : Int32)), (.ref b1), (.int (own_p31 (0 : Int32)))])) rfl (by rw [hml]; rfl) (argsL := [(.ref b1), (.int (5 : Int32)), (.int (0 : Int32)), (.int (0 : Int32))]) (rest := [(.int (own_p31 (0 : Int32)))]) (lenOf pd_6 rfl) rfl (by show 2 * 0 + _ ≤ _; exact Nat.le_of_eq rfl) (hb hby at_86) (fun _ _ => ⟨rfl, K709q, (by decide : 2 + 0 ≤ _), (by decide : 8 + 0 ≤ _)⟩)
      dsimp only [Pt.U, Pt.locs, Pt.cells, Pt.slots] at X712 l712 y712 z712 st712 hQ712
      rw [l712, y712, z712] at X712
      obtain ⟨rfl, N712q, K712q⟩ := hQ712
      have N713 := Fr.app N711 N712q
      obtain ⟨_, _, ⟨T714, L714, k714, n714⟩, -, X714, ⟨Lc714, hQ714, l714, y714, z714⟩, st714⟩ := Jvm.LawKit.callS X712 hx (y := MN6) hown (mvT hZ wo29) (mvT hZ wo30) (mvT hZ wo27) (mvT hZ wo31) (by decide) (backOf (W := 1) (rm_t l Z a0 hw [] b1 (5 : Int32) (0 : Int32) (1 : Int32) (T705.heap) n0 f710 (by first | decide | assumption | omega : ¬ ((1 : Int32) < (0 : Int32)))) hZ wo31 wo27 (by decide) (by decide)) (g := (mkF m 96 #[iv p0_0, iv p0_1, iv p0_2, rv b1, iv (5 : Int32), iv (0 : Int32), rv b695, .unset] [(.int (1 : Int32)), (.int (0 : Int32)), (.int (5 : Int32)), (.ref b1), (.int ((own_p31 (0 : Int32)) + (0 : Int32)))])) rfl (by rw [hml]; rfl) (argsL := [(.ref b1), (.int (5 : Int32)), (.int (0 : Int32)), (.int (1 : Int32))]) (rest := [(.int ((own_p31 (0 : Int32)) + (0 : Int32)))]) (lenOf pd_6 rfl) rfl (by show 2 * 0 + _ ≤ _; exact Nat.le_of_eq rfl) (hb hby at_96) (fun _ _ => ⟨rfl, K712q, (by decide : 2 + 0 ≤ _), (by decide : 8 + 0 ≤ _)⟩)
      dsimp only [Pt.U, Pt.locs, Pt.cells, Pt.slots] at X714 l714 y714 z714 st714 hQ714
      rw [l714, y714, z714] at X714
      obtain ⟨rfl, N714q, K714q⟩ := hQ714
      have N715 := Fr.app N713 N714q
      obtain ⟨_, _, ⟨T716, L716, k716, n716⟩, -, X716, ⟨Lc716, hQ716, l716, y716, z716⟩, st716⟩ := Jvm.LawKit.callS X714 hx (y := MN6) hown (mvT hZ wo29) (mvT hZ wo30) (mvT hZ wo27) (mvT hZ wo31) (by decide) (backOf (W := 1) (rm_t l Z a0 hw [] b1 (5 : Int32) (0 : Int32) (2 : Int32) (T705.heap) n0 f710 (by first | decide | assumption | omega : ¬ ((2 : Int32) < (0 : Int32)))) hZ wo31 wo27 (by decide) (by decide)) (g := (mkF m 106 #[iv p0_0, iv p0_1, iv p0_2, rv b1, iv (5 : Int32), iv (0 : Int32), rv b695, .unset] [(.int (2 : Int32)), (.int (0 : Int32)), (.int (5 : Int32)), (.ref b1), (.int (((own_p31 (0 : Int32)) + (0 : Int32)) + (0 : Int32)))])) rfl (by rw [hml]; rfl) (argsL := [(.ref b1), (.int (5 : Int32)), (.int (0 : Int32)), (.int (2 : Int32))]) (rest := [(.int (((own_p31 (0 : Int32)) + (0 : Int32)) + (0 : Int32)))]) (lenOf pd_6 rfl) rfl (by show 2 * 0 + _ ≤ _; exact Nat.le_of_eq rfl) (hb hby at_106) (fun _ _ => ⟨rfl, K714q, (by decide : 2 + 0 ≤ _), (by decide : 8 + 0 ≤ _)⟩)
      dsimp only [Pt.U, Pt.locs, Pt.cells, Pt.slots] at X716 l716 y716 z716 st716 hQ716
      rw [l716, y716, z716] at X716
      obtain ⟨rfl, N716q, K716q⟩ := hQ716
      have N717 := Fr.app N715 N716q
      obtain ⟨_, _, ⟨T718, L718, k718, n718⟩, -, X718, ⟨Lc718, hQ718, l718, y718, z718⟩, st718⟩ := Jvm.LawKit.callS X716 hx (y := MN6) hown (mvT hZ wo29) (mvT hZ wo30) (mvT hZ wo27) (mvT hZ wo31) (by decide) (backOf (W := 1) (rm_t l Z a0 hw [] b1 (5 : Int32) (0 : Int32) (3 : Int32) (T705.heap) n0 f710 (by first | decide | assumption | omega : ¬ ((3 : Int32) < (0 : Int32)))) hZ wo31 wo27 (by decide) (by decide)) (g := (mkF m 116 #[iv p0_0, iv p0_1, iv p0_2, rv b1, iv (5 : Int32), iv (0 : Int32), rv b695, .unset] [(.int (3 : Int32)), (.int (0 : Int32)), (.int (5 : Int32)), (.ref b1), (.int ((((own_p31 (0 : Int32)) + (0 : Int32)) + (0 : Int32)) + (0 : Int32)))])) rfl (by rw [hml]; rfl) (argsL := [(.ref b1), (.int (5 : Int32)), (.int (0 : Int32)), (.int (3 : Int32))]) (rest := [(.int ((((own_p31 (0 : Int32)) + (0 : Int32)) + (0 : Int32)) + (0 : Int32)))]) (lenOf pd_6 rfl) rfl (by show 2 * 0 + _ ≤ _; exact Nat.le_of_eq rfl) (hb hby at_116) (fun _ _ => ⟨rfl, K716q, (by decide : 2 + 0 ≤ _), (by decide : 8 + 0 ≤ _)⟩)
      dsimp only [Pt.U, Pt.locs, Pt.cells, Pt.slots] at X718 l718 y718 z718 st718 hQ718
      rw [l718, y718, z718] at X718
      obtain ⟨rfl, N718q, K718q⟩ := hQ718
      have N719 := Fr.app N717 N718q
      obtain ⟨_, _, ⟨T720, L720, k720, n720⟩, -, X720, ⟨Lc720, hQ720, l720, y720, z720⟩, st720⟩ := Jvm.LawKit.callS X718 hx (y := MN6) hown (mvT hZ wo29) (mvT hZ wo30) (mvT hZ wo27) (mvT hZ wo31) (by decide) (backOf (W := 1) (rm_t l Z a0 hw [] b1 (5 : Int32) (0 : Int32) (4 : Int32) (T705.heap) n0 f710 (by first | decide | assumption | omega : ¬ ((4 : Int32) < (0 : Int32)))) hZ wo31 wo27 (by decide) (by decide)) (g := (mkF m 126 #[iv p0_0, iv p0_1, iv p0_2, rv b1, iv (5 : Int32), iv (0 : Int32), rv b695, .unset] [(.int (4 : Int32)), (.int (0 : Int32)), (.int (5 : Int32)), (.ref b1), (.int (((((own_p31 (0 : Int32)) + (0 : Int32)) + (0 : Int32)) + (0 : Int32)) + (0 : Int32)))])) rfl (by rw [hml]; rfl) (argsL := [(.ref b1), (.int (5 : Int32)), (.int (0 : Int32)), (.int (4 : Int32))]) (rest := [(.int (((((own_p31 (0 : Int32)) + (0 : Int32)) + (0 : Int32)) + (0 : Int32)) + (0 : Int32)))]) (lenOf pd_6 rfl) rfl (by show 2 * 0 + _ ≤ _; exact Nat.le_of_eq rfl) (hb hby at_126) (fun _ _ => ⟨rfl, K718q, (by decide : 2 + 0 ≤ _), (by decide : 8 + 0 ≤ _)⟩)
      dsimp only [Pt.U, Pt.locs, Pt.cells, Pt.slots] at X720 l720 y720 z720 st720 hQ720
      rw [l720, y720, z720] at X720
      obtain ⟨rfl, N720q, K720q⟩ := hQ720
      have N721 := Fr.app N719 N720q
      have f722 := (f704.keep K705q (ninS ne696 nin0))
      have f724 := (A695.keep K705q)
      obtain ⟨cq723, kq723, q723a, q723b, q723c⟩ := isOf hZ K720q f724
      obtain ⟨_, _, ⟨T723, L723, k723, n723⟩, -, X723, ⟨Lc723, hQ723, l723, y723, z723⟩, st723⟩ := X720.virtualBack hx (y := MN7) (z := MN7) hown (mvT hZ wo32) (mvT hZ wo33) (notFace_of_selects (args := #[]) (mvT hZ wo35)) (mvT hZ wo35) (mvT hZ wo34) (by decide) (backOf (W := 0) (rm_h5_0 l Z a0 hw [] b695 b1 x0 x1 x2 x3 x4 (T705.heap) n0 f710 hq705_0 hq705_1 hq705_2 f722) hZ wo36 wo4 (by decide) (by decide)) q723a q723c (g := (mkF m 134 #[iv p0_0, iv p0_1, iv p0_2, rv b1, iv (5 : Int32), iv (0 : Int32), rv b695, iv ((((((own_p31 (0 : Int32)) + (0 : Int32)) + (0 : Int32)) + (0 : Int32)) + (0 : Int32)) + (0 : Int32))] [(.ref b695)])) rfl (by rw [hml]; rfl) (Steps.refl _) (argsL := []) (rest := []) (lenOf pd_0 rfl) rfl (by show 2 * 0 + _ ≤ _; exact Nat.le_of_eq rfl) (hb hby at_134) (fun _ _ => ⟨rfl, K720q, (by decide : 2 + 0 ≤ _), (by decide : 8 + 0 ≤ _)⟩)
      dsimp only [Pt.U, Pt.locs, Pt.cells, Pt.slots] at X723 l723 y723 z723 st723 hQ723
      rw [l723, y723, z723] at X723
      obtain ⟨rfl, N723q, K723q⟩ := hQ723
      have N725 := Fr.app N721 N723q
      have hc726 : (1 : Int32) = ((((((own_p31 (0 : Int32)) + (0 : Int32)) + (0 : Int32)) + (0 : Int32)) + (0 : Int32)) + (0 : Int32)) := (by simp only [own_q0, own_q1, own_q2, own_q3, own_q4, own_q5]; first | rfl | grind)
      obtain ⟨fs, hr, hrun, hended, hW, hsame⟩ := X723.leave (v := some (.int (1 : Int32))) (fun h => by rw [Bd.returns] at h; cases h)
      refine ⟨_, _, pre693 _ ?_, hrun, hended, _, _, rfl, ?_, ⟨_, rfl⟩, hW, hsame.mono (by decide) (by decide)⟩
      · show Steps p.tables e below (T32.setTop (mkF m 61 #[iv p0_0, iv p0_1, iv p0_2, rv b1, iv (5 : Int32), iv (0 : Int32), .unset, .unset] [])) _
        refine st695 _ ?_
        show Steps p.tables e below (T695.setTop (mkF m 64 #[iv p0_0, iv p0_1, iv p0_2, rv b1, iv (5 : Int32), iv (0 : Int32), .unset, .unset] [(.ref b695)])) _
        refine XS.dup X695.here hx rfl (hb hby at_64) rfl rfl ?_
        refine XS.aloadN X695.here hx rfl (hb hby at_65) rfl rfl ?_
        refine XS.iload X695.here hx rfl (hb hby at_66) rfl ?_
        refine XS.iload X695.here hx rfl (hb hby at_68) rfl ?_
        show Steps p.tables e below (T695.setTop (mkF m 70 #[iv p0_0, iv p0_1, iv p0_2, rv b1, iv (5 : Int32), iv (0 : Int32), .unset, .unset] [(.int (0 : Int32)), (.int (5 : Int32)), (.ref b1), (.ref b695), (.ref b695)])) _
        refine st705.trans ?_
        show Steps p.tables e below (T705.setTop (mkF m 73 #[iv p0_0, iv p0_1, iv p0_2, rv b1, iv (5 : Int32), iv (0 : Int32), .unset, .unset] [(.ref b695)])) _
        refine XS.astore X705.here hx rfl (hb hby at_73) rfl rfl (l' := #[iv p0_0, iv p0_1, iv p0_2, rv b1, iv (5 : Int32), iv (0 : Int32), rv b695, .unset]) rfl ?_
        refine XS.iload X705.here hx rfl (hb hby at_75) rfl ?_
        show Steps p.tables e below (T705.setTop (mkF m 77 #[iv p0_0, iv p0_1, iv p0_2, rv b1, iv (5 : Int32), iv (0 : Int32), rv b695, .unset] [(.int (0 : Int32))])) _
        refine st709 _ ?_
        show Steps p.tables e below (T709.setTop (mkF m 80 #[iv p0_0, iv p0_1, iv p0_2, rv b1, iv (5 : Int32), iv (0 : Int32), rv b695, .unset] [(.int (own_p31 (0 : Int32)))])) _
        refine XS.aloadN X709.here hx rfl (hb hby at_80) rfl rfl ?_
        refine XS.iload X709.here hx rfl (hb hby at_81) rfl ?_
        refine XS.iload X709.here hx rfl (hb hby at_83) rfl ?_
        refine XS.iconst X709.here hx rfl (hb hby at_85) ?_
        show Steps p.tables e below (T709.setTop (mkF m 86 #[iv p0_0, iv p0_1, iv p0_2, rv b1, iv (5 : Int32), iv (0 : Int32), rv b695, .unset] [(.int (0 : Int32)), (.int (0 : Int32)), (.int (5 : Int32)), (.ref b1), (.int (own_p31 (0 : Int32)))])) _
        refine st712 _ ?_
        show Steps p.tables e below (T712.setTop (mkF m 89 #[iv p0_0, iv p0_1, iv p0_2, rv b1, iv (5 : Int32), iv (0 : Int32), rv b695, .unset] [(.int (0 : Int32)), (.int (own_p31 (0 : Int32)))])) _
        refine XS.iadd X712.here hx rfl (hb hby at_89) rfl ?_
        refine XS.aloadN X712.here hx rfl (hb hby at_90) rfl rfl ?_
        refine XS.iload X712.here hx rfl (hb hby at_91) rfl ?_
        show Steps p.tables e below (T712.setTop (mkF m 93 #[iv p0_0, iv p0_1, iv p0_2, rv b1, iv (5 : Int32), iv (0 : Int32), rv b695, .unset] [(.int (5 : Int32)), (.ref b1), (.int ((own_p31 (0 : Int32)) + (0 : Int32)))])) _
        refine XS.iload X712.here hx rfl (hb hby at_93) rfl ?_
        refine XS.iconst X712.here hx rfl (hb hby at_95) ?_
        show Steps p.tables e below (T712.setTop (mkF m 96 #[iv p0_0, iv p0_1, iv p0_2, rv b1, iv (5 : Int32), iv (0 : Int32), rv b695, .unset] [(.int (1 : Int32)), (.int (0 : Int32)), (.int (5 : Int32)), (.ref b1), (.int ((own_p31 (0 : Int32)) + (0 : Int32)))])) _
        refine st714 _ ?_
        show Steps p.tables e below (T714.setTop (mkF m 99 #[iv p0_0, iv p0_1, iv p0_2, rv b1, iv (5 : Int32), iv (0 : Int32), rv b695, .unset] [(.int (0 : Int32)), (.int ((own_p31 (0 : Int32)) + (0 : Int32)))])) _
        refine XS.iadd X714.here hx rfl (hb hby at_99) rfl ?_
        show Steps p.tables e below (T714.setTop (mkF m 100 #[iv p0_0, iv p0_1, iv p0_2, rv b1, iv (5 : Int32), iv (0 : Int32), rv b695, .unset] [(.int (((own_p31 (0 : Int32)) + (0 : Int32)) + (0 : Int32)))])) _
        refine XS.aloadN X714.here hx rfl (hb hby at_100) rfl rfl ?_
        refine XS.iload X714.here hx rfl (hb hby at_101) rfl ?_
        refine XS.iload X714.here hx rfl (hb hby at_103) rfl ?_
        refine XS.iconst X714.here hx rfl (hb hby at_105) ?_
        show Steps p.tables e below (T714.setTop (mkF m 106 #[iv p0_0, iv p0_1, iv p0_2, rv b1, iv (5 : Int32), iv (0 : Int32), rv b695, .unset] [(.int (2 : Int32)), (.int (0 : Int32)), (.int (5 : Int32)), (.ref b1), (.int (((own_p31 (0 : Int32)) + (0 : Int32)) + (0 : Int32)))])) _
        refine st716 _ ?_
        show Steps p.tables e below (T716.setTop (mkF m 109 #[iv p0_0, iv p0_1, iv p0_2, rv b1, iv (5 : Int32), iv (0 : Int32), rv b695, .unset] [(.int (0 : Int32)), (.int (((own_p31 (0 : Int32)) + (0 : Int32)) + (0 : Int32)))])) _
        refine XS.iadd X716.here hx rfl (hb hby at_109) rfl ?_
        refine XS.aloadN X716.here hx rfl (hb hby at_110) rfl rfl ?_
        refine XS.iload X716.here hx rfl (hb hby at_111) rfl ?_
        show Steps p.tables e below (T716.setTop (mkF m 113 #[iv p0_0, iv p0_1, iv p0_2, rv b1, iv (5 : Int32), iv (0 : Int32), rv b695, .unset] [(.int (5 : Int32)), (.ref b1), (.int ((((own_p31 (0 : Int32)) + (0 : Int32)) + (0 : Int32)) + (0 : Int32)))])) _
        refine XS.iload X716.here hx rfl (hb hby at_113) rfl ?_
        refine XS.iconst X716.here hx rfl (hb hby at_115) ?_
        show Steps p.tables e below (T716.setTop (mkF m 116 #[iv p0_0, iv p0_1, iv p0_2, rv b1, iv (5 : Int32), iv (0 : Int32), rv b695, .unset] [(.int (3 : Int32)), (.int (0 : Int32)), (.int (5 : Int32)), (.ref b1), (.int ((((own_p31 (0 : Int32)) + (0 : Int32)) + (0 : Int32)) + (0 : Int32)))])) _
        refine st718 _ ?_
        show Steps p.tables e below (T718.setTop (mkF m 119 #[iv p0_0, iv p0_1, iv p0_2, rv b1, iv (5 : Int32), iv (0 : Int32), rv b695, .unset] [(.int (0 : Int32)), (.int ((((own_p31 (0 : Int32)) + (0 : Int32)) + (0 : Int32)) + (0 : Int32)))])) _
        refine XS.iadd X718.here hx rfl (hb hby at_119) rfl ?_
        show Steps p.tables e below (T718.setTop (mkF m 120 #[iv p0_0, iv p0_1, iv p0_2, rv b1, iv (5 : Int32), iv (0 : Int32), rv b695, .unset] [(.int (((((own_p31 (0 : Int32)) + (0 : Int32)) + (0 : Int32)) + (0 : Int32)) + (0 : Int32)))])) _
        refine XS.aloadN X718.here hx rfl (hb hby at_120) rfl rfl ?_
        refine XS.iload X718.here hx rfl (hb hby at_121) rfl ?_
        refine XS.iload X718.here hx rfl (hb hby at_123) rfl ?_
        refine XS.iconst X718.here hx rfl (hb hby at_125) ?_
        show Steps p.tables e below (T718.setTop (mkF m 126 #[iv p0_0, iv p0_1, iv p0_2, rv b1, iv (5 : Int32), iv (0 : Int32), rv b695, .unset] [(.int (4 : Int32)), (.int (0 : Int32)), (.int (5 : Int32)), (.ref b1), (.int (((((own_p31 (0 : Int32)) + (0 : Int32)) + (0 : Int32)) + (0 : Int32)) + (0 : Int32)))])) _
        refine st720 _ ?_
        show Steps p.tables e below (T720.setTop (mkF m 129 #[iv p0_0, iv p0_1, iv p0_2, rv b1, iv (5 : Int32), iv (0 : Int32), rv b695, .unset] [(.int (0 : Int32)), (.int (((((own_p31 (0 : Int32)) + (0 : Int32)) + (0 : Int32)) + (0 : Int32)) + (0 : Int32)))])) _
        refine XS.iadd X720.here hx rfl (hb hby at_129) rfl ?_
        refine XS.istore X720.here hx rfl (hb hby at_130) rfl (l' := #[iv p0_0, iv p0_1, iv p0_2, rv b1, iv (5 : Int32), iv (0 : Int32), rv b695, iv ((((((own_p31 (0 : Int32)) + (0 : Int32)) + (0 : Int32)) + (0 : Int32)) + (0 : Int32)) + (0 : Int32))]) rfl ?_
        refine XS.aload X720.here hx rfl (hb hby at_132) rfl rfl ?_
        show Steps p.tables e below (T720.setTop (mkF m 134 #[iv p0_0, iv p0_1, iv p0_2, rv b1, iv (5 : Int32), iv (0 : Int32), rv b695, iv ((((((own_p31 (0 : Int32)) + (0 : Int32)) + (0 : Int32)) + (0 : Int32)) + (0 : Int32)) + (0 : Int32))] [(.ref b695)])) _
        refine st723.trans ?_
        show Steps p.tables e below (T723.setTop (mkF m 137 #[iv p0_0, iv p0_1, iv p0_2, rv b1, iv (5 : Int32), iv (0 : Int32), rv b695, iv ((((((own_p31 (0 : Int32)) + (0 : Int32)) + (0 : Int32)) + (0 : Int32)) + (0 : Int32)) + (0 : Int32))] [(.int (1 : Int32))])) _
        refine XS.iload X723.here hx rfl (hb hby at_137) rfl ?_
        refine XS.icmpNo X723.here hx rfl (hb hby at_139) rfl (teq hc726).2 ?_
        refine XS.iconst X723.here hx rfl (hb hby at_142) ?_
        show Steps p.tables e below (T723.setTop (mkF m 143 #[iv p0_0, iv p0_1, iv p0_2, rv b1, iv (5 : Int32), iv (0 : Int32), rv b695, iv ((((((own_p31 (0 : Int32)) + (0 : Int32)) + (0 : Int32)) + (0 : Int32)) + (0 : Int32)) + (0 : Int32))] [(.int (1 : Int32))])) _
        refine XS.goto X723.here hx rfl (pc0 := 143) (pc' := 147) rfl (hb hby at_143) (by decide) (by decide) ?_
        show Steps p.tables e below (T723.setTop (mkF m 147 #[iv p0_0, iv p0_1, iv p0_2, rv b1, iv (5 : Int32), iv (0 : Int32), rv b695, iv ((((((own_p31 (0 : Int32)) + (0 : Int32)) + (0 : Int32)) + (0 : Int32)) + (0 : Int32)) + (0 : Int32))] [(.int (1 : Int32))])) _
        exact retN X723 hx (t := .boolean) Bd.returns (by simp) (hb hby at_147) hr
      · show Q_rm0 Z _ _ _ h0 n0 _ T723.heap _
        rw [K723q]
        exact ⟨rfl, N725, (K708)⟩
set_option maxRecDepth 65536 in
set_option maxHeartbeats 40000000 in
theorem comes_1 {Post : Tables → Env → Array Value → State → Outcome → State → Prop} (hpost : ∀ tb e args s v u, (limb_1_1.after args s (.returned v) u = true ∧ limb_1_2.after args s (.returned v) u = true ∧ True) → FrameEnd s (.returned v) u (Jvm.fieldLocs frame_1_writes args s ++ Jvm.arrayLocs frame_1_arrays args s ++ Jvm.staticLocs frame_1_statics s) 16 128 → Post tb e args s (.returned v) u) :
    ArmFor flags0 classFile x code maxLocals ret World_1 tables_1 room_1 Calls_1 rest_1 Pre_1 Post := by
  intro l hfl _ _ p e ha hc hk s m args below hf hA hF happ hP
  obtain ⟨hcalls, hrest, hpre⟩ := hP
  obtain ⟨-, -, -, hnamed, -, -, -, hat⟩ := (Spec.applies_iff hf).mp happ
  obtain ⟨hg, hn⟩ := and_e (Cond.before_iff.mp (show (Jvm.Cond.and given_1 narrow_1).before args s = true from hpre))
  obtain ⟨g1, g2⟩ := and_e hg
  obtain ⟨g3, g4⟩ := and_e g2
  obtain ⟨g5, g6⟩ := and_e g4
  obtain ⟨w0, w1, w2, rfl⟩ : ∃ w0 w1 w2 : Value, args = #[w0, w1, w2] := by
    have hs : args.size = 3 := by simpa [Cond.value, given_1] using g1
    obtain ⟨L⟩ := args
    match L, hs with
    | [w0, w1, w2], _ => exact ⟨w0, w1, w2, rfl⟩
  have hw := fun d (hd : d ∈ tables_1) => atoms_spec (ws := Jvm.Cond.code x code maxLocals ret :: tables_1) hat d (List.mem_cons_of_mem _ hd)
  have hfit : Fit s := fun {y c} hc i hi => by
    obtain ⟨ha, rfl⟩ := Array.getElem?_eq_some_iff.mp hc
    have q := List.all_eq_true.mp ((Array.all_eq_true_iff_forall_mem.mp hF) _ (Array.getElem_mem ha)) i (List.mem_range.mpr hi)
    simpa [Array.getElem?_eq_getElem hi] using q
  obtain ⟨i0, ei0⟩ := is_v g3
  obtain rfl : w0 = (.int i0) := Option.some.inj ei0
  obtain ⟨i1, ei1⟩ := is_v g5
  obtain rfl : w1 = (.int i1) := Option.some.inj ei1
  obtain ⟨i2, ei2⟩ := is_v g6
  obtain rfl : w2 = (.int i2) := Option.some.inj ei2
  obtain ⟨n, o, h1, h2, h3, _, L, rfl, ⟨rfl, N, -⟩, hq⟩ := rm0 l s _ hw tables_1 i0 i1 i2 s.heap s.heap.size (Nat.le_refl _)  p e ha hc hk s m _ below hf ((Spec.applies_iff_loose hf).mp happ).1 ⟨rfl, State.Warmed39.refl s, rfl⟩ trivial
  refine ⟨n, _, h1, h2, h3, hpost _ _ _ _ _ _ ⟨Cond.after_iff.mpr rfl, Cond.after_iff.mpr (eq_i res_at (Term.int_eval (1)) rfl), trivial⟩ ⟨hq.1, hq.2.1, (hq.2.2.sift fun y hy => Or.inr (N y hy)).mono (by decide) (by decide)⟩⟩
theorem main_1_1 : Claimed_1_1 := comes_1 fun _ _ _ _ _ _ h hF => ⟨h.1, hF⟩
theorem main_1_2 : Claimed_1_2 := comes_1 fun _ _ _ _ _ _ h hF => ⟨h.2.1, hF⟩
end Jvm.Pilot.@@N@@
namespace Jvm.Pilot.@@N@@
open Jvm Jvm.ClassFile Sem Op Lib Jvm.Free Jvm.Stand Jvm.Pilot.@@N@@.Jvm.D
/-! MADE BY PROGRAM (witnessworld.py) out of the Statement's table words and the real class files: 11 classes; the members and pool entries that the words name. The judged class is class 1, her method 3. -/
namespace start1
open Jvm.ClassFile
def u (s : String) : CpInfo := .utf8 (stringToUtf16 s)
/-- a pool by its gaps: so many unusable entries, then the entry; so many at the end -/
def gap : Nat → List CpInfo → List CpInfo
  | 0, r => r
  | n + 1, r => .unusable :: gap n r
def poolList (es : List (Nat × CpInfo)) (last : Nat) : List CpInfo := es.foldr (fun e r => gap e.1 (e.2 :: r)) (gap last [])
def pool (es : List (Nat × CpInfo)) (last : Nat) : Array CpInfo := ⟨poolList es last⟩
def fileOf (pool : Array CpInfo) (this : Nat) (attrs : Array Attribute := #[]) (ms : Array MethodInfo := #[]) (fl : Nat := 33) (sup : Nat := 0) (ifs : Array Nat := #[]) (fds : Array FieldInfo := #[]) : ClassFile where
  minorVersion := 0
  majorVersion := 65
  constantPool := pool
  accessFlags := fl
  thisClass := this
  superClass := sup
  interfaces := ifs
  fields := fds
  methods := ms
  attributes := attrs
def plain (name : String) (sup : Option ClassId) : Class where
  name := name
  kind := .ordinary
  loader := none
  accessFlags := 33
  super := sup
  interfaces := #[]
  cf := none
  fields := #[]
  methods := #[]
  instanceTypes := #[]
  staticTypes := #[]
  resolved := #[]
  callSites := []
  init := .initialized
  statics := none
  mirror := none

def pool0 : Array CpInfo := pool [(5, u "<init>"), (0, u "()V"), (1, .class_ 10), (1, u "java/lang/Object")] 113

def k0c0 : Code := { maxStack := 0, maxLocals := 1, code := object_method_1_code, exceptionTable := #[], attributes := #[] }
def k0m0 : Method := { name := "<init>", desc := "()V", sig := { parameters := [], returnType := none }, accessFlags := 1, code := some k0c0 }
/-- java/lang/Object -/
def k0 : Class := { plain "java/lang/Object" none with
  accessFlags := 33
  interfaces := #[]
  cf := some (fileOf pool0 8 #[] #[{ accessFlags := 1, nameIndex := 5, descriptorIndex := 6, attributes := #[] }] 33 0 #[] #[])
  fields := #[]
  methods := #[k0m0]
  instanceTypes := #[]
  staticTypes := #[]
  resolved := Array.replicate 124 none
  statics := none }

def pool1 : Array CpInfo := pool [(2, .class_ 4), (1, u "java/lang/Object"), (0, u "<init>"), (0, u "()V"), (0, .integer 923521), (0, .integer 28629151), (0, .methodref 10 11), (0, .class_ 12), (0, .nameAndType 13 14), (0, u "com/example/tailwake/tailwake/source/mariadb/SliceHashCodePinLaw"), (0, u "pow31"), (0, u "(I)I"), (0, .integer 2147483647), (0, .class_ 17), (0, u "com/example/tailwake/tailwake/source/mariadb/Slice"), (0, .methodref 16 19), (0, .nameAndType 5 20), (0, u "([BII)V"), (0, .methodref 10 22), (0, .nameAndType 23 24), (0, u "term"), (0, u "([BIII)I"), (0, .methodref 16 26), (0, .nameAndType 27 28), (0, u "hashCode"), (0, u "()I"), (3, u "law"), (0, u "(III)Z")] 4

def k1m0 : Method := { name := "<init>", desc := "()V", sig := { parameters := [], returnType := none }, accessFlags := 1, code := none }
def k1c1 : Code := { maxStack := 2, maxLocals := 1, code := method_2_code, exceptionTable := #[], attributes := #[] }
def k1m1 : Method := { name := "pow31", desc := "(I)I", sig := { parameters := [.int], returnType := some .int }, accessFlags := 10, code := some k1c1 }
def k1c2 : Code := { maxStack := 3, maxLocals := 4, code := method_3_code, exceptionTable := #[], attributes := #[] }
def k1m2 : Method := { name := "term", desc := "([BIII)I", sig := { parameters := [(.array .byte), .int, .int, .int], returnType := some .int }, accessFlags := 10, code := some k1c2 }
def k1c3 : Code := { maxStack := 5, maxLocals := 8, code := code, exceptionTable := #[], attributes := #[] }
def k1m3 : Method := { name := "law", desc := "(III)Z", sig := { parameters := [.int, .int, .int], returnType := some .boolean }, accessFlags := 9, code := some k1c3 }
/-- com/example/tailwake/tailwake/source/mariadb/SliceHashCodePinLaw -/
def k1 : Class := { plain "com/example/tailwake/tailwake/source/mariadb/SliceHashCodePinLaw" (some 0) with
  accessFlags := 49
  interfaces := #[]
  cf := some (fileOf pool1 10 #[] #[{ accessFlags := 1, nameIndex := 5, descriptorIndex := 6, attributes := #[] }, { accessFlags := 10, nameIndex := 13, descriptorIndex := 14, attributes := #[] }, { accessFlags := 10, nameIndex := 23, descriptorIndex := 24, attributes := #[] }, { accessFlags := 9, nameIndex := 32, descriptorIndex := 33, attributes := #[] }] 49 2 #[] #[])
  fields := #[]
  methods := #[k1m0, k1m1, k1m2, k1m3]
  instanceTypes := #[]
  staticTypes := #[]
  resolved := Array.replicate 38 none
  statics := none }

def pool2 : Array CpInfo := pool [(1, .class_ 2), (0, u "java/io/Serializable"), (0, .class_ 4), (0, u "java/lang/Object")] 2

/-- java/io/Serializable -/
def k2 : Class := { plain "java/io/Serializable" (some 0) with
  accessFlags := 1537
  interfaces := #[]
  cf := some (fileOf pool2 1 #[] #[] 1537 3 #[] #[])
  fields := #[]
  methods := #[]
  instanceTypes := #[]
  staticTypes := #[]
  resolved := Array.replicate 7 none
  statics := none }

def pool3 : Array CpInfo := pool [(1, .methodref 2 3), (0, .class_ 4), (0, .nameAndType 5 6), (0, u "java/lang/Object"), (0, u "<init>"), (0, u "()V"), (0, .methodref 8 9), (0, .class_ 10), (0, .nameAndType 11 12), (0, u "java/util/Objects"), (0, u "checkFromIndexSize"), (0, u "(III)I"), (0, .fieldref 14 15), (0, .class_ 16), (0, .nameAndType 17 18), (0, u "com/example/tailwake/tailwake/source/mariadb/Slice"), (0, u "array"), (0, u "[B"), (0, .fieldref 14 20), (0, .nameAndType 21 22), (0, u "offset"), (0, u "I"), (0, .fieldref 14 24), (0, .nameAndType 25 22), (0, u "length"), (3, u "([BII)V"), (15, .class_ 46), (0, u "java/io/Serializable"), (0, u "serialVersionUID"), (0, u "J"), (10, u "()I"), (3, u "hashCode")] 2

def k3c0 : Code := { maxStack := 3, maxLocals := 4, code := prog_29_method_1_code, exceptionTable := #[], attributes := #[] }
def k3m0 : Method := { name := "<init>", desc := "([BII)V", sig := { parameters := [(.array .byte), .int, .int], returnType := none }, accessFlags := 0, code := some k3c0 }
def k3c1 : Code := { maxStack := 3, maxLocals := 3, code := prog_29_method_7_code, exceptionTable := #[], attributes := #[] }
def k3m1 : Method := { name := "hashCode", desc := "()I", sig := { parameters := [], returnType := some .int }, accessFlags := 1, code := some k3c1 }
/-- com/example/tailwake/tailwake/source/mariadb/Slice -/
def k3 : Class := { plain "com/example/tailwake/tailwake/source/mariadb/Slice" (some 0) with
  accessFlags := 48
  interfaces := #[2]
  cf := some (fileOf pool3 14 #[] #[{ accessFlags := 0, nameIndex := 5, descriptorIndex := 29, attributes := #[] }, { accessFlags := 1, nameIndex := 63, descriptorIndex := 59, attributes := #[] }] 48 2 #[45] #[{ accessFlags := 26, nameIndex := 47, descriptorIndex := 48, attributes := #[] }, { accessFlags := 18, nameIndex := 17, descriptorIndex := 18, attributes := #[] }, { accessFlags := 18, nameIndex := 21, descriptorIndex := 22, attributes := #[] }, { accessFlags := 18, nameIndex := 25, descriptorIndex := 22, attributes := #[] }])
  fields := #[{ name := "serialVersionUID", type := .long, accessFlags := 26, slot := 0, constantValue := 0 }, { name := "array", type := (.array .byte), accessFlags := 18, slot := 0, constantValue := 0 }, { name := "offset", type := .int, accessFlags := 18, slot := 1, constantValue := 0 }, { name := "length", type := .int, accessFlags := 18, slot := 2, constantValue := 0 }]
  methods := #[k3m0, k3m1]
  instanceTypes := #[(.array .byte), .int, .int]
  staticTypes := #[.long]
  resolved := Array.replicate 66 none
  statics := none }

def pool4 : Array CpInfo := pool [(2, .class_ 4), (1, u "java/lang/Object"), (0, u "<init>"), (0, u "()V"), (35, .class_ 44), (1, u "java/util/Objects"), (61, .class_ 108), (1, u "jdk/internal/util/Preconditions"), (5, u "(IIILjava/util/function/BiFunction;)I"), (0, .methodref 106 116), (0, .nameAndType 117 114), (0, u "checkFromIndexSize"), (57, u "(III)I")] 8

def k4m0 : Method := { name := "<init>", desc := "()V", sig := { parameters := [], returnType := none }, accessFlags := 2, code := none }
def k4c1 : Code := { maxStack := 4, maxLocals := 3, code := jdk_31_method_19_code, exceptionTable := #[], attributes := #[] }
def k4m1 : Method := { name := "checkFromIndexSize", desc := "(III)I", sig := { parameters := [.int, .int, .int], returnType := some .int }, accessFlags := 9, code := some k4c1 }
/-- java/util/Objects -/
def k4 : Class := { plain "java/util/Objects" (some 0) with
  accessFlags := 49
  interfaces := #[]
  cf := some (fileOf pool4 42 #[] #[{ accessFlags := 2, nameIndex := 5, descriptorIndex := 6, attributes := #[] }, { accessFlags := 9, nameIndex := 117, descriptorIndex := 175, attributes := #[] }] 49 2 #[] #[])
  fields := #[]
  methods := #[k4m0, k4m1]
  instanceTypes := #[]
  staticTypes := #[]
  resolved := Array.replicate 184 none
  statics := none }

def pool5 : Array CpInfo := pool [(2, .class_ 4), (1, u "java/lang/Object"), (0, u "<init>"), (0, u "()V"), (17, .class_ 26), (1, u "jdk/internal/util/Preconditions"), (22, u "checkFromIndexSize"), (5, .class_ 56), (0, u "jdk/internal/util/Preconditions$4"), (57, .class_ 115), (0, u "jdk/internal/util/Preconditions$1"), (7, u "SIOOBE_FORMATTER"), (0, u "Ljava/util/function/BiFunction;"), (0, .class_ 126), (0, u "jdk/internal/util/Preconditions$2"), (3, u "AIOOBE_FORMATTER"), (0, .class_ 132), (0, u "jdk/internal/util/Preconditions$3"), (3, u "IOOBE_FORMATTER"), (46, u "(IIILjava/util/function/BiFunction;)I")] 10

def k5m0 : Method := { name := "<init>", desc := "()V", sig := { parameters := [], returnType := none }, accessFlags := 1, code := none }
def k5c1 : Code := { maxStack := 4, maxLocals := 4, code := jdk_41_method_13_code, exceptionTable := #[], attributes := #[] }
def k5m1 : Method := { name := "checkFromIndexSize", desc := "(IIILjava/util/function/BiFunction;)I", sig := { parameters := [.int, .int, .int, (.object "java/util/function/BiFunction")], returnType := some .int }, accessFlags := 9, code := some k5c1 }
/-- jdk/internal/util/Preconditions -/
def k5 : Class := { plain "jdk/internal/util/Preconditions" (some 0) with
  accessFlags := 33
  interfaces := #[]
  cf := some (fileOf pool5 24 #[.nestMembers #[55, 131, 125, 114]] #[{ accessFlags := 1, nameIndex := 5, descriptorIndex := 6, attributes := #[] }, { accessFlags := 9, nameIndex := 49, descriptorIndex := 183, attributes := #[] }] 33 2 #[] #[{ accessFlags := 25, nameIndex := 123, descriptorIndex := 124, attributes := #[] }, { accessFlags := 25, nameIndex := 130, descriptorIndex := 124, attributes := #[] }, { accessFlags := 25, nameIndex := 136, descriptorIndex := 124, attributes := #[] }])
  fields := #[{ name := "SIOOBE_FORMATTER", type := (.object "java/util/function/BiFunction"), accessFlags := 25, slot := 0, constantValue := 0 }, { name := "AIOOBE_FORMATTER", type := (.object "java/util/function/BiFunction"), accessFlags := 25, slot := 1, constantValue := 0 }, { name := "IOOBE_FORMATTER", type := (.object "java/util/function/BiFunction"), accessFlags := 25, slot := 2, constantValue := 0 }]
  methods := #[k5m0, k5m1]
  instanceTypes := #[]
  staticTypes := #[(.object "java/util/function/BiFunction"), (.object "java/util/function/BiFunction"), (.object "java/util/function/BiFunction")]
  resolved := Array.replicate 194 none
  statics := none }

def pool6 : Array CpInfo := pool [(1, u "java/lang/Cloneable"), (0, .class_ 1), (0, u "java/lang/Object"), (0, .class_ 3)] 3

/-- java/lang/Cloneable -/
def k6 : Class := { plain "java/lang/Cloneable" (some 0) with
  accessFlags := 1537
  interfaces := #[]
  cf := some (fileOf pool6 2 #[] #[] 1537 4 #[] #[])
  fields := #[]
  methods := #[]
  instanceTypes := #[]
  staticTypes := #[]
  resolved := Array.replicate 8 none
  statics := none }

/-- the primitive byte -/
def k7 : Class := { plain "byte" none with kind := .primitive 'B', accessFlags := 0x411 }
/-- [B -/
def k8 : Class := { plain "[B" (some 0) with kind := .array 7 .byte, interfaces := #[6, 2], accessFlags := 1041 }

/-- the primitive int -/
def k9 : Class := { plain "int" none with kind := .primitive 'I', accessFlags := 0x411 }
/-- [I -/
def k10 : Class := { plain "[I" (some 0) with kind := .array 9 .int, interfaces := #[6, 2], accessFlags := 1041 }

def heap : Heap := #[]
def classes : Array Class := #[k0, k1, k2, k3, k4, k5, k6, k7, k8, k9, k10]
def interned : List (Array UInt16 × Addr) := []
def slotsUsed : Nat := 0
def theMethod : MethodId := ⟨1, 3⟩
def args0 : Array Value := #[.int 10, .int 3, .int 17]
def aboutOver (below : List Frame) : State where
  vm := { classes := classes, interned := interned.toArray }
  heap := heap
  slotsUsed := slotsUsed
  threads := #[{ frames := .invoking theMethod args0 :: below }]
def below0 : List Frame := [.native { method := ⟨0, 0⟩, args := #[] }]
def about1 : State := aboutOver below0
def p0 : Program := .bare "" "" ""
def e0 : Env := launch0.env 0 0 0
theorem w_frames : about1.frames = Frame.invoking theMethod args0 :: below0 := rfl
set_option maxRecDepth 65536 in
theorem w_args : argsFit about1.vm theMethod args0 = true := by decide +kernel
set_option maxRecDepth 65536 in
theorem w_heap : heapFits about1 = true := by decide +kernel
set_option maxRecDepth 65536 in
theorem w_runnable : about1.curStatus? = some .runnable := by decide +kernel
set_option maxRecDepth 65536 in
theorem w_alone : about1.alone = true := by decide +kernel
set_option maxRecDepth 65536 in
theorem w_named : about1.methodNamed? x = some theMethod := by decide +kernel
set_option maxRecDepth 65536 in
theorem w_hears : about1.hears theMethod below0 = true := by decide +kernel
set_option maxRecDepth 65536 in
theorem w_ripe : about1.ripe theMethod args0 below0 = true := by decide +kernel
theorem w_running : about1.status = .running := rfl
set_option maxRecDepth 65536 in
theorem w_room : about1.hasRoom e0.platform room_1 = true :=
  launch0.hasRoom_least _ room_1 (by decide +kernel) (by decide +kernel) (by decide +kernel) (by decide +kernel) (by decide +kernel) (by decide +kernel)
theorem allAtoms_all (ts : List Jvm.Cond) (a : Array Jvm.Value) (st : Jvm.State) : (allAtoms ts).before a st = ts.all (fun c => c.before a st) := by
  induction ts with
  | nil => rfl
  | cons c t ih =>
    show (Jvm.Cond.and c (allAtoms t)).before a st = _
    rw [Jvm.Cond.before_and, ih, List.all_cons]
def words1 : List Jvm.Cond := Jvm.Cond.code x code maxLocals ret :: tables_1
/-- a 'code' word, met by the world's own term for the bytes: nothing is compared byte by byte -/
theorem code_word {y : MethodName} {bytes : ByteArray} {mx : Nat} {rt : Option FieldType} {a : Array Value} {s : State} {m : MethodId} {meth : Method} {c : Code} (h1 : s.methodNamed? y = some m) (h2 : s.vm.method? m = some meth) (h3 : meth.code = some c) (h4 : c.code = bytes)
    (h5 : (c.maxLocals == mx && c.exceptionTable.isEmpty && decide (c.maxStack ≤ mostOperands) && decide (meth.sig.returnType = rt) && !meth.locks && decide (parseMethodDescriptor y.desc = some meth.sig)) = true) : (Jvm.Cond.code y bytes mx rt).before a s = true := by
  simp only [Bool.and_eq_true, beq_iff_eq, Bool.not_eq_true', decide_eq_true_eq] at h5
  obtain ⟨⟨⟨⟨⟨g1, g2⟩, g3⟩, g4⟩, g5⟩, g6⟩ := h5
  simp [Cond.before, Cond.holds, Cond.value, h1, h2, h3, h4, g1, g2, g3, g4, g5, g6]
def isCode : Jvm.Cond → Bool
  | .code _ _ _ _ => true
  | _ => false
theorem all_split {L : List Jvm.Cond} {P : Jvm.Cond → Bool} (h1 : L.all (fun c => isCode c || P c) = true) (h2 : ∀ c ∈ L.filter isCode, P c = true) : L.all P = true := by
  refine List.all_eq_true.mpr fun c hc => ?_
  have h := List.all_eq_true.mp h1 c hc
  rcases Bool.eq_false_or_eq_true (isCode c) with hi | hi
  · exact h2 c (List.mem_filter.mpr ⟨hc, hi⟩)
  · simpa [hi] using h
set_option maxRecDepth 65536 in
theorem w_c0 : (Jvm.Cond.code x code maxLocals ret).before args0 about1 = true := code_word (m := ⟨1, 3⟩) (meth := k1m3) (c := k1c3) (by decide +kernel) rfl rfl rfl (by decide +kernel)
set_option maxRecDepth 65536 in
theorem w_c1 : (Jvm.Cond.code ({ cls := "com/example/tailwake/tailwake/source/mariadb/Slice", name := "<init>", desc := "([BII)V" } : Jvm.MethodName) prog_29_method_1_code (4 : Nat) (Option.none : Option Jvm.ClassFile.FieldType)).before args0 about1 = true := code_word (m := ⟨3, 0⟩) (meth := k3m0) (c := k3c0) (by decide +kernel) rfl rfl rfl (by decide +kernel)
set_option maxRecDepth 65536 in
theorem w_c2 : (Jvm.Cond.code ({ cls := "java/lang/Object", name := "<init>", desc := "()V" } : Jvm.MethodName) object_method_1_code (1 : Nat) (Option.none : Option Jvm.ClassFile.FieldType)).before args0 about1 = true := code_word (m := ⟨0, 0⟩) (meth := k0m0) (c := k0c0) (by decide +kernel) rfl rfl rfl (by decide +kernel)
set_option maxRecDepth 65536 in
theorem w_c3 : (Jvm.Cond.code ({ cls := "java/util/Objects", name := "checkFromIndexSize", desc := "(III)I" } : Jvm.MethodName) jdk_31_method_19_code (3 : Nat) (Option.some Jvm.ClassFile.FieldType.int)).before args0 about1 = true := code_word (m := ⟨4, 1⟩) (meth := k4m1) (c := k4c1) (by decide +kernel) rfl rfl rfl (by decide +kernel)
set_option maxRecDepth 65536 in
theorem w_c4 : (Jvm.Cond.code ({ cls := "jdk/internal/util/Preconditions", name := "checkFromIndexSize", desc := "(IIILjava/util/function/BiFunction;)I" } : Jvm.MethodName) jdk_41_method_13_code (4 : Nat) (Option.some Jvm.ClassFile.FieldType.int)).before args0 about1 = true := code_word (m := ⟨5, 1⟩) (meth := k5m1) (c := k5c1) (by decide +kernel) rfl rfl rfl (by decide +kernel)
set_option maxRecDepth 65536 in
theorem w_c5 : (Jvm.Cond.code ({ cls := "com/example/tailwake/tailwake/source/mariadb/SliceHashCodePinLaw", name := "pow31", desc := "(I)I" } : Jvm.MethodName) method_2_code (1 : Nat) (Option.some Jvm.ClassFile.FieldType.int)).before args0 about1 = true := code_word (m := ⟨1, 1⟩) (meth := k1m1) (c := k1c1) (by decide +kernel) rfl rfl rfl (by decide +kernel)
set_option maxRecDepth 65536 in
theorem w_c6 : (Jvm.Cond.code ({ cls := "com/example/tailwake/tailwake/source/mariadb/SliceHashCodePinLaw", name := "term", desc := "([BIII)I" } : Jvm.MethodName) method_3_code (4 : Nat) (Option.some Jvm.ClassFile.FieldType.int)).before args0 about1 = true := code_word (m := ⟨1, 2⟩) (meth := k1m2) (c := k1c2) (by decide +kernel) rfl rfl rfl (by decide +kernel)
set_option maxRecDepth 65536 in
theorem w_c7 : (Jvm.Cond.code ({ cls := "com/example/tailwake/tailwake/source/mariadb/Slice", name := "hashCode", desc := "()I" } : Jvm.MethodName) prog_29_method_7_code (3 : Nat) (Option.some Jvm.ClassFile.FieldType.int)).before args0 about1 = true := code_word (m := ⟨3, 1⟩) (meth := k3m1) (c := k3c1) (by decide +kernel) rfl rfl rfl (by decide +kernel)
def codes1 : List Jvm.Cond := [Jvm.Cond.code x code maxLocals ret, Jvm.Cond.code ({ cls := "com/example/tailwake/tailwake/source/mariadb/Slice", name := "<init>", desc := "([BII)V" } : Jvm.MethodName) prog_29_method_1_code (4 : Nat) (Option.none : Option Jvm.ClassFile.FieldType), Jvm.Cond.code ({ cls := "java/lang/Object", name := "<init>", desc := "()V" } : Jvm.MethodName) object_method_1_code (1 : Nat) (Option.none : Option Jvm.ClassFile.FieldType), Jvm.Cond.code ({ cls := "java/util/Objects", name := "checkFromIndexSize", desc := "(III)I" } : Jvm.MethodName) jdk_31_method_19_code (3 : Nat) (Option.some Jvm.ClassFile.FieldType.int), Jvm.Cond.code ({ cls := "jdk/internal/util/Preconditions", name := "checkFromIndexSize", desc := "(IIILjava/util/function/BiFunction;)I" } : Jvm.MethodName) jdk_41_method_13_code (4 : Nat) (Option.some Jvm.ClassFile.FieldType.int), Jvm.Cond.code ({ cls := "com/example/tailwake/tailwake/source/mariadb/SliceHashCodePinLaw", name := "pow31", desc := "(I)I" } : Jvm.MethodName) method_2_code (1 : Nat) (Option.some Jvm.ClassFile.FieldType.int), Jvm.Cond.code ({ cls := "com/example/tailwake/tailwake/source/mariadb/SliceHashCodePinLaw", name := "term", desc := "([BIII)I" } : Jvm.MethodName) method_3_code (4 : Nat) (Option.some Jvm.ClassFile.FieldType.int), Jvm.Cond.code ({ cls := "com/example/tailwake/tailwake/source/mariadb/Slice", name := "hashCode", desc := "()I" } : Jvm.MethodName) prog_29_method_7_code (3 : Nat) (Option.some Jvm.ClassFile.FieldType.int)]
set_option maxRecDepth 65536 in
theorem codes_eq : words1.filter isCode = codes1 := rfl
theorem w_codes : ∀ c ∈ words1.filter isCode, c.before args0 about1 = true := by
  rw [codes_eq]
  intro c hc
  simp only [codes1, List.mem_cons, List.not_mem_nil, or_false] at hc
  rcases hc with rfl | rfl | rfl | rfl | rfl | rfl | rfl | rfl
  · exact w_c0
  · exact w_c1
  · exact w_c2
  · exact w_c3
  · exact w_c4
  · exact w_c5
  · exact w_c6
  · exact w_c7
set_option maxRecDepth 65536 in
theorem w_t1 : (words1.take 24).all (fun c => isCode c || c.before args0 about1) = true := by decide +kernel
set_option maxRecDepth 65536 in
theorem w_t2 : (words1.drop 24).all (fun c => isCode c || c.before args0 about1) = true := by decide +kernel
theorem w_tables : (allAtoms (Jvm.Cond.code x code maxLocals ret :: tables_1)).before args0 about1 = true := by
  rw [allAtoms_all]
  show words1.all (fun c => c.before args0 about1) = true
  refine all_split ?_ w_codes
  rw [← List.take_append_drop 24 words1, List.all_append, w_t1, w_t2]
  rfl
set_option maxRecDepth 65536 in
theorem w_case : (Jvm.Cond.and given_1 narrow_1).before args0 about1 = true := by decide +kernel
theorem w_applies : (headSpec (Jvm.Cond.code x code maxLocals ret :: tables_1) room_1).applies x e0.platform about1 = true :=
  (Spec.applies_iff w_frames).mpr ⟨w_running, w_runnable, w_alone, w_named, w_hears, w_ripe, w_room, w_tables⟩
theorem atStart : AtStart classFile x code maxLocals ret World_1 tables_1 room_1 Calls_1 rest_1 Pre_1 launch0 p0 e0 about1 theMethod args0 below0 :=
  ⟨lists_1, trivial, launch0.admits_env _ _ _, launch0.least_env, fairChoices_fair.cas, fairChoices_fair.clock, w_frames, w_args, w_heap, w_applies, trivial, trivial, w_case⟩
end start1
theorem witness_1 : WitnessClaimed_1 := ⟨start1.p0, start1.e0, start1.about1, start1.theMethod, start1.args0, start1.below0, start1.atStart⟩
end Jvm.Pilot.@@N@@
