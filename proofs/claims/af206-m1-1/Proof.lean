import JvmDerived
import JvmDerived.Pilot.@@N@@Statement
import JvmDerived.Pilot.@@N@@Code
set_option linter.unusedVariables false
set_option linter.unusedSimpArgs false
namespace Jvm.RoadKit
open Sem ClassFile Op Lib Jvm.Stand Jvm.Free Jvm.LawKit
section New
variable {p : Program} {l : Launch} {e : Env} {R : Room} {s : State} {m : MethodId} {args : Array Value} {below : List Frame} {meth : Method} {c : Code} {T : State} {locs : List Loc} {cells slots : Nat}
theorem retI (X : Stand p l e R s m args below meth c T locs cells slots) (hx : p.tables.exec = Jvm.exec) {pc : Nat} {Ls : Array Slot} {z : Int32} {rest : List Value} (hret : meth.sig.returnType = some .int) (hd : decode c.code pc = .ok (.ireturn, 1)) {fs : List Frame}
    (hl : ∀ (f : JFrame) (acts : List Action), f.method = m → f.locked = none → f.entered = [] → (doReturn e (T.setTop f) acts (some (.int z))).1 = T.setFrames fs) : Steps p.tables e below (T.setTop (mkF m pc Ls (.int z :: rest))) (T.setFrames fs) := by
  have hm' : T.vm.method? m = some meth := X.method'
  have hn : narrow .int (.int z) = .int z := rfl
  show Steps p.tables e below (T.setTop { method := m, pc := pc, locals := Ls, stack := _ :: rest, locked := none }) _
  jvm_step X.here [X.here.top, hx, hd, hm', hret, hn]
  first | (intro acts; rw [hl _ acts rfl rfl rfl]) | rw [hl _ _ rfl rfl rfl]
  exact Steps.refl _
end New
end Jvm.RoadKit
namespace Jvm.Pilot.@@N@@
open Jvm Jvm.ClassFile Sem Op Lib Jvm.Free Jvm.Stand Jvm.LawKit Jvm.RoadKit Bundle Jvm.Pilot.@@N@@.Jvm.D
def Av (Z : State) (h : Heap) (a : Addr) (ty : FieldType) (n : Int32) (vs : List Value) (d : Value) : Prop := ∃ k, Arv Z h a k ty n vs d
theorem Av.lt {Z : State} {h : Heap} {a : Addr} {ty : FieldType} {n : Int32} {vs : List Value} {d : Value} (F : Av Z h a ty n vs d) : a < h.size := by obtain ⟨k, F⟩ := F; exact F.lt
theorem Av.ext {Z : State} {h h' : Heap} {a : Addr} {ty : FieldType} {n : Int32} {vs : List Value} {d : Value} (F : Av Z h a ty n vs d) (E : Ext h h') : Av Z h' a ty n vs d := by obtain ⟨k, F⟩ := F; exact ⟨k, F.ext E⟩
theorem Av.other {Z : State} {h h' : Heap} {a b : Addr} {ty : FieldType} {n : Int32} {vs : List Value} {d : Value} {sl : Nat} {v : Value} (F : Av Z h b ty n vs d) (W : Wr h h' a sl v) (q : b ≠ a) : Av Z h' b ty n vs d := by obtain ⟨k, F⟩ := F; exact ⟨k, F.other W q⟩
def Al (Z : State) (h : Heap) (a : Addr) (ty : FieldType) (n : Int32) : Prop := ∃ c : Cell, Arr Z h a c ty ∧ c.slots.size = n.toNatClampNeg ∧ ¬ n < 0
theorem Al.lt {Z : State} {h : Heap} {a : Addr} {ty : FieldType} {n : Int32} (F : Al Z h a ty n) : a < h.size := by obtain ⟨c, A, -⟩ := F; exact A.lt
theorem Al.ext {Z : State} {h h' : Heap} {a : Addr} {ty : FieldType} {n : Int32} (F : Al Z h a ty n) (E : Ext h h') : Al Z h' a ty n := by obtain ⟨c, A, r⟩ := F; exact ⟨c, A.ext E, r⟩
theorem Al.other {Z : State} {h h' : Heap} {a b : Addr} {ty : FieldType} {n : Int32} {sl : Nat} {v : Value} (F : Al Z h b ty n) (W : Wr h h' a sl v) (q : b ≠ a) : Al Z h' b ty n := by obtain ⟨c, A, r⟩ := F; exact ⟨c, A.other W q, r⟩
theorem Al.same {Z : State} {h h' : Heap} {a : Addr} {ty : FieldType} {n : Int32} {sl : Nat} {v : Value} (F : Al Z h a ty n) (W : Wr h h' a sl v) : Al Z h' a ty n := by obtain ⟨c, A, r⟩ := F; exact ⟨_, A.same W, by rw [sz_set]; exact r.1, r.2⟩
theorem Al.keep {Z : State} {h h' : Heap} {a : Addr} {ty : FieldType} {n : Int32} {ws : List Addr} (F : Al Z h a ty n) (K : Keep h h' ws) (q : a ∉ ws) : Al Z h' a ty n := by obtain ⟨c, A, r⟩ := F; exact ⟨c, ⟨K.2.1 a c A.1 q, A.2⟩, r⟩
theorem Av.al {Z : State} {h : Heap} {a : Addr} {ty : FieldType} {n : Int32} {vs : List Value} {d : Value} (F : Av Z h a ty n vs d) : Al Z h a ty n := by obtain ⟨k, c, A, -, r1, r2, -⟩ := F; exact ⟨c, A, r1, r2⟩
theorem Av.keep {Z : State} {h h' : Heap} {a : Addr} {ty : FieldType} {n : Int32} {vs : List Value} {d : Value} {ws : List Addr} (F : Av Z h a ty n vs d) (K : Keep h h' ws) (q : a ∉ ws) : Av Z h' a ty n vs d := by obtain ⟨k, F⟩ := F; exact ⟨k, F.keep K q⟩
abbrev MN1 : MethodName := ⟨"com/example/unand/unand/model/Command", "supportedBy", "(J)Z"⟩
theorem own_eqv {args : Array Value} {s : State} {t : Term} {k : Int32} (h : (Jvm.Cond.eq t (.int k)).value args s none s [] = some true) : t.eval args s none [] s = some (.int k) := by
  cases ht : t.eval args s none [] s with
  | none => simp [Jvm.Cond.value, ht] at h
  | some v => cases v <;> simp [Jvm.Cond.value, ht, Term.eval] at h ⊢; exact h
theorem own_mod17 (x : Int32) : 0 ≤ ((x &&& (2147483647 : Int32)) % (17 : Int32)).toInt ∧ ((x &&& (2147483647 : Int32)) % (17 : Int32)).toInt < 17 := by
  have h0 := c_mask x 2147483647 31 (by decide) (by decide)
  have h := (c_iremV (x &&& 2147483647) 17).1 (by omega) (by decide)
  exact ⟨h.1, h.2.1⟩
theorem own_17 (i : Int32) (h : 0 ≤ i.toInt ∧ i.toInt < 17) : i = (0 : Int32) ∨ i = (1 : Int32) ∨ i = (2 : Int32) ∨ i = (3 : Int32) ∨ i = (4 : Int32) ∨ i = (5 : Int32) ∨ i = (6 : Int32) ∨ i = (7 : Int32) ∨ i = (8 : Int32) ∨ i = (9 : Int32) ∨ i = (10 : Int32) ∨ i = (11 : Int32) ∨ i = (12 : Int32) ∨ i = (13 : Int32) ∨ i = (14 : Int32) ∨ i = (15 : Int32) ∨ i = (16 : Int32) := by
  simp only [← Int32.toInt_inj, Int32.reduceToInt] at *
  omega
theorem d1_0 : decode prog_34_method_13_code 0 = .ok (.aload_n 0, 1) := by decide +kernel
theorem d1_1 : decode prog_34_method_13_code 1 = .ok (.getfield 92, 3) := by decide +kernel
theorem d1_4 : decode prog_34_method_13_code 4 = .ok (.iconst (-1), 1) := by decide +kernel
theorem d1_5 : decode prog_34_method_13_code 5 = .ok (.if_icmp .eq 16, 3) := by decide +kernel
theorem d1_21 : decode prog_34_method_13_code 21 = .ok (.iconst 1, 1) := by decide +kernel
theorem d1_22 : decode prog_34_method_13_code 22 = .ok (.goto 4, 3) := by decide +kernel
theorem d1_26 : decode prog_34_method_13_code 26 = .ok (.ireturn, 1) := by decide +kernel
theorem d1_8 : decode prog_34_method_13_code 8 = .ok (.lload_n 1, 1) := by decide +kernel
theorem d1_9 : decode prog_34_method_13_code 9 = .ok (.aload_n 0, 1) := by decide +kernel
theorem d1_10 : decode prog_34_method_13_code 10 = .ok (.getfield 92, 3) := by decide +kernel
theorem d1_13 : decode prog_34_method_13_code 13 = .ok (.lshr, 1) := by decide +kernel
theorem d1_14 : decode prog_34_method_13_code 14 = .ok (.lconst 1, 1) := by decide +kernel
theorem d1_15 : decode prog_34_method_13_code 15 = .ok (.land, 1) := by decide +kernel
theorem d1_16 : decode prog_34_method_13_code 16 = .ok (.lconst 1, 1) := by decide +kernel
theorem d1_17 : decode prog_34_method_13_code 17 = .ok (.lcmp, 1) := by decide +kernel
theorem d1_18 : decode prog_34_method_13_code 18 = .ok (.ifCond .ne 7, 3) := by decide +kernel
theorem d1_25 : decode prog_34_method_13_code 25 = .ok (.iconst 0, 1) := by decide +kernel
theorem pn_com_example_unand_unand_model_Command : plainName "com/example/unand/unand/model/Command" = true := by first | (simp [plainName, overriddenIn]; done) | decide +kernel
theorem ef_rm1 (m : MethodId) (x0 : Addr) (x1 : Int64) : entryFrame m #[(.ref x0), (.long x1)] 3 = mkF m 0 #[rv x0, .val (.long x1), .second] [] := by first | (simp [entryFrame, mkF, argsToLocals, Value.category]; done) | rfl
def Q_rm1 (Z : State) (a1_0 : Addr) (oc : Int64) (ob : Int32) (h0 : Heap) (n0 : Nat) (v : Option Value) (h : Heap) (L : List Loc) : Prop := v = some (.int (if ob = (-1 : Int32) then (1 : Int32) else (if (lcmpW ((oc >>> (ob &&& 0x3f).toInt64) &&& (1 : Int64)) (1 : Int64)) = (0 : Int32) then (1 : Int32) else (0 : Int32)))) ∧ Fr n0 L ∧ h = h0
set_option maxRecDepth 65536 in
set_option maxHeartbeats 40000000 in
theorem rm1 (l : Launch) (Z : State) (a0 : Array Value) (hw : ∀ d ∈ tables_1, d.before a0 Z = true) (ws : List Jvm.Cond) (a1_0 : Addr) (oc : Int64) (ob : Int32) (h0 : Heap) (n0 : Nat) (Z0 : n0 ≤ h0.size) (pf_F_a1_0_optionalBit : Fld Z h0 a1_0 "com/example/unand/unand/model/Command" "optionalBit" "I" (.int ob)) :
    MetFree l (⟨"com/example/unand/unand/model/Command", "supportedBy", "(J)Z"⟩ : MethodName) (head1 (Jvm.Cond.code (⟨"com/example/unand/unand/model/Command", "supportedBy", "(J)Z"⟩ : MethodName) prog_34_method_13_code 3 (some .boolean) :: ws) ({ frames := 0, cells := 0, slots := 0, locals := 0 } : Room)) (fun a U => a = #[(.ref a1_0), (.long oc)] ∧ Z.Warmed39 U.vm ∧ U.heap = h0) (fun _ _ _ _ _ => True) (fun _ U o U' => ∃ v L, o = .returned v ∧ Q_rm1 Z a1_0 oc ob h0 n0 v U'.heap L ∧ FrameEnd U o U' L ({ frames := 0, cells := 0, slots := 0, locals := 0 } : Room).cells ({ frames := 0, cells := 0, slots := 0, locals := 0 } : Room).slots) := by
  refine MetFree.of_bodySF (plainFor_of_name pn_com_example_unand_unand_model_Command) hisR ?_
  intro p e s m args below meth c s₁ Bd hml0 hP hK
  obtain ⟨rfl, hZ, hh⟩ := hP
  have hx := Bd.exec
  have hby := Bd.bytes
  have hml : c.maxLocals = 3 := hml0
  have hown : s.vm.findClass "com/example/unand/unand/model/Command" = some m.cls := findClass_of_methodNamed Bd.named
  have hnm := (name_of_methodNamed Bd.named Bd.method).1
  have X0 : Stand p l e ({ frames := 0, cells := 0, slots := 0, locals := 0 } : Room) s m #[(.ref a1_0), (.long oc)] below meth c s₁ [] 0 0 := Stand.of_body Bd
  have e0 : s₁.heap = h0 := by rw [← hh, Bd.state]; rfl
  have N0 := Fr.nil n0
  have pre0 : ∀ t, Steps p.tables e below (s₁.setTop (mkF m 0 #[rv a1_0, .val (.long oc), .second] [])) t → Steps p.tables e below (s₁.setTop (entryFrame m #[(.ref a1_0), (.long oc)] 3)) t := fun t k => castTop (ef_rm1 m a1_0 oc) k
  have wo45 := hw _ (List.mem_of_getElem? (i := 45) rfl)
  obtain ⟨T1, X1, e1, st1⟩ := getF X0 hx hZ hown (host := "") (Or.inl wo45) Via.refl e0 pf_F_a1_0_optionalBit (g := (mkF m 1 #[rv a1_0, .val (.long oc), .second] [(.ref a1_0)])) rfl rfl (hb hby d1_1)
  have pre3 : ∀ t, Steps p.tables e below (T1.setTop (mkF m 5 #[rv a1_0, .val (.long oc), .second] [(.int (-1 : Int32)), (.int ob)])) t → Steps p.tables e below (s₁.setTop (entryFrame m #[(.ref a1_0), (.long oc)] 3)) t := by
    intro t_ k_
    refine pre0 _ ?_
    show Steps p.tables e below (s₁.setTop (mkF m 0 #[rv a1_0, .val (.long oc), .second] [])) _
    refine XS.aloadN X0.here hx rfl (hb hby d1_0) rfl rfl ?_
    show Steps p.tables e below (s₁.setTop (mkF m 1 #[rv a1_0, .val (.long oc), .second] [(.ref a1_0)])) _
    refine st1 _ ?_
    show Steps p.tables e below (T1.setTop (mkF m 4 #[rv a1_0, .val (.long oc), .second] [(.int ob)])) _
    refine XS.iconst X1.here hx rfl (hb hby d1_4) ?_
    exact k_
  by_cases hc5_2 : ob = (-1 : Int32)
  · skip
    obtain ⟨fs, hr, hrun, hended, hW, hsame⟩ := X1.leave (v := some (.int (1 : Int32))) (fun h => by rw [Bd.returns] at h; cases h)
    refine ⟨_, _, pre3 _ ?_, hrun, hended, _, _, rfl, ?_, ⟨_, rfl⟩, hW, hsame.mono (by decide) (by decide)⟩
    · show Steps p.tables e below (T1.setTop (mkF m 5 #[rv a1_0, .val (.long oc), .second] [(.int (-1 : Int32)), (.int ob)])) _
      refine XS.icmpYes X1.here hx rfl (pc0 := 5) (pc' := 21) rfl (hb hby d1_5) rfl (teq hc5_2).1 (by decide) (by decide) ?_
      show Steps p.tables e below (T1.setTop (mkF m 21 #[rv a1_0, .val (.long oc), .second] [])) _
      refine XS.iconst X1.here hx rfl (hb hby d1_21) ?_
      show Steps p.tables e below (T1.setTop (mkF m 22 #[rv a1_0, .val (.long oc), .second] [(.int (1 : Int32))])) _
      refine XS.goto X1.here hx rfl (pc0 := 22) (pc' := 26) rfl (hb hby d1_22) (by decide) (by decide) ?_
      show Steps p.tables e below (T1.setTop (mkF m 26 #[rv a1_0, .val (.long oc), .second] [(.int (1 : Int32))])) _
      exact retN X1 hx (t := .boolean) Bd.returns (by simp) (hb hby d1_26) hr
    · show Q_rm1 Z _ _ _ h0 n0 _ T1.heap _
      rw [e1]
      exact ⟨(by first | rfl | (simp [*]; done) | (simp_all; done)), N0, rfl⟩
  · skip
    obtain ⟨T4, X4, e4, st4⟩ := getF X1 hx hZ hown (host := "") (Or.inl wo45) Via.refl e1 pf_F_a1_0_optionalBit (g := (mkF m 10 #[rv a1_0, .val (.long oc), .second] [(.ref a1_0), (.long oc)])) rfl rfl (hb hby d1_10)
    have pre6 : ∀ t, Steps p.tables e below (T4.setTop (mkF m 18 #[rv a1_0, .val (.long oc), .second] [(.int (lcmpW ((oc >>> (ob &&& 0x3f).toInt64) &&& (1 : Int64)) (1 : Int64)))])) t → Steps p.tables e below (s₁.setTop (entryFrame m #[(.ref a1_0), (.long oc)] 3)) t := by
      intro t_ k_
      refine pre3 _ ?_
      show Steps p.tables e below (T1.setTop (mkF m 5 #[rv a1_0, .val (.long oc), .second] [(.int (-1 : Int32)), (.int ob)])) _
      refine XS.icmpNo X1.here hx rfl (hb hby d1_5) rfl (feq hc5_2).1 ?_
      show Steps p.tables e below (T1.setTop (mkF m 8 #[rv a1_0, .val (.long oc), .second] [])) _
      refine XS.lloadN X1.here hx rfl (hb hby d1_8) rfl ?_
      show Steps p.tables e below (T1.setTop (mkF m 9 #[rv a1_0, .val (.long oc), .second] [(.long oc)])) _
      refine XS.aloadN X1.here hx rfl (hb hby d1_9) rfl rfl ?_
      show Steps p.tables e below (T1.setTop (mkF m 10 #[rv a1_0, .val (.long oc), .second] [(.ref a1_0), (.long oc)])) _
      refine st4 _ ?_
      show Steps p.tables e below (T4.setTop (mkF m 13 #[rv a1_0, .val (.long oc), .second] [(.int ob), (.long oc)])) _
      refine XS.lshr X4.here hx rfl (hb hby d1_13) rfl ?_
      show Steps p.tables e below (T4.setTop (mkF m 14 #[rv a1_0, .val (.long oc), .second] [(.long (oc >>> (ob &&& 0x3f).toInt64))])) _
      refine XS.lconst X4.here hx rfl (hb hby d1_14) ?_
      show Steps p.tables e below (T4.setTop (mkF m 15 #[rv a1_0, .val (.long oc), .second] [(.long (1 : Int64)), (.long (oc >>> (ob &&& 0x3f).toInt64))])) _
      refine XS.land X4.here hx rfl (hb hby d1_15) rfl ?_
      show Steps p.tables e below (T4.setTop (mkF m 16 #[rv a1_0, .val (.long oc), .second] [(.long ((oc >>> (ob &&& 0x3f).toInt64) &&& (1 : Int64)))])) _
      refine XS.lconst X4.here hx rfl (hb hby d1_16) ?_
      show Steps p.tables e below (T4.setTop (mkF m 17 #[rv a1_0, .val (.long oc), .second] [(.long (1 : Int64)), (.long ((oc >>> (ob &&& 0x3f).toInt64) &&& (1 : Int64)))])) _
      refine XS.lcmp X4.here hx rfl (hb hby d1_17) rfl ?_
      exact k_
    by_cases hc18_5 : (lcmpW ((oc >>> (ob &&& 0x3f).toInt64) &&& (1 : Int64)) (1 : Int64)) = (0 : Int32)
    · skip
      obtain ⟨fs, hr, hrun, hended, hW, hsame⟩ := X4.leave (v := some (.int (1 : Int32))) (fun h => by rw [Bd.returns] at h; cases h)
      refine ⟨_, _, pre6 _ ?_, hrun, hended, _, _, rfl, ?_, ⟨_, rfl⟩, hW, hsame.mono (by decide) (by decide)⟩
      · show Steps p.tables e below (T4.setTop (mkF m 18 #[rv a1_0, .val (.long oc), .second] [(.int (lcmpW ((oc >>> (ob &&& 0x3f).toInt64) &&& (1 : Int64)) (1 : Int64)))])) _
        refine XS.ifNo X4.here hx rfl (hb hby d1_18) rfl ((if0 _ _).trans (teq hc18_5).2) ?_
        show Steps p.tables e below (T4.setTop (mkF m 21 #[rv a1_0, .val (.long oc), .second] [])) _
        refine XS.iconst X4.here hx rfl (hb hby d1_21) ?_
        show Steps p.tables e below (T4.setTop (mkF m 22 #[rv a1_0, .val (.long oc), .second] [(.int (1 : Int32))])) _
        refine XS.goto X4.here hx rfl (pc0 := 22) (pc' := 26) rfl (hb hby d1_22) (by decide) (by decide) ?_
        show Steps p.tables e below (T4.setTop (mkF m 26 #[rv a1_0, .val (.long oc), .second] [(.int (1 : Int32))])) _
        exact retN X4 hx (t := .boolean) Bd.returns (by simp) (hb hby d1_26) hr
      · show Q_rm1 Z _ _ _ h0 n0 _ T4.heap _
        rw [e4]
        exact ⟨(by first | rfl | (simp [*]; done) | (simp_all; done)), N0, rfl⟩
    · skip
      obtain ⟨fs, hr, hrun, hended, hW, hsame⟩ := X4.leave (v := some (.int (0 : Int32))) (fun h => by rw [Bd.returns] at h; cases h)
      refine ⟨_, _, pre6 _ ?_, hrun, hended, _, _, rfl, ?_, ⟨_, rfl⟩, hW, hsame.mono (by decide) (by decide)⟩
      · show Steps p.tables e below (T4.setTop (mkF m 18 #[rv a1_0, .val (.long oc), .second] [(.int (lcmpW ((oc >>> (ob &&& 0x3f).toInt64) &&& (1 : Int64)) (1 : Int64)))])) _
        refine XS.ifYes X4.here hx rfl (pc0 := 18) (pc' := 25) rfl (hb hby d1_18) rfl ((if0 _ _).trans (feq hc18_5).2) (by decide) (by decide) ?_
        show Steps p.tables e below (T4.setTop (mkF m 25 #[rv a1_0, .val (.long oc), .second] [])) _
        refine XS.iconst X4.here hx rfl (hb hby d1_25) ?_
        show Steps p.tables e below (T4.setTop (mkF m 26 #[rv a1_0, .val (.long oc), .second] [(.int (0 : Int32))])) _
        exact retN X4 hx (t := .boolean) Bd.returns (by simp) (hb hby d1_26) hr
      · show Q_rm1 Z _ _ _ h0 n0 _ T4.heap _
        rw [e4]
        exact ⟨(by first | rfl | (simp [*]; done) | (simp_all; done)), N0, rfl⟩
theorem own_nat (n k : Nat) : (n &&& 2 ^ k = 0) ↔ (n / 2 ^ k) % 2 = 0 := by
  constructor
  · intro h
    have : (n &&& 2 ^ k).testBit k = false := by rw [h]; simp
    rw [Nat.testBit_and, Nat.testBit_two_pow_self, Bool.and_true, Nat.testBit_eq_decide_div_mod_eq] at this
    have := of_decide_eq_false this
    omega
  · intro h
    apply Nat.eq_of_testBit_eq
    intro i
    rw [Nat.testBit_and, Nat.zero_testBit, Nat.testBit_two_pow]
    by_cases e : k = i
    · subst e
      rw [Nat.testBit_eq_decide_div_mod_eq]
      simp [h]
    · simp [e]
theorem own_pow (x : Int64) (m : Int64) (k : Nat) (hm : m.toBitVec.toNat = 2 ^ k) : (x &&& m = 0) ↔ (x.toBitVec.toNat / 2 ^ k) % 2 = 0 := by
  have e1 : (x &&& m).toBitVec.toNat = x.toBitVec.toNat &&& 2 ^ k := by
    show (x.toBitVec &&& m.toBitVec).toNat = _
    rw [BitVec.toNat_and, hm]
  have e2 : (x &&& m = 0) ↔ (x &&& m).toBitVec.toNat = 0 := by
    rw [← Int64.toBitVec_inj, ← BitVec.toNat_inj]; rfl
  rw [e2, e1, own_nat]
theorem own_tn (x : Int64) : (x.toBitVec.toNat : Int) = x.toInt % 18446744073709551616 := by
  have h := BitVec.toInt_eq_toNat_bmod x.toBitVec
  show (x.toBitVec.toNat : Int) = x.toBitVec.toInt % 18446744073709551616
  have h2 := x.toBitVec.isLt
  have h3 := bm64 (x.toBitVec.toNat : Int)
  rw [h]
  omega
theorem own_bit0 (x : Int64) : (lcmpW ((x >>> ((0 : Int32) &&& 0x3f).toInt64) &&& (1 : Int64)) (1 : Int64)) = (0 : Int32) ↔ ¬ (lcmpW (x &&& (1 : Int64)) (0 : Int64)) = (0 : Int32) := by
  rw [lw_eq, lw_eq]
  have e1 := c_lshr x 0 0 (by decide)
  have e2 := c_maskL (x >>> ((0 : Int32) &&& 0x3f).toInt64) 1 1 (by decide) (by decide)
  have e3 := own_pow x 1 0 (by decide)
  have e4 := own_tn x
  rw [e3, ← Int64.toInt_inj, e2, e1]
  simp only [Int64.reduceToInt]
  omega
theorem own_bit1 (x : Int64) : (lcmpW ((x >>> ((1 : Int32) &&& 0x3f).toInt64) &&& (1 : Int64)) (1 : Int64)) = (0 : Int32) ↔ ¬ (lcmpW (x &&& (2 : Int64)) (0 : Int64)) = (0 : Int32) := by
  rw [lw_eq, lw_eq]
  have e1 := c_lshr x 1 1 (by decide)
  have e2 := c_maskL (x >>> ((1 : Int32) &&& 0x3f).toInt64) 1 1 (by decide) (by decide)
  have e3 := own_pow x 2 1 (by decide)
  have e4 := own_tn x
  rw [e3, ← Int64.toInt_inj, e2, e1]
  simp only [Int64.reduceToInt]
  omega
theorem own_bit2 (x : Int64) : (lcmpW ((x >>> ((2 : Int32) &&& 0x3f).toInt64) &&& (1 : Int64)) (1 : Int64)) = (0 : Int32) ↔ ¬ (lcmpW (x &&& (4 : Int64)) (0 : Int64)) = (0 : Int32) := by
  rw [lw_eq, lw_eq]
  have e1 := c_lshr x 2 2 (by decide)
  have e2 := c_maskL (x >>> ((2 : Int32) &&& 0x3f).toInt64) 1 1 (by decide) (by decide)
  have e3 := own_pow x 4 2 (by decide)
  have e4 := own_tn x
  rw [e3, ← Int64.toInt_inj, e2, e1]
  simp only [Int64.reduceToInt]
  omega
theorem own_bit3 (x : Int64) : (lcmpW ((x >>> ((3 : Int32) &&& 0x3f).toInt64) &&& (1 : Int64)) (1 : Int64)) = (0 : Int32) ↔ ¬ (lcmpW (x &&& (8 : Int64)) (0 : Int64)) = (0 : Int32) := by
  rw [lw_eq, lw_eq]
  have e1 := c_lshr x 3 3 (by decide)
  have e2 := c_maskL (x >>> ((3 : Int32) &&& 0x3f).toInt64) 1 1 (by decide) (by decide)
  have e3 := own_pow x 8 3 (by decide)
  have e4 := own_tn x
  rw [e3, ← Int64.toInt_inj, e2, e1]
  simp only [Int64.reduceToInt]
  omega
theorem own_bit4 (x : Int64) : (lcmpW ((x >>> ((4 : Int32) &&& 0x3f).toInt64) &&& (1 : Int64)) (1 : Int64)) = (0 : Int32) ↔ ¬ (lcmpW (x &&& (16 : Int64)) (0 : Int64)) = (0 : Int32) := by
  rw [lw_eq, lw_eq]
  have e1 := c_lshr x 4 4 (by decide)
  have e2 := c_maskL (x >>> ((4 : Int32) &&& 0x3f).toInt64) 1 1 (by decide) (by decide)
  have e3 := own_pow x 16 4 (by decide)
  have e4 := own_tn x
  rw [e3, ← Int64.toInt_inj, e2, e1]
  simp only [Int64.reduceToInt]
  omega
theorem own_bit5 (x : Int64) : (lcmpW ((x >>> ((5 : Int32) &&& 0x3f).toInt64) &&& (1 : Int64)) (1 : Int64)) = (0 : Int32) ↔ ¬ (lcmpW (x &&& (32 : Int64)) (0 : Int64)) = (0 : Int32) := by
  rw [lw_eq, lw_eq]
  have e1 := c_lshr x 5 5 (by decide)
  have e2 := c_maskL (x >>> ((5 : Int32) &&& 0x3f).toInt64) 1 1 (by decide) (by decide)
  have e3 := own_pow x 32 5 (by decide)
  have e4 := own_tn x
  rw [e3, ← Int64.toInt_inj, e2, e1]
  simp only [Int64.reduceToInt]
  omega
theorem pd_0 : parseMethodDescriptor "(J)Z" = some ⟨[.long], some .boolean⟩ := by decide +kernel
theorem pn_com_example_unand_unand_model_CommandSupportedByPinLaw : plainName "com/example/unand/unand/model/CommandSupportedByPinLaw" = true := by first | (simp [plainName, overriddenIn]; done) | decide +kernel
theorem ef_rm0 (m : MethodId) (x0 : Int32) (x1 : Int64) : entryFrame m #[(.int x0), (.long x1)] maxLocals = mkF m 0 #[iv x0, .val (.long x1), .second, .unset, .unset, .unset, .unset, .unset] [] := by first | (simp [entryFrame, mkF, argsToLocals, Value.category, maxLocals]; done) | rfl
def Q_rm0 (Z : State) (p0_0 : Int32) (oc : Int64) (s_READ : Addr) (s_COPYBACK_READ : Addr) (s_CHANGE_READ_COLUMN : Addr) (s_READ_CACHE : Addr) (s_READ_CACHE_END : Addr) (s_BLOCK_ERASE : Addr) (s_READ_STATUS : Addr) (s_READ_STATUS_ENHANCED : Addr) (s_PAGE_PROGRAM : Addr) (s_PAGE_CACHE_PROGRAM : Addr) (s_CHANGE_WRITE_COLUMN : Addr) (s_READ_ID : Addr) (s_READ_PARAMETER_PAGE : Addr) (s_READ_UNIQUE_ID : Addr) (s_GET_FEATURES : Addr) (s_SET_FEATURES : Addr) (s_RESET : Addr) (h0 : Heap) (n0 : Nat) (v : Option Value) (h : Heap) (L : List Loc) : Prop := v = some (.int (1 : Int32)) ∧ Fr n0 L ∧ Keep h0 h []
set_option maxRecDepth 65536 in
set_option maxHeartbeats 40000000 in
theorem rm0 (l : Launch) (Z : State) (a0 : Array Value) (hw : ∀ d ∈ tables_1, d.before a0 Z = true) (ws : List Jvm.Cond) (p0_0 : Int32) (oc : Int64) (s_READ : Addr) (s_COPYBACK_READ : Addr) (s_CHANGE_READ_COLUMN : Addr) (s_READ_CACHE : Addr) (s_READ_CACHE_END : Addr) (s_BLOCK_ERASE : Addr) (s_READ_STATUS : Addr) (s_READ_STATUS_ENHANCED : Addr) (s_PAGE_PROGRAM : Addr) (s_PAGE_CACHE_PROGRAM : Addr) (s_CHANGE_WRITE_COLUMN : Addr) (s_READ_ID : Addr) (s_READ_PARAMETER_PAGE : Addr) (s_READ_UNIQUE_ID : Addr) (s_GET_FEATURES : Addr) (s_SET_FEATURES : Addr) (s_RESET : Addr) (h0 : Heap) (n0 : Nat) (Z0 : n0 ≤ h0.size) (pf_O : Old Z n0 h0) (pf_S_com_example_unand_unand_model_Command_READ : Sta Z Z.heap "com/example/unand/unand/model/Command" "READ" "Lcom/example/unand/unand/model/Command;" (.ref s_READ)) (pf_E_s_READ : Exa Z h0 s_READ "com/example/unand/unand/model/Command") (pf_S_com_example_unand_unand_model_Command_COPYBACK_READ : Sta Z Z.heap "com/example/unand/unand/model/Command" "COPYBACK_READ" "Lcom/example/unand/unand/model/Command;" (.ref s_COPYBACK_READ)) (pf_E_s_COPYBACK_READ : Exa Z h0 s_COPYBACK_READ "com/example/unand/unand/model/Command") (pf_S_com_example_unand_unand_model_Command_CHANGE_READ_COLUMN : Sta Z Z.heap "com/example/unand/unand/model/Command" "CHANGE_READ_COLUMN" "Lcom/example/unand/unand/model/Command;" (.ref s_CHANGE_READ_COLUMN)) (pf_E_s_CHANGE_READ_COLUMN : Exa Z h0 s_CHANGE_READ_COLUMN "com/example/unand/unand/model/Command") (pf_S_com_example_unand_unand_model_Command_READ_CACHE : Sta Z Z.heap "com/example/unand/unand/model/Command" "READ_CACHE" "Lcom/example/unand/unand/model/Command;" (.ref s_READ_CACHE)) (pf_E_s_READ_CACHE : Exa Z h0 s_READ_CACHE "com/example/unand/unand/model/Command") (pf_S_com_example_unand_unand_model_Command_READ_CACHE_END : Sta Z Z.heap "com/example/unand/unand/model/Command" "READ_CACHE_END" "Lcom/example/unand/unand/model/Command;" (.ref s_READ_CACHE_END)) (pf_E_s_READ_CACHE_END : Exa Z h0 s_READ_CACHE_END "com/example/unand/unand/model/Command") (pf_S_com_example_unand_unand_model_Command_BLOCK_ERASE : Sta Z Z.heap "com/example/unand/unand/model/Command" "BLOCK_ERASE" "Lcom/example/unand/unand/model/Command;" (.ref s_BLOCK_ERASE)) (pf_E_s_BLOCK_ERASE : Exa Z h0 s_BLOCK_ERASE "com/example/unand/unand/model/Command") (pf_S_com_example_unand_unand_model_Command_READ_STATUS : Sta Z Z.heap "com/example/unand/unand/model/Command" "READ_STATUS" "Lcom/example/unand/unand/model/Command;" (.ref s_READ_STATUS)) (pf_E_s_READ_STATUS : Exa Z h0 s_READ_STATUS "com/example/unand/unand/model/Command") (pf_S_com_example_unand_unand_model_Command_READ_STATUS_ENHANCED : Sta Z Z.heap "com/example/unand/unand/model/Command" "READ_STATUS_ENHANCED" "Lcom/example/unand/unand/model/Command;" (.ref s_READ_STATUS_ENHANCED)) (pf_E_s_READ_STATUS_ENHANCED : Exa Z h0 s_READ_STATUS_ENHANCED "com/example/unand/unand/model/Command") (pf_S_com_example_unand_unand_model_Command_PAGE_PROGRAM : Sta Z Z.heap "com/example/unand/unand/model/Command" "PAGE_PROGRAM" "Lcom/example/unand/unand/model/Command;" (.ref s_PAGE_PROGRAM)) (pf_E_s_PAGE_PROGRAM : Exa Z h0 s_PAGE_PROGRAM "com/example/unand/unand/model/Command") (pf_S_com_example_unand_unand_model_Command_PAGE_CACHE_PROGRAM : Sta Z Z.heap "com/example/unand/unand/model/Command" "PAGE_CACHE_PROGRAM" "Lcom/example/unand/unand/model/Command;" (.ref s_PAGE_CACHE_PROGRAM)) (pf_E_s_PAGE_CACHE_PROGRAM : Exa Z h0 s_PAGE_CACHE_PROGRAM "com/example/unand/unand/model/Command") (pf_S_com_example_unand_unand_model_Command_CHANGE_WRITE_COLUMN : Sta Z Z.heap "com/example/unand/unand/model/Command" "CHANGE_WRITE_COLUMN" "Lcom/example/unand/unand/model/Command;" (.ref s_CHANGE_WRITE_COLUMN)) (pf_E_s_CHANGE_WRITE_COLUMN : Exa Z h0 s_CHANGE_WRITE_COLUMN "com/example/unand/unand/model/Command") (pf_S_com_example_unand_unand_model_Command_READ_ID : Sta Z Z.heap "com/example/unand/unand/model/Command" "READ_ID" "Lcom/example/unand/unand/model/Command;" (.ref s_READ_ID)) (pf_E_s_READ_ID : Exa Z h0 s_READ_ID "com/example/unand/unand/model/Command") (pf_S_com_example_unand_unand_model_Command_READ_PARAMETER_PAGE : Sta Z Z.heap "com/example/unand/unand/model/Command" "READ_PARAMETER_PAGE" "Lcom/example/unand/unand/model/Command;" (.ref s_READ_PARAMETER_PAGE)) (pf_E_s_READ_PARAMETER_PAGE : Exa Z h0 s_READ_PARAMETER_PAGE "com/example/unand/unand/model/Command") (pf_S_com_example_unand_unand_model_Command_READ_UNIQUE_ID : Sta Z Z.heap "com/example/unand/unand/model/Command" "READ_UNIQUE_ID" "Lcom/example/unand/unand/model/Command;" (.ref s_READ_UNIQUE_ID)) (pf_E_s_READ_UNIQUE_ID : Exa Z h0 s_READ_UNIQUE_ID "com/example/unand/unand/model/Command") (pf_S_com_example_unand_unand_model_Command_GET_FEATURES : Sta Z Z.heap "com/example/unand/unand/model/Command" "GET_FEATURES" "Lcom/example/unand/unand/model/Command;" (.ref s_GET_FEATURES)) (pf_E_s_GET_FEATURES : Exa Z h0 s_GET_FEATURES "com/example/unand/unand/model/Command") (pf_S_com_example_unand_unand_model_Command_SET_FEATURES : Sta Z Z.heap "com/example/unand/unand/model/Command" "SET_FEATURES" "Lcom/example/unand/unand/model/Command;" (.ref s_SET_FEATURES)) (pf_E_s_SET_FEATURES : Exa Z h0 s_SET_FEATURES "com/example/unand/unand/model/Command") (pf_S_com_example_unand_unand_model_Command_RESET : Sta Z Z.heap "com/example/unand/unand/model/Command" "RESET" "Lcom/example/unand/unand/model/Command;" (.ref s_RESET)) (pf_E_s_RESET : Exa Z h0 s_RESET "com/example/unand/unand/model/Command") (pf_F_s_READ_optionalBit : Fld Z h0 s_READ "com/example/unand/unand/model/Command" "optionalBit" "I" (.int (-1 : Int32))) (pf_F_s_COPYBACK_READ_optionalBit : Fld Z h0 s_COPYBACK_READ "com/example/unand/unand/model/Command" "optionalBit" "I" (.int (4 : Int32))) (pf_F_s_READ_STATUS_optionalBit : Fld Z h0 s_READ_STATUS "com/example/unand/unand/model/Command" "optionalBit" "I" (.int (-1 : Int32))) (pf_F_s_CHANGE_WRITE_COLUMN_optionalBit : Fld Z h0 s_CHANGE_WRITE_COLUMN "com/example/unand/unand/model/Command" "optionalBit" "I" (.int (-1 : Int32))) (pf_F_s_READ_CACHE_END_optionalBit : Fld Z h0 s_READ_CACHE_END "com/example/unand/unand/model/Command" "optionalBit" "I" (.int (1 : Int32))) (pf_F_s_READ_STATUS_ENHANCED_optionalBit : Fld Z h0 s_READ_STATUS_ENHANCED "com/example/unand/unand/model/Command" "optionalBit" "I" (.int (3 : Int32))) (pf_F_s_READ_CACHE_optionalBit : Fld Z h0 s_READ_CACHE "com/example/unand/unand/model/Command" "optionalBit" "I" (.int (1 : Int32))) (pf_F_s_RESET_optionalBit : Fld Z h0 s_RESET "com/example/unand/unand/model/Command" "optionalBit" "I" (.int (-1 : Int32))) (pf_F_s_READ_PARAMETER_PAGE_optionalBit : Fld Z h0 s_READ_PARAMETER_PAGE "com/example/unand/unand/model/Command" "optionalBit" "I" (.int (-1 : Int32))) (pf_F_s_CHANGE_READ_COLUMN_optionalBit : Fld Z h0 s_CHANGE_READ_COLUMN "com/example/unand/unand/model/Command" "optionalBit" "I" (.int (-1 : Int32))) (pf_F_s_BLOCK_ERASE_optionalBit : Fld Z h0 s_BLOCK_ERASE "com/example/unand/unand/model/Command" "optionalBit" "I" (.int (-1 : Int32))) (pf_F_s_READ_UNIQUE_ID_optionalBit : Fld Z h0 s_READ_UNIQUE_ID "com/example/unand/unand/model/Command" "optionalBit" "I" (.int (5 : Int32))) (pf_F_s_GET_FEATURES_optionalBit : Fld Z h0 s_GET_FEATURES "com/example/unand/unand/model/Command" "optionalBit" "I" (.int (2 : Int32))) (pf_F_s_PAGE_PROGRAM_optionalBit : Fld Z h0 s_PAGE_PROGRAM "com/example/unand/unand/model/Command" "optionalBit" "I" (.int (-1 : Int32))) (pf_F_s_PAGE_CACHE_PROGRAM_optionalBit : Fld Z h0 s_PAGE_CACHE_PROGRAM "com/example/unand/unand/model/Command" "optionalBit" "I" (.int (0 : Int32))) (pf_F_s_SET_FEATURES_optionalBit : Fld Z h0 s_SET_FEATURES "com/example/unand/unand/model/Command" "optionalBit" "I" (.int (2 : Int32))) (pf_F_s_READ_ID_optionalBit : Fld Z h0 s_READ_ID "com/example/unand/unand/model/Command" "optionalBit" "I" (.int (-1 : Int32))) :
    MetFree l x (head1 (Jvm.Cond.code x code maxLocals ret :: ws) room_1) (fun a U => a = #[(.int p0_0), (.long oc)] ∧ Z.Warmed39 U.vm ∧ U.heap = h0) (fun _ _ _ _ _ => True) (fun _ U o U' => ∃ v L, o = .returned v ∧ Q_rm0 Z p0_0 oc s_READ s_COPYBACK_READ s_CHANGE_READ_COLUMN s_READ_CACHE s_READ_CACHE_END s_BLOCK_ERASE s_READ_STATUS s_READ_STATUS_ENHANCED s_PAGE_PROGRAM s_PAGE_CACHE_PROGRAM s_CHANGE_WRITE_COLUMN s_READ_ID s_READ_PARAMETER_PAGE s_READ_UNIQUE_ID s_GET_FEATURES s_SET_FEATURES s_RESET h0 n0 v U'.heap L ∧ FrameEnd U o U' L room_1.cells room_1.slots) := by
  refine MetFree.of_bodySF (plainFor_of_name pn_com_example_unand_unand_model_CommandSupportedByPinLaw) hisR ?_
  intro p e s m args below meth c s₁ Bd hml0 hP hK
  obtain ⟨rfl, hZ, hh⟩ := hP
  have hx := Bd.exec
  have hby := Bd.bytes
  have hml : c.maxLocals = 8 := hml0
  have hown : s.vm.findClass "com/example/unand/unand/model/CommandSupportedByPinLaw" = some m.cls := findClass_of_methodNamed Bd.named
  have hnm := (name_of_methodNamed Bd.named Bd.method).1
  have X0 : Stand p l e room_1 s m #[(.int p0_0), (.long oc)] below meth c s₁ [] 0 0 := Stand.of_body Bd
  have e0 : s₁.heap = h0 := by rw [← hh, Bd.state]; rfl
  have N0 := Fr.nil n0
  have pre0 : ∀ t, Steps p.tables e below (s₁.setTop (mkF m 0 #[iv p0_0, .val (.long oc), .second, .unset, .unset, .unset, .unset, .unset] [])) t → Steps p.tables e below (s₁.setTop (entryFrame m #[(.int p0_0), (.long oc)] maxLocals)) t := fun t k => castTop (ef_rm0 m p0_0 oc) k
  have wo0 := hw _ (List.mem_of_getElem? (i := 0) rfl)
  have wo1 := hw _ (List.mem_of_getElem? (i := 1) rfl)
  have wo2 := hw _ (List.mem_of_getElem? (i := 2) rfl)
  have wo3 := hw _ (List.mem_of_getElem? (i := 3) rfl)
  have wo6 := hw _ (List.mem_of_getElem? (i := 6) rfl)
  have wo8 := hw _ (List.mem_of_getElem? (i := 8) rfl)
  have wo10 := hw _ (List.mem_of_getElem? (i := 10) rfl)
  have wo12 := hw _ (List.mem_of_getElem? (i := 12) rfl)
  have wo14 := hw _ (List.mem_of_getElem? (i := 14) rfl)
  have wo16 := hw _ (List.mem_of_getElem? (i := 16) rfl)
  have wo18 := hw _ (List.mem_of_getElem? (i := 18) rfl)
  have wo20 := hw _ (List.mem_of_getElem? (i := 20) rfl)
  have wo22 := hw _ (List.mem_of_getElem? (i := 22) rfl)
  have wo24 := hw _ (List.mem_of_getElem? (i := 24) rfl)
  have wo26 := hw _ (List.mem_of_getElem? (i := 26) rfl)
  have wo28 := hw _ (List.mem_of_getElem? (i := 28) rfl)
  have wo30 := hw _ (List.mem_of_getElem? (i := 30) rfl)
  have wo32 := hw _ (List.mem_of_getElem? (i := 32) rfl)
  have wo34 := hw _ (List.mem_of_getElem? (i := 34) rfl)
  have wo36 := hw _ (List.mem_of_getElem? (i := 36) rfl)
  have wo38 := hw _ (List.mem_of_getElem? (i := 38) rfl)
  have wo39 := hw _ (List.mem_of_getElem? (i := 39) rfl)
  have wo40 := hw _ (List.mem_of_getElem? (i := 40) rfl)
  have wo41 := hw _ (List.mem_of_getElem? (i := 41) rfl)
  have wo42 := hw _ (List.mem_of_getElem? (i := 42) rfl)
  have wo43 := hw _ (List.mem_of_getElem? (i := 43) rfl)
  have wo44 := hw _ (List.mem_of_getElem? (i := 44) rfl)
  obtain ⟨T1, h1, k1, X1, e1, E1, A1, O1, st1⟩ := newR X0 hx hZ hown wo0 wo1 e0 (g := (mkF m 2 #[iv p0_0, .val (.long oc), .second, .unset, .unset, .unset, .unset, .unset] [(.int (17 : Int32))])) rfl (hb hby at_2) rfl (by decide) (cap := 17) (by decide) (by decide) (by decide) (by decide)
  obtain ⟨b1, gg1⟩ : ∃ z, z = h0.size := ⟨_, rfl⟩
  rw [← gg1] at A1 st1
  have ne2 : s_READ ≠ b1 := Nat.ne_of_lt (Nat.lt_of_lt_of_le pf_E_s_READ.lt (Nat.le_of_eq gg1.symm))
  have ne3 : s_COPYBACK_READ ≠ b1 := Nat.ne_of_lt (Nat.lt_of_lt_of_le pf_E_s_COPYBACK_READ.lt (Nat.le_of_eq gg1.symm))
  have ne4 : s_CHANGE_READ_COLUMN ≠ b1 := Nat.ne_of_lt (Nat.lt_of_lt_of_le pf_E_s_CHANGE_READ_COLUMN.lt (Nat.le_of_eq gg1.symm))
  have ne5 : s_READ_CACHE ≠ b1 := Nat.ne_of_lt (Nat.lt_of_lt_of_le pf_E_s_READ_CACHE.lt (Nat.le_of_eq gg1.symm))
  have ne6 : s_READ_CACHE_END ≠ b1 := Nat.ne_of_lt (Nat.lt_of_lt_of_le pf_E_s_READ_CACHE_END.lt (Nat.le_of_eq gg1.symm))
  have ne7 : s_BLOCK_ERASE ≠ b1 := Nat.ne_of_lt (Nat.lt_of_lt_of_le pf_E_s_BLOCK_ERASE.lt (Nat.le_of_eq gg1.symm))
  have ne8 : s_READ_STATUS ≠ b1 := Nat.ne_of_lt (Nat.lt_of_lt_of_le pf_E_s_READ_STATUS.lt (Nat.le_of_eq gg1.symm))
  have ne9 : s_READ_STATUS_ENHANCED ≠ b1 := Nat.ne_of_lt (Nat.lt_of_lt_of_le pf_E_s_READ_STATUS_ENHANCED.lt (Nat.le_of_eq gg1.symm))
  have ne10 : s_PAGE_PROGRAM ≠ b1 := Nat.ne_of_lt (Nat.lt_of_lt_of_le pf_E_s_PAGE_PROGRAM.lt (Nat.le_of_eq gg1.symm))
  have ne11 : s_PAGE_CACHE_PROGRAM ≠ b1 := Nat.ne_of_lt (Nat.lt_of_lt_of_le pf_E_s_PAGE_CACHE_PROGRAM.lt (Nat.le_of_eq gg1.symm))
  have ne12 : s_CHANGE_WRITE_COLUMN ≠ b1 := Nat.ne_of_lt (Nat.lt_of_lt_of_le pf_E_s_CHANGE_WRITE_COLUMN.lt (Nat.le_of_eq gg1.symm))
  have ne13 : s_READ_ID ≠ b1 := Nat.ne_of_lt (Nat.lt_of_lt_of_le pf_E_s_READ_ID.lt (Nat.le_of_eq gg1.symm))
  have ne14 : s_READ_PARAMETER_PAGE ≠ b1 := Nat.ne_of_lt (Nat.lt_of_lt_of_le pf_E_s_READ_PARAMETER_PAGE.lt (Nat.le_of_eq gg1.symm))
  have ne15 : s_READ_UNIQUE_ID ≠ b1 := Nat.ne_of_lt (Nat.lt_of_lt_of_le pf_E_s_READ_UNIQUE_ID.lt (Nat.le_of_eq gg1.symm))
  have ne16 : s_GET_FEATURES ≠ b1 := Nat.ne_of_lt (Nat.lt_of_lt_of_le pf_E_s_GET_FEATURES.lt (Nat.le_of_eq gg1.symm))
  have ne17 : s_SET_FEATURES ≠ b1 := Nat.ne_of_lt (Nat.lt_of_lt_of_le pf_E_s_SET_FEATURES.lt (Nat.le_of_eq gg1.symm))
  have ne18 : s_RESET ≠ b1 := Nat.ne_of_lt (Nat.lt_of_lt_of_le pf_E_s_RESET.lt (Nat.le_of_eq gg1.symm))
  have g19 : n0 ≤ b1 := Nat.le_trans Z0 (Nat.le_of_eq gg1.symm)
  have bz20 : h0.size ≤ b1 := Nat.le_trans (Keep.refl h0 []).1 (Nat.le_of_eq gg1.symm)
  have K22 : Keep h0 h1 [] := (Keep.refl h0 []).ext E1
  have f21 : Arv Z h1 b1 k1 (.object "com/example/unand/unand/model/Command") (17 : Int32) [.null, .null, .null, .null, .null, .null, .null, .null, .null, .null, .null, .null, .null, .null, .null, .null, .null] .null := (Arv.new A1 (by decide)).pad (pad_rep [] .null 17)
  have f23 := (pf_O.ext E1)
  obtain ⟨T24, X24, e24, st24⟩ := getS2 X1 hx hZ hown (host := "") (Or.inl wo2) Via.refl e1 (pf_S_com_example_unand_unand_model_Command_READ.ext f23.2) (g := (mkF m 7 #[iv p0_0, .val (.long oc), .second, .unset, .unset, .unset, .unset, .unset] [(.int (0 : Int32)), (.ref b1), (.ref b1)])) rfl (hb hby at_7)
  have f25 := (pf_E_s_READ.ext E1)
  obtain ⟨cl26, Ar26, qq26, Sz26, Nn26, Hs26, Gf26⟩ := id f21
  have hin27 : ¬ ((0 : Int32) < 0 ∨ cl26.slots.size ≤ ((0 : Int32)).toNatClampNeg) := inb_of Sz26 ⟨by decide, by decide⟩
  obtain ⟨T28, h28, X28, e28, W28, st28⟩ := stR X24 hx hZ e24 Ar26 (j := (0 : Int32)) hin27 rfl (Sto.ofV Ar26 qq26 O1 (Ins.self f25)) (g := (mkF m 10 #[iv p0_0, .val (.long oc), .second, .unset, .unset, .unset, .unset, .unset] [(.ref s_READ), (.int (0 : Int32)), (.ref b1), (.ref b1)])) rfl rfl (hb hby at_10)
  have K29 : Keep h0 h28 [] := (K22).wr W28 (Or.inr bz20)
  have f30 : Arv Z h28 b1 k1 (.object "com/example/unand/unand/model/Command") (17 : Int32) [(.ref s_READ), .null, .null, .null, .null, .null, .null, .null, .null, .null, .null, .null, .null, .null, .null, .null, .null] .null := Arv.set Ar26 qq26 Sz26 Nn26 Hs26 Gf26 rfl W28 0 rfl (Nat.le_of_ble_eq_true rfl)
  have N31 := Fr.snoc X28 N0 g19
  have f32 := (f23.wr W28 g19)
  obtain ⟨T33, X33, e33, st33⟩ := getS2 X28 hx hZ hown (host := "") (Or.inl wo6) Via.refl e28 (pf_S_com_example_unand_unand_model_Command_COPYBACK_READ.ext f32.2) (g := (mkF m 13 #[iv p0_0, .val (.long oc), .second, .unset, .unset, .unset, .unset, .unset] [(.int (1 : Int32)), (.ref b1), (.ref b1)])) rfl (hb hby at_13)
  have f34 := ((pf_E_s_COPYBACK_READ.ext E1).wr W28)
  obtain ⟨cl35, Ar35, qq35, Sz35, Nn35, Hs35, Gf35⟩ := id f30
  have hin36 : ¬ ((1 : Int32) < 0 ∨ cl35.slots.size ≤ ((1 : Int32)).toNatClampNeg) := inb_of Sz35 ⟨by decide, by decide⟩
  obtain ⟨T37, h37, X37, e37, W37, st37⟩ := stR X33 hx hZ e33 Ar35 (j := (1 : Int32)) hin36 rfl (Sto.ofV Ar35 qq35 O1 (Ins.self f34)) (g := (mkF m 16 #[iv p0_0, .val (.long oc), .second, .unset, .unset, .unset, .unset, .unset] [(.ref s_COPYBACK_READ), (.int (1 : Int32)), (.ref b1), (.ref b1)])) rfl rfl (hb hby at_16)
  have K38 : Keep h0 h37 [] := (K29).wr W37 (Or.inr bz20)
  have f39 : Arv Z h37 b1 k1 (.object "com/example/unand/unand/model/Command") (17 : Int32) [(.ref s_READ), (.ref s_COPYBACK_READ), .null, .null, .null, .null, .null, .null, .null, .null, .null, .null, .null, .null, .null, .null, .null] .null := Arv.set Ar35 qq35 Sz35 Nn35 Hs35 Gf35 rfl W37 1 rfl (Nat.le_of_ble_eq_true rfl)
  have N40 := Fr.snoc X37 N31 g19
  have f41 := (f32.wr W37 g19)
  obtain ⟨T42, X42, e42, st42⟩ := getS2 X37 hx hZ hown (host := "") (Or.inl wo8) Via.refl e37 (pf_S_com_example_unand_unand_model_Command_CHANGE_READ_COLUMN.ext f41.2) (g := (mkF m 19 #[iv p0_0, .val (.long oc), .second, .unset, .unset, .unset, .unset, .unset] [(.int (2 : Int32)), (.ref b1), (.ref b1)])) rfl (hb hby at_19)
  have f43 := (((pf_E_s_CHANGE_READ_COLUMN.ext E1).wr W28).wr W37)
  obtain ⟨cl44, Ar44, qq44, Sz44, Nn44, Hs44, Gf44⟩ := id f39
  have hin45 : ¬ ((2 : Int32) < 0 ∨ cl44.slots.size ≤ ((2 : Int32)).toNatClampNeg) := inb_of Sz44 ⟨by decide, by decide⟩
  obtain ⟨T46, h46, X46, e46, W46, st46⟩ := stR X42 hx hZ e42 Ar44 (j := (2 : Int32)) hin45 rfl (Sto.ofV Ar44 qq44 O1 (Ins.self f43)) (g := (mkF m 22 #[iv p0_0, .val (.long oc), .second, .unset, .unset, .unset, .unset, .unset] [(.ref s_CHANGE_READ_COLUMN), (.int (2 : Int32)), (.ref b1), (.ref b1)])) rfl rfl (hb hby at_22)
  have K47 : Keep h0 h46 [] := (K38).wr W46 (Or.inr bz20)
  have f48 : Arv Z h46 b1 k1 (.object "com/example/unand/unand/model/Command") (17 : Int32) [(.ref s_READ), (.ref s_COPYBACK_READ), (.ref s_CHANGE_READ_COLUMN), .null, .null, .null, .null, .null, .null, .null, .null, .null, .null, .null, .null, .null, .null] .null := Arv.set Ar44 qq44 Sz44 Nn44 Hs44 Gf44 rfl W46 2 rfl (Nat.le_of_ble_eq_true rfl)
  have N49 := Fr.snoc X46 N40 g19
  have f50 := (f41.wr W46 g19)
  obtain ⟨T51, X51, e51, st51⟩ := getS2 X46 hx hZ hown (host := "") (Or.inl wo10) Via.refl e46 (pf_S_com_example_unand_unand_model_Command_READ_CACHE.ext f50.2) (g := (mkF m 25 #[iv p0_0, .val (.long oc), .second, .unset, .unset, .unset, .unset, .unset] [(.int (3 : Int32)), (.ref b1), (.ref b1)])) rfl (hb hby at_25)
  have f52 := ((((pf_E_s_READ_CACHE.ext E1).wr W28).wr W37).wr W46)
  obtain ⟨cl53, Ar53, qq53, Sz53, Nn53, Hs53, Gf53⟩ := id f48
  have hin54 : ¬ ((3 : Int32) < 0 ∨ cl53.slots.size ≤ ((3 : Int32)).toNatClampNeg) := inb_of Sz53 ⟨by decide, by decide⟩
  obtain ⟨T55, h55, X55, e55, W55, st55⟩ := stR X51 hx hZ e51 Ar53 (j := (3 : Int32)) hin54 rfl (Sto.ofV Ar53 qq53 O1 (Ins.self f52)) (g := (mkF m 28 #[iv p0_0, .val (.long oc), .second, .unset, .unset, .unset, .unset, .unset] [(.ref s_READ_CACHE), (.int (3 : Int32)), (.ref b1), (.ref b1)])) rfl rfl (hb hby at_28)
  have K56 : Keep h0 h55 [] := (K47).wr W55 (Or.inr bz20)
  have f57 : Arv Z h55 b1 k1 (.object "com/example/unand/unand/model/Command") (17 : Int32) [(.ref s_READ), (.ref s_COPYBACK_READ), (.ref s_CHANGE_READ_COLUMN), (.ref s_READ_CACHE), .null, .null, .null, .null, .null, .null, .null, .null, .null, .null, .null, .null, .null] .null := Arv.set Ar53 qq53 Sz53 Nn53 Hs53 Gf53 rfl W55 3 rfl (Nat.le_of_ble_eq_true rfl)
  have N58 := Fr.snoc X55 N49 g19
  have f59 := (f50.wr W55 g19)
  obtain ⟨T60, X60, e60, st60⟩ := getS2 X55 hx hZ hown (host := "") (Or.inl wo12) Via.refl e55 (pf_S_com_example_unand_unand_model_Command_READ_CACHE_END.ext f59.2) (g := (mkF m 31 #[iv p0_0, .val (.long oc), .second, .unset, .unset, .unset, .unset, .unset] [(.int (4 : Int32)), (.ref b1), (.ref b1)])) rfl (hb hby at_31)
  have f61 := (((((pf_E_s_READ_CACHE_END.ext E1).wr W28).wr W37).wr W46).wr W55)
  obtain ⟨cl62, Ar62, qq62, Sz62, Nn62, Hs62, Gf62⟩ := id f57
  have hin63 : ¬ ((4 : Int32) < 0 ∨ cl62.slots.size ≤ ((4 : Int32)).toNatClampNeg) := inb_of Sz62 ⟨by decide, by decide⟩
  obtain ⟨T64, h64, X64, e64, W64, st64⟩ := stR X60 hx hZ e60 Ar62 (j := (4 : Int32)) hin63 rfl (Sto.ofV Ar62 qq62 O1 (Ins.self f61)) (g := (mkF m 34 #[iv p0_0, .val (.long oc), .second, .unset, .unset, .unset, .unset, .unset] [(.ref s_READ_CACHE_END), (.int (4 : Int32)), (.ref b1), (.ref b1)])) rfl rfl (hb hby at_34)
  have K65 : Keep h0 h64 [] := (K56).wr W64 (Or.inr bz20)
  have f66 : Arv Z h64 b1 k1 (.object "com/example/unand/unand/model/Command") (17 : Int32) [(.ref s_READ), (.ref s_COPYBACK_READ), (.ref s_CHANGE_READ_COLUMN), (.ref s_READ_CACHE), (.ref s_READ_CACHE_END), .null, .null, .null, .null, .null, .null, .null, .null, .null, .null, .null, .null] .null := Arv.set Ar62 qq62 Sz62 Nn62 Hs62 Gf62 rfl W64 4 rfl (Nat.le_of_ble_eq_true rfl)
  have N67 := Fr.snoc X64 N58 g19
  have f68 := (f59.wr W64 g19)
  obtain ⟨T69, X69, e69, st69⟩ := getS2 X64 hx hZ hown (host := "") (Or.inl wo14) Via.refl e64 (pf_S_com_example_unand_unand_model_Command_BLOCK_ERASE.ext f68.2) (g := (mkF m 37 #[iv p0_0, .val (.long oc), .second, .unset, .unset, .unset, .unset, .unset] [(.int (5 : Int32)), (.ref b1), (.ref b1)])) rfl (hb hby at_37)
  have f70 := ((((((pf_E_s_BLOCK_ERASE.ext E1).wr W28).wr W37).wr W46).wr W55).wr W64)
  obtain ⟨cl71, Ar71, qq71, Sz71, Nn71, Hs71, Gf71⟩ := id f66
  have hin72 : ¬ ((5 : Int32) < 0 ∨ cl71.slots.size ≤ ((5 : Int32)).toNatClampNeg) := inb_of Sz71 ⟨by decide, by decide⟩
  obtain ⟨T73, h73, X73, e73, W73, st73⟩ := stR X69 hx hZ e69 Ar71 (j := (5 : Int32)) hin72 rfl (Sto.ofV Ar71 qq71 O1 (Ins.self f70)) (g := (mkF m 40 #[iv p0_0, .val (.long oc), .second, .unset, .unset, .unset, .unset, .unset] [(.ref s_BLOCK_ERASE), (.int (5 : Int32)), (.ref b1), (.ref b1)])) rfl rfl (hb hby at_40)
  have K74 : Keep h0 h73 [] := (K65).wr W73 (Or.inr bz20)
  have f75 : Arv Z h73 b1 k1 (.object "com/example/unand/unand/model/Command") (17 : Int32) [(.ref s_READ), (.ref s_COPYBACK_READ), (.ref s_CHANGE_READ_COLUMN), (.ref s_READ_CACHE), (.ref s_READ_CACHE_END), (.ref s_BLOCK_ERASE), .null, .null, .null, .null, .null, .null, .null, .null, .null, .null, .null] .null := Arv.set Ar71 qq71 Sz71 Nn71 Hs71 Gf71 rfl W73 5 rfl (Nat.le_of_ble_eq_true rfl)
  have N76 := Fr.snoc X73 N67 g19
  have f77 := (f68.wr W73 g19)
  obtain ⟨T78, X78, e78, st78⟩ := getS2 X73 hx hZ hown (host := "") (Or.inl wo16) Via.refl e73 (pf_S_com_example_unand_unand_model_Command_READ_STATUS.ext f77.2) (g := (mkF m 44 #[iv p0_0, .val (.long oc), .second, .unset, .unset, .unset, .unset, .unset] [(.int (6 : Int32)), (.ref b1), (.ref b1)])) rfl (hb hby at_44)
  have f79 := (((((((pf_E_s_READ_STATUS.ext E1).wr W28).wr W37).wr W46).wr W55).wr W64).wr W73)
  obtain ⟨cl80, Ar80, qq80, Sz80, Nn80, Hs80, Gf80⟩ := id f75
  have hin81 : ¬ ((6 : Int32) < 0 ∨ cl80.slots.size ≤ ((6 : Int32)).toNatClampNeg) := inb_of Sz80 ⟨by decide, by decide⟩
  obtain ⟨T82, h82, X82, e82, W82, st82⟩ := stR X78 hx hZ e78 Ar80 (j := (6 : Int32)) hin81 rfl (Sto.ofV Ar80 qq80 O1 (Ins.self f79)) (g := (mkF m 47 #[iv p0_0, .val (.long oc), .second, .unset, .unset, .unset, .unset, .unset] [(.ref s_READ_STATUS), (.int (6 : Int32)), (.ref b1), (.ref b1)])) rfl rfl (hb hby at_47)
  have K83 : Keep h0 h82 [] := (K74).wr W82 (Or.inr bz20)
  have f84 : Arv Z h82 b1 k1 (.object "com/example/unand/unand/model/Command") (17 : Int32) [(.ref s_READ), (.ref s_COPYBACK_READ), (.ref s_CHANGE_READ_COLUMN), (.ref s_READ_CACHE), (.ref s_READ_CACHE_END), (.ref s_BLOCK_ERASE), (.ref s_READ_STATUS), .null, .null, .null, .null, .null, .null, .null, .null, .null, .null] .null := Arv.set Ar80 qq80 Sz80 Nn80 Hs80 Gf80 rfl W82 6 rfl (Nat.le_of_ble_eq_true rfl)
  have N85 := Fr.snoc X82 N76 g19
  have f86 := (f77.wr W82 g19)
  obtain ⟨T87, X87, e87, st87⟩ := getS2 X82 hx hZ hown (host := "") (Or.inl wo18) Via.refl e82 (pf_S_com_example_unand_unand_model_Command_READ_STATUS_ENHANCED.ext f86.2) (g := (mkF m 51 #[iv p0_0, .val (.long oc), .second, .unset, .unset, .unset, .unset, .unset] [(.int (7 : Int32)), (.ref b1), (.ref b1)])) rfl (hb hby at_51)
  have f88 := ((((((((pf_E_s_READ_STATUS_ENHANCED.ext E1).wr W28).wr W37).wr W46).wr W55).wr W64).wr W73).wr W82)
  obtain ⟨cl89, Ar89, qq89, Sz89, Nn89, Hs89, Gf89⟩ := id f84
  have hin90 : ¬ ((7 : Int32) < 0 ∨ cl89.slots.size ≤ ((7 : Int32)).toNatClampNeg) := inb_of Sz89 ⟨by decide, by decide⟩
  obtain ⟨T91, h91, X91, e91, W91, st91⟩ := stR X87 hx hZ e87 Ar89 (j := (7 : Int32)) hin90 rfl (Sto.ofV Ar89 qq89 O1 (Ins.self f88)) (g := (mkF m 54 #[iv p0_0, .val (.long oc), .second, .unset, .unset, .unset, .unset, .unset] [(.ref s_READ_STATUS_ENHANCED), (.int (7 : Int32)), (.ref b1), (.ref b1)])) rfl rfl (hb hby at_54)
  have K92 : Keep h0 h91 [] := (K83).wr W91 (Or.inr bz20)
  have f93 : Arv Z h91 b1 k1 (.object "com/example/unand/unand/model/Command") (17 : Int32) [(.ref s_READ), (.ref s_COPYBACK_READ), (.ref s_CHANGE_READ_COLUMN), (.ref s_READ_CACHE), (.ref s_READ_CACHE_END), (.ref s_BLOCK_ERASE), (.ref s_READ_STATUS), (.ref s_READ_STATUS_ENHANCED), .null, .null, .null, .null, .null, .null, .null, .null, .null] .null := Arv.set Ar89 qq89 Sz89 Nn89 Hs89 Gf89 rfl W91 7 rfl (Nat.le_of_ble_eq_true rfl)
  have N94 := Fr.snoc X91 N85 g19
  have f95 := (f86.wr W91 g19)
  obtain ⟨T96, X96, e96, st96⟩ := getS2 X91 hx hZ hown (host := "") (Or.inl wo20) Via.refl e91 (pf_S_com_example_unand_unand_model_Command_PAGE_PROGRAM.ext f95.2) (g := (mkF m 58 #[iv p0_0, .val (.long oc), .second, .unset, .unset, .unset, .unset, .unset] [(.int (8 : Int32)), (.ref b1), (.ref b1)])) rfl (hb hby at_58)
  have f97 := (((((((((pf_E_s_PAGE_PROGRAM.ext E1).wr W28).wr W37).wr W46).wr W55).wr W64).wr W73).wr W82).wr W91)
  obtain ⟨cl98, Ar98, qq98, Sz98, Nn98, Hs98, Gf98⟩ := id f93
  have hin99 : ¬ ((8 : Int32) < 0 ∨ cl98.slots.size ≤ ((8 : Int32)).toNatClampNeg) := inb_of Sz98 ⟨by decide, by decide⟩
  obtain ⟨T100, h100, X100, e100, W100, st100⟩ := stR X96 hx hZ e96 Ar98 (j := (8 : Int32)) hin99 rfl (Sto.ofV Ar98 qq98 O1 (Ins.self f97)) (g := (mkF m 61 #[iv p0_0, .val (.long oc), .second, .unset, .unset, .unset, .unset, .unset] [(.ref s_PAGE_PROGRAM), (.int (8 : Int32)), (.ref b1), (.ref b1)])) rfl rfl (hb hby at_61)
  have K101 : Keep h0 h100 [] := (K92).wr W100 (Or.inr bz20)
  have f102 : Arv Z h100 b1 k1 (.object "com/example/unand/unand/model/Command") (17 : Int32) [(.ref s_READ), (.ref s_COPYBACK_READ), (.ref s_CHANGE_READ_COLUMN), (.ref s_READ_CACHE), (.ref s_READ_CACHE_END), (.ref s_BLOCK_ERASE), (.ref s_READ_STATUS), (.ref s_READ_STATUS_ENHANCED), (.ref s_PAGE_PROGRAM), .null, .null, .null, .null, .null, .null, .null, .null] .null := Arv.set Ar98 qq98 Sz98 Nn98 Hs98 Gf98 rfl W100 8 rfl (Nat.le_of_ble_eq_true rfl)
  have N103 := Fr.snoc X100 N94 g19
  have f104 := (f95.wr W100 g19)
  obtain ⟨T105, X105, e105, st105⟩ := getS2 X100 hx hZ hown (host := "") (Or.inl wo22) Via.refl e100 (pf_S_com_example_unand_unand_model_Command_PAGE_CACHE_PROGRAM.ext f104.2) (g := (mkF m 65 #[iv p0_0, .val (.long oc), .second, .unset, .unset, .unset, .unset, .unset] [(.int (9 : Int32)), (.ref b1), (.ref b1)])) rfl (hb hby at_65)
  have f106 := ((((((((((pf_E_s_PAGE_CACHE_PROGRAM.ext E1).wr W28).wr W37).wr W46).wr W55).wr W64).wr W73).wr W82).wr W91).wr W100)
  obtain ⟨cl107, Ar107, qq107, Sz107, Nn107, Hs107, Gf107⟩ := id f102
  have hin108 : ¬ ((9 : Int32) < 0 ∨ cl107.slots.size ≤ ((9 : Int32)).toNatClampNeg) := inb_of Sz107 ⟨by decide, by decide⟩
  obtain ⟨T109, h109, X109, e109, W109, st109⟩ := stR X105 hx hZ e105 Ar107 (j := (9 : Int32)) hin108 rfl (Sto.ofV Ar107 qq107 O1 (Ins.self f106)) (g := (mkF m 68 #[iv p0_0, .val (.long oc), .second, .unset, .unset, .unset, .unset, .unset] [(.ref s_PAGE_CACHE_PROGRAM), (.int (9 : Int32)), (.ref b1), (.ref b1)])) rfl rfl (hb hby at_68)
  have K110 : Keep h0 h109 [] := (K101).wr W109 (Or.inr bz20)
  have f111 : Arv Z h109 b1 k1 (.object "com/example/unand/unand/model/Command") (17 : Int32) [(.ref s_READ), (.ref s_COPYBACK_READ), (.ref s_CHANGE_READ_COLUMN), (.ref s_READ_CACHE), (.ref s_READ_CACHE_END), (.ref s_BLOCK_ERASE), (.ref s_READ_STATUS), (.ref s_READ_STATUS_ENHANCED), (.ref s_PAGE_PROGRAM), (.ref s_PAGE_CACHE_PROGRAM), .null, .null, .null, .null, .null, .null, .null] .null := Arv.set Ar107 qq107 Sz107 Nn107 Hs107 Gf107 rfl W109 9 rfl (Nat.le_of_ble_eq_true rfl)
  have N112 := Fr.snoc X109 N103 g19
  have f113 := (f104.wr W109 g19)
  obtain ⟨T114, X114, e114, st114⟩ := getS2 X109 hx hZ hown (host := "") (Or.inl wo24) Via.refl e109 (pf_S_com_example_unand_unand_model_Command_CHANGE_WRITE_COLUMN.ext f113.2) (g := (mkF m 72 #[iv p0_0, .val (.long oc), .second, .unset, .unset, .unset, .unset, .unset] [(.int (10 : Int32)), (.ref b1), (.ref b1)])) rfl (hb hby at_72)
  have f115 := (((((((((((pf_E_s_CHANGE_WRITE_COLUMN.ext E1).wr W28).wr W37).wr W46).wr W55).wr W64).wr W73).wr W82).wr W91).wr W100).wr W109)
  obtain ⟨cl116, Ar116, qq116, Sz116, Nn116, Hs116, Gf116⟩ := id f111
  have hin117 : ¬ ((10 : Int32) < 0 ∨ cl116.slots.size ≤ ((10 : Int32)).toNatClampNeg) := inb_of Sz116 ⟨by decide, by decide⟩
  obtain ⟨T118, h118, X118, e118, W118, st118⟩ := stR X114 hx hZ e114 Ar116 (j := (10 : Int32)) hin117 rfl (Sto.ofV Ar116 qq116 O1 (Ins.self f115)) (g := (mkF m 75 #[iv p0_0, .val (.long oc), .second, .unset, .unset, .unset, .unset, .unset] [(.ref s_CHANGE_WRITE_COLUMN), (.int (10 : Int32)), (.ref b1), (.ref b1)])) rfl rfl (hb hby at_75)
  have K119 : Keep h0 h118 [] := (K110).wr W118 (Or.inr bz20)
  have f120 : Arv Z h118 b1 k1 (.object "com/example/unand/unand/model/Command") (17 : Int32) [(.ref s_READ), (.ref s_COPYBACK_READ), (.ref s_CHANGE_READ_COLUMN), (.ref s_READ_CACHE), (.ref s_READ_CACHE_END), (.ref s_BLOCK_ERASE), (.ref s_READ_STATUS), (.ref s_READ_STATUS_ENHANCED), (.ref s_PAGE_PROGRAM), (.ref s_PAGE_CACHE_PROGRAM), (.ref s_CHANGE_WRITE_COLUMN), .null, .null, .null, .null, .null, .null] .null := Arv.set Ar116 qq116 Sz116 Nn116 Hs116 Gf116 rfl W118 10 rfl (Nat.le_of_ble_eq_true rfl)
  have N121 := Fr.snoc X118 N112 g19
  have f122 := (f113.wr W118 g19)
  obtain ⟨T123, X123, e123, st123⟩ := getS2 X118 hx hZ hown (host := "") (Or.inl wo26) Via.refl e118 (pf_S_com_example_unand_unand_model_Command_READ_ID.ext f122.2) (g := (mkF m 79 #[iv p0_0, .val (.long oc), .second, .unset, .unset, .unset, .unset, .unset] [(.int (11 : Int32)), (.ref b1), (.ref b1)])) rfl (hb hby at_79)
  have f124 := ((((((((((((pf_E_s_READ_ID.ext E1).wr W28).wr W37).wr W46).wr W55).wr W64).wr W73).wr W82).wr W91).wr W100).wr W109).wr W118)
  obtain ⟨cl125, Ar125, qq125, Sz125, Nn125, Hs125, Gf125⟩ := id f120
  have hin126 : ¬ ((11 : Int32) < 0 ∨ cl125.slots.size ≤ ((11 : Int32)).toNatClampNeg) := inb_of Sz125 ⟨by decide, by decide⟩
  obtain ⟨T127, h127, X127, e127, W127, st127⟩ := stR X123 hx hZ e123 Ar125 (j := (11 : Int32)) hin126 rfl (Sto.ofV Ar125 qq125 O1 (Ins.self f124)) (g := (mkF m 82 #[iv p0_0, .val (.long oc), .second, .unset, .unset, .unset, .unset, .unset] [(.ref s_READ_ID), (.int (11 : Int32)), (.ref b1), (.ref b1)])) rfl rfl (hb hby at_82)
  have K128 : Keep h0 h127 [] := (K119).wr W127 (Or.inr bz20)
  have f129 : Arv Z h127 b1 k1 (.object "com/example/unand/unand/model/Command") (17 : Int32) [(.ref s_READ), (.ref s_COPYBACK_READ), (.ref s_CHANGE_READ_COLUMN), (.ref s_READ_CACHE), (.ref s_READ_CACHE_END), (.ref s_BLOCK_ERASE), (.ref s_READ_STATUS), (.ref s_READ_STATUS_ENHANCED), (.ref s_PAGE_PROGRAM), (.ref s_PAGE_CACHE_PROGRAM), (.ref s_CHANGE_WRITE_COLUMN), (.ref s_READ_ID), .null, .null, .null, .null, .null] .null := Arv.set Ar125 qq125 Sz125 Nn125 Hs125 Gf125 rfl W127 11 rfl (Nat.le_of_ble_eq_true rfl)
  have N130 := Fr.snoc X127 N121 g19
  have f131 := (f122.wr W127 g19)
  obtain ⟨T132, X132, e132, st132⟩ := getS2 X127 hx hZ hown (host := "") (Or.inl wo28) Via.refl e127 (pf_S_com_example_unand_unand_model_Command_READ_PARAMETER_PAGE.ext f131.2) (g := (mkF m 86 #[iv p0_0, .val (.long oc), .second, .unset, .unset, .unset, .unset, .unset] [(.int (12 : Int32)), (.ref b1), (.ref b1)])) rfl (hb hby at_86)
  have f133 := (((((((((((((pf_E_s_READ_PARAMETER_PAGE.ext E1).wr W28).wr W37).wr W46).wr W55).wr W64).wr W73).wr W82).wr W91).wr W100).wr W109).wr W118).wr W127)
  obtain ⟨cl134, Ar134, qq134, Sz134, Nn134, Hs134, Gf134⟩ := id f129
  have hin135 : ¬ ((12 : Int32) < 0 ∨ cl134.slots.size ≤ ((12 : Int32)).toNatClampNeg) := inb_of Sz134 ⟨by decide, by decide⟩
  obtain ⟨T136, h136, X136, e136, W136, st136⟩ := stR X132 hx hZ e132 Ar134 (j := (12 : Int32)) hin135 rfl (Sto.ofV Ar134 qq134 O1 (Ins.self f133)) (g := (mkF m 89 #[iv p0_0, .val (.long oc), .second, .unset, .unset, .unset, .unset, .unset] [(.ref s_READ_PARAMETER_PAGE), (.int (12 : Int32)), (.ref b1), (.ref b1)])) rfl rfl (hb hby at_89)
  have K137 : Keep h0 h136 [] := (K128).wr W136 (Or.inr bz20)
  have f138 : Arv Z h136 b1 k1 (.object "com/example/unand/unand/model/Command") (17 : Int32) [(.ref s_READ), (.ref s_COPYBACK_READ), (.ref s_CHANGE_READ_COLUMN), (.ref s_READ_CACHE), (.ref s_READ_CACHE_END), (.ref s_BLOCK_ERASE), (.ref s_READ_STATUS), (.ref s_READ_STATUS_ENHANCED), (.ref s_PAGE_PROGRAM), (.ref s_PAGE_CACHE_PROGRAM), (.ref s_CHANGE_WRITE_COLUMN), (.ref s_READ_ID), (.ref s_READ_PARAMETER_PAGE), .null, .null, .null, .null] .null := Arv.set Ar134 qq134 Sz134 Nn134 Hs134 Gf134 rfl W136 12 rfl (Nat.le_of_ble_eq_true rfl)
  have N139 := Fr.snoc X136 N130 g19
  have f140 := (f131.wr W136 g19)
  obtain ⟨T141, X141, e141, st141⟩ := getS2 X136 hx hZ hown (host := "") (Or.inl wo30) Via.refl e136 (pf_S_com_example_unand_unand_model_Command_READ_UNIQUE_ID.ext f140.2) (g := (mkF m 93 #[iv p0_0, .val (.long oc), .second, .unset, .unset, .unset, .unset, .unset] [(.int (13 : Int32)), (.ref b1), (.ref b1)])) rfl (hb hby at_93)
  have f142 := ((((((((((((((pf_E_s_READ_UNIQUE_ID.ext E1).wr W28).wr W37).wr W46).wr W55).wr W64).wr W73).wr W82).wr W91).wr W100).wr W109).wr W118).wr W127).wr W136)
  obtain ⟨cl143, Ar143, qq143, Sz143, Nn143, Hs143, Gf143⟩ := id f138
  have hin144 : ¬ ((13 : Int32) < 0 ∨ cl143.slots.size ≤ ((13 : Int32)).toNatClampNeg) := inb_of Sz143 ⟨by decide, by decide⟩
  obtain ⟨T145, h145, X145, e145, W145, st145⟩ := stR X141 hx hZ e141 Ar143 (j := (13 : Int32)) hin144 rfl (Sto.ofV Ar143 qq143 O1 (Ins.self f142)) (g := (mkF m 96 #[iv p0_0, .val (.long oc), .second, .unset, .unset, .unset, .unset, .unset] [(.ref s_READ_UNIQUE_ID), (.int (13 : Int32)), (.ref b1), (.ref b1)])) rfl rfl (hb hby at_96)
  have K146 : Keep h0 h145 [] := (K137).wr W145 (Or.inr bz20)
  have f147 : Arv Z h145 b1 k1 (.object "com/example/unand/unand/model/Command") (17 : Int32) [(.ref s_READ), (.ref s_COPYBACK_READ), (.ref s_CHANGE_READ_COLUMN), (.ref s_READ_CACHE), (.ref s_READ_CACHE_END), (.ref s_BLOCK_ERASE), (.ref s_READ_STATUS), (.ref s_READ_STATUS_ENHANCED), (.ref s_PAGE_PROGRAM), (.ref s_PAGE_CACHE_PROGRAM), (.ref s_CHANGE_WRITE_COLUMN), (.ref s_READ_ID), (.ref s_READ_PARAMETER_PAGE), (.ref s_READ_UNIQUE_ID), .null, .null, .null] .null := Arv.set Ar143 qq143 Sz143 Nn143 Hs143 Gf143 rfl W145 13 rfl (Nat.le_of_ble_eq_true rfl)
  have N148 := Fr.snoc X145 N139 g19
  have f149 := (f140.wr W145 g19)
  obtain ⟨T150, X150, e150, st150⟩ := getS2 X145 hx hZ hown (host := "") (Or.inl wo32) Via.refl e145 (pf_S_com_example_unand_unand_model_Command_GET_FEATURES.ext f149.2) (g := (mkF m 100 #[iv p0_0, .val (.long oc), .second, .unset, .unset, .unset, .unset, .unset] [(.int (14 : Int32)), (.ref b1), (.ref b1)])) rfl (hb hby at_100)
  have f151 := (((((((((((((((pf_E_s_GET_FEATURES.ext E1).wr W28).wr W37).wr W46).wr W55).wr W64).wr W73).wr W82).wr W91).wr W100).wr W109).wr W118).wr W127).wr W136).wr W145)
  obtain ⟨cl152, Ar152, qq152, Sz152, Nn152, Hs152, Gf152⟩ := id f147
  have hin153 : ¬ ((14 : Int32) < 0 ∨ cl152.slots.size ≤ ((14 : Int32)).toNatClampNeg) := inb_of Sz152 ⟨by decide, by decide⟩
  obtain ⟨T154, h154, X154, e154, W154, st154⟩ := stR X150 hx hZ e150 Ar152 (j := (14 : Int32)) hin153 rfl (Sto.ofV Ar152 qq152 O1 (Ins.self f151)) (g := (mkF m 103 #[iv p0_0, .val (.long oc), .second, .unset, .unset, .unset, .unset, .unset] [(.ref s_GET_FEATURES), (.int (14 : Int32)), (.ref b1), (.ref b1)])) rfl rfl (hb hby at_103)
  have K155 : Keep h0 h154 [] := (K146).wr W154 (Or.inr bz20)
  have f156 : Arv Z h154 b1 k1 (.object "com/example/unand/unand/model/Command") (17 : Int32) [(.ref s_READ), (.ref s_COPYBACK_READ), (.ref s_CHANGE_READ_COLUMN), (.ref s_READ_CACHE), (.ref s_READ_CACHE_END), (.ref s_BLOCK_ERASE), (.ref s_READ_STATUS), (.ref s_READ_STATUS_ENHANCED), (.ref s_PAGE_PROGRAM), (.ref s_PAGE_CACHE_PROGRAM), (.ref s_CHANGE_WRITE_COLUMN), (.ref s_READ_ID), (.ref s_READ_PARAMETER_PAGE), (.ref s_READ_UNIQUE_ID), (.ref s_GET_FEATURES), .null, .null] .null := Arv.set Ar152 qq152 Sz152 Nn152 Hs152 Gf152 rfl W154 14 rfl (Nat.le_of_ble_eq_true rfl)
  have N157 := Fr.snoc X154 N148 g19
  have f158 := (f149.wr W154 g19)
  obtain ⟨T159, X159, e159, st159⟩ := getS2 X154 hx hZ hown (host := "") (Or.inl wo34) Via.refl e154 (pf_S_com_example_unand_unand_model_Command_SET_FEATURES.ext f158.2) (g := (mkF m 107 #[iv p0_0, .val (.long oc), .second, .unset, .unset, .unset, .unset, .unset] [(.int (15 : Int32)), (.ref b1), (.ref b1)])) rfl (hb hby at_107)
  have f160 := ((((((((((((((((pf_E_s_SET_FEATURES.ext E1).wr W28).wr W37).wr W46).wr W55).wr W64).wr W73).wr W82).wr W91).wr W100).wr W109).wr W118).wr W127).wr W136).wr W145).wr W154)
  obtain ⟨cl161, Ar161, qq161, Sz161, Nn161, Hs161, Gf161⟩ := id f156
  have hin162 : ¬ ((15 : Int32) < 0 ∨ cl161.slots.size ≤ ((15 : Int32)).toNatClampNeg) := inb_of Sz161 ⟨by decide, by decide⟩
  obtain ⟨T163, h163, X163, e163, W163, st163⟩ := stR X159 hx hZ e159 Ar161 (j := (15 : Int32)) hin162 rfl (Sto.ofV Ar161 qq161 O1 (Ins.self f160)) (g := (mkF m 110 #[iv p0_0, .val (.long oc), .second, .unset, .unset, .unset, .unset, .unset] [(.ref s_SET_FEATURES), (.int (15 : Int32)), (.ref b1), (.ref b1)])) rfl rfl (hb hby at_110)
  have K164 : Keep h0 h163 [] := (K155).wr W163 (Or.inr bz20)
  have f165 : Arv Z h163 b1 k1 (.object "com/example/unand/unand/model/Command") (17 : Int32) [(.ref s_READ), (.ref s_COPYBACK_READ), (.ref s_CHANGE_READ_COLUMN), (.ref s_READ_CACHE), (.ref s_READ_CACHE_END), (.ref s_BLOCK_ERASE), (.ref s_READ_STATUS), (.ref s_READ_STATUS_ENHANCED), (.ref s_PAGE_PROGRAM), (.ref s_PAGE_CACHE_PROGRAM), (.ref s_CHANGE_WRITE_COLUMN), (.ref s_READ_ID), (.ref s_READ_PARAMETER_PAGE), (.ref s_READ_UNIQUE_ID), (.ref s_GET_FEATURES), (.ref s_SET_FEATURES), .null] .null := Arv.set Ar161 qq161 Sz161 Nn161 Hs161 Gf161 rfl W163 15 rfl (Nat.le_of_ble_eq_true rfl)
  have N166 := Fr.snoc X163 N157 g19
  have f167 := (f158.wr W163 g19)
  obtain ⟨T168, X168, e168, st168⟩ := getS2 X163 hx hZ hown (host := "") (Or.inl wo36) Via.refl e163 (pf_S_com_example_unand_unand_model_Command_RESET.ext f167.2) (g := (mkF m 114 #[iv p0_0, .val (.long oc), .second, .unset, .unset, .unset, .unset, .unset] [(.int (16 : Int32)), (.ref b1), (.ref b1)])) rfl (hb hby at_114)
  have f169 := (((((((((((((((((pf_E_s_RESET.ext E1).wr W28).wr W37).wr W46).wr W55).wr W64).wr W73).wr W82).wr W91).wr W100).wr W109).wr W118).wr W127).wr W136).wr W145).wr W154).wr W163)
  obtain ⟨cl170, Ar170, qq170, Sz170, Nn170, Hs170, Gf170⟩ := id f165
  have hin171 : ¬ ((16 : Int32) < 0 ∨ cl170.slots.size ≤ ((16 : Int32)).toNatClampNeg) := inb_of Sz170 ⟨by decide, by decide⟩
  obtain ⟨T172, h172, X172, e172, W172, st172⟩ := stR X168 hx hZ e168 Ar170 (j := (16 : Int32)) hin171 rfl (Sto.ofV Ar170 qq170 O1 (Ins.self f169)) (g := (mkF m 117 #[iv p0_0, .val (.long oc), .second, .unset, .unset, .unset, .unset, .unset] [(.ref s_RESET), (.int (16 : Int32)), (.ref b1), (.ref b1)])) rfl rfl (hb hby at_117)
  have K173 : Keep h0 h172 [] := (K164).wr W172 (Or.inr bz20)
  have f174 : Arv Z h172 b1 k1 (.object "com/example/unand/unand/model/Command") (17 : Int32) [(.ref s_READ), (.ref s_COPYBACK_READ), (.ref s_CHANGE_READ_COLUMN), (.ref s_READ_CACHE), (.ref s_READ_CACHE_END), (.ref s_BLOCK_ERASE), (.ref s_READ_STATUS), (.ref s_READ_STATUS_ENHANCED), (.ref s_PAGE_PROGRAM), (.ref s_PAGE_CACHE_PROGRAM), (.ref s_CHANGE_WRITE_COLUMN), (.ref s_READ_ID), (.ref s_READ_PARAMETER_PAGE), (.ref s_READ_UNIQUE_ID), (.ref s_GET_FEATURES), (.ref s_SET_FEATURES), (.ref s_RESET)] .null := Arv.set Ar170 qq170 Sz170 Nn170 Hs170 Gf170 rfl W172 16 rfl (Nat.le_of_ble_eq_true rfl)
  have N175 := Fr.snoc X172 N166 g19
  obtain ⟨T176, h176, k176, X176, e176, E176, A176, st176⟩ := newP (aty := .int) X172 hx hZ wo38 e172 (g := (mkF m 121 #[iv p0_0, .val (.long oc), .second, rv b1, .unset, .unset, .unset, .unset] [(.int (17 : Int32))])) rfl (hb hby at_121) rfl (by decide) (cap := 17) (by decide) (by decide) (by decide) (by decide)
  obtain ⟨b176, gg176⟩ : ∃ z, z = h172.size := ⟨_, rfl⟩
  rw [← gg176] at A176 st176
  have f177 := (((((((((((((((((f25.wr W28).wr W37).wr W46).wr W55).wr W64).wr W73).wr W82).wr W91).wr W100).wr W109).wr W118).wr W127).wr W136).wr W145).wr W154).wr W163).wr W172)
  have ne178 : s_READ ≠ b176 := Nat.ne_of_lt (Nat.lt_of_lt_of_le f177.lt (Nat.le_of_eq gg176.symm))
  have f179 := ((((((((((((((((f34.wr W37).wr W46).wr W55).wr W64).wr W73).wr W82).wr W91).wr W100).wr W109).wr W118).wr W127).wr W136).wr W145).wr W154).wr W163).wr W172)
  have ne180 : s_COPYBACK_READ ≠ b176 := Nat.ne_of_lt (Nat.lt_of_lt_of_le f179.lt (Nat.le_of_eq gg176.symm))
  have f181 := (((((((((((((((f43.wr W46).wr W55).wr W64).wr W73).wr W82).wr W91).wr W100).wr W109).wr W118).wr W127).wr W136).wr W145).wr W154).wr W163).wr W172)
  have ne182 : s_CHANGE_READ_COLUMN ≠ b176 := Nat.ne_of_lt (Nat.lt_of_lt_of_le f181.lt (Nat.le_of_eq gg176.symm))
  have f183 := ((((((((((((((f52.wr W55).wr W64).wr W73).wr W82).wr W91).wr W100).wr W109).wr W118).wr W127).wr W136).wr W145).wr W154).wr W163).wr W172)
  have ne184 : s_READ_CACHE ≠ b176 := Nat.ne_of_lt (Nat.lt_of_lt_of_le f183.lt (Nat.le_of_eq gg176.symm))
  have f185 := (((((((((((((f61.wr W64).wr W73).wr W82).wr W91).wr W100).wr W109).wr W118).wr W127).wr W136).wr W145).wr W154).wr W163).wr W172)
  have ne186 : s_READ_CACHE_END ≠ b176 := Nat.ne_of_lt (Nat.lt_of_lt_of_le f185.lt (Nat.le_of_eq gg176.symm))
  have f187 := ((((((((((((f70.wr W73).wr W82).wr W91).wr W100).wr W109).wr W118).wr W127).wr W136).wr W145).wr W154).wr W163).wr W172)
  have ne188 : s_BLOCK_ERASE ≠ b176 := Nat.ne_of_lt (Nat.lt_of_lt_of_le f187.lt (Nat.le_of_eq gg176.symm))
  have f189 := (((((((((((f79.wr W82).wr W91).wr W100).wr W109).wr W118).wr W127).wr W136).wr W145).wr W154).wr W163).wr W172)
  have ne190 : s_READ_STATUS ≠ b176 := Nat.ne_of_lt (Nat.lt_of_lt_of_le f189.lt (Nat.le_of_eq gg176.symm))
  have f191 := ((((((((((f88.wr W91).wr W100).wr W109).wr W118).wr W127).wr W136).wr W145).wr W154).wr W163).wr W172)
  have ne192 : s_READ_STATUS_ENHANCED ≠ b176 := Nat.ne_of_lt (Nat.lt_of_lt_of_le f191.lt (Nat.le_of_eq gg176.symm))
  have f193 := (((((((((f97.wr W100).wr W109).wr W118).wr W127).wr W136).wr W145).wr W154).wr W163).wr W172)
  have ne194 : s_PAGE_PROGRAM ≠ b176 := Nat.ne_of_lt (Nat.lt_of_lt_of_le f193.lt (Nat.le_of_eq gg176.symm))
  have f195 := ((((((((f106.wr W109).wr W118).wr W127).wr W136).wr W145).wr W154).wr W163).wr W172)
  have ne196 : s_PAGE_CACHE_PROGRAM ≠ b176 := Nat.ne_of_lt (Nat.lt_of_lt_of_le f195.lt (Nat.le_of_eq gg176.symm))
  have f197 := (((((((f115.wr W118).wr W127).wr W136).wr W145).wr W154).wr W163).wr W172)
  have ne198 : s_CHANGE_WRITE_COLUMN ≠ b176 := Nat.ne_of_lt (Nat.lt_of_lt_of_le f197.lt (Nat.le_of_eq gg176.symm))
  have f199 := ((((((f124.wr W127).wr W136).wr W145).wr W154).wr W163).wr W172)
  have ne200 : s_READ_ID ≠ b176 := Nat.ne_of_lt (Nat.lt_of_lt_of_le f199.lt (Nat.le_of_eq gg176.symm))
  have f201 := (((((f133.wr W136).wr W145).wr W154).wr W163).wr W172)
  have ne202 : s_READ_PARAMETER_PAGE ≠ b176 := Nat.ne_of_lt (Nat.lt_of_lt_of_le f201.lt (Nat.le_of_eq gg176.symm))
  have f203 := ((((f142.wr W145).wr W154).wr W163).wr W172)
  have ne204 : s_READ_UNIQUE_ID ≠ b176 := Nat.ne_of_lt (Nat.lt_of_lt_of_le f203.lt (Nat.le_of_eq gg176.symm))
  have f205 := (((f151.wr W154).wr W163).wr W172)
  have ne206 : s_GET_FEATURES ≠ b176 := Nat.ne_of_lt (Nat.lt_of_lt_of_le f205.lt (Nat.le_of_eq gg176.symm))
  have f207 := ((f160.wr W163).wr W172)
  have ne208 : s_SET_FEATURES ≠ b176 := Nat.ne_of_lt (Nat.lt_of_lt_of_le f207.lt (Nat.le_of_eq gg176.symm))
  have f209 := (f169.wr W172)
  have ne210 : s_RESET ≠ b176 := Nat.ne_of_lt (Nat.lt_of_lt_of_le f209.lt (Nat.le_of_eq gg176.symm))
  have ne211 : b1 ≠ b176 := Nat.ne_of_lt (Nat.lt_of_lt_of_le f174.lt (Nat.le_of_eq gg176.symm))
  have f213 := (Nat.le_trans (Nat.le_trans (Nat.le_trans (Nat.le_trans (Nat.le_trans (Nat.le_trans (Nat.le_trans (Nat.le_trans (Nat.le_trans (Nat.le_trans (Nat.le_trans (Nat.le_trans (Nat.le_trans (Nat.le_trans (Nat.le_trans (Nat.le_trans (Nat.le_trans (Nat.le_trans Z0 E1.1) (Keep.of_wr W28).1) (Keep.of_wr W37).1) (Keep.of_wr W46).1) (Keep.of_wr W55).1) (Keep.of_wr W64).1) (Keep.of_wr W73).1) (Keep.of_wr W82).1) (Keep.of_wr W91).1) (Keep.of_wr W100).1) (Keep.of_wr W109).1) (Keep.of_wr W118).1) (Keep.of_wr W127).1) (Keep.of_wr W136).1) (Keep.of_wr W145).1) (Keep.of_wr W154).1) (Keep.of_wr W163).1) (Keep.of_wr W172).1)
  have g212 : n0 ≤ b176 := Nat.le_trans f213 (Nat.le_of_eq gg176.symm)
  have bz214 : h0.size ≤ b176 := Nat.le_trans (K173).1 (Nat.le_of_eq gg176.symm)
  have K216 : Keep h0 h176 [] := (K173).ext E176
  have f215 : Av Z h176 b176 .int (17 : Int32) [(.int (0 : Int32)), (.int (0 : Int32)), (.int (0 : Int32)), (.int (0 : Int32)), (.int (0 : Int32)), (.int (0 : Int32)), (.int (0 : Int32)), (.int (0 : Int32)), (.int (0 : Int32)), (.int (0 : Int32)), (.int (0 : Int32)), (.int (0 : Int32)), (.int (0 : Int32)), (.int (0 : Int32)), (.int (0 : Int32)), (.int (0 : Int32)), (.int (0 : Int32))] (.int (0 : Int32)) := ⟨_, (Arv.new A176 (by decide)).pad (pad_rep [] (.int (0 : Int32)) 17)⟩
  obtain ⟨kk217, cl217, Ar217, qq217, Sz217, Nn217, Hs217, Gf217⟩ := id f215
  have hin218 : ¬ ((0 : Int32) < 0 ∨ cl217.slots.size ≤ ((0 : Int32)).toNatClampNeg) := inb_of Sz217 ⟨by decide, by decide⟩
  obtain ⟨T219, h219, X219, e219, W219, st219⟩ := stI X176 hx hZ e176 Ar217 (j := (0 : Int32)) hin218 (g := (mkF m 126 #[iv p0_0, .val (.long oc), .second, rv b1, .unset, .unset, .unset, .unset] [(.int (-1 : Int32)), (.int (0 : Int32)), (.ref b176), (.ref b176)])) rfl rfl (hb hby at_126)
  have K220 : Keep h0 h219 [] := (K216).wr W219 (Or.inr bz214)
  have f221 : Av Z h219 b176 .int (17 : Int32) [(.int (-1 : Int32)), (.int (0 : Int32)), (.int (0 : Int32)), (.int (0 : Int32)), (.int (0 : Int32)), (.int (0 : Int32)), (.int (0 : Int32)), (.int (0 : Int32)), (.int (0 : Int32)), (.int (0 : Int32)), (.int (0 : Int32)), (.int (0 : Int32)), (.int (0 : Int32)), (.int (0 : Int32)), (.int (0 : Int32)), (.int (0 : Int32)), (.int (0 : Int32))] (.int (0 : Int32)) := ⟨_, Arv.set Ar217 qq217 Sz217 Nn217 Hs217 Gf217 rfl W219 0 rfl (Nat.le_of_ble_eq_true rfl)⟩
  have N222 := Fr.snoc X219 N175 g212
  obtain ⟨kk223, cl223, Ar223, qq223, Sz223, Nn223, Hs223, Gf223⟩ := id f221
  have hin224 : ¬ ((1 : Int32) < 0 ∨ cl223.slots.size ≤ ((1 : Int32)).toNatClampNeg) := inb_of Sz223 ⟨by decide, by decide⟩
  obtain ⟨T225, h225, X225, e225, W225, st225⟩ := stI X219 hx hZ e219 Ar223 (j := (1 : Int32)) hin224 (g := (mkF m 130 #[iv p0_0, .val (.long oc), .second, rv b1, .unset, .unset, .unset, .unset] [(.int (4 : Int32)), (.int (1 : Int32)), (.ref b176), (.ref b176)])) rfl rfl (hb hby at_130)
  have K226 : Keep h0 h225 [] := (K220).wr W225 (Or.inr bz214)
  have f227 : Av Z h225 b176 .int (17 : Int32) [(.int (-1 : Int32)), (.int (4 : Int32)), (.int (0 : Int32)), (.int (0 : Int32)), (.int (0 : Int32)), (.int (0 : Int32)), (.int (0 : Int32)), (.int (0 : Int32)), (.int (0 : Int32)), (.int (0 : Int32)), (.int (0 : Int32)), (.int (0 : Int32)), (.int (0 : Int32)), (.int (0 : Int32)), (.int (0 : Int32)), (.int (0 : Int32)), (.int (0 : Int32))] (.int (0 : Int32)) := ⟨_, Arv.set Ar223 qq223 Sz223 Nn223 Hs223 Gf223 rfl W225 1 rfl (Nat.le_of_ble_eq_true rfl)⟩
  have N228 := Fr.snoc X225 N222 g212
  obtain ⟨kk229, cl229, Ar229, qq229, Sz229, Nn229, Hs229, Gf229⟩ := id f227
  have hin230 : ¬ ((2 : Int32) < 0 ∨ cl229.slots.size ≤ ((2 : Int32)).toNatClampNeg) := inb_of Sz229 ⟨by decide, by decide⟩
  obtain ⟨T231, h231, X231, e231, W231, st231⟩ := stI X225 hx hZ e225 Ar229 (j := (2 : Int32)) hin230 (g := (mkF m 134 #[iv p0_0, .val (.long oc), .second, rv b1, .unset, .unset, .unset, .unset] [(.int (-1 : Int32)), (.int (2 : Int32)), (.ref b176), (.ref b176)])) rfl rfl (hb hby at_134)
  have K232 : Keep h0 h231 [] := (K226).wr W231 (Or.inr bz214)
  have f233 : Av Z h231 b176 .int (17 : Int32) [(.int (-1 : Int32)), (.int (4 : Int32)), (.int (-1 : Int32)), (.int (0 : Int32)), (.int (0 : Int32)), (.int (0 : Int32)), (.int (0 : Int32)), (.int (0 : Int32)), (.int (0 : Int32)), (.int (0 : Int32)), (.int (0 : Int32)), (.int (0 : Int32)), (.int (0 : Int32)), (.int (0 : Int32)), (.int (0 : Int32)), (.int (0 : Int32)), (.int (0 : Int32))] (.int (0 : Int32)) := ⟨_, Arv.set Ar229 qq229 Sz229 Nn229 Hs229 Gf229 rfl W231 2 rfl (Nat.le_of_ble_eq_true rfl)⟩
  have N234 := Fr.snoc X231 N228 g212
  obtain ⟨kk235, cl235, Ar235, qq235, Sz235, Nn235, Hs235, Gf235⟩ := id f233
  have hin236 : ¬ ((3 : Int32) < 0 ∨ cl235.slots.size ≤ ((3 : Int32)).toNatClampNeg) := inb_of Sz235 ⟨by decide, by decide⟩
  obtain ⟨T237, h237, X237, e237, W237, st237⟩ := stI X231 hx hZ e231 Ar235 (j := (3 : Int32)) hin236 (g := (mkF m 138 #[iv p0_0, .val (.long oc), .second, rv b1, .unset, .unset, .unset, .unset] [(.int (1 : Int32)), (.int (3 : Int32)), (.ref b176), (.ref b176)])) rfl rfl (hb hby at_138)
  have K238 : Keep h0 h237 [] := (K232).wr W237 (Or.inr bz214)
  have f239 : Av Z h237 b176 .int (17 : Int32) [(.int (-1 : Int32)), (.int (4 : Int32)), (.int (-1 : Int32)), (.int (1 : Int32)), (.int (0 : Int32)), (.int (0 : Int32)), (.int (0 : Int32)), (.int (0 : Int32)), (.int (0 : Int32)), (.int (0 : Int32)), (.int (0 : Int32)), (.int (0 : Int32)), (.int (0 : Int32)), (.int (0 : Int32)), (.int (0 : Int32)), (.int (0 : Int32)), (.int (0 : Int32))] (.int (0 : Int32)) := ⟨_, Arv.set Ar235 qq235 Sz235 Nn235 Hs235 Gf235 rfl W237 3 rfl (Nat.le_of_ble_eq_true rfl)⟩
  have N240 := Fr.snoc X237 N234 g212
  obtain ⟨kk241, cl241, Ar241, qq241, Sz241, Nn241, Hs241, Gf241⟩ := id f239
  have hin242 : ¬ ((4 : Int32) < 0 ∨ cl241.slots.size ≤ ((4 : Int32)).toNatClampNeg) := inb_of Sz241 ⟨by decide, by decide⟩
  obtain ⟨T243, h243, X243, e243, W243, st243⟩ := stI X237 hx hZ e237 Ar241 (j := (4 : Int32)) hin242 (g := (mkF m 142 #[iv p0_0, .val (.long oc), .second, rv b1, .unset, .unset, .unset, .unset] [(.int (1 : Int32)), (.int (4 : Int32)), (.ref b176), (.ref b176)])) rfl rfl (hb hby at_142)
  have K244 : Keep h0 h243 [] := (K238).wr W243 (Or.inr bz214)
  have f245 : Av Z h243 b176 .int (17 : Int32) [(.int (-1 : Int32)), (.int (4 : Int32)), (.int (-1 : Int32)), (.int (1 : Int32)), (.int (1 : Int32)), (.int (0 : Int32)), (.int (0 : Int32)), (.int (0 : Int32)), (.int (0 : Int32)), (.int (0 : Int32)), (.int (0 : Int32)), (.int (0 : Int32)), (.int (0 : Int32)), (.int (0 : Int32)), (.int (0 : Int32)), (.int (0 : Int32)), (.int (0 : Int32))] (.int (0 : Int32)) := ⟨_, Arv.set Ar241 qq241 Sz241 Nn241 Hs241 Gf241 rfl W243 4 rfl (Nat.le_of_ble_eq_true rfl)⟩
  have N246 := Fr.snoc X243 N240 g212
  obtain ⟨kk247, cl247, Ar247, qq247, Sz247, Nn247, Hs247, Gf247⟩ := id f245
  have hin248 : ¬ ((5 : Int32) < 0 ∨ cl247.slots.size ≤ ((5 : Int32)).toNatClampNeg) := inb_of Sz247 ⟨by decide, by decide⟩
  obtain ⟨T249, h249, X249, e249, W249, st249⟩ := stI X243 hx hZ e243 Ar247 (j := (5 : Int32)) hin248 (g := (mkF m 146 #[iv p0_0, .val (.long oc), .second, rv b1, .unset, .unset, .unset, .unset] [(.int (-1 : Int32)), (.int (5 : Int32)), (.ref b176), (.ref b176)])) rfl rfl (hb hby at_146)
  have K250 : Keep h0 h249 [] := (K244).wr W249 (Or.inr bz214)
  have f251 : Av Z h249 b176 .int (17 : Int32) [(.int (-1 : Int32)), (.int (4 : Int32)), (.int (-1 : Int32)), (.int (1 : Int32)), (.int (1 : Int32)), (.int (-1 : Int32)), (.int (0 : Int32)), (.int (0 : Int32)), (.int (0 : Int32)), (.int (0 : Int32)), (.int (0 : Int32)), (.int (0 : Int32)), (.int (0 : Int32)), (.int (0 : Int32)), (.int (0 : Int32)), (.int (0 : Int32)), (.int (0 : Int32))] (.int (0 : Int32)) := ⟨_, Arv.set Ar247 qq247 Sz247 Nn247 Hs247 Gf247 rfl W249 5 rfl (Nat.le_of_ble_eq_true rfl)⟩
  have N252 := Fr.snoc X249 N246 g212
  obtain ⟨kk253, cl253, Ar253, qq253, Sz253, Nn253, Hs253, Gf253⟩ := id f251
  have hin254 : ¬ ((6 : Int32) < 0 ∨ cl253.slots.size ≤ ((6 : Int32)).toNatClampNeg) := inb_of Sz253 ⟨by decide, by decide⟩
  obtain ⟨T255, h255, X255, e255, W255, st255⟩ := stI X249 hx hZ e249 Ar253 (j := (6 : Int32)) hin254 (g := (mkF m 151 #[iv p0_0, .val (.long oc), .second, rv b1, .unset, .unset, .unset, .unset] [(.int (-1 : Int32)), (.int (6 : Int32)), (.ref b176), (.ref b176)])) rfl rfl (hb hby at_151)
  have K256 : Keep h0 h255 [] := (K250).wr W255 (Or.inr bz214)
  have f257 : Av Z h255 b176 .int (17 : Int32) [(.int (-1 : Int32)), (.int (4 : Int32)), (.int (-1 : Int32)), (.int (1 : Int32)), (.int (1 : Int32)), (.int (-1 : Int32)), (.int (-1 : Int32)), (.int (0 : Int32)), (.int (0 : Int32)), (.int (0 : Int32)), (.int (0 : Int32)), (.int (0 : Int32)), (.int (0 : Int32)), (.int (0 : Int32)), (.int (0 : Int32)), (.int (0 : Int32)), (.int (0 : Int32))] (.int (0 : Int32)) := ⟨_, Arv.set Ar253 qq253 Sz253 Nn253 Hs253 Gf253 rfl W255 6 rfl (Nat.le_of_ble_eq_true rfl)⟩
  have N258 := Fr.snoc X255 N252 g212
  obtain ⟨kk259, cl259, Ar259, qq259, Sz259, Nn259, Hs259, Gf259⟩ := id f257
  have hin260 : ¬ ((7 : Int32) < 0 ∨ cl259.slots.size ≤ ((7 : Int32)).toNatClampNeg) := inb_of Sz259 ⟨by decide, by decide⟩
  obtain ⟨T261, h261, X261, e261, W261, st261⟩ := stI X255 hx hZ e255 Ar259 (j := (7 : Int32)) hin260 (g := (mkF m 156 #[iv p0_0, .val (.long oc), .second, rv b1, .unset, .unset, .unset, .unset] [(.int (3 : Int32)), (.int (7 : Int32)), (.ref b176), (.ref b176)])) rfl rfl (hb hby at_156)
  have K262 : Keep h0 h261 [] := (K256).wr W261 (Or.inr bz214)
  have f263 : Av Z h261 b176 .int (17 : Int32) [(.int (-1 : Int32)), (.int (4 : Int32)), (.int (-1 : Int32)), (.int (1 : Int32)), (.int (1 : Int32)), (.int (-1 : Int32)), (.int (-1 : Int32)), (.int (3 : Int32)), (.int (0 : Int32)), (.int (0 : Int32)), (.int (0 : Int32)), (.int (0 : Int32)), (.int (0 : Int32)), (.int (0 : Int32)), (.int (0 : Int32)), (.int (0 : Int32)), (.int (0 : Int32))] (.int (0 : Int32)) := ⟨_, Arv.set Ar259 qq259 Sz259 Nn259 Hs259 Gf259 rfl W261 7 rfl (Nat.le_of_ble_eq_true rfl)⟩
  have N264 := Fr.snoc X261 N258 g212
  obtain ⟨kk265, cl265, Ar265, qq265, Sz265, Nn265, Hs265, Gf265⟩ := id f263
  have hin266 : ¬ ((8 : Int32) < 0 ∨ cl265.slots.size ≤ ((8 : Int32)).toNatClampNeg) := inb_of Sz265 ⟨by decide, by decide⟩
  obtain ⟨T267, h267, X267, e267, W267, st267⟩ := stI X261 hx hZ e261 Ar265 (j := (8 : Int32)) hin266 (g := (mkF m 161 #[iv p0_0, .val (.long oc), .second, rv b1, .unset, .unset, .unset, .unset] [(.int (-1 : Int32)), (.int (8 : Int32)), (.ref b176), (.ref b176)])) rfl rfl (hb hby at_161)
  have K268 : Keep h0 h267 [] := (K262).wr W267 (Or.inr bz214)
  have f269 : Av Z h267 b176 .int (17 : Int32) [(.int (-1 : Int32)), (.int (4 : Int32)), (.int (-1 : Int32)), (.int (1 : Int32)), (.int (1 : Int32)), (.int (-1 : Int32)), (.int (-1 : Int32)), (.int (3 : Int32)), (.int (-1 : Int32)), (.int (0 : Int32)), (.int (0 : Int32)), (.int (0 : Int32)), (.int (0 : Int32)), (.int (0 : Int32)), (.int (0 : Int32)), (.int (0 : Int32)), (.int (0 : Int32))] (.int (0 : Int32)) := ⟨_, Arv.set Ar265 qq265 Sz265 Nn265 Hs265 Gf265 rfl W267 8 rfl (Nat.le_of_ble_eq_true rfl)⟩
  have N270 := Fr.snoc X267 N264 g212
  obtain ⟨kk271, cl271, Ar271, qq271, Sz271, Nn271, Hs271, Gf271⟩ := id f269
  have hin272 : ¬ ((9 : Int32) < 0 ∨ cl271.slots.size ≤ ((9 : Int32)).toNatClampNeg) := inb_of Sz271 ⟨by decide, by decide⟩
  obtain ⟨T273, h273, X273, e273, W273, st273⟩ := stI X267 hx hZ e267 Ar271 (j := (9 : Int32)) hin272 (g := (mkF m 166 #[iv p0_0, .val (.long oc), .second, rv b1, .unset, .unset, .unset, .unset] [(.int (0 : Int32)), (.int (9 : Int32)), (.ref b176), (.ref b176)])) rfl rfl (hb hby at_166)
  have K274 : Keep h0 h273 [] := (K268).wr W273 (Or.inr bz214)
  have f275 : Av Z h273 b176 .int (17 : Int32) [(.int (-1 : Int32)), (.int (4 : Int32)), (.int (-1 : Int32)), (.int (1 : Int32)), (.int (1 : Int32)), (.int (-1 : Int32)), (.int (-1 : Int32)), (.int (3 : Int32)), (.int (-1 : Int32)), (.int (0 : Int32)), (.int (0 : Int32)), (.int (0 : Int32)), (.int (0 : Int32)), (.int (0 : Int32)), (.int (0 : Int32)), (.int (0 : Int32)), (.int (0 : Int32))] (.int (0 : Int32)) := ⟨_, Arv.set Ar271 qq271 Sz271 Nn271 Hs271 Gf271 rfl W273 9 rfl (Nat.le_of_ble_eq_true rfl)⟩
  have N276 := Fr.snoc X273 N270 g212
  obtain ⟨kk277, cl277, Ar277, qq277, Sz277, Nn277, Hs277, Gf277⟩ := id f275
  have hin278 : ¬ ((10 : Int32) < 0 ∨ cl277.slots.size ≤ ((10 : Int32)).toNatClampNeg) := inb_of Sz277 ⟨by decide, by decide⟩
  obtain ⟨T279, h279, X279, e279, W279, st279⟩ := stI X273 hx hZ e273 Ar277 (j := (10 : Int32)) hin278 (g := (mkF m 171 #[iv p0_0, .val (.long oc), .second, rv b1, .unset, .unset, .unset, .unset] [(.int (-1 : Int32)), (.int (10 : Int32)), (.ref b176), (.ref b176)])) rfl rfl (hb hby at_171)
  have K280 : Keep h0 h279 [] := (K274).wr W279 (Or.inr bz214)
  have f281 : Av Z h279 b176 .int (17 : Int32) [(.int (-1 : Int32)), (.int (4 : Int32)), (.int (-1 : Int32)), (.int (1 : Int32)), (.int (1 : Int32)), (.int (-1 : Int32)), (.int (-1 : Int32)), (.int (3 : Int32)), (.int (-1 : Int32)), (.int (0 : Int32)), (.int (-1 : Int32)), (.int (0 : Int32)), (.int (0 : Int32)), (.int (0 : Int32)), (.int (0 : Int32)), (.int (0 : Int32)), (.int (0 : Int32))] (.int (0 : Int32)) := ⟨_, Arv.set Ar277 qq277 Sz277 Nn277 Hs277 Gf277 rfl W279 10 rfl (Nat.le_of_ble_eq_true rfl)⟩
  have N282 := Fr.snoc X279 N276 g212
  obtain ⟨kk283, cl283, Ar283, qq283, Sz283, Nn283, Hs283, Gf283⟩ := id f281
  have hin284 : ¬ ((11 : Int32) < 0 ∨ cl283.slots.size ≤ ((11 : Int32)).toNatClampNeg) := inb_of Sz283 ⟨by decide, by decide⟩
  obtain ⟨T285, h285, X285, e285, W285, st285⟩ := stI X279 hx hZ e279 Ar283 (j := (11 : Int32)) hin284 (g := (mkF m 176 #[iv p0_0, .val (.long oc), .second, rv b1, .unset, .unset, .unset, .unset] [(.int (-1 : Int32)), (.int (11 : Int32)), (.ref b176), (.ref b176)])) rfl rfl (hb hby at_176)
  have K286 : Keep h0 h285 [] := (K280).wr W285 (Or.inr bz214)
  have f287 : Av Z h285 b176 .int (17 : Int32) [(.int (-1 : Int32)), (.int (4 : Int32)), (.int (-1 : Int32)), (.int (1 : Int32)), (.int (1 : Int32)), (.int (-1 : Int32)), (.int (-1 : Int32)), (.int (3 : Int32)), (.int (-1 : Int32)), (.int (0 : Int32)), (.int (-1 : Int32)), (.int (-1 : Int32)), (.int (0 : Int32)), (.int (0 : Int32)), (.int (0 : Int32)), (.int (0 : Int32)), (.int (0 : Int32))] (.int (0 : Int32)) := ⟨_, Arv.set Ar283 qq283 Sz283 Nn283 Hs283 Gf283 rfl W285 11 rfl (Nat.le_of_ble_eq_true rfl)⟩
  have N288 := Fr.snoc X285 N282 g212
  obtain ⟨kk289, cl289, Ar289, qq289, Sz289, Nn289, Hs289, Gf289⟩ := id f287
  have hin290 : ¬ ((12 : Int32) < 0 ∨ cl289.slots.size ≤ ((12 : Int32)).toNatClampNeg) := inb_of Sz289 ⟨by decide, by decide⟩
  obtain ⟨T291, h291, X291, e291, W291, st291⟩ := stI X285 hx hZ e285 Ar289 (j := (12 : Int32)) hin290 (g := (mkF m 181 #[iv p0_0, .val (.long oc), .second, rv b1, .unset, .unset, .unset, .unset] [(.int (-1 : Int32)), (.int (12 : Int32)), (.ref b176), (.ref b176)])) rfl rfl (hb hby at_181)
  have K292 : Keep h0 h291 [] := (K286).wr W291 (Or.inr bz214)
  have f293 : Av Z h291 b176 .int (17 : Int32) [(.int (-1 : Int32)), (.int (4 : Int32)), (.int (-1 : Int32)), (.int (1 : Int32)), (.int (1 : Int32)), (.int (-1 : Int32)), (.int (-1 : Int32)), (.int (3 : Int32)), (.int (-1 : Int32)), (.int (0 : Int32)), (.int (-1 : Int32)), (.int (-1 : Int32)), (.int (-1 : Int32)), (.int (0 : Int32)), (.int (0 : Int32)), (.int (0 : Int32)), (.int (0 : Int32))] (.int (0 : Int32)) := ⟨_, Arv.set Ar289 qq289 Sz289 Nn289 Hs289 Gf289 rfl W291 12 rfl (Nat.le_of_ble_eq_true rfl)⟩
  have N294 := Fr.snoc X291 N288 g212
  obtain ⟨kk295, cl295, Ar295, qq295, Sz295, Nn295, Hs295, Gf295⟩ := id f293
  have hin296 : ¬ ((13 : Int32) < 0 ∨ cl295.slots.size ≤ ((13 : Int32)).toNatClampNeg) := inb_of Sz295 ⟨by decide, by decide⟩
  obtain ⟨T297, h297, X297, e297, W297, st297⟩ := stI X291 hx hZ e291 Ar295 (j := (13 : Int32)) hin296 (g := (mkF m 186 #[iv p0_0, .val (.long oc), .second, rv b1, .unset, .unset, .unset, .unset] [(.int (5 : Int32)), (.int (13 : Int32)), (.ref b176), (.ref b176)])) rfl rfl (hb hby at_186)
  have K298 : Keep h0 h297 [] := (K292).wr W297 (Or.inr bz214)
  have f299 : Av Z h297 b176 .int (17 : Int32) [(.int (-1 : Int32)), (.int (4 : Int32)), (.int (-1 : Int32)), (.int (1 : Int32)), (.int (1 : Int32)), (.int (-1 : Int32)), (.int (-1 : Int32)), (.int (3 : Int32)), (.int (-1 : Int32)), (.int (0 : Int32)), (.int (-1 : Int32)), (.int (-1 : Int32)), (.int (-1 : Int32)), (.int (5 : Int32)), (.int (0 : Int32)), (.int (0 : Int32)), (.int (0 : Int32))] (.int (0 : Int32)) := ⟨_, Arv.set Ar295 qq295 Sz295 Nn295 Hs295 Gf295 rfl W297 13 rfl (Nat.le_of_ble_eq_true rfl)⟩
  have N300 := Fr.snoc X297 N294 g212
  obtain ⟨kk301, cl301, Ar301, qq301, Sz301, Nn301, Hs301, Gf301⟩ := id f299
  have hin302 : ¬ ((14 : Int32) < 0 ∨ cl301.slots.size ≤ ((14 : Int32)).toNatClampNeg) := inb_of Sz301 ⟨by decide, by decide⟩
  obtain ⟨T303, h303, X303, e303, W303, st303⟩ := stI X297 hx hZ e297 Ar301 (j := (14 : Int32)) hin302 (g := (mkF m 191 #[iv p0_0, .val (.long oc), .second, rv b1, .unset, .unset, .unset, .unset] [(.int (2 : Int32)), (.int (14 : Int32)), (.ref b176), (.ref b176)])) rfl rfl (hb hby at_191)
  have K304 : Keep h0 h303 [] := (K298).wr W303 (Or.inr bz214)
  have f305 : Av Z h303 b176 .int (17 : Int32) [(.int (-1 : Int32)), (.int (4 : Int32)), (.int (-1 : Int32)), (.int (1 : Int32)), (.int (1 : Int32)), (.int (-1 : Int32)), (.int (-1 : Int32)), (.int (3 : Int32)), (.int (-1 : Int32)), (.int (0 : Int32)), (.int (-1 : Int32)), (.int (-1 : Int32)), (.int (-1 : Int32)), (.int (5 : Int32)), (.int (2 : Int32)), (.int (0 : Int32)), (.int (0 : Int32))] (.int (0 : Int32)) := ⟨_, Arv.set Ar301 qq301 Sz301 Nn301 Hs301 Gf301 rfl W303 14 rfl (Nat.le_of_ble_eq_true rfl)⟩
  have N306 := Fr.snoc X303 N300 g212
  obtain ⟨kk307, cl307, Ar307, qq307, Sz307, Nn307, Hs307, Gf307⟩ := id f305
  have hin308 : ¬ ((15 : Int32) < 0 ∨ cl307.slots.size ≤ ((15 : Int32)).toNatClampNeg) := inb_of Sz307 ⟨by decide, by decide⟩
  obtain ⟨T309, h309, X309, e309, W309, st309⟩ := stI X303 hx hZ e303 Ar307 (j := (15 : Int32)) hin308 (g := (mkF m 196 #[iv p0_0, .val (.long oc), .second, rv b1, .unset, .unset, .unset, .unset] [(.int (2 : Int32)), (.int (15 : Int32)), (.ref b176), (.ref b176)])) rfl rfl (hb hby at_196)
  have K310 : Keep h0 h309 [] := (K304).wr W309 (Or.inr bz214)
  have f311 : Av Z h309 b176 .int (17 : Int32) [(.int (-1 : Int32)), (.int (4 : Int32)), (.int (-1 : Int32)), (.int (1 : Int32)), (.int (1 : Int32)), (.int (-1 : Int32)), (.int (-1 : Int32)), (.int (3 : Int32)), (.int (-1 : Int32)), (.int (0 : Int32)), (.int (-1 : Int32)), (.int (-1 : Int32)), (.int (-1 : Int32)), (.int (5 : Int32)), (.int (2 : Int32)), (.int (2 : Int32)), (.int (0 : Int32))] (.int (0 : Int32)) := ⟨_, Arv.set Ar307 qq307 Sz307 Nn307 Hs307 Gf307 rfl W309 15 rfl (Nat.le_of_ble_eq_true rfl)⟩
  have N312 := Fr.snoc X309 N306 g212
  obtain ⟨kk313, cl313, Ar313, qq313, Sz313, Nn313, Hs313, Gf313⟩ := id f311
  have hin314 : ¬ ((16 : Int32) < 0 ∨ cl313.slots.size ≤ ((16 : Int32)).toNatClampNeg) := inb_of Sz313 ⟨by decide, by decide⟩
  obtain ⟨T315, h315, X315, e315, W315, st315⟩ := stI X309 hx hZ e309 Ar313 (j := (16 : Int32)) hin314 (g := (mkF m 201 #[iv p0_0, .val (.long oc), .second, rv b1, .unset, .unset, .unset, .unset] [(.int (-1 : Int32)), (.int (16 : Int32)), (.ref b176), (.ref b176)])) rfl rfl (hb hby at_201)
  have K316 : Keep h0 h315 [] := (K310).wr W315 (Or.inr bz214)
  have f317 : Av Z h315 b176 .int (17 : Int32) [(.int (-1 : Int32)), (.int (4 : Int32)), (.int (-1 : Int32)), (.int (1 : Int32)), (.int (1 : Int32)), (.int (-1 : Int32)), (.int (-1 : Int32)), (.int (3 : Int32)), (.int (-1 : Int32)), (.int (0 : Int32)), (.int (-1 : Int32)), (.int (-1 : Int32)), (.int (-1 : Int32)), (.int (5 : Int32)), (.int (2 : Int32)), (.int (2 : Int32)), (.int (-1 : Int32))] (.int (0 : Int32)) := ⟨_, Arv.set Ar313 qq313 Sz313 Nn313 Hs313 Gf313 rfl W315 16 rfl (Nat.le_of_ble_eq_true rfl)⟩
  have N318 := Fr.snoc X315 N312 g212
  obtain ⟨i, h_i⟩ : ∃ z : Int32, z = ((p0_0 &&& (2147483647 : Int32)) % (17 : Int32)) := ⟨_, rfl⟩
  have hi : 0 ≤ i.toInt ∧ i.toInt < 17 := by rw [h_i]; exact own_mod17 _
  have pre319 : ∀ t, Steps p.tables e below (T315.setTop (mkF m 213 #[iv p0_0, .val (.long oc), .second, rv b1, rv b176, iv i, .unset, .unset] [])) t → Steps p.tables e below (s₁.setTop (entryFrame m #[(.int p0_0), (.long oc)] maxLocals)) t := by
    intro t_ k_
    refine pre0 _ ?_
    show Steps p.tables e below (s₁.setTop (mkF m 0 #[iv p0_0, .val (.long oc), .second, .unset, .unset, .unset, .unset, .unset] [])) _
    refine XS.bipush X0.here hx rfl (hb hby at_0) ?_
    show Steps p.tables e below (s₁.setTop (mkF m 2 #[iv p0_0, .val (.long oc), .second, .unset, .unset, .unset, .unset, .unset] [(.int (17 : Int32))])) _
    refine st1 _ ?_
    show Steps p.tables e below (T1.setTop (mkF m 5 #[iv p0_0, .val (.long oc), .second, .unset, .unset, .unset, .unset, .unset] [(.ref b1)])) _
    refine XS.dup X1.here hx rfl (hb hby at_5) rfl rfl ?_
    show Steps p.tables e below (T1.setTop (mkF m 6 #[iv p0_0, .val (.long oc), .second, .unset, .unset, .unset, .unset, .unset] [(.ref b1), (.ref b1)])) _
    refine XS.iconst X1.here hx rfl (hb hby at_6) ?_
    show Steps p.tables e below (T1.setTop (mkF m 7 #[iv p0_0, .val (.long oc), .second, .unset, .unset, .unset, .unset, .unset] [(.int (0 : Int32)), (.ref b1), (.ref b1)])) _
    refine st24 _ ?_
    show Steps p.tables e below (T24.setTop (mkF m 10 #[iv p0_0, .val (.long oc), .second, .unset, .unset, .unset, .unset, .unset] [(.ref s_READ), (.int (0 : Int32)), (.ref b1), (.ref b1)])) _
    refine st28 _ ?_
    show Steps p.tables e below (T28.setTop (mkF m 11 #[iv p0_0, .val (.long oc), .second, .unset, .unset, .unset, .unset, .unset] [(.ref b1)])) _
    refine XS.dup X28.here hx rfl (hb hby at_11) rfl rfl ?_
    show Steps p.tables e below (T28.setTop (mkF m 12 #[iv p0_0, .val (.long oc), .second, .unset, .unset, .unset, .unset, .unset] [(.ref b1), (.ref b1)])) _
    refine XS.iconst X28.here hx rfl (hb hby at_12) ?_
    show Steps p.tables e below (T28.setTop (mkF m 13 #[iv p0_0, .val (.long oc), .second, .unset, .unset, .unset, .unset, .unset] [(.int (1 : Int32)), (.ref b1), (.ref b1)])) _
    refine st33 _ ?_
    show Steps p.tables e below (T33.setTop (mkF m 16 #[iv p0_0, .val (.long oc), .second, .unset, .unset, .unset, .unset, .unset] [(.ref s_COPYBACK_READ), (.int (1 : Int32)), (.ref b1), (.ref b1)])) _
    refine st37 _ ?_
    show Steps p.tables e below (T37.setTop (mkF m 17 #[iv p0_0, .val (.long oc), .second, .unset, .unset, .unset, .unset, .unset] [(.ref b1)])) _
    refine XS.dup X37.here hx rfl (hb hby at_17) rfl rfl ?_
    show Steps p.tables e below (T37.setTop (mkF m 18 #[iv p0_0, .val (.long oc), .second, .unset, .unset, .unset, .unset, .unset] [(.ref b1), (.ref b1)])) _
    refine XS.iconst X37.here hx rfl (hb hby at_18) ?_
    show Steps p.tables e below (T37.setTop (mkF m 19 #[iv p0_0, .val (.long oc), .second, .unset, .unset, .unset, .unset, .unset] [(.int (2 : Int32)), (.ref b1), (.ref b1)])) _
    refine st42 _ ?_
    show Steps p.tables e below (T42.setTop (mkF m 22 #[iv p0_0, .val (.long oc), .second, .unset, .unset, .unset, .unset, .unset] [(.ref s_CHANGE_READ_COLUMN), (.int (2 : Int32)), (.ref b1), (.ref b1)])) _
    refine st46 _ ?_
    show Steps p.tables e below (T46.setTop (mkF m 23 #[iv p0_0, .val (.long oc), .second, .unset, .unset, .unset, .unset, .unset] [(.ref b1)])) _
    refine XS.dup X46.here hx rfl (hb hby at_23) rfl rfl ?_
    show Steps p.tables e below (T46.setTop (mkF m 24 #[iv p0_0, .val (.long oc), .second, .unset, .unset, .unset, .unset, .unset] [(.ref b1), (.ref b1)])) _
    refine XS.iconst X46.here hx rfl (hb hby at_24) ?_
    show Steps p.tables e below (T46.setTop (mkF m 25 #[iv p0_0, .val (.long oc), .second, .unset, .unset, .unset, .unset, .unset] [(.int (3 : Int32)), (.ref b1), (.ref b1)])) _
    refine st51 _ ?_
    show Steps p.tables e below (T51.setTop (mkF m 28 #[iv p0_0, .val (.long oc), .second, .unset, .unset, .unset, .unset, .unset] [(.ref s_READ_CACHE), (.int (3 : Int32)), (.ref b1), (.ref b1)])) _
    refine st55 _ ?_
    show Steps p.tables e below (T55.setTop (mkF m 29 #[iv p0_0, .val (.long oc), .second, .unset, .unset, .unset, .unset, .unset] [(.ref b1)])) _
    refine XS.dup X55.here hx rfl (hb hby at_29) rfl rfl ?_
    show Steps p.tables e below (T55.setTop (mkF m 30 #[iv p0_0, .val (.long oc), .second, .unset, .unset, .unset, .unset, .unset] [(.ref b1), (.ref b1)])) _
    refine XS.iconst X55.here hx rfl (hb hby at_30) ?_
    show Steps p.tables e below (T55.setTop (mkF m 31 #[iv p0_0, .val (.long oc), .second, .unset, .unset, .unset, .unset, .unset] [(.int (4 : Int32)), (.ref b1), (.ref b1)])) _
    refine st60 _ ?_
    show Steps p.tables e below (T60.setTop (mkF m 34 #[iv p0_0, .val (.long oc), .second, .unset, .unset, .unset, .unset, .unset] [(.ref s_READ_CACHE_END), (.int (4 : Int32)), (.ref b1), (.ref b1)])) _
    refine st64 _ ?_
    show Steps p.tables e below (T64.setTop (mkF m 35 #[iv p0_0, .val (.long oc), .second, .unset, .unset, .unset, .unset, .unset] [(.ref b1)])) _
    refine XS.dup X64.here hx rfl (hb hby at_35) rfl rfl ?_
    show Steps p.tables e below (T64.setTop (mkF m 36 #[iv p0_0, .val (.long oc), .second, .unset, .unset, .unset, .unset, .unset] [(.ref b1), (.ref b1)])) _
    refine XS.iconst X64.here hx rfl (hb hby at_36) ?_
    show Steps p.tables e below (T64.setTop (mkF m 37 #[iv p0_0, .val (.long oc), .second, .unset, .unset, .unset, .unset, .unset] [(.int (5 : Int32)), (.ref b1), (.ref b1)])) _
    refine st69 _ ?_
    show Steps p.tables e below (T69.setTop (mkF m 40 #[iv p0_0, .val (.long oc), .second, .unset, .unset, .unset, .unset, .unset] [(.ref s_BLOCK_ERASE), (.int (5 : Int32)), (.ref b1), (.ref b1)])) _
    refine st73 _ ?_
    show Steps p.tables e below (T73.setTop (mkF m 41 #[iv p0_0, .val (.long oc), .second, .unset, .unset, .unset, .unset, .unset] [(.ref b1)])) _
    refine XS.dup X73.here hx rfl (hb hby at_41) rfl rfl ?_
    show Steps p.tables e below (T73.setTop (mkF m 42 #[iv p0_0, .val (.long oc), .second, .unset, .unset, .unset, .unset, .unset] [(.ref b1), (.ref b1)])) _
    refine XS.bipush X73.here hx rfl (hb hby at_42) ?_
    show Steps p.tables e below (T73.setTop (mkF m 44 #[iv p0_0, .val (.long oc), .second, .unset, .unset, .unset, .unset, .unset] [(.int (6 : Int32)), (.ref b1), (.ref b1)])) _
    refine st78 _ ?_
    show Steps p.tables e below (T78.setTop (mkF m 47 #[iv p0_0, .val (.long oc), .second, .unset, .unset, .unset, .unset, .unset] [(.ref s_READ_STATUS), (.int (6 : Int32)), (.ref b1), (.ref b1)])) _
    refine st82 _ ?_
    show Steps p.tables e below (T82.setTop (mkF m 48 #[iv p0_0, .val (.long oc), .second, .unset, .unset, .unset, .unset, .unset] [(.ref b1)])) _
    refine XS.dup X82.here hx rfl (hb hby at_48) rfl rfl ?_
    show Steps p.tables e below (T82.setTop (mkF m 49 #[iv p0_0, .val (.long oc), .second, .unset, .unset, .unset, .unset, .unset] [(.ref b1), (.ref b1)])) _
    refine XS.bipush X82.here hx rfl (hb hby at_49) ?_
    show Steps p.tables e below (T82.setTop (mkF m 51 #[iv p0_0, .val (.long oc), .second, .unset, .unset, .unset, .unset, .unset] [(.int (7 : Int32)), (.ref b1), (.ref b1)])) _
    refine st87 _ ?_
    show Steps p.tables e below (T87.setTop (mkF m 54 #[iv p0_0, .val (.long oc), .second, .unset, .unset, .unset, .unset, .unset] [(.ref s_READ_STATUS_ENHANCED), (.int (7 : Int32)), (.ref b1), (.ref b1)])) _
    refine st91 _ ?_
    show Steps p.tables e below (T91.setTop (mkF m 55 #[iv p0_0, .val (.long oc), .second, .unset, .unset, .unset, .unset, .unset] [(.ref b1)])) _
    refine XS.dup X91.here hx rfl (hb hby at_55) rfl rfl ?_
    show Steps p.tables e below (T91.setTop (mkF m 56 #[iv p0_0, .val (.long oc), .second, .unset, .unset, .unset, .unset, .unset] [(.ref b1), (.ref b1)])) _
    refine XS.bipush X91.here hx rfl (hb hby at_56) ?_
    show Steps p.tables e below (T91.setTop (mkF m 58 #[iv p0_0, .val (.long oc), .second, .unset, .unset, .unset, .unset, .unset] [(.int (8 : Int32)), (.ref b1), (.ref b1)])) _
    refine st96 _ ?_
    show Steps p.tables e below (T96.setTop (mkF m 61 #[iv p0_0, .val (.long oc), .second, .unset, .unset, .unset, .unset, .unset] [(.ref s_PAGE_PROGRAM), (.int (8 : Int32)), (.ref b1), (.ref b1)])) _
    refine st100 _ ?_
    show Steps p.tables e below (T100.setTop (mkF m 62 #[iv p0_0, .val (.long oc), .second, .unset, .unset, .unset, .unset, .unset] [(.ref b1)])) _
    refine XS.dup X100.here hx rfl (hb hby at_62) rfl rfl ?_
    show Steps p.tables e below (T100.setTop (mkF m 63 #[iv p0_0, .val (.long oc), .second, .unset, .unset, .unset, .unset, .unset] [(.ref b1), (.ref b1)])) _
    refine XS.bipush X100.here hx rfl (hb hby at_63) ?_
    show Steps p.tables e below (T100.setTop (mkF m 65 #[iv p0_0, .val (.long oc), .second, .unset, .unset, .unset, .unset, .unset] [(.int (9 : Int32)), (.ref b1), (.ref b1)])) _
    refine st105 _ ?_
    show Steps p.tables e below (T105.setTop (mkF m 68 #[iv p0_0, .val (.long oc), .second, .unset, .unset, .unset, .unset, .unset] [(.ref s_PAGE_CACHE_PROGRAM), (.int (9 : Int32)), (.ref b1), (.ref b1)])) _
    refine st109 _ ?_
    show Steps p.tables e below (T109.setTop (mkF m 69 #[iv p0_0, .val (.long oc), .second, .unset, .unset, .unset, .unset, .unset] [(.ref b1)])) _
    refine XS.dup X109.here hx rfl (hb hby at_69) rfl rfl ?_
    show Steps p.tables e below (T109.setTop (mkF m 70 #[iv p0_0, .val (.long oc), .second, .unset, .unset, .unset, .unset, .unset] [(.ref b1), (.ref b1)])) _
    refine XS.bipush X109.here hx rfl (hb hby at_70) ?_
    show Steps p.tables e below (T109.setTop (mkF m 72 #[iv p0_0, .val (.long oc), .second, .unset, .unset, .unset, .unset, .unset] [(.int (10 : Int32)), (.ref b1), (.ref b1)])) _
    refine st114 _ ?_
    show Steps p.tables e below (T114.setTop (mkF m 75 #[iv p0_0, .val (.long oc), .second, .unset, .unset, .unset, .unset, .unset] [(.ref s_CHANGE_WRITE_COLUMN), (.int (10 : Int32)), (.ref b1), (.ref b1)])) _
    refine st118 _ ?_
    show Steps p.tables e below (T118.setTop (mkF m 76 #[iv p0_0, .val (.long oc), .second, .unset, .unset, .unset, .unset, .unset] [(.ref b1)])) _
    refine XS.dup X118.here hx rfl (hb hby at_76) rfl rfl ?_
    show Steps p.tables e below (T118.setTop (mkF m 77 #[iv p0_0, .val (.long oc), .second, .unset, .unset, .unset, .unset, .unset] [(.ref b1), (.ref b1)])) _
    refine XS.bipush X118.here hx rfl (hb hby at_77) ?_
    show Steps p.tables e below (T118.setTop (mkF m 79 #[iv p0_0, .val (.long oc), .second, .unset, .unset, .unset, .unset, .unset] [(.int (11 : Int32)), (.ref b1), (.ref b1)])) _
    refine st123 _ ?_
    show Steps p.tables e below (T123.setTop (mkF m 82 #[iv p0_0, .val (.long oc), .second, .unset, .unset, .unset, .unset, .unset] [(.ref s_READ_ID), (.int (11 : Int32)), (.ref b1), (.ref b1)])) _
    refine st127 _ ?_
    show Steps p.tables e below (T127.setTop (mkF m 83 #[iv p0_0, .val (.long oc), .second, .unset, .unset, .unset, .unset, .unset] [(.ref b1)])) _
    refine XS.dup X127.here hx rfl (hb hby at_83) rfl rfl ?_
    show Steps p.tables e below (T127.setTop (mkF m 84 #[iv p0_0, .val (.long oc), .second, .unset, .unset, .unset, .unset, .unset] [(.ref b1), (.ref b1)])) _
    refine XS.bipush X127.here hx rfl (hb hby at_84) ?_
    show Steps p.tables e below (T127.setTop (mkF m 86 #[iv p0_0, .val (.long oc), .second, .unset, .unset, .unset, .unset, .unset] [(.int (12 : Int32)), (.ref b1), (.ref b1)])) _
    refine st132 _ ?_
    show Steps p.tables e below (T132.setTop (mkF m 89 #[iv p0_0, .val (.long oc), .second, .unset, .unset, .unset, .unset, .unset] [(.ref s_READ_PARAMETER_PAGE), (.int (12 : Int32)), (.ref b1), (.ref b1)])) _
    refine st136 _ ?_
    show Steps p.tables e below (T136.setTop (mkF m 90 #[iv p0_0, .val (.long oc), .second, .unset, .unset, .unset, .unset, .unset] [(.ref b1)])) _
    refine XS.dup X136.here hx rfl (hb hby at_90) rfl rfl ?_
    show Steps p.tables e below (T136.setTop (mkF m 91 #[iv p0_0, .val (.long oc), .second, .unset, .unset, .unset, .unset, .unset] [(.ref b1), (.ref b1)])) _
    refine XS.bipush X136.here hx rfl (hb hby at_91) ?_
    show Steps p.tables e below (T136.setTop (mkF m 93 #[iv p0_0, .val (.long oc), .second, .unset, .unset, .unset, .unset, .unset] [(.int (13 : Int32)), (.ref b1), (.ref b1)])) _
    refine st141 _ ?_
    show Steps p.tables e below (T141.setTop (mkF m 96 #[iv p0_0, .val (.long oc), .second, .unset, .unset, .unset, .unset, .unset] [(.ref s_READ_UNIQUE_ID), (.int (13 : Int32)), (.ref b1), (.ref b1)])) _
    refine st145 _ ?_
    show Steps p.tables e below (T145.setTop (mkF m 97 #[iv p0_0, .val (.long oc), .second, .unset, .unset, .unset, .unset, .unset] [(.ref b1)])) _
    refine XS.dup X145.here hx rfl (hb hby at_97) rfl rfl ?_
    show Steps p.tables e below (T145.setTop (mkF m 98 #[iv p0_0, .val (.long oc), .second, .unset, .unset, .unset, .unset, .unset] [(.ref b1), (.ref b1)])) _
    refine XS.bipush X145.here hx rfl (hb hby at_98) ?_
    show Steps p.tables e below (T145.setTop (mkF m 100 #[iv p0_0, .val (.long oc), .second, .unset, .unset, .unset, .unset, .unset] [(.int (14 : Int32)), (.ref b1), (.ref b1)])) _
    refine st150 _ ?_
    show Steps p.tables e below (T150.setTop (mkF m 103 #[iv p0_0, .val (.long oc), .second, .unset, .unset, .unset, .unset, .unset] [(.ref s_GET_FEATURES), (.int (14 : Int32)), (.ref b1), (.ref b1)])) _
    refine st154 _ ?_
    show Steps p.tables e below (T154.setTop (mkF m 104 #[iv p0_0, .val (.long oc), .second, .unset, .unset, .unset, .unset, .unset] [(.ref b1)])) _
    refine XS.dup X154.here hx rfl (hb hby at_104) rfl rfl ?_
    show Steps p.tables e below (T154.setTop (mkF m 105 #[iv p0_0, .val (.long oc), .second, .unset, .unset, .unset, .unset, .unset] [(.ref b1), (.ref b1)])) _
    refine XS.bipush X154.here hx rfl (hb hby at_105) ?_
    show Steps p.tables e below (T154.setTop (mkF m 107 #[iv p0_0, .val (.long oc), .second, .unset, .unset, .unset, .unset, .unset] [(.int (15 : Int32)), (.ref b1), (.ref b1)])) _
    refine st159 _ ?_
    show Steps p.tables e below (T159.setTop (mkF m 110 #[iv p0_0, .val (.long oc), .second, .unset, .unset, .unset, .unset, .unset] [(.ref s_SET_FEATURES), (.int (15 : Int32)), (.ref b1), (.ref b1)])) _
    refine st163 _ ?_
    show Steps p.tables e below (T163.setTop (mkF m 111 #[iv p0_0, .val (.long oc), .second, .unset, .unset, .unset, .unset, .unset] [(.ref b1)])) _
    refine XS.dup X163.here hx rfl (hb hby at_111) rfl rfl ?_
    show Steps p.tables e below (T163.setTop (mkF m 112 #[iv p0_0, .val (.long oc), .second, .unset, .unset, .unset, .unset, .unset] [(.ref b1), (.ref b1)])) _
    refine XS.bipush X163.here hx rfl (hb hby at_112) ?_
    show Steps p.tables e below (T163.setTop (mkF m 114 #[iv p0_0, .val (.long oc), .second, .unset, .unset, .unset, .unset, .unset] [(.int (16 : Int32)), (.ref b1), (.ref b1)])) _
    refine st168 _ ?_
    show Steps p.tables e below (T168.setTop (mkF m 117 #[iv p0_0, .val (.long oc), .second, .unset, .unset, .unset, .unset, .unset] [(.ref s_RESET), (.int (16 : Int32)), (.ref b1), (.ref b1)])) _
    refine st172 _ ?_
    show Steps p.tables e below (T172.setTop (mkF m 118 #[iv p0_0, .val (.long oc), .second, .unset, .unset, .unset, .unset, .unset] [(.ref b1)])) _
    refine XS.astoreN X172.here hx rfl (hb hby at_118) rfl rfl (l' := #[iv p0_0, .val (.long oc), .second, rv b1, .unset, .unset, .unset, .unset]) rfl ?_
    show Steps p.tables e below (T172.setTop (mkF m 119 #[iv p0_0, .val (.long oc), .second, rv b1, .unset, .unset, .unset, .unset] [])) _
    refine XS.bipush X172.here hx rfl (hb hby at_119) ?_
    show Steps p.tables e below (T172.setTop (mkF m 121 #[iv p0_0, .val (.long oc), .second, rv b1, .unset, .unset, .unset, .unset] [(.int (17 : Int32))])) _
    refine st176 _ ?_
    show Steps p.tables e below (T176.setTop (mkF m 123 #[iv p0_0, .val (.long oc), .second, rv b1, .unset, .unset, .unset, .unset] [(.ref b176)])) _
    refine XS.dup X176.here hx rfl (hb hby at_123) rfl rfl ?_
    show Steps p.tables e below (T176.setTop (mkF m 124 #[iv p0_0, .val (.long oc), .second, rv b1, .unset, .unset, .unset, .unset] [(.ref b176), (.ref b176)])) _
    refine XS.iconst X176.here hx rfl (hb hby at_124) ?_
    show Steps p.tables e below (T176.setTop (mkF m 125 #[iv p0_0, .val (.long oc), .second, rv b1, .unset, .unset, .unset, .unset] [(.int (0 : Int32)), (.ref b176), (.ref b176)])) _
    refine XS.iconst X176.here hx rfl (hb hby at_125) ?_
    show Steps p.tables e below (T176.setTop (mkF m 126 #[iv p0_0, .val (.long oc), .second, rv b1, .unset, .unset, .unset, .unset] [(.int (-1 : Int32)), (.int (0 : Int32)), (.ref b176), (.ref b176)])) _
    refine st219 _ ?_
    show Steps p.tables e below (T219.setTop (mkF m 127 #[iv p0_0, .val (.long oc), .second, rv b1, .unset, .unset, .unset, .unset] [(.ref b176)])) _
    refine XS.dup X219.here hx rfl (hb hby at_127) rfl rfl ?_
    show Steps p.tables e below (T219.setTop (mkF m 128 #[iv p0_0, .val (.long oc), .second, rv b1, .unset, .unset, .unset, .unset] [(.ref b176), (.ref b176)])) _
    refine XS.iconst X219.here hx rfl (hb hby at_128) ?_
    show Steps p.tables e below (T219.setTop (mkF m 129 #[iv p0_0, .val (.long oc), .second, rv b1, .unset, .unset, .unset, .unset] [(.int (1 : Int32)), (.ref b176), (.ref b176)])) _
    refine XS.iconst X219.here hx rfl (hb hby at_129) ?_
    show Steps p.tables e below (T219.setTop (mkF m 130 #[iv p0_0, .val (.long oc), .second, rv b1, .unset, .unset, .unset, .unset] [(.int (4 : Int32)), (.int (1 : Int32)), (.ref b176), (.ref b176)])) _
    refine st225 _ ?_
    show Steps p.tables e below (T225.setTop (mkF m 131 #[iv p0_0, .val (.long oc), .second, rv b1, .unset, .unset, .unset, .unset] [(.ref b176)])) _
    refine XS.dup X225.here hx rfl (hb hby at_131) rfl rfl ?_
    show Steps p.tables e below (T225.setTop (mkF m 132 #[iv p0_0, .val (.long oc), .second, rv b1, .unset, .unset, .unset, .unset] [(.ref b176), (.ref b176)])) _
    refine XS.iconst X225.here hx rfl (hb hby at_132) ?_
    show Steps p.tables e below (T225.setTop (mkF m 133 #[iv p0_0, .val (.long oc), .second, rv b1, .unset, .unset, .unset, .unset] [(.int (2 : Int32)), (.ref b176), (.ref b176)])) _
    refine XS.iconst X225.here hx rfl (hb hby at_133) ?_
    show Steps p.tables e below (T225.setTop (mkF m 134 #[iv p0_0, .val (.long oc), .second, rv b1, .unset, .unset, .unset, .unset] [(.int (-1 : Int32)), (.int (2 : Int32)), (.ref b176), (.ref b176)])) _
    refine st231 _ ?_
    show Steps p.tables e below (T231.setTop (mkF m 135 #[iv p0_0, .val (.long oc), .second, rv b1, .unset, .unset, .unset, .unset] [(.ref b176)])) _
    refine XS.dup X231.here hx rfl (hb hby at_135) rfl rfl ?_
    show Steps p.tables e below (T231.setTop (mkF m 136 #[iv p0_0, .val (.long oc), .second, rv b1, .unset, .unset, .unset, .unset] [(.ref b176), (.ref b176)])) _
    refine XS.iconst X231.here hx rfl (hb hby at_136) ?_
    show Steps p.tables e below (T231.setTop (mkF m 137 #[iv p0_0, .val (.long oc), .second, rv b1, .unset, .unset, .unset, .unset] [(.int (3 : Int32)), (.ref b176), (.ref b176)])) _
    refine XS.iconst X231.here hx rfl (hb hby at_137) ?_
    show Steps p.tables e below (T231.setTop (mkF m 138 #[iv p0_0, .val (.long oc), .second, rv b1, .unset, .unset, .unset, .unset] [(.int (1 : Int32)), (.int (3 : Int32)), (.ref b176), (.ref b176)])) _
    refine st237 _ ?_
    show Steps p.tables e below (T237.setTop (mkF m 139 #[iv p0_0, .val (.long oc), .second, rv b1, .unset, .unset, .unset, .unset] [(.ref b176)])) _
    refine XS.dup X237.here hx rfl (hb hby at_139) rfl rfl ?_
    show Steps p.tables e below (T237.setTop (mkF m 140 #[iv p0_0, .val (.long oc), .second, rv b1, .unset, .unset, .unset, .unset] [(.ref b176), (.ref b176)])) _
    refine XS.iconst X237.here hx rfl (hb hby at_140) ?_
    show Steps p.tables e below (T237.setTop (mkF m 141 #[iv p0_0, .val (.long oc), .second, rv b1, .unset, .unset, .unset, .unset] [(.int (4 : Int32)), (.ref b176), (.ref b176)])) _
    refine XS.iconst X237.here hx rfl (hb hby at_141) ?_
    show Steps p.tables e below (T237.setTop (mkF m 142 #[iv p0_0, .val (.long oc), .second, rv b1, .unset, .unset, .unset, .unset] [(.int (1 : Int32)), (.int (4 : Int32)), (.ref b176), (.ref b176)])) _
    refine st243 _ ?_
    show Steps p.tables e below (T243.setTop (mkF m 143 #[iv p0_0, .val (.long oc), .second, rv b1, .unset, .unset, .unset, .unset] [(.ref b176)])) _
    refine XS.dup X243.here hx rfl (hb hby at_143) rfl rfl ?_
    show Steps p.tables e below (T243.setTop (mkF m 144 #[iv p0_0, .val (.long oc), .second, rv b1, .unset, .unset, .unset, .unset] [(.ref b176), (.ref b176)])) _
    refine XS.iconst X243.here hx rfl (hb hby at_144) ?_
    show Steps p.tables e below (T243.setTop (mkF m 145 #[iv p0_0, .val (.long oc), .second, rv b1, .unset, .unset, .unset, .unset] [(.int (5 : Int32)), (.ref b176), (.ref b176)])) _
    refine XS.iconst X243.here hx rfl (hb hby at_145) ?_
    show Steps p.tables e below (T243.setTop (mkF m 146 #[iv p0_0, .val (.long oc), .second, rv b1, .unset, .unset, .unset, .unset] [(.int (-1 : Int32)), (.int (5 : Int32)), (.ref b176), (.ref b176)])) _
    refine st249 _ ?_
    show Steps p.tables e below (T249.setTop (mkF m 147 #[iv p0_0, .val (.long oc), .second, rv b1, .unset, .unset, .unset, .unset] [(.ref b176)])) _
    refine XS.dup X249.here hx rfl (hb hby at_147) rfl rfl ?_
    show Steps p.tables e below (T249.setTop (mkF m 148 #[iv p0_0, .val (.long oc), .second, rv b1, .unset, .unset, .unset, .unset] [(.ref b176), (.ref b176)])) _
    refine XS.bipush X249.here hx rfl (hb hby at_148) ?_
    show Steps p.tables e below (T249.setTop (mkF m 150 #[iv p0_0, .val (.long oc), .second, rv b1, .unset, .unset, .unset, .unset] [(.int (6 : Int32)), (.ref b176), (.ref b176)])) _
    refine XS.iconst X249.here hx rfl (hb hby at_150) ?_
    show Steps p.tables e below (T249.setTop (mkF m 151 #[iv p0_0, .val (.long oc), .second, rv b1, .unset, .unset, .unset, .unset] [(.int (-1 : Int32)), (.int (6 : Int32)), (.ref b176), (.ref b176)])) _
    refine st255 _ ?_
    show Steps p.tables e below (T255.setTop (mkF m 152 #[iv p0_0, .val (.long oc), .second, rv b1, .unset, .unset, .unset, .unset] [(.ref b176)])) _
    refine XS.dup X255.here hx rfl (hb hby at_152) rfl rfl ?_
    show Steps p.tables e below (T255.setTop (mkF m 153 #[iv p0_0, .val (.long oc), .second, rv b1, .unset, .unset, .unset, .unset] [(.ref b176), (.ref b176)])) _
    refine XS.bipush X255.here hx rfl (hb hby at_153) ?_
    show Steps p.tables e below (T255.setTop (mkF m 155 #[iv p0_0, .val (.long oc), .second, rv b1, .unset, .unset, .unset, .unset] [(.int (7 : Int32)), (.ref b176), (.ref b176)])) _
    refine XS.iconst X255.here hx rfl (hb hby at_155) ?_
    show Steps p.tables e below (T255.setTop (mkF m 156 #[iv p0_0, .val (.long oc), .second, rv b1, .unset, .unset, .unset, .unset] [(.int (3 : Int32)), (.int (7 : Int32)), (.ref b176), (.ref b176)])) _
    refine st261 _ ?_
    show Steps p.tables e below (T261.setTop (mkF m 157 #[iv p0_0, .val (.long oc), .second, rv b1, .unset, .unset, .unset, .unset] [(.ref b176)])) _
    refine XS.dup X261.here hx rfl (hb hby at_157) rfl rfl ?_
    show Steps p.tables e below (T261.setTop (mkF m 158 #[iv p0_0, .val (.long oc), .second, rv b1, .unset, .unset, .unset, .unset] [(.ref b176), (.ref b176)])) _
    refine XS.bipush X261.here hx rfl (hb hby at_158) ?_
    show Steps p.tables e below (T261.setTop (mkF m 160 #[iv p0_0, .val (.long oc), .second, rv b1, .unset, .unset, .unset, .unset] [(.int (8 : Int32)), (.ref b176), (.ref b176)])) _
    refine XS.iconst X261.here hx rfl (hb hby at_160) ?_
    show Steps p.tables e below (T261.setTop (mkF m 161 #[iv p0_0, .val (.long oc), .second, rv b1, .unset, .unset, .unset, .unset] [(.int (-1 : Int32)), (.int (8 : Int32)), (.ref b176), (.ref b176)])) _
    refine st267 _ ?_
    show Steps p.tables e below (T267.setTop (mkF m 162 #[iv p0_0, .val (.long oc), .second, rv b1, .unset, .unset, .unset, .unset] [(.ref b176)])) _
    refine XS.dup X267.here hx rfl (hb hby at_162) rfl rfl ?_
    show Steps p.tables e below (T267.setTop (mkF m 163 #[iv p0_0, .val (.long oc), .second, rv b1, .unset, .unset, .unset, .unset] [(.ref b176), (.ref b176)])) _
    refine XS.bipush X267.here hx rfl (hb hby at_163) ?_
    show Steps p.tables e below (T267.setTop (mkF m 165 #[iv p0_0, .val (.long oc), .second, rv b1, .unset, .unset, .unset, .unset] [(.int (9 : Int32)), (.ref b176), (.ref b176)])) _
    refine XS.iconst X267.here hx rfl (hb hby at_165) ?_
    show Steps p.tables e below (T267.setTop (mkF m 166 #[iv p0_0, .val (.long oc), .second, rv b1, .unset, .unset, .unset, .unset] [(.int (0 : Int32)), (.int (9 : Int32)), (.ref b176), (.ref b176)])) _
    refine st273 _ ?_
    show Steps p.tables e below (T273.setTop (mkF m 167 #[iv p0_0, .val (.long oc), .second, rv b1, .unset, .unset, .unset, .unset] [(.ref b176)])) _
    refine XS.dup X273.here hx rfl (hb hby at_167) rfl rfl ?_
    show Steps p.tables e below (T273.setTop (mkF m 168 #[iv p0_0, .val (.long oc), .second, rv b1, .unset, .unset, .unset, .unset] [(.ref b176), (.ref b176)])) _
    refine XS.bipush X273.here hx rfl (hb hby at_168) ?_
    show Steps p.tables e below (T273.setTop (mkF m 170 #[iv p0_0, .val (.long oc), .second, rv b1, .unset, .unset, .unset, .unset] [(.int (10 : Int32)), (.ref b176), (.ref b176)])) _
    refine XS.iconst X273.here hx rfl (hb hby at_170) ?_
    show Steps p.tables e below (T273.setTop (mkF m 171 #[iv p0_0, .val (.long oc), .second, rv b1, .unset, .unset, .unset, .unset] [(.int (-1 : Int32)), (.int (10 : Int32)), (.ref b176), (.ref b176)])) _
    refine st279 _ ?_
    show Steps p.tables e below (T279.setTop (mkF m 172 #[iv p0_0, .val (.long oc), .second, rv b1, .unset, .unset, .unset, .unset] [(.ref b176)])) _
    refine XS.dup X279.here hx rfl (hb hby at_172) rfl rfl ?_
    show Steps p.tables e below (T279.setTop (mkF m 173 #[iv p0_0, .val (.long oc), .second, rv b1, .unset, .unset, .unset, .unset] [(.ref b176), (.ref b176)])) _
    refine XS.bipush X279.here hx rfl (hb hby at_173) ?_
    show Steps p.tables e below (T279.setTop (mkF m 175 #[iv p0_0, .val (.long oc), .second, rv b1, .unset, .unset, .unset, .unset] [(.int (11 : Int32)), (.ref b176), (.ref b176)])) _
    refine XS.iconst X279.here hx rfl (hb hby at_175) ?_
    show Steps p.tables e below (T279.setTop (mkF m 176 #[iv p0_0, .val (.long oc), .second, rv b1, .unset, .unset, .unset, .unset] [(.int (-1 : Int32)), (.int (11 : Int32)), (.ref b176), (.ref b176)])) _
    refine st285 _ ?_
    show Steps p.tables e below (T285.setTop (mkF m 177 #[iv p0_0, .val (.long oc), .second, rv b1, .unset, .unset, .unset, .unset] [(.ref b176)])) _
    refine XS.dup X285.here hx rfl (hb hby at_177) rfl rfl ?_
    show Steps p.tables e below (T285.setTop (mkF m 178 #[iv p0_0, .val (.long oc), .second, rv b1, .unset, .unset, .unset, .unset] [(.ref b176), (.ref b176)])) _
    refine XS.bipush X285.here hx rfl (hb hby at_178) ?_
    show Steps p.tables e below (T285.setTop (mkF m 180 #[iv p0_0, .val (.long oc), .second, rv b1, .unset, .unset, .unset, .unset] [(.int (12 : Int32)), (.ref b176), (.ref b176)])) _
    refine XS.iconst X285.here hx rfl (hb hby at_180) ?_
    show Steps p.tables e below (T285.setTop (mkF m 181 #[iv p0_0, .val (.long oc), .second, rv b1, .unset, .unset, .unset, .unset] [(.int (-1 : Int32)), (.int (12 : Int32)), (.ref b176), (.ref b176)])) _
    refine st291 _ ?_
    show Steps p.tables e below (T291.setTop (mkF m 182 #[iv p0_0, .val (.long oc), .second, rv b1, .unset, .unset, .unset, .unset] [(.ref b176)])) _
    refine XS.dup X291.here hx rfl (hb hby at_182) rfl rfl ?_
    show Steps p.tables e below (T291.setTop (mkF m 183 #[iv p0_0, .val (.long oc), .second, rv b1, .unset, .unset, .unset, .unset] [(.ref b176), (.ref b176)])) _
    refine XS.bipush X291.here hx rfl (hb hby at_183) ?_
    show Steps p.tables e below (T291.setTop (mkF m 185 #[iv p0_0, .val (.long oc), .second, rv b1, .unset, .unset, .unset, .unset] [(.int (13 : Int32)), (.ref b176), (.ref b176)])) _
    refine XS.iconst X291.here hx rfl (hb hby at_185) ?_
    show Steps p.tables e below (T291.setTop (mkF m 186 #[iv p0_0, .val (.long oc), .second, rv b1, .unset, .unset, .unset, .unset] [(.int (5 : Int32)), (.int (13 : Int32)), (.ref b176), (.ref b176)])) _
    refine st297 _ ?_
    show Steps p.tables e below (T297.setTop (mkF m 187 #[iv p0_0, .val (.long oc), .second, rv b1, .unset, .unset, .unset, .unset] [(.ref b176)])) _
    refine XS.dup X297.here hx rfl (hb hby at_187) rfl rfl ?_
    show Steps p.tables e below (T297.setTop (mkF m 188 #[iv p0_0, .val (.long oc), .second, rv b1, .unset, .unset, .unset, .unset] [(.ref b176), (.ref b176)])) _
    refine XS.bipush X297.here hx rfl (hb hby at_188) ?_
    show Steps p.tables e below (T297.setTop (mkF m 190 #[iv p0_0, .val (.long oc), .second, rv b1, .unset, .unset, .unset, .unset] [(.int (14 : Int32)), (.ref b176), (.ref b176)])) _
    refine XS.iconst X297.here hx rfl (hb hby at_190) ?_
    show Steps p.tables e below (T297.setTop (mkF m 191 #[iv p0_0, .val (.long oc), .second, rv b1, .unset, .unset, .unset, .unset] [(.int (2 : Int32)), (.int (14 : Int32)), (.ref b176), (.ref b176)])) _
    refine st303 _ ?_
    show Steps p.tables e below (T303.setTop (mkF m 192 #[iv p0_0, .val (.long oc), .second, rv b1, .unset, .unset, .unset, .unset] [(.ref b176)])) _
    refine XS.dup X303.here hx rfl (hb hby at_192) rfl rfl ?_
    show Steps p.tables e below (T303.setTop (mkF m 193 #[iv p0_0, .val (.long oc), .second, rv b1, .unset, .unset, .unset, .unset] [(.ref b176), (.ref b176)])) _
    refine XS.bipush X303.here hx rfl (hb hby at_193) ?_
    show Steps p.tables e below (T303.setTop (mkF m 195 #[iv p0_0, .val (.long oc), .second, rv b1, .unset, .unset, .unset, .unset] [(.int (15 : Int32)), (.ref b176), (.ref b176)])) _
    refine XS.iconst X303.here hx rfl (hb hby at_195) ?_
    show Steps p.tables e below (T303.setTop (mkF m 196 #[iv p0_0, .val (.long oc), .second, rv b1, .unset, .unset, .unset, .unset] [(.int (2 : Int32)), (.int (15 : Int32)), (.ref b176), (.ref b176)])) _
    refine st309 _ ?_
    show Steps p.tables e below (T309.setTop (mkF m 197 #[iv p0_0, .val (.long oc), .second, rv b1, .unset, .unset, .unset, .unset] [(.ref b176)])) _
    refine XS.dup X309.here hx rfl (hb hby at_197) rfl rfl ?_
    show Steps p.tables e below (T309.setTop (mkF m 198 #[iv p0_0, .val (.long oc), .second, rv b1, .unset, .unset, .unset, .unset] [(.ref b176), (.ref b176)])) _
    refine XS.bipush X309.here hx rfl (hb hby at_198) ?_
    show Steps p.tables e below (T309.setTop (mkF m 200 #[iv p0_0, .val (.long oc), .second, rv b1, .unset, .unset, .unset, .unset] [(.int (16 : Int32)), (.ref b176), (.ref b176)])) _
    refine XS.iconst X309.here hx rfl (hb hby at_200) ?_
    show Steps p.tables e below (T309.setTop (mkF m 201 #[iv p0_0, .val (.long oc), .second, rv b1, .unset, .unset, .unset, .unset] [(.int (-1 : Int32)), (.int (16 : Int32)), (.ref b176), (.ref b176)])) _
    refine st315 _ ?_
    show Steps p.tables e below (T315.setTop (mkF m 202 #[iv p0_0, .val (.long oc), .second, rv b1, .unset, .unset, .unset, .unset] [(.ref b176)])) _
    refine XS.astore X315.here hx rfl (hb hby at_202) rfl rfl (l' := #[iv p0_0, .val (.long oc), .second, rv b1, rv b176, .unset, .unset, .unset]) rfl ?_
    show Steps p.tables e below (T315.setTop (mkF m 204 #[iv p0_0, .val (.long oc), .second, rv b1, rv b176, .unset, .unset, .unset] [])) _
    refine XS.iloadN X315.here hx rfl (hb hby at_204) rfl ?_
    show Steps p.tables e below (T315.setTop (mkF m 205 #[iv p0_0, .val (.long oc), .second, rv b1, rv b176, .unset, .unset, .unset] [(.int p0_0)])) _
    refine X315.ldcInt hx hown (mvT hZ wo39) (g := (mkF m 205 #[iv p0_0, .val (.long oc), .second, rv b1, rv b176, .unset, .unset, .unset] [(.int p0_0)])) rfl (hb hby at_205) _ ?_
    show Steps p.tables e below (T315.setTop (mkF m 207 #[iv p0_0, .val (.long oc), .second, rv b1, rv b176, .unset, .unset, .unset] [(.int (2147483647 : Int32)), (.int p0_0)])) _
    refine XS.iand X315.here hx rfl (hb hby at_207) rfl ?_
    show Steps p.tables e below (T315.setTop (mkF m 208 #[iv p0_0, .val (.long oc), .second, rv b1, rv b176, .unset, .unset, .unset] [(.int (p0_0 &&& (2147483647 : Int32)))])) _
    refine XS.bipush X315.here hx rfl (hb hby at_208) ?_
    show Steps p.tables e below (T315.setTop (mkF m 210 #[iv p0_0, .val (.long oc), .second, rv b1, rv b176, .unset, .unset, .unset] [(.int (17 : Int32)), (.int (p0_0 &&& (2147483647 : Int32)))])) _
    refine iremM (g := (mkF m 210 #[iv p0_0, .val (.long oc), .second, rv b1, rv b176, .unset, .unset, .unset] [(.int (17 : Int32)), (.int (p0_0 &&& (2147483647 : Int32)))])) X315 hx rfl (hb hby at_210) rfl (by decide) ?_
    show Steps p.tables e below (T315.setTop (mkF m 211 #[iv p0_0, .val (.long oc), .second, rv b1, rv b176, .unset, .unset, .unset] [(.int ((p0_0 &&& (2147483647 : Int32)) % (17 : Int32)))])) _
    refine XS.istore X315.here hx rfl (hb hby at_211) rfl (l' := #[iv p0_0, .val (.long oc), .second, rv b1, rv b176, iv ((p0_0 &&& (2147483647 : Int32)) % (17 : Int32)), .unset, .unset]) rfl ?_
    rw [← h_i]
    show Steps p.tables e below (T315.setTop (mkF m 213 #[iv p0_0, .val (.long oc), .second, rv b1, rv b176, iv i, .unset, .unset] [])) _
    exact k_
  have hx_320 : i = (0 : Int32) ∨ i = (1 : Int32) ∨ i = (2 : Int32) ∨ i = (3 : Int32) ∨ i = (4 : Int32) ∨ i = (5 : Int32) ∨ i = (6 : Int32) ∨ i = (7 : Int32) ∨ i = (8 : Int32) ∨ i = (9 : Int32) ∨ i = (10 : Int32) ∨ i = (11 : Int32) ∨ i = (12 : Int32) ∨ i = (13 : Int32) ∨ i = (14 : Int32) ∨ i = (15 : Int32) ∨ i = (16 : Int32) := own_17 i hi
  rcases hx_320 with rfl | rfl | rfl | rfl | rfl | rfl | rfl | rfl | rfl | rfl | rfl | rfl | rfl | rfl | rfl | rfl | rfl
  · skip
    obtain ⟨kk321, cl321, Ar321, qq321, Sz321, Nn321, Hs321, Gf321⟩ := id f317
    have hin322 : ¬ ((0 : Int32) < 0 ∨ cl321.slots.size ≤ ((0 : Int32)).toNatClampNeg) := inb_of Sz321 ⟨by decide, by decide⟩
    have hat323 : cl321.slots[((0 : Int32)).toNatClampNeg]? = some (.int (-1 : Int32)) := Has.at Hs321 hin322 rfl
    have f324 := ((((((((((((((((((f174.ext E176).other W219 ne211).other W225 ne211).other W231 ne211).other W237 ne211).other W243 ne211).other W249 ne211).other W255 ne211).other W261 ne211).other W267 ne211).other W273 ne211).other W279 ne211).other W285 ne211).other W291 ne211).other W297 ne211).other W303 ne211).other W309 ne211).other W315 ne211)
    obtain ⟨cl325, Ar325, qq325, Sz325, Nn325, Hs325, Gf325⟩ := id f324
    have hin326 : ¬ ((0 : Int32) < 0 ∨ cl325.slots.size ≤ ((0 : Int32)).toNatClampNeg) := inb_of Sz325 ⟨by decide, by decide⟩
    have hat327 : cl325.slots[((0 : Int32)).toNatClampNeg]? = some (.ref s_READ) := Has.at Hs325 hin326 rfl
    have f328 := ((((((((((((((((((((((((((((((((((((pf_F_s_READ_optionalBit.ext E1).other W28 (Or.inl ne2)).other W37 (Or.inl ne2)).other W46 (Or.inl ne2)).other W55 (Or.inl ne2)).other W64 (Or.inl ne2)).other W73 (Or.inl ne2)).other W82 (Or.inl ne2)).other W91 (Or.inl ne2)).other W100 (Or.inl ne2)).other W109 (Or.inl ne2)).other W118 (Or.inl ne2)).other W127 (Or.inl ne2)).other W136 (Or.inl ne2)).other W145 (Or.inl ne2)).other W154 (Or.inl ne2)).other W163 (Or.inl ne2)).other W172 (Or.inl ne2)).ext E176).other W219 (Or.inl ne178)).other W225 (Or.inl ne178)).other W231 (Or.inl ne178)).other W237 (Or.inl ne178)).other W243 (Or.inl ne178)).other W249 (Or.inl ne178)).other W255 (Or.inl ne178)).other W261 (Or.inl ne178)).other W267 (Or.inl ne178)).other W273 (Or.inl ne178)).other W279 (Or.inl ne178)).other W285 (Or.inl ne178)).other W291 (Or.inl ne178)).other W297 (Or.inl ne178)).other W303 (Or.inl ne178)).other W309 (Or.inl ne178)).other W315 (Or.inl ne178))
    have f330 := (Nat.le_trans (Nat.le_trans (Nat.le_trans (Nat.le_trans (Nat.le_trans (Nat.le_trans (Nat.le_trans (Nat.le_trans (Nat.le_trans (Nat.le_trans (Nat.le_trans (Nat.le_trans (Nat.le_trans (Nat.le_trans (Nat.le_trans (Nat.le_trans (Nat.le_trans (Nat.le_trans f213 E176.1) (Keep.of_wr W219).1) (Keep.of_wr W225).1) (Keep.of_wr W231).1) (Keep.of_wr W237).1) (Keep.of_wr W243).1) (Keep.of_wr W249).1) (Keep.of_wr W255).1) (Keep.of_wr W261).1) (Keep.of_wr W267).1) (Keep.of_wr W273).1) (Keep.of_wr W279).1) (Keep.of_wr W285).1) (Keep.of_wr W291).1) (Keep.of_wr W297).1) (Keep.of_wr W303).1) (Keep.of_wr W309).1) (Keep.of_wr W315).1)
    have f331 := ((((((((((((((((((f177.ext E176).wr W219).wr W225).wr W231).wr W237).wr W243).wr W249).wr W255).wr W261).wr W267).wr W273).wr W279).wr W285).wr W291).wr W297).wr W303).wr W309).wr W315)
    obtain ⟨cq329, kq329, q329a, q329b, q329c⟩ := isOf hZ e315 f331
    obtain ⟨_, _, ⟨T329, L329, k329, n329⟩, -, X329, ⟨Lc329, hQ329, l329, y329, z329⟩, st329⟩ := X315.virtualBack hx (y := MN1) (z := MN1) hown (mvT hZ wo40) (mvT hZ wo41) (notFace_of_selects (args := #[]) (mvT hZ wo43)) (mvT hZ wo43) (mvT hZ wo42) (by decide) (backOf (W := 0) (rm1 l Z a0 hw [] s_READ oc (-1 : Int32) h315 n0 f330 f328) hZ wo44 wo3 (by decide) (by decide)) q329a q329c (g := (mkF m 254 #[iv p0_0, .val (.long oc), .second, rv b1, rv b176, iv (0 : Int32), iv (-1 : Int32), iv (1 : Int32)] [(.long oc), (.ref s_READ)])) rfl (by rw [hml]; rfl) (Steps.refl _) (argsL := [(.long oc)]) (rest := []) (lenOf pd_0 rfl) rfl (by show 2 * 0 + _ ≤ _; exact Nat.le_of_eq rfl) (hb hby at_254) (fun _ _ => ⟨rfl, e315, (by decide : 2 + 0 ≤ _), (by decide : 34 + 0 ≤ _)⟩)
    dsimp only [Pt.U, Pt.locs, Pt.cells, Pt.slots] at X329 l329 y329 z329 st329 hQ329
    rw [l329, y329, z329] at X329
    obtain ⟨rfl, N329q, K329q⟩ := hQ329
    have N332 := Fr.app N318 N329q
    have q333 : (if (-1 : Int32) = (-1 : Int32) then (1 : Int32) else (if (lcmpW ((oc >>> ((-1 : Int32) &&& 0x3f).toInt64) &&& (1 : Int64)) (1 : Int64)) = (0 : Int32) then (1 : Int32) else (0 : Int32))) = (1 : Int32) := if_pos rfl
    obtain ⟨fs, hr, hrun, hended, hW, hsame⟩ := X329.leave (v := some (.int (1 : Int32))) (fun h => by rw [Bd.returns] at h; cases h)
    refine ⟨_, _, pre319 _ ?_, hrun, hended, _, _, rfl, ?_, ⟨_, rfl⟩, hW, hsame.mono (by decide) (by decide)⟩
    · show Steps p.tables e below (T315.setTop (mkF m 213 #[iv p0_0, .val (.long oc), .second, rv b1, rv b176, iv (0 : Int32), .unset, .unset] [])) _
      refine XS.aload X315.here hx rfl (hb hby at_213) rfl rfl ?_
      show Steps p.tables e below (T315.setTop (mkF m 215 #[iv p0_0, .val (.long oc), .second, rv b1, rv b176, iv (0 : Int32), .unset, .unset] [(.ref b176)])) _
      refine XS.iload X315.here hx rfl (hb hby at_215) rfl ?_
      show Steps p.tables e below (T315.setTop (mkF m 217 #[iv p0_0, .val (.long oc), .second, rv b1, rv b176, iv (0 : Int32), .unset, .unset] [(.int (0 : Int32)), (.ref b176)])) _
      refine X315.iaload hx (j := (0 : Int32)) (v := (.int (-1 : Int32))) (by rw [e315]; exact Ar321.1) (State.isArrayOf_alike hZ.alike Ar321.2.1) Ar321.2.2 hin322 hat323 (g := (mkF m 217 #[iv p0_0, .val (.long oc), .second, rv b1, rv b176, iv (0 : Int32), .unset, .unset] [(.int (0 : Int32)), (.ref b176)])) rfl rfl (hb hby at_217) _ ?_
      show Steps p.tables e below (T315.setTop (mkF m 218 #[iv p0_0, .val (.long oc), .second, rv b1, rv b176, iv (0 : Int32), .unset, .unset] [(.int (-1 : Int32))])) _
      refine XS.istore X315.here hx rfl (hb hby at_218) rfl (l' := #[iv p0_0, .val (.long oc), .second, rv b1, rv b176, iv (0 : Int32), iv (-1 : Int32), .unset]) rfl ?_
      show Steps p.tables e below (T315.setTop (mkF m 220 #[iv p0_0, .val (.long oc), .second, rv b1, rv b176, iv (0 : Int32), iv (-1 : Int32), .unset] [])) _
      refine XS.iload X315.here hx rfl (hb hby at_220) rfl ?_
      show Steps p.tables e below (T315.setTop (mkF m 222 #[iv p0_0, .val (.long oc), .second, rv b1, rv b176, iv (0 : Int32), iv (-1 : Int32), .unset] [(.int (-1 : Int32))])) _
      refine XS.ifNo X315.here hx rfl (hb hby at_222) rfl ((if0 _ _).trans (tlt (by decide : (-1 : Int32) < (0 : Int32))).2.1) ?_
      show Steps p.tables e below (T315.setTop (mkF m 225 #[iv p0_0, .val (.long oc), .second, rv b1, rv b176, iv (0 : Int32), iv (-1 : Int32), .unset] [])) _
      refine XS.iconst X315.here hx rfl (hb hby at_225) ?_
      show Steps p.tables e below (T315.setTop (mkF m 226 #[iv p0_0, .val (.long oc), .second, rv b1, rv b176, iv (0 : Int32), iv (-1 : Int32), .unset] [(.int (1 : Int32))])) _
      refine XS.istore X315.here hx rfl (hb hby at_226) rfl (l' := #[iv p0_0, .val (.long oc), .second, rv b1, rv b176, iv (0 : Int32), iv (-1 : Int32), iv (1 : Int32)]) rfl ?_
      show Steps p.tables e below (T315.setTop (mkF m 228 #[iv p0_0, .val (.long oc), .second, rv b1, rv b176, iv (0 : Int32), iv (-1 : Int32), iv (1 : Int32)] [])) _
      refine XS.goto X315.here hx rfl (pc0 := 228) (pc' := 249) rfl (hb hby at_228) (by decide) (by decide) ?_
      show Steps p.tables e below (T315.setTop (mkF m 249 #[iv p0_0, .val (.long oc), .second, rv b1, rv b176, iv (0 : Int32), iv (-1 : Int32), iv (1 : Int32)] [])) _
      refine XS.aloadN X315.here hx rfl (hb hby at_249) rfl rfl ?_
      show Steps p.tables e below (T315.setTop (mkF m 250 #[iv p0_0, .val (.long oc), .second, rv b1, rv b176, iv (0 : Int32), iv (-1 : Int32), iv (1 : Int32)] [(.ref b1)])) _
      refine XS.iload X315.here hx rfl (hb hby at_250) rfl ?_
      show Steps p.tables e below (T315.setTop (mkF m 252 #[iv p0_0, .val (.long oc), .second, rv b1, rv b176, iv (0 : Int32), iv (-1 : Int32), iv (1 : Int32)] [(.int (0 : Int32)), (.ref b1)])) _
      refine X315.aaload hx (j := (0 : Int32)) (v := (.ref s_READ)) (by rw [e315]; exact Ar325.1) (State.isArrayOf_alike hZ.alike Ar325.2.1) rfl Ar325.2.2 hin326 hat327 (g := (mkF m 252 #[iv p0_0, .val (.long oc), .second, rv b1, rv b176, iv (0 : Int32), iv (-1 : Int32), iv (1 : Int32)] [(.int (0 : Int32)), (.ref b1)])) rfl rfl (hb hby at_252) _ ?_
      show Steps p.tables e below (T315.setTop (mkF m 253 #[iv p0_0, .val (.long oc), .second, rv b1, rv b176, iv (0 : Int32), iv (-1 : Int32), iv (1 : Int32)] [(.ref s_READ)])) _
      refine XS.lloadN X315.here hx rfl (hb hby at_253) rfl ?_
      show Steps p.tables e below (T315.setTop (mkF m 254 #[iv p0_0, .val (.long oc), .second, rv b1, rv b176, iv (0 : Int32), iv (-1 : Int32), iv (1 : Int32)] [(.long oc), (.ref s_READ)])) _
      refine st329.trans ?_
      rw [q333]
      show Steps p.tables e below (T329.setTop (mkF m 257 #[iv p0_0, .val (.long oc), .second, rv b1, rv b176, iv (0 : Int32), iv (-1 : Int32), iv (1 : Int32)] [(.int (1 : Int32))])) _
      show Steps p.tables e below (T329.setTop (mkF m 257 #[iv p0_0, .val (.long oc), .second, rv b1, rv b176, iv (0 : Int32), iv (-1 : Int32), iv (1 : Int32)] [(.int (1 : Int32))])) _
      refine XS.iload X329.here hx rfl (hb hby at_257) rfl ?_
      show Steps p.tables e below (T329.setTop (mkF m 259 #[iv p0_0, .val (.long oc), .second, rv b1, rv b176, iv (0 : Int32), iv (-1 : Int32), iv (1 : Int32)] [(.int (1 : Int32)), (.int (1 : Int32))])) _
      refine XS.icmpNo X329.here hx rfl (hb hby at_259) rfl (teq (by decide : (1 : Int32) = (1 : Int32))).2 ?_
      show Steps p.tables e below (T329.setTop (mkF m 262 #[iv p0_0, .val (.long oc), .second, rv b1, rv b176, iv (0 : Int32), iv (-1 : Int32), iv (1 : Int32)] [])) _
      refine XS.iconst X329.here hx rfl (hb hby at_262) ?_
      show Steps p.tables e below (T329.setTop (mkF m 263 #[iv p0_0, .val (.long oc), .second, rv b1, rv b176, iv (0 : Int32), iv (-1 : Int32), iv (1 : Int32)] [(.int (1 : Int32))])) _
      refine XS.goto X329.here hx rfl (pc0 := 263) (pc' := 267) rfl (hb hby at_263) (by decide) (by decide) ?_
      show Steps p.tables e below (T329.setTop (mkF m 267 #[iv p0_0, .val (.long oc), .second, rv b1, rv b176, iv (0 : Int32), iv (-1 : Int32), iv (1 : Int32)] [(.int (1 : Int32))])) _
      exact retN X329 hx (t := .boolean) Bd.returns (by simp) (hb hby at_267) hr
    · show Q_rm0 Z _ _ _ _ _ _ _ _ _ _ _ _ _ _ _ _ _ _ _ h0 n0 _ T329.heap _
      rw [K329q]
      exact ⟨rfl, N332, (K316)⟩
  · skip
    obtain ⟨kk334, cl334, Ar334, qq334, Sz334, Nn334, Hs334, Gf334⟩ := id f317
    have hin335 : ¬ ((1 : Int32) < 0 ∨ cl334.slots.size ≤ ((1 : Int32)).toNatClampNeg) := inb_of Sz334 ⟨by decide, by decide⟩
    have hat336 : cl334.slots[((1 : Int32)).toNatClampNeg]? = some (.int (4 : Int32)) := Has.at Hs334 hin335 rfl
    have pre338 : ∀ t, Steps p.tables e below (T315.setTop (mkF m 239 #[iv p0_0, .val (.long oc), .second, rv b1, rv b176, iv (1 : Int32), iv (4 : Int32), .unset] [(.int (lcmpW (oc &&& (16 : Int64)) (0 : Int64)))])) t → Steps p.tables e below (s₁.setTop (entryFrame m #[(.int p0_0), (.long oc)] maxLocals)) t := by
      intro t_ k_
      refine pre319 _ ?_
      show Steps p.tables e below (T315.setTop (mkF m 213 #[iv p0_0, .val (.long oc), .second, rv b1, rv b176, iv (1 : Int32), .unset, .unset] [])) _
      refine XS.aload X315.here hx rfl (hb hby at_213) rfl rfl ?_
      show Steps p.tables e below (T315.setTop (mkF m 215 #[iv p0_0, .val (.long oc), .second, rv b1, rv b176, iv (1 : Int32), .unset, .unset] [(.ref b176)])) _
      refine XS.iload X315.here hx rfl (hb hby at_215) rfl ?_
      show Steps p.tables e below (T315.setTop (mkF m 217 #[iv p0_0, .val (.long oc), .second, rv b1, rv b176, iv (1 : Int32), .unset, .unset] [(.int (1 : Int32)), (.ref b176)])) _
      refine X315.iaload hx (j := (1 : Int32)) (v := (.int (4 : Int32))) (by rw [e315]; exact Ar334.1) (State.isArrayOf_alike hZ.alike Ar334.2.1) Ar334.2.2 hin335 hat336 (g := (mkF m 217 #[iv p0_0, .val (.long oc), .second, rv b1, rv b176, iv (1 : Int32), .unset, .unset] [(.int (1 : Int32)), (.ref b176)])) rfl rfl (hb hby at_217) _ ?_
      show Steps p.tables e below (T315.setTop (mkF m 218 #[iv p0_0, .val (.long oc), .second, rv b1, rv b176, iv (1 : Int32), .unset, .unset] [(.int (4 : Int32))])) _
      refine XS.istore X315.here hx rfl (hb hby at_218) rfl (l' := #[iv p0_0, .val (.long oc), .second, rv b1, rv b176, iv (1 : Int32), iv (4 : Int32), .unset]) rfl ?_
      show Steps p.tables e below (T315.setTop (mkF m 220 #[iv p0_0, .val (.long oc), .second, rv b1, rv b176, iv (1 : Int32), iv (4 : Int32), .unset] [])) _
      refine XS.iload X315.here hx rfl (hb hby at_220) rfl ?_
      show Steps p.tables e below (T315.setTop (mkF m 222 #[iv p0_0, .val (.long oc), .second, rv b1, rv b176, iv (1 : Int32), iv (4 : Int32), .unset] [(.int (4 : Int32))])) _
      refine XS.ifYes X315.here hx rfl (pc0 := 222) (pc' := 231) rfl (hb hby at_222) rfl ((if0 _ _).trans (flt (by decide : ¬ ((4 : Int32) < (0 : Int32)))).2.1) (by decide) (by decide) ?_
      show Steps p.tables e below (T315.setTop (mkF m 231 #[iv p0_0, .val (.long oc), .second, rv b1, rv b176, iv (1 : Int32), iv (4 : Int32), .unset] [])) _
      refine XS.lloadN X315.here hx rfl (hb hby at_231) rfl ?_
      show Steps p.tables e below (T315.setTop (mkF m 232 #[iv p0_0, .val (.long oc), .second, rv b1, rv b176, iv (1 : Int32), iv (4 : Int32), .unset] [(.long oc)])) _
      refine XS.lconst X315.here hx rfl (hb hby at_232) ?_
      show Steps p.tables e below (T315.setTop (mkF m 233 #[iv p0_0, .val (.long oc), .second, rv b1, rv b176, iv (1 : Int32), iv (4 : Int32), .unset] [(.long (1 : Int64)), (.long oc)])) _
      refine XS.iload X315.here hx rfl (hb hby at_233) rfl ?_
      show Steps p.tables e below (T315.setTop (mkF m 235 #[iv p0_0, .val (.long oc), .second, rv b1, rv b176, iv (1 : Int32), iv (4 : Int32), .unset] [(.int (4 : Int32)), (.long (1 : Int64)), (.long oc)])) _
      refine XS.lshl X315.here hx rfl (hb hby at_235) rfl ?_
      show Steps p.tables e below (T315.setTop (mkF m 236 #[iv p0_0, .val (.long oc), .second, rv b1, rv b176, iv (1 : Int32), iv (4 : Int32), .unset] [(.long (16 : Int64)), (.long oc)])) _
      refine XS.land X315.here hx rfl (hb hby at_236) rfl ?_
      show Steps p.tables e below (T315.setTop (mkF m 237 #[iv p0_0, .val (.long oc), .second, rv b1, rv b176, iv (1 : Int32), iv (4 : Int32), .unset] [(.long (oc &&& (16 : Int64)))])) _
      refine XS.lconst X315.here hx rfl (hb hby at_237) ?_
      show Steps p.tables e below (T315.setTop (mkF m 238 #[iv p0_0, .val (.long oc), .second, rv b1, rv b176, iv (1 : Int32), iv (4 : Int32), .unset] [(.long (0 : Int64)), (.long (oc &&& (16 : Int64)))])) _
      refine XS.lcmp X315.here hx rfl (hb hby at_238) rfl ?_
      exact k_
    by_cases hc239_337 : (lcmpW (oc &&& (16 : Int64)) (0 : Int64)) = (0 : Int32)
    · skip
      have f339 := ((((((((((((((((((f174.ext E176).other W219 ne211).other W225 ne211).other W231 ne211).other W237 ne211).other W243 ne211).other W249 ne211).other W255 ne211).other W261 ne211).other W267 ne211).other W273 ne211).other W279 ne211).other W285 ne211).other W291 ne211).other W297 ne211).other W303 ne211).other W309 ne211).other W315 ne211)
      obtain ⟨cl340, Ar340, qq340, Sz340, Nn340, Hs340, Gf340⟩ := id f339
      have hin341 : ¬ ((1 : Int32) < 0 ∨ cl340.slots.size ≤ ((1 : Int32)).toNatClampNeg) := inb_of Sz340 ⟨by decide, by decide⟩
      have hat342 : cl340.slots[((1 : Int32)).toNatClampNeg]? = some (.ref s_COPYBACK_READ) := Has.at Hs340 hin341 rfl
      have f343 := ((((((((((((((((((((((((((((((((((((pf_F_s_COPYBACK_READ_optionalBit.ext E1).other W28 (Or.inl ne3)).other W37 (Or.inl ne3)).other W46 (Or.inl ne3)).other W55 (Or.inl ne3)).other W64 (Or.inl ne3)).other W73 (Or.inl ne3)).other W82 (Or.inl ne3)).other W91 (Or.inl ne3)).other W100 (Or.inl ne3)).other W109 (Or.inl ne3)).other W118 (Or.inl ne3)).other W127 (Or.inl ne3)).other W136 (Or.inl ne3)).other W145 (Or.inl ne3)).other W154 (Or.inl ne3)).other W163 (Or.inl ne3)).other W172 (Or.inl ne3)).ext E176).other W219 (Or.inl ne180)).other W225 (Or.inl ne180)).other W231 (Or.inl ne180)).other W237 (Or.inl ne180)).other W243 (Or.inl ne180)).other W249 (Or.inl ne180)).other W255 (Or.inl ne180)).other W261 (Or.inl ne180)).other W267 (Or.inl ne180)).other W273 (Or.inl ne180)).other W279 (Or.inl ne180)).other W285 (Or.inl ne180)).other W291 (Or.inl ne180)).other W297 (Or.inl ne180)).other W303 (Or.inl ne180)).other W309 (Or.inl ne180)).other W315 (Or.inl ne180))
      have f345 := (Nat.le_trans (Nat.le_trans (Nat.le_trans (Nat.le_trans (Nat.le_trans (Nat.le_trans (Nat.le_trans (Nat.le_trans (Nat.le_trans (Nat.le_trans (Nat.le_trans (Nat.le_trans (Nat.le_trans (Nat.le_trans (Nat.le_trans (Nat.le_trans (Nat.le_trans (Nat.le_trans f213 E176.1) (Keep.of_wr W219).1) (Keep.of_wr W225).1) (Keep.of_wr W231).1) (Keep.of_wr W237).1) (Keep.of_wr W243).1) (Keep.of_wr W249).1) (Keep.of_wr W255).1) (Keep.of_wr W261).1) (Keep.of_wr W267).1) (Keep.of_wr W273).1) (Keep.of_wr W279).1) (Keep.of_wr W285).1) (Keep.of_wr W291).1) (Keep.of_wr W297).1) (Keep.of_wr W303).1) (Keep.of_wr W309).1) (Keep.of_wr W315).1)
      have f346 := ((((((((((((((((((f179.ext E176).wr W219).wr W225).wr W231).wr W237).wr W243).wr W249).wr W255).wr W261).wr W267).wr W273).wr W279).wr W285).wr W291).wr W297).wr W303).wr W309).wr W315)
      obtain ⟨cq344, kq344, q344a, q344b, q344c⟩ := isOf hZ e315 f346
      obtain ⟨_, _, ⟨T344, L344, k344, n344⟩, -, X344, ⟨Lc344, hQ344, l344, y344, z344⟩, st344⟩ := X315.virtualBack hx (y := MN1) (z := MN1) hown (mvT hZ wo40) (mvT hZ wo41) (notFace_of_selects (args := #[]) (mvT hZ wo43)) (mvT hZ wo43) (mvT hZ wo42) (by decide) (backOf (W := 0) (rm1 l Z a0 hw [] s_COPYBACK_READ oc (4 : Int32) h315 n0 f345 f343) hZ wo44 wo3 (by decide) (by decide)) q344a q344c (g := (mkF m 254 #[iv p0_0, .val (.long oc), .second, rv b1, rv b176, iv (1 : Int32), iv (4 : Int32), iv (0 : Int32)] [(.long oc), (.ref s_COPYBACK_READ)])) rfl (by rw [hml]; rfl) (Steps.refl _) (argsL := [(.long oc)]) (rest := []) (lenOf pd_0 rfl) rfl (by show 2 * 0 + _ ≤ _; exact Nat.le_of_eq rfl) (hb hby at_254) (fun _ _ => ⟨rfl, e315, (by decide : 2 + 0 ≤ _), (by decide : 34 + 0 ≤ _)⟩)
      dsimp only [Pt.U, Pt.locs, Pt.cells, Pt.slots] at X344 l344 y344 z344 st344 hQ344
      rw [l344, y344, z344] at X344
      obtain ⟨rfl, N344q, K344q⟩ := hQ344
      have N347 := Fr.app N318 N344q
      have q348 : (if (4 : Int32) = (-1 : Int32) then (1 : Int32) else (if (lcmpW ((oc >>> ((4 : Int32) &&& 0x3f).toInt64) &&& (1 : Int64)) (1 : Int64)) = (0 : Int32) then (1 : Int32) else (0 : Int32))) = (0 : Int32) := (if_neg (by decide)).trans (if_neg (fun q => (own_bit4 _).mp q hc239_337))
      obtain ⟨fs, hr, hrun, hended, hW, hsame⟩ := X344.leave (v := some (.int (1 : Int32))) (fun h => by rw [Bd.returns] at h; cases h)
      refine ⟨_, _, pre338 _ ?_, hrun, hended, _, _, rfl, ?_, ⟨_, rfl⟩, hW, hsame.mono (by decide) (by decide)⟩
      · show Steps p.tables e below (T315.setTop (mkF m 239 #[iv p0_0, .val (.long oc), .second, rv b1, rv b176, iv (1 : Int32), iv (4 : Int32), .unset] [(.int (lcmpW (oc &&& (16 : Int64)) (0 : Int64)))])) _
        refine XS.ifYes X315.here hx rfl (pc0 := 239) (pc' := 246) rfl (hb hby at_239) rfl ((if0 _ _).trans (teq hc239_337).1) (by decide) (by decide) ?_
        show Steps p.tables e below (T315.setTop (mkF m 246 #[iv p0_0, .val (.long oc), .second, rv b1, rv b176, iv (1 : Int32), iv (4 : Int32), .unset] [])) _
        refine XS.iconst X315.here hx rfl (hb hby at_246) ?_
        show Steps p.tables e below (T315.setTop (mkF m 247 #[iv p0_0, .val (.long oc), .second, rv b1, rv b176, iv (1 : Int32), iv (4 : Int32), .unset] [(.int (0 : Int32))])) _
        refine XS.istore X315.here hx rfl (hb hby at_247) rfl (l' := #[iv p0_0, .val (.long oc), .second, rv b1, rv b176, iv (1 : Int32), iv (4 : Int32), iv (0 : Int32)]) rfl ?_
        show Steps p.tables e below (T315.setTop (mkF m 249 #[iv p0_0, .val (.long oc), .second, rv b1, rv b176, iv (1 : Int32), iv (4 : Int32), iv (0 : Int32)] [])) _
        refine XS.aloadN X315.here hx rfl (hb hby at_249) rfl rfl ?_
        show Steps p.tables e below (T315.setTop (mkF m 250 #[iv p0_0, .val (.long oc), .second, rv b1, rv b176, iv (1 : Int32), iv (4 : Int32), iv (0 : Int32)] [(.ref b1)])) _
        refine XS.iload X315.here hx rfl (hb hby at_250) rfl ?_
        show Steps p.tables e below (T315.setTop (mkF m 252 #[iv p0_0, .val (.long oc), .second, rv b1, rv b176, iv (1 : Int32), iv (4 : Int32), iv (0 : Int32)] [(.int (1 : Int32)), (.ref b1)])) _
        refine X315.aaload hx (j := (1 : Int32)) (v := (.ref s_COPYBACK_READ)) (by rw [e315]; exact Ar340.1) (State.isArrayOf_alike hZ.alike Ar340.2.1) rfl Ar340.2.2 hin341 hat342 (g := (mkF m 252 #[iv p0_0, .val (.long oc), .second, rv b1, rv b176, iv (1 : Int32), iv (4 : Int32), iv (0 : Int32)] [(.int (1 : Int32)), (.ref b1)])) rfl rfl (hb hby at_252) _ ?_
        show Steps p.tables e below (T315.setTop (mkF m 253 #[iv p0_0, .val (.long oc), .second, rv b1, rv b176, iv (1 : Int32), iv (4 : Int32), iv (0 : Int32)] [(.ref s_COPYBACK_READ)])) _
        refine XS.lloadN X315.here hx rfl (hb hby at_253) rfl ?_
        show Steps p.tables e below (T315.setTop (mkF m 254 #[iv p0_0, .val (.long oc), .second, rv b1, rv b176, iv (1 : Int32), iv (4 : Int32), iv (0 : Int32)] [(.long oc), (.ref s_COPYBACK_READ)])) _
        refine st344.trans ?_
        rw [q348]
        show Steps p.tables e below (T344.setTop (mkF m 257 #[iv p0_0, .val (.long oc), .second, rv b1, rv b176, iv (1 : Int32), iv (4 : Int32), iv (0 : Int32)] [(.int (0 : Int32))])) _
        show Steps p.tables e below (T344.setTop (mkF m 257 #[iv p0_0, .val (.long oc), .second, rv b1, rv b176, iv (1 : Int32), iv (4 : Int32), iv (0 : Int32)] [(.int (0 : Int32))])) _
        refine XS.iload X344.here hx rfl (hb hby at_257) rfl ?_
        show Steps p.tables e below (T344.setTop (mkF m 259 #[iv p0_0, .val (.long oc), .second, rv b1, rv b176, iv (1 : Int32), iv (4 : Int32), iv (0 : Int32)] [(.int (0 : Int32)), (.int (0 : Int32))])) _
        refine XS.icmpNo X344.here hx rfl (hb hby at_259) rfl (teq (by decide : (0 : Int32) = (0 : Int32))).2 ?_
        show Steps p.tables e below (T344.setTop (mkF m 262 #[iv p0_0, .val (.long oc), .second, rv b1, rv b176, iv (1 : Int32), iv (4 : Int32), iv (0 : Int32)] [])) _
        refine XS.iconst X344.here hx rfl (hb hby at_262) ?_
        show Steps p.tables e below (T344.setTop (mkF m 263 #[iv p0_0, .val (.long oc), .second, rv b1, rv b176, iv (1 : Int32), iv (4 : Int32), iv (0 : Int32)] [(.int (1 : Int32))])) _
        refine XS.goto X344.here hx rfl (pc0 := 263) (pc' := 267) rfl (hb hby at_263) (by decide) (by decide) ?_
        show Steps p.tables e below (T344.setTop (mkF m 267 #[iv p0_0, .val (.long oc), .second, rv b1, rv b176, iv (1 : Int32), iv (4 : Int32), iv (0 : Int32)] [(.int (1 : Int32))])) _
        exact retN X344 hx (t := .boolean) Bd.returns (by simp) (hb hby at_267) hr
      · show Q_rm0 Z _ _ _ _ _ _ _ _ _ _ _ _ _ _ _ _ _ _ _ h0 n0 _ T344.heap _
        rw [K344q]
        exact ⟨rfl, N347, (K316)⟩
    · skip
      have f349 := ((((((((((((((((((f174.ext E176).other W219 ne211).other W225 ne211).other W231 ne211).other W237 ne211).other W243 ne211).other W249 ne211).other W255 ne211).other W261 ne211).other W267 ne211).other W273 ne211).other W279 ne211).other W285 ne211).other W291 ne211).other W297 ne211).other W303 ne211).other W309 ne211).other W315 ne211)
      obtain ⟨cl350, Ar350, qq350, Sz350, Nn350, Hs350, Gf350⟩ := id f349
      have hin351 : ¬ ((1 : Int32) < 0 ∨ cl350.slots.size ≤ ((1 : Int32)).toNatClampNeg) := inb_of Sz350 ⟨by decide, by decide⟩
      have hat352 : cl350.slots[((1 : Int32)).toNatClampNeg]? = some (.ref s_COPYBACK_READ) := Has.at Hs350 hin351 rfl
      have f353 := ((((((((((((((((((((((((((((((((((((pf_F_s_COPYBACK_READ_optionalBit.ext E1).other W28 (Or.inl ne3)).other W37 (Or.inl ne3)).other W46 (Or.inl ne3)).other W55 (Or.inl ne3)).other W64 (Or.inl ne3)).other W73 (Or.inl ne3)).other W82 (Or.inl ne3)).other W91 (Or.inl ne3)).other W100 (Or.inl ne3)).other W109 (Or.inl ne3)).other W118 (Or.inl ne3)).other W127 (Or.inl ne3)).other W136 (Or.inl ne3)).other W145 (Or.inl ne3)).other W154 (Or.inl ne3)).other W163 (Or.inl ne3)).other W172 (Or.inl ne3)).ext E176).other W219 (Or.inl ne180)).other W225 (Or.inl ne180)).other W231 (Or.inl ne180)).other W237 (Or.inl ne180)).other W243 (Or.inl ne180)).other W249 (Or.inl ne180)).other W255 (Or.inl ne180)).other W261 (Or.inl ne180)).other W267 (Or.inl ne180)).other W273 (Or.inl ne180)).other W279 (Or.inl ne180)).other W285 (Or.inl ne180)).other W291 (Or.inl ne180)).other W297 (Or.inl ne180)).other W303 (Or.inl ne180)).other W309 (Or.inl ne180)).other W315 (Or.inl ne180))
      have f355 := (Nat.le_trans (Nat.le_trans (Nat.le_trans (Nat.le_trans (Nat.le_trans (Nat.le_trans (Nat.le_trans (Nat.le_trans (Nat.le_trans (Nat.le_trans (Nat.le_trans (Nat.le_trans (Nat.le_trans (Nat.le_trans (Nat.le_trans (Nat.le_trans (Nat.le_trans (Nat.le_trans f213 E176.1) (Keep.of_wr W219).1) (Keep.of_wr W225).1) (Keep.of_wr W231).1) (Keep.of_wr W237).1) (Keep.of_wr W243).1) (Keep.of_wr W249).1) (Keep.of_wr W255).1) (Keep.of_wr W261).1) (Keep.of_wr W267).1) (Keep.of_wr W273).1) (Keep.of_wr W279).1) (Keep.of_wr W285).1) (Keep.of_wr W291).1) (Keep.of_wr W297).1) (Keep.of_wr W303).1) (Keep.of_wr W309).1) (Keep.of_wr W315).1)
      have f356 := ((((((((((((((((((f179.ext E176).wr W219).wr W225).wr W231).wr W237).wr W243).wr W249).wr W255).wr W261).wr W267).wr W273).wr W279).wr W285).wr W291).wr W297).wr W303).wr W309).wr W315)
      obtain ⟨cq354, kq354, q354a, q354b, q354c⟩ := isOf hZ e315 f356
      obtain ⟨_, _, ⟨T354, L354, k354, n354⟩, -, X354, ⟨Lc354, hQ354, l354, y354, z354⟩, st354⟩ := X315.virtualBack hx (y := MN1) (z := MN1) hown (mvT hZ wo40) (mvT hZ wo41) (notFace_of_selects (args := #[]) (mvT hZ wo43)) (mvT hZ wo43) (mvT hZ wo42) (by decide) (backOf (W := 0) (rm1 l Z a0 hw [] s_COPYBACK_READ oc (4 : Int32) h315 n0 f355 f353) hZ wo44 wo3 (by decide) (by decide)) q354a q354c (g := (mkF m 254 #[iv p0_0, .val (.long oc), .second, rv b1, rv b176, iv (1 : Int32), iv (4 : Int32), iv (1 : Int32)] [(.long oc), (.ref s_COPYBACK_READ)])) rfl (by rw [hml]; rfl) (Steps.refl _) (argsL := [(.long oc)]) (rest := []) (lenOf pd_0 rfl) rfl (by show 2 * 0 + _ ≤ _; exact Nat.le_of_eq rfl) (hb hby at_254) (fun _ _ => ⟨rfl, e315, (by decide : 2 + 0 ≤ _), (by decide : 34 + 0 ≤ _)⟩)
      dsimp only [Pt.U, Pt.locs, Pt.cells, Pt.slots] at X354 l354 y354 z354 st354 hQ354
      rw [l354, y354, z354] at X354
      obtain ⟨rfl, N354q, K354q⟩ := hQ354
      have N357 := Fr.app N318 N354q
      have q358 : (if (4 : Int32) = (-1 : Int32) then (1 : Int32) else (if (lcmpW ((oc >>> ((4 : Int32) &&& 0x3f).toInt64) &&& (1 : Int64)) (1 : Int64)) = (0 : Int32) then (1 : Int32) else (0 : Int32))) = (1 : Int32) := (if_neg (by decide)).trans (if_pos ((own_bit4 _).mpr hc239_337))
      obtain ⟨fs, hr, hrun, hended, hW, hsame⟩ := X354.leave (v := some (.int (1 : Int32))) (fun h => by rw [Bd.returns] at h; cases h)
      refine ⟨_, _, pre338 _ ?_, hrun, hended, _, _, rfl, ?_, ⟨_, rfl⟩, hW, hsame.mono (by decide) (by decide)⟩
      · show Steps p.tables e below (T315.setTop (mkF m 239 #[iv p0_0, .val (.long oc), .second, rv b1, rv b176, iv (1 : Int32), iv (4 : Int32), .unset] [(.int (lcmpW (oc &&& (16 : Int64)) (0 : Int64)))])) _
        refine XS.ifNo X315.here hx rfl (hb hby at_239) rfl ((if0 _ _).trans (feq hc239_337).1) ?_
        show Steps p.tables e below (T315.setTop (mkF m 242 #[iv p0_0, .val (.long oc), .second, rv b1, rv b176, iv (1 : Int32), iv (4 : Int32), .unset] [])) _
        refine XS.iconst X315.here hx rfl (hb hby at_242) ?_
        show Steps p.tables e below (T315.setTop (mkF m 243 #[iv p0_0, .val (.long oc), .second, rv b1, rv b176, iv (1 : Int32), iv (4 : Int32), .unset] [(.int (1 : Int32))])) _
        refine XS.goto X315.here hx rfl (pc0 := 243) (pc' := 247) rfl (hb hby at_243) (by decide) (by decide) ?_
        show Steps p.tables e below (T315.setTop (mkF m 247 #[iv p0_0, .val (.long oc), .second, rv b1, rv b176, iv (1 : Int32), iv (4 : Int32), .unset] [(.int (1 : Int32))])) _
        refine XS.istore X315.here hx rfl (hb hby at_247) rfl (l' := #[iv p0_0, .val (.long oc), .second, rv b1, rv b176, iv (1 : Int32), iv (4 : Int32), iv (1 : Int32)]) rfl ?_
        show Steps p.tables e below (T315.setTop (mkF m 249 #[iv p0_0, .val (.long oc), .second, rv b1, rv b176, iv (1 : Int32), iv (4 : Int32), iv (1 : Int32)] [])) _
        refine XS.aloadN X315.here hx rfl (hb hby at_249) rfl rfl ?_
        show Steps p.tables e below (T315.setTop (mkF m 250 #[iv p0_0, .val (.long oc), .second, rv b1, rv b176, iv (1 : Int32), iv (4 : Int32), iv (1 : Int32)] [(.ref b1)])) _
        refine XS.iload X315.here hx rfl (hb hby at_250) rfl ?_
        show Steps p.tables e below (T315.setTop (mkF m 252 #[iv p0_0, .val (.long oc), .second, rv b1, rv b176, iv (1 : Int32), iv (4 : Int32), iv (1 : Int32)] [(.int (1 : Int32)), (.ref b1)])) _
        refine X315.aaload hx (j := (1 : Int32)) (v := (.ref s_COPYBACK_READ)) (by rw [e315]; exact Ar350.1) (State.isArrayOf_alike hZ.alike Ar350.2.1) rfl Ar350.2.2 hin351 hat352 (g := (mkF m 252 #[iv p0_0, .val (.long oc), .second, rv b1, rv b176, iv (1 : Int32), iv (4 : Int32), iv (1 : Int32)] [(.int (1 : Int32)), (.ref b1)])) rfl rfl (hb hby at_252) _ ?_
        show Steps p.tables e below (T315.setTop (mkF m 253 #[iv p0_0, .val (.long oc), .second, rv b1, rv b176, iv (1 : Int32), iv (4 : Int32), iv (1 : Int32)] [(.ref s_COPYBACK_READ)])) _
        refine XS.lloadN X315.here hx rfl (hb hby at_253) rfl ?_
        show Steps p.tables e below (T315.setTop (mkF m 254 #[iv p0_0, .val (.long oc), .second, rv b1, rv b176, iv (1 : Int32), iv (4 : Int32), iv (1 : Int32)] [(.long oc), (.ref s_COPYBACK_READ)])) _
        refine st354.trans ?_
        rw [q358]
        show Steps p.tables e below (T354.setTop (mkF m 257 #[iv p0_0, .val (.long oc), .second, rv b1, rv b176, iv (1 : Int32), iv (4 : Int32), iv (1 : Int32)] [(.int (1 : Int32))])) _
        show Steps p.tables e below (T354.setTop (mkF m 257 #[iv p0_0, .val (.long oc), .second, rv b1, rv b176, iv (1 : Int32), iv (4 : Int32), iv (1 : Int32)] [(.int (1 : Int32))])) _
        refine XS.iload X354.here hx rfl (hb hby at_257) rfl ?_
        show Steps p.tables e below (T354.setTop (mkF m 259 #[iv p0_0, .val (.long oc), .second, rv b1, rv b176, iv (1 : Int32), iv (4 : Int32), iv (1 : Int32)] [(.int (1 : Int32)), (.int (1 : Int32))])) _
        refine XS.icmpNo X354.here hx rfl (hb hby at_259) rfl (teq (by decide : (1 : Int32) = (1 : Int32))).2 ?_
        show Steps p.tables e below (T354.setTop (mkF m 262 #[iv p0_0, .val (.long oc), .second, rv b1, rv b176, iv (1 : Int32), iv (4 : Int32), iv (1 : Int32)] [])) _
        refine XS.iconst X354.here hx rfl (hb hby at_262) ?_
        show Steps p.tables e below (T354.setTop (mkF m 263 #[iv p0_0, .val (.long oc), .second, rv b1, rv b176, iv (1 : Int32), iv (4 : Int32), iv (1 : Int32)] [(.int (1 : Int32))])) _
        refine XS.goto X354.here hx rfl (pc0 := 263) (pc' := 267) rfl (hb hby at_263) (by decide) (by decide) ?_
        show Steps p.tables e below (T354.setTop (mkF m 267 #[iv p0_0, .val (.long oc), .second, rv b1, rv b176, iv (1 : Int32), iv (4 : Int32), iv (1 : Int32)] [(.int (1 : Int32))])) _
        exact retN X354 hx (t := .boolean) Bd.returns (by simp) (hb hby at_267) hr
      · show Q_rm0 Z _ _ _ _ _ _ _ _ _ _ _ _ _ _ _ _ _ _ _ h0 n0 _ T354.heap _
        rw [K354q]
        exact ⟨rfl, N357, (K316)⟩
  · skip
    obtain ⟨kk359, cl359, Ar359, qq359, Sz359, Nn359, Hs359, Gf359⟩ := id f317
    have hin360 : ¬ ((2 : Int32) < 0 ∨ cl359.slots.size ≤ ((2 : Int32)).toNatClampNeg) := inb_of Sz359 ⟨by decide, by decide⟩
    have hat361 : cl359.slots[((2 : Int32)).toNatClampNeg]? = some (.int (-1 : Int32)) := Has.at Hs359 hin360 rfl
    have f362 := ((((((((((((((((((f174.ext E176).other W219 ne211).other W225 ne211).other W231 ne211).other W237 ne211).other W243 ne211).other W249 ne211).other W255 ne211).other W261 ne211).other W267 ne211).other W273 ne211).other W279 ne211).other W285 ne211).other W291 ne211).other W297 ne211).other W303 ne211).other W309 ne211).other W315 ne211)
    obtain ⟨cl363, Ar363, qq363, Sz363, Nn363, Hs363, Gf363⟩ := id f362
    have hin364 : ¬ ((2 : Int32) < 0 ∨ cl363.slots.size ≤ ((2 : Int32)).toNatClampNeg) := inb_of Sz363 ⟨by decide, by decide⟩
    have hat365 : cl363.slots[((2 : Int32)).toNatClampNeg]? = some (.ref s_CHANGE_READ_COLUMN) := Has.at Hs363 hin364 rfl
    have f366 := ((((((((((((((((((((((((((((((((((((pf_F_s_CHANGE_READ_COLUMN_optionalBit.ext E1).other W28 (Or.inl ne4)).other W37 (Or.inl ne4)).other W46 (Or.inl ne4)).other W55 (Or.inl ne4)).other W64 (Or.inl ne4)).other W73 (Or.inl ne4)).other W82 (Or.inl ne4)).other W91 (Or.inl ne4)).other W100 (Or.inl ne4)).other W109 (Or.inl ne4)).other W118 (Or.inl ne4)).other W127 (Or.inl ne4)).other W136 (Or.inl ne4)).other W145 (Or.inl ne4)).other W154 (Or.inl ne4)).other W163 (Or.inl ne4)).other W172 (Or.inl ne4)).ext E176).other W219 (Or.inl ne182)).other W225 (Or.inl ne182)).other W231 (Or.inl ne182)).other W237 (Or.inl ne182)).other W243 (Or.inl ne182)).other W249 (Or.inl ne182)).other W255 (Or.inl ne182)).other W261 (Or.inl ne182)).other W267 (Or.inl ne182)).other W273 (Or.inl ne182)).other W279 (Or.inl ne182)).other W285 (Or.inl ne182)).other W291 (Or.inl ne182)).other W297 (Or.inl ne182)).other W303 (Or.inl ne182)).other W309 (Or.inl ne182)).other W315 (Or.inl ne182))
    have f368 := (Nat.le_trans (Nat.le_trans (Nat.le_trans (Nat.le_trans (Nat.le_trans (Nat.le_trans (Nat.le_trans (Nat.le_trans (Nat.le_trans (Nat.le_trans (Nat.le_trans (Nat.le_trans (Nat.le_trans (Nat.le_trans (Nat.le_trans (Nat.le_trans (Nat.le_trans (Nat.le_trans f213 E176.1) (Keep.of_wr W219).1) (Keep.of_wr W225).1) (Keep.of_wr W231).1) (Keep.of_wr W237).1) (Keep.of_wr W243).1) (Keep.of_wr W249).1) (Keep.of_wr W255).1) (Keep.of_wr W261).1) (Keep.of_wr W267).1) (Keep.of_wr W273).1) (Keep.of_wr W279).1) (Keep.of_wr W285).1) (Keep.of_wr W291).1) (Keep.of_wr W297).1) (Keep.of_wr W303).1) (Keep.of_wr W309).1) (Keep.of_wr W315).1)
    have f369 := ((((((((((((((((((f181.ext E176).wr W219).wr W225).wr W231).wr W237).wr W243).wr W249).wr W255).wr W261).wr W267).wr W273).wr W279).wr W285).wr W291).wr W297).wr W303).wr W309).wr W315)
    obtain ⟨cq367, kq367, q367a, q367b, q367c⟩ := isOf hZ e315 f369
    obtain ⟨_, _, ⟨T367, L367, k367, n367⟩, -, X367, ⟨Lc367, hQ367, l367, y367, z367⟩, st367⟩ := X315.virtualBack hx (y := MN1) (z := MN1) hown (mvT hZ wo40) (mvT hZ wo41) (notFace_of_selects (args := #[]) (mvT hZ wo43)) (mvT hZ wo43) (mvT hZ wo42) (by decide) (backOf (W := 0) (rm1 l Z a0 hw [] s_CHANGE_READ_COLUMN oc (-1 : Int32) h315 n0 f368 f366) hZ wo44 wo3 (by decide) (by decide)) q367a q367c (g := (mkF m 254 #[iv p0_0, .val (.long oc), .second, rv b1, rv b176, iv (2 : Int32), iv (-1 : Int32), iv (1 : Int32)] [(.long oc), (.ref s_CHANGE_READ_COLUMN)])) rfl (by rw [hml]; rfl) (Steps.refl _) (argsL := [(.long oc)]) (rest := []) (lenOf pd_0 rfl) rfl (by show 2 * 0 + _ ≤ _; exact Nat.le_of_eq rfl) (hb hby at_254) (fun _ _ => ⟨rfl, e315, (by decide : 2 + 0 ≤ _), (by decide : 34 + 0 ≤ _)⟩)
    dsimp only [Pt.U, Pt.locs, Pt.cells, Pt.slots] at X367 l367 y367 z367 st367 hQ367
    rw [l367, y367, z367] at X367
    obtain ⟨rfl, N367q, K367q⟩ := hQ367
    have N370 := Fr.app N318 N367q
    have q371 : (if (-1 : Int32) = (-1 : Int32) then (1 : Int32) else (if (lcmpW ((oc >>> ((-1 : Int32) &&& 0x3f).toInt64) &&& (1 : Int64)) (1 : Int64)) = (0 : Int32) then (1 : Int32) else (0 : Int32))) = (1 : Int32) := if_pos rfl
    obtain ⟨fs, hr, hrun, hended, hW, hsame⟩ := X367.leave (v := some (.int (1 : Int32))) (fun h => by rw [Bd.returns] at h; cases h)
    refine ⟨_, _, pre319 _ ?_, hrun, hended, _, _, rfl, ?_, ⟨_, rfl⟩, hW, hsame.mono (by decide) (by decide)⟩
    · show Steps p.tables e below (T315.setTop (mkF m 213 #[iv p0_0, .val (.long oc), .second, rv b1, rv b176, iv (2 : Int32), .unset, .unset] [])) _
      refine XS.aload X315.here hx rfl (hb hby at_213) rfl rfl ?_
      show Steps p.tables e below (T315.setTop (mkF m 215 #[iv p0_0, .val (.long oc), .second, rv b1, rv b176, iv (2 : Int32), .unset, .unset] [(.ref b176)])) _
      refine XS.iload X315.here hx rfl (hb hby at_215) rfl ?_
      show Steps p.tables e below (T315.setTop (mkF m 217 #[iv p0_0, .val (.long oc), .second, rv b1, rv b176, iv (2 : Int32), .unset, .unset] [(.int (2 : Int32)), (.ref b176)])) _
      refine X315.iaload hx (j := (2 : Int32)) (v := (.int (-1 : Int32))) (by rw [e315]; exact Ar359.1) (State.isArrayOf_alike hZ.alike Ar359.2.1) Ar359.2.2 hin360 hat361 (g := (mkF m 217 #[iv p0_0, .val (.long oc), .second, rv b1, rv b176, iv (2 : Int32), .unset, .unset] [(.int (2 : Int32)), (.ref b176)])) rfl rfl (hb hby at_217) _ ?_
      show Steps p.tables e below (T315.setTop (mkF m 218 #[iv p0_0, .val (.long oc), .second, rv b1, rv b176, iv (2 : Int32), .unset, .unset] [(.int (-1 : Int32))])) _
      refine XS.istore X315.here hx rfl (hb hby at_218) rfl (l' := #[iv p0_0, .val (.long oc), .second, rv b1, rv b176, iv (2 : Int32), iv (-1 : Int32), .unset]) rfl ?_
      show Steps p.tables e below (T315.setTop (mkF m 220 #[iv p0_0, .val (.long oc), .second, rv b1, rv b176, iv (2 : Int32), iv (-1 : Int32), .unset] [])) _
      refine XS.iload X315.here hx rfl (hb hby at_220) rfl ?_
      show Steps p.tables e below (T315.setTop (mkF m 222 #[iv p0_0, .val (.long oc), .second, rv b1, rv b176, iv (2 : Int32), iv (-1 : Int32), .unset] [(.int (-1 : Int32))])) _
      refine XS.ifNo X315.here hx rfl (hb hby at_222) rfl ((if0 _ _).trans (tlt (by decide : (-1 : Int32) < (0 : Int32))).2.1) ?_
      show Steps p.tables e below (T315.setTop (mkF m 225 #[iv p0_0, .val (.long oc), .second, rv b1, rv b176, iv (2 : Int32), iv (-1 : Int32), .unset] [])) _
      refine XS.iconst X315.here hx rfl (hb hby at_225) ?_
      show Steps p.tables e below (T315.setTop (mkF m 226 #[iv p0_0, .val (.long oc), .second, rv b1, rv b176, iv (2 : Int32), iv (-1 : Int32), .unset] [(.int (1 : Int32))])) _
      refine XS.istore X315.here hx rfl (hb hby at_226) rfl (l' := #[iv p0_0, .val (.long oc), .second, rv b1, rv b176, iv (2 : Int32), iv (-1 : Int32), iv (1 : Int32)]) rfl ?_
      show Steps p.tables e below (T315.setTop (mkF m 228 #[iv p0_0, .val (.long oc), .second, rv b1, rv b176, iv (2 : Int32), iv (-1 : Int32), iv (1 : Int32)] [])) _
      refine XS.goto X315.here hx rfl (pc0 := 228) (pc' := 249) rfl (hb hby at_228) (by decide) (by decide) ?_
      show Steps p.tables e below (T315.setTop (mkF m 249 #[iv p0_0, .val (.long oc), .second, rv b1, rv b176, iv (2 : Int32), iv (-1 : Int32), iv (1 : Int32)] [])) _
      refine XS.aloadN X315.here hx rfl (hb hby at_249) rfl rfl ?_
      show Steps p.tables e below (T315.setTop (mkF m 250 #[iv p0_0, .val (.long oc), .second, rv b1, rv b176, iv (2 : Int32), iv (-1 : Int32), iv (1 : Int32)] [(.ref b1)])) _
      refine XS.iload X315.here hx rfl (hb hby at_250) rfl ?_
      show Steps p.tables e below (T315.setTop (mkF m 252 #[iv p0_0, .val (.long oc), .second, rv b1, rv b176, iv (2 : Int32), iv (-1 : Int32), iv (1 : Int32)] [(.int (2 : Int32)), (.ref b1)])) _
      refine X315.aaload hx (j := (2 : Int32)) (v := (.ref s_CHANGE_READ_COLUMN)) (by rw [e315]; exact Ar363.1) (State.isArrayOf_alike hZ.alike Ar363.2.1) rfl Ar363.2.2 hin364 hat365 (g := (mkF m 252 #[iv p0_0, .val (.long oc), .second, rv b1, rv b176, iv (2 : Int32), iv (-1 : Int32), iv (1 : Int32)] [(.int (2 : Int32)), (.ref b1)])) rfl rfl (hb hby at_252) _ ?_
      show Steps p.tables e below (T315.setTop (mkF m 253 #[iv p0_0, .val (.long oc), .second, rv b1, rv b176, iv (2 : Int32), iv (-1 : Int32), iv (1 : Int32)] [(.ref s_CHANGE_READ_COLUMN)])) _
      refine XS.lloadN X315.here hx rfl (hb hby at_253) rfl ?_
      show Steps p.tables e below (T315.setTop (mkF m 254 #[iv p0_0, .val (.long oc), .second, rv b1, rv b176, iv (2 : Int32), iv (-1 : Int32), iv (1 : Int32)] [(.long oc), (.ref s_CHANGE_READ_COLUMN)])) _
      refine st367.trans ?_
      rw [q371]
      show Steps p.tables e below (T367.setTop (mkF m 257 #[iv p0_0, .val (.long oc), .second, rv b1, rv b176, iv (2 : Int32), iv (-1 : Int32), iv (1 : Int32)] [(.int (1 : Int32))])) _
      show Steps p.tables e below (T367.setTop (mkF m 257 #[iv p0_0, .val (.long oc), .second, rv b1, rv b176, iv (2 : Int32), iv (-1 : Int32), iv (1 : Int32)] [(.int (1 : Int32))])) _
      refine XS.iload X367.here hx rfl (hb hby at_257) rfl ?_
      show Steps p.tables e below (T367.setTop (mkF m 259 #[iv p0_0, .val (.long oc), .second, rv b1, rv b176, iv (2 : Int32), iv (-1 : Int32), iv (1 : Int32)] [(.int (1 : Int32)), (.int (1 : Int32))])) _
      refine XS.icmpNo X367.here hx rfl (hb hby at_259) rfl (teq (by decide : (1 : Int32) = (1 : Int32))).2 ?_
      show Steps p.tables e below (T367.setTop (mkF m 262 #[iv p0_0, .val (.long oc), .second, rv b1, rv b176, iv (2 : Int32), iv (-1 : Int32), iv (1 : Int32)] [])) _
      refine XS.iconst X367.here hx rfl (hb hby at_262) ?_
      show Steps p.tables e below (T367.setTop (mkF m 263 #[iv p0_0, .val (.long oc), .second, rv b1, rv b176, iv (2 : Int32), iv (-1 : Int32), iv (1 : Int32)] [(.int (1 : Int32))])) _
      refine XS.goto X367.here hx rfl (pc0 := 263) (pc' := 267) rfl (hb hby at_263) (by decide) (by decide) ?_
      show Steps p.tables e below (T367.setTop (mkF m 267 #[iv p0_0, .val (.long oc), .second, rv b1, rv b176, iv (2 : Int32), iv (-1 : Int32), iv (1 : Int32)] [(.int (1 : Int32))])) _
      exact retN X367 hx (t := .boolean) Bd.returns (by simp) (hb hby at_267) hr
    · show Q_rm0 Z _ _ _ _ _ _ _ _ _ _ _ _ _ _ _ _ _ _ _ h0 n0 _ T367.heap _
      rw [K367q]
      exact ⟨rfl, N370, (K316)⟩
  · skip
    obtain ⟨kk372, cl372, Ar372, qq372, Sz372, Nn372, Hs372, Gf372⟩ := id f317
    have hin373 : ¬ ((3 : Int32) < 0 ∨ cl372.slots.size ≤ ((3 : Int32)).toNatClampNeg) := inb_of Sz372 ⟨by decide, by decide⟩
    have hat374 : cl372.slots[((3 : Int32)).toNatClampNeg]? = some (.int (1 : Int32)) := Has.at Hs372 hin373 rfl
    have pre376 : ∀ t, Steps p.tables e below (T315.setTop (mkF m 239 #[iv p0_0, .val (.long oc), .second, rv b1, rv b176, iv (3 : Int32), iv (1 : Int32), .unset] [(.int (lcmpW (oc &&& (2 : Int64)) (0 : Int64)))])) t → Steps p.tables e below (s₁.setTop (entryFrame m #[(.int p0_0), (.long oc)] maxLocals)) t := by
      intro t_ k_
      refine pre319 _ ?_
      show Steps p.tables e below (T315.setTop (mkF m 213 #[iv p0_0, .val (.long oc), .second, rv b1, rv b176, iv (3 : Int32), .unset, .unset] [])) _
      refine XS.aload X315.here hx rfl (hb hby at_213) rfl rfl ?_
      show Steps p.tables e below (T315.setTop (mkF m 215 #[iv p0_0, .val (.long oc), .second, rv b1, rv b176, iv (3 : Int32), .unset, .unset] [(.ref b176)])) _
      refine XS.iload X315.here hx rfl (hb hby at_215) rfl ?_
      show Steps p.tables e below (T315.setTop (mkF m 217 #[iv p0_0, .val (.long oc), .second, rv b1, rv b176, iv (3 : Int32), .unset, .unset] [(.int (3 : Int32)), (.ref b176)])) _
      refine X315.iaload hx (j := (3 : Int32)) (v := (.int (1 : Int32))) (by rw [e315]; exact Ar372.1) (State.isArrayOf_alike hZ.alike Ar372.2.1) Ar372.2.2 hin373 hat374 (g := (mkF m 217 #[iv p0_0, .val (.long oc), .second, rv b1, rv b176, iv (3 : Int32), .unset, .unset] [(.int (3 : Int32)), (.ref b176)])) rfl rfl (hb hby at_217) _ ?_
      show Steps p.tables e below (T315.setTop (mkF m 218 #[iv p0_0, .val (.long oc), .second, rv b1, rv b176, iv (3 : Int32), .unset, .unset] [(.int (1 : Int32))])) _
      refine XS.istore X315.here hx rfl (hb hby at_218) rfl (l' := #[iv p0_0, .val (.long oc), .second, rv b1, rv b176, iv (3 : Int32), iv (1 : Int32), .unset]) rfl ?_
      show Steps p.tables e below (T315.setTop (mkF m 220 #[iv p0_0, .val (.long oc), .second, rv b1, rv b176, iv (3 : Int32), iv (1 : Int32), .unset] [])) _
      refine XS.iload X315.here hx rfl (hb hby at_220) rfl ?_
      show Steps p.tables e below (T315.setTop (mkF m 222 #[iv p0_0, .val (.long oc), .second, rv b1, rv b176, iv (3 : Int32), iv (1 : Int32), .unset] [(.int (1 : Int32))])) _
      refine XS.ifYes X315.here hx rfl (pc0 := 222) (pc' := 231) rfl (hb hby at_222) rfl ((if0 _ _).trans (flt (by decide : ¬ ((1 : Int32) < (0 : Int32)))).2.1) (by decide) (by decide) ?_
      show Steps p.tables e below (T315.setTop (mkF m 231 #[iv p0_0, .val (.long oc), .second, rv b1, rv b176, iv (3 : Int32), iv (1 : Int32), .unset] [])) _
      refine XS.lloadN X315.here hx rfl (hb hby at_231) rfl ?_
      show Steps p.tables e below (T315.setTop (mkF m 232 #[iv p0_0, .val (.long oc), .second, rv b1, rv b176, iv (3 : Int32), iv (1 : Int32), .unset] [(.long oc)])) _
      refine XS.lconst X315.here hx rfl (hb hby at_232) ?_
      show Steps p.tables e below (T315.setTop (mkF m 233 #[iv p0_0, .val (.long oc), .second, rv b1, rv b176, iv (3 : Int32), iv (1 : Int32), .unset] [(.long (1 : Int64)), (.long oc)])) _
      refine XS.iload X315.here hx rfl (hb hby at_233) rfl ?_
      show Steps p.tables e below (T315.setTop (mkF m 235 #[iv p0_0, .val (.long oc), .second, rv b1, rv b176, iv (3 : Int32), iv (1 : Int32), .unset] [(.int (1 : Int32)), (.long (1 : Int64)), (.long oc)])) _
      refine XS.lshl X315.here hx rfl (hb hby at_235) rfl ?_
      show Steps p.tables e below (T315.setTop (mkF m 236 #[iv p0_0, .val (.long oc), .second, rv b1, rv b176, iv (3 : Int32), iv (1 : Int32), .unset] [(.long (2 : Int64)), (.long oc)])) _
      refine XS.land X315.here hx rfl (hb hby at_236) rfl ?_
      show Steps p.tables e below (T315.setTop (mkF m 237 #[iv p0_0, .val (.long oc), .second, rv b1, rv b176, iv (3 : Int32), iv (1 : Int32), .unset] [(.long (oc &&& (2 : Int64)))])) _
      refine XS.lconst X315.here hx rfl (hb hby at_237) ?_
      show Steps p.tables e below (T315.setTop (mkF m 238 #[iv p0_0, .val (.long oc), .second, rv b1, rv b176, iv (3 : Int32), iv (1 : Int32), .unset] [(.long (0 : Int64)), (.long (oc &&& (2 : Int64)))])) _
      refine XS.lcmp X315.here hx rfl (hb hby at_238) rfl ?_
      exact k_
    by_cases hc239_375 : (lcmpW (oc &&& (2 : Int64)) (0 : Int64)) = (0 : Int32)
    · skip
      have f377 := ((((((((((((((((((f174.ext E176).other W219 ne211).other W225 ne211).other W231 ne211).other W237 ne211).other W243 ne211).other W249 ne211).other W255 ne211).other W261 ne211).other W267 ne211).other W273 ne211).other W279 ne211).other W285 ne211).other W291 ne211).other W297 ne211).other W303 ne211).other W309 ne211).other W315 ne211)
      obtain ⟨cl378, Ar378, qq378, Sz378, Nn378, Hs378, Gf378⟩ := id f377
      have hin379 : ¬ ((3 : Int32) < 0 ∨ cl378.slots.size ≤ ((3 : Int32)).toNatClampNeg) := inb_of Sz378 ⟨by decide, by decide⟩
      have hat380 : cl378.slots[((3 : Int32)).toNatClampNeg]? = some (.ref s_READ_CACHE) := Has.at Hs378 hin379 rfl
      have f381 := ((((((((((((((((((((((((((((((((((((pf_F_s_READ_CACHE_optionalBit.ext E1).other W28 (Or.inl ne5)).other W37 (Or.inl ne5)).other W46 (Or.inl ne5)).other W55 (Or.inl ne5)).other W64 (Or.inl ne5)).other W73 (Or.inl ne5)).other W82 (Or.inl ne5)).other W91 (Or.inl ne5)).other W100 (Or.inl ne5)).other W109 (Or.inl ne5)).other W118 (Or.inl ne5)).other W127 (Or.inl ne5)).other W136 (Or.inl ne5)).other W145 (Or.inl ne5)).other W154 (Or.inl ne5)).other W163 (Or.inl ne5)).other W172 (Or.inl ne5)).ext E176).other W219 (Or.inl ne184)).other W225 (Or.inl ne184)).other W231 (Or.inl ne184)).other W237 (Or.inl ne184)).other W243 (Or.inl ne184)).other W249 (Or.inl ne184)).other W255 (Or.inl ne184)).other W261 (Or.inl ne184)).other W267 (Or.inl ne184)).other W273 (Or.inl ne184)).other W279 (Or.inl ne184)).other W285 (Or.inl ne184)).other W291 (Or.inl ne184)).other W297 (Or.inl ne184)).other W303 (Or.inl ne184)).other W309 (Or.inl ne184)).other W315 (Or.inl ne184))
      have f383 := (Nat.le_trans (Nat.le_trans (Nat.le_trans (Nat.le_trans (Nat.le_trans (Nat.le_trans (Nat.le_trans (Nat.le_trans (Nat.le_trans (Nat.le_trans (Nat.le_trans (Nat.le_trans (Nat.le_trans (Nat.le_trans (Nat.le_trans (Nat.le_trans (Nat.le_trans (Nat.le_trans f213 E176.1) (Keep.of_wr W219).1) (Keep.of_wr W225).1) (Keep.of_wr W231).1) (Keep.of_wr W237).1) (Keep.of_wr W243).1) (Keep.of_wr W249).1) (Keep.of_wr W255).1) (Keep.of_wr W261).1) (Keep.of_wr W267).1) (Keep.of_wr W273).1) (Keep.of_wr W279).1) (Keep.of_wr W285).1) (Keep.of_wr W291).1) (Keep.of_wr W297).1) (Keep.of_wr W303).1) (Keep.of_wr W309).1) (Keep.of_wr W315).1)
      have f384 := ((((((((((((((((((f183.ext E176).wr W219).wr W225).wr W231).wr W237).wr W243).wr W249).wr W255).wr W261).wr W267).wr W273).wr W279).wr W285).wr W291).wr W297).wr W303).wr W309).wr W315)
      obtain ⟨cq382, kq382, q382a, q382b, q382c⟩ := isOf hZ e315 f384
      obtain ⟨_, _, ⟨T382, L382, k382, n382⟩, -, X382, ⟨Lc382, hQ382, l382, y382, z382⟩, st382⟩ := X315.virtualBack hx (y := MN1) (z := MN1) hown (mvT hZ wo40) (mvT hZ wo41) (notFace_of_selects (args := #[]) (mvT hZ wo43)) (mvT hZ wo43) (mvT hZ wo42) (by decide) (backOf (W := 0) (rm1 l Z a0 hw [] s_READ_CACHE oc (1 : Int32) h315 n0 f383 f381) hZ wo44 wo3 (by decide) (by decide)) q382a q382c (g := (mkF m 254 #[iv p0_0, .val (.long oc), .second, rv b1, rv b176, iv (3 : Int32), iv (1 : Int32), iv (0 : Int32)] [(.long oc), (.ref s_READ_CACHE)])) rfl (by rw [hml]; rfl) (Steps.refl _) (argsL := [(.long oc)]) (rest := []) (lenOf pd_0 rfl) rfl (by show 2 * 0 + _ ≤ _; exact Nat.le_of_eq rfl) (hb hby at_254) (fun _ _ => ⟨rfl, e315, (by decide : 2 + 0 ≤ _), (by decide : 34 + 0 ≤ _)⟩)
      dsimp only [Pt.U, Pt.locs, Pt.cells, Pt.slots] at X382 l382 y382 z382 st382 hQ382
      rw [l382, y382, z382] at X382
      obtain ⟨rfl, N382q, K382q⟩ := hQ382
      have N385 := Fr.app N318 N382q
      have q386 : (if (1 : Int32) = (-1 : Int32) then (1 : Int32) else (if (lcmpW ((oc >>> ((1 : Int32) &&& 0x3f).toInt64) &&& (1 : Int64)) (1 : Int64)) = (0 : Int32) then (1 : Int32) else (0 : Int32))) = (0 : Int32) := (if_neg (by decide)).trans (if_neg (fun q => (own_bit1 _).mp q hc239_375))
      obtain ⟨fs, hr, hrun, hended, hW, hsame⟩ := X382.leave (v := some (.int (1 : Int32))) (fun h => by rw [Bd.returns] at h; cases h)
      refine ⟨_, _, pre376 _ ?_, hrun, hended, _, _, rfl, ?_, ⟨_, rfl⟩, hW, hsame.mono (by decide) (by decide)⟩
      · show Steps p.tables e below (T315.setTop (mkF m 239 #[iv p0_0, .val (.long oc), .second, rv b1, rv b176, iv (3 : Int32), iv (1 : Int32), .unset] [(.int (lcmpW (oc &&& (2 : Int64)) (0 : Int64)))])) _
        refine XS.ifYes X315.here hx rfl (pc0 := 239) (pc' := 246) rfl (hb hby at_239) rfl ((if0 _ _).trans (teq hc239_375).1) (by decide) (by decide) ?_
        show Steps p.tables e below (T315.setTop (mkF m 246 #[iv p0_0, .val (.long oc), .second, rv b1, rv b176, iv (3 : Int32), iv (1 : Int32), .unset] [])) _
        refine XS.iconst X315.here hx rfl (hb hby at_246) ?_
        show Steps p.tables e below (T315.setTop (mkF m 247 #[iv p0_0, .val (.long oc), .second, rv b1, rv b176, iv (3 : Int32), iv (1 : Int32), .unset] [(.int (0 : Int32))])) _
        refine XS.istore X315.here hx rfl (hb hby at_247) rfl (l' := #[iv p0_0, .val (.long oc), .second, rv b1, rv b176, iv (3 : Int32), iv (1 : Int32), iv (0 : Int32)]) rfl ?_
        show Steps p.tables e below (T315.setTop (mkF m 249 #[iv p0_0, .val (.long oc), .second, rv b1, rv b176, iv (3 : Int32), iv (1 : Int32), iv (0 : Int32)] [])) _
        refine XS.aloadN X315.here hx rfl (hb hby at_249) rfl rfl ?_
        show Steps p.tables e below (T315.setTop (mkF m 250 #[iv p0_0, .val (.long oc), .second, rv b1, rv b176, iv (3 : Int32), iv (1 : Int32), iv (0 : Int32)] [(.ref b1)])) _
        refine XS.iload X315.here hx rfl (hb hby at_250) rfl ?_
        show Steps p.tables e below (T315.setTop (mkF m 252 #[iv p0_0, .val (.long oc), .second, rv b1, rv b176, iv (3 : Int32), iv (1 : Int32), iv (0 : Int32)] [(.int (3 : Int32)), (.ref b1)])) _
        refine X315.aaload hx (j := (3 : Int32)) (v := (.ref s_READ_CACHE)) (by rw [e315]; exact Ar378.1) (State.isArrayOf_alike hZ.alike Ar378.2.1) rfl Ar378.2.2 hin379 hat380 (g := (mkF m 252 #[iv p0_0, .val (.long oc), .second, rv b1, rv b176, iv (3 : Int32), iv (1 : Int32), iv (0 : Int32)] [(.int (3 : Int32)), (.ref b1)])) rfl rfl (hb hby at_252) _ ?_
        show Steps p.tables e below (T315.setTop (mkF m 253 #[iv p0_0, .val (.long oc), .second, rv b1, rv b176, iv (3 : Int32), iv (1 : Int32), iv (0 : Int32)] [(.ref s_READ_CACHE)])) _
        refine XS.lloadN X315.here hx rfl (hb hby at_253) rfl ?_
        show Steps p.tables e below (T315.setTop (mkF m 254 #[iv p0_0, .val (.long oc), .second, rv b1, rv b176, iv (3 : Int32), iv (1 : Int32), iv (0 : Int32)] [(.long oc), (.ref s_READ_CACHE)])) _
        refine st382.trans ?_
        rw [q386]
        show Steps p.tables e below (T382.setTop (mkF m 257 #[iv p0_0, .val (.long oc), .second, rv b1, rv b176, iv (3 : Int32), iv (1 : Int32), iv (0 : Int32)] [(.int (0 : Int32))])) _
        show Steps p.tables e below (T382.setTop (mkF m 257 #[iv p0_0, .val (.long oc), .second, rv b1, rv b176, iv (3 : Int32), iv (1 : Int32), iv (0 : Int32)] [(.int (0 : Int32))])) _
        refine XS.iload X382.here hx rfl (hb hby at_257) rfl ?_
        show Steps p.tables e below (T382.setTop (mkF m 259 #[iv p0_0, .val (.long oc), .second, rv b1, rv b176, iv (3 : Int32), iv (1 : Int32), iv (0 : Int32)] [(.int (0 : Int32)), (.int (0 : Int32))])) _
        refine XS.icmpNo X382.here hx rfl (hb hby at_259) rfl (teq (by decide : (0 : Int32) = (0 : Int32))).2 ?_
        show Steps p.tables e below (T382.setTop (mkF m 262 #[iv p0_0, .val (.long oc), .second, rv b1, rv b176, iv (3 : Int32), iv (1 : Int32), iv (0 : Int32)] [])) _
        refine XS.iconst X382.here hx rfl (hb hby at_262) ?_
        show Steps p.tables e below (T382.setTop (mkF m 263 #[iv p0_0, .val (.long oc), .second, rv b1, rv b176, iv (3 : Int32), iv (1 : Int32), iv (0 : Int32)] [(.int (1 : Int32))])) _
        refine XS.goto X382.here hx rfl (pc0 := 263) (pc' := 267) rfl (hb hby at_263) (by decide) (by decide) ?_
        show Steps p.tables e below (T382.setTop (mkF m 267 #[iv p0_0, .val (.long oc), .second, rv b1, rv b176, iv (3 : Int32), iv (1 : Int32), iv (0 : Int32)] [(.int (1 : Int32))])) _
        exact retN X382 hx (t := .boolean) Bd.returns (by simp) (hb hby at_267) hr
      · show Q_rm0 Z _ _ _ _ _ _ _ _ _ _ _ _ _ _ _ _ _ _ _ h0 n0 _ T382.heap _
        rw [K382q]
        exact ⟨rfl, N385, (K316)⟩
    · skip
      have f387 := ((((((((((((((((((f174.ext E176).other W219 ne211).other W225 ne211).other W231 ne211).other W237 ne211).other W243 ne211).other W249 ne211).other W255 ne211).other W261 ne211).other W267 ne211).other W273 ne211).other W279 ne211).other W285 ne211).other W291 ne211).other W297 ne211).other W303 ne211).other W309 ne211).other W315 ne211)
      obtain ⟨cl388, Ar388, qq388, Sz388, Nn388, Hs388, Gf388⟩ := id f387
      have hin389 : ¬ ((3 : Int32) < 0 ∨ cl388.slots.size ≤ ((3 : Int32)).toNatClampNeg) := inb_of Sz388 ⟨by decide, by decide⟩
      have hat390 : cl388.slots[((3 : Int32)).toNatClampNeg]? = some (.ref s_READ_CACHE) := Has.at Hs388 hin389 rfl
      have f391 := ((((((((((((((((((((((((((((((((((((pf_F_s_READ_CACHE_optionalBit.ext E1).other W28 (Or.inl ne5)).other W37 (Or.inl ne5)).other W46 (Or.inl ne5)).other W55 (Or.inl ne5)).other W64 (Or.inl ne5)).other W73 (Or.inl ne5)).other W82 (Or.inl ne5)).other W91 (Or.inl ne5)).other W100 (Or.inl ne5)).other W109 (Or.inl ne5)).other W118 (Or.inl ne5)).other W127 (Or.inl ne5)).other W136 (Or.inl ne5)).other W145 (Or.inl ne5)).other W154 (Or.inl ne5)).other W163 (Or.inl ne5)).other W172 (Or.inl ne5)).ext E176).other W219 (Or.inl ne184)).other W225 (Or.inl ne184)).other W231 (Or.inl ne184)).other W237 (Or.inl ne184)).other W243 (Or.inl ne184)).other W249 (Or.inl ne184)).other W255 (Or.inl ne184)).other W261 (Or.inl ne184)).other W267 (Or.inl ne184)).other W273 (Or.inl ne184)).other W279 (Or.inl ne184)).other W285 (Or.inl ne184)).other W291 (Or.inl ne184)).other W297 (Or.inl ne184)).other W303 (Or.inl ne184)).other W309 (Or.inl ne184)).other W315 (Or.inl ne184))
      have f393 := (Nat.le_trans (Nat.le_trans (Nat.le_trans (Nat.le_trans (Nat.le_trans (Nat.le_trans (Nat.le_trans (Nat.le_trans (Nat.le_trans (Nat.le_trans (Nat.le_trans (Nat.le_trans (Nat.le_trans (Nat.le_trans (Nat.le_trans (Nat.le_trans (Nat.le_trans (Nat.le_trans f213 E176.1) (Keep.of_wr W219).1) (Keep.of_wr W225).1) (Keep.of_wr W231).1) (Keep.of_wr W237).1) (Keep.of_wr W243).1) (Keep.of_wr W249).1) (Keep.of_wr W255).1) (Keep.of_wr W261).1) (Keep.of_wr W267).1) (Keep.of_wr W273).1) (Keep.of_wr W279).1) (Keep.of_wr W285).1) (Keep.of_wr W291).1) (Keep.of_wr W297).1) (Keep.of_wr W303).1) (Keep.of_wr W309).1) (Keep.of_wr W315).1)
      have f394 := ((((((((((((((((((f183.ext E176).wr W219).wr W225).wr W231).wr W237).wr W243).wr W249).wr W255).wr W261).wr W267).wr W273).wr W279).wr W285).wr W291).wr W297).wr W303).wr W309).wr W315)
      obtain ⟨cq392, kq392, q392a, q392b, q392c⟩ := isOf hZ e315 f394
      obtain ⟨_, _, ⟨T392, L392, k392, n392⟩, -, X392, ⟨Lc392, hQ392, l392, y392, z392⟩, st392⟩ := X315.virtualBack hx (y := MN1) (z := MN1) hown (mvT hZ wo40) (mvT hZ wo41) (notFace_of_selects (args := #[]) (mvT hZ wo43)) (mvT hZ wo43) (mvT hZ wo42) (by decide) (backOf (W := 0) (rm1 l Z a0 hw [] s_READ_CACHE oc (1 : Int32) h315 n0 f393 f391) hZ wo44 wo3 (by decide) (by decide)) q392a q392c (g := (mkF m 254 #[iv p0_0, .val (.long oc), .second, rv b1, rv b176, iv (3 : Int32), iv (1 : Int32), iv (1 : Int32)] [(.long oc), (.ref s_READ_CACHE)])) rfl (by rw [hml]; rfl) (Steps.refl _) (argsL := [(.long oc)]) (rest := []) (lenOf pd_0 rfl) rfl (by show 2 * 0 + _ ≤ _; exact Nat.le_of_eq rfl) (hb hby at_254) (fun _ _ => ⟨rfl, e315, (by decide : 2 + 0 ≤ _), (by decide : 34 + 0 ≤ _)⟩)
      dsimp only [Pt.U, Pt.locs, Pt.cells, Pt.slots] at X392 l392 y392 z392 st392 hQ392
      rw [l392, y392, z392] at X392
      obtain ⟨rfl, N392q, K392q⟩ := hQ392
      have N395 := Fr.app N318 N392q
      have q396 : (if (1 : Int32) = (-1 : Int32) then (1 : Int32) else (if (lcmpW ((oc >>> ((1 : Int32) &&& 0x3f).toInt64) &&& (1 : Int64)) (1 : Int64)) = (0 : Int32) then (1 : Int32) else (0 : Int32))) = (1 : Int32) := (if_neg (by decide)).trans (if_pos ((own_bit1 _).mpr hc239_375))
      obtain ⟨fs, hr, hrun, hended, hW, hsame⟩ := X392.leave (v := some (.int (1 : Int32))) (fun h => by rw [Bd.returns] at h; cases h)
      refine ⟨_, _, pre376 _ ?_, hrun, hended, _, _, rfl, ?_, ⟨_, rfl⟩, hW, hsame.mono (by decide) (by decide)⟩
      · show Steps p.tables e below (T315.setTop (mkF m 239 #[iv p0_0, .val (.long oc), .second, rv b1, rv b176, iv (3 : Int32), iv (1 : Int32), .unset] [(.int (lcmpW (oc &&& (2 : Int64)) (0 : Int64)))])) _
        refine XS.ifNo X315.here hx rfl (hb hby at_239) rfl ((if0 _ _).trans (feq hc239_375).1) ?_
        show Steps p.tables e below (T315.setTop (mkF m 242 #[iv p0_0, .val (.long oc), .second, rv b1, rv b176, iv (3 : Int32), iv (1 : Int32), .unset] [])) _
        refine XS.iconst X315.here hx rfl (hb hby at_242) ?_
        show Steps p.tables e below (T315.setTop (mkF m 243 #[iv p0_0, .val (.long oc), .second, rv b1, rv b176, iv (3 : Int32), iv (1 : Int32), .unset] [(.int (1 : Int32))])) _
        refine XS.goto X315.here hx rfl (pc0 := 243) (pc' := 247) rfl (hb hby at_243) (by decide) (by decide) ?_
        show Steps p.tables e below (T315.setTop (mkF m 247 #[iv p0_0, .val (.long oc), .second, rv b1, rv b176, iv (3 : Int32), iv (1 : Int32), .unset] [(.int (1 : Int32))])) _
        refine XS.istore X315.here hx rfl (hb hby at_247) rfl (l' := #[iv p0_0, .val (.long oc), .second, rv b1, rv b176, iv (3 : Int32), iv (1 : Int32), iv (1 : Int32)]) rfl ?_
        show Steps p.tables e below (T315.setTop (mkF m 249 #[iv p0_0, .val (.long oc), .second, rv b1, rv b176, iv (3 : Int32), iv (1 : Int32), iv (1 : Int32)] [])) _
        refine XS.aloadN X315.here hx rfl (hb hby at_249) rfl rfl ?_
        show Steps p.tables e below (T315.setTop (mkF m 250 #[iv p0_0, .val (.long oc), .second, rv b1, rv b176, iv (3 : Int32), iv (1 : Int32), iv (1 : Int32)] [(.ref b1)])) _
        refine XS.iload X315.here hx rfl (hb hby at_250) rfl ?_
        show Steps p.tables e below (T315.setTop (mkF m 252 #[iv p0_0, .val (.long oc), .second, rv b1, rv b176, iv (3 : Int32), iv (1 : Int32), iv (1 : Int32)] [(.int (3 : Int32)), (.ref b1)])) _
        refine X315.aaload hx (j := (3 : Int32)) (v := (.ref s_READ_CACHE)) (by rw [e315]; exact Ar388.1) (State.isArrayOf_alike hZ.alike Ar388.2.1) rfl Ar388.2.2 hin389 hat390 (g := (mkF m 252 #[iv p0_0, .val (.long oc), .second, rv b1, rv b176, iv (3 : Int32), iv (1 : Int32), iv (1 : Int32)] [(.int (3 : Int32)), (.ref b1)])) rfl rfl (hb hby at_252) _ ?_
        show Steps p.tables e below (T315.setTop (mkF m 253 #[iv p0_0, .val (.long oc), .second, rv b1, rv b176, iv (3 : Int32), iv (1 : Int32), iv (1 : Int32)] [(.ref s_READ_CACHE)])) _
        refine XS.lloadN X315.here hx rfl (hb hby at_253) rfl ?_
        show Steps p.tables e below (T315.setTop (mkF m 254 #[iv p0_0, .val (.long oc), .second, rv b1, rv b176, iv (3 : Int32), iv (1 : Int32), iv (1 : Int32)] [(.long oc), (.ref s_READ_CACHE)])) _
        refine st392.trans ?_
        rw [q396]
        show Steps p.tables e below (T392.setTop (mkF m 257 #[iv p0_0, .val (.long oc), .second, rv b1, rv b176, iv (3 : Int32), iv (1 : Int32), iv (1 : Int32)] [(.int (1 : Int32))])) _
        show Steps p.tables e below (T392.setTop (mkF m 257 #[iv p0_0, .val (.long oc), .second, rv b1, rv b176, iv (3 : Int32), iv (1 : Int32), iv (1 : Int32)] [(.int (1 : Int32))])) _
        refine XS.iload X392.here hx rfl (hb hby at_257) rfl ?_
        show Steps p.tables e below (T392.setTop (mkF m 259 #[iv p0_0, .val (.long oc), .second, rv b1, rv b176, iv (3 : Int32), iv (1 : Int32), iv (1 : Int32)] [(.int (1 : Int32)), (.int (1 : Int32))])) _
        refine XS.icmpNo X392.here hx rfl (hb hby at_259) rfl (teq (by decide : (1 : Int32) = (1 : Int32))).2 ?_
        show Steps p.tables e below (T392.setTop (mkF m 262 #[iv p0_0, .val (.long oc), .second, rv b1, rv b176, iv (3 : Int32), iv (1 : Int32), iv (1 : Int32)] [])) _
        refine XS.iconst X392.here hx rfl (hb hby at_262) ?_
        show Steps p.tables e below (T392.setTop (mkF m 263 #[iv p0_0, .val (.long oc), .second, rv b1, rv b176, iv (3 : Int32), iv (1 : Int32), iv (1 : Int32)] [(.int (1 : Int32))])) _
        refine XS.goto X392.here hx rfl (pc0 := 263) (pc' := 267) rfl (hb hby at_263) (by decide) (by decide) ?_
        show Steps p.tables e below (T392.setTop (mkF m 267 #[iv p0_0, .val (.long oc), .second, rv b1, rv b176, iv (3 : Int32), iv (1 : Int32), iv (1 : Int32)] [(.int (1 : Int32))])) _
        exact retN X392 hx (t := .boolean) Bd.returns (by simp) (hb hby at_267) hr
      · show Q_rm0 Z _ _ _ _ _ _ _ _ _ _ _ _ _ _ _ _ _ _ _ h0 n0 _ T392.heap _
        rw [K392q]
        exact ⟨rfl, N395, (K316)⟩
  · skip
    obtain ⟨kk397, cl397, Ar397, qq397, Sz397, Nn397, Hs397, Gf397⟩ := id f317
    have hin398 : ¬ ((4 : Int32) < 0 ∨ cl397.slots.size ≤ ((4 : Int32)).toNatClampNeg) := inb_of Sz397 ⟨by decide, by decide⟩
    have hat399 : cl397.slots[((4 : Int32)).toNatClampNeg]? = some (.int (1 : Int32)) := Has.at Hs397 hin398 rfl
    have pre401 : ∀ t, Steps p.tables e below (T315.setTop (mkF m 239 #[iv p0_0, .val (.long oc), .second, rv b1, rv b176, iv (4 : Int32), iv (1 : Int32), .unset] [(.int (lcmpW (oc &&& (2 : Int64)) (0 : Int64)))])) t → Steps p.tables e below (s₁.setTop (entryFrame m #[(.int p0_0), (.long oc)] maxLocals)) t := by
      intro t_ k_
      refine pre319 _ ?_
      show Steps p.tables e below (T315.setTop (mkF m 213 #[iv p0_0, .val (.long oc), .second, rv b1, rv b176, iv (4 : Int32), .unset, .unset] [])) _
      refine XS.aload X315.here hx rfl (hb hby at_213) rfl rfl ?_
      show Steps p.tables e below (T315.setTop (mkF m 215 #[iv p0_0, .val (.long oc), .second, rv b1, rv b176, iv (4 : Int32), .unset, .unset] [(.ref b176)])) _
      refine XS.iload X315.here hx rfl (hb hby at_215) rfl ?_
      show Steps p.tables e below (T315.setTop (mkF m 217 #[iv p0_0, .val (.long oc), .second, rv b1, rv b176, iv (4 : Int32), .unset, .unset] [(.int (4 : Int32)), (.ref b176)])) _
      refine X315.iaload hx (j := (4 : Int32)) (v := (.int (1 : Int32))) (by rw [e315]; exact Ar397.1) (State.isArrayOf_alike hZ.alike Ar397.2.1) Ar397.2.2 hin398 hat399 (g := (mkF m 217 #[iv p0_0, .val (.long oc), .second, rv b1, rv b176, iv (4 : Int32), .unset, .unset] [(.int (4 : Int32)), (.ref b176)])) rfl rfl (hb hby at_217) _ ?_
      show Steps p.tables e below (T315.setTop (mkF m 218 #[iv p0_0, .val (.long oc), .second, rv b1, rv b176, iv (4 : Int32), .unset, .unset] [(.int (1 : Int32))])) _
      refine XS.istore X315.here hx rfl (hb hby at_218) rfl (l' := #[iv p0_0, .val (.long oc), .second, rv b1, rv b176, iv (4 : Int32), iv (1 : Int32), .unset]) rfl ?_
      show Steps p.tables e below (T315.setTop (mkF m 220 #[iv p0_0, .val (.long oc), .second, rv b1, rv b176, iv (4 : Int32), iv (1 : Int32), .unset] [])) _
      refine XS.iload X315.here hx rfl (hb hby at_220) rfl ?_
      show Steps p.tables e below (T315.setTop (mkF m 222 #[iv p0_0, .val (.long oc), .second, rv b1, rv b176, iv (4 : Int32), iv (1 : Int32), .unset] [(.int (1 : Int32))])) _
      refine XS.ifYes X315.here hx rfl (pc0 := 222) (pc' := 231) rfl (hb hby at_222) rfl ((if0 _ _).trans (flt (by decide : ¬ ((1 : Int32) < (0 : Int32)))).2.1) (by decide) (by decide) ?_
      show Steps p.tables e below (T315.setTop (mkF m 231 #[iv p0_0, .val (.long oc), .second, rv b1, rv b176, iv (4 : Int32), iv (1 : Int32), .unset] [])) _
      refine XS.lloadN X315.here hx rfl (hb hby at_231) rfl ?_
      show Steps p.tables e below (T315.setTop (mkF m 232 #[iv p0_0, .val (.long oc), .second, rv b1, rv b176, iv (4 : Int32), iv (1 : Int32), .unset] [(.long oc)])) _
      refine XS.lconst X315.here hx rfl (hb hby at_232) ?_
      show Steps p.tables e below (T315.setTop (mkF m 233 #[iv p0_0, .val (.long oc), .second, rv b1, rv b176, iv (4 : Int32), iv (1 : Int32), .unset] [(.long (1 : Int64)), (.long oc)])) _
      refine XS.iload X315.here hx rfl (hb hby at_233) rfl ?_
      show Steps p.tables e below (T315.setTop (mkF m 235 #[iv p0_0, .val (.long oc), .second, rv b1, rv b176, iv (4 : Int32), iv (1 : Int32), .unset] [(.int (1 : Int32)), (.long (1 : Int64)), (.long oc)])) _
      refine XS.lshl X315.here hx rfl (hb hby at_235) rfl ?_
      show Steps p.tables e below (T315.setTop (mkF m 236 #[iv p0_0, .val (.long oc), .second, rv b1, rv b176, iv (4 : Int32), iv (1 : Int32), .unset] [(.long (2 : Int64)), (.long oc)])) _
      refine XS.land X315.here hx rfl (hb hby at_236) rfl ?_
      show Steps p.tables e below (T315.setTop (mkF m 237 #[iv p0_0, .val (.long oc), .second, rv b1, rv b176, iv (4 : Int32), iv (1 : Int32), .unset] [(.long (oc &&& (2 : Int64)))])) _
      refine XS.lconst X315.here hx rfl (hb hby at_237) ?_
      show Steps p.tables e below (T315.setTop (mkF m 238 #[iv p0_0, .val (.long oc), .second, rv b1, rv b176, iv (4 : Int32), iv (1 : Int32), .unset] [(.long (0 : Int64)), (.long (oc &&& (2 : Int64)))])) _
      refine XS.lcmp X315.here hx rfl (hb hby at_238) rfl ?_
      exact k_
    by_cases hc239_400 : (lcmpW (oc &&& (2 : Int64)) (0 : Int64)) = (0 : Int32)
    · skip
      have f402 := ((((((((((((((((((f174.ext E176).other W219 ne211).other W225 ne211).other W231 ne211).other W237 ne211).other W243 ne211).other W249 ne211).other W255 ne211).other W261 ne211).other W267 ne211).other W273 ne211).other W279 ne211).other W285 ne211).other W291 ne211).other W297 ne211).other W303 ne211).other W309 ne211).other W315 ne211)
      obtain ⟨cl403, Ar403, qq403, Sz403, Nn403, Hs403, Gf403⟩ := id f402
      have hin404 : ¬ ((4 : Int32) < 0 ∨ cl403.slots.size ≤ ((4 : Int32)).toNatClampNeg) := inb_of Sz403 ⟨by decide, by decide⟩
      have hat405 : cl403.slots[((4 : Int32)).toNatClampNeg]? = some (.ref s_READ_CACHE_END) := Has.at Hs403 hin404 rfl
      have f406 := ((((((((((((((((((((((((((((((((((((pf_F_s_READ_CACHE_END_optionalBit.ext E1).other W28 (Or.inl ne6)).other W37 (Or.inl ne6)).other W46 (Or.inl ne6)).other W55 (Or.inl ne6)).other W64 (Or.inl ne6)).other W73 (Or.inl ne6)).other W82 (Or.inl ne6)).other W91 (Or.inl ne6)).other W100 (Or.inl ne6)).other W109 (Or.inl ne6)).other W118 (Or.inl ne6)).other W127 (Or.inl ne6)).other W136 (Or.inl ne6)).other W145 (Or.inl ne6)).other W154 (Or.inl ne6)).other W163 (Or.inl ne6)).other W172 (Or.inl ne6)).ext E176).other W219 (Or.inl ne186)).other W225 (Or.inl ne186)).other W231 (Or.inl ne186)).other W237 (Or.inl ne186)).other W243 (Or.inl ne186)).other W249 (Or.inl ne186)).other W255 (Or.inl ne186)).other W261 (Or.inl ne186)).other W267 (Or.inl ne186)).other W273 (Or.inl ne186)).other W279 (Or.inl ne186)).other W285 (Or.inl ne186)).other W291 (Or.inl ne186)).other W297 (Or.inl ne186)).other W303 (Or.inl ne186)).other W309 (Or.inl ne186)).other W315 (Or.inl ne186))
      have f408 := (Nat.le_trans (Nat.le_trans (Nat.le_trans (Nat.le_trans (Nat.le_trans (Nat.le_trans (Nat.le_trans (Nat.le_trans (Nat.le_trans (Nat.le_trans (Nat.le_trans (Nat.le_trans (Nat.le_trans (Nat.le_trans (Nat.le_trans (Nat.le_trans (Nat.le_trans (Nat.le_trans f213 E176.1) (Keep.of_wr W219).1) (Keep.of_wr W225).1) (Keep.of_wr W231).1) (Keep.of_wr W237).1) (Keep.of_wr W243).1) (Keep.of_wr W249).1) (Keep.of_wr W255).1) (Keep.of_wr W261).1) (Keep.of_wr W267).1) (Keep.of_wr W273).1) (Keep.of_wr W279).1) (Keep.of_wr W285).1) (Keep.of_wr W291).1) (Keep.of_wr W297).1) (Keep.of_wr W303).1) (Keep.of_wr W309).1) (Keep.of_wr W315).1)
      have f409 := ((((((((((((((((((f185.ext E176).wr W219).wr W225).wr W231).wr W237).wr W243).wr W249).wr W255).wr W261).wr W267).wr W273).wr W279).wr W285).wr W291).wr W297).wr W303).wr W309).wr W315)
      obtain ⟨cq407, kq407, q407a, q407b, q407c⟩ := isOf hZ e315 f409
      obtain ⟨_, _, ⟨T407, L407, k407, n407⟩, -, X407, ⟨Lc407, hQ407, l407, y407, z407⟩, st407⟩ := X315.virtualBack hx (y := MN1) (z := MN1) hown (mvT hZ wo40) (mvT hZ wo41) (notFace_of_selects (args := #[]) (mvT hZ wo43)) (mvT hZ wo43) (mvT hZ wo42) (by decide) (backOf (W := 0) (rm1 l Z a0 hw [] s_READ_CACHE_END oc (1 : Int32) h315 n0 f408 f406) hZ wo44 wo3 (by decide) (by decide)) q407a q407c (g := (mkF m 254 #[iv p0_0, .val (.long oc), .second, rv b1, rv b176, iv (4 : Int32), iv (1 : Int32), iv (0 : Int32)] [(.long oc), (.ref s_READ_CACHE_END)])) rfl (by rw [hml]; rfl) (Steps.refl _) (argsL := [(.long oc)]) (rest := []) (lenOf pd_0 rfl) rfl (by show 2 * 0 + _ ≤ _; exact Nat.le_of_eq rfl) (hb hby at_254) (fun _ _ => ⟨rfl, e315, (by decide : 2 + 0 ≤ _), (by decide : 34 + 0 ≤ _)⟩)
      dsimp only [Pt.U, Pt.locs, Pt.cells, Pt.slots] at X407 l407 y407 z407 st407 hQ407
      rw [l407, y407, z407] at X407
      obtain ⟨rfl, N407q, K407q⟩ := hQ407
      have N410 := Fr.app N318 N407q
      have q411 : (if (1 : Int32) = (-1 : Int32) then (1 : Int32) else (if (lcmpW ((oc >>> ((1 : Int32) &&& 0x3f).toInt64) &&& (1 : Int64)) (1 : Int64)) = (0 : Int32) then (1 : Int32) else (0 : Int32))) = (0 : Int32) := (if_neg (by decide)).trans (if_neg (fun q => (own_bit1 _).mp q hc239_400))
      obtain ⟨fs, hr, hrun, hended, hW, hsame⟩ := X407.leave (v := some (.int (1 : Int32))) (fun h => by rw [Bd.returns] at h; cases h)
      refine ⟨_, _, pre401 _ ?_, hrun, hended, _, _, rfl, ?_, ⟨_, rfl⟩, hW, hsame.mono (by decide) (by decide)⟩
      · show Steps p.tables e below (T315.setTop (mkF m 239 #[iv p0_0, .val (.long oc), .second, rv b1, rv b176, iv (4 : Int32), iv (1 : Int32), .unset] [(.int (lcmpW (oc &&& (2 : Int64)) (0 : Int64)))])) _
        refine XS.ifYes X315.here hx rfl (pc0 := 239) (pc' := 246) rfl (hb hby at_239) rfl ((if0 _ _).trans (teq hc239_400).1) (by decide) (by decide) ?_
        show Steps p.tables e below (T315.setTop (mkF m 246 #[iv p0_0, .val (.long oc), .second, rv b1, rv b176, iv (4 : Int32), iv (1 : Int32), .unset] [])) _
        refine XS.iconst X315.here hx rfl (hb hby at_246) ?_
        show Steps p.tables e below (T315.setTop (mkF m 247 #[iv p0_0, .val (.long oc), .second, rv b1, rv b176, iv (4 : Int32), iv (1 : Int32), .unset] [(.int (0 : Int32))])) _
        refine XS.istore X315.here hx rfl (hb hby at_247) rfl (l' := #[iv p0_0, .val (.long oc), .second, rv b1, rv b176, iv (4 : Int32), iv (1 : Int32), iv (0 : Int32)]) rfl ?_
        show Steps p.tables e below (T315.setTop (mkF m 249 #[iv p0_0, .val (.long oc), .second, rv b1, rv b176, iv (4 : Int32), iv (1 : Int32), iv (0 : Int32)] [])) _
        refine XS.aloadN X315.here hx rfl (hb hby at_249) rfl rfl ?_
        show Steps p.tables e below (T315.setTop (mkF m 250 #[iv p0_0, .val (.long oc), .second, rv b1, rv b176, iv (4 : Int32), iv (1 : Int32), iv (0 : Int32)] [(.ref b1)])) _
        refine XS.iload X315.here hx rfl (hb hby at_250) rfl ?_
        show Steps p.tables e below (T315.setTop (mkF m 252 #[iv p0_0, .val (.long oc), .second, rv b1, rv b176, iv (4 : Int32), iv (1 : Int32), iv (0 : Int32)] [(.int (4 : Int32)), (.ref b1)])) _
        refine X315.aaload hx (j := (4 : Int32)) (v := (.ref s_READ_CACHE_END)) (by rw [e315]; exact Ar403.1) (State.isArrayOf_alike hZ.alike Ar403.2.1) rfl Ar403.2.2 hin404 hat405 (g := (mkF m 252 #[iv p0_0, .val (.long oc), .second, rv b1, rv b176, iv (4 : Int32), iv (1 : Int32), iv (0 : Int32)] [(.int (4 : Int32)), (.ref b1)])) rfl rfl (hb hby at_252) _ ?_
        show Steps p.tables e below (T315.setTop (mkF m 253 #[iv p0_0, .val (.long oc), .second, rv b1, rv b176, iv (4 : Int32), iv (1 : Int32), iv (0 : Int32)] [(.ref s_READ_CACHE_END)])) _
        refine XS.lloadN X315.here hx rfl (hb hby at_253) rfl ?_
        show Steps p.tables e below (T315.setTop (mkF m 254 #[iv p0_0, .val (.long oc), .second, rv b1, rv b176, iv (4 : Int32), iv (1 : Int32), iv (0 : Int32)] [(.long oc), (.ref s_READ_CACHE_END)])) _
        refine st407.trans ?_
        rw [q411]
        show Steps p.tables e below (T407.setTop (mkF m 257 #[iv p0_0, .val (.long oc), .second, rv b1, rv b176, iv (4 : Int32), iv (1 : Int32), iv (0 : Int32)] [(.int (0 : Int32))])) _
        show Steps p.tables e below (T407.setTop (mkF m 257 #[iv p0_0, .val (.long oc), .second, rv b1, rv b176, iv (4 : Int32), iv (1 : Int32), iv (0 : Int32)] [(.int (0 : Int32))])) _
        refine XS.iload X407.here hx rfl (hb hby at_257) rfl ?_
        show Steps p.tables e below (T407.setTop (mkF m 259 #[iv p0_0, .val (.long oc), .second, rv b1, rv b176, iv (4 : Int32), iv (1 : Int32), iv (0 : Int32)] [(.int (0 : Int32)), (.int (0 : Int32))])) _
        refine XS.icmpNo X407.here hx rfl (hb hby at_259) rfl (teq (by decide : (0 : Int32) = (0 : Int32))).2 ?_
        show Steps p.tables e below (T407.setTop (mkF m 262 #[iv p0_0, .val (.long oc), .second, rv b1, rv b176, iv (4 : Int32), iv (1 : Int32), iv (0 : Int32)] [])) _
        refine XS.iconst X407.here hx rfl (hb hby at_262) ?_
        show Steps p.tables e below (T407.setTop (mkF m 263 #[iv p0_0, .val (.long oc), .second, rv b1, rv b176, iv (4 : Int32), iv (1 : Int32), iv (0 : Int32)] [(.int (1 : Int32))])) _
        refine XS.goto X407.here hx rfl (pc0 := 263) (pc' := 267) rfl (hb hby at_263) (by decide) (by decide) ?_
        show Steps p.tables e below (T407.setTop (mkF m 267 #[iv p0_0, .val (.long oc), .second, rv b1, rv b176, iv (4 : Int32), iv (1 : Int32), iv (0 : Int32)] [(.int (1 : Int32))])) _
        exact retN X407 hx (t := .boolean) Bd.returns (by simp) (hb hby at_267) hr
      · show Q_rm0 Z _ _ _ _ _ _ _ _ _ _ _ _ _ _ _ _ _ _ _ h0 n0 _ T407.heap _
        rw [K407q]
        exact ⟨rfl, N410, (K316)⟩
    · skip
      have f412 := ((((((((((((((((((f174.ext E176).other W219 ne211).other W225 ne211).other W231 ne211).other W237 ne211).other W243 ne211).other W249 ne211).other W255 ne211).other W261 ne211).other W267 ne211).other W273 ne211).other W279 ne211).other W285 ne211).other W291 ne211).other W297 ne211).other W303 ne211).other W309 ne211).other W315 ne211)
      obtain ⟨cl413, Ar413, qq413, Sz413, Nn413, Hs413, Gf413⟩ := id f412
      have hin414 : ¬ ((4 : Int32) < 0 ∨ cl413.slots.size ≤ ((4 : Int32)).toNatClampNeg) := inb_of Sz413 ⟨by decide, by decide⟩
      have hat415 : cl413.slots[((4 : Int32)).toNatClampNeg]? = some (.ref s_READ_CACHE_END) := Has.at Hs413 hin414 rfl
      have f416 := ((((((((((((((((((((((((((((((((((((pf_F_s_READ_CACHE_END_optionalBit.ext E1).other W28 (Or.inl ne6)).other W37 (Or.inl ne6)).other W46 (Or.inl ne6)).other W55 (Or.inl ne6)).other W64 (Or.inl ne6)).other W73 (Or.inl ne6)).other W82 (Or.inl ne6)).other W91 (Or.inl ne6)).other W100 (Or.inl ne6)).other W109 (Or.inl ne6)).other W118 (Or.inl ne6)).other W127 (Or.inl ne6)).other W136 (Or.inl ne6)).other W145 (Or.inl ne6)).other W154 (Or.inl ne6)).other W163 (Or.inl ne6)).other W172 (Or.inl ne6)).ext E176).other W219 (Or.inl ne186)).other W225 (Or.inl ne186)).other W231 (Or.inl ne186)).other W237 (Or.inl ne186)).other W243 (Or.inl ne186)).other W249 (Or.inl ne186)).other W255 (Or.inl ne186)).other W261 (Or.inl ne186)).other W267 (Or.inl ne186)).other W273 (Or.inl ne186)).other W279 (Or.inl ne186)).other W285 (Or.inl ne186)).other W291 (Or.inl ne186)).other W297 (Or.inl ne186)).other W303 (Or.inl ne186)).other W309 (Or.inl ne186)).other W315 (Or.inl ne186))
      have f418 := (Nat.le_trans (Nat.le_trans (Nat.le_trans (Nat.le_trans (Nat.le_trans (Nat.le_trans (Nat.le_trans (Nat.le_trans (Nat.le_trans (Nat.le_trans (Nat.le_trans (Nat.le_trans (Nat.le_trans (Nat.le_trans (Nat.le_trans (Nat.le_trans (Nat.le_trans (Nat.le_trans f213 E176.1) (Keep.of_wr W219).1) (Keep.of_wr W225).1) (Keep.of_wr W231).1) (Keep.of_wr W237).1) (Keep.of_wr W243).1) (Keep.of_wr W249).1) (Keep.of_wr W255).1) (Keep.of_wr W261).1) (Keep.of_wr W267).1) (Keep.of_wr W273).1) (Keep.of_wr W279).1) (Keep.of_wr W285).1) (Keep.of_wr W291).1) (Keep.of_wr W297).1) (Keep.of_wr W303).1) (Keep.of_wr W309).1) (Keep.of_wr W315).1)
      have f419 := ((((((((((((((((((f185.ext E176).wr W219).wr W225).wr W231).wr W237).wr W243).wr W249).wr W255).wr W261).wr W267).wr W273).wr W279).wr W285).wr W291).wr W297).wr W303).wr W309).wr W315)
      obtain ⟨cq417, kq417, q417a, q417b, q417c⟩ := isOf hZ e315 f419
      obtain ⟨_, _, ⟨T417, L417, k417, n417⟩, -, X417, ⟨Lc417, hQ417, l417, y417, z417⟩, st417⟩ := X315.virtualBack hx (y := MN1) (z := MN1) hown (mvT hZ wo40) (mvT hZ wo41) (notFace_of_selects (args := #[]) (mvT hZ wo43)) (mvT hZ wo43) (mvT hZ wo42) (by decide) (backOf (W := 0) (rm1 l Z a0 hw [] s_READ_CACHE_END oc (1 : Int32) h315 n0 f418 f416) hZ wo44 wo3 (by decide) (by decide)) q417a q417c (g := (mkF m 254 #[iv p0_0, .val (.long oc), .second, rv b1, rv b176, iv (4 : Int32), iv (1 : Int32), iv (1 : Int32)] [(.long oc), (.ref s_READ_CACHE_END)])) rfl (by rw [hml]; rfl) (Steps.refl _) (argsL := [(.long oc)]) (rest := []) (lenOf pd_0 rfl) rfl (by show 2 * 0 + _ ≤ _; exact Nat.le_of_eq rfl) (hb hby at_254) (fun _ _ => ⟨rfl, e315, (by decide : 2 + 0 ≤ _), (by decide : 34 + 0 ≤ _)⟩)
      dsimp only [Pt.U, Pt.locs, Pt.cells, Pt.slots] at X417 l417 y417 z417 st417 hQ417
      rw [l417, y417, z417] at X417
      obtain ⟨rfl, N417q, K417q⟩ := hQ417
      have N420 := Fr.app N318 N417q
      have q421 : (if (1 : Int32) = (-1 : Int32) then (1 : Int32) else (if (lcmpW ((oc >>> ((1 : Int32) &&& 0x3f).toInt64) &&& (1 : Int64)) (1 : Int64)) = (0 : Int32) then (1 : Int32) else (0 : Int32))) = (1 : Int32) := (if_neg (by decide)).trans (if_pos ((own_bit1 _).mpr hc239_400))
      obtain ⟨fs, hr, hrun, hended, hW, hsame⟩ := X417.leave (v := some (.int (1 : Int32))) (fun h => by rw [Bd.returns] at h; cases h)
      refine ⟨_, _, pre401 _ ?_, hrun, hended, _, _, rfl, ?_, ⟨_, rfl⟩, hW, hsame.mono (by decide) (by decide)⟩
      · show Steps p.tables e below (T315.setTop (mkF m 239 #[iv p0_0, .val (.long oc), .second, rv b1, rv b176, iv (4 : Int32), iv (1 : Int32), .unset] [(.int (lcmpW (oc &&& (2 : Int64)) (0 : Int64)))])) _
        refine XS.ifNo X315.here hx rfl (hb hby at_239) rfl ((if0 _ _).trans (feq hc239_400).1) ?_
        show Steps p.tables e below (T315.setTop (mkF m 242 #[iv p0_0, .val (.long oc), .second, rv b1, rv b176, iv (4 : Int32), iv (1 : Int32), .unset] [])) _
        refine XS.iconst X315.here hx rfl (hb hby at_242) ?_
        show Steps p.tables e below (T315.setTop (mkF m 243 #[iv p0_0, .val (.long oc), .second, rv b1, rv b176, iv (4 : Int32), iv (1 : Int32), .unset] [(.int (1 : Int32))])) _
        refine XS.goto X315.here hx rfl (pc0 := 243) (pc' := 247) rfl (hb hby at_243) (by decide) (by decide) ?_
        show Steps p.tables e below (T315.setTop (mkF m 247 #[iv p0_0, .val (.long oc), .second, rv b1, rv b176, iv (4 : Int32), iv (1 : Int32), .unset] [(.int (1 : Int32))])) _
        refine XS.istore X315.here hx rfl (hb hby at_247) rfl (l' := #[iv p0_0, .val (.long oc), .second, rv b1, rv b176, iv (4 : Int32), iv (1 : Int32), iv (1 : Int32)]) rfl ?_
        show Steps p.tables e below (T315.setTop (mkF m 249 #[iv p0_0, .val (.long oc), .second, rv b1, rv b176, iv (4 : Int32), iv (1 : Int32), iv (1 : Int32)] [])) _
        refine XS.aloadN X315.here hx rfl (hb hby at_249) rfl rfl ?_
        show Steps p.tables e below (T315.setTop (mkF m 250 #[iv p0_0, .val (.long oc), .second, rv b1, rv b176, iv (4 : Int32), iv (1 : Int32), iv (1 : Int32)] [(.ref b1)])) _
        refine XS.iload X315.here hx rfl (hb hby at_250) rfl ?_
        show Steps p.tables e below (T315.setTop (mkF m 252 #[iv p0_0, .val (.long oc), .second, rv b1, rv b176, iv (4 : Int32), iv (1 : Int32), iv (1 : Int32)] [(.int (4 : Int32)), (.ref b1)])) _
        refine X315.aaload hx (j := (4 : Int32)) (v := (.ref s_READ_CACHE_END)) (by rw [e315]; exact Ar413.1) (State.isArrayOf_alike hZ.alike Ar413.2.1) rfl Ar413.2.2 hin414 hat415 (g := (mkF m 252 #[iv p0_0, .val (.long oc), .second, rv b1, rv b176, iv (4 : Int32), iv (1 : Int32), iv (1 : Int32)] [(.int (4 : Int32)), (.ref b1)])) rfl rfl (hb hby at_252) _ ?_
        show Steps p.tables e below (T315.setTop (mkF m 253 #[iv p0_0, .val (.long oc), .second, rv b1, rv b176, iv (4 : Int32), iv (1 : Int32), iv (1 : Int32)] [(.ref s_READ_CACHE_END)])) _
        refine XS.lloadN X315.here hx rfl (hb hby at_253) rfl ?_
        show Steps p.tables e below (T315.setTop (mkF m 254 #[iv p0_0, .val (.long oc), .second, rv b1, rv b176, iv (4 : Int32), iv (1 : Int32), iv (1 : Int32)] [(.long oc), (.ref s_READ_CACHE_END)])) _
        refine st417.trans ?_
        rw [q421]
        show Steps p.tables e below (T417.setTop (mkF m 257 #[iv p0_0, .val (.long oc), .second, rv b1, rv b176, iv (4 : Int32), iv (1 : Int32), iv (1 : Int32)] [(.int (1 : Int32))])) _
        show Steps p.tables e below (T417.setTop (mkF m 257 #[iv p0_0, .val (.long oc), .second, rv b1, rv b176, iv (4 : Int32), iv (1 : Int32), iv (1 : Int32)] [(.int (1 : Int32))])) _
        refine XS.iload X417.here hx rfl (hb hby at_257) rfl ?_
        show Steps p.tables e below (T417.setTop (mkF m 259 #[iv p0_0, .val (.long oc), .second, rv b1, rv b176, iv (4 : Int32), iv (1 : Int32), iv (1 : Int32)] [(.int (1 : Int32)), (.int (1 : Int32))])) _
        refine XS.icmpNo X417.here hx rfl (hb hby at_259) rfl (teq (by decide : (1 : Int32) = (1 : Int32))).2 ?_
        show Steps p.tables e below (T417.setTop (mkF m 262 #[iv p0_0, .val (.long oc), .second, rv b1, rv b176, iv (4 : Int32), iv (1 : Int32), iv (1 : Int32)] [])) _
        refine XS.iconst X417.here hx rfl (hb hby at_262) ?_
        show Steps p.tables e below (T417.setTop (mkF m 263 #[iv p0_0, .val (.long oc), .second, rv b1, rv b176, iv (4 : Int32), iv (1 : Int32), iv (1 : Int32)] [(.int (1 : Int32))])) _
        refine XS.goto X417.here hx rfl (pc0 := 263) (pc' := 267) rfl (hb hby at_263) (by decide) (by decide) ?_
        show Steps p.tables e below (T417.setTop (mkF m 267 #[iv p0_0, .val (.long oc), .second, rv b1, rv b176, iv (4 : Int32), iv (1 : Int32), iv (1 : Int32)] [(.int (1 : Int32))])) _
        exact retN X417 hx (t := .boolean) Bd.returns (by simp) (hb hby at_267) hr
      · show Q_rm0 Z _ _ _ _ _ _ _ _ _ _ _ _ _ _ _ _ _ _ _ h0 n0 _ T417.heap _
        rw [K417q]
        exact ⟨rfl, N420, (K316)⟩
  · skip
    obtain ⟨kk422, cl422, Ar422, qq422, Sz422, Nn422, Hs422, Gf422⟩ := id f317
    have hin423 : ¬ ((5 : Int32) < 0 ∨ cl422.slots.size ≤ ((5 : Int32)).toNatClampNeg) := inb_of Sz422 ⟨by decide, by decide⟩
    have hat424 : cl422.slots[((5 : Int32)).toNatClampNeg]? = some (.int (-1 : Int32)) := Has.at Hs422 hin423 rfl
    have f425 := ((((((((((((((((((f174.ext E176).other W219 ne211).other W225 ne211).other W231 ne211).other W237 ne211).other W243 ne211).other W249 ne211).other W255 ne211).other W261 ne211).other W267 ne211).other W273 ne211).other W279 ne211).other W285 ne211).other W291 ne211).other W297 ne211).other W303 ne211).other W309 ne211).other W315 ne211)
    obtain ⟨cl426, Ar426, qq426, Sz426, Nn426, Hs426, Gf426⟩ := id f425
    have hin427 : ¬ ((5 : Int32) < 0 ∨ cl426.slots.size ≤ ((5 : Int32)).toNatClampNeg) := inb_of Sz426 ⟨by decide, by decide⟩
    have hat428 : cl426.slots[((5 : Int32)).toNatClampNeg]? = some (.ref s_BLOCK_ERASE) := Has.at Hs426 hin427 rfl
    have f429 := ((((((((((((((((((((((((((((((((((((pf_F_s_BLOCK_ERASE_optionalBit.ext E1).other W28 (Or.inl ne7)).other W37 (Or.inl ne7)).other W46 (Or.inl ne7)).other W55 (Or.inl ne7)).other W64 (Or.inl ne7)).other W73 (Or.inl ne7)).other W82 (Or.inl ne7)).other W91 (Or.inl ne7)).other W100 (Or.inl ne7)).other W109 (Or.inl ne7)).other W118 (Or.inl ne7)).other W127 (Or.inl ne7)).other W136 (Or.inl ne7)).other W145 (Or.inl ne7)).other W154 (Or.inl ne7)).other W163 (Or.inl ne7)).other W172 (Or.inl ne7)).ext E176).other W219 (Or.inl ne188)).other W225 (Or.inl ne188)).other W231 (Or.inl ne188)).other W237 (Or.inl ne188)).other W243 (Or.inl ne188)).other W249 (Or.inl ne188)).other W255 (Or.inl ne188)).other W261 (Or.inl ne188)).other W267 (Or.inl ne188)).other W273 (Or.inl ne188)).other W279 (Or.inl ne188)).other W285 (Or.inl ne188)).other W291 (Or.inl ne188)).other W297 (Or.inl ne188)).other W303 (Or.inl ne188)).other W309 (Or.inl ne188)).other W315 (Or.inl ne188))
    have f431 := (Nat.le_trans (Nat.le_trans (Nat.le_trans (Nat.le_trans (Nat.le_trans (Nat.le_trans (Nat.le_trans (Nat.le_trans (Nat.le_trans (Nat.le_trans (Nat.le_trans (Nat.le_trans (Nat.le_trans (Nat.le_trans (Nat.le_trans (Nat.le_trans (Nat.le_trans (Nat.le_trans f213 E176.1) (Keep.of_wr W219).1) (Keep.of_wr W225).1) (Keep.of_wr W231).1) (Keep.of_wr W237).1) (Keep.of_wr W243).1) (Keep.of_wr W249).1) (Keep.of_wr W255).1) (Keep.of_wr W261).1) (Keep.of_wr W267).1) (Keep.of_wr W273).1) (Keep.of_wr W279).1) (Keep.of_wr W285).1) (Keep.of_wr W291).1) (Keep.of_wr W297).1) (Keep.of_wr W303).1) (Keep.of_wr W309).1) (Keep.of_wr W315).1)
    have f432 := ((((((((((((((((((f187.ext E176).wr W219).wr W225).wr W231).wr W237).wr W243).wr W249).wr W255).wr W261).wr W267).wr W273).wr W279).wr W285).wr W291).wr W297).wr W303).wr W309).wr W315)
    obtain ⟨cq430, kq430, q430a, q430b, q430c⟩ := isOf hZ e315 f432
    obtain ⟨_, _, ⟨T430, L430, k430, n430⟩, -, X430, ⟨Lc430, hQ430, l430, y430, z430⟩, st430⟩ := X315.virtualBack hx (y := MN1) (z := MN1) hown (mvT hZ wo40) (mvT hZ wo41) (notFace_of_selects (args := #[]) (mvT hZ wo43)) (mvT hZ wo43) (mvT hZ wo42) (by decide) (backOf (W := 0) (rm1 l Z a0 hw [] s_BLOCK_ERASE oc (-1 : Int32) h315 n0 f431 f429) hZ wo44 wo3 (by decide) (by decide)) q430a q430c (g := (mkF m 254 #[iv p0_0, .val (.long oc), .second, rv b1, rv b176, iv (5 : Int32), iv (-1 : Int32), iv (1 : Int32)] [(.long oc), (.ref s_BLOCK_ERASE)])) rfl (by rw [hml]; rfl) (Steps.refl _) (argsL := [(.long oc)]) (rest := []) (lenOf pd_0 rfl) rfl (by show 2 * 0 + _ ≤ _; exact Nat.le_of_eq rfl) (hb hby at_254) (fun _ _ => ⟨rfl, e315, (by decide : 2 + 0 ≤ _), (by decide : 34 + 0 ≤ _)⟩)
    dsimp only [Pt.U, Pt.locs, Pt.cells, Pt.slots] at X430 l430 y430 z430 st430 hQ430
    rw [l430, y430, z430] at X430
    obtain ⟨rfl, N430q, K430q⟩ := hQ430
    have N433 := Fr.app N318 N430q
    have q434 : (if (-1 : Int32) = (-1 : Int32) then (1 : Int32) else (if (lcmpW ((oc >>> ((-1 : Int32) &&& 0x3f).toInt64) &&& (1 : Int64)) (1 : Int64)) = (0 : Int32) then (1 : Int32) else (0 : Int32))) = (1 : Int32) := if_pos rfl
    obtain ⟨fs, hr, hrun, hended, hW, hsame⟩ := X430.leave (v := some (.int (1 : Int32))) (fun h => by rw [Bd.returns] at h; cases h)
    refine ⟨_, _, pre319 _ ?_, hrun, hended, _, _, rfl, ?_, ⟨_, rfl⟩, hW, hsame.mono (by decide) (by decide)⟩
    · show Steps p.tables e below (T315.setTop (mkF m 213 #[iv p0_0, .val (.long oc), .second, rv b1, rv b176, iv (5 : Int32), .unset, .unset] [])) _
      refine XS.aload X315.here hx rfl (hb hby at_213) rfl rfl ?_
      show Steps p.tables e below (T315.setTop (mkF m 215 #[iv p0_0, .val (.long oc), .second, rv b1, rv b176, iv (5 : Int32), .unset, .unset] [(.ref b176)])) _
      refine XS.iload X315.here hx rfl (hb hby at_215) rfl ?_
      show Steps p.tables e below (T315.setTop (mkF m 217 #[iv p0_0, .val (.long oc), .second, rv b1, rv b176, iv (5 : Int32), .unset, .unset] [(.int (5 : Int32)), (.ref b176)])) _
      refine X315.iaload hx (j := (5 : Int32)) (v := (.int (-1 : Int32))) (by rw [e315]; exact Ar422.1) (State.isArrayOf_alike hZ.alike Ar422.2.1) Ar422.2.2 hin423 hat424 (g := (mkF m 217 #[iv p0_0, .val (.long oc), .second, rv b1, rv b176, iv (5 : Int32), .unset, .unset] [(.int (5 : Int32)), (.ref b176)])) rfl rfl (hb hby at_217) _ ?_
      show Steps p.tables e below (T315.setTop (mkF m 218 #[iv p0_0, .val (.long oc), .second, rv b1, rv b176, iv (5 : Int32), .unset, .unset] [(.int (-1 : Int32))])) _
      refine XS.istore X315.here hx rfl (hb hby at_218) rfl (l' := #[iv p0_0, .val (.long oc), .second, rv b1, rv b176, iv (5 : Int32), iv (-1 : Int32), .unset]) rfl ?_
      show Steps p.tables e below (T315.setTop (mkF m 220 #[iv p0_0, .val (.long oc), .second, rv b1, rv b176, iv (5 : Int32), iv (-1 : Int32), .unset] [])) _
      refine XS.iload X315.here hx rfl (hb hby at_220) rfl ?_
      show Steps p.tables e below (T315.setTop (mkF m 222 #[iv p0_0, .val (.long oc), .second, rv b1, rv b176, iv (5 : Int32), iv (-1 : Int32), .unset] [(.int (-1 : Int32))])) _
      refine XS.ifNo X315.here hx rfl (hb hby at_222) rfl ((if0 _ _).trans (tlt (by decide : (-1 : Int32) < (0 : Int32))).2.1) ?_
      show Steps p.tables e below (T315.setTop (mkF m 225 #[iv p0_0, .val (.long oc), .second, rv b1, rv b176, iv (5 : Int32), iv (-1 : Int32), .unset] [])) _
      refine XS.iconst X315.here hx rfl (hb hby at_225) ?_
      show Steps p.tables e below (T315.setTop (mkF m 226 #[iv p0_0, .val (.long oc), .second, rv b1, rv b176, iv (5 : Int32), iv (-1 : Int32), .unset] [(.int (1 : Int32))])) _
      refine XS.istore X315.here hx rfl (hb hby at_226) rfl (l' := #[iv p0_0, .val (.long oc), .second, rv b1, rv b176, iv (5 : Int32), iv (-1 : Int32), iv (1 : Int32)]) rfl ?_
      show Steps p.tables e below (T315.setTop (mkF m 228 #[iv p0_0, .val (.long oc), .second, rv b1, rv b176, iv (5 : Int32), iv (-1 : Int32), iv (1 : Int32)] [])) _
      refine XS.goto X315.here hx rfl (pc0 := 228) (pc' := 249) rfl (hb hby at_228) (by decide) (by decide) ?_
      show Steps p.tables e below (T315.setTop (mkF m 249 #[iv p0_0, .val (.long oc), .second, rv b1, rv b176, iv (5 : Int32), iv (-1 : Int32), iv (1 : Int32)] [])) _
      refine XS.aloadN X315.here hx rfl (hb hby at_249) rfl rfl ?_
      show Steps p.tables e below (T315.setTop (mkF m 250 #[iv p0_0, .val (.long oc), .second, rv b1, rv b176, iv (5 : Int32), iv (-1 : Int32), iv (1 : Int32)] [(.ref b1)])) _
      refine XS.iload X315.here hx rfl (hb hby at_250) rfl ?_
      show Steps p.tables e below (T315.setTop (mkF m 252 #[iv p0_0, .val (.long oc), .second, rv b1, rv b176, iv (5 : Int32), iv (-1 : Int32), iv (1 : Int32)] [(.int (5 : Int32)), (.ref b1)])) _
      refine X315.aaload hx (j := (5 : Int32)) (v := (.ref s_BLOCK_ERASE)) (by rw [e315]; exact Ar426.1) (State.isArrayOf_alike hZ.alike Ar426.2.1) rfl Ar426.2.2 hin427 hat428 (g := (mkF m 252 #[iv p0_0, .val (.long oc), .second, rv b1, rv b176, iv (5 : Int32), iv (-1 : Int32), iv (1 : Int32)] [(.int (5 : Int32)), (.ref b1)])) rfl rfl (hb hby at_252) _ ?_
      show Steps p.tables e below (T315.setTop (mkF m 253 #[iv p0_0, .val (.long oc), .second, rv b1, rv b176, iv (5 : Int32), iv (-1 : Int32), iv (1 : Int32)] [(.ref s_BLOCK_ERASE)])) _
      refine XS.lloadN X315.here hx rfl (hb hby at_253) rfl ?_
      show Steps p.tables e below (T315.setTop (mkF m 254 #[iv p0_0, .val (.long oc), .second, rv b1, rv b176, iv (5 : Int32), iv (-1 : Int32), iv (1 : Int32)] [(.long oc), (.ref s_BLOCK_ERASE)])) _
      refine st430.trans ?_
      rw [q434]
      show Steps p.tables e below (T430.setTop (mkF m 257 #[iv p0_0, .val (.long oc), .second, rv b1, rv b176, iv (5 : Int32), iv (-1 : Int32), iv (1 : Int32)] [(.int (1 : Int32))])) _
      show Steps p.tables e below (T430.setTop (mkF m 257 #[iv p0_0, .val (.long oc), .second, rv b1, rv b176, iv (5 : Int32), iv (-1 : Int32), iv (1 : Int32)] [(.int (1 : Int32))])) _
      refine XS.iload X430.here hx rfl (hb hby at_257) rfl ?_
      show Steps p.tables e below (T430.setTop (mkF m 259 #[iv p0_0, .val (.long oc), .second, rv b1, rv b176, iv (5 : Int32), iv (-1 : Int32), iv (1 : Int32)] [(.int (1 : Int32)), (.int (1 : Int32))])) _
      refine XS.icmpNo X430.here hx rfl (hb hby at_259) rfl (teq (by decide : (1 : Int32) = (1 : Int32))).2 ?_
      show Steps p.tables e below (T430.setTop (mkF m 262 #[iv p0_0, .val (.long oc), .second, rv b1, rv b176, iv (5 : Int32), iv (-1 : Int32), iv (1 : Int32)] [])) _
      refine XS.iconst X430.here hx rfl (hb hby at_262) ?_
      show Steps p.tables e below (T430.setTop (mkF m 263 #[iv p0_0, .val (.long oc), .second, rv b1, rv b176, iv (5 : Int32), iv (-1 : Int32), iv (1 : Int32)] [(.int (1 : Int32))])) _
      refine XS.goto X430.here hx rfl (pc0 := 263) (pc' := 267) rfl (hb hby at_263) (by decide) (by decide) ?_
      show Steps p.tables e below (T430.setTop (mkF m 267 #[iv p0_0, .val (.long oc), .second, rv b1, rv b176, iv (5 : Int32), iv (-1 : Int32), iv (1 : Int32)] [(.int (1 : Int32))])) _
      exact retN X430 hx (t := .boolean) Bd.returns (by simp) (hb hby at_267) hr
    · show Q_rm0 Z _ _ _ _ _ _ _ _ _ _ _ _ _ _ _ _ _ _ _ h0 n0 _ T430.heap _
      rw [K430q]
      exact ⟨rfl, N433, (K316)⟩
  · skip
    obtain ⟨kk435, cl435, Ar435, qq435, Sz435, Nn435, Hs435, Gf435⟩ := id f317
    have hin436 : ¬ ((6 : Int32) < 0 ∨ cl435.slots.size ≤ ((6 : Int32)).toNatClampNeg) := inb_of Sz435 ⟨by decide, by decide⟩
    have hat437 : cl435.slots[((6 : Int32)).toNatClampNeg]? = some (.int (-1 : Int32)) := Has.at Hs435 hin436 rfl
    have f438 := ((((((((((((((((((f174.ext E176).other W219 ne211).other W225 ne211).other W231 ne211).other W237 ne211).other W243 ne211).other W249 ne211).other W255 ne211).other W261 ne211).other W267 ne211).other W273 ne211).other W279 ne211).other W285 ne211).other W291 ne211).other W297 ne211).other W303 ne211).other W309 ne211).other W315 ne211)
    obtain ⟨cl439, Ar439, qq439, Sz439, Nn439, Hs439, Gf439⟩ := id f438
    have hin440 : ¬ ((6 : Int32) < 0 ∨ cl439.slots.size ≤ ((6 : Int32)).toNatClampNeg) := inb_of Sz439 ⟨by decide, by decide⟩
    have hat441 : cl439.slots[((6 : Int32)).toNatClampNeg]? = some (.ref s_READ_STATUS) := Has.at Hs439 hin440 rfl
    have f442 := ((((((((((((((((((((((((((((((((((((pf_F_s_READ_STATUS_optionalBit.ext E1).other W28 (Or.inl ne8)).other W37 (Or.inl ne8)).other W46 (Or.inl ne8)).other W55 (Or.inl ne8)).other W64 (Or.inl ne8)).other W73 (Or.inl ne8)).other W82 (Or.inl ne8)).other W91 (Or.inl ne8)).other W100 (Or.inl ne8)).other W109 (Or.inl ne8)).other W118 (Or.inl ne8)).other W127 (Or.inl ne8)).other W136 (Or.inl ne8)).other W145 (Or.inl ne8)).other W154 (Or.inl ne8)).other W163 (Or.inl ne8)).other W172 (Or.inl ne8)).ext E176).other W219 (Or.inl ne190)).other W225 (Or.inl ne190)).other W231 (Or.inl ne190)).other W237 (Or.inl ne190)).other W243 (Or.inl ne190)).other W249 (Or.inl ne190)).other W255 (Or.inl ne190)).other W261 (Or.inl ne190)).other W267 (Or.inl ne190)).other W273 (Or.inl ne190)).other W279 (Or.inl ne190)).other W285 (Or.inl ne190)).other W291 (Or.inl ne190)).other W297 (Or.inl ne190)).other W303 (Or.inl ne190)).other W309 (Or.inl ne190)).other W315 (Or.inl ne190))
    have f444 := (Nat.le_trans (Nat.le_trans (Nat.le_trans (Nat.le_trans (Nat.le_trans (Nat.le_trans (Nat.le_trans (Nat.le_trans (Nat.le_trans (Nat.le_trans (Nat.le_trans (Nat.le_trans (Nat.le_trans (Nat.le_trans (Nat.le_trans (Nat.le_trans (Nat.le_trans (Nat.le_trans f213 E176.1) (Keep.of_wr W219).1) (Keep.of_wr W225).1) (Keep.of_wr W231).1) (Keep.of_wr W237).1) (Keep.of_wr W243).1) (Keep.of_wr W249).1) (Keep.of_wr W255).1) (Keep.of_wr W261).1) (Keep.of_wr W267).1) (Keep.of_wr W273).1) (Keep.of_wr W279).1) (Keep.of_wr W285).1) (Keep.of_wr W291).1) (Keep.of_wr W297).1) (Keep.of_wr W303).1) (Keep.of_wr W309).1) (Keep.of_wr W315).1)
    have f445 := ((((((((((((((((((f189.ext E176).wr W219).wr W225).wr W231).wr W237).wr W243).wr W249).wr W255).wr W261).wr W267).wr W273).wr W279).wr W285).wr W291).wr W297).wr W303).wr W309).wr W315)
    obtain ⟨cq443, kq443, q443a, q443b, q443c⟩ := isOf hZ e315 f445
    obtain ⟨_, _, ⟨T443, L443, k443, n443⟩, -, X443, ⟨Lc443, hQ443, l443, y443, z443⟩, st443⟩ := X315.virtualBack hx (y := MN1) (z := MN1) hown (mvT hZ wo40) (mvT hZ wo41) (notFace_of_selects (args := #[]) (mvT hZ wo43)) (mvT hZ wo43) (mvT hZ wo42) (by decide) (backOf (W := 0) (rm1 l Z a0 hw [] s_READ_STATUS oc (-1 : Int32) h315 n0 f444 f442) hZ wo44 wo3 (by decide) (by decide)) q443a q443c (g := (mkF m 254 #[iv p0_0, .val (.long oc), .second, rv b1, rv b176, iv (6 : Int32), iv (-1 : Int32), iv (1 : Int32)] [(.long oc), (.ref s_READ_STATUS)])) rfl (by rw [hml]; rfl) (Steps.refl _) (argsL := [(.long oc)]) (rest := []) (lenOf pd_0 rfl) rfl (by show 2 * 0 + _ ≤ _; exact Nat.le_of_eq rfl) (hb hby at_254) (fun _ _ => ⟨rfl, e315, (by decide : 2 + 0 ≤ _), (by decide : 34 + 0 ≤ _)⟩)
    dsimp only [Pt.U, Pt.locs, Pt.cells, Pt.slots] at X443 l443 y443 z443 st443 hQ443
    rw [l443, y443, z443] at X443
    obtain ⟨rfl, N443q, K443q⟩ := hQ443
    have N446 := Fr.app N318 N443q
    have q447 : (if (-1 : Int32) = (-1 : Int32) then (1 : Int32) else (if (lcmpW ((oc >>> ((-1 : Int32) &&& 0x3f).toInt64) &&& (1 : Int64)) (1 : Int64)) = (0 : Int32) then (1 : Int32) else (0 : Int32))) = (1 : Int32) := if_pos rfl
    obtain ⟨fs, hr, hrun, hended, hW, hsame⟩ := X443.leave (v := some (.int (1 : Int32))) (fun h => by rw [Bd.returns] at h; cases h)
    refine ⟨_, _, pre319 _ ?_, hrun, hended, _, _, rfl, ?_, ⟨_, rfl⟩, hW, hsame.mono (by decide) (by decide)⟩
    · show Steps p.tables e below (T315.setTop (mkF m 213 #[iv p0_0, .val (.long oc), .second, rv b1, rv b176, iv (6 : Int32), .unset, .unset] [])) _
      refine XS.aload X315.here hx rfl (hb hby at_213) rfl rfl ?_
      show Steps p.tables e below (T315.setTop (mkF m 215 #[iv p0_0, .val (.long oc), .second, rv b1, rv b176, iv (6 : Int32), .unset, .unset] [(.ref b176)])) _
      refine XS.iload X315.here hx rfl (hb hby at_215) rfl ?_
      show Steps p.tables e below (T315.setTop (mkF m 217 #[iv p0_0, .val (.long oc), .second, rv b1, rv b176, iv (6 : Int32), .unset, .unset] [(.int (6 : Int32)), (.ref b176)])) _
      refine X315.iaload hx (j := (6 : Int32)) (v := (.int (-1 : Int32))) (by rw [e315]; exact Ar435.1) (State.isArrayOf_alike hZ.alike Ar435.2.1) Ar435.2.2 hin436 hat437 (g := (mkF m 217 #[iv p0_0, .val (.long oc), .second, rv b1, rv b176, iv (6 : Int32), .unset, .unset] [(.int (6 : Int32)), (.ref b176)])) rfl rfl (hb hby at_217) _ ?_
      show Steps p.tables e below (T315.setTop (mkF m 218 #[iv p0_0, .val (.long oc), .second, rv b1, rv b176, iv (6 : Int32), .unset, .unset] [(.int (-1 : Int32))])) _
      refine XS.istore X315.here hx rfl (hb hby at_218) rfl (l' := #[iv p0_0, .val (.long oc), .second, rv b1, rv b176, iv (6 : Int32), iv (-1 : Int32), .unset]) rfl ?_
      show Steps p.tables e below (T315.setTop (mkF m 220 #[iv p0_0, .val (.long oc), .second, rv b1, rv b176, iv (6 : Int32), iv (-1 : Int32), .unset] [])) _
      refine XS.iload X315.here hx rfl (hb hby at_220) rfl ?_
      show Steps p.tables e below (T315.setTop (mkF m 222 #[iv p0_0, .val (.long oc), .second, rv b1, rv b176, iv (6 : Int32), iv (-1 : Int32), .unset] [(.int (-1 : Int32))])) _
      refine XS.ifNo X315.here hx rfl (hb hby at_222) rfl ((if0 _ _).trans (tlt (by decide : (-1 : Int32) < (0 : Int32))).2.1) ?_
      show Steps p.tables e below (T315.setTop (mkF m 225 #[iv p0_0, .val (.long oc), .second, rv b1, rv b176, iv (6 : Int32), iv (-1 : Int32), .unset] [])) _
      refine XS.iconst X315.here hx rfl (hb hby at_225) ?_
      show Steps p.tables e below (T315.setTop (mkF m 226 #[iv p0_0, .val (.long oc), .second, rv b1, rv b176, iv (6 : Int32), iv (-1 : Int32), .unset] [(.int (1 : Int32))])) _
      refine XS.istore X315.here hx rfl (hb hby at_226) rfl (l' := #[iv p0_0, .val (.long oc), .second, rv b1, rv b176, iv (6 : Int32), iv (-1 : Int32), iv (1 : Int32)]) rfl ?_
      show Steps p.tables e below (T315.setTop (mkF m 228 #[iv p0_0, .val (.long oc), .second, rv b1, rv b176, iv (6 : Int32), iv (-1 : Int32), iv (1 : Int32)] [])) _
      refine XS.goto X315.here hx rfl (pc0 := 228) (pc' := 249) rfl (hb hby at_228) (by decide) (by decide) ?_
      show Steps p.tables e below (T315.setTop (mkF m 249 #[iv p0_0, .val (.long oc), .second, rv b1, rv b176, iv (6 : Int32), iv (-1 : Int32), iv (1 : Int32)] [])) _
      refine XS.aloadN X315.here hx rfl (hb hby at_249) rfl rfl ?_
      show Steps p.tables e below (T315.setTop (mkF m 250 #[iv p0_0, .val (.long oc), .second, rv b1, rv b176, iv (6 : Int32), iv (-1 : Int32), iv (1 : Int32)] [(.ref b1)])) _
      refine XS.iload X315.here hx rfl (hb hby at_250) rfl ?_
      show Steps p.tables e below (T315.setTop (mkF m 252 #[iv p0_0, .val (.long oc), .second, rv b1, rv b176, iv (6 : Int32), iv (-1 : Int32), iv (1 : Int32)] [(.int (6 : Int32)), (.ref b1)])) _
      refine X315.aaload hx (j := (6 : Int32)) (v := (.ref s_READ_STATUS)) (by rw [e315]; exact Ar439.1) (State.isArrayOf_alike hZ.alike Ar439.2.1) rfl Ar439.2.2 hin440 hat441 (g := (mkF m 252 #[iv p0_0, .val (.long oc), .second, rv b1, rv b176, iv (6 : Int32), iv (-1 : Int32), iv (1 : Int32)] [(.int (6 : Int32)), (.ref b1)])) rfl rfl (hb hby at_252) _ ?_
      show Steps p.tables e below (T315.setTop (mkF m 253 #[iv p0_0, .val (.long oc), .second, rv b1, rv b176, iv (6 : Int32), iv (-1 : Int32), iv (1 : Int32)] [(.ref s_READ_STATUS)])) _
      refine XS.lloadN X315.here hx rfl (hb hby at_253) rfl ?_
      show Steps p.tables e below (T315.setTop (mkF m 254 #[iv p0_0, .val (.long oc), .second, rv b1, rv b176, iv (6 : Int32), iv (-1 : Int32), iv (1 : Int32)] [(.long oc), (.ref s_READ_STATUS)])) _
      refine st443.trans ?_
      rw [q447]
      show Steps p.tables e below (T443.setTop (mkF m 257 #[iv p0_0, .val (.long oc), .second, rv b1, rv b176, iv (6 : Int32), iv (-1 : Int32), iv (1 : Int32)] [(.int (1 : Int32))])) _
      show Steps p.tables e below (T443.setTop (mkF m 257 #[iv p0_0, .val (.long oc), .second, rv b1, rv b176, iv (6 : Int32), iv (-1 : Int32), iv (1 : Int32)] [(.int (1 : Int32))])) _
      refine XS.iload X443.here hx rfl (hb hby at_257) rfl ?_
      show Steps p.tables e below (T443.setTop (mkF m 259 #[iv p0_0, .val (.long oc), .second, rv b1, rv b176, iv (6 : Int32), iv (-1 : Int32), iv (1 : Int32)] [(.int (1 : Int32)), (.int (1 : Int32))])) _
      refine XS.icmpNo X443.here hx rfl (hb hby at_259) rfl (teq (by decide : (1 : Int32) = (1 : Int32))).2 ?_
      show Steps p.tables e below (T443.setTop (mkF m 262 #[iv p0_0, .val (.long oc), .second, rv b1, rv b176, iv (6 : Int32), iv (-1 : Int32), iv (1 : Int32)] [])) _
      refine XS.iconst X443.here hx rfl (hb hby at_262) ?_
      show Steps p.tables e below (T443.setTop (mkF m 263 #[iv p0_0, .val (.long oc), .second, rv b1, rv b176, iv (6 : Int32), iv (-1 : Int32), iv (1 : Int32)] [(.int (1 : Int32))])) _
      refine XS.goto X443.here hx rfl (pc0 := 263) (pc' := 267) rfl (hb hby at_263) (by decide) (by decide) ?_
      show Steps p.tables e below (T443.setTop (mkF m 267 #[iv p0_0, .val (.long oc), .second, rv b1, rv b176, iv (6 : Int32), iv (-1 : Int32), iv (1 : Int32)] [(.int (1 : Int32))])) _
      exact retN X443 hx (t := .boolean) Bd.returns (by simp) (hb hby at_267) hr
    · show Q_rm0 Z _ _ _ _ _ _ _ _ _ _ _ _ _ _ _ _ _ _ _ h0 n0 _ T443.heap _
      rw [K443q]
      exact ⟨rfl, N446, (K316)⟩
  · skip
    obtain ⟨kk448, cl448, Ar448, qq448, Sz448, Nn448, Hs448, Gf448⟩ := id f317
    have hin449 : ¬ ((7 : Int32) < 0 ∨ cl448.slots.size ≤ ((7 : Int32)).toNatClampNeg) := inb_of Sz448 ⟨by decide, by decide⟩
    have hat450 : cl448.slots[((7 : Int32)).toNatClampNeg]? = some (.int (3 : Int32)) := Has.at Hs448 hin449 rfl
    have pre452 : ∀ t, Steps p.tables e below (T315.setTop (mkF m 239 #[iv p0_0, .val (.long oc), .second, rv b1, rv b176, iv (7 : Int32), iv (3 : Int32), .unset] [(.int (lcmpW (oc &&& (8 : Int64)) (0 : Int64)))])) t → Steps p.tables e below (s₁.setTop (entryFrame m #[(.int p0_0), (.long oc)] maxLocals)) t := by
      intro t_ k_
      refine pre319 _ ?_
      show Steps p.tables e below (T315.setTop (mkF m 213 #[iv p0_0, .val (.long oc), .second, rv b1, rv b176, iv (7 : Int32), .unset, .unset] [])) _
      refine XS.aload X315.here hx rfl (hb hby at_213) rfl rfl ?_
      show Steps p.tables e below (T315.setTop (mkF m 215 #[iv p0_0, .val (.long oc), .second, rv b1, rv b176, iv (7 : Int32), .unset, .unset] [(.ref b176)])) _
      refine XS.iload X315.here hx rfl (hb hby at_215) rfl ?_
      show Steps p.tables e below (T315.setTop (mkF m 217 #[iv p0_0, .val (.long oc), .second, rv b1, rv b176, iv (7 : Int32), .unset, .unset] [(.int (7 : Int32)), (.ref b176)])) _
      refine X315.iaload hx (j := (7 : Int32)) (v := (.int (3 : Int32))) (by rw [e315]; exact Ar448.1) (State.isArrayOf_alike hZ.alike Ar448.2.1) Ar448.2.2 hin449 hat450 (g := (mkF m 217 #[iv p0_0, .val (.long oc), .second, rv b1, rv b176, iv (7 : Int32), .unset, .unset] [(.int (7 : Int32)), (.ref b176)])) rfl rfl (hb hby at_217) _ ?_
      show Steps p.tables e below (T315.setTop (mkF m 218 #[iv p0_0, .val (.long oc), .second, rv b1, rv b176, iv (7 : Int32), .unset, .unset] [(.int (3 : Int32))])) _
      refine XS.istore X315.here hx rfl (hb hby at_218) rfl (l' := #[iv p0_0, .val (.long oc), .second, rv b1, rv b176, iv (7 : Int32), iv (3 : Int32), .unset]) rfl ?_
      show Steps p.tables e below (T315.setTop (mkF m 220 #[iv p0_0, .val (.long oc), .second, rv b1, rv b176, iv (7 : Int32), iv (3 : Int32), .unset] [])) _
      refine XS.iload X315.here hx rfl (hb hby at_220) rfl ?_
      show Steps p.tables e below (T315.setTop (mkF m 222 #[iv p0_0, .val (.long oc), .second, rv b1, rv b176, iv (7 : Int32), iv (3 : Int32), .unset] [(.int (3 : Int32))])) _
      refine XS.ifYes X315.here hx rfl (pc0 := 222) (pc' := 231) rfl (hb hby at_222) rfl ((if0 _ _).trans (flt (by decide : ¬ ((3 : Int32) < (0 : Int32)))).2.1) (by decide) (by decide) ?_
      show Steps p.tables e below (T315.setTop (mkF m 231 #[iv p0_0, .val (.long oc), .second, rv b1, rv b176, iv (7 : Int32), iv (3 : Int32), .unset] [])) _
      refine XS.lloadN X315.here hx rfl (hb hby at_231) rfl ?_
      show Steps p.tables e below (T315.setTop (mkF m 232 #[iv p0_0, .val (.long oc), .second, rv b1, rv b176, iv (7 : Int32), iv (3 : Int32), .unset] [(.long oc)])) _
      refine XS.lconst X315.here hx rfl (hb hby at_232) ?_
      show Steps p.tables e below (T315.setTop (mkF m 233 #[iv p0_0, .val (.long oc), .second, rv b1, rv b176, iv (7 : Int32), iv (3 : Int32), .unset] [(.long (1 : Int64)), (.long oc)])) _
      refine XS.iload X315.here hx rfl (hb hby at_233) rfl ?_
      show Steps p.tables e below (T315.setTop (mkF m 235 #[iv p0_0, .val (.long oc), .second, rv b1, rv b176, iv (7 : Int32), iv (3 : Int32), .unset] [(.int (3 : Int32)), (.long (1 : Int64)), (.long oc)])) _
      refine XS.lshl X315.here hx rfl (hb hby at_235) rfl ?_
      show Steps p.tables e below (T315.setTop (mkF m 236 #[iv p0_0, .val (.long oc), .second, rv b1, rv b176, iv (7 : Int32), iv (3 : Int32), .unset] [(.long (8 : Int64)), (.long oc)])) _
      refine XS.land X315.here hx rfl (hb hby at_236) rfl ?_
      show Steps p.tables e below (T315.setTop (mkF m 237 #[iv p0_0, .val (.long oc), .second, rv b1, rv b176, iv (7 : Int32), iv (3 : Int32), .unset] [(.long (oc &&& (8 : Int64)))])) _
      refine XS.lconst X315.here hx rfl (hb hby at_237) ?_
      show Steps p.tables e below (T315.setTop (mkF m 238 #[iv p0_0, .val (.long oc), .second, rv b1, rv b176, iv (7 : Int32), iv (3 : Int32), .unset] [(.long (0 : Int64)), (.long (oc &&& (8 : Int64)))])) _
      refine XS.lcmp X315.here hx rfl (hb hby at_238) rfl ?_
      exact k_
    by_cases hc239_451 : (lcmpW (oc &&& (8 : Int64)) (0 : Int64)) = (0 : Int32)
    · skip
      have f453 := ((((((((((((((((((f174.ext E176).other W219 ne211).other W225 ne211).other W231 ne211).other W237 ne211).other W243 ne211).other W249 ne211).other W255 ne211).other W261 ne211).other W267 ne211).other W273 ne211).other W279 ne211).other W285 ne211).other W291 ne211).other W297 ne211).other W303 ne211).other W309 ne211).other W315 ne211)
      obtain ⟨cl454, Ar454, qq454, Sz454, Nn454, Hs454, Gf454⟩ := id f453
      have hin455 : ¬ ((7 : Int32) < 0 ∨ cl454.slots.size ≤ ((7 : Int32)).toNatClampNeg) := inb_of Sz454 ⟨by decide, by decide⟩
      have hat456 : cl454.slots[((7 : Int32)).toNatClampNeg]? = some (.ref s_READ_STATUS_ENHANCED) := Has.at Hs454 hin455 rfl
      have f457 := ((((((((((((((((((((((((((((((((((((pf_F_s_READ_STATUS_ENHANCED_optionalBit.ext E1).other W28 (Or.inl ne9)).other W37 (Or.inl ne9)).other W46 (Or.inl ne9)).other W55 (Or.inl ne9)).other W64 (Or.inl ne9)).other W73 (Or.inl ne9)).other W82 (Or.inl ne9)).other W91 (Or.inl ne9)).other W100 (Or.inl ne9)).other W109 (Or.inl ne9)).other W118 (Or.inl ne9)).other W127 (Or.inl ne9)).other W136 (Or.inl ne9)).other W145 (Or.inl ne9)).other W154 (Or.inl ne9)).other W163 (Or.inl ne9)).other W172 (Or.inl ne9)).ext E176).other W219 (Or.inl ne192)).other W225 (Or.inl ne192)).other W231 (Or.inl ne192)).other W237 (Or.inl ne192)).other W243 (Or.inl ne192)).other W249 (Or.inl ne192)).other W255 (Or.inl ne192)).other W261 (Or.inl ne192)).other W267 (Or.inl ne192)).other W273 (Or.inl ne192)).other W279 (Or.inl ne192)).other W285 (Or.inl ne192)).other W291 (Or.inl ne192)).other W297 (Or.inl ne192)).other W303 (Or.inl ne192)).other W309 (Or.inl ne192)).other W315 (Or.inl ne192))
      have f459 := (Nat.le_trans (Nat.le_trans (Nat.le_trans (Nat.le_trans (Nat.le_trans (Nat.le_trans (Nat.le_trans (Nat.le_trans (Nat.le_trans (Nat.le_trans (Nat.le_trans (Nat.le_trans (Nat.le_trans (Nat.le_trans (Nat.le_trans (Nat.le_trans (Nat.le_trans (Nat.le_trans f213 E176.1) (Keep.of_wr W219).1) (Keep.of_wr W225).1) (Keep.of_wr W231).1) (Keep.of_wr W237).1) (Keep.of_wr W243).1) (Keep.of_wr W249).1) (Keep.of_wr W255).1) (Keep.of_wr W261).1) (Keep.of_wr W267).1) (Keep.of_wr W273).1) (Keep.of_wr W279).1) (Keep.of_wr W285).1) (Keep.of_wr W291).1) (Keep.of_wr W297).1) (Keep.of_wr W303).1) (Keep.of_wr W309).1) (Keep.of_wr W315).1)
      have f460 := ((((((((((((((((((f191.ext E176).wr W219).wr W225).wr W231).wr W237).wr W243).wr W249).wr W255).wr W261).wr W267).wr W273).wr W279).wr W285).wr W291).wr W297).wr W303).wr W309).wr W315)
      obtain ⟨cq458, kq458, q458a, q458b, q458c⟩ := isOf hZ e315 f460
      obtain ⟨_, _, ⟨T458, L458, k458, n458⟩, -, X458, ⟨Lc458, hQ458, l458, y458, z458⟩, st458⟩ := X315.virtualBack hx (y := MN1) (z := MN1) hown (mvT hZ wo40) (mvT hZ wo41) (notFace_of_selects (args := #[]) (mvT hZ wo43)) (mvT hZ wo43) (mvT hZ wo42) (by decide) (backOf (W := 0) (rm1 l Z a0 hw [] s_READ_STATUS_ENHANCED oc (3 : Int32) h315 n0 f459 f457) hZ wo44 wo3 (by decide) (by decide)) q458a q458c (g := (mkF m 254 #[iv p0_0, .val (.long oc), .second, rv b1, rv b176, iv (7 : Int32), iv (3 : Int32), iv (0 : Int32)] [(.long oc), (.ref s_READ_STATUS_ENHANCED)])) rfl (by rw [hml]; rfl) (Steps.refl _) (argsL := [(.long oc)]) (rest := []) (lenOf pd_0 rfl) rfl (by show 2 * 0 + _ ≤ _; exact Nat.le_of_eq rfl) (hb hby at_254) (fun _ _ => ⟨rfl, e315, (by decide : 2 + 0 ≤ _), (by decide : 34 + 0 ≤ _)⟩)
      dsimp only [Pt.U, Pt.locs, Pt.cells, Pt.slots] at X458 l458 y458 z458 st458 hQ458
      rw [l458, y458, z458] at X458
      obtain ⟨rfl, N458q, K458q⟩ := hQ458
      have N461 := Fr.app N318 N458q
      have q462 : (if (3 : Int32) = (-1 : Int32) then (1 : Int32) else (if (lcmpW ((oc >>> ((3 : Int32) &&& 0x3f).toInt64) &&& (1 : Int64)) (1 : Int64)) = (0 : Int32) then (1 : Int32) else (0 : Int32))) = (0 : Int32) := (if_neg (by decide)).trans (if_neg (fun q => (own_bit3 _).mp q hc239_451))
      obtain ⟨fs, hr, hrun, hended, hW, hsame⟩ := X458.leave (v := some (.int (1 : Int32))) (fun h => by rw [Bd.returns] at h; cases h)
      refine ⟨_, _, pre452 _ ?_, hrun, hended, _, _, rfl, ?_, ⟨_, rfl⟩, hW, hsame.mono (by decide) (by decide)⟩
      · show Steps p.tables e below (T315.setTop (mkF m 239 #[iv p0_0, .val (.long oc), .second, rv b1, rv b176, iv (7 : Int32), iv (3 : Int32), .unset] [(.int (lcmpW (oc &&& (8 : Int64)) (0 : Int64)))])) _
        refine XS.ifYes X315.here hx rfl (pc0 := 239) (pc' := 246) rfl (hb hby at_239) rfl ((if0 _ _).trans (teq hc239_451).1) (by decide) (by decide) ?_
        show Steps p.tables e below (T315.setTop (mkF m 246 #[iv p0_0, .val (.long oc), .second, rv b1, rv b176, iv (7 : Int32), iv (3 : Int32), .unset] [])) _
        refine XS.iconst X315.here hx rfl (hb hby at_246) ?_
        show Steps p.tables e below (T315.setTop (mkF m 247 #[iv p0_0, .val (.long oc), .second, rv b1, rv b176, iv (7 : Int32), iv (3 : Int32), .unset] [(.int (0 : Int32))])) _
        refine XS.istore X315.here hx rfl (hb hby at_247) rfl (l' := #[iv p0_0, .val (.long oc), .second, rv b1, rv b176, iv (7 : Int32), iv (3 : Int32), iv (0 : Int32)]) rfl ?_
        show Steps p.tables e below (T315.setTop (mkF m 249 #[iv p0_0, .val (.long oc), .second, rv b1, rv b176, iv (7 : Int32), iv (3 : Int32), iv (0 : Int32)] [])) _
        refine XS.aloadN X315.here hx rfl (hb hby at_249) rfl rfl ?_
        show Steps p.tables e below (T315.setTop (mkF m 250 #[iv p0_0, .val (.long oc), .second, rv b1, rv b176, iv (7 : Int32), iv (3 : Int32), iv (0 : Int32)] [(.ref b1)])) _
        refine XS.iload X315.here hx rfl (hb hby at_250) rfl ?_
        show Steps p.tables e below (T315.setTop (mkF m 252 #[iv p0_0, .val (.long oc), .second, rv b1, rv b176, iv (7 : Int32), iv (3 : Int32), iv (0 : Int32)] [(.int (7 : Int32)), (.ref b1)])) _
        refine X315.aaload hx (j := (7 : Int32)) (v := (.ref s_READ_STATUS_ENHANCED)) (by rw [e315]; exact Ar454.1) (State.isArrayOf_alike hZ.alike Ar454.2.1) rfl Ar454.2.2 hin455 hat456 (g := (mkF m 252 #[iv p0_0, .val (.long oc), .second, rv b1, rv b176, iv (7 : Int32), iv (3 : Int32), iv (0 : Int32)] [(.int (7 : Int32)), (.ref b1)])) rfl rfl (hb hby at_252) _ ?_
        show Steps p.tables e below (T315.setTop (mkF m 253 #[iv p0_0, .val (.long oc), .second, rv b1, rv b176, iv (7 : Int32), iv (3 : Int32), iv (0 : Int32)] [(.ref s_READ_STATUS_ENHANCED)])) _
        refine XS.lloadN X315.here hx rfl (hb hby at_253) rfl ?_
        show Steps p.tables e below (T315.setTop (mkF m 254 #[iv p0_0, .val (.long oc), .second, rv b1, rv b176, iv (7 : Int32), iv (3 : Int32), iv (0 : Int32)] [(.long oc), (.ref s_READ_STATUS_ENHANCED)])) _
        refine st458.trans ?_
        rw [q462]
        show Steps p.tables e below (T458.setTop (mkF m 257 #[iv p0_0, .val (.long oc), .second, rv b1, rv b176, iv (7 : Int32), iv (3 : Int32), iv (0 : Int32)] [(.int (0 : Int32))])) _
        show Steps p.tables e below (T458.setTop (mkF m 257 #[iv p0_0, .val (.long oc), .second, rv b1, rv b176, iv (7 : Int32), iv (3 : Int32), iv (0 : Int32)] [(.int (0 : Int32))])) _
        refine XS.iload X458.here hx rfl (hb hby at_257) rfl ?_
        show Steps p.tables e below (T458.setTop (mkF m 259 #[iv p0_0, .val (.long oc), .second, rv b1, rv b176, iv (7 : Int32), iv (3 : Int32), iv (0 : Int32)] [(.int (0 : Int32)), (.int (0 : Int32))])) _
        refine XS.icmpNo X458.here hx rfl (hb hby at_259) rfl (teq (by decide : (0 : Int32) = (0 : Int32))).2 ?_
        show Steps p.tables e below (T458.setTop (mkF m 262 #[iv p0_0, .val (.long oc), .second, rv b1, rv b176, iv (7 : Int32), iv (3 : Int32), iv (0 : Int32)] [])) _
        refine XS.iconst X458.here hx rfl (hb hby at_262) ?_
        show Steps p.tables e below (T458.setTop (mkF m 263 #[iv p0_0, .val (.long oc), .second, rv b1, rv b176, iv (7 : Int32), iv (3 : Int32), iv (0 : Int32)] [(.int (1 : Int32))])) _
        refine XS.goto X458.here hx rfl (pc0 := 263) (pc' := 267) rfl (hb hby at_263) (by decide) (by decide) ?_
        show Steps p.tables e below (T458.setTop (mkF m 267 #[iv p0_0, .val (.long oc), .second, rv b1, rv b176, iv (7 : Int32), iv (3 : Int32), iv (0 : Int32)] [(.int (1 : Int32))])) _
        exact retN X458 hx (t := .boolean) Bd.returns (by simp) (hb hby at_267) hr
      · show Q_rm0 Z _ _ _ _ _ _ _ _ _ _ _ _ _ _ _ _ _ _ _ h0 n0 _ T458.heap _
        rw [K458q]
        exact ⟨rfl, N461, (K316)⟩
    · skip
      have f463 := ((((((((((((((((((f174.ext E176).other W219 ne211).other W225 ne211).other W231 ne211).other W237 ne211).other W243 ne211).other W249 ne211).other W255 ne211).other W261 ne211).other W267 ne211).other W273 ne211).other W279 ne211).other W285 ne211).other W291 ne211).other W297 ne211).other W303 ne211).other W309 ne211).other W315 ne211)
      obtain ⟨cl464, Ar464, qq464, Sz464, Nn464, Hs464, Gf464⟩ := id f463
      have hin465 : ¬ ((7 : Int32) < 0 ∨ cl464.slots.size ≤ ((7 : Int32)).toNatClampNeg) := inb_of Sz464 ⟨by decide, by decide⟩
      have hat466 : cl464.slots[((7 : Int32)).toNatClampNeg]? = some (.ref s_READ_STATUS_ENHANCED) := Has.at Hs464 hin465 rfl
      have f467 := ((((((((((((((((((((((((((((((((((((pf_F_s_READ_STATUS_ENHANCED_optionalBit.ext E1).other W28 (Or.inl ne9)).other W37 (Or.inl ne9)).other W46 (Or.inl ne9)).other W55 (Or.inl ne9)).other W64 (Or.inl ne9)).other W73 (Or.inl ne9)).other W82 (Or.inl ne9)).other W91 (Or.inl ne9)).other W100 (Or.inl ne9)).other W109 (Or.inl ne9)).other W118 (Or.inl ne9)).other W127 (Or.inl ne9)).other W136 (Or.inl ne9)).other W145 (Or.inl ne9)).other W154 (Or.inl ne9)).other W163 (Or.inl ne9)).other W172 (Or.inl ne9)).ext E176).other W219 (Or.inl ne192)).other W225 (Or.inl ne192)).other W231 (Or.inl ne192)).other W237 (Or.inl ne192)).other W243 (Or.inl ne192)).other W249 (Or.inl ne192)).other W255 (Or.inl ne192)).other W261 (Or.inl ne192)).other W267 (Or.inl ne192)).other W273 (Or.inl ne192)).other W279 (Or.inl ne192)).other W285 (Or.inl ne192)).other W291 (Or.inl ne192)).other W297 (Or.inl ne192)).other W303 (Or.inl ne192)).other W309 (Or.inl ne192)).other W315 (Or.inl ne192))
      have f469 := (Nat.le_trans (Nat.le_trans (Nat.le_trans (Nat.le_trans (Nat.le_trans (Nat.le_trans (Nat.le_trans (Nat.le_trans (Nat.le_trans (Nat.le_trans (Nat.le_trans (Nat.le_trans (Nat.le_trans (Nat.le_trans (Nat.le_trans (Nat.le_trans (Nat.le_trans (Nat.le_trans f213 E176.1) (Keep.of_wr W219).1) (Keep.of_wr W225).1) (Keep.of_wr W231).1) (Keep.of_wr W237).1) (Keep.of_wr W243).1) (Keep.of_wr W249).1) (Keep.of_wr W255).1) (Keep.of_wr W261).1) (Keep.of_wr W267).1) (Keep.of_wr W273).1) (Keep.of_wr W279).1) (Keep.of_wr W285).1) (Keep.of_wr W291).1) (Keep.of_wr W297).1) (Keep.of_wr W303).1) (Keep.of_wr W309).1) (Keep.of_wr W315).1)
      have f470 := ((((((((((((((((((f191.ext E176).wr W219).wr W225).wr W231).wr W237).wr W243).wr W249).wr W255).wr W261).wr W267).wr W273).wr W279).wr W285).wr W291).wr W297).wr W303).wr W309).wr W315)
      obtain ⟨cq468, kq468, q468a, q468b, q468c⟩ := isOf hZ e315 f470
      obtain ⟨_, _, ⟨T468, L468, k468, n468⟩, -, X468, ⟨Lc468, hQ468, l468, y468, z468⟩, st468⟩ := X315.virtualBack hx (y := MN1) (z := MN1) hown (mvT hZ wo40) (mvT hZ wo41) (notFace_of_selects (args := #[]) (mvT hZ wo43)) (mvT hZ wo43) (mvT hZ wo42) (by decide) (backOf (W := 0) (rm1 l Z a0 hw [] s_READ_STATUS_ENHANCED oc (3 : Int32) h315 n0 f469 f467) hZ wo44 wo3 (by decide) (by decide)) q468a q468c (g := (mkF m 254 #[iv p0_0, .val (.long oc), .second, rv b1, rv b176, iv (7 : Int32), iv (3 : Int32), iv (1 : Int32)] [(.long oc), (.ref s_READ_STATUS_ENHANCED)])) rfl (by rw [hml]; rfl) (Steps.refl _) (argsL := [(.long oc)]) (rest := []) (lenOf pd_0 rfl) rfl (by show 2 * 0 + _ ≤ _; exact Nat.le_of_eq rfl) (hb hby at_254) (fun _ _ => ⟨rfl, e315, (by decide : 2 + 0 ≤ _), (by decide : 34 + 0 ≤ _)⟩)
      dsimp only [Pt.U, Pt.locs, Pt.cells, Pt.slots] at X468 l468 y468 z468 st468 hQ468
      rw [l468, y468, z468] at X468
      obtain ⟨rfl, N468q, K468q⟩ := hQ468
      have N471 := Fr.app N318 N468q
      have q472 : (if (3 : Int32) = (-1 : Int32) then (1 : Int32) else (if (lcmpW ((oc >>> ((3 : Int32) &&& 0x3f).toInt64) &&& (1 : Int64)) (1 : Int64)) = (0 : Int32) then (1 : Int32) else (0 : Int32))) = (1 : Int32) := (if_neg (by decide)).trans (if_pos ((own_bit3 _).mpr hc239_451))
      obtain ⟨fs, hr, hrun, hended, hW, hsame⟩ := X468.leave (v := some (.int (1 : Int32))) (fun h => by rw [Bd.returns] at h; cases h)
      refine ⟨_, _, pre452 _ ?_, hrun, hended, _, _, rfl, ?_, ⟨_, rfl⟩, hW, hsame.mono (by decide) (by decide)⟩
      · show Steps p.tables e below (T315.setTop (mkF m 239 #[iv p0_0, .val (.long oc), .second, rv b1, rv b176, iv (7 : Int32), iv (3 : Int32), .unset] [(.int (lcmpW (oc &&& (8 : Int64)) (0 : Int64)))])) _
        refine XS.ifNo X315.here hx rfl (hb hby at_239) rfl ((if0 _ _).trans (feq hc239_451).1) ?_
        show Steps p.tables e below (T315.setTop (mkF m 242 #[iv p0_0, .val (.long oc), .second, rv b1, rv b176, iv (7 : Int32), iv (3 : Int32), .unset] [])) _
        refine XS.iconst X315.here hx rfl (hb hby at_242) ?_
        show Steps p.tables e below (T315.setTop (mkF m 243 #[iv p0_0, .val (.long oc), .second, rv b1, rv b176, iv (7 : Int32), iv (3 : Int32), .unset] [(.int (1 : Int32))])) _
        refine XS.goto X315.here hx rfl (pc0 := 243) (pc' := 247) rfl (hb hby at_243) (by decide) (by decide) ?_
        show Steps p.tables e below (T315.setTop (mkF m 247 #[iv p0_0, .val (.long oc), .second, rv b1, rv b176, iv (7 : Int32), iv (3 : Int32), .unset] [(.int (1 : Int32))])) _
        refine XS.istore X315.here hx rfl (hb hby at_247) rfl (l' := #[iv p0_0, .val (.long oc), .second, rv b1, rv b176, iv (7 : Int32), iv (3 : Int32), iv (1 : Int32)]) rfl ?_
        show Steps p.tables e below (T315.setTop (mkF m 249 #[iv p0_0, .val (.long oc), .second, rv b1, rv b176, iv (7 : Int32), iv (3 : Int32), iv (1 : Int32)] [])) _
        refine XS.aloadN X315.here hx rfl (hb hby at_249) rfl rfl ?_
        show Steps p.tables e below (T315.setTop (mkF m 250 #[iv p0_0, .val (.long oc), .second, rv b1, rv b176, iv (7 : Int32), iv (3 : Int32), iv (1 : Int32)] [(.ref b1)])) _
        refine XS.iload X315.here hx rfl (hb hby at_250) rfl ?_
        show Steps p.tables e below (T315.setTop (mkF m 252 #[iv p0_0, .val (.long oc), .second, rv b1, rv b176, iv (7 : Int32), iv (3 : Int32), iv (1 : Int32)] [(.int (7 : Int32)), (.ref b1)])) _
        refine X315.aaload hx (j := (7 : Int32)) (v := (.ref s_READ_STATUS_ENHANCED)) (by rw [e315]; exact Ar464.1) (State.isArrayOf_alike hZ.alike Ar464.2.1) rfl Ar464.2.2 hin465 hat466 (g := (mkF m 252 #[iv p0_0, .val (.long oc), .second, rv b1, rv b176, iv (7 : Int32), iv (3 : Int32), iv (1 : Int32)] [(.int (7 : Int32)), (.ref b1)])) rfl rfl (hb hby at_252) _ ?_
        show Steps p.tables e below (T315.setTop (mkF m 253 #[iv p0_0, .val (.long oc), .second, rv b1, rv b176, iv (7 : Int32), iv (3 : Int32), iv (1 : Int32)] [(.ref s_READ_STATUS_ENHANCED)])) _
        refine XS.lloadN X315.here hx rfl (hb hby at_253) rfl ?_
        show Steps p.tables e below (T315.setTop (mkF m 254 #[iv p0_0, .val (.long oc), .second, rv b1, rv b176, iv (7 : Int32), iv (3 : Int32), iv (1 : Int32)] [(.long oc), (.ref s_READ_STATUS_ENHANCED)])) _
        refine st468.trans ?_
        rw [q472]
        show Steps p.tables e below (T468.setTop (mkF m 257 #[iv p0_0, .val (.long oc), .second, rv b1, rv b176, iv (7 : Int32), iv (3 : Int32), iv (1 : Int32)] [(.int (1 : Int32))])) _
        show Steps p.tables e below (T468.setTop (mkF m 257 #[iv p0_0, .val (.long oc), .second, rv b1, rv b176, iv (7 : Int32), iv (3 : Int32), iv (1 : Int32)] [(.int (1 : Int32))])) _
        refine XS.iload X468.here hx rfl (hb hby at_257) rfl ?_
        show Steps p.tables e below (T468.setTop (mkF m 259 #[iv p0_0, .val (.long oc), .second, rv b1, rv b176, iv (7 : Int32), iv (3 : Int32), iv (1 : Int32)] [(.int (1 : Int32)), (.int (1 : Int32))])) _
        refine XS.icmpNo X468.here hx rfl (hb hby at_259) rfl (teq (by decide : (1 : Int32) = (1 : Int32))).2 ?_
        show Steps p.tables e below (T468.setTop (mkF m 262 #[iv p0_0, .val (.long oc), .second, rv b1, rv b176, iv (7 : Int32), iv (3 : Int32), iv (1 : Int32)] [])) _
        refine XS.iconst X468.here hx rfl (hb hby at_262) ?_
        show Steps p.tables e below (T468.setTop (mkF m 263 #[iv p0_0, .val (.long oc), .second, rv b1, rv b176, iv (7 : Int32), iv (3 : Int32), iv (1 : Int32)] [(.int (1 : Int32))])) _
        refine XS.goto X468.here hx rfl (pc0 := 263) (pc' := 267) rfl (hb hby at_263) (by decide) (by decide) ?_
        show Steps p.tables e below (T468.setTop (mkF m 267 #[iv p0_0, .val (.long oc), .second, rv b1, rv b176, iv (7 : Int32), iv (3 : Int32), iv (1 : Int32)] [(.int (1 : Int32))])) _
        exact retN X468 hx (t := .boolean) Bd.returns (by simp) (hb hby at_267) hr
      · show Q_rm0 Z _ _ _ _ _ _ _ _ _ _ _ _ _ _ _ _ _ _ _ h0 n0 _ T468.heap _
        rw [K468q]
        exact ⟨rfl, N471, (K316)⟩
  · skip
    obtain ⟨kk473, cl473, Ar473, qq473, Sz473, Nn473, Hs473, Gf473⟩ := id f317
    have hin474 : ¬ ((8 : Int32) < 0 ∨ cl473.slots.size ≤ ((8 : Int32)).toNatClampNeg) := inb_of Sz473 ⟨by decide, by decide⟩
    have hat475 : cl473.slots[((8 : Int32)).toNatClampNeg]? = some (.int (-1 : Int32)) := Has.at Hs473 hin474 rfl
    have f476 := ((((((((((((((((((f174.ext E176).other W219 ne211).other W225 ne211).other W231 ne211).other W237 ne211).other W243 ne211).other W249 ne211).other W255 ne211).other W261 ne211).other W267 ne211).other W273 ne211).other W279 ne211).other W285 ne211).other W291 ne211).other W297 ne211).other W303 ne211).other W309 ne211).other W315 ne211)
    obtain ⟨cl477, Ar477, qq477, Sz477, Nn477, Hs477, Gf477⟩ := id f476
    have hin478 : ¬ ((8 : Int32) < 0 ∨ cl477.slots.size ≤ ((8 : Int32)).toNatClampNeg) := inb_of Sz477 ⟨by decide, by decide⟩
    have hat479 : cl477.slots[((8 : Int32)).toNatClampNeg]? = some (.ref s_PAGE_PROGRAM) := Has.at Hs477 hin478 rfl
    have f480 := ((((((((((((((((((((((((((((((((((((pf_F_s_PAGE_PROGRAM_optionalBit.ext E1).other W28 (Or.inl ne10)).other W37 (Or.inl ne10)).other W46 (Or.inl ne10)).other W55 (Or.inl ne10)).other W64 (Or.inl ne10)).other W73 (Or.inl ne10)).other W82 (Or.inl ne10)).other W91 (Or.inl ne10)).other W100 (Or.inl ne10)).other W109 (Or.inl ne10)).other W118 (Or.inl ne10)).other W127 (Or.inl ne10)).other W136 (Or.inl ne10)).other W145 (Or.inl ne10)).other W154 (Or.inl ne10)).other W163 (Or.inl ne10)).other W172 (Or.inl ne10)).ext E176).other W219 (Or.inl ne194)).other W225 (Or.inl ne194)).other W231 (Or.inl ne194)).other W237 (Or.inl ne194)).other W243 (Or.inl ne194)).other W249 (Or.inl ne194)).other W255 (Or.inl ne194)).other W261 (Or.inl ne194)).other W267 (Or.inl ne194)).other W273 (Or.inl ne194)).other W279 (Or.inl ne194)).other W285 (Or.inl ne194)).other W291 (Or.inl ne194)).other W297 (Or.inl ne194)).other W303 (Or.inl ne194)).other W309 (Or.inl ne194)).other W315 (Or.inl ne194))
    have f482 := (Nat.le_trans (Nat.le_trans (Nat.le_trans (Nat.le_trans (Nat.le_trans (Nat.le_trans (Nat.le_trans (Nat.le_trans (Nat.le_trans (Nat.le_trans (Nat.le_trans (Nat.le_trans (Nat.le_trans (Nat.le_trans (Nat.le_trans (Nat.le_trans (Nat.le_trans (Nat.le_trans f213 E176.1) (Keep.of_wr W219).1) (Keep.of_wr W225).1) (Keep.of_wr W231).1) (Keep.of_wr W237).1) (Keep.of_wr W243).1) (Keep.of_wr W249).1) (Keep.of_wr W255).1) (Keep.of_wr W261).1) (Keep.of_wr W267).1) (Keep.of_wr W273).1) (Keep.of_wr W279).1) (Keep.of_wr W285).1) (Keep.of_wr W291).1) (Keep.of_wr W297).1) (Keep.of_wr W303).1) (Keep.of_wr W309).1) (Keep.of_wr W315).1)
    have f483 := ((((((((((((((((((f193.ext E176).wr W219).wr W225).wr W231).wr W237).wr W243).wr W249).wr W255).wr W261).wr W267).wr W273).wr W279).wr W285).wr W291).wr W297).wr W303).wr W309).wr W315)
    obtain ⟨cq481, kq481, q481a, q481b, q481c⟩ := isOf hZ e315 f483
    obtain ⟨_, _, ⟨T481, L481, k481, n481⟩, -, X481, ⟨Lc481, hQ481, l481, y481, z481⟩, st481⟩ := X315.virtualBack hx (y := MN1) (z := MN1) hown (mvT hZ wo40) (mvT hZ wo41) (notFace_of_selects (args := #[]) (mvT hZ wo43)) (mvT hZ wo43) (mvT hZ wo42) (by decide) (backOf (W := 0) (rm1 l Z a0 hw [] s_PAGE_PROGRAM oc (-1 : Int32) h315 n0 f482 f480) hZ wo44 wo3 (by decide) (by decide)) q481a q481c (g := (mkF m 254 #[iv p0_0, .val (.long oc), .second, rv b1, rv b176, iv (8 : Int32), iv (-1 : Int32), iv (1 : Int32)] [(.long oc), (.ref s_PAGE_PROGRAM)])) rfl (by rw [hml]; rfl) (Steps.refl _) (argsL := [(.long oc)]) (rest := []) (lenOf pd_0 rfl) rfl (by show 2 * 0 + _ ≤ _; exact Nat.le_of_eq rfl) (hb hby at_254) (fun _ _ => ⟨rfl, e315, (by decide : 2 + 0 ≤ _), (by decide : 34 + 0 ≤ _)⟩)
    dsimp only [Pt.U, Pt.locs, Pt.cells, Pt.slots] at X481 l481 y481 z481 st481 hQ481
    rw [l481, y481, z481] at X481
    obtain ⟨rfl, N481q, K481q⟩ := hQ481
    have N484 := Fr.app N318 N481q
    have q485 : (if (-1 : Int32) = (-1 : Int32) then (1 : Int32) else (if (lcmpW ((oc >>> ((-1 : Int32) &&& 0x3f).toInt64) &&& (1 : Int64)) (1 : Int64)) = (0 : Int32) then (1 : Int32) else (0 : Int32))) = (1 : Int32) := if_pos rfl
    obtain ⟨fs, hr, hrun, hended, hW, hsame⟩ := X481.leave (v := some (.int (1 : Int32))) (fun h => by rw [Bd.returns] at h; cases h)
    refine ⟨_, _, pre319 _ ?_, hrun, hended, _, _, rfl, ?_, ⟨_, rfl⟩, hW, hsame.mono (by decide) (by decide)⟩
    · show Steps p.tables e below (T315.setTop (mkF m 213 #[iv p0_0, .val (.long oc), .second, rv b1, rv b176, iv (8 : Int32), .unset, .unset] [])) _
      refine XS.aload X315.here hx rfl (hb hby at_213) rfl rfl ?_
      show Steps p.tables e below (T315.setTop (mkF m 215 #[iv p0_0, .val (.long oc), .second, rv b1, rv b176, iv (8 : Int32), .unset, .unset] [(.ref b176)])) _
      refine XS.iload X315.here hx rfl (hb hby at_215) rfl ?_
      show Steps p.tables e below (T315.setTop (mkF m 217 #[iv p0_0, .val (.long oc), .second, rv b1, rv b176, iv (8 : Int32), .unset, .unset] [(.int (8 : Int32)), (.ref b176)])) _
      refine X315.iaload hx (j := (8 : Int32)) (v := (.int (-1 : Int32))) (by rw [e315]; exact Ar473.1) (State.isArrayOf_alike hZ.alike Ar473.2.1) Ar473.2.2 hin474 hat475 (g := (mkF m 217 #[iv p0_0, .val (.long oc), .second, rv b1, rv b176, iv (8 : Int32), .unset, .unset] [(.int (8 : Int32)), (.ref b176)])) rfl rfl (hb hby at_217) _ ?_
      show Steps p.tables e below (T315.setTop (mkF m 218 #[iv p0_0, .val (.long oc), .second, rv b1, rv b176, iv (8 : Int32), .unset, .unset] [(.int (-1 : Int32))])) _
      refine XS.istore X315.here hx rfl (hb hby at_218) rfl (l' := #[iv p0_0, .val (.long oc), .second, rv b1, rv b176, iv (8 : Int32), iv (-1 : Int32), .unset]) rfl ?_
      show Steps p.tables e below (T315.setTop (mkF m 220 #[iv p0_0, .val (.long oc), .second, rv b1, rv b176, iv (8 : Int32), iv (-1 : Int32), .unset] [])) _
      refine XS.iload X315.here hx rfl (hb hby at_220) rfl ?_
      show Steps p.tables e below (T315.setTop (mkF m 222 #[iv p0_0, .val (.long oc), .second, rv b1, rv b176, iv (8 : Int32), iv (-1 : Int32), .unset] [(.int (-1 : Int32))])) _
      refine XS.ifNo X315.here hx rfl (hb hby at_222) rfl ((if0 _ _).trans (tlt (by decide : (-1 : Int32) < (0 : Int32))).2.1) ?_
      show Steps p.tables e below (T315.setTop (mkF m 225 #[iv p0_0, .val (.long oc), .second, rv b1, rv b176, iv (8 : Int32), iv (-1 : Int32), .unset] [])) _
      refine XS.iconst X315.here hx rfl (hb hby at_225) ?_
      show Steps p.tables e below (T315.setTop (mkF m 226 #[iv p0_0, .val (.long oc), .second, rv b1, rv b176, iv (8 : Int32), iv (-1 : Int32), .unset] [(.int (1 : Int32))])) _
      refine XS.istore X315.here hx rfl (hb hby at_226) rfl (l' := #[iv p0_0, .val (.long oc), .second, rv b1, rv b176, iv (8 : Int32), iv (-1 : Int32), iv (1 : Int32)]) rfl ?_
      show Steps p.tables e below (T315.setTop (mkF m 228 #[iv p0_0, .val (.long oc), .second, rv b1, rv b176, iv (8 : Int32), iv (-1 : Int32), iv (1 : Int32)] [])) _
      refine XS.goto X315.here hx rfl (pc0 := 228) (pc' := 249) rfl (hb hby at_228) (by decide) (by decide) ?_
      show Steps p.tables e below (T315.setTop (mkF m 249 #[iv p0_0, .val (.long oc), .second, rv b1, rv b176, iv (8 : Int32), iv (-1 : Int32), iv (1 : Int32)] [])) _
      refine XS.aloadN X315.here hx rfl (hb hby at_249) rfl rfl ?_
      show Steps p.tables e below (T315.setTop (mkF m 250 #[iv p0_0, .val (.long oc), .second, rv b1, rv b176, iv (8 : Int32), iv (-1 : Int32), iv (1 : Int32)] [(.ref b1)])) _
      refine XS.iload X315.here hx rfl (hb hby at_250) rfl ?_
      show Steps p.tables e below (T315.setTop (mkF m 252 #[iv p0_0, .val (.long oc), .second, rv b1, rv b176, iv (8 : Int32), iv (-1 : Int32), iv (1 : Int32)] [(.int (8 : Int32)), (.ref b1)])) _
      refine X315.aaload hx (j := (8 : Int32)) (v := (.ref s_PAGE_PROGRAM)) (by rw [e315]; exact Ar477.1) (State.isArrayOf_alike hZ.alike Ar477.2.1) rfl Ar477.2.2 hin478 hat479 (g := (mkF m 252 #[iv p0_0, .val (.long oc), .second, rv b1, rv b176, iv (8 : Int32), iv (-1 : Int32), iv (1 : Int32)] [(.int (8 : Int32)), (.ref b1)])) rfl rfl (hb hby at_252) _ ?_
      show Steps p.tables e below (T315.setTop (mkF m 253 #[iv p0_0, .val (.long oc), .second, rv b1, rv b176, iv (8 : Int32), iv (-1 : Int32), iv (1 : Int32)] [(.ref s_PAGE_PROGRAM)])) _
      refine XS.lloadN X315.here hx rfl (hb hby at_253) rfl ?_
      show Steps p.tables e below (T315.setTop (mkF m 254 #[iv p0_0, .val (.long oc), .second, rv b1, rv b176, iv (8 : Int32), iv (-1 : Int32), iv (1 : Int32)] [(.long oc), (.ref s_PAGE_PROGRAM)])) _
      refine st481.trans ?_
      rw [q485]
      show Steps p.tables e below (T481.setTop (mkF m 257 #[iv p0_0, .val (.long oc), .second, rv b1, rv b176, iv (8 : Int32), iv (-1 : Int32), iv (1 : Int32)] [(.int (1 : Int32))])) _
      show Steps p.tables e below (T481.setTop (mkF m 257 #[iv p0_0, .val (.long oc), .second, rv b1, rv b176, iv (8 : Int32), iv (-1 : Int32), iv (1 : Int32)] [(.int (1 : Int32))])) _
      refine XS.iload X481.here hx rfl (hb hby at_257) rfl ?_
      show Steps p.tables e below (T481.setTop (mkF m 259 #[iv p0_0, .val (.long oc), .second, rv b1, rv b176, iv (8 : Int32), iv (-1 : Int32), iv (1 : Int32)] [(.int (1 : Int32)), (.int (1 : Int32))])) _
      refine XS.icmpNo X481.here hx rfl (hb hby at_259) rfl (teq (by decide : (1 : Int32) = (1 : Int32))).2 ?_
      show Steps p.tables e below (T481.setTop (mkF m 262 #[iv p0_0, .val (.long oc), .second, rv b1, rv b176, iv (8 : Int32), iv (-1 : Int32), iv (1 : Int32)] [])) _
      refine XS.iconst X481.here hx rfl (hb hby at_262) ?_
      show Steps p.tables e below (T481.setTop (mkF m 263 #[iv p0_0, .val (.long oc), .second, rv b1, rv b176, iv (8 : Int32), iv (-1 : Int32), iv (1 : Int32)] [(.int (1 : Int32))])) _
      refine XS.goto X481.here hx rfl (pc0 := 263) (pc' := 267) rfl (hb hby at_263) (by decide) (by decide) ?_
      show Steps p.tables e below (T481.setTop (mkF m 267 #[iv p0_0, .val (.long oc), .second, rv b1, rv b176, iv (8 : Int32), iv (-1 : Int32), iv (1 : Int32)] [(.int (1 : Int32))])) _
      exact retN X481 hx (t := .boolean) Bd.returns (by simp) (hb hby at_267) hr
    · show Q_rm0 Z _ _ _ _ _ _ _ _ _ _ _ _ _ _ _ _ _ _ _ h0 n0 _ T481.heap _
      rw [K481q]
      exact ⟨rfl, N484, (K316)⟩
  · skip
    obtain ⟨kk486, cl486, Ar486, qq486, Sz486, Nn486, Hs486, Gf486⟩ := id f317
    have hin487 : ¬ ((9 : Int32) < 0 ∨ cl486.slots.size ≤ ((9 : Int32)).toNatClampNeg) := inb_of Sz486 ⟨by decide, by decide⟩
    have hat488 : cl486.slots[((9 : Int32)).toNatClampNeg]? = some (.int (0 : Int32)) := Has.at Hs486 hin487 rfl
    have pre490 : ∀ t, Steps p.tables e below (T315.setTop (mkF m 239 #[iv p0_0, .val (.long oc), .second, rv b1, rv b176, iv (9 : Int32), iv (0 : Int32), .unset] [(.int (lcmpW (oc &&& (1 : Int64)) (0 : Int64)))])) t → Steps p.tables e below (s₁.setTop (entryFrame m #[(.int p0_0), (.long oc)] maxLocals)) t := by
      intro t_ k_
      refine pre319 _ ?_
      show Steps p.tables e below (T315.setTop (mkF m 213 #[iv p0_0, .val (.long oc), .second, rv b1, rv b176, iv (9 : Int32), .unset, .unset] [])) _
      refine XS.aload X315.here hx rfl (hb hby at_213) rfl rfl ?_
      show Steps p.tables e below (T315.setTop (mkF m 215 #[iv p0_0, .val (.long oc), .second, rv b1, rv b176, iv (9 : Int32), .unset, .unset] [(.ref b176)])) _
      refine XS.iload X315.here hx rfl (hb hby at_215) rfl ?_
      show Steps p.tables e below (T315.setTop (mkF m 217 #[iv p0_0, .val (.long oc), .second, rv b1, rv b176, iv (9 : Int32), .unset, .unset] [(.int (9 : Int32)), (.ref b176)])) _
      refine X315.iaload hx (j := (9 : Int32)) (v := (.int (0 : Int32))) (by rw [e315]; exact Ar486.1) (State.isArrayOf_alike hZ.alike Ar486.2.1) Ar486.2.2 hin487 hat488 (g := (mkF m 217 #[iv p0_0, .val (.long oc), .second, rv b1, rv b176, iv (9 : Int32), .unset, .unset] [(.int (9 : Int32)), (.ref b176)])) rfl rfl (hb hby at_217) _ ?_
      show Steps p.tables e below (T315.setTop (mkF m 218 #[iv p0_0, .val (.long oc), .second, rv b1, rv b176, iv (9 : Int32), .unset, .unset] [(.int (0 : Int32))])) _
      refine XS.istore X315.here hx rfl (hb hby at_218) rfl (l' := #[iv p0_0, .val (.long oc), .second, rv b1, rv b176, iv (9 : Int32), iv (0 : Int32), .unset]) rfl ?_
      show Steps p.tables e below (T315.setTop (mkF m 220 #[iv p0_0, .val (.long oc), .second, rv b1, rv b176, iv (9 : Int32), iv (0 : Int32), .unset] [])) _
      refine XS.iload X315.here hx rfl (hb hby at_220) rfl ?_
      show Steps p.tables e below (T315.setTop (mkF m 222 #[iv p0_0, .val (.long oc), .second, rv b1, rv b176, iv (9 : Int32), iv (0 : Int32), .unset] [(.int (0 : Int32))])) _
      refine XS.ifYes X315.here hx rfl (pc0 := 222) (pc' := 231) rfl (hb hby at_222) rfl ((if0 _ _).trans (flt (by decide : ¬ ((0 : Int32) < (0 : Int32)))).2.1) (by decide) (by decide) ?_
      show Steps p.tables e below (T315.setTop (mkF m 231 #[iv p0_0, .val (.long oc), .second, rv b1, rv b176, iv (9 : Int32), iv (0 : Int32), .unset] [])) _
      refine XS.lloadN X315.here hx rfl (hb hby at_231) rfl ?_
      show Steps p.tables e below (T315.setTop (mkF m 232 #[iv p0_0, .val (.long oc), .second, rv b1, rv b176, iv (9 : Int32), iv (0 : Int32), .unset] [(.long oc)])) _
      refine XS.lconst X315.here hx rfl (hb hby at_232) ?_
      show Steps p.tables e below (T315.setTop (mkF m 233 #[iv p0_0, .val (.long oc), .second, rv b1, rv b176, iv (9 : Int32), iv (0 : Int32), .unset] [(.long (1 : Int64)), (.long oc)])) _
      refine XS.iload X315.here hx rfl (hb hby at_233) rfl ?_
      show Steps p.tables e below (T315.setTop (mkF m 235 #[iv p0_0, .val (.long oc), .second, rv b1, rv b176, iv (9 : Int32), iv (0 : Int32), .unset] [(.int (0 : Int32)), (.long (1 : Int64)), (.long oc)])) _
      refine XS.lshl X315.here hx rfl (hb hby at_235) rfl ?_
      show Steps p.tables e below (T315.setTop (mkF m 236 #[iv p0_0, .val (.long oc), .second, rv b1, rv b176, iv (9 : Int32), iv (0 : Int32), .unset] [(.long (1 : Int64)), (.long oc)])) _
      refine XS.land X315.here hx rfl (hb hby at_236) rfl ?_
      show Steps p.tables e below (T315.setTop (mkF m 237 #[iv p0_0, .val (.long oc), .second, rv b1, rv b176, iv (9 : Int32), iv (0 : Int32), .unset] [(.long (oc &&& (1 : Int64)))])) _
      refine XS.lconst X315.here hx rfl (hb hby at_237) ?_
      show Steps p.tables e below (T315.setTop (mkF m 238 #[iv p0_0, .val (.long oc), .second, rv b1, rv b176, iv (9 : Int32), iv (0 : Int32), .unset] [(.long (0 : Int64)), (.long (oc &&& (1 : Int64)))])) _
      refine XS.lcmp X315.here hx rfl (hb hby at_238) rfl ?_
      exact k_
    by_cases hc239_489 : (lcmpW (oc &&& (1 : Int64)) (0 : Int64)) = (0 : Int32)
    · skip
      have f491 := ((((((((((((((((((f174.ext E176).other W219 ne211).other W225 ne211).other W231 ne211).other W237 ne211).other W243 ne211).other W249 ne211).other W255 ne211).other W261 ne211).other W267 ne211).other W273 ne211).other W279 ne211).other W285 ne211).other W291 ne211).other W297 ne211).other W303 ne211).other W309 ne211).other W315 ne211)
      obtain ⟨cl492, Ar492, qq492, Sz492, Nn492, Hs492, Gf492⟩ := id f491
      have hin493 : ¬ ((9 : Int32) < 0 ∨ cl492.slots.size ≤ ((9 : Int32)).toNatClampNeg) := inb_of Sz492 ⟨by decide, by decide⟩
      have hat494 : cl492.slots[((9 : Int32)).toNatClampNeg]? = some (.ref s_PAGE_CACHE_PROGRAM) := Has.at Hs492 hin493 rfl
      have f495 := ((((((((((((((((((((((((((((((((((((pf_F_s_PAGE_CACHE_PROGRAM_optionalBit.ext E1).other W28 (Or.inl ne11)).other W37 (Or.inl ne11)).other W46 (Or.inl ne11)).other W55 (Or.inl ne11)).other W64 (Or.inl ne11)).other W73 (Or.inl ne11)).other W82 (Or.inl ne11)).other W91 (Or.inl ne11)).other W100 (Or.inl ne11)).other W109 (Or.inl ne11)).other W118 (Or.inl ne11)).other W127 (Or.inl ne11)).other W136 (Or.inl ne11)).other W145 (Or.inl ne11)).other W154 (Or.inl ne11)).other W163 (Or.inl ne11)).other W172 (Or.inl ne11)).ext E176).other W219 (Or.inl ne196)).other W225 (Or.inl ne196)).other W231 (Or.inl ne196)).other W237 (Or.inl ne196)).other W243 (Or.inl ne196)).other W249 (Or.inl ne196)).other W255 (Or.inl ne196)).other W261 (Or.inl ne196)).other W267 (Or.inl ne196)).other W273 (Or.inl ne196)).other W279 (Or.inl ne196)).other W285 (Or.inl ne196)).other W291 (Or.inl ne196)).other W297 (Or.inl ne196)).other W303 (Or.inl ne196)).other W309 (Or.inl ne196)).other W315 (Or.inl ne196))
      have f497 := (Nat.le_trans (Nat.le_trans (Nat.le_trans (Nat.le_trans (Nat.le_trans (Nat.le_trans (Nat.le_trans (Nat.le_trans (Nat.le_trans (Nat.le_trans (Nat.le_trans (Nat.le_trans (Nat.le_trans (Nat.le_trans (Nat.le_trans (Nat.le_trans (Nat.le_trans (Nat.le_trans f213 E176.1) (Keep.of_wr W219).1) (Keep.of_wr W225).1) (Keep.of_wr W231).1) (Keep.of_wr W237).1) (Keep.of_wr W243).1) (Keep.of_wr W249).1) (Keep.of_wr W255).1) (Keep.of_wr W261).1) (Keep.of_wr W267).1) (Keep.of_wr W273).1) (Keep.of_wr W279).1) (Keep.of_wr W285).1) (Keep.of_wr W291).1) (Keep.of_wr W297).1) (Keep.of_wr W303).1) (Keep.of_wr W309).1) (Keep.of_wr W315).1)
      have f498 := ((((((((((((((((((f195.ext E176).wr W219).wr W225).wr W231).wr W237).wr W243).wr W249).wr W255).wr W261).wr W267).wr W273).wr W279).wr W285).wr W291).wr W297).wr W303).wr W309).wr W315)
      obtain ⟨cq496, kq496, q496a, q496b, q496c⟩ := isOf hZ e315 f498
      obtain ⟨_, _, ⟨T496, L496, k496, n496⟩, -, X496, ⟨Lc496, hQ496, l496, y496, z496⟩, st496⟩ := X315.virtualBack hx (y := MN1) (z := MN1) hown (mvT hZ wo40) (mvT hZ wo41) (notFace_of_selects (args := #[]) (mvT hZ wo43)) (mvT hZ wo43) (mvT hZ wo42) (by decide) (backOf (W := 0) (rm1 l Z a0 hw [] s_PAGE_CACHE_PROGRAM oc (0 : Int32) h315 n0 f497 f495) hZ wo44 wo3 (by decide) (by decide)) q496a q496c (g := (mkF m 254 #[iv p0_0, .val (.long oc), .second, rv b1, rv b176, iv (9 : Int32), iv (0 : Int32), iv (0 : Int32)] [(.long oc), (.ref s_PAGE_CACHE_PROGRAM)])) rfl (by rw [hml]; rfl) (Steps.refl _) (argsL := [(.long oc)]) (rest := []) (lenOf pd_0 rfl) rfl (by show 2 * 0 + _ ≤ _; exact Nat.le_of_eq rfl) (hb hby at_254) (fun _ _ => ⟨rfl, e315, (by decide : 2 + 0 ≤ _), (by decide : 34 + 0 ≤ _)⟩)
      dsimp only [Pt.U, Pt.locs, Pt.cells, Pt.slots] at X496 l496 y496 z496 st496 hQ496
      rw [l496, y496, z496] at X496
      obtain ⟨rfl, N496q, K496q⟩ := hQ496
      have N499 := Fr.app N318 N496q
      have q500 : (if (0 : Int32) = (-1 : Int32) then (1 : Int32) else (if (lcmpW ((oc >>> ((0 : Int32) &&& 0x3f).toInt64) &&& (1 : Int64)) (1 : Int64)) = (0 : Int32) then (1 : Int32) else (0 : Int32))) = (0 : Int32) := (if_neg (by decide)).trans (if_neg (fun q => (own_bit0 _).mp q hc239_489))
      obtain ⟨fs, hr, hrun, hended, hW, hsame⟩ := X496.leave (v := some (.int (1 : Int32))) (fun h => by rw [Bd.returns] at h; cases h)
      refine ⟨_, _, pre490 _ ?_, hrun, hended, _, _, rfl, ?_, ⟨_, rfl⟩, hW, hsame.mono (by decide) (by decide)⟩
      · show Steps p.tables e below (T315.setTop (mkF m 239 #[iv p0_0, .val (.long oc), .second, rv b1, rv b176, iv (9 : Int32), iv (0 : Int32), .unset] [(.int (lcmpW (oc &&& (1 : Int64)) (0 : Int64)))])) _
        refine XS.ifYes X315.here hx rfl (pc0 := 239) (pc' := 246) rfl (hb hby at_239) rfl ((if0 _ _).trans (teq hc239_489).1) (by decide) (by decide) ?_
        show Steps p.tables e below (T315.setTop (mkF m 246 #[iv p0_0, .val (.long oc), .second, rv b1, rv b176, iv (9 : Int32), iv (0 : Int32), .unset] [])) _
        refine XS.iconst X315.here hx rfl (hb hby at_246) ?_
        show Steps p.tables e below (T315.setTop (mkF m 247 #[iv p0_0, .val (.long oc), .second, rv b1, rv b176, iv (9 : Int32), iv (0 : Int32), .unset] [(.int (0 : Int32))])) _
        refine XS.istore X315.here hx rfl (hb hby at_247) rfl (l' := #[iv p0_0, .val (.long oc), .second, rv b1, rv b176, iv (9 : Int32), iv (0 : Int32), iv (0 : Int32)]) rfl ?_
        show Steps p.tables e below (T315.setTop (mkF m 249 #[iv p0_0, .val (.long oc), .second, rv b1, rv b176, iv (9 : Int32), iv (0 : Int32), iv (0 : Int32)] [])) _
        refine XS.aloadN X315.here hx rfl (hb hby at_249) rfl rfl ?_
        show Steps p.tables e below (T315.setTop (mkF m 250 #[iv p0_0, .val (.long oc), .second, rv b1, rv b176, iv (9 : Int32), iv (0 : Int32), iv (0 : Int32)] [(.ref b1)])) _
        refine XS.iload X315.here hx rfl (hb hby at_250) rfl ?_
        show Steps p.tables e below (T315.setTop (mkF m 252 #[iv p0_0, .val (.long oc), .second, rv b1, rv b176, iv (9 : Int32), iv (0 : Int32), iv (0 : Int32)] [(.int (9 : Int32)), (.ref b1)])) _
        refine X315.aaload hx (j := (9 : Int32)) (v := (.ref s_PAGE_CACHE_PROGRAM)) (by rw [e315]; exact Ar492.1) (State.isArrayOf_alike hZ.alike Ar492.2.1) rfl Ar492.2.2 hin493 hat494 (g := (mkF m 252 #[iv p0_0, .val (.long oc), .second, rv b1, rv b176, iv (9 : Int32), iv (0 : Int32), iv (0 : Int32)] [(.int (9 : Int32)), (.ref b1)])) rfl rfl (hb hby at_252) _ ?_
        show Steps p.tables e below (T315.setTop (mkF m 253 #[iv p0_0, .val (.long oc), .second, rv b1, rv b176, iv (9 : Int32), iv (0 : Int32), iv (0 : Int32)] [(.ref s_PAGE_CACHE_PROGRAM)])) _
        refine XS.lloadN X315.here hx rfl (hb hby at_253) rfl ?_
        show Steps p.tables e below (T315.setTop (mkF m 254 #[iv p0_0, .val (.long oc), .second, rv b1, rv b176, iv (9 : Int32), iv (0 : Int32), iv (0 : Int32)] [(.long oc), (.ref s_PAGE_CACHE_PROGRAM)])) _
        refine st496.trans ?_
        rw [q500]
        show Steps p.tables e below (T496.setTop (mkF m 257 #[iv p0_0, .val (.long oc), .second, rv b1, rv b176, iv (9 : Int32), iv (0 : Int32), iv (0 : Int32)] [(.int (0 : Int32))])) _
        show Steps p.tables e below (T496.setTop (mkF m 257 #[iv p0_0, .val (.long oc), .second, rv b1, rv b176, iv (9 : Int32), iv (0 : Int32), iv (0 : Int32)] [(.int (0 : Int32))])) _
        refine XS.iload X496.here hx rfl (hb hby at_257) rfl ?_
        show Steps p.tables e below (T496.setTop (mkF m 259 #[iv p0_0, .val (.long oc), .second, rv b1, rv b176, iv (9 : Int32), iv (0 : Int32), iv (0 : Int32)] [(.int (0 : Int32)), (.int (0 : Int32))])) _
        refine XS.icmpNo X496.here hx rfl (hb hby at_259) rfl (teq (by decide : (0 : Int32) = (0 : Int32))).2 ?_
        show Steps p.tables e below (T496.setTop (mkF m 262 #[iv p0_0, .val (.long oc), .second, rv b1, rv b176, iv (9 : Int32), iv (0 : Int32), iv (0 : Int32)] [])) _
        refine XS.iconst X496.here hx rfl (hb hby at_262) ?_
        show Steps p.tables e below (T496.setTop (mkF m 263 #[iv p0_0, .val (.long oc), .second, rv b1, rv b176, iv (9 : Int32), iv (0 : Int32), iv (0 : Int32)] [(.int (1 : Int32))])) _
        refine XS.goto X496.here hx rfl (pc0 := 263) (pc' := 267) rfl (hb hby at_263) (by decide) (by decide) ?_
        show Steps p.tables e below (T496.setTop (mkF m 267 #[iv p0_0, .val (.long oc), .second, rv b1, rv b176, iv (9 : Int32), iv (0 : Int32), iv (0 : Int32)] [(.int (1 : Int32))])) _
        exact retN X496 hx (t := .boolean) Bd.returns (by simp) (hb hby at_267) hr
      · show Q_rm0 Z _ _ _ _ _ _ _ _ _ _ _ _ _ _ _ _ _ _ _ h0 n0 _ T496.heap _
        rw [K496q]
        exact ⟨rfl, N499, (K316)⟩
    · skip
      have f501 := ((((((((((((((((((f174.ext E176).other W219 ne211).other W225 ne211).other W231 ne211).other W237 ne211).other W243 ne211).other W249 ne211).other W255 ne211).other W261 ne211).other W267 ne211).other W273 ne211).other W279 ne211).other W285 ne211).other W291 ne211).other W297 ne211).other W303 ne211).other W309 ne211).other W315 ne211)
      obtain ⟨cl502, Ar502, qq502, Sz502, Nn502, Hs502, Gf502⟩ := id f501
      have hin503 : ¬ ((9 : Int32) < 0 ∨ cl502.slots.size ≤ ((9 : Int32)).toNatClampNeg) := inb_of Sz502 ⟨by decide, by decide⟩
      have hat504 : cl502.slots[((9 : Int32)).toNatClampNeg]? = some (.ref s_PAGE_CACHE_PROGRAM) := Has.at Hs502 hin503 rfl
      have f505 := ((((((((((((((((((((((((((((((((((((pf_F_s_PAGE_CACHE_PROGRAM_optionalBit.ext E1).other W28 (Or.inl ne11)).other W37 (Or.inl ne11)).other W46 (Or.inl ne11)).other W55 (Or.inl ne11)).other W64 (Or.inl ne11)).other W73 (Or.inl ne11)).other W82 (Or.inl ne11)).other W91 (Or.inl ne11)).other W100 (Or.inl ne11)).other W109 (Or.inl ne11)).other W118 (Or.inl ne11)).other W127 (Or.inl ne11)).other W136 (Or.inl ne11)).other W145 (Or.inl ne11)).other W154 (Or.inl ne11)).other W163 (Or.inl ne11)).other W172 (Or.inl ne11)).ext E176).other W219 (Or.inl ne196)).other W225 (Or.inl ne196)).other W231 (Or.inl ne196)).other W237 (Or.inl ne196)).other W243 (Or.inl ne196)).other W249 (Or.inl ne196)).other W255 (Or.inl ne196)).other W261 (Or.inl ne196)).other W267 (Or.inl ne196)).other W273 (Or.inl ne196)).other W279 (Or.inl ne196)).other W285 (Or.inl ne196)).other W291 (Or.inl ne196)).other W297 (Or.inl ne196)).other W303 (Or.inl ne196)).other W309 (Or.inl ne196)).other W315 (Or.inl ne196))
      have f507 := (Nat.le_trans (Nat.le_trans (Nat.le_trans (Nat.le_trans (Nat.le_trans (Nat.le_trans (Nat.le_trans (Nat.le_trans (Nat.le_trans (Nat.le_trans (Nat.le_trans (Nat.le_trans (Nat.le_trans (Nat.le_trans (Nat.le_trans (Nat.le_trans (Nat.le_trans (Nat.le_trans f213 E176.1) (Keep.of_wr W219).1) (Keep.of_wr W225).1) (Keep.of_wr W231).1) (Keep.of_wr W237).1) (Keep.of_wr W243).1) (Keep.of_wr W249).1) (Keep.of_wr W255).1) (Keep.of_wr W261).1) (Keep.of_wr W267).1) (Keep.of_wr W273).1) (Keep.of_wr W279).1) (Keep.of_wr W285).1) (Keep.of_wr W291).1) (Keep.of_wr W297).1) (Keep.of_wr W303).1) (Keep.of_wr W309).1) (Keep.of_wr W315).1)
      have f508 := ((((((((((((((((((f195.ext E176).wr W219).wr W225).wr W231).wr W237).wr W243).wr W249).wr W255).wr W261).wr W267).wr W273).wr W279).wr W285).wr W291).wr W297).wr W303).wr W309).wr W315)
      obtain ⟨cq506, kq506, q506a, q506b, q506c⟩ := isOf hZ e315 f508
      obtain ⟨_, _, ⟨T506, L506, k506, n506⟩, -, X506, ⟨Lc506, hQ506, l506, y506, z506⟩, st506⟩ := X315.virtualBack hx (y := MN1) (z := MN1) hown (mvT hZ wo40) (mvT hZ wo41) (notFace_of_selects (args := #[]) (mvT hZ wo43)) (mvT hZ wo43) (mvT hZ wo42) (by decide) (backOf (W := 0) (rm1 l Z a0 hw [] s_PAGE_CACHE_PROGRAM oc (0 : Int32) h315 n0 f507 f505) hZ wo44 wo3 (by decide) (by decide)) q506a q506c (g := (mkF m 254 #[iv p0_0, .val (.long oc), .second, rv b1, rv b176, iv (9 : Int32), iv (0 : Int32), iv (1 : Int32)] [(.long oc), (.ref s_PAGE_CACHE_PROGRAM)])) rfl (by rw [hml]; rfl) (Steps.refl _) (argsL := [(.long oc)]) (rest := []) (lenOf pd_0 rfl) rfl (by show 2 * 0 + _ ≤ _; exact Nat.le_of_eq rfl) (hb hby at_254) (fun _ _ => ⟨rfl, e315, (by decide : 2 + 0 ≤ _), (by decide : 34 + 0 ≤ _)⟩)
      dsimp only [Pt.U, Pt.locs, Pt.cells, Pt.slots] at X506 l506 y506 z506 st506 hQ506
      rw [l506, y506, z506] at X506
      obtain ⟨rfl, N506q, K506q⟩ := hQ506
      have N509 := Fr.app N318 N506q
      have q510 : (if (0 : Int32) = (-1 : Int32) then (1 : Int32) else (if (lcmpW ((oc >>> ((0 : Int32) &&& 0x3f).toInt64) &&& (1 : Int64)) (1 : Int64)) = (0 : Int32) then (1 : Int32) else (0 : Int32))) = (1 : Int32) := (if_neg (by decide)).trans (if_pos ((own_bit0 _).mpr hc239_489))
      obtain ⟨fs, hr, hrun, hended, hW, hsame⟩ := X506.leave (v := some (.int (1 : Int32))) (fun h => by rw [Bd.returns] at h; cases h)
      refine ⟨_, _, pre490 _ ?_, hrun, hended, _, _, rfl, ?_, ⟨_, rfl⟩, hW, hsame.mono (by decide) (by decide)⟩
      · show Steps p.tables e below (T315.setTop (mkF m 239 #[iv p0_0, .val (.long oc), .second, rv b1, rv b176, iv (9 : Int32), iv (0 : Int32), .unset] [(.int (lcmpW (oc &&& (1 : Int64)) (0 : Int64)))])) _
        refine XS.ifNo X315.here hx rfl (hb hby at_239) rfl ((if0 _ _).trans (feq hc239_489).1) ?_
        show Steps p.tables e below (T315.setTop (mkF m 242 #[iv p0_0, .val (.long oc), .second, rv b1, rv b176, iv (9 : Int32), iv (0 : Int32), .unset] [])) _
        refine XS.iconst X315.here hx rfl (hb hby at_242) ?_
        show Steps p.tables e below (T315.setTop (mkF m 243 #[iv p0_0, .val (.long oc), .second, rv b1, rv b176, iv (9 : Int32), iv (0 : Int32), .unset] [(.int (1 : Int32))])) _
        refine XS.goto X315.here hx rfl (pc0 := 243) (pc' := 247) rfl (hb hby at_243) (by decide) (by decide) ?_
        show Steps p.tables e below (T315.setTop (mkF m 247 #[iv p0_0, .val (.long oc), .second, rv b1, rv b176, iv (9 : Int32), iv (0 : Int32), .unset] [(.int (1 : Int32))])) _
        refine XS.istore X315.here hx rfl (hb hby at_247) rfl (l' := #[iv p0_0, .val (.long oc), .second, rv b1, rv b176, iv (9 : Int32), iv (0 : Int32), iv (1 : Int32)]) rfl ?_
        show Steps p.tables e below (T315.setTop (mkF m 249 #[iv p0_0, .val (.long oc), .second, rv b1, rv b176, iv (9 : Int32), iv (0 : Int32), iv (1 : Int32)] [])) _
        refine XS.aloadN X315.here hx rfl (hb hby at_249) rfl rfl ?_
        show Steps p.tables e below (T315.setTop (mkF m 250 #[iv p0_0, .val (.long oc), .second, rv b1, rv b176, iv (9 : Int32), iv (0 : Int32), iv (1 : Int32)] [(.ref b1)])) _
        refine XS.iload X315.here hx rfl (hb hby at_250) rfl ?_
        show Steps p.tables e below (T315.setTop (mkF m 252 #[iv p0_0, .val (.long oc), .second, rv b1, rv b176, iv (9 : Int32), iv (0 : Int32), iv (1 : Int32)] [(.int (9 : Int32)), (.ref b1)])) _
        refine X315.aaload hx (j := (9 : Int32)) (v := (.ref s_PAGE_CACHE_PROGRAM)) (by rw [e315]; exact Ar502.1) (State.isArrayOf_alike hZ.alike Ar502.2.1) rfl Ar502.2.2 hin503 hat504 (g := (mkF m 252 #[iv p0_0, .val (.long oc), .second, rv b1, rv b176, iv (9 : Int32), iv (0 : Int32), iv (1 : Int32)] [(.int (9 : Int32)), (.ref b1)])) rfl rfl (hb hby at_252) _ ?_
        show Steps p.tables e below (T315.setTop (mkF m 253 #[iv p0_0, .val (.long oc), .second, rv b1, rv b176, iv (9 : Int32), iv (0 : Int32), iv (1 : Int32)] [(.ref s_PAGE_CACHE_PROGRAM)])) _
        refine XS.lloadN X315.here hx rfl (hb hby at_253) rfl ?_
        show Steps p.tables e below (T315.setTop (mkF m 254 #[iv p0_0, .val (.long oc), .second, rv b1, rv b176, iv (9 : Int32), iv (0 : Int32), iv (1 : Int32)] [(.long oc), (.ref s_PAGE_CACHE_PROGRAM)])) _
        refine st506.trans ?_
        rw [q510]
        show Steps p.tables e below (T506.setTop (mkF m 257 #[iv p0_0, .val (.long oc), .second, rv b1, rv b176, iv (9 : Int32), iv (0 : Int32), iv (1 : Int32)] [(.int (1 : Int32))])) _
        show Steps p.tables e below (T506.setTop (mkF m 257 #[iv p0_0, .val (.long oc), .second, rv b1, rv b176, iv (9 : Int32), iv (0 : Int32), iv (1 : Int32)] [(.int (1 : Int32))])) _
        refine XS.iload X506.here hx rfl (hb hby at_257) rfl ?_
        show Steps p.tables e below (T506.setTop (mkF m 259 #[iv p0_0, .val (.long oc), .second, rv b1, rv b176, iv (9 : Int32), iv (0 : Int32), iv (1 : Int32)] [(.int (1 : Int32)), (.int (1 : Int32))])) _
        refine XS.icmpNo X506.here hx rfl (hb hby at_259) rfl (teq (by decide : (1 : Int32) = (1 : Int32))).2 ?_
        show Steps p.tables e below (T506.setTop (mkF m 262 #[iv p0_0, .val (.long oc), .second, rv b1, rv b176, iv (9 : Int32), iv (0 : Int32), iv (1 : Int32)] [])) _
        refine XS.iconst X506.here hx rfl (hb hby at_262) ?_
        show Steps p.tables e below (T506.setTop (mkF m 263 #[iv p0_0, .val (.long oc), .second, rv b1, rv b176, iv (9 : Int32), iv (0 : Int32), iv (1 : Int32)] [(.int (1 : Int32))])) _
        refine XS.goto X506.here hx rfl (pc0 := 263) (pc' := 267) rfl (hb hby at_263) (by decide) (by decide) ?_
        show Steps p.tables e below (T506.setTop (mkF m 267 #[iv p0_0, .val (.long oc), .second, rv b1, rv b176, iv (9 : Int32), iv (0 : Int32), iv (1 : Int32)] [(.int (1 : Int32))])) _
        exact retN X506 hx (t := .boolean) Bd.returns (by simp) (hb hby at_267) hr
      · show Q_rm0 Z _ _ _ _ _ _ _ _ _ _ _ _ _ _ _ _ _ _ _ h0 n0 _ T506.heap _
        rw [K506q]
        exact ⟨rfl, N509, (K316)⟩
  · skip
    obtain ⟨kk511, cl511, Ar511, qq511, Sz511, Nn511, Hs511, Gf511⟩ := id f317
    have hin512 : ¬ ((10 : Int32) < 0 ∨ cl511.slots.size ≤ ((10 : Int32)).toNatClampNeg) := inb_of Sz511 ⟨by decide, by decide⟩
    have hat513 : cl511.slots[((10 : Int32)).toNatClampNeg]? = some (.int (-1 : Int32)) := Has.at Hs511 hin512 rfl
    have f514 := ((((((((((((((((((f174.ext E176).other W219 ne211).other W225 ne211).other W231 ne211).other W237 ne211).other W243 ne211).other W249 ne211).other W255 ne211).other W261 ne211).other W267 ne211).other W273 ne211).other W279 ne211).other W285 ne211).other W291 ne211).other W297 ne211).other W303 ne211).other W309 ne211).other W315 ne211)
    obtain ⟨cl515, Ar515, qq515, Sz515, Nn515, Hs515, Gf515⟩ := id f514
    have hin516 : ¬ ((10 : Int32) < 0 ∨ cl515.slots.size ≤ ((10 : Int32)).toNatClampNeg) := inb_of Sz515 ⟨by decide, by decide⟩
    have hat517 : cl515.slots[((10 : Int32)).toNatClampNeg]? = some (.ref s_CHANGE_WRITE_COLUMN) := Has.at Hs515 hin516 rfl
    have f518 := ((((((((((((((((((((((((((((((((((((pf_F_s_CHANGE_WRITE_COLUMN_optionalBit.ext E1).other W28 (Or.inl ne12)).other W37 (Or.inl ne12)).other W46 (Or.inl ne12)).other W55 (Or.inl ne12)).other W64 (Or.inl ne12)).other W73 (Or.inl ne12)).other W82 (Or.inl ne12)).other W91 (Or.inl ne12)).other W100 (Or.inl ne12)).other W109 (Or.inl ne12)).other W118 (Or.inl ne12)).other W127 (Or.inl ne12)).other W136 (Or.inl ne12)).other W145 (Or.inl ne12)).other W154 (Or.inl ne12)).other W163 (Or.inl ne12)).other W172 (Or.inl ne12)).ext E176).other W219 (Or.inl ne198)).other W225 (Or.inl ne198)).other W231 (Or.inl ne198)).other W237 (Or.inl ne198)).other W243 (Or.inl ne198)).other W249 (Or.inl ne198)).other W255 (Or.inl ne198)).other W261 (Or.inl ne198)).other W267 (Or.inl ne198)).other W273 (Or.inl ne198)).other W279 (Or.inl ne198)).other W285 (Or.inl ne198)).other W291 (Or.inl ne198)).other W297 (Or.inl ne198)).other W303 (Or.inl ne198)).other W309 (Or.inl ne198)).other W315 (Or.inl ne198))
    have f520 := (Nat.le_trans (Nat.le_trans (Nat.le_trans (Nat.le_trans (Nat.le_trans (Nat.le_trans (Nat.le_trans (Nat.le_trans (Nat.le_trans (Nat.le_trans (Nat.le_trans (Nat.le_trans (Nat.le_trans (Nat.le_trans (Nat.le_trans (Nat.le_trans (Nat.le_trans (Nat.le_trans f213 E176.1) (Keep.of_wr W219).1) (Keep.of_wr W225).1) (Keep.of_wr W231).1) (Keep.of_wr W237).1) (Keep.of_wr W243).1) (Keep.of_wr W249).1) (Keep.of_wr W255).1) (Keep.of_wr W261).1) (Keep.of_wr W267).1) (Keep.of_wr W273).1) (Keep.of_wr W279).1) (Keep.of_wr W285).1) (Keep.of_wr W291).1) (Keep.of_wr W297).1) (Keep.of_wr W303).1) (Keep.of_wr W309).1) (Keep.of_wr W315).1)
    have f521 := ((((((((((((((((((f197.ext E176).wr W219).wr W225).wr W231).wr W237).wr W243).wr W249).wr W255).wr W261).wr W267).wr W273).wr W279).wr W285).wr W291).wr W297).wr W303).wr W309).wr W315)
    obtain ⟨cq519, kq519, q519a, q519b, q519c⟩ := isOf hZ e315 f521
    obtain ⟨_, _, ⟨T519, L519, k519, n519⟩, -, X519, ⟨Lc519, hQ519, l519, y519, z519⟩, st519⟩ := X315.virtualBack hx (y := MN1) (z := MN1) hown (mvT hZ wo40) (mvT hZ wo41) (notFace_of_selects (args := #[]) (mvT hZ wo43)) (mvT hZ wo43) (mvT hZ wo42) (by decide) (backOf (W := 0) (rm1 l Z a0 hw [] s_CHANGE_WRITE_COLUMN oc (-1 : Int32) h315 n0 f520 f518) hZ wo44 wo3 (by decide) (by decide)) q519a q519c (g := (mkF m 254 #[iv p0_0, .val (.long oc), .second, rv b1, rv b176, iv (10 : Int32), iv (-1 : Int32), iv (1 : Int32)] [(.long oc), (.ref s_CHANGE_WRITE_COLUMN)])) rfl (by rw [hml]; rfl) (Steps.refl _) (argsL := [(.long oc)]) (rest := []) (lenOf pd_0 rfl) rfl (by show 2 * 0 + _ ≤ _; exact Nat.le_of_eq rfl) (hb hby at_254) (fun _ _ => ⟨rfl, e315, (by decide : 2 + 0 ≤ _), (by decide : 34 + 0 ≤ _)⟩)
    dsimp only [Pt.U, Pt.locs, Pt.cells, Pt.slots] at X519 l519 y519 z519 st519 hQ519
    rw [l519, y519, z519] at X519
    obtain ⟨rfl, N519q, K519q⟩ := hQ519
    have N522 := Fr.app N318 N519q
    have q523 : (if (-1 : Int32) = (-1 : Int32) then (1 : Int32) else (if (lcmpW ((oc >>> ((-1 : Int32) &&& 0x3f).toInt64) &&& (1 : Int64)) (1 : Int64)) = (0 : Int32) then (1 : Int32) else (0 : Int32))) = (1 : Int32) := if_pos rfl
    obtain ⟨fs, hr, hrun, hended, hW, hsame⟩ := X519.leave (v := some (.int (1 : Int32))) (fun h => by rw [Bd.returns] at h; cases h)
    refine ⟨_, _, pre319 _ ?_, hrun, hended, _, _, rfl, ?_, ⟨_, rfl⟩, hW, hsame.mono (by decide) (by decide)⟩
    · show Steps p.tables e below (T315.setTop (mkF m 213 #[iv p0_0, .val (.long oc), .second, rv b1, rv b176, iv (10 : Int32), .unset, .unset] [])) _
      refine XS.aload X315.here hx rfl (hb hby at_213) rfl rfl ?_
      show Steps p.tables e below (T315.setTop (mkF m 215 #[iv p0_0, .val (.long oc), .second, rv b1, rv b176, iv (10 : Int32), .unset, .unset] [(.ref b176)])) _
      refine XS.iload X315.here hx rfl (hb hby at_215) rfl ?_
      show Steps p.tables e below (T315.setTop (mkF m 217 #[iv p0_0, .val (.long oc), .second, rv b1, rv b176, iv (10 : Int32), .unset, .unset] [(.int (10 : Int32)), (.ref b176)])) _
      refine X315.iaload hx (j := (10 : Int32)) (v := (.int (-1 : Int32))) (by rw [e315]; exact Ar511.1) (State.isArrayOf_alike hZ.alike Ar511.2.1) Ar511.2.2 hin512 hat513 (g := (mkF m 217 #[iv p0_0, .val (.long oc), .second, rv b1, rv b176, iv (10 : Int32), .unset, .unset] [(.int (10 : Int32)), (.ref b176)])) rfl rfl (hb hby at_217) _ ?_
      show Steps p.tables e below (T315.setTop (mkF m 218 #[iv p0_0, .val (.long oc), .second, rv b1, rv b176, iv (10 : Int32), .unset, .unset] [(.int (-1 : Int32))])) _
      refine XS.istore X315.here hx rfl (hb hby at_218) rfl (l' := #[iv p0_0, .val (.long oc), .second, rv b1, rv b176, iv (10 : Int32), iv (-1 : Int32), .unset]) rfl ?_
      show Steps p.tables e below (T315.setTop (mkF m 220 #[iv p0_0, .val (.long oc), .second, rv b1, rv b176, iv (10 : Int32), iv (-1 : Int32), .unset] [])) _
      refine XS.iload X315.here hx rfl (hb hby at_220) rfl ?_
      show Steps p.tables e below (T315.setTop (mkF m 222 #[iv p0_0, .val (.long oc), .second, rv b1, rv b176, iv (10 : Int32), iv (-1 : Int32), .unset] [(.int (-1 : Int32))])) _
      refine XS.ifNo X315.here hx rfl (hb hby at_222) rfl ((if0 _ _).trans (tlt (by decide : (-1 : Int32) < (0 : Int32))).2.1) ?_
      show Steps p.tables e below (T315.setTop (mkF m 225 #[iv p0_0, .val (.long oc), .second, rv b1, rv b176, iv (10 : Int32), iv (-1 : Int32), .unset] [])) _
      refine XS.iconst X315.here hx rfl (hb hby at_225) ?_
      show Steps p.tables e below (T315.setTop (mkF m 226 #[iv p0_0, .val (.long oc), .second, rv b1, rv b176, iv (10 : Int32), iv (-1 : Int32), .unset] [(.int (1 : Int32))])) _
      refine XS.istore X315.here hx rfl (hb hby at_226) rfl (l' := #[iv p0_0, .val (.long oc), .second, rv b1, rv b176, iv (10 : Int32), iv (-1 : Int32), iv (1 : Int32)]) rfl ?_
      show Steps p.tables e below (T315.setTop (mkF m 228 #[iv p0_0, .val (.long oc), .second, rv b1, rv b176, iv (10 : Int32), iv (-1 : Int32), iv (1 : Int32)] [])) _
      refine XS.goto X315.here hx rfl (pc0 := 228) (pc' := 249) rfl (hb hby at_228) (by decide) (by decide) ?_
      show Steps p.tables e below (T315.setTop (mkF m 249 #[iv p0_0, .val (.long oc), .second, rv b1, rv b176, iv (10 : Int32), iv (-1 : Int32), iv (1 : Int32)] [])) _
      refine XS.aloadN X315.here hx rfl (hb hby at_249) rfl rfl ?_
      show Steps p.tables e below (T315.setTop (mkF m 250 #[iv p0_0, .val (.long oc), .second, rv b1, rv b176, iv (10 : Int32), iv (-1 : Int32), iv (1 : Int32)] [(.ref b1)])) _
      refine XS.iload X315.here hx rfl (hb hby at_250) rfl ?_
      show Steps p.tables e below (T315.setTop (mkF m 252 #[iv p0_0, .val (.long oc), .second, rv b1, rv b176, iv (10 : Int32), iv (-1 : Int32), iv (1 : Int32)] [(.int (10 : Int32)), (.ref b1)])) _
      refine X315.aaload hx (j := (10 : Int32)) (v := (.ref s_CHANGE_WRITE_COLUMN)) (by rw [e315]; exact Ar515.1) (State.isArrayOf_alike hZ.alike Ar515.2.1) rfl Ar515.2.2 hin516 hat517 (g := (mkF m 252 #[iv p0_0, .val (.long oc), .second, rv b1, rv b176, iv (10 : Int32), iv (-1 : Int32), iv (1 : Int32)] [(.int (10 : Int32)), (.ref b1)])) rfl rfl (hb hby at_252) _ ?_
      show Steps p.tables e below (T315.setTop (mkF m 253 #[iv p0_0, .val (.long oc), .second, rv b1, rv b176, iv (10 : Int32), iv (-1 : Int32), iv (1 : Int32)] [(.ref s_CHANGE_WRITE_COLUMN)])) _
      refine XS.lloadN X315.here hx rfl (hb hby at_253) rfl ?_
      show Steps p.tables e below (T315.setTop (mkF m 254 #[iv p0_0, .val (.long oc), .second, rv b1, rv b176, iv (10 : Int32), iv (-1 : Int32), iv (1 : Int32)] [(.long oc), (.ref s_CHANGE_WRITE_COLUMN)])) _
      refine st519.trans ?_
      rw [q523]
      show Steps p.tables e below (T519.setTop (mkF m 257 #[iv p0_0, .val (.long oc), .second, rv b1, rv b176, iv (10 : Int32), iv (-1 : Int32), iv (1 : Int32)] [(.int (1 : Int32))])) _
      show Steps p.tables e below (T519.setTop (mkF m 257 #[iv p0_0, .val (.long oc), .second, rv b1, rv b176, iv (10 : Int32), iv (-1 : Int32), iv (1 : Int32)] [(.int (1 : Int32))])) _
      refine XS.iload X519.here hx rfl (hb hby at_257) rfl ?_
      show Steps p.tables e below (T519.setTop (mkF m 259 #[iv p0_0, .val (.long oc), .second, rv b1, rv b176, iv (10 : Int32), iv (-1 : Int32), iv (1 : Int32)] [(.int (1 : Int32)), (.int (1 : Int32))])) _
      refine XS.icmpNo X519.here hx rfl (hb hby at_259) rfl (teq (by decide : (1 : Int32) = (1 : Int32))).2 ?_
      show Steps p.tables e below (T519.setTop (mkF m 262 #[iv p0_0, .val (.long oc), .second, rv b1, rv b176, iv (10 : Int32), iv (-1 : Int32), iv (1 : Int32)] [])) _
      refine XS.iconst X519.here hx rfl (hb hby at_262) ?_
      show Steps p.tables e below (T519.setTop (mkF m 263 #[iv p0_0, .val (.long oc), .second, rv b1, rv b176, iv (10 : Int32), iv (-1 : Int32), iv (1 : Int32)] [(.int (1 : Int32))])) _
      refine XS.goto X519.here hx rfl (pc0 := 263) (pc' := 267) rfl (hb hby at_263) (by decide) (by decide) ?_
      show Steps p.tables e below (T519.setTop (mkF m 267 #[iv p0_0, .val (.long oc), .second, rv b1, rv b176, iv (10 : Int32), iv (-1 : Int32), iv (1 : Int32)] [(.int (1 : Int32))])) _
      exact retN X519 hx (t := .boolean) Bd.returns (by simp) (hb hby at_267) hr
    · show Q_rm0 Z _ _ _ _ _ _ _ _ _ _ _ _ _ _ _ _ _ _ _ h0 n0 _ T519.heap _
      rw [K519q]
      exact ⟨rfl, N522, (K316)⟩
  · skip
    obtain ⟨kk524, cl524, Ar524, qq524, Sz524, Nn524, Hs524, Gf524⟩ := id f317
    have hin525 : ¬ ((11 : Int32) < 0 ∨ cl524.slots.size ≤ ((11 : Int32)).toNatClampNeg) := inb_of Sz524 ⟨by decide, by decide⟩
    have hat526 : cl524.slots[((11 : Int32)).toNatClampNeg]? = some (.int (-1 : Int32)) := Has.at Hs524 hin525 rfl
    have f527 := ((((((((((((((((((f174.ext E176).other W219 ne211).other W225 ne211).other W231 ne211).other W237 ne211).other W243 ne211).other W249 ne211).other W255 ne211).other W261 ne211).other W267 ne211).other W273 ne211).other W279 ne211).other W285 ne211).other W291 ne211).other W297 ne211).other W303 ne211).other W309 ne211).other W315 ne211)
    obtain ⟨cl528, Ar528, qq528, Sz528, Nn528, Hs528, Gf528⟩ := id f527
    have hin529 : ¬ ((11 : Int32) < 0 ∨ cl528.slots.size ≤ ((11 : Int32)).toNatClampNeg) := inb_of Sz528 ⟨by decide, by decide⟩
    have hat530 : cl528.slots[((11 : Int32)).toNatClampNeg]? = some (.ref s_READ_ID) := Has.at Hs528 hin529 rfl
    have f531 := ((((((((((((((((((((((((((((((((((((pf_F_s_READ_ID_optionalBit.ext E1).other W28 (Or.inl ne13)).other W37 (Or.inl ne13)).other W46 (Or.inl ne13)).other W55 (Or.inl ne13)).other W64 (Or.inl ne13)).other W73 (Or.inl ne13)).other W82 (Or.inl ne13)).other W91 (Or.inl ne13)).other W100 (Or.inl ne13)).other W109 (Or.inl ne13)).other W118 (Or.inl ne13)).other W127 (Or.inl ne13)).other W136 (Or.inl ne13)).other W145 (Or.inl ne13)).other W154 (Or.inl ne13)).other W163 (Or.inl ne13)).other W172 (Or.inl ne13)).ext E176).other W219 (Or.inl ne200)).other W225 (Or.inl ne200)).other W231 (Or.inl ne200)).other W237 (Or.inl ne200)).other W243 (Or.inl ne200)).other W249 (Or.inl ne200)).other W255 (Or.inl ne200)).other W261 (Or.inl ne200)).other W267 (Or.inl ne200)).other W273 (Or.inl ne200)).other W279 (Or.inl ne200)).other W285 (Or.inl ne200)).other W291 (Or.inl ne200)).other W297 (Or.inl ne200)).other W303 (Or.inl ne200)).other W309 (Or.inl ne200)).other W315 (Or.inl ne200))
    have f533 := (Nat.le_trans (Nat.le_trans (Nat.le_trans (Nat.le_trans (Nat.le_trans (Nat.le_trans (Nat.le_trans (Nat.le_trans (Nat.le_trans (Nat.le_trans (Nat.le_trans (Nat.le_trans (Nat.le_trans (Nat.le_trans (Nat.le_trans (Nat.le_trans (Nat.le_trans (Nat.le_trans f213 E176.1) (Keep.of_wr W219).1) (Keep.of_wr W225).1) (Keep.of_wr W231).1) (Keep.of_wr W237).1) (Keep.of_wr W243).1) (Keep.of_wr W249).1) (Keep.of_wr W255).1) (Keep.of_wr W261).1) (Keep.of_wr W267).1) (Keep.of_wr W273).1) (Keep.of_wr W279).1) (Keep.of_wr W285).1) (Keep.of_wr W291).1) (Keep.of_wr W297).1) (Keep.of_wr W303).1) (Keep.of_wr W309).1) (Keep.of_wr W315).1)
    have f534 := ((((((((((((((((((f199.ext E176).wr W219).wr W225).wr W231).wr W237).wr W243).wr W249).wr W255).wr W261).wr W267).wr W273).wr W279).wr W285).wr W291).wr W297).wr W303).wr W309).wr W315)
    obtain ⟨cq532, kq532, q532a, q532b, q532c⟩ := isOf hZ e315 f534
    obtain ⟨_, _, ⟨T532, L532, k532, n532⟩, -, X532, ⟨Lc532, hQ532, l532, y532, z532⟩, st532⟩ := X315.virtualBack hx (y := MN1) (z := MN1) hown (mvT hZ wo40) (mvT hZ wo41) (notFace_of_selects (args := #[]) (mvT hZ wo43)) (mvT hZ wo43) (mvT hZ wo42) (by decide) (backOf (W := 0) (rm1 l Z a0 hw [] s_READ_ID oc (-1 : Int32) h315 n0 f533 f531) hZ wo44 wo3 (by decide) (by decide)) q532a q532c (g := (mkF m 254 #[iv p0_0, .val (.long oc), .second, rv b1, rv b176, iv (11 : Int32), iv (-1 : Int32), iv (1 : Int32)] [(.long oc), (.ref s_READ_ID)])) rfl (by rw [hml]; rfl) (Steps.refl _) (argsL := [(.long oc)]) (rest := []) (lenOf pd_0 rfl) rfl (by show 2 * 0 + _ ≤ _; exact Nat.le_of_eq rfl) (hb hby at_254) (fun _ _ => ⟨rfl, e315, (by decide : 2 + 0 ≤ _), (by decide : 34 + 0 ≤ _)⟩)
    dsimp only [Pt.U, Pt.locs, Pt.cells, Pt.slots] at X532 l532 y532 z532 st532 hQ532
    rw [l532, y532, z532] at X532
    obtain ⟨rfl, N532q, K532q⟩ := hQ532
    have N535 := Fr.app N318 N532q
    have q536 : (if (-1 : Int32) = (-1 : Int32) then (1 : Int32) else (if (lcmpW ((oc >>> ((-1 : Int32) &&& 0x3f).toInt64) &&& (1 : Int64)) (1 : Int64)) = (0 : Int32) then (1 : Int32) else (0 : Int32))) = (1 : Int32) := if_pos rfl
    obtain ⟨fs, hr, hrun, hended, hW, hsame⟩ := X532.leave (v := some (.int (1 : Int32))) (fun h => by rw [Bd.returns] at h; cases h)
    refine ⟨_, _, pre319 _ ?_, hrun, hended, _, _, rfl, ?_, ⟨_, rfl⟩, hW, hsame.mono (by decide) (by decide)⟩
    · show Steps p.tables e below (T315.setTop (mkF m 213 #[iv p0_0, .val (.long oc), .second, rv b1, rv b176, iv (11 : Int32), .unset, .unset] [])) _
      refine XS.aload X315.here hx rfl (hb hby at_213) rfl rfl ?_
      show Steps p.tables e below (T315.setTop (mkF m 215 #[iv p0_0, .val (.long oc), .second, rv b1, rv b176, iv (11 : Int32), .unset, .unset] [(.ref b176)])) _
      refine XS.iload X315.here hx rfl (hb hby at_215) rfl ?_
      show Steps p.tables e below (T315.setTop (mkF m 217 #[iv p0_0, .val (.long oc), .second, rv b1, rv b176, iv (11 : Int32), .unset, .unset] [(.int (11 : Int32)), (.ref b176)])) _
      refine X315.iaload hx (j := (11 : Int32)) (v := (.int (-1 : Int32))) (by rw [e315]; exact Ar524.1) (State.isArrayOf_alike hZ.alike Ar524.2.1) Ar524.2.2 hin525 hat526 (g := (mkF m 217 #[iv p0_0, .val (.long oc), .second, rv b1, rv b176, iv (11 : Int32), .unset, .unset] [(.int (11 : Int32)), (.ref b176)])) rfl rfl (hb hby at_217) _ ?_
      show Steps p.tables e below (T315.setTop (mkF m 218 #[iv p0_0, .val (.long oc), .second, rv b1, rv b176, iv (11 : Int32), .unset, .unset] [(.int (-1 : Int32))])) _
      refine XS.istore X315.here hx rfl (hb hby at_218) rfl (l' := #[iv p0_0, .val (.long oc), .second, rv b1, rv b176, iv (11 : Int32), iv (-1 : Int32), .unset]) rfl ?_
      show Steps p.tables e below (T315.setTop (mkF m 220 #[iv p0_0, .val (.long oc), .second, rv b1, rv b176, iv (11 : Int32), iv (-1 : Int32), .unset] [])) _
      refine XS.iload X315.here hx rfl (hb hby at_220) rfl ?_
      show Steps p.tables e below (T315.setTop (mkF m 222 #[iv p0_0, .val (.long oc), .second, rv b1, rv b176, iv (11 : Int32), iv (-1 : Int32), .unset] [(.int (-1 : Int32))])) _
      refine XS.ifNo X315.here hx rfl (hb hby at_222) rfl ((if0 _ _).trans (tlt (by decide : (-1 : Int32) < (0 : Int32))).2.1) ?_
      show Steps p.tables e below (T315.setTop (mkF m 225 #[iv p0_0, .val (.long oc), .second, rv b1, rv b176, iv (11 : Int32), iv (-1 : Int32), .unset] [])) _
      refine XS.iconst X315.here hx rfl (hb hby at_225) ?_
      show Steps p.tables e below (T315.setTop (mkF m 226 #[iv p0_0, .val (.long oc), .second, rv b1, rv b176, iv (11 : Int32), iv (-1 : Int32), .unset] [(.int (1 : Int32))])) _
      refine XS.istore X315.here hx rfl (hb hby at_226) rfl (l' := #[iv p0_0, .val (.long oc), .second, rv b1, rv b176, iv (11 : Int32), iv (-1 : Int32), iv (1 : Int32)]) rfl ?_
      show Steps p.tables e below (T315.setTop (mkF m 228 #[iv p0_0, .val (.long oc), .second, rv b1, rv b176, iv (11 : Int32), iv (-1 : Int32), iv (1 : Int32)] [])) _
      refine XS.goto X315.here hx rfl (pc0 := 228) (pc' := 249) rfl (hb hby at_228) (by decide) (by decide) ?_
      show Steps p.tables e below (T315.setTop (mkF m 249 #[iv p0_0, .val (.long oc), .second, rv b1, rv b176, iv (11 : Int32), iv (-1 : Int32), iv (1 : Int32)] [])) _
      refine XS.aloadN X315.here hx rfl (hb hby at_249) rfl rfl ?_
      show Steps p.tables e below (T315.setTop (mkF m 250 #[iv p0_0, .val (.long oc), .second, rv b1, rv b176, iv (11 : Int32), iv (-1 : Int32), iv (1 : Int32)] [(.ref b1)])) _
      refine XS.iload X315.here hx rfl (hb hby at_250) rfl ?_
      show Steps p.tables e below (T315.setTop (mkF m 252 #[iv p0_0, .val (.long oc), .second, rv b1, rv b176, iv (11 : Int32), iv (-1 : Int32), iv (1 : Int32)] [(.int (11 : Int32)), (.ref b1)])) _
      refine X315.aaload hx (j := (11 : Int32)) (v := (.ref s_READ_ID)) (by rw [e315]; exact Ar528.1) (State.isArrayOf_alike hZ.alike Ar528.2.1) rfl Ar528.2.2 hin529 hat530 (g := (mkF m 252 #[iv p0_0, .val (.long oc), .second, rv b1, rv b176, iv (11 : Int32), iv (-1 : Int32), iv (1 : Int32)] [(.int (11 : Int32)), (.ref b1)])) rfl rfl (hb hby at_252) _ ?_
      show Steps p.tables e below (T315.setTop (mkF m 253 #[iv p0_0, .val (.long oc), .second, rv b1, rv b176, iv (11 : Int32), iv (-1 : Int32), iv (1 : Int32)] [(.ref s_READ_ID)])) _
      refine XS.lloadN X315.here hx rfl (hb hby at_253) rfl ?_
      show Steps p.tables e below (T315.setTop (mkF m 254 #[iv p0_0, .val (.long oc), .second, rv b1, rv b176, iv (11 : Int32), iv (-1 : Int32), iv (1 : Int32)] [(.long oc), (.ref s_READ_ID)])) _
      refine st532.trans ?_
      rw [q536]
      show Steps p.tables e below (T532.setTop (mkF m 257 #[iv p0_0, .val (.long oc), .second, rv b1, rv b176, iv (11 : Int32), iv (-1 : Int32), iv (1 : Int32)] [(.int (1 : Int32))])) _
      show Steps p.tables e below (T532.setTop (mkF m 257 #[iv p0_0, .val (.long oc), .second, rv b1, rv b176, iv (11 : Int32), iv (-1 : Int32), iv (1 : Int32)] [(.int (1 : Int32))])) _
      refine XS.iload X532.here hx rfl (hb hby at_257) rfl ?_
      show Steps p.tables e below (T532.setTop (mkF m 259 #[iv p0_0, .val (.long oc), .second, rv b1, rv b176, iv (11 : Int32), iv (-1 : Int32), iv (1 : Int32)] [(.int (1 : Int32)), (.int (1 : Int32))])) _
      refine XS.icmpNo X532.here hx rfl (hb hby at_259) rfl (teq (by decide : (1 : Int32) = (1 : Int32))).2 ?_
      show Steps p.tables e below (T532.setTop (mkF m 262 #[iv p0_0, .val (.long oc), .second, rv b1, rv b176, iv (11 : Int32), iv (-1 : Int32), iv (1 : Int32)] [])) _
      refine XS.iconst X532.here hx rfl (hb hby at_262) ?_
      show Steps p.tables e below (T532.setTop (mkF m 263 #[iv p0_0, .val (.long oc), .second, rv b1, rv b176, iv (11 : Int32), iv (-1 : Int32), iv (1 : Int32)] [(.int (1 : Int32))])) _
      refine XS.goto X532.here hx rfl (pc0 := 263) (pc' := 267) rfl (hb hby at_263) (by decide) (by decide) ?_
      show Steps p.tables e below (T532.setTop (mkF m 267 #[iv p0_0, .val (.long oc), .second, rv b1, rv b176, iv (11 : Int32), iv (-1 : Int32), iv (1 : Int32)] [(.int (1 : Int32))])) _
      exact retN X532 hx (t := .boolean) Bd.returns (by simp) (hb hby at_267) hr
    · show Q_rm0 Z _ _ _ _ _ _ _ _ _ _ _ _ _ _ _ _ _ _ _ h0 n0 _ T532.heap _
      rw [K532q]
      exact ⟨rfl, N535, (K316)⟩
  · skip
    obtain ⟨kk537, cl537, Ar537, qq537, Sz537, Nn537, Hs537, Gf537⟩ := id f317
    have hin538 : ¬ ((12 : Int32) < 0 ∨ cl537.slots.size ≤ ((12 : Int32)).toNatClampNeg) := inb_of Sz537 ⟨by decide, by decide⟩
    have hat539 : cl537.slots[((12 : Int32)).toNatClampNeg]? = some (.int (-1 : Int32)) := Has.at Hs537 hin538 rfl
    have f540 := ((((((((((((((((((f174.ext E176).other W219 ne211).other W225 ne211).other W231 ne211).other W237 ne211).other W243 ne211).other W249 ne211).other W255 ne211).other W261 ne211).other W267 ne211).other W273 ne211).other W279 ne211).other W285 ne211).other W291 ne211).other W297 ne211).other W303 ne211).other W309 ne211).other W315 ne211)
    obtain ⟨cl541, Ar541, qq541, Sz541, Nn541, Hs541, Gf541⟩ := id f540
    have hin542 : ¬ ((12 : Int32) < 0 ∨ cl541.slots.size ≤ ((12 : Int32)).toNatClampNeg) := inb_of Sz541 ⟨by decide, by decide⟩
    have hat543 : cl541.slots[((12 : Int32)).toNatClampNeg]? = some (.ref s_READ_PARAMETER_PAGE) := Has.at Hs541 hin542 rfl
    have f544 := ((((((((((((((((((((((((((((((((((((pf_F_s_READ_PARAMETER_PAGE_optionalBit.ext E1).other W28 (Or.inl ne14)).other W37 (Or.inl ne14)).other W46 (Or.inl ne14)).other W55 (Or.inl ne14)).other W64 (Or.inl ne14)).other W73 (Or.inl ne14)).other W82 (Or.inl ne14)).other W91 (Or.inl ne14)).other W100 (Or.inl ne14)).other W109 (Or.inl ne14)).other W118 (Or.inl ne14)).other W127 (Or.inl ne14)).other W136 (Or.inl ne14)).other W145 (Or.inl ne14)).other W154 (Or.inl ne14)).other W163 (Or.inl ne14)).other W172 (Or.inl ne14)).ext E176).other W219 (Or.inl ne202)).other W225 (Or.inl ne202)).other W231 (Or.inl ne202)).other W237 (Or.inl ne202)).other W243 (Or.inl ne202)).other W249 (Or.inl ne202)).other W255 (Or.inl ne202)).other W261 (Or.inl ne202)).other W267 (Or.inl ne202)).other W273 (Or.inl ne202)).other W279 (Or.inl ne202)).other W285 (Or.inl ne202)).other W291 (Or.inl ne202)).other W297 (Or.inl ne202)).other W303 (Or.inl ne202)).other W309 (Or.inl ne202)).other W315 (Or.inl ne202))
    have f546 := (Nat.le_trans (Nat.le_trans (Nat.le_trans (Nat.le_trans (Nat.le_trans (Nat.le_trans (Nat.le_trans (Nat.le_trans (Nat.le_trans (Nat.le_trans (Nat.le_trans (Nat.le_trans (Nat.le_trans (Nat.le_trans (Nat.le_trans (Nat.le_trans (Nat.le_trans (Nat.le_trans f213 E176.1) (Keep.of_wr W219).1) (Keep.of_wr W225).1) (Keep.of_wr W231).1) (Keep.of_wr W237).1) (Keep.of_wr W243).1) (Keep.of_wr W249).1) (Keep.of_wr W255).1) (Keep.of_wr W261).1) (Keep.of_wr W267).1) (Keep.of_wr W273).1) (Keep.of_wr W279).1) (Keep.of_wr W285).1) (Keep.of_wr W291).1) (Keep.of_wr W297).1) (Keep.of_wr W303).1) (Keep.of_wr W309).1) (Keep.of_wr W315).1)
    have f547 := ((((((((((((((((((f201.ext E176).wr W219).wr W225).wr W231).wr W237).wr W243).wr W249).wr W255).wr W261).wr W267).wr W273).wr W279).wr W285).wr W291).wr W297).wr W303).wr W309).wr W315)
    obtain ⟨cq545, kq545, q545a, q545b, q545c⟩ := isOf hZ e315 f547
    obtain ⟨_, _, ⟨T545, L545, k545, n545⟩, -, X545, ⟨Lc545, hQ545, l545, y545, z545⟩, st545⟩ := X315.virtualBack hx (y := MN1) (z := MN1) hown (mvT hZ wo40) (mvT hZ wo41) (notFace_of_selects (args := #[]) (mvT hZ wo43)) (mvT hZ wo43) (mvT hZ wo42) (by decide) (backOf (W := 0) (rm1 l Z a0 hw [] s_READ_PARAMETER_PAGE oc (-1 : Int32) h315 n0 f546 f544) hZ wo44 wo3 (by decide) (by decide)) q545a q545c (g := (mkF m 254 #[iv p0_0, .val (.long oc), .second, rv b1, rv b176, iv (12 : Int32), iv (-1 : Int32), iv (1 : Int32)] [(.long oc), (.ref s_READ_PARAMETER_PAGE)])) rfl (by rw [hml]; rfl) (Steps.refl _) (argsL := [(.long oc)]) (rest := []) (lenOf pd_0 rfl) rfl (by show 2 * 0 + _ ≤ _; exact Nat.le_of_eq rfl) (hb hby at_254) (fun _ _ => ⟨rfl, e315, (by decide : 2 + 0 ≤ _), (by decide : 34 + 0 ≤ _)⟩)
    dsimp only [Pt.U, Pt.locs, Pt.cells, Pt.slots] at X545 l545 y545 z545 st545 hQ545
    rw [l545, y545, z545] at X545
    obtain ⟨rfl, N545q, K545q⟩ := hQ545
    have N548 := Fr.app N318 N545q
    have q549 : (if (-1 : Int32) = (-1 : Int32) then (1 : Int32) else (if (lcmpW ((oc >>> ((-1 : Int32) &&& 0x3f).toInt64) &&& (1 : Int64)) (1 : Int64)) = (0 : Int32) then (1 : Int32) else (0 : Int32))) = (1 : Int32) := if_pos rfl
    obtain ⟨fs, hr, hrun, hended, hW, hsame⟩ := X545.leave (v := some (.int (1 : Int32))) (fun h => by rw [Bd.returns] at h; cases h)
    refine ⟨_, _, pre319 _ ?_, hrun, hended, _, _, rfl, ?_, ⟨_, rfl⟩, hW, hsame.mono (by decide) (by decide)⟩
    · show Steps p.tables e below (T315.setTop (mkF m 213 #[iv p0_0, .val (.long oc), .second, rv b1, rv b176, iv (12 : Int32), .unset, .unset] [])) _
      refine XS.aload X315.here hx rfl (hb hby at_213) rfl rfl ?_
      show Steps p.tables e below (T315.setTop (mkF m 215 #[iv p0_0, .val (.long oc), .second, rv b1, rv b176, iv (12 : Int32), .unset, .unset] [(.ref b176)])) _
      refine XS.iload X315.here hx rfl (hb hby at_215) rfl ?_
      show Steps p.tables e below (T315.setTop (mkF m 217 #[iv p0_0, .val (.long oc), .second, rv b1, rv b176, iv (12 : Int32), .unset, .unset] [(.int (12 : Int32)), (.ref b176)])) _
      refine X315.iaload hx (j := (12 : Int32)) (v := (.int (-1 : Int32))) (by rw [e315]; exact Ar537.1) (State.isArrayOf_alike hZ.alike Ar537.2.1) Ar537.2.2 hin538 hat539 (g := (mkF m 217 #[iv p0_0, .val (.long oc), .second, rv b1, rv b176, iv (12 : Int32), .unset, .unset] [(.int (12 : Int32)), (.ref b176)])) rfl rfl (hb hby at_217) _ ?_
      show Steps p.tables e below (T315.setTop (mkF m 218 #[iv p0_0, .val (.long oc), .second, rv b1, rv b176, iv (12 : Int32), .unset, .unset] [(.int (-1 : Int32))])) _
      refine XS.istore X315.here hx rfl (hb hby at_218) rfl (l' := #[iv p0_0, .val (.long oc), .second, rv b1, rv b176, iv (12 : Int32), iv (-1 : Int32), .unset]) rfl ?_
      show Steps p.tables e below (T315.setTop (mkF m 220 #[iv p0_0, .val (.long oc), .second, rv b1, rv b176, iv (12 : Int32), iv (-1 : Int32), .unset] [])) _
      refine XS.iload X315.here hx rfl (hb hby at_220) rfl ?_
      show Steps p.tables e below (T315.setTop (mkF m 222 #[iv p0_0, .val (.long oc), .second, rv b1, rv b176, iv (12 : Int32), iv (-1 : Int32), .unset] [(.int (-1 : Int32))])) _
      refine XS.ifNo X315.here hx rfl (hb hby at_222) rfl ((if0 _ _).trans (tlt (by decide : (-1 : Int32) < (0 : Int32))).2.1) ?_
      show Steps p.tables e below (T315.setTop (mkF m 225 #[iv p0_0, .val (.long oc), .second, rv b1, rv b176, iv (12 : Int32), iv (-1 : Int32), .unset] [])) _
      refine XS.iconst X315.here hx rfl (hb hby at_225) ?_
      show Steps p.tables e below (T315.setTop (mkF m 226 #[iv p0_0, .val (.long oc), .second, rv b1, rv b176, iv (12 : Int32), iv (-1 : Int32), .unset] [(.int (1 : Int32))])) _
      refine XS.istore X315.here hx rfl (hb hby at_226) rfl (l' := #[iv p0_0, .val (.long oc), .second, rv b1, rv b176, iv (12 : Int32), iv (-1 : Int32), iv (1 : Int32)]) rfl ?_
      show Steps p.tables e below (T315.setTop (mkF m 228 #[iv p0_0, .val (.long oc), .second, rv b1, rv b176, iv (12 : Int32), iv (-1 : Int32), iv (1 : Int32)] [])) _
      refine XS.goto X315.here hx rfl (pc0 := 228) (pc' := 249) rfl (hb hby at_228) (by decide) (by decide) ?_
      show Steps p.tables e below (T315.setTop (mkF m 249 #[iv p0_0, .val (.long oc), .second, rv b1, rv b176, iv (12 : Int32), iv (-1 : Int32), iv (1 : Int32)] [])) _
      refine XS.aloadN X315.here hx rfl (hb hby at_249) rfl rfl ?_
      show Steps p.tables e below (T315.setTop (mkF m 250 #[iv p0_0, .val (.long oc), .second, rv b1, rv b176, iv (12 : Int32), iv (-1 : Int32), iv (1 : Int32)] [(.ref b1)])) _
      refine XS.iload X315.here hx rfl (hb hby at_250) rfl ?_
      show Steps p.tables e below (T315.setTop (mkF m 252 #[iv p0_0, .val (.long oc), .second, rv b1, rv b176, iv (12 : Int32), iv (-1 : Int32), iv (1 : Int32)] [(.int (12 : Int32)), (.ref b1)])) _
      refine X315.aaload hx (j := (12 : Int32)) (v := (.ref s_READ_PARAMETER_PAGE)) (by rw [e315]; exact Ar541.1) (State.isArrayOf_alike hZ.alike Ar541.2.1) rfl Ar541.2.2 hin542 hat543 (g := (mkF m 252 #[iv p0_0, .val (.long oc), .second, rv b1, rv b176, iv (12 : Int32), iv (-1 : Int32), iv (1 : Int32)] [(.int (12 : Int32)), (.ref b1)])) rfl rfl (hb hby at_252) _ ?_
      show Steps p.tables e below (T315.setTop (mkF m 253 #[iv p0_0, .val (.long oc), .second, rv b1, rv b176, iv (12 : Int32), iv (-1 : Int32), iv (1 : Int32)] [(.ref s_READ_PARAMETER_PAGE)])) _
      refine XS.lloadN X315.here hx rfl (hb hby at_253) rfl ?_
      show Steps p.tables e below (T315.setTop (mkF m 254 #[iv p0_0, .val (.long oc), .second, rv b1, rv b176, iv (12 : Int32), iv (-1 : Int32), iv (1 : Int32)] [(.long oc), (.ref s_READ_PARAMETER_PAGE)])) _
      refine st545.trans ?_
      rw [q549]
      show Steps p.tables e below (T545.setTop (mkF m 257 #[iv p0_0, .val (.long oc), .second, rv b1, rv b176, iv (12 : Int32), iv (-1 : Int32), iv (1 : Int32)] [(.int (1 : Int32))])) _
      show Steps p.tables e below (T545.setTop (mkF m 257 #[iv p0_0, .val (.long oc), .second, rv b1, rv b176, iv (12 : Int32), iv (-1 : Int32), iv (1 : Int32)] [(.int (1 : Int32))])) _
      refine XS.iload X545.here hx rfl (hb hby at_257) rfl ?_
      show Steps p.tables e below (T545.setTop (mkF m 259 #[iv p0_0, .val (.long oc), .second, rv b1, rv b176, iv (12 : Int32), iv (-1 : Int32), iv (1 : Int32)] [(.int (1 : Int32)), (.int (1 : Int32))])) _
      refine XS.icmpNo X545.here hx rfl (hb hby at_259) rfl (teq (by decide : (1 : Int32) = (1 : Int32))).2 ?_
      show Steps p.tables e below (T545.setTop (mkF m 262 #[iv p0_0, .val (.long oc), .second, rv b1, rv b176, iv (12 : Int32), iv (-1 : Int32), iv (1 : Int32)] [])) _
      refine XS.iconst X545.here hx rfl (hb hby at_262) ?_
      show Steps p.tables e below (T545.setTop (mkF m 263 #[iv p0_0, .val (.long oc), .second, rv b1, rv b176, iv (12 : Int32), iv (-1 : Int32), iv (1 : Int32)] [(.int (1 : Int32))])) _
      refine XS.goto X545.here hx rfl (pc0 := 263) (pc' := 267) rfl (hb hby at_263) (by decide) (by decide) ?_
      show Steps p.tables e below (T545.setTop (mkF m 267 #[iv p0_0, .val (.long oc), .second, rv b1, rv b176, iv (12 : Int32), iv (-1 : Int32), iv (1 : Int32)] [(.int (1 : Int32))])) _
      exact retN X545 hx (t := .boolean) Bd.returns (by simp) (hb hby at_267) hr
    · show Q_rm0 Z _ _ _ _ _ _ _ _ _ _ _ _ _ _ _ _ _ _ _ h0 n0 _ T545.heap _
      rw [K545q]
      exact ⟨rfl, N548, (K316)⟩
  · skip
    obtain ⟨kk550, cl550, Ar550, qq550, Sz550, Nn550, Hs550, Gf550⟩ := id f317
    have hin551 : ¬ ((13 : Int32) < 0 ∨ cl550.slots.size ≤ ((13 : Int32)).toNatClampNeg) := inb_of Sz550 ⟨by decide, by decide⟩
    have hat552 : cl550.slots[((13 : Int32)).toNatClampNeg]? = some (.int (5 : Int32)) := Has.at Hs550 hin551 rfl
    have pre554 : ∀ t, Steps p.tables e below (T315.setTop (mkF m 239 #[iv p0_0, .val (.long oc), .second, rv b1, rv b176, iv (13 : Int32), iv (5 : Int32), .unset] [(.int (lcmpW (oc &&& (32 : Int64)) (0 : Int64)))])) t → Steps p.tables e below (s₁.setTop (entryFrame m #[(.int p0_0), (.long oc)] maxLocals)) t := by
      intro t_ k_
      refine pre319 _ ?_
      show Steps p.tables e below (T315.setTop (mkF m 213 #[iv p0_0, .val (.long oc), .second, rv b1, rv b176, iv (13 : Int32), .unset, .unset] [])) _
      refine XS.aload X315.here hx rfl (hb hby at_213) rfl rfl ?_
      show Steps p.tables e below (T315.setTop (mkF m 215 #[iv p0_0, .val (.long oc), .second, rv b1, rv b176, iv (13 : Int32), .unset, .unset] [(.ref b176)])) _
      refine XS.iload X315.here hx rfl (hb hby at_215) rfl ?_
      show Steps p.tables e below (T315.setTop (mkF m 217 #[iv p0_0, .val (.long oc), .second, rv b1, rv b176, iv (13 : Int32), .unset, .unset] [(.int (13 : Int32)), (.ref b176)])) _
      refine X315.iaload hx (j := (13 : Int32)) (v := (.int (5 : Int32))) (by rw [e315]; exact Ar550.1) (State.isArrayOf_alike hZ.alike Ar550.2.1) Ar550.2.2 hin551 hat552 (g := (mkF m 217 #[iv p0_0, .val (.long oc), .second, rv b1, rv b176, iv (13 : Int32), .unset, .unset] [(.int (13 : Int32)), (.ref b176)])) rfl rfl (hb hby at_217) _ ?_
      show Steps p.tables e below (T315.setTop (mkF m 218 #[iv p0_0, .val (.long oc), .second, rv b1, rv b176, iv (13 : Int32), .unset, .unset] [(.int (5 : Int32))])) _
      refine XS.istore X315.here hx rfl (hb hby at_218) rfl (l' := #[iv p0_0, .val (.long oc), .second, rv b1, rv b176, iv (13 : Int32), iv (5 : Int32), .unset]) rfl ?_
      show Steps p.tables e below (T315.setTop (mkF m 220 #[iv p0_0, .val (.long oc), .second, rv b1, rv b176, iv (13 : Int32), iv (5 : Int32), .unset] [])) _
      refine XS.iload X315.here hx rfl (hb hby at_220) rfl ?_
      show Steps p.tables e below (T315.setTop (mkF m 222 #[iv p0_0, .val (.long oc), .second, rv b1, rv b176, iv (13 : Int32), iv (5 : Int32), .unset] [(.int (5 : Int32))])) _
      refine XS.ifYes X315.here hx rfl (pc0 := 222) (pc' := 231) rfl (hb hby at_222) rfl ((if0 _ _).trans (flt (by decide : ¬ ((5 : Int32) < (0 : Int32)))).2.1) (by decide) (by decide) ?_
      show Steps p.tables e below (T315.setTop (mkF m 231 #[iv p0_0, .val (.long oc), .second, rv b1, rv b176, iv (13 : Int32), iv (5 : Int32), .unset] [])) _
      refine XS.lloadN X315.here hx rfl (hb hby at_231) rfl ?_
      show Steps p.tables e below (T315.setTop (mkF m 232 #[iv p0_0, .val (.long oc), .second, rv b1, rv b176, iv (13 : Int32), iv (5 : Int32), .unset] [(.long oc)])) _
      refine XS.lconst X315.here hx rfl (hb hby at_232) ?_
      show Steps p.tables e below (T315.setTop (mkF m 233 #[iv p0_0, .val (.long oc), .second, rv b1, rv b176, iv (13 : Int32), iv (5 : Int32), .unset] [(.long (1 : Int64)), (.long oc)])) _
      refine XS.iload X315.here hx rfl (hb hby at_233) rfl ?_
      show Steps p.tables e below (T315.setTop (mkF m 235 #[iv p0_0, .val (.long oc), .second, rv b1, rv b176, iv (13 : Int32), iv (5 : Int32), .unset] [(.int (5 : Int32)), (.long (1 : Int64)), (.long oc)])) _
      refine XS.lshl X315.here hx rfl (hb hby at_235) rfl ?_
      show Steps p.tables e below (T315.setTop (mkF m 236 #[iv p0_0, .val (.long oc), .second, rv b1, rv b176, iv (13 : Int32), iv (5 : Int32), .unset] [(.long (32 : Int64)), (.long oc)])) _
      refine XS.land X315.here hx rfl (hb hby at_236) rfl ?_
      show Steps p.tables e below (T315.setTop (mkF m 237 #[iv p0_0, .val (.long oc), .second, rv b1, rv b176, iv (13 : Int32), iv (5 : Int32), .unset] [(.long (oc &&& (32 : Int64)))])) _
      refine XS.lconst X315.here hx rfl (hb hby at_237) ?_
      show Steps p.tables e below (T315.setTop (mkF m 238 #[iv p0_0, .val (.long oc), .second, rv b1, rv b176, iv (13 : Int32), iv (5 : Int32), .unset] [(.long (0 : Int64)), (.long (oc &&& (32 : Int64)))])) _
      refine XS.lcmp X315.here hx rfl (hb hby at_238) rfl ?_
      exact k_
    by_cases hc239_553 : (lcmpW (oc &&& (32 : Int64)) (0 : Int64)) = (0 : Int32)
    · skip
      have f555 := ((((((((((((((((((f174.ext E176).other W219 ne211).other W225 ne211).other W231 ne211).other W237 ne211).other W243 ne211).other W249 ne211).other W255 ne211).other W261 ne211).other W267 ne211).other W273 ne211).other W279 ne211).other W285 ne211).other W291 ne211).other W297 ne211).other W303 ne211).other W309 ne211).other W315 ne211)
      obtain ⟨cl556, Ar556, qq556, Sz556, Nn556, Hs556, Gf556⟩ := id f555
      have hin557 : ¬ ((13 : Int32) < 0 ∨ cl556.slots.size ≤ ((13 : Int32)).toNatClampNeg) := inb_of Sz556 ⟨by decide, by decide⟩
      have hat558 : cl556.slots[((13 : Int32)).toNatClampNeg]? = some (.ref s_READ_UNIQUE_ID) := Has.at Hs556 hin557 rfl
      have f559 := ((((((((((((((((((((((((((((((((((((pf_F_s_READ_UNIQUE_ID_optionalBit.ext E1).other W28 (Or.inl ne15)).other W37 (Or.inl ne15)).other W46 (Or.inl ne15)).other W55 (Or.inl ne15)).other W64 (Or.inl ne15)).other W73 (Or.inl ne15)).other W82 (Or.inl ne15)).other W91 (Or.inl ne15)).other W100 (Or.inl ne15)).other W109 (Or.inl ne15)).other W118 (Or.inl ne15)).other W127 (Or.inl ne15)).other W136 (Or.inl ne15)).other W145 (Or.inl ne15)).other W154 (Or.inl ne15)).other W163 (Or.inl ne15)).other W172 (Or.inl ne15)).ext E176).other W219 (Or.inl ne204)).other W225 (Or.inl ne204)).other W231 (Or.inl ne204)).other W237 (Or.inl ne204)).other W243 (Or.inl ne204)).other W249 (Or.inl ne204)).other W255 (Or.inl ne204)).other W261 (Or.inl ne204)).other W267 (Or.inl ne204)).other W273 (Or.inl ne204)).other W279 (Or.inl ne204)).other W285 (Or.inl ne204)).other W291 (Or.inl ne204)).other W297 (Or.inl ne204)).other W303 (Or.inl ne204)).other W309 (Or.inl ne204)).other W315 (Or.inl ne204))
      have f561 := (Nat.le_trans (Nat.le_trans (Nat.le_trans (Nat.le_trans (Nat.le_trans (Nat.le_trans (Nat.le_trans (Nat.le_trans (Nat.le_trans (Nat.le_trans (Nat.le_trans (Nat.le_trans (Nat.le_trans (Nat.le_trans (Nat.le_trans (Nat.le_trans (Nat.le_trans (Nat.le_trans f213 E176.1) (Keep.of_wr W219).1) (Keep.of_wr W225).1) (Keep.of_wr W231).1) (Keep.of_wr W237).1) (Keep.of_wr W243).1) (Keep.of_wr W249).1) (Keep.of_wr W255).1) (Keep.of_wr W261).1) (Keep.of_wr W267).1) (Keep.of_wr W273).1) (Keep.of_wr W279).1) (Keep.of_wr W285).1) (Keep.of_wr W291).1) (Keep.of_wr W297).1) (Keep.of_wr W303).1) (Keep.of_wr W309).1) (Keep.of_wr W315).1)
      have f562 := ((((((((((((((((((f203.ext E176).wr W219).wr W225).wr W231).wr W237).wr W243).wr W249).wr W255).wr W261).wr W267).wr W273).wr W279).wr W285).wr W291).wr W297).wr W303).wr W309).wr W315)
      obtain ⟨cq560, kq560, q560a, q560b, q560c⟩ := isOf hZ e315 f562
      obtain ⟨_, _, ⟨T560, L560, k560, n560⟩, -, X560, ⟨Lc560, hQ560, l560, y560, z560⟩, st560⟩ := X315.virtualBack hx (y := MN1) (z := MN1) hown (mvT hZ wo40) (mvT hZ wo41) (notFace_of_selects (args := #[]) (mvT hZ wo43)) (mvT hZ wo43) (mvT hZ wo42) (by decide) (backOf (W := 0) (rm1 l Z a0 hw [] s_READ_UNIQUE_ID oc (5 : Int32) h315 n0 f561 f559) hZ wo44 wo3 (by decide) (by decide)) q560a q560c (g := (mkF m 254 #[iv p0_0, .val (.long oc), .second, rv b1, rv b176, iv (13 : Int32), iv (5 : Int32), iv (0 : Int32)] [(.long oc), (.ref s_READ_UNIQUE_ID)])) rfl (by rw [hml]; rfl) (Steps.refl _) (argsL := [(.long oc)]) (rest := []) (lenOf pd_0 rfl) rfl (by show 2 * 0 + _ ≤ _; exact Nat.le_of_eq rfl) (hb hby at_254) (fun _ _ => ⟨rfl, e315, (by decide : 2 + 0 ≤ _), (by decide : 34 + 0 ≤ _)⟩)
      dsimp only [Pt.U, Pt.locs, Pt.cells, Pt.slots] at X560 l560 y560 z560 st560 hQ560
      rw [l560, y560, z560] at X560
      obtain ⟨rfl, N560q, K560q⟩ := hQ560
      have N563 := Fr.app N318 N560q
      have q564 : (if (5 : Int32) = (-1 : Int32) then (1 : Int32) else (if (lcmpW ((oc >>> ((5 : Int32) &&& 0x3f).toInt64) &&& (1 : Int64)) (1 : Int64)) = (0 : Int32) then (1 : Int32) else (0 : Int32))) = (0 : Int32) := (if_neg (by decide)).trans (if_neg (fun q => (own_bit5 _).mp q hc239_553))
      obtain ⟨fs, hr, hrun, hended, hW, hsame⟩ := X560.leave (v := some (.int (1 : Int32))) (fun h => by rw [Bd.returns] at h; cases h)
      refine ⟨_, _, pre554 _ ?_, hrun, hended, _, _, rfl, ?_, ⟨_, rfl⟩, hW, hsame.mono (by decide) (by decide)⟩
      · show Steps p.tables e below (T315.setTop (mkF m 239 #[iv p0_0, .val (.long oc), .second, rv b1, rv b176, iv (13 : Int32), iv (5 : Int32), .unset] [(.int (lcmpW (oc &&& (32 : Int64)) (0 : Int64)))])) _
        refine XS.ifYes X315.here hx rfl (pc0 := 239) (pc' := 246) rfl (hb hby at_239) rfl ((if0 _ _).trans (teq hc239_553).1) (by decide) (by decide) ?_
        show Steps p.tables e below (T315.setTop (mkF m 246 #[iv p0_0, .val (.long oc), .second, rv b1, rv b176, iv (13 : Int32), iv (5 : Int32), .unset] [])) _
        refine XS.iconst X315.here hx rfl (hb hby at_246) ?_
        show Steps p.tables e below (T315.setTop (mkF m 247 #[iv p0_0, .val (.long oc), .second, rv b1, rv b176, iv (13 : Int32), iv (5 : Int32), .unset] [(.int (0 : Int32))])) _
        refine XS.istore X315.here hx rfl (hb hby at_247) rfl (l' := #[iv p0_0, .val (.long oc), .second, rv b1, rv b176, iv (13 : Int32), iv (5 : Int32), iv (0 : Int32)]) rfl ?_
        show Steps p.tables e below (T315.setTop (mkF m 249 #[iv p0_0, .val (.long oc), .second, rv b1, rv b176, iv (13 : Int32), iv (5 : Int32), iv (0 : Int32)] [])) _
        refine XS.aloadN X315.here hx rfl (hb hby at_249) rfl rfl ?_
        show Steps p.tables e below (T315.setTop (mkF m 250 #[iv p0_0, .val (.long oc), .second, rv b1, rv b176, iv (13 : Int32), iv (5 : Int32), iv (0 : Int32)] [(.ref b1)])) _
        refine XS.iload X315.here hx rfl (hb hby at_250) rfl ?_
        show Steps p.tables e below (T315.setTop (mkF m 252 #[iv p0_0, .val (.long oc), .second, rv b1, rv b176, iv (13 : Int32), iv (5 : Int32), iv (0 : Int32)] [(.int (13 : Int32)), (.ref b1)])) _
        refine X315.aaload hx (j := (13 : Int32)) (v := (.ref s_READ_UNIQUE_ID)) (by rw [e315]; exact Ar556.1) (State.isArrayOf_alike hZ.alike Ar556.2.1) rfl Ar556.2.2 hin557 hat558 (g := (mkF m 252 #[iv p0_0, .val (.long oc), .second, rv b1, rv b176, iv (13 : Int32), iv (5 : Int32), iv (0 : Int32)] [(.int (13 : Int32)), (.ref b1)])) rfl rfl (hb hby at_252) _ ?_
        show Steps p.tables e below (T315.setTop (mkF m 253 #[iv p0_0, .val (.long oc), .second, rv b1, rv b176, iv (13 : Int32), iv (5 : Int32), iv (0 : Int32)] [(.ref s_READ_UNIQUE_ID)])) _
        refine XS.lloadN X315.here hx rfl (hb hby at_253) rfl ?_
        show Steps p.tables e below (T315.setTop (mkF m 254 #[iv p0_0, .val (.long oc), .second, rv b1, rv b176, iv (13 : Int32), iv (5 : Int32), iv (0 : Int32)] [(.long oc), (.ref s_READ_UNIQUE_ID)])) _
        refine st560.trans ?_
        rw [q564]
        show Steps p.tables e below (T560.setTop (mkF m 257 #[iv p0_0, .val (.long oc), .second, rv b1, rv b176, iv (13 : Int32), iv (5 : Int32), iv (0 : Int32)] [(.int (0 : Int32))])) _
        show Steps p.tables e below (T560.setTop (mkF m 257 #[iv p0_0, .val (.long oc), .second, rv b1, rv b176, iv (13 : Int32), iv (5 : Int32), iv (0 : Int32)] [(.int (0 : Int32))])) _
        refine XS.iload X560.here hx rfl (hb hby at_257) rfl ?_
        show Steps p.tables e below (T560.setTop (mkF m 259 #[iv p0_0, .val (.long oc), .second, rv b1, rv b176, iv (13 : Int32), iv (5 : Int32), iv (0 : Int32)] [(.int (0 : Int32)), (.int (0 : Int32))])) _
        refine XS.icmpNo X560.here hx rfl (hb hby at_259) rfl (teq (by decide : (0 : Int32) = (0 : Int32))).2 ?_
        show Steps p.tables e below (T560.setTop (mkF m 262 #[iv p0_0, .val (.long oc), .second, rv b1, rv b176, iv (13 : Int32), iv (5 : Int32), iv (0 : Int32)] [])) _
        refine XS.iconst X560.here hx rfl (hb hby at_262) ?_
        show Steps p.tables e below (T560.setTop (mkF m 263 #[iv p0_0, .val (.long oc), .second, rv b1, rv b176, iv (13 : Int32), iv (5 : Int32), iv (0 : Int32)] [(.int (1 : Int32))])) _
        refine XS.goto X560.here hx rfl (pc0 := 263) (pc' := 267) rfl (hb hby at_263) (by decide) (by decide) ?_
        show Steps p.tables e below (T560.setTop (mkF m 267 #[iv p0_0, .val (.long oc), .second, rv b1, rv b176, iv (13 : Int32), iv (5 : Int32), iv (0 : Int32)] [(.int (1 : Int32))])) _
        exact retN X560 hx (t := .boolean) Bd.returns (by simp) (hb hby at_267) hr
      · show Q_rm0 Z _ _ _ _ _ _ _ _ _ _ _ _ _ _ _ _ _ _ _ h0 n0 _ T560.heap _
        rw [K560q]
        exact ⟨rfl, N563, (K316)⟩
    · skip
      have f565 := ((((((((((((((((((f174.ext E176).other W219 ne211).other W225 ne211).other W231 ne211).other W237 ne211).other W243 ne211).other W249 ne211).other W255 ne211).other W261 ne211).other W267 ne211).other W273 ne211).other W279 ne211).other W285 ne211).other W291 ne211).other W297 ne211).other W303 ne211).other W309 ne211).other W315 ne211)
      obtain ⟨cl566, Ar566, qq566, Sz566, Nn566, Hs566, Gf566⟩ := id f565
      have hin567 : ¬ ((13 : Int32) < 0 ∨ cl566.slots.size ≤ ((13 : Int32)).toNatClampNeg) := inb_of Sz566 ⟨by decide, by decide⟩
      have hat568 : cl566.slots[((13 : Int32)).toNatClampNeg]? = some (.ref s_READ_UNIQUE_ID) := Has.at Hs566 hin567 rfl
      have f569 := ((((((((((((((((((((((((((((((((((((pf_F_s_READ_UNIQUE_ID_optionalBit.ext E1).other W28 (Or.inl ne15)).other W37 (Or.inl ne15)).other W46 (Or.inl ne15)).other W55 (Or.inl ne15)).other W64 (Or.inl ne15)).other W73 (Or.inl ne15)).other W82 (Or.inl ne15)).other W91 (Or.inl ne15)).other W100 (Or.inl ne15)).other W109 (Or.inl ne15)).other W118 (Or.inl ne15)).other W127 (Or.inl ne15)).other W136 (Or.inl ne15)).other W145 (Or.inl ne15)).other W154 (Or.inl ne15)).other W163 (Or.inl ne15)).other W172 (Or.inl ne15)).ext E176).other W219 (Or.inl ne204)).other W225 (Or.inl ne204)).other W231 (Or.inl ne204)).other W237 (Or.inl ne204)).other W243 (Or.inl ne204)).other W249 (Or.inl ne204)).other W255 (Or.inl ne204)).other W261 (Or.inl ne204)).other W267 (Or.inl ne204)).other W273 (Or.inl ne204)).other W279 (Or.inl ne204)).other W285 (Or.inl ne204)).other W291 (Or.inl ne204)).other W297 (Or.inl ne204)).other W303 (Or.inl ne204)).other W309 (Or.inl ne204)).other W315 (Or.inl ne204))
      have f571 := (Nat.le_trans (Nat.le_trans (Nat.le_trans (Nat.le_trans (Nat.le_trans (Nat.le_trans (Nat.le_trans (Nat.le_trans (Nat.le_trans (Nat.le_trans (Nat.le_trans (Nat.le_trans (Nat.le_trans (Nat.le_trans (Nat.le_trans (Nat.le_trans (Nat.le_trans (Nat.le_trans f213 E176.1) (Keep.of_wr W219).1) (Keep.of_wr W225).1) (Keep.of_wr W231).1) (Keep.of_wr W237).1) (Keep.of_wr W243).1) (Keep.of_wr W249).1) (Keep.of_wr W255).1) (Keep.of_wr W261).1) (Keep.of_wr W267).1) (Keep.of_wr W273).1) (Keep.of_wr W279).1) (Keep.of_wr W285).1) (Keep.of_wr W291).1) (Keep.of_wr W297).1) (Keep.of_wr W303).1) (Keep.of_wr W309).1) (Keep.of_wr W315).1)
      have f572 := ((((((((((((((((((f203.ext E176).wr W219).wr W225).wr W231).wr W237).wr W243).wr W249).wr W255).wr W261).wr W267).wr W273).wr W279).wr W285).wr W291).wr W297).wr W303).wr W309).wr W315)
      obtain ⟨cq570, kq570, q570a, q570b, q570c⟩ := isOf hZ e315 f572
      obtain ⟨_, _, ⟨T570, L570, k570, n570⟩, -, X570, ⟨Lc570, hQ570, l570, y570, z570⟩, st570⟩ := X315.virtualBack hx (y := MN1) (z := MN1) hown (mvT hZ wo40) (mvT hZ wo41) (notFace_of_selects (args := #[]) (mvT hZ wo43)) (mvT hZ wo43) (mvT hZ wo42) (by decide) (backOf (W := 0) (rm1 l Z a0 hw [] s_READ_UNIQUE_ID oc (5 : Int32) h315 n0 f571 f569) hZ wo44 wo3 (by decide) (by decide)) q570a q570c (g := (mkF m 254 #[iv p0_0, .val (.long oc), .second, rv b1, rv b176, iv (13 : Int32), iv (5 : Int32), iv (1 : Int32)] [(.long oc), (.ref s_READ_UNIQUE_ID)])) rfl (by rw [hml]; rfl) (Steps.refl _) (argsL := [(.long oc)]) (rest := []) (lenOf pd_0 rfl) rfl (by show 2 * 0 + _ ≤ _; exact Nat.le_of_eq rfl) (hb hby at_254) (fun _ _ => ⟨rfl, e315, (by decide : 2 + 0 ≤ _), (by decide : 34 + 0 ≤ _)⟩)
      dsimp only [Pt.U, Pt.locs, Pt.cells, Pt.slots] at X570 l570 y570 z570 st570 hQ570
      rw [l570, y570, z570] at X570
      obtain ⟨rfl, N570q, K570q⟩ := hQ570
      have N573 := Fr.app N318 N570q
      have q574 : (if (5 : Int32) = (-1 : Int32) then (1 : Int32) else (if (lcmpW ((oc >>> ((5 : Int32) &&& 0x3f).toInt64) &&& (1 : Int64)) (1 : Int64)) = (0 : Int32) then (1 : Int32) else (0 : Int32))) = (1 : Int32) := (if_neg (by decide)).trans (if_pos ((own_bit5 _).mpr hc239_553))
      obtain ⟨fs, hr, hrun, hended, hW, hsame⟩ := X570.leave (v := some (.int (1 : Int32))) (fun h => by rw [Bd.returns] at h; cases h)
      refine ⟨_, _, pre554 _ ?_, hrun, hended, _, _, rfl, ?_, ⟨_, rfl⟩, hW, hsame.mono (by decide) (by decide)⟩
      · show Steps p.tables e below (T315.setTop (mkF m 239 #[iv p0_0, .val (.long oc), .second, rv b1, rv b176, iv (13 : Int32), iv (5 : Int32), .unset] [(.int (lcmpW (oc &&& (32 : Int64)) (0 : Int64)))])) _
        refine XS.ifNo X315.here hx rfl (hb hby at_239) rfl ((if0 _ _).trans (feq hc239_553).1) ?_
        show Steps p.tables e below (T315.setTop (mkF m 242 #[iv p0_0, .val (.long oc), .second, rv b1, rv b176, iv (13 : Int32), iv (5 : Int32), .unset] [])) _
        refine XS.iconst X315.here hx rfl (hb hby at_242) ?_
        show Steps p.tables e below (T315.setTop (mkF m 243 #[iv p0_0, .val (.long oc), .second, rv b1, rv b176, iv (13 : Int32), iv (5 : Int32), .unset] [(.int (1 : Int32))])) _
        refine XS.goto X315.here hx rfl (pc0 := 243) (pc' := 247) rfl (hb hby at_243) (by decide) (by decide) ?_
        show Steps p.tables e below (T315.setTop (mkF m 247 #[iv p0_0, .val (.long oc), .second, rv b1, rv b176, iv (13 : Int32), iv (5 : Int32), .unset] [(.int (1 : Int32))])) _
        refine XS.istore X315.here hx rfl (hb hby at_247) rfl (l' := #[iv p0_0, .val (.long oc), .second, rv b1, rv b176, iv (13 : Int32), iv (5 : Int32), iv (1 : Int32)]) rfl ?_
        show Steps p.tables e below (T315.setTop (mkF m 249 #[iv p0_0, .val (.long oc), .second, rv b1, rv b176, iv (13 : Int32), iv (5 : Int32), iv (1 : Int32)] [])) _
        refine XS.aloadN X315.here hx rfl (hb hby at_249) rfl rfl ?_
        show Steps p.tables e below (T315.setTop (mkF m 250 #[iv p0_0, .val (.long oc), .second, rv b1, rv b176, iv (13 : Int32), iv (5 : Int32), iv (1 : Int32)] [(.ref b1)])) _
        refine XS.iload X315.here hx rfl (hb hby at_250) rfl ?_
        show Steps p.tables e below (T315.setTop (mkF m 252 #[iv p0_0, .val (.long oc), .second, rv b1, rv b176, iv (13 : Int32), iv (5 : Int32), iv (1 : Int32)] [(.int (13 : Int32)), (.ref b1)])) _
        refine X315.aaload hx (j := (13 : Int32)) (v := (.ref s_READ_UNIQUE_ID)) (by rw [e315]; exact Ar566.1) (State.isArrayOf_alike hZ.alike Ar566.2.1) rfl Ar566.2.2 hin567 hat568 (g := (mkF m 252 #[iv p0_0, .val (.long oc), .second, rv b1, rv b176, iv (13 : Int32), iv (5 : Int32), iv (1 : Int32)] [(.int (13 : Int32)), (.ref b1)])) rfl rfl (hb hby at_252) _ ?_
        show Steps p.tables e below (T315.setTop (mkF m 253 #[iv p0_0, .val (.long oc), .second, rv b1, rv b176, iv (13 : Int32), iv (5 : Int32), iv (1 : Int32)] [(.ref s_READ_UNIQUE_ID)])) _
        refine XS.lloadN X315.here hx rfl (hb hby at_253) rfl ?_
        show Steps p.tables e below (T315.setTop (mkF m 254 #[iv p0_0, .val (.long oc), .second, rv b1, rv b176, iv (13 : Int32), iv (5 : Int32), iv (1 : Int32)] [(.long oc), (.ref s_READ_UNIQUE_ID)])) _
        refine st570.trans ?_
        rw [q574]
        show Steps p.tables e below (T570.setTop (mkF m 257 #[iv p0_0, .val (.long oc), .second, rv b1, rv b176, iv (13 : Int32), iv (5 : Int32), iv (1 : Int32)] [(.int (1 : Int32))])) _
        show Steps p.tables e below (T570.setTop (mkF m 257 #[iv p0_0, .val (.long oc), .second, rv b1, rv b176, iv (13 : Int32), iv (5 : Int32), iv (1 : Int32)] [(.int (1 : Int32))])) _
        refine XS.iload X570.here hx rfl (hb hby at_257) rfl ?_
        show Steps p.tables e below (T570.setTop (mkF m 259 #[iv p0_0, .val (.long oc), .second, rv b1, rv b176, iv (13 : Int32), iv (5 : Int32), iv (1 : Int32)] [(.int (1 : Int32)), (.int (1 : Int32))])) _
        refine XS.icmpNo X570.here hx rfl (hb hby at_259) rfl (teq (by decide : (1 : Int32) = (1 : Int32))).2 ?_
        show Steps p.tables e below (T570.setTop (mkF m 262 #[iv p0_0, .val (.long oc), .second, rv b1, rv b176, iv (13 : Int32), iv (5 : Int32), iv (1 : Int32)] [])) _
        refine XS.iconst X570.here hx rfl (hb hby at_262) ?_
        show Steps p.tables e below (T570.setTop (mkF m 263 #[iv p0_0, .val (.long oc), .second, rv b1, rv b176, iv (13 : Int32), iv (5 : Int32), iv (1 : Int32)] [(.int (1 : Int32))])) _
        refine XS.goto X570.here hx rfl (pc0 := 263) (pc' := 267) rfl (hb hby at_263) (by decide) (by decide) ?_
        show Steps p.tables e below (T570.setTop (mkF m 267 #[iv p0_0, .val (.long oc), .second, rv b1, rv b176, iv (13 : Int32), iv (5 : Int32), iv (1 : Int32)] [(.int (1 : Int32))])) _
        exact retN X570 hx (t := .boolean) Bd.returns (by simp) (hb hby at_267) hr
      · show Q_rm0 Z _ _ _ _ _ _ _ _ _ _ _ _ _ _ _ _ _ _ _ h0 n0 _ T570.heap _
        rw [K570q]
        exact ⟨rfl, N573, (K316)⟩
  · skip
    obtain ⟨kk575, cl575, Ar575, qq575, Sz575, Nn575, Hs575, Gf575⟩ := id f317
    have hin576 : ¬ ((14 : Int32) < 0 ∨ cl575.slots.size ≤ ((14 : Int32)).toNatClampNeg) := inb_of Sz575 ⟨by decide, by decide⟩
    have hat577 : cl575.slots[((14 : Int32)).toNatClampNeg]? = some (.int (2 : Int32)) := Has.at Hs575 hin576 rfl
    have pre579 : ∀ t, Steps p.tables e below (T315.setTop (mkF m 239 #[iv p0_0, .val (.long oc), .second, rv b1, rv b176, iv (14 : Int32), iv (2 : Int32), .unset] [(.int (lcmpW (oc &&& (4 : Int64)) (0 : Int64)))])) t → Steps p.tables e below (s₁.setTop (entryFrame m #[(.int p0_0), (.long oc)] maxLocals)) t := by
      intro t_ k_
      refine pre319 _ ?_
      show Steps p.tables e below (T315.setTop (mkF m 213 #[iv p0_0, .val (.long oc), .second, rv b1, rv b176, iv (14 : Int32), .unset, .unset] [])) _
      refine XS.aload X315.here hx rfl (hb hby at_213) rfl rfl ?_
      show Steps p.tables e below (T315.setTop (mkF m 215 #[iv p0_0, .val (.long oc), .second, rv b1, rv b176, iv (14 : Int32), .unset, .unset] [(.ref b176)])) _
      refine XS.iload X315.here hx rfl (hb hby at_215) rfl ?_
      show Steps p.tables e below (T315.setTop (mkF m 217 #[iv p0_0, .val (.long oc), .second, rv b1, rv b176, iv (14 : Int32), .unset, .unset] [(.int (14 : Int32)), (.ref b176)])) _
      refine X315.iaload hx (j := (14 : Int32)) (v := (.int (2 : Int32))) (by rw [e315]; exact Ar575.1) (State.isArrayOf_alike hZ.alike Ar575.2.1) Ar575.2.2 hin576 hat577 (g := (mkF m 217 #[iv p0_0, .val (.long oc), .second, rv b1, rv b176, iv (14 : Int32), .unset, .unset] [(.int (14 : Int32)), (.ref b176)])) rfl rfl (hb hby at_217) _ ?_
      show Steps p.tables e below (T315.setTop (mkF m 218 #[iv p0_0, .val (.long oc), .second, rv b1, rv b176, iv (14 : Int32), .unset, .unset] [(.int (2 : Int32))])) _
      refine XS.istore X315.here hx rfl (hb hby at_218) rfl (l' := #[iv p0_0, .val (.long oc), .second, rv b1, rv b176, iv (14 : Int32), iv (2 : Int32), .unset]) rfl ?_
      show Steps p.tables e below (T315.setTop (mkF m 220 #[iv p0_0, .val (.long oc), .second, rv b1, rv b176, iv (14 : Int32), iv (2 : Int32), .unset] [])) _
      refine XS.iload X315.here hx rfl (hb hby at_220) rfl ?_
      show Steps p.tables e below (T315.setTop (mkF m 222 #[iv p0_0, .val (.long oc), .second, rv b1, rv b176, iv (14 : Int32), iv (2 : Int32), .unset] [(.int (2 : Int32))])) _
      refine XS.ifYes X315.here hx rfl (pc0 := 222) (pc' := 231) rfl (hb hby at_222) rfl ((if0 _ _).trans (flt (by decide : ¬ ((2 : Int32) < (0 : Int32)))).2.1) (by decide) (by decide) ?_
      show Steps p.tables e below (T315.setTop (mkF m 231 #[iv p0_0, .val (.long oc), .second, rv b1, rv b176, iv (14 : Int32), iv (2 : Int32), .unset] [])) _
      refine XS.lloadN X315.here hx rfl (hb hby at_231) rfl ?_
      show Steps p.tables e below (T315.setTop (mkF m 232 #[iv p0_0, .val (.long oc), .second, rv b1, rv b176, iv (14 : Int32), iv (2 : Int32), .unset] [(.long oc)])) _
      refine XS.lconst X315.here hx rfl (hb hby at_232) ?_
      show Steps p.tables e below (T315.setTop (mkF m 233 #[iv p0_0, .val (.long oc), .second, rv b1, rv b176, iv (14 : Int32), iv (2 : Int32), .unset] [(.long (1 : Int64)), (.long oc)])) _
      refine XS.iload X315.here hx rfl (hb hby at_233) rfl ?_
      show Steps p.tables e below (T315.setTop (mkF m 235 #[iv p0_0, .val (.long oc), .second, rv b1, rv b176, iv (14 : Int32), iv (2 : Int32), .unset] [(.int (2 : Int32)), (.long (1 : Int64)), (.long oc)])) _
      refine XS.lshl X315.here hx rfl (hb hby at_235) rfl ?_
      show Steps p.tables e below (T315.setTop (mkF m 236 #[iv p0_0, .val (.long oc), .second, rv b1, rv b176, iv (14 : Int32), iv (2 : Int32), .unset] [(.long (4 : Int64)), (.long oc)])) _
      refine XS.land X315.here hx rfl (hb hby at_236) rfl ?_
      show Steps p.tables e below (T315.setTop (mkF m 237 #[iv p0_0, .val (.long oc), .second, rv b1, rv b176, iv (14 : Int32), iv (2 : Int32), .unset] [(.long (oc &&& (4 : Int64)))])) _
      refine XS.lconst X315.here hx rfl (hb hby at_237) ?_
      show Steps p.tables e below (T315.setTop (mkF m 238 #[iv p0_0, .val (.long oc), .second, rv b1, rv b176, iv (14 : Int32), iv (2 : Int32), .unset] [(.long (0 : Int64)), (.long (oc &&& (4 : Int64)))])) _
      refine XS.lcmp X315.here hx rfl (hb hby at_238) rfl ?_
      exact k_
    by_cases hc239_578 : (lcmpW (oc &&& (4 : Int64)) (0 : Int64)) = (0 : Int32)
    · skip
      have f580 := ((((((((((((((((((f174.ext E176).other W219 ne211).other W225 ne211).other W231 ne211).other W237 ne211).other W243 ne211).other W249 ne211).other W255 ne211).other W261 ne211).other W267 ne211).other W273 ne211).other W279 ne211).other W285 ne211).other W291 ne211).other W297 ne211).other W303 ne211).other W309 ne211).other W315 ne211)
      obtain ⟨cl581, Ar581, qq581, Sz581, Nn581, Hs581, Gf581⟩ := id f580
      have hin582 : ¬ ((14 : Int32) < 0 ∨ cl581.slots.size ≤ ((14 : Int32)).toNatClampNeg) := inb_of Sz581 ⟨by decide, by decide⟩
      have hat583 : cl581.slots[((14 : Int32)).toNatClampNeg]? = some (.ref s_GET_FEATURES) := Has.at Hs581 hin582 rfl
      have f584 := ((((((((((((((((((((((((((((((((((((pf_F_s_GET_FEATURES_optionalBit.ext E1).other W28 (Or.inl ne16)).other W37 (Or.inl ne16)).other W46 (Or.inl ne16)).other W55 (Or.inl ne16)).other W64 (Or.inl ne16)).other W73 (Or.inl ne16)).other W82 (Or.inl ne16)).other W91 (Or.inl ne16)).other W100 (Or.inl ne16)).other W109 (Or.inl ne16)).other W118 (Or.inl ne16)).other W127 (Or.inl ne16)).other W136 (Or.inl ne16)).other W145 (Or.inl ne16)).other W154 (Or.inl ne16)).other W163 (Or.inl ne16)).other W172 (Or.inl ne16)).ext E176).other W219 (Or.inl ne206)).other W225 (Or.inl ne206)).other W231 (Or.inl ne206)).other W237 (Or.inl ne206)).other W243 (Or.inl ne206)).other W249 (Or.inl ne206)).other W255 (Or.inl ne206)).other W261 (Or.inl ne206)).other W267 (Or.inl ne206)).other W273 (Or.inl ne206)).other W279 (Or.inl ne206)).other W285 (Or.inl ne206)).other W291 (Or.inl ne206)).other W297 (Or.inl ne206)).other W303 (Or.inl ne206)).other W309 (Or.inl ne206)).other W315 (Or.inl ne206))
      have f586 := (Nat.le_trans (Nat.le_trans (Nat.le_trans (Nat.le_trans (Nat.le_trans (Nat.le_trans (Nat.le_trans (Nat.le_trans (Nat.le_trans (Nat.le_trans (Nat.le_trans (Nat.le_trans (Nat.le_trans (Nat.le_trans (Nat.le_trans (Nat.le_trans (Nat.le_trans (Nat.le_trans f213 E176.1) (Keep.of_wr W219).1) (Keep.of_wr W225).1) (Keep.of_wr W231).1) (Keep.of_wr W237).1) (Keep.of_wr W243).1) (Keep.of_wr W249).1) (Keep.of_wr W255).1) (Keep.of_wr W261).1) (Keep.of_wr W267).1) (Keep.of_wr W273).1) (Keep.of_wr W279).1) (Keep.of_wr W285).1) (Keep.of_wr W291).1) (Keep.of_wr W297).1) (Keep.of_wr W303).1) (Keep.of_wr W309).1) (Keep.of_wr W315).1)
      have f587 := ((((((((((((((((((f205.ext E176).wr W219).wr W225).wr W231).wr W237).wr W243).wr W249).wr W255).wr W261).wr W267).wr W273).wr W279).wr W285).wr W291).wr W297).wr W303).wr W309).wr W315)
      obtain ⟨cq585, kq585, q585a, q585b, q585c⟩ := isOf hZ e315 f587
      obtain ⟨_, _, ⟨T585, L585, k585, n585⟩, -, X585, ⟨Lc585, hQ585, l585, y585, z585⟩, st585⟩ := X315.virtualBack hx (y := MN1) (z := MN1) hown (mvT hZ wo40) (mvT hZ wo41) (notFace_of_selects (args := #[]) (mvT hZ wo43)) (mvT hZ wo43) (mvT hZ wo42) (by decide) (backOf (W := 0) (rm1 l Z a0 hw [] s_GET_FEATURES oc (2 : Int32) h315 n0 f586 f584) hZ wo44 wo3 (by decide) (by decide)) q585a q585c (g := (mkF m 254 #[iv p0_0, .val (.long oc), .second, rv b1, rv b176, iv (14 : Int32), iv (2 : Int32), iv (0 : Int32)] [(.long oc), (.ref s_GET_FEATURES)])) rfl (by rw [hml]; rfl) (Steps.refl _) (argsL := [(.long oc)]) (rest := []) (lenOf pd_0 rfl) rfl (by show 2 * 0 + _ ≤ _; exact Nat.le_of_eq rfl) (hb hby at_254) (fun _ _ => ⟨rfl, e315, (by decide : 2 + 0 ≤ _), (by decide : 34 + 0 ≤ _)⟩)
      dsimp only [Pt.U, Pt.locs, Pt.cells, Pt.slots] at X585 l585 y585 z585 st585 hQ585
      rw [l585, y585, z585] at X585
      obtain ⟨rfl, N585q, K585q⟩ := hQ585
      have N588 := Fr.app N318 N585q
      have q589 : (if (2 : Int32) = (-1 : Int32) then (1 : Int32) else (if (lcmpW ((oc >>> ((2 : Int32) &&& 0x3f).toInt64) &&& (1 : Int64)) (1 : Int64)) = (0 : Int32) then (1 : Int32) else (0 : Int32))) = (0 : Int32) := (if_neg (by decide)).trans (if_neg (fun q => (own_bit2 _).mp q hc239_578))
      obtain ⟨fs, hr, hrun, hended, hW, hsame⟩ := X585.leave (v := some (.int (1 : Int32))) (fun h => by rw [Bd.returns] at h; cases h)
      refine ⟨_, _, pre579 _ ?_, hrun, hended, _, _, rfl, ?_, ⟨_, rfl⟩, hW, hsame.mono (by decide) (by decide)⟩
      · show Steps p.tables e below (T315.setTop (mkF m 239 #[iv p0_0, .val (.long oc), .second, rv b1, rv b176, iv (14 : Int32), iv (2 : Int32), .unset] [(.int (lcmpW (oc &&& (4 : Int64)) (0 : Int64)))])) _
        refine XS.ifYes X315.here hx rfl (pc0 := 239) (pc' := 246) rfl (hb hby at_239) rfl ((if0 _ _).trans (teq hc239_578).1) (by decide) (by decide) ?_
        show Steps p.tables e below (T315.setTop (mkF m 246 #[iv p0_0, .val (.long oc), .second, rv b1, rv b176, iv (14 : Int32), iv (2 : Int32), .unset] [])) _
        refine XS.iconst X315.here hx rfl (hb hby at_246) ?_
        show Steps p.tables e below (T315.setTop (mkF m 247 #[iv p0_0, .val (.long oc), .second, rv b1, rv b176, iv (14 : Int32), iv (2 : Int32), .unset] [(.int (0 : Int32))])) _
        refine XS.istore X315.here hx rfl (hb hby at_247) rfl (l' := #[iv p0_0, .val (.long oc), .second, rv b1, rv b176, iv (14 : Int32), iv (2 : Int32), iv (0 : Int32)]) rfl ?_
        show Steps p.tables e below (T315.setTop (mkF m 249 #[iv p0_0, .val (.long oc), .second, rv b1, rv b176, iv (14 : Int32), iv (2 : Int32), iv (0 : Int32)] [])) _
        refine XS.aloadN X315.here hx rfl (hb hby at_249) rfl rfl ?_
        show Steps p.tables e below (T315.setTop (mkF m 250 #[iv p0_0, .val (.long oc), .second, rv b1, rv b176, iv (14 : Int32), iv (2 : Int32), iv (0 : Int32)] [(.ref b1)])) _
        refine XS.iload X315.here hx rfl (hb hby at_250) rfl ?_
        show Steps p.tables e below (T315.setTop (mkF m 252 #[iv p0_0, .val (.long oc), .second, rv b1, rv b176, iv (14 : Int32), iv (2 : Int32), iv (0 : Int32)] [(.int (14 : Int32)), (.ref b1)])) _
        refine X315.aaload hx (j := (14 : Int32)) (v := (.ref s_GET_FEATURES)) (by rw [e315]; exact Ar581.1) (State.isArrayOf_alike hZ.alike Ar581.2.1) rfl Ar581.2.2 hin582 hat583 (g := (mkF m 252 #[iv p0_0, .val (.long oc), .second, rv b1, rv b176, iv (14 : Int32), iv (2 : Int32), iv (0 : Int32)] [(.int (14 : Int32)), (.ref b1)])) rfl rfl (hb hby at_252) _ ?_
        show Steps p.tables e below (T315.setTop (mkF m 253 #[iv p0_0, .val (.long oc), .second, rv b1, rv b176, iv (14 : Int32), iv (2 : Int32), iv (0 : Int32)] [(.ref s_GET_FEATURES)])) _
        refine XS.lloadN X315.here hx rfl (hb hby at_253) rfl ?_
        show Steps p.tables e below (T315.setTop (mkF m 254 #[iv p0_0, .val (.long oc), .second, rv b1, rv b176, iv (14 : Int32), iv (2 : Int32), iv (0 : Int32)] [(.long oc), (.ref s_GET_FEATURES)])) _
        refine st585.trans ?_
        rw [q589]
        show Steps p.tables e below (T585.setTop (mkF m 257 #[iv p0_0, .val (.long oc), .second, rv b1, rv b176, iv (14 : Int32), iv (2 : Int32), iv (0 : Int32)] [(.int (0 : Int32))])) _
        show Steps p.tables e below (T585.setTop (mkF m 257 #[iv p0_0, .val (.long oc), .second, rv b1, rv b176, iv (14 : Int32), iv (2 : Int32), iv (0 : Int32)] [(.int (0 : Int32))])) _
        refine XS.iload X585.here hx rfl (hb hby at_257) rfl ?_
        show Steps p.tables e below (T585.setTop (mkF m 259 #[iv p0_0, .val (.long oc), .second, rv b1, rv b176, iv (14 : Int32), iv (2 : Int32), iv (0 : Int32)] [(.int (0 : Int32)), (.int (0 : Int32))])) _
        refine XS.icmpNo X585.here hx rfl (hb hby at_259) rfl (teq (by decide : (0 : Int32) = (0 : Int32))).2 ?_
        show Steps p.tables e below (T585.setTop (mkF m 262 #[iv p0_0, .val (.long oc), .second, rv b1, rv b176, iv (14 : Int32), iv (2 : Int32), iv (0 : Int32)] [])) _
        refine XS.iconst X585.here hx rfl (hb hby at_262) ?_
        show Steps p.tables e below (T585.setTop (mkF m 263 #[iv p0_0, .val (.long oc), .second, rv b1, rv b176, iv (14 : Int32), iv (2 : Int32), iv (0 : Int32)] [(.int (1 : Int32))])) _
        refine XS.goto X585.here hx rfl (pc0 := 263) (pc' := 267) rfl (hb hby at_263) (by decide) (by decide) ?_
        show Steps p.tables e below (T585.setTop (mkF m 267 #[iv p0_0, .val (.long oc), .second, rv b1, rv b176, iv (14 : Int32), iv (2 : Int32), iv (0 : Int32)] [(.int (1 : Int32))])) _
        exact retN X585 hx (t := .boolean) Bd.returns (by simp) (hb hby at_267) hr
      · show Q_rm0 Z _ _ _ _ _ _ _ _ _ _ _ _ _ _ _ _ _ _ _ h0 n0 _ T585.heap _
        rw [K585q]
        exact ⟨rfl, N588, (K316)⟩
    · skip
      have f590 := ((((((((((((((((((f174.ext E176).other W219 ne211).other W225 ne211).other W231 ne211).other W237 ne211).other W243 ne211).other W249 ne211).other W255 ne211).other W261 ne211).other W267 ne211).other W273 ne211).other W279 ne211).other W285 ne211).other W291 ne211).other W297 ne211).other W303 ne211).other W309 ne211).other W315 ne211)
      obtain ⟨cl591, Ar591, qq591, Sz591, Nn591, Hs591, Gf591⟩ := id f590
      have hin592 : ¬ ((14 : Int32) < 0 ∨ cl591.slots.size ≤ ((14 : Int32)).toNatClampNeg) := inb_of Sz591 ⟨by decide, by decide⟩
      have hat593 : cl591.slots[((14 : Int32)).toNatClampNeg]? = some (.ref s_GET_FEATURES) := Has.at Hs591 hin592 rfl
      have f594 := ((((((((((((((((((((((((((((((((((((pf_F_s_GET_FEATURES_optionalBit.ext E1).other W28 (Or.inl ne16)).other W37 (Or.inl ne16)).other W46 (Or.inl ne16)).other W55 (Or.inl ne16)).other W64 (Or.inl ne16)).other W73 (Or.inl ne16)).other W82 (Or.inl ne16)).other W91 (Or.inl ne16)).other W100 (Or.inl ne16)).other W109 (Or.inl ne16)).other W118 (Or.inl ne16)).other W127 (Or.inl ne16)).other W136 (Or.inl ne16)).other W145 (Or.inl ne16)).other W154 (Or.inl ne16)).other W163 (Or.inl ne16)).other W172 (Or.inl ne16)).ext E176).other W219 (Or.inl ne206)).other W225 (Or.inl ne206)).other W231 (Or.inl ne206)).other W237 (Or.inl ne206)).other W243 (Or.inl ne206)).other W249 (Or.inl ne206)).other W255 (Or.inl ne206)).other W261 (Or.inl ne206)).other W267 (Or.inl ne206)).other W273 (Or.inl ne206)).other W279 (Or.inl ne206)).other W285 (Or.inl ne206)).other W291 (Or.inl ne206)).other W297 (Or.inl ne206)).other W303 (Or.inl ne206)).other W309 (Or.inl ne206)).other W315 (Or.inl ne206))
      have f596 := (Nat.le_trans (Nat.le_trans (Nat.le_trans (Nat.le_trans (Nat.le_trans (Nat.le_trans (Nat.le_trans (Nat.le_trans (Nat.le_trans (Nat.le_trans (Nat.le_trans (Nat.le_trans (Nat.le_trans (Nat.le_trans (Nat.le_trans (Nat.le_trans (Nat.le_trans (Nat.le_trans f213 E176.1) (Keep.of_wr W219).1) (Keep.of_wr W225).1) (Keep.of_wr W231).1) (Keep.of_wr W237).1) (Keep.of_wr W243).1) (Keep.of_wr W249).1) (Keep.of_wr W255).1) (Keep.of_wr W261).1) (Keep.of_wr W267).1) (Keep.of_wr W273).1) (Keep.of_wr W279).1) (Keep.of_wr W285).1) (Keep.of_wr W291).1) (Keep.of_wr W297).1) (Keep.of_wr W303).1) (Keep.of_wr W309).1) (Keep.of_wr W315).1)
      have f597 := ((((((((((((((((((f205.ext E176).wr W219).wr W225).wr W231).wr W237).wr W243).wr W249).wr W255).wr W261).wr W267).wr W273).wr W279).wr W285).wr W291).wr W297).wr W303).wr W309).wr W315)
      obtain ⟨cq595, kq595, q595a, q595b, q595c⟩ := isOf hZ e315 f597
      obtain ⟨_, _, ⟨T595, L595, k595, n595⟩, -, X595, ⟨Lc595, hQ595, l595, y595, z595⟩, st595⟩ := X315.virtualBack hx (y := MN1) (z := MN1) hown (mvT hZ wo40) (mvT hZ wo41) (notFace_of_selects (args := #[]) (mvT hZ wo43)) (mvT hZ wo43) (mvT hZ wo42) (by decide) (backOf (W := 0) (rm1 l Z a0 hw [] s_GET_FEATURES oc (2 : Int32) h315 n0 f596 f594) hZ wo44 wo3 (by decide) (by decide)) q595a q595c (g := (mkF m 254 #[iv p0_0, .val (.long oc), .second, rv b1, rv b176, iv (14 : Int32), iv (2 : Int32), iv (1 : Int32)] [(.long oc), (.ref s_GET_FEATURES)])) rfl (by rw [hml]; rfl) (Steps.refl _) (argsL := [(.long oc)]) (rest := []) (lenOf pd_0 rfl) rfl (by show 2 * 0 + _ ≤ _; exact Nat.le_of_eq rfl) (hb hby at_254) (fun _ _ => ⟨rfl, e315, (by decide : 2 + 0 ≤ _), (by decide : 34 + 0 ≤ _)⟩)
      dsimp only [Pt.U, Pt.locs, Pt.cells, Pt.slots] at X595 l595 y595 z595 st595 hQ595
      rw [l595, y595, z595] at X595
      obtain ⟨rfl, N595q, K595q⟩ := hQ595
      have N598 := Fr.app N318 N595q
      have q599 : (if (2 : Int32) = (-1 : Int32) then (1 : Int32) else (if (lcmpW ((oc >>> ((2 : Int32) &&& 0x3f).toInt64) &&& (1 : Int64)) (1 : Int64)) = (0 : Int32) then (1 : Int32) else (0 : Int32))) = (1 : Int32) := (if_neg (by decide)).trans (if_pos ((own_bit2 _).mpr hc239_578))
      obtain ⟨fs, hr, hrun, hended, hW, hsame⟩ := X595.leave (v := some (.int (1 : Int32))) (fun h => by rw [Bd.returns] at h; cases h)
      refine ⟨_, _, pre579 _ ?_, hrun, hended, _, _, rfl, ?_, ⟨_, rfl⟩, hW, hsame.mono (by decide) (by decide)⟩
      · show Steps p.tables e below (T315.setTop (mkF m 239 #[iv p0_0, .val (.long oc), .second, rv b1, rv b176, iv (14 : Int32), iv (2 : Int32), .unset] [(.int (lcmpW (oc &&& (4 : Int64)) (0 : Int64)))])) _
        refine XS.ifNo X315.here hx rfl (hb hby at_239) rfl ((if0 _ _).trans (feq hc239_578).1) ?_
        show Steps p.tables e below (T315.setTop (mkF m 242 #[iv p0_0, .val (.long oc), .second, rv b1, rv b176, iv (14 : Int32), iv (2 : Int32), .unset] [])) _
        refine XS.iconst X315.here hx rfl (hb hby at_242) ?_
        show Steps p.tables e below (T315.setTop (mkF m 243 #[iv p0_0, .val (.long oc), .second, rv b1, rv b176, iv (14 : Int32), iv (2 : Int32), .unset] [(.int (1 : Int32))])) _
        refine XS.goto X315.here hx rfl (pc0 := 243) (pc' := 247) rfl (hb hby at_243) (by decide) (by decide) ?_
        show Steps p.tables e below (T315.setTop (mkF m 247 #[iv p0_0, .val (.long oc), .second, rv b1, rv b176, iv (14 : Int32), iv (2 : Int32), .unset] [(.int (1 : Int32))])) _
        refine XS.istore X315.here hx rfl (hb hby at_247) rfl (l' := #[iv p0_0, .val (.long oc), .second, rv b1, rv b176, iv (14 : Int32), iv (2 : Int32), iv (1 : Int32)]) rfl ?_
        show Steps p.tables e below (T315.setTop (mkF m 249 #[iv p0_0, .val (.long oc), .second, rv b1, rv b176, iv (14 : Int32), iv (2 : Int32), iv (1 : Int32)] [])) _
        refine XS.aloadN X315.here hx rfl (hb hby at_249) rfl rfl ?_
        show Steps p.tables e below (T315.setTop (mkF m 250 #[iv p0_0, .val (.long oc), .second, rv b1, rv b176, iv (14 : Int32), iv (2 : Int32), iv (1 : Int32)] [(.ref b1)])) _
        refine XS.iload X315.here hx rfl (hb hby at_250) rfl ?_
        show Steps p.tables e below (T315.setTop (mkF m 252 #[iv p0_0, .val (.long oc), .second, rv b1, rv b176, iv (14 : Int32), iv (2 : Int32), iv (1 : Int32)] [(.int (14 : Int32)), (.ref b1)])) _
        refine X315.aaload hx (j := (14 : Int32)) (v := (.ref s_GET_FEATURES)) (by rw [e315]; exact Ar591.1) (State.isArrayOf_alike hZ.alike Ar591.2.1) rfl Ar591.2.2 hin592 hat593 (g := (mkF m 252 #[iv p0_0, .val (.long oc), .second, rv b1, rv b176, iv (14 : Int32), iv (2 : Int32), iv (1 : Int32)] [(.int (14 : Int32)), (.ref b1)])) rfl rfl (hb hby at_252) _ ?_
        show Steps p.tables e below (T315.setTop (mkF m 253 #[iv p0_0, .val (.long oc), .second, rv b1, rv b176, iv (14 : Int32), iv (2 : Int32), iv (1 : Int32)] [(.ref s_GET_FEATURES)])) _
        refine XS.lloadN X315.here hx rfl (hb hby at_253) rfl ?_
        show Steps p.tables e below (T315.setTop (mkF m 254 #[iv p0_0, .val (.long oc), .second, rv b1, rv b176, iv (14 : Int32), iv (2 : Int32), iv (1 : Int32)] [(.long oc), (.ref s_GET_FEATURES)])) _
        refine st595.trans ?_
        rw [q599]
        show Steps p.tables e below (T595.setTop (mkF m 257 #[iv p0_0, .val (.long oc), .second, rv b1, rv b176, iv (14 : Int32), iv (2 : Int32), iv (1 : Int32)] [(.int (1 : Int32))])) _
        show Steps p.tables e below (T595.setTop (mkF m 257 #[iv p0_0, .val (.long oc), .second, rv b1, rv b176, iv (14 : Int32), iv (2 : Int32), iv (1 : Int32)] [(.int (1 : Int32))])) _
        refine XS.iload X595.here hx rfl (hb hby at_257) rfl ?_
        show Steps p.tables e below (T595.setTop (mkF m 259 #[iv p0_0, .val (.long oc), .second, rv b1, rv b176, iv (14 : Int32), iv (2 : Int32), iv (1 : Int32)] [(.int (1 : Int32)), (.int (1 : Int32))])) _
        refine XS.icmpNo X595.here hx rfl (hb hby at_259) rfl (teq (by decide : (1 : Int32) = (1 : Int32))).2 ?_
        show Steps p.tables e below (T595.setTop (mkF m 262 #[iv p0_0, .val (.long oc), .second, rv b1, rv b176, iv (14 : Int32), iv (2 : Int32), iv (1 : Int32)] [])) _
        refine XS.iconst X595.here hx rfl (hb hby at_262) ?_
        show Steps p.tables e below (T595.setTop (mkF m 263 #[iv p0_0, .val (.long oc), .second, rv b1, rv b176, iv (14 : Int32), iv (2 : Int32), iv (1 : Int32)] [(.int (1 : Int32))])) _
        refine XS.goto X595.here hx rfl (pc0 := 263) (pc' := 267) rfl (hb hby at_263) (by decide) (by decide) ?_
        show Steps p.tables e below (T595.setTop (mkF m 267 #[iv p0_0, .val (.long oc), .second, rv b1, rv b176, iv (14 : Int32), iv (2 : Int32), iv (1 : Int32)] [(.int (1 : Int32))])) _
        exact retN X595 hx (t := .boolean) Bd.returns (by simp) (hb hby at_267) hr
      · show Q_rm0 Z _ _ _ _ _ _ _ _ _ _ _ _ _ _ _ _ _ _ _ h0 n0 _ T595.heap _
        rw [K595q]
        exact ⟨rfl, N598, (K316)⟩
  · skip
    obtain ⟨kk600, cl600, Ar600, qq600, Sz600, Nn600, Hs600, Gf600⟩ := id f317
    have hin601 : ¬ ((15 : Int32) < 0 ∨ cl600.slots.size ≤ ((15 : Int32)).toNatClampNeg) := inb_of Sz600 ⟨by decide, by decide⟩
    have hat602 : cl600.slots[((15 : Int32)).toNatClampNeg]? = some (.int (2 : Int32)) := Has.at Hs600 hin601 rfl
    have pre604 : ∀ t, Steps p.tables e below (T315.setTop (mkF m 239 #[iv p0_0, .val (.long oc), .second, rv b1, rv b176, iv (15 : Int32), iv (2 : Int32), .unset] [(.int (lcmpW (oc &&& (4 : Int64)) (0 : Int64)))])) t → Steps p.tables e below (s₁.setTop (entryFrame m #[(.int p0_0), (.long oc)] maxLocals)) t := by
      intro t_ k_
      refine pre319 _ ?_
      show Steps p.tables e below (T315.setTop (mkF m 213 #[iv p0_0, .val (.long oc), .second, rv b1, rv b176, iv (15 : Int32), .unset, .unset] [])) _
      refine XS.aload X315.here hx rfl (hb hby at_213) rfl rfl ?_
      show Steps p.tables e below (T315.setTop (mkF m 215 #[iv p0_0, .val (.long oc), .second, rv b1, rv b176, iv (15 : Int32), .unset, .unset] [(.ref b176)])) _
      refine XS.iload X315.here hx rfl (hb hby at_215) rfl ?_
      show Steps p.tables e below (T315.setTop (mkF m 217 #[iv p0_0, .val (.long oc), .second, rv b1, rv b176, iv (15 : Int32), .unset, .unset] [(.int (15 : Int32)), (.ref b176)])) _
      refine X315.iaload hx (j := (15 : Int32)) (v := (.int (2 : Int32))) (by rw [e315]; exact Ar600.1) (State.isArrayOf_alike hZ.alike Ar600.2.1) Ar600.2.2 hin601 hat602 (g := (mkF m 217 #[iv p0_0, .val (.long oc), .second, rv b1, rv b176, iv (15 : Int32), .unset, .unset] [(.int (15 : Int32)), (.ref b176)])) rfl rfl (hb hby at_217) _ ?_
      show Steps p.tables e below (T315.setTop (mkF m 218 #[iv p0_0, .val (.long oc), .second, rv b1, rv b176, iv (15 : Int32), .unset, .unset] [(.int (2 : Int32))])) _
      refine XS.istore X315.here hx rfl (hb hby at_218) rfl (l' := #[iv p0_0, .val (.long oc), .second, rv b1, rv b176, iv (15 : Int32), iv (2 : Int32), .unset]) rfl ?_
      show Steps p.tables e below (T315.setTop (mkF m 220 #[iv p0_0, .val (.long oc), .second, rv b1, rv b176, iv (15 : Int32), iv (2 : Int32), .unset] [])) _
      refine XS.iload X315.here hx rfl (hb hby at_220) rfl ?_
      show Steps p.tables e below (T315.setTop (mkF m 222 #[iv p0_0, .val (.long oc), .second, rv b1, rv b176, iv (15 : Int32), iv (2 : Int32), .unset] [(.int (2 : Int32))])) _
      refine XS.ifYes X315.here hx rfl (pc0 := 222) (pc' := 231) rfl (hb hby at_222) rfl ((if0 _ _).trans (flt (by decide : ¬ ((2 : Int32) < (0 : Int32)))).2.1) (by decide) (by decide) ?_
      show Steps p.tables e below (T315.setTop (mkF m 231 #[iv p0_0, .val (.long oc), .second, rv b1, rv b176, iv (15 : Int32), iv (2 : Int32), .unset] [])) _
      refine XS.lloadN X315.here hx rfl (hb hby at_231) rfl ?_
      show Steps p.tables e below (T315.setTop (mkF m 232 #[iv p0_0, .val (.long oc), .second, rv b1, rv b176, iv (15 : Int32), iv (2 : Int32), .unset] [(.long oc)])) _
      refine XS.lconst X315.here hx rfl (hb hby at_232) ?_
      show Steps p.tables e below (T315.setTop (mkF m 233 #[iv p0_0, .val (.long oc), .second, rv b1, rv b176, iv (15 : Int32), iv (2 : Int32), .unset] [(.long (1 : Int64)), (.long oc)])) _
      refine XS.iload X315.here hx rfl (hb hby at_233) rfl ?_
      show Steps p.tables e below (T315.setTop (mkF m 235 #[iv p0_0, .val (.long oc), .second, rv b1, rv b176, iv (15 : Int32), iv (2 : Int32), .unset] [(.int (2 : Int32)), (.long (1 : Int64)), (.long oc)])) _
      refine XS.lshl X315.here hx rfl (hb hby at_235) rfl ?_
      show Steps p.tables e below (T315.setTop (mkF m 236 #[iv p0_0, .val (.long oc), .second, rv b1, rv b176, iv (15 : Int32), iv (2 : Int32), .unset] [(.long (4 : Int64)), (.long oc)])) _
      refine XS.land X315.here hx rfl (hb hby at_236) rfl ?_
      show Steps p.tables e below (T315.setTop (mkF m 237 #[iv p0_0, .val (.long oc), .second, rv b1, rv b176, iv (15 : Int32), iv (2 : Int32), .unset] [(.long (oc &&& (4 : Int64)))])) _
      refine XS.lconst X315.here hx rfl (hb hby at_237) ?_
      show Steps p.tables e below (T315.setTop (mkF m 238 #[iv p0_0, .val (.long oc), .second, rv b1, rv b176, iv (15 : Int32), iv (2 : Int32), .unset] [(.long (0 : Int64)), (.long (oc &&& (4 : Int64)))])) _
      refine XS.lcmp X315.here hx rfl (hb hby at_238) rfl ?_
      exact k_
    by_cases hc239_603 : (lcmpW (oc &&& (4 : Int64)) (0 : Int64)) = (0 : Int32)
    · skip
      have f605 := ((((((((((((((((((f174.ext E176).other W219 ne211).other W225 ne211).other W231 ne211).other W237 ne211).other W243 ne211).other W249 ne211).other W255 ne211).other W261 ne211).other W267 ne211).other W273 ne211).other W279 ne211).other W285 ne211).other W291 ne211).other W297 ne211).other W303 ne211).other W309 ne211).other W315 ne211)
      obtain ⟨cl606, Ar606, qq606, Sz606, Nn606, Hs606, Gf606⟩ := id f605
      have hin607 : ¬ ((15 : Int32) < 0 ∨ cl606.slots.size ≤ ((15 : Int32)).toNatClampNeg) := inb_of Sz606 ⟨by decide, by decide⟩
      have hat608 : cl606.slots[((15 : Int32)).toNatClampNeg]? = some (.ref s_SET_FEATURES) := Has.at Hs606 hin607 rfl
      have f609 := ((((((((((((((((((((((((((((((((((((pf_F_s_SET_FEATURES_optionalBit.ext E1).other W28 (Or.inl ne17)).other W37 (Or.inl ne17)).other W46 (Or.inl ne17)).other W55 (Or.inl ne17)).other W64 (Or.inl ne17)).other W73 (Or.inl ne17)).other W82 (Or.inl ne17)).other W91 (Or.inl ne17)).other W100 (Or.inl ne17)).other W109 (Or.inl ne17)).other W118 (Or.inl ne17)).other W127 (Or.inl ne17)).other W136 (Or.inl ne17)).other W145 (Or.inl ne17)).other W154 (Or.inl ne17)).other W163 (Or.inl ne17)).other W172 (Or.inl ne17)).ext E176).other W219 (Or.inl ne208)).other W225 (Or.inl ne208)).other W231 (Or.inl ne208)).other W237 (Or.inl ne208)).other W243 (Or.inl ne208)).other W249 (Or.inl ne208)).other W255 (Or.inl ne208)).other W261 (Or.inl ne208)).other W267 (Or.inl ne208)).other W273 (Or.inl ne208)).other W279 (Or.inl ne208)).other W285 (Or.inl ne208)).other W291 (Or.inl ne208)).other W297 (Or.inl ne208)).other W303 (Or.inl ne208)).other W309 (Or.inl ne208)).other W315 (Or.inl ne208))
      have f611 := (Nat.le_trans (Nat.le_trans (Nat.le_trans (Nat.le_trans (Nat.le_trans (Nat.le_trans (Nat.le_trans (Nat.le_trans (Nat.le_trans (Nat.le_trans (Nat.le_trans (Nat.le_trans (Nat.le_trans (Nat.le_trans (Nat.le_trans (Nat.le_trans (Nat.le_trans (Nat.le_trans f213 E176.1) (Keep.of_wr W219).1) (Keep.of_wr W225).1) (Keep.of_wr W231).1) (Keep.of_wr W237).1) (Keep.of_wr W243).1) (Keep.of_wr W249).1) (Keep.of_wr W255).1) (Keep.of_wr W261).1) (Keep.of_wr W267).1) (Keep.of_wr W273).1) (Keep.of_wr W279).1) (Keep.of_wr W285).1) (Keep.of_wr W291).1) (Keep.of_wr W297).1) (Keep.of_wr W303).1) (Keep.of_wr W309).1) (Keep.of_wr W315).1)
      have f612 := ((((((((((((((((((f207.ext E176).wr W219).wr W225).wr W231).wr W237).wr W243).wr W249).wr W255).wr W261).wr W267).wr W273).wr W279).wr W285).wr W291).wr W297).wr W303).wr W309).wr W315)
      obtain ⟨cq610, kq610, q610a, q610b, q610c⟩ := isOf hZ e315 f612
      obtain ⟨_, _, ⟨T610, L610, k610, n610⟩, -, X610, ⟨Lc610, hQ610, l610, y610, z610⟩, st610⟩ := X315.virtualBack hx (y := MN1) (z := MN1) hown (mvT hZ wo40) (mvT hZ wo41) (notFace_of_selects (args := #[]) (mvT hZ wo43)) (mvT hZ wo43) (mvT hZ wo42) (by decide) (backOf (W := 0) (rm1 l Z a0 hw [] s_SET_FEATURES oc (2 : Int32) h315 n0 f611 f609) hZ wo44 wo3 (by decide) (by decide)) q610a q610c (g := (mkF m 254 #[iv p0_0, .val (.long oc), .second, rv b1, rv b176, iv (15 : Int32), iv (2 : Int32), iv (0 : Int32)] [(.long oc), (.ref s_SET_FEATURES)])) rfl (by rw [hml]; rfl) (Steps.refl _) (argsL := [(.long oc)]) (rest := []) (lenOf pd_0 rfl) rfl (by show 2 * 0 + _ ≤ _; exact Nat.le_of_eq rfl) (hb hby at_254) (fun _ _ => ⟨rfl, e315, (by decide : 2 + 0 ≤ _), (by decide : 34 + 0 ≤ _)⟩)
      dsimp only [Pt.U, Pt.locs, Pt.cells, Pt.slots] at X610 l610 y610 z610 st610 hQ610
      rw [l610, y610, z610] at X610
      obtain ⟨rfl, N610q, K610q⟩ := hQ610
      have N613 := Fr.app N318 N610q
      have q614 : (if (2 : Int32) = (-1 : Int32) then (1 : Int32) else (if (lcmpW ((oc >>> ((2 : Int32) &&& 0x3f).toInt64) &&& (1 : Int64)) (1 : Int64)) = (0 : Int32) then (1 : Int32) else (0 : Int32))) = (0 : Int32) := (if_neg (by decide)).trans (if_neg (fun q => (own_bit2 _).mp q hc239_603))
      obtain ⟨fs, hr, hrun, hended, hW, hsame⟩ := X610.leave (v := some (.int (1 : Int32))) (fun h => by rw [Bd.returns] at h; cases h)
      refine ⟨_, _, pre604 _ ?_, hrun, hended, _, _, rfl, ?_, ⟨_, rfl⟩, hW, hsame.mono (by decide) (by decide)⟩
      · show Steps p.tables e below (T315.setTop (mkF m 239 #[iv p0_0, .val (.long oc), .second, rv b1, rv b176, iv (15 : Int32), iv (2 : Int32), .unset] [(.int (lcmpW (oc &&& (4 : Int64)) (0 : Int64)))])) _
        refine XS.ifYes X315.here hx rfl (pc0 := 239) (pc' := 246) rfl (hb hby at_239) rfl ((if0 _ _).trans (teq hc239_603).1) (by decide) (by decide) ?_
        show Steps p.tables e below (T315.setTop (mkF m 246 #[iv p0_0, .val (.long oc), .second, rv b1, rv b176, iv (15 : Int32), iv (2 : Int32), .unset] [])) _
        refine XS.iconst X315.here hx rfl (hb hby at_246) ?_
        show Steps p.tables e below (T315.setTop (mkF m 247 #[iv p0_0, .val (.long oc), .second, rv b1, rv b176, iv (15 : Int32), iv (2 : Int32), .unset] [(.int (0 : Int32))])) _
        refine XS.istore X315.here hx rfl (hb hby at_247) rfl (l' := #[iv p0_0, .val (.long oc), .second, rv b1, rv b176, iv (15 : Int32), iv (2 : Int32), iv (0 : Int32)]) rfl ?_
        show Steps p.tables e below (T315.setTop (mkF m 249 #[iv p0_0, .val (.long oc), .second, rv b1, rv b176, iv (15 : Int32), iv (2 : Int32), iv (0 : Int32)] [])) _
        refine XS.aloadN X315.here hx rfl (hb hby at_249) rfl rfl ?_
        show Steps p.tables e below (T315.setTop (mkF m 250 #[iv p0_0, .val (.long oc), .second, rv b1, rv b176, iv (15 : Int32), iv (2 : Int32), iv (0 : Int32)] [(.ref b1)])) _
        refine XS.iload X315.here hx rfl (hb hby at_250) rfl ?_
        show Steps p.tables e below (T315.setTop (mkF m 252 #[iv p0_0, .val (.long oc), .second, rv b1, rv b176, iv (15 : Int32), iv (2 : Int32), iv (0 : Int32)] [(.int (15 : Int32)), (.ref b1)])) _
        refine X315.aaload hx (j := (15 : Int32)) (v := (.ref s_SET_FEATURES)) (by rw [e315]; exact Ar606.1) (State.isArrayOf_alike hZ.alike Ar606.2.1) rfl Ar606.2.2 hin607 hat608 (g := (mkF m 252 #[iv p0_0, .val (.long oc), .second, rv b1, rv b176, iv (15 : Int32), iv (2 : Int32), iv (0 : Int32)] [(.int (15 : Int32)), (.ref b1)])) rfl rfl (hb hby at_252) _ ?_
        show Steps p.tables e below (T315.setTop (mkF m 253 #[iv p0_0, .val (.long oc), .second, rv b1, rv b176, iv (15 : Int32), iv (2 : Int32), iv (0 : Int32)] [(.ref s_SET_FEATURES)])) _
        refine XS.lloadN X315.here hx rfl (hb hby at_253) rfl ?_
        show Steps p.tables e below (T315.setTop (mkF m 254 #[iv p0_0, .val (.long oc), .second, rv b1, rv b176, iv (15 : Int32), iv (2 : Int32), iv (0 : Int32)] [(.long oc), (.ref s_SET_FEATURES)])) _
        refine st610.trans ?_
        rw [q614]
        show Steps p.tables e below (T610.setTop (mkF m 257 #[iv p0_0, .val (.long oc), .second, rv b1, rv b176, iv (15 : Int32), iv (2 : Int32), iv (0 : Int32)] [(.int (0 : Int32))])) _
        show Steps p.tables e below (T610.setTop (mkF m 257 #[iv p0_0, .val (.long oc), .second, rv b1, rv b176, iv (15 : Int32), iv (2 : Int32), iv (0 : Int32)] [(.int (0 : Int32))])) _
        refine XS.iload X610.here hx rfl (hb hby at_257) rfl ?_
        show Steps p.tables e below (T610.setTop (mkF m 259 #[iv p0_0, .val (.long oc), .second, rv b1, rv b176, iv (15 : Int32), iv (2 : Int32), iv (0 : Int32)] [(.int (0 : Int32)), (.int (0 : Int32))])) _
        refine XS.icmpNo X610.here hx rfl (hb hby at_259) rfl (teq (by decide : (0 : Int32) = (0 : Int32))).2 ?_
        show Steps p.tables e below (T610.setTop (mkF m 262 #[iv p0_0, .val (.long oc), .second, rv b1, rv b176, iv (15 : Int32), iv (2 : Int32), iv (0 : Int32)] [])) _
        refine XS.iconst X610.here hx rfl (hb hby at_262) ?_
        show Steps p.tables e below (T610.setTop (mkF m 263 #[iv p0_0, .val (.long oc), .second, rv b1, rv b176, iv (15 : Int32), iv (2 : Int32), iv (0 : Int32)] [(.int (1 : Int32))])) _
        refine XS.goto X610.here hx rfl (pc0 := 263) (pc' := 267) rfl (hb hby at_263) (by decide) (by decide) ?_
        show Steps p.tables e below (T610.setTop (mkF m 267 #[iv p0_0, .val (.long oc), .second, rv b1, rv b176, iv (15 : Int32), iv (2 : Int32), iv (0 : Int32)] [(.int (1 : Int32))])) _
        exact retN X610 hx (t := .boolean) Bd.returns (by simp) (hb hby at_267) hr
      · show Q_rm0 Z _ _ _ _ _ _ _ _ _ _ _ _ _ _ _ _ _ _ _ h0 n0 _ T610.heap _
        rw [K610q]
        exact ⟨rfl, N613, (K316)⟩
    · skip
      have f615 := ((((((((((((((((((f174.ext E176).other W219 ne211).other W225 ne211).other W231 ne211).other W237 ne211).other W243 ne211).other W249 ne211).other W255 ne211).other W261 ne211).other W267 ne211).other W273 ne211).other W279 ne211).other W285 ne211).other W291 ne211).other W297 ne211).other W303 ne211).other W309 ne211).other W315 ne211)
      obtain ⟨cl616, Ar616, qq616, Sz616, Nn616, Hs616, Gf616⟩ := id f615
      have hin617 : ¬ ((15 : Int32) < 0 ∨ cl616.slots.size ≤ ((15 : Int32)).toNatClampNeg) := inb_of Sz616 ⟨by decide, by decide⟩
      have hat618 : cl616.slots[((15 : Int32)).toNatClampNeg]? = some (.ref s_SET_FEATURES) := Has.at Hs616 hin617 rfl
      have f619 := ((((((((((((((((((((((((((((((((((((pf_F_s_SET_FEATURES_optionalBit.ext E1).other W28 (Or.inl ne17)).other W37 (Or.inl ne17)).other W46 (Or.inl ne17)).other W55 (Or.inl ne17)).other W64 (Or.inl ne17)).other W73 (Or.inl ne17)).other W82 (Or.inl ne17)).other W91 (Or.inl ne17)).other W100 (Or.inl ne17)).other W109 (Or.inl ne17)).other W118 (Or.inl ne17)).other W127 (Or.inl ne17)).other W136 (Or.inl ne17)).other W145 (Or.inl ne17)).other W154 (Or.inl ne17)).other W163 (Or.inl ne17)).other W172 (Or.inl ne17)).ext E176).other W219 (Or.inl ne208)).other W225 (Or.inl ne208)).other W231 (Or.inl ne208)).other W237 (Or.inl ne208)).other W243 (Or.inl ne208)).other W249 (Or.inl ne208)).other W255 (Or.inl ne208)).other W261 (Or.inl ne208)).other W267 (Or.inl ne208)).other W273 (Or.inl ne208)).other W279 (Or.inl ne208)).other W285 (Or.inl ne208)).other W291 (Or.inl ne208)).other W297 (Or.inl ne208)).other W303 (Or.inl ne208)).other W309 (Or.inl ne208)).other W315 (Or.inl ne208))
      have f621 := (Nat.le_trans (Nat.le_trans (Nat.le_trans (Nat.le_trans (Nat.le_trans (Nat.le_trans (Nat.le_trans (Nat.le_trans (Nat.le_trans (Nat.le_trans (Nat.le_trans (Nat.le_trans (Nat.le_trans (Nat.le_trans (Nat.le_trans (Nat.le_trans (Nat.le_trans (Nat.le_trans f213 E176.1) (Keep.of_wr W219).1) (Keep.of_wr W225).1) (Keep.of_wr W231).1) (Keep.of_wr W237).1) (Keep.of_wr W243).1) (Keep.of_wr W249).1) (Keep.of_wr W255).1) (Keep.of_wr W261).1) (Keep.of_wr W267).1) (Keep.of_wr W273).1) (Keep.of_wr W279).1) (Keep.of_wr W285).1) (Keep.of_wr W291).1) (Keep.of_wr W297).1) (Keep.of_wr W303).1) (Keep.of_wr W309).1) (Keep.of_wr W315).1)
      have f622 := ((((((((((((((((((f207.ext E176).wr W219).wr W225).wr W231).wr W237).wr W243).wr W249).wr W255).wr W261).wr W267).wr W273).wr W279).wr W285).wr W291).wr W297).wr W303).wr W309).wr W315)
      obtain ⟨cq620, kq620, q620a, q620b, q620c⟩ := isOf hZ e315 f622
      obtain ⟨_, _, ⟨T620, L620, k620, n620⟩, -, X620, ⟨Lc620, hQ620, l620, y620, z620⟩, st620⟩ := X315.virtualBack hx (y := MN1) (z := MN1) hown (mvT hZ wo40) (mvT hZ wo41) (notFace_of_selects (args := #[]) (mvT hZ wo43)) (mvT hZ wo43) (mvT hZ wo42) (by decide) (backOf (W := 0) (rm1 l Z a0 hw [] s_SET_FEATURES oc (2 : Int32) h315 n0 f621 f619) hZ wo44 wo3 (by decide) (by decide)) q620a q620c (g := (mkF m 254 #[iv p0_0, .val (.long oc), .second, rv b1, rv b176, iv (15 : Int32), iv (2 : Int32), iv (1 : Int32)] [(.long oc), (.ref s_SET_FEATURES)])) rfl (by rw [hml]; rfl) (Steps.refl _) (argsL := [(.long oc)]) (rest := []) (lenOf pd_0 rfl) rfl (by show 2 * 0 + _ ≤ _; exact Nat.le_of_eq rfl) (hb hby at_254) (fun _ _ => ⟨rfl, e315, (by decide : 2 + 0 ≤ _), (by decide : 34 + 0 ≤ _)⟩)
      dsimp only [Pt.U, Pt.locs, Pt.cells, Pt.slots] at X620 l620 y620 z620 st620 hQ620
      rw [l620, y620, z620] at X620
      obtain ⟨rfl, N620q, K620q⟩ := hQ620
      have N623 := Fr.app N318 N620q
      have q624 : (if (2 : Int32) = (-1 : Int32) then (1 : Int32) else (if (lcmpW ((oc >>> ((2 : Int32) &&& 0x3f).toInt64) &&& (1 : Int64)) (1 : Int64)) = (0 : Int32) then (1 : Int32) else (0 : Int32))) = (1 : Int32) := (if_neg (by decide)).trans (if_pos ((own_bit2 _).mpr hc239_603))
      obtain ⟨fs, hr, hrun, hended, hW, hsame⟩ := X620.leave (v := some (.int (1 : Int32))) (fun h => by rw [Bd.returns] at h; cases h)
      refine ⟨_, _, pre604 _ ?_, hrun, hended, _, _, rfl, ?_, ⟨_, rfl⟩, hW, hsame.mono (by decide) (by decide)⟩
      · show Steps p.tables e below (T315.setTop (mkF m 239 #[iv p0_0, .val (.long oc), .second, rv b1, rv b176, iv (15 : Int32), iv (2 : Int32), .unset] [(.int (lcmpW (oc &&& (4 : Int64)) (0 : Int64)))])) _
        refine XS.ifNo X315.here hx rfl (hb hby at_239) rfl ((if0 _ _).trans (feq hc239_603).1) ?_
        show Steps p.tables e below (T315.setTop (mkF m 242 #[iv p0_0, .val (.long oc), .second, rv b1, rv b176, iv (15 : Int32), iv (2 : Int32), .unset] [])) _
        refine XS.iconst X315.here hx rfl (hb hby at_242) ?_
        show Steps p.tables e below (T315.setTop (mkF m 243 #[iv p0_0, .val (.long oc), .second, rv b1, rv b176, iv (15 : Int32), iv (2 : Int32), .unset] [(.int (1 : Int32))])) _
        refine XS.goto X315.here hx rfl (pc0 := 243) (pc' := 247) rfl (hb hby at_243) (by decide) (by decide) ?_
        show Steps p.tables e below (T315.setTop (mkF m 247 #[iv p0_0, .val (.long oc), .second, rv b1, rv b176, iv (15 : Int32), iv (2 : Int32), .unset] [(.int (1 : Int32))])) _
        refine XS.istore X315.here hx rfl (hb hby at_247) rfl (l' := #[iv p0_0, .val (.long oc), .second, rv b1, rv b176, iv (15 : Int32), iv (2 : Int32), iv (1 : Int32)]) rfl ?_
        show Steps p.tables e below (T315.setTop (mkF m 249 #[iv p0_0, .val (.long oc), .second, rv b1, rv b176, iv (15 : Int32), iv (2 : Int32), iv (1 : Int32)] [])) _
        refine XS.aloadN X315.here hx rfl (hb hby at_249) rfl rfl ?_
        show Steps p.tables e below (T315.setTop (mkF m 250 #[iv p0_0, .val (.long oc), .second, rv b1, rv b176, iv (15 : Int32), iv (2 : Int32), iv (1 : Int32)] [(.ref b1)])) _
        refine XS.iload X315.here hx rfl (hb hby at_250) rfl ?_
        show Steps p.tables e below (T315.setTop (mkF m 252 #[iv p0_0, .val (.long oc), .second, rv b1, rv b176, iv (15 : Int32), iv (2 : Int32), iv (1 : Int32)] [(.int (15 : Int32)), (.ref b1)])) _
        refine X315.aaload hx (j := (15 : Int32)) (v := (.ref s_SET_FEATURES)) (by rw [e315]; exact Ar616.1) (State.isArrayOf_alike hZ.alike Ar616.2.1) rfl Ar616.2.2 hin617 hat618 (g := (mkF m 252 #[iv p0_0, .val (.long oc), .second, rv b1, rv b176, iv (15 : Int32), iv (2 : Int32), iv (1 : Int32)] [(.int (15 : Int32)), (.ref b1)])) rfl rfl (hb hby at_252) _ ?_
        show Steps p.tables e below (T315.setTop (mkF m 253 #[iv p0_0, .val (.long oc), .second, rv b1, rv b176, iv (15 : Int32), iv (2 : Int32), iv (1 : Int32)] [(.ref s_SET_FEATURES)])) _
        refine XS.lloadN X315.here hx rfl (hb hby at_253) rfl ?_
        show Steps p.tables e below (T315.setTop (mkF m 254 #[iv p0_0, .val (.long oc), .second, rv b1, rv b176, iv (15 : Int32), iv (2 : Int32), iv (1 : Int32)] [(.long oc), (.ref s_SET_FEATURES)])) _
        refine st620.trans ?_
        rw [q624]
        show Steps p.tables e below (T620.setTop (mkF m 257 #[iv p0_0, .val (.long oc), .second, rv b1, rv b176, iv (15 : Int32), iv (2 : Int32), iv (1 : Int32)] [(.int (1 : Int32))])) _
        show Steps p.tables e below (T620.setTop (mkF m 257 #[iv p0_0, .val (.long oc), .second, rv b1, rv b176, iv (15 : Int32), iv (2 : Int32), iv (1 : Int32)] [(.int (1 : Int32))])) _
        refine XS.iload X620.here hx rfl (hb hby at_257) rfl ?_
        show Steps p.tables e below (T620.setTop (mkF m 259 #[iv p0_0, .val (.long oc), .second, rv b1, rv b176, iv (15 : Int32), iv (2 : Int32), iv (1 : Int32)] [(.int (1 : Int32)), (.int (1 : Int32))])) _
        refine XS.icmpNo X620.here hx rfl (hb hby at_259) rfl (teq (by decide : (1 : Int32) = (1 : Int32))).2 ?_
        show Steps p.tables e below (T620.setTop (mkF m 262 #[iv p0_0, .val (.long oc), .second, rv b1, rv b176, iv (15 : Int32), iv (2 : Int32), iv (1 : Int32)] [])) _
        refine XS.iconst X620.here hx rfl (hb hby at_262) ?_
        show Steps p.tables e below (T620.setTop (mkF m 263 #[iv p0_0, .val (.long oc), .second, rv b1, rv b176, iv (15 : Int32), iv (2 : Int32), iv (1 : Int32)] [(.int (1 : Int32))])) _
        refine XS.goto X620.here hx rfl (pc0 := 263) (pc' := 267) rfl (hb hby at_263) (by decide) (by decide) ?_
        show Steps p.tables e below (T620.setTop (mkF m 267 #[iv p0_0, .val (.long oc), .second, rv b1, rv b176, iv (15 : Int32), iv (2 : Int32), iv (1 : Int32)] [(.int (1 : Int32))])) _
        exact retN X620 hx (t := .boolean) Bd.returns (by simp) (hb hby at_267) hr
      · show Q_rm0 Z _ _ _ _ _ _ _ _ _ _ _ _ _ _ _ _ _ _ _ h0 n0 _ T620.heap _
        rw [K620q]
        exact ⟨rfl, N623, (K316)⟩
  · skip
    obtain ⟨kk625, cl625, Ar625, qq625, Sz625, Nn625, Hs625, Gf625⟩ := id f317
    have hin626 : ¬ ((16 : Int32) < 0 ∨ cl625.slots.size ≤ ((16 : Int32)).toNatClampNeg) := inb_of Sz625 ⟨by decide, by decide⟩
    have hat627 : cl625.slots[((16 : Int32)).toNatClampNeg]? = some (.int (-1 : Int32)) := Has.at Hs625 hin626 rfl
    have f628 := ((((((((((((((((((f174.ext E176).other W219 ne211).other W225 ne211).other W231 ne211).other W237 ne211).other W243 ne211).other W249 ne211).other W255 ne211).other W261 ne211).other W267 ne211).other W273 ne211).other W279 ne211).other W285 ne211).other W291 ne211).other W297 ne211).other W303 ne211).other W309 ne211).other W315 ne211)
    obtain ⟨cl629, Ar629, qq629, Sz629, Nn629, Hs629, Gf629⟩ := id f628
    have hin630 : ¬ ((16 : Int32) < 0 ∨ cl629.slots.size ≤ ((16 : Int32)).toNatClampNeg) := inb_of Sz629 ⟨by decide, by decide⟩
    have hat631 : cl629.slots[((16 : Int32)).toNatClampNeg]? = some (.ref s_RESET) := Has.at Hs629 hin630 rfl
    have f632 := ((((((((((((((((((((((((((((((((((((pf_F_s_RESET_optionalBit.ext E1).other W28 (Or.inl ne18)).other W37 (Or.inl ne18)).other W46 (Or.inl ne18)).other W55 (Or.inl ne18)).other W64 (Or.inl ne18)).other W73 (Or.inl ne18)).other W82 (Or.inl ne18)).other W91 (Or.inl ne18)).other W100 (Or.inl ne18)).other W109 (Or.inl ne18)).other W118 (Or.inl ne18)).other W127 (Or.inl ne18)).other W136 (Or.inl ne18)).other W145 (Or.inl ne18)).other W154 (Or.inl ne18)).other W163 (Or.inl ne18)).other W172 (Or.inl ne18)).ext E176).other W219 (Or.inl ne210)).other W225 (Or.inl ne210)).other W231 (Or.inl ne210)).other W237 (Or.inl ne210)).other W243 (Or.inl ne210)).other W249 (Or.inl ne210)).other W255 (Or.inl ne210)).other W261 (Or.inl ne210)).other W267 (Or.inl ne210)).other W273 (Or.inl ne210)).other W279 (Or.inl ne210)).other W285 (Or.inl ne210)).other W291 (Or.inl ne210)).other W297 (Or.inl ne210)).other W303 (Or.inl ne210)).other W309 (Or.inl ne210)).other W315 (Or.inl ne210))
    have f634 := (Nat.le_trans (Nat.le_trans (Nat.le_trans (Nat.le_trans (Nat.le_trans (Nat.le_trans (Nat.le_trans (Nat.le_trans (Nat.le_trans (Nat.le_trans (Nat.le_trans (Nat.le_trans (Nat.le_trans (Nat.le_trans (Nat.le_trans (Nat.le_trans (Nat.le_trans (Nat.le_trans f213 E176.1) (Keep.of_wr W219).1) (Keep.of_wr W225).1) (Keep.of_wr W231).1) (Keep.of_wr W237).1) (Keep.of_wr W243).1) (Keep.of_wr W249).1) (Keep.of_wr W255).1) (Keep.of_wr W261).1) (Keep.of_wr W267).1) (Keep.of_wr W273).1) (Keep.of_wr W279).1) (Keep.of_wr W285).1) (Keep.of_wr W291).1) (Keep.of_wr W297).1) (Keep.of_wr W303).1) (Keep.of_wr W309).1) (Keep.of_wr W315).1)
    have f635 := ((((((((((((((((((f209.ext E176).wr W219).wr W225).wr W231).wr W237).wr W243).wr W249).wr W255).wr W261).wr W267).wr W273).wr W279).wr W285).wr W291).wr W297).wr W303).wr W309).wr W315)
    obtain ⟨cq633, kq633, q633a, q633b, q633c⟩ := isOf hZ e315 f635
    obtain ⟨_, _, ⟨T633, L633, k633, n633⟩, -, X633, ⟨Lc633, hQ633, l633, y633, z633⟩, st633⟩ := X315.virtualBack hx (y := MN1) (z := MN1) hown (mvT hZ wo40) (mvT hZ wo41) (notFace_of_selects (args := #[]) (mvT hZ wo43)) (mvT hZ wo43) (mvT hZ wo42) (by decide) (backOf (W := 0) (rm1 l Z a0 hw [] s_RESET oc (-1 : Int32) h315 n0 f634 f632) hZ wo44 wo3 (by decide) (by decide)) q633a q633c (g := (mkF m 254 #[iv p0_0, .val (.long oc), .second, rv b1, rv b176, iv (16 : Int32), iv (-1 : Int32), iv (1 : Int32)] [(.long oc), (.ref s_RESET)])) rfl (by rw [hml]; rfl) (Steps.refl _) (argsL := [(.long oc)]) (rest := []) (lenOf pd_0 rfl) rfl (by show 2 * 0 + _ ≤ _; exact Nat.le_of_eq rfl) (hb hby at_254) (fun _ _ => ⟨rfl, e315, (by decide : 2 + 0 ≤ _), (by decide : 34 + 0 ≤ _)⟩)
    dsimp only [Pt.U, Pt.locs, Pt.cells, Pt.slots] at X633 l633 y633 z633 st633 hQ633
    rw [l633, y633, z633] at X633
    obtain ⟨rfl, N633q, K633q⟩ := hQ633
    have N636 := Fr.app N318 N633q
    have q637 : (if (-1 : Int32) = (-1 : Int32) then (1 : Int32) else (if (lcmpW ((oc >>> ((-1 : Int32) &&& 0x3f).toInt64) &&& (1 : Int64)) (1 : Int64)) = (0 : Int32) then (1 : Int32) else (0 : Int32))) = (1 : Int32) := if_pos rfl
    obtain ⟨fs, hr, hrun, hended, hW, hsame⟩ := X633.leave (v := some (.int (1 : Int32))) (fun h => by rw [Bd.returns] at h; cases h)
    refine ⟨_, _, pre319 _ ?_, hrun, hended, _, _, rfl, ?_, ⟨_, rfl⟩, hW, hsame.mono (by decide) (by decide)⟩
    · show Steps p.tables e below (T315.setTop (mkF m 213 #[iv p0_0, .val (.long oc), .second, rv b1, rv b176, iv (16 : Int32), .unset, .unset] [])) _
      refine XS.aload X315.here hx rfl (hb hby at_213) rfl rfl ?_
      show Steps p.tables e below (T315.setTop (mkF m 215 #[iv p0_0, .val (.long oc), .second, rv b1, rv b176, iv (16 : Int32), .unset, .unset] [(.ref b176)])) _
      refine XS.iload X315.here hx rfl (hb hby at_215) rfl ?_
      show Steps p.tables e below (T315.setTop (mkF m 217 #[iv p0_0, .val (.long oc), .second, rv b1, rv b176, iv (16 : Int32), .unset, .unset] [(.int (16 : Int32)), (.ref b176)])) _
      refine X315.iaload hx (j := (16 : Int32)) (v := (.int (-1 : Int32))) (by rw [e315]; exact Ar625.1) (State.isArrayOf_alike hZ.alike Ar625.2.1) Ar625.2.2 hin626 hat627 (g := (mkF m 217 #[iv p0_0, .val (.long oc), .second, rv b1, rv b176, iv (16 : Int32), .unset, .unset] [(.int (16 : Int32)), (.ref b176)])) rfl rfl (hb hby at_217) _ ?_
      show Steps p.tables e below (T315.setTop (mkF m 218 #[iv p0_0, .val (.long oc), .second, rv b1, rv b176, iv (16 : Int32), .unset, .unset] [(.int (-1 : Int32))])) _
      refine XS.istore X315.here hx rfl (hb hby at_218) rfl (l' := #[iv p0_0, .val (.long oc), .second, rv b1, rv b176, iv (16 : Int32), iv (-1 : Int32), .unset]) rfl ?_
      show Steps p.tables e below (T315.setTop (mkF m 220 #[iv p0_0, .val (.long oc), .second, rv b1, rv b176, iv (16 : Int32), iv (-1 : Int32), .unset] [])) _
      refine XS.iload X315.here hx rfl (hb hby at_220) rfl ?_
      show Steps p.tables e below (T315.setTop (mkF m 222 #[iv p0_0, .val (.long oc), .second, rv b1, rv b176, iv (16 : Int32), iv (-1 : Int32), .unset] [(.int (-1 : Int32))])) _
      refine XS.ifNo X315.here hx rfl (hb hby at_222) rfl ((if0 _ _).trans (tlt (by decide : (-1 : Int32) < (0 : Int32))).2.1) ?_
      show Steps p.tables e below (T315.setTop (mkF m 225 #[iv p0_0, .val (.long oc), .second, rv b1, rv b176, iv (16 : Int32), iv (-1 : Int32), .unset] [])) _
      refine XS.iconst X315.here hx rfl (hb hby at_225) ?_
      show Steps p.tables e below (T315.setTop (mkF m 226 #[iv p0_0, .val (.long oc), .second, rv b1, rv b176, iv (16 : Int32), iv (-1 : Int32), .unset] [(.int (1 : Int32))])) _
      refine XS.istore X315.here hx rfl (hb hby at_226) rfl (l' := #[iv p0_0, .val (.long oc), .second, rv b1, rv b176, iv (16 : Int32), iv (-1 : Int32), iv (1 : Int32)]) rfl ?_
      show Steps p.tables e below (T315.setTop (mkF m 228 #[iv p0_0, .val (.long oc), .second, rv b1, rv b176, iv (16 : Int32), iv (-1 : Int32), iv (1 : Int32)] [])) _
      refine XS.goto X315.here hx rfl (pc0 := 228) (pc' := 249) rfl (hb hby at_228) (by decide) (by decide) ?_
      show Steps p.tables e below (T315.setTop (mkF m 249 #[iv p0_0, .val (.long oc), .second, rv b1, rv b176, iv (16 : Int32), iv (-1 : Int32), iv (1 : Int32)] [])) _
      refine XS.aloadN X315.here hx rfl (hb hby at_249) rfl rfl ?_
      show Steps p.tables e below (T315.setTop (mkF m 250 #[iv p0_0, .val (.long oc), .second, rv b1, rv b176, iv (16 : Int32), iv (-1 : Int32), iv (1 : Int32)] [(.ref b1)])) _
      refine XS.iload X315.here hx rfl (hb hby at_250) rfl ?_
      show Steps p.tables e below (T315.setTop (mkF m 252 #[iv p0_0, .val (.long oc), .second, rv b1, rv b176, iv (16 : Int32), iv (-1 : Int32), iv (1 : Int32)] [(.int (16 : Int32)), (.ref b1)])) _
      refine X315.aaload hx (j := (16 : Int32)) (v := (.ref s_RESET)) (by rw [e315]; exact Ar629.1) (State.isArrayOf_alike hZ.alike Ar629.2.1) rfl Ar629.2.2 hin630 hat631 (g := (mkF m 252 #[iv p0_0, .val (.long oc), .second, rv b1, rv b176, iv (16 : Int32), iv (-1 : Int32), iv (1 : Int32)] [(.int (16 : Int32)), (.ref b1)])) rfl rfl (hb hby at_252) _ ?_
      show Steps p.tables e below (T315.setTop (mkF m 253 #[iv p0_0, .val (.long oc), .second, rv b1, rv b176, iv (16 : Int32), iv (-1 : Int32), iv (1 : Int32)] [(.ref s_RESET)])) _
      refine XS.lloadN X315.here hx rfl (hb hby at_253) rfl ?_
      show Steps p.tables e below (T315.setTop (mkF m 254 #[iv p0_0, .val (.long oc), .second, rv b1, rv b176, iv (16 : Int32), iv (-1 : Int32), iv (1 : Int32)] [(.long oc), (.ref s_RESET)])) _
      refine st633.trans ?_
      rw [q637]
      show Steps p.tables e below (T633.setTop (mkF m 257 #[iv p0_0, .val (.long oc), .second, rv b1, rv b176, iv (16 : Int32), iv (-1 : Int32), iv (1 : Int32)] [(.int (1 : Int32))])) _
      show Steps p.tables e below (T633.setTop (mkF m 257 #[iv p0_0, .val (.long oc), .second, rv b1, rv b176, iv (16 : Int32), iv (-1 : Int32), iv (1 : Int32)] [(.int (1 : Int32))])) _
      refine XS.iload X633.here hx rfl (hb hby at_257) rfl ?_
      show Steps p.tables e below (T633.setTop (mkF m 259 #[iv p0_0, .val (.long oc), .second, rv b1, rv b176, iv (16 : Int32), iv (-1 : Int32), iv (1 : Int32)] [(.int (1 : Int32)), (.int (1 : Int32))])) _
      refine XS.icmpNo X633.here hx rfl (hb hby at_259) rfl (teq (by decide : (1 : Int32) = (1 : Int32))).2 ?_
      show Steps p.tables e below (T633.setTop (mkF m 262 #[iv p0_0, .val (.long oc), .second, rv b1, rv b176, iv (16 : Int32), iv (-1 : Int32), iv (1 : Int32)] [])) _
      refine XS.iconst X633.here hx rfl (hb hby at_262) ?_
      show Steps p.tables e below (T633.setTop (mkF m 263 #[iv p0_0, .val (.long oc), .second, rv b1, rv b176, iv (16 : Int32), iv (-1 : Int32), iv (1 : Int32)] [(.int (1 : Int32))])) _
      refine XS.goto X633.here hx rfl (pc0 := 263) (pc' := 267) rfl (hb hby at_263) (by decide) (by decide) ?_
      show Steps p.tables e below (T633.setTop (mkF m 267 #[iv p0_0, .val (.long oc), .second, rv b1, rv b176, iv (16 : Int32), iv (-1 : Int32), iv (1 : Int32)] [(.int (1 : Int32))])) _
      exact retN X633 hx (t := .boolean) Bd.returns (by simp) (hb hby at_267) hr
    · show Q_rm0 Z _ _ _ _ _ _ _ _ _ _ _ _ _ _ _ _ _ _ _ h0 n0 _ T633.heap _
      rw [K633q]
      exact ⟨rfl, N636, (K316)⟩
set_option maxRecDepth 65536 in
set_option maxHeartbeats 40000000 in
theorem comes_1 {Post : Tables → Env → Array Value → State → Outcome → State → Prop} (hpost : ∀ tb e args s v u, (limb_1_1.after args s (.returned v) u = true ∧ limb_1_2.after args s (.returned v) u = true ∧ True) → FrameEnd s (.returned v) u (Jvm.fieldLocs frame_1_writes args s ++ Jvm.arrayLocs frame_1_arrays args s ++ Jvm.staticLocs frame_1_statics s) 16 192 → Post tb e args s (.returned v) u) :
    ArmFor flags0 classFile x code maxLocals ret World_1 tables_1 room_1 Calls_1 rest_1 Pre_1 Post := by
  intro l hfl _ _ p e ha hc hk s m args below hf hA hF happ hP
  obtain ⟨hcalls, hrest, hpre⟩ := hP
  obtain ⟨-, -, -, hnamed, -, -, -, hat⟩ := (Spec.applies_iff hf).mp happ
  obtain ⟨hg, hn⟩ := and_e (Cond.before_iff.mp (show (Jvm.Cond.and given_1 narrow_1).before args s = true from hpre))
  obtain ⟨g1, g2⟩ := and_e hg
  obtain ⟨g3, g4⟩ := and_e g2
  obtain ⟨w0, w1, rfl⟩ : ∃ w0 w1 : Value, args = #[w0, w1] := by
    have hs : args.size = 2 := by simpa [Cond.value, given_1] using g1
    obtain ⟨L⟩ := args
    match L, hs with
    | [w0, w1], _ => exact ⟨w0, w1, rfl⟩
  have hw := fun d (hd : d ∈ tables_1) => atoms_spec (ws := Jvm.Cond.code x code maxLocals ret :: tables_1) hat d (List.mem_cons_of_mem _ hd)
  have hfit : Fit s := fun {y c} hc i hi => by
    obtain ⟨ha, rfl⟩ := Array.getElem?_eq_some_iff.mp hc
    have q := List.all_eq_true.mp ((Array.all_eq_true_iff_forall_mem.mp hF) _ (Array.getElem_mem ha)) i (List.mem_range.mpr hi)
    simpa [Array.getElem?_eq_getElem hi] using q
  obtain ⟨i0, ei0⟩ := is_v g3
  obtain rfl : w0 = (.int i0) := Option.some.inj ei0
  obtain ⟨i1, ei1⟩ := isL_v g4
  obtain rfl : w1 = (.long i1) := Option.some.inj ei1
  obtain ⟨hn1a, hn1b⟩ := and_e hn
  obtain ⟨hn2a, hn2b⟩ := and_e hn1b
  obtain ⟨hn3a, hn3b⟩ := and_e hn2b
  obtain ⟨hn4a, hn4b⟩ := and_e hn3b
  obtain ⟨hn5a, hn5b⟩ := and_e hn4b
  obtain ⟨hn6a, hn6b⟩ := and_e hn5b
  obtain ⟨hn7a, hn7b⟩ := and_e hn6b
  obtain ⟨hn8a, hn8b⟩ := and_e hn7b
  obtain ⟨hn9a, hn9b⟩ := and_e hn8b
  obtain ⟨hn10a, hn10b⟩ := and_e hn9b
  obtain ⟨hn11a, hn11b⟩ := and_e hn10b
  obtain ⟨hn12a, hn12b⟩ := and_e hn11b
  obtain ⟨hn13a, hn13b⟩ := and_e hn12b
  obtain ⟨hn14a, hn14b⟩ := and_e hn13b
  obtain ⟨hn15a, hn15b⟩ := and_e hn14b
  obtain ⟨hn16a, hn16b⟩ := and_e hn15b
  obtain ⟨hn17a, hn17b⟩ := and_e hn16b
  obtain ⟨hn18a, hn18b⟩ := and_e hn17b
  obtain ⟨hn19a, hn19b⟩ := and_e hn18b
  obtain ⟨hn20a, hn20b⟩ := and_e hn19b
  obtain ⟨hn21a, hn21b⟩ := and_e hn20b
  obtain ⟨hn22a, hn22b⟩ := and_e hn21b
  obtain ⟨hn23a, hn23b⟩ := and_e hn22b
  obtain ⟨hn24a, hn24b⟩ := and_e hn23b
  obtain ⟨hn25a, hn25b⟩ := and_e hn24b
  obtain ⟨hn26a, hn26b⟩ := and_e hn25b
  obtain ⟨hn27a, hn27b⟩ := and_e hn26b
  obtain ⟨hn28a, hn28b⟩ := and_e hn27b
  obtain ⟨hn29a, hn29b⟩ := and_e hn28b
  obtain ⟨hn30a, hn30b⟩ := and_e hn29b
  obtain ⟨hn31a, hn31b⟩ := and_e hn30b
  obtain ⟨hn32a, hn32b⟩ := and_e hn31b
  obtain ⟨hn33a, hn33b⟩ := and_e hn32b
  obtain ⟨s_READ, es_READ⟩ := exa_v hn1a
  have Ss_READ : Sta s s.heap "com/example/unand/unand/model/Command" "READ" "Lcom/example/unand/unand/model/Command;" (.ref s_READ) := Sta.start es_READ (Or.inr ⟨(hw _ (List.mem_of_getElem? (i := 3) rfl)), (hw _ (List.mem_of_getElem? (i := 4) rfl))⟩)
  have Es_READ := Exa.start es_READ hn1a
  obtain ⟨s_COPYBACK_READ, es_COPYBACK_READ⟩ := exa_v hn2a
  have Ss_COPYBACK_READ : Sta s s.heap "com/example/unand/unand/model/Command" "COPYBACK_READ" "Lcom/example/unand/unand/model/Command;" (.ref s_COPYBACK_READ) := Sta.start es_COPYBACK_READ (Or.inr ⟨(hw _ (List.mem_of_getElem? (i := 3) rfl)), (hw _ (List.mem_of_getElem? (i := 7) rfl))⟩)
  have Es_COPYBACK_READ := Exa.start es_COPYBACK_READ hn2a
  obtain ⟨s_CHANGE_READ_COLUMN, es_CHANGE_READ_COLUMN⟩ := exa_v hn3a
  have Ss_CHANGE_READ_COLUMN : Sta s s.heap "com/example/unand/unand/model/Command" "CHANGE_READ_COLUMN" "Lcom/example/unand/unand/model/Command;" (.ref s_CHANGE_READ_COLUMN) := Sta.start es_CHANGE_READ_COLUMN (Or.inr ⟨(hw _ (List.mem_of_getElem? (i := 3) rfl)), (hw _ (List.mem_of_getElem? (i := 9) rfl))⟩)
  have Es_CHANGE_READ_COLUMN := Exa.start es_CHANGE_READ_COLUMN hn3a
  obtain ⟨s_READ_CACHE, es_READ_CACHE⟩ := exa_v hn4a
  have Ss_READ_CACHE : Sta s s.heap "com/example/unand/unand/model/Command" "READ_CACHE" "Lcom/example/unand/unand/model/Command;" (.ref s_READ_CACHE) := Sta.start es_READ_CACHE (Or.inr ⟨(hw _ (List.mem_of_getElem? (i := 3) rfl)), (hw _ (List.mem_of_getElem? (i := 11) rfl))⟩)
  have Es_READ_CACHE := Exa.start es_READ_CACHE hn4a
  obtain ⟨s_READ_CACHE_END, es_READ_CACHE_END⟩ := exa_v hn5a
  have Ss_READ_CACHE_END : Sta s s.heap "com/example/unand/unand/model/Command" "READ_CACHE_END" "Lcom/example/unand/unand/model/Command;" (.ref s_READ_CACHE_END) := Sta.start es_READ_CACHE_END (Or.inr ⟨(hw _ (List.mem_of_getElem? (i := 3) rfl)), (hw _ (List.mem_of_getElem? (i := 13) rfl))⟩)
  have Es_READ_CACHE_END := Exa.start es_READ_CACHE_END hn5a
  obtain ⟨s_BLOCK_ERASE, es_BLOCK_ERASE⟩ := exa_v hn6a
  have Ss_BLOCK_ERASE : Sta s s.heap "com/example/unand/unand/model/Command" "BLOCK_ERASE" "Lcom/example/unand/unand/model/Command;" (.ref s_BLOCK_ERASE) := Sta.start es_BLOCK_ERASE (Or.inr ⟨(hw _ (List.mem_of_getElem? (i := 3) rfl)), (hw _ (List.mem_of_getElem? (i := 15) rfl))⟩)
  have Es_BLOCK_ERASE := Exa.start es_BLOCK_ERASE hn6a
  obtain ⟨s_READ_STATUS, es_READ_STATUS⟩ := exa_v hn7a
  have Ss_READ_STATUS : Sta s s.heap "com/example/unand/unand/model/Command" "READ_STATUS" "Lcom/example/unand/unand/model/Command;" (.ref s_READ_STATUS) := Sta.start es_READ_STATUS (Or.inr ⟨(hw _ (List.mem_of_getElem? (i := 3) rfl)), (hw _ (List.mem_of_getElem? (i := 17) rfl))⟩)
  have Es_READ_STATUS := Exa.start es_READ_STATUS hn7a
  obtain ⟨s_READ_STATUS_ENHANCED, es_READ_STATUS_ENHANCED⟩ := exa_v hn8a
  have Ss_READ_STATUS_ENHANCED : Sta s s.heap "com/example/unand/unand/model/Command" "READ_STATUS_ENHANCED" "Lcom/example/unand/unand/model/Command;" (.ref s_READ_STATUS_ENHANCED) := Sta.start es_READ_STATUS_ENHANCED (Or.inr ⟨(hw _ (List.mem_of_getElem? (i := 3) rfl)), (hw _ (List.mem_of_getElem? (i := 19) rfl))⟩)
  have Es_READ_STATUS_ENHANCED := Exa.start es_READ_STATUS_ENHANCED hn8a
  obtain ⟨s_PAGE_PROGRAM, es_PAGE_PROGRAM⟩ := exa_v hn9a
  have Ss_PAGE_PROGRAM : Sta s s.heap "com/example/unand/unand/model/Command" "PAGE_PROGRAM" "Lcom/example/unand/unand/model/Command;" (.ref s_PAGE_PROGRAM) := Sta.start es_PAGE_PROGRAM (Or.inr ⟨(hw _ (List.mem_of_getElem? (i := 3) rfl)), (hw _ (List.mem_of_getElem? (i := 21) rfl))⟩)
  have Es_PAGE_PROGRAM := Exa.start es_PAGE_PROGRAM hn9a
  obtain ⟨s_PAGE_CACHE_PROGRAM, es_PAGE_CACHE_PROGRAM⟩ := exa_v hn10a
  have Ss_PAGE_CACHE_PROGRAM : Sta s s.heap "com/example/unand/unand/model/Command" "PAGE_CACHE_PROGRAM" "Lcom/example/unand/unand/model/Command;" (.ref s_PAGE_CACHE_PROGRAM) := Sta.start es_PAGE_CACHE_PROGRAM (Or.inr ⟨(hw _ (List.mem_of_getElem? (i := 3) rfl)), (hw _ (List.mem_of_getElem? (i := 23) rfl))⟩)
  have Es_PAGE_CACHE_PROGRAM := Exa.start es_PAGE_CACHE_PROGRAM hn10a
  obtain ⟨s_CHANGE_WRITE_COLUMN, es_CHANGE_WRITE_COLUMN⟩ := exa_v hn11a
  have Ss_CHANGE_WRITE_COLUMN : Sta s s.heap "com/example/unand/unand/model/Command" "CHANGE_WRITE_COLUMN" "Lcom/example/unand/unand/model/Command;" (.ref s_CHANGE_WRITE_COLUMN) := Sta.start es_CHANGE_WRITE_COLUMN (Or.inr ⟨(hw _ (List.mem_of_getElem? (i := 3) rfl)), (hw _ (List.mem_of_getElem? (i := 25) rfl))⟩)
  have Es_CHANGE_WRITE_COLUMN := Exa.start es_CHANGE_WRITE_COLUMN hn11a
  obtain ⟨s_READ_ID, es_READ_ID⟩ := exa_v hn12a
  have Ss_READ_ID : Sta s s.heap "com/example/unand/unand/model/Command" "READ_ID" "Lcom/example/unand/unand/model/Command;" (.ref s_READ_ID) := Sta.start es_READ_ID (Or.inr ⟨(hw _ (List.mem_of_getElem? (i := 3) rfl)), (hw _ (List.mem_of_getElem? (i := 27) rfl))⟩)
  have Es_READ_ID := Exa.start es_READ_ID hn12a
  obtain ⟨s_READ_PARAMETER_PAGE, es_READ_PARAMETER_PAGE⟩ := exa_v hn13a
  have Ss_READ_PARAMETER_PAGE : Sta s s.heap "com/example/unand/unand/model/Command" "READ_PARAMETER_PAGE" "Lcom/example/unand/unand/model/Command;" (.ref s_READ_PARAMETER_PAGE) := Sta.start es_READ_PARAMETER_PAGE (Or.inr ⟨(hw _ (List.mem_of_getElem? (i := 3) rfl)), (hw _ (List.mem_of_getElem? (i := 29) rfl))⟩)
  have Es_READ_PARAMETER_PAGE := Exa.start es_READ_PARAMETER_PAGE hn13a
  obtain ⟨s_READ_UNIQUE_ID, es_READ_UNIQUE_ID⟩ := exa_v hn14a
  have Ss_READ_UNIQUE_ID : Sta s s.heap "com/example/unand/unand/model/Command" "READ_UNIQUE_ID" "Lcom/example/unand/unand/model/Command;" (.ref s_READ_UNIQUE_ID) := Sta.start es_READ_UNIQUE_ID (Or.inr ⟨(hw _ (List.mem_of_getElem? (i := 3) rfl)), (hw _ (List.mem_of_getElem? (i := 31) rfl))⟩)
  have Es_READ_UNIQUE_ID := Exa.start es_READ_UNIQUE_ID hn14a
  obtain ⟨s_GET_FEATURES, es_GET_FEATURES⟩ := exa_v hn15a
  have Ss_GET_FEATURES : Sta s s.heap "com/example/unand/unand/model/Command" "GET_FEATURES" "Lcom/example/unand/unand/model/Command;" (.ref s_GET_FEATURES) := Sta.start es_GET_FEATURES (Or.inr ⟨(hw _ (List.mem_of_getElem? (i := 3) rfl)), (hw _ (List.mem_of_getElem? (i := 33) rfl))⟩)
  have Es_GET_FEATURES := Exa.start es_GET_FEATURES hn15a
  obtain ⟨s_SET_FEATURES, es_SET_FEATURES⟩ := exa_v hn16a
  have Ss_SET_FEATURES : Sta s s.heap "com/example/unand/unand/model/Command" "SET_FEATURES" "Lcom/example/unand/unand/model/Command;" (.ref s_SET_FEATURES) := Sta.start es_SET_FEATURES (Or.inr ⟨(hw _ (List.mem_of_getElem? (i := 3) rfl)), (hw _ (List.mem_of_getElem? (i := 35) rfl))⟩)
  have Es_SET_FEATURES := Exa.start es_SET_FEATURES hn16a
  obtain ⟨s_RESET, es_RESET⟩ := exa_v hn17a
  have Ss_RESET : Sta s s.heap "com/example/unand/unand/model/Command" "RESET" "Lcom/example/unand/unand/model/Command;" (.ref s_RESET) := Sta.start es_RESET (Or.inr ⟨(hw _ (List.mem_of_getElem? (i := 3) rfl)), (hw _ (List.mem_of_getElem? (i := 37) rfl))⟩)
  have Es_RESET := Exa.start es_RESET hn17a
  have vs_READ := own_eqv hn18a
  rw [fld_at es_READ] at vs_READ
  have Fs_READ := Fld.start vs_READ
  have vs_COPYBACK_READ := own_eqv hn19a
  rw [fld_at es_COPYBACK_READ] at vs_COPYBACK_READ
  have Fs_COPYBACK_READ := Fld.start vs_COPYBACK_READ
  have vs_READ_STATUS := own_eqv hn20a
  rw [fld_at es_READ_STATUS] at vs_READ_STATUS
  have Fs_READ_STATUS := Fld.start vs_READ_STATUS
  have vs_CHANGE_WRITE_COLUMN := own_eqv hn21a
  rw [fld_at es_CHANGE_WRITE_COLUMN] at vs_CHANGE_WRITE_COLUMN
  have Fs_CHANGE_WRITE_COLUMN := Fld.start vs_CHANGE_WRITE_COLUMN
  have vs_READ_CACHE_END := own_eqv hn22a
  rw [fld_at es_READ_CACHE_END] at vs_READ_CACHE_END
  have Fs_READ_CACHE_END := Fld.start vs_READ_CACHE_END
  have vs_READ_STATUS_ENHANCED := own_eqv hn23a
  rw [fld_at es_READ_STATUS_ENHANCED] at vs_READ_STATUS_ENHANCED
  have Fs_READ_STATUS_ENHANCED := Fld.start vs_READ_STATUS_ENHANCED
  have vs_READ_CACHE := own_eqv hn24a
  rw [fld_at es_READ_CACHE] at vs_READ_CACHE
  have Fs_READ_CACHE := Fld.start vs_READ_CACHE
  have vs_RESET := own_eqv hn25a
  rw [fld_at es_RESET] at vs_RESET
  have Fs_RESET := Fld.start vs_RESET
  have vs_READ_PARAMETER_PAGE := own_eqv hn26a
  rw [fld_at es_READ_PARAMETER_PAGE] at vs_READ_PARAMETER_PAGE
  have Fs_READ_PARAMETER_PAGE := Fld.start vs_READ_PARAMETER_PAGE
  have vs_CHANGE_READ_COLUMN := own_eqv hn27a
  rw [fld_at es_CHANGE_READ_COLUMN] at vs_CHANGE_READ_COLUMN
  have Fs_CHANGE_READ_COLUMN := Fld.start vs_CHANGE_READ_COLUMN
  have vs_BLOCK_ERASE := own_eqv hn28a
  rw [fld_at es_BLOCK_ERASE] at vs_BLOCK_ERASE
  have Fs_BLOCK_ERASE := Fld.start vs_BLOCK_ERASE
  have vs_READ_UNIQUE_ID := own_eqv hn29a
  rw [fld_at es_READ_UNIQUE_ID] at vs_READ_UNIQUE_ID
  have Fs_READ_UNIQUE_ID := Fld.start vs_READ_UNIQUE_ID
  have vs_GET_FEATURES := own_eqv hn30a
  rw [fld_at es_GET_FEATURES] at vs_GET_FEATURES
  have Fs_GET_FEATURES := Fld.start vs_GET_FEATURES
  have vs_PAGE_PROGRAM := own_eqv hn31a
  rw [fld_at es_PAGE_PROGRAM] at vs_PAGE_PROGRAM
  have Fs_PAGE_PROGRAM := Fld.start vs_PAGE_PROGRAM
  have vs_PAGE_CACHE_PROGRAM := own_eqv hn32a
  rw [fld_at es_PAGE_CACHE_PROGRAM] at vs_PAGE_CACHE_PROGRAM
  have Fs_PAGE_CACHE_PROGRAM := Fld.start vs_PAGE_CACHE_PROGRAM
  have vs_SET_FEATURES := own_eqv hn33a
  rw [fld_at es_SET_FEATURES] at vs_SET_FEATURES
  have Fs_SET_FEATURES := Fld.start vs_SET_FEATURES
  have vs_READ_ID := own_eqv hn33b
  rw [fld_at es_READ_ID] at vs_READ_ID
  have Fs_READ_ID := Fld.start vs_READ_ID
  obtain ⟨n, o, h1, h2, h3, _, L, rfl, ⟨rfl, N, -⟩, hq⟩ := rm0 l s _ hw tables_1 i0 i1 s_READ s_COPYBACK_READ s_CHANGE_READ_COLUMN s_READ_CACHE s_READ_CACHE_END s_BLOCK_ERASE s_READ_STATUS s_READ_STATUS_ENHANCED s_PAGE_PROGRAM s_PAGE_CACHE_PROGRAM s_CHANGE_WRITE_COLUMN s_READ_ID s_READ_PARAMETER_PAGE s_READ_UNIQUE_ID s_GET_FEATURES s_SET_FEATURES s_RESET s.heap s.heap.size (Nat.le_refl _) (Old.start s) Ss_READ Es_READ Ss_COPYBACK_READ Es_COPYBACK_READ Ss_CHANGE_READ_COLUMN Es_CHANGE_READ_COLUMN Ss_READ_CACHE Es_READ_CACHE Ss_READ_CACHE_END Es_READ_CACHE_END Ss_BLOCK_ERASE Es_BLOCK_ERASE Ss_READ_STATUS Es_READ_STATUS Ss_READ_STATUS_ENHANCED Es_READ_STATUS_ENHANCED Ss_PAGE_PROGRAM Es_PAGE_PROGRAM Ss_PAGE_CACHE_PROGRAM Es_PAGE_CACHE_PROGRAM Ss_CHANGE_WRITE_COLUMN Es_CHANGE_WRITE_COLUMN Ss_READ_ID Es_READ_ID Ss_READ_PARAMETER_PAGE Es_READ_PARAMETER_PAGE Ss_READ_UNIQUE_ID Es_READ_UNIQUE_ID Ss_GET_FEATURES Es_GET_FEATURES Ss_SET_FEATURES Es_SET_FEATURES Ss_RESET Es_RESET Fs_READ Fs_COPYBACK_READ Fs_READ_STATUS Fs_CHANGE_WRITE_COLUMN Fs_READ_CACHE_END Fs_READ_STATUS_ENHANCED Fs_READ_CACHE Fs_RESET Fs_READ_PARAMETER_PAGE Fs_CHANGE_READ_COLUMN Fs_BLOCK_ERASE Fs_READ_UNIQUE_ID Fs_GET_FEATURES Fs_PAGE_PROGRAM Fs_PAGE_CACHE_PROGRAM Fs_SET_FEATURES Fs_READ_ID p e ha hc hk s m _ below hf ((Spec.applies_iff_loose hf).mp happ).1 ⟨rfl, State.Warmed39.refl s, rfl⟩ trivial
  refine ⟨n, _, h1, h2, h3, hpost _ _ _ _ _ _ ⟨Cond.after_iff.mpr rfl, Cond.after_iff.mpr (eq_i res_at (Term.int_eval (1)) rfl), trivial⟩ ⟨hq.1, hq.2.1, (hq.2.2.sift fun y hy => Or.inr (N y hy)).mono (by decide) (by decide)⟩⟩
theorem main_1_1 : Claimed_1_1 := comes_1 fun _ _ _ _ _ _ h hF => ⟨h.1, hF⟩
theorem main_1_2 : Claimed_1_2 := comes_1 fun _ _ _ _ _ _ h hF => ⟨h.2.1, hF⟩
end Jvm.Pilot.@@N@@
namespace Jvm.Pilot.@@N@@
open Jvm Jvm.ClassFile Sem Op Lib Jvm.Free Jvm.Stand Jvm.Pilot.@@N@@.Jvm.D
/-! MADE BY PROGRAM (witnessworld.py) out of the Statement's table words and the real class files: 13 classes; the members and pool entries that the words name. The judged class is class 1, her method 1. -/
namespace start1
open Jvm.ClassFile
def u (s : String) : CpInfo := .utf8 (stringToUtf16 s)
/-- a pool by its gaps: so many unusable entries, then the entry; so many at the end -/
def gap : Nat → List CpInfo → List CpInfo
  | 0, r => r
  | n + 1, r => .unusable :: gap n r
def poolList (es : List (Nat × CpInfo)) (last : Nat) : List CpInfo := es.foldr (fun e r => gap e.1 (e.2 :: r)) (gap last [])
def pool (es : List (Nat × CpInfo)) (last : Nat) : Array CpInfo := ⟨poolList es last⟩
def fileOf (pool : Array CpInfo) (this : Nat) (attrs : Array Attribute := #[]) (ms : Array MethodInfo := #[]) (fl : Nat := 33) (sup : Nat := 0) (ifs : Array Nat := #[]) (fds : Array FieldInfo := #[]) : ClassFile where
  minorVersion := 0
  majorVersion := 65
  constantPool := pool
  accessFlags := fl
  thisClass := this
  superClass := sup
  interfaces := ifs
  fields := fds
  methods := ms
  attributes := attrs
def plain (name : String) (sup : Option ClassId) : Class where
  name := name
  kind := .ordinary
  loader := none
  accessFlags := 33
  super := sup
  interfaces := #[]
  cf := none
  fields := #[]
  methods := #[]
  instanceTypes := #[]
  staticTypes := #[]
  resolved := #[]
  callSites := []
  init := .initialized
  statics := none
  mirror := none

def pool0 : Array CpInfo := pool [(5, u "<init>"), (0, u "()V"), (1, .class_ 10), (1, u "java/lang/Object")] 113

def k0m0 : Method := { name := "<init>", desc := "()V", sig := { parameters := [], returnType := none }, accessFlags := 1, code := none }
/-- java/lang/Object -/
def k0 : Class := { plain "java/lang/Object" none with
  accessFlags := 33
  interfaces := #[]
  cf := some (fileOf pool0 8 #[] #[{ accessFlags := 1, nameIndex := 5, descriptorIndex := 6, attributes := #[] }] 33 0 #[] #[])
  fields := #[]
  methods := #[k0m0]
  instanceTypes := #[]
  staticTypes := #[]
  resolved := Array.replicate 124 none
  statics := none }

def pool1 : Array CpInfo := pool [(2, .class_ 4), (1, u "java/lang/Object"), (0, u "<init>"), (0, u "()V"), (0, .class_ 8), (0, u "com/example/unand/unand/model/Command"), (0, .fieldref 7 10), (0, .nameAndType 11 12), (0, u "READ"), (0, u "Lcom/example/unand/unand/model/Command;"), (0, .fieldref 7 14), (0, .nameAndType 15 12), (0, u "COPYBACK_READ"), (0, .fieldref 7 17), (0, .nameAndType 18 12), (0, u "CHANGE_READ_COLUMN"), (0, .fieldref 7 20), (0, .nameAndType 21 12), (0, u "READ_CACHE"), (0, .fieldref 7 23), (0, .nameAndType 24 12), (0, u "READ_CACHE_END"), (0, .fieldref 7 26), (0, .nameAndType 27 12), (0, u "BLOCK_ERASE"), (0, .fieldref 7 29), (0, .nameAndType 30 12), (0, u "READ_STATUS"), (0, .fieldref 7 32), (0, .nameAndType 33 12), (0, u "READ_STATUS_ENHANCED"), (0, .fieldref 7 35), (0, .nameAndType 36 12), (0, u "PAGE_PROGRAM"), (0, .fieldref 7 38), (0, .nameAndType 39 12), (0, u "PAGE_CACHE_PROGRAM"), (0, .fieldref 7 41), (0, .nameAndType 42 12), (0, u "CHANGE_WRITE_COLUMN"), (0, .fieldref 7 44), (0, .nameAndType 45 12), (0, u "READ_ID"), (0, .fieldref 7 47), (0, .nameAndType 48 12), (0, u "READ_PARAMETER_PAGE"), (0, .fieldref 7 50), (0, .nameAndType 51 12), (0, u "READ_UNIQUE_ID"), (0, .fieldref 7 53), (0, .nameAndType 54 12), (0, u "GET_FEATURES"), (0, .fieldref 7 56), (0, .nameAndType 57 12), (0, u "SET_FEATURES"), (0, .fieldref 7 59), (0, .nameAndType 60 12), (0, u "RESET"), (0, .integer 2147483647), (0, .methodref 7 63), (0, .nameAndType 64 65), (0, u "supportedBy"), (0, u "(J)Z"), (0, .class_ 67), (0, u "com/example/unand/unand/model/CommandSupportedByPinLaw"), (2, u "law"), (0, u "(IJ)Z")] 7

def k1m0 : Method := { name := "<init>", desc := "()V", sig := { parameters := [], returnType := none }, accessFlags := 1, code := none }
def k1c1 : Code := { maxStack := 5, maxLocals := 8, code := code, exceptionTable := #[], attributes := #[] }
def k1m1 : Method := { name := "law", desc := "(IJ)Z", sig := { parameters := [.int, .long], returnType := some .boolean }, accessFlags := 9, code := some k1c1 }
/-- com/example/unand/unand/model/CommandSupportedByPinLaw -/
def k1 : Class := { plain "com/example/unand/unand/model/CommandSupportedByPinLaw" (some 0) with
  accessFlags := 49
  interfaces := #[]
  cf := some (fileOf pool1 66 #[] #[{ accessFlags := 1, nameIndex := 5, descriptorIndex := 6, attributes := #[] }, { accessFlags := 9, nameIndex := 70, descriptorIndex := 71, attributes := #[] }] 49 2 #[] #[])
  fields := #[]
  methods := #[k1m0, k1m1]
  instanceTypes := #[]
  staticTypes := #[]
  resolved := Array.replicate 79 none
  statics := none }

def pool2 : Array CpInfo := pool [(1, .class_ 2), (0, u "java/lang/constant/Constable"), (0, .class_ 4), (0, u "java/lang/Object")] 6

/-- java/lang/constant/Constable -/
def k2 : Class := { plain "java/lang/constant/Constable" (some 0) with
  accessFlags := 1537
  interfaces := #[]
  cf := some (fileOf pool2 1 #[] #[] 1537 3 #[] #[])
  fields := #[]
  methods := #[]
  instanceTypes := #[]
  staticTypes := #[]
  resolved := Array.replicate 11 none
  statics := none }

def pool3 : Array CpInfo := pool [(1, .class_ 2), (0, u "java/lang/Comparable"), (0, .class_ 4), (0, u "java/lang/Object")] 7

/-- java/lang/Comparable -/
def k3 : Class := { plain "java/lang/Comparable" (some 0) with
  accessFlags := 1537
  interfaces := #[]
  cf := some (fileOf pool3 1 #[] #[] 1537 3 #[] #[])
  fields := #[]
  methods := #[]
  instanceTypes := #[]
  staticTypes := #[]
  resolved := Array.replicate 12 none
  statics := none }

def pool4 : Array CpInfo := pool [(1, .class_ 2), (0, u "java/io/Serializable"), (0, .class_ 4), (0, u "java/lang/Object")] 2

/-- java/io/Serializable -/
def k4 : Class := { plain "java/io/Serializable" (some 0) with
  accessFlags := 1537
  interfaces := #[]
  cf := some (fileOf pool4 1 #[] #[] 1537 3 #[] #[])
  fields := #[]
  methods := #[]
  instanceTypes := #[]
  staticTypes := #[]
  resolved := Array.replicate 7 none
  statics := none }

def pool5 : Array CpInfo := pool [(2, .class_ 4), (1, u "java/lang/Enum"), (0, u "name"), (0, u "Ljava/lang/String;"), (2, u "ordinal"), (0, u "I"), (1, .class_ 14), (1, u "java/lang/Object"), (4, u "hash"), (86, .class_ 108), (1, u "java/lang/Enum$EnumDesc"), (2, .class_ 112), (0, u "java/lang/constant/Constable"), (0, .class_ 114), (0, u "java/lang/Comparable"), (0, .class_ 116), (0, u "java/io/Serializable")] 87

/-- java/lang/Enum -/
def k5 : Class := { plain "java/lang/Enum" (some 0) with
  accessFlags := 1057
  interfaces := #[2, 3, 4]
  cf := some (fileOf pool5 2 #[.nestMembers #[106]] #[] 1057 12 #[111, 113, 115] #[{ accessFlags := 18, nameIndex := 5, descriptorIndex := 6, attributes := #[] }, { accessFlags := 18, nameIndex := 9, descriptorIndex := 10, attributes := #[] }, { accessFlags := 2, nameIndex := 19, descriptorIndex := 10, attributes := #[] }])
  fields := #[{ name := "name", type := (.object "java/lang/String"), accessFlags := 18, slot := 0, constantValue := 0 }, { name := "ordinal", type := .int, accessFlags := 18, slot := 1, constantValue := 0 }, { name := "hash", type := .int, accessFlags := 2, slot := 2, constantValue := 0 }]
  methods := #[]
  instanceTypes := #[(.object "java/lang/String"), .int, .int]
  staticTypes := #[]
  resolved := Array.replicate 204 none
  statics := none }

def pool6 : Array CpInfo := pool [(1, .class_ 2), (0, u "com/example/unand/unand/model/Command"), (2, u "READ"), (0, u "Lcom/example/unand/unand/model/Command;"), (2, u "COPYBACK_READ"), (2, u "CHANGE_READ_COLUMN"), (2, u "READ_CACHE"), (2, u "READ_CACHE_END"), (2, u "BLOCK_ERASE"), (2, u "READ_STATUS"), (2, u "READ_STATUS_ENHANCED"), (2, u "PAGE_PROGRAM"), (2, u "PAGE_CACHE_PROGRAM"), (2, u "CHANGE_WRITE_COLUMN"), (2, u "READ_ID"), (2, u "READ_PARAMETER_PAGE"), (2, u "READ_UNIQUE_ID"), (2, u "GET_FEATURES"), (2, u "SET_FEATURES"), (2, u "RESET"), (2, u "$VALUES"), (0, u "[Lcom/example/unand/unand/model/Command;"), (6, .class_ 67), (1, u "java/lang/Enum"), (11, u "name"), (0, u "Ljava/lang/String;"), (2, u "firstCycle"), (0, u "I"), (2, u "address"), (0, u "Lcom/example/unand/unand/model/Command$Address;"), (2, u "secondCycle"), (0, .fieldref 1 93), (0, .nameAndType 94 84), (0, u "optionalBit"), (2, u "whileBusy"), (0, u "Lcom/example/unand/unand/model/Command$WhileBusy;"), (73, .class_ 174), (1, u "com/example/unand/unand/model/Command$Address"), (2, .class_ 179), (1, u "com/example/unand/unand/model/Command$WhileBusy"), (73, u "NO_SECOND_CYCLE"), (2, u "MANDATORY"), (18, u "supportedBy"), (0, u "(J)Z")] 52

def k6c0 : Code := { maxStack := 4, maxLocals := 3, code := prog_34_method_13_code, exceptionTable := #[], attributes := #[] }
def k6m0 : Method := { name := "supportedBy", desc := "(J)Z", sig := { parameters := [.long], returnType := some .boolean }, accessFlags := 0, code := some k6c0 }
/-- com/example/unand/unand/model/Command -/
def k6 : Class := { plain "com/example/unand/unand/model/Command" (some 5) with
  accessFlags := 16432
  interfaces := #[]
  cf := some (fileOf pool6 1 #[.nestMembers #[177, 172]] #[{ accessFlags := 0, nameIndex := 275, descriptorIndex := 276, attributes := #[] }] 16432 65 #[] #[{ accessFlags := 16409, nameIndex := 5, descriptorIndex := 6, attributes := #[] }, { accessFlags := 16409, nameIndex := 9, descriptorIndex := 6, attributes := #[] }, { accessFlags := 16409, nameIndex := 12, descriptorIndex := 6, attributes := #[] }, { accessFlags := 16409, nameIndex := 15, descriptorIndex := 6, attributes := #[] }, { accessFlags := 16409, nameIndex := 18, descriptorIndex := 6, attributes := #[] }, { accessFlags := 16409, nameIndex := 21, descriptorIndex := 6, attributes := #[] }, { accessFlags := 16409, nameIndex := 24, descriptorIndex := 6, attributes := #[] }, { accessFlags := 16409, nameIndex := 27, descriptorIndex := 6, attributes := #[] }, { accessFlags := 16409, nameIndex := 30, descriptorIndex := 6, attributes := #[] }, { accessFlags := 16409, nameIndex := 33, descriptorIndex := 6, attributes := #[] }, { accessFlags := 16409, nameIndex := 36, descriptorIndex := 6, attributes := #[] }, { accessFlags := 16409, nameIndex := 39, descriptorIndex := 6, attributes := #[] }, { accessFlags := 16409, nameIndex := 42, descriptorIndex := 6, attributes := #[] }, { accessFlags := 16409, nameIndex := 45, descriptorIndex := 6, attributes := #[] }, { accessFlags := 16409, nameIndex := 48, descriptorIndex := 6, attributes := #[] }, { accessFlags := 16409, nameIndex := 51, descriptorIndex := 6, attributes := #[] }, { accessFlags := 16409, nameIndex := 54, descriptorIndex := 6, attributes := #[] }, { accessFlags := 24, nameIndex := 253, descriptorIndex := 84, attributes := #[] }, { accessFlags := 26, nameIndex := 256, descriptorIndex := 84, attributes := #[] }, { accessFlags := 18, nameIndex := 79, descriptorIndex := 80, attributes := #[] }, { accessFlags := 18, nameIndex := 83, descriptorIndex := 84, attributes := #[] }, { accessFlags := 18, nameIndex := 87, descriptorIndex := 88, attributes := #[] }, { accessFlags := 18, nameIndex := 91, descriptorIndex := 84, attributes := #[] }, { accessFlags := 18, nameIndex := 94, descriptorIndex := 84, attributes := #[] }, { accessFlags := 18, nameIndex := 97, descriptorIndex := 98, attributes := #[] }, { accessFlags := 4122, nameIndex := 57, descriptorIndex := 58, attributes := #[] }])
  fields := #[{ name := "READ", type := (.object "com/example/unand/unand/model/Command"), accessFlags := 16409, slot := 0, constantValue := 0 }, { name := "COPYBACK_READ", type := (.object "com/example/unand/unand/model/Command"), accessFlags := 16409, slot := 1, constantValue := 0 }, { name := "CHANGE_READ_COLUMN", type := (.object "com/example/unand/unand/model/Command"), accessFlags := 16409, slot := 2, constantValue := 0 }, { name := "READ_CACHE", type := (.object "com/example/unand/unand/model/Command"), accessFlags := 16409, slot := 3, constantValue := 0 }, { name := "READ_CACHE_END", type := (.object "com/example/unand/unand/model/Command"), accessFlags := 16409, slot := 4, constantValue := 0 }, { name := "BLOCK_ERASE", type := (.object "com/example/unand/unand/model/Command"), accessFlags := 16409, slot := 5, constantValue := 0 }, { name := "READ_STATUS", type := (.object "com/example/unand/unand/model/Command"), accessFlags := 16409, slot := 6, constantValue := 0 }, { name := "READ_STATUS_ENHANCED", type := (.object "com/example/unand/unand/model/Command"), accessFlags := 16409, slot := 7, constantValue := 0 }, { name := "PAGE_PROGRAM", type := (.object "com/example/unand/unand/model/Command"), accessFlags := 16409, slot := 8, constantValue := 0 }, { name := "PAGE_CACHE_PROGRAM", type := (.object "com/example/unand/unand/model/Command"), accessFlags := 16409, slot := 9, constantValue := 0 }, { name := "CHANGE_WRITE_COLUMN", type := (.object "com/example/unand/unand/model/Command"), accessFlags := 16409, slot := 10, constantValue := 0 }, { name := "READ_ID", type := (.object "com/example/unand/unand/model/Command"), accessFlags := 16409, slot := 11, constantValue := 0 }, { name := "READ_PARAMETER_PAGE", type := (.object "com/example/unand/unand/model/Command"), accessFlags := 16409, slot := 12, constantValue := 0 }, { name := "READ_UNIQUE_ID", type := (.object "com/example/unand/unand/model/Command"), accessFlags := 16409, slot := 13, constantValue := 0 }, { name := "GET_FEATURES", type := (.object "com/example/unand/unand/model/Command"), accessFlags := 16409, slot := 14, constantValue := 0 }, { name := "SET_FEATURES", type := (.object "com/example/unand/unand/model/Command"), accessFlags := 16409, slot := 15, constantValue := 0 }, { name := "RESET", type := (.object "com/example/unand/unand/model/Command"), accessFlags := 16409, slot := 16, constantValue := 0 }, { name := "NO_SECOND_CYCLE", type := .int, accessFlags := 24, slot := 17, constantValue := 0 }, { name := "MANDATORY", type := .int, accessFlags := 26, slot := 18, constantValue := 0 }, { name := "name", type := (.object "java/lang/String"), accessFlags := 18, slot := 3, constantValue := 0 }, { name := "firstCycle", type := .int, accessFlags := 18, slot := 4, constantValue := 0 }, { name := "address", type := (.object "com/example/unand/unand/model/Command$Address"), accessFlags := 18, slot := 5, constantValue := 0 }, { name := "secondCycle", type := .int, accessFlags := 18, slot := 6, constantValue := 0 }, { name := "optionalBit", type := .int, accessFlags := 18, slot := 7, constantValue := 0 }, { name := "whileBusy", type := (.object "com/example/unand/unand/model/Command$WhileBusy"), accessFlags := 18, slot := 8, constantValue := 0 }, { name := "$VALUES", type := (.array (.object "com/example/unand/unand/model/Command")), accessFlags := 4122, slot := 19, constantValue := 0 }]
  methods := #[k6m0]
  instanceTypes := #[(.object "java/lang/String"), .int, .int, (.object "java/lang/String"), .int, (.object "com/example/unand/unand/model/Command$Address"), .int, .int, (.object "com/example/unand/unand/model/Command$WhileBusy")]
  staticTypes := #[(.object "com/example/unand/unand/model/Command"), (.object "com/example/unand/unand/model/Command"), (.object "com/example/unand/unand/model/Command"), (.object "com/example/unand/unand/model/Command"), (.object "com/example/unand/unand/model/Command"), (.object "com/example/unand/unand/model/Command"), (.object "com/example/unand/unand/model/Command"), (.object "com/example/unand/unand/model/Command"), (.object "com/example/unand/unand/model/Command"), (.object "com/example/unand/unand/model/Command"), (.object "com/example/unand/unand/model/Command"), (.object "com/example/unand/unand/model/Command"), (.object "com/example/unand/unand/model/Command"), (.object "com/example/unand/unand/model/Command"), (.object "com/example/unand/unand/model/Command"), (.object "com/example/unand/unand/model/Command"), (.object "com/example/unand/unand/model/Command"), .int, .int, (.array (.object "com/example/unand/unand/model/Command"))]
  resolved := Array.replicate 329 none
  statics := some 0 }

def pool7 : Array CpInfo := pool [(1, u "java/lang/Cloneable"), (0, .class_ 1), (0, u "java/lang/Object"), (0, .class_ 3)] 3

/-- java/lang/Cloneable -/
def k7 : Class := { plain "java/lang/Cloneable" (some 0) with
  accessFlags := 1537
  interfaces := #[]
  cf := some (fileOf pool7 2 #[] #[] 1537 4 #[] #[])
  fields := #[]
  methods := #[]
  instanceTypes := #[]
  staticTypes := #[]
  resolved := Array.replicate 8 none
  statics := none }

/-- the primitive byte -/
def k8 : Class := { plain "byte" none with kind := .primitive 'B', accessFlags := 0x411 }
/-- [B -/
def k9 : Class := { plain "[B" (some 0) with kind := .array 8 .byte, interfaces := #[7, 4], accessFlags := 1041 }

/-- the primitive int -/
def k10 : Class := { plain "int" none with kind := .primitive 'I', accessFlags := 0x411 }
/-- [I -/
def k11 : Class := { plain "[I" (some 0) with kind := .array 10 .int, interfaces := #[7, 4], accessFlags := 1041 }

/-- [Lcom/example/unand/unand/model/Command; -/
def k12 : Class := { plain "[Lcom/example/unand/unand/model/Command;" (some 0) with kind := .array 6 (.object "com/example/unand/unand/model/Command"), interfaces := #[7, 4], accessFlags := 1041 }

def heap : Heap := #[{ cls := 6, slots := #[.ref 1, .ref 2, .ref 3, .ref 4, .ref 5, .ref 6, .ref 7, .ref 8, .ref 9, .ref 10, .ref 11, .ref 12, .ref 13, .ref 14, .ref 15, .ref 16, .ref 17, .int 0, .int 0, .null], vm := .statics 6 },
  { cls := 6, slots := #[.null, .int 0, .int 0, .null, .int 0, .null, .int 0, .int (-1), .null], vm := .none },
  { cls := 6, slots := #[.null, .int 1, .int 0, .null, .int 0, .null, .int 0, .int 4, .null], vm := .none },
  { cls := 6, slots := #[.null, .int 2, .int 0, .null, .int 0, .null, .int 0, .int (-1), .null], vm := .none },
  { cls := 6, slots := #[.null, .int 3, .int 0, .null, .int 0, .null, .int 0, .int 1, .null], vm := .none },
  { cls := 6, slots := #[.null, .int 4, .int 0, .null, .int 0, .null, .int 0, .int 1, .null], vm := .none },
  { cls := 6, slots := #[.null, .int 5, .int 0, .null, .int 0, .null, .int 0, .int (-1), .null], vm := .none },
  { cls := 6, slots := #[.null, .int 6, .int 0, .null, .int 0, .null, .int 0, .int (-1), .null], vm := .none },
  { cls := 6, slots := #[.null, .int 7, .int 0, .null, .int 0, .null, .int 0, .int 3, .null], vm := .none },
  { cls := 6, slots := #[.null, .int 8, .int 0, .null, .int 0, .null, .int 0, .int (-1), .null], vm := .none },
  { cls := 6, slots := #[.null, .int 9, .int 0, .null, .int 0, .null, .int 0, .int 0, .null], vm := .none },
  { cls := 6, slots := #[.null, .int 10, .int 0, .null, .int 0, .null, .int 0, .int (-1), .null], vm := .none },
  { cls := 6, slots := #[.null, .int 11, .int 0, .null, .int 0, .null, .int 0, .int (-1), .null], vm := .none },
  { cls := 6, slots := #[.null, .int 12, .int 0, .null, .int 0, .null, .int 0, .int (-1), .null], vm := .none },
  { cls := 6, slots := #[.null, .int 13, .int 0, .null, .int 0, .null, .int 0, .int 5, .null], vm := .none },
  { cls := 6, slots := #[.null, .int 14, .int 0, .null, .int 0, .null, .int 0, .int 2, .null], vm := .none },
  { cls := 6, slots := #[.null, .int 15, .int 0, .null, .int 0, .null, .int 0, .int 2, .null], vm := .none },
  { cls := 6, slots := #[.null, .int 16, .int 0, .null, .int 0, .null, .int 0, .int (-1), .null], vm := .none }]
def classes : Array Class := #[k0, k1, k2, k3, k4, k5, k6, k7, k8, k9, k10, k11, k12]
def interned : List (Array UInt16 × Addr) := []
def slotsUsed : Nat := 173
def theMethod : MethodId := ⟨1, 1⟩
def args0 : Array Value := #[.int 3, .long 5]
def aboutOver (below : List Frame) : State where
  vm := { classes := classes, interned := interned.toArray }
  heap := heap
  slotsUsed := slotsUsed
  threads := #[{ frames := .invoking theMethod args0 :: below }]
def below0 : List Frame := [.native { method := ⟨0, 0⟩, args := #[] }]
def about1 : State := aboutOver below0
def p0 : Program := .bare "" "" ""
def e0 : Env := launch0.env 0 0 0
theorem w_frames : about1.frames = Frame.invoking theMethod args0 :: below0 := rfl
set_option maxRecDepth 65536 in
theorem w_args : argsFit about1.vm theMethod args0 = true := by decide +kernel
set_option maxRecDepth 65536 in
theorem w_heap : heapFits about1 = true := by decide +kernel
set_option maxRecDepth 65536 in
theorem w_runnable : about1.curStatus? = some .runnable := by decide +kernel
set_option maxRecDepth 65536 in
theorem w_alone : about1.alone = true := by decide +kernel
set_option maxRecDepth 65536 in
theorem w_named : about1.methodNamed? x = some theMethod := by decide +kernel
set_option maxRecDepth 65536 in
theorem w_hears : about1.hears theMethod below0 = true := by decide +kernel
set_option maxRecDepth 65536 in
theorem w_ripe : about1.ripe theMethod args0 below0 = true := by decide +kernel
theorem w_running : about1.status = .running := rfl
set_option maxRecDepth 65536 in
theorem w_room : about1.hasRoom e0.platform room_1 = true :=
  launch0.hasRoom_least _ room_1 (by decide +kernel) (by decide +kernel) (by decide +kernel) (by decide +kernel) (by decide +kernel) (by decide +kernel)
theorem allAtoms_all (ts : List Jvm.Cond) (a : Array Jvm.Value) (st : Jvm.State) : (allAtoms ts).before a st = ts.all (fun c => c.before a st) := by
  induction ts with
  | nil => rfl
  | cons c t ih =>
    show (Jvm.Cond.and c (allAtoms t)).before a st = _
    rw [Jvm.Cond.before_and, ih, List.all_cons]
def words1 : List Jvm.Cond := Jvm.Cond.code x code maxLocals ret :: tables_1
/-- a 'code' word, met by the world's own term for the bytes: nothing is compared byte by byte -/
theorem code_word {y : MethodName} {bytes : ByteArray} {mx : Nat} {rt : Option FieldType} {a : Array Value} {s : State} {m : MethodId} {meth : Method} {c : Code} (h1 : s.methodNamed? y = some m) (h2 : s.vm.method? m = some meth) (h3 : meth.code = some c) (h4 : c.code = bytes)
    (h5 : (c.maxLocals == mx && c.exceptionTable.isEmpty && decide (c.maxStack ≤ mostOperands) && decide (meth.sig.returnType = rt) && !meth.locks && decide (parseMethodDescriptor y.desc = some meth.sig)) = true) : (Jvm.Cond.code y bytes mx rt).before a s = true := by
  simp only [Bool.and_eq_true, beq_iff_eq, Bool.not_eq_true', decide_eq_true_eq] at h5
  obtain ⟨⟨⟨⟨⟨g1, g2⟩, g3⟩, g4⟩, g5⟩, g6⟩ := h5
  simp [Cond.before, Cond.holds, Cond.value, h1, h2, h3, h4, g1, g2, g3, g4, g5, g6]
def isCode : Jvm.Cond → Bool
  | .code _ _ _ _ => true
  | _ => false
theorem all_split {L : List Jvm.Cond} {P : Jvm.Cond → Bool} (h1 : L.all (fun c => isCode c || P c) = true) (h2 : ∀ c ∈ L.filter isCode, P c = true) : L.all P = true := by
  refine List.all_eq_true.mpr fun c hc => ?_
  have h := List.all_eq_true.mp h1 c hc
  rcases Bool.eq_false_or_eq_true (isCode c) with hi | hi
  · exact h2 c (List.mem_filter.mpr ⟨hc, hi⟩)
  · simpa [hi] using h
set_option maxRecDepth 65536 in
theorem w_c0 : (Jvm.Cond.code x code maxLocals ret).before args0 about1 = true := code_word (m := ⟨1, 1⟩) (meth := k1m1) (c := k1c1) (by decide +kernel) rfl rfl rfl (by decide +kernel)
set_option maxRecDepth 65536 in
theorem w_c1 : (Jvm.Cond.code ({ cls := "com/example/unand/unand/model/Command", name := "supportedBy", desc := "(J)Z" } : Jvm.MethodName) prog_34_method_13_code (3 : Nat) (Option.some Jvm.ClassFile.FieldType.boolean)).before args0 about1 = true := code_word (m := ⟨6, 0⟩) (meth := k6m0) (c := k6c0) (by decide +kernel) rfl rfl rfl (by decide +kernel)
def codes1 : List Jvm.Cond := [Jvm.Cond.code x code maxLocals ret, Jvm.Cond.code ({ cls := "com/example/unand/unand/model/Command", name := "supportedBy", desc := "(J)Z" } : Jvm.MethodName) prog_34_method_13_code (3 : Nat) (Option.some Jvm.ClassFile.FieldType.boolean)]
set_option maxRecDepth 65536 in
theorem codes_eq : words1.filter isCode = codes1 := rfl
theorem w_codes : ∀ c ∈ words1.filter isCode, c.before args0 about1 = true := by
  rw [codes_eq]
  intro c hc
  simp only [codes1, List.mem_cons, List.not_mem_nil, or_false] at hc
  rcases hc with rfl | rfl
  · exact w_c0
  · exact w_c1
set_option maxRecDepth 65536 in
theorem w_t1 : (words1.take 24).all (fun c => isCode c || c.before args0 about1) = true := by decide +kernel
set_option maxRecDepth 65536 in
theorem w_t2 : (words1.drop 24).all (fun c => isCode c || c.before args0 about1) = true := by decide +kernel
theorem w_tables : (allAtoms (Jvm.Cond.code x code maxLocals ret :: tables_1)).before args0 about1 = true := by
  rw [allAtoms_all]
  show words1.all (fun c => c.before args0 about1) = true
  refine all_split ?_ w_codes
  rw [← List.take_append_drop 24 words1, List.all_append, w_t1, w_t2]
  rfl
set_option maxRecDepth 65536 in
theorem w_case : (Jvm.Cond.and given_1 narrow_1).before args0 about1 = true := by decide +kernel
theorem w_applies : (headSpec (Jvm.Cond.code x code maxLocals ret :: tables_1) room_1).applies x e0.platform about1 = true :=
  (Spec.applies_iff w_frames).mpr ⟨w_running, w_runnable, w_alone, w_named, w_hears, w_ripe, w_room, w_tables⟩
theorem atStart : AtStart classFile x code maxLocals ret World_1 tables_1 room_1 Calls_1 rest_1 Pre_1 launch0 p0 e0 about1 theMethod args0 below0 :=
  ⟨lists_1, trivial, launch0.admits_env _ _ _, launch0.least_env, fairChoices_fair.cas, fairChoices_fair.clock, w_frames, w_args, w_heap, w_applies, trivial, trivial, w_case⟩
end start1
theorem witness_1 : WitnessClaimed_1 := ⟨start1.p0, start1.e0, start1.about1, start1.theMethod, start1.args0, start1.below0, start1.atStart⟩
end Jvm.Pilot.@@N@@
