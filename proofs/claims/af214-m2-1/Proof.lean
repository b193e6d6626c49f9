import JvmDerived
import JvmDerived.Pilot.@@N@@Statement
import JvmDerived.Pilot.@@N@@Code
set_option linter.unusedVariables false
set_option linter.unusedSimpArgs false
namespace Jvm.RoadKit
open Sem ClassFile Op Lib Jvm.Stand Jvm.Free Jvm.LawKit
section New
variable {p : Program} {l : Launch} {e : Env} {R : Room} {s : State} {m : MethodId} {args : Array Value} {below : List Frame} {meth : Method} {c : Code} {T : State} {locs : List Loc} {cells slots : Nat}
theorem retI (X : Stand p l e R s m args below meth c T locs cells slots) (hx : p.tables.exec = Jvm.exec) {pc : Nat} {Ls : Array Slot} {z : Int32} {rest : List Value} (hret : meth.sig.returnType = some .int) (hd : decode c.code pc = .ok (.ireturn, 1)) {fs : List Frame}
    (hl : ∀ (f : JFrame) (acts : List Action), f.method = m → f.locked = none → f.entered = [] → (doReturn e (T.setTop f) acts (some (.int z))).1 = T.setFrames fs) : Steps p.tables e below (T.setTop (mkF m pc Ls (.int z :: rest))) (T.setFrames fs) := by
  have hm' : T.vm.method? m = some meth := X.method'
  have hn : narrow .int (.int z) = .int z := rfl
  show Steps p.tables e below (T.setTop { method := m, pc := pc, locals := Ls, stack := _ :: rest, locked := none }) _
  jvm_step X.here [X.here.top, hx, hd, hm', hret, hn]
  first | (intro acts; rw [hl _ acts rfl rfl rfl]) | rw [hl _ _ rfl rfl rfl]
  exact Steps.refl _
end New
end Jvm.RoadKit
namespace Jvm.Pilot.@@N@@
open Jvm Jvm.ClassFile Sem Op Lib Jvm.Free Jvm.Stand Jvm.LawKit Jvm.RoadKit Bundle Jvm.Pilot.@@N@@.Jvm.D
def Av (Z : State) (h : Heap) (a : Addr) (ty : FieldType) (n : Int32) (vs : List Value) (d : Value) : Prop := ∃ k, Arv Z h a k ty n vs d
theorem Av.lt {Z : State} {h : Heap} {a : Addr} {ty : FieldType} {n : Int32} {vs : List Value} {d : Value} (F : Av Z h a ty n vs d) : a < h.size := by obtain ⟨k, F⟩ := F; exact F.lt
theorem Av.ext {Z : State} {h h' : Heap} {a : Addr} {ty : FieldType} {n : Int32} {vs : List Value} {d : Value} (F : Av Z h a ty n vs d) (E : Ext h h') : Av Z h' a ty n vs d := by obtain ⟨k, F⟩ := F; exact ⟨k, F.ext E⟩
theorem Av.other {Z : State} {h h' : Heap} {a b : Addr} {ty : FieldType} {n : Int32} {vs : List Value} {d : Value} {sl : Nat} {v : Value} (F : Av Z h b ty n vs d) (W : Wr h h' a sl v) (q : b ≠ a) : Av Z h' b ty n vs d := by obtain ⟨k, F⟩ := F; exact ⟨k, F.other W q⟩
def Al (Z : State) (h : Heap) (a : Addr) (ty : FieldType) (n : Int32) : Prop := ∃ c : Cell, Arr Z h a c ty ∧ c.slots.size = n.toNatClampNeg ∧ ¬ n < 0
theorem Al.lt {Z : State} {h : Heap} {a : Addr} {ty : FieldType} {n : Int32} (F : Al Z h a ty n) : a < h.size := by obtain ⟨c, A, -⟩ := F; exact A.lt
theorem Al.ext {Z : State} {h h' : Heap} {a : Addr} {ty : FieldType} {n : Int32} (F : Al Z h a ty n) (E : Ext h h') : Al Z h' a ty n := by obtain ⟨c, A, r⟩ := F; exact ⟨c, A.ext E, r⟩
theorem Al.other {Z : State} {h h' : Heap} {a b : Addr} {ty : FieldType} {n : Int32} {sl : Nat} {v : Value} (F : Al Z h b ty n) (W : Wr h h' a sl v) (q : b ≠ a) : Al Z h' b ty n := by obtain ⟨c, A, r⟩ := F; exact ⟨c, A.other W q, r⟩
theorem Al.same {Z : State} {h h' : Heap} {a : Addr} {ty : FieldType} {n : Int32} {sl : Nat} {v : Value} (F : Al Z h a ty n) (W : Wr h h' a sl v) : Al Z h' a ty n := by obtain ⟨c, A, r⟩ := F; exact ⟨_, A.same W, by rw [sz_set]; exact r.1, r.2⟩
theorem Al.keep {Z : State} {h h' : Heap} {a : Addr} {ty : FieldType} {n : Int32} {ws : List Addr} (F : Al Z h a ty n) (K : Keep h h' ws) (q : a ∉ ws) : Al Z h' a ty n := by obtain ⟨c, A, r⟩ := F; exact ⟨c, ⟨K.2.1 a c A.1 q, A.2⟩, r⟩
theorem Av.al {Z : State} {h : Heap} {a : Addr} {ty : FieldType} {n : Int32} {vs : List Value} {d : Value} (F : Av Z h a ty n vs d) : Al Z h a ty n := by obtain ⟨k, c, A, -, r1, r2, -⟩ := F; exact ⟨c, A, r1, r2⟩
theorem Av.keep {Z : State} {h h' : Heap} {a : Addr} {ty : FieldType} {n : Int32} {vs : List Value} {d : Value} {ws : List Addr} (F : Av Z h a ty n vs d) (K : Keep h h' ws) (q : a ∉ ws) : Av Z h' a ty n vs d := by obtain ⟨k, F⟩ := F; exact ⟨k, F.keep K q⟩
abbrev MN1 : MethodName := ⟨"java/lang/String", "valueOf", "(C)Ljava/lang/String;"⟩
abbrev MN2 : MethodName := ⟨"java/lang/StringLatin1", "canEncode", "(C)Z"⟩
abbrev MN3 : MethodName := ⟨"java/lang/StringLatin1", "toBytes", "(C)[B"⟩
abbrev MN4 : MethodName := ⟨"java/lang/String", "<init>", "([BB)V"⟩
abbrev MN6 : MethodName := ⟨"com/example/topiq/topiq/protocol/TopicRoute$QueueData", "<init>", "(Ljava/lang/String;III)V"⟩
abbrev MN7 : MethodName := ⟨"com/example/topiq/topiq/protocol/TopicRoute$QueueData", "isWritable", "()Z"⟩
theorem own_nat (n k : Nat) : (n &&& 2 ^ k = 0) ↔ (n / 2 ^ k) % 2 = 0 := by
  constructor
  · intro h
    have : (n &&& 2 ^ k).testBit k = false := by rw [h]; simp
    rw [Nat.testBit_and, Nat.testBit_two_pow_self, Bool.and_true, Nat.testBit_eq_decide_div_mod_eq] at this
    have := of_decide_eq_false this
    omega
  · intro h
    apply Nat.eq_of_testBit_eq
    intro i
    rw [Nat.testBit_and, Nat.zero_testBit, Nat.testBit_two_pow]
    by_cases e : k = i
    · subst e
      rw [Nat.testBit_eq_decide_div_mod_eq]
      simp [h]
    · simp [e]
theorem own_pow32 (x : Int32) (m : Int32) (k : Nat) (hm : m.toBitVec.toNat = 2 ^ k) : (x &&& m = 0) ↔ (x.toBitVec.toNat / 2 ^ k) % 2 = 0 := by
  have e1 : (x &&& m).toBitVec.toNat = x.toBitVec.toNat &&& 2 ^ k := by
    show (x.toBitVec &&& m.toBitVec).toNat = _
    rw [BitVec.toNat_and, hm]
  have e2 : (x &&& m = 0) ↔ (x &&& m).toBitVec.toNat = 0 := by
    rw [← Int32.toBitVec_inj, ← BitVec.toNat_inj]; rfl
  rw [e2, e1, own_nat]
theorem own_tn32 (x : Int32) : (x.toBitVec.toNat : Int) = x.toInt % 4294967296 := by
  have h := BitVec.toInt_eq_toNat_bmod x.toBitVec
  show (x.toBitVec.toNat : Int) = x.toBitVec.toInt % 4294967296
  have h2 := x.toBitVec.isLt
  have h3 := bm32 (x.toBitVec.toNat : Int)
  rw [h]
  omega
theorem own_dist (a b c : Int32) : ((a ^^^ b) &&& c) = ((a &&& c) ^^^ (b &&& c)) := by
  apply Int32.toBitVec_inj.mp
  show (a.toBitVec ^^^ b.toBitVec) &&& c.toBitVec = (a.toBitVec &&& c.toBitVec) ^^^ (b.toBitVec &&& c.toBitVec)
  apply BitVec.eq_of_getLsbD_eq
  intro i hi
  simp only [BitVec.getLsbD_and, BitVec.getLsbD_xor]
  cases a.toBitVec.getLsbD i <;> cases b.toBitVec.getLsbD i <;> cases c.toBitVec.getLsbD i <;> rfl
theorem own_disto (a b c : Int32) : ((a ||| b) &&& c) = ((a &&& c) ||| (b &&& c)) := by
  apply Int32.toBitVec_inj.mp
  show (a.toBitVec ||| b.toBitVec) &&& c.toBitVec = (a.toBitVec &&& c.toBitVec) ||| (b.toBitVec &&& c.toBitVec)
  apply BitVec.eq_of_getLsbD_eq
  intro i hi
  simp only [BitVec.getLsbD_and, BitVec.getLsbD_or]
  cases a.toBitVec.getLsbD i <;> cases b.toBitVec.getLsbD i <;> cases c.toBitVec.getLsbD i <;> rfl
theorem own_w2 (p o : Int32) : ((p ^^^ (o &&& (-3 : Int32))) &&& (2 : Int32)) = (p &&& (2 : Int32)) := by
  rw [own_dist, Int32.and_assoc, show ((-3 : Int32) &&& 2) = 0 from by decide, Int32.and_zero, Int32.xor_zero]
theorem own_02 (p : Int32) : (p &&& (2 : Int32)) = 0 ∨ (p &&& (2 : Int32)) = 2 := by
  have h := c_and p 2 (by decide)
  have e : ((p &&& 2) &&& 2) = (p &&& (2 : Int32)) := by rw [Int32.and_assoc, show ((2 : Int32) &&& 2) = 2 from by decide]
  have n1 : ¬ (p &&& (2 : Int32)) = 1 := fun q => by rw [q] at e; revert e; decide
  simp only [← Int32.toInt_inj, Int32.reduceToInt] at *
  omega
theorem own_w3 (p : Int32) : ((p ^^^ (2 : Int32)) &&& (2 : Int32)) = 0 ↔ ¬ (p &&& (2 : Int32)) = 0 := by
  rw [own_dist, show ((2 : Int32) &&& 2) = 2 from by decide]
  rcases own_02 p with h | h <;> rw [h] <;> decide
theorem own_w1 (p : Int32) : (((p.toUInt32 >>> ((1 : Int32) &&& 31).toUInt32).toInt32) &&& (1 : Int32)) = (1 : Int32) ↔ ¬ (p &&& (2 : Int32)) = 0 := by
  have e1 := c_iushr p 1 1 (by decide) (by decide)
  have e2 := c_mask ((p.toUInt32 >>> ((1 : Int32) &&& 31).toUInt32).toInt32) 1 1 (by decide) (by decide)
  have e3 := own_pow32 p 2 1 (by decide)
  have e4 := own_tn32 p
  rw [e3, ← Int32.toInt_inj, e2, e1]
  simp only [Int32.reduceToInt]
  omega
theorem own_255 (x : Int32) : ¬ ((255 : Int32) < ((x &&& (255 : Int32)).toUInt32.toUInt16.toUInt32.toInt32)) := by
  rw [i2c_mask]
  have e := c_mask x 255 8 (by decide) (by decide)
  rw [Int32.lt_iff_toInt_lt]
  simp only [Int32.reduceToInt]
  omega
theorem own_nz {args : Array Value} {s : State} {t : Term} {x : Int32} (h : (Jvm.Cond.not (Jvm.Cond.eq t (.int 0))).value args s none s [] = some true) (e : t.eval args s none [] s = some (.int x)) : ¬ (x = (0 : Int32)) := by
  have q := not_v h
  simpa [Jvm.Cond.value, e, Term.eval] using q
theorem d2_0 : decode jdk_43_method_3_code 0 = .ok (.iload_n 0, 1) := by decide +kernel
theorem d2_1 : decode jdk_43_method_3_code 1 = .ok (.sipush 255, 3) := by decide +kernel
theorem d2_4 : decode jdk_43_method_3_code 4 = .ok (.if_icmp .gt 7, 3) := by decide +kernel
theorem d2_7 : decode jdk_43_method_3_code 7 = .ok (.iconst 1, 1) := by decide +kernel
theorem d2_8 : decode jdk_43_method_3_code 8 = .ok (.goto 4, 3) := by decide +kernel
theorem d2_12 : decode jdk_43_method_3_code 12 = .ok (.ireturn, 1) := by decide +kernel
theorem pn_java_lang_StringLatin1 : plainName "java/lang/StringLatin1" = true := by first | (simp [plainName, overriddenIn]; done) | decide +kernel
theorem ef_rm2 (m : MethodId) (x0 : Int32) : entryFrame m #[(.int x0)] 1 = mkF m 0 #[iv x0] [] := by first | (simp [entryFrame, mkF, argsToLocals, Value.category]; done) | rfl
def Q_rm2 (Z : State) (p2_0 : Int32) (h0 : Heap) (n0 : Nat) (v : Option Value) (h : Heap) (L : List Loc) : Prop := v = some (.int (1 : Int32)) ∧ Fr n0 L ∧ h = h0
set_option maxRecDepth 65536 in
set_option maxHeartbeats 40000000 in
theorem rm2 (l : Launch) (Z : State) (a0 : Array Value) (hw : ∀ d ∈ tables_1, d.before a0 Z = true) (ws : List Jvm.Cond) (p2_0 : Int32) (h0 : Heap) (n0 : Nat) (Z0 : n0 ≤ h0.size) (hle : ¬ ((255 : Int32) < p2_0)) :
    MetFree l (⟨"java/lang/StringLatin1", "canEncode", "(C)Z"⟩ : MethodName) (head1 (Jvm.Cond.code (⟨"java/lang/StringLatin1", "canEncode", "(C)Z"⟩ : MethodName) jdk_43_method_3_code 1 (some .boolean) :: ws) ({ frames := 0, cells := 0, slots := 0, locals := 0 } : Room)) (fun a U => a = #[(.int p2_0)] ∧ Z.Warmed39 U.vm ∧ U.heap = h0) (fun _ _ _ _ _ => True) (fun _ U o U' => ∃ v L, o = .returned v ∧ Q_rm2 Z p2_0 h0 n0 v U'.heap L ∧ FrameEnd U o U' L ({ frames := 0, cells := 0, slots := 0, locals := 0 } : Room).cells ({ frames := 0, cells := 0, slots := 0, locals := 0 } : Room).slots) := by
  refine MetFree.of_bodySF (plainFor_of_name pn_java_lang_StringLatin1) hisR ?_
  intro p e s m args below meth c s₁ Bd hml0 hP hK
  obtain ⟨rfl, hZ, hh⟩ := hP
  have hx := Bd.exec
  have hby := Bd.bytes
  have hml : c.maxLocals = 1 := hml0
  have hown : s.vm.findClass "java/lang/StringLatin1" = some m.cls := findClass_of_methodNamed Bd.named
  have hnm := (name_of_methodNamed Bd.named Bd.method).1
  have X0 : Stand p l e ({ frames := 0, cells := 0, slots := 0, locals := 0 } : Room) s m #[(.int p2_0)] below meth c s₁ [] 0 0 := Stand.of_body Bd
  have e0 : s₁.heap = h0 := by rw [← hh, Bd.state]; rfl
  have N0 := Fr.nil n0
  have pre0 : ∀ t, Steps p.tables e below (s₁.setTop (mkF m 0 #[iv p2_0] [])) t → Steps p.tables e below (s₁.setTop (entryFrame m #[(.int p2_0)] 1)) t := fun t k => castTop (ef_rm2 m p2_0) k
  obtain ⟨fs, hr, hrun, hended, hW, hsame⟩ := X0.leave (v := some (.int (1 : Int32))) (fun h => by rw [Bd.returns] at h; cases h)
  refine ⟨_, _, pre0 _ ?_, hrun, hended, _, _, rfl, ?_, ⟨_, rfl⟩, hW, hsame.mono (by decide) (by decide)⟩
  · show Steps p.tables e below (s₁.setTop (mkF m 0 #[iv p2_0] [])) _
    refine XS.iloadN X0.here hx rfl (hb hby d2_0) rfl ?_
    show Steps p.tables e below (s₁.setTop (mkF m 1 #[iv p2_0] [(.int p2_0)])) _
    refine XS.sipush X0.here hx rfl (hb hby d2_1) ?_
    show Steps p.tables e below (s₁.setTop (mkF m 4 #[iv p2_0] [(.int (255 : Int32)), (.int p2_0)])) _
    refine XS.icmpNo X0.here hx rfl (hb hby d2_4) rfl (flt hle).2.2.1 ?_
    show Steps p.tables e below (s₁.setTop (mkF m 7 #[iv p2_0] [])) _
    refine XS.iconst X0.here hx rfl (hb hby d2_7) ?_
    show Steps p.tables e below (s₁.setTop (mkF m 8 #[iv p2_0] [(.int (1 : Int32))])) _
    refine XS.goto X0.here hx rfl (pc0 := 8) (pc' := 12) rfl (hb hby d2_8) (by decide) (by decide) ?_
    show Steps p.tables e below (s₁.setTop (mkF m 12 #[iv p2_0] [(.int (1 : Int32))])) _
    exact retN X0 hx (t := .boolean) Bd.returns (by simp) (hb hby d2_12) hr
  · show Q_rm2 Z _ h0 n0 _ s₁.heap _
    rw [e0]
    exact ⟨rfl, N0, rfl⟩
theorem d3_0 : decode jdk_43_method_46_code 0 = .ok (.iconst 1, 1) := by decide +kernel
theorem d3_1 : decode jdk_43_method_46_code 1 = .ok (.newarray .byte, 2) := by decide +kernel
theorem d3_3 : decode jdk_43_method_46_code 3 = .ok (.dup, 1) := by decide +kernel
theorem d3_4 : decode jdk_43_method_46_code 4 = .ok (.iconst 0, 1) := by decide +kernel
theorem d3_5 : decode jdk_43_method_46_code 5 = .ok (.iload_n 0, 1) := by decide +kernel
theorem d3_6 : decode jdk_43_method_46_code 6 = .ok (.i2b, 1) := by decide +kernel
theorem d3_7 : decode jdk_43_method_46_code 7 = .ok (.bastore, 1) := by decide +kernel
theorem d3_8 : decode jdk_43_method_46_code 8 = .ok (.areturn, 1) := by decide +kernel
theorem ef_rm3 (m : MethodId) (x0 : Int32) : entryFrame m #[(.int x0)] 1 = mkF m 0 #[iv x0] [] := by first | (simp [entryFrame, mkF, argsToLocals, Value.category]; done) | rfl
def Q_rm3 (Z : State) (p3_0 : Int32) (h0 : Heap) (n0 : Nat) (v : Option Value) (h : Heap) (L : List Loc) : Prop := ∃ (b : Addr), v = some (.ref b) ∧ Fr n0 L ∧ Keep h0 h [] ∧ (h0.size ≤ b) ∧ (Al Z h b .byte (1 : Int32))
set_option maxRecDepth 65536 in
set_option maxHeartbeats 40000000 in
theorem rm3 (l : Launch) (Z : State) (a0 : Array Value) (hw : ∀ d ∈ tables_1, d.before a0 Z = true) (ws : List Jvm.Cond) (p3_0 : Int32) (h0 : Heap) (n0 : Nat) (Z0 : n0 ≤ h0.size) :
    MetFree l (⟨"java/lang/StringLatin1", "toBytes", "(C)[B"⟩ : MethodName) (head1 (Jvm.Cond.code (⟨"java/lang/StringLatin1", "toBytes", "(C)[B"⟩ : MethodName) jdk_43_method_46_code 1 (some (.array .byte)) :: ws) ({ frames := 0, cells := 1, slots := 1, locals := 0 } : Room)) (fun a U => a = #[(.int p3_0)] ∧ Z.Warmed39 U.vm ∧ U.heap = h0) (fun _ _ _ _ _ => True) (fun _ U o U' => ∃ v L, o = .returned v ∧ Q_rm3 Z p3_0 h0 n0 v U'.heap L ∧ FrameEnd U o U' L ({ frames := 0, cells := 1, slots := 1, locals := 0 } : Room).cells ({ frames := 0, cells := 1, slots := 1, locals := 0 } : Room).slots) := by
  refine MetFree.of_bodySF (plainFor_of_name pn_java_lang_StringLatin1) hisR ?_
  intro p e s m args below meth c s₁ Bd hml0 hP hK
  obtain ⟨rfl, hZ, hh⟩ := hP
  have hx := Bd.exec
  have hby := Bd.bytes
  have hml : c.maxLocals = 1 := hml0
  have hown : s.vm.findClass "java/lang/StringLatin1" = some m.cls := findClass_of_methodNamed Bd.named
  have hnm := (name_of_methodNamed Bd.named Bd.method).1
  have X0 : Stand p l e ({ frames := 0, cells := 1, slots := 1, locals := 0 } : Room) s m #[(.int p3_0)] below meth c s₁ [] 0 0 := Stand.of_body Bd
  have e0 : s₁.heap = h0 := by rw [← hh, Bd.state]; rfl
  have N0 := Fr.nil n0
  have pre0 : ∀ t, Steps p.tables e below (s₁.setTop (mkF m 0 #[iv p3_0] [])) t → Steps p.tables e below (s₁.setTop (entryFrame m #[(.int p3_0)] 1)) t := fun t k => castTop (ef_rm3 m p3_0) k
  have wo14 := hw _ (List.mem_of_getElem? (i := 14) rfl)
  obtain ⟨T1, h1, k1, X1, e1, E1, A1, st1⟩ := newP (aty := .byte) X0 hx hZ wo14 e0 (g := (mkF m 1 #[iv p3_0] [(.int (1 : Int32))])) rfl (hb hby d3_1) rfl (by decide) (cap := 1) (by decide) (by decide) (by decide) (by decide)
  obtain ⟨b1, gg1⟩ : ∃ z, z = h0.size := ⟨_, rfl⟩
  rw [← gg1] at A1 st1
  have g2 : n0 ≤ b1 := Nat.le_trans Z0 (Nat.le_of_eq gg1.symm)
  have bz3 : h0.size ≤ b1 := Nat.le_trans (Keep.refl h0 []).1 (Nat.le_of_eq gg1.symm)
  have K5 : Keep h0 h1 [] := (Keep.refl h0 []).ext E1
  have f4 : Av Z h1 b1 .byte (1 : Int32) [(.int (0 : Int32))] (.int (0 : Int32)) := ⟨_, (Arv.new A1 (by decide)).pad (pad_rep [] (.int (0 : Int32)) 1)⟩
  obtain ⟨kk6, cl6, Ar6, qq6, Sz6, Nn6, Hs6, Gf6⟩ := id f4
  have hin7 : ¬ ((0 : Int32) < 0 ∨ cl6.slots.size ≤ ((0 : Int32)).toNatClampNeg) := inb_of Sz6 ⟨by decide, by decide⟩
  obtain ⟨T8, h8, X8, e8, W8, st8⟩ := stB X1 hx hZ e1 Ar6 (j := (0 : Int32)) hin7 (g := (mkF m 7 #[iv p3_0] [(.int (p3_0.toInt8.toInt32)), (.int (0 : Int32)), (.ref b1), (.ref b1)])) rfl rfl (hb hby d3_7)
  have K9 : Keep h0 h8 [] := (K5).wr W8 (Or.inr bz3)
  have f10 : Av Z h8 b1 .byte (1 : Int32) [(.int (nar .byte (p3_0.toInt8.toInt32)))] (.int (0 : Int32)) := ⟨_, Arv.set Ar6 qq6 Sz6 Nn6 Hs6 Gf6 (by first | rfl | exact fits_nar_byte _) W8 0 rfl (Nat.le_of_ble_eq_true rfl)⟩
  have N11 := Fr.snoc X8 N0 g2
  obtain ⟨fs, hr, hrun, hended, hW, hsame⟩ := X8.leave (v := some (.ref b1)) (fun h => by rw [Bd.returns] at h; cases h)
  refine ⟨_, _, pre0 _ ?_, hrun, hended, _, _, rfl, ?_, ⟨_, rfl⟩, hW, hsame.mono (by decide) (by decide)⟩
  · show Steps p.tables e below (s₁.setTop (mkF m 0 #[iv p3_0] [])) _
    refine XS.iconst X0.here hx rfl (hb hby d3_0) ?_
    show Steps p.tables e below (s₁.setTop (mkF m 1 #[iv p3_0] [(.int (1 : Int32))])) _
    refine st1 _ ?_
    show Steps p.tables e below (T1.setTop (mkF m 3 #[iv p3_0] [(.ref b1)])) _
    refine XS.dup X1.here hx rfl (hb hby d3_3) rfl rfl ?_
    show Steps p.tables e below (T1.setTop (mkF m 4 #[iv p3_0] [(.ref b1), (.ref b1)])) _
    refine XS.iconst X1.here hx rfl (hb hby d3_4) ?_
    show Steps p.tables e below (T1.setTop (mkF m 5 #[iv p3_0] [(.int (0 : Int32)), (.ref b1), (.ref b1)])) _
    refine XS.iloadN X1.here hx rfl (hb hby d3_5) rfl ?_
    show Steps p.tables e below (T1.setTop (mkF m 6 #[iv p3_0] [(.int p3_0), (.int (0 : Int32)), (.ref b1), (.ref b1)])) _
    refine XS.i2b X1.here hx rfl (hb hby d3_6) rfl ?_
    show Steps p.tables e below (T1.setTop (mkF m 7 #[iv p3_0] [(.int (p3_0.toInt8.toInt32)), (.int (0 : Int32)), (.ref b1), (.ref b1)])) _
    refine st8 _ ?_
    show Steps p.tables e below (T8.setTop (mkF m 8 #[iv p3_0] [(.ref b1)])) _
    exact retOut X8 hx Bd.returns rfl (Or.inr (Or.inr (Or.inr (Or.inr ⟨rfl, rfl, rfl⟩)))) (hb hby d3_8) hr
  · show Q_rm3 Z _ h0 n0 _ T8.heap _
    rw [e8]
    exact ⟨b1, rfl, N11, (K9), bz3, f10.al⟩
theorem d4_0 : decode jdk_42_method_151_code 0 = .ok (.aload_n 0, 1) := by decide +kernel
theorem d4_1 : decode jdk_42_method_151_code 1 = .ok (.invokespecial 1, 3) := by decide +kernel
theorem d4_4 : decode jdk_42_method_151_code 4 = .ok (.aload_n 0, 1) := by decide +kernel
theorem d4_5 : decode jdk_42_method_151_code 5 = .ok (.aload_n 1, 1) := by decide +kernel
theorem d4_6 : decode jdk_42_method_151_code 6 = .ok (.putfield 9, 3) := by decide +kernel
theorem d4_9 : decode jdk_42_method_151_code 9 = .ok (.aload_n 0, 1) := by decide +kernel
theorem d4_10 : decode jdk_42_method_151_code 10 = .ok (.iload_n 2, 1) := by decide +kernel
theorem d4_11 : decode jdk_42_method_151_code 11 = .ok (.putfield 15, 3) := by decide +kernel
theorem d4_14 : decode jdk_42_method_151_code 14 = .ok (.return_, 1) := by decide +kernel
theorem pn_java_lang_String : plainName "java/lang/String" = true := by first | (simp [plainName, overriddenIn]; done) | decide +kernel
theorem ef_rm4 (m : MethodId) (x0 : Addr) (x1 : Addr) (x2 : Int32) : entryFrame m #[(.ref x0), (.ref x1), (.int x2)] 3 = mkF m 0 #[rv x0, rv x1, iv x2] [] := by first | (simp [entryFrame, mkF, argsToLocals, Value.category]; done) | rfl
def Q_rm4 (Z : State) (a4_0 : Addr) (bs : Addr) (h0 : Heap) (n0 : Nat) (v : Option Value) (h : Heap) (L : List Loc) : Prop := v = none ∧ Fr n0 L ∧ Keep h0 h [a4_0] ∧ (Fld Z h a4_0 "java/lang/String" "value" "[B" (.ref bs)) ∧ (Fld Z h a4_0 "java/lang/String" "coder" "B" (.int (0 : Int32)))
set_option maxRecDepth 65536 in
set_option maxHeartbeats 40000000 in
theorem rm4 (l : Launch) (Z : State) (a0 : Array Value) (hw : ∀ d ∈ tables_1, d.before a0 Z = true) (ws : List Jvm.Cond) (a4_0 : Addr) (bs : Addr) (h0 : Heap) (n0 : Nat) (Z0 : n0 ≤ h0.size) (pf_E_a4_0 : Exa Z h0 a4_0 "java/lang/String") (pf_G_a4_0 : n0 ≤ a4_0) (pf_F_a4_0_value : Fld Z h0 a4_0 "java/lang/String" "value" "[B" .null) (pf_F_a4_0_coder : Fld Z h0 a4_0 "java/lang/String" "coder" "B" (.int (0 : Int32))) :
    MetFree l (⟨"java/lang/String", "<init>", "([BB)V"⟩ : MethodName) (head1 (Jvm.Cond.code (⟨"java/lang/String", "<init>", "([BB)V"⟩ : MethodName) jdk_42_method_151_code 3 none :: ws) ({ frames := 1, cells := 0, slots := 0, locals := 12 } : Room)) (fun a U => a = #[(.ref a4_0), (.ref bs), (.int (0 : Int32))] ∧ Z.Warmed39 U.vm ∧ U.heap = h0) (fun _ _ _ _ _ => True) (fun _ U o U' => ∃ v L, o = .returned v ∧ Q_rm4 Z a4_0 bs h0 n0 v U'.heap L ∧ FrameEnd U o U' L ({ frames := 1, cells := 0, slots := 0, locals := 12 } : Room).cells ({ frames := 1, cells := 0, slots := 0, locals := 12 } : Room).slots) := by
  refine MetFree.of_bodySF (plainFor_of_name pn_java_lang_String) hisR ?_
  intro p e s m args below meth c s₁ Bd hml0 hP hK
  obtain ⟨rfl, hZ, hh⟩ := hP
  have hx := Bd.exec
  have hby := Bd.bytes
  have hml : c.maxLocals = 3 := hml0
  have hown : s.vm.findClass "java/lang/String" = some m.cls := findClass_of_methodNamed Bd.named
  have hnm := (name_of_methodNamed Bd.named Bd.method).1
  have X0 : Stand p l e ({ frames := 1, cells := 0, slots := 0, locals := 12 } : Room) s m #[(.ref a4_0), (.ref bs), (.int (0 : Int32))] below meth c s₁ [] 0 0 := Stand.of_body Bd
  have e0 : s₁.heap = h0 := by rw [← hh, Bd.state]; rfl
  have N0 := Fr.nil n0
  have pre0 : ∀ t, Steps p.tables e below (s₁.setTop (mkF m 0 #[rv a4_0, rv bs, iv (0 : Int32)] [])) t → Steps p.tables e below (s₁.setTop (entryFrame m #[(.ref a4_0), (.ref bs), (.int (0 : Int32))] 3)) t := fun t k => castTop (ef_rm4 m a4_0 bs (0 : Int32)) k
  have wo10 := hw _ (List.mem_of_getElem? (i := 10) rfl)
  have wo19 := hw _ (List.mem_of_getElem? (i := 19) rfl)
  have wo20 := hw _ (List.mem_of_getElem? (i := 20) rfl)
  have wo21 := hw _ (List.mem_of_getElem? (i := 21) rfl)
  have wo22 := hw _ (List.mem_of_getElem? (i := 22) rfl)
  have wo23 := hw _ (List.mem_of_getElem? (i := 23) rfl)
  have wo24 := hw _ (List.mem_of_getElem? (i := 24) rfl)
  have wo25 := hw _ (List.mem_of_getElem? (i := 25) rfl)
  obtain ⟨T1, X1, e1, st1⟩ := initO X0 hx hZ hown wo19 wo20 wo21 e0 (g := (mkF m 1 #[rv a4_0, rv bs, iv (0 : Int32)] [(.ref a4_0)])) rfl (by rw [hml]; rfl) rfl (hb hby d4_1) (by decide) (W := 0) (by show 2 * 0 + _ ≤ _; exact Nat.le_of_eq rfl) (by decide)
  obtain ⟨T2, h2, X2, e2, W2, st2⟩ := putF X1 hx hZ hown (host := "") (Or.inl wo22) Via.refl e1 pf_F_a4_0_value pf_E_a4_0 (Or.inr ⟨wo23, rfl, hnm⟩) wo10 (ty := (.array .byte)) (by decide) rfl rfl (g := (mkF m 6 #[rv a4_0, rv bs, iv (0 : Int32)] [(.ref bs), (.ref a4_0)])) rfl rfl (hb hby d4_6)
  have K3 : Keep h0 h2 [a4_0] := (Keep.refl h0 [a4_0]).wr W2 (Or.inl (List.mem_of_getElem? (i := 0) rfl))
  have f4 : Fld Z h2 a4_0 "java/lang/String" "value" "[B" (.ref bs) := pf_F_a4_0_value.same W2
  have N5 := Fr.snoc X2 N0 pf_G_a4_0
  have f6 := (pf_F_a4_0_coder.other W2 (Or.inr (slot_ne (Or.inr wo25) (Or.inr wo23) (by decide) (t := .byte) (t' := (.array .byte)) (by decide) (by decide))))
  have f7 := (pf_E_a4_0.wr W2)
  obtain ⟨T8, h8, X8, e8, W8, st8⟩ := putFN X2 hx hZ hown wo24 Via.refl e2 f6 f7 (Or.inr ⟨wo25, rfl, hnm⟩) wo10 (ty := .byte) (v' := (.int (0 : Int32))) (by decide) rfl (by first | rfl | exact fits_nar_byte _) (g := (mkF m 11 #[rv a4_0, rv bs, iv (0 : Int32)] [(.int (0 : Int32)), (.ref a4_0)])) rfl rfl (hb hby d4_11)
  have K9 : Keep h0 h8 [a4_0] := (K3).wr W8 (Or.inl (List.mem_of_getElem? (i := 0) rfl))
  have f10 : Fld Z h8 a4_0 "java/lang/String" "coder" "B" (.int (0 : Int32)) := f6.same W8
  have N11 := Fr.snoc X8 N5 pf_G_a4_0
  have f12 := (f4.other W8 (Or.inr (slot_ne (Or.inr wo23) (Or.inr wo25) (by decide) (t := (.array .byte)) (t' := .byte) (by decide) (by decide))))
  obtain ⟨fs, hr, hrun, hended, hW, hsame⟩ := X8.leave (v := none) (fun _ => rfl)
  refine ⟨_, _, pre0 _ ?_, hrun, hended, _, _, rfl, ?_, ⟨_, rfl⟩, hW, hsame.mono (by decide) (by decide)⟩
  · show Steps p.tables e below (s₁.setTop (mkF m 0 #[rv a4_0, rv bs, iv (0 : Int32)] [])) _
    refine XS.aloadN X0.here hx rfl (hb hby d4_0) rfl rfl ?_
    show Steps p.tables e below (s₁.setTop (mkF m 1 #[rv a4_0, rv bs, iv (0 : Int32)] [(.ref a4_0)])) _
    refine st1 _ ?_
    show Steps p.tables e below (T1.setTop (mkF m 4 #[rv a4_0, rv bs, iv (0 : Int32)] [])) _
    refine XS.aloadN X1.here hx rfl (hb hby d4_4) rfl rfl ?_
    show Steps p.tables e below (T1.setTop (mkF m 5 #[rv a4_0, rv bs, iv (0 : Int32)] [(.ref a4_0)])) _
    refine XS.aloadN X1.here hx rfl (hb hby d4_5) rfl rfl ?_
    show Steps p.tables e below (T1.setTop (mkF m 6 #[rv a4_0, rv bs, iv (0 : Int32)] [(.ref bs), (.ref a4_0)])) _
    refine st2 _ ?_
    show Steps p.tables e below (T2.setTop (mkF m 9 #[rv a4_0, rv bs, iv (0 : Int32)] [])) _
    refine XS.aloadN X2.here hx rfl (hb hby d4_9) rfl rfl ?_
    show Steps p.tables e below (T2.setTop (mkF m 10 #[rv a4_0, rv bs, iv (0 : Int32)] [(.ref a4_0)])) _
    refine XS.iloadN X2.here hx rfl (hb hby d4_10) rfl ?_
    show Steps p.tables e below (T2.setTop (mkF m 11 #[rv a4_0, rv bs, iv (0 : Int32)] [(.int (0 : Int32)), (.ref a4_0)])) _
    refine st8 _ ?_
    show Steps p.tables e below (T8.setTop (mkF m 14 #[rv a4_0, rv bs, iv (0 : Int32)] [])) _
    exact X8.returnOut hx Bd.returns (hb hby d4_14) hr
  · show Q_rm4 Z _ _ h0 n0 _ T8.heap _
    rw [e8]
    exact ⟨rfl, N11, (K9), f12, f10⟩
theorem d1_0 : decode jdk_42_method_139_code 0 = .ok (.getstatic 38, 3) := by decide +kernel
theorem d1_3 : decode jdk_42_method_139_code 3 = .ok (.ifCond .eq 23, 3) := by decide +kernel
theorem d1_6 : decode jdk_42_method_139_code 6 = .ok (.iload_n 0, 1) := by decide +kernel
theorem pd_3 : parseMethodDescriptor "(C)Z" = some ⟨[.char], some .boolean⟩ := by decide +kernel
theorem d1_7 : decode jdk_42_method_139_code 7 = .ok (.invokestatic 1015, 3) := by decide +kernel
theorem d1_10 : decode jdk_42_method_139_code 10 = .ok (.ifCond .eq 16, 3) := by decide +kernel
theorem d1_13 : decode jdk_42_method_139_code 13 = .ok (.new 10, 3) := by decide +kernel
theorem d1_16 : decode jdk_42_method_139_code 16 = .ok (.dup, 1) := by decide +kernel
theorem d1_17 : decode jdk_42_method_139_code 17 = .ok (.iload_n 0, 1) := by decide +kernel
theorem pd_4 : parseMethodDescriptor "(C)[B" = some ⟨[.char], some (.array .byte)⟩ := by decide +kernel
theorem d1_18 : decode jdk_42_method_139_code 18 = .ok (.invokestatic 1018, 3) := by decide +kernel
theorem d1_21 : decode jdk_42_method_139_code 21 = .ok (.iconst 0, 1) := by decide +kernel
theorem pd_6 : parseMethodDescriptor "([BB)V" = some ⟨[(.array .byte), .byte], none⟩ := by decide +kernel
theorem d1_22 : decode jdk_42_method_139_code 22 = .ok (.invokespecial 209, 3) := by decide +kernel
theorem d1_25 : decode jdk_42_method_139_code 25 = .ok (.areturn, 1) := by decide +kernel
theorem ef_rm1 (m : MethodId) (x0 : Int32) : entryFrame m #[(.int x0)] 1 = mkF m 0 #[iv x0] [] := by first | (simp [entryFrame, mkF, argsToLocals, Value.category]; done) | rfl
def Q_rm1 (Z : State) (ch : Int32) (cs : Int32) (h0 : Heap) (n0 : Nat) (v : Option Value) (h : Heap) (L : List Loc) : Prop := ∃ (b : Addr), v = some (.ref b) ∧ Fr n0 L ∧ Keep h0 h [] ∧ (h0.size ≤ b) ∧ (Exa Z h b "java/lang/String")
set_option maxRecDepth 65536 in
set_option maxHeartbeats 40000000 in
theorem rm1 (l : Launch) (Z : State) (a0 : Array Value) (hw : ∀ d ∈ tables_1, d.before a0 Z = true) (ws : List Jvm.Cond) (ch : Int32) (cs : Int32) (h0 : Heap) (n0 : Nat) (Z0 : n0 ≤ h0.size) (pf_O : Old Z n0 h0) (pf_S_java_lang_String_COMPACT_STRINGS : Sta Z Z.heap "java/lang/String" "COMPACT_STRINGS" "Z" (.int cs)) (hcs : ¬ (cs = (0 : Int32))) (hle : ¬ ((255 : Int32) < ch)) :
    MetFree l (⟨"java/lang/String", "valueOf", "(C)Ljava/lang/String;"⟩ : MethodName) (head1 (Jvm.Cond.code (⟨"java/lang/String", "valueOf", "(C)Ljava/lang/String;"⟩ : MethodName) jdk_42_method_139_code 1 (some (.object "java/lang/String")) :: ws) ({ frames := 2, cells := 2, slots := 5, locals := 27 } : Room)) (fun a U => a = #[(.int ch)] ∧ Z.Warmed39 U.vm ∧ U.heap = h0) (fun _ _ _ _ _ => True) (fun _ U o U' => ∃ v L, o = .returned v ∧ Q_rm1 Z ch cs h0 n0 v U'.heap L ∧ FrameEnd U o U' L ({ frames := 2, cells := 2, slots := 5, locals := 27 } : Room).cells ({ frames := 2, cells := 2, slots := 5, locals := 27 } : Room).slots) := by
  refine MetFree.of_bodySF (plainFor_of_name pn_java_lang_String) hisR ?_
  intro p e s m args below meth c s₁ Bd hml0 hP hK
  obtain ⟨rfl, hZ, hh⟩ := hP
  have hx := Bd.exec
  have hby := Bd.bytes
  have hml : c.maxLocals = 1 := hml0
  have hown : s.vm.findClass "java/lang/String" = some m.cls := findClass_of_methodNamed Bd.named
  have hnm := (name_of_methodNamed Bd.named Bd.method).1
  have X0 : Stand p l e ({ frames := 2, cells := 2, slots := 5, locals := 27 } : Room) s m #[(.int ch)] below meth c s₁ [] 0 0 := Stand.of_body Bd
  have e0 : s₁.heap = h0 := by rw [← hh, Bd.state]; rfl
  have N0 := Fr.nil n0
  have pre0 : ∀ t, Steps p.tables e below (s₁.setTop (mkF m 0 #[iv ch] [])) t → Steps p.tables e below (s₁.setTop (entryFrame m #[(.int ch)] 1)) t := fun t k => castTop (ef_rm1 m ch) k
  have wo2 := hw _ (List.mem_of_getElem? (i := 2) rfl)
  have wo4 := hw _ (List.mem_of_getElem? (i := 4) rfl)
  have wo5 := hw _ (List.mem_of_getElem? (i := 5) rfl)
  have wo6 := hw _ (List.mem_of_getElem? (i := 6) rfl)
  have wo7 := hw _ (List.mem_of_getElem? (i := 7) rfl)
  have wo8 := hw _ (List.mem_of_getElem? (i := 8) rfl)
  have wo9 := hw _ (List.mem_of_getElem? (i := 9) rfl)
  have wo10 := hw _ (List.mem_of_getElem? (i := 10) rfl)
  have wo11 := hw _ (List.mem_of_getElem? (i := 11) rfl)
  have wo12 := hw _ (List.mem_of_getElem? (i := 12) rfl)
  have wo13 := hw _ (List.mem_of_getElem? (i := 13) rfl)
  have wo15 := hw _ (List.mem_of_getElem? (i := 15) rfl)
  have wo16 := hw _ (List.mem_of_getElem? (i := 16) rfl)
  have wo18 := hw _ (List.mem_of_getElem? (i := 18) rfl)
  have wo23 := hw _ (List.mem_of_getElem? (i := 23) rfl)
  have wo25 := hw _ (List.mem_of_getElem? (i := 25) rfl)
  obtain ⟨T1, X1, e1, st1⟩ := getS2 X0 hx hZ hown (host := "") (Or.inl wo4) Via.refl e0 (pf_S_java_lang_String_COMPACT_STRINGS.ext pf_O.2) (g := (mkF m 0 #[iv ch] [])) rfl (hb hby d1_0)
  obtain ⟨_, _, ⟨T2, L2, k2, n2⟩, -, X2, ⟨Lc2, hQ2, l2, y2, z2⟩, st2⟩ := Jvm.LawKit.callS X1 hx (y := MN2) hown (mvT hZ wo5) (mvT hZ wo6) (mvT hZ wo7) (mvT hZ wo8) (by decide) (backOf (W := 0) (rm2 l Z a0 hw [] ch h0 n0 Z0 (hle : ¬ ((255 : Int32) < ch))) hZ wo8 wo7 (by decide) (by decide)) (g := (mkF m 7 #[iv ch] [(.int ch)])) rfl (by rw [hml]; rfl) (argsL := [(.int ch)]) (rest := []) (lenOf pd_3 rfl) rfl (by show 2 * 0 + _ ≤ _; exact Nat.le_of_eq rfl) (hb hby d1_7) (fun _ _ => ⟨rfl, e1, (by decide : 0 + 0 ≤ _), (by decide : 0 + 0 ≤ _)⟩)
  dsimp only [Pt.U, Pt.locs, Pt.cells, Pt.slots] at X2 l2 y2 z2 st2 hQ2
  subst l2 y2 z2
  obtain ⟨rfl, N2q, K2q⟩ := hQ2
  have N3 := Fr.app N0 N2q
  obtain ⟨T4, h4, X4, e4, E4, A4, D4, -, st4⟩ := newO X2 hx hZ hown wo9 wo10 wo2 K2q (g := (mkF m 13 #[iv ch] [])) rfl (hb hby d1_13) (by decide) (by decide)
  obtain ⟨b4, gg4⟩ : ∃ z, z = h0.size := ⟨_, rfl⟩
  rw [← gg4] at A4 D4 st4
  have g5 : n0 ≤ b4 := Nat.le_trans Z0 (Nat.le_of_eq gg4.symm)
  have bz6 : h0.size ≤ b4 := Nat.le_trans (Keep.refl h0 []).1 (Nat.le_of_eq gg4.symm)
  have K7 : Keep h0 h4 [] := (Keep.refl h0 []).ext E4
  have f8 : Fld Z h4 b4 "java/lang/String" "value" "[B" .null := D4 (Or.inr wo23) (ty := (.array .byte)) (by decide)
  have f9 : Fld Z h4 b4 "java/lang/String" "coder" "B" (.int (0 : Int32)) := D4 (Or.inr wo25) (ty := .byte) (by decide)
  have f11 := (Nat.le_trans Z0 E4.1)
  obtain ⟨_, _, ⟨T10, L10, k10, n10⟩, -, X10, ⟨Lc10, hQ10, l10, y10, z10⟩, st10⟩ := Jvm.LawKit.callS X4 hx (y := MN3) hown (mvT hZ wo11) (mvT hZ wo12) (mvT hZ wo7) (mvT hZ wo13) (by decide) (backOf (W := 2) (rm3 l Z a0 hw [] ch h4 n0 f11 ) hZ wo13 wo7 (by decide) (by decide)) (g := (mkF m 18 #[iv ch] [(.int ch), (.ref b4), (.ref b4)])) rfl (by rw [hml]; rfl) (argsL := [(.int ch)]) (rest := [(.ref b4), (.ref b4)]) (lenOf pd_4 rfl) rfl (by show 2 * 0 + _ ≤ _; exact Nat.le_of_eq rfl) (hb hby d1_18) (fun _ _ => ⟨rfl, e4, (by decide : 1 + 1 ≤ _), (by decide : 4 + 1 ≤ _)⟩)
  dsimp only [Pt.U, Pt.locs, Pt.cells, Pt.slots] at X10 l10 y10 z10 st10 hQ10
  subst l10 y10 z10
  obtain ⟨b_10, rfl, N10q, K10q, hq10_0, hq10_1⟩ := hQ10
  have N12 := Fr.app N3 N10q
  have ne13 : b4 ≠ b_10 := Nat.ne_of_lt (Nat.lt_of_lt_of_le A4.lt hq10_0)
  have g14 : n0 ≤ b_10 := Nat.le_trans f11 hq10_0
  have bz15 : h0.size ≤ b_10 := Nat.le_trans (K7).1 hq10_0
  have K16 : Keep h0 T10.heap [] := (K7).trans K10q all0
  have f17 := (A4.keep K10q)
  have f18 := (f8.keep K10q nin0)
  have f19 := (f9.keep K10q nin0)
  have f21 := (Nat.le_trans f11 K10q.1)
  obtain ⟨_, _, ⟨T20, L20, k20, n20⟩, -, X20, ⟨Lc20, hQ20, l20, y20, z20⟩, st20⟩ := X10.specialBack hx (y := MN4) rfl hown (mvT hZ wo15) (mvT hZ wo16) (mvT hZ wo18) (by decide) (backOf (W := 1) (rm4 l Z a0 hw [] b4 b_10 (T10.heap) n0 f21 f17 g5 f18 f19) hZ wo18 wo2 (by decide) (by decide)) (g := (mkF m 22 #[iv ch] [(.int (0 : Int32)), (.ref b_10), (.ref b4), (.ref b4)])) rfl (by rw [hml]; rfl) (Steps.refl _) (a := b4) (argsL := [(.ref b_10), (.int (0 : Int32))]) (rest := [(.ref b4)]) (lenOf pd_6 rfl) rfl (by show 2 * 0 + _ ≤ _; exact Nat.le_of_eq rfl) (hb hby d1_22) (fun _ _ => ⟨rfl, rfl, (by decide : 2 + 0 ≤ _), (by decide : 5 + 0 ≤ _)⟩)
  dsimp only [Pt.U, Pt.locs, Pt.cells, Pt.slots] at X20 l20 y20 z20 st20 hQ20
  subst l20 y20 z20
  obtain ⟨rfl, N20q, K20q, hq20_0, hq20_1⟩ := hQ20
  have N22 := Fr.app N12 N20q
  have K23 : Keep h0 T20.heap [] := (K16).trans K20q (allS (P := fun x => x ∈ [] ∨ h0.size ≤ x) (Or.inr bz6) all0)
  have f24 := (f17.keep K20q)
  obtain ⟨fs, hr, hrun, hended, hW, hsame⟩ := X20.leave (v := some (.ref b4)) (fun h => by rw [Bd.returns] at h; cases h)
  refine ⟨_, _, pre0 _ ?_, hrun, hended, _, _, rfl, ?_, ⟨_, rfl⟩, hW, hsame.mono (by decide) (by decide)⟩
  · show Steps p.tables e below (s₁.setTop (mkF m 0 #[iv ch] [])) _
    refine st1 _ ?_
    show Steps p.tables e below (T1.setTop (mkF m 3 #[iv ch] [(.int cs)])) _
    refine XS.ifNo X1.here hx rfl (hb hby d1_3) rfl ((if0 _ _).trans (feq hcs).1) ?_
    show Steps p.tables e below (T1.setTop (mkF m 6 #[iv ch] [])) _
    refine XS.iloadN X1.here hx rfl (hb hby d1_6) rfl ?_
    show Steps p.tables e below (T1.setTop (mkF m 7 #[iv ch] [(.int ch)])) _
    refine st2 _ ?_
    show Steps p.tables e below (T2.setTop (mkF m 10 #[iv ch] [(.int (1 : Int32))])) _
    refine XS.ifNo X2.here hx rfl (hb hby d1_10) rfl ((if0 _ _).trans (feq (by decide : ¬ ((1 : Int32) = (0 : Int32)))).1) ?_
    show Steps p.tables e below (T2.setTop (mkF m 13 #[iv ch] [])) _
    refine st4 _ ?_
    show Steps p.tables e below (T4.setTop (mkF m 16 #[iv ch] [(.ref b4)])) _
    refine XS.dup X4.here hx rfl (hb hby d1_16) rfl rfl ?_
    show Steps p.tables e below (T4.setTop (mkF m 17 #[iv ch] [(.ref b4), (.ref b4)])) _
    refine XS.iloadN X4.here hx rfl (hb hby d1_17) rfl ?_
    show Steps p.tables e below (T4.setTop (mkF m 18 #[iv ch] [(.int ch), (.ref b4), (.ref b4)])) _
    refine st10 _ ?_
    show Steps p.tables e below (T10.setTop (mkF m 21 #[iv ch] [(.ref b_10), (.ref b4), (.ref b4)])) _
    refine XS.iconst X10.here hx rfl (hb hby d1_21) ?_
    show Steps p.tables e below (T10.setTop (mkF m 22 #[iv ch] [(.int (0 : Int32)), (.ref b_10), (.ref b4), (.ref b4)])) _
    refine st20.trans ?_
    show Steps p.tables e below (T20.setTop (mkF m 25 #[iv ch] [(.ref b4)])) _
    exact retOut X20 hx Bd.returns rfl (Or.inr (Or.inr (Or.inr (Or.inr ⟨rfl, rfl, rfl⟩)))) (hb hby d1_25) hr
  · show Q_rm1 Z _ _ h0 n0 _ T20.heap _
    exact ⟨b4, rfl, N22, (K23), bz6, f24⟩
theorem d6_0 : decode prog_50_method_1_code 0 = .ok (.aload_n 0, 1) := by decide +kernel
theorem d6_1 : decode prog_50_method_1_code 1 = .ok (.invokespecial 3, 3) := by decide +kernel
theorem d6_4 : decode prog_50_method_1_code 4 = .ok (.aload_n 0, 1) := by decide +kernel
theorem d6_5 : decode prog_50_method_1_code 5 = .ok (.aload_n 1, 1) := by decide +kernel
theorem d6_6 : decode prog_50_method_1_code 6 = .ok (.putfield 9, 3) := by decide +kernel
theorem d6_9 : decode prog_50_method_1_code 9 = .ok (.aload_n 0, 1) := by decide +kernel
theorem d6_10 : decode prog_50_method_1_code 10 = .ok (.iload_n 2, 1) := by decide +kernel
theorem d6_11 : decode prog_50_method_1_code 11 = .ok (.putfield 15, 3) := by decide +kernel
theorem d6_14 : decode prog_50_method_1_code 14 = .ok (.aload_n 0, 1) := by decide +kernel
theorem d6_15 : decode prog_50_method_1_code 15 = .ok (.iload_n 3, 1) := by decide +kernel
theorem d6_16 : decode prog_50_method_1_code 16 = .ok (.putfield 19, 3) := by decide +kernel
theorem d6_19 : decode prog_50_method_1_code 19 = .ok (.aload_n 0, 1) := by decide +kernel
theorem d6_20 : decode prog_50_method_1_code 20 = .ok (.iload 4, 2) := by decide +kernel
theorem d6_22 : decode prog_50_method_1_code 22 = .ok (.putfield 22, 3) := by decide +kernel
theorem d6_25 : decode prog_50_method_1_code 25 = .ok (.return_, 1) := by decide +kernel
theorem pn_com_example_topiq_topiq_protocol_TopicRoute_QueueData : plainName "com/example/topiq/topiq/protocol/TopicRoute$QueueData" = true := by first | (simp [plainName, overriddenIn]; done) | decide +kernel
theorem ef_rm6 (m : MethodId) (x0 : Addr) (x1 : Addr) (x2 : Int32) (x3 : Int32) (x4 : Int32) : entryFrame m #[(.ref x0), (.ref x1), (.int x2), (.int x3), (.int x4)] 5 = mkF m 0 #[rv x0, rv x1, iv x2, iv x3, iv x4] [] := by first | (simp [entryFrame, mkF, argsToLocals, Value.category]; done) | rfl
def Q_rm6 (Z : State) (a6_0 : Addr) (st : Addr) (rq : Int32) (wq : Int32) (pm : Int32) (h0 : Heap) (n0 : Nat) (v : Option Value) (h : Heap) (L : List Loc) : Prop := v = none ∧ Fr n0 L ∧ Keep h0 h [a6_0] ∧ (Fld Z h a6_0 "com/example/topiq/topiq/protocol/TopicRoute$QueueData" "perm" "I" (.int pm))
set_option maxRecDepth 65536 in
set_option maxHeartbeats 40000000 in
theorem rm6 (l : Launch) (Z : State) (a0 : Array Value) (hw : ∀ d ∈ tables_1, d.before a0 Z = true) (ws : List Jvm.Cond) (a6_0 : Addr) (st : Addr) (rq : Int32) (wq : Int32) (pm : Int32) (h0 : Heap) (n0 : Nat) (Z0 : n0 ≤ h0.size) (pf_E_a6_0 : Exa Z h0 a6_0 "com/example/topiq/topiq/protocol/TopicRoute$QueueData") (pf_G_a6_0 : n0 ≤ a6_0) (pf_F_a6_0_brokerName : Fld Z h0 a6_0 "com/example/topiq/topiq/protocol/TopicRoute$QueueData" "brokerName" "Ljava/lang/String;" .null) (pf_F_a6_0_readQueueNums : Fld Z h0 a6_0 "com/example/topiq/topiq/protocol/TopicRoute$QueueData" "readQueueNums" "I" (.int (0 : Int32))) (pf_F_a6_0_writeQueueNums : Fld Z h0 a6_0 "com/example/topiq/topiq/protocol/TopicRoute$QueueData" "writeQueueNums" "I" (.int (0 : Int32))) (pf_F_a6_0_perm : Fld Z h0 a6_0 "com/example/topiq/topiq/protocol/TopicRoute$QueueData" "perm" "I" (.int (0 : Int32))) :
    MetFree l (⟨"com/example/topiq/topiq/protocol/TopicRoute$QueueData", "<init>", "(Ljava/lang/String;III)V"⟩ : MethodName) (head1 (Jvm.Cond.code (⟨"com/example/topiq/topiq/protocol/TopicRoute$QueueData", "<init>", "(Ljava/lang/String;III)V"⟩ : MethodName) prog_50_method_1_code 5 none :: ws) ({ frames := 1, cells := 0, slots := 0, locals := 12 } : Room)) (fun a U => a = #[(.ref a6_0), (.ref st), (.int rq), (.int wq), (.int pm)] ∧ Z.Warmed39 U.vm ∧ U.heap = h0) (fun _ _ _ _ _ => True) (fun _ U o U' => ∃ v L, o = .returned v ∧ Q_rm6 Z a6_0 st rq wq pm h0 n0 v U'.heap L ∧ FrameEnd U o U' L ({ frames := 1, cells := 0, slots := 0, locals := 12 } : Room).cells ({ frames := 1, cells := 0, slots := 0, locals := 12 } : Room).slots) := by
  refine MetFree.of_bodySF (plainFor_of_name pn_com_example_topiq_topiq_protocol_TopicRoute_QueueData) hisR ?_
  intro p e s m args below meth c s₁ Bd hml0 hP hK
  obtain ⟨rfl, hZ, hh⟩ := hP
  have hx := Bd.exec
  have hby := Bd.bytes
  have hml : c.maxLocals = 5 := hml0
  have hown : s.vm.findClass "com/example/topiq/topiq/protocol/TopicRoute$QueueData" = some m.cls := findClass_of_methodNamed Bd.named
  have hnm := (name_of_methodNamed Bd.named Bd.method).1
  have X0 : Stand p l e ({ frames := 1, cells := 0, slots := 0, locals := 12 } : Room) s m #[(.ref a6_0), (.ref st), (.int rq), (.int wq), (.int pm)] below meth c s₁ [] 0 0 := Stand.of_body Bd
  have e0 : s₁.heap = h0 := by rw [← hh, Bd.state]; rfl
  have N0 := Fr.nil n0
  have pre0 : ∀ t, Steps p.tables e below (s₁.setTop (mkF m 0 #[rv a6_0, rv st, iv rq, iv wq, iv pm] [])) t → Steps p.tables e below (s₁.setTop (entryFrame m #[(.ref a6_0), (.ref st), (.int rq), (.int wq), (.int pm)] 5)) t := fun t k => castTop (ef_rm6 m a6_0 st rq wq pm) k
  have wo20 := hw _ (List.mem_of_getElem? (i := 20) rfl)
  have wo21 := hw _ (List.mem_of_getElem? (i := 21) rfl)
  have wo27 := hw _ (List.mem_of_getElem? (i := 27) rfl)
  have wo32 := hw _ (List.mem_of_getElem? (i := 32) rfl)
  have wo33 := hw _ (List.mem_of_getElem? (i := 33) rfl)
  have wo34 := hw _ (List.mem_of_getElem? (i := 34) rfl)
  have wo35 := hw _ (List.mem_of_getElem? (i := 35) rfl)
  have wo36 := hw _ (List.mem_of_getElem? (i := 36) rfl)
  have wo37 := hw _ (List.mem_of_getElem? (i := 37) rfl)
  have wo38 := hw _ (List.mem_of_getElem? (i := 38) rfl)
  have wo39 := hw _ (List.mem_of_getElem? (i := 39) rfl)
  have wo40 := hw _ (List.mem_of_getElem? (i := 40) rfl)
  obtain ⟨T1, X1, e1, st1⟩ := initO X0 hx hZ hown wo32 wo20 wo21 e0 (g := (mkF m 1 #[rv a6_0, rv st, iv rq, iv wq, iv pm] [(.ref a6_0)])) rfl (by rw [hml]; rfl) rfl (hb hby d6_1) (by decide) (W := 0) (by show 2 * 0 + _ ≤ _; exact Nat.le_of_eq rfl) (by decide)
  obtain ⟨T2, h2, X2, e2, W2, st2⟩ := putF X1 hx hZ hown (host := "") (Or.inl wo33) Via.refl e1 pf_F_a6_0_brokerName pf_E_a6_0 (Or.inr ⟨wo34, rfl, hnm⟩) wo27 (ty := (.object "java/lang/String")) (by decide) rfl rfl (g := (mkF m 6 #[rv a6_0, rv st, iv rq, iv wq, iv pm] [(.ref st), (.ref a6_0)])) rfl rfl (hb hby d6_6)
  have K3 : Keep h0 h2 [a6_0] := (Keep.refl h0 [a6_0]).wr W2 (Or.inl (List.mem_of_getElem? (i := 0) rfl))
  have f4 : Fld Z h2 a6_0 "com/example/topiq/topiq/protocol/TopicRoute$QueueData" "brokerName" "Ljava/lang/String;" (.ref st) := pf_F_a6_0_brokerName.same W2
  have N5 := Fr.snoc X2 N0 pf_G_a6_0
  have f6 := (pf_F_a6_0_readQueueNums.other W2 (Or.inr (slot_ne (Or.inr wo36) (Or.inr wo34) (by decide) (t := .int) (t' := (.object "java/lang/String")) (by decide) (by decide))))
  have f7 := (pf_E_a6_0.wr W2)
  obtain ⟨T8, h8, X8, e8, W8, st8⟩ := putF X2 hx hZ hown (host := "") (Or.inl wo35) Via.refl e2 f6 f7 (Or.inr ⟨wo36, rfl, hnm⟩) wo27 (ty := .int) (by decide) rfl rfl (g := (mkF m 11 #[rv a6_0, rv st, iv rq, iv wq, iv pm] [(.int rq), (.ref a6_0)])) rfl rfl (hb hby d6_11)
  have K9 : Keep h0 h8 [a6_0] := (K3).wr W8 (Or.inl (List.mem_of_getElem? (i := 0) rfl))
  have f10 : Fld Z h8 a6_0 "com/example/topiq/topiq/protocol/TopicRoute$QueueData" "readQueueNums" "I" (.int rq) := f6.same W8
  have N11 := Fr.snoc X8 N5 pf_G_a6_0
  have f12 := ((pf_F_a6_0_writeQueueNums.other W2 (Or.inr (slot_ne (Or.inr wo38) (Or.inr wo34) (by decide) (t := .int) (t' := (.object "java/lang/String")) (by decide) (by decide)))).other W8 (Or.inr (slot_ne (Or.inr wo38) (Or.inr wo36) (by decide) (t := .int) (t' := .int) (by decide) (by decide))))
  have f13 := (f7.wr W8)
  obtain ⟨T14, h14, X14, e14, W14, st14⟩ := putF X8 hx hZ hown (host := "") (Or.inl wo37) Via.refl e8 f12 f13 (Or.inr ⟨wo38, rfl, hnm⟩) wo27 (ty := .int) (by decide) rfl rfl (g := (mkF m 16 #[rv a6_0, rv st, iv rq, iv wq, iv pm] [(.int wq), (.ref a6_0)])) rfl rfl (hb hby d6_16)
  have K15 : Keep h0 h14 [a6_0] := (K9).wr W14 (Or.inl (List.mem_of_getElem? (i := 0) rfl))
  have f16 : Fld Z h14 a6_0 "com/example/topiq/topiq/protocol/TopicRoute$QueueData" "writeQueueNums" "I" (.int wq) := f12.same W14
  have N17 := Fr.snoc X14 N11 pf_G_a6_0
  have f18 := (((pf_F_a6_0_perm.other W2 (Or.inr (slot_ne (Or.inr wo40) (Or.inr wo34) (by decide) (t := .int) (t' := (.object "java/lang/String")) (by decide) (by decide)))).other W8 (Or.inr (slot_ne (Or.inr wo40) (Or.inr wo36) (by decide) (t := .int) (t' := .int) (by decide) (by decide)))).other W14 (Or.inr (slot_ne (Or.inr wo40) (Or.inr wo38) (by decide) (t := .int) (t' := .int) (by decide) (by decide))))
  have f19 := (f13.wr W14)
  obtain ⟨T20, h20, X20, e20, W20, st20⟩ := putF X14 hx hZ hown (host := "") (Or.inl wo39) Via.refl e14 f18 f19 (Or.inr ⟨wo40, rfl, hnm⟩) wo27 (ty := .int) (by decide) rfl rfl (g := (mkF m 22 #[rv a6_0, rv st, iv rq, iv wq, iv pm] [(.int pm), (.ref a6_0)])) rfl rfl (hb hby d6_22)
  have K21 : Keep h0 h20 [a6_0] := (K15).wr W20 (Or.inl (List.mem_of_getElem? (i := 0) rfl))
  have f22 : Fld Z h20 a6_0 "com/example/topiq/topiq/protocol/TopicRoute$QueueData" "perm" "I" (.int pm) := f18.same W20
  have N23 := Fr.snoc X20 N17 pf_G_a6_0
  obtain ⟨fs, hr, hrun, hended, hW, hsame⟩ := X20.leave (v := none) (fun _ => rfl)
  refine ⟨_, _, pre0 _ ?_, hrun, hended, _, _, rfl, ?_, ⟨_, rfl⟩, hW, hsame.mono (by decide) (by decide)⟩
  · show Steps p.tables e below (s₁.setTop (mkF m 0 #[rv a6_0, rv st, iv rq, iv wq, iv pm] [])) _
    refine XS.aloadN X0.here hx rfl (hb hby d6_0) rfl rfl ?_
    show Steps p.tables e below (s₁.setTop (mkF m 1 #[rv a6_0, rv st, iv rq, iv wq, iv pm] [(.ref a6_0)])) _
    refine st1 _ ?_
    show Steps p.tables e below (T1.setTop (mkF m 4 #[rv a6_0, rv st, iv rq, iv wq, iv pm] [])) _
    refine XS.aloadN X1.here hx rfl (hb hby d6_4) rfl rfl ?_
    show Steps p.tables e below (T1.setTop (mkF m 5 #[rv a6_0, rv st, iv rq, iv wq, iv pm] [(.ref a6_0)])) _
    refine XS.aloadN X1.here hx rfl (hb hby d6_5) rfl rfl ?_
    show Steps p.tables e below (T1.setTop (mkF m 6 #[rv a6_0, rv st, iv rq, iv wq, iv pm] [(.ref st), (.ref a6_0)])) _
    refine st2 _ ?_
    show Steps p.tables e below (T2.setTop (mkF m 9 #[rv a6_0, rv st, iv rq, iv wq, iv pm] [])) _
    refine XS.aloadN X2.here hx rfl (hb hby d6_9) rfl rfl ?_
    show Steps p.tables e below (T2.setTop (mkF m 10 #[rv a6_0, rv st, iv rq, iv wq, iv pm] [(.ref a6_0)])) _
    refine XS.iloadN X2.here hx rfl (hb hby d6_10) rfl ?_
    show Steps p.tables e below (T2.setTop (mkF m 11 #[rv a6_0, rv st, iv rq, iv wq, iv pm] [(.int rq), (.ref a6_0)])) _
    refine st8 _ ?_
    show Steps p.tables e below (T8.setTop (mkF m 14 #[rv a6_0, rv st, iv rq, iv wq, iv pm] [])) _
    refine XS.aloadN X8.here hx rfl (hb hby d6_14) rfl rfl ?_
    show Steps p.tables e below (T8.setTop (mkF m 15 #[rv a6_0, rv st, iv rq, iv wq, iv pm] [(.ref a6_0)])) _
    refine XS.iloadN X8.here hx rfl (hb hby d6_15) rfl ?_
    show Steps p.tables e below (T8.setTop (mkF m 16 #[rv a6_0, rv st, iv rq, iv wq, iv pm] [(.int wq), (.ref a6_0)])) _
    refine st14 _ ?_
    show Steps p.tables e below (T14.setTop (mkF m 19 #[rv a6_0, rv st, iv rq, iv wq, iv pm] [])) _
    refine XS.aloadN X14.here hx rfl (hb hby d6_19) rfl rfl ?_
    show Steps p.tables e below (T14.setTop (mkF m 20 #[rv a6_0, rv st, iv rq, iv wq, iv pm] [(.ref a6_0)])) _
    refine XS.iload X14.here hx rfl (hb hby d6_20) rfl ?_
    show Steps p.tables e below (T14.setTop (mkF m 22 #[rv a6_0, rv st, iv rq, iv wq, iv pm] [(.int pm), (.ref a6_0)])) _
    refine st20 _ ?_
    show Steps p.tables e below (T20.setTop (mkF m 25 #[rv a6_0, rv st, iv rq, iv wq, iv pm] [])) _
    exact X20.returnOut hx Bd.returns (hb hby d6_25) hr
  · show Q_rm6 Z _ _ _ _ _ h0 n0 _ T20.heap _
    rw [e20]
    exact ⟨rfl, N23, (K21), f22⟩
theorem d7_0 : decode prog_50_method_8_code 0 = .ok (.aload_n 0, 1) := by decide +kernel
theorem d7_1 : decode prog_50_method_8_code 1 = .ok (.getfield 22, 3) := by decide +kernel
theorem d7_4 : decode prog_50_method_8_code 4 = .ok (.iconst 2, 1) := by decide +kernel
theorem d7_5 : decode prog_50_method_8_code 5 = .ok (.iand, 1) := by decide +kernel
theorem d7_6 : decode prog_50_method_8_code 6 = .ok (.ifCond .eq 7, 3) := by decide +kernel
theorem d7_13 : decode prog_50_method_8_code 13 = .ok (.iconst 0, 1) := by decide +kernel
theorem d7_14 : decode prog_50_method_8_code 14 = .ok (.ireturn, 1) := by decide +kernel
theorem d7_9 : decode prog_50_method_8_code 9 = .ok (.iconst 1, 1) := by decide +kernel
theorem d7_10 : decode prog_50_method_8_code 10 = .ok (.goto 4, 3) := by decide +kernel
theorem ef_rm7 (m : MethodId) (x0 : Addr) : entryFrame m #[(.ref x0)] 1 = mkF m 0 #[rv x0] [] := by first | (simp [entryFrame, mkF, argsToLocals, Value.category]; done) | rfl
def Q_rm7 (Z : State) (a7_0 : Addr) (pm : Int32) (h0 : Heap) (n0 : Nat) (v : Option Value) (h : Heap) (L : List Loc) : Prop := v = some (.int (if (pm &&& (2 : Int32)) = (0 : Int32) then (0 : Int32) else (1 : Int32))) ∧ Fr n0 L ∧ h = h0
set_option maxRecDepth 65536 in
set_option maxHeartbeats 40000000 in
theorem rm7 (l : Launch) (Z : State) (a0 : Array Value) (hw : ∀ d ∈ tables_1, d.before a0 Z = true) (ws : List Jvm.Cond) (a7_0 : Addr) (pm : Int32) (h0 : Heap) (n0 : Nat) (Z0 : n0 ≤ h0.size) (pf_F_a7_0_perm : Fld Z h0 a7_0 "com/example/topiq/topiq/protocol/TopicRoute$QueueData" "perm" "I" (.int pm)) :
    MetFree l (⟨"com/example/topiq/topiq/protocol/TopicRoute$QueueData", "isWritable", "()Z"⟩ : MethodName) (head1 (Jvm.Cond.code (⟨"com/example/topiq/topiq/protocol/TopicRoute$QueueData", "isWritable", "()Z"⟩ : MethodName) prog_50_method_8_code 1 (some .boolean) :: ws) ({ frames := 0, cells := 0, slots := 0, locals := 0 } : Room)) (fun a U => a = #[(.ref a7_0)] ∧ Z.Warmed39 U.vm ∧ U.heap = h0) (fun _ _ _ _ _ => True) (fun _ U o U' => ∃ v L, o = .returned v ∧ Q_rm7 Z a7_0 pm h0 n0 v U'.heap L ∧ FrameEnd U o U' L ({ frames := 0, cells := 0, slots := 0, locals := 0 } : Room).cells ({ frames := 0, cells := 0, slots := 0, locals := 0 } : Room).slots) := by
  refine MetFree.of_bodySF (plainFor_of_name pn_com_example_topiq_topiq_protocol_TopicRoute_QueueData) hisR ?_
  intro p e s m args below meth c s₁ Bd hml0 hP hK
  obtain ⟨rfl, hZ, hh⟩ := hP
  have hx := Bd.exec
  have hby := Bd.bytes
  have hml : c.maxLocals = 1 := hml0
  have hown : s.vm.findClass "com/example/topiq/topiq/protocol/TopicRoute$QueueData" = some m.cls := findClass_of_methodNamed Bd.named
  have hnm := (name_of_methodNamed Bd.named Bd.method).1
  have X0 : Stand p l e ({ frames := 0, cells := 0, slots := 0, locals := 0 } : Room) s m #[(.ref a7_0)] below meth c s₁ [] 0 0 := Stand.of_body Bd
  have e0 : s₁.heap = h0 := by rw [← hh, Bd.state]; rfl
  have N0 := Fr.nil n0
  have pre0 : ∀ t, Steps p.tables e below (s₁.setTop (mkF m 0 #[rv a7_0] [])) t → Steps p.tables e below (s₁.setTop (entryFrame m #[(.ref a7_0)] 1)) t := fun t k => castTop (ef_rm7 m a7_0) k
  have wo39 := hw _ (List.mem_of_getElem? (i := 39) rfl)
  obtain ⟨T1, X1, e1, st1⟩ := getF X0 hx hZ hown (host := "") (Or.inl wo39) Via.refl e0 pf_F_a7_0_perm (g := (mkF m 1 #[rv a7_0] [(.ref a7_0)])) rfl rfl (hb hby d7_1)
  have pre3 : ∀ t, Steps p.tables e below (T1.setTop (mkF m 6 #[rv a7_0] [(.int (pm &&& (2 : Int32)))])) t → Steps p.tables e below (s₁.setTop (entryFrame m #[(.ref a7_0)] 1)) t := by
    intro t k
    refine pre0 _ ?_
    show Steps p.tables e below (s₁.setTop (mkF m 0 #[rv a7_0] [])) _
    refine XS.aloadN X0.here hx rfl (hb hby d7_0) rfl rfl ?_
    show Steps p.tables e below (s₁.setTop (mkF m 1 #[rv a7_0] [(.ref a7_0)])) _
    refine st1 _ ?_
    show Steps p.tables e below (T1.setTop (mkF m 4 #[rv a7_0] [(.int pm)])) _
    refine XS.iconst X1.here hx rfl (hb hby d7_4) ?_
    show Steps p.tables e below (T1.setTop (mkF m 5 #[rv a7_0] [(.int (2 : Int32)), (.int pm)])) _
    refine XS.iand X1.here hx rfl (hb hby d7_5) rfl ?_
    exact k
  by_cases hc6_2 : (pm &&& (2 : Int32)) = (0 : Int32)
  · skip
    obtain ⟨fs, hr, hrun, hended, hW, hsame⟩ := X1.leave (v := some (.int (0 : Int32))) (fun h => by rw [Bd.returns] at h; cases h)
    refine ⟨_, _, pre3 _ ?_, hrun, hended, _, _, rfl, ?_, ⟨_, rfl⟩, hW, hsame.mono (by decide) (by decide)⟩
    · show Steps p.tables e below (T1.setTop (mkF m 6 #[rv a7_0] [(.int (pm &&& (2 : Int32)))])) _
      refine XS.ifYes X1.here hx rfl (pc0 := 6) (pc' := 13) rfl (hb hby d7_6) rfl ((if0 _ _).trans (teq hc6_2).1) (by decide) (by decide) ?_
      show Steps p.tables e below (T1.setTop (mkF m 13 #[rv a7_0] [])) _
      refine XS.iconst X1.here hx rfl (hb hby d7_13) ?_
      show Steps p.tables e below (T1.setTop (mkF m 14 #[rv a7_0] [(.int (0 : Int32))])) _
      exact retN X1 hx (t := .boolean) Bd.returns (by simp) (hb hby d7_14) hr
    · show Q_rm7 Z _ _ h0 n0 _ T1.heap _
      rw [e1]
      exact ⟨(by first | rfl | (simp [*]; done) | (simp_all; done)), N0, rfl⟩
  · skip
    obtain ⟨fs, hr, hrun, hended, hW, hsame⟩ := X1.leave (v := some (.int (1 : Int32))) (fun h => by rw [Bd.returns] at h; cases h)
    refine ⟨_, _, pre3 _ ?_, hrun, hended, _, _, rfl, ?_, ⟨_, rfl⟩, hW, hsame.mono (by decide) (by decide)⟩
    · show Steps p.tables e below (T1.setTop (mkF m 6 #[rv a7_0] [(.int (pm &&& (2 : Int32)))])) _
      refine XS.ifNo X1.here hx rfl (hb hby d7_6) rfl ((if0 _ _).trans (feq hc6_2).1) ?_
      show Steps p.tables e below (T1.setTop (mkF m 9 #[rv a7_0] [])) _
      refine XS.iconst X1.here hx rfl (hb hby d7_9) ?_
      show Steps p.tables e below (T1.setTop (mkF m 10 #[rv a7_0] [(.int (1 : Int32))])) _
      refine XS.goto X1.here hx rfl (pc0 := 10) (pc' := 14) rfl (hb hby d7_10) (by decide) (by decide) ?_
      show Steps p.tables e below (T1.setTop (mkF m 14 #[rv a7_0] [(.int (1 : Int32))])) _
      exact retN X1 hx (t := .boolean) Bd.returns (by simp) (hb hby d7_14) hr
    · show Q_rm7 Z _ _ h0 n0 _ T1.heap _
      rw [e1]
      exact ⟨(by first | rfl | (simp [*]; done) | (simp_all; done)), N0, rfl⟩
theorem pd_2 : parseMethodDescriptor "(C)Ljava/lang/String;" = some ⟨[.char], some (.object "java/lang/String")⟩ := by decide +kernel
theorem pd_5 : parseMethodDescriptor "(Ljava/lang/String;III)V" = some ⟨[(.object "java/lang/String"), .int, .int, .int], none⟩ := by decide +kernel
theorem pd_1 : parseMethodDescriptor "()Z" = some ⟨[], some .boolean⟩ := by decide +kernel
theorem pn_com_example_topiq_topiq_protocol_QueueDataIsWritablePinLaw : plainName "com/example/topiq/topiq/protocol/QueueDataIsWritablePinLaw" = true := by first | (simp [plainName, overriddenIn]; done) | decide +kernel
theorem ef_rm0 (m : MethodId) (x0 : Int32) (x1 : Int32) (x2 : Int32) (x3 : Int32) (x4 : Int32) : entryFrame m #[(.int x0), (.int x1), (.int x2), (.int x3), (.int x4)] maxLocals = mkF m 0 #[iv x0, iv x1, iv x2, iv x3, iv x4, .unset, .unset, .unset, .unset, .unset, .unset] [] := by first | (simp [entryFrame, mkF, argsToLocals, Value.category, maxLocals]; done) | rfl
def Q_rm0 (Z : State) (p0_0 : Int32) (p0_1 : Int32) (p0_2 : Int32) (p0_3 : Int32) (p0_4 : Int32) (cs : Int32) (h0 : Heap) (n0 : Nat) (v : Option Value) (h : Heap) (L : List Loc) : Prop := v = some (.int (1 : Int32)) ∧ Fr n0 L ∧ Keep h0 h []
set_option maxRecDepth 65536 in
set_option maxHeartbeats 40000000 in
theorem rm0 (l : Launch) (Z : State) (a0 : Array Value) (hw : ∀ d ∈ tables_1, d.before a0 Z = true) (ws : List Jvm.Cond) (p0_0 : Int32) (p0_1 : Int32) (p0_2 : Int32) (p0_3 : Int32) (p0_4 : Int32) (cs : Int32) (h0 : Heap) (n0 : Nat) (Z0 : n0 ≤ h0.size) (pf_O : Old Z n0 h0) (pf_S_java_lang_String_COMPACT_STRINGS : Sta Z Z.heap "java/lang/String" "COMPACT_STRINGS" "Z" (.int cs)) (hcs : ¬ (cs = (0 : Int32))) :
    MetFree l x (head1 (Jvm.Cond.code x code maxLocals ret :: ws) room_1) (fun a U => a = #[(.int p0_0), (.int p0_1), (.int p0_2), (.int p0_3), (.int p0_4)] ∧ Z.Warmed39 U.vm ∧ U.heap = h0) (fun _ _ _ _ _ => True) (fun _ U o U' => ∃ v L, o = .returned v ∧ Q_rm0 Z p0_0 p0_1 p0_2 p0_3 p0_4 cs h0 n0 v U'.heap L ∧ FrameEnd U o U' L room_1.cells room_1.slots) := by
  refine MetFree.of_bodySF (plainFor_of_name pn_com_example_topiq_topiq_protocol_QueueDataIsWritablePinLaw) hisR ?_
  intro p e s m args below meth c s₁ Bd hml0 hP hK
  obtain ⟨rfl, hZ, hh⟩ := hP
  have hx := Bd.exec
  have hby := Bd.bytes
  have hml : c.maxLocals = 11 := hml0
  have hown : s.vm.findClass "com/example/topiq/topiq/protocol/QueueDataIsWritablePinLaw" = some m.cls := findClass_of_methodNamed Bd.named
  have hnm := (name_of_methodNamed Bd.named Bd.method).1
  have X0 : Stand p l e room_1 s m #[(.int p0_0), (.int p0_1), (.int p0_2), (.int p0_3), (.int p0_4)] below meth c s₁ [] 0 0 := Stand.of_body Bd
  have e0 : s₁.heap = h0 := by rw [← hh, Bd.state]; rfl
  have N0 := Fr.nil n0
  have pre0 : ∀ t, Steps p.tables e below (s₁.setTop (mkF m 0 #[iv p0_0, iv p0_1, iv p0_2, iv p0_3, iv p0_4, .unset, .unset, .unset, .unset, .unset, .unset] [])) t → Steps p.tables e below (s₁.setTop (entryFrame m #[(.int p0_0), (.int p0_1), (.int p0_2), (.int p0_3), (.int p0_4)] maxLocals)) t := fun t k => castTop (ef_rm0 m p0_0 p0_1 p0_2 p0_3 p0_4) k
  have wo0 := hw _ (List.mem_of_getElem? (i := 0) rfl)
  have wo1 := hw _ (List.mem_of_getElem? (i := 1) rfl)
  have wo2 := hw _ (List.mem_of_getElem? (i := 2) rfl)
  have wo3 := hw _ (List.mem_of_getElem? (i := 3) rfl)
  have wo26 := hw _ (List.mem_of_getElem? (i := 26) rfl)
  have wo27 := hw _ (List.mem_of_getElem? (i := 27) rfl)
  have wo28 := hw _ (List.mem_of_getElem? (i := 28) rfl)
  have wo29 := hw _ (List.mem_of_getElem? (i := 29) rfl)
  have wo30 := hw _ (List.mem_of_getElem? (i := 30) rfl)
  have wo31 := hw _ (List.mem_of_getElem? (i := 31) rfl)
  have wo34 := hw _ (List.mem_of_getElem? (i := 34) rfl)
  have wo36 := hw _ (List.mem_of_getElem? (i := 36) rfl)
  have wo38 := hw _ (List.mem_of_getElem? (i := 38) rfl)
  have wo40 := hw _ (List.mem_of_getElem? (i := 40) rfl)
  have wo41 := hw _ (List.mem_of_getElem? (i := 41) rfl)
  have wo42 := hw _ (List.mem_of_getElem? (i := 42) rfl)
  have wo43 := hw _ (List.mem_of_getElem? (i := 43) rfl)
  have wo44 := hw _ (List.mem_of_getElem? (i := 44) rfl)
  have wo45 := hw _ (List.mem_of_getElem? (i := 45) rfl)
  obtain ⟨_, _, ⟨T1, L1, k1, n1⟩, -, X1, ⟨Lc1, hQ1, l1, y1, z1⟩, st1⟩ := Jvm.LawKit.callS X0 hx (y := MN1) hown (mvT hZ wo0) (mvT hZ wo1) (mvT hZ wo2) (mvT hZ wo3) (by decide) (backOf (W := 0) (rm1 l Z a0 hw [] ((p0_4 &&& (255 : Int32)).toUInt32.toUInt16.toUInt32.toInt32) cs h0 n0 Z0 pf_O pf_S_java_lang_String_COMPACT_STRINGS (hcs : ¬ (cs = (0 : Int32))) (own_255 p0_4 : ¬ ((255 : Int32) < ((p0_4 &&& (255 : Int32)).toUInt32.toUInt16.toUInt32.toInt32)))) hZ wo3 wo2 (by decide) (by decide)) (g := (mkF m 7 #[iv p0_0, iv p0_1, iv p0_2, iv p0_3, iv p0_4, .unset, .unset, .unset, .unset, .unset, .unset] [(.int ((p0_4 &&& (255 : Int32)).toUInt32.toUInt16.toUInt32.toInt32))])) rfl (by rw [hml]; rfl) (argsL := [(.int ((p0_4 &&& (255 : Int32)).toUInt32.toUInt16.toUInt32.toInt32))]) (rest := []) (lenOf pd_2 rfl) rfl (by show 2 * 0 + _ ≤ _; exact Nat.le_of_eq rfl) (hb hby at_7) (fun _ _ => ⟨rfl, e0, (by decide : 0 + 2 ≤ _), (by decide : 0 + 5 ≤ _)⟩)
  dsimp only [Pt.U, Pt.locs, Pt.cells, Pt.slots] at X1 l1 y1 z1 st1 hQ1
  subst l1 y1 z1
  obtain ⟨b_1, rfl, N1q, K1q, hq1_0, hq1_1⟩ := hQ1
  have N2 := Fr.app N0 N1q
  have g3 : n0 ≤ b_1 := Nat.le_trans Z0 hq1_0
  have bz4 : h0.size ≤ b_1 := Nat.le_trans (Keep.refl h0 []).1 hq1_0
  have K5 : Keep h0 T1.heap [] := (Keep.refl h0 []).trans K1q all0
  obtain ⟨T6, h6, X6, e6, E6, A6, D6, -, st6⟩ := newO X1 hx hZ hown wo26 wo27 wo28 rfl (g := (mkF m 12 #[iv p0_0, iv p0_1, iv p0_2, iv p0_3, iv p0_4, rv b_1, .unset, .unset, .unset, .unset, .unset] [])) rfl (hb hby at_12) (by decide) (by decide)
  obtain ⟨b6, gg6⟩ : ∃ z, z = T1.heap.size := ⟨_, rfl⟩
  rw [← gg6] at A6 D6 st6
  have ne7 : b_1 ≠ b6 := Nat.ne_of_lt (Nat.lt_of_lt_of_le hq1_1.lt (Nat.le_of_eq gg6.symm))
  have f9 := (Nat.le_trans Z0 K1q.1)
  have g8 : n0 ≤ b6 := Nat.le_trans f9 (Nat.le_of_eq gg6.symm)
  have bz10 : h0.size ≤ b6 := Nat.le_trans (K5).1 (Nat.le_of_eq gg6.symm)
  have K11 : Keep h0 h6 [] := (K5).ext E6
  have f12 : Fld Z h6 b6 "com/example/topiq/topiq/protocol/TopicRoute$QueueData" "brokerName" "Ljava/lang/String;" .null := D6 (Or.inr wo34) (ty := (.object "java/lang/String")) (by decide)
  have f13 : Fld Z h6 b6 "com/example/topiq/topiq/protocol/TopicRoute$QueueData" "readQueueNums" "I" (.int (0 : Int32)) := D6 (Or.inr wo36) (ty := .int) (by decide)
  have f14 : Fld Z h6 b6 "com/example/topiq/topiq/protocol/TopicRoute$QueueData" "writeQueueNums" "I" (.int (0 : Int32)) := D6 (Or.inr wo38) (ty := .int) (by decide)
  have f15 : Fld Z h6 b6 "com/example/topiq/topiq/protocol/TopicRoute$QueueData" "perm" "I" (.int (0 : Int32)) := D6 (Or.inr wo40) (ty := .int) (by decide)
  have f17 := (Nat.le_trans f9 E6.1)
  obtain ⟨_, _, ⟨T16, L16, k16, n16⟩, -, X16, ⟨Lc16, hQ16, l16, y16, z16⟩, st16⟩ := X6.specialBack hx (y := MN6) rfl hown (mvT hZ wo29) (mvT hZ wo30) (mvT hZ wo31) (by decide) (backOf (W := 1) (rm6 l Z a0 hw [] b6 b_1 p0_2 p0_3 p0_0 h6 n0 f17 A6 g8 f12 f13 f14 f15) hZ wo31 wo28 (by decide) (by decide)) (g := (mkF m 21 #[iv p0_0, iv p0_1, iv p0_2, iv p0_3, iv p0_4, rv b_1, .unset, .unset, .unset, .unset, .unset] [(.int p0_0), (.int p0_3), (.int p0_2), (.ref b_1), (.ref b6), (.ref b6)])) rfl (by rw [hml]; rfl) (Steps.refl _) (a := b6) (argsL := [(.ref b_1), (.int p0_2), (.int p0_3), (.int p0_0)]) (rest := [(.ref b6)]) (lenOf pd_5 rfl) rfl (by show 2 * 0 + _ ≤ _; exact Nat.le_of_eq rfl) (hb hby at_21) (fun _ _ => ⟨rfl, e6, (by decide : 3 + 0 ≤ _), (by decide : 9 + 0 ≤ _)⟩)
  dsimp only [Pt.U, Pt.locs, Pt.cells, Pt.slots] at X16 l16 y16 z16 st16 hQ16
  subst l16 y16 z16
  obtain ⟨rfl, N16q, K16q, hq16_0⟩ := hQ16
  have N18 := Fr.app N2 N16q
  have K19 : Keep h0 T16.heap [] := (K11).trans K16q (allS (P := fun x => x ∈ [] ∨ h0.size ≤ x) (Or.inr bz10) all0)
  obtain ⟨T20, h20, X20, e20, E20, A20, D20, -, st20⟩ := newO X16 hx hZ hown wo26 wo27 wo28 rfl (g := (mkF m 26 #[iv p0_0, iv p0_1, iv p0_2, iv p0_3, iv p0_4, rv b_1, rv b6, .unset, .unset, .unset, .unset] [])) rfl (hb hby at_26) (by decide) (by decide)
  obtain ⟨b20, gg20⟩ : ∃ z, z = T16.heap.size := ⟨_, rfl⟩
  rw [← gg20] at A20 D20 st20
  have f21 := ((hq1_1.ext E6).keep K16q)
  have ne22 : b_1 ≠ b20 := Nat.ne_of_lt (Nat.lt_of_lt_of_le f21.lt (Nat.le_of_eq gg20.symm))
  have f23 := (A6.keep K16q)
  have ne24 : b6 ≠ b20 := Nat.ne_of_lt (Nat.lt_of_lt_of_le f23.lt (Nat.le_of_eq gg20.symm))
  have f26 := (Nat.le_trans f17 K16q.1)
  have g25 : n0 ≤ b20 := Nat.le_trans f26 (Nat.le_of_eq gg20.symm)
  have bz27 : h0.size ≤ b20 := Nat.le_trans (K19).1 (Nat.le_of_eq gg20.symm)
  have K28 : Keep h0 h20 [] := (K19).ext E20
  have f29 : Fld Z h20 b20 "com/example/topiq/topiq/protocol/TopicRoute$QueueData" "brokerName" "Ljava/lang/String;" .null := D20 (Or.inr wo34) (ty := (.object "java/lang/String")) (by decide)
  have f30 : Fld Z h20 b20 "com/example/topiq/topiq/protocol/TopicRoute$QueueData" "readQueueNums" "I" (.int (0 : Int32)) := D20 (Or.inr wo36) (ty := .int) (by decide)
  have f31 : Fld Z h20 b20 "com/example/topiq/topiq/protocol/TopicRoute$QueueData" "writeQueueNums" "I" (.int (0 : Int32)) := D20 (Or.inr wo38) (ty := .int) (by decide)
  have f32 : Fld Z h20 b20 "com/example/topiq/topiq/protocol/TopicRoute$QueueData" "perm" "I" (.int (0 : Int32)) := D20 (Or.inr wo40) (ty := .int) (by decide)
  have f34 := (Nat.le_trans f26 E20.1)
  obtain ⟨_, _, ⟨T33, L33, k33, n33⟩, -, X33, ⟨Lc33, hQ33, l33, y33, z33⟩, st33⟩ := X20.specialBack hx (y := MN6) rfl hown (mvT hZ wo29) (mvT hZ wo30) (mvT hZ wo31) (by decide) (backOf (W := 1) (rm6 l Z a0 hw [] b20 b_1 p0_3 p0_2 (p0_0 ^^^ (p0_1 &&& (-3 : Int32))) h20 n0 f34 A20 g25 f29 f30 f31 f32) hZ wo31 wo28 (by decide) (by decide)) (g := (mkF m 40 #[iv p0_0, iv p0_1, iv p0_2, iv p0_3, iv p0_4, rv b_1, rv b6, .unset, .unset, .unset, .unset] [(.int (p0_0 ^^^ (p0_1 &&& (-3 : Int32)))), (.int p0_2), (.int p0_3), (.ref b_1), (.ref b20), (.ref b20)])) rfl (by rw [hml]; rfl) (Steps.refl _) (a := b20) (argsL := [(.ref b_1), (.int p0_3), (.int p0_2), (.int (p0_0 ^^^ (p0_1 &&& (-3 : Int32))))]) (rest := [(.ref b20)]) (lenOf pd_5 rfl) rfl (by show 2 * 0 + _ ≤ _; exact Nat.le_of_eq rfl) (hb hby at_40) (fun _ _ => ⟨rfl, e20, (by decide : 4 + 0 ≤ _), (by decide : 13 + 0 ≤ _)⟩)
  dsimp only [Pt.U, Pt.locs, Pt.cells, Pt.slots] at X33 l33 y33 z33 st33 hQ33
  subst l33 y33 z33
  obtain ⟨rfl, N33q, K33q, hq33_0⟩ := hQ33
  have N35 := Fr.app N18 N33q
  have K36 : Keep h0 T33.heap [] := (K28).trans K33q (allS (P := fun x => x ∈ [] ∨ h0.size ≤ x) (Or.inr bz27) all0)
  obtain ⟨T37, h37, X37, e37, E37, A37, D37, -, st37⟩ := newO X33 hx hZ hown wo26 wo27 wo28 rfl (g := (mkF m 45 #[iv p0_0, iv p0_1, iv p0_2, iv p0_3, iv p0_4, rv b_1, rv b6, rv b20, .unset, .unset, .unset] [])) rfl (hb hby at_45) (by decide) (by decide)
  obtain ⟨b37, gg37⟩ : ∃ z, z = T33.heap.size := ⟨_, rfl⟩
  rw [← gg37] at A37 D37 st37
  have f38 := ((f21.ext E20).keep K33q)
  have ne39 : b_1 ≠ b37 := Nat.ne_of_lt (Nat.lt_of_lt_of_le f38.lt (Nat.le_of_eq gg37.symm))
  have f40 := ((f23.ext E20).keep K33q)
  have ne41 : b6 ≠ b37 := Nat.ne_of_lt (Nat.lt_of_lt_of_le f40.lt (Nat.le_of_eq gg37.symm))
  have f42 := (A20.keep K33q)
  have ne43 : b20 ≠ b37 := Nat.ne_of_lt (Nat.lt_of_lt_of_le f42.lt (Nat.le_of_eq gg37.symm))
  have f45 := (Nat.le_trans f34 K33q.1)
  have g44 : n0 ≤ b37 := Nat.le_trans f45 (Nat.le_of_eq gg37.symm)
  have bz46 : h0.size ≤ b37 := Nat.le_trans (K36).1 (Nat.le_of_eq gg37.symm)
  have K47 : Keep h0 h37 [] := (K36).ext E37
  have f48 : Fld Z h37 b37 "com/example/topiq/topiq/protocol/TopicRoute$QueueData" "brokerName" "Ljava/lang/String;" .null := D37 (Or.inr wo34) (ty := (.object "java/lang/String")) (by decide)
  have f49 : Fld Z h37 b37 "com/example/topiq/topiq/protocol/TopicRoute$QueueData" "readQueueNums" "I" (.int (0 : Int32)) := D37 (Or.inr wo36) (ty := .int) (by decide)
  have f50 : Fld Z h37 b37 "com/example/topiq/topiq/protocol/TopicRoute$QueueData" "writeQueueNums" "I" (.int (0 : Int32)) := D37 (Or.inr wo38) (ty := .int) (by decide)
  have f51 : Fld Z h37 b37 "com/example/topiq/topiq/protocol/TopicRoute$QueueData" "perm" "I" (.int (0 : Int32)) := D37 (Or.inr wo40) (ty := .int) (by decide)
  have f53 := (Nat.le_trans f45 E37.1)
  obtain ⟨_, _, ⟨T52, L52, k52, n52⟩, -, X52, ⟨Lc52, hQ52, l52, y52, z52⟩, st52⟩ := X37.specialBack hx (y := MN6) rfl hown (mvT hZ wo29) (mvT hZ wo30) (mvT hZ wo31) (by decide) (backOf (W := 1) (rm6 l Z a0 hw [] b37 b_1 p0_2 p0_3 (p0_0 ^^^ (2 : Int32)) h37 n0 f53 A37 g44 f48 f49 f50 f51) hZ wo31 wo28 (by decide) (by decide)) (g := (mkF m 56 #[iv p0_0, iv p0_1, iv p0_2, iv p0_3, iv p0_4, rv b_1, rv b6, rv b20, .unset, .unset, .unset] [(.int (p0_0 ^^^ (2 : Int32))), (.int p0_3), (.int p0_2), (.ref b_1), (.ref b37), (.ref b37)])) rfl (by rw [hml]; rfl) (Steps.refl _) (a := b37) (argsL := [(.ref b_1), (.int p0_2), (.int p0_3), (.int (p0_0 ^^^ (2 : Int32)))]) (rest := [(.ref b37)]) (lenOf pd_5 rfl) rfl (by show 2 * 0 + _ ≤ _; exact Nat.le_of_eq rfl) (hb hby at_56) (fun _ _ => ⟨rfl, e37, (by decide : 5 + 0 ≤ _), (by decide : 17 + 0 ≤ _)⟩)
  dsimp only [Pt.U, Pt.locs, Pt.cells, Pt.slots] at X52 l52 y52 z52 st52 hQ52
  subst l52 y52 z52
  obtain ⟨rfl, N52q, K52q, hq52_0⟩ := hQ52
  have N54 := Fr.app N35 N52q
  have K55 : Keep h0 T52.heap [] := (K47).trans K52q (allS (P := fun x => x ∈ [] ∨ h0.size ≤ x) (Or.inr bz46) all0)
  have pre57 : ∀ t, Steps p.tables e below (T52.setTop (mkF m 67 #[iv p0_0, iv p0_1, iv p0_2, iv p0_3, iv p0_4, rv b_1, rv b6, rv b20, rv b37, .unset, .unset] [(.int (1 : Int32)), (.int (((p0_0.toUInt32 >>> ((1 : Int32) &&& 31).toUInt32).toInt32) &&& (1 : Int32)))])) t → Steps p.tables e below (s₁.setTop (entryFrame m #[(.int p0_0), (.int p0_1), (.int p0_2), (.int p0_3), (.int p0_4)] maxLocals)) t := by
    intro t k
    refine pre0 _ ?_
    show Steps p.tables e below (s₁.setTop (mkF m 0 #[iv p0_0, iv p0_1, iv p0_2, iv p0_3, iv p0_4, .unset, .unset, .unset, .unset, .unset, .unset] [])) _
    refine XS.iload X0.here hx rfl (hb hby at_0) rfl ?_
    show Steps p.tables e below (s₁.setTop (mkF m 2 #[iv p0_0, iv p0_1, iv p0_2, iv p0_3, iv p0_4, .unset, .unset, .unset, .unset, .unset, .unset] [(.int p0_4)])) _
    refine XS.sipush X0.here hx rfl (hb hby at_2) ?_
    show Steps p.tables e below (s₁.setTop (mkF m 5 #[iv p0_0, iv p0_1, iv p0_2, iv p0_3, iv p0_4, .unset, .unset, .unset, .unset, .unset, .unset] [(.int (255 : Int32)), (.int p0_4)])) _
    refine XS.iand X0.here hx rfl (hb hby at_5) rfl ?_
    show Steps p.tables e below (s₁.setTop (mkF m 6 #[iv p0_0, iv p0_1, iv p0_2, iv p0_3, iv p0_4, .unset, .unset, .unset, .unset, .unset, .unset] [(.int (p0_4 &&& (255 : Int32)))])) _
    refine XS.i2c X0.here hx rfl (hb hby at_6) rfl ?_
    show Steps p.tables e below (s₁.setTop (mkF m 7 #[iv p0_0, iv p0_1, iv p0_2, iv p0_3, iv p0_4, .unset, .unset, .unset, .unset, .unset, .unset] [(.int ((p0_4 &&& (255 : Int32)).toUInt32.toUInt16.toUInt32.toInt32))])) _
    refine st1 _ ?_
    show Steps p.tables e below (T1.setTop (mkF m 10 #[iv p0_0, iv p0_1, iv p0_2, iv p0_3, iv p0_4, .unset, .unset, .unset, .unset, .unset, .unset] [(.ref b_1)])) _
    refine XS.astore X1.here hx rfl (hb hby at_10) rfl rfl (l' := #[iv p0_0, iv p0_1, iv p0_2, iv p0_3, iv p0_4, rv b_1, .unset, .unset, .unset, .unset, .unset]) rfl ?_
    show Steps p.tables e below (T1.setTop (mkF m 12 #[iv p0_0, iv p0_1, iv p0_2, iv p0_3, iv p0_4, rv b_1, .unset, .unset, .unset, .unset, .unset] [])) _
    refine st6 _ ?_
    show Steps p.tables e below (T6.setTop (mkF m 15 #[iv p0_0, iv p0_1, iv p0_2, iv p0_3, iv p0_4, rv b_1, .unset, .unset, .unset, .unset, .unset] [(.ref b6)])) _
    refine XS.dup X6.here hx rfl (hb hby at_15) rfl rfl ?_
    show Steps p.tables e below (T6.setTop (mkF m 16 #[iv p0_0, iv p0_1, iv p0_2, iv p0_3, iv p0_4, rv b_1, .unset, .unset, .unset, .unset, .unset] [(.ref b6), (.ref b6)])) _
    refine XS.aload X6.here hx rfl (hb hby at_16) rfl rfl ?_
    show Steps p.tables e below (T6.setTop (mkF m 18 #[iv p0_0, iv p0_1, iv p0_2, iv p0_3, iv p0_4, rv b_1, .unset, .unset, .unset, .unset, .unset] [(.ref b_1), (.ref b6), (.ref b6)])) _
    refine XS.iloadN X6.here hx rfl (hb hby at_18) rfl ?_
    show Steps p.tables e below (T6.setTop (mkF m 19 #[iv p0_0, iv p0_1, iv p0_2, iv p0_3, iv p0_4, rv b_1, .unset, .unset, .unset, .unset, .unset] [(.int p0_2), (.ref b_1), (.ref b6), (.ref b6)])) _
    refine XS.iloadN X6.here hx rfl (hb hby at_19) rfl ?_
    show Steps p.tables e below (T6.setTop (mkF m 20 #[iv p0_0, iv p0_1, iv p0_2, iv p0_3, iv p0_4, rv b_1, .unset, .unset, .unset, .unset, .unset] [(.int p0_3), (.int p0_2), (.ref b_1), (.ref b6), (.ref b6)])) _
    refine XS.iloadN X6.here hx rfl (hb hby at_20) rfl ?_
    show Steps p.tables e below (T6.setTop (mkF m 21 #[iv p0_0, iv p0_1, iv p0_2, iv p0_3, iv p0_4, rv b_1, .unset, .unset, .unset, .unset, .unset] [(.int p0_0), (.int p0_3), (.int p0_2), (.ref b_1), (.ref b6), (.ref b6)])) _
    refine st16.trans ?_
    show Steps p.tables e below (T16.setTop (mkF m 24 #[iv p0_0, iv p0_1, iv p0_2, iv p0_3, iv p0_4, rv b_1, .unset, .unset, .unset, .unset, .unset] [(.ref b6)])) _
    refine XS.astore X16.here hx rfl (hb hby at_24) rfl rfl (l' := #[iv p0_0, iv p0_1, iv p0_2, iv p0_3, iv p0_4, rv b_1, rv b6, .unset, .unset, .unset, .unset]) rfl ?_
    show Steps p.tables e below (T16.setTop (mkF m 26 #[iv p0_0, iv p0_1, iv p0_2, iv p0_3, iv p0_4, rv b_1, rv b6, .unset, .unset, .unset, .unset] [])) _
    refine st20 _ ?_
    show Steps p.tables e below (T20.setTop (mkF m 29 #[iv p0_0, iv p0_1, iv p0_2, iv p0_3, iv p0_4, rv b_1, rv b6, .unset, .unset, .unset, .unset] [(.ref b20)])) _
    refine XS.dup X20.here hx rfl (hb hby at_29) rfl rfl ?_
    show Steps p.tables e below (T20.setTop (mkF m 30 #[iv p0_0, iv p0_1, iv p0_2, iv p0_3, iv p0_4, rv b_1, rv b6, .unset, .unset, .unset, .unset] [(.ref b20), (.ref b20)])) _
    refine XS.aload X20.here hx rfl (hb hby at_30) rfl rfl ?_
    show Steps p.tables e below (T20.setTop (mkF m 32 #[iv p0_0, iv p0_1, iv p0_2, iv p0_3, iv p0_4, rv b_1, rv b6, .unset, .unset, .unset, .unset] [(.ref b_1), (.ref b20), (.ref b20)])) _
    refine XS.iloadN X20.here hx rfl (hb hby at_32) rfl ?_
    show Steps p.tables e below (T20.setTop (mkF m 33 #[iv p0_0, iv p0_1, iv p0_2, iv p0_3, iv p0_4, rv b_1, rv b6, .unset, .unset, .unset, .unset] [(.int p0_3), (.ref b_1), (.ref b20), (.ref b20)])) _
    refine XS.iloadN X20.here hx rfl (hb hby at_33) rfl ?_
    show Steps p.tables e below (T20.setTop (mkF m 34 #[iv p0_0, iv p0_1, iv p0_2, iv p0_3, iv p0_4, rv b_1, rv b6, .unset, .unset, .unset, .unset] [(.int p0_2), (.int p0_3), (.ref b_1), (.ref b20), (.ref b20)])) _
    refine XS.iloadN X20.here hx rfl (hb hby at_34) rfl ?_
    show Steps p.tables e below (T20.setTop (mkF m 35 #[iv p0_0, iv p0_1, iv p0_2, iv p0_3, iv p0_4, rv b_1, rv b6, .unset, .unset, .unset, .unset] [(.int p0_0), (.int p0_2), (.int p0_3), (.ref b_1), (.ref b20), (.ref b20)])) _
    refine XS.iloadN X20.here hx rfl (hb hby at_35) rfl ?_
    show Steps p.tables e below (T20.setTop (mkF m 36 #[iv p0_0, iv p0_1, iv p0_2, iv p0_3, iv p0_4, rv b_1, rv b6, .unset, .unset, .unset, .unset] [(.int p0_1), (.int p0_0), (.int p0_2), (.int p0_3), (.ref b_1), (.ref b20), (.ref b20)])) _
    refine XS.bipush X20.here hx rfl (hb hby at_36) ?_
    show Steps p.tables e below (T20.setTop (mkF m 38 #[iv p0_0, iv p0_1, iv p0_2, iv p0_3, iv p0_4, rv b_1, rv b6, .unset, .unset, .unset, .unset] [(.int (-3 : Int32)), (.int p0_1), (.int p0_0), (.int p0_2), (.int p0_3), (.ref b_1), (.ref b20), (.ref b20)])) _
    refine XS.iand X20.here hx rfl (hb hby at_38) rfl ?_
    show Steps p.tables e below (T20.setTop (mkF m 39 #[iv p0_0, iv p0_1, iv p0_2, iv p0_3, iv p0_4, rv b_1, rv b6, .unset, .unset, .unset, .unset] [(.int (p0_1 &&& (-3 : Int32))), (.int p0_0), (.int p0_2), (.int p0_3), (.ref b_1), (.ref b20), (.ref b20)])) _
    refine XS.ixor X20.here hx rfl (hb hby at_39) rfl ?_
    show Steps p.tables e below (T20.setTop (mkF m 40 #[iv p0_0, iv p0_1, iv p0_2, iv p0_3, iv p0_4, rv b_1, rv b6, .unset, .unset, .unset, .unset] [(.int (p0_0 ^^^ (p0_1 &&& (-3 : Int32)))), (.int p0_2), (.int p0_3), (.ref b_1), (.ref b20), (.ref b20)])) _
    refine st33.trans ?_
    show Steps p.tables e below (T33.setTop (mkF m 43 #[iv p0_0, iv p0_1, iv p0_2, iv p0_3, iv p0_4, rv b_1, rv b6, .unset, .unset, .unset, .unset] [(.ref b20)])) _
    refine XS.astore X33.here hx rfl (hb hby at_43) rfl rfl (l' := #[iv p0_0, iv p0_1, iv p0_2, iv p0_3, iv p0_4, rv b_1, rv b6, rv b20, .unset, .unset, .unset]) rfl ?_
    show Steps p.tables e below (T33.setTop (mkF m 45 #[iv p0_0, iv p0_1, iv p0_2, iv p0_3, iv p0_4, rv b_1, rv b6, rv b20, .unset, .unset, .unset] [])) _
    refine st37 _ ?_
    show Steps p.tables e below (T37.setTop (mkF m 48 #[iv p0_0, iv p0_1, iv p0_2, iv p0_3, iv p0_4, rv b_1, rv b6, rv b20, .unset, .unset, .unset] [(.ref b37)])) _
    refine XS.dup X37.here hx rfl (hb hby at_48) rfl rfl ?_
    show Steps p.tables e below (T37.setTop (mkF m 49 #[iv p0_0, iv p0_1, iv p0_2, iv p0_3, iv p0_4, rv b_1, rv b6, rv b20, .unset, .unset, .unset] [(.ref b37), (.ref b37)])) _
    refine XS.aload X37.here hx rfl (hb hby at_49) rfl rfl ?_
    show Steps p.tables e below (T37.setTop (mkF m 51 #[iv p0_0, iv p0_1, iv p0_2, iv p0_3, iv p0_4, rv b_1, rv b6, rv b20, .unset, .unset, .unset] [(.ref b_1), (.ref b37), (.ref b37)])) _
    refine XS.iloadN X37.here hx rfl (hb hby at_51) rfl ?_
    show Steps p.tables e below (T37.setTop (mkF m 52 #[iv p0_0, iv p0_1, iv p0_2, iv p0_3, iv p0_4, rv b_1, rv b6, rv b20, .unset, .unset, .unset] [(.int p0_2), (.ref b_1), (.ref b37), (.ref b37)])) _
    refine XS.iloadN X37.here hx rfl (hb hby at_52) rfl ?_
    show Steps p.tables e below (T37.setTop (mkF m 53 #[iv p0_0, iv p0_1, iv p0_2, iv p0_3, iv p0_4, rv b_1, rv b6, rv b20, .unset, .unset, .unset] [(.int p0_3), (.int p0_2), (.ref b_1), (.ref b37), (.ref b37)])) _
    refine XS.iloadN X37.here hx rfl (hb hby at_53) rfl ?_
    show Steps p.tables e below (T37.setTop (mkF m 54 #[iv p0_0, iv p0_1, iv p0_2, iv p0_3, iv p0_4, rv b_1, rv b6, rv b20, .unset, .unset, .unset] [(.int p0_0), (.int p0_3), (.int p0_2), (.ref b_1), (.ref b37), (.ref b37)])) _
    refine XS.iconst X37.here hx rfl (hb hby at_54) ?_
    show Steps p.tables e below (T37.setTop (mkF m 55 #[iv p0_0, iv p0_1, iv p0_2, iv p0_3, iv p0_4, rv b_1, rv b6, rv b20, .unset, .unset, .unset] [(.int (2 : Int32)), (.int p0_0), (.int p0_3), (.int p0_2), (.ref b_1), (.ref b37), (.ref b37)])) _
    refine XS.ixor X37.here hx rfl (hb hby at_55) rfl ?_
    show Steps p.tables e below (T37.setTop (mkF m 56 #[iv p0_0, iv p0_1, iv p0_2, iv p0_3, iv p0_4, rv b_1, rv b6, rv b20, .unset, .unset, .unset] [(.int (p0_0 ^^^ (2 : Int32))), (.int p0_3), (.int p0_2), (.ref b_1), (.ref b37), (.ref b37)])) _
    refine st52.trans ?_
    show Steps p.tables e below (T52.setTop (mkF m 59 #[iv p0_0, iv p0_1, iv p0_2, iv p0_3, iv p0_4, rv b_1, rv b6, rv b20, .unset, .unset, .unset] [(.ref b37)])) _
    refine XS.astore X52.here hx rfl (hb hby at_59) rfl rfl (l' := #[iv p0_0, iv p0_1, iv p0_2, iv p0_3, iv p0_4, rv b_1, rv b6, rv b20, rv b37, .unset, .unset]) rfl ?_
    show Steps p.tables e below (T52.setTop (mkF m 61 #[iv p0_0, iv p0_1, iv p0_2, iv p0_3, iv p0_4, rv b_1, rv b6, rv b20, rv b37, .unset, .unset] [])) _
    refine XS.iloadN X52.here hx rfl (hb hby at_61) rfl ?_
    show Steps p.tables e below (T52.setTop (mkF m 62 #[iv p0_0, iv p0_1, iv p0_2, iv p0_3, iv p0_4, rv b_1, rv b6, rv b20, rv b37, .unset, .unset] [(.int p0_0)])) _
    refine XS.iconst X52.here hx rfl (hb hby at_62) ?_
    show Steps p.tables e below (T52.setTop (mkF m 63 #[iv p0_0, iv p0_1, iv p0_2, iv p0_3, iv p0_4, rv b_1, rv b6, rv b20, rv b37, .unset, .unset] [(.int (1 : Int32)), (.int p0_0)])) _
    refine XS.iushr X52.here hx rfl (hb hby at_63) rfl ?_
    show Steps p.tables e below (T52.setTop (mkF m 64 #[iv p0_0, iv p0_1, iv p0_2, iv p0_3, iv p0_4, rv b_1, rv b6, rv b20, rv b37, .unset, .unset] [(.int ((p0_0.toUInt32 >>> ((1 : Int32) &&& 31).toUInt32).toInt32))])) _
    refine XS.iconst X52.here hx rfl (hb hby at_64) ?_
    show Steps p.tables e below (T52.setTop (mkF m 65 #[iv p0_0, iv p0_1, iv p0_2, iv p0_3, iv p0_4, rv b_1, rv b6, rv b20, rv b37, .unset, .unset] [(.int (1 : Int32)), (.int ((p0_0.toUInt32 >>> ((1 : Int32) &&& 31).toUInt32).toInt32))])) _
    refine XS.iand X52.here hx rfl (hb hby at_65) rfl ?_
    show Steps p.tables e below (T52.setTop (mkF m 66 #[iv p0_0, iv p0_1, iv p0_2, iv p0_3, iv p0_4, rv b_1, rv b6, rv b20, rv b37, .unset, .unset] [(.int (((p0_0.toUInt32 >>> ((1 : Int32) &&& 31).toUInt32).toInt32) &&& (1 : Int32)))])) _
    refine XS.iconst X52.here hx rfl (hb hby at_66) ?_
    exact k
  by_cases hc67_56 : (((p0_0.toUInt32 >>> ((1 : Int32) &&& 31).toUInt32).toInt32) &&& (1 : Int32)) = (1 : Int32)
  · skip
    have f58 := ((((hq16_0.ext E20).keep K33q (ninS ne24 nin0)).ext E37).keep K52q (ninS ne41 nin0))
    have f60 := (Nat.le_trans f53 K52q.1)
    have f61 := ((f40.ext E37).keep K52q)
    obtain ⟨cq59, kq59, q59a, q59b, q59c⟩ := isOf hZ rfl f61
    obtain ⟨_, _, ⟨T59, L59, k59, n59⟩, -, X59, ⟨Lc59, hQ59, l59, y59, z59⟩, st59⟩ := X52.virtualBack hx (y := MN7) (z := MN7) hown (mvT hZ wo41) (mvT hZ wo42) (notFace_of_selects (args := #[]) (mvT hZ wo44)) (mvT hZ wo44) (mvT hZ wo43) (by decide) (backOf (W := 0) (rm7 l Z a0 hw [] b6 p0_0 (T52.heap) n0 f60 f58) hZ wo45 wo28 (by decide) (by decide)) q59a q59c (g := (mkF m 79 #[iv p0_0, iv p0_1, iv p0_2, iv p0_3, iv p0_4, rv b_1, rv b6, rv b20, rv b37, iv (1 : Int32), .unset] [(.ref b6)])) rfl (by rw [hml]; rfl) (Steps.refl _) (argsL := []) (rest := []) (lenOf pd_1 rfl) rfl (by show 2 * 0 + _ ≤ _; exact Nat.le_of_eq rfl) (hb hby at_79) (fun _ _ => ⟨rfl, rfl, (by decide : 5 + 0 ≤ _), (by decide : 17 + 0 ≤ _)⟩)
    dsimp only [Pt.U, Pt.locs, Pt.cells, Pt.slots] at X59 l59 y59 z59 st59 hQ59
    subst l59 y59 z59
    obtain ⟨rfl, N59q, K59q⟩ := hQ59
    have N62 := Fr.app N54 N59q
    have q63 : (if (p0_0 &&& (2 : Int32)) = (0 : Int32) then (0 : Int32) else (1 : Int32)) = (1 : Int32) := if_neg ((own_w1 p0_0).mp hc67_56)
    have f64 := ((hq33_0.ext E37).keep K52q (ninS ne43 nin0))
    have f66 := ((f42.ext E37).keep K52q)
    obtain ⟨cq65, kq65, q65a, q65b, q65c⟩ := isOf hZ K59q f66
    obtain ⟨_, _, ⟨T65, L65, k65, n65⟩, -, X65, ⟨Lc65, hQ65, l65, y65, z65⟩, st65⟩ := X59.virtualBack hx (y := MN7) (z := MN7) hown (mvT hZ wo41) (mvT hZ wo42) (notFace_of_selects (args := #[]) (mvT hZ wo44)) (mvT hZ wo44) (mvT hZ wo43) (by decide) (backOf (W := 0) (rm7 l Z a0 hw [] b20 (p0_0 ^^^ (p0_1 &&& (-3 : Int32))) (T52.heap) n0 f60 f64) hZ wo45 wo28 (by decide) (by decide)) q65a q65c (g := (mkF m 101 #[iv p0_0, iv p0_1, iv p0_2, iv p0_3, iv p0_4, rv b_1, rv b6, rv b20, rv b37, iv (1 : Int32), iv (1 : Int32)] [(.ref b20)])) rfl (by rw [hml]; rfl) (Steps.refl _) (argsL := []) (rest := []) (lenOf pd_1 rfl) rfl (by show 2 * 0 + _ ≤ _; exact Nat.le_of_eq rfl) (hb hby at_101) (fun _ _ => ⟨rfl, K59q, (by decide : 5 + 0 ≤ _), (by decide : 17 + 0 ≤ _)⟩)
    dsimp only [Pt.U, Pt.locs, Pt.cells, Pt.slots] at X65 l65 y65 z65 st65 hQ65
    subst l65 y65 z65
    obtain ⟨rfl, N65q, K65q⟩ := hQ65
    have N67 := Fr.app N62 N65q
    have q68 : (if ((p0_0 ^^^ (p0_1 &&& (-3 : Int32))) &&& (2 : Int32)) = (0 : Int32) then (0 : Int32) else (1 : Int32)) = (1 : Int32) := if_neg (fun q => ((own_w1 p0_0).mp hc67_56) ((own_w2 _ _).symm.trans q))
    have f70 := (A37.keep K52q)
    obtain ⟨cq69, kq69, q69a, q69b, q69c⟩ := isOf hZ K65q f70
    obtain ⟨_, _, ⟨T69, L69, k69, n69⟩, -, X69, ⟨Lc69, hQ69, l69, y69, z69⟩, st69⟩ := X65.virtualBack hx (y := MN7) (z := MN7) hown (mvT hZ wo41) (mvT hZ wo42) (notFace_of_selects (args := #[]) (mvT hZ wo44)) (mvT hZ wo44) (mvT hZ wo43) (by decide) (backOf (W := 0) (rm7 l Z a0 hw [] b37 (p0_0 ^^^ (2 : Int32)) (T52.heap) n0 f60 hq52_0) hZ wo45 wo28 (by decide) (by decide)) q69a q69c (g := (mkF m 123 #[iv p0_0, iv p0_1, iv p0_2, iv p0_3, iv p0_4, rv b_1, rv b6, rv b20, rv b37, iv (1 : Int32), iv (1 : Int32)] [(.ref b37)])) rfl (by rw [hml]; rfl) (Steps.refl _) (argsL := []) (rest := []) (lenOf pd_1 rfl) rfl (by show 2 * 0 + _ ≤ _; exact Nat.le_of_eq rfl) (hb hby at_123) (fun _ _ => ⟨rfl, K65q, (by decide : 5 + 0 ≤ _), (by decide : 17 + 0 ≤ _)⟩)
    dsimp only [Pt.U, Pt.locs, Pt.cells, Pt.slots] at X69 l69 y69 z69 st69 hQ69
    subst l69 y69 z69
    obtain ⟨rfl, N69q, K69q⟩ := hQ69
    have N71 := Fr.app N67 N69q
    have q72 : (if ((p0_0 ^^^ (2 : Int32)) &&& (2 : Int32)) = (0 : Int32) then (0 : Int32) else (1 : Int32)) = (0 : Int32) := if_pos ((own_w3 _).mpr ((own_w1 p0_0).mp hc67_56))
    obtain ⟨fs, hr, hrun, hended, hW, hsame⟩ := X69.leave (v := some (.int (1 : Int32))) (fun h => by rw [Bd.returns] at h; cases h)
    refine ⟨_, _, pre57 _ ?_, hrun, hended, _, _, rfl, ?_, ⟨_, rfl⟩, hW, hsame.mono (by decide) (by decide)⟩
    · show Steps p.tables e below (T52.setTop (mkF m 67 #[iv p0_0, iv p0_1, iv p0_2, iv p0_3, iv p0_4, rv b_1, rv b6, rv b20, rv b37, .unset, .unset] [(.int (1 : Int32)), (.int (((p0_0.toUInt32 >>> ((1 : Int32) &&& 31).toUInt32).toInt32) &&& (1 : Int32)))])) _
      refine XS.icmpNo X52.here hx rfl (hb hby at_67) rfl (teq hc67_56).2 ?_
      show Steps p.tables e below (T52.setTop (mkF m 70 #[iv p0_0, iv p0_1, iv p0_2, iv p0_3, iv p0_4, rv b_1, rv b6, rv b20, rv b37, .unset, .unset] [])) _
      refine XS.iconst X52.here hx rfl (hb hby at_70) ?_
      show Steps p.tables e below (T52.setTop (mkF m 71 #[iv p0_0, iv p0_1, iv p0_2, iv p0_3, iv p0_4, rv b_1, rv b6, rv b20, rv b37, .unset, .unset] [(.int (1 : Int32))])) _
      refine XS.goto X52.here hx rfl (pc0 := 71) (pc' := 75) rfl (hb hby at_71) (by decide) (by decide) ?_
      show Steps p.tables e below (T52.setTop (mkF m 75 #[iv p0_0, iv p0_1, iv p0_2, iv p0_3, iv p0_4, rv b_1, rv b6, rv b20, rv b37, .unset, .unset] [(.int (1 : Int32))])) _
      refine XS.istore X52.here hx rfl (hb hby at_75) rfl (l' := #[iv p0_0, iv p0_1, iv p0_2, iv p0_3, iv p0_4, rv b_1, rv b6, rv b20, rv b37, iv (1 : Int32), .unset]) rfl ?_
      show Steps p.tables e below (T52.setTop (mkF m 77 #[iv p0_0, iv p0_1, iv p0_2, iv p0_3, iv p0_4, rv b_1, rv b6, rv b20, rv b37, iv (1 : Int32), .unset] [])) _
      refine XS.aload X52.here hx rfl (hb hby at_77) rfl rfl ?_
      show Steps p.tables e below (T52.setTop (mkF m 79 #[iv p0_0, iv p0_1, iv p0_2, iv p0_3, iv p0_4, rv b_1, rv b6, rv b20, rv b37, iv (1 : Int32), .unset] [(.ref b6)])) _
      refine st59.trans ?_
      rw [q63]
      show Steps p.tables e below (T59.setTop (mkF m 82 #[iv p0_0, iv p0_1, iv p0_2, iv p0_3, iv p0_4, rv b_1, rv b6, rv b20, rv b37, iv (1 : Int32), .unset] [(.int (1 : Int32))])) _
      show Steps p.tables e below (T59.setTop (mkF m 82 #[iv p0_0, iv p0_1, iv p0_2, iv p0_3, iv p0_4, rv b_1, rv b6, rv b20, rv b37, iv (1 : Int32), .unset] [(.int (1 : Int32))])) _
      refine XS.iload X59.here hx rfl (hb hby at_82) rfl ?_
      show Steps p.tables e below (T59.setTop (mkF m 84 #[iv p0_0, iv p0_1, iv p0_2, iv p0_3, iv p0_4, rv b_1, rv b6, rv b20, rv b37, iv (1 : Int32), .unset] [(.int (1 : Int32)), (.int (1 : Int32))])) _
      refine XS.icmpNo X59.here hx rfl (hb hby at_84) rfl (teq (by decide : (1 : Int32) = (1 : Int32))).2 ?_
      show Steps p.tables e below (T59.setTop (mkF m 87 #[iv p0_0, iv p0_1, iv p0_2, iv p0_3, iv p0_4, rv b_1, rv b6, rv b20, rv b37, iv (1 : Int32), .unset] [])) _
      refine XS.iconst X59.here hx rfl (hb hby at_87) ?_
      show Steps p.tables e below (T59.setTop (mkF m 88 #[iv p0_0, iv p0_1, iv p0_2, iv p0_3, iv p0_4, rv b_1, rv b6, rv b20, rv b37, iv (1 : Int32), .unset] [(.int (1 : Int32))])) _
      refine XS.goto X59.here hx rfl (pc0 := 88) (pc' := 92) rfl (hb hby at_88) (by decide) (by decide) ?_
      show Steps p.tables e below (T59.setTop (mkF m 92 #[iv p0_0, iv p0_1, iv p0_2, iv p0_3, iv p0_4, rv b_1, rv b6, rv b20, rv b37, iv (1 : Int32), .unset] [(.int (1 : Int32))])) _
      refine XS.istore X59.here hx rfl (hb hby at_92) rfl (l' := #[iv p0_0, iv p0_1, iv p0_2, iv p0_3, iv p0_4, rv b_1, rv b6, rv b20, rv b37, iv (1 : Int32), iv (1 : Int32)]) rfl ?_
      show Steps p.tables e below (T59.setTop (mkF m 94 #[iv p0_0, iv p0_1, iv p0_2, iv p0_3, iv p0_4, rv b_1, rv b6, rv b20, rv b37, iv (1 : Int32), iv (1 : Int32)] [])) _
      refine XS.iload X59.here hx rfl (hb hby at_94) rfl ?_
      show Steps p.tables e below (T59.setTop (mkF m 96 #[iv p0_0, iv p0_1, iv p0_2, iv p0_3, iv p0_4, rv b_1, rv b6, rv b20, rv b37, iv (1 : Int32), iv (1 : Int32)] [(.int (1 : Int32))])) _
      refine XS.ifNo X59.here hx rfl (hb hby at_96) rfl ((if0 _ _).trans (feq (by decide : ¬ ((1 : Int32) = (0 : Int32)))).1) ?_
      show Steps p.tables e below (T59.setTop (mkF m 99 #[iv p0_0, iv p0_1, iv p0_2, iv p0_3, iv p0_4, rv b_1, rv b6, rv b20, rv b37, iv (1 : Int32), iv (1 : Int32)] [])) _
      refine XS.aload X59.here hx rfl (hb hby at_99) rfl rfl ?_
      show Steps p.tables e below (T59.setTop (mkF m 101 #[iv p0_0, iv p0_1, iv p0_2, iv p0_3, iv p0_4, rv b_1, rv b6, rv b20, rv b37, iv (1 : Int32), iv (1 : Int32)] [(.ref b20)])) _
      refine st65.trans ?_
      rw [q68]
      show Steps p.tables e below (T65.setTop (mkF m 104 #[iv p0_0, iv p0_1, iv p0_2, iv p0_3, iv p0_4, rv b_1, rv b6, rv b20, rv b37, iv (1 : Int32), iv (1 : Int32)] [(.int (1 : Int32))])) _
      show Steps p.tables e below (T65.setTop (mkF m 104 #[iv p0_0, iv p0_1, iv p0_2, iv p0_3, iv p0_4, rv b_1, rv b6, rv b20, rv b37, iv (1 : Int32), iv (1 : Int32)] [(.int (1 : Int32))])) _
      refine XS.iload X65.here hx rfl (hb hby at_104) rfl ?_
      show Steps p.tables e below (T65.setTop (mkF m 106 #[iv p0_0, iv p0_1, iv p0_2, iv p0_3, iv p0_4, rv b_1, rv b6, rv b20, rv b37, iv (1 : Int32), iv (1 : Int32)] [(.int (1 : Int32)), (.int (1 : Int32))])) _
      refine XS.icmpNo X65.here hx rfl (hb hby at_106) rfl (teq (by decide : (1 : Int32) = (1 : Int32))).2 ?_
      show Steps p.tables e below (T65.setTop (mkF m 109 #[iv p0_0, iv p0_1, iv p0_2, iv p0_3, iv p0_4, rv b_1, rv b6, rv b20, rv b37, iv (1 : Int32), iv (1 : Int32)] [])) _
      refine XS.iconst X65.here hx rfl (hb hby at_109) ?_
      show Steps p.tables e below (T65.setTop (mkF m 110 #[iv p0_0, iv p0_1, iv p0_2, iv p0_3, iv p0_4, rv b_1, rv b6, rv b20, rv b37, iv (1 : Int32), iv (1 : Int32)] [(.int (1 : Int32))])) _
      refine XS.goto X65.here hx rfl (pc0 := 110) (pc' := 114) rfl (hb hby at_110) (by decide) (by decide) ?_
      show Steps p.tables e below (T65.setTop (mkF m 114 #[iv p0_0, iv p0_1, iv p0_2, iv p0_3, iv p0_4, rv b_1, rv b6, rv b20, rv b37, iv (1 : Int32), iv (1 : Int32)] [(.int (1 : Int32))])) _
      refine XS.istore X65.here hx rfl (hb hby at_114) rfl (l' := #[iv p0_0, iv p0_1, iv p0_2, iv p0_3, iv p0_4, rv b_1, rv b6, rv b20, rv b37, iv (1 : Int32), iv (1 : Int32)]) rfl ?_
      show Steps p.tables e below (T65.setTop (mkF m 116 #[iv p0_0, iv p0_1, iv p0_2, iv p0_3, iv p0_4, rv b_1, rv b6, rv b20, rv b37, iv (1 : Int32), iv (1 : Int32)] [])) _
      refine XS.iload X65.here hx rfl (hb hby at_116) rfl ?_
      show Steps p.tables e below (T65.setTop (mkF m 118 #[iv p0_0, iv p0_1, iv p0_2, iv p0_3, iv p0_4, rv b_1, rv b6, rv b20, rv b37, iv (1 : Int32), iv (1 : Int32)] [(.int (1 : Int32))])) _
      refine XS.ifNo X65.here hx rfl (hb hby at_118) rfl ((if0 _ _).trans (feq (by decide : ¬ ((1 : Int32) = (0 : Int32)))).1) ?_
      show Steps p.tables e below (T65.setTop (mkF m 121 #[iv p0_0, iv p0_1, iv p0_2, iv p0_3, iv p0_4, rv b_1, rv b6, rv b20, rv b37, iv (1 : Int32), iv (1 : Int32)] [])) _
      refine XS.aload X65.here hx rfl (hb hby at_121) rfl rfl ?_
      show Steps p.tables e below (T65.setTop (mkF m 123 #[iv p0_0, iv p0_1, iv p0_2, iv p0_3, iv p0_4, rv b_1, rv b6, rv b20, rv b37, iv (1 : Int32), iv (1 : Int32)] [(.ref b37)])) _
      refine st69.trans ?_
      rw [q72]
      show Steps p.tables e below (T69.setTop (mkF m 126 #[iv p0_0, iv p0_1, iv p0_2, iv p0_3, iv p0_4, rv b_1, rv b6, rv b20, rv b37, iv (1 : Int32), iv (1 : Int32)] [(.int (0 : Int32))])) _
      show Steps p.tables e below (T69.setTop (mkF m 126 #[iv p0_0, iv p0_1, iv p0_2, iv p0_3, iv p0_4, rv b_1, rv b6, rv b20, rv b37, iv (1 : Int32), iv (1 : Int32)] [(.int (0 : Int32))])) _
      refine XS.iload X69.here hx rfl (hb hby at_126) rfl ?_
      show Steps p.tables e below (T69.setTop (mkF m 128 #[iv p0_0, iv p0_1, iv p0_2, iv p0_3, iv p0_4, rv b_1, rv b6, rv b20, rv b37, iv (1 : Int32), iv (1 : Int32)] [(.int (1 : Int32)), (.int (0 : Int32))])) _
      refine XS.icmpNo X69.here hx rfl (hb hby at_128) rfl (feq (by decide : ¬ ((0 : Int32) = (1 : Int32)))).1 ?_
      show Steps p.tables e below (T69.setTop (mkF m 131 #[iv p0_0, iv p0_1, iv p0_2, iv p0_3, iv p0_4, rv b_1, rv b6, rv b20, rv b37, iv (1 : Int32), iv (1 : Int32)] [])) _
      refine XS.iconst X69.here hx rfl (hb hby at_131) ?_
      show Steps p.tables e below (T69.setTop (mkF m 132 #[iv p0_0, iv p0_1, iv p0_2, iv p0_3, iv p0_4, rv b_1, rv b6, rv b20, rv b37, iv (1 : Int32), iv (1 : Int32)] [(.int (1 : Int32))])) _
      refine XS.goto X69.here hx rfl (pc0 := 132) (pc' := 136) rfl (hb hby at_132) (by decide) (by decide) ?_
      show Steps p.tables e below (T69.setTop (mkF m 136 #[iv p0_0, iv p0_1, iv p0_2, iv p0_3, iv p0_4, rv b_1, rv b6, rv b20, rv b37, iv (1 : Int32), iv (1 : Int32)] [(.int (1 : Int32))])) _
      refine XS.istore X69.here hx rfl (hb hby at_136) rfl (l' := #[iv p0_0, iv p0_1, iv p0_2, iv p0_3, iv p0_4, rv b_1, rv b6, rv b20, rv b37, iv (1 : Int32), iv (1 : Int32)]) rfl ?_
      show Steps p.tables e below (T69.setTop (mkF m 138 #[iv p0_0, iv p0_1, iv p0_2, iv p0_3, iv p0_4, rv b_1, rv b6, rv b20, rv b37, iv (1 : Int32), iv (1 : Int32)] [])) _
      refine XS.iload X69.here hx rfl (hb hby at_138) rfl ?_
      show Steps p.tables e below (T69.setTop (mkF m 140 #[iv p0_0, iv p0_1, iv p0_2, iv p0_3, iv p0_4, rv b_1, rv b6, rv b20, rv b37, iv (1 : Int32), iv (1 : Int32)] [(.int (1 : Int32))])) _
      exact retN X69 hx (t := .boolean) Bd.returns (by simp) (hb hby at_140) hr
    · show Q_rm0 Z _ _ _ _ _ _ h0 n0 _ T69.heap _
      rw [K69q]
      exact ⟨rfl, N71, (K55)⟩
  · skip
    have f73 := ((((hq16_0.ext E20).keep K33q (ninS ne24 nin0)).ext E37).keep K52q (ninS ne41 nin0))
    have f75 := (Nat.le_trans f53 K52q.1)
    have f76 := ((f40.ext E37).keep K52q)
    obtain ⟨cq74, kq74, q74a, q74b, q74c⟩ := isOf hZ rfl f76
    obtain ⟨_, _, ⟨T74, L74, k74, n74⟩, -, X74, ⟨Lc74, hQ74, l74, y74, z74⟩, st74⟩ := X52.virtualBack hx (y := MN7) (z := MN7) hown (mvT hZ wo41) (mvT hZ wo42) (notFace_of_selects (args := #[]) (mvT hZ wo44)) (mvT hZ wo44) (mvT hZ wo43) (by decide) (backOf (W := 0) (rm7 l Z a0 hw [] b6 p0_0 (T52.heap) n0 f75 f73) hZ wo45 wo28 (by decide) (by decide)) q74a q74c (g := (mkF m 79 #[iv p0_0, iv p0_1, iv p0_2, iv p0_3, iv p0_4, rv b_1, rv b6, rv b20, rv b37, iv (0 : Int32), .unset] [(.ref b6)])) rfl (by rw [hml]; rfl) (Steps.refl _) (argsL := []) (rest := []) (lenOf pd_1 rfl) rfl (by show 2 * 0 + _ ≤ _; exact Nat.le_of_eq rfl) (hb hby at_79) (fun _ _ => ⟨rfl, rfl, (by decide : 5 + 0 ≤ _), (by decide : 17 + 0 ≤ _)⟩)
    dsimp only [Pt.U, Pt.locs, Pt.cells, Pt.slots] at X74 l74 y74 z74 st74 hQ74
    subst l74 y74 z74
    obtain ⟨rfl, N74q, K74q⟩ := hQ74
    have N77 := Fr.app N54 N74q
    have q78 : (if (p0_0 &&& (2 : Int32)) = (0 : Int32) then (0 : Int32) else (1 : Int32)) = (0 : Int32) := if_pos (Classical.not_not.mp (fun q => hc67_56 ((own_w1 p0_0).mpr q)))
    have f79 := ((hq33_0.ext E37).keep K52q (ninS ne43 nin0))
    have f81 := ((f42.ext E37).keep K52q)
    obtain ⟨cq80, kq80, q80a, q80b, q80c⟩ := isOf hZ K74q f81
    obtain ⟨_, _, ⟨T80, L80, k80, n80⟩, -, X80, ⟨Lc80, hQ80, l80, y80, z80⟩, st80⟩ := X74.virtualBack hx (y := MN7) (z := MN7) hown (mvT hZ wo41) (mvT hZ wo42) (notFace_of_selects (args := #[]) (mvT hZ wo44)) (mvT hZ wo44) (mvT hZ wo43) (by decide) (backOf (W := 0) (rm7 l Z a0 hw [] b20 (p0_0 ^^^ (p0_1 &&& (-3 : Int32))) (T52.heap) n0 f75 f79) hZ wo45 wo28 (by decide) (by decide)) q80a q80c (g := (mkF m 101 #[iv p0_0, iv p0_1, iv p0_2, iv p0_3, iv p0_4, rv b_1, rv b6, rv b20, rv b37, iv (0 : Int32), iv (1 : Int32)] [(.ref b20)])) rfl (by rw [hml]; rfl) (Steps.refl _) (argsL := []) (rest := []) (lenOf pd_1 rfl) rfl (by show 2 * 0 + _ ≤ _; exact Nat.le_of_eq rfl) (hb hby at_101) (fun _ _ => ⟨rfl, K74q, (by decide : 5 + 0 ≤ _), (by decide : 17 + 0 ≤ _)⟩)
    dsimp only [Pt.U, Pt.locs, Pt.cells, Pt.slots] at X80 l80 y80 z80 st80 hQ80
    subst l80 y80 z80
    obtain ⟨rfl, N80q, K80q⟩ := hQ80
    have N82 := Fr.app N77 N80q
    have q83 : (if ((p0_0 ^^^ (p0_1 &&& (-3 : Int32))) &&& (2 : Int32)) = (0 : Int32) then (0 : Int32) else (1 : Int32)) = (0 : Int32) := if_pos ((own_w2 _ _).trans (Classical.not_not.mp (fun q => hc67_56 ((own_w1 p0_0).mpr q))))
    have f85 := (A37.keep K52q)
    obtain ⟨cq84, kq84, q84a, q84b, q84c⟩ := isOf hZ K80q f85
    obtain ⟨_, _, ⟨T84, L84, k84, n84⟩, -, X84, ⟨Lc84, hQ84, l84, y84, z84⟩, st84⟩ := X80.virtualBack hx (y := MN7) (z := MN7) hown (mvT hZ wo41) (mvT hZ wo42) (notFace_of_selects (args := #[]) (mvT hZ wo44)) (mvT hZ wo44) (mvT hZ wo43) (by decide) (backOf (W := 0) (rm7 l Z a0 hw [] b37 (p0_0 ^^^ (2 : Int32)) (T52.heap) n0 f75 hq52_0) hZ wo45 wo28 (by decide) (by decide)) q84a q84c (g := (mkF m 123 #[iv p0_0, iv p0_1, iv p0_2, iv p0_3, iv p0_4, rv b_1, rv b6, rv b20, rv b37, iv (0 : Int32), iv (1 : Int32)] [(.ref b37)])) rfl (by rw [hml]; rfl) (Steps.refl _) (argsL := []) (rest := []) (lenOf pd_1 rfl) rfl (by show 2 * 0 + _ ≤ _; exact Nat.le_of_eq rfl) (hb hby at_123) (fun _ _ => ⟨rfl, K80q, (by decide : 5 + 0 ≤ _), (by decide : 17 + 0 ≤ _)⟩)
    dsimp only [Pt.U, Pt.locs, Pt.cells, Pt.slots] at X84 l84 y84 z84 st84 hQ84
    subst l84 y84 z84
    obtain ⟨rfl, N84q, K84q⟩ := hQ84
    have N86 := Fr.app N82 N84q
    have q87 : (if ((p0_0 ^^^ (2 : Int32)) &&& (2 : Int32)) = (0 : Int32) then (0 : Int32) else (1 : Int32)) = (1 : Int32) := if_neg (fun q => (own_w3 _).mp q (Classical.not_not.mp (fun q => hc67_56 ((own_w1 p0_0).mpr q))))
    obtain ⟨fs, hr, hrun, hended, hW, hsame⟩ := X84.leave (v := some (.int (1 : Int32))) (fun h => by rw [Bd.returns] at h; cases h)
    refine ⟨_, _, pre57 _ ?_, hrun, hended, _, _, rfl, ?_, ⟨_, rfl⟩, hW, hsame.mono (by decide) (by decide)⟩
    · show Steps p.tables e below (T52.setTop (mkF m 67 #[iv p0_0, iv p0_1, iv p0_2, iv p0_3, iv p0_4, rv b_1, rv b6, rv b20, rv b37, .unset, .unset] [(.int (1 : Int32)), (.int (((p0_0.toUInt32 >>> ((1 : Int32) &&& 31).toUInt32).toInt32) &&& (1 : Int32)))])) _
      refine XS.icmpYes X52.here hx rfl (pc0 := 67) (pc' := 74) rfl (hb hby at_67) rfl (feq hc67_56).2 (by decide) (by decide) ?_
      show Steps p.tables e below (T52.setTop (mkF m 74 #[iv p0_0, iv p0_1, iv p0_2, iv p0_3, iv p0_4, rv b_1, rv b6, rv b20, rv b37, .unset, .unset] [])) _
      refine XS.iconst X52.here hx rfl (hb hby at_74) ?_
      show Steps p.tables e below (T52.setTop (mkF m 75 #[iv p0_0, iv p0_1, iv p0_2, iv p0_3, iv p0_4, rv b_1, rv b6, rv b20, rv b37, .unset, .unset] [(.int (0 : Int32))])) _
      refine XS.istore X52.here hx rfl (hb hby at_75) rfl (l' := #[iv p0_0, iv p0_1, iv p0_2, iv p0_3, iv p0_4, rv b_1, rv b6, rv b20, rv b37, iv (0 : Int32), .unset]) rfl ?_
      show Steps p.tables e below (T52.setTop (mkF m 77 #[iv p0_0, iv p0_1, iv p0_2, iv p0_3, iv p0_4, rv b_1, rv b6, rv b20, rv b37, iv (0 : Int32), .unset] [])) _
      refine XS.aload X52.here hx rfl (hb hby at_77) rfl rfl ?_
      show Steps p.tables e below (T52.setTop (mkF m 79 #[iv p0_0, iv p0_1, iv p0_2, iv p0_3, iv p0_4, rv b_1, rv b6, rv b20, rv b37, iv (0 : Int32), .unset] [(.ref b6)])) _
      refine st74.trans ?_
      rw [q78]
      show Steps p.tables e below (T74.setTop (mkF m 82 #[iv p0_0, iv p0_1, iv p0_2, iv p0_3, iv p0_4, rv b_1, rv b6, rv b20, rv b37, iv (0 : Int32), .unset] [(.int (0 : Int32))])) _
      show Steps p.tables e below (T74.setTop (mkF m 82 #[iv p0_0, iv p0_1, iv p0_2, iv p0_3, iv p0_4, rv b_1, rv b6, rv b20, rv b37, iv (0 : Int32), .unset] [(.int (0 : Int32))])) _
      refine XS.iload X74.here hx rfl (hb hby at_82) rfl ?_
      show Steps p.tables e below (T74.setTop (mkF m 84 #[iv p0_0, iv p0_1, iv p0_2, iv p0_3, iv p0_4, rv b_1, rv b6, rv b20, rv b37, iv (0 : Int32), .unset] [(.int (0 : Int32)), (.int (0 : Int32))])) _
      refine XS.icmpNo X74.here hx rfl (hb hby at_84) rfl (teq (by decide : (0 : Int32) = (0 : Int32))).2 ?_
      show Steps p.tables e below (T74.setTop (mkF m 87 #[iv p0_0, iv p0_1, iv p0_2, iv p0_3, iv p0_4, rv b_1, rv b6, rv b20, rv b37, iv (0 : Int32), .unset] [])) _
      refine XS.iconst X74.here hx rfl (hb hby at_87) ?_
      show Steps p.tables e below (T74.setTop (mkF m 88 #[iv p0_0, iv p0_1, iv p0_2, iv p0_3, iv p0_4, rv b_1, rv b6, rv b20, rv b37, iv (0 : Int32), .unset] [(.int (1 : Int32))])) _
      refine XS.goto X74.here hx rfl (pc0 := 88) (pc' := 92) rfl (hb hby at_88) (by decide) (by decide) ?_
      show Steps p.tables e below (T74.setTop (mkF m 92 #[iv p0_0, iv p0_1, iv p0_2, iv p0_3, iv p0_4, rv b_1, rv b6, rv b20, rv b37, iv (0 : Int32), .unset] [(.int (1 : Int32))])) _
      refine XS.istore X74.here hx rfl (hb hby at_92) rfl (l' := #[iv p0_0, iv p0_1, iv p0_2, iv p0_3, iv p0_4, rv b_1, rv b6, rv b20, rv b37, iv (0 : Int32), iv (1 : Int32)]) rfl ?_
      show Steps p.tables e below (T74.setTop (mkF m 94 #[iv p0_0, iv p0_1, iv p0_2, iv p0_3, iv p0_4, rv b_1, rv b6, rv b20, rv b37, iv (0 : Int32), iv (1 : Int32)] [])) _
      refine XS.iload X74.here hx rfl (hb hby at_94) rfl ?_
      show Steps p.tables e below (T74.setTop (mkF m 96 #[iv p0_0, iv p0_1, iv p0_2, iv p0_3, iv p0_4, rv b_1, rv b6, rv b20, rv b37, iv (0 : Int32), iv (1 : Int32)] [(.int (1 : Int32))])) _
      refine XS.ifNo X74.here hx rfl (hb hby at_96) rfl ((if0 _ _).trans (feq (by decide : ¬ ((1 : Int32) = (0 : Int32)))).1) ?_
      show Steps p.tables e below (T74.setTop (mkF m 99 #[iv p0_0, iv p0_1, iv p0_2, iv p0_3, iv p0_4, rv b_1, rv b6, rv b20, rv b37, iv (0 : Int32), iv (1 : Int32)] [])) _
      refine XS.aload X74.here hx rfl (hb hby at_99) rfl rfl ?_
      show Steps p.tables e below (T74.setTop (mkF m 101 #[iv p0_0, iv p0_1, iv p0_2, iv p0_3, iv p0_4, rv b_1, rv b6, rv b20, rv b37, iv (0 : Int32), iv (1 : Int32)] [(.ref b20)])) _
      refine st80.trans ?_
      rw [q83]
      show Steps p.tables e below (T80.setTop (mkF m 104 #[iv p0_0, iv p0_1, iv p0_2, iv p0_3, iv p0_4, rv b_1, rv b6, rv b20, rv b37, iv (0 : Int32), iv (1 : Int32)] [(.int (0 : Int32))])) _
      show Steps p.tables e below (T80.setTop (mkF m 104 #[iv p0_0, iv p0_1, iv p0_2, iv p0_3, iv p0_4, rv b_1, rv b6, rv b20, rv b37, iv (0 : Int32), iv (1 : Int32)] [(.int (0 : Int32))])) _
      refine XS.iload X80.here hx rfl (hb hby at_104) rfl ?_
      show Steps p.tables e below (T80.setTop (mkF m 106 #[iv p0_0, iv p0_1, iv p0_2, iv p0_3, iv p0_4, rv b_1, rv b6, rv b20, rv b37, iv (0 : Int32), iv (1 : Int32)] [(.int (0 : Int32)), (.int (0 : Int32))])) _
      refine XS.icmpNo X80.here hx rfl (hb hby at_106) rfl (teq (by decide : (0 : Int32) = (0 : Int32))).2 ?_
      show Steps p.tables e below (T80.setTop (mkF m 109 #[iv p0_0, iv p0_1, iv p0_2, iv p0_3, iv p0_4, rv b_1, rv b6, rv b20, rv b37, iv (0 : Int32), iv (1 : Int32)] [])) _
      refine XS.iconst X80.here hx rfl (hb hby at_109) ?_
      show Steps p.tables e below (T80.setTop (mkF m 110 #[iv p0_0, iv p0_1, iv p0_2, iv p0_3, iv p0_4, rv b_1, rv b6, rv b20, rv b37, iv (0 : Int32), iv (1 : Int32)] [(.int (1 : Int32))])) _
      refine XS.goto X80.here hx rfl (pc0 := 110) (pc' := 114) rfl (hb hby at_110) (by decide) (by decide) ?_
      show Steps p.tables e below (T80.setTop (mkF m 114 #[iv p0_0, iv p0_1, iv p0_2, iv p0_3, iv p0_4, rv b_1, rv b6, rv b20, rv b37, iv (0 : Int32), iv (1 : Int32)] [(.int (1 : Int32))])) _
      refine XS.istore X80.here hx rfl (hb hby at_114) rfl (l' := #[iv p0_0, iv p0_1, iv p0_2, iv p0_3, iv p0_4, rv b_1, rv b6, rv b20, rv b37, iv (0 : Int32), iv (1 : Int32)]) rfl ?_
      show Steps p.tables e below (T80.setTop (mkF m 116 #[iv p0_0, iv p0_1, iv p0_2, iv p0_3, iv p0_4, rv b_1, rv b6, rv b20, rv b37, iv (0 : Int32), iv (1 : Int32)] [])) _
      refine XS.iload X80.here hx rfl (hb hby at_116) rfl ?_
      show Steps p.tables e below (T80.setTop (mkF m 118 #[iv p0_0, iv p0_1, iv p0_2, iv p0_3, iv p0_4, rv b_1, rv b6, rv b20, rv b37, iv (0 : Int32), iv (1 : Int32)] [(.int (1 : Int32))])) _
      refine XS.ifNo X80.here hx rfl (hb hby at_118) rfl ((if0 _ _).trans (feq (by decide : ¬ ((1 : Int32) = (0 : Int32)))).1) ?_
      show Steps p.tables e below (T80.setTop (mkF m 121 #[iv p0_0, iv p0_1, iv p0_2, iv p0_3, iv p0_4, rv b_1, rv b6, rv b20, rv b37, iv (0 : Int32), iv (1 : Int32)] [])) _
      refine XS.aload X80.here hx rfl (hb hby at_121) rfl rfl ?_
      show Steps p.tables e below (T80.setTop (mkF m 123 #[iv p0_0, iv p0_1, iv p0_2, iv p0_3, iv p0_4, rv b_1, rv b6, rv b20, rv b37, iv (0 : Int32), iv (1 : Int32)] [(.ref b37)])) _
      refine st84.trans ?_
      rw [q87]
      show Steps p.tables e below (T84.setTop (mkF m 126 #[iv p0_0, iv p0_1, iv p0_2, iv p0_3, iv p0_4, rv b_1, rv b6, rv b20, rv b37, iv (0 : Int32), iv (1 : Int32)] [(.int (1 : Int32))])) _
      show Steps p.tables e below (T84.setTop (mkF m 126 #[iv p0_0, iv p0_1, iv p0_2, iv p0_3, iv p0_4, rv b_1, rv b6, rv b20, rv b37, iv (0 : Int32), iv (1 : Int32)] [(.int (1 : Int32))])) _
      refine XS.iload X84.here hx rfl (hb hby at_126) rfl ?_
      show Steps p.tables e below (T84.setTop (mkF m 128 #[iv p0_0, iv p0_1, iv p0_2, iv p0_3, iv p0_4, rv b_1, rv b6, rv b20, rv b37, iv (0 : Int32), iv (1 : Int32)] [(.int (0 : Int32)), (.int (1 : Int32))])) _
      refine XS.icmpNo X84.here hx rfl (hb hby at_128) rfl (feq (by decide : ¬ ((1 : Int32) = (0 : Int32)))).1 ?_
      show Steps p.tables e below (T84.setTop (mkF m 131 #[iv p0_0, iv p0_1, iv p0_2, iv p0_3, iv p0_4, rv b_1, rv b6, rv b20, rv b37, iv (0 : Int32), iv (1 : Int32)] [])) _
      refine XS.iconst X84.here hx rfl (hb hby at_131) ?_
      show Steps p.tables e below (T84.setTop (mkF m 132 #[iv p0_0, iv p0_1, iv p0_2, iv p0_3, iv p0_4, rv b_1, rv b6, rv b20, rv b37, iv (0 : Int32), iv (1 : Int32)] [(.int (1 : Int32))])) _
      refine XS.goto X84.here hx rfl (pc0 := 132) (pc' := 136) rfl (hb hby at_132) (by decide) (by decide) ?_
      show Steps p.tables e below (T84.setTop (mkF m 136 #[iv p0_0, iv p0_1, iv p0_2, iv p0_3, iv p0_4, rv b_1, rv b6, rv b20, rv b37, iv (0 : Int32), iv (1 : Int32)] [(.int (1 : Int32))])) _
      refine XS.istore X84.here hx rfl (hb hby at_136) rfl (l' := #[iv p0_0, iv p0_1, iv p0_2, iv p0_3, iv p0_4, rv b_1, rv b6, rv b20, rv b37, iv (0 : Int32), iv (1 : Int32)]) rfl ?_
      show Steps p.tables e below (T84.setTop (mkF m 138 #[iv p0_0, iv p0_1, iv p0_2, iv p0_3, iv p0_4, rv b_1, rv b6, rv b20, rv b37, iv (0 : Int32), iv (1 : Int32)] [])) _
      refine XS.iload X84.here hx rfl (hb hby at_138) rfl ?_
      show Steps p.tables e below (T84.setTop (mkF m 140 #[iv p0_0, iv p0_1, iv p0_2, iv p0_3, iv p0_4, rv b_1, rv b6, rv b20, rv b37, iv (0 : Int32), iv (1 : Int32)] [(.int (1 : Int32))])) _
      exact retN X84 hx (t := .boolean) Bd.returns (by simp) (hb hby at_140) hr
    · show Q_rm0 Z _ _ _ _ _ _ h0 n0 _ T84.heap _
      rw [K84q]
      exact ⟨rfl, N86, (K55)⟩
set_option maxRecDepth 65536 in
set_option maxHeartbeats 40000000 in
theorem comes_1 {Post : Tables → Env → Array Value → State → Outcome → State → Prop} (hpost : ∀ tb e args s v u, (limb_1_1.after args s (.returned v) u = true ∧ limb_1_2.after args s (.returned v) u = true ∧ True) → FrameEnd s (.returned v) u (Jvm.fieldLocs frame_1_writes args s ++ Jvm.arrayLocs frame_1_arrays args s ++ Jvm.staticLocs frame_1_statics s) 24 128 → Post tb e args s (.returned v) u) :
    ArmFor flags0 classFile x code maxLocals ret World_1 tables_1 room_1 Calls_1 rest_1 Pre_1 Post := by
  intro l hfl _ _ p e ha hc hk s m args below hf hA hF happ hP
  obtain ⟨hcalls, hrest, hpre⟩ := hP
  obtain ⟨-, -, -, hnamed, -, -, -, hat⟩ := (Spec.applies_iff hf).mp happ
  obtain ⟨hg, hn⟩ := and_e (Cond.before_iff.mp (show (Jvm.Cond.and given_1 narrow_1).before args s = true from hpre))
  obtain ⟨g1, g2⟩ := and_e hg
  obtain ⟨g3, g4⟩ := and_e g2
  obtain ⟨g5, g6⟩ := and_e g4
  obtain ⟨g7, g8⟩ := and_e g6
  obtain ⟨g9, g10⟩ := and_e g8
  obtain ⟨w0, w1, w2, w3, w4, rfl⟩ : ∃ w0 w1 w2 w3 w4 : Value, args = #[w0, w1, w2, w3, w4] := by
    have hs : args.size = 5 := by simpa [Cond.value, given_1] using g1
    obtain ⟨L⟩ := args
    match L, hs with
    | [w0, w1, w2, w3, w4], _ => exact ⟨w0, w1, w2, w3, w4, rfl⟩
  have hw := fun d (hd : d ∈ tables_1) => atoms_spec (ws := Jvm.Cond.code x code maxLocals ret :: tables_1) hat d (List.mem_cons_of_mem _ hd)
  have hfit : Fit s := fun {y c} hc i hi => by
    obtain ⟨ha, rfl⟩ := Array.getElem?_eq_some_iff.mp hc
    have q := List.all_eq_true.mp ((Array.all_eq_true_iff_forall_mem.mp hF) _ (Array.getElem_mem ha)) i (List.mem_range.mpr hi)
    simpa [Array.getElem?_eq_getElem hi] using q
  obtain ⟨hsets, hown0⟩ := atoms_of _ (rest_1_c_eq ▸ (show rest_1_c.before _ s = true from hrest))
  have hr0 := Cond.before_iff.mp hown0
  obtain ⟨i0, ei0⟩ := is_v g3
  obtain rfl : w0 = (.int i0) := Option.some.inj ei0
  obtain ⟨i1, ei1⟩ := is_v g5
  obtain rfl : w1 = (.int i1) := Option.some.inj ei1
  obtain ⟨i2, ei2⟩ := is_v g7
  obtain rfl : w2 = (.int i2) := Option.some.inj ei2
  obtain ⟨i3, ei3⟩ := is_v g9
  obtain rfl : w3 = (.int i3) := Option.some.inj ei3
  obtain ⟨i4, ei4⟩ := is_v g10
  obtain rfl : w4 = (.int i4) := Option.some.inj ei4
  obtain ⟨cs, ecs⟩ := is_v (Cond.before_iff.mp (hsets _ (List.mem_of_getElem? (i := 1) rfl)))
  have S_cs : Sta s s.heap "java/lang/String" "COMPACT_STRINGS" "Z" (.int cs) := Sta.start ecs (Or.inl (hsets _ (List.mem_of_getElem? (i := 0) rfl)))
  have hcs := own_nz (Cond.before_iff.mp (hsets _ (List.mem_of_getElem? (i := 2) rfl))) ecs
  obtain ⟨n, o, h1, h2, h3, _, L, rfl, ⟨rfl, N, -⟩, hq⟩ := rm0 l s _ hw tables_1 i0 i1 i2 i3 i4 cs s.heap s.heap.size (Nat.le_refl _) (Old.start s) S_cs hcs p e ha hc hk s m _ below hf ((Spec.applies_iff_loose hf).mp happ).1 ⟨rfl, State.Warmed39.refl s, rfl⟩ trivial
  refine ⟨n, _, h1, h2, h3, hpost _ _ _ _ _ _ ⟨Cond.after_iff.mpr rfl, Cond.after_iff.mpr (eq_i res_at (Term.int_eval (1)) rfl), trivial⟩ ⟨hq.1, hq.2.1, (hq.2.2.sift fun y hy => Or.inr (N y hy)).mono (by decide) (by decide)⟩⟩
theorem main_1_1 : Claimed_1_1 := comes_1 fun _ _ _ _ _ _ h hF => ⟨h.1, hF⟩
theorem main_1_2 : Claimed_1_2 := comes_1 fun _ _ _ _ _ _ h hF => ⟨h.2.1, hF⟩
end Jvm.Pilot.@@N@@
namespace Jvm.Pilot.@@N@@
open Jvm Jvm.ClassFile Sem Op Lib Jvm.Free Jvm.Stand Jvm.Pilot.@@N@@.Jvm.D
/-! MADE BY PROGRAM (witnessworld.py) out of the Statement's table words and the real class files: 17 classes; the members and pool entries that the words name. The judged class is class 1, her method 1. -/
namespace start1
open Jvm.ClassFile
def u (s : String) : CpInfo := .utf8 (stringToUtf16 s)
/-- a pool by its gaps: so many unusable entries, then the entry; so many at the end -/
def gap : Nat → List CpInfo → List CpInfo
  | 0, r => r
  | n + 1, r => .unusable :: gap n r
def poolList (es : List (Nat × CpInfo)) (last : Nat) : List CpInfo := es.foldr (fun e r => gap e.1 (e.2 :: r)) (gap last [])
def pool (es : List (Nat × CpInfo)) (last : Nat) : Array CpInfo := ⟨poolList es last⟩
def fileOf (pool : Array CpInfo) (this : Nat) (attrs : Array Attribute := #[]) (ms : Array MethodInfo := #[]) (fl : Nat := 33) (sup : Nat := 0) (ifs : Array Nat := #[]) (fds : Array FieldInfo := #[]) : ClassFile where
  minorVersion := 0
  majorVersion := 65
  constantPool := pool
  accessFlags := fl
  thisClass := this
  superClass := sup
  interfaces := ifs
  fields := fds
  methods := ms
  attributes := attrs
def plain (name : String) (sup : Option ClassId) : Class where
  name := name
  kind := .ordinary
  loader := none
  accessFlags := 33
  super := sup
  interfaces := #[]
  cf := none
  fields := #[]
  methods := #[]
  instanceTypes := #[]
  staticTypes := #[]
  resolved := #[]
  callSites := []
  init := .initialized
  statics := none
  mirror := none

def pool0 : Array CpInfo := pool [(5, u "<init>"), (0, u "()V"), (1, .class_ 10), (1, u "java/lang/Object")] 113

def k0c0 : Code := { maxStack := 0, maxLocals := 1, code := object_method_1_code, exceptionTable := #[], attributes := #[] }
def k0m0 : Method := { name := "<init>", desc := "()V", sig := { parameters := [], returnType := none }, accessFlags := 1, code := some k0c0 }
/-- java/lang/Object -/
def k0 : Class := { plain "java/lang/Object" none with
  accessFlags := 33
  interfaces := #[]
  cf := some (fileOf pool0 8 #[] #[{ accessFlags := 1, nameIndex := 5, descriptorIndex := 6, attributes := #[] }] 33 0 #[] #[])
  fields := #[]
  methods := #[k0m0]
  instanceTypes := #[]
  staticTypes := #[]
  resolved := Array.replicate 124 none
  statics := none }

def pool1 : Array CpInfo := pool [(2, .class_ 4), (1, u "java/lang/Object"), (0, u "<init>"), (0, u "()V"), (0, .methodref 8 9), (0, .class_ 10), (0, .nameAndType 11 12), (0, u "java/lang/String"), (0, u "valueOf"), (0, u "(C)Ljava/lang/String;"), (0, .class_ 14), (0, u "com/example/topiq/topiq/protocol/TopicRoute$QueueData"), (0, .methodref 13 16), (0, .nameAndType 5 17), (0, u "(Ljava/lang/String;III)V"), (0, .methodref 13 19), (0, .nameAndType 20 21), (0, u "isWritable"), (0, u "()Z"), (0, .class_ 23), (0, u "com/example/topiq/topiq/protocol/QueueDataIsWritablePinLaw"), (2, u "law"), (0, u "(IIIII)Z")] 7

def k1m0 : Method := { name := "<init>", desc := "()V", sig := { parameters := [], returnType := none }, accessFlags := 1, code := none }
def k1c1 : Code := { maxStack := 8, maxLocals := 11, code := code, exceptionTable := #[], attributes := #[] }
def k1m1 : Method := { name := "law", desc := "(IIIII)Z", sig := { parameters := [.int, .int, .int, .int, .int], returnType := some .boolean }, accessFlags := 9, code := some k1c1 }
/-- com/example/topiq/topiq/protocol/QueueDataIsWritablePinLaw -/
def k1 : Class := { plain "com/example/topiq/topiq/protocol/QueueDataIsWritablePinLaw" (some 0) with
  accessFlags := 49
  interfaces := #[]
  cf := some (fileOf pool1 22 #[] #[{ accessFlags := 1, nameIndex := 5, descriptorIndex := 6, attributes := #[] }, { accessFlags := 9, nameIndex := 26, descriptorIndex := 27, attributes := #[] }] 49 2 #[] #[])
  fields := #[]
  methods := #[k1m0, k1m1]
  instanceTypes := #[]
  staticTypes := #[]
  resolved := Array.replicate 35 none
  statics := none }

def pool2 : Array CpInfo := pool [(1, .class_ 2), (0, u "java/io/Serializable"), (0, .class_ 4), (0, u "java/lang/Object")] 2

/-- java/io/Serializable -/
def k2 : Class := { plain "java/io/Serializable" (some 0) with
  accessFlags := 1537
  interfaces := #[]
  cf := some (fileOf pool2 1 #[] #[] 1537 3 #[] #[])
  fields := #[]
  methods := #[]
  instanceTypes := #[]
  staticTypes := #[]
  resolved := Array.replicate 7 none
  statics := none }

def pool3 : Array CpInfo := pool [(1, .class_ 2), (0, u "java/lang/Comparable"), (0, .class_ 4), (0, u "java/lang/Object")] 7

/-- java/lang/Comparable -/
def k3 : Class := { plain "java/lang/Comparable" (some 0) with
  accessFlags := 1537
  interfaces := #[]
  cf := some (fileOf pool3 1 #[] #[] 1537 3 #[] #[])
  fields := #[]
  methods := #[]
  instanceTypes := #[]
  staticTypes := #[]
  resolved := Array.replicate 12 none
  statics := none }

def pool4 : Array CpInfo := pool [(2, .class_ 4), (1, u "java/lang/CharSequence"), (42, .class_ 48), (0, u "java/lang/CharSequence$1CodePointIterator"), (10, .class_ 60), (0, u "java/lang/CharSequence$1CharIterator"), (5, .class_ 67), (0, u "java/lang/Object")] 63

/-- java/lang/CharSequence -/
def k4 : Class := { plain "java/lang/CharSequence" (some 0) with
  accessFlags := 1537
  interfaces := #[]
  cf := some (fileOf pool4 2 #[.nestMembers #[47, 59]] #[] 1537 66 #[] #[])
  fields := #[]
  methods := #[]
  instanceTypes := #[]
  staticTypes := #[]
  resolved := Array.replicate 131 none
  statics := none }

def pool5 : Array CpInfo := pool [(1, .class_ 2), (0, u "java/lang/constant/Constable"), (0, .class_ 4), (0, u "java/lang/Object")] 6

/-- java/lang/constant/Constable -/
def k5 : Class := { plain "java/lang/constant/Constable" (some 0) with
  accessFlags := 1537
  interfaces := #[]
  cf := some (fileOf pool5 1 #[] #[] 1537 3 #[] #[])
  fields := #[]
  methods := #[]
  instanceTypes := #[]
  staticTypes := #[]
  resolved := Array.replicate 11 none
  statics := none }

def pool6 : Array CpInfo := pool [(1, .class_ 2), (0, u "java/lang/constant/ConstantDesc"), (0, .class_ 4), (0, u "java/lang/Object")] 32

/-- java/lang/constant/ConstantDesc -/
def k6 : Class := { plain "java/lang/constant/ConstantDesc" (some 0) with
  accessFlags := 1537
  interfaces := #[]
  cf := some (fileOf pool6 1 #[] #[] 1537 3 #[] #[])
  fields := #[]
  methods := #[]
  instanceTypes := #[]
  staticTypes := #[]
  resolved := Array.replicate 37 none
  statics := none }

def pool7 : Array CpInfo := pool [(1, .methodref 2 3), (0, .class_ 4), (0, .nameAndType 5 6), (0, u "java/lang/Object"), (0, u "<init>"), (0, u "()V"), (2, .fieldref 10 11), (0, .class_ 12), (0, .nameAndType 13 14), (0, u "java/lang/String"), (0, u "value"), (0, u "[B"), (0, .fieldref 10 16), (0, .nameAndType 17 18), (0, u "coder"), (0, u "B"), (2, u "hash"), (0, u "I"), (2, u "hashIsZero"), (0, u "Z"), (11, .fieldref 10 39), (0, .nameAndType 40 26), (0, u "COMPACT_STRINGS"), (12, u "toBytes"), (53, .class_ 109), (1, u "java/lang/StringLatin1"), (99, .methodref 10 210), (0, .nameAndType 5 211), (0, u "([BB)V"), (157, u "(C)Z"), (205, .class_ 576), (0, u "java/lang/CharSequence"), (22, u "CASE_INSENSITIVE_ORDER"), (0, u "Ljava/util/Comparator;"), (181, u "valueOf"), (0, u "(C)Ljava/lang/String;"), (231, .methodref 107 1016), (0, .nameAndType 1017 369), (0, u "canEncode"), (0, .methodref 107 1019), (0, .nameAndType 53 1020), (0, u "(C)[B"), (80, u "serialPersistentFields"), (0, u "[Ljava/io/ObjectStreamField;"), (0, .class_ 1104), (0, u "java/lang/String$CaseInsensitiveComparator"), (1, .class_ 1107), (0, u "java/io/Serializable"), (0, .class_ 1109), (0, u "java/lang/Comparable"), (0, .class_ 1111), (0, u "java/lang/constant/Constable"), (0, .class_ 1113), (0, u "java/lang/constant/ConstantDesc"), (2, u "serialVersionUID"), (0, u "J"), (3, u "REPL"), (0, u "C"), (2, u "LATIN1"), (1, u "UTF16")] 323

def k7m0 : Method := { name := "<init>", desc := "()V", sig := { parameters := [], returnType := none }, accessFlags := 1, code := none }
def k7c1 : Code := { maxStack := 4, maxLocals := 1, code := jdk_42_method_139_code, exceptionTable := #[], attributes := #[] }
def k7m1 : Method := { name := "valueOf", desc := "(C)Ljava/lang/String;", sig := { parameters := [.char], returnType := some (.object "java/lang/String") }, accessFlags := 9, code := some k7c1 }
def k7c2 : Code := { maxStack := 2, maxLocals := 3, code := jdk_42_method_151_code, exceptionTable := #[], attributes := #[] }
def k7m2 : Method := { name := "<init>", desc := "([BB)V", sig := { parameters := [(.array .byte), .byte], returnType := none }, accessFlags := 0, code := some k7c2 }
/-- java/lang/String -/
def k7 : Class := { plain "java/lang/String" (some 0) with
  accessFlags := 49
  interfaces := #[2, 3, 4, 5, 6]
  cf := some (fileOf pool7 10 #[.nestMembers #[1103]] #[{ accessFlags := 1, nameIndex := 5, descriptorIndex := 6, attributes := #[] }, { accessFlags := 9, nameIndex := 782, descriptorIndex := 783, attributes := #[] }, { accessFlags := 0, nameIndex := 5, descriptorIndex := 211, attributes := #[] }] 49 2 #[1106, 1108, 575, 1110, 1112] #[{ accessFlags := 18, nameIndex := 13, descriptorIndex := 14, attributes := #[] }, { accessFlags := 18, nameIndex := 17, descriptorIndex := 18, attributes := #[] }, { accessFlags := 2, nameIndex := 21, descriptorIndex := 22, attributes := #[] }, { accessFlags := 2, nameIndex := 25, descriptorIndex := 26, attributes := #[] }, { accessFlags := 26, nameIndex := 1116, descriptorIndex := 1117, attributes := #[] }, { accessFlags := 24, nameIndex := 40, descriptorIndex := 26, attributes := #[] }, { accessFlags := 26, nameIndex := 1101, descriptorIndex := 1102, attributes := #[] }, { accessFlags := 26, nameIndex := 1121, descriptorIndex := 1122, attributes := #[] }, { accessFlags := 25, nameIndex := 599, descriptorIndex := 600, attributes := #[] }, { accessFlags := 24, nameIndex := 1125, descriptorIndex := 18, attributes := #[] }, { accessFlags := 24, nameIndex := 1127, descriptorIndex := 18, attributes := #[] }])
  fields := #[{ name := "value", type := (.array .byte), accessFlags := 18, slot := 0, constantValue := 0 }, { name := "coder", type := .byte, accessFlags := 18, slot := 1, constantValue := 0 }, { name := "hash", type := .int, accessFlags := 2, slot := 2, constantValue := 0 }, { name := "hashIsZero", type := .boolean, accessFlags := 2, slot := 3, constantValue := 0 }, { name := "serialVersionUID", type := .long, accessFlags := 26, slot := 0, constantValue := 0 }, { name := "COMPACT_STRINGS", type := .boolean, accessFlags := 24, slot := 1, constantValue := 0 }, { name := "serialPersistentFields", type := (.array (.object "java/io/ObjectStreamField")), accessFlags := 26, slot := 2, constantValue := 0 }, { name := "REPL", type := .char, accessFlags := 26, slot := 3, constantValue := 0 }, { name := "CASE_INSENSITIVE_ORDER", type := (.object "java/util/Comparator"), accessFlags := 25, slot := 4, constantValue := 0 }, { name := "LATIN1", type := .byte, accessFlags := 24, slot := 5, constantValue := 0 }, { name := "UTF16", type := .byte, accessFlags := 24, slot := 6, constantValue := 0 }]
  methods := #[k7m0, k7m1, k7m2]
  instanceTypes := #[(.array .byte), .byte, .int, .boolean]
  staticTypes := #[.long, .boolean, (.array (.object "java/io/ObjectStreamField")), .char, (.object "java/util/Comparator"), .byte, .byte]
  resolved := Array.replicate 1451 none
  statics := some 0 }

def pool8 : Array CpInfo := pool [(4, .class_ 6), (1, u "java/lang/Object"), (0, u "<init>"), (0, u "()V"), (5, .class_ 16), (1, u "java/lang/StringLatin1"), (73, u "canEncode"), (14, u "(C)Z"), (15, u "$assertionsDisabled"), (0, u "Z"), (98, .class_ 223), (1, u "java/lang/StringLatin1$LinesSpliterator"), (156, u "toBytes"), (1, u "(C)[B"), (7, .class_ 391), (0, u "java/lang/StringLatin1$CharsSpliterator")] 3

def k8m0 : Method := { name := "<init>", desc := "()V", sig := { parameters := [], returnType := none }, accessFlags := 0, code := none }
def k8c1 : Code := { maxStack := 2, maxLocals := 1, code := jdk_43_method_3_code, exceptionTable := #[], attributes := #[] }
def k8m1 : Method := { name := "canEncode", desc := "(C)Z", sig := { parameters := [.char], returnType := some .boolean }, accessFlags := 9, code := some k8c1 }
def k8c2 : Code := { maxStack := 4, maxLocals := 1, code := jdk_43_method_46_code, exceptionTable := #[], attributes := #[] }
def k8m2 : Method := { name := "toBytes", desc := "(C)[B", sig := { parameters := [.char], returnType := some (.array .byte) }, accessFlags := 9, code := some k8c2 }
/-- java/lang/StringLatin1 -/
def k8 : Class := { plain "java/lang/StringLatin1" (some 0) with
  accessFlags := 48
  interfaces := #[]
  cf := some (fileOf pool8 14 #[.nestMembers #[390, 221]] #[{ accessFlags := 0, nameIndex := 7, descriptorIndex := 8, attributes := #[] }, { accessFlags := 9, nameIndex := 90, descriptorIndex := 105, attributes := #[] }, { accessFlags := 9, nameIndex := 380, descriptorIndex := 382, attributes := #[] }] 48 4 #[] #[{ accessFlags := 4120, nameIndex := 121, descriptorIndex := 122, attributes := #[] }])
  fields := #[{ name := "$assertionsDisabled", type := .boolean, accessFlags := 4120, slot := 0, constantValue := 0 }]
  methods := #[k8m0, k8m1, k8m2]
  instanceTypes := #[]
  staticTypes := #[.boolean]
  resolved := Array.replicate 395 none
  statics := none }

def pool9 : Array CpInfo := pool [(1, .class_ 2), (0, u "com/example/topiq/topiq/protocol/TopicRoute"), (0, .methodref 4 5), (0, .class_ 6), (0, .nameAndType 7 8), (0, u "java/lang/Object"), (0, u "<init>"), (0, u "()V"), (0, .fieldref 10 11), (0, .class_ 12), (0, .nameAndType 13 14), (0, u "com/example/topiq/topiq/protocol/TopicRoute$QueueData"), (0, u "brokerName"), (0, u "Ljava/lang/String;"), (0, .fieldref 10 16), (0, .nameAndType 17 18), (0, u "readQueueNums"), (0, u "I"), (0, .fieldref 10 20), (0, .nameAndType 21 18), (0, u "writeQueueNums"), (0, .fieldref 10 23), (0, .nameAndType 24 18), (0, u "perm"), (14, u "(Ljava/lang/String;III)V"), (24, u "isWritable"), (0, u "()Z")] 7

def k9c0 : Code := { maxStack := 2, maxLocals := 5, code := prog_50_method_1_code, exceptionTable := #[], attributes := #[] }
def k9m0 : Method := { name := "<init>", desc := "(Ljava/lang/String;III)V", sig := { parameters := [(.object "java/lang/String"), .int, .int, .int], returnType := none }, accessFlags := 1, code := some k9c0 }
def k9c1 : Code := { maxStack := 2, maxLocals := 1, code := prog_50_method_8_code, exceptionTable := #[], attributes := #[] }
def k9m1 : Method := { name := "isWritable", desc := "()Z", sig := { parameters := [], returnType := some .boolean }, accessFlags := 1, code := some k9c1 }
/-- com/example/topiq/topiq/protocol/TopicRoute$QueueData -/
def k9 : Class := { plain "com/example/topiq/topiq/protocol/TopicRoute$QueueData" (some 0) with
  accessFlags := 33
  interfaces := #[]
  cf := some (fileOf pool9 10 #[.nestHost 1] #[{ accessFlags := 1, nameIndex := 7, descriptorIndex := 39, attributes := #[] }, { accessFlags := 1, nameIndex := 64, descriptorIndex := 65, attributes := #[] }] 33 4 #[] #[{ accessFlags := 18, nameIndex := 13, descriptorIndex := 14, attributes := #[] }, { accessFlags := 18, nameIndex := 17, descriptorIndex := 18, attributes := #[] }, { accessFlags := 18, nameIndex := 21, descriptorIndex := 18, attributes := #[] }, { accessFlags := 18, nameIndex := 24, descriptorIndex := 18, attributes := #[] }])
  fields := #[{ name := "brokerName", type := (.object "java/lang/String"), accessFlags := 18, slot := 0, constantValue := 0 }, { name := "readQueueNums", type := .int, accessFlags := 18, slot := 1, constantValue := 0 }, { name := "writeQueueNums", type := .int, accessFlags := 18, slot := 2, constantValue := 0 }, { name := "perm", type := .int, accessFlags := 18, slot := 3, constantValue := 0 }]
  methods := #[k9m0, k9m1]
  instanceTypes := #[(.object "java/lang/String"), .int, .int, .int]
  staticTypes := #[]
  resolved := Array.replicate 73 none
  statics := none }

def pool10 : Array CpInfo := pool [(2, .class_ 4), (1, u "java/lang/Object"), (0, u "<init>"), (0, u "()V"), (17, .class_ 26), (1, u "jdk/internal/util/Preconditions"), (28, .class_ 56), (0, u "jdk/internal/util/Preconditions$4"), (57, .class_ 115), (0, u "jdk/internal/util/Preconditions$1"), (7, u "SIOOBE_FORMATTER"), (0, u "Ljava/util/function/BiFunction;"), (0, .class_ 126), (0, u "jdk/internal/util/Preconditions$2"), (3, u "AIOOBE_FORMATTER"), (0, .class_ 132), (0, u "jdk/internal/util/Preconditions$3"), (3, u "IOOBE_FORMATTER")] 57

def k10m0 : Method := { name := "<init>", desc := "()V", sig := { parameters := [], returnType := none }, accessFlags := 1, code := none }
/-- jdk/internal/util/Preconditions -/
def k10 : Class := { plain "jdk/internal/util/Preconditions" (some 0) with
  accessFlags := 33
  interfaces := #[]
  cf := some (fileOf pool10 24 #[.nestMembers #[55, 131, 125, 114]] #[{ accessFlags := 1, nameIndex := 5, descriptorIndex := 6, attributes := #[] }] 33 2 #[] #[{ accessFlags := 25, nameIndex := 123, descriptorIndex := 124, attributes := #[] }, { accessFlags := 25, nameIndex := 130, descriptorIndex := 124, attributes := #[] }, { accessFlags := 25, nameIndex := 136, descriptorIndex := 124, attributes := #[] }])
  fields := #[{ name := "SIOOBE_FORMATTER", type := (.object "java/util/function/BiFunction"), accessFlags := 25, slot := 0, constantValue := 0 }, { name := "AIOOBE_FORMATTER", type := (.object "java/util/function/BiFunction"), accessFlags := 25, slot := 1, constantValue := 0 }, { name := "IOOBE_FORMATTER", type := (.object "java/util/function/BiFunction"), accessFlags := 25, slot := 2, constantValue := 0 }]
  methods := #[k10m0]
  instanceTypes := #[]
  staticTypes := #[(.object "java/util/function/BiFunction"), (.object "java/util/function/BiFunction"), (.object "java/util/function/BiFunction")]
  resolved := Array.replicate 194 none
  statics := some 1 }

def pool11 : Array CpInfo := pool [(9, u "<init>"), (6, .class_ 18), (1, u "java/lang/Object"), (0, u "()V"), (1, .class_ 23), (1, u "jdk/internal/util/ArraysSupport"), (0, u "LOG2_ARRAY_LONG_INDEX_SCALE"), (0, u "I"), (2, u "U"), (0, u "Ljdk/internal/misc/Unsafe;"), (8, u "BIG_ENDIAN"), (0, u "Z"), (8, u "LOG2_BYTE_BIT_SIZE"), (4, u "LOG2_ARRAY_INT_INDEX_SCALE"), (54, u "JLA"), (0, u "Ljdk/internal/access/JavaLangAccess;"), (11, u "LOG2_ARRAY_BOOLEAN_INDEX_SCALE"), (9, u "LOG2_ARRAY_BYTE_INDEX_SCALE"), (5, u "LOG2_ARRAY_CHAR_INDEX_SCALE"), (5, u "LOG2_ARRAY_SHORT_INDEX_SCALE"), (18, u "LOG2_ARRAY_FLOAT_INDEX_SCALE"), (24, u "LOG2_ARRAY_DOUBLE_INDEX_SCALE"), (89, u "T_BOOLEAN"), (2, u "T_CHAR"), (1, u "T_FLOAT"), (1, u "T_DOUBLE"), (1, u "T_BYTE"), (1, u "T_SHORT"), (1, u "T_INT"), (1, u "T_LONG"), (1, u "SOFT_MAX_ARRAY_LENGTH")] 83

def k11m0 : Method := { name := "<init>", desc := "()V", sig := { parameters := [], returnType := none }, accessFlags := 2, code := none }
/-- jdk/internal/util/ArraysSupport -/
def k11 : Class := { plain "jdk/internal/util/ArraysSupport" (some 0) with
  accessFlags := 33
  interfaces := #[]
  cf := some (fileOf pool11 21 #[] #[{ accessFlags := 2, nameIndex := 9, descriptorIndex := 19, attributes := #[] }] 33 16 #[] #[{ accessFlags := 24, nameIndex := 28, descriptorIndex := 29, attributes := #[] }, { accessFlags := 26, nameIndex := 38, descriptorIndex := 39, attributes := #[] }, { accessFlags := 25, nameIndex := 121, descriptorIndex := 25, attributes := #[] }, { accessFlags := 25, nameIndex := 131, descriptorIndex := 25, attributes := #[] }, { accessFlags := 25, nameIndex := 137, descriptorIndex := 25, attributes := #[] }, { accessFlags := 25, nameIndex := 143, descriptorIndex := 25, attributes := #[] }, { accessFlags := 25, nameIndex := 53, descriptorIndex := 25, attributes := #[] }, { accessFlags := 25, nameIndex := 24, descriptorIndex := 25, attributes := #[] }, { accessFlags := 25, nameIndex := 162, descriptorIndex := 25, attributes := #[] }, { accessFlags := 25, nameIndex := 187, descriptorIndex := 25, attributes := #[] }, { accessFlags := 26, nameIndex := 48, descriptorIndex := 25, attributes := #[] }, { accessFlags := 25, nameIndex := 277, descriptorIndex := 25, attributes := #[] }, { accessFlags := 25, nameIndex := 280, descriptorIndex := 25, attributes := #[] }, { accessFlags := 25, nameIndex := 282, descriptorIndex := 25, attributes := #[] }, { accessFlags := 25, nameIndex := 284, descriptorIndex := 25, attributes := #[] }, { accessFlags := 25, nameIndex := 286, descriptorIndex := 25, attributes := #[] }, { accessFlags := 25, nameIndex := 288, descriptorIndex := 25, attributes := #[] }, { accessFlags := 25, nameIndex := 290, descriptorIndex := 25, attributes := #[] }, { accessFlags := 25, nameIndex := 292, descriptorIndex := 25, attributes := #[] }, { accessFlags := 26, nameIndex := 108, descriptorIndex := 109, attributes := #[] }, { accessFlags := 25, nameIndex := 294, descriptorIndex := 25, attributes := #[] }])
  fields := #[{ name := "U", type := (.object "jdk/internal/misc/Unsafe"), accessFlags := 24, slot := 0, constantValue := 0 }, { name := "BIG_ENDIAN", type := .boolean, accessFlags := 26, slot := 1, constantValue := 0 }, { name := "LOG2_ARRAY_BOOLEAN_INDEX_SCALE", type := .int, accessFlags := 25, slot := 2, constantValue := 0 }, { name := "LOG2_ARRAY_BYTE_INDEX_SCALE", type := .int, accessFlags := 25, slot := 3, constantValue := 0 }, { name := "LOG2_ARRAY_CHAR_INDEX_SCALE", type := .int, accessFlags := 25, slot := 4, constantValue := 0 }, { name := "LOG2_ARRAY_SHORT_INDEX_SCALE", type := .int, accessFlags := 25, slot := 5, constantValue := 0 }, { name := "LOG2_ARRAY_INT_INDEX_SCALE", type := .int, accessFlags := 25, slot := 6, constantValue := 0 }, { name := "LOG2_ARRAY_LONG_INDEX_SCALE", type := .int, accessFlags := 25, slot := 7, constantValue := 0 }, { name := "LOG2_ARRAY_FLOAT_INDEX_SCALE", type := .int, accessFlags := 25, slot := 8, constantValue := 0 }, { name := "LOG2_ARRAY_DOUBLE_INDEX_SCALE", type := .int, accessFlags := 25, slot := 9, constantValue := 0 }, { name := "LOG2_BYTE_BIT_SIZE", type := .int, accessFlags := 26, slot := 10, constantValue := 0 }, { name := "T_BOOLEAN", type := .int, accessFlags := 25, slot := 11, constantValue := 0 }, { name := "T_CHAR", type := .int, accessFlags := 25, slot := 12, constantValue := 0 }, { name := "T_FLOAT", type := .int, accessFlags := 25, slot := 13, constantValue := 0 }, { name := "T_DOUBLE", type := .int, accessFlags := 25, slot := 14, constantValue := 0 }, { name := "T_BYTE", type := .int, accessFlags := 25, slot := 15, constantValue := 0 }, { name := "T_SHORT", type := .int, accessFlags := 25, slot := 16, constantValue := 0 }, { name := "T_INT", type := .int, accessFlags := 25, slot := 17, constantValue := 0 }, { name := "T_LONG", type := .int, accessFlags := 25, slot := 18, constantValue := 0 }, { name := "JLA", type := (.object "jdk/internal/access/JavaLangAccess"), accessFlags := 26, slot := 19, constantValue := 0 }, { name := "SOFT_MAX_ARRAY_LENGTH", type := .int, accessFlags := 25, slot := 20, constantValue := 0 }]
  methods := #[k11m0]
  instanceTypes := #[]
  staticTypes := #[(.object "jdk/internal/misc/Unsafe"), .boolean, .int, .int, .int, .int, .int, .int, .int, .int, .int, .int, .int, .int, .int, .int, .int, .int, .int, (.object "jdk/internal/access/JavaLangAccess"), .int]
  resolved := Array.replicate 378 none
  statics := none }

def pool12 : Array CpInfo := pool [(1, u "java/lang/Cloneable"), (0, .class_ 1), (0, u "java/lang/Object"), (0, .class_ 3)] 3

/-- java/lang/Cloneable -/
def k12 : Class := { plain "java/lang/Cloneable" (some 0) with
  accessFlags := 1537
  interfaces := #[]
  cf := some (fileOf pool12 2 #[] #[] 1537 4 #[] #[])
  fields := #[]
  methods := #[]
  instanceTypes := #[]
  staticTypes := #[]
  resolved := Array.replicate 8 none
  statics := none }

/-- the primitive byte -/
def k13 : Class := { plain "byte" none with kind := .primitive 'B', accessFlags := 0x411 }
/-- [B -/
def k14 : Class := { plain "[B" (some 0) with kind := .array 13 .byte, interfaces := #[12, 2], accessFlags := 1041 }

/-- the primitive int -/
def k15 : Class := { plain "int" none with kind := .primitive 'I', accessFlags := 0x411 }
/-- [I -/
def k16 : Class := { plain "[I" (some 0) with kind := .array 15 .int, interfaces := #[12, 2], accessFlags := 1041 }

def heap : Heap := #[{ cls := 7, slots := #[.long 0, .int 1, .null, .int 0, .null, .int 0, .int 0], vm := .statics 7 },
  { cls := 10, slots := #[.null, .null, .null], vm := .statics 10 }]
def classes : Array Class := #[k0, k1, k2, k3, k4, k5, k6, k7, k8, k9, k10, k11, k12, k13, k14, k15, k16]
def interned : List (Array UInt16 × Addr) := []
def slotsUsed : Nat := 10
def theMethod : MethodId := ⟨1, 1⟩
def args0 : Array Value := #[.int 2, .int 5, .int 1, .int 1, .int 65]
def aboutOver (below : List Frame) : State where
  vm := { classes := classes, interned := interned.toArray }
  heap := heap
  slotsUsed := slotsUsed
  threads := #[{ frames := .invoking theMethod args0 :: below }]
def below0 : List Frame := [.native { method := ⟨0, 0⟩, args := #[] }]
def about1 : State := aboutOver below0
def p0 : Program := .bare "" "" ""
def e0 : Env := launch0.env 0 0 0
theorem w_frames : about1.frames = Frame.invoking theMethod args0 :: below0 := rfl
set_option maxRecDepth 65536 in
theorem w_args : argsFit about1.vm theMethod args0 = true := by decide +kernel
set_option maxRecDepth 65536 in
theorem w_heap : heapFits about1 = true := by decide +kernel
set_option maxRecDepth 65536 in
theorem w_runnable : about1.curStatus? = some .runnable := by decide +kernel
set_option maxRecDepth 65536 in
theorem w_alone : about1.alone = true := by decide +kernel
set_option maxRecDepth 65536 in
theorem w_named : about1.methodNamed? x = some theMethod := by decide +kernel
set_option maxRecDepth 65536 in
theorem w_hears : about1.hears theMethod below0 = true := by decide +kernel
set_option maxRecDepth 65536 in
theorem w_ripe : about1.ripe theMethod args0 below0 = true := by decide +kernel
theorem w_running : about1.status = .running := rfl
set_option maxRecDepth 65536 in
theorem w_room : about1.hasRoom e0.platform room_1 = true :=
  launch0.hasRoom_least _ room_1 (by decide +kernel) (by decide +kernel) (by decide +kernel) (by decide +kernel) (by decide +kernel) (by decide +kernel)
theorem allAtoms_all (ts : List Jvm.Cond) (a : Array Jvm.Value) (st : Jvm.State) : (allAtoms ts).before a st = ts.all (fun c => c.before a st) := by
  induction ts with
  | nil => rfl
  | cons c t ih =>
    show (Jvm.Cond.and c (allAtoms t)).before a st = _
    rw [Jvm.Cond.before_and, ih, List.all_cons]
def words1 : List Jvm.Cond := Jvm.Cond.code x code maxLocals ret :: tables_1
/-- a 'code' word, met by the world's own term for the bytes: nothing is compared byte by byte -/
theorem code_word {y : MethodName} {bytes : ByteArray} {mx : Nat} {rt : Option FieldType} {a : Array Value} {s : State} {m : MethodId} {meth : Method} {c : Code} (h1 : s.methodNamed? y = some m) (h2 : s.vm.method? m = some meth) (h3 : meth.code = some c) (h4 : c.code = bytes)
    (h5 : (c.maxLocals == mx && c.exceptionTable.isEmpty && decide (c.maxStack ≤ mostOperands) && decide (meth.sig.returnType = rt) && !meth.locks && decide (parseMethodDescriptor y.desc = some meth.sig)) = true) : (Jvm.Cond.code y bytes mx rt).before a s = true := by
  simp only [Bool.and_eq_true, beq_iff_eq, Bool.not_eq_true', decide_eq_true_eq] at h5
  obtain ⟨⟨⟨⟨⟨g1, g2⟩, g3⟩, g4⟩, g5⟩, g6⟩ := h5
  simp [Cond.before, Cond.holds, Cond.value, h1, h2, h3, h4, g1, g2, g3, g4, g5, g6]
def isCode : Jvm.Cond → Bool
  | .code _ _ _ _ => true
  | _ => false
theorem all_split {L : List Jvm.Cond} {P : Jvm.Cond → Bool} (h1 : L.all (fun c => isCode c || P c) = true) (h2 : ∀ c ∈ L.filter isCode, P c = true) : L.all P = true := by
  refine List.all_eq_true.mpr fun c hc => ?_
  have h := List.all_eq_true.mp h1 c hc
  rcases Bool.eq_false_or_eq_true (isCode c) with hi | hi
  · exact h2 c (List.mem_filter.mpr ⟨hc, hi⟩)
  · simpa [hi] using h
set_option maxRecDepth 65536 in
theorem w_c0 : (Jvm.Cond.code x code maxLocals ret).before args0 about1 = true := code_word (m := ⟨1, 1⟩) (meth := k1m1) (c := k1c1) (by decide +kernel) rfl rfl rfl (by decide +kernel)
set_option maxRecDepth 65536 in
theorem w_c1 : (Jvm.Cond.code ({ cls := "java/lang/String", name := "valueOf", desc := "(C)Ljava/lang/String;" } : Jvm.MethodName) jdk_42_method_139_code (1 : Nat) (Option.some (Jvm.ClassFile.FieldType.object "java/lang/String"))).before args0 about1 = true := code_word (m := ⟨7, 1⟩) (meth := k7m1) (c := k7c1) (by decide +kernel) rfl rfl rfl (by decide +kernel)
set_option maxRecDepth 65536 in
theorem w_c2 : (Jvm.Cond.code ({ cls := "java/lang/StringLatin1", name := "canEncode", desc := "(C)Z" } : Jvm.MethodName) jdk_43_method_3_code (1 : Nat) (Option.some Jvm.ClassFile.FieldType.boolean)).before args0 about1 = true := code_word (m := ⟨8, 1⟩) (meth := k8m1) (c := k8c1) (by decide +kernel) rfl rfl rfl (by decide +kernel)
set_option maxRecDepth 65536 in
theorem w_c3 : (Jvm.Cond.code ({ cls := "java/lang/StringLatin1", name := "toBytes", desc := "(C)[B" } : Jvm.MethodName) jdk_43_method_46_code (1 : Nat) (Option.some (Jvm.ClassFile.FieldType.array Jvm.ClassFile.FieldType.byte))).before args0 about1 = true := code_word (m := ⟨8, 2⟩) (meth := k8m2) (c := k8c2) (by decide +kernel) rfl rfl rfl (by decide +kernel)
set_option maxRecDepth 65536 in
theorem w_c4 : (Jvm.Cond.code ({ cls := "java/lang/String", name := "<init>", desc := "([BB)V" } : Jvm.MethodName) jdk_42_method_151_code (3 : Nat) (Option.none : Option Jvm.ClassFile.FieldType)).before args0 about1 = true := code_word (m := ⟨7, 2⟩) (meth := k7m2) (c := k7c2) (by decide +kernel) rfl rfl rfl (by decide +kernel)
set_option maxRecDepth 65536 in
theorem w_c5 : (Jvm.Cond.code ({ cls := "java/lang/Object", name := "<init>", desc := "()V" } : Jvm.MethodName) object_method_1_code (1 : Nat) (Option.none : Option Jvm.ClassFile.FieldType)).before args0 about1 = true := code_word (m := ⟨0, 0⟩) (meth := k0m0) (c := k0c0) (by decide +kernel) rfl rfl rfl (by decide +kernel)
set_option maxRecDepth 65536 in
theorem w_c6 : (Jvm.Cond.code ({ cls := "com/example/topiq/topiq/protocol/TopicRoute$QueueData", name := "<init>", desc := "(Ljava/lang/String;III)V" } : Jvm.MethodName) prog_50_method_1_code (5 : Nat) (Option.none : Option Jvm.ClassFile.FieldType)).before args0 about1 = true := code_word (m := ⟨9, 0⟩) (meth := k9m0) (c := k9c0) (by decide +kernel) rfl rfl rfl (by decide +kernel)
set_option maxRecDepth 65536 in
theorem w_c7 : (Jvm.Cond.code ({ cls := "com/example/topiq/topiq/protocol/TopicRoute$QueueData", name := "isWritable", desc := "()Z" } : Jvm.MethodName) prog_50_method_8_code (1 : Nat) (Option.some Jvm.ClassFile.FieldType.boolean)).before args0 about1 = true := code_word (m := ⟨9, 1⟩) (meth := k9m1) (c := k9c1) (by decide +kernel) rfl rfl rfl (by decide +kernel)
def codes1 : List Jvm.Cond := [Jvm.Cond.code x code maxLocals ret, Jvm.Cond.code ({ cls := "java/lang/String", name := "valueOf", desc := "(C)Ljava/lang/String;" } : Jvm.MethodName) jdk_42_method_139_code (1 : Nat) (Option.some (Jvm.ClassFile.FieldType.object "java/lang/String")), Jvm.Cond.code ({ cls := "java/lang/StringLatin1", name := "canEncode", desc := "(C)Z" } : Jvm.MethodName) jdk_43_method_3_code (1 : Nat) (Option.some Jvm.ClassFile.FieldType.boolean), Jvm.Cond.code ({ cls := "java/lang/StringLatin1", name := "toBytes", desc := "(C)[B" } : Jvm.MethodName) jdk_43_method_46_code (1 : Nat) (Option.some (Jvm.ClassFile.FieldType.array Jvm.ClassFile.FieldType.byte)), Jvm.Cond.code ({ cls := "java/lang/String", name := "<init>", desc := "([BB)V" } : Jvm.MethodName) jdk_42_method_151_code (3 : Nat) (Option.none : Option Jvm.ClassFile.FieldType), Jvm.Cond.code ({ cls := "java/lang/Object", name := "<init>", desc := "()V" } : Jvm.MethodName) object_method_1_code (1 : Nat) (Option.none : Option Jvm.ClassFile.FieldType), Jvm.Cond.code ({ cls := "com/example/topiq/topiq/protocol/TopicRoute$QueueData", name := "<init>", desc := "(Ljava/lang/String;III)V" } : Jvm.MethodName) prog_50_method_1_code (5 : Nat) (Option.none : Option Jvm.ClassFile.FieldType), Jvm.Cond.code ({ cls := "com/example/topiq/topiq/protocol/TopicRoute$QueueData", name := "isWritable", desc := "()Z" } : Jvm.MethodName) prog_50_method_8_code (1 : Nat) (Option.some Jvm.ClassFile.FieldType.boolean)]
set_option maxRecDepth 65536 in
theorem codes_eq : words1.filter isCode = codes1 := rfl
theorem w_codes : ∀ c ∈ words1.filter isCode, c.before args0 about1 = true := by
  rw [codes_eq]
  intro c hc
  simp only [codes1, List.mem_cons, List.not_mem_nil, or_false] at hc
  rcases hc with rfl | rfl | rfl | rfl | rfl | rfl | rfl | rfl
  · exact w_c0
  · exact w_c1
  · exact w_c2
  · exact w_c3
  · exact w_c4
  · exact w_c5
  · exact w_c6
  · exact w_c7
set_option maxRecDepth 65536 in
theorem w_t1 : (words1.take 24).all (fun c => isCode c || c.before args0 about1) = true := by decide +kernel
set_option maxRecDepth 65536 in
theorem w_t2 : (words1.drop 24).all (fun c => isCode c || c.before args0 about1) = true := by decide +kernel
theorem w_tables : (allAtoms (Jvm.Cond.code x code maxLocals ret :: tables_1)).before args0 about1 = true := by
  rw [allAtoms_all]
  show words1.all (fun c => c.before args0 about1) = true
  refine all_split ?_ w_codes
  rw [← List.take_append_drop 24 words1, List.all_append, w_t1, w_t2]
  rfl
set_option maxRecDepth 65536 in
theorem w_rest : rest_1_c.before args0 about1 = true := by decide +kernel
set_option maxRecDepth 65536 in
theorem w_case : (Jvm.Cond.and given_1 narrow_1).before args0 about1 = true := by decide +kernel
theorem w_applies : (headSpec (Jvm.Cond.code x code maxLocals ret :: tables_1) room_1).applies x e0.platform about1 = true :=
  (Spec.applies_iff w_frames).mpr ⟨w_running, w_runnable, w_alone, w_named, w_hears, w_ripe, w_room, w_tables⟩
theorem atStart : AtStart classFile x code maxLocals ret World_1 tables_1 room_1 Calls_1 rest_1 Pre_1 launch0 p0 e0 about1 theMethod args0 below0 :=
  ⟨lists_1, trivial, launch0.admits_env _ _ _, launch0.least_env, fairChoices_fair.cas, fairChoices_fair.clock, w_frames, w_args, w_heap, w_applies, trivial, w_rest, w_case⟩
end start1
theorem witness_1 : WitnessClaimed_1 := ⟨start1.p0, start1.e0, start1.about1, start1.theMethod, start1.args0, start1.below0, start1.atStart⟩
end Jvm.Pilot.@@N@@
