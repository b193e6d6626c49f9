import JvmDerived
import JvmDerived.Pilot.@@N@@Statement
import JvmDerived.Pilot.@@N@@Code
set_option linter.unusedVariables false
set_option linter.unusedSimpArgs false
namespace Jvm.RoadKit
open Sem ClassFile Op Lib Jvm.Stand Jvm.Free Jvm.LawKit
section New
variable {p : Program} {l : Launch} {e : Env} {R : Room} {s : State} {m : MethodId} {args : Array Value} {below : List Frame} {meth : Method} {c : Code} {T : State} {locs : List Loc} {cells slots : Nat}
theorem retI (X : Stand p l e R s m args below meth c T locs cells slots) (hx : p.tables.exec = Jvm.exec) {pc : Nat} {Ls : Array Slot} {z : Int32} {rest : List Value} (hret : meth.sig.returnType = some .int) (hd : decode c.code pc = .ok (.ireturn, 1)) {fs : List Frame}
    (hl : ∀ (f : JFrame) (acts : List Action), f.method = m → f.locked = none → f.entered = [] → (doReturn e (T.setTop f) acts (some (.int z))).1 = T.setFrames fs) : Steps p.tables e below (T.setTop (mkF m pc Ls (.int z :: rest))) (T.setFrames fs) := by
  have hm' : T.vm.method? m = some meth := X.method'
  have hn : narrow .int (.int z) = .int z := rfl
  show Steps p.tables e below (T.setTop { method := m, pc := pc, locals := Ls, stack := _ :: rest, locked := none }) _
  jvm_step X.here [X.here.top, hx, hd, hm', hret, hn]
  first | (intro acts; rw [hl _ acts rfl rfl rfl]) | rw [hl _ _ rfl rfl rfl]
  exact Steps.refl _
end New
end Jvm.RoadKit
namespace Jvm.Pilot.@@N@@
open Jvm Jvm.ClassFile Sem Op Lib Jvm.Free Jvm.Stand Jvm.LawKit Jvm.RoadKit Bundle Jvm.Pilot.@@N@@.Jvm.D
def Av (Z : State) (h : Heap) (a : Addr) (ty : FieldType) (n : Int32) (vs : List Value) (d : Value) : Prop := ∃ k, Arv Z h a k ty n vs d
theorem Av.lt {Z : State} {h : Heap} {a : Addr} {ty : FieldType} {n : Int32} {vs : List Value} {d : Value} (F : Av Z h a ty n vs d) : a < h.size := by obtain ⟨k, F⟩ := F; exact F.lt
theorem Av.ext {Z : State} {h h' : Heap} {a : Addr} {ty : FieldType} {n : Int32} {vs : List Value} {d : Value} (F : Av Z h a ty n vs d) (E : Ext h h') : Av Z h' a ty n vs d := by obtain ⟨k, F⟩ := F; exact ⟨k, F.ext E⟩
theorem Av.other {Z : State} {h h' : Heap} {a b : Addr} {ty : FieldType} {n : Int32} {vs : List Value} {d : Value} {sl : Nat} {v : Value} (F : Av Z h b ty n vs d) (W : Wr h h' a sl v) (q : b ≠ a) : Av Z h' b ty n vs d := by obtain ⟨k, F⟩ := F; exact ⟨k, F.other W q⟩
def Al (Z : State) (h : Heap) (a : Addr) (ty : FieldType) (n : Int32) : Prop := ∃ c : Cell, Arr Z h a c ty ∧ c.slots.size = n.toNatClampNeg ∧ ¬ n < 0
theorem Al.lt {Z : State} {h : Heap} {a : Addr} {ty : FieldType} {n : Int32} (F : Al Z h a ty n) : a < h.size := by obtain ⟨c, A, -⟩ := F; exact A.lt
theorem Al.ext {Z : State} {h h' : Heap} {a : Addr} {ty : FieldType} {n : Int32} (F : Al Z h a ty n) (E : Ext h h') : Al Z h' a ty n := by obtain ⟨c, A, r⟩ := F; exact ⟨c, A.ext E, r⟩
theorem Al.other {Z : State} {h h' : Heap} {a b : Addr} {ty : FieldType} {n : Int32} {sl : Nat} {v : Value} (F : Al Z h b ty n) (W : Wr h h' a sl v) (q : b ≠ a) : Al Z h' b ty n := by obtain ⟨c, A, r⟩ := F; exact ⟨c, A.other W q, r⟩
theorem Al.same {Z : State} {h h' : Heap} {a : Addr} {ty : FieldType} {n : Int32} {sl : Nat} {v : Value} (F : Al Z h a ty n) (W : Wr h h' a sl v) : Al Z h' a ty n := by obtain ⟨c, A, r⟩ := F; exact ⟨_, A.same W, by rw [sz_set]; exact r.1, r.2⟩
theorem Al.keep {Z : State} {h h' : Heap} {a : Addr} {ty : FieldType} {n : Int32} {ws : List Addr} (F : Al Z h a ty n) (K : Keep h h' ws) (q : a ∉ ws) : Al Z h' a ty n := by obtain ⟨c, A, r⟩ := F; exact ⟨c, ⟨K.2.1 a c A.1 q, A.2⟩, r⟩
theorem Av.al {Z : State} {h : Heap} {a : Addr} {ty : FieldType} {n : Int32} {vs : List Value} {d : Value} (F : Av Z h a ty n vs d) : Al Z h a ty n := by obtain ⟨k, c, A, -, r1, r2, -⟩ := F; exact ⟨c, A, r1, r2⟩
theorem Av.keep {Z : State} {h h' : Heap} {a : Addr} {ty : FieldType} {n : Int32} {vs : List Value} {d : Value} {ws : List Addr} (F : Av Z h a ty n vs d) (K : Keep h h' ws) (q : a ∉ ws) : Av Z h' a ty n vs d := by obtain ⟨k, F⟩ := F; exact ⟨k, F.keep K q⟩
abbrev MN1 : MethodName := ⟨"java/lang/String", "valueOf", "(C)Ljava/lang/String;"⟩
abbrev MN2 : MethodName := ⟨"java/lang/StringLatin1", "canEncode", "(C)Z"⟩
abbrev MN3 : MethodName := ⟨"java/lang/StringLatin1", "toBytes", "(C)[B"⟩
abbrev MN4 : MethodName := ⟨"java/lang/String", "<init>", "([BB)V"⟩
abbrev MN6 : MethodName := ⟨"com/example/dido/dido/keys/ConstField", "<init>", "(Ljava/lang/String;I)V"⟩
abbrev MN7 : MethodName := ⟨"com/example/dido/dido/keys/Field", "<init>", "(Ljava/lang/String;)V"⟩
abbrev MN8 : MethodName := ⟨"com/example/dido/dido/keys/ConstField", "keyBytes", "()[B"⟩
abbrev MN9 : MethodName := ⟨"com/example/dido/dido/keys/KeyReader", "<init>", "([B)V"⟩
abbrev MN10 : MethodName := ⟨"com/example/dido/dido/keys/KeyReader", "<init>", "([BII)V"⟩
abbrev MN11 : MethodName := ⟨"com/example/dido/dido/keys/ConstField", "decode", "(Lcom/example/dido/dido/keys/KeyReader;)Ljava/lang/Object;"⟩
abbrev MN12 : MethodName := ⟨"com/example/dido/dido/keys/Field", "take", "(Lcom/example/dido/dido/keys/KeyReader;I)[B"⟩
abbrev MN13 : MethodName := ⟨"com/example/dido/dido/keys/KeyReader", "remaining", "()I"⟩
abbrev MN14 : MethodName := ⟨"com/example/dido/dido/keys/KeyReader", "take", "(I)[B"⟩
abbrev MN15 : MethodName := ⟨"java/util/Objects", "checkFromIndexSize", "(III)I"⟩
abbrev MN16 : MethodName := ⟨"jdk/internal/util/Preconditions", "checkFromIndexSize", "(IIILjava/util/function/BiFunction;)I"⟩
abbrev MN17 : MethodName := ⟨"java/util/Arrays", "copyOfRange", "([BII)[B"⟩
abbrev MN18 : MethodName := ⟨"java/lang/Byte", "toUnsignedInt", "(B)I"⟩
abbrev MN19 : MethodName := ⟨"java/lang/Integer", "valueOf", "(I)Ljava/lang/Integer;"⟩
abbrev MN20 : MethodName := ⟨"java/lang/Integer", "intValue", "()I"⟩
abbrev MN21 : MethodName := ⟨"java/lang/Integer", "<init>", "(I)V"⟩
abbrev MN22 : MethodName := ⟨"java/lang/Number", "<init>", "()V"⟩
def own_cacheT : Term := Term.static "java/lang/Integer$IntegerCache" "cache" "[Ljava/lang/Integer;"
def own_InC (s : State) (ca : Addr) (w : Int32) (box : Addr) : Prop := ∃ c : Cell, Arr s s.heap ca c (.object "java/lang/Integer") ∧ ¬ ((w + 128) < 0 ∨ c.slots.size ≤ (w + 128).toNatClampNeg) ∧ c.slots[(w + 128).toNatClampNeg]? = some (.ref box)
theorem own_cache {args : Array Value} {s : State} (harr : (Jvm.Cond.arrayOf own_cacheT (.object "java/lang/Integer")).value args s none s [] = some true) (hlen : (Jvm.Cond.eq (.length own_cacheT) (.int 256)).before args s = true)
    (hall : (Jvm.Cond.all own_cacheT (.and (.exactly (.elem own_cacheT (.index 0)) "java/lang/Integer") (.eq (.field (.elem own_cacheT (.index 0)) "java/lang/Integer" "value" "I") (.sub (.index 0) (.int 128))))).value args s none s [] = some true) :
    ∃ ca, own_cacheT.eval args s none [] s = some (.ref ca) ∧ ∀ w : Int32, ¬ w < -128 → ¬ 127 < w → ∃ box, own_InC s ca w box ∧ Exa s s.heap box "java/lang/Integer" ∧ Fld s s.heap box "java/lang/Integer" "value" "I" (.int w) := by
  obtain ⟨ca, eca⟩ := arr_v harr
  obtain ⟨c, A⟩ := Arr.start eca harr
  obtain ⟨hsz, hsize⟩ := Jvm.Free.IntBox.length_fwd hlen eca A.1 A.2.1 A.2.2
  have hat : s.arrayAt? ca = some c := Jvm.Free.IntBox.arrayAt_of A.1 A.2.1 A.2.2
  have hsz256 : c.slots.size = 256 := by
    have e : (c.slots.size.toInt32).toInt = c.slots.size := len_toInt hsz
    rw [hsize] at e
    have : ((256 : Int32)).toInt = 256 := by decide
    omega
  refine ⟨ca, eca, fun w h1 h2 => ?_⟩
  obtain ⟨hbnd, hlt⟩ := Jvm.Free.IntBox.place_ok w h1 h2
  have hj := Cond.all_elim eca hat hall _ (by rw [hsz256]; exact hlt)
  obtain ⟨hex, heq⟩ := and_e hj
  obtain ⟨hnn, hback⟩ := Jvm.Free.IntBox.place_nonneg _ hlt
  have evc : own_cacheT.eval args s none [(w + 128).toNatClampNeg] s = some (.ref ca) := eca
  have hltA : (w + 128).toNatClampNeg < c.slots.size := by rw [hsz256]; exact hlt
  have evE : (Term.elem own_cacheT (.index 0)).eval args s none [(w + 128).toNatClampNeg] s = c.slots[(w + 128).toNatClampNeg]? := by
    simp [Term.eval, evc, hnn, hat, hback]
  obtain ⟨box, cB, cellB, kB, heB, hcB, hcellB, hkB, hnsB, hclsB, hszB⟩ := Cond.exactly_spec (show (Jvm.Cond.exactly (.elem own_cacheT (.index 0)) "java/lang/Integer").holds args s none s [(w + 128).toNatClampNeg] = true by simp [Jvm.Cond.holds, hex])
  have hslot : c.slots[(w + 128).toNatClampNeg]? = some (.ref box) := by rw [← evE]; exact heB
  subst hclsB
  have hsub : (Term.sub (.index 0) (.int 128)).eval args s none [(w + 128).toNatClampNeg] s = some (.int w) := by
    conv => rhs; rw [← Jvm.Free.IntBox.place_val w h1 h2]
    rfl
  have hfo : s.fieldOf? box "java/lang/Integer" "value" "I" = some (.int w) := by
    rw [← fld_at heB]
    cases hv : (Term.field (.elem own_cacheT (.index 0)) "java/lang/Integer" "value" "I").eval args s none [(w + 128).toNatClampNeg] s with
    | none => simp [Jvm.Cond.value, hv] at heq
    | some v => cases v <;> simp [Jvm.Cond.value, hv, hsub] at heq ⊢; exact heq
  exact ⟨box, ⟨c, A, by rw [hsz256]; exact hbnd, hslot⟩, ⟨cellB, kB, hcellB, hcB, hkB, hnsB, hszB⟩, Fld.start hfo⟩
theorem own_v (x : Int32) : ((nar .byte ((x &&& (255 : Int32)).toInt8.toInt32)) &&& (255 : Int32)) = (x &&& (255 : Int32)) := by
  show (((x &&& (255 : Int32)).toInt8.toInt32).toInt8.toInt32 &&& (255 : Int32)) = (x &&& (255 : Int32))
  apply Int32.toInt_inj.mp
  rw [c_mask _ 255 8 (by decide) (by decide), c_mask x 255 8 (by decide) (by decide)]
  have q0 := c_mask x 255 8 (by decide) (by decide)
  have q1 := c_i2b (x &&& 255)
  have q2 := c_i2b ((x &&& 255).toInt8.toInt32)
  omega
theorem own_x0 (x : Int32) : (x ^^^ (0 : Int32)) = x := Int32.xor_zero
theorem own_bb (v : Int32) : nar .byte ((nar .byte (v.toInt8.toInt32)).toInt8.toInt32) = nar .byte (v.toInt8.toInt32) := by
  show ((v.toInt8.toInt32).toInt8.toInt32).toInt8.toInt32.toInt8.toInt32 = (v.toInt8.toInt32).toInt8.toInt32
  apply Int32.toInt_inj.mp
  have q1 := c_i2b v
  have q2 := c_i2b (v.toInt8.toInt32)
  have q3 := c_i2b ((v.toInt8.toInt32).toInt8.toInt32)
  have q4 := c_i2b (((v.toInt8.toInt32).toInt8.toInt32).toInt8.toInt32)
  omega
theorem own_lo (x : Int32) : ¬ ((x &&& (255 : Int32)) < (-128 : Int32)) := by
  have e := c_mask x 255 8 (by decide) (by decide)
  rw [Int32.lt_iff_toInt_lt]
  simp only [Int32.reduceToInt]
  omega
theorem own_nz {args : Array Value} {s : State} {t : Term} {x : Int32} (h : (Jvm.Cond.not (Jvm.Cond.eq t (.int 0))).value args s none s [] = some true) (e : t.eval args s none [] s = some (.int x)) : ¬ (x = (0 : Int32)) := by
  have q := not_v h
  simpa [Jvm.Cond.value, e, Term.eval] using q
theorem own_255 (x : Int32) : ¬ ((255 : Int32) < ((x &&& (255 : Int32)).toUInt32.toUInt16.toUInt32.toInt32)) := by
  rw [i2c_mask]
  have e := c_mask x 255 8 (by decide) (by decide)
  rw [Int32.lt_iff_toInt_lt]
  simp only [Int32.reduceToInt]
  omega
theorem d2_0 : decode jdk_43_method_3_code 0 = .ok (.iload_n 0, 1) := by decide +kernel
theorem d2_1 : decode jdk_43_method_3_code 1 = .ok (.sipush 255, 3) := by decide +kernel
theorem d2_4 : decode jdk_43_method_3_code 4 = .ok (.if_icmp .gt 7, 3) := by decide +kernel
theorem d2_7 : decode jdk_43_method_3_code 7 = .ok (.iconst 1, 1) := by decide +kernel
theorem d2_8 : decode jdk_43_method_3_code 8 = .ok (.goto 4, 3) := by decide +kernel
theorem d2_12 : decode jdk_43_method_3_code 12 = .ok (.ireturn, 1) := by decide +kernel
theorem pn_java_lang_StringLatin1 : plainName "java/lang/StringLatin1" = true := by first | (simp [plainName, overriddenIn]; done) | decide +kernel
theorem ef_rm2 (m : MethodId) (x0 : Int32) : entryFrame m #[(.int x0)] 1 = mkF m 0 #[iv x0] [] := by first | (simp [entryFrame, mkF, argsToLocals, Value.category]; done) | rfl
def Q_rm2 (Z : State) (p2_0 : Int32) (h0 : Heap) (n0 : Nat) (v : Option Value) (h : Heap) (L : List Loc) : Prop := v = some (.int (1 : Int32)) ∧ Fr n0 L ∧ h = h0
set_option maxRecDepth 65536 in
set_option maxHeartbeats 40000000 in
theorem rm2 (l : Launch) (Z : State) (a0 : Array Value) (hw : ∀ d ∈ tables_1, d.before a0 Z = true) (ws : List Jvm.Cond) (p2_0 : Int32) (h0 : Heap) (n0 : Nat) (Z0 : n0 ≤ h0.size) (hle : ¬ ((255 : Int32) < p2_0)) :
    MetFree l (⟨"java/lang/StringLatin1", "canEncode", "(C)Z"⟩ : MethodName) (head1 (Jvm.Cond.code (⟨"java/lang/StringLatin1", "canEncode", "(C)Z"⟩ : MethodName) jdk_43_method_3_code 1 (some .boolean) :: ws) ({ frames := 0, cells := 0, slots := 0, locals := 0 } : Room)) (fun a U => a = #[(.int p2_0)] ∧ Z.Warmed39 U.vm ∧ U.heap = h0) (fun _ _ _ _ _ => True) (fun _ U o U' => ∃ v L, o = .returned v ∧ Q_rm2 Z p2_0 h0 n0 v U'.heap L ∧ FrameEnd U o U' L ({ frames := 0, cells := 0, slots := 0, locals := 0 } : Room).cells ({ frames := 0, cells := 0, slots := 0, locals := 0 } : Room).slots) := by
  refine MetFree.of_bodySF (plainFor_of_name pn_java_lang_StringLatin1) hisR ?_
  intro p e s m args below meth c s₁ Bd hml0 hP hK
  obtain ⟨rfl, hZ, hh⟩ := hP
  have hx := Bd.exec
  have hby := Bd.bytes
  have hml : c.maxLocals = 1 := hml0
  have hown : s.vm.findClass "java/lang/StringLatin1" = some m.cls := findClass_of_methodNamed Bd.named
  have hnm := (name_of_methodNamed Bd.named Bd.method).1
  have X0 : Stand p l e ({ frames := 0, cells := 0, slots := 0, locals := 0 } : Room) s m #[(.int p2_0)] below meth c s₁ [] 0 0 := Stand.of_body Bd
  have e0 : s₁.heap = h0 := by rw [← hh, Bd.state]; rfl
  have N0 := Fr.nil n0
  have pre0 : ∀ t, Steps p.tables e below (s₁.setTop (mkF m 0 #[iv p2_0] [])) t → Steps p.tables e below (s₁.setTop (entryFrame m #[(.int p2_0)] 1)) t := fun t k => castTop (ef_rm2 m p2_0) k
  obtain ⟨fs, hr, hrun, hended, hW, hsame⟩ := X0.leave (v := some (.int (1 : Int32))) (fun h => by rw [Bd.returns] at h; cases h)
  refine ⟨_, _, pre0 _ ?_, hrun, hended, _, _, rfl, ?_, ⟨_, rfl⟩, hW, hsame.mono (by decide) (by decide)⟩
  · show Steps p.tables e below (s₁.setTop (mkF m 0 #[iv p2_0] [])) _
    refine XS.iloadN X0.here hx rfl (hb hby d2_0) rfl ?_
    show Steps p.tables e below (s₁.setTop (mkF m 1 #[iv p2_0] [(.int p2_0)])) _
    refine XS.sipush X0.here hx rfl (hb hby d2_1) ?_
    show Steps p.tables e below (s₁.setTop (mkF m 4 #[iv p2_0] [(.int (255 : Int32)), (.int p2_0)])) _
    refine XS.icmpNo X0.here hx rfl (hb hby d2_4) rfl (flt hle).2.2.1 ?_
    show Steps p.tables e below (s₁.setTop (mkF m 7 #[iv p2_0] [])) _
    refine XS.iconst X0.here hx rfl (hb hby d2_7) ?_
    show Steps p.tables e below (s₁.setTop (mkF m 8 #[iv p2_0] [(.int (1 : Int32))])) _
    refine XS.goto X0.here hx rfl (pc0 := 8) (pc' := 12) rfl (hb hby d2_8) (by decide) (by decide) ?_
    show Steps p.tables e below (s₁.setTop (mkF m 12 #[iv p2_0] [(.int (1 : Int32))])) _
    exact retN X0 hx (t := .boolean) Bd.returns (by simp) (hb hby d2_12) hr
  · show Q_rm2 Z _ h0 n0 _ s₁.heap _
    rw [e0]
    exact ⟨rfl, N0, rfl⟩
theorem d3_0 : decode jdk_43_method_46_code 0 = .ok (.iconst 1, 1) := by decide +kernel
theorem d3_1 : decode jdk_43_method_46_code 1 = .ok (.newarray .byte, 2) := by decide +kernel
theorem d3_3 : decode jdk_43_method_46_code 3 = .ok (.dup, 1) := by decide +kernel
theorem d3_4 : decode jdk_43_method_46_code 4 = .ok (.iconst 0, 1) := by decide +kernel
theorem d3_5 : decode jdk_43_method_46_code 5 = .ok (.iload_n 0, 1) := by decide +kernel
theorem d3_6 : decode jdk_43_method_46_code 6 = .ok (.i2b, 1) := by decide +kernel
theorem d3_7 : decode jdk_43_method_46_code 7 = .ok (.bastore, 1) := by decide +kernel
theorem d3_8 : decode jdk_43_method_46_code 8 = .ok (.areturn, 1) := by decide +kernel
theorem ef_rm3 (m : MethodId) (x0 : Int32) : entryFrame m #[(.int x0)] 1 = mkF m 0 #[iv x0] [] := by first | (simp [entryFrame, mkF, argsToLocals, Value.category]; done) | rfl
def Q_rm3 (Z : State) (p3_0 : Int32) (h0 : Heap) (n0 : Nat) (v : Option Value) (h : Heap) (L : List Loc) : Prop := ∃ (b : Addr), v = some (.ref b) ∧ Fr n0 L ∧ Keep h0 h [] ∧ (h0.size ≤ b) ∧ (Al Z h b .byte (1 : Int32))
set_option maxRecDepth 65536 in
set_option maxHeartbeats 40000000 in
theorem rm3 (l : Launch) (Z : State) (a0 : Array Value) (hw : ∀ d ∈ tables_1, d.before a0 Z = true) (ws : List Jvm.Cond) (p3_0 : Int32) (h0 : Heap) (n0 : Nat) (Z0 : n0 ≤ h0.size) :
    MetFree l (⟨"java/lang/StringLatin1", "toBytes", "(C)[B"⟩ : MethodName) (head1 (Jvm.Cond.code (⟨"java/lang/StringLatin1", "toBytes", "(C)[B"⟩ : MethodName) jdk_43_method_46_code 1 (some (.array .byte)) :: ws) ({ frames := 0, cells := 1, slots := 1, locals := 0 } : Room)) (fun a U => a = #[(.int p3_0)] ∧ Z.Warmed39 U.vm ∧ U.heap = h0) (fun _ _ _ _ _ => True) (fun _ U o U' => ∃ v L, o = .returned v ∧ Q_rm3 Z p3_0 h0 n0 v U'.heap L ∧ FrameEnd U o U' L ({ frames := 0, cells := 1, slots := 1, locals := 0 } : Room).cells ({ frames := 0, cells := 1, slots := 1, locals := 0 } : Room).slots) := by
  refine MetFree.of_bodySF (plainFor_of_name pn_java_lang_StringLatin1) hisR ?_
  intro p e s m args below meth c s₁ Bd hml0 hP hK
  obtain ⟨rfl, hZ, hh⟩ := hP
  have hx := Bd.exec
  have hby := Bd.bytes
  have hml : c.maxLocals = 1 := hml0
  have hown : s.vm.findClass "java/lang/StringLatin1" = some m.cls := findClass_of_methodNamed Bd.named
  have hnm := (name_of_methodNamed Bd.named Bd.method).1
  have X0 : Stand p l e ({ frames := 0, cells := 1, slots := 1, locals := 0 } : Room) s m #[(.int p3_0)] below meth c s₁ [] 0 0 := Stand.of_body Bd
  have e0 : s₁.heap = h0 := by rw [← hh, Bd.state]; rfl
  have N0 := Fr.nil n0
  have pre0 : ∀ t, Steps p.tables e below (s₁.setTop (mkF m 0 #[iv p3_0] [])) t → Steps p.tables e below (s₁.setTop (entryFrame m #[(.int p3_0)] 1)) t := fun t k => castTop (ef_rm3 m p3_0) k
  have wo14 := hw _ (List.mem_of_getElem? (i := 14) rfl)
  obtain ⟨T1, h1, k1, X1, e1, E1, A1, B1, st1⟩ := newPE (aty := .byte) X0 hx hZ wo14 e0 (g := (mkF m 1 #[iv p3_0] [(.int (1 : Int32))])) rfl (hb hby d3_1) rfl (by decide) (cap := 1) (by decide) (by decide) (by decide) (by decide) (ad := "[B") (by decide)
  obtain ⟨b1, gg1⟩ : ∃ z, z = h0.size := ⟨_, rfl⟩
  rw [← gg1] at A1 st1 B1
  have g2 : n0 ≤ b1 := Nat.le_trans Z0 (Nat.le_of_eq gg1.symm)
  have bz3 : h0.size ≤ b1 := Nat.le_trans (Keep.refl h0 []).1 (Nat.le_of_eq gg1.symm)
  have K5 : Keep h0 h1 [] := (Keep.refl h0 []).ext E1
  have f4 : Av Z h1 b1 .byte (1 : Int32) [(.int (0 : Int32))] (.int (0 : Int32)) := ⟨_, (Arv.new A1 (by decide)).pad (pad_rep [] (.int (0 : Int32)) 1)⟩
  obtain ⟨kk6, cl6, Ar6, qq6, Sz6, Nn6, Hs6, Gf6⟩ := id f4
  have hin7 : ¬ ((0 : Int32) < 0 ∨ cl6.slots.size ≤ ((0 : Int32)).toNatClampNeg) := inb_of Sz6 ⟨by decide, by decide⟩
  obtain ⟨T8, h8, X8, e8, W8, st8⟩ := stB X1 hx hZ e1 Ar6 (j := (0 : Int32)) hin7 (g := (mkF m 7 #[iv p3_0] [(.int (p3_0.toInt8.toInt32)), (.int (0 : Int32)), (.ref b1), (.ref b1)])) rfl rfl (hb hby d3_7)
  have K9 : Keep h0 h8 [] := (K5).wr W8 (Or.inr bz3)
  have f10 : Av Z h8 b1 .byte (1 : Int32) [(.int (nar .byte (p3_0.toInt8.toInt32)))] (.int (0 : Int32)) := ⟨_, Arv.set Ar6 qq6 Sz6 Nn6 Hs6 Gf6 (by first | rfl | exact fits_nar_byte _) W8 0 rfl (Nat.le_of_ble_eq_true rfl)⟩
  have N11 := Fr.snoc X8 N0 g2
  obtain ⟨fs, hr, hrun, hended, hW, hsame⟩ := X8.leave (v := some (.ref b1)) (fun h => by rw [Bd.returns] at h; cases h)
  refine ⟨_, _, pre0 _ ?_, hrun, hended, _, _, rfl, ?_, ⟨_, rfl⟩, hW, hsame.mono (by decide) (by decide)⟩
  · show Steps p.tables e below (s₁.setTop (mkF m 0 #[iv p3_0] [])) _
    refine XS.iconst X0.here hx rfl (hb hby d3_0) ?_
    show Steps p.tables e below (s₁.setTop (mkF m 1 #[iv p3_0] [(.int (1 : Int32))])) _
    refine st1 _ ?_
    show Steps p.tables e below (T1.setTop (mkF m 3 #[iv p3_0] [(.ref b1)])) _
    refine XS.dup X1.here hx rfl (hb hby d3_3) rfl rfl ?_
    show Steps p.tables e below (T1.setTop (mkF m 4 #[iv p3_0] [(.ref b1), (.ref b1)])) _
    refine XS.iconst X1.here hx rfl (hb hby d3_4) ?_
    show Steps p.tables e below (T1.setTop (mkF m 5 #[iv p3_0] [(.int (0 : Int32)), (.ref b1), (.ref b1)])) _
    refine XS.iloadN X1.here hx rfl (hb hby d3_5) rfl ?_
    show Steps p.tables e below (T1.setTop (mkF m 6 #[iv p3_0] [(.int p3_0), (.int (0 : Int32)), (.ref b1), (.ref b1)])) _
    refine XS.i2b X1.here hx rfl (hb hby d3_6) rfl ?_
    show Steps p.tables e below (T1.setTop (mkF m 7 #[iv p3_0] [(.int (p3_0.toInt8.toInt32)), (.int (0 : Int32)), (.ref b1), (.ref b1)])) _
    refine st8 _ ?_
    show Steps p.tables e below (T8.setTop (mkF m 8 #[iv p3_0] [(.ref b1)])) _
    exact retOut X8 hx Bd.returns rfl (Or.inr (Or.inr (Or.inr (Or.inr ⟨rfl, rfl, rfl⟩)))) (hb hby d3_8) hr
  · show Q_rm3 Z _ h0 n0 _ T8.heap _
    rw [e8]
    exact ⟨b1, rfl, N11, (K9), bz3, f10.al⟩
theorem d4_0 : decode jdk_42_method_151_code 0 = .ok (.aload_n 0, 1) := by decide +kernel
theorem d4_1 : decode jdk_42_method_151_code 1 = .ok (.invokespecial 1, 3) := by decide +kernel
theorem d4_4 : decode jdk_42_method_151_code 4 = .ok (.aload_n 0, 1) := by decide +kernel
theorem d4_5 : decode jdk_42_method_151_code 5 = .ok (.aload_n 1, 1) := by decide +kernel
theorem d4_6 : decode jdk_42_method_151_code 6 = .ok (.putfield 9, 3) := by decide +kernel
theorem d4_9 : decode jdk_42_method_151_code 9 = .ok (.aload_n 0, 1) := by decide +kernel
theorem d4_10 : decode jdk_42_method_151_code 10 = .ok (.iload_n 2, 1) := by decide +kernel
theorem d4_11 : decode jdk_42_method_151_code 11 = .ok (.putfield 15, 3) := by decide +kernel
theorem d4_14 : decode jdk_42_method_151_code 14 = .ok (.return_, 1) := by decide +kernel
theorem pn_java_lang_String : plainName "java/lang/String" = true := by first | (simp [plainName, overriddenIn]; done) | decide +kernel
theorem ef_rm4 (m : MethodId) (x0 : Addr) (x1 : Addr) (x2 : Int32) : entryFrame m #[(.ref x0), (.ref x1), (.int x2)] 3 = mkF m 0 #[rv x0, rv x1, iv x2] [] := by first | (simp [entryFrame, mkF, argsToLocals, Value.category]; done) | rfl
def Q_rm4 (Z : State) (a4_0 : Addr) (bs : Addr) (h0 : Heap) (n0 : Nat) (v : Option Value) (h : Heap) (L : List Loc) : Prop := v = none ∧ Fr n0 L ∧ Keep h0 h [a4_0] ∧ (Fld Z h a4_0 "java/lang/String" "value" "[B" (.ref bs)) ∧ (Fld Z h a4_0 "java/lang/String" "coder" "B" (.int (0 : Int32)))
set_option maxRecDepth 65536 in
set_option maxHeartbeats 40000000 in
theorem rm4 (l : Launch) (Z : State) (a0 : Array Value) (hw : ∀ d ∈ tables_1, d.before a0 Z = true) (ws : List Jvm.Cond) (a4_0 : Addr) (bs : Addr) (h0 : Heap) (n0 : Nat) (Z0 : n0 ≤ h0.size) (pf_E_a4_0 : Exa Z h0 a4_0 "java/lang/String") (pf_G_a4_0 : n0 ≤ a4_0) (pf_F_a4_0_value : Fld Z h0 a4_0 "java/lang/String" "value" "[B" .null) (pf_F_a4_0_coder : Fld Z h0 a4_0 "java/lang/String" "coder" "B" (.int (0 : Int32))) :
    MetFree l (⟨"java/lang/String", "<init>", "([BB)V"⟩ : MethodName) (head1 (Jvm.Cond.code (⟨"java/lang/String", "<init>", "([BB)V"⟩ : MethodName) jdk_42_method_151_code 3 none :: ws) ({ frames := 1, cells := 0, slots := 0, locals := 12 } : Room)) (fun a U => a = #[(.ref a4_0), (.ref bs), (.int (0 : Int32))] ∧ Z.Warmed39 U.vm ∧ U.heap = h0) (fun _ _ _ _ _ => True) (fun _ U o U' => ∃ v L, o = .returned v ∧ Q_rm4 Z a4_0 bs h0 n0 v U'.heap L ∧ FrameEnd U o U' L ({ frames := 1, cells := 0, slots := 0, locals := 12 } : Room).cells ({ frames := 1, cells := 0, slots := 0, locals := 12 } : Room).slots) := by
  refine MetFree.of_bodySF (plainFor_of_name pn_java_lang_String) hisR ?_
  intro p e s m args below meth c s₁ Bd hml0 hP hK
  obtain ⟨rfl, hZ, hh⟩ := hP
  have hx := Bd.exec
  have hby := Bd.bytes
  have hml : c.maxLocals = 3 := hml0
  have hown : s.vm.findClass "java/lang/String" = some m.cls := findClass_of_methodNamed Bd.named
  have hnm := (name_of_methodNamed Bd.named Bd.method).1
  have X0 : Stand p l e ({ frames := 1, cells := 0, slots := 0, locals := 12 } : Room) s m #[(.ref a4_0), (.ref bs), (.int (0 : Int32))] below meth c s₁ [] 0 0 := Stand.of_body Bd
  have e0 : s₁.heap = h0 := by rw [← hh, Bd.state]; rfl
  have N0 := Fr.nil n0
  have pre0 : ∀ t, Steps p.tables e below (s₁.setTop (mkF m 0 #[rv a4_0, rv bs, iv (0 : Int32)] [])) t → Steps p.tables e below (s₁.setTop (entryFrame m #[(.ref a4_0), (.ref bs), (.int (0 : Int32))] 3)) t := fun t k => castTop (ef_rm4 m a4_0 bs (0 : Int32)) k
  have wo10 := hw _ (List.mem_of_getElem? (i := 10) rfl)
  have wo19 := hw _ (List.mem_of_getElem? (i := 19) rfl)
  have wo20 := hw _ (List.mem_of_getElem? (i := 20) rfl)
  have wo21 := hw _ (List.mem_of_getElem? (i := 21) rfl)
  have wo22 := hw _ (List.mem_of_getElem? (i := 22) rfl)
  have wo23 := hw _ (List.mem_of_getElem? (i := 23) rfl)
  have wo24 := hw _ (List.mem_of_getElem? (i := 24) rfl)
  have wo25 := hw _ (List.mem_of_getElem? (i := 25) rfl)
  obtain ⟨T1, X1, e1, st1⟩ := initO X0 hx hZ hown wo19 wo20 wo21 e0 (g := (mkF m 1 #[rv a4_0, rv bs, iv (0 : Int32)] [(.ref a4_0)])) rfl (by rw [hml]; rfl) rfl (hb hby d4_1) (by decide) (W := 0) (by show 2 * 0 + _ ≤ _; exact Nat.le_of_eq rfl) (by decide)
  obtain ⟨T2, h2, X2, e2, W2, st2⟩ := putF X1 hx hZ hown (host := "") (Or.inl wo22) Via.refl e1 pf_F_a4_0_value pf_E_a4_0 (Or.inr ⟨wo23, rfl, hnm⟩) wo10 (ty := (.array .byte)) (by decide) rfl rfl (g := (mkF m 6 #[rv a4_0, rv bs, iv (0 : Int32)] [(.ref bs), (.ref a4_0)])) rfl rfl (hb hby d4_6)
  have K3 : Keep h0 h2 [a4_0] := (Keep.refl h0 [a4_0]).wr W2 (Or.inl (List.mem_of_getElem? (i := 0) rfl))
  have f4 : Fld Z h2 a4_0 "java/lang/String" "value" "[B" (.ref bs) := pf_F_a4_0_value.same W2
  have N5 := Fr.snoc X2 N0 pf_G_a4_0
  have f6 := (pf_F_a4_0_coder.other W2 (Or.inr (slot_ne (Or.inr wo25) (Or.inr wo23) (by decide) (t := .byte) (t' := (.array .byte)) (by decide) (by decide))))
  have f7 := (pf_E_a4_0.wr W2)
  obtain ⟨T8, h8, X8, e8, W8, st8⟩ := putFN X2 hx hZ hown wo24 Via.refl e2 f6 f7 (Or.inr ⟨wo25, rfl, hnm⟩) wo10 (ty := .byte) (v' := (.int (0 : Int32))) (by decide) rfl (by first | rfl | exact fits_nar_byte _) (g := (mkF m 11 #[rv a4_0, rv bs, iv (0 : Int32)] [(.int (0 : Int32)), (.ref a4_0)])) rfl rfl (hb hby d4_11)
  have K9 : Keep h0 h8 [a4_0] := (K3).wr W8 (Or.inl (List.mem_of_getElem? (i := 0) rfl))
  have f10 : Fld Z h8 a4_0 "java/lang/String" "coder" "B" (.int (0 : Int32)) := f6.same W8
  have N11 := Fr.snoc X8 N5 pf_G_a4_0
  have f12 := (f4.other W8 (Or.inr (slot_ne (Or.inr wo23) (Or.inr wo25) (by decide) (t := (.array .byte)) (t' := .byte) (by decide) (by decide))))
  obtain ⟨fs, hr, hrun, hended, hW, hsame⟩ := X8.leave (v := none) (fun _ => rfl)
  refine ⟨_, _, pre0 _ ?_, hrun, hended, _, _, rfl, ?_, ⟨_, rfl⟩, hW, hsame.mono (by decide) (by decide)⟩
  · show Steps p.tables e below (s₁.setTop (mkF m 0 #[rv a4_0, rv bs, iv (0 : Int32)] [])) _
    refine XS.aloadN X0.here hx rfl (hb hby d4_0) rfl rfl ?_
    show Steps p.tables e below (s₁.setTop (mkF m 1 #[rv a4_0, rv bs, iv (0 : Int32)] [(.ref a4_0)])) _
    refine st1 _ ?_
    show Steps p.tables e below (T1.setTop (mkF m 4 #[rv a4_0, rv bs, iv (0 : Int32)] [])) _
    refine XS.aloadN X1.here hx rfl (hb hby d4_4) rfl rfl ?_
    show Steps p.tables e below (T1.setTop (mkF m 5 #[rv a4_0, rv bs, iv (0 : Int32)] [(.ref a4_0)])) _
    refine XS.aloadN X1.here hx rfl (hb hby d4_5) rfl rfl ?_
    show Steps p.tables e below (T1.setTop (mkF m 6 #[rv a4_0, rv bs, iv (0 : Int32)] [(.ref bs), (.ref a4_0)])) _
    refine st2 _ ?_
    show Steps p.tables e below (T2.setTop (mkF m 9 #[rv a4_0, rv bs, iv (0 : Int32)] [])) _
    refine XS.aloadN X2.here hx rfl (hb hby d4_9) rfl rfl ?_
    show Steps p.tables e below (T2.setTop (mkF m 10 #[rv a4_0, rv bs, iv (0 : Int32)] [(.ref a4_0)])) _
    refine XS.iloadN X2.here hx rfl (hb hby d4_10) rfl ?_
    show Steps p.tables e below (T2.setTop (mkF m 11 #[rv a4_0, rv bs, iv (0 : Int32)] [(.int (0 : Int32)), (.ref a4_0)])) _
    refine st8 _ ?_
    show Steps p.tables e below (T8.setTop (mkF m 14 #[rv a4_0, rv bs, iv (0 : Int32)] [])) _
    exact X8.returnOut hx Bd.returns (hb hby d4_14) hr
  · show Q_rm4 Z _ _ h0 n0 _ T8.heap _
    rw [e8]
    exact ⟨rfl, N11, (K9), f12, f10⟩
theorem d1_0 : decode jdk_42_method_139_code 0 = .ok (.getstatic 38, 3) := by decide +kernel
theorem d1_3 : decode jdk_42_method_139_code 3 = .ok (.ifCond .eq 23, 3) := by decide +kernel
theorem d1_6 : decode jdk_42_method_139_code 6 = .ok (.iload_n 0, 1) := by decide +kernel
theorem pd_6 : parseMethodDescriptor "(C)Z" = some ⟨[.char], some .boolean⟩ := by decide +kernel
theorem d1_7 : decode jdk_42_method_139_code 7 = .ok (.invokestatic 1015, 3) := by decide +kernel
theorem d1_10 : decode jdk_42_method_139_code 10 = .ok (.ifCond .eq 16, 3) := by decide +kernel
theorem d1_13 : decode jdk_42_method_139_code 13 = .ok (.new 10, 3) := by decide +kernel
theorem d1_16 : decode jdk_42_method_139_code 16 = .ok (.dup, 1) := by decide +kernel
theorem d1_17 : decode jdk_42_method_139_code 17 = .ok (.iload_n 0, 1) := by decide +kernel
theorem pd_7 : parseMethodDescriptor "(C)[B" = some ⟨[.char], some (.array .byte)⟩ := by decide +kernel
theorem d1_18 : decode jdk_42_method_139_code 18 = .ok (.invokestatic 1018, 3) := by decide +kernel
theorem d1_21 : decode jdk_42_method_139_code 21 = .ok (.iconst 0, 1) := by decide +kernel
theorem pd_18 : parseMethodDescriptor "([BB)V" = some ⟨[(.array .byte), .byte], none⟩ := by decide +kernel
theorem d1_22 : decode jdk_42_method_139_code 22 = .ok (.invokespecial 209, 3) := by decide +kernel
theorem d1_25 : decode jdk_42_method_139_code 25 = .ok (.areturn, 1) := by decide +kernel
theorem ef_rm1 (m : MethodId) (x0 : Int32) : entryFrame m #[(.int x0)] 1 = mkF m 0 #[iv x0] [] := by first | (simp [entryFrame, mkF, argsToLocals, Value.category]; done) | rfl
def Q_rm1 (Z : State) (ch : Int32) (cs : Int32) (h0 : Heap) (n0 : Nat) (v : Option Value) (h : Heap) (L : List Loc) : Prop := ∃ (b : Addr), v = some (.ref b) ∧ Fr n0 L ∧ Keep h0 h [] ∧ (h0.size ≤ b) ∧ (Exa Z h b "java/lang/String")
set_option maxRecDepth 65536 in
set_option maxHeartbeats 40000000 in
theorem rm1 (l : Launch) (Z : State) (a0 : Array Value) (hw : ∀ d ∈ tables_1, d.before a0 Z = true) (ws : List Jvm.Cond) (ch : Int32) (cs : Int32) (h0 : Heap) (n0 : Nat) (Z0 : n0 ≤ h0.size) (pf_O : Old Z n0 h0) (pf_S_java_lang_String_COMPACT_STRINGS : Sta Z Z.heap "java/lang/String" "COMPACT_STRINGS" "Z" (.int cs)) (hcs : ¬ (cs = (0 : Int32))) (hle : ¬ ((255 : Int32) < ch)) :
    MetFree l (⟨"java/lang/String", "valueOf", "(C)Ljava/lang/String;"⟩ : MethodName) (head1 (Jvm.Cond.code (⟨"java/lang/String", "valueOf", "(C)Ljava/lang/String;"⟩ : MethodName) jdk_42_method_139_code 1 (some (.object "java/lang/String")) :: ws) ({ frames := 2, cells := 2, slots := 5, locals := 27 } : Room)) (fun a U => a = #[(.int ch)] ∧ Z.Warmed39 U.vm ∧ U.heap = h0) (fun _ _ _ _ _ => True) (fun _ U o U' => ∃ v L, o = .returned v ∧ Q_rm1 Z ch cs h0 n0 v U'.heap L ∧ FrameEnd U o U' L ({ frames := 2, cells := 2, slots := 5, locals := 27 } : Room).cells ({ frames := 2, cells := 2, slots := 5, locals := 27 } : Room).slots) := by
  refine MetFree.of_bodySF (plainFor_of_name pn_java_lang_String) hisR ?_
  intro p e s m args below meth c s₁ Bd hml0 hP hK
  obtain ⟨rfl, hZ, hh⟩ := hP
  have hx := Bd.exec
  have hby := Bd.bytes
  have hml : c.maxLocals = 1 := hml0
  have hown : s.vm.findClass "java/lang/String" = some m.cls := findClass_of_methodNamed Bd.named
  have hnm := (name_of_methodNamed Bd.named Bd.method).1
  have X0 : Stand p l e ({ frames := 2, cells := 2, slots := 5, locals := 27 } : Room) s m #[(.int ch)] below meth c s₁ [] 0 0 := Stand.of_body Bd
  have e0 : s₁.heap = h0 := by rw [← hh, Bd.state]; rfl
  have N0 := Fr.nil n0
  have pre0 : ∀ t, Steps p.tables e below (s₁.setTop (mkF m 0 #[iv ch] [])) t → Steps p.tables e below (s₁.setTop (entryFrame m #[(.int ch)] 1)) t := fun t k => castTop (ef_rm1 m ch) k
  have wo2 := hw _ (List.mem_of_getElem? (i := 2) rfl)
  have wo4 := hw _ (List.mem_of_getElem? (i := 4) rfl)
  have wo5 := hw _ (List.mem_of_getElem? (i := 5) rfl)
  have wo6 := hw _ (List.mem_of_getElem? (i := 6) rfl)
  have wo7 := hw _ (List.mem_of_getElem? (i := 7) rfl)
  have wo8 := hw _ (List.mem_of_getElem? (i := 8) rfl)
  have wo9 := hw _ (List.mem_of_getElem? (i := 9) rfl)
  have wo10 := hw _ (List.mem_of_getElem? (i := 10) rfl)
  have wo11 := hw _ (List.mem_of_getElem? (i := 11) rfl)
  have wo12 := hw _ (List.mem_of_getElem? (i := 12) rfl)
  have wo13 := hw _ (List.mem_of_getElem? (i := 13) rfl)
  have wo15 := hw _ (List.mem_of_getElem? (i := 15) rfl)
  have wo16 := hw _ (List.mem_of_getElem? (i := 16) rfl)
  have wo18 := hw _ (List.mem_of_getElem? (i := 18) rfl)
  have wo23 := hw _ (List.mem_of_getElem? (i := 23) rfl)
  have wo25 := hw _ (List.mem_of_getElem? (i := 25) rfl)
  obtain ⟨T1, X1, e1, st1⟩ := getS2 X0 hx hZ hown (host := "") (Or.inl wo4) Via.refl e0 (pf_S_java_lang_String_COMPACT_STRINGS.ext pf_O.2) (g := (mkF m 0 #[iv ch] [])) rfl (hb hby d1_0)
  obtain ⟨_, _, ⟨T2, L2, k2, n2⟩, -, X2, ⟨Lc2, hQ2, l2, y2, z2⟩, st2⟩ := Jvm.LawKit.callS X1 hx (y := MN2) hown (mvT hZ wo5) (mvT hZ wo6) (mvT hZ wo7) (mvT hZ wo8) (by decide) (backOf (W := 0) (rm2 l Z a0 hw [] ch h0 n0 Z0 (hle : ¬ ((255 : Int32) < ch))) hZ wo8 wo7 (by decide) (by decide)) (g := (mkF m 7 #[iv ch] [(.int ch)])) rfl (by rw [hml]; rfl) (argsL := [(.int ch)]) (rest := []) (lenOf pd_6 rfl) rfl (by show 2 * 0 + _ ≤ _; exact Nat.le_of_eq rfl) (hb hby d1_7) (fun _ _ => ⟨rfl, e1, (by decide : 0 + 0 ≤ _), (by decide : 0 + 0 ≤ _)⟩)
  dsimp only [Pt.U, Pt.locs, Pt.cells, Pt.slots] at X2 l2 y2 z2 st2 hQ2
  subst l2 y2 z2
  obtain ⟨rfl, N2q, K2q⟩ := hQ2
  have N3 := Fr.app N0 N2q
  obtain ⟨T4, h4, X4, e4, E4, A4, D4, -, st4⟩ := newO X2 hx hZ hown wo9 wo10 wo2 K2q (g := (mkF m 13 #[iv ch] [])) rfl (hb hby d1_13) (by decide) (by decide)
  obtain ⟨b4, gg4⟩ : ∃ z, z = h0.size := ⟨_, rfl⟩
  rw [← gg4] at A4 D4 st4
  have g5 : n0 ≤ b4 := Nat.le_trans Z0 (Nat.le_of_eq gg4.symm)
  have bz6 : h0.size ≤ b4 := Nat.le_trans (Keep.refl h0 []).1 (Nat.le_of_eq gg4.symm)
  have K7 : Keep h0 h4 [] := (Keep.refl h0 []).ext E4
  have f8 : Fld Z h4 b4 "java/lang/String" "value" "[B" .null := D4 (Or.inr wo23) (ty := (.array .byte)) (by decide)
  have f9 : Fld Z h4 b4 "java/lang/String" "coder" "B" (.int (0 : Int32)) := D4 (Or.inr wo25) (ty := .byte) (by decide)
  have f11 := (Nat.le_trans Z0 E4.1)
  obtain ⟨_, _, ⟨T10, L10, k10, n10⟩, -, X10, ⟨Lc10, hQ10, l10, y10, z10⟩, st10⟩ := Jvm.LawKit.callS X4 hx (y := MN3) hown (mvT hZ wo11) (mvT hZ wo12) (mvT hZ wo7) (mvT hZ wo13) (by decide) (backOf (W := 2) (rm3 l Z a0 hw [] ch h4 n0 f11 ) hZ wo13 wo7 (by decide) (by decide)) (g := (mkF m 18 #[iv ch] [(.int ch), (.ref b4), (.ref b4)])) rfl (by rw [hml]; rfl) (argsL := [(.int ch)]) (rest := [(.ref b4), (.ref b4)]) (lenOf pd_7 rfl) rfl (by show 2 * 0 + _ ≤ _; exact Nat.le_of_eq rfl) (hb hby d1_18) (fun _ _ => ⟨rfl, e4, (by decide : 1 + 1 ≤ _), (by decide : 4 + 1 ≤ _)⟩)
  dsimp only [Pt.U, Pt.locs, Pt.cells, Pt.slots] at X10 l10 y10 z10 st10 hQ10
  subst l10 y10 z10
  obtain ⟨b_10, rfl, N10q, K10q, hq10_0, hq10_1⟩ := hQ10
  have N12 := Fr.app N3 N10q
  have ne13 : b4 ≠ b_10 := Nat.ne_of_lt (Nat.lt_of_lt_of_le A4.lt hq10_0)
  have g14 : n0 ≤ b_10 := Nat.le_trans f11 hq10_0
  have bz15 : h0.size ≤ b_10 := Nat.le_trans (K7).1 hq10_0
  have K16 : Keep h0 T10.heap [] := (K7).trans K10q all0
  have f17 := (A4.keep K10q)
  have f18 := (f8.keep K10q nin0)
  have f19 := (f9.keep K10q nin0)
  have f21 := (Nat.le_trans f11 K10q.1)
  obtain ⟨_, _, ⟨T20, L20, k20, n20⟩, -, X20, ⟨Lc20, hQ20, l20, y20, z20⟩, st20⟩ := X10.specialBack hx (y := MN4) rfl hown (mvT hZ wo15) (mvT hZ wo16) (mvT hZ wo18) (by decide) (backOf (W := 1) (rm4 l Z a0 hw [] b4 b_10 (T10.heap) n0 f21 f17 g5 f18 f19) hZ wo18 wo2 (by decide) (by decide)) (g := (mkF m 22 #[iv ch] [(.int (0 : Int32)), (.ref b_10), (.ref b4), (.ref b4)])) rfl (by rw [hml]; rfl) (Steps.refl _) (a := b4) (argsL := [(.ref b_10), (.int (0 : Int32))]) (rest := [(.ref b4)]) (lenOf pd_18 rfl) rfl (by show 2 * 0 + _ ≤ _; exact Nat.le_of_eq rfl) (hb hby d1_22) (fun _ _ => ⟨rfl, rfl, (by decide : 2 + 0 ≤ _), (by decide : 5 + 0 ≤ _)⟩)
  dsimp only [Pt.U, Pt.locs, Pt.cells, Pt.slots] at X20 l20 y20 z20 st20 hQ20
  subst l20 y20 z20
  obtain ⟨rfl, N20q, K20q, hq20_0, hq20_1⟩ := hQ20
  have N22 := Fr.app N12 N20q
  have K23 : Keep h0 T20.heap [] := (K16).trans K20q (allS (P := fun x => x ∈ [] ∨ h0.size ≤ x) (Or.inr bz6) all0)
  have f24 := (f17.keep K20q)
  obtain ⟨fs, hr, hrun, hended, hW, hsame⟩ := X20.leave (v := some (.ref b4)) (fun h => by rw [Bd.returns] at h; cases h)
  refine ⟨_, _, pre0 _ ?_, hrun, hended, _, _, rfl, ?_, ⟨_, rfl⟩, hW, hsame.mono (by decide) (by decide)⟩
  · show Steps p.tables e below (s₁.setTop (mkF m 0 #[iv ch] [])) _
    refine st1 _ ?_
    show Steps p.tables e below (T1.setTop (mkF m 3 #[iv ch] [(.int cs)])) _
    refine XS.ifNo X1.here hx rfl (hb hby d1_3) rfl ((if0 _ _).trans (feq hcs).1) ?_
    show Steps p.tables e below (T1.setTop (mkF m 6 #[iv ch] [])) _
    refine XS.iloadN X1.here hx rfl (hb hby d1_6) rfl ?_
    show Steps p.tables e below (T1.setTop (mkF m 7 #[iv ch] [(.int ch)])) _
    refine st2 _ ?_
    show Steps p.tables e below (T2.setTop (mkF m 10 #[iv ch] [(.int (1 : Int32))])) _
    refine XS.ifNo X2.here hx rfl (hb hby d1_10) rfl ((if0 _ _).trans (feq (by decide : ¬ ((1 : Int32) = (0 : Int32)))).1) ?_
    show Steps p.tables e below (T2.setTop (mkF m 13 #[iv ch] [])) _
    refine st4 _ ?_
    show Steps p.tables e below (T4.setTop (mkF m 16 #[iv ch] [(.ref b4)])) _
    refine XS.dup X4.here hx rfl (hb hby d1_16) rfl rfl ?_
    show Steps p.tables e below (T4.setTop (mkF m 17 #[iv ch] [(.ref b4), (.ref b4)])) _
    refine XS.iloadN X4.here hx rfl (hb hby d1_17) rfl ?_
    show Steps p.tables e below (T4.setTop (mkF m 18 #[iv ch] [(.int ch), (.ref b4), (.ref b4)])) _
    refine st10 _ ?_
    show Steps p.tables e below (T10.setTop (mkF m 21 #[iv ch] [(.ref b_10), (.ref b4), (.ref b4)])) _
    refine XS.iconst X10.here hx rfl (hb hby d1_21) ?_
    show Steps p.tables e below (T10.setTop (mkF m 22 #[iv ch] [(.int (0 : Int32)), (.ref b_10), (.ref b4), (.ref b4)])) _
    refine st20.trans ?_
    show Steps p.tables e below (T20.setTop (mkF m 25 #[iv ch] [(.ref b4)])) _
    exact retOut X20 hx Bd.returns rfl (Or.inr (Or.inr (Or.inr (Or.inr ⟨rfl, rfl, rfl⟩)))) (hb hby d1_25) hr
  · show Q_rm1 Z _ _ h0 n0 _ T20.heap _
    exact ⟨b4, rfl, N22, (K23), bz6, f24⟩
theorem own_eqv {args : Array Value} {s : State} {t : Term} {k : Int32} (h : (Jvm.Cond.eq t (.int k)).value args s none s [] = some true) : t.eval args s none [] s = some (.int k) := by
  cases ht : t.eval args s none [] s with
  | none => simp [Jvm.Cond.value, ht] at h
  | some v => cases v <;> simp [Jvm.Cond.value, ht, Term.eval] at h ⊢; exact h
theorem d18_0 : decode jdk_2056_method_24_code 0 = .ok (.iload_n 0, 1) := by decide +kernel
theorem d18_1 : decode jdk_2056_method_24_code 1 = .ok (.sipush 255, 3) := by decide +kernel
theorem d18_4 : decode jdk_2056_method_24_code 4 = .ok (.iand, 1) := by decide +kernel
theorem d18_5 : decode jdk_2056_method_24_code 5 = .ok (.ireturn, 1) := by decide +kernel
theorem pn_java_lang_Byte : plainName "java/lang/Byte" = true := by first | (simp [plainName, overriddenIn]; done) | decide +kernel
theorem ef_rm18 (m : MethodId) (x0 : Int32) : entryFrame m #[(.int x0)] 1 = mkF m 0 #[iv x0] [] := by first | (simp [entryFrame, mkF, argsToLocals, Value.category]; done) | rfl
def Q_rm18 (Z : State) (p18_0 : Int32) (h0 : Heap) (n0 : Nat) (v : Option Value) (h : Heap) (L : List Loc) : Prop := v = some (.int (p18_0 &&& (255 : Int32))) ∧ Fr n0 L ∧ h = h0
set_option maxRecDepth 65536 in
set_option maxHeartbeats 40000000 in
theorem rm18 (l : Launch) (Z : State) (a0 : Array Value) (hw : ∀ d ∈ tables_1, d.before a0 Z = true) (ws : List Jvm.Cond) (p18_0 : Int32) (h0 : Heap) (n0 : Nat) (Z0 : n0 ≤ h0.size) :
    MetFree l (⟨"java/lang/Byte", "toUnsignedInt", "(B)I"⟩ : MethodName) (head1 (Jvm.Cond.code (⟨"java/lang/Byte", "toUnsignedInt", "(B)I"⟩ : MethodName) jdk_2056_method_24_code 1 (some .int) :: ws) ({ frames := 0, cells := 0, slots := 0, locals := 0 } : Room)) (fun a U => a = #[(.int p18_0)] ∧ Z.Warmed39 U.vm ∧ U.heap = h0) (fun _ _ _ _ _ => True) (fun _ U o U' => ∃ v L, o = .returned v ∧ Q_rm18 Z p18_0 h0 n0 v U'.heap L ∧ FrameEnd U o U' L ({ frames := 0, cells := 0, slots := 0, locals := 0 } : Room).cells ({ frames := 0, cells := 0, slots := 0, locals := 0 } : Room).slots) := by
  refine MetFree.of_bodySF (plainFor_of_name pn_java_lang_Byte) hisR ?_
  intro p e s m args below meth c s₁ Bd hml0 hP hK
  obtain ⟨rfl, hZ, hh⟩ := hP
  have hx := Bd.exec
  have hby := Bd.bytes
  have hml : c.maxLocals = 1 := hml0
  have hown : s.vm.findClass "java/lang/Byte" = some m.cls := findClass_of_methodNamed Bd.named
  have hnm := (name_of_methodNamed Bd.named Bd.method).1
  have X0 : Stand p l e ({ frames := 0, cells := 0, slots := 0, locals := 0 } : Room) s m #[(.int p18_0)] below meth c s₁ [] 0 0 := Stand.of_body Bd
  have e0 : s₁.heap = h0 := by rw [← hh, Bd.state]; rfl
  have N0 := Fr.nil n0
  have pre0 : ∀ t, Steps p.tables e below (s₁.setTop (mkF m 0 #[iv p18_0] [])) t → Steps p.tables e below (s₁.setTop (entryFrame m #[(.int p18_0)] 1)) t := fun t k => castTop (ef_rm18 m p18_0) k
  obtain ⟨fs, hr, hrun, hended, hW, hsame⟩ := X0.leave (v := some (.int (p18_0 &&& (255 : Int32)))) (fun h => by rw [Bd.returns] at h; cases h)
  refine ⟨_, _, pre0 _ ?_, hrun, hended, _, _, rfl, ?_, ⟨_, rfl⟩, hW, hsame.mono (by decide) (by decide)⟩
  · show Steps p.tables e below (s₁.setTop (mkF m 0 #[iv p18_0] [])) _
    refine XS.iloadN X0.here hx rfl (hb hby d18_0) rfl ?_
    show Steps p.tables e below (s₁.setTop (mkF m 1 #[iv p18_0] [(.int p18_0)])) _
    refine XS.sipush X0.here hx rfl (hb hby d18_1) ?_
    show Steps p.tables e below (s₁.setTop (mkF m 4 #[iv p18_0] [(.int (255 : Int32)), (.int p18_0)])) _
    refine XS.iand X0.here hx rfl (hb hby d18_4) rfl ?_
    show Steps p.tables e below (s₁.setTop (mkF m 5 #[iv p18_0] [(.int (p18_0 &&& (255 : Int32)))])) _
    exact retI X0 hx Bd.returns (hb hby d18_5) hr
  · show Q_rm18 Z _ h0 n0 _ s₁.heap _
    rw [e0]
    exact ⟨rfl, N0, rfl⟩
theorem d7_0 : decode prog_9_method_1_code 0 = .ok (.aload_n 0, 1) := by decide +kernel
theorem d7_1 : decode prog_9_method_1_code 1 = .ok (.invokespecial 3, 3) := by decide +kernel
theorem d7_4 : decode prog_9_method_1_code 4 = .ok (.aload_n 0, 1) := by decide +kernel
theorem d7_5 : decode prog_9_method_1_code 5 = .ok (.aload_n 1, 1) := by decide +kernel
theorem d7_6 : decode prog_9_method_1_code 6 = .ok (.putfield 9, 3) := by decide +kernel
theorem d7_9 : decode prog_9_method_1_code 9 = .ok (.return_, 1) := by decide +kernel
theorem pn_com_example_dido_dido_keys_Field : plainName "com/example/dido/dido/keys/Field" = true := by first | (simp [plainName, overriddenIn]; done) | decide +kernel
theorem ef_rm7 (m : MethodId) (x0 : Addr) (x1 : Addr) : entryFrame m #[(.ref x0), (.ref x1)] 2 = mkF m 0 #[rv x0, rv x1] [] := by first | (simp [entryFrame, mkF, argsToLocals, Value.category]; done) | rfl
def Q_rm7 (Z : State) (a7_0 : Addr) (st : Addr) (h0 : Heap) (n0 : Nat) (v : Option Value) (h : Heap) (L : List Loc) : Prop := v = none ∧ Fr n0 L ∧ Keep h0 h [a7_0] ∧ (Fld Z h a7_0 "com/example/dido/dido/keys/ConstField" "value" "I" (.int (0 : Int32)))
set_option maxRecDepth 65536 in
set_option maxHeartbeats 40000000 in
theorem rm7 (l : Launch) (Z : State) (a0 : Array Value) (hw : ∀ d ∈ tables_1, d.before a0 Z = true) (ws : List Jvm.Cond) (a7_0 : Addr) (st : Addr) (h0 : Heap) (n0 : Nat) (Z0 : n0 ≤ h0.size) (pf_E_a7_0 : Exa Z h0 a7_0 "com/example/dido/dido/keys/ConstField") (pf_G_a7_0 : n0 ≤ a7_0) (pf_F_a7_0_name : Fld Z h0 a7_0 "com/example/dido/dido/keys/Field" "name" "Ljava/lang/String;" .null) (pf_F_a7_0_value : Fld Z h0 a7_0 "com/example/dido/dido/keys/ConstField" "value" "I" (.int (0 : Int32))) :
    MetFree l (⟨"com/example/dido/dido/keys/Field", "<init>", "(Ljava/lang/String;)V"⟩ : MethodName) (head1 (Jvm.Cond.code (⟨"com/example/dido/dido/keys/Field", "<init>", "(Ljava/lang/String;)V"⟩ : MethodName) prog_9_method_1_code 2 none :: ws) ({ frames := 1, cells := 0, slots := 0, locals := 12 } : Room)) (fun a U => a = #[(.ref a7_0), (.ref st)] ∧ Z.Warmed39 U.vm ∧ U.heap = h0) (fun _ _ _ _ _ => True) (fun _ U o U' => ∃ v L, o = .returned v ∧ Q_rm7 Z a7_0 st h0 n0 v U'.heap L ∧ FrameEnd U o U' L ({ frames := 1, cells := 0, slots := 0, locals := 12 } : Room).cells ({ frames := 1, cells := 0, slots := 0, locals := 12 } : Room).slots) := by
  refine MetFree.of_bodySF (plainFor_of_name pn_com_example_dido_dido_keys_Field) hisR ?_
  intro p e s m args below meth c s₁ Bd hml0 hP hK
  obtain ⟨rfl, hZ, hh⟩ := hP
  have hx := Bd.exec
  have hby := Bd.bytes
  have hml : c.maxLocals = 2 := hml0
  have hown : s.vm.findClass "com/example/dido/dido/keys/Field" = some m.cls := findClass_of_methodNamed Bd.named
  have hnm := (name_of_methodNamed Bd.named Bd.method).1
  have X0 : Stand p l e ({ frames := 1, cells := 0, slots := 0, locals := 12 } : Room) s m #[(.ref a7_0), (.ref st)] below meth c s₁ [] 0 0 := Stand.of_body Bd
  have e0 : s₁.heap = h0 := by rw [← hh, Bd.state]; rfl
  have N0 := Fr.nil n0
  have pre0 : ∀ t, Steps p.tables e below (s₁.setTop (mkF m 0 #[rv a7_0, rv st] [])) t → Steps p.tables e below (s₁.setTop (entryFrame m #[(.ref a7_0), (.ref st)] 2)) t := fun t k => castTop (ef_rm7 m a7_0 st) k
  have wo20 := hw _ (List.mem_of_getElem? (i := 20) rfl)
  have wo21 := hw _ (List.mem_of_getElem? (i := 21) rfl)
  have wo27 := hw _ (List.mem_of_getElem? (i := 27) rfl)
  have wo37 := hw _ (List.mem_of_getElem? (i := 37) rfl)
  have wo38 := hw _ (List.mem_of_getElem? (i := 38) rfl)
  have wo39 := hw _ (List.mem_of_getElem? (i := 39) rfl)
  have wo41 := hw _ (List.mem_of_getElem? (i := 41) rfl)
  obtain ⟨T1, X1, e1, st1⟩ := initO X0 hx hZ hown wo37 wo20 wo21 e0 (g := (mkF m 1 #[rv a7_0, rv st] [(.ref a7_0)])) rfl (by rw [hml]; rfl) rfl (hb hby d7_1) (by decide) (W := 0) (by show 2 * 0 + _ ≤ _; exact Nat.le_of_eq rfl) (by decide)
  obtain ⟨T2, h2, X2, e2, W2, st2⟩ := putF X1 hx hZ hown (host := "") (Or.inl wo38) Via.refl e1 pf_F_a7_0_name pf_E_a7_0 (Or.inr ⟨wo39, rfl, hnm⟩) wo27 (ty := (.object "java/lang/String")) (by decide) rfl rfl (g := (mkF m 6 #[rv a7_0, rv st] [(.ref st), (.ref a7_0)])) rfl rfl (hb hby d7_6)
  have K3 : Keep h0 h2 [a7_0] := (Keep.refl h0 [a7_0]).wr W2 (Or.inl (List.mem_of_getElem? (i := 0) rfl))
  have f4 : Fld Z h2 a7_0 "com/example/dido/dido/keys/Field" "name" "Ljava/lang/String;" (.ref st) := pf_F_a7_0_name.same W2
  have N5 := Fr.snoc X2 N0 pf_G_a7_0
  have f6 := (pf_F_a7_0_value.other W2 (Or.inr (slot_ne (Or.inr wo41) (Or.inr wo39) (by decide) (t := .int) (t' := (.object "java/lang/String")) (by decide) (by decide))))
  obtain ⟨fs, hr, hrun, hended, hW, hsame⟩ := X2.leave (v := none) (fun _ => rfl)
  refine ⟨_, _, pre0 _ ?_, hrun, hended, _, _, rfl, ?_, ⟨_, rfl⟩, hW, hsame.mono (by decide) (by decide)⟩
  · show Steps p.tables e below (s₁.setTop (mkF m 0 #[rv a7_0, rv st] [])) _
    refine XS.aloadN X0.here hx rfl (hb hby d7_0) rfl rfl ?_
    show Steps p.tables e below (s₁.setTop (mkF m 1 #[rv a7_0, rv st] [(.ref a7_0)])) _
    refine st1 _ ?_
    show Steps p.tables e below (T1.setTop (mkF m 4 #[rv a7_0, rv st] [])) _
    refine XS.aloadN X1.here hx rfl (hb hby d7_4) rfl rfl ?_
    show Steps p.tables e below (T1.setTop (mkF m 5 #[rv a7_0, rv st] [(.ref a7_0)])) _
    refine XS.aloadN X1.here hx rfl (hb hby d7_5) rfl rfl ?_
    show Steps p.tables e below (T1.setTop (mkF m 6 #[rv a7_0, rv st] [(.ref st), (.ref a7_0)])) _
    refine st2 _ ?_
    show Steps p.tables e below (T2.setTop (mkF m 9 #[rv a7_0, rv st] [])) _
    exact X2.returnOut hx Bd.returns (hb hby d7_9) hr
  · show Q_rm7 Z _ _ h0 n0 _ T2.heap _
    rw [e2]
    exact ⟨rfl, N5, (K3), f6⟩
theorem d6_0 : decode prog_6_method_1_code 0 = .ok (.aload_n 0, 1) := by decide +kernel
theorem d6_1 : decode prog_6_method_1_code 1 = .ok (.aload_n 1, 1) := by decide +kernel
theorem pd_15 : parseMethodDescriptor "(Ljava/lang/String;)V" = some ⟨[(.object "java/lang/String")], none⟩ := by decide +kernel
theorem d6_2 : decode prog_6_method_1_code 2 = .ok (.invokespecial 1, 3) := by decide +kernel
theorem d6_5 : decode prog_6_method_1_code 5 = .ok (.aload_n 0, 1) := by decide +kernel
theorem d6_6 : decode prog_6_method_1_code 6 = .ok (.iload_n 2, 1) := by decide +kernel
theorem d6_7 : decode prog_6_method_1_code 7 = .ok (.putfield 7, 3) := by decide +kernel
theorem d6_10 : decode prog_6_method_1_code 10 = .ok (.return_, 1) := by decide +kernel
theorem pn_com_example_dido_dido_keys_ConstField : plainName "com/example/dido/dido/keys/ConstField" = true := by first | (simp [plainName, overriddenIn]; done) | decide +kernel
theorem ef_rm6 (m : MethodId) (x0 : Addr) (x1 : Addr) (x2 : Int32) : entryFrame m #[(.ref x0), (.ref x1), (.int x2)] 3 = mkF m 0 #[rv x0, rv x1, iv x2] [] := by first | (simp [entryFrame, mkF, argsToLocals, Value.category]; done) | rfl
def Q_rm6 (Z : State) (a6_0 : Addr) (st : Addr) (vv : Int32) (h0 : Heap) (n0 : Nat) (v : Option Value) (h : Heap) (L : List Loc) : Prop := v = none ∧ Fr n0 L ∧ Keep h0 h [a6_0] ∧ (Fld Z h a6_0 "com/example/dido/dido/keys/ConstField" "value" "I" (.int vv))
set_option maxRecDepth 65536 in
set_option maxHeartbeats 40000000 in
theorem rm6 (l : Launch) (Z : State) (a0 : Array Value) (hw : ∀ d ∈ tables_1, d.before a0 Z = true) (ws : List Jvm.Cond) (a6_0 : Addr) (st : Addr) (vv : Int32) (h0 : Heap) (n0 : Nat) (Z0 : n0 ≤ h0.size) (pf_E_a6_0 : Exa Z h0 a6_0 "com/example/dido/dido/keys/ConstField") (pf_G_a6_0 : n0 ≤ a6_0) (pf_F_a6_0_name : Fld Z h0 a6_0 "com/example/dido/dido/keys/Field" "name" "Ljava/lang/String;" .null) (pf_F_a6_0_value : Fld Z h0 a6_0 "com/example/dido/dido/keys/ConstField" "value" "I" (.int (0 : Int32))) :
    MetFree l (⟨"com/example/dido/dido/keys/ConstField", "<init>", "(Ljava/lang/String;I)V"⟩ : MethodName) (head1 (Jvm.Cond.code (⟨"com/example/dido/dido/keys/ConstField", "<init>", "(Ljava/lang/String;I)V"⟩ : MethodName) prog_6_method_1_code 3 none :: ws) ({ frames := 2, cells := 0, slots := 0, locals := 25 } : Room)) (fun a U => a = #[(.ref a6_0), (.ref st), (.int vv)] ∧ Z.Warmed39 U.vm ∧ U.heap = h0) (fun _ _ _ _ _ => True) (fun _ U o U' => ∃ v L, o = .returned v ∧ Q_rm6 Z a6_0 st vv h0 n0 v U'.heap L ∧ FrameEnd U o U' L ({ frames := 2, cells := 0, slots := 0, locals := 25 } : Room).cells ({ frames := 2, cells := 0, slots := 0, locals := 25 } : Room).slots) := by
  refine MetFree.of_bodySF (plainFor_of_name pn_com_example_dido_dido_keys_ConstField) hisR ?_
  intro p e s m args below meth c s₁ Bd hml0 hP hK
  obtain ⟨rfl, hZ, hh⟩ := hP
  have hx := Bd.exec
  have hby := Bd.bytes
  have hml : c.maxLocals = 3 := hml0
  have hown : s.vm.findClass "com/example/dido/dido/keys/ConstField" = some m.cls := findClass_of_methodNamed Bd.named
  have hnm := (name_of_methodNamed Bd.named Bd.method).1
  have X0 : Stand p l e ({ frames := 2, cells := 0, slots := 0, locals := 25 } : Room) s m #[(.ref a6_0), (.ref st), (.int vv)] below meth c s₁ [] 0 0 := Stand.of_body Bd
  have e0 : s₁.heap = h0 := by rw [← hh, Bd.state]; rfl
  have N0 := Fr.nil n0
  have pre0 : ∀ t, Steps p.tables e below (s₁.setTop (mkF m 0 #[rv a6_0, rv st, iv vv] [])) t → Steps p.tables e below (s₁.setTop (entryFrame m #[(.ref a6_0), (.ref st), (.int vv)] 3)) t := fun t k => castTop (ef_rm6 m a6_0 st vv) k
  have wo27 := hw _ (List.mem_of_getElem? (i := 27) rfl)
  have wo32 := hw _ (List.mem_of_getElem? (i := 32) rfl)
  have wo33 := hw _ (List.mem_of_getElem? (i := 33) rfl)
  have wo35 := hw _ (List.mem_of_getElem? (i := 35) rfl)
  have wo36 := hw _ (List.mem_of_getElem? (i := 36) rfl)
  have wo40 := hw _ (List.mem_of_getElem? (i := 40) rfl)
  have wo41 := hw _ (List.mem_of_getElem? (i := 41) rfl)
  obtain ⟨_, _, ⟨T1, L1, k1, n1⟩, -, X1, ⟨Lc1, hQ1, l1, y1, z1⟩, st1⟩ := X0.specialBack hx (y := MN7) rfl hown (mvT hZ wo32) (mvT hZ wo33) (mvT hZ wo36) (by decide) (backOf (W := 0) (rm7 l Z a0 hw [] a6_0 st h0 n0 Z0 pf_E_a6_0 pf_G_a6_0 pf_F_a6_0_name pf_F_a6_0_value) hZ wo36 wo35 (by decide) (by decide)) (g := (mkF m 2 #[rv a6_0, rv st, iv vv] [(.ref st), (.ref a6_0)])) rfl (by rw [hml]; rfl) (Steps.refl _) (a := a6_0) (argsL := [(.ref st)]) (rest := []) (lenOf pd_15 rfl) rfl (by show 2 * 0 + _ ≤ _; exact Nat.le_of_eq rfl) (hb hby d6_2) (fun _ _ => ⟨rfl, e0, (by decide : 0 + 0 ≤ _), (by decide : 0 + 0 ≤ _)⟩)
  dsimp only [Pt.U, Pt.locs, Pt.cells, Pt.slots] at X1 l1 y1 z1 st1 hQ1
  subst l1 y1 z1
  obtain ⟨rfl, N1q, K1q, hq1_0⟩ := hQ1
  have N2 := Fr.app N0 N1q
  have K3 : Keep h0 T1.heap [a6_0] := (Keep.refl h0 [a6_0]).trans K1q (allS (P := fun x => x ∈ [a6_0] ∨ h0.size ≤ x) (Or.inl (List.mem_of_getElem? (i := 0) rfl)) all0)
  have f4 := (pf_E_a6_0.keep K1q)
  obtain ⟨T5, h5, X5, e5, W5, st5⟩ := putF X1 hx hZ hown (host := "") (Or.inl wo40) Via.refl rfl hq1_0 f4 (Or.inr ⟨wo41, rfl, hnm⟩) wo27 (ty := .int) (by decide) rfl rfl (g := (mkF m 7 #[rv a6_0, rv st, iv vv] [(.int vv), (.ref a6_0)])) rfl rfl (hb hby d6_7)
  have K6 : Keep h0 h5 [a6_0] := (K3).wr W5 (Or.inl (List.mem_of_getElem? (i := 0) rfl))
  have f7 : Fld Z h5 a6_0 "com/example/dido/dido/keys/ConstField" "value" "I" (.int vv) := hq1_0.same W5
  have N8 := Fr.snoc X5 N2 pf_G_a6_0
  obtain ⟨fs, hr, hrun, hended, hW, hsame⟩ := X5.leave (v := none) (fun _ => rfl)
  refine ⟨_, _, pre0 _ ?_, hrun, hended, _, _, rfl, ?_, ⟨_, rfl⟩, hW, hsame.mono (by decide) (by decide)⟩
  · show Steps p.tables e below (s₁.setTop (mkF m 0 #[rv a6_0, rv st, iv vv] [])) _
    refine XS.aloadN X0.here hx rfl (hb hby d6_0) rfl rfl ?_
    show Steps p.tables e below (s₁.setTop (mkF m 1 #[rv a6_0, rv st, iv vv] [(.ref a6_0)])) _
    refine XS.aloadN X0.here hx rfl (hb hby d6_1) rfl rfl ?_
    show Steps p.tables e below (s₁.setTop (mkF m 2 #[rv a6_0, rv st, iv vv] [(.ref st), (.ref a6_0)])) _
    refine st1.trans ?_
    show Steps p.tables e below (T1.setTop (mkF m 5 #[rv a6_0, rv st, iv vv] [])) _
    refine XS.aloadN X1.here hx rfl (hb hby d6_5) rfl rfl ?_
    show Steps p.tables e below (T1.setTop (mkF m 6 #[rv a6_0, rv st, iv vv] [(.ref a6_0)])) _
    refine XS.iloadN X1.here hx rfl (hb hby d6_6) rfl ?_
    show Steps p.tables e below (T1.setTop (mkF m 7 #[rv a6_0, rv st, iv vv] [(.int vv), (.ref a6_0)])) _
    refine st5 _ ?_
    show Steps p.tables e below (T5.setTop (mkF m 10 #[rv a6_0, rv st, iv vv] [])) _
    exact X5.returnOut hx Bd.returns (hb hby d6_10) hr
  · show Q_rm6 Z _ _ _ h0 n0 _ T5.heap _
    rw [e5]
    exact ⟨rfl, N8, (K6), f7⟩
theorem d8_0 : decode prog_6_method_2_code 0 = .ok (.iconst 1, 1) := by decide +kernel
theorem d8_1 : decode prog_6_method_2_code 1 = .ok (.newarray .byte, 2) := by decide +kernel
theorem d8_3 : decode prog_6_method_2_code 3 = .ok (.dup, 1) := by decide +kernel
theorem d8_4 : decode prog_6_method_2_code 4 = .ok (.iconst 0, 1) := by decide +kernel
theorem d8_5 : decode prog_6_method_2_code 5 = .ok (.aload_n 0, 1) := by decide +kernel
theorem d8_6 : decode prog_6_method_2_code 6 = .ok (.getfield 7, 3) := by decide +kernel
theorem d8_9 : decode prog_6_method_2_code 9 = .ok (.i2b, 1) := by decide +kernel
theorem d8_10 : decode prog_6_method_2_code 10 = .ok (.bastore, 1) := by decide +kernel
theorem d8_11 : decode prog_6_method_2_code 11 = .ok (.areturn, 1) := by decide +kernel
theorem ef_rm8 (m : MethodId) (x0 : Addr) : entryFrame m #[(.ref x0)] 1 = mkF m 0 #[rv x0] [] := by first | (simp [entryFrame, mkF, argsToLocals, Value.category]; done) | rfl
def Q_rm8 (Z : State) (a8_0 : Addr) (vv : Int32) (h0 : Heap) (n0 : Nat) (v : Option Value) (h : Heap) (L : List Loc) : Prop := ∃ (b : Addr), v = some (.ref b) ∧ Fr n0 L ∧ Keep h0 h [] ∧ (h0.size ≤ b) ∧ (Exa Z h b "[B") ∧ (Av Z h b .byte (1 : Int32) [(.int (nar .byte (vv.toInt8.toInt32)))] (.int (0 : Int32)))
set_option maxRecDepth 65536 in
set_option maxHeartbeats 40000000 in
theorem rm8 (l : Launch) (Z : State) (a0 : Array Value) (hw : ∀ d ∈ tables_1, d.before a0 Z = true) (ws : List Jvm.Cond) (a8_0 : Addr) (vv : Int32) (h0 : Heap) (n0 : Nat) (Z0 : n0 ≤ h0.size) (pf_F_a8_0_value : Fld Z h0 a8_0 "com/example/dido/dido/keys/ConstField" "value" "I" (.int vv)) :
    MetFree l (⟨"com/example/dido/dido/keys/ConstField", "keyBytes", "()[B"⟩ : MethodName) (head1 (Jvm.Cond.code (⟨"com/example/dido/dido/keys/ConstField", "keyBytes", "()[B"⟩ : MethodName) prog_6_method_2_code 1 (some (.array .byte)) :: ws) ({ frames := 0, cells := 1, slots := 1, locals := 0 } : Room)) (fun a U => a = #[(.ref a8_0)] ∧ Z.Warmed39 U.vm ∧ U.heap = h0) (fun _ _ _ _ _ => True) (fun _ U o U' => ∃ v L, o = .returned v ∧ Q_rm8 Z a8_0 vv h0 n0 v U'.heap L ∧ FrameEnd U o U' L ({ frames := 0, cells := 1, slots := 1, locals := 0 } : Room).cells ({ frames := 0, cells := 1, slots := 1, locals := 0 } : Room).slots) := by
  refine MetFree.of_bodySF (plainFor_of_name pn_com_example_dido_dido_keys_ConstField) hisR ?_
  intro p e s m args below meth c s₁ Bd hml0 hP hK
  obtain ⟨rfl, hZ, hh⟩ := hP
  have hx := Bd.exec
  have hby := Bd.bytes
  have hml : c.maxLocals = 1 := hml0
  have hown : s.vm.findClass "com/example/dido/dido/keys/ConstField" = some m.cls := findClass_of_methodNamed Bd.named
  have hnm := (name_of_methodNamed Bd.named Bd.method).1
  have X0 : Stand p l e ({ frames := 0, cells := 1, slots := 1, locals := 0 } : Room) s m #[(.ref a8_0)] below meth c s₁ [] 0 0 := Stand.of_body Bd
  have e0 : s₁.heap = h0 := by rw [← hh, Bd.state]; rfl
  have N0 := Fr.nil n0
  have pre0 : ∀ t, Steps p.tables e below (s₁.setTop (mkF m 0 #[rv a8_0] [])) t → Steps p.tables e below (s₁.setTop (entryFrame m #[(.ref a8_0)] 1)) t := fun t k => castTop (ef_rm8 m a8_0) k
  have wo14 := hw _ (List.mem_of_getElem? (i := 14) rfl)
  have wo40 := hw _ (List.mem_of_getElem? (i := 40) rfl)
  obtain ⟨T1, h1, k1, X1, e1, E1, A1, B1, st1⟩ := newPE (aty := .byte) X0 hx hZ wo14 e0 (g := (mkF m 1 #[rv a8_0] [(.int (1 : Int32))])) rfl (hb hby d8_1) rfl (by decide) (cap := 1) (by decide) (by decide) (by decide) (by decide) (ad := "[B") (by decide)
  obtain ⟨b1, gg1⟩ : ∃ z, z = h0.size := ⟨_, rfl⟩
  rw [← gg1] at A1 st1 B1
  have ne2 : a8_0 ≠ b1 := Nat.ne_of_lt (Nat.lt_of_lt_of_le pf_F_a8_0_value.lt (Nat.le_of_eq gg1.symm))
  have g3 : n0 ≤ b1 := Nat.le_trans Z0 (Nat.le_of_eq gg1.symm)
  have bz4 : h0.size ≤ b1 := Nat.le_trans (Keep.refl h0 []).1 (Nat.le_of_eq gg1.symm)
  have K6 : Keep h0 h1 [] := (Keep.refl h0 []).ext E1
  have f5 : Av Z h1 b1 .byte (1 : Int32) [(.int (0 : Int32))] (.int (0 : Int32)) := ⟨_, (Arv.new A1 (by decide)).pad (pad_rep [] (.int (0 : Int32)) 1)⟩
  have f7 := (pf_F_a8_0_value.ext E1)
  obtain ⟨T8, X8, e8, st8⟩ := getF X1 hx hZ hown (host := "") (Or.inl wo40) Via.refl e1 f7 (g := (mkF m 6 #[rv a8_0] [(.ref a8_0), (.int (0 : Int32)), (.ref b1), (.ref b1)])) rfl rfl (hb hby d8_6)
  obtain ⟨kk9, cl9, Ar9, qq9, Sz9, Nn9, Hs9, Gf9⟩ := id f5
  have hin10 : ¬ ((0 : Int32) < 0 ∨ cl9.slots.size ≤ ((0 : Int32)).toNatClampNeg) := inb_of Sz9 ⟨by decide, by decide⟩
  obtain ⟨T11, h11, X11, e11, W11, st11⟩ := stB X8 hx hZ e8 Ar9 (j := (0 : Int32)) hin10 (g := (mkF m 10 #[rv a8_0] [(.int (vv.toInt8.toInt32)), (.int (0 : Int32)), (.ref b1), (.ref b1)])) rfl rfl (hb hby d8_10)
  have K12 : Keep h0 h11 [] := (K6).wr W11 (Or.inr bz4)
  have f13 : Av Z h11 b1 .byte (1 : Int32) [(.int (nar .byte (vv.toInt8.toInt32)))] (.int (0 : Int32)) := ⟨_, Arv.set Ar9 qq9 Sz9 Nn9 Hs9 Gf9 (by first | rfl | exact fits_nar_byte _) W11 0 rfl (Nat.le_of_ble_eq_true rfl)⟩
  have N14 := Fr.snoc X11 N0 g3
  have f15 := (B1.wr W11)
  obtain ⟨fs, hr, hrun, hended, hW, hsame⟩ := X11.leave (v := some (.ref b1)) (fun h => by rw [Bd.returns] at h; cases h)
  refine ⟨_, _, pre0 _ ?_, hrun, hended, _, _, rfl, ?_, ⟨_, rfl⟩, hW, hsame.mono (by decide) (by decide)⟩
  · show Steps p.tables e below (s₁.setTop (mkF m 0 #[rv a8_0] [])) _
    refine XS.iconst X0.here hx rfl (hb hby d8_0) ?_
    show Steps p.tables e below (s₁.setTop (mkF m 1 #[rv a8_0] [(.int (1 : Int32))])) _
    refine st1 _ ?_
    show Steps p.tables e below (T1.setTop (mkF m 3 #[rv a8_0] [(.ref b1)])) _
    refine XS.dup X1.here hx rfl (hb hby d8_3) rfl rfl ?_
    show Steps p.tables e below (T1.setTop (mkF m 4 #[rv a8_0] [(.ref b1), (.ref b1)])) _
    refine XS.iconst X1.here hx rfl (hb hby d8_4) ?_
    show Steps p.tables e below (T1.setTop (mkF m 5 #[rv a8_0] [(.int (0 : Int32)), (.ref b1), (.ref b1)])) _
    refine XS.aloadN X1.here hx rfl (hb hby d8_5) rfl rfl ?_
    show Steps p.tables e below (T1.setTop (mkF m 6 #[rv a8_0] [(.ref a8_0), (.int (0 : Int32)), (.ref b1), (.ref b1)])) _
    refine st8 _ ?_
    show Steps p.tables e below (T8.setTop (mkF m 9 #[rv a8_0] [(.int vv), (.int (0 : Int32)), (.ref b1), (.ref b1)])) _
    refine XS.i2b X8.here hx rfl (hb hby d8_9) rfl ?_
    show Steps p.tables e below (T8.setTop (mkF m 10 #[rv a8_0] [(.int (vv.toInt8.toInt32)), (.int (0 : Int32)), (.ref b1), (.ref b1)])) _
    refine st11 _ ?_
    show Steps p.tables e below (T11.setTop (mkF m 11 #[rv a8_0] [(.ref b1)])) _
    exact retOut X11 hx Bd.returns rfl (Or.inr (Or.inr (Or.inr (Or.inr ⟨rfl, rfl, rfl⟩)))) (hb hby d8_11) hr
  · show Q_rm8 Z _ _ h0 n0 _ T11.heap _
    rw [e11]
    exact ⟨b1, rfl, N14, (K12), bz4, f15, f13⟩
theorem d10_0 : decode prog_14_method_2_code 0 = .ok (.aload_n 0, 1) := by decide +kernel
theorem d10_1 : decode prog_14_method_2_code 1 = .ok (.invokespecial 7, 3) := by decide +kernel
theorem d10_4 : decode prog_14_method_2_code 4 = .ok (.aload_n 0, 1) := by decide +kernel
theorem d10_5 : decode prog_14_method_2_code 5 = .ok (.aload_n 1, 1) := by decide +kernel
theorem d10_6 : decode prog_14_method_2_code 6 = .ok (.putfield 12, 3) := by decide +kernel
theorem d10_9 : decode prog_14_method_2_code 9 = .ok (.aload_n 0, 1) := by decide +kernel
theorem d10_10 : decode prog_14_method_2_code 10 = .ok (.iload_n 2, 1) := by decide +kernel
theorem d10_11 : decode prog_14_method_2_code 11 = .ok (.putfield 16, 3) := by decide +kernel
theorem d10_14 : decode prog_14_method_2_code 14 = .ok (.aload_n 0, 1) := by decide +kernel
theorem d10_15 : decode prog_14_method_2_code 15 = .ok (.iload_n 3, 1) := by decide +kernel
theorem d10_16 : decode prog_14_method_2_code 16 = .ok (.putfield 20, 3) := by decide +kernel
theorem d10_19 : decode prog_14_method_2_code 19 = .ok (.return_, 1) := by decide +kernel
theorem pn_com_example_dido_dido_keys_KeyReader : plainName "com/example/dido/dido/keys/KeyReader" = true := by first | (simp [plainName, overriddenIn]; done) | decide +kernel
theorem ef_rm10 (m : MethodId) (x0 : Addr) (x1 : Addr) (x2 : Int32) (x3 : Int32) : entryFrame m #[(.ref x0), (.ref x1), (.int x2), (.int x3)] 4 = mkF m 0 #[rv x0, rv x1, iv x2, iv x3] [] := by first | (simp [entryFrame, mkF, argsToLocals, Value.category]; done) | rfl
def Q_rm10 (Z : State) (a10_0 : Addr) (ky : Addr) (mk : Int32) (po : Int32) (h0 : Heap) (n0 : Nat) (v : Option Value) (h : Heap) (L : List Loc) : Prop := v = none ∧ Fr n0 L ∧ Keep h0 h [a10_0] ∧ (Fld Z h a10_0 "com/example/dido/dido/keys/KeyReader" "key" "[B" (.ref ky)) ∧ (Fld Z h a10_0 "com/example/dido/dido/keys/KeyReader" "mask" "I" (.int mk)) ∧ (Fld Z h a10_0 "com/example/dido/dido/keys/KeyReader" "position" "I" (.int po))
set_option maxRecDepth 65536 in
set_option maxHeartbeats 40000000 in
theorem rm10 (l : Launch) (Z : State) (a0 : Array Value) (hw : ∀ d ∈ tables_1, d.before a0 Z = true) (ws : List Jvm.Cond) (a10_0 : Addr) (ky : Addr) (mk : Int32) (po : Int32) (h0 : Heap) (n0 : Nat) (Z0 : n0 ≤ h0.size) (pf_E_a10_0 : Exa Z h0 a10_0 "com/example/dido/dido/keys/KeyReader") (pf_G_a10_0 : n0 ≤ a10_0) (pf_F_a10_0_key : Fld Z h0 a10_0 "com/example/dido/dido/keys/KeyReader" "key" "[B" .null) (pf_F_a10_0_mask : Fld Z h0 a10_0 "com/example/dido/dido/keys/KeyReader" "mask" "I" (.int (0 : Int32))) (pf_F_a10_0_position : Fld Z h0 a10_0 "com/example/dido/dido/keys/KeyReader" "position" "I" (.int (0 : Int32))) :
    MetFree l (⟨"com/example/dido/dido/keys/KeyReader", "<init>", "([BII)V"⟩ : MethodName) (head1 (Jvm.Cond.code (⟨"com/example/dido/dido/keys/KeyReader", "<init>", "([BII)V"⟩ : MethodName) prog_14_method_2_code 4 none :: ws) ({ frames := 1, cells := 0, slots := 0, locals := 12 } : Room)) (fun a U => a = #[(.ref a10_0), (.ref ky), (.int mk), (.int po)] ∧ Z.Warmed39 U.vm ∧ U.heap = h0) (fun _ _ _ _ _ => True) (fun _ U o U' => ∃ v L, o = .returned v ∧ Q_rm10 Z a10_0 ky mk po h0 n0 v U'.heap L ∧ FrameEnd U o U' L ({ frames := 1, cells := 0, slots := 0, locals := 12 } : Room).cells ({ frames := 1, cells := 0, slots := 0, locals := 12 } : Room).slots) := by
  refine MetFree.of_bodySF (plainFor_of_name pn_com_example_dido_dido_keys_KeyReader) hisR ?_
  intro p e s m args below meth c s₁ Bd hml0 hP hK
  obtain ⟨rfl, hZ, hh⟩ := hP
  have hx := Bd.exec
  have hby := Bd.bytes
  have hml : c.maxLocals = 4 := hml0
  have hown : s.vm.findClass "com/example/dido/dido/keys/KeyReader" = some m.cls := findClass_of_methodNamed Bd.named
  have hnm := (name_of_methodNamed Bd.named Bd.method).1
  have X0 : Stand p l e ({ frames := 1, cells := 0, slots := 0, locals := 12 } : Room) s m #[(.ref a10_0), (.ref ky), (.int mk), (.int po)] below meth c s₁ [] 0 0 := Stand.of_body Bd
  have e0 : s₁.heap = h0 := by rw [← hh, Bd.state]; rfl
  have N0 := Fr.nil n0
  have pre0 : ∀ t, Steps p.tables e below (s₁.setTop (mkF m 0 #[rv a10_0, rv ky, iv mk, iv po] [])) t → Steps p.tables e below (s₁.setTop (entryFrame m #[(.ref a10_0), (.ref ky), (.int mk), (.int po)] 4)) t := fun t k => castTop (ef_rm10 m a10_0 ky mk po) k
  have wo20 := hw _ (List.mem_of_getElem? (i := 20) rfl)
  have wo21 := hw _ (List.mem_of_getElem? (i := 21) rfl)
  have wo48 := hw _ (List.mem_of_getElem? (i := 48) rfl)
  have wo56 := hw _ (List.mem_of_getElem? (i := 56) rfl)
  have wo57 := hw _ (List.mem_of_getElem? (i := 57) rfl)
  have wo58 := hw _ (List.mem_of_getElem? (i := 58) rfl)
  have wo59 := hw _ (List.mem_of_getElem? (i := 59) rfl)
  have wo60 := hw _ (List.mem_of_getElem? (i := 60) rfl)
  have wo61 := hw _ (List.mem_of_getElem? (i := 61) rfl)
  have wo62 := hw _ (List.mem_of_getElem? (i := 62) rfl)
  obtain ⟨T1, X1, e1, st1⟩ := initO X0 hx hZ hown wo56 wo20 wo21 e0 (g := (mkF m 1 #[rv a10_0, rv ky, iv mk, iv po] [(.ref a10_0)])) rfl (by rw [hml]; rfl) rfl (hb hby d10_1) (by decide) (W := 0) (by show 2 * 0 + _ ≤ _; exact Nat.le_of_eq rfl) (by decide)
  obtain ⟨T2, h2, X2, e2, W2, st2⟩ := putF X1 hx hZ hown (host := "") (Or.inl wo57) Via.refl e1 pf_F_a10_0_key pf_E_a10_0 (Or.inr ⟨wo58, rfl, hnm⟩) wo48 (ty := (.array .byte)) (by decide) rfl rfl (g := (mkF m 6 #[rv a10_0, rv ky, iv mk, iv po] [(.ref ky), (.ref a10_0)])) rfl rfl (hb hby d10_6)
  have K3 : Keep h0 h2 [a10_0] := (Keep.refl h0 [a10_0]).wr W2 (Or.inl (List.mem_of_getElem? (i := 0) rfl))
  have f4 : Fld Z h2 a10_0 "com/example/dido/dido/keys/KeyReader" "key" "[B" (.ref ky) := pf_F_a10_0_key.same W2
  have N5 := Fr.snoc X2 N0 pf_G_a10_0
  have f6 := (pf_F_a10_0_mask.other W2 (Or.inr (slot_ne (Or.inr wo60) (Or.inr wo58) (by decide) (t := .int) (t' := (.array .byte)) (by decide) (by decide))))
  have f7 := (pf_E_a10_0.wr W2)
  obtain ⟨T8, h8, X8, e8, W8, st8⟩ := putF X2 hx hZ hown (host := "") (Or.inl wo59) Via.refl e2 f6 f7 (Or.inr ⟨wo60, rfl, hnm⟩) wo48 (ty := .int) (by decide) rfl rfl (g := (mkF m 11 #[rv a10_0, rv ky, iv mk, iv po] [(.int mk), (.ref a10_0)])) rfl rfl (hb hby d10_11)
  have K9 : Keep h0 h8 [a10_0] := (K3).wr W8 (Or.inl (List.mem_of_getElem? (i := 0) rfl))
  have f10 : Fld Z h8 a10_0 "com/example/dido/dido/keys/KeyReader" "mask" "I" (.int mk) := f6.same W8
  have N11 := Fr.snoc X8 N5 pf_G_a10_0
  have f12 := ((pf_F_a10_0_position.other W2 (Or.inr (slot_ne (Or.inl wo62) (Or.inr wo58) (by decide) (t := .int) (t' := (.array .byte)) (by decide) (by decide)))).other W8 (Or.inr (slot_ne (Or.inl wo62) (Or.inr wo60) (by decide) (t := .int) (t' := .int) (by decide) (by decide))))
  have f13 := (f7.wr W8)
  obtain ⟨T14, h14, X14, e14, W14, st14⟩ := putF X8 hx hZ hown (host := "") (Or.inl wo61) Via.refl e8 f12 f13 (Or.inl wo62) wo48 (ty := .int) (by decide) rfl rfl (g := (mkF m 16 #[rv a10_0, rv ky, iv mk, iv po] [(.int po), (.ref a10_0)])) rfl rfl (hb hby d10_16)
  have K15 : Keep h0 h14 [a10_0] := (K9).wr W14 (Or.inl (List.mem_of_getElem? (i := 0) rfl))
  have f16 : Fld Z h14 a10_0 "com/example/dido/dido/keys/KeyReader" "position" "I" (.int po) := f12.same W14
  have N17 := Fr.snoc X14 N11 pf_G_a10_0
  have f18 := ((f4.other W8 (Or.inr (slot_ne (Or.inr wo58) (Or.inr wo60) (by decide) (t := (.array .byte)) (t' := .int) (by decide) (by decide)))).other W14 (Or.inr (slot_ne (Or.inr wo58) (Or.inl wo62) (by decide) (t := (.array .byte)) (t' := .int) (by decide) (by decide))))
  have f19 := (f10.other W14 (Or.inr (slot_ne (Or.inr wo60) (Or.inl wo62) (by decide) (t := .int) (t' := .int) (by decide) (by decide))))
  obtain ⟨fs, hr, hrun, hended, hW, hsame⟩ := X14.leave (v := none) (fun _ => rfl)
  refine ⟨_, _, pre0 _ ?_, hrun, hended, _, _, rfl, ?_, ⟨_, rfl⟩, hW, hsame.mono (by decide) (by decide)⟩
  · show Steps p.tables e below (s₁.setTop (mkF m 0 #[rv a10_0, rv ky, iv mk, iv po] [])) _
    refine XS.aloadN X0.here hx rfl (hb hby d10_0) rfl rfl ?_
    show Steps p.tables e below (s₁.setTop (mkF m 1 #[rv a10_0, rv ky, iv mk, iv po] [(.ref a10_0)])) _
    refine st1 _ ?_
    show Steps p.tables e below (T1.setTop (mkF m 4 #[rv a10_0, rv ky, iv mk, iv po] [])) _
    refine XS.aloadN X1.here hx rfl (hb hby d10_4) rfl rfl ?_
    show Steps p.tables e below (T1.setTop (mkF m 5 #[rv a10_0, rv ky, iv mk, iv po] [(.ref a10_0)])) _
    refine XS.aloadN X1.here hx rfl (hb hby d10_5) rfl rfl ?_
    show Steps p.tables e below (T1.setTop (mkF m 6 #[rv a10_0, rv ky, iv mk, iv po] [(.ref ky), (.ref a10_0)])) _
    refine st2 _ ?_
    show Steps p.tables e below (T2.setTop (mkF m 9 #[rv a10_0, rv ky, iv mk, iv po] [])) _
    refine XS.aloadN X2.here hx rfl (hb hby d10_9) rfl rfl ?_
    show Steps p.tables e below (T2.setTop (mkF m 10 #[rv a10_0, rv ky, iv mk, iv po] [(.ref a10_0)])) _
    refine XS.iloadN X2.here hx rfl (hb hby d10_10) rfl ?_
    show Steps p.tables e below (T2.setTop (mkF m 11 #[rv a10_0, rv ky, iv mk, iv po] [(.int mk), (.ref a10_0)])) _
    refine st8 _ ?_
    show Steps p.tables e below (T8.setTop (mkF m 14 #[rv a10_0, rv ky, iv mk, iv po] [])) _
    refine XS.aloadN X8.here hx rfl (hb hby d10_14) rfl rfl ?_
    show Steps p.tables e below (T8.setTop (mkF m 15 #[rv a10_0, rv ky, iv mk, iv po] [(.ref a10_0)])) _
    refine XS.iloadN X8.here hx rfl (hb hby d10_15) rfl ?_
    show Steps p.tables e below (T8.setTop (mkF m 16 #[rv a10_0, rv ky, iv mk, iv po] [(.int po), (.ref a10_0)])) _
    refine st14 _ ?_
    show Steps p.tables e below (T14.setTop (mkF m 19 #[rv a10_0, rv ky, iv mk, iv po] [])) _
    exact X14.returnOut hx Bd.returns (hb hby d10_19) hr
  · show Q_rm10 Z _ _ _ _ h0 n0 _ T14.heap _
    rw [e14]
    exact ⟨rfl, N17, (K15), f18, f19, f16⟩
theorem d9_0 : decode prog_14_method_1_code 0 = .ok (.aload_n 0, 1) := by decide +kernel
theorem d9_1 : decode prog_14_method_1_code 1 = .ok (.aload_n 1, 1) := by decide +kernel
theorem d9_2 : decode prog_14_method_1_code 2 = .ok (.iconst 0, 1) := by decide +kernel
theorem d9_3 : decode prog_14_method_1_code 3 = .ok (.iconst 0, 1) := by decide +kernel
theorem pd_19 : parseMethodDescriptor "([BII)V" = some ⟨[(.array .byte), .int, .int], none⟩ := by decide +kernel
theorem d9_4 : decode prog_14_method_1_code 4 = .ok (.invokespecial 1, 3) := by decide +kernel
theorem d9_7 : decode prog_14_method_1_code 7 = .ok (.return_, 1) := by decide +kernel
theorem ef_rm9 (m : MethodId) (x0 : Addr) (x1 : Addr) : entryFrame m #[(.ref x0), (.ref x1)] 2 = mkF m 0 #[rv x0, rv x1] [] := by first | (simp [entryFrame, mkF, argsToLocals, Value.category]; done) | rfl
def Q_rm9 (Z : State) (a9_0 : Addr) (ky : Addr) (h0 : Heap) (n0 : Nat) (v : Option Value) (h : Heap) (L : List Loc) : Prop := v = none ∧ Fr n0 L ∧ Keep h0 h [a9_0] ∧ (Fld Z h a9_0 "com/example/dido/dido/keys/KeyReader" "key" "[B" (.ref ky)) ∧ (Fld Z h a9_0 "com/example/dido/dido/keys/KeyReader" "mask" "I" (.int (0 : Int32))) ∧ (Fld Z h a9_0 "com/example/dido/dido/keys/KeyReader" "position" "I" (.int (0 : Int32)))
set_option maxRecDepth 65536 in
set_option maxHeartbeats 40000000 in
theorem rm9 (l : Launch) (Z : State) (a0 : Array Value) (hw : ∀ d ∈ tables_1, d.before a0 Z = true) (ws : List Jvm.Cond) (a9_0 : Addr) (ky : Addr) (h0 : Heap) (n0 : Nat) (Z0 : n0 ≤ h0.size) (pf_E_a9_0 : Exa Z h0 a9_0 "com/example/dido/dido/keys/KeyReader") (pf_G_a9_0 : n0 ≤ a9_0) (pf_F_a9_0_key : Fld Z h0 a9_0 "com/example/dido/dido/keys/KeyReader" "key" "[B" .null) (pf_F_a9_0_mask : Fld Z h0 a9_0 "com/example/dido/dido/keys/KeyReader" "mask" "I" (.int (0 : Int32))) (pf_F_a9_0_position : Fld Z h0 a9_0 "com/example/dido/dido/keys/KeyReader" "position" "I" (.int (0 : Int32))) :
    MetFree l (⟨"com/example/dido/dido/keys/KeyReader", "<init>", "([B)V"⟩ : MethodName) (head1 (Jvm.Cond.code (⟨"com/example/dido/dido/keys/KeyReader", "<init>", "([B)V"⟩ : MethodName) prog_14_method_1_code 2 none :: ws) ({ frames := 2, cells := 0, slots := 0, locals := 27 } : Room)) (fun a U => a = #[(.ref a9_0), (.ref ky)] ∧ Z.Warmed39 U.vm ∧ U.heap = h0) (fun _ _ _ _ _ => True) (fun _ U o U' => ∃ v L, o = .returned v ∧ Q_rm9 Z a9_0 ky h0 n0 v U'.heap L ∧ FrameEnd U o U' L ({ frames := 2, cells := 0, slots := 0, locals := 27 } : Room).cells ({ frames := 2, cells := 0, slots := 0, locals := 27 } : Room).slots) := by
  refine MetFree.of_bodySF (plainFor_of_name pn_com_example_dido_dido_keys_KeyReader) hisR ?_
  intro p e s m args below meth c s₁ Bd hml0 hP hK
  obtain ⟨rfl, hZ, hh⟩ := hP
  have hx := Bd.exec
  have hby := Bd.bytes
  have hml : c.maxLocals = 2 := hml0
  have hown : s.vm.findClass "com/example/dido/dido/keys/KeyReader" = some m.cls := findClass_of_methodNamed Bd.named
  have hnm := (name_of_methodNamed Bd.named Bd.method).1
  have X0 : Stand p l e ({ frames := 2, cells := 0, slots := 0, locals := 27 } : Room) s m #[(.ref a9_0), (.ref ky)] below meth c s₁ [] 0 0 := Stand.of_body Bd
  have e0 : s₁.heap = h0 := by rw [← hh, Bd.state]; rfl
  have N0 := Fr.nil n0
  have pre0 : ∀ t, Steps p.tables e below (s₁.setTop (mkF m 0 #[rv a9_0, rv ky] [])) t → Steps p.tables e below (s₁.setTop (entryFrame m #[(.ref a9_0), (.ref ky)] 2)) t := fun t k => castTop (ef_rm9 m a9_0 ky) k
  have wo49 := hw _ (List.mem_of_getElem? (i := 49) rfl)
  have wo53 := hw _ (List.mem_of_getElem? (i := 53) rfl)
  have wo54 := hw _ (List.mem_of_getElem? (i := 54) rfl)
  have wo55 := hw _ (List.mem_of_getElem? (i := 55) rfl)
  obtain ⟨_, _, ⟨T1, L1, k1, n1⟩, -, X1, ⟨Lc1, hQ1, l1, y1, z1⟩, st1⟩ := X0.specialBack hx (y := MN10) rfl hown (mvT hZ wo53) (mvT hZ wo54) (mvT hZ wo55) (by decide) (backOf (W := 0) (rm10 l Z a0 hw [] a9_0 ky (0 : Int32) (0 : Int32) h0 n0 Z0 pf_E_a9_0 pf_G_a9_0 pf_F_a9_0_key pf_F_a9_0_mask pf_F_a9_0_position) hZ wo55 wo49 (by decide) (by decide)) (g := (mkF m 4 #[rv a9_0, rv ky] [(.int (0 : Int32)), (.int (0 : Int32)), (.ref ky), (.ref a9_0)])) rfl (by rw [hml]; rfl) (Steps.refl _) (a := a9_0) (argsL := [(.ref ky), (.int (0 : Int32)), (.int (0 : Int32))]) (rest := []) (lenOf pd_19 rfl) rfl (by show 2 * 0 + _ ≤ _; exact Nat.le_of_eq rfl) (hb hby d9_4) (fun _ _ => ⟨rfl, e0, (by decide : 0 + 0 ≤ _), (by decide : 0 + 0 ≤ _)⟩)
  dsimp only [Pt.U, Pt.locs, Pt.cells, Pt.slots] at X1 l1 y1 z1 st1 hQ1
  subst l1 y1 z1
  obtain ⟨rfl, N1q, K1q, hq1_0, hq1_1, hq1_2⟩ := hQ1
  have N2 := Fr.app N0 N1q
  have K3 : Keep h0 T1.heap [a9_0] := (Keep.refl h0 [a9_0]).trans K1q (allS (P := fun x => x ∈ [a9_0] ∨ h0.size ≤ x) (Or.inl (List.mem_of_getElem? (i := 0) rfl)) all0)
  obtain ⟨fs, hr, hrun, hended, hW, hsame⟩ := X1.leave (v := none) (fun _ => rfl)
  refine ⟨_, _, pre0 _ ?_, hrun, hended, _, _, rfl, ?_, ⟨_, rfl⟩, hW, hsame.mono (by decide) (by decide)⟩
  · show Steps p.tables e below (s₁.setTop (mkF m 0 #[rv a9_0, rv ky] [])) _
    refine XS.aloadN X0.here hx rfl (hb hby d9_0) rfl rfl ?_
    show Steps p.tables e below (s₁.setTop (mkF m 1 #[rv a9_0, rv ky] [(.ref a9_0)])) _
    refine XS.aloadN X0.here hx rfl (hb hby d9_1) rfl rfl ?_
    show Steps p.tables e below (s₁.setTop (mkF m 2 #[rv a9_0, rv ky] [(.ref ky), (.ref a9_0)])) _
    refine XS.iconst X0.here hx rfl (hb hby d9_2) ?_
    show Steps p.tables e below (s₁.setTop (mkF m 3 #[rv a9_0, rv ky] [(.int (0 : Int32)), (.ref ky), (.ref a9_0)])) _
    refine XS.iconst X0.here hx rfl (hb hby d9_3) ?_
    show Steps p.tables e below (s₁.setTop (mkF m 4 #[rv a9_0, rv ky] [(.int (0 : Int32)), (.int (0 : Int32)), (.ref ky), (.ref a9_0)])) _
    refine st1.trans ?_
    show Steps p.tables e below (T1.setTop (mkF m 7 #[rv a9_0, rv ky] [])) _
    exact X1.returnOut hx Bd.returns (hb hby d9_7) hr
  · show Q_rm9 Z _ _ h0 n0 _ T1.heap _
    exact ⟨rfl, N2, (K3), hq1_0, hq1_1, hq1_2⟩
theorem d16_0 : decode jdk_41_method_13_code 0 = .ok (.iload_n 2, 1) := by decide +kernel
theorem d16_1 : decode jdk_41_method_13_code 1 = .ok (.iload_n 0, 1) := by decide +kernel
theorem d16_2 : decode jdk_41_method_13_code 2 = .ok (.ior, 1) := by decide +kernel
theorem d16_3 : decode jdk_41_method_13_code 3 = .ok (.iload_n 1, 1) := by decide +kernel
theorem d16_4 : decode jdk_41_method_13_code 4 = .ok (.ior, 1) := by decide +kernel
theorem d16_5 : decode jdk_41_method_13_code 5 = .ok (.ifCond .lt 10, 3) := by decide +kernel
theorem d16_8 : decode jdk_41_method_13_code 8 = .ok (.iload_n 1, 1) := by decide +kernel
theorem d16_9 : decode jdk_41_method_13_code 9 = .ok (.iload_n 2, 1) := by decide +kernel
theorem d16_10 : decode jdk_41_method_13_code 10 = .ok (.iload_n 0, 1) := by decide +kernel
theorem d16_11 : decode jdk_41_method_13_code 11 = .ok (.isub, 1) := by decide +kernel
theorem d16_12 : decode jdk_41_method_13_code 12 = .ok (.if_icmp .le 11, 3) := by decide +kernel
theorem d16_23 : decode jdk_41_method_13_code 23 = .ok (.iload_n 0, 1) := by decide +kernel
theorem d16_24 : decode jdk_41_method_13_code 24 = .ok (.ireturn, 1) := by decide +kernel
theorem pn_jdk_internal_util_Preconditions : plainName "jdk/internal/util/Preconditions" = true := by first | (simp [plainName, overriddenIn]; done) | decide +kernel
theorem ef_rm16 (m : MethodId) (x0 : Int32) (x1 : Int32) (x2 : Int32) : entryFrame m #[(.int x0), (.int x1), (.int x2), .null] 4 = mkF m 0 #[iv x0, iv x1, iv x2, .val .null] [] := by first | (simp [entryFrame, mkF, argsToLocals, Value.category]; done) | rfl
def Q_rm16 (Z : State) (of : Int32) (sz : Int32) (ln : Int32) (h0 : Heap) (n0 : Nat) (v : Option Value) (h : Heap) (L : List Loc) : Prop := v = some (.int of) ∧ Fr n0 L ∧ h = h0
set_option maxRecDepth 65536 in
set_option maxHeartbeats 40000000 in
theorem rm16 (l : Launch) (Z : State) (a0 : Array Value) (hw : ∀ d ∈ tables_1, d.before a0 Z = true) (ws : List Jvm.Cond) (of : Int32) (sz : Int32) (ln : Int32) (h0 : Heap) (n0 : Nat) (Z0 : n0 ≤ h0.size) (h1 : ¬ (((ln ||| of) ||| sz) < (0 : Int32))) (h2 : ¬ ((ln - of) < sz)) :
    MetFree l (⟨"jdk/internal/util/Preconditions", "checkFromIndexSize", "(IIILjava/util/function/BiFunction;)I"⟩ : MethodName) (head1 (Jvm.Cond.code (⟨"jdk/internal/util/Preconditions", "checkFromIndexSize", "(IIILjava/util/function/BiFunction;)I"⟩ : MethodName) jdk_41_method_13_code 4 (some .int) :: ws) ({ frames := 0, cells := 0, slots := 0, locals := 0 } : Room)) (fun a U => a = #[(.int of), (.int sz), (.int ln), .null] ∧ Z.Warmed39 U.vm ∧ U.heap = h0) (fun _ _ _ _ _ => True) (fun _ U o U' => ∃ v L, o = .returned v ∧ Q_rm16 Z of sz ln h0 n0 v U'.heap L ∧ FrameEnd U o U' L ({ frames := 0, cells := 0, slots := 0, locals := 0 } : Room).cells ({ frames := 0, cells := 0, slots := 0, locals := 0 } : Room).slots) := by
  refine MetFree.of_bodySF (plainFor_of_name pn_jdk_internal_util_Preconditions) hisR ?_
  intro p e s m args below meth c s₁ Bd hml0 hP hK
  obtain ⟨rfl, hZ, hh⟩ := hP
  have hx := Bd.exec
  have hby := Bd.bytes
  have hml : c.maxLocals = 4 := hml0
  have hown : s.vm.findClass "jdk/internal/util/Preconditions" = some m.cls := findClass_of_methodNamed Bd.named
  have hnm := (name_of_methodNamed Bd.named Bd.method).1
  have X0 : Stand p l e ({ frames := 0, cells := 0, slots := 0, locals := 0 } : Room) s m #[(.int of), (.int sz), (.int ln), .null] below meth c s₁ [] 0 0 := Stand.of_body Bd
  have e0 : s₁.heap = h0 := by rw [← hh, Bd.state]; rfl
  have N0 := Fr.nil n0
  have pre0 : ∀ t, Steps p.tables e below (s₁.setTop (mkF m 0 #[iv of, iv sz, iv ln, .val .null] [])) t → Steps p.tables e below (s₁.setTop (entryFrame m #[(.int of), (.int sz), (.int ln), .null] 4)) t := fun t k => castTop (ef_rm16 m of sz ln) k
  obtain ⟨fs, hr, hrun, hended, hW, hsame⟩ := X0.leave (v := some (.int of)) (fun h => by rw [Bd.returns] at h; cases h)
  refine ⟨_, _, pre0 _ ?_, hrun, hended, _, _, rfl, ?_, ⟨_, rfl⟩, hW, hsame.mono (by decide) (by decide)⟩
  · show Steps p.tables e below (s₁.setTop (mkF m 0 #[iv of, iv sz, iv ln, .val .null] [])) _
    refine XS.iloadN X0.here hx rfl (hb hby d16_0) rfl ?_
    show Steps p.tables e below (s₁.setTop (mkF m 1 #[iv of, iv sz, iv ln, .val .null] [(.int ln)])) _
    refine XS.iloadN X0.here hx rfl (hb hby d16_1) rfl ?_
    show Steps p.tables e below (s₁.setTop (mkF m 2 #[iv of, iv sz, iv ln, .val .null] [(.int of), (.int ln)])) _
    refine XS.ior X0.here hx rfl (hb hby d16_2) rfl ?_
    show Steps p.tables e below (s₁.setTop (mkF m 3 #[iv of, iv sz, iv ln, .val .null] [(.int (ln ||| of))])) _
    refine XS.iloadN X0.here hx rfl (hb hby d16_3) rfl ?_
    show Steps p.tables e below (s₁.setTop (mkF m 4 #[iv of, iv sz, iv ln, .val .null] [(.int sz), (.int (ln ||| of))])) _
    refine XS.ior X0.here hx rfl (hb hby d16_4) rfl ?_
    show Steps p.tables e below (s₁.setTop (mkF m 5 #[iv of, iv sz, iv ln, .val .null] [(.int ((ln ||| of) ||| sz))])) _
    refine XS.ifNo X0.here hx rfl (hb hby d16_5) rfl ((if0 _ _).trans (flt h1).1) ?_
    show Steps p.tables e below (s₁.setTop (mkF m 8 #[iv of, iv sz, iv ln, .val .null] [])) _
    refine XS.iloadN X0.here hx rfl (hb hby d16_8) rfl ?_
    show Steps p.tables e below (s₁.setTop (mkF m 9 #[iv of, iv sz, iv ln, .val .null] [(.int sz)])) _
    refine XS.iloadN X0.here hx rfl (hb hby d16_9) rfl ?_
    show Steps p.tables e below (s₁.setTop (mkF m 10 #[iv of, iv sz, iv ln, .val .null] [(.int ln), (.int sz)])) _
    refine XS.iloadN X0.here hx rfl (hb hby d16_10) rfl ?_
    show Steps p.tables e below (s₁.setTop (mkF m 11 #[iv of, iv sz, iv ln, .val .null] [(.int of), (.int ln), (.int sz)])) _
    refine XS.isub X0.here hx rfl (hb hby d16_11) rfl ?_
    show Steps p.tables e below (s₁.setTop (mkF m 12 #[iv of, iv sz, iv ln, .val .null] [(.int (ln - of)), (.int sz)])) _
    refine XS.icmpYes X0.here hx rfl (pc0 := 12) (pc' := 23) rfl (hb hby d16_12) rfl (flt h2).2.2.2 (by decide) (by decide) ?_
    show Steps p.tables e below (s₁.setTop (mkF m 23 #[iv of, iv sz, iv ln, .val .null] [])) _
    refine XS.iloadN X0.here hx rfl (hb hby d16_23) rfl ?_
    show Steps p.tables e below (s₁.setTop (mkF m 24 #[iv of, iv sz, iv ln, .val .null] [(.int of)])) _
    exact retI X0 hx Bd.returns (hb hby d16_24) hr
  · show Q_rm16 Z _ _ _ h0 n0 _ s₁.heap _
    rw [e0]
    exact ⟨rfl, N0, rfl⟩
theorem d15_0 : decode jdk_31_method_19_code 0 = .ok (.iload_n 0, 1) := by decide +kernel
theorem d15_1 : decode jdk_31_method_19_code 1 = .ok (.iload_n 1, 1) := by decide +kernel
theorem d15_2 : decode jdk_31_method_19_code 2 = .ok (.iload_n 2, 1) := by decide +kernel
theorem d15_3 : decode jdk_31_method_19_code 3 = .ok (.aconst_null, 1) := by decide +kernel
theorem pd_12 : parseMethodDescriptor "(IIILjava/util/function/BiFunction;)I" = some ⟨[.int, .int, .int, (.object "java/util/function/BiFunction")], some .int⟩ := by decide +kernel
theorem d15_4 : decode jdk_31_method_19_code 4 = .ok (.invokestatic 115, 3) := by decide +kernel
theorem d15_7 : decode jdk_31_method_19_code 7 = .ok (.ireturn, 1) := by decide +kernel
theorem pn_java_util_Objects : plainName "java/util/Objects" = true := by first | (simp [plainName, overriddenIn]; done) | decide +kernel
theorem ef_rm15 (m : MethodId) (x0 : Int32) (x1 : Int32) (x2 : Int32) : entryFrame m #[(.int x0), (.int x1), (.int x2)] 3 = mkF m 0 #[iv x0, iv x1, iv x2] [] := by first | (simp [entryFrame, mkF, argsToLocals, Value.category]; done) | rfl
def Q_rm15 (Z : State) (of : Int32) (sz : Int32) (ln : Int32) (h0 : Heap) (n0 : Nat) (v : Option Value) (h : Heap) (L : List Loc) : Prop := v = some (.int of) ∧ Fr n0 L ∧ h = h0
set_option maxRecDepth 65536 in
set_option maxHeartbeats 40000000 in
theorem rm15 (l : Launch) (Z : State) (a0 : Array Value) (hw : ∀ d ∈ tables_1, d.before a0 Z = true) (ws : List Jvm.Cond) (of : Int32) (sz : Int32) (ln : Int32) (h0 : Heap) (n0 : Nat) (Z0 : n0 ≤ h0.size) (h1 : ¬ (((ln ||| of) ||| sz) < (0 : Int32))) (h2 : ¬ ((ln - of) < sz)) :
    MetFree l (⟨"java/util/Objects", "checkFromIndexSize", "(III)I"⟩ : MethodName) (head1 (Jvm.Cond.code (⟨"java/util/Objects", "checkFromIndexSize", "(III)I"⟩ : MethodName) jdk_31_method_19_code 3 (some .int) :: ws) ({ frames := 1, cells := 0, slots := 0, locals := 15 } : Room)) (fun a U => a = #[(.int of), (.int sz), (.int ln)] ∧ Z.Warmed39 U.vm ∧ U.heap = h0) (fun _ _ _ _ _ => True) (fun _ U o U' => ∃ v L, o = .returned v ∧ Q_rm15 Z of sz ln h0 n0 v U'.heap L ∧ FrameEnd U o U' L ({ frames := 1, cells := 0, slots := 0, locals := 15 } : Room).cells ({ frames := 1, cells := 0, slots := 0, locals := 15 } : Room).slots) := by
  refine MetFree.of_bodySF (plainFor_of_name pn_java_util_Objects) hisR ?_
  intro p e s m args below meth c s₁ Bd hml0 hP hK
  obtain ⟨rfl, hZ, hh⟩ := hP
  have hx := Bd.exec
  have hby := Bd.bytes
  have hml : c.maxLocals = 3 := hml0
  have hown : s.vm.findClass "java/util/Objects" = some m.cls := findClass_of_methodNamed Bd.named
  have hnm := (name_of_methodNamed Bd.named Bd.method).1
  have X0 : Stand p l e ({ frames := 1, cells := 0, slots := 0, locals := 15 } : Room) s m #[(.int of), (.int sz), (.int ln)] below meth c s₁ [] 0 0 := Stand.of_body Bd
  have e0 : s₁.heap = h0 := by rw [← hh, Bd.state]; rfl
  have N0 := Fr.nil n0
  have pre0 : ∀ t, Steps p.tables e below (s₁.setTop (mkF m 0 #[iv of, iv sz, iv ln] [])) t → Steps p.tables e below (s₁.setTop (entryFrame m #[(.int of), (.int sz), (.int ln)] 3)) t := fun t k => castTop (ef_rm15 m of sz ln) k
  have wo88 := hw _ (List.mem_of_getElem? (i := 88) rfl)
  have wo89 := hw _ (List.mem_of_getElem? (i := 89) rfl)
  have wo90 := hw _ (List.mem_of_getElem? (i := 90) rfl)
  have wo91 := hw _ (List.mem_of_getElem? (i := 91) rfl)
  obtain ⟨_, _, ⟨T1, L1, k1, n1⟩, -, X1, ⟨Lc1, hQ1, l1, y1, z1⟩, st1⟩ := Jvm.LawKit.callS X0 hx (y := MN16) hown (mvT hZ wo88) (mvT hZ wo89) (mvT hZ wo90) (mvT hZ wo91) (by decide) (backOf (W := 0) (rm16 l Z a0 hw [] of sz ln h0 n0 Z0 (h1 : ¬ (((ln ||| of) ||| sz) < (0 : Int32))) (h2 : ¬ ((ln - of) < sz))) hZ wo91 wo90 (by decide) (by decide)) (g := (mkF m 4 #[iv of, iv sz, iv ln] [.null, (.int ln), (.int sz), (.int of)])) rfl (by rw [hml]; rfl) (argsL := [(.int of), (.int sz), (.int ln), .null]) (rest := []) (lenOf pd_12 rfl) rfl (by show 2 * 0 + _ ≤ _; exact Nat.le_of_eq rfl) (hb hby d15_4) (fun _ _ => ⟨rfl, e0, (by decide : 0 + 0 ≤ _), (by decide : 0 + 0 ≤ _)⟩)
  dsimp only [Pt.U, Pt.locs, Pt.cells, Pt.slots] at X1 l1 y1 z1 st1 hQ1
  subst l1 y1 z1
  obtain ⟨rfl, N1q, K1q⟩ := hQ1
  have N2 := Fr.app N0 N1q
  obtain ⟨fs, hr, hrun, hended, hW, hsame⟩ := X1.leave (v := some (.int of)) (fun h => by rw [Bd.returns] at h; cases h)
  refine ⟨_, _, pre0 _ ?_, hrun, hended, _, _, rfl, ?_, ⟨_, rfl⟩, hW, hsame.mono (by decide) (by decide)⟩
  · show Steps p.tables e below (s₁.setTop (mkF m 0 #[iv of, iv sz, iv ln] [])) _
    refine XS.iloadN X0.here hx rfl (hb hby d15_0) rfl ?_
    show Steps p.tables e below (s₁.setTop (mkF m 1 #[iv of, iv sz, iv ln] [(.int of)])) _
    refine XS.iloadN X0.here hx rfl (hb hby d15_1) rfl ?_
    show Steps p.tables e below (s₁.setTop (mkF m 2 #[iv of, iv sz, iv ln] [(.int sz), (.int of)])) _
    refine XS.iloadN X0.here hx rfl (hb hby d15_2) rfl ?_
    show Steps p.tables e below (s₁.setTop (mkF m 3 #[iv of, iv sz, iv ln] [(.int ln), (.int sz), (.int of)])) _
    refine XS.aconstNull X0.here hx rfl (hb hby d15_3) ?_
    show Steps p.tables e below (s₁.setTop (mkF m 4 #[iv of, iv sz, iv ln] [.null, (.int ln), (.int sz), (.int of)])) _
    refine st1 _ ?_
    show Steps p.tables e below (T1.setTop (mkF m 7 #[iv of, iv sz, iv ln] [(.int of)])) _
    exact retI X1 hx Bd.returns (hb hby d15_7) hr
  · show Q_rm15 Z _ _ _ h0 n0 _ T1.heap _
    rw [K1q]
    exact ⟨rfl, N2, rfl⟩
theorem d17_0 : decode jdk_65_method_132_code 0 = .ok (.iload_n 1, 1) := by decide +kernel
theorem d17_1 : decode jdk_65_method_132_code 1 = .ok (.ifCond .ne 9, 3) := by decide +kernel
theorem d17_4 : decode jdk_65_method_132_code 4 = .ok (.iload_n 2, 1) := by decide +kernel
theorem d17_5 : decode jdk_65_method_132_code 5 = .ok (.aload_n 0, 1) := by decide +kernel
theorem d17_6 : decode jdk_65_method_132_code 6 = .ok (.arraylength, 1) := by decide +kernel
theorem d17_7 : decode jdk_65_method_132_code 7 = .ok (.if_icmp .eq 10, 3) := by decide +kernel
theorem d17_17 : decode jdk_65_method_132_code 17 = .ok (.aload_n 0, 1) := by decide +kernel
theorem d17_18 : decode jdk_65_method_132_code 18 = .ok (.invokevirtual 310, 3) := by decide +kernel
theorem d17_21 : decode jdk_65_method_132_code 21 = .ok (.checkcast 311, 3) := by decide +kernel
theorem d17_24 : decode jdk_65_method_132_code 24 = .ok (.areturn, 1) := by decide +kernel
theorem pn_java_util_Arrays : plainName "java/util/Arrays" = true := by first | (simp [plainName, overriddenIn]; done) | decide +kernel
theorem ef_rm17 (m : MethodId) (x0 : Addr) (x1 : Int32) (x2 : Int32) : entryFrame m #[(.ref x0), (.int x1), (.int x2)] 3 = mkF m 0 #[rv x0, iv x1, iv x2] [] := by first | (simp [entryFrame, mkF, argsToLocals, Value.category]; done) | rfl
def Q_rm17 (Z : State) (ky : Addr) (x0 : Int32) (h0 : Heap) (n0 : Nat) (v : Option Value) (h : Heap) (L : List Loc) : Prop := ∃ (b : Addr), v = some (.ref b) ∧ Fr n0 L ∧ Keep h0 h [] ∧ (h0.size ≤ b) ∧ (Av Z h b .byte (1 : Int32) [(.int x0)] (.int (0 : Int32)))
set_option maxRecDepth 65536 in
set_option maxHeartbeats 40000000 in
theorem rm17 (l : Launch) (Z : State) (a0 : Array Value) (hw : ∀ d ∈ tables_1, d.before a0 Z = true) (ws : List Jvm.Cond) (ky : Addr) (x0 : Int32) (h0 : Heap) (n0 : Nat) (Z0 : n0 ≤ h0.size) (pf_E_ky : Exa Z h0 ky "[B") (pf_A_ky : Av Z h0 ky .byte (1 : Int32) [(.int x0)] (.int (0 : Int32))) :
    MetFree l (⟨"java/util/Arrays", "copyOfRange", "([BII)[B"⟩ : MethodName) (head1 (Jvm.Cond.code (⟨"java/util/Arrays", "copyOfRange", "([BII)[B"⟩ : MethodName) jdk_65_method_132_code 3 (some (.array .byte)) :: ws) ({ frames := 1, cells := 1, slots := 1, locals := 14 } : Room)) (fun a U => a = #[(.ref ky), (.int (0 : Int32)), (.int (1 : Int32))] ∧ Z.Warmed39 U.vm ∧ U.heap = h0) (fun _ _ _ _ _ => True) (fun _ U o U' => ∃ v L, o = .returned v ∧ Q_rm17 Z ky x0 h0 n0 v U'.heap L ∧ FrameEnd U o U' L ({ frames := 1, cells := 1, slots := 1, locals := 14 } : Room).cells ({ frames := 1, cells := 1, slots := 1, locals := 14 } : Room).slots) := by
  refine MetFree.of_bodySF (plainFor_of_name pn_java_util_Arrays) hisR ?_
  intro p e s m args below meth c s₁ Bd hml0 hP hK
  obtain ⟨rfl, hZ, hh⟩ := hP
  have hx := Bd.exec
  have hby := Bd.bytes
  have hml : c.maxLocals = 3 := hml0
  have hown : s.vm.findClass "java/util/Arrays" = some m.cls := findClass_of_methodNamed Bd.named
  have hnm := (name_of_methodNamed Bd.named Bd.method).1
  have X0 : Stand p l e ({ frames := 1, cells := 1, slots := 1, locals := 14 } : Room) s m #[(.ref ky), (.int (0 : Int32)), (.int (1 : Int32))] below meth c s₁ [] 0 0 := Stand.of_body Bd
  have e0 : s₁.heap = h0 := by rw [← hh, Bd.state]; rfl
  have N0 := Fr.nil n0
  have pre0 : ∀ t, Steps p.tables e below (s₁.setTop (mkF m 0 #[rv ky, iv (0 : Int32), iv (1 : Int32)] [])) t → Steps p.tables e below (s₁.setTop (entryFrame m #[(.ref ky), (.int (0 : Int32)), (.int (1 : Int32))] 3)) t := fun t k => castTop (ef_rm17 m ky (0 : Int32) (1 : Int32)) k
  have wo96 := hw _ (List.mem_of_getElem? (i := 96) rfl)
  have wo97 := hw _ (List.mem_of_getElem? (i := 97) rfl)
  have wo99 := hw _ (List.mem_of_getElem? (i := 99) rfl)
  have wo100 := hw _ (List.mem_of_getElem? (i := 100) rfl)
  have wo101 := hw _ (List.mem_of_getElem? (i := 101) rfl)
  have wo102 := hw _ (List.mem_of_getElem? (i := 102) rfl)
  have wo103 := hw _ (List.mem_of_getElem? (i := 103) rfl)
  obtain ⟨kk1, cl1, Ar1, qq1, Sz1, Nn1, Hs1, Gf1⟩ := id pf_A_ky
  obtain ⟨kk2, Ac2⟩ := id pf_A_ky
  obtain ⟨T2, h2, X2, e2, E2, A2, B2, st2⟩ := cloneH X0 hx hZ hown wo96 wo97 wo101 wo99 wo100 wo102 e0 Ac2.arh pf_E_ky (g := (mkF m 18 #[rv ky, iv (0 : Int32), iv (1 : Int32)] [(.ref ky)])) rfl (by rw [hml]; rfl) rfl (hb hby d17_18) (by decide) (W := 0) (cap := 1) (by show 2 * 0 + _ ≤ _; exact Nat.le_of_eq rfl) (by decide) (by decide) (by decide) (by decide)
  obtain ⟨b2, gg2⟩ : ∃ z, z = h0.size := ⟨_, rfl⟩
  rw [← gg2] at A2 B2 st2
  have ne3 : ky ≠ b2 := Nat.ne_of_lt (Nat.lt_of_lt_of_le pf_E_ky.lt (Nat.le_of_eq gg2.symm))
  have g4 : n0 ≤ b2 := Nat.le_trans Z0 (Nat.le_of_eq gg2.symm)
  have bz5 : h0.size ≤ b2 := Nat.le_trans (Keep.refl h0 []).1 (Nat.le_of_eq gg2.symm)
  have K6 : Keep h0 h2 [] := (Keep.refl h0 []).ext E2
  have f7 : Av Z h2 b2 .byte (1 : Int32) [(.int x0)] (.int (0 : Int32)) := ⟨_, A2⟩
  obtain ⟨T8, X8, e8, st8⟩ := castY X2 hx hZ hown wo103 e2 (Ins.self B2) (g := (mkF m 21 #[rv ky, iv (0 : Int32), iv (1 : Int32)] [(.ref b2)])) rfl rfl (hb hby d17_21)
  obtain ⟨fs, hr, hrun, hended, hW, hsame⟩ := X8.leave (v := some (.ref b2)) (fun h => by rw [Bd.returns] at h; cases h)
  refine ⟨_, _, pre0 _ ?_, hrun, hended, _, _, rfl, ?_, ⟨_, rfl⟩, hW, hsame.mono (by decide) (by decide)⟩
  · show Steps p.tables e below (s₁.setTop (mkF m 0 #[rv ky, iv (0 : Int32), iv (1 : Int32)] [])) _
    refine XS.iloadN X0.here hx rfl (hb hby d17_0) rfl ?_
    show Steps p.tables e below (s₁.setTop (mkF m 1 #[rv ky, iv (0 : Int32), iv (1 : Int32)] [(.int (0 : Int32))])) _
    refine XS.ifNo X0.here hx rfl (hb hby d17_1) rfl ((if0 _ _).trans (teq (by decide : (0 : Int32) = (0 : Int32))).2) ?_
    show Steps p.tables e below (s₁.setTop (mkF m 4 #[rv ky, iv (0 : Int32), iv (1 : Int32)] [])) _
    refine XS.iloadN X0.here hx rfl (hb hby d17_4) rfl ?_
    show Steps p.tables e below (s₁.setTop (mkF m 5 #[rv ky, iv (0 : Int32), iv (1 : Int32)] [(.int (1 : Int32))])) _
    refine XS.aloadN X0.here hx rfl (hb hby d17_5) rfl rfl ?_
    show Steps p.tables e below (s₁.setTop (mkF m 6 #[rv ky, iv (0 : Int32), iv (1 : Int32)] [(.ref ky), (.int (1 : Int32))])) _
    refine X0.arraylength hx (by rw [e0]; exact Ar1.1) (State.isArrayOf_alike hZ.alike Ar1.2.1) (g := (mkF m 6 #[rv ky, iv (0 : Int32), iv (1 : Int32)] [(.ref ky), (.int (1 : Int32))])) rfl rfl (hb hby d17_6) _ ?_
    rw [len_of Sz1 Nn1]
    show Steps p.tables e below (s₁.setTop (mkF m 7 #[rv ky, iv (0 : Int32), iv (1 : Int32)] [(.int (1 : Int32)), (.int (1 : Int32))])) _
    refine XS.icmpYes X0.here hx rfl (pc0 := 7) (pc' := 17) rfl (hb hby d17_7) rfl (teq (by decide : (1 : Int32) = (1 : Int32))).1 (by decide) (by decide) ?_
    show Steps p.tables e below (s₁.setTop (mkF m 17 #[rv ky, iv (0 : Int32), iv (1 : Int32)] [])) _
    refine XS.aloadN X0.here hx rfl (hb hby d17_17) rfl rfl ?_
    show Steps p.tables e below (s₁.setTop (mkF m 18 #[rv ky, iv (0 : Int32), iv (1 : Int32)] [(.ref ky)])) _
    refine st2 _ ?_
    show Steps p.tables e below (T2.setTop (mkF m 21 #[rv ky, iv (0 : Int32), iv (1 : Int32)] [(.ref b2)])) _
    refine st8 _ ?_
    show Steps p.tables e below (T8.setTop (mkF m 24 #[rv ky, iv (0 : Int32), iv (1 : Int32)] [(.ref b2)])) _
    exact retOut X8 hx Bd.returns rfl (Or.inr (Or.inr (Or.inr (Or.inr ⟨rfl, rfl, rfl⟩)))) (hb hby d17_24) hr
  · show Q_rm17 Z _ _ h0 n0 _ T8.heap _
    rw [e8]
    exact ⟨b2, rfl, N0, (K6), bz5, f7⟩
theorem d13_0 : decode prog_14_method_5_code 0 = .ok (.aload_n 0, 1) := by decide +kernel
theorem d13_1 : decode prog_14_method_5_code 1 = .ok (.getfield 12, 3) := by decide +kernel
theorem d13_4 : decode prog_14_method_5_code 4 = .ok (.arraylength, 1) := by decide +kernel
theorem d13_5 : decode prog_14_method_5_code 5 = .ok (.aload_n 0, 1) := by decide +kernel
theorem d13_6 : decode prog_14_method_5_code 6 = .ok (.getfield 20, 3) := by decide +kernel
theorem d13_9 : decode prog_14_method_5_code 9 = .ok (.isub, 1) := by decide +kernel
theorem d13_10 : decode prog_14_method_5_code 10 = .ok (.ireturn, 1) := by decide +kernel
theorem ef_rm13 (m : MethodId) (x0 : Addr) : entryFrame m #[(.ref x0)] 1 = mkF m 0 #[rv x0] [] := by first | (simp [entryFrame, mkF, argsToLocals, Value.category]; done) | rfl
def Q_rm13 (Z : State) (a13_0 : Addr) (ky : Addr) (h0 : Heap) (n0 : Nat) (v : Option Value) (h : Heap) (L : List Loc) : Prop := v = some (.int ((1 : Int32) - (0 : Int32))) ∧ Fr n0 L ∧ h = h0
set_option maxRecDepth 65536 in
set_option maxHeartbeats 40000000 in
theorem rm13 (l : Launch) (Z : State) (a0 : Array Value) (hw : ∀ d ∈ tables_1, d.before a0 Z = true) (ws : List Jvm.Cond) (a13_0 : Addr) (ky : Addr) (h0 : Heap) (n0 : Nat) (Z0 : n0 ≤ h0.size) (pf_F_a13_0_key : Fld Z h0 a13_0 "com/example/dido/dido/keys/KeyReader" "key" "[B" (.ref ky)) (pf_F_a13_0_position : Fld Z h0 a13_0 "com/example/dido/dido/keys/KeyReader" "position" "I" (.int (0 : Int32))) (pf_L_ky : Al Z h0 ky .byte (1 : Int32)) :
    MetFree l (⟨"com/example/dido/dido/keys/KeyReader", "remaining", "()I"⟩ : MethodName) (head1 (Jvm.Cond.code (⟨"com/example/dido/dido/keys/KeyReader", "remaining", "()I"⟩ : MethodName) prog_14_method_5_code 1 (some .int) :: ws) ({ frames := 0, cells := 0, slots := 0, locals := 0 } : Room)) (fun a U => a = #[(.ref a13_0)] ∧ Z.Warmed39 U.vm ∧ U.heap = h0) (fun _ _ _ _ _ => True) (fun _ U o U' => ∃ v L, o = .returned v ∧ Q_rm13 Z a13_0 ky h0 n0 v U'.heap L ∧ FrameEnd U o U' L ({ frames := 0, cells := 0, slots := 0, locals := 0 } : Room).cells ({ frames := 0, cells := 0, slots := 0, locals := 0 } : Room).slots) := by
  refine MetFree.of_bodySF (plainFor_of_name pn_com_example_dido_dido_keys_KeyReader) hisR ?_
  intro p e s m args below meth c s₁ Bd hml0 hP hK
  obtain ⟨rfl, hZ, hh⟩ := hP
  have hx := Bd.exec
  have hby := Bd.bytes
  have hml : c.maxLocals = 1 := hml0
  have hown : s.vm.findClass "com/example/dido/dido/keys/KeyReader" = some m.cls := findClass_of_methodNamed Bd.named
  have hnm := (name_of_methodNamed Bd.named Bd.method).1
  have X0 : Stand p l e ({ frames := 0, cells := 0, slots := 0, locals := 0 } : Room) s m #[(.ref a13_0)] below meth c s₁ [] 0 0 := Stand.of_body Bd
  have e0 : s₁.heap = h0 := by rw [← hh, Bd.state]; rfl
  have N0 := Fr.nil n0
  have pre0 : ∀ t, Steps p.tables e below (s₁.setTop (mkF m 0 #[rv a13_0] [])) t → Steps p.tables e below (s₁.setTop (entryFrame m #[(.ref a13_0)] 1)) t := fun t k => castTop (ef_rm13 m a13_0) k
  have wo57 := hw _ (List.mem_of_getElem? (i := 57) rfl)
  have wo61 := hw _ (List.mem_of_getElem? (i := 61) rfl)
  obtain ⟨T1, X1, e1, st1⟩ := getF X0 hx hZ hown (host := "") (Or.inl wo57) Via.refl e0 pf_F_a13_0_key (g := (mkF m 1 #[rv a13_0] [(.ref a13_0)])) rfl rfl (hb hby d13_1)
  obtain ⟨cl2, Ar2, Sz2, Nn2⟩ := id pf_L_ky
  obtain ⟨T3, X3, e3, st3⟩ := getF X1 hx hZ hown (host := "") (Or.inl wo61) Via.refl e1 pf_F_a13_0_position (g := (mkF m 6 #[rv a13_0] [(.ref a13_0), (.int (1 : Int32))])) rfl rfl (hb hby d13_6)
  obtain ⟨fs, hr, hrun, hended, hW, hsame⟩ := X3.leave (v := some (.int (1 : Int32))) (fun h => by rw [Bd.returns] at h; cases h)
  refine ⟨_, _, pre0 _ ?_, hrun, hended, _, _, rfl, ?_, ⟨_, rfl⟩, hW, hsame.mono (by decide) (by decide)⟩
  · show Steps p.tables e below (s₁.setTop (mkF m 0 #[rv a13_0] [])) _
    refine XS.aloadN X0.here hx rfl (hb hby d13_0) rfl rfl ?_
    show Steps p.tables e below (s₁.setTop (mkF m 1 #[rv a13_0] [(.ref a13_0)])) _
    refine st1 _ ?_
    show Steps p.tables e below (T1.setTop (mkF m 4 #[rv a13_0] [(.ref ky)])) _
    refine X1.arraylength hx (by rw [e1]; exact Ar2.1) (State.isArrayOf_alike hZ.alike Ar2.2.1) (g := (mkF m 4 #[rv a13_0] [(.ref ky)])) rfl rfl (hb hby d13_4) _ ?_
    rw [len_of Sz2 Nn2]
    show Steps p.tables e below (T1.setTop (mkF m 5 #[rv a13_0] [(.int (1 : Int32))])) _
    refine XS.aloadN X1.here hx rfl (hb hby d13_5) rfl rfl ?_
    show Steps p.tables e below (T1.setTop (mkF m 6 #[rv a13_0] [(.ref a13_0), (.int (1 : Int32))])) _
    refine st3 _ ?_
    show Steps p.tables e below (T3.setTop (mkF m 9 #[rv a13_0] [(.int (0 : Int32)), (.int (1 : Int32))])) _
    refine XS.isub X3.here hx rfl (hb hby d13_9) rfl ?_
    show Steps p.tables e below (T3.setTop (mkF m 10 #[rv a13_0] [(.int (1 : Int32))])) _
    exact retI X3 hx Bd.returns (hb hby d13_10) hr
  · show Q_rm13 Z _ _ h0 n0 _ T3.heap _
    rw [e3]
    exact ⟨(by first | rfl | (simp [*]; done) | (simp_all; done)), N0, rfl⟩
theorem d14_0 : decode prog_14_method_7_code 0 = .ok (.aload_n 0, 1) := by decide +kernel
theorem d14_1 : decode prog_14_method_7_code 1 = .ok (.getfield 20, 3) := by decide +kernel
theorem d14_4 : decode prog_14_method_7_code 4 = .ok (.iload_n 1, 1) := by decide +kernel
theorem d14_5 : decode prog_14_method_7_code 5 = .ok (.aload_n 0, 1) := by decide +kernel
theorem d14_6 : decode prog_14_method_7_code 6 = .ok (.getfield 12, 3) := by decide +kernel
theorem d14_9 : decode prog_14_method_7_code 9 = .ok (.arraylength, 1) := by decide +kernel
theorem pd_11 : parseMethodDescriptor "(III)I" = some ⟨[.int, .int, .int], some .int⟩ := by decide +kernel
theorem d14_10 : decode prog_14_method_7_code 10 = .ok (.invokestatic 29, 3) := by decide +kernel
theorem d14_13 : decode prog_14_method_7_code 13 = .ok (.pop, 1) := by decide +kernel
theorem d14_14 : decode prog_14_method_7_code 14 = .ok (.aload_n 0, 1) := by decide +kernel
theorem d14_15 : decode prog_14_method_7_code 15 = .ok (.getfield 12, 3) := by decide +kernel
theorem d14_18 : decode prog_14_method_7_code 18 = .ok (.aload_n 0, 1) := by decide +kernel
theorem d14_19 : decode prog_14_method_7_code 19 = .ok (.getfield 20, 3) := by decide +kernel
theorem d14_22 : decode prog_14_method_7_code 22 = .ok (.aload_n 0, 1) := by decide +kernel
theorem d14_23 : decode prog_14_method_7_code 23 = .ok (.getfield 20, 3) := by decide +kernel
theorem d14_26 : decode prog_14_method_7_code 26 = .ok (.iload_n 1, 1) := by decide +kernel
theorem d14_27 : decode prog_14_method_7_code 27 = .ok (.iadd, 1) := by decide +kernel
theorem pd_20 : parseMethodDescriptor "([BII)[B" = some ⟨[(.array .byte), .int, .int], some (.array .byte)⟩ := by decide +kernel
theorem d14_28 : decode prog_14_method_7_code 28 = .ok (.invokestatic 35, 3) := by decide +kernel
theorem d14_31 : decode prog_14_method_7_code 31 = .ok (.astore_n 2, 1) := by decide +kernel
theorem d14_32 : decode prog_14_method_7_code 32 = .ok (.iconst 0, 1) := by decide +kernel
theorem d14_33 : decode prog_14_method_7_code 33 = .ok (.istore_n 3, 1) := by decide +kernel
theorem d14_34 : decode prog_14_method_7_code 34 = .ok (.iload_n 3, 1) := by decide +kernel
theorem d14_35 : decode prog_14_method_7_code 35 = .ok (.iload_n 1, 1) := by decide +kernel
theorem d14_36 : decode prog_14_method_7_code 36 = .ok (.if_icmp .ge 20, 3) := by decide +kernel
theorem d14_39 : decode prog_14_method_7_code 39 = .ok (.aload_n 2, 1) := by decide +kernel
theorem d14_40 : decode prog_14_method_7_code 40 = .ok (.iload_n 3, 1) := by decide +kernel
theorem d14_41 : decode prog_14_method_7_code 41 = .ok (.dup2, 1) := by decide +kernel
theorem d14_42 : decode prog_14_method_7_code 42 = .ok (.baload, 1) := by decide +kernel
theorem d14_43 : decode prog_14_method_7_code 43 = .ok (.aload_n 0, 1) := by decide +kernel
theorem d14_44 : decode prog_14_method_7_code 44 = .ok (.getfield 16, 3) := by decide +kernel
theorem d14_47 : decode prog_14_method_7_code 47 = .ok (.ixor, 1) := by decide +kernel
theorem d14_48 : decode prog_14_method_7_code 48 = .ok (.i2b, 1) := by decide +kernel
theorem d14_49 : decode prog_14_method_7_code 49 = .ok (.bastore, 1) := by decide +kernel
theorem d14_50 : decode prog_14_method_7_code 50 = .ok (.iinc 3 1, 3) := by decide +kernel
theorem d14_53 : decode prog_14_method_7_code 53 = .ok (.goto (-19), 3) := by decide +kernel
theorem d14_56 : decode prog_14_method_7_code 56 = .ok (.aload_n 0, 1) := by decide +kernel
theorem d14_57 : decode prog_14_method_7_code 57 = .ok (.dup, 1) := by decide +kernel
theorem d14_58 : decode prog_14_method_7_code 58 = .ok (.getfield 20, 3) := by decide +kernel
theorem d14_61 : decode prog_14_method_7_code 61 = .ok (.iload_n 1, 1) := by decide +kernel
theorem d14_62 : decode prog_14_method_7_code 62 = .ok (.iadd, 1) := by decide +kernel
theorem d14_63 : decode prog_14_method_7_code 63 = .ok (.putfield 20, 3) := by decide +kernel
theorem d14_66 : decode prog_14_method_7_code 66 = .ok (.aload_n 2, 1) := by decide +kernel
theorem d14_67 : decode prog_14_method_7_code 67 = .ok (.areturn, 1) := by decide +kernel
theorem ef_rm14 (m : MethodId) (x0 : Addr) (x1 : Int32) : entryFrame m #[(.ref x0), (.int x1)] 4 = mkF m 0 #[rv x0, iv x1, .unset, .unset] [] := by first | (simp [entryFrame, mkF, argsToLocals, Value.category]; done) | rfl
def Q_rm14 (Z : State) (a14_0 : Addr) (ky : Addr) (x0 : Int32) (h0 : Heap) (n0 : Nat) (v : Option Value) (h : Heap) (L : List Loc) : Prop := ∃ (b : Addr), v = some (.ref b) ∧ Fr n0 L ∧ Keep h0 h [a14_0] ∧ (h0.size ≤ b) ∧ (Av Z h b .byte (1 : Int32) [(.int (nar .byte (x0.toInt8.toInt32)))] (.int (0 : Int32)))
set_option maxRecDepth 65536 in
set_option maxHeartbeats 40000000 in
theorem rm14 (l : Launch) (Z : State) (a0 : Array Value) (hw : ∀ d ∈ tables_1, d.before a0 Z = true) (ws : List Jvm.Cond) (a14_0 : Addr) (ky : Addr) (x0 : Int32) (h0 : Heap) (n0 : Nat) (Z0 : n0 ≤ h0.size) (pf_E_a14_0 : Exa Z h0 a14_0 "com/example/dido/dido/keys/KeyReader") (pf_G_a14_0 : n0 ≤ a14_0) (pf_E_ky : Exa Z h0 ky "[B") (pf_A_ky : Av Z h0 ky .byte (1 : Int32) [(.int x0)] (.int (0 : Int32))) (pf_NE_a14_0_ky : a14_0 ≠ ky) (pf_F_a14_0_key : Fld Z h0 a14_0 "com/example/dido/dido/keys/KeyReader" "key" "[B" (.ref ky)) (pf_F_a14_0_mask : Fld Z h0 a14_0 "com/example/dido/dido/keys/KeyReader" "mask" "I" (.int (0 : Int32))) (pf_F_a14_0_position : Fld Z h0 a14_0 "com/example/dido/dido/keys/KeyReader" "position" "I" (.int (0 : Int32))) :
    MetFree l (⟨"com/example/dido/dido/keys/KeyReader", "take", "(I)[B"⟩ : MethodName) (head1 (Jvm.Cond.code (⟨"com/example/dido/dido/keys/KeyReader", "take", "(I)[B"⟩ : MethodName) prog_14_method_7_code 4 (some (.array .byte)) :: ws) ({ frames := 2, cells := 1, slots := 1, locals := 29 } : Room)) (fun a U => a = #[(.ref a14_0), (.int (1 : Int32))] ∧ Z.Warmed39 U.vm ∧ U.heap = h0) (fun _ _ _ _ _ => True) (fun _ U o U' => ∃ v L, o = .returned v ∧ Q_rm14 Z a14_0 ky x0 h0 n0 v U'.heap L ∧ FrameEnd U o U' L ({ frames := 2, cells := 1, slots := 1, locals := 29 } : Room).cells ({ frames := 2, cells := 1, slots := 1, locals := 29 } : Room).slots) := by
  refine MetFree.of_bodySF (plainFor_of_name pn_com_example_dido_dido_keys_KeyReader) hisR ?_
  intro p e s m args below meth c s₁ Bd hml0 hP hK
  obtain ⟨rfl, hZ, hh⟩ := hP
  have hx := Bd.exec
  have hby := Bd.bytes
  have hml : c.maxLocals = 4 := hml0
  have hown : s.vm.findClass "com/example/dido/dido/keys/KeyReader" = some m.cls := findClass_of_methodNamed Bd.named
  have hnm := (name_of_methodNamed Bd.named Bd.method).1
  have X0 : Stand p l e ({ frames := 2, cells := 1, slots := 1, locals := 29 } : Room) s m #[(.ref a14_0), (.int (1 : Int32))] below meth c s₁ [] 0 0 := Stand.of_body Bd
  have e0 : s₁.heap = h0 := by rw [← hh, Bd.state]; rfl
  have N0 := Fr.nil n0
  have pre0 : ∀ t, Steps p.tables e below (s₁.setTop (mkF m 0 #[rv a14_0, iv (1 : Int32), .unset, .unset] [])) t → Steps p.tables e below (s₁.setTop (entryFrame m #[(.ref a14_0), (.int (1 : Int32))] 4)) t := fun t k => castTop (ef_rm14 m a14_0 (1 : Int32)) k
  have wo48 := hw _ (List.mem_of_getElem? (i := 48) rfl)
  have wo57 := hw _ (List.mem_of_getElem? (i := 57) rfl)
  have wo59 := hw _ (List.mem_of_getElem? (i := 59) rfl)
  have wo61 := hw _ (List.mem_of_getElem? (i := 61) rfl)
  have wo62 := hw _ (List.mem_of_getElem? (i := 62) rfl)
  have wo84 := hw _ (List.mem_of_getElem? (i := 84) rfl)
  have wo85 := hw _ (List.mem_of_getElem? (i := 85) rfl)
  have wo86 := hw _ (List.mem_of_getElem? (i := 86) rfl)
  have wo87 := hw _ (List.mem_of_getElem? (i := 87) rfl)
  have wo92 := hw _ (List.mem_of_getElem? (i := 92) rfl)
  have wo93 := hw _ (List.mem_of_getElem? (i := 93) rfl)
  have wo94 := hw _ (List.mem_of_getElem? (i := 94) rfl)
  have wo95 := hw _ (List.mem_of_getElem? (i := 95) rfl)
  obtain ⟨T1, X1, e1, st1⟩ := getF X0 hx hZ hown (host := "") (Or.inl wo61) Via.refl e0 pf_F_a14_0_position (g := (mkF m 1 #[rv a14_0, iv (1 : Int32), .unset, .unset] [(.ref a14_0)])) rfl rfl (hb hby d14_1)
  obtain ⟨T2, X2, e2, st2⟩ := getF X1 hx hZ hown (host := "") (Or.inl wo57) Via.refl e1 pf_F_a14_0_key (g := (mkF m 6 #[rv a14_0, iv (1 : Int32), .unset, .unset] [(.ref a14_0), (.int (1 : Int32)), (.int (0 : Int32))])) rfl rfl (hb hby d14_6)
  obtain ⟨kk3, cl3, Ar3, qq3, Sz3, Nn3, Hs3, Gf3⟩ := id pf_A_ky
  obtain ⟨_, _, ⟨T4, L4, k4, n4⟩, -, X4, ⟨Lc4, hQ4, l4, y4, z4⟩, st4⟩ := Jvm.LawKit.callS X2 hx (y := MN15) hown (mvT hZ wo84) (mvT hZ wo85) (mvT hZ wo86) (mvT hZ wo87) (by decide) (backOf (W := 0) (rm15 l Z a0 hw [] (0 : Int32) (1 : Int32) (1 : Int32) h0 n0 Z0 (by first | decide | assumption | omega : ¬ ((((1 : Int32) ||| (0 : Int32)) ||| (1 : Int32)) < (0 : Int32))) (by first | decide | assumption | omega : ¬ (((1 : Int32) - (0 : Int32)) < (1 : Int32)))) hZ wo87 wo86 (by decide) (by decide)) (g := (mkF m 10 #[rv a14_0, iv (1 : Int32), .unset, .unset] [(.int (1 : Int32)), (.int (1 : Int32)), (.int (0 : Int32))])) rfl (by rw [hml]; rfl) (argsL := [(.int (0 : Int32)), (.int (1 : Int32)), (.int (1 : Int32))]) (rest := []) (lenOf pd_11 rfl) rfl (by show 2 * 0 + _ ≤ _; exact Nat.le_of_eq rfl) (hb hby d14_10) (fun _ _ => ⟨rfl, e2, (by decide : 0 + 0 ≤ _), (by decide : 0 + 0 ≤ _)⟩)
  dsimp only [Pt.U, Pt.locs, Pt.cells, Pt.slots] at X4 l4 y4 z4 st4 hQ4
  subst l4 y4 z4
  obtain ⟨rfl, N4q, K4q⟩ := hQ4
  have N5 := Fr.app N0 N4q
  obtain ⟨T6, X6, e6, st6⟩ := getF X4 hx hZ hown (host := "") (Or.inl wo57) Via.refl K4q pf_F_a14_0_key (g := (mkF m 15 #[rv a14_0, iv (1 : Int32), .unset, .unset] [(.ref a14_0)])) rfl rfl (hb hby d14_15)
  obtain ⟨T7, X7, e7, st7⟩ := getF X6 hx hZ hown (host := "") (Or.inl wo61) Via.refl e6 pf_F_a14_0_position (g := (mkF m 19 #[rv a14_0, iv (1 : Int32), .unset, .unset] [(.ref a14_0), (.ref ky)])) rfl rfl (hb hby d14_19)
  obtain ⟨T8, X8, e8, st8⟩ := getF X7 hx hZ hown (host := "") (Or.inl wo61) Via.refl e7 pf_F_a14_0_position (g := (mkF m 23 #[rv a14_0, iv (1 : Int32), .unset, .unset] [(.ref a14_0), (.int (0 : Int32)), (.ref ky)])) rfl rfl (hb hby d14_23)
  obtain ⟨_, _, ⟨T9, L9, k9, n9⟩, -, X9, ⟨Lc9, hQ9, l9, y9, z9⟩, st9⟩ := Jvm.LawKit.callS X8 hx (y := MN17) hown (mvT hZ wo92) (mvT hZ wo93) (mvT hZ wo94) (mvT hZ wo95) (by decide) (backOf (W := 0) (rm17 l Z a0 hw [] ky x0 h0 n0 Z0 pf_E_ky pf_A_ky) hZ wo95 wo94 (by decide) (by decide)) (g := (mkF m 28 #[rv a14_0, iv (1 : Int32), .unset, .unset] [(.int (1 : Int32)), (.int (0 : Int32)), (.ref ky)])) rfl (by rw [hml]; rfl) (argsL := [(.ref ky), (.int (0 : Int32)), (.int (1 : Int32))]) (rest := []) (lenOf pd_20 rfl) rfl (by show 2 * 0 + _ ≤ _; exact Nat.le_of_eq rfl) (hb hby d14_28) (fun _ _ => ⟨rfl, e8, (by decide : 0 + 1 ≤ _), (by decide : 0 + 1 ≤ _)⟩)
  dsimp only [Pt.U, Pt.locs, Pt.cells, Pt.slots] at X9 l9 y9 z9 st9 hQ9
  subst l9 y9 z9
  obtain ⟨b_9, rfl, N9q, K9q, hq9_0, hq9_1⟩ := hQ9
  have N10 := Fr.app N5 N9q
  have ne11 : a14_0 ≠ b_9 := Nat.ne_of_lt (Nat.lt_of_lt_of_le pf_E_a14_0.lt hq9_0)
  have ne12 : ky ≠ b_9 := Nat.ne_of_lt (Nat.lt_of_lt_of_le pf_E_ky.lt hq9_0)
  have g13 : n0 ≤ b_9 := Nat.le_trans Z0 hq9_0
  have bz14 : h0.size ≤ b_9 := Nat.le_trans (Keep.refl h0 [a14_0]).1 hq9_0
  have K15 : Keep h0 T9.heap [a14_0] := (Keep.refl h0 [a14_0]).trans K9q all0
  obtain ⟨kk16, cl16, Ar16, qq16, Sz16, Nn16, Hs16, Gf16⟩ := id hq9_1
  have hin17 : ¬ ((0 : Int32) < 0 ∨ cl16.slots.size ≤ ((0 : Int32)).toNatClampNeg) := inb_of Sz16 ⟨by decide, by decide⟩
  have hat18 : cl16.slots[((0 : Int32)).toNatClampNeg]? = some (.int x0) := Has.at Hs16 hin17 rfl
  have f19 := (pf_F_a14_0_mask.keep K9q nin0)
  obtain ⟨T20, X20, e20, st20⟩ := getF X9 hx hZ hown (host := "") (Or.inl wo59) Via.refl rfl f19 (g := (mkF m 44 #[rv a14_0, iv (1 : Int32), rv b_9, iv (0 : Int32)] [(.ref a14_0), (.int x0), (.int (0 : Int32)), (.ref b_9)])) rfl rfl (hb hby d14_44)
  have q21 : (x0 ^^^ (0 : Int32)) = x0 := own_x0 x0
  obtain ⟨kk22, cl22, Ar22, qq22, Sz22, Nn22, Hs22, Gf22⟩ := id hq9_1
  have hin23 : ¬ ((0 : Int32) < 0 ∨ cl22.slots.size ≤ ((0 : Int32)).toNatClampNeg) := inb_of Sz22 ⟨by decide, by decide⟩
  obtain ⟨T24, h24, X24, e24, W24, st24⟩ := stB X20 hx hZ e20 Ar22 (j := (0 : Int32)) hin23 (g := (mkF m 49 #[rv a14_0, iv (1 : Int32), rv b_9, iv (0 : Int32)] [(.int (x0.toInt8.toInt32)), (.int (0 : Int32)), (.ref b_9)])) rfl rfl (hb hby d14_49)
  have K25 : Keep h0 h24 [a14_0] := (K15).wr W24 (Or.inr bz14)
  have f26 : Av Z h24 b_9 .byte (1 : Int32) [(.int (nar .byte (x0.toInt8.toInt32)))] (.int (0 : Int32)) := ⟨_, Arv.set Ar22 qq22 Sz22 Nn22 Hs22 Gf22 (by first | rfl | exact fits_nar_byte _) W24 0 rfl (Nat.le_of_ble_eq_true rfl)⟩
  have N27 := Fr.snoc X24 N10 g13
  have f28 := ((pf_F_a14_0_position.keep K9q nin0).other W24 (Or.inl ne11))
  obtain ⟨T29, X29, e29, st29⟩ := getF X24 hx hZ hown (host := "") (Or.inl wo61) Via.refl e24 f28 (g := (mkF m 58 #[rv a14_0, iv (1 : Int32), rv b_9, iv (1 : Int32)] [(.ref a14_0), (.ref a14_0)])) rfl rfl (hb hby d14_58)
  have f30 := ((pf_E_a14_0.keep K9q).wr W24)
  obtain ⟨T31, h31, X31, e31, W31, st31⟩ := putF X29 hx hZ hown (host := "") (Or.inl wo61) Via.refl e29 f28 f30 (Or.inl wo62) wo48 (ty := .int) (by decide) rfl rfl (g := (mkF m 63 #[rv a14_0, iv (1 : Int32), rv b_9, iv (1 : Int32)] [(.int (1 : Int32)), (.ref a14_0)])) rfl rfl (hb hby d14_63)
  have K32 : Keep h0 h31 [a14_0] := (K25).wr W31 (Or.inl (List.mem_of_getElem? (i := 0) rfl))
  have f33 : Fld Z h31 a14_0 "com/example/dido/dido/keys/KeyReader" "position" "I" (.int (1 : Int32)) := f28.same W31
  have N34 := Fr.snoc X31 N27 pf_G_a14_0
  have f35 := (f26.other W31 (Ne.symm ne11))
  obtain ⟨fs, hr, hrun, hended, hW, hsame⟩ := X31.leave (v := some (.ref b_9)) (fun h => by rw [Bd.returns] at h; cases h)
  refine ⟨_, _, pre0 _ ?_, hrun, hended, _, _, rfl, ?_, ⟨_, rfl⟩, hW, hsame.mono (by decide) (by decide)⟩
  · show Steps p.tables e below (s₁.setTop (mkF m 0 #[rv a14_0, iv (1 : Int32), .unset, .unset] [])) _
    refine XS.aloadN X0.here hx rfl (hb hby d14_0) rfl rfl ?_
    show Steps p.tables e below (s₁.setTop (mkF m 1 #[rv a14_0, iv (1 : Int32), .unset, .unset] [(.ref a14_0)])) _
    refine st1 _ ?_
    show Steps p.tables e below (T1.setTop (mkF m 4 #[rv a14_0, iv (1 : Int32), .unset, .unset] [(.int (0 : Int32))])) _
    refine XS.iloadN X1.here hx rfl (hb hby d14_4) rfl ?_
    show Steps p.tables e below (T1.setTop (mkF m 5 #[rv a14_0, iv (1 : Int32), .unset, .unset] [(.int (1 : Int32)), (.int (0 : Int32))])) _
    refine XS.aloadN X1.here hx rfl (hb hby d14_5) rfl rfl ?_
    show Steps p.tables e below (T1.setTop (mkF m 6 #[rv a14_0, iv (1 : Int32), .unset, .unset] [(.ref a14_0), (.int (1 : Int32)), (.int (0 : Int32))])) _
    refine st2 _ ?_
    show Steps p.tables e below (T2.setTop (mkF m 9 #[rv a14_0, iv (1 : Int32), .unset, .unset] [(.ref ky), (.int (1 : Int32)), (.int (0 : Int32))])) _
    refine X2.arraylength hx (by rw [e2]; exact Ar3.1) (State.isArrayOf_alike hZ.alike Ar3.2.1) (g := (mkF m 9 #[rv a14_0, iv (1 : Int32), .unset, .unset] [(.ref ky), (.int (1 : Int32)), (.int (0 : Int32))])) rfl rfl (hb hby d14_9) _ ?_
    rw [len_of Sz3 Nn3]
    show Steps p.tables e below (T2.setTop (mkF m 10 #[rv a14_0, iv (1 : Int32), .unset, .unset] [(.int (1 : Int32)), (.int (1 : Int32)), (.int (0 : Int32))])) _
    refine st4 _ ?_
    show Steps p.tables e below (T4.setTop (mkF m 13 #[rv a14_0, iv (1 : Int32), .unset, .unset] [(.int (0 : Int32))])) _
    refine XS.pop X4.here hx rfl (hb hby d14_13) rfl rfl ?_
    show Steps p.tables e below (T4.setTop (mkF m 14 #[rv a14_0, iv (1 : Int32), .unset, .unset] [])) _
    refine XS.aloadN X4.here hx rfl (hb hby d14_14) rfl rfl ?_
    show Steps p.tables e below (T4.setTop (mkF m 15 #[rv a14_0, iv (1 : Int32), .unset, .unset] [(.ref a14_0)])) _
    refine st6 _ ?_
    show Steps p.tables e below (T6.setTop (mkF m 18 #[rv a14_0, iv (1 : Int32), .unset, .unset] [(.ref ky)])) _
    refine XS.aloadN X6.here hx rfl (hb hby d14_18) rfl rfl ?_
    show Steps p.tables e below (T6.setTop (mkF m 19 #[rv a14_0, iv (1 : Int32), .unset, .unset] [(.ref a14_0), (.ref ky)])) _
    refine st7 _ ?_
    show Steps p.tables e below (T7.setTop (mkF m 22 #[rv a14_0, iv (1 : Int32), .unset, .unset] [(.int (0 : Int32)), (.ref ky)])) _
    refine XS.aloadN X7.here hx rfl (hb hby d14_22) rfl rfl ?_
    show Steps p.tables e below (T7.setTop (mkF m 23 #[rv a14_0, iv (1 : Int32), .unset, .unset] [(.ref a14_0), (.int (0 : Int32)), (.ref ky)])) _
    refine st8 _ ?_
    show Steps p.tables e below (T8.setTop (mkF m 26 #[rv a14_0, iv (1 : Int32), .unset, .unset] [(.int (0 : Int32)), (.int (0 : Int32)), (.ref ky)])) _
    refine XS.iloadN X8.here hx rfl (hb hby d14_26) rfl ?_
    show Steps p.tables e below (T8.setTop (mkF m 27 #[rv a14_0, iv (1 : Int32), .unset, .unset] [(.int (1 : Int32)), (.int (0 : Int32)), (.int (0 : Int32)), (.ref ky)])) _
    refine XS.iadd X8.here hx rfl (hb hby d14_27) rfl ?_
    show Steps p.tables e below (T8.setTop (mkF m 28 #[rv a14_0, iv (1 : Int32), .unset, .unset] [(.int (1 : Int32)), (.int (0 : Int32)), (.ref ky)])) _
    refine st9 _ ?_
    show Steps p.tables e below (T9.setTop (mkF m 31 #[rv a14_0, iv (1 : Int32), .unset, .unset] [(.ref b_9)])) _
    refine XS.astoreN X9.here hx rfl (hb hby d14_31) rfl rfl (l' := #[rv a14_0, iv (1 : Int32), rv b_9, .unset]) rfl ?_
    show Steps p.tables e below (T9.setTop (mkF m 32 #[rv a14_0, iv (1 : Int32), rv b_9, .unset] [])) _
    refine XS.iconst X9.here hx rfl (hb hby d14_32) ?_
    show Steps p.tables e below (T9.setTop (mkF m 33 #[rv a14_0, iv (1 : Int32), rv b_9, .unset] [(.int (0 : Int32))])) _
    refine XS.istoreN X9.here hx rfl (hb hby d14_33) rfl (l' := #[rv a14_0, iv (1 : Int32), rv b_9, iv (0 : Int32)]) rfl ?_
    show Steps p.tables e below (T9.setTop (mkF m 34 #[rv a14_0, iv (1 : Int32), rv b_9, iv (0 : Int32)] [])) _
    refine XS.iloadN X9.here hx rfl (hb hby d14_34) rfl ?_
    show Steps p.tables e below (T9.setTop (mkF m 35 #[rv a14_0, iv (1 : Int32), rv b_9, iv (0 : Int32)] [(.int (0 : Int32))])) _
    refine XS.iloadN X9.here hx rfl (hb hby d14_35) rfl ?_
    show Steps p.tables e below (T9.setTop (mkF m 36 #[rv a14_0, iv (1 : Int32), rv b_9, iv (0 : Int32)] [(.int (1 : Int32)), (.int (0 : Int32))])) _
    refine XS.icmpNo X9.here hx rfl (hb hby d14_36) rfl (tlt (by decide : (0 : Int32) < (1 : Int32))).2.1 ?_
    show Steps p.tables e below (T9.setTop (mkF m 39 #[rv a14_0, iv (1 : Int32), rv b_9, iv (0 : Int32)] [])) _
    refine XS.aloadN X9.here hx rfl (hb hby d14_39) rfl rfl ?_
    show Steps p.tables e below (T9.setTop (mkF m 40 #[rv a14_0, iv (1 : Int32), rv b_9, iv (0 : Int32)] [(.ref b_9)])) _
    refine XS.iloadN X9.here hx rfl (hb hby d14_40) rfl ?_
    show Steps p.tables e below (T9.setTop (mkF m 41 #[rv a14_0, iv (1 : Int32), rv b_9, iv (0 : Int32)] [(.int (0 : Int32)), (.ref b_9)])) _
    jvm_step X9.here [X9.here.top, hx, (hb hby d14_41), Value.category]
    show Steps p.tables e below (T9.setTop (mkF m 42 #[rv a14_0, iv (1 : Int32), rv b_9, iv (0 : Int32)] [(.int (0 : Int32)), (.ref b_9), (.int (0 : Int32)), (.ref b_9)])) _
    refine X9.baloadBytes hx (j := (0 : Int32)) (v := (.int x0)) (Ar16.1) (State.isArrayOf_alike hZ.alike Ar16.2.1) Ar16.2.2 hin17 hat18 (g := (mkF m 42 #[rv a14_0, iv (1 : Int32), rv b_9, iv (0 : Int32)] [(.int (0 : Int32)), (.ref b_9), (.int (0 : Int32)), (.ref b_9)])) rfl rfl (hb hby d14_42) _ ?_
    show Steps p.tables e below (T9.setTop (mkF m 43 #[rv a14_0, iv (1 : Int32), rv b_9, iv (0 : Int32)] [(.int x0), (.int (0 : Int32)), (.ref b_9)])) _
    refine XS.aloadN X9.here hx rfl (hb hby d14_43) rfl rfl ?_
    show Steps p.tables e below (T9.setTop (mkF m 44 #[rv a14_0, iv (1 : Int32), rv b_9, iv (0 : Int32)] [(.ref a14_0), (.int x0), (.int (0 : Int32)), (.ref b_9)])) _
    refine st20 _ ?_
    show Steps p.tables e below (T20.setTop (mkF m 47 #[rv a14_0, iv (1 : Int32), rv b_9, iv (0 : Int32)] [(.int (0 : Int32)), (.int x0), (.int (0 : Int32)), (.ref b_9)])) _
    refine XS.ixor X20.here hx rfl (hb hby d14_47) rfl ?_
    rw [q21]
    show Steps p.tables e below (T20.setTop (mkF m 48 #[rv a14_0, iv (1 : Int32), rv b_9, iv (0 : Int32)] [(.int x0), (.int (0 : Int32)), (.ref b_9)])) _
    show Steps p.tables e below (T20.setTop (mkF m 48 #[rv a14_0, iv (1 : Int32), rv b_9, iv (0 : Int32)] [(.int x0), (.int (0 : Int32)), (.ref b_9)])) _
    refine XS.i2b X20.here hx rfl (hb hby d14_48) rfl ?_
    show Steps p.tables e below (T20.setTop (mkF m 49 #[rv a14_0, iv (1 : Int32), rv b_9, iv (0 : Int32)] [(.int (x0.toInt8.toInt32)), (.int (0 : Int32)), (.ref b_9)])) _
    refine st24 _ ?_
    show Steps p.tables e below (T24.setTop (mkF m 50 #[rv a14_0, iv (1 : Int32), rv b_9, iv (0 : Int32)] [])) _
    refine XS.iinc X24.here hx rfl (hb hby d14_50) rfl (l' := #[rv a14_0, iv (1 : Int32), rv b_9, iv (1 : Int32)]) rfl ?_
    show Steps p.tables e below (T24.setTop (mkF m 53 #[rv a14_0, iv (1 : Int32), rv b_9, iv (1 : Int32)] [])) _
    refine XS.goto X24.here hx rfl (pc0 := 53) (pc' := 34) rfl (hb hby d14_53) (by decide) (by decide) ?_
    show Steps p.tables e below (T24.setTop (mkF m 34 #[rv a14_0, iv (1 : Int32), rv b_9, iv (1 : Int32)] [])) _
    refine XS.iloadN X24.here hx rfl (hb hby d14_34) rfl ?_
    show Steps p.tables e below (T24.setTop (mkF m 35 #[rv a14_0, iv (1 : Int32), rv b_9, iv (1 : Int32)] [(.int (1 : Int32))])) _
    refine XS.iloadN X24.here hx rfl (hb hby d14_35) rfl ?_
    show Steps p.tables e below (T24.setTop (mkF m 36 #[rv a14_0, iv (1 : Int32), rv b_9, iv (1 : Int32)] [(.int (1 : Int32)), (.int (1 : Int32))])) _
    refine XS.icmpYes X24.here hx rfl (pc0 := 36) (pc' := 56) rfl (hb hby d14_36) rfl (flt (by decide : ¬ ((1 : Int32) < (1 : Int32)))).2.1 (by decide) (by decide) ?_
    show Steps p.tables e below (T24.setTop (mkF m 56 #[rv a14_0, iv (1 : Int32), rv b_9, iv (1 : Int32)] [])) _
    refine XS.aloadN X24.here hx rfl (hb hby d14_56) rfl rfl ?_
    show Steps p.tables e below (T24.setTop (mkF m 57 #[rv a14_0, iv (1 : Int32), rv b_9, iv (1 : Int32)] [(.ref a14_0)])) _
    refine XS.dup X24.here hx rfl (hb hby d14_57) rfl rfl ?_
    show Steps p.tables e below (T24.setTop (mkF m 58 #[rv a14_0, iv (1 : Int32), rv b_9, iv (1 : Int32)] [(.ref a14_0), (.ref a14_0)])) _
    refine st29 _ ?_
    show Steps p.tables e below (T29.setTop (mkF m 61 #[rv a14_0, iv (1 : Int32), rv b_9, iv (1 : Int32)] [(.int (0 : Int32)), (.ref a14_0)])) _
    refine XS.iloadN X29.here hx rfl (hb hby d14_61) rfl ?_
    show Steps p.tables e below (T29.setTop (mkF m 62 #[rv a14_0, iv (1 : Int32), rv b_9, iv (1 : Int32)] [(.int (1 : Int32)), (.int (0 : Int32)), (.ref a14_0)])) _
    refine XS.iadd X29.here hx rfl (hb hby d14_62) rfl ?_
    show Steps p.tables e below (T29.setTop (mkF m 63 #[rv a14_0, iv (1 : Int32), rv b_9, iv (1 : Int32)] [(.int (1 : Int32)), (.ref a14_0)])) _
    refine st31 _ ?_
    show Steps p.tables e below (T31.setTop (mkF m 66 #[rv a14_0, iv (1 : Int32), rv b_9, iv (1 : Int32)] [])) _
    refine XS.aloadN X31.here hx rfl (hb hby d14_66) rfl rfl ?_
    show Steps p.tables e below (T31.setTop (mkF m 67 #[rv a14_0, iv (1 : Int32), rv b_9, iv (1 : Int32)] [(.ref b_9)])) _
    exact retOut X31 hx Bd.returns rfl (Or.inr (Or.inr (Or.inr (Or.inr ⟨rfl, rfl, rfl⟩)))) (hb hby d14_67) hr
  · show Q_rm14 Z _ _ _ h0 n0 _ T31.heap _
    rw [e31]
    exact ⟨b_9, rfl, N34, (K32), bz14, f35⟩
theorem d12_0 : decode prog_9_method_7_code 0 = .ok (.aload_n 1, 1) := by decide +kernel
theorem pd_0 : parseMethodDescriptor "()I" = some ⟨[], some .int⟩ := by decide +kernel
theorem d12_1 : decode prog_9_method_7_code 1 = .ok (.invokevirtual 19, 3) := by decide +kernel
theorem d12_4 : decode prog_9_method_7_code 4 = .ok (.iload_n 2, 1) := by decide +kernel
theorem d12_5 : decode prog_9_method_7_code 5 = .ok (.if_icmp .ge 8, 3) := by decide +kernel
theorem d12_13 : decode prog_9_method_7_code 13 = .ok (.aload_n 1, 1) := by decide +kernel
theorem d12_14 : decode prog_9_method_7_code 14 = .ok (.iload_n 2, 1) := by decide +kernel
theorem pd_10 : parseMethodDescriptor "(I)[B" = some ⟨[.int], some (.array .byte)⟩ := by decide +kernel
theorem d12_15 : decode prog_9_method_7_code 15 = .ok (.invokevirtual 29, 3) := by decide +kernel
theorem d12_18 : decode prog_9_method_7_code 18 = .ok (.areturn, 1) := by decide +kernel
theorem ef_rm12 (m : MethodId) (x0 : Addr) (x1 : Addr) (x2 : Int32) : entryFrame m #[(.ref x0), (.ref x1), (.int x2)] 3 = mkF m 0 #[rv x0, rv x1, iv x2] [] := by first | (simp [entryFrame, mkF, argsToLocals, Value.category]; done) | rfl
def Q_rm12 (Z : State) (a12_0 : Addr) (a12_1 : Addr) (ky : Addr) (x0 : Int32) (h0 : Heap) (n0 : Nat) (v : Option Value) (h : Heap) (L : List Loc) : Prop := ∃ (b : Addr), v = some (.ref b) ∧ Fr n0 L ∧ Keep h0 h [a12_1] ∧ (h0.size ≤ b) ∧ (Av Z h b .byte (1 : Int32) [(.int (nar .byte (x0.toInt8.toInt32)))] (.int (0 : Int32)))
set_option maxRecDepth 65536 in
set_option maxHeartbeats 40000000 in
theorem rm12 (l : Launch) (Z : State) (a0 : Array Value) (hw : ∀ d ∈ tables_1, d.before a0 Z = true) (ws : List Jvm.Cond) (a12_0 : Addr) (a12_1 : Addr) (ky : Addr) (x0 : Int32) (h0 : Heap) (n0 : Nat) (Z0 : n0 ≤ h0.size) (pf_E_a12_1 : Exa Z h0 a12_1 "com/example/dido/dido/keys/KeyReader") (pf_G_a12_1 : n0 ≤ a12_1) (pf_E_ky : Exa Z h0 ky "[B") (pf_A_ky : Av Z h0 ky .byte (1 : Int32) [(.int x0)] (.int (0 : Int32))) (pf_NE_a12_1_ky : a12_1 ≠ ky) (pf_F_a12_1_key : Fld Z h0 a12_1 "com/example/dido/dido/keys/KeyReader" "key" "[B" (.ref ky)) (pf_F_a12_1_mask : Fld Z h0 a12_1 "com/example/dido/dido/keys/KeyReader" "mask" "I" (.int (0 : Int32))) (pf_F_a12_1_position : Fld Z h0 a12_1 "com/example/dido/dido/keys/KeyReader" "position" "I" (.int (0 : Int32))) :
    MetFree l (⟨"com/example/dido/dido/keys/Field", "take", "(Lcom/example/dido/dido/keys/KeyReader;I)[B"⟩ : MethodName) (head1 (Jvm.Cond.code (⟨"com/example/dido/dido/keys/Field", "take", "(Lcom/example/dido/dido/keys/KeyReader;I)[B"⟩ : MethodName) prog_9_method_7_code 3 (some (.array .byte)) :: ws) ({ frames := 3, cells := 1, slots := 1, locals := 44 } : Room)) (fun a U => a = #[(.ref a12_0), (.ref a12_1), (.int (1 : Int32))] ∧ Z.Warmed39 U.vm ∧ U.heap = h0) (fun _ _ _ _ _ => True) (fun _ U o U' => ∃ v L, o = .returned v ∧ Q_rm12 Z a12_0 a12_1 ky x0 h0 n0 v U'.heap L ∧ FrameEnd U o U' L ({ frames := 3, cells := 1, slots := 1, locals := 44 } : Room).cells ({ frames := 3, cells := 1, slots := 1, locals := 44 } : Room).slots) := by
  refine MetFree.of_bodySF (plainFor_of_name pn_com_example_dido_dido_keys_Field) hisR ?_
  intro p e s m args below meth c s₁ Bd hml0 hP hK
  obtain ⟨rfl, hZ, hh⟩ := hP
  have hx := Bd.exec
  have hby := Bd.bytes
  have hml : c.maxLocals = 3 := hml0
  have hown : s.vm.findClass "com/example/dido/dido/keys/Field" = some m.cls := findClass_of_methodNamed Bd.named
  have hnm := (name_of_methodNamed Bd.named Bd.method).1
  have X0 : Stand p l e ({ frames := 3, cells := 1, slots := 1, locals := 44 } : Room) s m #[(.ref a12_0), (.ref a12_1), (.int (1 : Int32))] below meth c s₁ [] 0 0 := Stand.of_body Bd
  have e0 : s₁.heap = h0 := by rw [← hh, Bd.state]; rfl
  have N0 := Fr.nil n0
  have pre0 : ∀ t, Steps p.tables e below (s₁.setTop (mkF m 0 #[rv a12_0, rv a12_1, iv (1 : Int32)] [])) t → Steps p.tables e below (s₁.setTop (entryFrame m #[(.ref a12_0), (.ref a12_1), (.int (1 : Int32))] 3)) t := fun t k => castTop (ef_rm12 m a12_0 a12_1 (1 : Int32)) k
  have wo49 := hw _ (List.mem_of_getElem? (i := 49) rfl)
  have wo74 := hw _ (List.mem_of_getElem? (i := 74) rfl)
  have wo75 := hw _ (List.mem_of_getElem? (i := 75) rfl)
  have wo76 := hw _ (List.mem_of_getElem? (i := 76) rfl)
  have wo77 := hw _ (List.mem_of_getElem? (i := 77) rfl)
  have wo78 := hw _ (List.mem_of_getElem? (i := 78) rfl)
  have wo79 := hw _ (List.mem_of_getElem? (i := 79) rfl)
  have wo80 := hw _ (List.mem_of_getElem? (i := 80) rfl)
  have wo81 := hw _ (List.mem_of_getElem? (i := 81) rfl)
  have wo82 := hw _ (List.mem_of_getElem? (i := 82) rfl)
  have wo83 := hw _ (List.mem_of_getElem? (i := 83) rfl)
  obtain ⟨cq1, kq1, q1a, q1b, q1c⟩ := isOf hZ e0 pf_E_a12_1
  obtain ⟨_, _, ⟨T1, L1, k1, n1⟩, -, X1, ⟨Lc1, hQ1, l1, y1, z1⟩, st1⟩ := X0.virtualBack hx (y := MN13) (z := MN13) hown (mvT hZ wo74) (mvT hZ wo75) (notFace_of_selects (args := #[]) (mvT hZ wo77)) (mvT hZ wo77) (mvT hZ wo76) (by decide) (backOf (W := 0) (rm13 l Z a0 hw [] a12_1 ky h0 n0 Z0 pf_F_a12_1_key pf_F_a12_1_position pf_A_ky.al) hZ wo78 wo49 (by decide) (by decide)) q1a q1c (g := (mkF m 1 #[rv a12_0, rv a12_1, iv (1 : Int32)] [(.ref a12_1)])) rfl (by rw [hml]; rfl) (Steps.refl _) (argsL := []) (rest := []) (lenOf pd_0 rfl) rfl (by show 2 * 0 + _ ≤ _; exact Nat.le_of_eq rfl) (hb hby d12_1) (fun _ _ => ⟨rfl, e0, (by decide : 0 + 0 ≤ _), (by decide : 0 + 0 ≤ _)⟩)
  dsimp only [Pt.U, Pt.locs, Pt.cells, Pt.slots] at X1 l1 y1 z1 st1 hQ1
  subst l1 y1 z1
  obtain ⟨rfl, N1q, K1q⟩ := hQ1
  have N2 := Fr.app N0 N1q
  obtain ⟨cq3, kq3, q3a, q3b, q3c⟩ := isOf hZ K1q pf_E_a12_1
  obtain ⟨_, _, ⟨T3, L3, k3, n3⟩, -, X3, ⟨Lc3, hQ3, l3, y3, z3⟩, st3⟩ := X1.virtualBack hx (y := MN14) (z := MN14) hown (mvT hZ wo79) (mvT hZ wo80) (notFace_of_selects (args := #[]) (mvT hZ wo82)) (mvT hZ wo82) (mvT hZ wo81) (by decide) (backOf (W := 0) (rm14 l Z a0 hw [] a12_1 ky x0 h0 n0 Z0 pf_E_a12_1 pf_G_a12_1 pf_E_ky pf_A_ky pf_NE_a12_1_ky pf_F_a12_1_key pf_F_a12_1_mask pf_F_a12_1_position) hZ wo83 wo49 (by decide) (by decide)) q3a q3c (g := (mkF m 15 #[rv a12_0, rv a12_1, iv (1 : Int32)] [(.int (1 : Int32)), (.ref a12_1)])) rfl (by rw [hml]; rfl) (Steps.refl _) (argsL := [(.int (1 : Int32))]) (rest := []) (lenOf pd_10 rfl) rfl (by show 2 * 0 + _ ≤ _; exact Nat.le_of_eq rfl) (hb hby d12_15) (fun _ _ => ⟨rfl, K1q, (by decide : 0 + 1 ≤ _), (by decide : 0 + 1 ≤ _)⟩)
  dsimp only [Pt.U, Pt.locs, Pt.cells, Pt.slots] at X3 l3 y3 z3 st3 hQ3
  subst l3 y3 z3
  obtain ⟨b_3, rfl, N3q, K3q, hq3_0, hq3_1⟩ := hQ3
  have N4 := Fr.app N2 N3q
  have ne5 : a12_1 ≠ b_3 := Nat.ne_of_lt (Nat.lt_of_lt_of_le pf_E_a12_1.lt hq3_0)
  have ne6 : ky ≠ b_3 := Nat.ne_of_lt (Nat.lt_of_lt_of_le pf_E_ky.lt hq3_0)
  have g7 : n0 ≤ b_3 := Nat.le_trans Z0 hq3_0
  have bz8 : h0.size ≤ b_3 := Nat.le_trans (Keep.refl h0 [a12_1]).1 hq3_0
  have K9 : Keep h0 T3.heap [a12_1] := (Keep.refl h0 [a12_1]).trans K3q (allS (P := fun x => x ∈ [a12_1] ∨ h0.size ≤ x) (Or.inl (List.mem_of_getElem? (i := 0) rfl)) all0)
  obtain ⟨fs, hr, hrun, hended, hW, hsame⟩ := X3.leave (v := some (.ref b_3)) (fun h => by rw [Bd.returns] at h; cases h)
  refine ⟨_, _, pre0 _ ?_, hrun, hended, _, _, rfl, ?_, ⟨_, rfl⟩, hW, hsame.mono (by decide) (by decide)⟩
  · show Steps p.tables e below (s₁.setTop (mkF m 0 #[rv a12_0, rv a12_1, iv (1 : Int32)] [])) _
    refine XS.aloadN X0.here hx rfl (hb hby d12_0) rfl rfl ?_
    show Steps p.tables e below (s₁.setTop (mkF m 1 #[rv a12_0, rv a12_1, iv (1 : Int32)] [(.ref a12_1)])) _
    refine st1.trans ?_
    show Steps p.tables e below (T1.setTop (mkF m 4 #[rv a12_0, rv a12_1, iv (1 : Int32)] [(.int (1 : Int32))])) _
    refine XS.iloadN X1.here hx rfl (hb hby d12_4) rfl ?_
    show Steps p.tables e below (T1.setTop (mkF m 5 #[rv a12_0, rv a12_1, iv (1 : Int32)] [(.int (1 : Int32)), (.int (1 : Int32))])) _
    refine XS.icmpYes X1.here hx rfl (pc0 := 5) (pc' := 13) rfl (hb hby d12_5) rfl (flt (by decide : ¬ ((1 : Int32) < (1 : Int32)))).2.1 (by decide) (by decide) ?_
    show Steps p.tables e below (T1.setTop (mkF m 13 #[rv a12_0, rv a12_1, iv (1 : Int32)] [])) _
    refine XS.aloadN X1.here hx rfl (hb hby d12_13) rfl rfl ?_
    show Steps p.tables e below (T1.setTop (mkF m 14 #[rv a12_0, rv a12_1, iv (1 : Int32)] [(.ref a12_1)])) _
    refine XS.iloadN X1.here hx rfl (hb hby d12_14) rfl ?_
    show Steps p.tables e below (T1.setTop (mkF m 15 #[rv a12_0, rv a12_1, iv (1 : Int32)] [(.int (1 : Int32)), (.ref a12_1)])) _
    refine st3.trans ?_
    show Steps p.tables e below (T3.setTop (mkF m 18 #[rv a12_0, rv a12_1, iv (1 : Int32)] [(.ref b_3)])) _
    exact retOut X3 hx Bd.returns rfl (Or.inr (Or.inr (Or.inr (Or.inr ⟨rfl, rfl, rfl⟩)))) (hb hby d12_18) hr
  · show Q_rm12 Z _ _ _ _ h0 n0 _ T3.heap _
    exact ⟨b_3, rfl, N4, (K9), bz8, hq3_1⟩
theorem d22_0 : decode jdk_18_method_1_code 0 = .ok (.aload_n 0, 1) := by decide +kernel
theorem d22_1 : decode jdk_18_method_1_code 1 = .ok (.invokespecial 1, 3) := by decide +kernel
theorem d22_4 : decode jdk_18_method_1_code 4 = .ok (.return_, 1) := by decide +kernel
theorem pn_java_lang_Number : plainName "java/lang/Number" = true := by first | (simp [plainName, overriddenIn]; done) | decide +kernel
theorem ef_rm22 (m : MethodId) (x0 : Addr) : entryFrame m #[(.ref x0)] 1 = mkF m 0 #[rv x0] [] := by first | (simp [entryFrame, mkF, argsToLocals, Value.category]; done) | rfl
def Q_rm22 (Z : State) (a22_0 : Addr) (h0 : Heap) (n0 : Nat) (v : Option Value) (h : Heap) (L : List Loc) : Prop := v = none ∧ Fr n0 L ∧ h = h0
set_option maxRecDepth 65536 in
set_option maxHeartbeats 40000000 in
theorem rm22 (l : Launch) (Z : State) (a0 : Array Value) (hw : ∀ d ∈ tables_1, d.before a0 Z = true) (ws : List Jvm.Cond) (a22_0 : Addr) (h0 : Heap) (n0 : Nat) (Z0 : n0 ≤ h0.size) :
    MetFree l (⟨"java/lang/Number", "<init>", "()V"⟩ : MethodName) (head1 (Jvm.Cond.code (⟨"java/lang/Number", "<init>", "()V"⟩ : MethodName) jdk_18_method_1_code 1 none :: ws) ({ frames := 1, cells := 0, slots := 0, locals := 12 } : Room)) (fun a U => a = #[(.ref a22_0)] ∧ Z.Warmed39 U.vm ∧ U.heap = h0) (fun _ _ _ _ _ => True) (fun _ U o U' => ∃ v L, o = .returned v ∧ Q_rm22 Z a22_0 h0 n0 v U'.heap L ∧ FrameEnd U o U' L ({ frames := 1, cells := 0, slots := 0, locals := 12 } : Room).cells ({ frames := 1, cells := 0, slots := 0, locals := 12 } : Room).slots) := by
  refine MetFree.of_bodySF (plainFor_of_name pn_java_lang_Number) hisR ?_
  intro p e s m args below meth c s₁ Bd hml0 hP hK
  obtain ⟨rfl, hZ, hh⟩ := hP
  have hx := Bd.exec
  have hby := Bd.bytes
  have hml : c.maxLocals = 1 := hml0
  have hown : s.vm.findClass "java/lang/Number" = some m.cls := findClass_of_methodNamed Bd.named
  have hnm := (name_of_methodNamed Bd.named Bd.method).1
  have X0 : Stand p l e ({ frames := 1, cells := 0, slots := 0, locals := 12 } : Room) s m #[(.ref a22_0)] below meth c s₁ [] 0 0 := Stand.of_body Bd
  have e0 : s₁.heap = h0 := by rw [← hh, Bd.state]; rfl
  have N0 := Fr.nil n0
  have pre0 : ∀ t, Steps p.tables e below (s₁.setTop (mkF m 0 #[rv a22_0] [])) t → Steps p.tables e below (s₁.setTop (entryFrame m #[(.ref a22_0)] 1)) t := fun t k => castTop (ef_rm22 m a22_0) k
  have wo20 := hw _ (List.mem_of_getElem? (i := 20) rfl)
  have wo21 := hw _ (List.mem_of_getElem? (i := 21) rfl)
  have wo136 := hw _ (List.mem_of_getElem? (i := 136) rfl)
  obtain ⟨T1, X1, e1, st1⟩ := initO X0 hx hZ hown wo136 wo20 wo21 e0 (g := (mkF m 1 #[rv a22_0] [(.ref a22_0)])) rfl (by rw [hml]; rfl) rfl (hb hby d22_1) (by decide) (W := 0) (by show 2 * 0 + _ ≤ _; exact Nat.le_of_eq rfl) (by decide)
  obtain ⟨fs, hr, hrun, hended, hW, hsame⟩ := X1.leave (v := none) (fun _ => rfl)
  refine ⟨_, _, pre0 _ ?_, hrun, hended, _, _, rfl, ?_, ⟨_, rfl⟩, hW, hsame.mono (by decide) (by decide)⟩
  · show Steps p.tables e below (s₁.setTop (mkF m 0 #[rv a22_0] [])) _
    refine XS.aloadN X0.here hx rfl (hb hby d22_0) rfl rfl ?_
    show Steps p.tables e below (s₁.setTop (mkF m 1 #[rv a22_0] [(.ref a22_0)])) _
    refine st1 _ ?_
    show Steps p.tables e below (T1.setTop (mkF m 4 #[rv a22_0] [])) _
    exact X1.returnOut hx Bd.returns (hb hby d22_4) hr
  · show Q_rm22 Z _ h0 n0 _ T1.heap _
    rw [e1]
    exact ⟨rfl, N0, rfl⟩
theorem d21_0 : decode jdk_33_method_23_code 0 = .ok (.aload_n 0, 1) := by decide +kernel
theorem pd_2 : parseMethodDescriptor "()V" = some ⟨[], none⟩ := by decide +kernel
theorem d21_1 : decode jdk_33_method_23_code 1 = .ok (.invokespecial 202, 3) := by decide +kernel
theorem d21_4 : decode jdk_33_method_23_code 4 = .ok (.aload_n 0, 1) := by decide +kernel
theorem d21_5 : decode jdk_33_method_23_code 5 = .ok (.iload_n 1, 1) := by decide +kernel
theorem d21_6 : decode jdk_33_method_23_code 6 = .ok (.putfield 205, 3) := by decide +kernel
theorem d21_9 : decode jdk_33_method_23_code 9 = .ok (.return_, 1) := by decide +kernel
theorem pn_java_lang_Integer : plainName "java/lang/Integer" = true := by first | (simp [plainName, overriddenIn]; done) | decide +kernel
theorem ef_rm21 (m : MethodId) (x0 : Addr) (x1 : Int32) : entryFrame m #[(.ref x0), (.int x1)] 2 = mkF m 0 #[rv x0, iv x1] [] := by first | (simp [entryFrame, mkF, argsToLocals, Value.category]; done) | rfl
def Q_rm21 (Z : State) (a21_0 : Addr) (vv : Int32) (h0 : Heap) (n0 : Nat) (v : Option Value) (h : Heap) (L : List Loc) : Prop := v = none ∧ Fr n0 L ∧ Keep h0 h [a21_0] ∧ (Fld Z h a21_0 "java/lang/Integer" "value" "I" (.int vv))
set_option maxRecDepth 65536 in
set_option maxHeartbeats 40000000 in
theorem rm21 (l : Launch) (Z : State) (a0 : Array Value) (hw : ∀ d ∈ tables_1, d.before a0 Z = true) (ws : List Jvm.Cond) (a21_0 : Addr) (vv : Int32) (h0 : Heap) (n0 : Nat) (Z0 : n0 ≤ h0.size) (pf_E_a21_0 : Exa Z h0 a21_0 "java/lang/Integer") (pf_G_a21_0 : n0 ≤ a21_0) (pf_F_a21_0_value : Fld Z h0 a21_0 "java/lang/Integer" "value" "I" (.int (0 : Int32))) :
    MetFree l (⟨"java/lang/Integer", "<init>", "(I)V"⟩ : MethodName) (head1 (Jvm.Cond.code (⟨"java/lang/Integer", "<init>", "(I)V"⟩ : MethodName) jdk_33_method_23_code 2 none :: ws) ({ frames := 2, cells := 0, slots := 0, locals := 24 } : Room)) (fun a U => a = #[(.ref a21_0), (.int vv)] ∧ Z.Warmed39 U.vm ∧ U.heap = h0) (fun _ _ _ _ _ => True) (fun _ U o U' => ∃ v L, o = .returned v ∧ Q_rm21 Z a21_0 vv h0 n0 v U'.heap L ∧ FrameEnd U o U' L ({ frames := 2, cells := 0, slots := 0, locals := 24 } : Room).cells ({ frames := 2, cells := 0, slots := 0, locals := 24 } : Room).slots) := by
  refine MetFree.of_bodySF (plainFor_of_name pn_java_lang_Integer) hisR ?_
  intro p e s m args below meth c s₁ Bd hml0 hP hK
  obtain ⟨rfl, hZ, hh⟩ := hP
  have hx := Bd.exec
  have hby := Bd.bytes
  have hml : c.maxLocals = 2 := hml0
  have hown : s.vm.findClass "java/lang/Integer" = some m.cls := findClass_of_methodNamed Bd.named
  have hnm := (name_of_methodNamed Bd.named Bd.method).1
  have X0 : Stand p l e ({ frames := 2, cells := 0, slots := 0, locals := 24 } : Room) s m #[(.ref a21_0), (.int vv)] below meth c s₁ [] 0 0 := Stand.of_body Bd
  have e0 : s₁.heap = h0 := by rw [← hh, Bd.state]; rfl
  have N0 := Fr.nil n0
  have pre0 : ∀ t, Steps p.tables e below (s₁.setTop (mkF m 0 #[rv a21_0, iv vv] [])) t → Steps p.tables e below (s₁.setTop (entryFrame m #[(.ref a21_0), (.int vv)] 2)) t := fun t k => castTop (ef_rm21 m a21_0 vv) k
  have wo123 := hw _ (List.mem_of_getElem? (i := 123) rfl)
  have wo124 := hw _ (List.mem_of_getElem? (i := 124) rfl)
  have wo126 := hw _ (List.mem_of_getElem? (i := 126) rfl)
  have wo130 := hw _ (List.mem_of_getElem? (i := 130) rfl)
  have wo131 := hw _ (List.mem_of_getElem? (i := 131) rfl)
  have wo134 := hw _ (List.mem_of_getElem? (i := 134) rfl)
  have wo135 := hw _ (List.mem_of_getElem? (i := 135) rfl)
  obtain ⟨_, _, ⟨T1, L1, k1, n1⟩, -, X1, ⟨Lc1, hQ1, l1, y1, z1⟩, st1⟩ := X0.specialBack hx (y := MN22) rfl hown (mvT hZ wo130) (mvT hZ wo131) (mvT hZ wo135) (by decide) (backOf (W := 0) (rm22 l Z a0 hw [] a21_0 h0 n0 Z0 ) hZ wo135 wo134 (by decide) (by decide)) (g := (mkF m 1 #[rv a21_0, iv vv] [(.ref a21_0)])) rfl (by rw [hml]; rfl) (Steps.refl _) (a := a21_0) (argsL := []) (rest := []) (lenOf pd_2 rfl) rfl (by show 2 * 0 + _ ≤ _; exact Nat.le_of_eq rfl) (hb hby d21_1) (fun _ _ => ⟨rfl, e0, (by decide : 0 + 0 ≤ _), (by decide : 0 + 0 ≤ _)⟩)
  dsimp only [Pt.U, Pt.locs, Pt.cells, Pt.slots] at X1 l1 y1 z1 st1 hQ1
  subst l1 y1 z1
  obtain ⟨rfl, N1q, K1q⟩ := hQ1
  have N2 := Fr.app N0 N1q
  obtain ⟨T3, h3, X3, e3, W3, st3⟩ := putF X1 hx hZ hown (host := "") (Or.inl wo123) Via.refl K1q pf_F_a21_0_value pf_E_a21_0 (Or.inr ⟨wo124, rfl, hnm⟩) wo126 (ty := .int) (by decide) rfl rfl (g := (mkF m 6 #[rv a21_0, iv vv] [(.int vv), (.ref a21_0)])) rfl rfl (hb hby d21_6)
  have K4 : Keep h0 h3 [a21_0] := (Keep.refl h0 [a21_0]).wr W3 (Or.inl (List.mem_of_getElem? (i := 0) rfl))
  have f5 : Fld Z h3 a21_0 "java/lang/Integer" "value" "I" (.int vv) := pf_F_a21_0_value.same W3
  have N6 := Fr.snoc X3 N2 pf_G_a21_0
  obtain ⟨fs, hr, hrun, hended, hW, hsame⟩ := X3.leave (v := none) (fun _ => rfl)
  refine ⟨_, _, pre0 _ ?_, hrun, hended, _, _, rfl, ?_, ⟨_, rfl⟩, hW, hsame.mono (by decide) (by decide)⟩
  · show Steps p.tables e below (s₁.setTop (mkF m 0 #[rv a21_0, iv vv] [])) _
    refine XS.aloadN X0.here hx rfl (hb hby d21_0) rfl rfl ?_
    show Steps p.tables e below (s₁.setTop (mkF m 1 #[rv a21_0, iv vv] [(.ref a21_0)])) _
    refine st1.trans ?_
    show Steps p.tables e below (T1.setTop (mkF m 4 #[rv a21_0, iv vv] [])) _
    refine XS.aloadN X1.here hx rfl (hb hby d21_4) rfl rfl ?_
    show Steps p.tables e below (T1.setTop (mkF m 5 #[rv a21_0, iv vv] [(.ref a21_0)])) _
    refine XS.iloadN X1.here hx rfl (hb hby d21_5) rfl ?_
    show Steps p.tables e below (T1.setTop (mkF m 6 #[rv a21_0, iv vv] [(.int vv), (.ref a21_0)])) _
    refine st3 _ ?_
    show Steps p.tables e below (T3.setTop (mkF m 9 #[rv a21_0, iv vv] [])) _
    exact X3.returnOut hx Bd.returns (hb hby d21_9) hr
  · show Q_rm21 Z _ _ h0 n0 _ T3.heap _
    rw [e3]
    exact ⟨rfl, N6, (K4), f5⟩
theorem d19_0 : decode jdk_33_method_22_code 0 = .ok (.iload_n 0, 1) := by decide +kernel
theorem d19_1 : decode jdk_33_method_22_code 1 = .ok (.bipush (-128), 2) := by decide +kernel
theorem d19_3 : decode jdk_33_method_22_code 3 = .ok (.if_icmp .lt 20, 3) := by decide +kernel
theorem d19_6 : decode jdk_33_method_22_code 6 = .ok (.iload_n 0, 1) := by decide +kernel
theorem d19_7 : decode jdk_33_method_22_code 7 = .ok (.getstatic 191, 3) := by decide +kernel
theorem d19_10 : decode jdk_33_method_22_code 10 = .ok (.if_icmp .gt 13, 3) := by decide +kernel
theorem d19_13 : decode jdk_33_method_22_code 13 = .ok (.getstatic 195, 3) := by decide +kernel
theorem d19_16 : decode jdk_33_method_22_code 16 = .ok (.iload_n 0, 1) := by decide +kernel
theorem d19_17 : decode jdk_33_method_22_code 17 = .ok (.sipush 128, 3) := by decide +kernel
theorem d19_20 : decode jdk_33_method_22_code 20 = .ok (.iadd, 1) := by decide +kernel
theorem d19_21 : decode jdk_33_method_22_code 21 = .ok (.aaload, 1) := by decide +kernel
theorem d19_22 : decode jdk_33_method_22_code 22 = .ok (.areturn, 1) := by decide +kernel
theorem ef_rm_vc (m : MethodId) (x0 : Int32) : entryFrame m #[(.int x0)] 1 = mkF m 0 #[iv x0] [] := by first | (simp [entryFrame, mkF, argsToLocals, Value.category]; done) | rfl
def Q_rm_vc (Z : State) (vv : Int32) (ca : Addr) (box : Addr) (h0 : Heap) (n0 : Nat) (v : Option Value) (h : Heap) (L : List Loc) : Prop := v = some (.ref box) ∧ Fr n0 L ∧ h = h0
set_option maxRecDepth 65536 in
set_option maxHeartbeats 40000000 in
theorem rm_vc (l : Launch) (Z : State) (a0 : Array Value) (hw : ∀ d ∈ tables_1, d.before a0 Z = true) (ws : List Jvm.Cond) (vv : Int32) (ca : Addr) (box : Addr) (h0 : Heap) (n0 : Nat) (Z0 : n0 ≤ h0.size) (pf_O : Old Z n0 h0) (pf_S_java_lang_Integer_IntegerCache_high : Sta Z Z.heap "java/lang/Integer$IntegerCache" "high" "I" (.int (127 : Int32))) (pf_S_java_lang_Integer_IntegerCache_cache : Sta Z Z.heap "java/lang/Integer$IntegerCache" "cache" "[Ljava/lang/Integer;" (.ref ca)) (hbox : own_InC Z ca vv box) (hlo : ¬ (vv < (-128 : Int32))) (hhi : ¬ ((127 : Int32) < vv)) :
    MetFree l (⟨"java/lang/Integer", "valueOf", "(I)Ljava/lang/Integer;"⟩ : MethodName) (head1 (Jvm.Cond.code (⟨"java/lang/Integer", "valueOf", "(I)Ljava/lang/Integer;"⟩ : MethodName) jdk_33_method_22_code 1 (some (.object "java/lang/Integer")) :: ws) ({ frames := 0, cells := 0, slots := 0, locals := 0 } : Room)) (fun a U => a = #[(.int vv)] ∧ Z.Warmed39 U.vm ∧ U.heap = h0) (fun _ _ _ _ _ => True) (fun _ U o U' => ∃ v L, o = .returned v ∧ Q_rm_vc Z vv ca box h0 n0 v U'.heap L ∧ FrameEnd U o U' L ({ frames := 0, cells := 0, slots := 0, locals := 0 } : Room).cells ({ frames := 0, cells := 0, slots := 0, locals := 0 } : Room).slots) := by
  refine MetFree.of_bodySF (plainFor_of_name pn_java_lang_Integer) hisR ?_
  intro p e s m args below meth c s₁ Bd hml0 hP hK
  obtain ⟨rfl, hZ, hh⟩ := hP
  have hx := Bd.exec
  have hby := Bd.bytes
  have hml : c.maxLocals = 1 := hml0
  have hown : s.vm.findClass "java/lang/Integer" = some m.cls := findClass_of_methodNamed Bd.named
  have hnm := (name_of_methodNamed Bd.named Bd.method).1
  have X0 : Stand p l e ({ frames := 0, cells := 0, slots := 0, locals := 0 } : Room) s m #[(.int vv)] below meth c s₁ [] 0 0 := Stand.of_body Bd
  have e0 : s₁.heap = h0 := by rw [← hh, Bd.state]; rfl
  have N0 := Fr.nil n0
  have pre0 : ∀ t, Steps p.tables e below (s₁.setTop (mkF m 0 #[iv vv] [])) t → Steps p.tables e below (s₁.setTop (entryFrame m #[(.int vv)] 1)) t := fun t k => castTop (ef_rm_vc m vv) k
  have wo113 := hw _ (List.mem_of_getElem? (i := 113) rfl)
  have wo115 := hw _ (List.mem_of_getElem? (i := 115) rfl)
  obtain ⟨T1, X1, e1, st1⟩ := getS2 X0 hx hZ hown (host := "") (Or.inl wo113) Via.refl e0 (pf_S_java_lang_Integer_IntegerCache_high.ext pf_O.2) (g := (mkF m 7 #[iv vv] [(.int vv)])) rfl (hb hby d19_7)
  obtain ⟨T2, X2, e2, st2⟩ := getS2 X1 hx hZ hown (host := "") (Or.inl wo115) Via.refl e1 (pf_S_java_lang_Integer_IntegerCache_cache.ext pf_O.2) (g := (mkF m 13 #[iv vv] [])) rfl (hb hby d19_13)
  obtain ⟨cc3, Ac3, hi3, ha3⟩ := hbox
  obtain ⟨fs, hr, hrun, hended, hW, hsame⟩ := X2.leave (v := some (.ref box)) (fun h => by rw [Bd.returns] at h; cases h)
  refine ⟨_, _, pre0 _ ?_, hrun, hended, _, _, rfl, ?_, ⟨_, rfl⟩, hW, hsame.mono (by decide) (by decide)⟩
  · show Steps p.tables e below (s₁.setTop (mkF m 0 #[iv vv] [])) _
    refine XS.iloadN X0.here hx rfl (hb hby d19_0) rfl ?_
    show Steps p.tables e below (s₁.setTop (mkF m 1 #[iv vv] [(.int vv)])) _
    refine XS.bipush X0.here hx rfl (hb hby d19_1) ?_
    show Steps p.tables e below (s₁.setTop (mkF m 3 #[iv vv] [(.int (-128 : Int32)), (.int vv)])) _
    refine XS.icmpNo X0.here hx rfl (hb hby d19_3) rfl (flt hlo).1 ?_
    show Steps p.tables e below (s₁.setTop (mkF m 6 #[iv vv] [])) _
    refine XS.iloadN X0.here hx rfl (hb hby d19_6) rfl ?_
    show Steps p.tables e below (s₁.setTop (mkF m 7 #[iv vv] [(.int vv)])) _
    refine st1 _ ?_
    show Steps p.tables e below (T1.setTop (mkF m 10 #[iv vv] [(.int (127 : Int32)), (.int vv)])) _
    refine XS.icmpNo X1.here hx rfl (hb hby d19_10) rfl (flt hhi).2.2.1 ?_
    show Steps p.tables e below (T1.setTop (mkF m 13 #[iv vv] [])) _
    refine st2 _ ?_
    show Steps p.tables e below (T2.setTop (mkF m 16 #[iv vv] [(.ref ca)])) _
    refine XS.iloadN X2.here hx rfl (hb hby d19_16) rfl ?_
    show Steps p.tables e below (T2.setTop (mkF m 17 #[iv vv] [(.int vv), (.ref ca)])) _
    refine XS.sipush X2.here hx rfl (hb hby d19_17) ?_
    show Steps p.tables e below (T2.setTop (mkF m 20 #[iv vv] [(.int (128 : Int32)), (.int vv), (.ref ca)])) _
    refine XS.iadd X2.here hx rfl (hb hby d19_20) rfl ?_
    show Steps p.tables e below (T2.setTop (mkF m 21 #[iv vv] [(.int (vv + (128 : Int32))), (.ref ca)])) _
    refine X2.aaload hx (j := (vv + (128 : Int32))) (v := (.ref box)) (by rw [e2]; exact (Ac3.ext pf_O.2).1) (State.isArrayOf_alike hZ.alike Ac3.2.1) rfl Ac3.2.2 hi3 ha3 (g := (mkF m 21 #[iv vv] [(.int (vv + (128 : Int32))), (.ref ca)])) rfl rfl (hb hby d19_21) _ ?_
    show Steps p.tables e below (T2.setTop (mkF m 22 #[iv vv] [(.ref box)])) _
    exact retOut X2 hx Bd.returns rfl (Or.inr (Or.inr (Or.inr (Or.inr ⟨rfl, rfl, rfl⟩)))) (hb hby d19_22) hr
  · show Q_rm_vc Z _ _ _ h0 n0 _ T2.heap _
    rw [e2]
    exact ⟨rfl, N0, rfl⟩
theorem d19_23 : decode jdk_33_method_22_code 23 = .ok (.new 1, 3) := by decide +kernel
theorem d19_26 : decode jdk_33_method_22_code 26 = .ok (.dup, 1) := by decide +kernel
theorem d19_27 : decode jdk_33_method_22_code 27 = .ok (.iload_n 0, 1) := by decide +kernel
theorem pd_9 : parseMethodDescriptor "(I)V" = some ⟨[.int], none⟩ := by decide +kernel
theorem d19_28 : decode jdk_33_method_22_code 28 = .ok (.invokespecial 199, 3) := by decide +kernel
theorem d19_31 : decode jdk_33_method_22_code 31 = .ok (.areturn, 1) := by decide +kernel
theorem ef_rm_vn (m : MethodId) (x0 : Int32) : entryFrame m #[(.int x0)] 1 = mkF m 0 #[iv x0] [] := by first | (simp [entryFrame, mkF, argsToLocals, Value.category]; done) | rfl
def Q_rm_vn (Z : State) (vv : Int32) (ca : Addr) (h0 : Heap) (n0 : Nat) (v : Option Value) (h : Heap) (L : List Loc) : Prop := ∃ (b : Addr), v = some (.ref b) ∧ Fr n0 L ∧ Keep h0 h [] ∧ (h0.size ≤ b) ∧ (Exa Z h b "java/lang/Integer") ∧ (Fld Z h b "java/lang/Integer" "value" "I" (.int vv))
set_option maxRecDepth 65536 in
set_option maxHeartbeats 40000000 in
theorem rm_vn (l : Launch) (Z : State) (a0 : Array Value) (hw : ∀ d ∈ tables_1, d.before a0 Z = true) (ws : List Jvm.Cond) (vv : Int32) (ca : Addr) (h0 : Heap) (n0 : Nat) (Z0 : n0 ≤ h0.size) (pf_O : Old Z n0 h0) (pf_S_java_lang_Integer_IntegerCache_high : Sta Z Z.heap "java/lang/Integer$IntegerCache" "high" "I" (.int (127 : Int32))) (pf_S_java_lang_Integer_IntegerCache_cache : Sta Z Z.heap "java/lang/Integer$IntegerCache" "cache" "[Ljava/lang/Integer;" (.ref ca)) (hlo : ¬ (vv < (-128 : Int32))) (hhi : (127 : Int32) < vv) :
    MetFree l (⟨"java/lang/Integer", "valueOf", "(I)Ljava/lang/Integer;"⟩ : MethodName) (head1 (Jvm.Cond.code (⟨"java/lang/Integer", "valueOf", "(I)Ljava/lang/Integer;"⟩ : MethodName) jdk_33_method_22_code 1 (some (.object "java/lang/Integer")) :: ws) ({ frames := 3, cells := 1, slots := 1, locals := 38 } : Room)) (fun a U => a = #[(.int vv)] ∧ Z.Warmed39 U.vm ∧ U.heap = h0) (fun _ _ _ _ _ => True) (fun _ U o U' => ∃ v L, o = .returned v ∧ Q_rm_vn Z vv ca h0 n0 v U'.heap L ∧ FrameEnd U o U' L ({ frames := 3, cells := 1, slots := 1, locals := 38 } : Room).cells ({ frames := 3, cells := 1, slots := 1, locals := 38 } : Room).slots) := by
  refine MetFree.of_bodySF (plainFor_of_name pn_java_lang_Integer) hisR ?_
  intro p e s m args below meth c s₁ Bd hml0 hP hK
  obtain ⟨rfl, hZ, hh⟩ := hP
  have hx := Bd.exec
  have hby := Bd.bytes
  have hml : c.maxLocals = 1 := hml0
  have hown : s.vm.findClass "java/lang/Integer" = some m.cls := findClass_of_methodNamed Bd.named
  have hnm := (name_of_methodNamed Bd.named Bd.method).1
  have X0 : Stand p l e ({ frames := 3, cells := 1, slots := 1, locals := 38 } : Room) s m #[(.int vv)] below meth c s₁ [] 0 0 := Stand.of_body Bd
  have e0 : s₁.heap = h0 := by rw [← hh, Bd.state]; rfl
  have N0 := Fr.nil n0
  have pre0 : ∀ t, Steps p.tables e below (s₁.setTop (mkF m 0 #[iv vv] [])) t → Steps p.tables e below (s₁.setTop (entryFrame m #[(.int vv)] 1)) t := fun t k => castTop (ef_rm_vn m vv) k
  have wo111 := hw _ (List.mem_of_getElem? (i := 111) rfl)
  have wo113 := hw _ (List.mem_of_getElem? (i := 113) rfl)
  have wo124 := hw _ (List.mem_of_getElem? (i := 124) rfl)
  have wo125 := hw _ (List.mem_of_getElem? (i := 125) rfl)
  have wo126 := hw _ (List.mem_of_getElem? (i := 126) rfl)
  have wo127 := hw _ (List.mem_of_getElem? (i := 127) rfl)
  have wo128 := hw _ (List.mem_of_getElem? (i := 128) rfl)
  have wo129 := hw _ (List.mem_of_getElem? (i := 129) rfl)
  obtain ⟨T1, X1, e1, st1⟩ := getS2 X0 hx hZ hown (host := "") (Or.inl wo113) Via.refl e0 (pf_S_java_lang_Integer_IntegerCache_high.ext pf_O.2) (g := (mkF m 7 #[iv vv] [(.int vv)])) rfl (hb hby d19_7)
  obtain ⟨T2, h2, X2, e2, E2, A2, D2, -, st2⟩ := newO X1 hx hZ hown wo125 wo126 wo111 e1 (g := (mkF m 23 #[iv vv] [])) rfl (hb hby d19_23) (by decide) (by decide)
  obtain ⟨b2, gg2⟩ : ∃ z, z = h0.size := ⟨_, rfl⟩
  rw [← gg2] at A2 D2 st2
  have g3 : n0 ≤ b2 := Nat.le_trans Z0 (Nat.le_of_eq gg2.symm)
  have bz4 : h0.size ≤ b2 := Nat.le_trans (Keep.refl h0 []).1 (Nat.le_of_eq gg2.symm)
  have K5 : Keep h0 h2 [] := (Keep.refl h0 []).ext E2
  have f6 : Fld Z h2 b2 "java/lang/Integer" "value" "I" (.int (0 : Int32)) := D2 (Or.inr wo124) (ty := .int) (by decide)
  have f8 := (Nat.le_trans Z0 E2.1)
  obtain ⟨_, _, ⟨T7, L7, k7, n7⟩, -, X7, ⟨Lc7, hQ7, l7, y7, z7⟩, st7⟩ := X2.specialBack hx (y := MN21) rfl hown (mvT hZ wo127) (mvT hZ wo128) (mvT hZ wo129) (by decide) (backOf (W := 1) (rm21 l Z a0 hw [] b2 vv h2 n0 f8 A2 g3 f6) hZ wo129 wo111 (by decide) (by decide)) (g := (mkF m 28 #[iv vv] [(.int vv), (.ref b2), (.ref b2)])) rfl (by rw [hml]; rfl) (Steps.refl _) (a := b2) (argsL := [(.int vv)]) (rest := [(.ref b2)]) (lenOf pd_9 rfl) rfl (by show 2 * 0 + _ ≤ _; exact Nat.le_of_eq rfl) (hb hby d19_28) (fun _ _ => ⟨rfl, e2, (by decide : 1 + 0 ≤ _), (by decide : 1 + 0 ≤ _)⟩)
  dsimp only [Pt.U, Pt.locs, Pt.cells, Pt.slots] at X7 l7 y7 z7 st7 hQ7
  subst l7 y7 z7
  obtain ⟨rfl, N7q, K7q, hq7_0⟩ := hQ7
  have N9 := Fr.app N0 N7q
  have K10 : Keep h0 T7.heap [] := (K5).trans K7q (allS (P := fun x => x ∈ [] ∨ h0.size ≤ x) (Or.inr bz4) all0)
  have f11 := (A2.keep K7q)
  obtain ⟨fs, hr, hrun, hended, hW, hsame⟩ := X7.leave (v := some (.ref b2)) (fun h => by rw [Bd.returns] at h; cases h)
  refine ⟨_, _, pre0 _ ?_, hrun, hended, _, _, rfl, ?_, ⟨_, rfl⟩, hW, hsame.mono (by decide) (by decide)⟩
  · show Steps p.tables e below (s₁.setTop (mkF m 0 #[iv vv] [])) _
    refine XS.iloadN X0.here hx rfl (hb hby d19_0) rfl ?_
    show Steps p.tables e below (s₁.setTop (mkF m 1 #[iv vv] [(.int vv)])) _
    refine XS.bipush X0.here hx rfl (hb hby d19_1) ?_
    show Steps p.tables e below (s₁.setTop (mkF m 3 #[iv vv] [(.int (-128 : Int32)), (.int vv)])) _
    refine XS.icmpNo X0.here hx rfl (hb hby d19_3) rfl (flt hlo).1 ?_
    show Steps p.tables e below (s₁.setTop (mkF m 6 #[iv vv] [])) _
    refine XS.iloadN X0.here hx rfl (hb hby d19_6) rfl ?_
    show Steps p.tables e below (s₁.setTop (mkF m 7 #[iv vv] [(.int vv)])) _
    refine st1 _ ?_
    show Steps p.tables e below (T1.setTop (mkF m 10 #[iv vv] [(.int (127 : Int32)), (.int vv)])) _
    refine XS.icmpYes X1.here hx rfl (pc0 := 10) (pc' := 23) rfl (hb hby d19_10) rfl (tlt hhi).2.2.1 (by decide) (by decide) ?_
    show Steps p.tables e below (T1.setTop (mkF m 23 #[iv vv] [])) _
    refine st2 _ ?_
    show Steps p.tables e below (T2.setTop (mkF m 26 #[iv vv] [(.ref b2)])) _
    refine XS.dup X2.here hx rfl (hb hby d19_26) rfl rfl ?_
    show Steps p.tables e below (T2.setTop (mkF m 27 #[iv vv] [(.ref b2), (.ref b2)])) _
    refine XS.iloadN X2.here hx rfl (hb hby d19_27) rfl ?_
    show Steps p.tables e below (T2.setTop (mkF m 28 #[iv vv] [(.int vv), (.ref b2), (.ref b2)])) _
    refine st7.trans ?_
    show Steps p.tables e below (T7.setTop (mkF m 31 #[iv vv] [(.ref b2)])) _
    exact retOut X7 hx Bd.returns rfl (Or.inr (Or.inr (Or.inr (Or.inr ⟨rfl, rfl, rfl⟩)))) (hb hby d19_31) hr
  · show Q_rm_vn Z _ _ h0 n0 _ T7.heap _
    exact ⟨b2, rfl, N9, (K10), bz4, f11, hq7_0⟩
theorem d20_0 : decode jdk_33_method_27_code 0 = .ok (.aload_n 0, 1) := by decide +kernel
theorem d20_1 : decode jdk_33_method_27_code 1 = .ok (.getfield 205, 3) := by decide +kernel
theorem d20_4 : decode jdk_33_method_27_code 4 = .ok (.ireturn, 1) := by decide +kernel
theorem ef_rm20 (m : MethodId) (x0 : Addr) : entryFrame m #[(.ref x0)] 1 = mkF m 0 #[rv x0] [] := by first | (simp [entryFrame, mkF, argsToLocals, Value.category]; done) | rfl
def Q_rm20 (Z : State) (a20_0 : Addr) (vv : Int32) (h0 : Heap) (n0 : Nat) (v : Option Value) (h : Heap) (L : List Loc) : Prop := v = some (.int vv) ∧ Fr n0 L ∧ h = h0
set_option maxRecDepth 65536 in
set_option maxHeartbeats 40000000 in
theorem rm20 (l : Launch) (Z : State) (a0 : Array Value) (hw : ∀ d ∈ tables_1, d.before a0 Z = true) (ws : List Jvm.Cond) (a20_0 : Addr) (vv : Int32) (h0 : Heap) (n0 : Nat) (Z0 : n0 ≤ h0.size) (pf_F_a20_0_value : Fld Z h0 a20_0 "java/lang/Integer" "value" "I" (.int vv)) :
    MetFree l (⟨"java/lang/Integer", "intValue", "()I"⟩ : MethodName) (head1 (Jvm.Cond.code (⟨"java/lang/Integer", "intValue", "()I"⟩ : MethodName) jdk_33_method_27_code 1 (some .int) :: ws) ({ frames := 0, cells := 0, slots := 0, locals := 0 } : Room)) (fun a U => a = #[(.ref a20_0)] ∧ Z.Warmed39 U.vm ∧ U.heap = h0) (fun _ _ _ _ _ => True) (fun _ U o U' => ∃ v L, o = .returned v ∧ Q_rm20 Z a20_0 vv h0 n0 v U'.heap L ∧ FrameEnd U o U' L ({ frames := 0, cells := 0, slots := 0, locals := 0 } : Room).cells ({ frames := 0, cells := 0, slots := 0, locals := 0 } : Room).slots) := by
  refine MetFree.of_bodySF (plainFor_of_name pn_java_lang_Integer) hisR ?_
  intro p e s m args below meth c s₁ Bd hml0 hP hK
  obtain ⟨rfl, hZ, hh⟩ := hP
  have hx := Bd.exec
  have hby := Bd.bytes
  have hml : c.maxLocals = 1 := hml0
  have hown : s.vm.findClass "java/lang/Integer" = some m.cls := findClass_of_methodNamed Bd.named
  have hnm := (name_of_methodNamed Bd.named Bd.method).1
  have X0 : Stand p l e ({ frames := 0, cells := 0, slots := 0, locals := 0 } : Room) s m #[(.ref a20_0)] below meth c s₁ [] 0 0 := Stand.of_body Bd
  have e0 : s₁.heap = h0 := by rw [← hh, Bd.state]; rfl
  have N0 := Fr.nil n0
  have pre0 : ∀ t, Steps p.tables e below (s₁.setTop (mkF m 0 #[rv a20_0] [])) t → Steps p.tables e below (s₁.setTop (entryFrame m #[(.ref a20_0)] 1)) t := fun t k => castTop (ef_rm20 m a20_0) k
  have wo123 := hw _ (List.mem_of_getElem? (i := 123) rfl)
  obtain ⟨T1, X1, e1, st1⟩ := getF X0 hx hZ hown (host := "") (Or.inl wo123) Via.refl e0 pf_F_a20_0_value (g := (mkF m 1 #[rv a20_0] [(.ref a20_0)])) rfl rfl (hb hby d20_1)
  obtain ⟨fs, hr, hrun, hended, hW, hsame⟩ := X1.leave (v := some (.int vv)) (fun h => by rw [Bd.returns] at h; cases h)
  refine ⟨_, _, pre0 _ ?_, hrun, hended, _, _, rfl, ?_, ⟨_, rfl⟩, hW, hsame.mono (by decide) (by decide)⟩
  · show Steps p.tables e below (s₁.setTop (mkF m 0 #[rv a20_0] [])) _
    refine XS.aloadN X0.here hx rfl (hb hby d20_0) rfl rfl ?_
    show Steps p.tables e below (s₁.setTop (mkF m 1 #[rv a20_0] [(.ref a20_0)])) _
    refine st1 _ ?_
    show Steps p.tables e below (T1.setTop (mkF m 4 #[rv a20_0] [(.int vv)])) _
    exact retI X1 hx Bd.returns (hb hby d20_4) hr
  · show Q_rm20 Z _ _ h0 n0 _ T1.heap _
    rw [e1]
    exact ⟨rfl, N0, rfl⟩
theorem d11_0 : decode prog_6_method_5_code 0 = .ok (.aload_n 0, 1) := by decide +kernel
theorem d11_1 : decode prog_6_method_5_code 1 = .ok (.aload_n 1, 1) := by decide +kernel
theorem d11_2 : decode prog_6_method_5_code 2 = .ok (.iconst 1, 1) := by decide +kernel
theorem pd_14 : parseMethodDescriptor "(Lcom/example/dido/dido/keys/KeyReader;I)[B" = some ⟨[(.object "com/example/dido/dido/keys/KeyReader"), .int], some (.array .byte)⟩ := by decide +kernel
theorem d11_3 : decode prog_6_method_5_code 3 = .ok (.invokevirtual 19, 3) := by decide +kernel
theorem d11_6 : decode prog_6_method_5_code 6 = .ok (.iconst 0, 1) := by decide +kernel
theorem d11_7 : decode prog_6_method_5_code 7 = .ok (.baload, 1) := by decide +kernel
theorem pd_4 : parseMethodDescriptor "(B)I" = some ⟨[.byte], some .int⟩ := by decide +kernel
theorem d11_8 : decode prog_6_method_5_code 8 = .ok (.invokestatic 23, 3) := by decide +kernel
theorem d11_11 : decode prog_6_method_5_code 11 = .ok (.istore_n 2, 1) := by decide +kernel
theorem d11_12 : decode prog_6_method_5_code 12 = .ok (.iload_n 2, 1) := by decide +kernel
theorem d11_13 : decode prog_6_method_5_code 13 = .ok (.aload_n 0, 1) := by decide +kernel
theorem d11_14 : decode prog_6_method_5_code 14 = .ok (.getfield 7, 3) := by decide +kernel
theorem d11_17 : decode prog_6_method_5_code 17 = .ok (.if_icmp .eq 34, 3) := by decide +kernel
theorem d11_51 : decode prog_6_method_5_code 51 = .ok (.aload_n 0, 1) := by decide +kernel
theorem d11_52 : decode prog_6_method_5_code 52 = .ok (.getfield 7, 3) := by decide +kernel
theorem pd_8 : parseMethodDescriptor "(I)Ljava/lang/Integer;" = some ⟨[.int], some (.object "java/lang/Integer")⟩ := by decide +kernel
theorem d11_55 : decode prog_6_method_5_code 55 = .ok (.invokestatic 33, 3) := by decide +kernel
theorem d11_58 : decode prog_6_method_5_code 58 = .ok (.areturn, 1) := by decide +kernel
theorem ef_rm_dc (m : MethodId) (x0 : Addr) (x1 : Addr) : entryFrame m #[(.ref x0), (.ref x1)] 3 = mkF m 0 #[rv x0, rv x1, .unset] [] := by first | (simp [entryFrame, mkF, argsToLocals, Value.category]; done) | rfl
def Q_rm_dc (Z : State) (a11_0 : Addr) (a11_1 : Addr) (ky : Addr) (xx : Int32) (ca : Addr) (box : Addr) (h0 : Heap) (n0 : Nat) (v : Option Value) (h : Heap) (L : List Loc) : Prop := v = some (.ref box) ∧ Fr n0 L ∧ Keep h0 h [a11_1]
set_option maxRecDepth 65536 in
set_option maxHeartbeats 40000000 in
theorem rm_dc (l : Launch) (Z : State) (a0 : Array Value) (hw : ∀ d ∈ tables_1, d.before a0 Z = true) (ws : List Jvm.Cond) (a11_0 : Addr) (a11_1 : Addr) (ky : Addr) (xx : Int32) (ca : Addr) (box : Addr) (h0 : Heap) (n0 : Nat) (Z0 : n0 ≤ h0.size) (pf_E_a11_0 : Exa Z h0 a11_0 "com/example/dido/dido/keys/ConstField") (pf_F_a11_0_value : Fld Z h0 a11_0 "com/example/dido/dido/keys/ConstField" "value" "I" (.int (xx &&& (255 : Int32)))) (pf_NE_a11_0_a11_1 : a11_0 ≠ a11_1) (pf_E_a11_1 : Exa Z h0 a11_1 "com/example/dido/dido/keys/KeyReader") (pf_G_a11_1 : n0 ≤ a11_1) (pf_E_ky : Exa Z h0 ky "[B") (pf_A_ky : Av Z h0 ky .byte (1 : Int32) [(.int (nar .byte ((xx &&& (255 : Int32)).toInt8.toInt32)))] (.int (0 : Int32))) (pf_NE_a11_1_ky : a11_1 ≠ ky) (pf_F_a11_1_key : Fld Z h0 a11_1 "com/example/dido/dido/keys/KeyReader" "key" "[B" (.ref ky)) (pf_F_a11_1_mask : Fld Z h0 a11_1 "com/example/dido/dido/keys/KeyReader" "mask" "I" (.int (0 : Int32))) (pf_F_a11_1_position : Fld Z h0 a11_1 "com/example/dido/dido/keys/KeyReader" "position" "I" (.int (0 : Int32))) (pf_O : Old Z n0 h0) (pf_S_java_lang_Integer_IntegerCache_high : Sta Z Z.heap "java/lang/Integer$IntegerCache" "high" "I" (.int (127 : Int32))) (pf_S_java_lang_Integer_IntegerCache_cache : Sta Z Z.heap "java/lang/Integer$IntegerCache" "cache" "[Ljava/lang/Integer;" (.ref ca)) (hlo : ¬ ((xx &&& (255 : Int32)) < (-128 : Int32))) (hbox : own_InC Z ca (xx &&& (255 : Int32)) box) (hhi : ¬ ((127 : Int32) < (xx &&& (255 : Int32)))) :
    MetFree l (⟨"com/example/dido/dido/keys/ConstField", "decode", "(Lcom/example/dido/dido/keys/KeyReader;)Ljava/lang/Object;"⟩ : MethodName) (head1 (Jvm.Cond.code (⟨"com/example/dido/dido/keys/ConstField", "decode", "(Lcom/example/dido/dido/keys/KeyReader;)Ljava/lang/Object;"⟩ : MethodName) prog_6_method_5_code 3 (some (.object "java/lang/Object")) :: ws) ({ frames := 4, cells := 1, slots := 1, locals := 58 } : Room)) (fun a U => a = #[(.ref a11_0), (.ref a11_1)] ∧ Z.Warmed39 U.vm ∧ U.heap = h0) (fun _ _ _ _ _ => True) (fun _ U o U' => ∃ v L, o = .returned v ∧ Q_rm_dc Z a11_0 a11_1 ky xx ca box h0 n0 v U'.heap L ∧ FrameEnd U o U' L ({ frames := 4, cells := 1, slots := 1, locals := 58 } : Room).cells ({ frames := 4, cells := 1, slots := 1, locals := 58 } : Room).slots) := by
  refine MetFree.of_bodySF (plainFor_of_name pn_com_example_dido_dido_keys_ConstField) hisR ?_
  intro p e s m args below meth c s₁ Bd hml0 hP hK
  obtain ⟨rfl, hZ, hh⟩ := hP
  have hx := Bd.exec
  have hby := Bd.bytes
  have hml : c.maxLocals = 3 := hml0
  have hown : s.vm.findClass "com/example/dido/dido/keys/ConstField" = some m.cls := findClass_of_methodNamed Bd.named
  have hnm := (name_of_methodNamed Bd.named Bd.method).1
  have X0 : Stand p l e ({ frames := 4, cells := 1, slots := 1, locals := 58 } : Room) s m #[(.ref a11_0), (.ref a11_1)] below meth c s₁ [] 0 0 := Stand.of_body Bd
  have e0 : s₁.heap = h0 := by rw [← hh, Bd.state]; rfl
  have N0 := Fr.nil n0
  have pre0 : ∀ t, Steps p.tables e below (s₁.setTop (mkF m 0 #[rv a11_0, rv a11_1, .unset] [])) t → Steps p.tables e below (s₁.setTop (entryFrame m #[(.ref a11_0), (.ref a11_1)] 3)) t := fun t k => castTop (ef_rm_dc m a11_0 a11_1) k
  have wo35 := hw _ (List.mem_of_getElem? (i := 35) rfl)
  have wo40 := hw _ (List.mem_of_getElem? (i := 40) rfl)
  have wo68 := hw _ (List.mem_of_getElem? (i := 68) rfl)
  have wo69 := hw _ (List.mem_of_getElem? (i := 69) rfl)
  have wo70 := hw _ (List.mem_of_getElem? (i := 70) rfl)
  have wo71 := hw _ (List.mem_of_getElem? (i := 71) rfl)
  have wo72 := hw _ (List.mem_of_getElem? (i := 72) rfl)
  have wo73 := hw _ (List.mem_of_getElem? (i := 73) rfl)
  have wo105 := hw _ (List.mem_of_getElem? (i := 105) rfl)
  have wo106 := hw _ (List.mem_of_getElem? (i := 106) rfl)
  have wo107 := hw _ (List.mem_of_getElem? (i := 107) rfl)
  have wo108 := hw _ (List.mem_of_getElem? (i := 108) rfl)
  have wo109 := hw _ (List.mem_of_getElem? (i := 109) rfl)
  have wo110 := hw _ (List.mem_of_getElem? (i := 110) rfl)
  have wo111 := hw _ (List.mem_of_getElem? (i := 111) rfl)
  have wo112 := hw _ (List.mem_of_getElem? (i := 112) rfl)
  obtain ⟨cq1, kq1, q1a, q1b, q1c⟩ := isOf hZ e0 pf_E_a11_0
  obtain ⟨_, _, ⟨T1, L1, k1, n1⟩, -, X1, ⟨Lc1, hQ1, l1, y1, z1⟩, st1⟩ := X0.virtualBackUp hx (x := (⟨"com/example/dido/dido/keys/ConstField", "take", "(Lcom/example/dido/dido/keys/KeyReader;I)[B"⟩ : MethodName)) (y := MN12) hown (mvT hZ wo68) (mvT hZ wo69) (mvT hZ wo70) (by decide) (mvT hZ wo72) (mvT hZ wo71) (backOf (W := 0) (rm12 l Z a0 hw [] a11_0 a11_1 ky (nar .byte ((xx &&& (255 : Int32)).toInt8.toInt32)) h0 n0 Z0 pf_E_a11_1 pf_G_a11_1 pf_E_ky pf_A_ky pf_NE_a11_1_ky pf_F_a11_1_key pf_F_a11_1_mask pf_F_a11_1_position) hZ wo73 wo35 (by decide) (by decide)) q1a q1c (g := (mkF m 3 #[rv a11_0, rv a11_1, .unset] [(.int (1 : Int32)), (.ref a11_1), (.ref a11_0)])) rfl (by rw [hml]; rfl) (Steps.refl _) (argsL := [(.ref a11_1), (.int (1 : Int32))]) (rest := []) (lenOf pd_14 rfl) rfl (by show 2 * 0 + _ ≤ _; exact Nat.le_of_eq rfl) (hb hby d11_3) (fun _ _ => ⟨rfl, e0, (by decide : 0 + 1 ≤ _), (by decide : 0 + 1 ≤ _)⟩)
  dsimp only [Pt.U, Pt.locs, Pt.cells, Pt.slots] at X1 l1 y1 z1 st1 hQ1
  subst l1 y1 z1
  obtain ⟨b_1, rfl, N1q, K1q, hq1_0, hq1_1⟩ := hQ1
  have N2 := Fr.app N0 N1q
  have ne3 : a11_0 ≠ b_1 := Nat.ne_of_lt (Nat.lt_of_lt_of_le pf_E_a11_0.lt hq1_0)
  have ne4 : a11_1 ≠ b_1 := Nat.ne_of_lt (Nat.lt_of_lt_of_le pf_E_a11_1.lt hq1_0)
  have ne5 : ky ≠ b_1 := Nat.ne_of_lt (Nat.lt_of_lt_of_le pf_E_ky.lt hq1_0)
  have g6 : n0 ≤ b_1 := Nat.le_trans Z0 hq1_0
  have bz7 : h0.size ≤ b_1 := Nat.le_trans (Keep.refl h0 [a11_1]).1 hq1_0
  have K8 : Keep h0 T1.heap [a11_1] := (Keep.refl h0 [a11_1]).trans K1q (allS (P := fun x => x ∈ [a11_1] ∨ h0.size ≤ x) (Or.inl (List.mem_of_getElem? (i := 0) rfl)) all0)
  obtain ⟨kk9, cl9, Ar9, qq9, Sz9, Nn9, Hs9, Gf9⟩ := id hq1_1
  have hin10 : ¬ ((0 : Int32) < 0 ∨ cl9.slots.size ≤ ((0 : Int32)).toNatClampNeg) := inb_of Sz9 ⟨by decide, by decide⟩
  have hat11 : cl9.slots[((0 : Int32)).toNatClampNeg]? = some (.int (nar .byte ((nar .byte ((xx &&& (255 : Int32)).toInt8.toInt32)).toInt8.toInt32))) := Has.at Hs9 hin10 rfl
  have q12 : (nar .byte ((nar .byte ((xx &&& (255 : Int32)).toInt8.toInt32)).toInt8.toInt32)) = (nar .byte ((xx &&& (255 : Int32)).toInt8.toInt32)) := own_bb _
  have f13 : Av Z T1.heap b_1 .byte (1 : Int32) [(.int (nar .byte ((xx &&& (255 : Int32)).toInt8.toInt32)))] (.int (0 : Int32)) := by rw [← q12]; exact hq1_1
  have f15 := (Nat.le_trans Z0 K1q.1)
  obtain ⟨_, _, ⟨T14, L14, k14, n14⟩, -, X14, ⟨Lc14, hQ14, l14, y14, z14⟩, st14⟩ := Jvm.LawKit.callS X1 hx (y := MN18) hown (mvT hZ wo105) (mvT hZ wo106) (mvT hZ wo107) (mvT hZ wo108) (by decide) (backOf (W := 0) (rm18 l Z a0 hw [] (nar .byte ((xx &&& (255 : Int32)).toInt8.toInt32)) (T1.heap) n0 f15 ) hZ wo108 wo107 (by decide) (by decide)) (g := (mkF m 8 #[rv a11_0, rv a11_1, .unset] [(.int (nar .byte ((xx &&& (255 : Int32)).toInt8.toInt32)))])) rfl (by rw [hml]; rfl) (argsL := [(.int (nar .byte ((xx &&& (255 : Int32)).toInt8.toInt32)))]) (rest := []) (lenOf pd_4 rfl) rfl (by show 2 * 0 + _ ≤ _; exact Nat.le_of_eq rfl) (hb hby d11_8) (fun _ _ => ⟨rfl, rfl, (by decide : 1 + 0 ≤ _), (by decide : 1 + 0 ≤ _)⟩)
  dsimp only [Pt.U, Pt.locs, Pt.cells, Pt.slots] at X14 l14 y14 z14 st14 hQ14
  subst l14 y14 z14
  obtain ⟨rfl, N14q, K14q⟩ := hQ14
  have N16 := Fr.app N2 N14q
  have f17 := (pf_F_a11_0_value.keep K1q (ninS pf_NE_a11_0_a11_1 nin0))
  obtain ⟨T18, X18, e18, st18⟩ := getF X14 hx hZ hown (host := "") (Or.inl wo40) Via.refl K14q f17 (g := (mkF m 14 #[rv a11_0, rv a11_1, iv ((nar .byte ((xx &&& (255 : Int32)).toInt8.toInt32)) &&& (255 : Int32))] [(.ref a11_0), (.int ((nar .byte ((xx &&& (255 : Int32)).toInt8.toInt32)) &&& (255 : Int32)))])) rfl rfl (hb hby d11_14)
  have hc19 : ((nar .byte ((xx &&& (255 : Int32)).toInt8.toInt32)) &&& (255 : Int32)) = (xx &&& (255 : Int32)) := own_v xx
  obtain ⟨T20, X20, e20, st20⟩ := getF X18 hx hZ hown (host := "") (Or.inl wo40) Via.refl e18 f17 (g := (mkF m 52 #[rv a11_0, rv a11_1, iv ((nar .byte ((xx &&& (255 : Int32)).toInt8.toInt32)) &&& (255 : Int32))] [(.ref a11_0)])) rfl rfl (hb hby d11_52)
  have f21 := (pf_O.keep K1q (allS pf_G_a11_1 all0))
  obtain ⟨_, _, ⟨T22, L22, k22, n22⟩, -, X22, ⟨Lc22, hQ22, l22, y22, z22⟩, st22⟩ := Jvm.LawKit.callS X20 hx (y := MN19) hown (mvT hZ wo109) (mvT hZ wo110) (mvT hZ wo111) (mvT hZ wo112) (by decide) (backOf (W := 0) (rm_vc l Z a0 hw [] (xx &&& (255 : Int32)) ca box (T1.heap) n0 f15 f21 pf_S_java_lang_Integer_IntegerCache_high pf_S_java_lang_Integer_IntegerCache_cache (hbox : own_InC Z ca (xx &&& (255 : Int32)) box) (hlo : ¬ ((xx &&& (255 : Int32)) < (-128 : Int32))) (hhi : ¬ ((127 : Int32) < (xx &&& (255 : Int32))))) hZ wo112 wo111 (by decide) (by decide)) (g := (mkF m 55 #[rv a11_0, rv a11_1, iv ((nar .byte ((xx &&& (255 : Int32)).toInt8.toInt32)) &&& (255 : Int32))] [(.int (xx &&& (255 : Int32)))])) rfl (by rw [hml]; rfl) (argsL := [(.int (xx &&& (255 : Int32)))]) (rest := []) (lenOf pd_8 rfl) rfl (by show 2 * 0 + _ ≤ _; exact Nat.le_of_eq rfl) (hb hby d11_55) (fun _ _ => ⟨rfl, e20, (by decide : 1 + 0 ≤ _), (by decide : 1 + 0 ≤ _)⟩)
  dsimp only [Pt.U, Pt.locs, Pt.cells, Pt.slots] at X22 l22 y22 z22 st22 hQ22
  subst l22 y22 z22
  obtain ⟨rfl, N22q, K22q⟩ := hQ22
  have N23 := Fr.app N16 N22q
  obtain ⟨fs, hr, hrun, hended, hW, hsame⟩ := X22.leave (v := some (.ref box)) (fun h => by rw [Bd.returns] at h; cases h)
  refine ⟨_, _, pre0 _ ?_, hrun, hended, _, _, rfl, ?_, ⟨_, rfl⟩, hW, hsame.mono (by decide) (by decide)⟩
  · show Steps p.tables e below (s₁.setTop (mkF m 0 #[rv a11_0, rv a11_1, .unset] [])) _
    refine XS.aloadN X0.here hx rfl (hb hby d11_0) rfl rfl ?_
    show Steps p.tables e below (s₁.setTop (mkF m 1 #[rv a11_0, rv a11_1, .unset] [(.ref a11_0)])) _
    refine XS.aloadN X0.here hx rfl (hb hby d11_1) rfl rfl ?_
    show Steps p.tables e below (s₁.setTop (mkF m 2 #[rv a11_0, rv a11_1, .unset] [(.ref a11_1), (.ref a11_0)])) _
    refine XS.iconst X0.here hx rfl (hb hby d11_2) ?_
    show Steps p.tables e below (s₁.setTop (mkF m 3 #[rv a11_0, rv a11_1, .unset] [(.int (1 : Int32)), (.ref a11_1), (.ref a11_0)])) _
    refine st1.trans ?_
    show Steps p.tables e below (T1.setTop (mkF m 6 #[rv a11_0, rv a11_1, .unset] [(.ref b_1)])) _
    refine XS.iconst X1.here hx rfl (hb hby d11_6) ?_
    show Steps p.tables e below (T1.setTop (mkF m 7 #[rv a11_0, rv a11_1, .unset] [(.int (0 : Int32)), (.ref b_1)])) _
    refine X1.baloadBytes hx (j := (0 : Int32)) (v := (.int (nar .byte ((nar .byte ((xx &&& (255 : Int32)).toInt8.toInt32)).toInt8.toInt32)))) (Ar9.1) (State.isArrayOf_alike hZ.alike Ar9.2.1) Ar9.2.2 hin10 hat11 (g := (mkF m 7 #[rv a11_0, rv a11_1, .unset] [(.int (0 : Int32)), (.ref b_1)])) rfl rfl (hb hby d11_7) _ ?_
    rw [q12]
    show Steps p.tables e below (T1.setTop (mkF m 8 #[rv a11_0, rv a11_1, .unset] [(.int (nar .byte ((xx &&& (255 : Int32)).toInt8.toInt32)))])) _
    show Steps p.tables e below (T1.setTop (mkF m 8 #[rv a11_0, rv a11_1, .unset] [(.int (nar .byte ((xx &&& (255 : Int32)).toInt8.toInt32)))])) _
    refine st14 _ ?_
    show Steps p.tables e below (T14.setTop (mkF m 11 #[rv a11_0, rv a11_1, .unset] [(.int ((nar .byte ((xx &&& (255 : Int32)).toInt8.toInt32)) &&& (255 : Int32)))])) _
    refine XS.istoreN X14.here hx rfl (hb hby d11_11) rfl (l' := #[rv a11_0, rv a11_1, iv ((nar .byte ((xx &&& (255 : Int32)).toInt8.toInt32)) &&& (255 : Int32))]) rfl ?_
    show Steps p.tables e below (T14.setTop (mkF m 12 #[rv a11_0, rv a11_1, iv ((nar .byte ((xx &&& (255 : Int32)).toInt8.toInt32)) &&& (255 : Int32))] [])) _
    refine XS.iloadN X14.here hx rfl (hb hby d11_12) rfl ?_
    show Steps p.tables e below (T14.setTop (mkF m 13 #[rv a11_0, rv a11_1, iv ((nar .byte ((xx &&& (255 : Int32)).toInt8.toInt32)) &&& (255 : Int32))] [(.int ((nar .byte ((xx &&& (255 : Int32)).toInt8.toInt32)) &&& (255 : Int32)))])) _
    refine XS.aloadN X14.here hx rfl (hb hby d11_13) rfl rfl ?_
    show Steps p.tables e below (T14.setTop (mkF m 14 #[rv a11_0, rv a11_1, iv ((nar .byte ((xx &&& (255 : Int32)).toInt8.toInt32)) &&& (255 : Int32))] [(.ref a11_0), (.int ((nar .byte ((xx &&& (255 : Int32)).toInt8.toInt32)) &&& (255 : Int32)))])) _
    refine st18 _ ?_
    show Steps p.tables e below (T18.setTop (mkF m 17 #[rv a11_0, rv a11_1, iv ((nar .byte ((xx &&& (255 : Int32)).toInt8.toInt32)) &&& (255 : Int32))] [(.int (xx &&& (255 : Int32))), (.int ((nar .byte ((xx &&& (255 : Int32)).toInt8.toInt32)) &&& (255 : Int32)))])) _
    refine XS.icmpYes X18.here hx rfl (pc0 := 17) (pc' := 51) rfl (hb hby d11_17) rfl (teq hc19).1 (by decide) (by decide) ?_
    show Steps p.tables e below (T18.setTop (mkF m 51 #[rv a11_0, rv a11_1, iv ((nar .byte ((xx &&& (255 : Int32)).toInt8.toInt32)) &&& (255 : Int32))] [])) _
    refine XS.aloadN X18.here hx rfl (hb hby d11_51) rfl rfl ?_
    show Steps p.tables e below (T18.setTop (mkF m 52 #[rv a11_0, rv a11_1, iv ((nar .byte ((xx &&& (255 : Int32)).toInt8.toInt32)) &&& (255 : Int32))] [(.ref a11_0)])) _
    refine st20 _ ?_
    show Steps p.tables e below (T20.setTop (mkF m 55 #[rv a11_0, rv a11_1, iv ((nar .byte ((xx &&& (255 : Int32)).toInt8.toInt32)) &&& (255 : Int32))] [(.int (xx &&& (255 : Int32)))])) _
    refine st22 _ ?_
    show Steps p.tables e below (T22.setTop (mkF m 58 #[rv a11_0, rv a11_1, iv ((nar .byte ((xx &&& (255 : Int32)).toInt8.toInt32)) &&& (255 : Int32))] [(.ref box)])) _
    exact retOut X22 hx Bd.returns rfl (Or.inr (Or.inr (Or.inr (Or.inr ⟨rfl, rfl, rfl⟩)))) (hb hby d11_58) hr
  · show Q_rm_dc Z _ _ _ _ _ _ h0 n0 _ T22.heap _
    rw [K22q]
    exact ⟨rfl, N23, (K8)⟩
theorem ef_rm_dn (m : MethodId) (x0 : Addr) (x1 : Addr) : entryFrame m #[(.ref x0), (.ref x1)] 3 = mkF m 0 #[rv x0, rv x1, .unset] [] := by first | (simp [entryFrame, mkF, argsToLocals, Value.category]; done) | rfl
def Q_rm_dn (Z : State) (a11_0 : Addr) (a11_1 : Addr) (ky : Addr) (xx : Int32) (ca : Addr) (h0 : Heap) (n0 : Nat) (v : Option Value) (h : Heap) (L : List Loc) : Prop := ∃ (bx : Addr), v = some (.ref bx) ∧ Fr n0 L ∧ Keep h0 h [a11_1] ∧ (Exa Z h bx "java/lang/Integer") ∧ (Fld Z h bx "java/lang/Integer" "value" "I" (.int (xx &&& (255 : Int32))))
set_option maxRecDepth 65536 in
set_option maxHeartbeats 40000000 in
theorem rm_dn (l : Launch) (Z : State) (a0 : Array Value) (hw : ∀ d ∈ tables_1, d.before a0 Z = true) (ws : List Jvm.Cond) (a11_0 : Addr) (a11_1 : Addr) (ky : Addr) (xx : Int32) (ca : Addr) (h0 : Heap) (n0 : Nat) (Z0 : n0 ≤ h0.size) (pf_E_a11_0 : Exa Z h0 a11_0 "com/example/dido/dido/keys/ConstField") (pf_F_a11_0_value : Fld Z h0 a11_0 "com/example/dido/dido/keys/ConstField" "value" "I" (.int (xx &&& (255 : Int32)))) (pf_NE_a11_0_a11_1 : a11_0 ≠ a11_1) (pf_E_a11_1 : Exa Z h0 a11_1 "com/example/dido/dido/keys/KeyReader") (pf_G_a11_1 : n0 ≤ a11_1) (pf_E_ky : Exa Z h0 ky "[B") (pf_A_ky : Av Z h0 ky .byte (1 : Int32) [(.int (nar .byte ((xx &&& (255 : Int32)).toInt8.toInt32)))] (.int (0 : Int32))) (pf_NE_a11_1_ky : a11_1 ≠ ky) (pf_F_a11_1_key : Fld Z h0 a11_1 "com/example/dido/dido/keys/KeyReader" "key" "[B" (.ref ky)) (pf_F_a11_1_mask : Fld Z h0 a11_1 "com/example/dido/dido/keys/KeyReader" "mask" "I" (.int (0 : Int32))) (pf_F_a11_1_position : Fld Z h0 a11_1 "com/example/dido/dido/keys/KeyReader" "position" "I" (.int (0 : Int32))) (pf_O : Old Z n0 h0) (pf_S_java_lang_Integer_IntegerCache_high : Sta Z Z.heap "java/lang/Integer$IntegerCache" "high" "I" (.int (127 : Int32))) (pf_S_java_lang_Integer_IntegerCache_cache : Sta Z Z.heap "java/lang/Integer$IntegerCache" "cache" "[Ljava/lang/Integer;" (.ref ca)) (hlo : ¬ ((xx &&& (255 : Int32)) < (-128 : Int32))) (hhi : (127 : Int32) < (xx &&& (255 : Int32))) :
    MetFree l (⟨"com/example/dido/dido/keys/ConstField", "decode", "(Lcom/example/dido/dido/keys/KeyReader;)Ljava/lang/Object;"⟩ : MethodName) (head1 (Jvm.Cond.code (⟨"com/example/dido/dido/keys/ConstField", "decode", "(Lcom/example/dido/dido/keys/KeyReader;)Ljava/lang/Object;"⟩ : MethodName) prog_6_method_5_code 3 (some (.object "java/lang/Object")) :: ws) ({ frames := 4, cells := 2, slots := 2, locals := 58 } : Room)) (fun a U => a = #[(.ref a11_0), (.ref a11_1)] ∧ Z.Warmed39 U.vm ∧ U.heap = h0) (fun _ _ _ _ _ => True) (fun _ U o U' => ∃ v L, o = .returned v ∧ Q_rm_dn Z a11_0 a11_1 ky xx ca h0 n0 v U'.heap L ∧ FrameEnd U o U' L ({ frames := 4, cells := 2, slots := 2, locals := 58 } : Room).cells ({ frames := 4, cells := 2, slots := 2, locals := 58 } : Room).slots) := by
  refine MetFree.of_bodySF (plainFor_of_name pn_com_example_dido_dido_keys_ConstField) hisR ?_
  intro p e s m args below meth c s₁ Bd hml0 hP hK
  obtain ⟨rfl, hZ, hh⟩ := hP
  have hx := Bd.exec
  have hby := Bd.bytes
  have hml : c.maxLocals = 3 := hml0
  have hown : s.vm.findClass "com/example/dido/dido/keys/ConstField" = some m.cls := findClass_of_methodNamed Bd.named
  have hnm := (name_of_methodNamed Bd.named Bd.method).1
  have X0 : Stand p l e ({ frames := 4, cells := 2, slots := 2, locals := 58 } : Room) s m #[(.ref a11_0), (.ref a11_1)] below meth c s₁ [] 0 0 := Stand.of_body Bd
  have e0 : s₁.heap = h0 := by rw [← hh, Bd.state]; rfl
  have N0 := Fr.nil n0
  have pre0 : ∀ t, Steps p.tables e below (s₁.setTop (mkF m 0 #[rv a11_0, rv a11_1, .unset] [])) t → Steps p.tables e below (s₁.setTop (entryFrame m #[(.ref a11_0), (.ref a11_1)] 3)) t := fun t k => castTop (ef_rm_dn m a11_0 a11_1) k
  have wo35 := hw _ (List.mem_of_getElem? (i := 35) rfl)
  have wo40 := hw _ (List.mem_of_getElem? (i := 40) rfl)
  have wo68 := hw _ (List.mem_of_getElem? (i := 68) rfl)
  have wo69 := hw _ (List.mem_of_getElem? (i := 69) rfl)
  have wo70 := hw _ (List.mem_of_getElem? (i := 70) rfl)
  have wo71 := hw _ (List.mem_of_getElem? (i := 71) rfl)
  have wo72 := hw _ (List.mem_of_getElem? (i := 72) rfl)
  have wo73 := hw _ (List.mem_of_getElem? (i := 73) rfl)
  have wo105 := hw _ (List.mem_of_getElem? (i := 105) rfl)
  have wo106 := hw _ (List.mem_of_getElem? (i := 106) rfl)
  have wo107 := hw _ (List.mem_of_getElem? (i := 107) rfl)
  have wo108 := hw _ (List.mem_of_getElem? (i := 108) rfl)
  have wo109 := hw _ (List.mem_of_getElem? (i := 109) rfl)
  have wo110 := hw _ (List.mem_of_getElem? (i := 110) rfl)
  have wo111 := hw _ (List.mem_of_getElem? (i := 111) rfl)
  have wo112 := hw _ (List.mem_of_getElem? (i := 112) rfl)
  obtain ⟨cq1, kq1, q1a, q1b, q1c⟩ := isOf hZ e0 pf_E_a11_0
  obtain ⟨_, _, ⟨T1, L1, k1, n1⟩, -, X1, ⟨Lc1, hQ1, l1, y1, z1⟩, st1⟩ := X0.virtualBackUp hx (x := (⟨"com/example/dido/dido/keys/ConstField", "take", "(Lcom/example/dido/dido/keys/KeyReader;I)[B"⟩ : MethodName)) (y := MN12) hown (mvT hZ wo68) (mvT hZ wo69) (mvT hZ wo70) (by decide) (mvT hZ wo72) (mvT hZ wo71) (backOf (W := 0) (rm12 l Z a0 hw [] a11_0 a11_1 ky (nar .byte ((xx &&& (255 : Int32)).toInt8.toInt32)) h0 n0 Z0 pf_E_a11_1 pf_G_a11_1 pf_E_ky pf_A_ky pf_NE_a11_1_ky pf_F_a11_1_key pf_F_a11_1_mask pf_F_a11_1_position) hZ wo73 wo35 (by decide) (by decide)) q1a q1c (g := (mkF m 3 #[rv a11_0, rv a11_1, .unset] [(.int (1 : Int32)), (.ref a11_1), (.ref a11_0)])) rfl (by rw [hml]; rfl) (Steps.refl _) (argsL := [(.ref a11_1), (.int (1 : Int32))]) (rest := []) (lenOf pd_14 rfl) rfl (by show 2 * 0 + _ ≤ _; exact Nat.le_of_eq rfl) (hb hby d11_3) (fun _ _ => ⟨rfl, e0, (by decide : 0 + 1 ≤ _), (by decide : 0 + 1 ≤ _)⟩)
  dsimp only [Pt.U, Pt.locs, Pt.cells, Pt.slots] at X1 l1 y1 z1 st1 hQ1
  subst l1 y1 z1
  obtain ⟨b_1, rfl, N1q, K1q, hq1_0, hq1_1⟩ := hQ1
  have N2 := Fr.app N0 N1q
  have ne3 : a11_0 ≠ b_1 := Nat.ne_of_lt (Nat.lt_of_lt_of_le pf_E_a11_0.lt hq1_0)
  have ne4 : a11_1 ≠ b_1 := Nat.ne_of_lt (Nat.lt_of_lt_of_le pf_E_a11_1.lt hq1_0)
  have ne5 : ky ≠ b_1 := Nat.ne_of_lt (Nat.lt_of_lt_of_le pf_E_ky.lt hq1_0)
  have g6 : n0 ≤ b_1 := Nat.le_trans Z0 hq1_0
  have bz7 : h0.size ≤ b_1 := Nat.le_trans (Keep.refl h0 [a11_1]).1 hq1_0
  have K8 : Keep h0 T1.heap [a11_1] := (Keep.refl h0 [a11_1]).trans K1q (allS (P := fun x => x ∈ [a11_1] ∨ h0.size ≤ x) (Or.inl (List.mem_of_getElem? (i := 0) rfl)) all0)
  obtain ⟨kk9, cl9, Ar9, qq9, Sz9, Nn9, Hs9, Gf9⟩ := id hq1_1
  have hin10 : ¬ ((0 : Int32) < 0 ∨ cl9.slots.size ≤ ((0 : Int32)).toNatClampNeg) := inb_of Sz9 ⟨by decide, by decide⟩
  have hat11 : cl9.slots[((0 : Int32)).toNatClampNeg]? = some (.int (nar .byte ((nar .byte ((xx &&& (255 : Int32)).toInt8.toInt32)).toInt8.toInt32))) := Has.at Hs9 hin10 rfl
  have q12 : (nar .byte ((nar .byte ((xx &&& (255 : Int32)).toInt8.toInt32)).toInt8.toInt32)) = (nar .byte ((xx &&& (255 : Int32)).toInt8.toInt32)) := own_bb _
  have f13 : Av Z T1.heap b_1 .byte (1 : Int32) [(.int (nar .byte ((xx &&& (255 : Int32)).toInt8.toInt32)))] (.int (0 : Int32)) := by rw [← q12]; exact hq1_1
  have f15 := (Nat.le_trans Z0 K1q.1)
  obtain ⟨_, _, ⟨T14, L14, k14, n14⟩, -, X14, ⟨Lc14, hQ14, l14, y14, z14⟩, st14⟩ := Jvm.LawKit.callS X1 hx (y := MN18) hown (mvT hZ wo105) (mvT hZ wo106) (mvT hZ wo107) (mvT hZ wo108) (by decide) (backOf (W := 0) (rm18 l Z a0 hw [] (nar .byte ((xx &&& (255 : Int32)).toInt8.toInt32)) (T1.heap) n0 f15 ) hZ wo108 wo107 (by decide) (by decide)) (g := (mkF m 8 #[rv a11_0, rv a11_1, .unset] [(.int (nar .byte ((xx &&& (255 : Int32)).toInt8.toInt32)))])) rfl (by rw [hml]; rfl) (argsL := [(.int (nar .byte ((xx &&& (255 : Int32)).toInt8.toInt32)))]) (rest := []) (lenOf pd_4 rfl) rfl (by show 2 * 0 + _ ≤ _; exact Nat.le_of_eq rfl) (hb hby d11_8) (fun _ _ => ⟨rfl, rfl, (by decide : 1 + 0 ≤ _), (by decide : 1 + 0 ≤ _)⟩)
  dsimp only [Pt.U, Pt.locs, Pt.cells, Pt.slots] at X14 l14 y14 z14 st14 hQ14
  subst l14 y14 z14
  obtain ⟨rfl, N14q, K14q⟩ := hQ14
  have N16 := Fr.app N2 N14q
  have f17 := (pf_F_a11_0_value.keep K1q (ninS pf_NE_a11_0_a11_1 nin0))
  obtain ⟨T18, X18, e18, st18⟩ := getF X14 hx hZ hown (host := "") (Or.inl wo40) Via.refl K14q f17 (g := (mkF m 14 #[rv a11_0, rv a11_1, iv ((nar .byte ((xx &&& (255 : Int32)).toInt8.toInt32)) &&& (255 : Int32))] [(.ref a11_0), (.int ((nar .byte ((xx &&& (255 : Int32)).toInt8.toInt32)) &&& (255 : Int32)))])) rfl rfl (hb hby d11_14)
  have hc19 : ((nar .byte ((xx &&& (255 : Int32)).toInt8.toInt32)) &&& (255 : Int32)) = (xx &&& (255 : Int32)) := own_v xx
  obtain ⟨T20, X20, e20, st20⟩ := getF X18 hx hZ hown (host := "") (Or.inl wo40) Via.refl e18 f17 (g := (mkF m 52 #[rv a11_0, rv a11_1, iv ((nar .byte ((xx &&& (255 : Int32)).toInt8.toInt32)) &&& (255 : Int32))] [(.ref a11_0)])) rfl rfl (hb hby d11_52)
  have f21 := (pf_O.keep K1q (allS pf_G_a11_1 all0))
  obtain ⟨_, _, ⟨T22, L22, k22, n22⟩, -, X22, ⟨Lc22, hQ22, l22, y22, z22⟩, st22⟩ := Jvm.LawKit.callS X20 hx (y := MN19) hown (mvT hZ wo109) (mvT hZ wo110) (mvT hZ wo111) (mvT hZ wo112) (by decide) (backOf (W := 0) (rm_vn l Z a0 hw [] (xx &&& (255 : Int32)) ca (T1.heap) n0 f15 f21 pf_S_java_lang_Integer_IntegerCache_high pf_S_java_lang_Integer_IntegerCache_cache (hlo : ¬ ((xx &&& (255 : Int32)) < (-128 : Int32))) (hhi : (127 : Int32) < (xx &&& (255 : Int32)))) hZ wo112 wo111 (by decide) (by decide)) (g := (mkF m 55 #[rv a11_0, rv a11_1, iv ((nar .byte ((xx &&& (255 : Int32)).toInt8.toInt32)) &&& (255 : Int32))] [(.int (xx &&& (255 : Int32)))])) rfl (by rw [hml]; rfl) (argsL := [(.int (xx &&& (255 : Int32)))]) (rest := []) (lenOf pd_8 rfl) rfl (by show 2 * 0 + _ ≤ _; exact Nat.le_of_eq rfl) (hb hby d11_55) (fun _ _ => ⟨rfl, e20, (by decide : 1 + 1 ≤ _), (by decide : 1 + 1 ≤ _)⟩)
  dsimp only [Pt.U, Pt.locs, Pt.cells, Pt.slots] at X22 l22 y22 z22 st22 hQ22
  subst l22 y22 z22
  obtain ⟨b_22, rfl, N22q, K22q, hq22_0, hq22_1, hq22_2⟩ := hQ22
  have N23 := Fr.app N16 N22q
  have f24 := (pf_E_a11_0.keep K1q)
  have ne25 : a11_0 ≠ b_22 := Nat.ne_of_lt (Nat.lt_of_lt_of_le f24.lt hq22_0)
  have f26 := (pf_E_a11_1.keep K1q)
  have ne27 : a11_1 ≠ b_22 := Nat.ne_of_lt (Nat.lt_of_lt_of_le f26.lt hq22_0)
  have f28 := (pf_E_ky.keep K1q)
  have ne29 : ky ≠ b_22 := Nat.ne_of_lt (Nat.lt_of_lt_of_le f28.lt hq22_0)
  have ne30 : b_1 ≠ b_22 := Nat.ne_of_lt (Nat.lt_of_lt_of_le f13.lt hq22_0)
  have g31 : n0 ≤ b_22 := Nat.le_trans f15 hq22_0
  have bz32 : h0.size ≤ b_22 := Nat.le_trans (K8).1 hq22_0
  have K33 : Keep h0 T22.heap [a11_1] := (K8).trans K22q all0
  obtain ⟨fs, hr, hrun, hended, hW, hsame⟩ := X22.leave (v := some (.ref b_22)) (fun h => by rw [Bd.returns] at h; cases h)
  refine ⟨_, _, pre0 _ ?_, hrun, hended, _, _, rfl, ?_, ⟨_, rfl⟩, hW, hsame.mono (by decide) (by decide)⟩
  · show Steps p.tables e below (s₁.setTop (mkF m 0 #[rv a11_0, rv a11_1, .unset] [])) _
    refine XS.aloadN X0.here hx rfl (hb hby d11_0) rfl rfl ?_
    show Steps p.tables e below (s₁.setTop (mkF m 1 #[rv a11_0, rv a11_1, .unset] [(.ref a11_0)])) _
    refine XS.aloadN X0.here hx rfl (hb hby d11_1) rfl rfl ?_
    show Steps p.tables e below (s₁.setTop (mkF m 2 #[rv a11_0, rv a11_1, .unset] [(.ref a11_1), (.ref a11_0)])) _
    refine XS.iconst X0.here hx rfl (hb hby d11_2) ?_
    show Steps p.tables e below (s₁.setTop (mkF m 3 #[rv a11_0, rv a11_1, .unset] [(.int (1 : Int32)), (.ref a11_1), (.ref a11_0)])) _
    refine st1.trans ?_
    show Steps p.tables e below (T1.setTop (mkF m 6 #[rv a11_0, rv a11_1, .unset] [(.ref b_1)])) _
    refine XS.iconst X1.here hx rfl (hb hby d11_6) ?_
    show Steps p.tables e below (T1.setTop (mkF m 7 #[rv a11_0, rv a11_1, .unset] [(.int (0 : Int32)), (.ref b_1)])) _
    refine X1.baloadBytes hx (j := (0 : Int32)) (v := (.int (nar .byte ((nar .byte ((xx &&& (255 : Int32)).toInt8.toInt32)).toInt8.toInt32)))) (Ar9.1) (State.isArrayOf_alike hZ.alike Ar9.2.1) Ar9.2.2 hin10 hat11 (g := (mkF m 7 #[rv a11_0, rv a11_1, .unset] [(.int (0 : Int32)), (.ref b_1)])) rfl rfl (hb hby d11_7) _ ?_
    rw [q12]
    show Steps p.tables e below (T1.setTop (mkF m 8 #[rv a11_0, rv a11_1, .unset] [(.int (nar .byte ((xx &&& (255 : Int32)).toInt8.toInt32)))])) _
    show Steps p.tables e below (T1.setTop (mkF m 8 #[rv a11_0, rv a11_1, .unset] [(.int (nar .byte ((xx &&& (255 : Int32)).toInt8.toInt32)))])) _
    refine st14 _ ?_
    show Steps p.tables e below (T14.setTop (mkF m 11 #[rv a11_0, rv a11_1, .unset] [(.int ((nar .byte ((xx &&& (255 : Int32)).toInt8.toInt32)) &&& (255 : Int32)))])) _
    refine XS.istoreN X14.here hx rfl (hb hby d11_11) rfl (l' := #[rv a11_0, rv a11_1, iv ((nar .byte ((xx &&& (255 : Int32)).toInt8.toInt32)) &&& (255 : Int32))]) rfl ?_
    show Steps p.tables e below (T14.setTop (mkF m 12 #[rv a11_0, rv a11_1, iv ((nar .byte ((xx &&& (255 : Int32)).toInt8.toInt32)) &&& (255 : Int32))] [])) _
    refine XS.iloadN X14.here hx rfl (hb hby d11_12) rfl ?_
    show Steps p.tables e below (T14.setTop (mkF m 13 #[rv a11_0, rv a11_1, iv ((nar .byte ((xx &&& (255 : Int32)).toInt8.toInt32)) &&& (255 : Int32))] [(.int ((nar .byte ((xx &&& (255 : Int32)).toInt8.toInt32)) &&& (255 : Int32)))])) _
    refine XS.aloadN X14.here hx rfl (hb hby d11_13) rfl rfl ?_
    show Steps p.tables e below (T14.setTop (mkF m 14 #[rv a11_0, rv a11_1, iv ((nar .byte ((xx &&& (255 : Int32)).toInt8.toInt32)) &&& (255 : Int32))] [(.ref a11_0), (.int ((nar .byte ((xx &&& (255 : Int32)).toInt8.toInt32)) &&& (255 : Int32)))])) _
    refine st18 _ ?_
    show Steps p.tables e below (T18.setTop (mkF m 17 #[rv a11_0, rv a11_1, iv ((nar .byte ((xx &&& (255 : Int32)).toInt8.toInt32)) &&& (255 : Int32))] [(.int (xx &&& (255 : Int32))), (.int ((nar .byte ((xx &&& (255 : Int32)).toInt8.toInt32)) &&& (255 : Int32)))])) _
    refine XS.icmpYes X18.here hx rfl (pc0 := 17) (pc' := 51) rfl (hb hby d11_17) rfl (teq hc19).1 (by decide) (by decide) ?_
    show Steps p.tables e below (T18.setTop (mkF m 51 #[rv a11_0, rv a11_1, iv ((nar .byte ((xx &&& (255 : Int32)).toInt8.toInt32)) &&& (255 : Int32))] [])) _
    refine XS.aloadN X18.here hx rfl (hb hby d11_51) rfl rfl ?_
    show Steps p.tables e below (T18.setTop (mkF m 52 #[rv a11_0, rv a11_1, iv ((nar .byte ((xx &&& (255 : Int32)).toInt8.toInt32)) &&& (255 : Int32))] [(.ref a11_0)])) _
    refine st20 _ ?_
    show Steps p.tables e below (T20.setTop (mkF m 55 #[rv a11_0, rv a11_1, iv ((nar .byte ((xx &&& (255 : Int32)).toInt8.toInt32)) &&& (255 : Int32))] [(.int (xx &&& (255 : Int32)))])) _
    refine st22 _ ?_
    show Steps p.tables e below (T22.setTop (mkF m 58 #[rv a11_0, rv a11_1, iv ((nar .byte ((xx &&& (255 : Int32)).toInt8.toInt32)) &&& (255 : Int32))] [(.ref b_22)])) _
    exact retOut X22 hx Bd.returns rfl (Or.inr (Or.inr (Or.inr (Or.inr ⟨rfl, rfl, rfl⟩)))) (hb hby d11_58) hr
  · show Q_rm_dn Z _ _ _ _ _ h0 n0 _ T22.heap _
    exact ⟨b_22, rfl, N23, (K33), hq22_1, hq22_2⟩
theorem pd_5 : parseMethodDescriptor "(C)Ljava/lang/String;" = some ⟨[.char], some (.object "java/lang/String")⟩ := by decide +kernel
theorem pd_16 : parseMethodDescriptor "(Ljava/lang/String;I)V" = some ⟨[(.object "java/lang/String"), .int], none⟩ := by decide +kernel
theorem pd_3 : parseMethodDescriptor "()[B" = some ⟨[], some (.array .byte)⟩ := by decide +kernel
theorem pd_17 : parseMethodDescriptor "([B)V" = some ⟨[(.array .byte)], none⟩ := by decide +kernel
theorem pd_13 : parseMethodDescriptor "(Lcom/example/dido/dido/keys/KeyReader;)Ljava/lang/Object;" = some ⟨[(.object "com/example/dido/dido/keys/KeyReader")], some (.object "java/lang/Object")⟩ := by decide +kernel
theorem pn_com_example_dido_dido_keys_ConstFieldKeyBytesPinLaw : plainName "com/example/dido/dido/keys/ConstFieldKeyBytesPinLaw" = true := by first | (simp [plainName, overriddenIn]; done) | decide +kernel
theorem ef_rm0 (m : MethodId) (x0 : Int32) (x1 : Int32) : entryFrame m #[(.int x0), (.int x1)] maxLocals = mkF m 0 #[iv x0, iv x1, .unset, .unset, .unset, .unset, .unset, .unset] [] := by first | (simp [entryFrame, mkF, argsToLocals, Value.category, maxLocals]; done) | rfl
def Q_rm0 (Z : State) (p0_0 : Int32) (p0_1 : Int32) (cs : Int32) (ca : Addr) (h0 : Heap) (n0 : Nat) (v : Option Value) (h : Heap) (L : List Loc) : Prop := v = some (.int (1 : Int32)) ∧ Fr n0 L ∧ Keep h0 h []
set_option maxRecDepth 65536 in
set_option maxHeartbeats 40000000 in
theorem rm0 (l : Launch) (Z : State) (a0 : Array Value) (hw : ∀ d ∈ tables_1, d.before a0 Z = true) (ws : List Jvm.Cond) (p0_0 : Int32) (p0_1 : Int32) (cs : Int32) (ca : Addr) (h0 : Heap) (n0 : Nat) (Z0 : n0 ≤ h0.size) (pf_O : Old Z n0 h0) (pf_S_java_lang_String_COMPACT_STRINGS : Sta Z Z.heap "java/lang/String" "COMPACT_STRINGS" "Z" (.int cs)) (hcs : ¬ (cs = (0 : Int32))) (pf_S_java_lang_Integer_IntegerCache_high : Sta Z Z.heap "java/lang/Integer$IntegerCache" "high" "I" (.int (127 : Int32))) (pf_S_java_lang_Integer_IntegerCache_cache : Sta Z Z.heap "java/lang/Integer$IntegerCache" "cache" "[Ljava/lang/Integer;" (.ref ca)) (hca : ∀ w : Int32, ¬ w < -128 → ¬ 127 < w → ∃ box, own_InC Z ca w box ∧ Exa Z Z.heap box "java/lang/Integer" ∧ Fld Z Z.heap box "java/lang/Integer" "value" "I" (.int w)) :
    MetFree l x (head1 (Jvm.Cond.code x code maxLocals ret :: ws) room_1) (fun a U => a = #[(.int p0_0), (.int p0_1)] ∧ Z.Warmed39 U.vm ∧ U.heap = h0) (fun _ _ _ _ _ => True) (fun _ U o U' => ∃ v L, o = .returned v ∧ Q_rm0 Z p0_0 p0_1 cs ca h0 n0 v U'.heap L ∧ FrameEnd U o U' L room_1.cells room_1.slots) := by
  refine MetFree.of_bodySF (plainFor_of_name pn_com_example_dido_dido_keys_ConstFieldKeyBytesPinLaw) hisR ?_
  intro p e s m args below meth c s₁ Bd hml0 hP hK
  obtain ⟨rfl, hZ, hh⟩ := hP
  have hx := Bd.exec
  have hby := Bd.bytes
  have hml : c.maxLocals = 8 := hml0
  have hown : s.vm.findClass "com/example/dido/dido/keys/ConstFieldKeyBytesPinLaw" = some m.cls := findClass_of_methodNamed Bd.named
  have hnm := (name_of_methodNamed Bd.named Bd.method).1
  have X0 : Stand p l e room_1 s m #[(.int p0_0), (.int p0_1)] below meth c s₁ [] 0 0 := Stand.of_body Bd
  have e0 : s₁.heap = h0 := by rw [← hh, Bd.state]; rfl
  have N0 := Fr.nil n0
  have pre0 : ∀ t, Steps p.tables e below (s₁.setTop (mkF m 0 #[iv p0_0, iv p0_1, .unset, .unset, .unset, .unset, .unset, .unset] [])) t → Steps p.tables e below (s₁.setTop (entryFrame m #[(.int p0_0), (.int p0_1)] maxLocals)) t := fun t k => castTop (ef_rm0 m p0_0 p0_1) k
  have wo0 := hw _ (List.mem_of_getElem? (i := 0) rfl)
  have wo1 := hw _ (List.mem_of_getElem? (i := 1) rfl)
  have wo2 := hw _ (List.mem_of_getElem? (i := 2) rfl)
  have wo3 := hw _ (List.mem_of_getElem? (i := 3) rfl)
  have wo26 := hw _ (List.mem_of_getElem? (i := 26) rfl)
  have wo27 := hw _ (List.mem_of_getElem? (i := 27) rfl)
  have wo28 := hw _ (List.mem_of_getElem? (i := 28) rfl)
  have wo29 := hw _ (List.mem_of_getElem? (i := 29) rfl)
  have wo30 := hw _ (List.mem_of_getElem? (i := 30) rfl)
  have wo31 := hw _ (List.mem_of_getElem? (i := 31) rfl)
  have wo39 := hw _ (List.mem_of_getElem? (i := 39) rfl)
  have wo41 := hw _ (List.mem_of_getElem? (i := 41) rfl)
  have wo42 := hw _ (List.mem_of_getElem? (i := 42) rfl)
  have wo43 := hw _ (List.mem_of_getElem? (i := 43) rfl)
  have wo44 := hw _ (List.mem_of_getElem? (i := 44) rfl)
  have wo45 := hw _ (List.mem_of_getElem? (i := 45) rfl)
  have wo46 := hw _ (List.mem_of_getElem? (i := 46) rfl)
  have wo47 := hw _ (List.mem_of_getElem? (i := 47) rfl)
  have wo48 := hw _ (List.mem_of_getElem? (i := 48) rfl)
  have wo49 := hw _ (List.mem_of_getElem? (i := 49) rfl)
  have wo50 := hw _ (List.mem_of_getElem? (i := 50) rfl)
  have wo51 := hw _ (List.mem_of_getElem? (i := 51) rfl)
  have wo52 := hw _ (List.mem_of_getElem? (i := 52) rfl)
  have wo58 := hw _ (List.mem_of_getElem? (i := 58) rfl)
  have wo60 := hw _ (List.mem_of_getElem? (i := 60) rfl)
  have wo62 := hw _ (List.mem_of_getElem? (i := 62) rfl)
  have wo63 := hw _ (List.mem_of_getElem? (i := 63) rfl)
  have wo64 := hw _ (List.mem_of_getElem? (i := 64) rfl)
  have wo65 := hw _ (List.mem_of_getElem? (i := 65) rfl)
  have wo66 := hw _ (List.mem_of_getElem? (i := 66) rfl)
  have wo67 := hw _ (List.mem_of_getElem? (i := 67) rfl)
  have wo111 := hw _ (List.mem_of_getElem? (i := 111) rfl)
  have wo116 := hw _ (List.mem_of_getElem? (i := 116) rfl)
  have wo118 := hw _ (List.mem_of_getElem? (i := 118) rfl)
  have wo119 := hw _ (List.mem_of_getElem? (i := 119) rfl)
  have wo120 := hw _ (List.mem_of_getElem? (i := 120) rfl)
  have wo121 := hw _ (List.mem_of_getElem? (i := 121) rfl)
  have wo122 := hw _ (List.mem_of_getElem? (i := 122) rfl)
  have hlo : ¬ ((p0_0 &&& (255 : Int32)) < (-128 : Int32)) := own_lo p0_0
  by_cases hb1 : (127 : Int32) < (p0_0 &&& (255 : Int32))
  · skip
    obtain ⟨_, _, ⟨T2, L2, k2, n2⟩, -, X2, ⟨Lc2, hQ2, l2, y2, z2⟩, st2⟩ := Jvm.LawKit.callS X0 hx (y := MN1) hown (mvT hZ wo0) (mvT hZ wo1) (mvT hZ wo2) (mvT hZ wo3) (by decide) (backOf (W := 0) (rm1 l Z a0 hw [] ((p0_1 &&& (255 : Int32)).toUInt32.toUInt16.toUInt32.toInt32) cs h0 n0 Z0 pf_O pf_S_java_lang_String_COMPACT_STRINGS (hcs : ¬ (cs = (0 : Int32))) (own_255 p0_1 : ¬ ((255 : Int32) < ((p0_1 &&& (255 : Int32)).toUInt32.toUInt16.toUInt32.toInt32)))) hZ wo3 wo2 (by decide) (by decide)) (g := (mkF m 12 #[iv p0_0, iv p0_1, iv (p0_0 &&& (255 : Int32)), .unset, .unset, .unset, .unset, .unset] [(.int ((p0_1 &&& (255 : Int32)).toUInt32.toUInt16.toUInt32.toInt32))])) rfl (by rw [hml]; rfl) (argsL := [(.int ((p0_1 &&& (255 : Int32)).toUInt32.toUInt16.toUInt32.toInt32))]) (rest := []) (lenOf pd_5 rfl) rfl (by show 2 * 0 + _ ≤ _; exact Nat.le_of_eq rfl) (hb hby at_12) (fun _ _ => ⟨rfl, e0, (by decide : 0 + 2 ≤ _), (by decide : 0 + 5 ≤ _)⟩)
    dsimp only [Pt.U, Pt.locs, Pt.cells, Pt.slots] at X2 l2 y2 z2 st2 hQ2
    subst l2 y2 z2
    obtain ⟨b_2, rfl, N2q, K2q, hq2_0, hq2_1⟩ := hQ2
    have N3 := Fr.app N0 N2q
    have g4 : n0 ≤ b_2 := Nat.le_trans Z0 hq2_0
    have bz5 : h0.size ≤ b_2 := Nat.le_trans (Keep.refl h0 []).1 hq2_0
    have K6 : Keep h0 T2.heap [] := (Keep.refl h0 []).trans K2q all0
    obtain ⟨T7, h7, X7, e7, E7, A7, D7, -, st7⟩ := newO X2 hx hZ hown wo26 wo27 wo28 rfl (g := (mkF m 16 #[iv p0_0, iv p0_1, iv (p0_0 &&& (255 : Int32)), rv b_2, .unset, .unset, .unset, .unset] [])) rfl (hb hby at_16) (by decide) (by decide)
    obtain ⟨b7, gg7⟩ : ∃ z, z = T2.heap.size := ⟨_, rfl⟩
    rw [← gg7] at A7 D7 st7
    have ne8 : b_2 ≠ b7 := Nat.ne_of_lt (Nat.lt_of_lt_of_le hq2_1.lt (Nat.le_of_eq gg7.symm))
    have f10 := (Nat.le_trans Z0 K2q.1)
    have g9 : n0 ≤ b7 := Nat.le_trans f10 (Nat.le_of_eq gg7.symm)
    have bz11 : h0.size ≤ b7 := Nat.le_trans (K6).1 (Nat.le_of_eq gg7.symm)
    have K12 : Keep h0 h7 [] := (K6).ext E7
    have f13 : Fld Z h7 b7 "com/example/dido/dido/keys/Field" "name" "Ljava/lang/String;" .null := D7 (Or.inr wo39) (ty := (.object "java/lang/String")) (by decide)
    have f14 : Fld Z h7 b7 "com/example/dido/dido/keys/ConstField" "value" "I" (.int (0 : Int32)) := D7 (Or.inr wo41) (ty := .int) (by decide)
    have f16 := (Nat.le_trans f10 E7.1)
    obtain ⟨_, _, ⟨T15, L15, k15, n15⟩, -, X15, ⟨Lc15, hQ15, l15, y15, z15⟩, st15⟩ := X7.specialBack hx (y := MN6) rfl hown (mvT hZ wo29) (mvT hZ wo30) (mvT hZ wo31) (by decide) (backOf (W := 1) (rm6 l Z a0 hw [] b7 b_2 (p0_0 &&& (255 : Int32)) h7 n0 f16 A7 g9 f13 f14) hZ wo31 wo28 (by decide) (by decide)) (g := (mkF m 22 #[iv p0_0, iv p0_1, iv (p0_0 &&& (255 : Int32)), rv b_2, .unset, .unset, .unset, .unset] [(.int (p0_0 &&& (255 : Int32))), (.ref b_2), (.ref b7), (.ref b7)])) rfl (by rw [hml]; rfl) (Steps.refl _) (a := b7) (argsL := [(.ref b_2), (.int (p0_0 &&& (255 : Int32)))]) (rest := [(.ref b7)]) (lenOf pd_16 rfl) rfl (by show 2 * 0 + _ ≤ _; exact Nat.le_of_eq rfl) (hb hby at_22) (fun _ _ => ⟨rfl, e7, (by decide : 3 + 0 ≤ _), (by decide : 7 + 0 ≤ _)⟩)
    dsimp only [Pt.U, Pt.locs, Pt.cells, Pt.slots] at X15 l15 y15 z15 st15 hQ15
    subst l15 y15 z15
    obtain ⟨rfl, N15q, K15q, hq15_0⟩ := hQ15
    have N17 := Fr.app N3 N15q
    have K18 : Keep h0 T15.heap [] := (K12).trans K15q (allS (P := fun x => x ∈ [] ∨ h0.size ≤ x) (Or.inr bz11) all0)
    have f20 := (Nat.le_trans f16 K15q.1)
    have f21 := (A7.keep K15q)
    obtain ⟨cq19, kq19, q19a, q19b, q19c⟩ := isOf hZ rfl f21
    obtain ⟨_, _, ⟨T19, L19, k19, n19⟩, -, X19, ⟨Lc19, hQ19, l19, y19, z19⟩, st19⟩ := X15.virtualBack hx (y := MN8) (z := MN8) hown (mvT hZ wo42) (mvT hZ wo43) (notFace_of_selects (args := #[]) (mvT hZ wo45)) (mvT hZ wo45) (mvT hZ wo44) (by decide) (backOf (W := 0) (rm8 l Z a0 hw [] b7 (p0_0 &&& (255 : Int32)) (T15.heap) n0 f20 hq15_0) hZ wo46 wo28 (by decide) (by decide)) q19a q19c (g := (mkF m 29 #[iv p0_0, iv p0_1, iv (p0_0 &&& (255 : Int32)), rv b_2, rv b7, .unset, .unset, .unset] [(.ref b7)])) rfl (by rw [hml]; rfl) (Steps.refl _) (argsL := []) (rest := []) (lenOf pd_3 rfl) rfl (by show 2 * 0 + _ ≤ _; exact Nat.le_of_eq rfl) (hb hby at_29) (fun _ _ => ⟨rfl, rfl, (by decide : 3 + 1 ≤ _), (by decide : 7 + 1 ≤ _)⟩)
    dsimp only [Pt.U, Pt.locs, Pt.cells, Pt.slots] at X19 l19 y19 z19 st19 hQ19
    subst l19 y19 z19
    obtain ⟨b_19, rfl, N19q, K19q, hq19_0, hq19_1, hq19_2⟩ := hQ19
    have N22 := Fr.app N17 N19q
    have f23 := ((hq2_1.ext E7).keep K15q)
    have ne24 : b_2 ≠ b_19 := Nat.ne_of_lt (Nat.lt_of_lt_of_le f23.lt hq19_0)
    have ne25 : b7 ≠ b_19 := Nat.ne_of_lt (Nat.lt_of_lt_of_le f21.lt hq19_0)
    have g26 : n0 ≤ b_19 := Nat.le_trans f20 hq19_0
    have bz27 : h0.size ≤ b_19 := Nat.le_trans (K18).1 hq19_0
    have K28 : Keep h0 T19.heap [] := (K18).trans K19q all0
    have f29 := (hq15_0.keep K19q nin0)
    have f31 := (Nat.le_trans f20 K19q.1)
    have f32 := (f21.keep K19q)
    obtain ⟨cq30, kq30, q30a, q30b, q30c⟩ := isOf hZ rfl f32
    obtain ⟨_, _, ⟨T30, L30, k30, n30⟩, -, X30, ⟨Lc30, hQ30, l30, y30, z30⟩, st30⟩ := X19.virtualBack hx (y := MN8) (z := MN8) hown (mvT hZ wo42) (mvT hZ wo43) (notFace_of_selects (args := #[]) (mvT hZ wo45)) (mvT hZ wo45) (mvT hZ wo44) (by decide) (backOf (W := 0) (rm8 l Z a0 hw [] b7 (p0_0 &&& (255 : Int32)) (T19.heap) n0 f31 f29) hZ wo46 wo28 (by decide) (by decide)) q30a q30c (g := (mkF m 36 #[iv p0_0, iv p0_1, iv (p0_0 &&& (255 : Int32)), rv b_2, rv b7, rv b_19, .unset, .unset] [(.ref b7)])) rfl (by rw [hml]; rfl) (Steps.refl _) (argsL := []) (rest := []) (lenOf pd_3 rfl) rfl (by show 2 * 0 + _ ≤ _; exact Nat.le_of_eq rfl) (hb hby at_36) (fun _ _ => ⟨rfl, rfl, (by decide : 4 + 1 ≤ _), (by decide : 8 + 1 ≤ _)⟩)
    dsimp only [Pt.U, Pt.locs, Pt.cells, Pt.slots] at X30 l30 y30 z30 st30 hQ30
    subst l30 y30 z30
    obtain ⟨b_30, rfl, N30q, K30q, hq30_0, hq30_1, hq30_2⟩ := hQ30
    have N33 := Fr.app N22 N30q
    have f34 := (f23.keep K19q)
    have ne35 : b_2 ≠ b_30 := Nat.ne_of_lt (Nat.lt_of_lt_of_le f34.lt hq30_0)
    have ne36 : b7 ≠ b_30 := Nat.ne_of_lt (Nat.lt_of_lt_of_le f32.lt hq30_0)
    have ne37 : b_19 ≠ b_30 := Nat.ne_of_lt (Nat.lt_of_lt_of_le hq19_1.lt hq30_0)
    have g38 : n0 ≤ b_30 := Nat.le_trans f31 hq30_0
    have bz39 : h0.size ≤ b_30 := Nat.le_trans (K28).1 hq30_0
    have K40 : Keep h0 T30.heap [] := (K28).trans K30q all0
    have f41 := (hq19_2.keep K30q nin0)
    obtain ⟨kk42, cl42, Ar42, qq42, Sz42, Nn42, Hs42, Gf42⟩ := id f41
    obtain ⟨kk43, cl43, Ar43, qq43, Sz43, Nn43, Hs43, Gf43⟩ := id hq30_2
    obtain ⟨kk44, cl44, Ar44, qq44, Sz44, Nn44, Hs44, Gf44⟩ := id f41
    have hin45 : ¬ ((0 : Int32) < 0 ∨ cl44.slots.size ≤ ((0 : Int32)).toNatClampNeg) := inb_of Sz44 ⟨by decide, by decide⟩
    have hat46 : cl44.slots[((0 : Int32)).toNatClampNeg]? = some (.int (nar .byte ((p0_0 &&& (255 : Int32)).toInt8.toInt32))) := Has.at Hs44 hin45 rfl
    have hc47 : ((nar .byte ((p0_0 &&& (255 : Int32)).toInt8.toInt32)) &&& (255 : Int32)) = (p0_0 &&& (255 : Int32)) := own_v p0_0
    obtain ⟨kk48, cl48, Ar48, qq48, Sz48, Nn48, Hs48, Gf48⟩ := id hq30_2
    have hin49 : ¬ ((0 : Int32) < 0 ∨ cl48.slots.size ≤ ((0 : Int32)).toNatClampNeg) := inb_of Sz48 ⟨by decide, by decide⟩
    have hat50 : cl48.slots[((0 : Int32)).toNatClampNeg]? = some (.int (nar .byte ((p0_0 &&& (255 : Int32)).toInt8.toInt32))) := Has.at Hs48 hin49 rfl
    obtain ⟨T51, h51, X51, e51, E51, A51, D51, -, st51⟩ := newO X30 hx hZ hown wo47 wo48 wo49 rfl (g := (mkF m 97 #[iv p0_0, iv p0_1, iv (p0_0 &&& (255 : Int32)), rv b_2, rv b7, rv b_19, rv b_30, .unset] [(.ref b7)])) rfl (hb hby at_97) (by decide) (by decide)
    obtain ⟨b51, gg51⟩ : ∃ z, z = T30.heap.size := ⟨_, rfl⟩
    rw [← gg51] at A51 D51 st51
    have f52 := (f34.keep K30q)
    have ne53 : b_2 ≠ b51 := Nat.ne_of_lt (Nat.lt_of_lt_of_le f52.lt (Nat.le_of_eq gg51.symm))
    have f54 := (f32.keep K30q)
    have ne55 : b7 ≠ b51 := Nat.ne_of_lt (Nat.lt_of_lt_of_le f54.lt (Nat.le_of_eq gg51.symm))
    have f56 := (hq19_1.keep K30q)
    have ne57 : b_19 ≠ b51 := Nat.ne_of_lt (Nat.lt_of_lt_of_le f56.lt (Nat.le_of_eq gg51.symm))
    have ne58 : b_30 ≠ b51 := Nat.ne_of_lt (Nat.lt_of_lt_of_le hq30_1.lt (Nat.le_of_eq gg51.symm))
    have f60 := (Nat.le_trans f31 K30q.1)
    have g59 : n0 ≤ b51 := Nat.le_trans f60 (Nat.le_of_eq gg51.symm)
    have bz61 : h0.size ≤ b51 := Nat.le_trans (K40).1 (Nat.le_of_eq gg51.symm)
    have K62 : Keep h0 h51 [] := (K40).ext E51
    have f63 : Fld Z h51 b51 "com/example/dido/dido/keys/KeyReader" "key" "[B" .null := D51 (Or.inr wo58) (ty := (.array .byte)) (by decide)
    have f64 : Fld Z h51 b51 "com/example/dido/dido/keys/KeyReader" "mask" "I" (.int (0 : Int32)) := D51 (Or.inr wo60) (ty := .int) (by decide)
    have f65 : Fld Z h51 b51 "com/example/dido/dido/keys/KeyReader" "position" "I" (.int (0 : Int32)) := D51 (Or.inl wo62) (ty := .int) (by decide)
    have f67 := (Nat.le_trans f60 E51.1)
    obtain ⟨_, _, ⟨T66, L66, k66, n66⟩, -, X66, ⟨Lc66, hQ66, l66, y66, z66⟩, st66⟩ := X51.specialBack hx (y := MN9) rfl hown (mvT hZ wo50) (mvT hZ wo51) (mvT hZ wo52) (by decide) (backOf (W := 2) (rm9 l Z a0 hw [] b51 b_19 h51 n0 f67 A51 g59 f63 f64 f65) hZ wo52 wo49 (by decide) (by decide)) (g := (mkF m 103 #[iv p0_0, iv p0_1, iv (p0_0 &&& (255 : Int32)), rv b_2, rv b7, rv b_19, rv b_30, .unset] [(.ref b_19), (.ref b51), (.ref b51), (.ref b7)])) rfl (by rw [hml]; rfl) (Steps.refl _) (a := b51) (argsL := [(.ref b_19)]) (rest := [(.ref b51), (.ref b7)]) (lenOf pd_17 rfl) rfl (by show 2 * 0 + _ ≤ _; exact Nat.le_of_eq rfl) (hb hby at_103) (fun _ _ => ⟨rfl, e51, (by decide : 6 + 0 ≤ _), (by decide : 12 + 0 ≤ _)⟩)
    dsimp only [Pt.U, Pt.locs, Pt.cells, Pt.slots] at X66 l66 y66 z66 st66 hQ66
    subst l66 y66 z66
    obtain ⟨rfl, N66q, K66q, hq66_0, hq66_1, hq66_2⟩ := hQ66
    have N68 := Fr.app N33 N66q
    have K69 : Keep h0 T66.heap [] := (K62).trans K66q (allS (P := fun x => x ∈ [] ∨ h0.size ≤ x) (Or.inr bz61) all0)
    have f70 := ((f54.ext E51).keep K66q)
    have f71 := (((f29.keep K30q nin0).ext E51).keep K66q (ninS ne55 nin0))
    have f72 := (A51.keep K66q)
    have f73 := ((f56.ext E51).keep K66q)
    have f74 := ((f41.ext E51).keep K66q (ninS ne57 nin0))
    have f75 := (((((((pf_O.keep K2q all0).ext E7).keep K15q (allS g9 all0)).keep K19q all0).keep K30q all0).ext E51).keep K66q (allS g59 all0))
    have f77 := (Nat.le_trans f67 K66q.1)
    obtain ⟨cq76, kq76, q76a, q76b, q76c⟩ := isOf hZ rfl f70
    obtain ⟨_, _, ⟨T76, L76, k76, n76⟩, -, X76, ⟨Lc76, hQ76, l76, y76, z76⟩, st76⟩ := X66.virtualBack hx (y := MN11) (z := MN11) hown (mvT hZ wo63) (mvT hZ wo64) (notFace_of_selects (args := #[]) (mvT hZ wo66)) (mvT hZ wo66) (mvT hZ wo65) (by decide) (backOf (W := 0) (rm_dn l Z a0 hw [] b7 b51 b_19 p0_0 ca (T66.heap) n0 f77 f70 f71 ne55 f72 g59 f73 f74 (Ne.symm ne57) hq66_0 hq66_1 hq66_2 f75 pf_S_java_lang_Integer_IntegerCache_high pf_S_java_lang_Integer_IntegerCache_cache (hlo : ¬ ((p0_0 &&& (255 : Int32)) < (-128 : Int32))) (hb1 : (127 : Int32) < (p0_0 &&& (255 : Int32)))) hZ wo67 wo28 (by decide) (by decide)) q76a q76c (g := (mkF m 106 #[iv p0_0, iv p0_1, iv (p0_0 &&& (255 : Int32)), rv b_2, rv b7, rv b_19, rv b_30, .unset] [(.ref b51), (.ref b7)])) rfl (by rw [hml]; rfl) (Steps.refl _) (argsL := [(.ref b51)]) (rest := []) (lenOf pd_13 rfl) rfl (by show 2 * 0 + _ ≤ _; exact Nat.le_of_eq rfl) (hb hby at_106) (fun _ _ => ⟨rfl, rfl, (by decide : 6 + 2 ≤ _), (by decide : 12 + 2 ≤ _)⟩)
    dsimp only [Pt.U, Pt.locs, Pt.cells, Pt.slots] at X76 l76 y76 z76 st76 hQ76
    subst l76 y76 z76
    obtain ⟨bx_76, rfl, N76q, K76q, hq76_0, hq76_1⟩ := hQ76
    have N78 := Fr.app N68 N76q
    have K79 : Keep h0 T76.heap [] := (K69).trans K76q (allS (P := fun x => x ∈ [] ∨ h0.size ≤ x) (Or.inr bz61) all0)
    obtain ⟨T80, X80, e80, st80⟩ := instY X76 hx hZ hown wo116 rfl (Ins.self hq76_0) (g := (mkF m 113 #[iv p0_0, iv p0_1, iv (p0_0 &&& (255 : Int32)), rv b_2, rv b7, rv b_19, rv b_30, rv bx_76] [(.ref bx_76)])) rfl rfl (hb hby at_113)
    obtain ⟨T81, X81, e81, st81⟩ := castY X80 hx hZ hown wo116 e80 (Ins.self hq76_0) (g := (mkF m 121 #[iv p0_0, iv p0_1, iv (p0_0 &&& (255 : Int32)), rv b_2, rv b7, rv b_19, rv b_30, rv bx_76] [(.ref bx_76)])) rfl rfl (hb hby at_121)
    have f83 := (Nat.le_trans f77 K76q.1)
    obtain ⟨cq82, kq82, q82a, q82b, q82c⟩ := isOf hZ e81 hq76_0
    obtain ⟨_, _, ⟨T82, L82, k82, n82⟩, -, X82, ⟨Lc82, hQ82, l82, y82, z82⟩, st82⟩ := X81.virtualBack hx (y := MN20) (z := MN20) hown (mvT hZ wo118) (mvT hZ wo119) (notFace_of_selects (args := #[]) (mvT hZ wo121)) (mvT hZ wo121) (mvT hZ wo120) (by decide) (backOf (W := 0) (rm20 l Z a0 hw [] bx_76 (p0_0 &&& (255 : Int32)) (T76.heap) n0 f83 hq76_1) hZ wo122 wo111 (by decide) (by decide)) q82a q82c (g := (mkF m 124 #[iv p0_0, iv p0_1, iv (p0_0 &&& (255 : Int32)), rv b_2, rv b7, rv b_19, rv b_30, rv bx_76] [(.ref bx_76)])) rfl (by rw [hml]; rfl) (Steps.refl _) (argsL := []) (rest := []) (lenOf pd_0 rfl) rfl (by show 2 * 0 + _ ≤ _; exact Nat.le_of_eq rfl) (hb hby at_124) (fun _ _ => ⟨rfl, e81, (by decide : 8 + 0 ≤ _), (by decide : 14 + 0 ≤ _)⟩)
    dsimp only [Pt.U, Pt.locs, Pt.cells, Pt.slots] at X82 l82 y82 z82 st82 hQ82
    subst l82 y82 z82
    obtain ⟨rfl, N82q, K82q⟩ := hQ82
    have N84 := Fr.app N78 N82q
    obtain ⟨fs, hr, hrun, hended, hW, hsame⟩ := X82.leave (v := some (.int (1 : Int32))) (fun h => by rw [Bd.returns] at h; cases h)
    refine ⟨_, _, pre0 _ ?_, hrun, hended, _, _, rfl, ?_, ⟨_, rfl⟩, hW, hsame.mono (by decide) (by decide)⟩
    · show Steps p.tables e below (s₁.setTop (mkF m 0 #[iv p0_0, iv p0_1, .unset, .unset, .unset, .unset, .unset, .unset] [])) _
      refine XS.iloadN X0.here hx rfl (hb hby at_0) rfl ?_
      show Steps p.tables e below (s₁.setTop (mkF m 1 #[iv p0_0, iv p0_1, .unset, .unset, .unset, .unset, .unset, .unset] [(.int p0_0)])) _
      refine XS.sipush X0.here hx rfl (hb hby at_1) ?_
      show Steps p.tables e below (s₁.setTop (mkF m 4 #[iv p0_0, iv p0_1, .unset, .unset, .unset, .unset, .unset, .unset] [(.int (255 : Int32)), (.int p0_0)])) _
      refine XS.iand X0.here hx rfl (hb hby at_4) rfl ?_
      show Steps p.tables e below (s₁.setTop (mkF m 5 #[iv p0_0, iv p0_1, .unset, .unset, .unset, .unset, .unset, .unset] [(.int (p0_0 &&& (255 : Int32)))])) _
      refine XS.istoreN X0.here hx rfl (hb hby at_5) rfl (l' := #[iv p0_0, iv p0_1, iv (p0_0 &&& (255 : Int32)), .unset, .unset, .unset, .unset, .unset]) rfl ?_
      show Steps p.tables e below (s₁.setTop (mkF m 6 #[iv p0_0, iv p0_1, iv (p0_0 &&& (255 : Int32)), .unset, .unset, .unset, .unset, .unset] [])) _
      refine XS.iloadN X0.here hx rfl (hb hby at_6) rfl ?_
      show Steps p.tables e below (s₁.setTop (mkF m 7 #[iv p0_0, iv p0_1, iv (p0_0 &&& (255 : Int32)), .unset, .unset, .unset, .unset, .unset] [(.int p0_1)])) _
      refine XS.sipush X0.here hx rfl (hb hby at_7) ?_
      show Steps p.tables e below (s₁.setTop (mkF m 10 #[iv p0_0, iv p0_1, iv (p0_0 &&& (255 : Int32)), .unset, .unset, .unset, .unset, .unset] [(.int (255 : Int32)), (.int p0_1)])) _
      refine XS.iand X0.here hx rfl (hb hby at_10) rfl ?_
      show Steps p.tables e below (s₁.setTop (mkF m 11 #[iv p0_0, iv p0_1, iv (p0_0 &&& (255 : Int32)), .unset, .unset, .unset, .unset, .unset] [(.int (p0_1 &&& (255 : Int32)))])) _
      refine XS.i2c X0.here hx rfl (hb hby at_11) rfl ?_
      show Steps p.tables e below (s₁.setTop (mkF m 12 #[iv p0_0, iv p0_1, iv (p0_0 &&& (255 : Int32)), .unset, .unset, .unset, .unset, .unset] [(.int ((p0_1 &&& (255 : Int32)).toUInt32.toUInt16.toUInt32.toInt32))])) _
      refine st2 _ ?_
      show Steps p.tables e below (T2.setTop (mkF m 15 #[iv p0_0, iv p0_1, iv (p0_0 &&& (255 : Int32)), .unset, .unset, .unset, .unset, .unset] [(.ref b_2)])) _
      refine XS.astoreN X2.here hx rfl (hb hby at_15) rfl rfl (l' := #[iv p0_0, iv p0_1, iv (p0_0 &&& (255 : Int32)), rv b_2, .unset, .unset, .unset, .unset]) rfl ?_
      show Steps p.tables e below (T2.setTop (mkF m 16 #[iv p0_0, iv p0_1, iv (p0_0 &&& (255 : Int32)), rv b_2, .unset, .unset, .unset, .unset] [])) _
      refine st7 _ ?_
      show Steps p.tables e below (T7.setTop (mkF m 19 #[iv p0_0, iv p0_1, iv (p0_0 &&& (255 : Int32)), rv b_2, .unset, .unset, .unset, .unset] [(.ref b7)])) _
      refine XS.dup X7.here hx rfl (hb hby at_19) rfl rfl ?_
      show Steps p.tables e below (T7.setTop (mkF m 20 #[iv p0_0, iv p0_1, iv (p0_0 &&& (255 : Int32)), rv b_2, .unset, .unset, .unset, .unset] [(.ref b7), (.ref b7)])) _
      refine XS.aloadN X7.here hx rfl (hb hby at_20) rfl rfl ?_
      show Steps p.tables e below (T7.setTop (mkF m 21 #[iv p0_0, iv p0_1, iv (p0_0 &&& (255 : Int32)), rv b_2, .unset, .unset, .unset, .unset] [(.ref b_2), (.ref b7), (.ref b7)])) _
      refine XS.iloadN X7.here hx rfl (hb hby at_21) rfl ?_
      show Steps p.tables e below (T7.setTop (mkF m 22 #[iv p0_0, iv p0_1, iv (p0_0 &&& (255 : Int32)), rv b_2, .unset, .unset, .unset, .unset] [(.int (p0_0 &&& (255 : Int32))), (.ref b_2), (.ref b7), (.ref b7)])) _
      refine st15.trans ?_
      show Steps p.tables e below (T15.setTop (mkF m 25 #[iv p0_0, iv p0_1, iv (p0_0 &&& (255 : Int32)), rv b_2, .unset, .unset, .unset, .unset] [(.ref b7)])) _
      refine XS.astore X15.here hx rfl (hb hby at_25) rfl rfl (l' := #[iv p0_0, iv p0_1, iv (p0_0 &&& (255 : Int32)), rv b_2, rv b7, .unset, .unset, .unset]) rfl ?_
      show Steps p.tables e below (T15.setTop (mkF m 27 #[iv p0_0, iv p0_1, iv (p0_0 &&& (255 : Int32)), rv b_2, rv b7, .unset, .unset, .unset] [])) _
      refine XS.aload X15.here hx rfl (hb hby at_27) rfl rfl ?_
      show Steps p.tables e below (T15.setTop (mkF m 29 #[iv p0_0, iv p0_1, iv (p0_0 &&& (255 : Int32)), rv b_2, rv b7, .unset, .unset, .unset] [(.ref b7)])) _
      refine st19.trans ?_
      show Steps p.tables e below (T19.setTop (mkF m 32 #[iv p0_0, iv p0_1, iv (p0_0 &&& (255 : Int32)), rv b_2, rv b7, .unset, .unset, .unset] [(.ref b_19)])) _
      refine XS.astore X19.here hx rfl (hb hby at_32) rfl rfl (l' := #[iv p0_0, iv p0_1, iv (p0_0 &&& (255 : Int32)), rv b_2, rv b7, rv b_19, .unset, .unset]) rfl ?_
      show Steps p.tables e below (T19.setTop (mkF m 34 #[iv p0_0, iv p0_1, iv (p0_0 &&& (255 : Int32)), rv b_2, rv b7, rv b_19, .unset, .unset] [])) _
      refine XS.aload X19.here hx rfl (hb hby at_34) rfl rfl ?_
      show Steps p.tables e below (T19.setTop (mkF m 36 #[iv p0_0, iv p0_1, iv (p0_0 &&& (255 : Int32)), rv b_2, rv b7, rv b_19, .unset, .unset] [(.ref b7)])) _
      refine st30.trans ?_
      show Steps p.tables e below (T30.setTop (mkF m 39 #[iv p0_0, iv p0_1, iv (p0_0 &&& (255 : Int32)), rv b_2, rv b7, rv b_19, .unset, .unset] [(.ref b_30)])) _
      refine XS.astore X30.here hx rfl (hb hby at_39) rfl rfl (l' := #[iv p0_0, iv p0_1, iv (p0_0 &&& (255 : Int32)), rv b_2, rv b7, rv b_19, rv b_30, .unset]) rfl ?_
      show Steps p.tables e below (T30.setTop (mkF m 41 #[iv p0_0, iv p0_1, iv (p0_0 &&& (255 : Int32)), rv b_2, rv b7, rv b_19, rv b_30, .unset] [])) _
      refine XS.aload X30.here hx rfl (hb hby at_41) rfl rfl ?_
      show Steps p.tables e below (T30.setTop (mkF m 43 #[iv p0_0, iv p0_1, iv (p0_0 &&& (255 : Int32)), rv b_2, rv b7, rv b_19, rv b_30, .unset] [(.ref b_19)])) _
      refine XS.ifnullNo X30.here hx rfl (hb hby at_43) rfl ?_
      show Steps p.tables e below (T30.setTop (mkF m 46 #[iv p0_0, iv p0_1, iv (p0_0 &&& (255 : Int32)), rv b_2, rv b7, rv b_19, rv b_30, .unset] [])) _
      refine XS.aload X30.here hx rfl (hb hby at_46) rfl rfl ?_
      show Steps p.tables e below (T30.setTop (mkF m 48 #[iv p0_0, iv p0_1, iv (p0_0 &&& (255 : Int32)), rv b_2, rv b7, rv b_19, rv b_30, .unset] [(.ref b_30)])) _
      refine XS.ifnonnullYes X30.here hx rfl (pc0 := 48) (pc' := 53) rfl (hb hby at_48) rfl (by decide) (by decide) ?_
      show Steps p.tables e below (T30.setTop (mkF m 53 #[iv p0_0, iv p0_1, iv (p0_0 &&& (255 : Int32)), rv b_2, rv b7, rv b_19, rv b_30, .unset] [])) _
      refine XS.aload X30.here hx rfl (hb hby at_53) rfl rfl ?_
      show Steps p.tables e below (T30.setTop (mkF m 55 #[iv p0_0, iv p0_1, iv (p0_0 &&& (255 : Int32)), rv b_2, rv b7, rv b_19, rv b_30, .unset] [(.ref b_19)])) _
      refine X30.arraylength hx (Ar42.1) (State.isArrayOf_alike hZ.alike Ar42.2.1) (g := (mkF m 55 #[iv p0_0, iv p0_1, iv (p0_0 &&& (255 : Int32)), rv b_2, rv b7, rv b_19, rv b_30, .unset] [(.ref b_19)])) rfl rfl (hb hby at_55) _ ?_
      rw [len_of Sz42 Nn42]
      show Steps p.tables e below (T30.setTop (mkF m 56 #[iv p0_0, iv p0_1, iv (p0_0 &&& (255 : Int32)), rv b_2, rv b7, rv b_19, rv b_30, .unset] [(.int (1 : Int32))])) _
      refine XS.iconst X30.here hx rfl (hb hby at_56) ?_
      show Steps p.tables e below (T30.setTop (mkF m 57 #[iv p0_0, iv p0_1, iv (p0_0 &&& (255 : Int32)), rv b_2, rv b7, rv b_19, rv b_30, .unset] [(.int (1 : Int32)), (.int (1 : Int32))])) _
      refine XS.icmpNo X30.here hx rfl (hb hby at_57) rfl (teq (by decide : (1 : Int32) = (1 : Int32))).2 ?_
      show Steps p.tables e below (T30.setTop (mkF m 60 #[iv p0_0, iv p0_1, iv (p0_0 &&& (255 : Int32)), rv b_2, rv b7, rv b_19, rv b_30, .unset] [])) _
      refine XS.aload X30.here hx rfl (hb hby at_60) rfl rfl ?_
      show Steps p.tables e below (T30.setTop (mkF m 62 #[iv p0_0, iv p0_1, iv (p0_0 &&& (255 : Int32)), rv b_2, rv b7, rv b_19, rv b_30, .unset] [(.ref b_30)])) _
      refine X30.arraylength hx (Ar43.1) (State.isArrayOf_alike hZ.alike Ar43.2.1) (g := (mkF m 62 #[iv p0_0, iv p0_1, iv (p0_0 &&& (255 : Int32)), rv b_2, rv b7, rv b_19, rv b_30, .unset] [(.ref b_30)])) rfl rfl (hb hby at_62) _ ?_
      rw [len_of Sz43 Nn43]
      show Steps p.tables e below (T30.setTop (mkF m 63 #[iv p0_0, iv p0_1, iv (p0_0 &&& (255 : Int32)), rv b_2, rv b7, rv b_19, rv b_30, .unset] [(.int (1 : Int32))])) _
      refine XS.iconst X30.here hx rfl (hb hby at_63) ?_
      show Steps p.tables e below (T30.setTop (mkF m 64 #[iv p0_0, iv p0_1, iv (p0_0 &&& (255 : Int32)), rv b_2, rv b7, rv b_19, rv b_30, .unset] [(.int (1 : Int32)), (.int (1 : Int32))])) _
      refine XS.icmpYes X30.here hx rfl (pc0 := 64) (pc' := 69) rfl (hb hby at_64) rfl (teq (by decide : (1 : Int32) = (1 : Int32))).1 (by decide) (by decide) ?_
      show Steps p.tables e below (T30.setTop (mkF m 69 #[iv p0_0, iv p0_1, iv (p0_0 &&& (255 : Int32)), rv b_2, rv b7, rv b_19, rv b_30, .unset] [])) _
      refine XS.aload X30.here hx rfl (hb hby at_69) rfl rfl ?_
      show Steps p.tables e below (T30.setTop (mkF m 71 #[iv p0_0, iv p0_1, iv (p0_0 &&& (255 : Int32)), rv b_2, rv b7, rv b_19, rv b_30, .unset] [(.ref b_19)])) _
      refine XS.iconst X30.here hx rfl (hb hby at_71) ?_
      show Steps p.tables e below (T30.setTop (mkF m 72 #[iv p0_0, iv p0_1, iv (p0_0 &&& (255 : Int32)), rv b_2, rv b7, rv b_19, rv b_30, .unset] [(.int (0 : Int32)), (.ref b_19)])) _
      refine X30.baloadBytes hx (j := (0 : Int32)) (v := (.int (nar .byte ((p0_0 &&& (255 : Int32)).toInt8.toInt32)))) (Ar44.1) (State.isArrayOf_alike hZ.alike Ar44.2.1) Ar44.2.2 hin45 hat46 (g := (mkF m 72 #[iv p0_0, iv p0_1, iv (p0_0 &&& (255 : Int32)), rv b_2, rv b7, rv b_19, rv b_30, .unset] [(.int (0 : Int32)), (.ref b_19)])) rfl rfl (hb hby at_72) _ ?_
      show Steps p.tables e below (T30.setTop (mkF m 73 #[iv p0_0, iv p0_1, iv (p0_0 &&& (255 : Int32)), rv b_2, rv b7, rv b_19, rv b_30, .unset] [(.int (nar .byte ((p0_0 &&& (255 : Int32)).toInt8.toInt32)))])) _
      refine XS.sipush X30.here hx rfl (hb hby at_73) ?_
      show Steps p.tables e below (T30.setTop (mkF m 76 #[iv p0_0, iv p0_1, iv (p0_0 &&& (255 : Int32)), rv b_2, rv b7, rv b_19, rv b_30, .unset] [(.int (255 : Int32)), (.int (nar .byte ((p0_0 &&& (255 : Int32)).toInt8.toInt32)))])) _
      refine XS.iand X30.here hx rfl (hb hby at_76) rfl ?_
      show Steps p.tables e below (T30.setTop (mkF m 77 #[iv p0_0, iv p0_1, iv (p0_0 &&& (255 : Int32)), rv b_2, rv b7, rv b_19, rv b_30, .unset] [(.int ((nar .byte ((p0_0 &&& (255 : Int32)).toInt8.toInt32)) &&& (255 : Int32)))])) _
      refine XS.iloadN X30.here hx rfl (hb hby at_77) rfl ?_
      show Steps p.tables e below (T30.setTop (mkF m 78 #[iv p0_0, iv p0_1, iv (p0_0 &&& (255 : Int32)), rv b_2, rv b7, rv b_19, rv b_30, .unset] [(.int (p0_0 &&& (255 : Int32))), (.int ((nar .byte ((p0_0 &&& (255 : Int32)).toInt8.toInt32)) &&& (255 : Int32)))])) _
      refine XS.icmpNo X30.here hx rfl (hb hby at_78) rfl (teq hc47).2 ?_
      show Steps p.tables e below (T30.setTop (mkF m 81 #[iv p0_0, iv p0_1, iv (p0_0 &&& (255 : Int32)), rv b_2, rv b7, rv b_19, rv b_30, .unset] [])) _
      refine XS.aload X30.here hx rfl (hb hby at_81) rfl rfl ?_
      show Steps p.tables e below (T30.setTop (mkF m 83 #[iv p0_0, iv p0_1, iv (p0_0 &&& (255 : Int32)), rv b_2, rv b7, rv b_19, rv b_30, .unset] [(.ref b_30)])) _
      refine XS.iconst X30.here hx rfl (hb hby at_83) ?_
      show Steps p.tables e below (T30.setTop (mkF m 84 #[iv p0_0, iv p0_1, iv (p0_0 &&& (255 : Int32)), rv b_2, rv b7, rv b_19, rv b_30, .unset] [(.int (0 : Int32)), (.ref b_30)])) _
      refine X30.baloadBytes hx (j := (0 : Int32)) (v := (.int (nar .byte ((p0_0 &&& (255 : Int32)).toInt8.toInt32)))) (Ar48.1) (State.isArrayOf_alike hZ.alike Ar48.2.1) Ar48.2.2 hin49 hat50 (g := (mkF m 84 #[iv p0_0, iv p0_1, iv (p0_0 &&& (255 : Int32)), rv b_2, rv b7, rv b_19, rv b_30, .unset] [(.int (0 : Int32)), (.ref b_30)])) rfl rfl (hb hby at_84) _ ?_
      show Steps p.tables e below (T30.setTop (mkF m 85 #[iv p0_0, iv p0_1, iv (p0_0 &&& (255 : Int32)), rv b_2, rv b7, rv b_19, rv b_30, .unset] [(.int (nar .byte ((p0_0 &&& (255 : Int32)).toInt8.toInt32)))])) _
      refine XS.sipush X30.here hx rfl (hb hby at_85) ?_
      show Steps p.tables e below (T30.setTop (mkF m 88 #[iv p0_0, iv p0_1, iv (p0_0 &&& (255 : Int32)), rv b_2, rv b7, rv b_19, rv b_30, .unset] [(.int (255 : Int32)), (.int (nar .byte ((p0_0 &&& (255 : Int32)).toInt8.toInt32)))])) _
      refine XS.iand X30.here hx rfl (hb hby at_88) rfl ?_
      show Steps p.tables e below (T30.setTop (mkF m 89 #[iv p0_0, iv p0_1, iv (p0_0 &&& (255 : Int32)), rv b_2, rv b7, rv b_19, rv b_30, .unset] [(.int ((nar .byte ((p0_0 &&& (255 : Int32)).toInt8.toInt32)) &&& (255 : Int32)))])) _
      refine XS.iloadN X30.here hx rfl (hb hby at_89) rfl ?_
      show Steps p.tables e below (T30.setTop (mkF m 90 #[iv p0_0, iv p0_1, iv (p0_0 &&& (255 : Int32)), rv b_2, rv b7, rv b_19, rv b_30, .unset] [(.int (p0_0 &&& (255 : Int32))), (.int ((nar .byte ((p0_0 &&& (255 : Int32)).toInt8.toInt32)) &&& (255 : Int32)))])) _
      refine XS.icmpYes X30.here hx rfl (pc0 := 90) (pc' := 95) rfl (hb hby at_90) rfl (teq hc47).1 (by decide) (by decide) ?_
      show Steps p.tables e below (T30.setTop (mkF m 95 #[iv p0_0, iv p0_1, iv (p0_0 &&& (255 : Int32)), rv b_2, rv b7, rv b_19, rv b_30, .unset] [])) _
      refine XS.aload X30.here hx rfl (hb hby at_95) rfl rfl ?_
      show Steps p.tables e below (T30.setTop (mkF m 97 #[iv p0_0, iv p0_1, iv (p0_0 &&& (255 : Int32)), rv b_2, rv b7, rv b_19, rv b_30, .unset] [(.ref b7)])) _
      refine st51 _ ?_
      show Steps p.tables e below (T51.setTop (mkF m 100 #[iv p0_0, iv p0_1, iv (p0_0 &&& (255 : Int32)), rv b_2, rv b7, rv b_19, rv b_30, .unset] [(.ref b51), (.ref b7)])) _
      refine XS.dup X51.here hx rfl (hb hby at_100) rfl rfl ?_
      show Steps p.tables e below (T51.setTop (mkF m 101 #[iv p0_0, iv p0_1, iv (p0_0 &&& (255 : Int32)), rv b_2, rv b7, rv b_19, rv b_30, .unset] [(.ref b51), (.ref b51), (.ref b7)])) _
      refine XS.aload X51.here hx rfl (hb hby at_101) rfl rfl ?_
      show Steps p.tables e below (T51.setTop (mkF m 103 #[iv p0_0, iv p0_1, iv (p0_0 &&& (255 : Int32)), rv b_2, rv b7, rv b_19, rv b_30, .unset] [(.ref b_19), (.ref b51), (.ref b51), (.ref b7)])) _
      refine st66.trans ?_
      show Steps p.tables e below (T66.setTop (mkF m 106 #[iv p0_0, iv p0_1, iv (p0_0 &&& (255 : Int32)), rv b_2, rv b7, rv b_19, rv b_30, .unset] [(.ref b51), (.ref b7)])) _
      refine st76.trans ?_
      show Steps p.tables e below (T76.setTop (mkF m 109 #[iv p0_0, iv p0_1, iv (p0_0 &&& (255 : Int32)), rv b_2, rv b7, rv b_19, rv b_30, .unset] [(.ref bx_76)])) _
      refine XS.astore X76.here hx rfl (hb hby at_109) rfl rfl (l' := #[iv p0_0, iv p0_1, iv (p0_0 &&& (255 : Int32)), rv b_2, rv b7, rv b_19, rv b_30, rv bx_76]) rfl ?_
      show Steps p.tables e below (T76.setTop (mkF m 111 #[iv p0_0, iv p0_1, iv (p0_0 &&& (255 : Int32)), rv b_2, rv b7, rv b_19, rv b_30, rv bx_76] [])) _
      refine XS.aload X76.here hx rfl (hb hby at_111) rfl rfl ?_
      show Steps p.tables e below (T76.setTop (mkF m 113 #[iv p0_0, iv p0_1, iv (p0_0 &&& (255 : Int32)), rv b_2, rv b7, rv b_19, rv b_30, rv bx_76] [(.ref bx_76)])) _
      refine st80 _ ?_
      show Steps p.tables e below (T80.setTop (mkF m 116 #[iv p0_0, iv p0_1, iv (p0_0 &&& (255 : Int32)), rv b_2, rv b7, rv b_19, rv b_30, rv bx_76] [(.int (1 : Int32))])) _
      refine XS.ifNo X80.here hx rfl (hb hby at_116) rfl ((if0 _ _).trans (feq (by decide : ¬ ((1 : Int32) = (0 : Int32)))).1) ?_
      show Steps p.tables e below (T80.setTop (mkF m 119 #[iv p0_0, iv p0_1, iv (p0_0 &&& (255 : Int32)), rv b_2, rv b7, rv b_19, rv b_30, rv bx_76] [])) _
      refine XS.aload X80.here hx rfl (hb hby at_119) rfl rfl ?_
      show Steps p.tables e below (T80.setTop (mkF m 121 #[iv p0_0, iv p0_1, iv (p0_0 &&& (255 : Int32)), rv b_2, rv b7, rv b_19, rv b_30, rv bx_76] [(.ref bx_76)])) _
      refine st81 _ ?_
      show Steps p.tables e below (T81.setTop (mkF m 124 #[iv p0_0, iv p0_1, iv (p0_0 &&& (255 : Int32)), rv b_2, rv b7, rv b_19, rv b_30, rv bx_76] [(.ref bx_76)])) _
      refine st82.trans ?_
      show Steps p.tables e below (T82.setTop (mkF m 127 #[iv p0_0, iv p0_1, iv (p0_0 &&& (255 : Int32)), rv b_2, rv b7, rv b_19, rv b_30, rv bx_76] [(.int (p0_0 &&& (255 : Int32)))])) _
      refine XS.iloadN X82.here hx rfl (hb hby at_127) rfl ?_
      show Steps p.tables e below (T82.setTop (mkF m 128 #[iv p0_0, iv p0_1, iv (p0_0 &&& (255 : Int32)), rv b_2, rv b7, rv b_19, rv b_30, rv bx_76] [(.int (p0_0 &&& (255 : Int32))), (.int (p0_0 &&& (255 : Int32)))])) _
      refine XS.icmpNo X82.here hx rfl (hb hby at_128) rfl (teq (rfl : (p0_0 &&& (255 : Int32)) = (p0_0 &&& (255 : Int32)))).2 ?_
      show Steps p.tables e below (T82.setTop (mkF m 131 #[iv p0_0, iv p0_1, iv (p0_0 &&& (255 : Int32)), rv b_2, rv b7, rv b_19, rv b_30, rv bx_76] [])) _
      refine XS.iconst X82.here hx rfl (hb hby at_131) ?_
      show Steps p.tables e below (T82.setTop (mkF m 132 #[iv p0_0, iv p0_1, iv (p0_0 &&& (255 : Int32)), rv b_2, rv b7, rv b_19, rv b_30, rv bx_76] [(.int (1 : Int32))])) _
      refine XS.goto X82.here hx rfl (pc0 := 132) (pc' := 136) rfl (hb hby at_132) (by decide) (by decide) ?_
      show Steps p.tables e below (T82.setTop (mkF m 136 #[iv p0_0, iv p0_1, iv (p0_0 &&& (255 : Int32)), rv b_2, rv b7, rv b_19, rv b_30, rv bx_76] [(.int (1 : Int32))])) _
      exact retN X82 hx (t := .boolean) Bd.returns (by simp) (hb hby at_136) hr
    · show Q_rm0 Z _ _ _ _ h0 n0 _ T82.heap _
      rw [K82q]
      exact ⟨rfl, N84, (K79)⟩
  · skip
    obtain ⟨box, hbox, Eb, Fb⟩ := hca (p0_0 &&& (255 : Int32)) hlo hb1
    have Eb1 := Eb.ext pf_O.2
    have Fb1 := Fb.ext pf_O.2
    obtain ⟨_, _, ⟨T85, L85, k85, n85⟩, -, X85, ⟨Lc85, hQ85, l85, y85, z85⟩, st85⟩ := Jvm.LawKit.callS X0 hx (y := MN1) hown (mvT hZ wo0) (mvT hZ wo1) (mvT hZ wo2) (mvT hZ wo3) (by decide) (backOf (W := 0) (rm1 l Z a0 hw [] ((p0_1 &&& (255 : Int32)).toUInt32.toUInt16.toUInt32.toInt32) cs h0 n0 Z0 pf_O pf_S_java_lang_String_COMPACT_STRINGS (hcs : ¬ (cs = (0 : Int32))) (own_255 p0_1 : ¬ ((255 : Int32) < ((p0_1 &&& (255 : Int32)).toUInt32.toUInt16.toUInt32.toInt32)))) hZ wo3 wo2 (by decide) (by decide)) (g := (mkF m 12 #[iv p0_0, iv p0_1, iv (p0_0 &&& (255 : Int32)), .unset, .unset, .unset, .unset, .unset] [(.int ((p0_1 &&& (255 : Int32)).toUInt32.toUInt16.toUInt32.toInt32))])) rfl (by rw [hml]; rfl) (argsL := [(.int ((p0_1 &&& (255 : Int32)).toUInt32.toUInt16.toUInt32.toInt32))]) (rest := []) (lenOf pd_5 rfl) rfl (by show 2 * 0 + _ ≤ _; exact Nat.le_of_eq rfl) (hb hby at_12) (fun _ _ => ⟨rfl, e0, (by decide : 0 + 2 ≤ _), (by decide : 0 + 5 ≤ _)⟩)
    dsimp only [Pt.U, Pt.locs, Pt.cells, Pt.slots] at X85 l85 y85 z85 st85 hQ85
    subst l85 y85 z85
    obtain ⟨b_85, rfl, N85q, K85q, hq85_0, hq85_1⟩ := hQ85
    have N86 := Fr.app N0 N85q
    have ne87 : box ≠ b_85 := Nat.ne_of_lt (Nat.lt_of_lt_of_le Eb1.lt hq85_0)
    have g88 : n0 ≤ b_85 := Nat.le_trans Z0 hq85_0
    have bz89 : h0.size ≤ b_85 := Nat.le_trans (Keep.refl h0 []).1 hq85_0
    have K90 : Keep h0 T85.heap [] := (Keep.refl h0 []).trans K85q all0
    obtain ⟨T91, h91, X91, e91, E91, A91, D91, -, st91⟩ := newO X85 hx hZ hown wo26 wo27 wo28 rfl (g := (mkF m 16 #[iv p0_0, iv p0_1, iv (p0_0 &&& (255 : Int32)), rv b_85, .unset, .unset, .unset, .unset] [])) rfl (hb hby at_16) (by decide) (by decide)
    obtain ⟨b91, gg91⟩ : ∃ z, z = T85.heap.size := ⟨_, rfl⟩
    rw [← gg91] at A91 D91 st91
    have f92 := (Eb1.keep K85q)
    have ne93 : box ≠ b91 := Nat.ne_of_lt (Nat.lt_of_lt_of_le f92.lt (Nat.le_of_eq gg91.symm))
    have ne94 : b_85 ≠ b91 := Nat.ne_of_lt (Nat.lt_of_lt_of_le hq85_1.lt (Nat.le_of_eq gg91.symm))
    have f96 := (Nat.le_trans Z0 K85q.1)
    have g95 : n0 ≤ b91 := Nat.le_trans f96 (Nat.le_of_eq gg91.symm)
    have bz97 : h0.size ≤ b91 := Nat.le_trans (K90).1 (Nat.le_of_eq gg91.symm)
    have K98 : Keep h0 h91 [] := (K90).ext E91
    have f99 : Fld Z h91 b91 "com/example/dido/dido/keys/Field" "name" "Ljava/lang/String;" .null := D91 (Or.inr wo39) (ty := (.object "java/lang/String")) (by decide)
    have f100 : Fld Z h91 b91 "com/example/dido/dido/keys/ConstField" "value" "I" (.int (0 : Int32)) := D91 (Or.inr wo41) (ty := .int) (by decide)
    have f102 := (Nat.le_trans f96 E91.1)
    obtain ⟨_, _, ⟨T101, L101, k101, n101⟩, -, X101, ⟨Lc101, hQ101, l101, y101, z101⟩, st101⟩ := X91.specialBack hx (y := MN6) rfl hown (mvT hZ wo29) (mvT hZ wo30) (mvT hZ wo31) (by decide) (backOf (W := 1) (rm6 l Z a0 hw [] b91 b_85 (p0_0 &&& (255 : Int32)) h91 n0 f102 A91 g95 f99 f100) hZ wo31 wo28 (by decide) (by decide)) (g := (mkF m 22 #[iv p0_0, iv p0_1, iv (p0_0 &&& (255 : Int32)), rv b_85, .unset, .unset, .unset, .unset] [(.int (p0_0 &&& (255 : Int32))), (.ref b_85), (.ref b91), (.ref b91)])) rfl (by rw [hml]; rfl) (Steps.refl _) (a := b91) (argsL := [(.ref b_85), (.int (p0_0 &&& (255 : Int32)))]) (rest := [(.ref b91)]) (lenOf pd_16 rfl) rfl (by show 2 * 0 + _ ≤ _; exact Nat.le_of_eq rfl) (hb hby at_22) (fun _ _ => ⟨rfl, e91, (by decide : 3 + 0 ≤ _), (by decide : 7 + 0 ≤ _)⟩)
    dsimp only [Pt.U, Pt.locs, Pt.cells, Pt.slots] at X101 l101 y101 z101 st101 hQ101
    subst l101 y101 z101
    obtain ⟨rfl, N101q, K101q, hq101_0⟩ := hQ101
    have N103 := Fr.app N86 N101q
    have K104 : Keep h0 T101.heap [] := (K98).trans K101q (allS (P := fun x => x ∈ [] ∨ h0.size ≤ x) (Or.inr bz97) all0)
    have f106 := (Nat.le_trans f102 K101q.1)
    have f107 := (A91.keep K101q)
    obtain ⟨cq105, kq105, q105a, q105b, q105c⟩ := isOf hZ rfl f107
    obtain ⟨_, _, ⟨T105, L105, k105, n105⟩, -, X105, ⟨Lc105, hQ105, l105, y105, z105⟩, st105⟩ := X101.virtualBack hx (y := MN8) (z := MN8) hown (mvT hZ wo42) (mvT hZ wo43) (notFace_of_selects (args := #[]) (mvT hZ wo45)) (mvT hZ wo45) (mvT hZ wo44) (by decide) (backOf (W := 0) (rm8 l Z a0 hw [] b91 (p0_0 &&& (255 : Int32)) (T101.heap) n0 f106 hq101_0) hZ wo46 wo28 (by decide) (by decide)) q105a q105c (g := (mkF m 29 #[iv p0_0, iv p0_1, iv (p0_0 &&& (255 : Int32)), rv b_85, rv b91, .unset, .unset, .unset] [(.ref b91)])) rfl (by rw [hml]; rfl) (Steps.refl _) (argsL := []) (rest := []) (lenOf pd_3 rfl) rfl (by show 2 * 0 + _ ≤ _; exact Nat.le_of_eq rfl) (hb hby at_29) (fun _ _ => ⟨rfl, rfl, (by decide : 3 + 1 ≤ _), (by decide : 7 + 1 ≤ _)⟩)
    dsimp only [Pt.U, Pt.locs, Pt.cells, Pt.slots] at X105 l105 y105 z105 st105 hQ105
    subst l105 y105 z105
    obtain ⟨b_105, rfl, N105q, K105q, hq105_0, hq105_1, hq105_2⟩ := hQ105
    have N108 := Fr.app N103 N105q
    have f109 := ((f92.ext E91).keep K101q)
    have ne110 : box ≠ b_105 := Nat.ne_of_lt (Nat.lt_of_lt_of_le f109.lt hq105_0)
    have f111 := ((hq85_1.ext E91).keep K101q)
    have ne112 : b_85 ≠ b_105 := Nat.ne_of_lt (Nat.lt_of_lt_of_le f111.lt hq105_0)
    have ne113 : b91 ≠ b_105 := Nat.ne_of_lt (Nat.lt_of_lt_of_le f107.lt hq105_0)
    have g114 : n0 ≤ b_105 := Nat.le_trans f106 hq105_0
    have bz115 : h0.size ≤ b_105 := Nat.le_trans (K104).1 hq105_0
    have K116 : Keep h0 T105.heap [] := (K104).trans K105q all0
    have f117 := (hq101_0.keep K105q nin0)
    have f119 := (Nat.le_trans f106 K105q.1)
    have f120 := (f107.keep K105q)
    obtain ⟨cq118, kq118, q118a, q118b, q118c⟩ := isOf hZ rfl f120
    obtain ⟨_, _, ⟨T118, L118, k118, n118⟩, -, X118, ⟨Lc118, hQ118, l118, y118, z118⟩, st118⟩ := X105.virtualBack hx (y := MN8) (z := MN8) hown (mvT hZ wo42) (mvT hZ wo43) (notFace_of_selects (args := #[]) (mvT hZ wo45)) (mvT hZ wo45) (mvT hZ wo44) (by decide) (backOf (W := 0) (rm8 l Z a0 hw [] b91 (p0_0 &&& (255 : Int32)) (T105.heap) n0 f119 f117) hZ wo46 wo28 (by decide) (by decide)) q118a q118c (g := (mkF m 36 #[iv p0_0, iv p0_1, iv (p0_0 &&& (255 : Int32)), rv b_85, rv b91, rv b_105, .unset, .unset] [(.ref b91)])) rfl (by rw [hml]; rfl) (Steps.refl _) (argsL := []) (rest := []) (lenOf pd_3 rfl) rfl (by show 2 * 0 + _ ≤ _; exact Nat.le_of_eq rfl) (hb hby at_36) (fun _ _ => ⟨rfl, rfl, (by decide : 4 + 1 ≤ _), (by decide : 8 + 1 ≤ _)⟩)
    dsimp only [Pt.U, Pt.locs, Pt.cells, Pt.slots] at X118 l118 y118 z118 st118 hQ118
    subst l118 y118 z118
    obtain ⟨b_118, rfl, N118q, K118q, hq118_0, hq118_1, hq118_2⟩ := hQ118
    have N121 := Fr.app N108 N118q
    have f122 := (f109.keep K105q)
    have ne123 : box ≠ b_118 := Nat.ne_of_lt (Nat.lt_of_lt_of_le f122.lt hq118_0)
    have f124 := (f111.keep K105q)
    have ne125 : b_85 ≠ b_118 := Nat.ne_of_lt (Nat.lt_of_lt_of_le f124.lt hq118_0)
    have ne126 : b91 ≠ b_118 := Nat.ne_of_lt (Nat.lt_of_lt_of_le f120.lt hq118_0)
    have ne127 : b_105 ≠ b_118 := Nat.ne_of_lt (Nat.lt_of_lt_of_le hq105_1.lt hq118_0)
    have g128 : n0 ≤ b_118 := Nat.le_trans f119 hq118_0
    have bz129 : h0.size ≤ b_118 := Nat.le_trans (K116).1 hq118_0
    have K130 : Keep h0 T118.heap [] := (K116).trans K118q all0
    have f131 := (hq105_2.keep K118q nin0)
    obtain ⟨kk132, cl132, Ar132, qq132, Sz132, Nn132, Hs132, Gf132⟩ := id f131
    obtain ⟨kk133, cl133, Ar133, qq133, Sz133, Nn133, Hs133, Gf133⟩ := id hq118_2
    obtain ⟨kk134, cl134, Ar134, qq134, Sz134, Nn134, Hs134, Gf134⟩ := id f131
    have hin135 : ¬ ((0 : Int32) < 0 ∨ cl134.slots.size ≤ ((0 : Int32)).toNatClampNeg) := inb_of Sz134 ⟨by decide, by decide⟩
    have hat136 : cl134.slots[((0 : Int32)).toNatClampNeg]? = some (.int (nar .byte ((p0_0 &&& (255 : Int32)).toInt8.toInt32))) := Has.at Hs134 hin135 rfl
    have hc137 : ((nar .byte ((p0_0 &&& (255 : Int32)).toInt8.toInt32)) &&& (255 : Int32)) = (p0_0 &&& (255 : Int32)) := own_v p0_0
    obtain ⟨kk138, cl138, Ar138, qq138, Sz138, Nn138, Hs138, Gf138⟩ := id hq118_2
    have hin139 : ¬ ((0 : Int32) < 0 ∨ cl138.slots.size ≤ ((0 : Int32)).toNatClampNeg) := inb_of Sz138 ⟨by decide, by decide⟩
    have hat140 : cl138.slots[((0 : Int32)).toNatClampNeg]? = some (.int (nar .byte ((p0_0 &&& (255 : Int32)).toInt8.toInt32))) := Has.at Hs138 hin139 rfl
    obtain ⟨T141, h141, X141, e141, E141, A141, D141, -, st141⟩ := newO X118 hx hZ hown wo47 wo48 wo49 rfl (g := (mkF m 97 #[iv p0_0, iv p0_1, iv (p0_0 &&& (255 : Int32)), rv b_85, rv b91, rv b_105, rv b_118, .unset] [(.ref b91)])) rfl (hb hby at_97) (by decide) (by decide)
    obtain ⟨b141, gg141⟩ : ∃ z, z = T118.heap.size := ⟨_, rfl⟩
    rw [← gg141] at A141 D141 st141
    have f142 := (f122.keep K118q)
    have ne143 : box ≠ b141 := Nat.ne_of_lt (Nat.lt_of_lt_of_le f142.lt (Nat.le_of_eq gg141.symm))
    have f144 := (f124.keep K118q)
    have ne145 : b_85 ≠ b141 := Nat.ne_of_lt (Nat.lt_of_lt_of_le f144.lt (Nat.le_of_eq gg141.symm))
    have f146 := (f120.keep K118q)
    have ne147 : b91 ≠ b141 := Nat.ne_of_lt (Nat.lt_of_lt_of_le f146.lt (Nat.le_of_eq gg141.symm))
    have f148 := (hq105_1.keep K118q)
    have ne149 : b_105 ≠ b141 := Nat.ne_of_lt (Nat.lt_of_lt_of_le f148.lt (Nat.le_of_eq gg141.symm))
    have ne150 : b_118 ≠ b141 := Nat.ne_of_lt (Nat.lt_of_lt_of_le hq118_1.lt (Nat.le_of_eq gg141.symm))
    have f152 := (Nat.le_trans f119 K118q.1)
    have g151 : n0 ≤ b141 := Nat.le_trans f152 (Nat.le_of_eq gg141.symm)
    have bz153 : h0.size ≤ b141 := Nat.le_trans (K130).1 (Nat.le_of_eq gg141.symm)
    have K154 : Keep h0 h141 [] := (K130).ext E141
    have f155 : Fld Z h141 b141 "com/example/dido/dido/keys/KeyReader" "key" "[B" .null := D141 (Or.inr wo58) (ty := (.array .byte)) (by decide)
    have f156 : Fld Z h141 b141 "com/example/dido/dido/keys/KeyReader" "mask" "I" (.int (0 : Int32)) := D141 (Or.inr wo60) (ty := .int) (by decide)
    have f157 : Fld Z h141 b141 "com/example/dido/dido/keys/KeyReader" "position" "I" (.int (0 : Int32)) := D141 (Or.inl wo62) (ty := .int) (by decide)
    have f159 := (Nat.le_trans f152 E141.1)
    obtain ⟨_, _, ⟨T158, L158, k158, n158⟩, -, X158, ⟨Lc158, hQ158, l158, y158, z158⟩, st158⟩ := X141.specialBack hx (y := MN9) rfl hown (mvT hZ wo50) (mvT hZ wo51) (mvT hZ wo52) (by decide) (backOf (W := 2) (rm9 l Z a0 hw [] b141 b_105 h141 n0 f159 A141 g151 f155 f156 f157) hZ wo52 wo49 (by decide) (by decide)) (g := (mkF m 103 #[iv p0_0, iv p0_1, iv (p0_0 &&& (255 : Int32)), rv b_85, rv b91, rv b_105, rv b_118, .unset] [(.ref b_105), (.ref b141), (.ref b141), (.ref b91)])) rfl (by rw [hml]; rfl) (Steps.refl _) (a := b141) (argsL := [(.ref b_105)]) (rest := [(.ref b141), (.ref b91)]) (lenOf pd_17 rfl) rfl (by show 2 * 0 + _ ≤ _; exact Nat.le_of_eq rfl) (hb hby at_103) (fun _ _ => ⟨rfl, e141, (by decide : 6 + 0 ≤ _), (by decide : 12 + 0 ≤ _)⟩)
    dsimp only [Pt.U, Pt.locs, Pt.cells, Pt.slots] at X158 l158 y158 z158 st158 hQ158
    subst l158 y158 z158
    obtain ⟨rfl, N158q, K158q, hq158_0, hq158_1, hq158_2⟩ := hQ158
    have N160 := Fr.app N121 N158q
    have K161 : Keep h0 T158.heap [] := (K154).trans K158q (allS (P := fun x => x ∈ [] ∨ h0.size ≤ x) (Or.inr bz153) all0)
    have f162 := ((f146.ext E141).keep K158q)
    have f163 := (((f117.keep K118q nin0).ext E141).keep K158q (ninS ne147 nin0))
    have f164 := (A141.keep K158q)
    have f165 := ((f148.ext E141).keep K158q)
    have f166 := ((f131.ext E141).keep K158q (ninS ne149 nin0))
    have f167 := (((((((pf_O.keep K85q all0).ext E91).keep K101q (allS g95 all0)).keep K105q all0).keep K118q all0).ext E141).keep K158q (allS g151 all0))
    have f169 := (Nat.le_trans f159 K158q.1)
    obtain ⟨cq168, kq168, q168a, q168b, q168c⟩ := isOf hZ rfl f162
    obtain ⟨_, _, ⟨T168, L168, k168, n168⟩, -, X168, ⟨Lc168, hQ168, l168, y168, z168⟩, st168⟩ := X158.virtualBack hx (y := MN11) (z := MN11) hown (mvT hZ wo63) (mvT hZ wo64) (notFace_of_selects (args := #[]) (mvT hZ wo66)) (mvT hZ wo66) (mvT hZ wo65) (by decide) (backOf (W := 0) (rm_dc l Z a0 hw [] b91 b141 b_105 p0_0 ca box (T158.heap) n0 f169 f162 f163 ne147 f164 g151 f165 f166 (Ne.symm ne149) hq158_0 hq158_1 hq158_2 f167 pf_S_java_lang_Integer_IntegerCache_high pf_S_java_lang_Integer_IntegerCache_cache (hlo : ¬ ((p0_0 &&& (255 : Int32)) < (-128 : Int32))) (hbox : own_InC Z ca (p0_0 &&& (255 : Int32)) box) (hb1 : ¬ ((127 : Int32) < (p0_0 &&& (255 : Int32))))) hZ wo67 wo28 (by decide) (by decide)) q168a q168c (g := (mkF m 106 #[iv p0_0, iv p0_1, iv (p0_0 &&& (255 : Int32)), rv b_85, rv b91, rv b_105, rv b_118, .unset] [(.ref b141), (.ref b91)])) rfl (by rw [hml]; rfl) (Steps.refl _) (argsL := [(.ref b141)]) (rest := []) (lenOf pd_13 rfl) rfl (by show 2 * 0 + _ ≤ _; exact Nat.le_of_eq rfl) (hb hby at_106) (fun _ _ => ⟨rfl, rfl, (by decide : 6 + 1 ≤ _), (by decide : 12 + 1 ≤ _)⟩)
    dsimp only [Pt.U, Pt.locs, Pt.cells, Pt.slots] at X168 l168 y168 z168 st168 hQ168
    subst l168 y168 z168
    obtain ⟨rfl, N168q, K168q⟩ := hQ168
    have N170 := Fr.app N160 N168q
    have K171 : Keep h0 T168.heap [] := (K161).trans K168q (allS (P := fun x => x ∈ [] ∨ h0.size ≤ x) (Or.inr bz153) all0)
    have f172 := (((f142.ext E141).keep K158q).keep K168q)
    obtain ⟨T173, X173, e173, st173⟩ := instY X168 hx hZ hown wo116 rfl (Ins.self f172) (g := (mkF m 113 #[iv p0_0, iv p0_1, iv (p0_0 &&& (255 : Int32)), rv b_85, rv b91, rv b_105, rv b_118, rv box] [(.ref box)])) rfl rfl (hb hby at_113)
    obtain ⟨T174, X174, e174, st174⟩ := castY X173 hx hZ hown wo116 e173 (Ins.self f172) (g := (mkF m 121 #[iv p0_0, iv p0_1, iv (p0_0 &&& (255 : Int32)), rv b_85, rv b91, rv b_105, rv b_118, rv box] [(.ref box)])) rfl rfl (hb hby at_121)
    have f175 := ((((((((Fb1.keep K85q nin0).ext E91).keep K101q (ninS ne93 nin0)).keep K105q nin0).keep K118q nin0).ext E141).keep K158q (ninS ne143 nin0)).keep K168q (ninS ne143 nin0))
    have f177 := (Nat.le_trans f169 K168q.1)
    obtain ⟨cq176, kq176, q176a, q176b, q176c⟩ := isOf hZ e174 f172
    obtain ⟨_, _, ⟨T176, L176, k176, n176⟩, -, X176, ⟨Lc176, hQ176, l176, y176, z176⟩, st176⟩ := X174.virtualBack hx (y := MN20) (z := MN20) hown (mvT hZ wo118) (mvT hZ wo119) (notFace_of_selects (args := #[]) (mvT hZ wo121)) (mvT hZ wo121) (mvT hZ wo120) (by decide) (backOf (W := 0) (rm20 l Z a0 hw [] box (p0_0 &&& (255 : Int32)) (T168.heap) n0 f177 f175) hZ wo122 wo111 (by decide) (by decide)) q176a q176c (g := (mkF m 124 #[iv p0_0, iv p0_1, iv (p0_0 &&& (255 : Int32)), rv b_85, rv b91, rv b_105, rv b_118, rv box] [(.ref box)])) rfl (by rw [hml]; rfl) (Steps.refl _) (argsL := []) (rest := []) (lenOf pd_0 rfl) rfl (by show 2 * 0 + _ ≤ _; exact Nat.le_of_eq rfl) (hb hby at_124) (fun _ _ => ⟨rfl, e174, (by decide : 7 + 0 ≤ _), (by decide : 13 + 0 ≤ _)⟩)
    dsimp only [Pt.U, Pt.locs, Pt.cells, Pt.slots] at X176 l176 y176 z176 st176 hQ176
    subst l176 y176 z176
    obtain ⟨rfl, N176q, K176q⟩ := hQ176
    have N178 := Fr.app N170 N176q
    obtain ⟨fs, hr, hrun, hended, hW, hsame⟩ := X176.leave (v := some (.int (1 : Int32))) (fun h => by rw [Bd.returns] at h; cases h)
    refine ⟨_, _, pre0 _ ?_, hrun, hended, _, _, rfl, ?_, ⟨_, rfl⟩, hW, hsame.mono (by decide) (by decide)⟩
    · show Steps p.tables e below (s₁.setTop (mkF m 0 #[iv p0_0, iv p0_1, .unset, .unset, .unset, .unset, .unset, .unset] [])) _
      refine XS.iloadN X0.here hx rfl (hb hby at_0) rfl ?_
      show Steps p.tables e below (s₁.setTop (mkF m 1 #[iv p0_0, iv p0_1, .unset, .unset, .unset, .unset, .unset, .unset] [(.int p0_0)])) _
      refine XS.sipush X0.here hx rfl (hb hby at_1) ?_
      show Steps p.tables e below (s₁.setTop (mkF m 4 #[iv p0_0, iv p0_1, .unset, .unset, .unset, .unset, .unset, .unset] [(.int (255 : Int32)), (.int p0_0)])) _
      refine XS.iand X0.here hx rfl (hb hby at_4) rfl ?_
      show Steps p.tables e below (s₁.setTop (mkF m 5 #[iv p0_0, iv p0_1, .unset, .unset, .unset, .unset, .unset, .unset] [(.int (p0_0 &&& (255 : Int32)))])) _
      refine XS.istoreN X0.here hx rfl (hb hby at_5) rfl (l' := #[iv p0_0, iv p0_1, iv (p0_0 &&& (255 : Int32)), .unset, .unset, .unset, .unset, .unset]) rfl ?_
      show Steps p.tables e below (s₁.setTop (mkF m 6 #[iv p0_0, iv p0_1, iv (p0_0 &&& (255 : Int32)), .unset, .unset, .unset, .unset, .unset] [])) _
      refine XS.iloadN X0.here hx rfl (hb hby at_6) rfl ?_
      show Steps p.tables e below (s₁.setTop (mkF m 7 #[iv p0_0, iv p0_1, iv (p0_0 &&& (255 : Int32)), .unset, .unset, .unset, .unset, .unset] [(.int p0_1)])) _
      refine XS.sipush X0.here hx rfl (hb hby at_7) ?_
      show Steps p.tables e below (s₁.setTop (mkF m 10 #[iv p0_0, iv p0_1, iv (p0_0 &&& (255 : Int32)), .unset, .unset, .unset, .unset, .unset] [(.int (255 : Int32)), (.int p0_1)])) _
      refine XS.iand X0.here hx rfl (hb hby at_10) rfl ?_
      show Steps p.tables e below (s₁.setTop (mkF m 11 #[iv p0_0, iv p0_1, iv (p0_0 &&& (255 : Int32)), .unset, .unset, .unset, .unset, .unset] [(.int (p0_1 &&& (255 : Int32)))])) _
      refine XS.i2c X0.here hx rfl (hb hby at_11) rfl ?_
      show Steps p.tables e below (s₁.setTop (mkF m 12 #[iv p0_0, iv p0_1, iv (p0_0 &&& (255 : Int32)), .unset, .unset, .unset, .unset, .unset] [(.int ((p0_1 &&& (255 : Int32)).toUInt32.toUInt16.toUInt32.toInt32))])) _
      refine st85 _ ?_
      show Steps p.tables e below (T85.setTop (mkF m 15 #[iv p0_0, iv p0_1, iv (p0_0 &&& (255 : Int32)), .unset, .unset, .unset, .unset, .unset] [(.ref b_85)])) _
      refine XS.astoreN X85.here hx rfl (hb hby at_15) rfl rfl (l' := #[iv p0_0, iv p0_1, iv (p0_0 &&& (255 : Int32)), rv b_85, .unset, .unset, .unset, .unset]) rfl ?_
      show Steps p.tables e below (T85.setTop (mkF m 16 #[iv p0_0, iv p0_1, iv (p0_0 &&& (255 : Int32)), rv b_85, .unset, .unset, .unset, .unset] [])) _
      refine st91 _ ?_
      show Steps p.tables e below (T91.setTop (mkF m 19 #[iv p0_0, iv p0_1, iv (p0_0 &&& (255 : Int32)), rv b_85, .unset, .unset, .unset, .unset] [(.ref b91)])) _
      refine XS.dup X91.here hx rfl (hb hby at_19) rfl rfl ?_
      show Steps p.tables e below (T91.setTop (mkF m 20 #[iv p0_0, iv p0_1, iv (p0_0 &&& (255 : Int32)), rv b_85, .unset, .unset, .unset, .unset] [(.ref b91), (.ref b91)])) _
      refine XS.aloadN X91.here hx rfl (hb hby at_20) rfl rfl ?_
      show Steps p.tables e below (T91.setTop (mkF m 21 #[iv p0_0, iv p0_1, iv (p0_0 &&& (255 : Int32)), rv b_85, .unset, .unset, .unset, .unset] [(.ref b_85), (.ref b91), (.ref b91)])) _
      refine XS.iloadN X91.here hx rfl (hb hby at_21) rfl ?_
      show Steps p.tables e below (T91.setTop (mkF m 22 #[iv p0_0, iv p0_1, iv (p0_0 &&& (255 : Int32)), rv b_85, .unset, .unset, .unset, .unset] [(.int (p0_0 &&& (255 : Int32))), (.ref b_85), (.ref b91), (.ref b91)])) _
      refine st101.trans ?_
      show Steps p.tables e below (T101.setTop (mkF m 25 #[iv p0_0, iv p0_1, iv (p0_0 &&& (255 : Int32)), rv b_85, .unset, .unset, .unset, .unset] [(.ref b91)])) _
      refine XS.astore X101.here hx rfl (hb hby at_25) rfl rfl (l' := #[iv p0_0, iv p0_1, iv (p0_0 &&& (255 : Int32)), rv b_85, rv b91, .unset, .unset, .unset]) rfl ?_
      show Steps p.tables e below (T101.setTop (mkF m 27 #[iv p0_0, iv p0_1, iv (p0_0 &&& (255 : Int32)), rv b_85, rv b91, .unset, .unset, .unset] [])) _
      refine XS.aload X101.here hx rfl (hb hby at_27) rfl rfl ?_
      show Steps p.tables e below (T101.setTop (mkF m 29 #[iv p0_0, iv p0_1, iv (p0_0 &&& (255 : Int32)), rv b_85, rv b91, .unset, .unset, .unset] [(.ref b91)])) _
      refine st105.trans ?_
      show Steps p.tables e below (T105.setTop (mkF m 32 #[iv p0_0, iv p0_1, iv (p0_0 &&& (255 : Int32)), rv b_85, rv b91, .unset, .unset, .unset] [(.ref b_105)])) _
      refine XS.astore X105.here hx rfl (hb hby at_32) rfl rfl (l' := #[iv p0_0, iv p0_1, iv (p0_0 &&& (255 : Int32)), rv b_85, rv b91, rv b_105, .unset, .unset]) rfl ?_
      show Steps p.tables e below (T105.setTop (mkF m 34 #[iv p0_0, iv p0_1, iv (p0_0 &&& (255 : Int32)), rv b_85, rv b91, rv b_105, .unset, .unset] [])) _
      refine XS.aload X105.here hx rfl (hb hby at_34) rfl rfl ?_
      show Steps p.tables e below (T105.setTop (mkF m 36 #[iv p0_0, iv p0_1, iv (p0_0 &&& (255 : Int32)), rv b_85, rv b91, rv b_105, .unset, .unset] [(.ref b91)])) _
      refine st118.trans ?_
      show Steps p.tables e below (T118.setTop (mkF m 39 #[iv p0_0, iv p0_1, iv (p0_0 &&& (255 : Int32)), rv b_85, rv b91, rv b_105, .unset, .unset] [(.ref b_118)])) _
      refine XS.astore X118.here hx rfl (hb hby at_39) rfl rfl (l' := #[iv p0_0, iv p0_1, iv (p0_0 &&& (255 : Int32)), rv b_85, rv b91, rv b_105, rv b_118, .unset]) rfl ?_
      show Steps p.tables e below (T118.setTop (mkF m 41 #[iv p0_0, iv p0_1, iv (p0_0 &&& (255 : Int32)), rv b_85, rv b91, rv b_105, rv b_118, .unset] [])) _
      refine XS.aload X118.here hx rfl (hb hby at_41) rfl rfl ?_
      show Steps p.tables e below (T118.setTop (mkF m 43 #[iv p0_0, iv p0_1, iv (p0_0 &&& (255 : Int32)), rv b_85, rv b91, rv b_105, rv b_118, .unset] [(.ref b_105)])) _
      refine XS.ifnullNo X118.here hx rfl (hb hby at_43) rfl ?_
      show Steps p.tables e below (T118.setTop (mkF m 46 #[iv p0_0, iv p0_1, iv (p0_0 &&& (255 : Int32)), rv b_85, rv b91, rv b_105, rv b_118, .unset] [])) _
      refine XS.aload X118.here hx rfl (hb hby at_46) rfl rfl ?_
      show Steps p.tables e below (T118.setTop (mkF m 48 #[iv p0_0, iv p0_1, iv (p0_0 &&& (255 : Int32)), rv b_85, rv b91, rv b_105, rv b_118, .unset] [(.ref b_118)])) _
      refine XS.ifnonnullYes X118.here hx rfl (pc0 := 48) (pc' := 53) rfl (hb hby at_48) rfl (by decide) (by decide) ?_
      show Steps p.tables e below (T118.setTop (mkF m 53 #[iv p0_0, iv p0_1, iv (p0_0 &&& (255 : Int32)), rv b_85, rv b91, rv b_105, rv b_118, .unset] [])) _
      refine XS.aload X118.here hx rfl (hb hby at_53) rfl rfl ?_
      show Steps p.tables e below (T118.setTop (mkF m 55 #[iv p0_0, iv p0_1, iv (p0_0 &&& (255 : Int32)), rv b_85, rv b91, rv b_105, rv b_118, .unset] [(.ref b_105)])) _
      refine X118.arraylength hx (Ar132.1) (State.isArrayOf_alike hZ.alike Ar132.2.1) (g := (mkF m 55 #[iv p0_0, iv p0_1, iv (p0_0 &&& (255 : Int32)), rv b_85, rv b91, rv b_105, rv b_118, .unset] [(.ref b_105)])) rfl rfl (hb hby at_55) _ ?_
      rw [len_of Sz132 Nn132]
      show Steps p.tables e below (T118.setTop (mkF m 56 #[iv p0_0, iv p0_1, iv (p0_0 &&& (255 : Int32)), rv b_85, rv b91, rv b_105, rv b_118, .unset] [(.int (1 : Int32))])) _
      refine XS.iconst X118.here hx rfl (hb hby at_56) ?_
      show Steps p.tables e below (T118.setTop (mkF m 57 #[iv p0_0, iv p0_1, iv (p0_0 &&& (255 : Int32)), rv b_85, rv b91, rv b_105, rv b_118, .unset] [(.int (1 : Int32)), (.int (1 : Int32))])) _
      refine XS.icmpNo X118.here hx rfl (hb hby at_57) rfl (teq (by decide : (1 : Int32) = (1 : Int32))).2 ?_
      show Steps p.tables e below (T118.setTop (mkF m 60 #[iv p0_0, iv p0_1, iv (p0_0 &&& (255 : Int32)), rv b_85, rv b91, rv b_105, rv b_118, .unset] [])) _
      refine XS.aload X118.here hx rfl (hb hby at_60) rfl rfl ?_
      show Steps p.tables e below (T118.setTop (mkF m 62 #[iv p0_0, iv p0_1, iv (p0_0 &&& (255 : Int32)), rv b_85, rv b91, rv b_105, rv b_118, .unset] [(.ref b_118)])) _
      refine X118.arraylength hx (Ar133.1) (State.isArrayOf_alike hZ.alike Ar133.2.1) (g := (mkF m 62 #[iv p0_0, iv p0_1, iv (p0_0 &&& (255 : Int32)), rv b_85, rv b91, rv b_105, rv b_118, .unset] [(.ref b_118)])) rfl rfl (hb hby at_62) _ ?_
      rw [len_of Sz133 Nn133]
      show Steps p.tables e below (T118.setTop (mkF m 63 #[iv p0_0, iv p0_1, iv (p0_0 &&& (255 : Int32)), rv b_85, rv b91, rv b_105, rv b_118, .unset] [(.int (1 : Int32))])) _
      refine XS.iconst X118.here hx rfl (hb hby at_63) ?_
      show Steps p.tables e below (T118.setTop (mkF m 64 #[iv p0_0, iv p0_1, iv (p0_0 &&& (255 : Int32)), rv b_85, rv b91, rv b_105, rv b_118, .unset] [(.int (1 : Int32)), (.int (1 : Int32))])) _
      refine XS.icmpYes X118.here hx rfl (pc0 := 64) (pc' := 69) rfl (hb hby at_64) rfl (teq (by decide : (1 : Int32) = (1 : Int32))).1 (by decide) (by decide) ?_
      show Steps p.tables e below (T118.setTop (mkF m 69 #[iv p0_0, iv p0_1, iv (p0_0 &&& (255 : Int32)), rv b_85, rv b91, rv b_105, rv b_118, .unset] [])) _
      refine XS.aload X118.here hx rfl (hb hby at_69) rfl rfl ?_
      show Steps p.tables e below (T118.setTop (mkF m 71 #[iv p0_0, iv p0_1, iv (p0_0 &&& (255 : Int32)), rv b_85, rv b91, rv b_105, rv b_118, .unset] [(.ref b_105)])) _
      refine XS.iconst X118.here hx rfl (hb hby at_71) ?_
      show Steps p.tables e below (T118.setTop (mkF m 72 #[iv p0_0, iv p0_1, iv (p0_0 &&& (255 : Int32)), rv b_85, rv b91, rv b_105, rv b_118, .unset] [(.int (0 : Int32)), (.ref b_105)])) _
      refine X118.baloadBytes hx (j := (0 : Int32)) (v := (.int (nar .byte ((p0_0 &&& (255 : Int32)).toInt8.toInt32)))) (Ar134.1) (State.isArrayOf_alike hZ.alike Ar134.2.1) Ar134.2.2 hin135 hat136 (g := (mkF m 72 #[iv p0_0, iv p0_1, iv (p0_0 &&& (255 : Int32)), rv b_85, rv b91, rv b_105, rv b_118, .unset] [(.int (0 : Int32)), (.ref b_105)])) rfl rfl (hb hby at_72) _ ?_
      show Steps p.tables e below (T118.setTop (mkF m 73 #[iv p0_0, iv p0_1, iv (p0_0 &&& (255 : Int32)), rv b_85, rv b91, rv b_105, rv b_118, .unset] [(.int (nar .byte ((p0_0 &&& (255 : Int32)).toInt8.toInt32)))])) _
      refine XS.sipush X118.here hx rfl (hb hby at_73) ?_
      show Steps p.tables e below (T118.setTop (mkF m 76 #[iv p0_0, iv p0_1, iv (p0_0 &&& (255 : Int32)), rv b_85, rv b91, rv b_105, rv b_118, .unset] [(.int (255 : Int32)), (.int (nar .byte ((p0_0 &&& (255 : Int32)).toInt8.toInt32)))])) _
      refine XS.iand X118.here hx rfl (hb hby at_76) rfl ?_
      show Steps p.tables e below (T118.setTop (mkF m 77 #[iv p0_0, iv p0_1, iv (p0_0 &&& (255 : Int32)), rv b_85, rv b91, rv b_105, rv b_118, .unset] [(.int ((nar .byte ((p0_0 &&& (255 : Int32)).toInt8.toInt32)) &&& (255 : Int32)))])) _
      refine XS.iloadN X118.here hx rfl (hb hby at_77) rfl ?_
      show Steps p.tables e below (T118.setTop (mkF m 78 #[iv p0_0, iv p0_1, iv (p0_0 &&& (255 : Int32)), rv b_85, rv b91, rv b_105, rv b_118, .unset] [(.int (p0_0 &&& (255 : Int32))), (.int ((nar .byte ((p0_0 &&& (255 : Int32)).toInt8.toInt32)) &&& (255 : Int32)))])) _
      refine XS.icmpNo X118.here hx rfl (hb hby at_78) rfl (teq hc137).2 ?_
      show Steps p.tables e below (T118.setTop (mkF m 81 #[iv p0_0, iv p0_1, iv (p0_0 &&& (255 : Int32)), rv b_85, rv b91, rv b_105, rv b_118, .unset] [])) _
      refine XS.aload X118.here hx rfl (hb hby at_81) rfl rfl ?_
      show Steps p.tables e below (T118.setTop (mkF m 83 #[iv p0_0, iv p0_1, iv (p0_0 &&& (255 : Int32)), rv b_85, rv b91, rv b_105, rv b_118, .unset] [(.ref b_118)])) _
      refine XS.iconst X118.here hx rfl (hb hby at_83) ?_
      show Steps p.tables e below (T118.setTop (mkF m 84 #[iv p0_0, iv p0_1, iv (p0_0 &&& (255 : Int32)), rv b_85, rv b91, rv b_105, rv b_118, .unset] [(.int (0 : Int32)), (.ref b_118)])) _
      refine X118.baloadBytes hx (j := (0 : Int32)) (v := (.int (nar .byte ((p0_0 &&& (255 : Int32)).toInt8.toInt32)))) (Ar138.1) (State.isArrayOf_alike hZ.alike Ar138.2.1) Ar138.2.2 hin139 hat140 (g := (mkF m 84 #[iv p0_0, iv p0_1, iv (p0_0 &&& (255 : Int32)), rv b_85, rv b91, rv b_105, rv b_118, .unset] [(.int (0 : Int32)), (.ref b_118)])) rfl rfl (hb hby at_84) _ ?_
      show Steps p.tables e below (T118.setTop (mkF m 85 #[iv p0_0, iv p0_1, iv (p0_0 &&& (255 : Int32)), rv b_85, rv b91, rv b_105, rv b_118, .unset] [(.int (nar .byte ((p0_0 &&& (255 : Int32)).toInt8.toInt32)))])) _
      refine XS.sipush X118.here hx rfl (hb hby at_85) ?_
      show Steps p.tables e below (T118.setTop (mkF m 88 #[iv p0_0, iv p0_1, iv (p0_0 &&& (255 : Int32)), rv b_85, rv b91, rv b_105, rv b_118, .unset] [(.int (255 : Int32)), (.int (nar .byte ((p0_0 &&& (255 : Int32)).toInt8.toInt32)))])) _
      refine XS.iand X118.here hx rfl (hb hby at_88) rfl ?_
      show Steps p.tables e below (T118.setTop (mkF m 89 #[iv p0_0, iv p0_1, iv (p0_0 &&& (255 : Int32)), rv b_85, rv b91, rv b_105, rv b_118, .unset] [(.int ((nar .byte ((p0_0 &&& (255 : Int32)).toInt8.toInt32)) &&& (255 : Int32)))])) _
      refine XS.iloadN X118.here hx rfl (hb hby at_89) rfl ?_
      show Steps p.tables e below (T118.setTop (mkF m 90 #[iv p0_0, iv p0_1, iv (p0_0 &&& (255 : Int32)), rv b_85, rv b91, rv b_105, rv b_118, .unset] [(.int (p0_0 &&& (255 : Int32))), (.int ((nar .byte ((p0_0 &&& (255 : Int32)).toInt8.toInt32)) &&& (255 : Int32)))])) _
      refine XS.icmpYes X118.here hx rfl (pc0 := 90) (pc' := 95) rfl (hb hby at_90) rfl (teq hc137).1 (by decide) (by decide) ?_
      show Steps p.tables e below (T118.setTop (mkF m 95 #[iv p0_0, iv p0_1, iv (p0_0 &&& (255 : Int32)), rv b_85, rv b91, rv b_105, rv b_118, .unset] [])) _
      refine XS.aload X118.here hx rfl (hb hby at_95) rfl rfl ?_
      show Steps p.tables e below (T118.setTop (mkF m 97 #[iv p0_0, iv p0_1, iv (p0_0 &&& (255 : Int32)), rv b_85, rv b91, rv b_105, rv b_118, .unset] [(.ref b91)])) _
      refine st141 _ ?_
      show Steps p.tables e below (T141.setTop (mkF m 100 #[iv p0_0, iv p0_1, iv (p0_0 &&& (255 : Int32)), rv b_85, rv b91, rv b_105, rv b_118, .unset] [(.ref b141), (.ref b91)])) _
      refine XS.dup X141.here hx rfl (hb hby at_100) rfl rfl ?_
      show Steps p.tables e below (T141.setTop (mkF m 101 #[iv p0_0, iv p0_1, iv (p0_0 &&& (255 : Int32)), rv b_85, rv b91, rv b_105, rv b_118, .unset] [(.ref b141), (.ref b141), (.ref b91)])) _
      refine XS.aload X141.here hx rfl (hb hby at_101) rfl rfl ?_
      show Steps p.tables e below (T141.setTop (mkF m 103 #[iv p0_0, iv p0_1, iv (p0_0 &&& (255 : Int32)), rv b_85, rv b91, rv b_105, rv b_118, .unset] [(.ref b_105), (.ref b141), (.ref b141), (.ref b91)])) _
      refine st158.trans ?_
      show Steps p.tables e below (T158.setTop (mkF m 106 #[iv p0_0, iv p0_1, iv (p0_0 &&& (255 : Int32)), rv b_85, rv b91, rv b_105, rv b_118, .unset] [(.ref b141), (.ref b91)])) _
      refine st168.trans ?_
      show Steps p.tables e below (T168.setTop (mkF m 109 #[iv p0_0, iv p0_1, iv (p0_0 &&& (255 : Int32)), rv b_85, rv b91, rv b_105, rv b_118, .unset] [(.ref box)])) _
      refine XS.astore X168.here hx rfl (hb hby at_109) rfl rfl (l' := #[iv p0_0, iv p0_1, iv (p0_0 &&& (255 : Int32)), rv b_85, rv b91, rv b_105, rv b_118, rv box]) rfl ?_
      show Steps p.tables e below (T168.setTop (mkF m 111 #[iv p0_0, iv p0_1, iv (p0_0 &&& (255 : Int32)), rv b_85, rv b91, rv b_105, rv b_118, rv box] [])) _
      refine XS.aload X168.here hx rfl (hb hby at_111) rfl rfl ?_
      show Steps p.tables e below (T168.setTop (mkF m 113 #[iv p0_0, iv p0_1, iv (p0_0 &&& (255 : Int32)), rv b_85, rv b91, rv b_105, rv b_118, rv box] [(.ref box)])) _
      refine st173 _ ?_
      show Steps p.tables e below (T173.setTop (mkF m 116 #[iv p0_0, iv p0_1, iv (p0_0 &&& (255 : Int32)), rv b_85, rv b91, rv b_105, rv b_118, rv box] [(.int (1 : Int32))])) _
      refine XS.ifNo X173.here hx rfl (hb hby at_116) rfl ((if0 _ _).trans (feq (by decide : ¬ ((1 : Int32) = (0 : Int32)))).1) ?_
      show Steps p.tables e below (T173.setTop (mkF m 119 #[iv p0_0, iv p0_1, iv (p0_0 &&& (255 : Int32)), rv b_85, rv b91, rv b_105, rv b_118, rv box] [])) _
      refine XS.aload X173.here hx rfl (hb hby at_119) rfl rfl ?_
      show Steps p.tables e below (T173.setTop (mkF m 121 #[iv p0_0, iv p0_1, iv (p0_0 &&& (255 : Int32)), rv b_85, rv b91, rv b_105, rv b_118, rv box] [(.ref box)])) _
      refine st174 _ ?_
      show Steps p.tables e below (T174.setTop (mkF m 124 #[iv p0_0, iv p0_1, iv (p0_0 &&& (255 : Int32)), rv b_85, rv b91, rv b_105, rv b_118, rv box] [(.ref box)])) _
      refine st176.trans ?_
      show Steps p.tables e below (T176.setTop (mkF m 127 #[iv p0_0, iv p0_1, iv (p0_0 &&& (255 : Int32)), rv b_85, rv b91, rv b_105, rv b_118, rv box] [(.int (p0_0 &&& (255 : Int32)))])) _
      refine XS.iloadN X176.here hx rfl (hb hby at_127) rfl ?_
      show Steps p.tables e below (T176.setTop (mkF m 128 #[iv p0_0, iv p0_1, iv (p0_0 &&& (255 : Int32)), rv b_85, rv b91, rv b_105, rv b_118, rv box] [(.int (p0_0 &&& (255 : Int32))), (.int (p0_0 &&& (255 : Int32)))])) _
      refine XS.icmpNo X176.here hx rfl (hb hby at_128) rfl (teq (rfl : (p0_0 &&& (255 : Int32)) = (p0_0 &&& (255 : Int32)))).2 ?_
      show Steps p.tables e below (T176.setTop (mkF m 131 #[iv p0_0, iv p0_1, iv (p0_0 &&& (255 : Int32)), rv b_85, rv b91, rv b_105, rv b_118, rv box] [])) _
      refine XS.iconst X176.here hx rfl (hb hby at_131) ?_
      show Steps p.tables e below (T176.setTop (mkF m 132 #[iv p0_0, iv p0_1, iv (p0_0 &&& (255 : Int32)), rv b_85, rv b91, rv b_105, rv b_118, rv box] [(.int (1 : Int32))])) _
      refine XS.goto X176.here hx rfl (pc0 := 132) (pc' := 136) rfl (hb hby at_132) (by decide) (by decide) ?_
      show Steps p.tables e below (T176.setTop (mkF m 136 #[iv p0_0, iv p0_1, iv (p0_0 &&& (255 : Int32)), rv b_85, rv b91, rv b_105, rv b_118, rv box] [(.int (1 : Int32))])) _
      exact retN X176 hx (t := .boolean) Bd.returns (by simp) (hb hby at_136) hr
    · show Q_rm0 Z _ _ _ _ h0 n0 _ T176.heap _
      rw [K176q]
      exact ⟨rfl, N178, (K171)⟩
set_option maxRecDepth 65536 in
set_option maxHeartbeats 40000000 in
theorem comes_1 {Post : Tables → Env → Array Value → State → Outcome → State → Prop} (hpost : ∀ tb e args s v u, (limb_1_1.after args s (.returned v) u = true ∧ limb_1_2.after args s (.returned v) u = true ∧ True) → FrameEnd s (.returned v) u (Jvm.fieldLocs frame_1_writes args s ++ Jvm.arrayLocs frame_1_arrays args s ++ Jvm.staticLocs frame_1_statics s) 24 128 → Post tb e args s (.returned v) u) :
    ArmFor flags0 classFile x code maxLocals ret World_1 tables_1 room_1 Calls_1 rest_1 Pre_1 Post := by
  intro l hfl _ _ p e ha hc hk s m args below hf hA hF happ hP
  obtain ⟨hcalls, hrest, hpre⟩ := hP
  obtain ⟨-, -, -, hnamed, -, -, -, hat⟩ := (Spec.applies_iff hf).mp happ
  obtain ⟨hg, hn⟩ := and_e (Cond.before_iff.mp (show (Jvm.Cond.and given_1 narrow_1).before args s = true from hpre))
  obtain ⟨g1, g2⟩ := and_e hg
  obtain ⟨g3, g4⟩ := and_e g2
  obtain ⟨w0, w1, rfl⟩ : ∃ w0 w1 : Value, args = #[w0, w1] := by
    have hs : args.size = 2 := by simpa [Cond.value, given_1] using g1
    obtain ⟨L⟩ := args
    match L, hs with
    | [w0, w1], _ => exact ⟨w0, w1, rfl⟩
  have hw := fun d (hd : d ∈ tables_1) => atoms_spec (ws := Jvm.Cond.code x code maxLocals ret :: tables_1) hat d (List.mem_cons_of_mem _ hd)
  have hfit : Fit s := fun {y c} hc i hi => by
    obtain ⟨ha, rfl⟩ := Array.getElem?_eq_some_iff.mp hc
    have q := List.all_eq_true.mp ((Array.all_eq_true_iff_forall_mem.mp hF) _ (Array.getElem_mem ha)) i (List.mem_range.mpr hi)
    simpa [Array.getElem?_eq_getElem hi] using q
  obtain ⟨hsets, hown0⟩ := atoms_of _ (rest_1_c_eq ▸ (show rest_1_c.before _ s = true from hrest))
  have hr0 := Cond.before_iff.mp hown0
  obtain ⟨i0, ei0⟩ := is_v g3
  obtain rfl : w0 = (.int i0) := Option.some.inj ei0
  obtain ⟨i1, ei1⟩ := is_v g4
  obtain rfl : w1 = (.int i1) := Option.some.inj ei1
  obtain ⟨cs, ecs⟩ := is_v (Cond.before_iff.mp (hsets _ (List.mem_of_getElem? (i := 1) rfl)))
  have S_cs : Sta s s.heap "java/lang/String" "COMPACT_STRINGS" "Z" (.int cs) := Sta.start ecs (Or.inl (hsets _ (List.mem_of_getElem? (i := 0) rfl)))
  have hcs := own_nz (Cond.before_iff.mp (hsets _ (List.mem_of_getElem? (i := 2) rfl))) ecs
  have hhi := own_eqv (Cond.before_iff.mp (hsets _ (List.mem_of_getElem? (i := 12) rfl)))
  have S_hi : Sta s s.heap "java/lang/Integer$IntegerCache" "high" "I" (.int (127 : Int32)) := Sta.start hhi (Or.inl (hsets _ (List.mem_of_getElem? (i := 10) rfl)))
  obtain ⟨ca, eca, hca⟩ := own_cache (Cond.before_iff.mp (hsets _ (List.mem_of_getElem? (i := 13) rfl))) (hsets _ (List.mem_of_getElem? (i := 15) rfl)) (Cond.before_iff.mp (hsets _ (List.mem_of_getElem? (i := 16) rfl)))
  have S_ca : Sta s s.heap "java/lang/Integer$IntegerCache" "cache" "[Ljava/lang/Integer;" (.ref ca) := Sta.start eca (Or.inr ⟨hw _ (List.mem_of_getElem? (i := 114) rfl), hsets _ (List.mem_of_getElem? (i := 11) rfl)⟩)
  obtain ⟨n, o, h1, h2, h3, _, L, rfl, ⟨rfl, N, -⟩, hq⟩ := rm0 l s _ hw tables_1 i0 i1 cs ca s.heap s.heap.size (Nat.le_refl _) (Old.start s) S_cs hcs S_hi S_ca hca p e ha hc hk s m _ below hf ((Spec.applies_iff_loose hf).mp happ).1 ⟨rfl, State.Warmed39.refl s, rfl⟩ trivial
  refine ⟨n, _, h1, h2, h3, hpost _ _ _ _ _ _ ⟨Cond.after_iff.mpr rfl, Cond.after_iff.mpr (eq_i res_at (Term.int_eval (1)) rfl), trivial⟩ ⟨hq.1, hq.2.1, (hq.2.2.sift fun y hy => Or.inr (N y hy)).mono (by decide) (by decide)⟩⟩
theorem main_1_1 : Claimed_1_1 := comes_1 fun _ _ _ _ _ _ h hF => ⟨h.1, hF⟩
theorem main_1_2 : Claimed_1_2 := comes_1 fun _ _ _ _ _ _ h hF => ⟨h.2.1, hF⟩
end Jvm.Pilot.@@N@@
namespace Jvm.Pilot.@@N@@
open Jvm Jvm.ClassFile Sem Op Lib Jvm.Free Jvm.Stand Jvm.Pilot.@@N@@.Jvm.D
/-! MADE BY PROGRAM (witnessworld.py) out of the Statement's table words and the real class files: 26 classes; the members and pool entries that the words name. The judged class is class 1, her method 1. -/
namespace start1
open Jvm.ClassFile
def u (s : String) : CpInfo := .utf8 (stringToUtf16 s)
/-- a pool by its gaps: so many unusable entries, then the entry; so many at the end -/
def gap : Nat → List CpInfo → List CpInfo
  | 0, r => r
  | n + 1, r => .unusable :: gap n r
def poolList (es : List (Nat × CpInfo)) (last : Nat) : List CpInfo := es.foldr (fun e r => gap e.1 (e.2 :: r)) (gap last [])
def pool (es : List (Nat × CpInfo)) (last : Nat) : Array CpInfo := ⟨poolList es last⟩
def fileOf (pool : Array CpInfo) (this : Nat) (attrs : Array Attribute := #[]) (ms : Array MethodInfo := #[]) (fl : Nat := 33) (sup : Nat := 0) (ifs : Array Nat := #[]) (fds : Array FieldInfo := #[]) : ClassFile where
  minorVersion := 0
  majorVersion := 65
  constantPool := pool
  accessFlags := fl
  thisClass := this
  superClass := sup
  interfaces := ifs
  fields := fds
  methods := ms
  attributes := attrs
def plain (name : String) (sup : Option ClassId) : Class where
  name := name
  kind := .ordinary
  loader := none
  accessFlags := 33
  super := sup
  interfaces := #[]
  cf := none
  fields := #[]
  methods := #[]
  instanceTypes := #[]
  staticTypes := #[]
  resolved := #[]
  callSites := []
  init := .initialized
  statics := none
  mirror := none

def pool0 : Array CpInfo := pool [(5, u "<init>"), (0, u "()V"), (1, .class_ 10), (1, u "java/lang/Object"), (85, u "clone"), (0, u "()Ljava/lang/Object;")] 26

def k0c0 : Code := { maxStack := 0, maxLocals := 1, code := object_method_1_code, exceptionTable := #[], attributes := #[] }
def k0m0 : Method := { name := "<init>", desc := "()V", sig := { parameters := [], returnType := none }, accessFlags := 1, code := some k0c0 }
def k0m1 : Method := { name := "clone", desc := "()Ljava/lang/Object;", sig := { parameters := [], returnType := some (.object "java/lang/Object") }, accessFlags := 260, code := none }
/-- java/lang/Object -/
def k0 : Class := { plain "java/lang/Object" none with
  accessFlags := 33
  interfaces := #[]
  cf := some (fileOf pool0 8 #[] #[{ accessFlags := 1, nameIndex := 5, descriptorIndex := 6, attributes := #[] }, { accessFlags := 260, nameIndex := 96, descriptorIndex := 97, attributes := #[] }] 33 0 #[] #[])
  fields := #[]
  methods := #[k0m0, k0m1]
  instanceTypes := #[]
  staticTypes := #[]
  resolved := Array.replicate 124 none
  statics := none }

def pool1 : Array CpInfo := pool [(2, .class_ 4), (1, u "java/lang/Object"), (0, u "<init>"), (0, u "()V"), (0, .methodref 8 9), (0, .class_ 10), (0, .nameAndType 11 12), (0, u "java/lang/String"), (0, u "valueOf"), (0, u "(C)Ljava/lang/String;"), (0, .class_ 14), (0, u "com/example/dido/dido/keys/ConstField"), (0, .methodref 13 16), (0, .nameAndType 5 17), (0, u "(Ljava/lang/String;I)V"), (0, .methodref 13 19), (0, .nameAndType 20 21), (0, u "keyBytes"), (0, u "()[B"), (0, .class_ 23), (0, u "com/example/dido/dido/keys/KeyReader"), (0, .methodref 22 25), (0, .nameAndType 5 26), (0, u "([B)V"), (0, .methodref 13 28), (0, .nameAndType 29 30), (0, u "decode"), (0, u "(Lcom/example/dido/dido/keys/KeyReader;)Ljava/lang/Object;"), (0, .class_ 32), (0, u "java/lang/Integer"), (0, .methodref 31 34), (0, .nameAndType 35 36), (0, u "intValue"), (0, u "()I"), (0, .class_ 38), (0, u "com/example/dido/dido/keys/ConstFieldKeyBytesPinLaw"), (2, u "law"), (0, u "(II)Z")] 5

def k1m0 : Method := { name := "<init>", desc := "()V", sig := { parameters := [], returnType := none }, accessFlags := 1, code := none }
def k1c1 : Code := { maxStack := 4, maxLocals := 8, code := code, exceptionTable := #[], attributes := #[] }
def k1m1 : Method := { name := "law", desc := "(II)Z", sig := { parameters := [.int, .int], returnType := some .boolean }, accessFlags := 9, code := some k1c1 }
/-- com/example/dido/dido/keys/ConstFieldKeyBytesPinLaw -/
def k1 : Class := { plain "com/example/dido/dido/keys/ConstFieldKeyBytesPinLaw" (some 0) with
  accessFlags := 49
  interfaces := #[]
  cf := some (fileOf pool1 37 #[] #[{ accessFlags := 1, nameIndex := 5, descriptorIndex := 6, attributes := #[] }, { accessFlags := 9, nameIndex := 41, descriptorIndex := 42, attributes := #[] }] 49 2 #[] #[])
  fields := #[]
  methods := #[k1m0, k1m1]
  instanceTypes := #[]
  staticTypes := #[]
  resolved := Array.replicate 48 none
  statics := none }

def pool2 : Array CpInfo := pool [(1, .class_ 2), (0, u "java/io/Serializable"), (0, .class_ 4), (0, u "java/lang/Object")] 2

/-- java/io/Serializable -/
def k2 : Class := { plain "java/io/Serializable" (some 0) with
  accessFlags := 1537
  interfaces := #[]
  cf := some (fileOf pool2 1 #[] #[] 1537 3 #[] #[])
  fields := #[]
  methods := #[]
  instanceTypes := #[]
  staticTypes := #[]
  resolved := Array.replicate 7 none
  statics := none }

def pool3 : Array CpInfo := pool [(1, .class_ 2), (0, u "java/lang/Comparable"), (0, .class_ 4), (0, u "java/lang/Object")] 7

/-- java/lang/Comparable -/
def k3 : Class := { plain "java/lang/Comparable" (some 0) with
  accessFlags := 1537
  interfaces := #[]
  cf := some (fileOf pool3 1 #[] #[] 1537 3 #[] #[])
  fields := #[]
  methods := #[]
  instanceTypes := #[]
  staticTypes := #[]
  resolved := Array.replicate 12 none
  statics := none }

def pool4 : Array CpInfo := pool [(2, .class_ 4), (1, u "java/lang/CharSequence"), (42, .class_ 48), (0, u "java/lang/CharSequence$1CodePointIterator"), (10, .class_ 60), (0, u "java/lang/CharSequence$1CharIterator"), (5, .class_ 67), (0, u "java/lang/Object")] 63

/-- java/lang/CharSequence -/
def k4 : Class := { plain "java/lang/CharSequence" (some 0) with
  accessFlags := 1537
  interfaces := #[]
  cf := some (fileOf pool4 2 #[.nestMembers #[47, 59]] #[] 1537 66 #[] #[])
  fields := #[]
  methods := #[]
  instanceTypes := #[]
  staticTypes := #[]
  resolved := Array.replicate 131 none
  statics := none }

def pool5 : Array CpInfo := pool [(1, .class_ 2), (0, u "java/lang/constant/Constable"), (0, .class_ 4), (0, u "java/lang/Object")] 6

/-- java/lang/constant/Constable -/
def k5 : Class := { plain "java/lang/constant/Constable" (some 0) with
  accessFlags := 1537
  interfaces := #[]
  cf := some (fileOf pool5 1 #[] #[] 1537 3 #[] #[])
  fields := #[]
  methods := #[]
  instanceTypes := #[]
  staticTypes := #[]
  resolved := Array.replicate 11 none
  statics := none }

def pool6 : Array CpInfo := pool [(1, .class_ 2), (0, u "java/lang/constant/ConstantDesc"), (0, .class_ 4), (0, u "java/lang/Object")] 32

/-- java/lang/constant/ConstantDesc -/
def k6 : Class := { plain "java/lang/constant/ConstantDesc" (some 0) with
  accessFlags := 1537
  interfaces := #[]
  cf := some (fileOf pool6 1 #[] #[] 1537 3 #[] #[])
  fields := #[]
  methods := #[]
  instanceTypes := #[]
  staticTypes := #[]
  resolved := Array.replicate 37 none
  statics := none }

def pool7 : Array CpInfo := pool [(1, .methodref 2 3), (0, .class_ 4), (0, .nameAndType 5 6), (0, u "java/lang/Object"), (0, u "<init>"), (0, u "()V"), (2, .fieldref 10 11), (0, .class_ 12), (0, .nameAndType 13 14), (0, u "java/lang/String"), (0, u "value"), (0, u "[B"), (0, .fieldref 10 16), (0, .nameAndType 17 18), (0, u "coder"), (0, u "B"), (2, u "hash"), (0, u "I"), (2, u "hashIsZero"), (0, u "Z"), (11, .fieldref 10 39), (0, .nameAndType 40 26), (0, u "COMPACT_STRINGS"), (12, u "toBytes"), (53, .class_ 109), (1, u "java/lang/StringLatin1"), (99, .methodref 10 210), (0, .nameAndType 5 211), (0, u "([BB)V"), (157, u "(C)Z"), (205, .class_ 576), (0, u "java/lang/CharSequence"), (22, u "CASE_INSENSITIVE_ORDER"), (0, u "Ljava/util/Comparator;"), (181, u "valueOf"), (0, u "(C)Ljava/lang/String;"), (231, .methodref 107 1016), (0, .nameAndType 1017 369), (0, u "canEncode"), (0, .methodref 107 1019), (0, .nameAndType 53 1020), (0, u "(C)[B"), (80, u "serialPersistentFields"), (0, u "[Ljava/io/ObjectStreamField;"), (0, .class_ 1104), (0, u "java/lang/String$CaseInsensitiveComparator"), (1, .class_ 1107), (0, u "java/io/Serializable"), (0, .class_ 1109), (0, u "java/lang/Comparable"), (0, .class_ 1111), (0, u "java/lang/constant/Constable"), (0, .class_ 1113), (0, u "java/lang/constant/ConstantDesc"), (2, u "serialVersionUID"), (0, u "J"), (3, u "REPL"), (0, u "C"), (2, u "LATIN1"), (1, u "UTF16")] 323

def k7m0 : Method := { name := "<init>", desc := "()V", sig := { parameters := [], returnType := none }, accessFlags := 1, code := none }
def k7c1 : Code := { maxStack := 4, maxLocals := 1, code := jdk_42_method_139_code, exceptionTable := #[], attributes := #[] }
def k7m1 : Method := { name := "valueOf", desc := "(C)Ljava/lang/String;", sig := { parameters := [.char], returnType := some (.object "java/lang/String") }, accessFlags := 9, code := some k7c1 }
def k7c2 : Code := { maxStack := 2, maxLocals := 3, code := jdk_42_method_151_code, exceptionTable := #[], attributes := #[] }
def k7m2 : Method := { name := "<init>", desc := "([BB)V", sig := { parameters := [(.array .byte), .byte], returnType := none }, accessFlags := 0, code := some k7c2 }
/-- java/lang/String -/
def k7 : Class := { plain "java/lang/String" (some 0) with
  accessFlags := 49
  interfaces := #[2, 3, 4, 5, 6]
  cf := some (fileOf pool7 10 #[.nestMembers #[1103]] #[{ accessFlags := 1, nameIndex := 5, descriptorIndex := 6, attributes := #[] }, { accessFlags := 9, nameIndex := 782, descriptorIndex := 783, attributes := #[] }, { accessFlags := 0, nameIndex := 5, descriptorIndex := 211, attributes := #[] }] 49 2 #[1106, 1108, 575, 1110, 1112] #[{ accessFlags := 18, nameIndex := 13, descriptorIndex := 14, attributes := #[] }, { accessFlags := 18, nameIndex := 17, descriptorIndex := 18, attributes := #[] }, { accessFlags := 2, nameIndex := 21, descriptorIndex := 22, attributes := #[] }, { accessFlags := 2, nameIndex := 25, descriptorIndex := 26, attributes := #[] }, { accessFlags := 26, nameIndex := 1116, descriptorIndex := 1117, attributes := #[] }, { accessFlags := 24, nameIndex := 40, descriptorIndex := 26, attributes := #[] }, { accessFlags := 26, nameIndex := 1101, descriptorIndex := 1102, attributes := #[] }, { accessFlags := 26, nameIndex := 1121, descriptorIndex := 1122, attributes := #[] }, { accessFlags := 25, nameIndex := 599, descriptorIndex := 600, attributes := #[] }, { accessFlags := 24, nameIndex := 1125, descriptorIndex := 18, attributes := #[] }, { accessFlags := 24, nameIndex := 1127, descriptorIndex := 18, attributes := #[] }])
  fields := #[{ name := "value", type := (.array .byte), accessFlags := 18, slot := 0, constantValue := 0 }, { name := "coder", type := .byte, accessFlags := 18, slot := 1, constantValue := 0 }, { name := "hash", type := .int, accessFlags := 2, slot := 2, constantValue := 0 }, { name := "hashIsZero", type := .boolean, accessFlags := 2, slot := 3, constantValue := 0 }, { name := "serialVersionUID", type := .long, accessFlags := 26, slot := 0, constantValue := 0 }, { name := "COMPACT_STRINGS", type := .boolean, accessFlags := 24, slot := 1, constantValue := 0 }, { name := "serialPersistentFields", type := (.array (.object "java/io/ObjectStreamField")), accessFlags := 26, slot := 2, constantValue := 0 }, { name := "REPL", type := .char, accessFlags := 26, slot := 3, constantValue := 0 }, { name := "CASE_INSENSITIVE_ORDER", type := (.object "java/util/Comparator"), accessFlags := 25, slot := 4, constantValue := 0 }, { name := "LATIN1", type := .byte, accessFlags := 24, slot := 5, constantValue := 0 }, { name := "UTF16", type := .byte, accessFlags := 24, slot := 6, constantValue := 0 }]
  methods := #[k7m0, k7m1, k7m2]
  instanceTypes := #[(.array .byte), .byte, .int, .boolean]
  staticTypes := #[.long, .boolean, (.array (.object "java/io/ObjectStreamField")), .char, (.object "java/util/Comparator"), .byte, .byte]
  resolved := Array.replicate 1451 none
  statics := some 0 }

def pool8 : Array CpInfo := pool [(4, .class_ 6), (1, u "java/lang/Object"), (0, u "<init>"), (0, u "()V"), (5, .class_ 16), (1, u "java/lang/StringLatin1"), (73, u "canEncode"), (14, u "(C)Z"), (15, u "$assertionsDisabled"), (0, u "Z"), (98, .class_ 223), (1, u "java/lang/StringLatin1$LinesSpliterator"), (156, u "toBytes"), (1, u "(C)[B"), (7, .class_ 391), (0, u "java/lang/StringLatin1$CharsSpliterator")] 3

def k8m0 : Method := { name := "<init>", desc := "()V", sig := { parameters := [], returnType := none }, accessFlags := 0, code := none }
def k8c1 : Code := { maxStack := 2, maxLocals := 1, code := jdk_43_method_3_code, exceptionTable := #[], attributes := #[] }
def k8m1 : Method := { name := "canEncode", desc := "(C)Z", sig := { parameters := [.char], returnType := some .boolean }, accessFlags := 9, code := some k8c1 }
def k8c2 : Code := { maxStack := 4, maxLocals := 1, code := jdk_43_method_46_code, exceptionTable := #[], attributes := #[] }
def k8m2 : Method := { name := "toBytes", desc := "(C)[B", sig := { parameters := [.char], returnType := some (.array .byte) }, accessFlags := 9, code := some k8c2 }
/-- java/lang/StringLatin1 -/
def k8 : Class := { plain "java/lang/StringLatin1" (some 0) with
  accessFlags := 48
  interfaces := #[]
  cf := some (fileOf pool8 14 #[.nestMembers #[390, 221]] #[{ accessFlags := 0, nameIndex := 7, descriptorIndex := 8, attributes := #[] }, { accessFlags := 9, nameIndex := 90, descriptorIndex := 105, attributes := #[] }, { accessFlags := 9, nameIndex := 380, descriptorIndex := 382, attributes := #[] }] 48 4 #[] #[{ accessFlags := 4120, nameIndex := 121, descriptorIndex := 122, attributes := #[] }])
  fields := #[{ name := "$assertionsDisabled", type := .boolean, accessFlags := 4120, slot := 0, constantValue := 0 }]
  methods := #[k8m0, k8m1, k8m2]
  instanceTypes := #[]
  staticTypes := #[.boolean]
  resolved := Array.replicate 395 none
  statics := none }

def pool9 : Array CpInfo := pool [(3, .methodref 4 5), (0, .class_ 6), (0, .nameAndType 7 8), (0, u "java/lang/Object"), (0, u "<init>"), (0, u "()V"), (0, .fieldref 10 11), (0, .class_ 12), (0, .nameAndType 13 14), (0, u "com/example/dido/dido/keys/Field"), (0, u "name"), (0, u "Ljava/lang/String;"), (4, .methodref 20 21), (0, .class_ 22), (0, .nameAndType 23 24), (0, u "com/example/dido/dido/keys/KeyReader"), (0, u "remaining"), (0, u "()I"), (4, .methodref 20 30), (0, .nameAndType 31 32), (0, u "take"), (0, u "(I)[B"), (8, u "(Ljava/lang/String;)V"), (6, u "MAX_LENGTH"), (0, u "I"), (15, u "(Lcom/example/dido/dido/keys/KeyReader;I)[B")] 18

def k9c0 : Code := { maxStack := 2, maxLocals := 2, code := prog_9_method_1_code, exceptionTable := #[], attributes := #[] }
def k9m0 : Method := { name := "<init>", desc := "(Ljava/lang/String;)V", sig := { parameters := [(.object "java/lang/String")], returnType := none }, accessFlags := 0, code := some k9c0 }
def k9c1 : Code := { maxStack := 2, maxLocals := 3, code := prog_9_method_7_code, exceptionTable := #[], attributes := #[] }
def k9m1 : Method := { name := "take", desc := "(Lcom/example/dido/dido/keys/KeyReader;I)[B", sig := { parameters := [(.object "com/example/dido/dido/keys/KeyReader"), .int], returnType := some (.array .byte) }, accessFlags := 16, code := some k9c1 }
/-- com/example/dido/dido/keys/Field -/
def k9 : Class := { plain "com/example/dido/dido/keys/Field" (some 0) with
  accessFlags := 1057
  interfaces := #[]
  cf := some (fileOf pool9 10 #[] #[{ accessFlags := 0, nameIndex := 7, descriptorIndex := 41, attributes := #[] }, { accessFlags := 16, nameIndex := 31, descriptorIndex := 65, attributes := #[] }] 1057 4 #[] #[{ accessFlags := 24, nameIndex := 48, descriptorIndex := 49, attributes := #[] }, { accessFlags := 18, nameIndex := 13, descriptorIndex := 14, attributes := #[] }])
  fields := #[{ name := "MAX_LENGTH", type := .int, accessFlags := 24, slot := 0, constantValue := 0 }, { name := "name", type := (.object "java/lang/String"), accessFlags := 18, slot := 0, constantValue := 0 }]
  methods := #[k9m0, k9m1]
  instanceTypes := #[(.object "java/lang/String")]
  staticTypes := #[.int]
  resolved := Array.replicate 84 none
  statics := none }

def pool10 : Array CpInfo := pool [(1, .methodref 2 3), (0, .class_ 4), (0, .nameAndType 5 6), (0, u "com/example/dido/dido/keys/Field"), (0, u "<init>"), (0, u "(Ljava/lang/String;)V"), (0, .fieldref 8 9), (0, .class_ 10), (0, .nameAndType 11 12), (0, u "com/example/dido/dido/keys/ConstField"), (0, u "value"), (0, u "I"), (6, .methodref 8 20), (0, .nameAndType 21 22), (0, u "take"), (0, u "(Lcom/example/dido/dido/keys/KeyReader;I)[B"), (0, .methodref 24 25), (0, .class_ 26), (0, .nameAndType 27 28), (0, u "java/lang/Byte"), (0, u "toUnsignedInt"), (0, u "(B)I"), (4, .methodref 34 35), (0, .class_ 36), (0, .nameAndType 37 38), (0, u "java/lang/Integer"), (0, u "valueOf"), (0, u "(I)Ljava/lang/Integer;"), (10, u "MAX_VALUE"), (2, u "(Ljava/lang/String;I)V"), (2, u "keyBytes"), (0, u "()[B"), (7, u "decode"), (0, u "(Lcom/example/dido/dido/keys/KeyReader;)Ljava/lang/Object;")] 3

def k10c0 : Code := { maxStack := 2, maxLocals := 3, code := prog_6_method_1_code, exceptionTable := #[], attributes := #[] }
def k10m0 : Method := { name := "<init>", desc := "(Ljava/lang/String;I)V", sig := { parameters := [(.object "java/lang/String"), .int], returnType := none }, accessFlags := 0, code := some k10c0 }
def k10c1 : Code := { maxStack := 4, maxLocals := 1, code := prog_6_method_2_code, exceptionTable := #[], attributes := #[] }
def k10m1 : Method := { name := "keyBytes", desc := "()[B", sig := { parameters := [], returnType := some (.array .byte) }, accessFlags := 1, code := some k10c1 }
def k10c2 : Code := { maxStack := 6, maxLocals := 3, code := prog_6_method_5_code, exceptionTable := #[], attributes := #[] }
def k10m2 : Method := { name := "decode", desc := "(Lcom/example/dido/dido/keys/KeyReader;)Ljava/lang/Object;", sig := { parameters := [(.object "com/example/dido/dido/keys/KeyReader")], returnType := some (.object "java/lang/Object") }, accessFlags := 0, code := some k10c2 }
/-- com/example/dido/dido/keys/ConstField -/
def k10 : Class := { plain "com/example/dido/dido/keys/ConstField" (some 9) with
  accessFlags := 49
  interfaces := #[]
  cf := some (fileOf pool10 8 #[] #[{ accessFlags := 0, nameIndex := 5, descriptorIndex := 52, attributes := #[] }, { accessFlags := 1, nameIndex := 55, descriptorIndex := 56, attributes := #[] }, { accessFlags := 0, nameIndex := 64, descriptorIndex := 65, attributes := #[] }] 49 2 #[] #[{ accessFlags := 24, nameIndex := 49, descriptorIndex := 12, attributes := #[] }, { accessFlags := 18, nameIndex := 11, descriptorIndex := 12, attributes := #[] }])
  fields := #[{ name := "MAX_VALUE", type := .int, accessFlags := 24, slot := 0, constantValue := 0 }, { name := "value", type := .int, accessFlags := 18, slot := 1, constantValue := 0 }]
  methods := #[k10m0, k10m1, k10m2]
  instanceTypes := #[(.object "java/lang/String"), .int]
  staticTypes := #[.int]
  resolved := Array.replicate 69 none
  statics := none }

def pool11 : Array CpInfo := pool [(1, .methodref 2 3), (0, .class_ 4), (0, .nameAndType 5 6), (0, u "com/example/dido/dido/keys/KeyReader"), (0, u "<init>"), (0, u "([BII)V"), (0, .methodref 8 9), (0, .class_ 10), (0, .nameAndType 5 11), (0, u "java/lang/Object"), (0, u "()V"), (0, .fieldref 2 13), (0, .nameAndType 14 15), (0, u "key"), (0, u "[B"), (0, .fieldref 2 17), (0, .nameAndType 18 19), (0, u "mask"), (0, u "I"), (0, .fieldref 2 21), (0, .nameAndType 22 19), (0, u "position"), (6, .methodref 30 31), (0, .class_ 32), (0, .nameAndType 33 34), (0, u "java/util/Objects"), (0, u "checkFromIndexSize"), (0, u "(III)I"), (0, .methodref 36 37), (0, .class_ 38), (0, .nameAndType 39 40), (0, u "java/util/Arrays"), (0, u "copyOfRange"), (0, u "([BII)[B"), (0, u "END"), (2, u "INVERTED"), (1, u "([B)V"), (4, u "()I"), (0, u "remaining"), (2, u "take"), (0, u "(I)[B")] 5

def k11c0 : Code := { maxStack := 4, maxLocals := 2, code := prog_14_method_1_code, exceptionTable := #[], attributes := #[] }
def k11m0 : Method := { name := "<init>", desc := "([B)V", sig := { parameters := [(.array .byte)], returnType := none }, accessFlags := 0, code := some k11c0 }
def k11c1 : Code := { maxStack := 2, maxLocals := 4, code := prog_14_method_2_code, exceptionTable := #[], attributes := #[] }
def k11m1 : Method := { name := "<init>", desc := "([BII)V", sig := { parameters := [(.array .byte), .int, .int], returnType := none }, accessFlags := 2, code := some k11c1 }
def k11c2 : Code := { maxStack := 2, maxLocals := 1, code := prog_14_method_5_code, exceptionTable := #[], attributes := #[] }
def k11m2 : Method := { name := "remaining", desc := "()I", sig := { parameters := [], returnType := some .int }, accessFlags := 0, code := some k11c2 }
def k11c3 : Code := { maxStack := 4, maxLocals := 4, code := prog_14_method_7_code, exceptionTable := #[], attributes := #[] }
def k11m3 : Method := { name := "take", desc := "(I)[B", sig := { parameters := [.int], returnType := some (.array .byte) }, accessFlags := 0, code := some k11c3 }
/-- com/example/dido/dido/keys/KeyReader -/
def k11 : Class := { plain "com/example/dido/dido/keys/KeyReader" (some 0) with
  accessFlags := 48
  interfaces := #[]
  cf := some (fileOf pool11 2 #[] #[{ accessFlags := 0, nameIndex := 5, descriptorIndex := 46, attributes := #[] }, { accessFlags := 2, nameIndex := 5, descriptorIndex := 6, attributes := #[] }, { accessFlags := 0, nameIndex := 52, descriptorIndex := 51, attributes := #[] }, { accessFlags := 0, nameIndex := 55, descriptorIndex := 56, attributes := #[] }] 48 8 #[] #[{ accessFlags := 24, nameIndex := 41, descriptorIndex := 19, attributes := #[] }, { accessFlags := 26, nameIndex := 44, descriptorIndex := 19, attributes := #[] }, { accessFlags := 18, nameIndex := 14, descriptorIndex := 15, attributes := #[] }, { accessFlags := 18, nameIndex := 18, descriptorIndex := 19, attributes := #[] }, { accessFlags := 2, nameIndex := 22, descriptorIndex := 19, attributes := #[] }])
  fields := #[{ name := "END", type := .int, accessFlags := 24, slot := 0, constantValue := 0 }, { name := "INVERTED", type := .int, accessFlags := 26, slot := 1, constantValue := 0 }, { name := "key", type := (.array .byte), accessFlags := 18, slot := 0, constantValue := 0 }, { name := "mask", type := .int, accessFlags := 18, slot := 1, constantValue := 0 }, { name := "position", type := .int, accessFlags := 2, slot := 2, constantValue := 0 }]
  methods := #[k11m0, k11m1, k11m2, k11m3]
  instanceTypes := #[(.array .byte), .int, .int]
  staticTypes := #[.int, .int]
  resolved := Array.replicate 62 none
  statics := none }

def pool12 : Array CpInfo := pool [(2, .class_ 4), (1, u "java/lang/Object"), (0, u "<init>"), (0, u "()V"), (35, .class_ 44), (1, u "java/util/Objects"), (61, .class_ 108), (1, u "jdk/internal/util/Preconditions"), (5, u "(IIILjava/util/function/BiFunction;)I"), (0, .methodref 106 116), (0, .nameAndType 117 114), (0, u "checkFromIndexSize"), (57, u "(III)I")] 8

def k12m0 : Method := { name := "<init>", desc := "()V", sig := { parameters := [], returnType := none }, accessFlags := 2, code := none }
def k12c1 : Code := { maxStack := 4, maxLocals := 3, code := jdk_31_method_19_code, exceptionTable := #[], attributes := #[] }
def k12m1 : Method := { name := "checkFromIndexSize", desc := "(III)I", sig := { parameters := [.int, .int, .int], returnType := some .int }, accessFlags := 9, code := some k12c1 }
/-- java/util/Objects -/
def k12 : Class := { plain "java/util/Objects" (some 0) with
  accessFlags := 49
  interfaces := #[]
  cf := some (fileOf pool12 42 #[] #[{ accessFlags := 2, nameIndex := 5, descriptorIndex := 6, attributes := #[] }, { accessFlags := 9, nameIndex := 117, descriptorIndex := 175, attributes := #[] }] 49 2 #[] #[])
  fields := #[]
  methods := #[k12m0, k12m1]
  instanceTypes := #[]
  staticTypes := #[]
  resolved := Array.replicate 184 none
  statics := none }

def pool13 : Array CpInfo := pool [(2, .class_ 4), (1, u "java/lang/Object"), (0, u "<init>"), (0, u "()V"), (17, .class_ 26), (1, u "jdk/internal/util/Preconditions"), (22, u "checkFromIndexSize"), (5, .class_ 56), (0, u "jdk/internal/util/Preconditions$4"), (57, .class_ 115), (0, u "jdk/internal/util/Preconditions$1"), (7, u "SIOOBE_FORMATTER"), (0, u "Ljava/util/function/BiFunction;"), (0, .class_ 126), (0, u "jdk/internal/util/Preconditions$2"), (3, u "AIOOBE_FORMATTER"), (0, .class_ 132), (0, u "jdk/internal/util/Preconditions$3"), (3, u "IOOBE_FORMATTER"), (46, u "(IIILjava/util/function/BiFunction;)I")] 10

def k13m0 : Method := { name := "<init>", desc := "()V", sig := { parameters := [], returnType := none }, accessFlags := 1, code := none }
def k13c1 : Code := { maxStack := 4, maxLocals := 4, code := jdk_41_method_13_code, exceptionTable := #[], attributes := #[] }
def k13m1 : Method := { name := "checkFromIndexSize", desc := "(IIILjava/util/function/BiFunction;)I", sig := { parameters := [.int, .int, .int, (.object "java/util/function/BiFunction")], returnType := some .int }, accessFlags := 9, code := some k13c1 }
/-- jdk/internal/util/Preconditions -/
def k13 : Class := { plain "jdk/internal/util/Preconditions" (some 0) with
  accessFlags := 33
  interfaces := #[]
  cf := some (fileOf pool13 24 #[.nestMembers #[55, 131, 125, 114]] #[{ accessFlags := 1, nameIndex := 5, descriptorIndex := 6, attributes := #[] }, { accessFlags := 9, nameIndex := 49, descriptorIndex := 183, attributes := #[] }] 33 2 #[] #[{ accessFlags := 25, nameIndex := 123, descriptorIndex := 124, attributes := #[] }, { accessFlags := 25, nameIndex := 130, descriptorIndex := 124, attributes := #[] }, { accessFlags := 25, nameIndex := 136, descriptorIndex := 124, attributes := #[] }])
  fields := #[{ name := "SIOOBE_FORMATTER", type := (.object "java/util/function/BiFunction"), accessFlags := 25, slot := 0, constantValue := 0 }, { name := "AIOOBE_FORMATTER", type := (.object "java/util/function/BiFunction"), accessFlags := 25, slot := 1, constantValue := 0 }, { name := "IOOBE_FORMATTER", type := (.object "java/util/function/BiFunction"), accessFlags := 25, slot := 2, constantValue := 0 }]
  methods := #[k13m0, k13m1]
  instanceTypes := #[]
  staticTypes := #[(.object "java/util/function/BiFunction"), (.object "java/util/function/BiFunction"), (.object "java/util/function/BiFunction")]
  resolved := Array.replicate 194 none
  statics := some 1 }

def pool14 : Array CpInfo := pool [(2, .class_ 4), (1, u "java/lang/Object"), (0, u "<init>"), (0, u "()V"), (7, .class_ 16), (1, u "java/util/Arrays"), (57, .class_ 76), (1, u "java/util/Arrays$NaturalOrder"), (32, u "()Ljava/lang/Object;"), (3, .class_ 115), (1, u "java/util/Arrays$LegacyMergeSort"), (1, u "Z"), (10, .nameAndType 129 109), (0, u "clone"), (9, u "copyOfRange"), (170, .methodref 311 128), (0, .class_ 312), (0, u "[B"), (29, u "([BII)[B"), (32, .class_ 376), (0, u "java/util/Arrays$ArrayList"), (68, u "$assertionsDisabled"), (269, u "MIN_ARRAY_SORT_GRAN"), (0, u "I"), (2, u "INSERTIONSORT_THRESHOLD"), (255, .class_ 976), (0, u "java/util/Arrays$ArrayItr")] 52

def k14m0 : Method := { name := "<init>", desc := "()V", sig := { parameters := [], returnType := none }, accessFlags := 2, code := none }
def k14c1 : Code := { maxStack := 3, maxLocals := 3, code := jdk_65_method_132_code, exceptionTable := #[], attributes := #[] }
def k14m1 : Method := { name := "copyOfRange", desc := "([BII)[B", sig := { parameters := [(.array .byte), .int, .int], returnType := some (.array .byte) }, accessFlags := 9, code := some k14c1 }
/-- java/util/Arrays -/
def k14 : Class := { plain "java/util/Arrays" (some 0) with
  accessFlags := 49
  interfaces := #[]
  cf := some (fileOf pool14 14 #[.nestMembers #[975, 375, 113, 74]] #[{ accessFlags := 2, nameIndex := 5, descriptorIndex := 6, attributes := #[] }, { accessFlags := 9, nameIndex := 139, descriptorIndex := 342, attributes := #[] }] 49 2 #[] #[{ accessFlags := 26, nameIndex := 715, descriptorIndex := 716, attributes := #[] }, { accessFlags := 26, nameIndex := 719, descriptorIndex := 716, attributes := #[] }, { accessFlags := 4120, nameIndex := 445, descriptorIndex := 117, attributes := #[] }])
  fields := #[{ name := "MIN_ARRAY_SORT_GRAN", type := .int, accessFlags := 26, slot := 0, constantValue := 0 }, { name := "INSERTIONSORT_THRESHOLD", type := .int, accessFlags := 26, slot := 1, constantValue := 0 }, { name := "$assertionsDisabled", type := .boolean, accessFlags := 4120, slot := 2, constantValue := 0 }]
  methods := #[k14m0, k14m1]
  instanceTypes := #[]
  staticTypes := #[.int, .int, .boolean]
  resolved := Array.replicate 1029 none
  statics := none }

def pool15 : Array CpInfo := pool [(1, .class_ 2), (0, u "java/lang/Cloneable"), (0, .class_ 4), (0, u "java/lang/Object")] 2

/-- java/lang/Cloneable -/
def k15 : Class := { plain "java/lang/Cloneable" (some 0) with
  accessFlags := 1537
  interfaces := #[]
  cf := some (fileOf pool15 1 #[] #[] 1537 3 #[] #[])
  fields := #[]
  methods := #[]
  instanceTypes := #[]
  staticTypes := #[]
  resolved := Array.replicate 7 none
  statics := none }

def pool16 : Array CpInfo := pool [(1, .methodref 2 3), (0, .class_ 4), (0, .nameAndType 5 6), (0, u "java/lang/Object"), (0, u "<init>"), (0, u "()V"), (1, .class_ 10), (1, u "java/lang/Number"), (2, .class_ 14), (0, u "java/io/Serializable"), (0, u "serialVersionUID"), (0, u "J")] 20

def k16c0 : Code := { maxStack := 1, maxLocals := 1, code := jdk_18_method_1_code, exceptionTable := #[], attributes := #[] }
def k16m0 : Method := { name := "<init>", desc := "()V", sig := { parameters := [], returnType := none }, accessFlags := 1, code := some k16c0 }
/-- java/lang/Number -/
def k16 : Class := { plain "java/lang/Number" (some 0) with
  accessFlags := 1057
  interfaces := #[2]
  cf := some (fileOf pool16 8 #[] #[{ accessFlags := 1, nameIndex := 5, descriptorIndex := 6, attributes := #[] }] 1057 2 #[13] #[{ accessFlags := 26, nameIndex := 15, descriptorIndex := 16, attributes := #[] }])
  fields := #[{ name := "serialVersionUID", type := .long, accessFlags := 26, slot := 0, constantValue := 0 }]
  methods := #[k16m0]
  instanceTypes := #[]
  staticTypes := #[.long]
  resolved := Array.replicate 37 none
  statics := none }

def pool17 : Array CpInfo := pool [(1, .class_ 2), (0, u "java/lang/Byte"), (41, .class_ 46), (1, u "java/lang/Byte$ByteCache"), (51, .class_ 99), (0, u "java/lang/Number"), (2, u "value"), (0, u "B"), (3, u "(B)I"), (10, u "toUnsignedInt"), (16, u "TYPE"), (0, u "Ljava/lang/Class;"), (0, .class_ 138), (0, u "java/lang/Comparable"), (0, .class_ 140), (0, u "java/lang/constant/Constable"), (0, u "MIN_VALUE"), (2, u "MAX_VALUE"), (3, u "SIZE"), (0, u "I"), (1, u "BYTES"), (1, u "serialVersionUID"), (0, u "J")] 58

def k17c0 : Code := { maxStack := 2, maxLocals := 1, code := jdk_2056_method_24_code, exceptionTable := #[], attributes := #[] }
def k17m0 : Method := { name := "toUnsignedInt", desc := "(B)I", sig := { parameters := [.byte], returnType := some .int }, accessFlags := 9, code := some k17c0 }
/-- java/lang/Byte -/
def k17 : Class := { plain "java/lang/Byte" (some 16) with
  accessFlags := 49
  interfaces := #[3, 5]
  cf := some (fileOf pool17 1 #[.nestMembers #[44]] #[{ accessFlags := 9, nameIndex := 118, descriptorIndex := 107, attributes := #[] }] 49 98 #[137, 139] #[{ accessFlags := 25, nameIndex := 141, descriptorIndex := 103, attributes := #[] }, { accessFlags := 25, nameIndex := 144, descriptorIndex := 103, attributes := #[] }, { accessFlags := 25, nameIndex := 135, descriptorIndex := 136, attributes := #[] }, { accessFlags := 18, nameIndex := 102, descriptorIndex := 103, attributes := #[] }, { accessFlags := 25, nameIndex := 148, descriptorIndex := 149, attributes := #[] }, { accessFlags := 25, nameIndex := 151, descriptorIndex := 149, attributes := #[] }, { accessFlags := 26, nameIndex := 153, descriptorIndex := 154, attributes := #[] }])
  fields := #[{ name := "MIN_VALUE", type := .byte, accessFlags := 25, slot := 0, constantValue := 0 }, { name := "MAX_VALUE", type := .byte, accessFlags := 25, slot := 1, constantValue := 0 }, { name := "TYPE", type := (.object "java/lang/Class"), accessFlags := 25, slot := 2, constantValue := 0 }, { name := "value", type := .byte, accessFlags := 18, slot := 0, constantValue := 0 }, { name := "SIZE", type := .int, accessFlags := 25, slot := 3, constantValue := 0 }, { name := "BYTES", type := .int, accessFlags := 25, slot := 4, constantValue := 0 }, { name := "serialVersionUID", type := .long, accessFlags := 26, slot := 5, constantValue := 0 }]
  methods := #[k17m0]
  instanceTypes := #[.byte]
  staticTypes := #[.byte, .byte, (.object "java/lang/Class"), .int, .int, .long]
  resolved := Array.replicate 213 none
  statics := none }

def pool18 : Array CpInfo := pool [(1, .class_ 2), (0, u "java/lang/Integer"), (16, u "digits"), (0, u "[C"), (46, u "<init>"), (17, u "DigitOnes"), (0, u "[B"), (2, u "DigitTens"), (10, .nameAndType 67 101), (0, u "()V"), (19, u "()I"), (65, u "valueOf"), (0, u "(I)Ljava/lang/Integer;"), (0, .class_ 190), (0, u "java/lang/Integer$IntegerCache"), (0, .fieldref 189 192), (0, .nameAndType 193 194), (0, u "high"), (0, u "I"), (0, .fieldref 189 196), (0, .nameAndType 197 198), (0, u "cache"), (0, u "[Ljava/lang/Integer;"), (0, .methodref 1 200), (0, .nameAndType 67 201), (0, u "(I)V"), (0, .methodref 203 100), (0, .class_ 204), (0, u "java/lang/Number"), (0, .fieldref 1 206), (0, .nameAndType 207 194), (0, u "value"), (5, u "intValue"), (88, u "TYPE"), (0, u "Ljava/lang/Class;"), (0, .class_ 305), (0, u "java/lang/Comparable"), (0, .class_ 307), (0, u "java/lang/constant/Constable"), (0, .class_ 309), (0, u "java/lang/constant/ConstantDesc"), (0, u "MIN_VALUE"), (1, u "MAX_VALUE"), (3, u "SIZE"), (1, u "BYTES"), (1, u "serialVersionUID"), (0, u "J")] 131

def k18c0 : Code := { maxStack := 3, maxLocals := 1, code := jdk_33_method_22_code, exceptionTable := #[], attributes := #[] }
def k18m0 : Method := { name := "valueOf", desc := "(I)Ljava/lang/Integer;", sig := { parameters := [.int], returnType := some (.object "java/lang/Integer") }, accessFlags := 9, code := some k18c0 }
def k18c1 : Code := { maxStack := 2, maxLocals := 2, code := jdk_33_method_23_code, exceptionTable := #[], attributes := #[] }
def k18m1 : Method := { name := "<init>", desc := "(I)V", sig := { parameters := [.int], returnType := none }, accessFlags := 1, code := some k18c1 }
def k18c2 : Code := { maxStack := 1, maxLocals := 1, code := jdk_33_method_27_code, exceptionTable := #[], attributes := #[] }
def k18m2 : Method := { name := "intValue", desc := "()I", sig := { parameters := [], returnType := some .int }, accessFlags := 1, code := some k18c2 }
/-- java/lang/Integer -/
def k18 : Class := { plain "java/lang/Integer" (some 16) with
  accessFlags := 49
  interfaces := #[3, 5, 6]
  cf := some (fileOf pool18 1 #[.nestMembers #[189]] #[{ accessFlags := 9, nameIndex := 187, descriptorIndex := 188, attributes := #[] }, { accessFlags := 1, nameIndex := 67, descriptorIndex := 201, attributes := #[] }, { accessFlags := 1, nameIndex := 213, descriptorIndex := 121, attributes := #[] }] 49 203 #[304, 306, 308] #[{ accessFlags := 25, nameIndex := 310, descriptorIndex := 194, attributes := #[] }, { accessFlags := 25, nameIndex := 312, descriptorIndex := 194, attributes := #[] }, { accessFlags := 25, nameIndex := 302, descriptorIndex := 303, attributes := #[] }, { accessFlags := 24, nameIndex := 19, descriptorIndex := 20, attributes := #[] }, { accessFlags := 24, nameIndex := 89, descriptorIndex := 86, attributes := #[] }, { accessFlags := 24, nameIndex := 85, descriptorIndex := 86, attributes := #[] }, { accessFlags := 18, nameIndex := 207, descriptorIndex := 194, attributes := #[] }, { accessFlags := 25, nameIndex := 316, descriptorIndex := 194, attributes := #[] }, { accessFlags := 25, nameIndex := 318, descriptorIndex := 194, attributes := #[] }, { accessFlags := 26, nameIndex := 320, descriptorIndex := 321, attributes := #[] }])
  fields := #[{ name := "MIN_VALUE", type := .int, accessFlags := 25, slot := 0, constantValue := 0 }, { name := "MAX_VALUE", type := .int, accessFlags := 25, slot := 1, constantValue := 0 }, { name := "TYPE", type := (.object "java/lang/Class"), accessFlags := 25, slot := 2, constantValue := 0 }, { name := "digits", type := (.array .char), accessFlags := 24, slot := 3, constantValue := 0 }, { name := "DigitTens", type := (.array .byte), accessFlags := 24, slot := 4, constantValue := 0 }, { name := "DigitOnes", type := (.array .byte), accessFlags := 24, slot := 5, constantValue := 0 }, { name := "value", type := .int, accessFlags := 18, slot := 0, constantValue := 0 }, { name := "SIZE", type := .int, accessFlags := 25, slot := 6, constantValue := 0 }, { name := "BYTES", type := .int, accessFlags := 25, slot := 7, constantValue := 0 }, { name := "serialVersionUID", type := .long, accessFlags := 26, slot := 8, constantValue := 0 }]
  methods := #[k18m0, k18m1, k18m2]
  instanceTypes := #[.int]
  staticTypes := #[.int, .int, (.object "java/lang/Class"), (.array .char), (.array .byte), (.array .byte), .int, .int, .long]
  resolved := Array.replicate 453 none
  statics := none }

def pool19 : Array CpInfo := pool [(2, .class_ 4), (1, u "java/lang/Object"), (0, u "<init>"), (0, u "()V"), (0, .class_ 8), (0, u "java/lang/Integer"), (7, .class_ 18), (1, u "java/lang/Integer$IntegerCache"), (0, u "$assertionsDisabled"), (0, u "Z"), (26, u "high"), (0, u "I"), (8, u "archivedCache"), (0, u "[Ljava/lang/Integer;"), (12, u "cache"), (0, u "low")] 27

def k19m0 : Method := { name := "<init>", desc := "()V", sig := { parameters := [], returnType := none }, accessFlags := 2, code := none }
/-- java/lang/Integer$IntegerCache -/
def k19 : Class := { plain "java/lang/Integer$IntegerCache" (some 0) with
  accessFlags := 48
  interfaces := #[]
  cf := some (fileOf pool19 16 #[.nestHost 7] #[{ accessFlags := 2, nameIndex := 5, descriptorIndex := 6, attributes := #[] }] 48 2 #[] #[{ accessFlags := 24, nameIndex := 72, descriptorIndex := 48, attributes := #[] }, { accessFlags := 24, nameIndex := 47, descriptorIndex := 48, attributes := #[] }, { accessFlags := 24, nameIndex := 71, descriptorIndex := 58, attributes := #[] }, { accessFlags := 8, nameIndex := 57, descriptorIndex := 58, attributes := #[] }, { accessFlags := 4120, nameIndex := 19, descriptorIndex := 20, attributes := #[] }])
  fields := #[{ name := "low", type := .int, accessFlags := 24, slot := 0, constantValue := 0 }, { name := "high", type := .int, accessFlags := 24, slot := 1, constantValue := 0 }, { name := "cache", type := (.array (.object "java/lang/Integer")), accessFlags := 24, slot := 2, constantValue := 0 }, { name := "archivedCache", type := (.array (.object "java/lang/Integer")), accessFlags := 8, slot := 3, constantValue := 0 }, { name := "$assertionsDisabled", type := .boolean, accessFlags := 4120, slot := 4, constantValue := 0 }]
  methods := #[k19m0]
  instanceTypes := #[]
  staticTypes := #[.int, .int, (.array (.object "java/lang/Integer")), (.array (.object "java/lang/Integer")), .boolean]
  resolved := Array.replicate 100 none
  statics := some 2 }

def pool20 : Array CpInfo := pool [(9, u "<init>"), (6, .class_ 18), (1, u "java/lang/Object"), (0, u "()V"), (1, .class_ 23), (1, u "jdk/internal/util/ArraysSupport"), (0, u "LOG2_ARRAY_LONG_INDEX_SCALE"), (0, u "I"), (2, u "U"), (0, u "Ljdk/internal/misc/Unsafe;"), (8, u "BIG_ENDIAN"), (0, u "Z"), (8, u "LOG2_BYTE_BIT_SIZE"), (4, u "LOG2_ARRAY_INT_INDEX_SCALE"), (54, u "JLA"), (0, u "Ljdk/internal/access/JavaLangAccess;"), (11, u "LOG2_ARRAY_BOOLEAN_INDEX_SCALE"), (9, u "LOG2_ARRAY_BYTE_INDEX_SCALE"), (5, u "LOG2_ARRAY_CHAR_INDEX_SCALE"), (5, u "LOG2_ARRAY_SHORT_INDEX_SCALE"), (18, u "LOG2_ARRAY_FLOAT_INDEX_SCALE"), (24, u "LOG2_ARRAY_DOUBLE_INDEX_SCALE"), (89, u "T_BOOLEAN"), (2, u "T_CHAR"), (1, u "T_FLOAT"), (1, u "T_DOUBLE"), (1, u "T_BYTE"), (1, u "T_SHORT"), (1, u "T_INT"), (1, u "T_LONG"), (1, u "SOFT_MAX_ARRAY_LENGTH")] 83

def k20m0 : Method := { name := "<init>", desc := "()V", sig := { parameters := [], returnType := none }, accessFlags := 2, code := none }
/-- jdk/internal/util/ArraysSupport -/
def k20 : Class := { plain "jdk/internal/util/ArraysSupport" (some 0) with
  accessFlags := 33
  interfaces := #[]
  cf := some (fileOf pool20 21 #[] #[{ accessFlags := 2, nameIndex := 9, descriptorIndex := 19, attributes := #[] }] 33 16 #[] #[{ accessFlags := 24, nameIndex := 28, descriptorIndex := 29, attributes := #[] }, { accessFlags := 26, nameIndex := 38, descriptorIndex := 39, attributes := #[] }, { accessFlags := 25, nameIndex := 121, descriptorIndex := 25, attributes := #[] }, { accessFlags := 25, nameIndex := 131, descriptorIndex := 25, attributes := #[] }, { accessFlags := 25, nameIndex := 137, descriptorIndex := 25, attributes := #[] }, { accessFlags := 25, nameIndex := 143, descriptorIndex := 25, attributes := #[] }, { accessFlags := 25, nameIndex := 53, descriptorIndex := 25, attributes := #[] }, { accessFlags := 25, nameIndex := 24, descriptorIndex := 25, attributes := #[] }, { accessFlags := 25, nameIndex := 162, descriptorIndex := 25, attributes := #[] }, { accessFlags := 25, nameIndex := 187, descriptorIndex := 25, attributes := #[] }, { accessFlags := 26, nameIndex := 48, descriptorIndex := 25, attributes := #[] }, { accessFlags := 25, nameIndex := 277, descriptorIndex := 25, attributes := #[] }, { accessFlags := 25, nameIndex := 280, descriptorIndex := 25, attributes := #[] }, { accessFlags := 25, nameIndex := 282, descriptorIndex := 25, attributes := #[] }, { accessFlags := 25, nameIndex := 284, descriptorIndex := 25, attributes := #[] }, { accessFlags := 25, nameIndex := 286, descriptorIndex := 25, attributes := #[] }, { accessFlags := 25, nameIndex := 288, descriptorIndex := 25, attributes := #[] }, { accessFlags := 25, nameIndex := 290, descriptorIndex := 25, attributes := #[] }, { accessFlags := 25, nameIndex := 292, descriptorIndex := 25, attributes := #[] }, { accessFlags := 26, nameIndex := 108, descriptorIndex := 109, attributes := #[] }, { accessFlags := 25, nameIndex := 294, descriptorIndex := 25, attributes := #[] }])
  fields := #[{ name := "U", type := (.object "jdk/internal/misc/Unsafe"), accessFlags := 24, slot := 0, constantValue := 0 }, { name := "BIG_ENDIAN", type := .boolean, accessFlags := 26, slot := 1, constantValue := 0 }, { name := "LOG2_ARRAY_BOOLEAN_INDEX_SCALE", type := .int, accessFlags := 25, slot := 2, constantValue := 0 }, { name := "LOG2_ARRAY_BYTE_INDEX_SCALE", type := .int, accessFlags := 25, slot := 3, constantValue := 0 }, { name := "LOG2_ARRAY_CHAR_INDEX_SCALE", type := .int, accessFlags := 25, slot := 4, constantValue := 0 }, { name := "LOG2_ARRAY_SHORT_INDEX_SCALE", type := .int, accessFlags := 25, slot := 5, constantValue := 0 }, { name := "LOG2_ARRAY_INT_INDEX_SCALE", type := .int, accessFlags := 25, slot := 6, constantValue := 0 }, { name := "LOG2_ARRAY_LONG_INDEX_SCALE", type := .int, accessFlags := 25, slot := 7, constantValue := 0 }, { name := "LOG2_ARRAY_FLOAT_INDEX_SCALE", type := .int, accessFlags := 25, slot := 8, constantValue := 0 }, { name := "LOG2_ARRAY_DOUBLE_INDEX_SCALE", type := .int, accessFlags := 25, slot := 9, constantValue := 0 }, { name := "LOG2_BYTE_BIT_SIZE", type := .int, accessFlags := 26, slot := 10, constantValue := 0 }, { name := "T_BOOLEAN", type := .int, accessFlags := 25, slot := 11, constantValue := 0 }, { name := "T_CHAR", type := .int, accessFlags := 25, slot := 12, constantValue := 0 }, { name := "T_FLOAT", type := .int, accessFlags := 25, slot := 13, constantValue := 0 }, { name := "T_DOUBLE", type := .int, accessFlags := 25, slot := 14, constantValue := 0 }, { name := "T_BYTE", type := .int, accessFlags := 25, slot := 15, constantValue := 0 }, { name := "T_SHORT", type := .int, accessFlags := 25, slot := 16, constantValue := 0 }, { name := "T_INT", type := .int, accessFlags := 25, slot := 17, constantValue := 0 }, { name := "T_LONG", type := .int, accessFlags := 25, slot := 18, constantValue := 0 }, { name := "JLA", type := (.object "jdk/internal/access/JavaLangAccess"), accessFlags := 26, slot := 19, constantValue := 0 }, { name := "SOFT_MAX_ARRAY_LENGTH", type := .int, accessFlags := 25, slot := 20, constantValue := 0 }]
  methods := #[k20m0]
  instanceTypes := #[]
  staticTypes := #[(.object "jdk/internal/misc/Unsafe"), .boolean, .int, .int, .int, .int, .int, .int, .int, .int, .int, .int, .int, .int, .int, .int, .int, .int, .int, (.object "jdk/internal/access/JavaLangAccess"), .int]
  resolved := Array.replicate 378 none
  statics := none }

/-- the primitive byte -/
def k21 : Class := { plain "byte" none with kind := .primitive 'B', accessFlags := 0x411 }
/-- [B -/
def k22 : Class := { plain "[B" (some 0) with kind := .array 21 .byte, interfaces := #[15, 2], accessFlags := 1041 }

/-- the primitive int -/
def k23 : Class := { plain "int" none with kind := .primitive 'I', accessFlags := 0x411 }
/-- [I -/
def k24 : Class := { plain "[I" (some 0) with kind := .array 23 .int, interfaces := #[15, 2], accessFlags := 1041 }

/-- [Ljava/lang/Integer; -/
def k25 : Class := { plain "[Ljava/lang/Integer;" (some 0) with kind := .array 18 (.object "java/lang/Integer"), interfaces := #[15, 2], accessFlags := 1041 }

def heap : Heap := #[{ cls := 7, slots := #[.long 0, .int 1, .null, .int 0, .null, .int 0, .int 0], vm := .statics 7 },
  { cls := 13, slots := #[.null, .null, .null], vm := .statics 13 },
  { cls := 19, slots := #[.int 0, .int 127, .ref 3, .null, .int 0], vm := .statics 19 },
  { cls := 25, slots := #[.ref 4, .ref 5, .ref 6, .ref 7, .ref 8, .ref 9, .ref 10, .ref 11, .ref 12, .ref 13, .ref 14, .ref 15, .ref 16, .ref 17, .ref 18, .ref 19, .ref 20, .ref 21, .ref 22, .ref 23, .ref 24, .ref 25, .ref 26, .ref 27, .ref 28, .ref 29, .ref 30, .ref 31, .ref 32, .ref 33, .ref 34, .ref 35, .ref 36, .ref 37, .ref 38, .ref 39, .ref 40, .ref 41, .ref 42, .ref 43, .ref 44, .ref 45, .ref 46, .ref 47, .ref 48, .ref 49, .ref 50, .ref 51, .ref 52, .ref 53, .ref 54, .ref 55, .ref 56, .ref 57, .ref 58, .ref 59, .ref 60, .ref 61, .ref 62, .ref 63, .ref 64, .ref 65, .ref 66, .ref 67, .ref 68, .ref 69, .ref 70, .ref 71, .ref 72, .ref 73, .ref 74, .ref 75, .ref 76, .ref 77, .ref 78, .ref 79, .ref 80, .ref 81, .ref 82, .ref 83, .ref 84, .ref 85, .ref 86, .ref 87, .ref 88, .ref 89, .ref 90, .ref 91, .ref 92, .ref 93, .ref 94, .ref 95, .ref 96, .ref 97, .ref 98, .ref 99, .ref 100, .ref 101, .ref 102, .ref 103, .ref 104, .ref 105, .ref 106, .ref 107, .ref 108, .ref 109, .ref 110, .ref 111, .ref 112, .ref 113, .ref 114, .ref 115, .ref 116, .ref 117, .ref 118, .ref 119, .ref 120, .ref 121, .ref 122, .ref 123, .ref 124, .ref 125, .ref 126, .ref 127, .ref 128, .ref 129, .ref 130, .ref 131, .ref 132, .ref 133, .ref 134, .ref 135, .ref 136, .ref 137, .ref 138, .ref 139, .ref 140, .ref 141, .ref 142, .ref 143, .ref 144, .ref 145, .ref 146, .ref 147, .ref 148, .ref 149, .ref 150, .ref 151, .ref 152, .ref 153, .ref 154, .ref 155, .ref 156, .ref 157, .ref 158, .ref 159, .ref 160, .ref 161, .ref 162, .ref 163, .ref 164, .ref 165, .ref 166, .ref 167, .ref 168, .ref 169, .ref 170, .ref 171, .ref 172, .ref 173, .ref 174, .ref 175, .ref 176, .ref 177, .ref 178, .ref 179, .ref 180, .ref 181, .ref 182, .ref 183, .ref 184, .ref 185, .ref 186, .ref 187, .ref 188, .ref 189, .ref 190, .ref 191, .ref 192, .ref 193, .ref 194, .ref 195, .ref 196, .ref 197, .ref 198, .ref 199, .ref 200, .ref 201, .ref 202, .ref 203, .ref 204, .ref 205, .ref 206, .ref 207, .ref 208, .ref 209, .ref 210, .ref 211, .ref 212, .ref 213, .ref 214, .ref 215, .ref 216, .ref 217, .ref 218, .ref 219, .ref 220, .ref 221, .ref 222, .ref 223, .ref 224, .ref 225, .ref 226, .ref 227, .ref 228, .ref 229, .ref 230, .ref 231, .ref 232, .ref 233, .ref 234, .ref 235, .ref 236, .ref 237, .ref 238, .ref 239, .ref 240, .ref 241, .ref 242, .ref 243, .ref 244, .ref 245, .ref 246, .ref 247, .ref 248, .ref 249, .ref 250, .ref 251, .ref 252, .ref 253, .ref 254, .ref 255, .ref 256, .ref 257, .ref 258, .ref 259], vm := .none },
  { cls := 18, slots := #[.int (-128)], vm := .none },
  { cls := 18, slots := #[.int (-127)], vm := .none },
  { cls := 18, slots := #[.int (-126)], vm := .none },
  { cls := 18, slots := #[.int (-125)], vm := .none },
  { cls := 18, slots := #[.int (-124)], vm := .none },
  { cls := 18, slots := #[.int (-123)], vm := .none },
  { cls := 18, slots := #[.int (-122)], vm := .none },
  { cls := 18, slots := #[.int (-121)], vm := .none },
  { cls := 18, slots := #[.int (-120)], vm := .none },
  { cls := 18, slots := #[.int (-119)], vm := .none },
  { cls := 18, slots := #[.int (-118)], vm := .none },
  { cls := 18, slots := #[.int (-117)], vm := .none },
  { cls := 18, slots := #[.int (-116)], vm := .none },
  { cls := 18, slots := #[.int (-115)], vm := .none },
  { cls := 18, slots := #[.int (-114)], vm := .none },
  { cls := 18, slots := #[.int (-113)], vm := .none },
  { cls := 18, slots := #[.int (-112)], vm := .none },
  { cls := 18, slots := #[.int (-111)], vm := .none },
  { cls := 18, slots := #[.int (-110)], vm := .none },
  { cls := 18, slots := #[.int (-109)], vm := .none },
  { cls := 18, slots := #[.int (-108)], vm := .none },
  { cls := 18, slots := #[.int (-107)], vm := .none },
  { cls := 18, slots := #[.int (-106)], vm := .none },
  { cls := 18, slots := #[.int (-105)], vm := .none },
  { cls := 18, slots := #[.int (-104)], vm := .none },
  { cls := 18, slots := #[.int (-103)], vm := .none },
  { cls := 18, slots := #[.int (-102)], vm := .none },
  { cls := 18, slots := #[.int (-101)], vm := .none },
  { cls := 18, slots := #[.int (-100)], vm := .none },
  { cls := 18, slots := #[.int (-99)], vm := .none },
  { cls := 18, slots := #[.int (-98)], vm := .none },
  { cls := 18, slots := #[.int (-97)], vm := .none },
  { cls := 18, slots := #[.int (-96)], vm := .none },
  { cls := 18, slots := #[.int (-95)], vm := .none },
  { cls := 18, slots := #[.int (-94)], vm := .none },
  { cls := 18, slots := #[.int (-93)], vm := .none },
  { cls := 18, slots := #[.int (-92)], vm := .none },
  { cls := 18, slots := #[.int (-91)], vm := .none },
  { cls := 18, slots := #[.int (-90)], vm := .none },
  { cls := 18, slots := #[.int (-89)], vm := .none },
  { cls := 18, slots := #[.int (-88)], vm := .none },
  { cls := 18, slots := #[.int (-87)], vm := .none },
  { cls := 18, slots := #[.int (-86)], vm := .none },
  { cls := 18, slots := #[.int (-85)], vm := .none },
  { cls := 18, slots := #[.int (-84)], vm := .none },
  { cls := 18, slots := #[.int (-83)], vm := .none },
  { cls := 18, slots := #[.int (-82)], vm := .none },
  { cls := 18, slots := #[.int (-81)], vm := .none },
  { cls := 18, slots := #[.int (-80)], vm := .none },
  { cls := 18, slots := #[.int (-79)], vm := .none },
  { cls := 18, slots := #[.int (-78)], vm := .none },
  { cls := 18, slots := #[.int (-77)], vm := .none },
  { cls := 18, slots := #[.int (-76)], vm := .none },
  { cls := 18, slots := #[.int (-75)], vm := .none },
  { cls := 18, slots := #[.int (-74)], vm := .none },
  { cls := 18, slots := #[.int (-73)], vm := .none },
  { cls := 18, slots := #[.int (-72)], vm := .none },
  { cls := 18, slots := #[.int (-71)], vm := .none },
  { cls := 18, slots := #[.int (-70)], vm := .none },
  { cls := 18, slots := #[.int (-69)], vm := .none },
  { cls := 18, slots := #[.int (-68)], vm := .none },
  { cls := 18, slots := #[.int (-67)], vm := .none },
  { cls := 18, slots := #[.int (-66)], vm := .none },
  { cls := 18, slots := #[.int (-65)], vm := .none },
  { cls := 18, slots := #[.int (-64)], vm := .none },
  { cls := 18, slots := #[.int (-63)], vm := .none },
  { cls := 18, slots := #[.int (-62)], vm := .none },
  { cls := 18, slots := #[.int (-61)], vm := .none },
  { cls := 18, slots := #[.int (-60)], vm := .none },
  { cls := 18, slots := #[.int (-59)], vm := .none },
  { cls := 18, slots := #[.int (-58)], vm := .none },
  { cls := 18, slots := #[.int (-57)], vm := .none },
  { cls := 18, slots := #[.int (-56)], vm := .none },
  { cls := 18, slots := #[.int (-55)], vm := .none },
  { cls := 18, slots := #[.int (-54)], vm := .none },
  { cls := 18, slots := #[.int (-53)], vm := .none },
  { cls := 18, slots := #[.int (-52)], vm := .none },
  { cls := 18, slots := #[.int (-51)], vm := .none },
  { cls := 18, slots := #[.int (-50)], vm := .none },
  { cls := 18, slots := #[.int (-49)], vm := .none },
  { cls := 18, slots := #[.int (-48)], vm := .none },
  { cls := 18, slots := #[.int (-47)], vm := .none },
  { cls := 18, slots := #[.int (-46)], vm := .none },
  { cls := 18, slots := #[.int (-45)], vm := .none },
  { cls := 18, slots := #[.int (-44)], vm := .none },
  { cls := 18, slots := #[.int (-43)], vm := .none },
  { cls := 18, slots := #[.int (-42)], vm := .none },
  { cls := 18, slots := #[.int (-41)], vm := .none },
  { cls := 18, slots := #[.int (-40)], vm := .none },
  { cls := 18, slots := #[.int (-39)], vm := .none },
  { cls := 18, slots := #[.int (-38)], vm := .none },
  { cls := 18, slots := #[.int (-37)], vm := .none },
  { cls := 18, slots := #[.int (-36)], vm := .none },
  { cls := 18, slots := #[.int (-35)], vm := .none },
  { cls := 18, slots := #[.int (-34)], vm := .none },
  { cls := 18, slots := #[.int (-33)], vm := .none },
  { cls := 18, slots := #[.int (-32)], vm := .none },
  { cls := 18, slots := #[.int (-31)], vm := .none },
  { cls := 18, slots := #[.int (-30)], vm := .none },
  { cls := 18, slots := #[.int (-29)], vm := .none },
  { cls := 18, slots := #[.int (-28)], vm := .none },
  { cls := 18, slots := #[.int (-27)], vm := .none },
  { cls := 18, slots := #[.int (-26)], vm := .none },
  { cls := 18, slots := #[.int (-25)], vm := .none },
  { cls := 18, slots := #[.int (-24)], vm := .none },
  { cls := 18, slots := #[.int (-23)], vm := .none },
  { cls := 18, slots := #[.int (-22)], vm := .none },
  { cls := 18, slots := #[.int (-21)], vm := .none },
  { cls := 18, slots := #[.int (-20)], vm := .none },
  { cls := 18, slots := #[.int (-19)], vm := .none },
  { cls := 18, slots := #[.int (-18)], vm := .none },
  { cls := 18, slots := #[.int (-17)], vm := .none },
  { cls := 18, slots := #[.int (-16)], vm := .none },
  { cls := 18, slots := #[.int (-15)], vm := .none },
  { cls := 18, slots := #[.int (-14)], vm := .none },
  { cls := 18, slots := #[.int (-13)], vm := .none },
  { cls := 18, slots := #[.int (-12)], vm := .none },
  { cls := 18, slots := #[.int (-11)], vm := .none },
  { cls := 18, slots := #[.int (-10)], vm := .none },
  { cls := 18, slots := #[.int (-9)], vm := .none },
  { cls := 18, slots := #[.int (-8)], vm := .none },
  { cls := 18, slots := #[.int (-7)], vm := .none },
  { cls := 18, slots := #[.int (-6)], vm := .none },
  { cls := 18, slots := #[.int (-5)], vm := .none },
  { cls := 18, slots := #[.int (-4)], vm := .none },
  { cls := 18, slots := #[.int (-3)], vm := .none },
  { cls := 18, slots := #[.int (-2)], vm := .none },
  { cls := 18, slots := #[.int (-1)], vm := .none },
  { cls := 18, slots := #[.int 0], vm := .none },
  { cls := 18, slots := #[.int 1], vm := .none },
  { cls := 18, slots := #[.int 2], vm := .none },
  { cls := 18, slots := #[.int 3], vm := .none },
  { cls := 18, slots := #[.int 4], vm := .none },
  { cls := 18, slots := #[.int 5], vm := .none },
  { cls := 18, slots := #[.int 6], vm := .none },
  { cls := 18, slots := #[.int 7], vm := .none },
  { cls := 18, slots := #[.int 8], vm := .none },
  { cls := 18, slots := #[.int 9], vm := .none },
  { cls := 18, slots := #[.int 10], vm := .none },
  { cls := 18, slots := #[.int 11], vm := .none },
  { cls := 18, slots := #[.int 12], vm := .none },
  { cls := 18, slots := #[.int 13], vm := .none },
  { cls := 18, slots := #[.int 14], vm := .none },
  { cls := 18, slots := #[.int 15], vm := .none },
  { cls := 18, slots := #[.int 16], vm := .none },
  { cls := 18, slots := #[.int 17], vm := .none },
  { cls := 18, slots := #[.int 18], vm := .none },
  { cls := 18, slots := #[.int 19], vm := .none },
  { cls := 18, slots := #[.int 20], vm := .none },
  { cls := 18, slots := #[.int 21], vm := .none },
  { cls := 18, slots := #[.int 22], vm := .none },
  { cls := 18, slots := #[.int 23], vm := .none },
  { cls := 18, slots := #[.int 24], vm := .none },
  { cls := 18, slots := #[.int 25], vm := .none },
  { cls := 18, slots := #[.int 26], vm := .none },
  { cls := 18, slots := #[.int 27], vm := .none },
  { cls := 18, slots := #[.int 28], vm := .none },
  { cls := 18, slots := #[.int 29], vm := .none },
  { cls := 18, slots := #[.int 30], vm := .none },
  { cls := 18, slots := #[.int 31], vm := .none },
  { cls := 18, slots := #[.int 32], vm := .none },
  { cls := 18, slots := #[.int 33], vm := .none },
  { cls := 18, slots := #[.int 34], vm := .none },
  { cls := 18, slots := #[.int 35], vm := .none },
  { cls := 18, slots := #[.int 36], vm := .none },
  { cls := 18, slots := #[.int 37], vm := .none },
  { cls := 18, slots := #[.int 38], vm := .none },
  { cls := 18, slots := #[.int 39], vm := .none },
  { cls := 18, slots := #[.int 40], vm := .none },
  { cls := 18, slots := #[.int 41], vm := .none },
  { cls := 18, slots := #[.int 42], vm := .none },
  { cls := 18, slots := #[.int 43], vm := .none },
  { cls := 18, slots := #[.int 44], vm := .none },
  { cls := 18, slots := #[.int 45], vm := .none },
  { cls := 18, slots := #[.int 46], vm := .none },
  { cls := 18, slots := #[.int 47], vm := .none },
  { cls := 18, slots := #[.int 48], vm := .none },
  { cls := 18, slots := #[.int 49], vm := .none },
  { cls := 18, slots := #[.int 50], vm := .none },
  { cls := 18, slots := #[.int 51], vm := .none },
  { cls := 18, slots := #[.int 52], vm := .none },
  { cls := 18, slots := #[.int 53], vm := .none },
  { cls := 18, slots := #[.int 54], vm := .none },
  { cls := 18, slots := #[.int 55], vm := .none },
  { cls := 18, slots := #[.int 56], vm := .none },
  { cls := 18, slots := #[.int 57], vm := .none },
  { cls := 18, slots := #[.int 58], vm := .none },
  { cls := 18, slots := #[.int 59], vm := .none },
  { cls := 18, slots := #[.int 60], vm := .none },
  { cls := 18, slots := #[.int 61], vm := .none },
  { cls := 18, slots := #[.int 62], vm := .none },
  { cls := 18, slots := #[.int 63], vm := .none },
  { cls := 18, slots := #[.int 64], vm := .none },
  { cls := 18, slots := #[.int 65], vm := .none },
  { cls := 18, slots := #[.int 66], vm := .none },
  { cls := 18, slots := #[.int 67], vm := .none },
  { cls := 18, slots := #[.int 68], vm := .none },
  { cls := 18, slots := #[.int 69], vm := .none },
  { cls := 18, slots := #[.int 70], vm := .none },
  { cls := 18, slots := #[.int 71], vm := .none },
  { cls := 18, slots := #[.int 72], vm := .none },
  { cls := 18, slots := #[.int 73], vm := .none },
  { cls := 18, slots := #[.int 74], vm := .none },
  { cls := 18, slots := #[.int 75], vm := .none },
  { cls := 18, slots := #[.int 76], vm := .none },
  { cls := 18, slots := #[.int 77], vm := .none },
  { cls := 18, slots := #[.int 78], vm := .none },
  { cls := 18, slots := #[.int 79], vm := .none },
  { cls := 18, slots := #[.int 80], vm := .none },
  { cls := 18, slots := #[.int 81], vm := .none },
  { cls := 18, slots := #[.int 82], vm := .none },
  { cls := 18, slots := #[.int 83], vm := .none },
  { cls := 18, slots := #[.int 84], vm := .none },
  { cls := 18, slots := #[.int 85], vm := .none },
  { cls := 18, slots := #[.int 86], vm := .none },
  { cls := 18, slots := #[.int 87], vm := .none },
  { cls := 18, slots := #[.int 88], vm := .none },
  { cls := 18, slots := #[.int 89], vm := .none },
  { cls := 18, slots := #[.int 90], vm := .none },
  { cls := 18, slots := #[.int 91], vm := .none },
  { cls := 18, slots := #[.int 92], vm := .none },
  { cls := 18, slots := #[.int 93], vm := .none },
  { cls := 18, slots := #[.int 94], vm := .none },
  { cls := 18, slots := #[.int 95], vm := .none },
  { cls := 18, slots := #[.int 96], vm := .none },
  { cls := 18, slots := #[.int 97], vm := .none },
  { cls := 18, slots := #[.int 98], vm := .none },
  { cls := 18, slots := #[.int 99], vm := .none },
  { cls := 18, slots := #[.int 100], vm := .none },
  { cls := 18, slots := #[.int 101], vm := .none },
  { cls := 18, slots := #[.int 102], vm := .none },
  { cls := 18, slots := #[.int 103], vm := .none },
  { cls := 18, slots := #[.int 104], vm := .none },
  { cls := 18, slots := #[.int 105], vm := .none },
  { cls := 18, slots := #[.int 106], vm := .none },
  { cls := 18, slots := #[.int 107], vm := .none },
  { cls := 18, slots := #[.int 108], vm := .none },
  { cls := 18, slots := #[.int 109], vm := .none },
  { cls := 18, slots := #[.int 110], vm := .none },
  { cls := 18, slots := #[.int 111], vm := .none },
  { cls := 18, slots := #[.int 112], vm := .none },
  { cls := 18, slots := #[.int 113], vm := .none },
  { cls := 18, slots := #[.int 114], vm := .none },
  { cls := 18, slots := #[.int 115], vm := .none },
  { cls := 18, slots := #[.int 116], vm := .none },
  { cls := 18, slots := #[.int 117], vm := .none },
  { cls := 18, slots := #[.int 118], vm := .none },
  { cls := 18, slots := #[.int 119], vm := .none },
  { cls := 18, slots := #[.int 120], vm := .none },
  { cls := 18, slots := #[.int 121], vm := .none },
  { cls := 18, slots := #[.int 122], vm := .none },
  { cls := 18, slots := #[.int 123], vm := .none },
  { cls := 18, slots := #[.int 124], vm := .none },
  { cls := 18, slots := #[.int 125], vm := .none },
  { cls := 18, slots := #[.int 126], vm := .none },
  { cls := 18, slots := #[.int 127], vm := .none }]
def classes : Array Class := #[k0, k1, k2, k3, k4, k5, k6, k7, k8, k9, k10, k11, k12, k13, k14, k15, k16, k17, k18, k19, k20, k21, k22, k23, k24, k25]
def interned : List (Array UInt16 × Addr) := []
def slotsUsed : Nat := 527
def theMethod : MethodId := ⟨1, 1⟩
def args0 : Array Value := #[.int 200, .int 65]
def aboutOver (below : List Frame) : State where
  vm := { classes := classes, interned := interned.toArray }
  heap := heap
  slotsUsed := slotsUsed
  threads := #[{ frames := .invoking theMethod args0 :: below }]
def below0 : List Frame := [.native { method := ⟨0, 0⟩, args := #[] }]
def about1 : State := aboutOver below0
def p0 : Program := .bare "" "" ""
def e0 : Env := launch0.env 0 0 0
theorem w_frames : about1.frames = Frame.invoking theMethod args0 :: below0 := rfl
set_option maxRecDepth 65536 in
theorem w_args : argsFit about1.vm theMethod args0 = true := by decide +kernel
set_option maxRecDepth 65536 in
theorem w_heap : heapFits about1 = true := by decide +kernel
set_option maxRecDepth 65536 in
theorem w_runnable : about1.curStatus? = some .runnable := by decide +kernel
set_option maxRecDepth 65536 in
theorem w_alone : about1.alone = true := by decide +kernel
set_option maxRecDepth 65536 in
theorem w_named : about1.methodNamed? x = some theMethod := by decide +kernel
set_option maxRecDepth 65536 in
theorem w_hears : about1.hears theMethod below0 = true := by decide +kernel
set_option maxRecDepth 65536 in
theorem w_ripe : about1.ripe theMethod args0 below0 = true := by decide +kernel
theorem w_running : about1.status = .running := rfl
set_option maxRecDepth 65536 in
theorem w_room : about1.hasRoom e0.platform room_1 = true :=
  launch0.hasRoom_least _ room_1 (by decide +kernel) (by decide +kernel) (by decide +kernel) (by decide +kernel) (by decide +kernel) (by decide +kernel)
theorem allAtoms_all (ts : List Jvm.Cond) (a : Array Jvm.Value) (st : Jvm.State) : (allAtoms ts).before a st = ts.all (fun c => c.before a st) := by
  induction ts with
  | nil => rfl
  | cons c t ih =>
    show (Jvm.Cond.and c (allAtoms t)).before a st = _
    rw [Jvm.Cond.before_and, ih, List.all_cons]
def words1 : List Jvm.Cond := Jvm.Cond.code x code maxLocals ret :: tables_1
/-- a 'code' word, met by the world's own term for the bytes: nothing is compared byte by byte -/
theorem code_word {y : MethodName} {bytes : ByteArray} {mx : Nat} {rt : Option FieldType} {a : Array Value} {s : State} {m : MethodId} {meth : Method} {c : Code} (h1 : s.methodNamed? y = some m) (h2 : s.vm.method? m = some meth) (h3 : meth.code = some c) (h4 : c.code = bytes)
    (h5 : (c.maxLocals == mx && c.exceptionTable.isEmpty && decide (c.maxStack ≤ mostOperands) && decide (meth.sig.returnType = rt) && !meth.locks && decide (parseMethodDescriptor y.desc = some meth.sig)) = true) : (Jvm.Cond.code y bytes mx rt).before a s = true := by
  simp only [Bool.and_eq_true, beq_iff_eq, Bool.not_eq_true', decide_eq_true_eq] at h5
  obtain ⟨⟨⟨⟨⟨g1, g2⟩, g3⟩, g4⟩, g5⟩, g6⟩ := h5
  simp [Cond.before, Cond.holds, Cond.value, h1, h2, h3, h4, g1, g2, g3, g4, g5, g6]
def isCode : Jvm.Cond → Bool
  | .code _ _ _ _ => true
  | _ => false
theorem all_split {L : List Jvm.Cond} {P : Jvm.Cond → Bool} (h1 : L.all (fun c => isCode c || P c) = true) (h2 : ∀ c ∈ L.filter isCode, P c = true) : L.all P = true := by
  refine List.all_eq_true.mpr fun c hc => ?_
  have h := List.all_eq_true.mp h1 c hc
  rcases Bool.eq_false_or_eq_true (isCode c) with hi | hi
  · exact h2 c (List.mem_filter.mpr ⟨hc, hi⟩)
  · simpa [hi] using h
set_option maxRecDepth 65536 in
theorem w_c0 : (Jvm.Cond.code x code maxLocals ret).before args0 about1 = true := code_word (m := ⟨1, 1⟩) (meth := k1m1) (c := k1c1) (by decide +kernel) rfl rfl rfl (by decide +kernel)
set_option maxRecDepth 65536 in
theorem w_c1 : (Jvm.Cond.code ({ cls := "java/lang/String", name := "valueOf", desc := "(C)Ljava/lang/String;" } : Jvm.MethodName) jdk_42_method_139_code (1 : Nat) (Option.some (Jvm.ClassFile.FieldType.object "java/lang/String"))).before args0 about1 = true := code_word (m := ⟨7, 1⟩) (meth := k7m1) (c := k7c1) (by decide +kernel) rfl rfl rfl (by decide +kernel)
set_option maxRecDepth 65536 in
theorem w_c2 : (Jvm.Cond.code ({ cls := "java/lang/StringLatin1", name := "canEncode", desc := "(C)Z" } : Jvm.MethodName) jdk_43_method_3_code (1 : Nat) (Option.some Jvm.ClassFile.FieldType.boolean)).before args0 about1 = true := code_word (m := ⟨8, 1⟩) (meth := k8m1) (c := k8c1) (by decide +kernel) rfl rfl rfl (by decide +kernel)
set_option maxRecDepth 65536 in
theorem w_c3 : (Jvm.Cond.code ({ cls := "java/lang/StringLatin1", name := "toBytes", desc := "(C)[B" } : Jvm.MethodName) jdk_43_method_46_code (1 : Nat) (Option.some (Jvm.ClassFile.FieldType.array Jvm.ClassFile.FieldType.byte))).before args0 about1 = true := code_word (m := ⟨8, 2⟩) (meth := k8m2) (c := k8c2) (by decide +kernel) rfl rfl rfl (by decide +kernel)
set_option maxRecDepth 65536 in
theorem w_c4 : (Jvm.Cond.code ({ cls := "java/lang/String", name := "<init>", desc := "([BB)V" } : Jvm.MethodName) jdk_42_method_151_code (3 : Nat) (Option.none : Option Jvm.ClassFile.FieldType)).before args0 about1 = true := code_word (m := ⟨7, 2⟩) (meth := k7m2) (c := k7c2) (by decide +kernel) rfl rfl rfl (by decide +kernel)
set_option maxRecDepth 65536 in
theorem w_c5 : (Jvm.Cond.code ({ cls := "java/lang/Object", name := "<init>", desc := "()V" } : Jvm.MethodName) object_method_1_code (1 : Nat) (Option.none : Option Jvm.ClassFile.FieldType)).before args0 about1 = true := code_word (m := ⟨0, 0⟩) (meth := k0m0) (c := k0c0) (by decide +kernel) rfl rfl rfl (by decide +kernel)
set_option maxRecDepth 65536 in
theorem w_c6 : (Jvm.Cond.code ({ cls := "com/example/dido/dido/keys/ConstField", name := "<init>", desc := "(Ljava/lang/String;I)V" } : Jvm.MethodName) prog_6_method_1_code (3 : Nat) (Option.none : Option Jvm.ClassFile.FieldType)).before args0 about1 = true := code_word (m := ⟨10, 0⟩) (meth := k10m0) (c := k10c0) (by decide +kernel) rfl rfl rfl (by decide +kernel)
set_option maxRecDepth 65536 in
theorem w_c7 : (Jvm.Cond.code ({ cls := "com/example/dido/dido/keys/Field", name := "<init>", desc := "(Ljava/lang/String;)V" } : Jvm.MethodName) prog_9_method_1_code (2 : Nat) (Option.none : Option Jvm.ClassFile.FieldType)).before args0 about1 = true := code_word (m := ⟨9, 0⟩) (meth := k9m0) (c := k9c0) (by decide +kernel) rfl rfl rfl (by decide +kernel)
set_option maxRecDepth 65536 in
theorem w_c8 : (Jvm.Cond.code ({ cls := "com/example/dido/dido/keys/ConstField", name := "keyBytes", desc := "()[B" } : Jvm.MethodName) prog_6_method_2_code (1 : Nat) (Option.some (Jvm.ClassFile.FieldType.array Jvm.ClassFile.FieldType.byte))).before args0 about1 = true := code_word (m := ⟨10, 1⟩) (meth := k10m1) (c := k10c1) (by decide +kernel) rfl rfl rfl (by decide +kernel)
set_option maxRecDepth 65536 in
theorem w_c9 : (Jvm.Cond.code ({ cls := "com/example/dido/dido/keys/KeyReader", name := "<init>", desc := "([B)V" } : Jvm.MethodName) prog_14_method_1_code (2 : Nat) (Option.none : Option Jvm.ClassFile.FieldType)).before args0 about1 = true := code_word (m := ⟨11, 0⟩) (meth := k11m0) (c := k11c0) (by decide +kernel) rfl rfl rfl (by decide +kernel)
set_option maxRecDepth 65536 in
theorem w_c10 : (Jvm.Cond.code ({ cls := "com/example/dido/dido/keys/KeyReader", name := "<init>", desc := "([BII)V" } : Jvm.MethodName) prog_14_method_2_code (4 : Nat) (Option.none : Option Jvm.ClassFile.FieldType)).before args0 about1 = true := code_word (m := ⟨11, 1⟩) (meth := k11m1) (c := k11c1) (by decide +kernel) rfl rfl rfl (by decide +kernel)
set_option maxRecDepth 65536 in
theorem w_c11 : (Jvm.Cond.code ({ cls := "com/example/dido/dido/keys/ConstField", name := "decode", desc := "(Lcom/example/dido/dido/keys/KeyReader;)Ljava/lang/Object;" } : Jvm.MethodName) prog_6_method_5_code (3 : Nat) (Option.some (Jvm.ClassFile.FieldType.object "java/lang/Object"))).before args0 about1 = true := code_word (m := ⟨10, 2⟩) (meth := k10m2) (c := k10c2) (by decide +kernel) rfl rfl rfl (by decide +kernel)
set_option maxRecDepth 65536 in
theorem w_c12 : (Jvm.Cond.code ({ cls := "com/example/dido/dido/keys/Field", name := "take", desc := "(Lcom/example/dido/dido/keys/KeyReader;I)[B" } : Jvm.MethodName) prog_9_method_7_code (3 : Nat) (Option.some (Jvm.ClassFile.FieldType.array Jvm.ClassFile.FieldType.byte))).before args0 about1 = true := code_word (m := ⟨9, 1⟩) (meth := k9m1) (c := k9c1) (by decide +kernel) rfl rfl rfl (by decide +kernel)
set_option maxRecDepth 65536 in
theorem w_c13 : (Jvm.Cond.code ({ cls := "com/example/dido/dido/keys/KeyReader", name := "remaining", desc := "()I" } : Jvm.MethodName) prog_14_method_5_code (1 : Nat) (Option.some Jvm.ClassFile.FieldType.int)).before args0 about1 = true := code_word (m := ⟨11, 2⟩) (meth := k11m2) (c := k11c2) (by decide +kernel) rfl rfl rfl (by decide +kernel)
set_option maxRecDepth 65536 in
theorem w_c14 : (Jvm.Cond.code ({ cls := "com/example/dido/dido/keys/KeyReader", name := "take", desc := "(I)[B" } : Jvm.MethodName) prog_14_method_7_code (4 : Nat) (Option.some (Jvm.ClassFile.FieldType.array Jvm.ClassFile.FieldType.byte))).before args0 about1 = true := code_word (m := ⟨11, 3⟩) (meth := k11m3) (c := k11c3) (by decide +kernel) rfl rfl rfl (by decide +kernel)
set_option maxRecDepth 65536 in
theorem w_c15 : (Jvm.Cond.code ({ cls := "java/util/Objects", name := "checkFromIndexSize", desc := "(III)I" } : Jvm.MethodName) jdk_31_method_19_code (3 : Nat) (Option.some Jvm.ClassFile.FieldType.int)).before args0 about1 = true := code_word (m := ⟨12, 1⟩) (meth := k12m1) (c := k12c1) (by decide +kernel) rfl rfl rfl (by decide +kernel)
set_option maxRecDepth 65536 in
theorem w_c16 : (Jvm.Cond.code ({ cls := "jdk/internal/util/Preconditions", name := "checkFromIndexSize", desc := "(IIILjava/util/function/BiFunction;)I" } : Jvm.MethodName) jdk_41_method_13_code (4 : Nat) (Option.some Jvm.ClassFile.FieldType.int)).before args0 about1 = true := code_word (m := ⟨13, 1⟩) (meth := k13m1) (c := k13c1) (by decide +kernel) rfl rfl rfl (by decide +kernel)
set_option maxRecDepth 65536 in
theorem w_c17 : (Jvm.Cond.code ({ cls := "java/util/Arrays", name := "copyOfRange", desc := "([BII)[B" } : Jvm.MethodName) jdk_65_method_132_code (3 : Nat) (Option.some (Jvm.ClassFile.FieldType.array Jvm.ClassFile.FieldType.byte))).before args0 about1 = true := code_word (m := ⟨14, 1⟩) (meth := k14m1) (c := k14c1) (by decide +kernel) rfl rfl rfl (by decide +kernel)
set_option maxRecDepth 65536 in
theorem w_c18 : (Jvm.Cond.code ({ cls := "java/lang/Byte", name := "toUnsignedInt", desc := "(B)I" } : Jvm.MethodName) jdk_2056_method_24_code (1 : Nat) (Option.some Jvm.ClassFile.FieldType.int)).before args0 about1 = true := code_word (m := ⟨17, 0⟩) (meth := k17m0) (c := k17c0) (by decide +kernel) rfl rfl rfl (by decide +kernel)
set_option maxRecDepth 65536 in
theorem w_c19 : (Jvm.Cond.code ({ cls := "java/lang/Integer", name := "valueOf", desc := "(I)Ljava/lang/Integer;" } : Jvm.MethodName) jdk_33_method_22_code (1 : Nat) (Option.some (Jvm.ClassFile.FieldType.object "java/lang/Integer"))).before args0 about1 = true := code_word (m := ⟨18, 0⟩) (meth := k18m0) (c := k18c0) (by decide +kernel) rfl rfl rfl (by decide +kernel)
set_option maxRecDepth 65536 in
theorem w_c20 : (Jvm.Cond.code ({ cls := "java/lang/Integer", name := "intValue", desc := "()I" } : Jvm.MethodName) jdk_33_method_27_code (1 : Nat) (Option.some Jvm.ClassFile.FieldType.int)).before args0 about1 = true := code_word (m := ⟨18, 2⟩) (meth := k18m2) (c := k18c2) (by decide +kernel) rfl rfl rfl (by decide +kernel)
set_option maxRecDepth 65536 in
theorem w_c21 : (Jvm.Cond.code ({ cls := "java/lang/Integer", name := "<init>", desc := "(I)V" } : Jvm.MethodName) jdk_33_method_23_code (2 : Nat) (Option.none : Option Jvm.ClassFile.FieldType)).before args0 about1 = true := code_word (m := ⟨18, 1⟩) (meth := k18m1) (c := k18c1) (by decide +kernel) rfl rfl rfl (by decide +kernel)
set_option maxRecDepth 65536 in
theorem w_c22 : (Jvm.Cond.code ({ cls := "java/lang/Number", name := "<init>", desc := "()V" } : Jvm.MethodName) jdk_18_method_1_code (1 : Nat) (Option.none : Option Jvm.ClassFile.FieldType)).before args0 about1 = true := code_word (m := ⟨16, 0⟩) (meth := k16m0) (c := k16c0) (by decide +kernel) rfl rfl rfl (by decide +kernel)
def codes1 : List Jvm.Cond := [Jvm.Cond.code x code maxLocals ret, Jvm.Cond.code ({ cls := "java/lang/String", name := "valueOf", desc := "(C)Ljava/lang/String;" } : Jvm.MethodName) jdk_42_method_139_code (1 : Nat) (Option.some (Jvm.ClassFile.FieldType.object "java/lang/String")), Jvm.Cond.code ({ cls := "java/lang/StringLatin1", name := "canEncode", desc := "(C)Z" } : Jvm.MethodName) jdk_43_method_3_code (1 : Nat) (Option.some Jvm.ClassFile.FieldType.boolean), Jvm.Cond.code ({ cls := "java/lang/StringLatin1", name := "toBytes", desc := "(C)[B" } : Jvm.MethodName) jdk_43_method_46_code (1 : Nat) (Option.some (Jvm.ClassFile.FieldType.array Jvm.ClassFile.FieldType.byte)), Jvm.Cond.code ({ cls := "java/lang/String", name := "<init>", desc := "([BB)V" } : Jvm.MethodName) jdk_42_method_151_code (3 : Nat) (Option.none : Option Jvm.ClassFile.FieldType), Jvm.Cond.code ({ cls := "java/lang/Object", name := "<init>", desc := "()V" } : Jvm.MethodName) object_method_1_code (1 : Nat) (Option.none : Option Jvm.ClassFile.FieldType), Jvm.Cond.code ({ cls := "com/example/dido/dido/keys/ConstField", name := "<init>", desc := "(Ljava/lang/String;I)V" } : Jvm.MethodName) prog_6_method_1_code (3 : Nat) (Option.none : Option Jvm.ClassFile.FieldType), Jvm.Cond.code ({ cls := "com/example/dido/dido/keys/Field", name := "<init>", desc := "(Ljava/lang/String;)V" } : Jvm.MethodName) prog_9_method_1_code (2 : Nat) (Option.none : Option Jvm.ClassFile.FieldType), Jvm.Cond.code ({ cls := "com/example/dido/dido/keys/ConstField", name := "keyBytes", desc := "()[B" } : Jvm.MethodName) prog_6_method_2_code (1 : Nat) (Option.some (Jvm.ClassFile.FieldType.array Jvm.ClassFile.FieldType.byte)), Jvm.Cond.code ({ cls := "com/example/dido/dido/keys/KeyReader", name := "<init>", desc := "([B)V" } : Jvm.MethodName) prog_14_method_1_code (2 : Nat) (Option.none : Option Jvm.ClassFile.FieldType), Jvm.Cond.code ({ cls := "com/example/dido/dido/keys/KeyReader", name := "<init>", desc := "([BII)V" } : Jvm.MethodName) prog_14_method_2_code (4 : Nat) (Option.none : Option Jvm.ClassFile.FieldType), Jvm.Cond.code ({ cls := "com/example/dido/dido/keys/ConstField", name := "decode", desc := "(Lcom/example/dido/dido/keys/KeyReader;)Ljava/lang/Object;" } : Jvm.MethodName) prog_6_method_5_code (3 : Nat) (Option.some (Jvm.ClassFile.FieldType.object "java/lang/Object")), Jvm.Cond.code ({ cls := "com/example/dido/dido/keys/Field", name := "take", desc := "(Lcom/example/dido/dido/keys/KeyReader;I)[B" } : Jvm.MethodName) prog_9_method_7_code (3 : Nat) (Option.some (Jvm.ClassFile.FieldType.array Jvm.ClassFile.FieldType.byte)), Jvm.Cond.code ({ cls := "com/example/dido/dido/keys/KeyReader", name := "remaining", desc := "()I" } : Jvm.MethodName) prog_14_method_5_code (1 : Nat) (Option.some Jvm.ClassFile.FieldType.int), Jvm.Cond.code ({ cls := "com/example/dido/dido/keys/KeyReader", name := "take", desc := "(I)[B" } : Jvm.MethodName) prog_14_method_7_code (4 : Nat) (Option.some (Jvm.ClassFile.FieldType.array Jvm.ClassFile.FieldType.byte)), Jvm.Cond.code ({ cls := "java/util/Objects", name := "checkFromIndexSize", desc := "(III)I" } : Jvm.MethodName) jdk_31_method_19_code (3 : Nat) (Option.some Jvm.ClassFile.FieldType.int), Jvm.Cond.code ({ cls := "jdk/internal/util/Preconditions", name := "checkFromIndexSize", desc := "(IIILjava/util/function/BiFunction;)I" } : Jvm.MethodName) jdk_41_method_13_code (4 : Nat) (Option.some Jvm.ClassFile.FieldType.int), Jvm.Cond.code ({ cls := "java/util/Arrays", name := "copyOfRange", desc := "([BII)[B" } : Jvm.MethodName) jdk_65_method_132_code (3 : Nat) (Option.some (Jvm.ClassFile.FieldType.array Jvm.ClassFile.FieldType.byte)), Jvm.Cond.code ({ cls := "java/lang/Byte", name := "toUnsignedInt", desc := "(B)I" } : Jvm.MethodName) jdk_2056_method_24_code (1 : Nat) (Option.some Jvm.ClassFile.FieldType.int), Jvm.Cond.code ({ cls := "java/lang/Integer", name := "valueOf", desc := "(I)Ljava/lang/Integer;" } : Jvm.MethodName) jdk_33_method_22_code (1 : Nat) (Option.some (Jvm.ClassFile.FieldType.object "java/lang/Integer")), Jvm.Cond.code ({ cls := "java/lang/Integer", name := "intValue", desc := "()I" } : Jvm.MethodName) jdk_33_method_27_code (1 : Nat) (Option.some Jvm.ClassFile.FieldType.int), Jvm.Cond.code ({ cls := "java/lang/Integer", name := "<init>", desc := "(I)V" } : Jvm.MethodName) jdk_33_method_23_code (2 : Nat) (Option.none : Option Jvm.ClassFile.FieldType), Jvm.Cond.code ({ cls := "java/lang/Number", name := "<init>", desc := "()V" } : Jvm.MethodName) jdk_18_method_1_code (1 : Nat) (Option.none : Option Jvm.ClassFile.FieldType)]
set_option maxRecDepth 65536 in
theorem codes_eq : words1.filter isCode = codes1 := rfl
theorem w_codes : ∀ c ∈ words1.filter isCode, c.before args0 about1 = true := by
  rw [codes_eq]
  intro c hc
  simp only [codes1, List.mem_cons, List.not_mem_nil, or_false] at hc
  rcases hc with rfl | rfl | rfl | rfl | rfl | rfl | rfl | rfl | rfl | rfl | rfl | rfl | rfl | rfl | rfl | rfl | rfl | rfl | rfl | rfl | rfl | rfl | rfl
  · exact w_c0
  · exact w_c1
  · exact w_c2
  · exact w_c3
  · exact w_c4
  · exact w_c5
  · exact w_c6
  · exact w_c7
  · exact w_c8
  · exact w_c9
  · exact w_c10
  · exact w_c11
  · exact w_c12
  · exact w_c13
  · exact w_c14
  · exact w_c15
  · exact w_c16
  · exact w_c17
  · exact w_c18
  · exact w_c19
  · exact w_c20
  · exact w_c21
  · exact w_c22
set_option maxRecDepth 65536 in
theorem w_t1 : (words1.take 24).all (fun c => isCode c || c.before args0 about1) = true := by decide +kernel
set_option maxRecDepth 65536 in
theorem w_t2 : ((words1.drop 24).take 24).all (fun c => isCode c || c.before args0 about1) = true := by decide +kernel
set_option maxRecDepth 65536 in
theorem w_t3 : (((words1.drop 24).drop 24).take 24).all (fun c => isCode c || c.before args0 about1) = true := by decide +kernel
set_option maxRecDepth 65536 in
theorem w_t4 : ((((words1.drop 24).drop 24).drop 24).take 24).all (fun c => isCode c || c.before args0 about1) = true := by decide +kernel
set_option maxRecDepth 65536 in
theorem w_t5 : (((((words1.drop 24).drop 24).drop 24).drop 24).take 24).all (fun c => isCode c || c.before args0 about1) = true := by decide +kernel
set_option maxRecDepth 65536 in
theorem w_t6 : (((((words1.drop 24).drop 24).drop 24).drop 24).drop 24).all (fun c => isCode c || c.before args0 about1) = true := by decide +kernel
theorem w_tables : (allAtoms (Jvm.Cond.code x code maxLocals ret :: tables_1)).before args0 about1 = true := by
  rw [allAtoms_all]
  show words1.all (fun c => c.before args0 about1) = true
  refine all_split ?_ w_codes
  rw [← List.take_append_drop 24 words1, List.all_append, w_t1, ← List.take_append_drop 24 (words1.drop 24), List.all_append, w_t2, ← List.take_append_drop 24 ((words1.drop 24).drop 24), List.all_append, w_t3, ← List.take_append_drop 24 (((words1.drop 24).drop 24).drop 24), List.all_append, w_t4, ← List.take_append_drop 24 ((((words1.drop 24).drop 24).drop 24).drop 24), List.all_append, w_t5, w_t6]
  rfl
set_option maxRecDepth 65536 in
theorem w_rest : rest_1_c.before args0 about1 = true := by decide +kernel
set_option maxRecDepth 65536 in
theorem w_case : (Jvm.Cond.and given_1 narrow_1).before args0 about1 = true := by decide +kernel
theorem w_applies : (headSpec (Jvm.Cond.code x code maxLocals ret :: tables_1) room_1).applies x e0.platform about1 = true :=
  (Spec.applies_iff w_frames).mpr ⟨w_running, w_runnable, w_alone, w_named, w_hears, w_ripe, w_room, w_tables⟩
theorem atStart : AtStart classFile x code maxLocals ret World_1 tables_1 room_1 Calls_1 rest_1 Pre_1 launch0 p0 e0 about1 theMethod args0 below0 :=
  ⟨lists_1, trivial, launch0.admits_env _ _ _, launch0.least_env, fairChoices_fair.cas, fairChoices_fair.clock, w_frames, w_args, w_heap, w_applies, trivial, w_rest, w_case⟩
end start1
theorem witness_1 : WitnessClaimed_1 := ⟨start1.p0, start1.e0, start1.about1, start1.theMethod, start1.args0, start1.below0, start1.atStart⟩
end Jvm.Pilot.@@N@@
